import JvmDerived
import JvmDerived.Pilot.@@N@@Statement
import JvmDerived.Pilot.@@N@@Code
set_option linter.unusedVariables false
set_option linter.unusedSimpArgs false
namespace Jvm.Pilot.@@N@@
open Jvm Jvm.ClassFile Sem Op Lib Jvm.Free Jvm.Stand Jvm.LawKit Jvm.RoadKit Bundle Jvm.Pilot.@@N@@.Jvm.D
set_option maxRecDepth 65536
/-! the run still has to be led to its end from A: the goal of a walk, taken step by step -/
def own_Go (p : Program) (e : Env) (below : List Frame) (s : State) (Q : Option Value → Heap → List Loc → Prop) (C S : Nat) (A : State) : Prop :=
  ∃ s₂ o, Steps p.tables e below A s₂ ∧ s₂.status = .running ∧ Ended s₂ below o ∧ ∃ v L, o = .returned v ∧ Q v s₂.heap L ∧ FrameEnd s o s₂ L C S
section OwnA
variable {p : Program} {l : Launch} {e : Env} {R : Room} {s : State} {m : MethodId} {args : Array Value} {below : List Frame} {meth : Method} {c : Code} {T : State} {locs : List Loc} {cells slots : Nat} {Q : Option Value → Heap → List Loc → Prop} {C S : Nat}
theorem own_st {A B : State} (h : ∀ t, Steps p.tables e below B t → Steps p.tables e below A t) (g : own_Go p e below s Q C S B) : own_Go p e below s Q C S A := by
  obtain ⟨s₂, o, h1, r⟩ := g
  exact ⟨s₂, o, h _ h1, r⟩
theorem own_ss {A B : State} (h : Steps p.tables e below A B) (g : own_Go p e below s Q C S B) : own_Go p e below s Q C S A := own_st (fun _ k => h.trans k) g
theorem own_cut {P G : Prop} (a : P → G) (b : P) : G := a b
theorem own_leave (X : Stand p l e R s m args below meth c T locs cells slots) {v : Option Value} (hv : meth.sig.returnType = none → v = none) (hlk : meth.locks = false) (hQ : Q v T.heap locs) (hc : cells ≤ C) (hs : slots ≤ S) {A : State}
    (hr : ∀ fs, (∀ (f : JFrame) (acts : List Action), f.method = m → f.locked = none → f.entered = [] → (doReturn e (T.setTop f) acts v).1 = T.setFrames fs) → Steps p.tables e below A (T.setFrames fs)) : own_Go p e below s Q C S A := by
  obtain ⟨fs, hr', hrun, hended, hW, hsame⟩ := X.leave (v := v) hv hlk
  exact ⟨_, _, hr fs hr', hrun, hended, _, _, rfl, hQ, ⟨_, rfl⟩, hW, hsame.mono hc hs⟩
theorem own_retV (X : Stand p l e R s m args below meth c T locs cells slots) (hx : p.tables.exec = Jvm.exec) (hlk : meth.locks = false) (hret : meth.sig.returnType = none) {pc : Nat} {Ls : Array Slot} (hd : decode c.code pc = .ok (.return_, 1)) (hc : cells ≤ C) (hs : slots ≤ S) (hQ : Q none T.heap locs) :
    own_Go p e below s Q C S (T.setTop (mkF m pc Ls [])) := own_leave X (fun _ => rfl) hlk hQ hc hs fun _ hr => X.returnOut hx hret hd hr
theorem own_retI (X : Stand p l e R s m args below meth c T locs cells slots) (hx : p.tables.exec = Jvm.exec) (hlk : meth.locks = false) (hret : meth.sig.returnType = some .int) {pc : Nat} {Ls : Array Slot} {z : Int32} {rest : List Value} (hd : decode c.code pc = .ok (.ireturn, 1)) (hc : cells ≤ C) (hs : slots ≤ S) (hQ : Q (some (.int z)) T.heap locs) :
    own_Go p e below s Q C S (T.setTop (mkF m pc Ls (.int z :: rest))) := own_leave X (fun h => by rw [hret] at h; cases h) hlk hQ hc hs fun _ hr => retOut X hx hret rfl (Or.inl ⟨rfl, Or.inl rfl, _, rfl⟩) hd hr
theorem own_retJ (X : Stand p l e R s m args below meth c T locs cells slots) (hx : p.tables.exec = Jvm.exec) (hlk : meth.locks = false) (hret : meth.sig.returnType = some .long) {pc : Nat} {Ls : Array Slot} {z : Int64} {rest : List Value} (hd : decode c.code pc = .ok (.lreturn, 1)) (hc : cells ≤ C) (hs : slots ≤ S) (hQ : Q (some (.long z)) T.heap locs) :
    own_Go p e below s Q C S (T.setTop (mkF m pc Ls (.long z :: rest))) := own_leave X (fun h => by rw [hret] at h; cases h) hlk hQ hc hs fun _ hr => retOut X hx hret rfl (Or.inr (Or.inl ⟨rfl, rfl, _, rfl⟩)) hd hr
theorem own_retR (X : Stand p l e R s m args below meth c T locs cells slots) (hx : p.tables.exec = Jvm.exec) (hlk : meth.locks = false) {t : FieldType} (hret : meth.sig.returnType = some t) (ht : t.isReference = true) {pc : Nat} {Ls : Array Slot} {w : Value} {rest : List Value} (hn : narrow t w = w) (hw : w.isRef = true) (hd : decode c.code pc = .ok (.areturn, 1)) (hc : cells ≤ C) (hs : slots ≤ S) (hQ : Q (some w) T.heap locs) :
    own_Go p e below s Q C S (T.setTop (mkF m pc Ls (w :: rest))) := own_leave X (fun h => by rw [hret] at h; cases h) hlk hQ hc hs fun _ hr => retOut X hx hret hn (Or.inr (Or.inr (Or.inr (Or.inr ⟨rfl, ht, hw⟩)))) hd hr
theorem own_retN (X : Stand p l e R s m args below meth c T locs cells slots) (hx : p.tables.exec = Jvm.exec) (hlk : meth.locks = false) {t : FieldType} (hret : meth.sig.returnType = some t) (ht : t = .boolean ∨ t = .byte ∨ t = .char ∨ t = .short) {pc : Nat} {Ls : Array Slot} {z z' : Int32} {rest : List Value} (hz : nar t z = z') (hd : decode c.code pc = .ok (.ireturn, 1)) (hc : cells ≤ C) (hs : slots ≤ S) (hQ : Q (some (.int z')) T.heap locs) :
    own_Go p e below s Q C S (T.setTop (mkF m pc Ls (.int z :: rest))) := by
  subst hz
  exact own_leave X (fun h => by rw [hret] at h; cases h) hlk hQ hc hs fun _ hr => retN X hx hret ht hd hr
/-! arrays by the whole list of what they hold -/
variable {Z : State} {h h' : Heap} {a b : Addr} {ty : FieldType} {vs : List Value}
def own_A (Z : State) (h : Heap) (a : Addr) (ty : FieldType) (vs : List Value) : Prop := ∃ c : Cell, Arr Z h a c ty ∧ c.slots.toList = vs
theorem own_A.lt (F : own_A Z h a ty vs) : a < h.size := by obtain ⟨c, A, -⟩ := F; exact A.lt
theorem own_A.ext (F : own_A Z h a ty vs) (E : Ext h h') : own_A Z h' a ty vs := by obtain ⟨c, A, q⟩ := F; exact ⟨c, A.ext E, q⟩
theorem own_A.other {sl : Nat} {v : Value} (F : own_A Z h a ty vs) (W : Wr h h' b sl v) (q : a ≠ b) : own_A Z h' a ty vs := by obtain ⟨c, A, r⟩ := F; exact ⟨c, A.other W q, r⟩
theorem own_A.keep {ws : List Addr} (F : own_A Z h a ty vs) (K : Keep h h' ws) (q : a ∉ ws) : own_A Z h' a ty vs := by obtain ⟨c, A, r⟩ := F; exact ⟨c, ⟨K.2.1 a c A.1 q, A.2⟩, r⟩
theorem own_A.set {i : Nat} {v : Value} (F : own_A Z h a ty vs) (W : Wr h h' a i v) : own_A Z h' a ty (vs.set i v) := by
  obtain ⟨c, A, rfl⟩ := F
  exact ⟨_, A.same W, by simp [Cell.setSlot]⟩
theorem own_ix {j : Int32} {i : Nat} (hj : j.toInt = (i : Int)) : ¬ j < 0 ∧ j.toNatClampNeg = i := by
  refine ⟨?_, ?_⟩
  · rw [Int32.lt_iff_toInt_lt, hj]
    show ¬ ((i : Int) < 0)
    omega
  · have h1 : j.toNatClampNeg = j.toInt.toNat := rfl
    rw [h1, hj]; rfl
theorem own_in {cl : Cell} {j : Int32} {i : Nat} {v : Value} (hj : j.toInt = (i : Int)) (hv : cl.slots.toList[i]? = some v) : ¬ (j < 0 ∨ cl.slots.size ≤ j.toNatClampNeg) ∧ cl.slots[j.toNatClampNeg]? = some v := by
  obtain ⟨n0, n1⟩ := own_ix hj
  rw [n1]
  rw [Array.getElem?_toList] at hv
  refine ⟨?_, hv⟩
  have h2 := (Array.getElem?_eq_some_iff.mp hv).1
  rintro (q | q)
  · exact n0 q
  · omega
theorem own_ldI (X : Stand p l e R s m args below meth c T locs cells slots) (hx : p.tables.exec = Jvm.exec) (hZ : Z.Warmed39 s.vm) (eT : T.heap = h) (A : own_A Z h a .int vs) {j : Int32} {i : Nat} {v : Value} (hj : j.toInt = (i : Int)) (hv : vs[i]? = some v) {g : JFrame} (hg : g.method = m) {rest : List Value} (hs : g.stack = .int j :: .ref a :: rest) (hd : decode c.code g.pc = .ok (.iaload, 1)) {t : State}
    (k : Steps p.tables e below (T.setTop { g with pc := g.pc + 1, stack := v :: rest }) t) : Steps p.tables e below (T.setTop g) t := by
  obtain ⟨cl, A, rfl⟩ := A
  exact X.iaload hx (by rw [eT]; exact A.1) (State.isArrayOf_alike hZ.alike A.2.1) A.2.2 (own_in hj hv).1 (own_in hj hv).2 hg hs hd _ k
theorem own_ldJ (X : Stand p l e R s m args below meth c T locs cells slots) (hx : p.tables.exec = Jvm.exec) (hZ : Z.Warmed39 s.vm) (eT : T.heap = h) (A : own_A Z h a .long vs) {j : Int32} {i : Nat} {v : Value} (hj : j.toInt = (i : Int)) (hv : vs[i]? = some v) {g : JFrame} (hg : g.method = m) {rest : List Value} (hs : g.stack = .int j :: .ref a :: rest) (hd : decode c.code g.pc = .ok (.laload, 1)) {t : State}
    (k : Steps p.tables e below (T.setTop { g with pc := g.pc + 1, stack := v :: rest }) t) : Steps p.tables e below (T.setTop g) t := by
  obtain ⟨cl, A, rfl⟩ := A
  exact X.laload hx (by rw [eT]; exact A.1) (State.isArrayOf_alike hZ.alike A.2.1) A.2.2 (own_in hj hv).1 (own_in hj hv).2 hg hs hd _ k
theorem own_ldB (X : Stand p l e R s m args below meth c T locs cells slots) (hx : p.tables.exec = Jvm.exec) (hZ : Z.Warmed39 s.vm) (eT : T.heap = h) (A : own_A Z h a .byte vs) {j : Int32} {i : Nat} {v : Value} (hj : j.toInt = (i : Int)) (hv : vs[i]? = some v) {g : JFrame} (hg : g.method = m) {rest : List Value} (hs : g.stack = .int j :: .ref a :: rest) (hd : decode c.code g.pc = .ok (.baload, 1)) {t : State}
    (k : Steps p.tables e below (T.setTop { g with pc := g.pc + 1, stack := v :: rest }) t) : Steps p.tables e below (T.setTop g) t := by
  obtain ⟨cl, A, rfl⟩ := A
  exact X.baloadBytes hx (by rw [eT]; exact A.1) (State.isArrayOf_alike hZ.alike A.2.1) A.2.2 (own_in hj hv).1 (own_in hj hv).2 hg hs hd _ k
theorem own_ldZ (X : Stand p l e R s m args below meth c T locs cells slots) (hx : p.tables.exec = Jvm.exec) (hZ : Z.Warmed39 s.vm) (eT : T.heap = h) (A : own_A Z h a .boolean vs) {j : Int32} {i : Nat} {v : Value} (hj : j.toInt = (i : Int)) (hv : vs[i]? = some v) {g : JFrame} (hg : g.method = m) {rest : List Value} (hs : g.stack = .int j :: .ref a :: rest) (hd : decode c.code g.pc = .ok (.baload, 1)) {t : State}
    (k : Steps p.tables e below (T.setTop { g with pc := g.pc + 1, stack := v :: rest }) t) : Steps p.tables e below (T.setTop g) t := by
  obtain ⟨cl, A, rfl⟩ := A
  exact X.baloadBooleans hx (by rw [eT]; exact A.1) (State.isArrayOf_alike hZ.alike A.2.1) A.2.2 (own_in hj hv).1 (own_in hj hv).2 hg hs hd _ k
theorem own_ldS (X : Stand p l e R s m args below meth c T locs cells slots) (hx : p.tables.exec = Jvm.exec) (hZ : Z.Warmed39 s.vm) (eT : T.heap = h) (A : own_A Z h a .short vs) {j : Int32} {i : Nat} {v : Value} (hj : j.toInt = (i : Int)) (hv : vs[i]? = some v) {g : JFrame} (hg : g.method = m) {rest : List Value} (hs : g.stack = .int j :: .ref a :: rest) (hd : decode c.code g.pc = .ok (.saload, 1)) {t : State}
    (k : Steps p.tables e below (T.setTop { g with pc := g.pc + 1, stack := v :: rest }) t) : Steps p.tables e below (T.setTop g) t := by
  obtain ⟨cl, A, rfl⟩ := A
  exact X.saload hx (by rw [eT]; exact A.1) (State.isArrayOf_alike hZ.alike A.2.1) A.2.2 (own_in hj hv).1 (own_in hj hv).2 hg hs hd _ k
theorem own_ldC (X : Stand p l e R s m args below meth c T locs cells slots) (hx : p.tables.exec = Jvm.exec) (hZ : Z.Warmed39 s.vm) (eT : T.heap = h) (A : own_A Z h a .char vs) {j : Int32} {i : Nat} {v : Value} (hj : j.toInt = (i : Int)) (hv : vs[i]? = some v) {g : JFrame} (hg : g.method = m) {rest : List Value} (hs : g.stack = .int j :: .ref a :: rest) (hd : decode c.code g.pc = .ok (.caload, 1)) {t : State}
    (k : Steps p.tables e below (T.setTop { g with pc := g.pc + 1, stack := v :: rest }) t) : Steps p.tables e below (T.setTop g) t := by
  obtain ⟨cl, A, rfl⟩ := A
  exact X.caload hx (by rw [eT]; exact A.1) (State.isArrayOf_alike hZ.alike A.2.1) A.2.2 (own_in hj hv).1 (own_in hj hv).2 hg hs hd _ k
theorem own_ldR (X : Stand p l e R s m args below meth c T locs cells slots) (hx : p.tables.exec = Jvm.exec) (hZ : Z.Warmed39 s.vm) (eT : T.heap = h) (A : own_A Z h a ty vs) (hty : ty.isReference = true) {j : Int32} {i : Nat} {v : Value} (hj : j.toInt = (i : Int)) (hv : vs[i]? = some v) {g : JFrame} (hg : g.method = m) {rest : List Value} (hs : g.stack = .int j :: .ref a :: rest) (hd : decode c.code g.pc = .ok (.aaload, 1)) {t : State}
    (k : Steps p.tables e below (T.setTop { g with pc := g.pc + 1, stack := v :: rest }) t) : Steps p.tables e below (T.setTop g) t := by
  obtain ⟨cl, A, rfl⟩ := A
  exact X.aaload hx (by rw [eT]; exact A.1) (State.isArrayOf_alike hZ.alike A.2.1) hty A.2.2 (own_in hj hv).1 (own_in hj hv).2 hg hs hd _ k
theorem own_stI (X : Stand p l e R s m args below meth c T locs cells slots) (hx : p.tables.exec = Jvm.exec) (hZ : Z.Warmed39 s.vm) (eT : T.heap = h) (A : own_A Z h a .int vs) {j x : Int32} {i : Nat} (hj : j.toInt = (i : Int)) (hi : i < vs.length) {g : JFrame} (hg : g.method = m) {rest : List Value} (hs : g.stack = .int x :: .int j :: .ref a :: rest) (hd : decode c.code g.pc = .ok (.iastore, 1)) :
    ∃ T' h', Stand p l e R s m args below meth c T' (locs ++ [⟨a, i⟩]) cells slots ∧ T'.heap = h' ∧ Wr h h' a i (.int x) ∧ own_A Z h' a .int (vs.set i (.int x)) ∧ ∀ target, Steps p.tables e below (T'.setTop { g with pc := g.pc + 1, stack := rest }) target → Steps p.tables e below (T.setTop g) target := by
  obtain ⟨cl, A, rfl⟩ := A
  have hin := (own_in (cl := cl) (v := cl.slots.toList[i]) hj (List.getElem?_eq_getElem hi)).1
  obtain ⟨T', h', X', e', W', st⟩ := stI X hx hZ eT A (j := j) (x := x) hin hg hs hd
  rw [(own_ix hj).2] at X' W'
  exact ⟨T', h', X', e', W', own_A.set ⟨cl, A, rfl⟩ W', st⟩
theorem own_stJ (X : Stand p l e R s m args below meth c T locs cells slots) (hx : p.tables.exec = Jvm.exec) (hZ : Z.Warmed39 s.vm) (eT : T.heap = h) (A : own_A Z h a .long vs) {j : Int32} {x : Int64} {i : Nat} (hj : j.toInt = (i : Int)) (hi : i < vs.length) {g : JFrame} (hg : g.method = m) {rest : List Value} (hs : g.stack = .long x :: .int j :: .ref a :: rest) (hd : decode c.code g.pc = .ok (.lastore, 1)) :
    ∃ T' h', Stand p l e R s m args below meth c T' (locs ++ [⟨a, i⟩]) cells slots ∧ T'.heap = h' ∧ Wr h h' a i (.long x) ∧ own_A Z h' a .long (vs.set i (.long x)) ∧ ∀ target, Steps p.tables e below (T'.setTop { g with pc := g.pc + 1, stack := rest }) target → Steps p.tables e below (T.setTop g) target := by
  obtain ⟨cl, A, rfl⟩ := A
  have hin := (own_in (cl := cl) (v := cl.slots.toList[i]) hj (List.getElem?_eq_getElem hi)).1
  obtain ⟨T', h', X', e', W', st⟩ := stJ X hx hZ eT A (j := j) (x := x) hin hg hs hd
  rw [(own_ix hj).2] at X' W'
  exact ⟨T', h', X', e', W', own_A.set ⟨cl, A, rfl⟩ W', st⟩
theorem own_stB (X : Stand p l e R s m args below meth c T locs cells slots) (hx : p.tables.exec = Jvm.exec) (hZ : Z.Warmed39 s.vm) (eT : T.heap = h) (A : own_A Z h a .byte vs) {j x : Int32} {i : Nat} (hj : j.toInt = (i : Int)) (hi : i < vs.length) {g : JFrame} (hg : g.method = m) {rest : List Value} (hs : g.stack = .int x :: .int j :: .ref a :: rest) (hd : decode c.code g.pc = .ok (.bastore, 1)) :
    ∃ T' h', Stand p l e R s m args below meth c T' (locs ++ [⟨a, i⟩]) cells slots ∧ T'.heap = h' ∧ Wr h h' a i (.int x.toInt8.toInt32) ∧ own_A Z h' a .byte (vs.set i (.int x.toInt8.toInt32)) ∧ ∀ target, Steps p.tables e below (T'.setTop { g with pc := g.pc + 1, stack := rest }) target → Steps p.tables e below (T.setTop g) target := by
  obtain ⟨cl, A, rfl⟩ := A
  have hin := (own_in (cl := cl) (v := cl.slots.toList[i]) hj (List.getElem?_eq_getElem hi)).1
  obtain ⟨T', h', X', e', W', st⟩ := stB X hx hZ eT A (j := j) (x := x) hin hg hs hd
  rw [(own_ix hj).2] at X' W'
  exact ⟨T', h', X', e', W', own_A.set ⟨cl, A, rfl⟩ W', st⟩
theorem own_stS (X : Stand p l e R s m args below meth c T locs cells slots) (hx : p.tables.exec = Jvm.exec) (hZ : Z.Warmed39 s.vm) (eT : T.heap = h) (A : own_A Z h a .short vs) {j x : Int32} {i : Nat} (hj : j.toInt = (i : Int)) (hi : i < vs.length) {g : JFrame} (hg : g.method = m) {rest : List Value} (hs : g.stack = .int x :: .int j :: .ref a :: rest) (hd : decode c.code g.pc = .ok (.sastore, 1)) :
    ∃ T' h', Stand p l e R s m args below meth c T' (locs ++ [⟨a, i⟩]) cells slots ∧ T'.heap = h' ∧ Wr h h' a i (.int x.toInt16.toInt32) ∧ own_A Z h' a .short (vs.set i (.int x.toInt16.toInt32)) ∧ ∀ target, Steps p.tables e below (T'.setTop { g with pc := g.pc + 1, stack := rest }) target → Steps p.tables e below (T.setTop g) target := by
  obtain ⟨cl, A, rfl⟩ := A
  have hin := (own_in (cl := cl) (v := cl.slots.toList[i]) hj (List.getElem?_eq_getElem hi)).1
  obtain ⟨T', h', X', e', W', st⟩ := stS X hx hZ eT A (j := j) (x := x) hin hg hs hd
  rw [(own_ix hj).2] at X' W'
  exact ⟨T', h', X', e', W', own_A.set ⟨cl, A, rfl⟩ W', st⟩
theorem own_stC (X : Stand p l e R s m args below meth c T locs cells slots) (hx : p.tables.exec = Jvm.exec) (hZ : Z.Warmed39 s.vm) (eT : T.heap = h) (A : own_A Z h a .char vs) {j x : Int32} {i : Nat} (hj : j.toInt = (i : Int)) (hi : i < vs.length) {g : JFrame} (hg : g.method = m) {rest : List Value} (hs : g.stack = .int x :: .int j :: .ref a :: rest) (hd : decode c.code g.pc = .ok (.castore, 1)) :
    ∃ T' h', Stand p l e R s m args below meth c T' (locs ++ [⟨a, i⟩]) cells slots ∧ T'.heap = h' ∧ Wr h h' a i (.int x.toUInt32.toUInt16.toUInt32.toInt32) ∧ own_A Z h' a .char (vs.set i (.int x.toUInt32.toUInt16.toUInt32.toInt32)) ∧ ∀ target, Steps p.tables e below (T'.setTop { g with pc := g.pc + 1, stack := rest }) target → Steps p.tables e below (T.setTop g) target := by
  obtain ⟨cl, A, rfl⟩ := A
  have hin := (own_in (cl := cl) (v := cl.slots.toList[i]) hj (List.getElem?_eq_getElem hi)).1
  obtain ⟨T', h', X', e', W', st⟩ := stC X hx hZ eT A (j := j) (x := x) hin hg hs hd
  rw [(own_ix hj).2] at X' W'
  exact ⟨T', h', X', e', W', own_A.set ⟨cl, A, rfl⟩ W', st⟩
theorem own_newP {a0 : Array Value} (X : Stand p l e R s m args below meth c T locs cells slots) (hx : p.tables.exec = Jvm.exec) (hZ : Z.Warmed39 s.vm) {aty : ArrayType} (w : (Cond.arrayClass (newarray.typeOf aty)).before a0 Z = true) (eT : T.heap = h) {g : JFrame} (hg : g.method = m) (hd : decode c.code g.pc = .ok (.newarray aty, 2)) {n : Int32} {rest : List Value} (hs : g.stack = .int n :: rest)
    {k cap : Nat} (hk : n.toInt = (k : Int)) (hcap : k ≤ cap) (hb : cap * 8 ≤ 536870912) (hc : cells + 1 ≤ R.cells) (hl : slots + cap ≤ R.slots) {ad : String} (had : "[" ++ (newarray.typeOf aty).toString = ad) :
    ∃ T' h', Stand p l e R s m args below meth c T' locs (cells + 1) (slots + cap) ∧ T'.heap = h' ∧ Ext h h' ∧ own_A Z h' h.size (newarray.typeOf aty) (List.replicate k (defaultValue (newarray.typeOf aty))) ∧ Exa Z h' h.size ad ∧
      ∀ target, Steps p.tables e below (T'.setTop { g with pc := g.pc + 2, stack := .ref h.size :: rest }) target → Steps p.tables e below (T.setTop g) target := by
  obtain ⟨n0, n1⟩ := own_ix hk
  obtain ⟨T', h', cA, X', e', E', A', x', st⟩ := newPE X hx hZ w eT hg hd hs n0 (cap := cap) (by rw [n1]; exact hcap) hb hc hl had
  exact ⟨T', h', X', e', E', ⟨_, A', by simp [newA, n1]⟩, x', st⟩
theorem own_clone {a0 : Array Value} (X : Stand p l e R s m args below meth c T locs cells slots) (hx : p.tables.exec = Jvm.exec) (hZ : Z.Warmed39 s.vm) {own ad : String} {index : Nat} (hown : s.vm.findClass own = some m.cls)
    (w1 : (Cond.methodLink own index ⟨ad, "clone", "()Ljava/lang/Object;"⟩).before a0 Z = true) (w2 : (Cond.sameMethod ad "java/lang/Object" "clone" "()Ljava/lang/Object;").before a0 Z = true) (w3 : (Cond.native ⟨"java/lang/Object", "clone", "()Ljava/lang/Object;"⟩).before a0 Z = true)
    (w4 : (Cond.instanceMethod ⟨"java/lang/Object", "clone", "()Ljava/lang/Object;"⟩).before a0 Z = true) (w5 : (Cond.selects ad ⟨ad, "clone", "()Ljava/lang/Object;"⟩ ⟨"java/lang/Object", "clone", "()Ljava/lang/Object;"⟩).before a0 Z = true) (w6 : (Cond.castable ad "java/lang/Cloneable").before a0 Z = true)
    (eT : T.heap = h) (A : own_A Z h a ty vs) (E : Exa Z h a ad) (hf : ∀ v ∈ vs, fits ty v = true) {g : JFrame} (hg : g.method = m) (hsize : g.locals.size = c.maxLocals) {rest : List Value} (hst : g.stack = .ref a :: rest) (hd : decode c.code g.pc = .ok (.invokevirtual index, 3))
    (hfr : 1 ≤ R.frames) {W cap : Nat} (hW : 2 * g.monitorRoom + (rest.map fun v => v.category).sum ≤ W) (hl : W + 14 ≤ R.locals) (hcap : vs.length ≤ cap) (hc : cells + 1 ≤ R.cells) (hsl : slots + cap ≤ R.slots) :
    ∃ T' h', Stand p l e R s m args below meth c T' locs (cells + 1) (slots + cap) ∧ T'.heap = h' ∧ Ext h h' ∧ own_A Z h' h.size ty vs ∧ Exa Z h' h.size ad ∧
      ∀ target, Steps p.tables e below (T'.setTop { g with pc := g.pc + 3, stack := .ref h.size :: rest }) target → Steps p.tables e below (T.setTop g) target := by
  obtain ⟨cl, A, rfl⟩ := A
  have FC : FitC Z cl := fitC_of A fun i hi v hv => hf v (by
    rw [← Array.getElem?_toList] at hv
    exact List.mem_of_getElem? hv)
  obtain ⟨T', h', X', e', ex, A', E', st⟩ := cloneA X hx hZ hown w1 w2 w3 w4 w5 w6 eT A E FC hg hsize hst hd hfr hW hl (by simpa using hcap) hc hsl
  exact ⟨T', h', X', e', ex, ⟨_, A', rfl⟩, E', st⟩
def own_Ov (C : String) (Z : State) (h : Heap) (a : Addr) : Prop := ∃ c : Cell, h[a]? = some c ∧ Ovr Z c.cls C
theorem own_Ov.lt {C : String} (F : own_Ov C Z h a) : a < h.size := by obtain ⟨c, q, -⟩ := F; exact (Array.getElem?_eq_some_iff.mp q).1
theorem own_Ov.ext {C : String} (F : own_Ov C Z h a) (E : Ext h h') : own_Ov C Z h' a := by obtain ⟨c, q, r⟩ := F; exact ⟨c, E.2 _ _ q, r⟩
theorem own_Ov.other {C : String} {sl : Nat} {v : Value} (F : own_Ov C Z h a) (W : Wr h h' b sl v) (ne : a ≠ b) : own_Ov C Z h' a := by
  obtain ⟨c, q, r⟩ := F
  obtain ⟨c', q', -, -, -, e, -⟩ := wr_at W q
  exact ⟨c', q', by rw [e ne]; exact r⟩
theorem own_Ov.keep {C : String} {ws : List Addr} (F : own_Ov C Z h a) (K : Keep h h' ws) (ne : a ∉ ws) : own_Ov C Z h' a := by obtain ⟨c, q, r⟩ := F; exact ⟨c, K.2.1 _ _ q ne, r⟩
theorem own_newR {a0 : Array Value} (X : Stand p l e R s m args below meth c T locs cells slots) (hx : p.tables.exec = Jvm.exec) (hZ : Z.Warmed39 s.vm) {own C : String} {index : Nat} (hown : s.vm.findClass own = some m.cls) (w1 : (Cond.classLink own index C).before a0 Z = true) (w2 : (Cond.arrayOver (.object C)).before a0 Z = true) (eT : T.heap = h) {g : JFrame} (hg : g.method = m) (hd : decode c.code g.pc = .ok (.anewarray index, 3)) {n : Int32} {rest : List Value} (hs : g.stack = .int n :: rest)
    {k cap : Nat} (hk : n.toInt = (k : Int)) (hcap : k ≤ cap) (hb : cap * 8 ≤ 536870912) (hc : cells + 1 ≤ R.cells) (hl : slots + cap ≤ R.slots) {ad : String} (had : "[" ++ (FieldType.object C).toString = ad) :
    ∃ T' h', Stand p l e R s m args below meth c T' locs (cells + 1) (slots + cap) ∧ T'.heap = h' ∧ Ext h h' ∧ own_A Z h' h.size (.object C) (List.replicate k .null) ∧ Exa Z h' h.size ad ∧ own_Ov C Z h' h.size ∧
      ∀ target, Steps p.tables e below (T'.setTop { g with pc := g.pc + 3, stack := .ref h.size :: rest }) target → Steps p.tables e below (T.setTop g) target := by
  obtain ⟨n0, n1⟩ := own_ix hk
  obtain ⟨T', h', cA, X', e', E', A', x', O', st⟩ := newRE X hx hZ hown w1 w2 eT hg hd hs n0 (cap := cap) (by rw [n1]; exact hcap) hb hc hl had
  exact ⟨T', h', X', e', E', ⟨_, A', by simp [newA, n1, defaultValue]⟩, x', ⟨_, A'.1, O'⟩, st⟩
theorem own_stR {C : String} (X : Stand p l e R s m args below meth c T locs cells slots) (hx : p.tables.exec = Jvm.exec) (hZ : Z.Warmed39 s.vm) (eT : T.heap = h) (A : own_A Z h a (.object C) vs) (O : own_Ov C Z h a) {y : Addr} (I : Ins Z h y C true) {j : Int32} {i : Nat} (hj : j.toInt = (i : Int)) (hi : i < vs.length) {g : JFrame} (hg : g.method = m) {rest : List Value} (hs : g.stack = .ref y :: .int j :: .ref a :: rest) (hd : decode c.code g.pc = .ok (.aastore, 1)) :
    ∃ T' h', Stand p l e R s m args below meth c T' (locs ++ [⟨a, i⟩]) cells slots ∧ T'.heap = h' ∧ Wr h h' a i (.ref y) ∧ own_A Z h' a (.object C) (vs.set i (.ref y)) ∧ ∀ target, Steps p.tables e below (T'.setTop { g with pc := g.pc + 1, stack := rest }) target → Steps p.tables e below (T.setTop g) target := by
  obtain ⟨cl, A, rfl⟩ := A
  obtain ⟨c2, q, r⟩ := O
  cases A.1.symm.trans q
  have hin := (own_in (cl := cl) (v := cl.slots.toList[i]) hj (List.getElem?_eq_getElem hi)).1
  obtain ⟨T', h', X', e', W', st⟩ := stR X hx hZ eT A (j := j) (v := .ref y) hin rfl (Sto.of A r I) hg hs hd
  rw [(own_ix hj).2] at X' W'
  exact ⟨T', h', X', e', W', own_A.set ⟨cl, A, rfl⟩ W', st⟩
theorem own_len (X : Stand p l e R s m args below meth c T locs cells slots) (hx : p.tables.exec = Jvm.exec) (hZ : Z.Warmed39 s.vm) (eT : T.heap = h) (A : own_A Z h a ty vs) {n : Int32} (hn : n.toInt = (vs.length : Int)) {g : JFrame} (hg : g.method = m) {rest : List Value} (hs : g.stack = .ref a :: rest) (hd : decode c.code g.pc = .ok (.arraylength, 1)) {t : State}
    (k : Steps p.tables e below (T.setTop { g with pc := g.pc + 1, stack := .int n :: rest }) t) : Steps p.tables e below (T.setTop g) t := by
  obtain ⟨cl, A, rfl⟩ := A
  have h1 := n.toInt_lt
  have h2 : cl.slots.size.toInt32 = n := by
    refine Int32.toInt_inj.mp ?_
    rw [hn]
    have h3 : cl.slots.toList.length = cl.slots.size := by simp
    rw [h3] at hn ⊢
    exact len_toInt (by omega)
  refine X.arraylength hx (by rw [eT]; exact A.1) (State.isArrayOf_alike hZ.alike A.2.1) hg hs hd _ ?_
  rw [h2]; exact k
theorem own_lrem (X : Stand p l e R s m args below meth c T locs cells slots) (hx : p.tables.exec = Jvm.exec) {g : JFrame} (hg : g.method = m) {x y : Int64} {rest : List Value} (hd : decode c.code g.pc = .ok (.lrem, 1)) (hs : g.stack = .long y :: .long x :: rest) (hy : y ≠ 0) {t : State}
    (k : Steps p.tables e below (T.setTop { g with pc := g.pc + 1, stack := .long (x % y) :: rest }) t) : Steps p.tables e below (T.setTop g) t := XS.lrem X.here hx hg hd hs hy (by rw [lrem_mod]; exact k)
end OwnA
theorem own_Sta.keep {Z : State} {h h' : Heap} {ws : List Addr} {C n d : String} {v : Value} (F : Sta Z h C n d v) (K : Keep h h' ws) (q : ∀ st ∈ ws, ∀ cell : Cell, h[st]? = some cell → cell.vm.isStatics = false) : Sta Z h' C n d v := by
  obtain ⟨cf, i, k, f, st, cell, h1, h2, h3, h4, h5, h6, h7⟩ := F
  refine ⟨cf, i, k, f, st, cell, h1, h2, h3, h4, K.2.1 st cell h5 fun hm => ?_, h6, h7⟩
  rw [q st hm cell h5] at h6
  cases h6
theorem own_z_eq_t {c : Prop} [Decidable c] (h : ¬ c) : ifCond.holds .eq (if c then (1 : Int32) else 0) = true := by rw [if_neg h]; rfl
theorem own_z_eq_f {c : Prop} [Decidable c] (h : c) : ifCond.holds .eq (if c then (1 : Int32) else 0) = false := by rw [if_pos h]; rfl
theorem own_z_ne_t {c : Prop} [Decidable c] (h : c) : ifCond.holds .ne (if c then (1 : Int32) else 0) = true := by rw [if_pos h]; rfl
theorem own_z_ne_f {c : Prop} [Decidable c] (h : ¬ c) : ifCond.holds .ne (if c then (1 : Int32) else 0) = false := by rw [if_neg h]; rfl
theorem own_z_nar {c : Prop} [Decidable c] : nar .boolean (if c then (1 : Int32) else 0) = if c then (1 : Int32) else 0 := by split <;> rfl
/-- two slots that hold nothing or a long, whose value nobody reads again -/
def own_Two (a b : Slot) : Prop := (a = .unset ∧ b = .unset) ∨ ∃ z, a = .val (.long z) ∧ b = .second
theorem own_plainE {Z : State} {h : Heap} {a : Addr} {C : String} (F : Exa Z h a C) : ∀ cell : Cell, h[a]? = some cell → cell.vm.isStatics = false := fun cell hc => by
  obtain ⟨c, k, h1, -, -, h4, -⟩ := F
  cases h1.symm.trans hc
  exact h4
theorem own_plainA {Z : State} {h : Heap} {a : Addr} {ty : FieldType} {vs : List Value} (F : own_A Z h a ty vs) : ∀ cell : Cell, h[a]? = some cell → cell.vm.isStatics = false := fun cell hc => by
  obtain ⟨c, A, -⟩ := F
  cases A.1.symm.trans hc
  exact A.plain
theorem own_pop2 {tb : Tables} [Ours tb] {e : Env} {below : List Frame} {T target : State} {m : MethodId} {c : Code} {g : JFrame} (h : At T m c below) (hx : tb.exec = Jvm.exec) (hg : g.method = m) {x : Int64} {rest : List Value} (hd : decode c.code g.pc = .ok (.pop2, 1)) (hs : g.stack = .long x :: rest)
    (hr : Steps tb e below (T.setTop { g with pc := g.pc + 1, stack := rest }) target) : Steps tb e below (T.setTop g) target := by
  subst hg
  jvm_step h [h.top, hx, hd, hs, Value.category]
  exact hr
theorem own_min1 {i : Int32} {n : Nat} (h0 : 0 ≤ i.toInt) (h1 : i.toInt < (n : Int)) (hn : n < 1000) : (i + 1).toInt.toNat = i.toInt.toNat + 1 ∧ (i + 1).toInt = i.toInt + 1 := by
  have h2 := c_iadd i 1
  have h3 := rng32 (i + 1)
  have h4 : (1 : Int32).toInt = 1 := rfl
  omega
theorem own_ltN {i : Int32} {n : Nat} (hn : n < 1000) : i < n.toInt32 ↔ i.toInt < (n : Int) := by
  rw [Int32.lt_iff_toInt_lt, len_toInt (by omega)]
theorem own_getI {bs : List Int32} {i : Nat} (h : i < bs.length) : (bs.map Value.int)[i]? = some (.int (bs.getD i 0)) := by
  simp [List.getElem?_map, h]
theorem own_nat {i : Int32} (h : 0 ≤ i.toInt) : i.toInt = ((i.toInt.toNat : Nat) : Int) := by omega
theorem w_0 {a0 : Array Value} {Z : State} (hw : ∀ d ∈ tables_1, d.before a0 Z = true) : (Jvm.Cond.constant "com/example/bucketd/bucketd/quota/QuotaReportRemainingPinLaw" (30 : Nat) (2147483647 : Int32)).before a0 Z = true := hw _ (List.mem_of_getElem? (i := 0) rfl)
theorem w_1 {a0 : Array Value} {Z : State} (hw : ∀ d ∈ tables_1, d.before a0 Z = true) : (Jvm.Cond.methodLink "com/example/bucketd/bucketd/quota/QuotaReportRemainingPinLaw" (31 : Nat) ({ cls := "com/example/bucketd/bucketd/quota/QuotaReportRemainingPinLaw", name := "pick", desc := "(I)Lcom/example/bucketd/bucketd/quota/BucketKind;" } : Jvm.MethodName)).before a0 Z = true := hw _ (List.mem_of_getElem? (i := 1) rfl)
theorem w_2 {a0 : Array Value} {Z : State} (hw : ∀ d ∈ tables_1, d.before a0 Z = true) : (Jvm.Cond.static ({ cls := "com/example/bucketd/bucketd/quota/QuotaReportRemainingPinLaw", name := "pick", desc := "(I)Lcom/example/bucketd/bucketd/quota/BucketKind;" } : Jvm.MethodName)).before a0 Z = true := hw _ (List.mem_of_getElem? (i := 2) rfl)
theorem w_3 {a0 : Array Value} {Z : State} (hw : ∀ d ∈ tables_1, d.before a0 Z = true) : (Jvm.Cond.initialized "com/example/bucketd/bucketd/quota/QuotaReportRemainingPinLaw").before a0 Z = true := hw _ (List.mem_of_getElem? (i := 3) rfl)
theorem w_4 {a0 : Array Value} {Z : State} (hw : ∀ d ∈ tables_1, d.before a0 Z = true) : (Jvm.Cond.code ({ cls := "com/example/bucketd/bucketd/quota/QuotaReportRemainingPinLaw", name := "pick", desc := "(I)Lcom/example/bucketd/bucketd/quota/BucketKind;" } : Jvm.MethodName) method_2_code (1 : Nat) (Option.some (Jvm.ClassFile.FieldType.object "com/example/bucketd/bucketd/quota/BucketKind"))).before a0 Z = true := hw _ (List.mem_of_getElem? (i := 4) rfl)
theorem w_5 {a0 : Array Value} {Z : State} (hw : ∀ d ∈ tables_1, d.before a0 Z = true) : (Jvm.Cond.fieldLink "com/example/bucketd/bucketd/quota/QuotaReportRemainingPinLaw" (7 : Nat) "com/example/bucketd/bucketd/quota/BucketKind" "TOKENS_PER_DAY" "Lcom/example/bucketd/bucketd/quota/BucketKind;").before a0 Z = true := hw _ (List.mem_of_getElem? (i := 5) rfl)
theorem w_6 {a0 : Array Value} {Z : State} (hw : ∀ d ∈ tables_1, d.before a0 Z = true) : (Jvm.Cond.initialized "com/example/bucketd/bucketd/quota/BucketKind").before a0 Z = true := hw _ (List.mem_of_getElem? (i := 6) rfl)
theorem w_7 {a0 : Array Value} {Z : State} (hw : ∀ d ∈ tables_1, d.before a0 Z = true) : (Jvm.Cond.laysStatic "com/example/bucketd/bucketd/quota/BucketKind" "TOKENS_PER_DAY" "Lcom/example/bucketd/bucketd/quota/BucketKind;").before a0 Z = true := hw _ (List.mem_of_getElem? (i := 7) rfl)
theorem w_8 {a0 : Array Value} {Z : State} (hw : ∀ d ∈ tables_1, d.before a0 Z = true) : (Jvm.Cond.fieldLink "com/example/bucketd/bucketd/quota/QuotaReportRemainingPinLaw" (19 : Nat) "com/example/bucketd/bucketd/quota/BucketKind" "CONCURRENT_REQUESTS" "Lcom/example/bucketd/bucketd/quota/BucketKind;").before a0 Z = true := hw _ (List.mem_of_getElem? (i := 8) rfl)
theorem w_9 {a0 : Array Value} {Z : State} (hw : ∀ d ∈ tables_1, d.before a0 Z = true) : (Jvm.Cond.laysStatic "com/example/bucketd/bucketd/quota/BucketKind" "CONCURRENT_REQUESTS" "Lcom/example/bucketd/bucketd/quota/BucketKind;").before a0 Z = true := hw _ (List.mem_of_getElem? (i := 9) rfl)
theorem w_10 {a0 : Array Value} {Z : State} (hw : ∀ d ∈ tables_1, d.before a0 Z = true) : (Jvm.Cond.constantLong "com/example/bucketd/bucketd/quota/QuotaReportRemainingPinLaw" (39 : Nat) (9223372036854775807 : Int64)).before a0 Z = true := hw _ (List.mem_of_getElem? (i := 10) rfl)
theorem w_11 {a0 : Array Value} {Z : State} (hw : ∀ d ∈ tables_1, d.before a0 Z = true) : (Jvm.Cond.classLink "com/example/bucketd/bucketd/quota/QuotaReportRemainingPinLaw" (41 : Nat) "com/example/bucketd/bucketd/quota/QuotaReport").before a0 Z = true := hw _ (List.mem_of_getElem? (i := 11) rfl)
theorem w_12 {a0 : Array Value} {Z : State} (hw : ∀ d ∈ tables_1, d.before a0 Z = true) : (Jvm.Cond.instantiable "com/example/bucketd/bucketd/quota/QuotaReport" (1 : Nat)).before a0 Z = true := hw _ (List.mem_of_getElem? (i := 12) rfl)
theorem w_13 {a0 : Array Value} {Z : State} (hw : ∀ d ∈ tables_1, d.before a0 Z = true) : (Jvm.Cond.initialized "com/example/bucketd/bucketd/quota/QuotaReport").before a0 Z = true := hw _ (List.mem_of_getElem? (i := 13) rfl)
theorem w_14 {a0 : Array Value} {Z : State} (hw : ∀ d ∈ tables_1, d.before a0 Z = true) : (Jvm.Cond.methodLink "com/example/bucketd/bucketd/quota/QuotaReportRemainingPinLaw" (43 : Nat) ({ cls := "com/example/bucketd/bucketd/quota/QuotaReport", name := "<init>", desc := "()V" } : Jvm.MethodName)).before a0 Z = true := hw _ (List.mem_of_getElem? (i := 14) rfl)
theorem w_15 {a0 : Array Value} {Z : State} (hw : ∀ d ∈ tables_1, d.before a0 Z = true) : (Jvm.Cond.instanceMethod ({ cls := "com/example/bucketd/bucketd/quota/QuotaReport", name := "<init>", desc := "()V" } : Jvm.MethodName)).before a0 Z = true := hw _ (List.mem_of_getElem? (i := 15) rfl)
theorem w_16 {a0 : Array Value} {Z : State} (hw : ∀ d ∈ tables_1, d.before a0 Z = true) : (Jvm.Cond.code ({ cls := "com/example/bucketd/bucketd/quota/QuotaReport", name := "<init>", desc := "()V" } : Jvm.MethodName) prog_29_method_1_code (1 : Nat) (Option.none : Option Jvm.ClassFile.FieldType)).before a0 Z = true := hw _ (List.mem_of_getElem? (i := 16) rfl)
theorem w_17 {a0 : Array Value} {Z : State} (hw : ∀ d ∈ tables_1, d.before a0 Z = true) : (Jvm.Cond.methodLink "com/example/bucketd/bucketd/quota/QuotaReport" (3 : Nat) ({ cls := "java/lang/Object", name := "<init>", desc := "()V" } : Jvm.MethodName)).before a0 Z = true := hw _ (List.mem_of_getElem? (i := 17) rfl)
theorem w_18 {a0 : Array Value} {Z : State} (hw : ∀ d ∈ tables_1, d.before a0 Z = true) : (Jvm.Cond.instanceMethod ({ cls := "java/lang/Object", name := "<init>", desc := "()V" } : Jvm.MethodName)).before a0 Z = true := hw _ (List.mem_of_getElem? (i := 18) rfl)
theorem w_19 {a0 : Array Value} {Z : State} (hw : ∀ d ∈ tables_1, d.before a0 Z = true) : (Jvm.Cond.code ({ cls := "java/lang/Object", name := "<init>", desc := "()V" } : Jvm.MethodName) object_method_1_code (1 : Nat) (Option.none : Option Jvm.ClassFile.FieldType)).before a0 Z = true := hw _ (List.mem_of_getElem? (i := 19) rfl)
theorem w_20 {a0 : Array Value} {Z : State} (hw : ∀ d ∈ tables_1, d.before a0 Z = true) : (Jvm.Cond.fieldLink "com/example/bucketd/bucketd/quota/QuotaReport" (9 : Nat) "com/example/bucketd/bucketd/quota/QuotaReport" "KINDS" "Ljava/util/List;").before a0 Z = true := hw _ (List.mem_of_getElem? (i := 20) rfl)
theorem w_21 {a0 : Array Value} {Z : State} (hw : ∀ d ∈ tables_1, d.before a0 Z = true) : (Jvm.Cond.laysStatic "com/example/bucketd/bucketd/quota/QuotaReport" "KINDS" "Ljava/util/List;").before a0 Z = true := hw _ (List.mem_of_getElem? (i := 21) rfl)
theorem w_22 {a0 : Array Value} {Z : State} (hw : ∀ d ∈ tables_1, d.before a0 Z = true) : (Jvm.Cond.methodLink "com/example/bucketd/bucketd/quota/QuotaReport" (15 : Nat) ({ cls := "java/util/List", name := "size", desc := "()I" } : Jvm.MethodName)).before a0 Z = true := hw _ (List.mem_of_getElem? (i := 22) rfl)
theorem w_23 {a0 : Array Value} {Z : State} (hw : ∀ d ∈ tables_1, d.before a0 Z = true) : (Jvm.Cond.declares ({ cls := "java/util/List", name := "size", desc := "()I" } : Jvm.MethodName)).before a0 Z = true := hw _ (List.mem_of_getElem? (i := 23) rfl)
theorem w_24 {a0 : Array Value} {Z : State} (hw : ∀ d ∈ tables_1, d.before a0 Z = true) : (Jvm.Cond.interfaceMethod "java/util/List" "java/util/List" "size" "()I").before a0 Z = true := hw _ (List.mem_of_getElem? (i := 24) rfl)
theorem w_25 {a0 : Array Value} {Z : State} (hw : ∀ d ∈ tables_1, d.before a0 Z = true) : (Jvm.Cond.selects "java/util/ImmutableCollections$ListN" ({ cls := "java/util/List", name := "size", desc := "()I" } : Jvm.MethodName) ({ cls := "java/util/ImmutableCollections$ListN", name := "size", desc := "()I" } : Jvm.MethodName)).before a0 Z = true := hw _ (List.mem_of_getElem? (i := 25) rfl)
theorem w_26 {a0 : Array Value} {Z : State} (hw : ∀ d ∈ tables_1, d.before a0 Z = true) : (Jvm.Cond.instanceMethod ({ cls := "java/util/ImmutableCollections$ListN", name := "size", desc := "()I" } : Jvm.MethodName)).before a0 Z = true := hw _ (List.mem_of_getElem? (i := 26) rfl)
theorem w_27 {a0 : Array Value} {Z : State} (hw : ∀ d ∈ tables_1, d.before a0 Z = true) : (Jvm.Cond.publicMethod ({ cls := "java/util/ImmutableCollections$ListN", name := "size", desc := "()I" } : Jvm.MethodName)).before a0 Z = true := hw _ (List.mem_of_getElem? (i := 27) rfl)
theorem w_28 {a0 : Array Value} {Z : State} (hw : ∀ d ∈ tables_1, d.before a0 Z = true) : (Jvm.Cond.unhidden "java/util/ImmutableCollections$ListN" "size" "()I").before a0 Z = true := hw _ (List.mem_of_getElem? (i := 28) rfl)
theorem w_29 {a0 : Array Value} {Z : State} (hw : ∀ d ∈ tables_1, d.before a0 Z = true) : (Jvm.Cond.castable "java/util/ImmutableCollections$ListN" "java/util/List").before a0 Z = true := hw _ (List.mem_of_getElem? (i := 29) rfl)
theorem w_30 {a0 : Array Value} {Z : State} (hw : ∀ d ∈ tables_1, d.before a0 Z = true) : (Jvm.Cond.initialized "java/util/ImmutableCollections$ListN").before a0 Z = true := hw _ (List.mem_of_getElem? (i := 30) rfl)
theorem w_31 {a0 : Array Value} {Z : State} (hw : ∀ d ∈ tables_1, d.before a0 Z = true) : (Jvm.Cond.code ({ cls := "java/util/ImmutableCollections$ListN", name := "size", desc := "()I" } : Jvm.MethodName) jdk_45_method_3_code (1 : Nat) (Option.some Jvm.ClassFile.FieldType.int)).before a0 Z = true := hw _ (List.mem_of_getElem? (i := 31) rfl)
theorem w_32 {a0 : Array Value} {Z : State} (hw : ∀ d ∈ tables_1, d.before a0 Z = true) : (Jvm.Cond.fieldLink "java/util/ImmutableCollections$ListN" (7 : Nat) "java/util/ImmutableCollections$ListN" "elements" "[Ljava/lang/Object;").before a0 Z = true := hw _ (List.mem_of_getElem? (i := 32) rfl)
theorem w_34 {a0 : Array Value} {Z : State} (hw : ∀ d ∈ tables_1, d.before a0 Z = true) : (Jvm.Cond.arrayClass Jvm.ClassFile.FieldType.int).before a0 Z = true := hw _ (List.mem_of_getElem? (i := 34) rfl)
theorem w_35 {a0 : Array Value} {Z : State} (hw : ∀ d ∈ tables_1, d.before a0 Z = true) : (Jvm.Cond.fieldLink "com/example/bucketd/bucketd/quota/QuotaReport" (21 : Nat) "com/example/bucketd/bucketd/quota/QuotaReport" "counts" "[I").before a0 Z = true := hw _ (List.mem_of_getElem? (i := 35) rfl)
theorem w_36 {a0 : Array Value} {Z : State} (hw : ∀ d ∈ tables_1, d.before a0 Z = true) : (Jvm.Cond.laysFinal "com/example/bucketd/bucketd/quota/QuotaReport" "com/example/bucketd/bucketd/quota/QuotaReport" "counts" "[I").before a0 Z = true := hw _ (List.mem_of_getElem? (i := 36) rfl)
theorem w_37 {a0 : Array Value} {Z : State} (hw : ∀ d ∈ tables_1, d.before a0 Z = true) : (Jvm.Cond.methodLink "com/example/bucketd/bucketd/quota/QuotaReportRemainingPinLaw" (44 : Nat) ({ cls := "com/example/bucketd/bucketd/quota/QuotaReport", name := "put", desc := "(Lcom/example/bucketd/bucketd/quota/BucketKind;JJ)V" } : Jvm.MethodName)).before a0 Z = true := hw _ (List.mem_of_getElem? (i := 37) rfl)
theorem w_38 {a0 : Array Value} {Z : State} (hw : ∀ d ∈ tables_1, d.before a0 Z = true) : (Jvm.Cond.declares ({ cls := "com/example/bucketd/bucketd/quota/QuotaReport", name := "put", desc := "(Lcom/example/bucketd/bucketd/quota/BucketKind;JJ)V" } : Jvm.MethodName)).before a0 Z = true := hw _ (List.mem_of_getElem? (i := 38) rfl)
theorem w_39 {a0 : Array Value} {Z : State} (hw : ∀ d ∈ tables_1, d.before a0 Z = true) : (Jvm.Cond.instanceMethod ({ cls := "com/example/bucketd/bucketd/quota/QuotaReport", name := "put", desc := "(Lcom/example/bucketd/bucketd/quota/BucketKind;JJ)V" } : Jvm.MethodName)).before a0 Z = true := hw _ (List.mem_of_getElem? (i := 39) rfl)
theorem w_40 {a0 : Array Value} {Z : State} (hw : ∀ d ∈ tables_1, d.before a0 Z = true) : (Jvm.Cond.selects "com/example/bucketd/bucketd/quota/QuotaReport" ({ cls := "com/example/bucketd/bucketd/quota/QuotaReport", name := "put", desc := "(Lcom/example/bucketd/bucketd/quota/BucketKind;JJ)V" } : Jvm.MethodName) ({ cls := "com/example/bucketd/bucketd/quota/QuotaReport", name := "put", desc := "(Lcom/example/bucketd/bucketd/quota/BucketKind;JJ)V" } : Jvm.MethodName)).before a0 Z = true := hw _ (List.mem_of_getElem? (i := 40) rfl)
theorem w_41 {a0 : Array Value} {Z : State} (hw : ∀ d ∈ tables_1, d.before a0 Z = true) : (Jvm.Cond.code ({ cls := "com/example/bucketd/bucketd/quota/QuotaReport", name := "put", desc := "(Lcom/example/bucketd/bucketd/quota/BucketKind;JJ)V" } : Jvm.MethodName) prog_29_method_2_code (6 : Nat) (Option.none : Option Jvm.ClassFile.FieldType)).before a0 Z = true := hw _ (List.mem_of_getElem? (i := 41) rfl)
theorem w_42 {a0 : Array Value} {Z : State} (hw : ∀ d ∈ tables_1, d.before a0 Z = true) : (Jvm.Cond.methodLink "com/example/bucketd/bucketd/quota/QuotaReport" (25 : Nat) ({ cls := "com/example/bucketd/bucketd/quota/BucketKind", name := "ordinal", desc := "()I" } : Jvm.MethodName)).before a0 Z = true := hw _ (List.mem_of_getElem? (i := 42) rfl)
theorem w_43 {a0 : Array Value} {Z : State} (hw : ∀ d ∈ tables_1, d.before a0 Z = true) : (Jvm.Cond.sameMethod "com/example/bucketd/bucketd/quota/BucketKind" "java/lang/Enum" "ordinal" "()I").before a0 Z = true := hw _ (List.mem_of_getElem? (i := 43) rfl)
theorem w_44 {a0 : Array Value} {Z : State} (hw : ∀ d ∈ tables_1, d.before a0 Z = true) : (Jvm.Cond.declares ({ cls := "java/lang/Enum", name := "ordinal", desc := "()I" } : Jvm.MethodName)).before a0 Z = true := hw _ (List.mem_of_getElem? (i := 44) rfl)
theorem w_45 {a0 : Array Value} {Z : State} (hw : ∀ d ∈ tables_1, d.before a0 Z = true) : (Jvm.Cond.instanceMethod ({ cls := "java/lang/Enum", name := "ordinal", desc := "()I" } : Jvm.MethodName)).before a0 Z = true := hw _ (List.mem_of_getElem? (i := 45) rfl)
theorem w_46 {a0 : Array Value} {Z : State} (hw : ∀ d ∈ tables_1, d.before a0 Z = true) : (Jvm.Cond.selects "com/example/bucketd/bucketd/quota/BucketKind" ({ cls := "com/example/bucketd/bucketd/quota/BucketKind", name := "ordinal", desc := "()I" } : Jvm.MethodName) ({ cls := "java/lang/Enum", name := "ordinal", desc := "()I" } : Jvm.MethodName)).before a0 Z = true := hw _ (List.mem_of_getElem? (i := 46) rfl)
theorem w_47 {a0 : Array Value} {Z : State} (hw : ∀ d ∈ tables_1, d.before a0 Z = true) : (Jvm.Cond.initialized "java/lang/Enum").before a0 Z = true := hw _ (List.mem_of_getElem? (i := 47) rfl)
theorem w_48 {a0 : Array Value} {Z : State} (hw : ∀ d ∈ tables_1, d.before a0 Z = true) : (Jvm.Cond.code ({ cls := "java/lang/Enum", name := "ordinal", desc := "()I" } : Jvm.MethodName) jdk_37_method_2_code (1 : Nat) (Option.some Jvm.ClassFile.FieldType.int)).before a0 Z = true := hw _ (List.mem_of_getElem? (i := 48) rfl)
theorem w_49 {a0 : Array Value} {Z : State} (hw : ∀ d ∈ tables_1, d.before a0 Z = true) : (Jvm.Cond.fieldLink "java/lang/Enum" (7 : Nat) "java/lang/Enum" "ordinal" "I").before a0 Z = true := hw _ (List.mem_of_getElem? (i := 49) rfl)
theorem w_51 {a0 : Array Value} {Z : State} (hw : ∀ d ∈ tables_1, d.before a0 Z = true) : (Jvm.Cond.constantLong "com/example/bucketd/bucketd/quota/QuotaReport" (30 : Nat) (2147483647 : Int64)).before a0 Z = true := hw _ (List.mem_of_getElem? (i := 51) rfl)
theorem w_52 {a0 : Array Value} {Z : State} (hw : ∀ d ∈ tables_1, d.before a0 Z = true) : (Jvm.Cond.methodLink "com/example/bucketd/bucketd/quota/QuotaReport" (32 : Nat) ({ cls := "java/lang/Math", name := "min", desc := "(JJ)J" } : Jvm.MethodName)).before a0 Z = true := hw _ (List.mem_of_getElem? (i := 52) rfl)
theorem w_53 {a0 : Array Value} {Z : State} (hw : ∀ d ∈ tables_1, d.before a0 Z = true) : (Jvm.Cond.static ({ cls := "java/lang/Math", name := "min", desc := "(JJ)J" } : Jvm.MethodName)).before a0 Z = true := hw _ (List.mem_of_getElem? (i := 53) rfl)
theorem w_54 {a0 : Array Value} {Z : State} (hw : ∀ d ∈ tables_1, d.before a0 Z = true) : (Jvm.Cond.initialized "java/lang/Math").before a0 Z = true := hw _ (List.mem_of_getElem? (i := 54) rfl)
theorem w_55 {a0 : Array Value} {Z : State} (hw : ∀ d ∈ tables_1, d.before a0 Z = true) : (Jvm.Cond.code ({ cls := "java/lang/Math", name := "min", desc := "(JJ)J" } : Jvm.MethodName) jdk_29_method_70_code (4 : Nat) (Option.some Jvm.ClassFile.FieldType.long)).before a0 Z = true := hw _ (List.mem_of_getElem? (i := 55) rfl)
theorem w_56 {a0 : Array Value} {Z : State} (hw : ∀ d ∈ tables_1, d.before a0 Z = true) : (Jvm.Cond.methodLink "com/example/bucketd/bucketd/quota/QuotaReportRemainingPinLaw" (48 : Nat) ({ cls := "com/example/bucketd/bucketd/quota/QuotaReport", name := "remaining", desc := "(Lcom/example/bucketd/bucketd/quota/BucketKind;)J" } : Jvm.MethodName)).before a0 Z = true := hw _ (List.mem_of_getElem? (i := 56) rfl)
theorem w_57 {a0 : Array Value} {Z : State} (hw : ∀ d ∈ tables_1, d.before a0 Z = true) : (Jvm.Cond.declares ({ cls := "com/example/bucketd/bucketd/quota/QuotaReport", name := "remaining", desc := "(Lcom/example/bucketd/bucketd/quota/BucketKind;)J" } : Jvm.MethodName)).before a0 Z = true := hw _ (List.mem_of_getElem? (i := 57) rfl)
theorem w_58 {a0 : Array Value} {Z : State} (hw : ∀ d ∈ tables_1, d.before a0 Z = true) : (Jvm.Cond.instanceMethod ({ cls := "com/example/bucketd/bucketd/quota/QuotaReport", name := "remaining", desc := "(Lcom/example/bucketd/bucketd/quota/BucketKind;)J" } : Jvm.MethodName)).before a0 Z = true := hw _ (List.mem_of_getElem? (i := 58) rfl)
theorem w_59 {a0 : Array Value} {Z : State} (hw : ∀ d ∈ tables_1, d.before a0 Z = true) : (Jvm.Cond.selects "com/example/bucketd/bucketd/quota/QuotaReport" ({ cls := "com/example/bucketd/bucketd/quota/QuotaReport", name := "remaining", desc := "(Lcom/example/bucketd/bucketd/quota/BucketKind;)J" } : Jvm.MethodName) ({ cls := "com/example/bucketd/bucketd/quota/QuotaReport", name := "remaining", desc := "(Lcom/example/bucketd/bucketd/quota/BucketKind;)J" } : Jvm.MethodName)).before a0 Z = true := hw _ (List.mem_of_getElem? (i := 59) rfl)
theorem w_60 {a0 : Array Value} {Z : State} (hw : ∀ d ∈ tables_1, d.before a0 Z = true) : (Jvm.Cond.code ({ cls := "com/example/bucketd/bucketd/quota/QuotaReport", name := "remaining", desc := "(Lcom/example/bucketd/bucketd/quota/BucketKind;)J" } : Jvm.MethodName) prog_29_method_5_code (2 : Nat) (Option.some Jvm.ClassFile.FieldType.long)).before a0 Z = true := hw _ (List.mem_of_getElem? (i := 60) rfl)
theorem w_61 {a0 : Array Value} {Z : State} (hw : ∀ d ∈ tables_1, d.before a0 Z = true) : (Jvm.Cond.methodLink "com/example/bucketd/bucketd/quota/QuotaReportRemainingPinLaw" (52 : Nat) ({ cls := "com/example/bucketd/bucketd/quota/QuotaReportRemainingPinLaw", name := "cap", desc := "(J)J" } : Jvm.MethodName)).before a0 Z = true := hw _ (List.mem_of_getElem? (i := 61) rfl)
theorem w_62 {a0 : Array Value} {Z : State} (hw : ∀ d ∈ tables_1, d.before a0 Z = true) : (Jvm.Cond.static ({ cls := "com/example/bucketd/bucketd/quota/QuotaReportRemainingPinLaw", name := "cap", desc := "(J)J" } : Jvm.MethodName)).before a0 Z = true := hw _ (List.mem_of_getElem? (i := 62) rfl)
theorem w_63 {a0 : Array Value} {Z : State} (hw : ∀ d ∈ tables_1, d.before a0 Z = true) : (Jvm.Cond.code ({ cls := "com/example/bucketd/bucketd/quota/QuotaReportRemainingPinLaw", name := "cap", desc := "(J)J" } : Jvm.MethodName) method_3_code (2 : Nat) (Option.some Jvm.ClassFile.FieldType.long)).before a0 Z = true := hw _ (List.mem_of_getElem? (i := 63) rfl)
theorem w_64 {a0 : Array Value} {Z : State} (hw : ∀ d ∈ tables_1, d.before a0 Z = true) : (Jvm.Cond.constantLong "com/example/bucketd/bucketd/quota/QuotaReportRemainingPinLaw" (28 : Nat) (2147483647 : Int64)).before a0 Z = true := hw _ (List.mem_of_getElem? (i := 64) rfl)
theorem w_65 {a0 : Array Value} {Z : State} (hw : ∀ d ∈ tables_1, d.before a0 Z = true) : (Jvm.Cond.fieldLink "com/example/bucketd/bucketd/quota/QuotaReportRemainingPinLaw" (16 : Nat) "com/example/bucketd/bucketd/quota/BucketKind" "TOKENS_PER_PROJECT_PER_HOUR" "Lcom/example/bucketd/bucketd/quota/BucketKind;").before a0 Z = true := hw _ (List.mem_of_getElem? (i := 65) rfl)
theorem w_66 {a0 : Array Value} {Z : State} (hw : ∀ d ∈ tables_1, d.before a0 Z = true) : (Jvm.Cond.laysStatic "com/example/bucketd/bucketd/quota/BucketKind" "TOKENS_PER_PROJECT_PER_HOUR" "Lcom/example/bucketd/bucketd/quota/BucketKind;").before a0 Z = true := hw _ (List.mem_of_getElem? (i := 66) rfl)
theorem w_67 {a0 : Array Value} {Z : State} (hw : ∀ d ∈ tables_1, d.before a0 Z = true) : (Jvm.Cond.fieldLink "com/example/bucketd/bucketd/quota/QuotaReportRemainingPinLaw" (13 : Nat) "com/example/bucketd/bucketd/quota/BucketKind" "TOKENS_PER_HOUR" "Lcom/example/bucketd/bucketd/quota/BucketKind;").before a0 Z = true := hw _ (List.mem_of_getElem? (i := 67) rfl)
theorem w_68 {a0 : Array Value} {Z : State} (hw : ∀ d ∈ tables_1, d.before a0 Z = true) : (Jvm.Cond.laysStatic "com/example/bucketd/bucketd/quota/BucketKind" "TOKENS_PER_HOUR" "Lcom/example/bucketd/bucketd/quota/BucketKind;").before a0 Z = true := hw _ (List.mem_of_getElem? (i := 68) rfl)
theorem w_69 {a0 : Array Value} {Z : State} (hw : ∀ d ∈ tables_1, d.before a0 Z = true) : (Jvm.Cond.fieldLink "com/example/bucketd/bucketd/quota/QuotaReportRemainingPinLaw" (25 : Nat) "com/example/bucketd/bucketd/quota/BucketKind" "POTENTIALLY_THRESHOLDED_REQUESTS_PER_HOUR" "Lcom/example/bucketd/bucketd/quota/BucketKind;").before a0 Z = true := hw _ (List.mem_of_getElem? (i := 69) rfl)
theorem w_70 {a0 : Array Value} {Z : State} (hw : ∀ d ∈ tables_1, d.before a0 Z = true) : (Jvm.Cond.laysStatic "com/example/bucketd/bucketd/quota/BucketKind" "POTENTIALLY_THRESHOLDED_REQUESTS_PER_HOUR" "Lcom/example/bucketd/bucketd/quota/BucketKind;").before a0 Z = true := hw _ (List.mem_of_getElem? (i := 70) rfl)
theorem w_71 {a0 : Array Value} {Z : State} (hw : ∀ d ∈ tables_1, d.before a0 Z = true) : (Jvm.Cond.fieldLink "com/example/bucketd/bucketd/quota/QuotaReportRemainingPinLaw" (22 : Nat) "com/example/bucketd/bucketd/quota/BucketKind" "SERVER_ERRORS_PER_PROJECT_PER_HOUR" "Lcom/example/bucketd/bucketd/quota/BucketKind;").before a0 Z = true := hw _ (List.mem_of_getElem? (i := 71) rfl)
theorem w_72 {a0 : Array Value} {Z : State} (hw : ∀ d ∈ tables_1, d.before a0 Z = true) : (Jvm.Cond.laysStatic "com/example/bucketd/bucketd/quota/BucketKind" "SERVER_ERRORS_PER_PROJECT_PER_HOUR" "Lcom/example/bucketd/bucketd/quota/BucketKind;").before a0 Z = true := hw _ (List.mem_of_getElem? (i := 72) rfl)
def own_pk (i : Int32) (r0 r1 r2 r3 r4 r5 : Addr) : Addr := if i = 0 then r0 else if i = 1 then r1 else if i = 2 then r2 else if i = 3 then r3 else if i = 4 then r4 else r5
theorem own_five {i : Int32} (h : 0 ≤ i.toInt ∧ i.toInt ≤ 5) (h0 : ¬ (i = 0)) (h1 : ¬ (i = 1)) (h2 : ¬ (i = 2)) (h3 : ¬ (i = 3)) (h4 : ¬ (i = 4)) : i = 5 := by
  simp only [← Int32.toInt_inj] at *
  have k0 : (0 : Int32).toInt = 0 := rfl
  have k1 : (1 : Int32).toInt = 1 := rfl
  have k2 : (2 : Int32).toInt = 2 := rfl
  have k3 : (3 : Int32).toInt = 3 := rfl
  have k4 : (4 : Int32).toInt = 4 := rfl
  have k5 : (5 : Int32).toInt = 5 := rfl
  omega
theorem own_pn1 : plainName "com/example/bucketd/bucketd/quota/QuotaReportRemainingPinLaw" = true := by first | (simp [plainName, overriddenIn]; done) | decide +kernel
theorem d1_0 : decode method_2_code 0 = .ok (.iload_n 0, 1) := by decide +kernel
theorem d1_1 : decode method_2_code 1 = .ok (.ifCond .ne 7, 3) := by decide +kernel
theorem d1_4 : decode method_2_code 4 = .ok (.getstatic 7, 3) := by decide +kernel
theorem d1_7 : decode method_2_code 7 = .ok (.areturn, 1) := by decide +kernel
theorem d1_8 : decode method_2_code 8 = .ok (.iload_n 0, 1) := by decide +kernel
theorem d1_9 : decode method_2_code 9 = .ok (.iconst 1, 1) := by decide +kernel
theorem d1_10 : decode method_2_code 10 = .ok (.if_icmp .ne 7, 3) := by decide +kernel
theorem d1_13 : decode method_2_code 13 = .ok (.getstatic 13, 3) := by decide +kernel
theorem d1_16 : decode method_2_code 16 = .ok (.areturn, 1) := by decide +kernel
theorem d1_17 : decode method_2_code 17 = .ok (.iload_n 0, 1) := by decide +kernel
theorem d1_18 : decode method_2_code 18 = .ok (.iconst 2, 1) := by decide +kernel
theorem d1_19 : decode method_2_code 19 = .ok (.if_icmp .ne 7, 3) := by decide +kernel
theorem d1_22 : decode method_2_code 22 = .ok (.getstatic 16, 3) := by decide +kernel
theorem d1_25 : decode method_2_code 25 = .ok (.areturn, 1) := by decide +kernel
theorem d1_26 : decode method_2_code 26 = .ok (.iload_n 0, 1) := by decide +kernel
theorem d1_27 : decode method_2_code 27 = .ok (.iconst 3, 1) := by decide +kernel
theorem d1_28 : decode method_2_code 28 = .ok (.if_icmp .ne 7, 3) := by decide +kernel
theorem d1_31 : decode method_2_code 31 = .ok (.getstatic 19, 3) := by decide +kernel
theorem d1_34 : decode method_2_code 34 = .ok (.areturn, 1) := by decide +kernel
theorem d1_35 : decode method_2_code 35 = .ok (.iload_n 0, 1) := by decide +kernel
theorem d1_36 : decode method_2_code 36 = .ok (.iconst 4, 1) := by decide +kernel
theorem d1_37 : decode method_2_code 37 = .ok (.if_icmp .ne 7, 3) := by decide +kernel
theorem d1_40 : decode method_2_code 40 = .ok (.getstatic 22, 3) := by decide +kernel
theorem d1_43 : decode method_2_code 43 = .ok (.areturn, 1) := by decide +kernel
theorem d1_44 : decode method_2_code 44 = .ok (.getstatic 25, 3) := by decide +kernel
theorem d1_47 : decode method_2_code 47 = .ok (.areturn, 1) := by decide +kernel
theorem ef_1 (m : MethodId) (x0 : Int32) : entryFrame m #[(.int x0)] 1 = mkF m 0 #[.val (.int x0)] [] := by first | (simp [entryFrame, mkF, argsToLocals, Value.category]; done) | rfl
def Q1 (Z : State) (p1 : Int32) (r0 : Addr) (r1 : Addr) (r2 : Addr) (r3 : Addr) (r4 : Addr) (r5 : Addr) (h0 : Heap) (n0 : Nat) (v : Option Value) (h : Heap) (L : List Loc) : Prop := ∃ (r : Addr), v = some (.ref r) ∧ Fr n0 L ∧ h = h0 ∧ Exa Z h r "com/example/bucketd/bucketd/quota/BucketKind" ∧ Fld Z h r "java/lang/Enum" "ordinal" "I" (.int p1) ∧ (r = own_pk p1 r0 r1 r2 r3 r4 r5)
set_option maxHeartbeats 40000000 in
theorem rm1 (l : Launch) (Z : State) (a0 : Array Value) (hw : ∀ d ∈ tables_1, d.before a0 Z = true) (ws : List Jvm.Cond) (p1 : Int32) (r0 : Addr) (r1 : Addr) (r2 : Addr) (r3 : Addr) (r4 : Addr) (r5 : Addr) (h0 : Heap) (n0 : Nat) (Z0 : n0 ≤ h0.size) (F0 : Sta Z h0 "com/example/bucketd/bucketd/quota/BucketKind" "TOKENS_PER_DAY" "Lcom/example/bucketd/bucketd/quota/BucketKind;" (.ref r0)) (F1 : Sta Z h0 "com/example/bucketd/bucketd/quota/BucketKind" "TOKENS_PER_HOUR" "Lcom/example/bucketd/bucketd/quota/BucketKind;" (.ref r1)) (F2 : Sta Z h0 "com/example/bucketd/bucketd/quota/BucketKind" "TOKENS_PER_PROJECT_PER_HOUR" "Lcom/example/bucketd/bucketd/quota/BucketKind;" (.ref r2)) (F3 : Sta Z h0 "com/example/bucketd/bucketd/quota/BucketKind" "CONCURRENT_REQUESTS" "Lcom/example/bucketd/bucketd/quota/BucketKind;" (.ref r3)) (F4 : Sta Z h0 "com/example/bucketd/bucketd/quota/BucketKind" "SERVER_ERRORS_PER_PROJECT_PER_HOUR" "Lcom/example/bucketd/bucketd/quota/BucketKind;" (.ref r4)) (F5 : Sta Z h0 "com/example/bucketd/bucketd/quota/BucketKind" "POTENTIALLY_THRESHOLDED_REQUESTS_PER_HOUR" "Lcom/example/bucketd/bucketd/quota/BucketKind;" (.ref r5)) (F6 : Exa Z h0 r0 "com/example/bucketd/bucketd/quota/BucketKind") (F7 : Exa Z h0 r1 "com/example/bucketd/bucketd/quota/BucketKind") (F8 : Exa Z h0 r2 "com/example/bucketd/bucketd/quota/BucketKind") (F9 : Exa Z h0 r3 "com/example/bucketd/bucketd/quota/BucketKind") (F10 : Exa Z h0 r4 "com/example/bucketd/bucketd/quota/BucketKind") (F11 : Exa Z h0 r5 "com/example/bucketd/bucketd/quota/BucketKind") (F12 : Fld Z h0 r0 "java/lang/Enum" "ordinal" "I" (.int (0 : Int32))) (F13 : Fld Z h0 r1 "java/lang/Enum" "ordinal" "I" (.int (1 : Int32))) (F14 : Fld Z h0 r2 "java/lang/Enum" "ordinal" "I" (.int (2 : Int32))) (F15 : Fld Z h0 r3 "java/lang/Enum" "ordinal" "I" (.int (3 : Int32))) (F16 : Fld Z h0 r4 "java/lang/Enum" "ordinal" "I" (.int (4 : Int32))) (F17 : Fld Z h0 r5 "java/lang/Enum" "ordinal" "I" (.int (5 : Int32))) (hp : 0 ≤ p1.toInt ∧ p1.toInt ≤ 5) :
    MetFree l (⟨"com/example/bucketd/bucketd/quota/QuotaReportRemainingPinLaw", "pick", "(I)Lcom/example/bucketd/bucketd/quota/BucketKind;"⟩ : MethodName) (head1 (Jvm.Cond.code (⟨"com/example/bucketd/bucketd/quota/QuotaReportRemainingPinLaw", "pick", "(I)Lcom/example/bucketd/bucketd/quota/BucketKind;"⟩ : MethodName) method_2_code 1 (some (.object "com/example/bucketd/bucketd/quota/BucketKind")) :: ws) ({ frames := 0, cells := 0, slots := 0, locals := 0 } : Room)) (fun a U => a = #[(.int p1)] ∧ Z.Warmed39 U.vm ∧ U.heap = h0) (fun _ _ _ _ _ => True) (fun _ U o U' => ∃ v L, o = .returned v ∧ Q1 Z p1 r0 r1 r2 r3 r4 r5 h0 n0 v U'.heap L ∧ FrameEnd U o U' L ({ frames := 0, cells := 0, slots := 0, locals := 0 } : Room).cells ({ frames := 0, cells := 0, slots := 0, locals := 0 } : Room).slots) := by
  refine MetFree.of_bodySF (plainFor_of_name own_pn1) hisR ?_
  intro p e s m args below meth c s₁ Bd hml0 hP hK
  obtain ⟨rfl, hZ, hh⟩ := hP
  have hx := Bd.exec
  have hby := Bd.bytes
  have hml : c.maxLocals = 1 := hml0
  have hlk : meth.locks = false := BodyLoose.notSynchronized Bd
  have hown : s.vm.findClass "com/example/bucketd/bucketd/quota/QuotaReportRemainingPinLaw" = some m.cls := findClass_of_methodNamed Bd.named
  have hnm := (name_of_methodNamed Bd.named Bd.method).1
  have X0 : Stand p l e ({ frames := 0, cells := 0, slots := 0, locals := 0 } : Room) s m #[(.int p1)] below meth c s₁ [] 0 0 := Stand.of_body Bd
  have e0 : s₁.heap = h0 := by rw [← hh, Bd.state]; rfl
  have N0 := Fr.nil n0
  show own_Go p e below s (Q1 Z p1 r0 r1 r2 r3 r4 r5 h0 n0) ({ frames := 0, cells := 0, slots := 0, locals := 0 } : Room).cells ({ frames := 0, cells := 0, slots := 0, locals := 0 } : Room).slots _
  refine own_st (B := s₁.setTop (mkF m 0 #[.val (.int p1)] [])) (fun t k => castTop (ef_1 m (p1)) k) ?_
  refine own_st (B := s₁.setTop (mkF m 1 #[.val (.int p1)] [(.int p1)])) (fun t k => XS.iloadN X0.here hx rfl (hb hby d1_0) rfl k) ?_
  by_cases hc1 : p1 = (0 : Int32)
  · refine own_st (B := s₁.setTop (mkF m 4 #[.val (.int p1)] [])) (fun t k => XS.ifNo X0.here hx rfl (hb hby d1_1) rfl (XT.i0_ne_f hc1) k) ?_
    obtain ⟨T2, X2, e2, st2⟩ := getS2 X0 hx hZ hown (host := "") (Or.inl (w_5 hw)) Via.refl e0 F0 (g := (mkF m 4 #[.val (.int p1)] [])) rfl (hb hby d1_4)
    refine own_st (B := T2.setTop (mkF m 7 #[.val (.int p1)] [(.ref r0)])) (fun t k => st2 t k) ?_
    refine own_retR X2 hx hlk (t := (.object "com/example/bucketd/bucketd/quota/BucketKind")) Bd.returns rfl rfl rfl (hb hby d1_7) (by decide) (by decide) ?_
    show Q1 Z p1 r0 r1 r2 r3 r4 r5 h0 n0 _ T2.heap _
    rw [e2]
    exact ⟨r0, rfl, N0, rfl, F6, (by rw [hc1]; exact F12), (by unfold own_pk; rw [if_pos hc1])⟩
  · refine own_st (B := s₁.setTop (mkF m 8 #[.val (.int p1)] [])) (fun t k => XS.ifYes X0.here hx rfl (pc0 := 1) (pc' := 8) rfl (hb hby d1_1) rfl (XT.i0_ne_t hc1) (by decide) (by decide) k) ?_
    refine own_st (B := s₁.setTop (mkF m 9 #[.val (.int p1)] [(.int p1)])) (fun t k => XS.iloadN X0.here hx rfl (hb hby d1_8) rfl k) ?_
    refine own_st (B := s₁.setTop (mkF m 10 #[.val (.int p1)] [(.int (1 : Int32)), (.int p1)])) (fun t k => XS.iconst X0.here hx rfl (hb hby d1_9) k) ?_
    by_cases hc3 : p1 = (1 : Int32)
    · refine own_st (B := s₁.setTop (mkF m 13 #[.val (.int p1)] [])) (fun t k => XS.icmpNo X0.here hx rfl (hb hby d1_10) rfl (XT.ii_ne_f hc3) k) ?_
      obtain ⟨T4, X4, e4, st4⟩ := getS2 X0 hx hZ hown (host := "") (Or.inl (w_67 hw)) Via.refl e0 F1 (g := (mkF m 13 #[.val (.int p1)] [])) rfl (hb hby d1_13)
      refine own_st (B := T4.setTop (mkF m 16 #[.val (.int p1)] [(.ref r1)])) (fun t k => st4 t k) ?_
      refine own_retR X4 hx hlk (t := (.object "com/example/bucketd/bucketd/quota/BucketKind")) Bd.returns rfl rfl rfl (hb hby d1_16) (by decide) (by decide) ?_
      show Q1 Z p1 r0 r1 r2 r3 r4 r5 h0 n0 _ T4.heap _
      rw [e4]
      exact ⟨r1, rfl, N0, rfl, F7, (by rw [hc3]; exact F13), (by unfold own_pk; rw [if_neg hc1, if_pos hc3])⟩
    · refine own_st (B := s₁.setTop (mkF m 17 #[.val (.int p1)] [])) (fun t k => XS.icmpYes X0.here hx rfl (pc0 := 10) (pc' := 17) rfl (hb hby d1_10) rfl (XT.ii_ne_t hc3) (by decide) (by decide) k) ?_
      refine own_st (B := s₁.setTop (mkF m 18 #[.val (.int p1)] [(.int p1)])) (fun t k => XS.iloadN X0.here hx rfl (hb hby d1_17) rfl k) ?_
      refine own_st (B := s₁.setTop (mkF m 19 #[.val (.int p1)] [(.int (2 : Int32)), (.int p1)])) (fun t k => XS.iconst X0.here hx rfl (hb hby d1_18) k) ?_
      by_cases hc5 : p1 = (2 : Int32)
      · refine own_st (B := s₁.setTop (mkF m 22 #[.val (.int p1)] [])) (fun t k => XS.icmpNo X0.here hx rfl (hb hby d1_19) rfl (XT.ii_ne_f hc5) k) ?_
        obtain ⟨T6, X6, e6, st6⟩ := getS2 X0 hx hZ hown (host := "") (Or.inl (w_65 hw)) Via.refl e0 F2 (g := (mkF m 22 #[.val (.int p1)] [])) rfl (hb hby d1_22)
        refine own_st (B := T6.setTop (mkF m 25 #[.val (.int p1)] [(.ref r2)])) (fun t k => st6 t k) ?_
        refine own_retR X6 hx hlk (t := (.object "com/example/bucketd/bucketd/quota/BucketKind")) Bd.returns rfl rfl rfl (hb hby d1_25) (by decide) (by decide) ?_
        show Q1 Z p1 r0 r1 r2 r3 r4 r5 h0 n0 _ T6.heap _
        rw [e6]
        exact ⟨r2, rfl, N0, rfl, F8, (by rw [hc5]; exact F14), (by unfold own_pk; rw [if_neg hc1, if_neg hc3, if_pos hc5])⟩
      · refine own_st (B := s₁.setTop (mkF m 26 #[.val (.int p1)] [])) (fun t k => XS.icmpYes X0.here hx rfl (pc0 := 19) (pc' := 26) rfl (hb hby d1_19) rfl (XT.ii_ne_t hc5) (by decide) (by decide) k) ?_
        refine own_st (B := s₁.setTop (mkF m 27 #[.val (.int p1)] [(.int p1)])) (fun t k => XS.iloadN X0.here hx rfl (hb hby d1_26) rfl k) ?_
        refine own_st (B := s₁.setTop (mkF m 28 #[.val (.int p1)] [(.int (3 : Int32)), (.int p1)])) (fun t k => XS.iconst X0.here hx rfl (hb hby d1_27) k) ?_
        by_cases hc7 : p1 = (3 : Int32)
        · refine own_st (B := s₁.setTop (mkF m 31 #[.val (.int p1)] [])) (fun t k => XS.icmpNo X0.here hx rfl (hb hby d1_28) rfl (XT.ii_ne_f hc7) k) ?_
          obtain ⟨T8, X8, e8, st8⟩ := getS2 X0 hx hZ hown (host := "") (Or.inl (w_8 hw)) Via.refl e0 F3 (g := (mkF m 31 #[.val (.int p1)] [])) rfl (hb hby d1_31)
          refine own_st (B := T8.setTop (mkF m 34 #[.val (.int p1)] [(.ref r3)])) (fun t k => st8 t k) ?_
          refine own_retR X8 hx hlk (t := (.object "com/example/bucketd/bucketd/quota/BucketKind")) Bd.returns rfl rfl rfl (hb hby d1_34) (by decide) (by decide) ?_
          show Q1 Z p1 r0 r1 r2 r3 r4 r5 h0 n0 _ T8.heap _
          rw [e8]
          exact ⟨r3, rfl, N0, rfl, F9, (by rw [hc7]; exact F15), (by unfold own_pk; rw [if_neg hc1, if_neg hc3, if_neg hc5, if_pos hc7])⟩
        · refine own_st (B := s₁.setTop (mkF m 35 #[.val (.int p1)] [])) (fun t k => XS.icmpYes X0.here hx rfl (pc0 := 28) (pc' := 35) rfl (hb hby d1_28) rfl (XT.ii_ne_t hc7) (by decide) (by decide) k) ?_
          refine own_st (B := s₁.setTop (mkF m 36 #[.val (.int p1)] [(.int p1)])) (fun t k => XS.iloadN X0.here hx rfl (hb hby d1_35) rfl k) ?_
          refine own_st (B := s₁.setTop (mkF m 37 #[.val (.int p1)] [(.int (4 : Int32)), (.int p1)])) (fun t k => XS.iconst X0.here hx rfl (hb hby d1_36) k) ?_
          by_cases hc9 : p1 = (4 : Int32)
          · refine own_st (B := s₁.setTop (mkF m 40 #[.val (.int p1)] [])) (fun t k => XS.icmpNo X0.here hx rfl (hb hby d1_37) rfl (XT.ii_ne_f hc9) k) ?_
            obtain ⟨T10, X10, e10, st10⟩ := getS2 X0 hx hZ hown (host := "") (Or.inl (w_71 hw)) Via.refl e0 F4 (g := (mkF m 40 #[.val (.int p1)] [])) rfl (hb hby d1_40)
            refine own_st (B := T10.setTop (mkF m 43 #[.val (.int p1)] [(.ref r4)])) (fun t k => st10 t k) ?_
            refine own_retR X10 hx hlk (t := (.object "com/example/bucketd/bucketd/quota/BucketKind")) Bd.returns rfl rfl rfl (hb hby d1_43) (by decide) (by decide) ?_
            show Q1 Z p1 r0 r1 r2 r3 r4 r5 h0 n0 _ T10.heap _
            rw [e10]
            exact ⟨r4, rfl, N0, rfl, F10, (by rw [hc9]; exact F16), (by unfold own_pk; rw [if_neg hc1, if_neg hc3, if_neg hc5, if_neg hc7, if_pos hc9])⟩
          · refine own_st (B := s₁.setTop (mkF m 44 #[.val (.int p1)] [])) (fun t k => XS.icmpYes X0.here hx rfl (pc0 := 37) (pc' := 44) rfl (hb hby d1_37) rfl (XT.ii_ne_t hc9) (by decide) (by decide) k) ?_
            obtain ⟨T11, X11, e11, st11⟩ := getS2 X0 hx hZ hown (host := "") (Or.inl (w_69 hw)) Via.refl e0 F5 (g := (mkF m 44 #[.val (.int p1)] [])) rfl (hb hby d1_44)
            refine own_st (B := T11.setTop (mkF m 47 #[.val (.int p1)] [(.ref r5)])) (fun t k => st11 t k) ?_
            refine own_retR X11 hx hlk (t := (.object "com/example/bucketd/bucketd/quota/BucketKind")) Bd.returns rfl rfl rfl (hb hby d1_47) (by decide) (by decide) ?_
            show Q1 Z p1 r0 r1 r2 r3 r4 r5 h0 n0 _ T11.heap _
            rw [e11]
            exact ⟨r5, rfl, N0, rfl, F11, (by rw [(own_five hp hc1 hc3 hc5 hc7 hc9)]; exact F17), (by unfold own_pk; rw [if_neg hc1, if_neg hc3, if_neg hc5, if_neg hc7, if_neg hc9])⟩
theorem own_pn2 : plainName "java/util/ImmutableCollections$ListN" = true := by first | (simp [plainName, overriddenIn]; done) | decide +kernel
theorem d4_0 : decode jdk_45_method_3_code 0 = .ok (.aload_n 0, 1) := by decide +kernel
theorem d4_1 : decode jdk_45_method_3_code 1 = .ok (.getfield 7, 3) := by decide +kernel
theorem d4_4 : decode jdk_45_method_3_code 4 = .ok (.arraylength, 1) := by decide +kernel
theorem d4_5 : decode jdk_45_method_3_code 5 = .ok (.ireturn, 1) := by decide +kernel
theorem ef_4 (m : MethodId) (x0 : Addr) : entryFrame m #[(.ref x0)] 1 = mkF m 0 #[.val (.ref x0)] [] := by first | (simp [entryFrame, mkF, argsToLocals, Value.category]; done) | rfl
def Q4 (Z : State) (a1 : Addr) (k2 : Addr) (ks : List Value) (h0 : Heap) (n0 : Nat) (v : Option Value) (h : Heap) (L : List Loc) : Prop := v = some (.int (6 : Int32)) ∧ Fr n0 L ∧ h = h0
set_option maxHeartbeats 40000000 in
theorem rm4 (l : Launch) (Z : State) (a0 : Array Value) (hw : ∀ d ∈ tables_1, d.before a0 Z = true) (ws : List Jvm.Cond) (a1 : Addr) (k2 : Addr) (ks : List Value) (h0 : Heap) (n0 : Nat) (Z0 : n0 ≤ h0.size) (F0 : Fld Z h0 a1 "java/util/ImmutableCollections$ListN" "elements" "[Ljava/lang/Object;" (.ref k2)) (F1 : own_A Z h0 k2 (.object "java/lang/Object") ks) (hk : ks.length = 6) :
    MetFree l (⟨"java/util/ImmutableCollections$ListN", "size", "()I"⟩ : MethodName) (head1 (Jvm.Cond.code (⟨"java/util/ImmutableCollections$ListN", "size", "()I"⟩ : MethodName) jdk_45_method_3_code 1 (some .int) :: ws) ({ frames := 0, cells := 0, slots := 0, locals := 0 } : Room)) (fun a U => a = #[(.ref a1)] ∧ Z.Warmed39 U.vm ∧ U.heap = h0) (fun _ _ _ _ _ => True) (fun _ U o U' => ∃ v L, o = .returned v ∧ Q4 Z a1 k2 ks h0 n0 v U'.heap L ∧ FrameEnd U o U' L ({ frames := 0, cells := 0, slots := 0, locals := 0 } : Room).cells ({ frames := 0, cells := 0, slots := 0, locals := 0 } : Room).slots) := by
  refine MetFree.of_bodySF (plainFor_of_name own_pn2) hisR ?_
  intro p e s m args below meth c s₁ Bd hml0 hP hK
  obtain ⟨rfl, hZ, hh⟩ := hP
  have hx := Bd.exec
  have hby := Bd.bytes
  have hml : c.maxLocals = 1 := hml0
  have hlk : meth.locks = false := BodyLoose.notSynchronized Bd
  have hown : s.vm.findClass "java/util/ImmutableCollections$ListN" = some m.cls := findClass_of_methodNamed Bd.named
  have hnm := (name_of_methodNamed Bd.named Bd.method).1
  have X0 : Stand p l e ({ frames := 0, cells := 0, slots := 0, locals := 0 } : Room) s m #[(.ref a1)] below meth c s₁ [] 0 0 := Stand.of_body Bd
  have e0 : s₁.heap = h0 := by rw [← hh, Bd.state]; rfl
  have N0 := Fr.nil n0
  show own_Go p e below s (Q4 Z a1 k2 ks h0 n0) ({ frames := 0, cells := 0, slots := 0, locals := 0 } : Room).cells ({ frames := 0, cells := 0, slots := 0, locals := 0 } : Room).slots _
  refine own_st (B := s₁.setTop (mkF m 0 #[.val (.ref a1)] [])) (fun t k => castTop (ef_4 m (a1)) k) ?_
  refine own_st (B := s₁.setTop (mkF m 1 #[.val (.ref a1)] [(.ref a1)])) (fun t k => XS.aloadN X0.here hx rfl (hb hby d4_0) rfl rfl k) ?_
  obtain ⟨T1, X1, e1, st1⟩ := getF X0 hx hZ hown (host := "") (Or.inl (w_32 hw)) Via.refl e0 F0 (g := (mkF m 1 #[.val (.ref a1)] [(.ref a1)])) rfl rfl (hb hby d4_1)
  refine own_st (B := T1.setTop (mkF m 4 #[.val (.ref a1)] [(.ref k2)])) (fun t k => st1 t k) ?_
  refine own_st (B := T1.setTop (mkF m 5 #[.val (.ref a1)] [(.int (6 : Int32))])) (fun t k => own_len X1 hx hZ e1 F1 (g := (mkF m 4 #[.val (.ref a1)] [(.ref k2)])) (n := (6 : Int32)) (by rw [hk]; rfl) rfl rfl (hb hby d4_4) k) ?_
  refine own_retI X1 hx hlk Bd.returns (hb hby d4_5) (by decide) (by decide) ?_
  show Q4 Z a1 k2 ks h0 n0 _ T1.heap _
  rw [e1]
  exact ⟨rfl, N0, rfl⟩
theorem own_pd2 : parseMethodDescriptor "()I" = some ⟨[], some .int⟩ := by decide +kernel
theorem own_pn3 : plainName "com/example/bucketd/bucketd/quota/QuotaReport" = true := by first | (simp [plainName, overriddenIn]; done) | decide +kernel
theorem d2_0 : decode prog_29_method_1_code 0 = .ok (.aload_n 0, 1) := by decide +kernel
theorem d2_1 : decode prog_29_method_1_code 1 = .ok (.invokespecial 3, 3) := by decide +kernel
theorem d2_4 : decode prog_29_method_1_code 4 = .ok (.aload_n 0, 1) := by decide +kernel
theorem d2_5 : decode prog_29_method_1_code 5 = .ok (.iconst 2, 1) := by decide +kernel
theorem d2_6 : decode prog_29_method_1_code 6 = .ok (.getstatic 9, 3) := by decide +kernel
theorem d2_9 : decode prog_29_method_1_code 9 = .ok (.invokeinterface 15 1, 5) := by decide +kernel
theorem d2_14 : decode prog_29_method_1_code 14 = .ok (.imul, 1) := by decide +kernel
theorem d2_15 : decode prog_29_method_1_code 15 = .ok (.newarray .int, 2) := by decide +kernel
theorem d2_17 : decode prog_29_method_1_code 17 = .ok (.putfield 21, 3) := by decide +kernel
theorem d2_20 : decode prog_29_method_1_code 20 = .ok (.return_, 1) := by decide +kernel
theorem ef_2 (m : MethodId) (x0 : Addr) : entryFrame m #[(.ref x0)] 1 = mkF m 0 #[.val (.ref x0)] [] := by first | (simp [entryFrame, mkF, argsToLocals, Value.category]; done) | rfl
def Q2 (Z : State) (a1 : Addr) (k1 : Addr) (k2 : Addr) (ks : List Value) (h0 : Heap) (n0 : Nat) (v : Option Value) (h : Heap) (L : List Loc) : Prop := ∃ (b : Addr), v = none ∧ Fr n0 L ∧ Keep h0 h [a1] ∧ n0 ≤ b ∧ h0.size ≤ b ∧ Exa Z h a1 "com/example/bucketd/bucketd/quota/QuotaReport" ∧ Fld Z h a1 "com/example/bucketd/bucketd/quota/QuotaReport" "counts" "[I" (.ref b) ∧ own_A Z h b .int ((List.replicate 12 (0 : Int32)).map Value.int)
set_option maxHeartbeats 40000000 in
theorem rm2 (l : Launch) (Z : State) (a0 : Array Value) (hw : ∀ d ∈ tables_1, d.before a0 Z = true) (ws : List Jvm.Cond) (a1 : Addr) (k1 : Addr) (k2 : Addr) (ks : List Value) (h0 : Heap) (n0 : Nat) (Z0 : n0 ≤ h0.size) (F0 : Exa Z h0 a1 "com/example/bucketd/bucketd/quota/QuotaReport") (F1 : Fld Z h0 a1 "com/example/bucketd/bucketd/quota/QuotaReport" "counts" "[I" .null) (F2 : Sta Z h0 "com/example/bucketd/bucketd/quota/QuotaReport" "KINDS" "Ljava/util/List;" (.ref k1)) (F3 : Exa Z h0 k1 "java/util/ImmutableCollections$ListN") (F4 : Fld Z h0 k1 "java/util/ImmutableCollections$ListN" "elements" "[Ljava/lang/Object;" (.ref k2)) (F5 : own_A Z h0 k2 (.object "java/lang/Object") ks) (ga : n0 ≤ a1) (hk : ks.length = 6) :
    MetFree l (⟨"com/example/bucketd/bucketd/quota/QuotaReport", "<init>", "()V"⟩ : MethodName) (head1 (Jvm.Cond.code (⟨"com/example/bucketd/bucketd/quota/QuotaReport", "<init>", "()V"⟩ : MethodName) prog_29_method_1_code 1 none :: ws) ({ frames := 1, cells := 1, slots := 12, locals := 14 } : Room)) (fun a U => a = #[(.ref a1)] ∧ Z.Warmed39 U.vm ∧ U.heap = h0) (fun _ _ _ _ _ => True) (fun _ U o U' => ∃ v L, o = .returned v ∧ Q2 Z a1 k1 k2 ks h0 n0 v U'.heap L ∧ FrameEnd U o U' L ({ frames := 1, cells := 1, slots := 12, locals := 14 } : Room).cells ({ frames := 1, cells := 1, slots := 12, locals := 14 } : Room).slots) := by
  refine MetFree.of_bodySF (plainFor_of_name own_pn3) hisR ?_
  intro p e s m args below meth c s₁ Bd hml0 hP hK
  obtain ⟨rfl, hZ, hh⟩ := hP
  have hx := Bd.exec
  have hby := Bd.bytes
  have hml : c.maxLocals = 1 := hml0
  have hlk : meth.locks = false := BodyLoose.notSynchronized Bd
  have hown : s.vm.findClass "com/example/bucketd/bucketd/quota/QuotaReport" = some m.cls := findClass_of_methodNamed Bd.named
  have hnm := (name_of_methodNamed Bd.named Bd.method).1
  have X0 : Stand p l e ({ frames := 1, cells := 1, slots := 12, locals := 14 } : Room) s m #[(.ref a1)] below meth c s₁ [] 0 0 := Stand.of_body Bd
  have e0 : s₁.heap = h0 := by rw [← hh, Bd.state]; rfl
  have N0 := Fr.nil n0
  show own_Go p e below s (Q2 Z a1 k1 k2 ks h0 n0) ({ frames := 1, cells := 1, slots := 12, locals := 14 } : Room).cells ({ frames := 1, cells := 1, slots := 12, locals := 14 } : Room).slots _
  refine own_st (B := s₁.setTop (mkF m 0 #[.val (.ref a1)] [])) (fun t k => castTop (ef_2 m (a1)) k) ?_
  refine own_st (B := s₁.setTop (mkF m 1 #[.val (.ref a1)] [(.ref a1)])) (fun t k => XS.aloadN X0.here hx rfl (hb hby d2_0) rfl rfl k) ?_
  obtain ⟨T1, X1, e1, st1⟩ := initO X0 hx hZ hown (w_17 hw) (w_18 hw) (w_19 hw) e0 (g := (mkF m 1 #[.val (.ref a1)] [(.ref a1)])) rfl (by rw [hml]; rfl) rfl (hb hby d2_1) (by decide) (W := 0) (by show 2 * 0 + _ ≤ _; exact Nat.le_of_eq rfl) (by decide)
  refine own_st (B := T1.setTop (mkF m 4 #[.val (.ref a1)] [])) (fun t k => st1 t k) ?_
  refine own_st (B := T1.setTop (mkF m 5 #[.val (.ref a1)] [(.ref a1)])) (fun t k => XS.aloadN X1.here hx rfl (hb hby d2_4) rfl rfl k) ?_
  refine own_st (B := T1.setTop (mkF m 6 #[.val (.ref a1)] [(.int (2 : Int32)), (.ref a1)])) (fun t k => XS.iconst X1.here hx rfl (hb hby d2_5) k) ?_
  obtain ⟨T2, X2, e2, st2⟩ := getS2 X1 hx hZ hown (host := "") (Or.inl (w_20 hw)) Via.refl e1 F2 (g := (mkF m 6 #[.val (.ref a1)] [(.int (2 : Int32)), (.ref a1)])) rfl (hb hby d2_6)
  refine own_st (B := T2.setTop (mkF m 9 #[.val (.ref a1)] [(.ref k1), (.int (2 : Int32)), (.ref a1)])) (fun t k => st2 t k) ?_
  obtain ⟨cq3, kq3, q3a, q3b, q3c⟩ := isOf hZ e2 F3
  obtain ⟨_, _, ⟨T3, L3, k3, j3⟩, -, X3, ⟨Lc3, hQ3, l3, y3_, z3_⟩, st3⟩ := X2.interfaceBack hx (xi := (⟨"java/util/List", "size", "()I"⟩ : MethodName)) (y := (⟨"java/util/ImmutableCollections$ListN", "size", "()I"⟩ : MethodName)) hown (mvT hZ (w_22 hw)) (mvT hZ (w_23 hw)) (mvT hZ (w_24 hw)) (mvT hZ (w_25 hw)) (mvT hZ (w_26 hw)) (mvT hZ (w_27 hw)) (mvT hZ (w_28 hw)) (mvT hZ (w_29 hw)) (by decide) (backOf (W := 2) (rm4 l Z a0 hw [] k1 k2 ks h0 n0 Z0 F4 F5 hk) hZ (w_31 hw) (w_30 hw) (by decide) (by decide)) q3a q3b q3c (g := (mkF m 9 #[.val (.ref a1)] [(.ref k1), (.int (2 : Int32)), (.ref a1)])) rfl (by rw [hml]; rfl) (Steps.refl _) (argsL := []) (rest := [(.int (2 : Int32)), (.ref a1)]) (lenOf own_pd2 rfl) rfl (by show 2 * 0 + _ ≤ _; exact Nat.le_of_eq rfl) (hb hby d2_9) (fun _ _ => ⟨rfl, e2, (by decide : 0 + 0 ≤ _), (by decide : 0 + 0 ≤ _)⟩)
  dsimp only [Pt.U, Pt.locs, Pt.cells, Pt.slots] at X3 l3 y3_ z3_ st3 hQ3
  subst l3 y3_ z3_
  obtain ⟨rfl, N3q, e3q⟩ := hQ3
  have N3 := Fr.app N0 N3q
  refine own_ss (B := T3.setTop (mkF m 14 #[.val (.ref a1)] [(.int (6 : Int32)), (.int (2 : Int32)), (.ref a1)])) st3 ?_
  refine own_st (B := T3.setTop (mkF m 15 #[.val (.ref a1)] [(.int ((2 : Int32) * (6 : Int32))), (.ref a1)])) (fun t k => XS.imul X3.here hx rfl (hb hby d2_14) rfl k) ?_
  obtain ⟨T4, h4, X4, e4, E4, A4, x4, st4⟩ := own_newP X3 hx hZ (aty := .int) (w_34 hw) e3q (g := (mkF m 15 #[.val (.ref a1)] [(.int ((2 : Int32) * (6 : Int32))), (.ref a1)])) rfl (hb hby d2_15) (n := ((2 : Int32) * (6 : Int32))) (rest := [(.ref a1)]) rfl (k := 12) (cap := 12) (by decide) (Nat.le_refl _) (by decide) (by decide) (by decide) (ad := "[I") rfl
  obtain ⟨b4, g4⟩ : ∃ z, z = h0.size := ⟨_, rfl⟩
  rw [← g4] at A4 x4 st4
  have q4_a1 : a1 ≠ b4 := Nat.ne_of_lt (Nat.lt_of_lt_of_le F0.lt (Nat.le_of_eq g4.symm))
  have q4_k1 : k1 ≠ b4 := Nat.ne_of_lt (Nat.lt_of_lt_of_le F3.lt (Nat.le_of_eq g4.symm))
  have q4_k2 : k2 ≠ b4 := Nat.ne_of_lt (Nat.lt_of_lt_of_le F5.lt (Nat.le_of_eq g4.symm))
  have u4 : n0 ≤ b4 := Nat.le_trans Z0 (Nat.le_of_eq g4.symm)
  have y4 : h0.size ≤ b4 := Nat.le_trans (Keep.refl h0 [a1]).1 (Nat.le_of_eq g4.symm)
  have z5 : n0 ≤ h4.size := Nat.le_trans Z0 E4.1
  have kp5 : Keep h0 h4 [a1] := (Keep.refl h0 [a1]).ext E4
  have f4_ : own_A Z h4 b4 .int (List.replicate 12 (.int (0 : Int32))) := A4
  refine own_st (B := T4.setTop (mkF m 17 #[.val (.ref a1)] [(.ref b4), (.ref a1)])) (fun t k => st4 t k) ?_
  have f6 : Exa Z h4 a1 "com/example/bucketd/bucketd/quota/QuotaReport" := (F0.ext E4)
  have f7 : Fld Z h4 a1 "com/example/bucketd/bucketd/quota/QuotaReport" "counts" "[I" .null := (F1.ext E4)
  obtain ⟨T8, h8, X8, e8, W8, st8⟩ := putF X4 hx hZ hown (host := "") (Or.inl (w_35 hw)) Via.refl e4 f7 f6 (Or.inr ⟨(w_36 hw), rfl, hnm⟩) (w_12 hw) (ty := (.array .int)) (by decide) rfl rfl (g := (mkF m 17 #[.val (.ref a1)] [(.ref b4), (.ref a1)])) rfl rfl (hb hby d2_17)
  have f8_ : Fld Z h8 a1 "com/example/bucketd/bucketd/quota/QuotaReport" "counts" "[I" (.ref b4) := f7.same W8
  have z9 : n0 ≤ h8.size := Nat.le_trans z5 (Keep.of_wr W8).1
  have kp9 : Keep h0 h8 [a1] := kp5.wr W8 (Or.inl (List.mem_of_getElem? (i := 0) rfl))
  have n10 := Fr.snoc X8 N3 ga
  refine own_st (B := T8.setTop (mkF m 20 #[.val (.ref a1)] [])) (fun t k => st8 t k) ?_
  refine own_retV X8 hx hlk Bd.returns (hb hby d2_20) (by decide) (by decide) ?_
  show Q2 Z a1 k1 k2 ks h0 n0 _ T8.heap _
  rw [e8]
  have f11 : Exa Z h8 a1 "com/example/bucketd/bucketd/quota/QuotaReport" := (f6.wr W8)
  have f12 : own_A Z h8 b4 .int (List.replicate 12 (.int (0 : Int32))) := (f4_.other W8 (Ne.symm q4_a1))
  exact ⟨b4, rfl, n10, kp9, u4, y4, f11, f8_, (by rw [List.map_replicate]; exact f12)⟩
theorem own_pn4 : plainName "java/lang/Enum" = true := by first | (simp [plainName, overriddenIn]; done) | decide +kernel
theorem d6_0 : decode jdk_37_method_2_code 0 = .ok (.aload_n 0, 1) := by decide +kernel
theorem d6_1 : decode jdk_37_method_2_code 1 = .ok (.getfield 7, 3) := by decide +kernel
theorem d6_4 : decode jdk_37_method_2_code 4 = .ok (.ireturn, 1) := by decide +kernel
theorem ef_6 (m : MethodId) (x0 : Addr) : entryFrame m #[(.ref x0)] 1 = mkF m 0 #[.val (.ref x0)] [] := by first | (simp [entryFrame, mkF, argsToLocals, Value.category]; done) | rfl
def Q6 (Z : State) (a1 : Addr) (p1 : Int32) (h0 : Heap) (n0 : Nat) (v : Option Value) (h : Heap) (L : List Loc) : Prop := v = some (.int p1) ∧ Fr n0 L ∧ h = h0
set_option maxHeartbeats 40000000 in
theorem rm6 (l : Launch) (Z : State) (a0 : Array Value) (hw : ∀ d ∈ tables_1, d.before a0 Z = true) (ws : List Jvm.Cond) (a1 : Addr) (p1 : Int32) (h0 : Heap) (n0 : Nat) (Z0 : n0 ≤ h0.size) (F0 : Fld Z h0 a1 "java/lang/Enum" "ordinal" "I" (.int p1)) :
    MetFree l (⟨"java/lang/Enum", "ordinal", "()I"⟩ : MethodName) (head1 (Jvm.Cond.code (⟨"java/lang/Enum", "ordinal", "()I"⟩ : MethodName) jdk_37_method_2_code 1 (some .int) :: ws) ({ frames := 0, cells := 0, slots := 0, locals := 0 } : Room)) (fun a U => a = #[(.ref a1)] ∧ Z.Warmed39 U.vm ∧ U.heap = h0) (fun _ _ _ _ _ => True) (fun _ U o U' => ∃ v L, o = .returned v ∧ Q6 Z a1 p1 h0 n0 v U'.heap L ∧ FrameEnd U o U' L ({ frames := 0, cells := 0, slots := 0, locals := 0 } : Room).cells ({ frames := 0, cells := 0, slots := 0, locals := 0 } : Room).slots) := by
  refine MetFree.of_bodySF (plainFor_of_name own_pn4) hisR ?_
  intro p e s m args below meth c s₁ Bd hml0 hP hK
  obtain ⟨rfl, hZ, hh⟩ := hP
  have hx := Bd.exec
  have hby := Bd.bytes
  have hml : c.maxLocals = 1 := hml0
  have hlk : meth.locks = false := BodyLoose.notSynchronized Bd
  have hown : s.vm.findClass "java/lang/Enum" = some m.cls := findClass_of_methodNamed Bd.named
  have hnm := (name_of_methodNamed Bd.named Bd.method).1
  have X0 : Stand p l e ({ frames := 0, cells := 0, slots := 0, locals := 0 } : Room) s m #[(.ref a1)] below meth c s₁ [] 0 0 := Stand.of_body Bd
  have e0 : s₁.heap = h0 := by rw [← hh, Bd.state]; rfl
  have N0 := Fr.nil n0
  show own_Go p e below s (Q6 Z a1 p1 h0 n0) ({ frames := 0, cells := 0, slots := 0, locals := 0 } : Room).cells ({ frames := 0, cells := 0, slots := 0, locals := 0 } : Room).slots _
  refine own_st (B := s₁.setTop (mkF m 0 #[.val (.ref a1)] [])) (fun t k => castTop (ef_6 m (a1)) k) ?_
  refine own_st (B := s₁.setTop (mkF m 1 #[.val (.ref a1)] [(.ref a1)])) (fun t k => XS.aloadN X0.here hx rfl (hb hby d6_0) rfl rfl k) ?_
  obtain ⟨T1, X1, e1, st1⟩ := getF X0 hx hZ hown (host := "") (Or.inl (w_49 hw)) Via.refl e0 F0 (g := (mkF m 1 #[.val (.ref a1)] [(.ref a1)])) rfl rfl (hb hby d6_1)
  refine own_st (B := T1.setTop (mkF m 4 #[.val (.ref a1)] [(.int p1)])) (fun t k => st1 t k) ?_
  refine own_retI X1 hx hlk Bd.returns (hb hby d6_4) (by decide) (by decide) ?_
  show Q6 Z a1 p1 h0 n0 _ T1.heap _
  rw [e1]
  exact ⟨rfl, N0, rfl⟩
theorem d7_0 : decode jdk_29_method_70_code 0 = .ok (.lload_n 0, 1) := by decide +kernel
theorem d7_1 : decode jdk_29_method_70_code 1 = .ok (.lload_n 2, 1) := by decide +kernel
theorem d7_2 : decode jdk_29_method_70_code 2 = .ok (.lcmp, 1) := by decide +kernel
theorem d7_3 : decode jdk_29_method_70_code 3 = .ok (.ifCond .gt 7, 3) := by decide +kernel
theorem d7_6 : decode jdk_29_method_70_code 6 = .ok (.lload_n 0, 1) := by decide +kernel
theorem d7_7 : decode jdk_29_method_70_code 7 = .ok (.goto 4, 3) := by decide +kernel
theorem d7_10 : decode jdk_29_method_70_code 10 = .ok (.lload_n 2, 1) := by decide +kernel
theorem d7_11 : decode jdk_29_method_70_code 11 = .ok (.lreturn, 1) := by decide +kernel
theorem ef_7 (m : MethodId) (x0 : Int64) (x1 : Int64) : entryFrame m #[(.long x0), (.long x1)] 4 = mkF m 0 #[.val (.long x0), .second, .val (.long x1), .second] [] := by first | (simp [entryFrame, mkF, argsToLocals, Value.category]; done) | rfl
def own_min (q1 : Int64) (q2 : Int64) : Int64 := (if q2 < q1 then q2 else q1)
def Q7 (Z : State) (q1 : Int64) (q2 : Int64) (h0 : Heap) (n0 : Nat) (v : Option Value) (h : Heap) (L : List Loc) : Prop := v = some (.long (own_min q1 q2)) ∧ Fr n0 L ∧ h = h0
set_option maxHeartbeats 40000000 in
theorem rm7 (l : Launch) (Z : State) (a0 : Array Value) (hw : ∀ d ∈ tables_1, d.before a0 Z = true) (ws : List Jvm.Cond) (q1 : Int64) (q2 : Int64) (h0 : Heap) (n0 : Nat) (Z0 : n0 ≤ h0.size) :
    MetFree l (⟨"java/lang/Math", "min", "(JJ)J"⟩ : MethodName) (head1 (Jvm.Cond.code (⟨"java/lang/Math", "min", "(JJ)J"⟩ : MethodName) jdk_29_method_70_code 4 (some .long) :: ws) ({ frames := 0, cells := 0, slots := 0, locals := 0 } : Room)) (fun a U => a = #[(.long q1), (.long q2)] ∧ Z.Warmed39 U.vm ∧ U.heap = h0) (fun _ _ _ _ _ => True) (fun _ U o U' => ∃ v L, o = .returned v ∧ Q7 Z q1 q2 h0 n0 v U'.heap L ∧ FrameEnd U o U' L ({ frames := 0, cells := 0, slots := 0, locals := 0 } : Room).cells ({ frames := 0, cells := 0, slots := 0, locals := 0 } : Room).slots) := by
  refine MetFree.of_bodySF (Jvm.Free.JP.mathPlain rfl (by decide +kernel)) hisR ?_
  intro p e s m args below meth c s₁ Bd hml0 hP hK
  obtain ⟨rfl, hZ, hh⟩ := hP
  have hx := Bd.exec
  have hby := Bd.bytes
  have hml : c.maxLocals = 4 := hml0
  have hlk : meth.locks = false := BodyLoose.notSynchronized Bd
  have hown : s.vm.findClass "java/lang/Math" = some m.cls := findClass_of_methodNamed Bd.named
  have hnm := (name_of_methodNamed Bd.named Bd.method).1
  have X0 : Stand p l e ({ frames := 0, cells := 0, slots := 0, locals := 0 } : Room) s m #[(.long q1), (.long q2)] below meth c s₁ [] 0 0 := Stand.of_body Bd
  have e0 : s₁.heap = h0 := by rw [← hh, Bd.state]; rfl
  have N0 := Fr.nil n0
  show own_Go p e below s (Q7 Z q1 q2 h0 n0) ({ frames := 0, cells := 0, slots := 0, locals := 0 } : Room).cells ({ frames := 0, cells := 0, slots := 0, locals := 0 } : Room).slots _
  refine own_st (B := s₁.setTop (mkF m 0 #[.val (.long q1), .second, .val (.long q2), .second] [])) (fun t k => castTop (ef_7 m (q1) (q2)) k) ?_
  refine own_st (B := s₁.setTop (mkF m 1 #[.val (.long q1), .second, .val (.long q2), .second] [(.long q1)])) (fun t k => XS.lloadN X0.here hx rfl (hb hby d7_0) rfl k) ?_
  refine own_st (B := s₁.setTop (mkF m 2 #[.val (.long q1), .second, .val (.long q2), .second] [(.long q2), (.long q1)])) (fun t k => XS.lloadN X0.here hx rfl (hb hby d7_1) rfl k) ?_
  refine own_st (B := s₁.setTop (mkF m 3 #[.val (.long q1), .second, .val (.long q2), .second] [(.int (XT.cmpL q1 q2))])) (fun t k => XS.lcmp X0.here hx rfl (hb hby d7_2) rfl k) ?_
  by_cases hc1 : q2 < q1
  · refine own_st (B := s₁.setTop (mkF m 10 #[.val (.long q1), .second, .val (.long q2), .second] [])) (fun t k => XS.ifYes X0.here hx rfl (pc0 := 3) (pc' := 10) rfl (hb hby d7_3) rfl (XT.ll_gt_t hc1) (by decide) (by decide) k) ?_
    refine own_st (B := s₁.setTop (mkF m 11 #[.val (.long q1), .second, .val (.long q2), .second] [(.long q2)])) (fun t k => XS.lloadN X0.here hx rfl (hb hby d7_10) rfl k) ?_
    refine own_retJ X0 hx hlk Bd.returns (hb hby d7_11) (by decide) (by decide) ?_
    show Q7 Z q1 q2 h0 n0 _ s₁.heap _
    rw [e0]
    exact ⟨(by unfold own_min; rw [if_pos hc1]), N0, rfl⟩
  · refine own_st (B := s₁.setTop (mkF m 6 #[.val (.long q1), .second, .val (.long q2), .second] [])) (fun t k => XS.ifNo X0.here hx rfl (hb hby d7_3) rfl (XT.ll_gt_f hc1) k) ?_
    refine own_st (B := s₁.setTop (mkF m 7 #[.val (.long q1), .second, .val (.long q2), .second] [(.long q1)])) (fun t k => XS.lloadN X0.here hx rfl (hb hby d7_6) rfl k) ?_
    refine own_st (B := s₁.setTop (mkF m 11 #[.val (.long q1), .second, .val (.long q2), .second] [(.long q1)])) (fun t k => XS.goto X0.here hx rfl (pc0 := 7) (pc' := 11) rfl (hb hby d7_7) (by decide) (by decide) k) ?_
    refine own_retJ X0 hx hlk Bd.returns (hb hby d7_11) (by decide) (by decide) ?_
    show Q7 Z q1 q2 h0 n0 _ s₁.heap _
    rw [e0]
    exact ⟨(by unfold own_min; rw [if_neg hc1]), N0, rfl⟩
theorem d9_0 : decode method_3_code 0 = .ok (.lload_n 0, 1) := by decide +kernel
theorem d9_1 : decode method_3_code 1 = .ok (.ldc2_w 28, 3) := by decide +kernel
theorem d9_4 : decode method_3_code 4 = .ok (.lcmp, 1) := by decide +kernel
theorem d9_5 : decode method_3_code 5 = .ok (.ifCond .le 7, 3) := by decide +kernel
theorem d9_8 : decode method_3_code 8 = .ok (.ldc2_w 28, 3) := by decide +kernel
theorem d9_11 : decode method_3_code 11 = .ok (.lreturn, 1) := by decide +kernel
theorem d9_12 : decode method_3_code 12 = .ok (.lload_n 0, 1) := by decide +kernel
theorem d9_13 : decode method_3_code 13 = .ok (.lreturn, 1) := by decide +kernel
theorem ef_9 (m : MethodId) (x0 : Int64) : entryFrame m #[(.long x0)] 2 = mkF m 0 #[.val (.long x0), .second] [] := by first | (simp [entryFrame, mkF, argsToLocals, Value.category]; done) | rfl
def own_cap (q1 : Int64) : Int64 := (if (2147483647 : Int64) < q1 then (2147483647 : Int64) else q1)
def Q9 (Z : State) (q1 : Int64) (h0 : Heap) (n0 : Nat) (v : Option Value) (h : Heap) (L : List Loc) : Prop := v = some (.long (own_cap q1)) ∧ Fr n0 L ∧ h = h0
set_option maxHeartbeats 40000000 in
theorem rm9 (l : Launch) (Z : State) (a0 : Array Value) (hw : ∀ d ∈ tables_1, d.before a0 Z = true) (ws : List Jvm.Cond) (q1 : Int64) (h0 : Heap) (n0 : Nat) (Z0 : n0 ≤ h0.size) :
    MetFree l (⟨"com/example/bucketd/bucketd/quota/QuotaReportRemainingPinLaw", "cap", "(J)J"⟩ : MethodName) (head1 (Jvm.Cond.code (⟨"com/example/bucketd/bucketd/quota/QuotaReportRemainingPinLaw", "cap", "(J)J"⟩ : MethodName) method_3_code 2 (some .long) :: ws) ({ frames := 0, cells := 0, slots := 0, locals := 0 } : Room)) (fun a U => a = #[(.long q1)] ∧ Z.Warmed39 U.vm ∧ U.heap = h0) (fun _ _ _ _ _ => True) (fun _ U o U' => ∃ v L, o = .returned v ∧ Q9 Z q1 h0 n0 v U'.heap L ∧ FrameEnd U o U' L ({ frames := 0, cells := 0, slots := 0, locals := 0 } : Room).cells ({ frames := 0, cells := 0, slots := 0, locals := 0 } : Room).slots) := by
  refine MetFree.of_bodySF (plainFor_of_name own_pn1) hisR ?_
  intro p e s m args below meth c s₁ Bd hml0 hP hK
  obtain ⟨rfl, hZ, hh⟩ := hP
  have hx := Bd.exec
  have hby := Bd.bytes
  have hml : c.maxLocals = 2 := hml0
  have hlk : meth.locks = false := BodyLoose.notSynchronized Bd
  have hown : s.vm.findClass "com/example/bucketd/bucketd/quota/QuotaReportRemainingPinLaw" = some m.cls := findClass_of_methodNamed Bd.named
  have hnm := (name_of_methodNamed Bd.named Bd.method).1
  have X0 : Stand p l e ({ frames := 0, cells := 0, slots := 0, locals := 0 } : Room) s m #[(.long q1)] below meth c s₁ [] 0 0 := Stand.of_body Bd
  have e0 : s₁.heap = h0 := by rw [← hh, Bd.state]; rfl
  have N0 := Fr.nil n0
  show own_Go p e below s (Q9 Z q1 h0 n0) ({ frames := 0, cells := 0, slots := 0, locals := 0 } : Room).cells ({ frames := 0, cells := 0, slots := 0, locals := 0 } : Room).slots _
  refine own_st (B := s₁.setTop (mkF m 0 #[.val (.long q1), .second] [])) (fun t k => castTop (ef_9 m (q1)) k) ?_
  refine own_st (B := s₁.setTop (mkF m 1 #[.val (.long q1), .second] [(.long q1)])) (fun t k => XS.lloadN X0.here hx rfl (hb hby d9_0) rfl k) ?_
  refine own_st (B := s₁.setTop (mkF m 4 #[.val (.long q1), .second] [(.long (2147483647 : Int64)), (.long q1)])) (fun t k => X0.ldc2Long hx hown (mvT hZ (w_64 hw)) (g := (mkF m 1 #[.val (.long q1), .second] [(.long q1)])) rfl (hb hby d9_1) _ k) ?_
  refine own_st (B := s₁.setTop (mkF m 5 #[.val (.long q1), .second] [(.int (XT.cmpL q1 (2147483647 : Int64)))])) (fun t k => XS.lcmp X0.here hx rfl (hb hby d9_4) rfl k) ?_
  by_cases hc1 : (2147483647 : Int64) < q1
  · refine own_st (B := s₁.setTop (mkF m 8 #[.val (.long q1), .second] [])) (fun t k => XS.ifNo X0.here hx rfl (hb hby d9_5) rfl (XT.ll_le_f hc1) k) ?_
    refine own_st (B := s₁.setTop (mkF m 11 #[.val (.long q1), .second] [(.long (2147483647 : Int64))])) (fun t k => X0.ldc2Long hx hown (mvT hZ (w_64 hw)) (g := (mkF m 8 #[.val (.long q1), .second] [])) rfl (hb hby d9_8) _ k) ?_
    refine own_retJ X0 hx hlk Bd.returns (hb hby d9_11) (by decide) (by decide) ?_
    show Q9 Z q1 h0 n0 _ s₁.heap _
    rw [e0]
    exact ⟨(by unfold own_cap; rw [if_pos hc1]), N0, rfl⟩
  · refine own_st (B := s₁.setTop (mkF m 12 #[.val (.long q1), .second] [])) (fun t k => XS.ifYes X0.here hx rfl (pc0 := 5) (pc' := 12) rfl (hb hby d9_5) rfl (XT.ll_le_t hc1) (by decide) (by decide) k) ?_
    refine own_st (B := s₁.setTop (mkF m 13 #[.val (.long q1), .second] [(.long q1)])) (fun t k => XS.lloadN X0.here hx rfl (hb hby d9_12) rfl k) ?_
    refine own_retJ X0 hx hlk Bd.returns (hb hby d9_13) (by decide) (by decide) ?_
    show Q9 Z q1 h0 n0 _ s₁.heap _
    rw [e0]
    exact ⟨(by unfold own_cap; rw [if_neg hc1]), N0, rfl⟩
theorem own_i0 {o : Int32} (h : 0 ≤ o.toInt ∧ o.toInt ≤ 5) : (2 * o).toInt = ((2 * o.toInt.toNat : Nat) : Int) := by
  have h1 := c_imul 2 o
  have h2 : (2 : Int32).toInt = 2 := rfl
  have h3 := rng32 (2 * o)
  rw [h2] at h1
  omega
theorem own_i1 {o : Int32} (h : 0 ≤ o.toInt ∧ o.toInt ≤ 5) : (2 * o + 1).toInt = ((2 * o.toInt.toNat + 1 : Nat) : Int) := by
  have h1 := own_i0 h
  have h2 := c_iadd (2 * o) 1
  have h3 := rng32 (2 * o + 1)
  have h4 : (1 : Int32).toInt = 1 := rfl
  omega
theorem own_set_map (xs : List Int32) (i : Nat) (y : Int32) : (xs.map Value.int).set i (.int y) = (xs.set i y).map Value.int := by
  rw [List.map_set]
theorem own_pd5 : parseMethodDescriptor "(JJ)J" = some ⟨[.long, .long], some .long⟩ := by decide +kernel
theorem d5_0 : decode prog_29_method_2_code 0 = .ok (.aload_n 0, 1) := by decide +kernel
theorem d5_1 : decode prog_29_method_2_code 1 = .ok (.getfield 21, 3) := by decide +kernel
theorem d5_4 : decode prog_29_method_2_code 4 = .ok (.iconst 2, 1) := by decide +kernel
theorem d5_5 : decode prog_29_method_2_code 5 = .ok (.aload_n 1, 1) := by decide +kernel
theorem d5_6 : decode prog_29_method_2_code 6 = .ok (.invokevirtual 25, 3) := by decide +kernel
theorem d5_9 : decode prog_29_method_2_code 9 = .ok (.imul, 1) := by decide +kernel
theorem d5_10 : decode prog_29_method_2_code 10 = .ok (.lload_n 2, 1) := by decide +kernel
theorem d5_11 : decode prog_29_method_2_code 11 = .ok (.ldc2_w 30, 3) := by decide +kernel
theorem d5_14 : decode prog_29_method_2_code 14 = .ok (.invokestatic 32, 3) := by decide +kernel
theorem d5_17 : decode prog_29_method_2_code 17 = .ok (.l2i, 1) := by decide +kernel
theorem d5_18 : decode prog_29_method_2_code 18 = .ok (.iastore, 1) := by decide +kernel
theorem d5_19 : decode prog_29_method_2_code 19 = .ok (.aload_n 0, 1) := by decide +kernel
theorem d5_20 : decode prog_29_method_2_code 20 = .ok (.getfield 21, 3) := by decide +kernel
theorem d5_23 : decode prog_29_method_2_code 23 = .ok (.iconst 2, 1) := by decide +kernel
theorem d5_24 : decode prog_29_method_2_code 24 = .ok (.aload_n 1, 1) := by decide +kernel
theorem d5_25 : decode prog_29_method_2_code 25 = .ok (.invokevirtual 25, 3) := by decide +kernel
theorem d5_28 : decode prog_29_method_2_code 28 = .ok (.imul, 1) := by decide +kernel
theorem d5_29 : decode prog_29_method_2_code 29 = .ok (.iconst 1, 1) := by decide +kernel
theorem d5_30 : decode prog_29_method_2_code 30 = .ok (.iadd, 1) := by decide +kernel
theorem d5_31 : decode prog_29_method_2_code 31 = .ok (.lload 4, 2) := by decide +kernel
theorem d5_33 : decode prog_29_method_2_code 33 = .ok (.ldc2_w 30, 3) := by decide +kernel
theorem d5_36 : decode prog_29_method_2_code 36 = .ok (.invokestatic 32, 3) := by decide +kernel
theorem d5_39 : decode prog_29_method_2_code 39 = .ok (.l2i, 1) := by decide +kernel
theorem d5_40 : decode prog_29_method_2_code 40 = .ok (.iastore, 1) := by decide +kernel
theorem d5_41 : decode prog_29_method_2_code 41 = .ok (.return_, 1) := by decide +kernel
theorem ef_5 (m : MethodId) (x0 : Addr) (x1 : Addr) (x2 : Int64) (x3 : Int64) : entryFrame m #[(.ref x0), (.ref x1), (.long x2), (.long x3)] 6 = mkF m 0 #[.val (.ref x0), .val (.ref x1), .val (.long x2), .second, .val (.long x3), .second] [] := by first | (simp [entryFrame, mkF, argsToLocals, Value.category]; done) | rfl
def Q5 (Z : State) (a1 : Addr) (a2 : Addr) (q1 : Int64) (q2 : Int64) (b : Addr) (p1 : Int32) (xs : List Int32) (h0 : Heap) (n0 : Nat) (v : Option Value) (h : Heap) (L : List Loc) : Prop := v = none ∧ Fr n0 L ∧ Keep h0 h [b] ∧ own_A Z h b .int (((xs.set (2 * p1.toInt.toNat) (own_min q1 (2147483647 : Int64)).toInt32).set (2 * p1.toInt.toNat + 1) (own_min q2 (2147483647 : Int64)).toInt32).map Value.int)
set_option maxHeartbeats 40000000 in
theorem rm5 (l : Launch) (Z : State) (a0 : Array Value) (hw : ∀ d ∈ tables_1, d.before a0 Z = true) (ws : List Jvm.Cond) (a1 : Addr) (a2 : Addr) (q1 : Int64) (q2 : Int64) (b : Addr) (p1 : Int32) (xs : List Int32) (h0 : Heap) (n0 : Nat) (Z0 : n0 ≤ h0.size) (F0 : Fld Z h0 a1 "com/example/bucketd/bucketd/quota/QuotaReport" "counts" "[I" (.ref b)) (F1 : Exa Z h0 a2 "com/example/bucketd/bucketd/quota/BucketKind") (F2 : Fld Z h0 a2 "java/lang/Enum" "ordinal" "I" (.int p1)) (F3 : own_A Z h0 b .int (xs.map Value.int)) (F4 : Exa Z h0 a1 "com/example/bucketd/bucketd/quota/QuotaReport") (gb : n0 ≤ b) (nab : a1 ≠ b) (nb2 : a2 ≠ b) (hp : 0 ≤ p1.toInt ∧ p1.toInt ≤ 5) (hx12 : xs.length = 12) :
    MetFree l (⟨"com/example/bucketd/bucketd/quota/QuotaReport", "put", "(Lcom/example/bucketd/bucketd/quota/BucketKind;JJ)V"⟩ : MethodName) (head1 (Jvm.Cond.code (⟨"com/example/bucketd/bucketd/quota/QuotaReport", "put", "(Lcom/example/bucketd/bucketd/quota/BucketKind;JJ)V"⟩ : MethodName) prog_29_method_2_code 6 none :: ws) ({ frames := 1, cells := 0, slots := 0, locals := 17 } : Room)) (fun a U => a = #[(.ref a1), (.ref a2), (.long q1), (.long q2)] ∧ Z.Warmed39 U.vm ∧ U.heap = h0) (fun _ _ _ _ _ => True) (fun _ U o U' => ∃ v L, o = .returned v ∧ Q5 Z a1 a2 q1 q2 b p1 xs h0 n0 v U'.heap L ∧ FrameEnd U o U' L ({ frames := 1, cells := 0, slots := 0, locals := 17 } : Room).cells ({ frames := 1, cells := 0, slots := 0, locals := 17 } : Room).slots) := by
  refine MetFree.of_bodySF (plainFor_of_name own_pn3) hisR ?_
  intro p e s m args below meth c s₁ Bd hml0 hP hK
  obtain ⟨rfl, hZ, hh⟩ := hP
  have hx := Bd.exec
  have hby := Bd.bytes
  have hml : c.maxLocals = 6 := hml0
  have hlk : meth.locks = false := BodyLoose.notSynchronized Bd
  have hown : s.vm.findClass "com/example/bucketd/bucketd/quota/QuotaReport" = some m.cls := findClass_of_methodNamed Bd.named
  have hnm := (name_of_methodNamed Bd.named Bd.method).1
  have X0 : Stand p l e ({ frames := 1, cells := 0, slots := 0, locals := 17 } : Room) s m #[(.ref a1), (.ref a2), (.long q1), (.long q2)] below meth c s₁ [] 0 0 := Stand.of_body Bd
  have e0 : s₁.heap = h0 := by rw [← hh, Bd.state]; rfl
  have N0 := Fr.nil n0
  show own_Go p e below s (Q5 Z a1 a2 q1 q2 b p1 xs h0 n0) ({ frames := 1, cells := 0, slots := 0, locals := 17 } : Room).cells ({ frames := 1, cells := 0, slots := 0, locals := 17 } : Room).slots _
  refine own_st (B := s₁.setTop (mkF m 0 #[.val (.ref a1), .val (.ref a2), .val (.long q1), .second, .val (.long q2), .second] [])) (fun t k => castTop (ef_5 m (a1) (a2) (q1) (q2)) k) ?_
  refine own_st (B := s₁.setTop (mkF m 1 #[.val (.ref a1), .val (.ref a2), .val (.long q1), .second, .val (.long q2), .second] [(.ref a1)])) (fun t k => XS.aloadN X0.here hx rfl (hb hby d5_0) rfl rfl k) ?_
  obtain ⟨T1, X1, e1, st1⟩ := getF X0 hx hZ hown (host := "") (Or.inl (w_35 hw)) Via.refl e0 F0 (g := (mkF m 1 #[.val (.ref a1), .val (.ref a2), .val (.long q1), .second, .val (.long q2), .second] [(.ref a1)])) rfl rfl (hb hby d5_1)
  refine own_st (B := T1.setTop (mkF m 4 #[.val (.ref a1), .val (.ref a2), .val (.long q1), .second, .val (.long q2), .second] [(.ref b)])) (fun t k => st1 t k) ?_
  refine own_st (B := T1.setTop (mkF m 5 #[.val (.ref a1), .val (.ref a2), .val (.long q1), .second, .val (.long q2), .second] [(.int (2 : Int32)), (.ref b)])) (fun t k => XS.iconst X1.here hx rfl (hb hby d5_4) k) ?_
  refine own_st (B := T1.setTop (mkF m 6 #[.val (.ref a1), .val (.ref a2), .val (.long q1), .second, .val (.long q2), .second] [(.ref a2), (.int (2 : Int32)), (.ref b)])) (fun t k => XS.aloadN X1.here hx rfl (hb hby d5_5) rfl rfl k) ?_
  obtain ⟨cq2, kq2, q2a, q2b, q2c⟩ := isOf hZ e1 F1
  obtain ⟨_, _, ⟨T2, L2, k2, j2⟩, -, X2, ⟨Lc2, hQ2, l2, y2_, z2_⟩, st2⟩ := X1.virtualBackUp hx (x := (⟨"com/example/bucketd/bucketd/quota/BucketKind", "ordinal", "()I"⟩ : MethodName)) (y := (⟨"java/lang/Enum", "ordinal", "()I"⟩ : MethodName)) (owner := "java/lang/Enum") hown (mvT hZ (w_42 hw)) (mvT hZ (w_43 hw)) (mvT hZ (w_44 hw)) (by decide) (mvT hZ (w_46 hw)) (mvT hZ (w_45 hw)) (backOf (W := 2) (rm6 l Z a0 hw [] a2 p1 h0 n0 Z0 F2) hZ (w_48 hw) (w_47 hw) (by decide) (by decide)) q2a q2c (g := (mkF m 6 #[.val (.ref a1), .val (.ref a2), .val (.long q1), .second, .val (.long q2), .second] [(.ref a2), (.int (2 : Int32)), (.ref b)])) rfl (by rw [hml]; rfl) (Steps.refl _) (argsL := []) (rest := [(.int (2 : Int32)), (.ref b)]) (lenOf own_pd2 rfl) rfl (by show 2 * 0 + _ ≤ _; exact Nat.le_of_eq rfl) (hb hby d5_6) (fun _ _ => ⟨rfl, e1, (by decide : 0 + 0 ≤ _), (by decide : 0 + 0 ≤ _)⟩)
  dsimp only [Pt.U, Pt.locs, Pt.cells, Pt.slots] at X2 l2 y2_ z2_ st2 hQ2
  subst l2 y2_ z2_
  obtain ⟨rfl, N2q, e2q⟩ := hQ2
  have N2 := Fr.app N0 N2q
  refine own_ss (B := T2.setTop (mkF m 9 #[.val (.ref a1), .val (.ref a2), .val (.long q1), .second, .val (.long q2), .second] [(.int p1), (.int (2 : Int32)), (.ref b)])) st2 ?_
  refine own_st (B := T2.setTop (mkF m 10 #[.val (.ref a1), .val (.ref a2), .val (.long q1), .second, .val (.long q2), .second] [(.int ((2 : Int32) * p1)), (.ref b)])) (fun t k => XS.imul X2.here hx rfl (hb hby d5_9) rfl k) ?_
  refine own_st (B := T2.setTop (mkF m 11 #[.val (.ref a1), .val (.ref a2), .val (.long q1), .second, .val (.long q2), .second] [(.long q1), (.int ((2 : Int32) * p1)), (.ref b)])) (fun t k => XS.lloadN X2.here hx rfl (hb hby d5_10) rfl k) ?_
  refine own_st (B := T2.setTop (mkF m 14 #[.val (.ref a1), .val (.ref a2), .val (.long q1), .second, .val (.long q2), .second] [(.long (2147483647 : Int64)), (.long q1), (.int ((2 : Int32) * p1)), (.ref b)])) (fun t k => X2.ldc2Long hx hown (mvT hZ (w_51 hw)) (g := (mkF m 11 #[.val (.ref a1), .val (.ref a2), .val (.long q1), .second, .val (.long q2), .second] [(.long q1), (.int ((2 : Int32) * p1)), (.ref b)])) rfl (hb hby d5_11) _ k) ?_
  obtain ⟨_, _, ⟨T3, L3, k3, j3⟩, -, X3, ⟨Lc3, hQ3, l3, y3_, z3_⟩, st3⟩ := Jvm.LawKit.callS X2 hx (y := (⟨"java/lang/Math", "min", "(JJ)J"⟩ : MethodName)) hown (mvT hZ (w_52 hw)) (mvT hZ (w_53 hw)) (mvT hZ (w_54 hw)) (mvT hZ (w_55 hw)) (by decide) (backOf (W := 2) (rm7 l Z a0 hw [] q1 (2147483647 : Int64) h0 n0 Z0 ) hZ (w_55 hw) (w_54 hw) (by decide) (by decide)) (g := (mkF m 14 #[.val (.ref a1), .val (.ref a2), .val (.long q1), .second, .val (.long q2), .second] [(.long (2147483647 : Int64)), (.long q1), (.int ((2 : Int32) * p1)), (.ref b)])) rfl (by rw [hml]; rfl) (argsL := [(.long q1), (.long (2147483647 : Int64))]) (rest := [(.int ((2 : Int32) * p1)), (.ref b)]) (lenOf own_pd5 rfl) rfl (by show 2 * 0 + _ ≤ _; exact Nat.le_of_eq rfl) (hb hby d5_14) (fun _ _ => ⟨rfl, e2q, (by decide : 0 + 0 ≤ _), (by decide : 0 + 0 ≤ _)⟩)
  dsimp only [Pt.U, Pt.locs, Pt.cells, Pt.slots] at X3 l3 y3_ z3_ st3 hQ3
  subst l3 y3_ z3_
  obtain ⟨rfl, N3q, e3q⟩ := hQ3
  have N3 := Fr.app N2 N3q
  refine own_st (B := T3.setTop (mkF m 17 #[.val (.ref a1), .val (.ref a2), .val (.long q1), .second, .val (.long q2), .second] [(.long (own_min q1 (2147483647 : Int64))), (.int ((2 : Int32) * p1)), (.ref b)])) (fun t k => st3 t k) ?_
  refine own_st (B := T3.setTop (mkF m 18 #[.val (.ref a1), .val (.ref a2), .val (.long q1), .second, .val (.long q2), .second] [(.int ((own_min q1 (2147483647 : Int64)).toInt32)), (.int ((2 : Int32) * p1)), (.ref b)])) (fun t k => XS.l2i X3.here hx rfl (hb hby d5_17) rfl k) ?_
  obtain ⟨T4, h4, X4, e4, W4, A4, st4⟩ := own_stI X3 hx hZ e3q F3 (j := ((2 : Int32) * p1)) (x := ((own_min q1 (2147483647 : Int64)).toInt32)) (i := (2 * p1.toInt.toNat)) (own_i0 hp) (by rw [List.length_map]; omega) (g := (mkF m 18 #[.val (.ref a1), .val (.ref a2), .val (.long q1), .second, .val (.long q2), .second] [(.int ((own_min q1 (2147483647 : Int64)).toInt32)), (.int ((2 : Int32) * p1)), (.ref b)])) rfl rfl (hb hby d5_18)
  have f4_ : own_A Z h4 b .int ((xs.map Value.int).set (2 * p1.toInt.toNat) (.int ((own_min q1 (2147483647 : Int64)).toInt32))) := A4
  have z5 : n0 ≤ h4.size := Nat.le_trans Z0 (Keep.of_wr W4).1
  have kp5 : Keep h0 h4 [b] := (Keep.refl h0 [b]).wr W4 (Or.inl (List.mem_of_getElem? (i := 0) rfl))
  have n6 := Fr.snoc X4 N3 gb
  refine own_st (B := T4.setTop (mkF m 19 #[.val (.ref a1), .val (.ref a2), .val (.long q1), .second, .val (.long q2), .second] [])) (fun t k => st4 t k) ?_
  refine own_st (B := T4.setTop (mkF m 20 #[.val (.ref a1), .val (.ref a2), .val (.long q1), .second, .val (.long q2), .second] [(.ref a1)])) (fun t k => XS.aloadN X4.here hx rfl (hb hby d5_19) rfl rfl k) ?_
  have f7 : Fld Z h4 a1 "com/example/bucketd/bucketd/quota/QuotaReport" "counts" "[I" (.ref b) := (F0.other W4 (Or.inl nab))
  obtain ⟨T8, X8, e8, st8⟩ := getF X4 hx hZ hown (host := "") (Or.inl (w_35 hw)) Via.refl e4 f7 (g := (mkF m 20 #[.val (.ref a1), .val (.ref a2), .val (.long q1), .second, .val (.long q2), .second] [(.ref a1)])) rfl rfl (hb hby d5_20)
  refine own_st (B := T8.setTop (mkF m 23 #[.val (.ref a1), .val (.ref a2), .val (.long q1), .second, .val (.long q2), .second] [(.ref b)])) (fun t k => st8 t k) ?_
  refine own_st (B := T8.setTop (mkF m 24 #[.val (.ref a1), .val (.ref a2), .val (.long q1), .second, .val (.long q2), .second] [(.int (2 : Int32)), (.ref b)])) (fun t k => XS.iconst X8.here hx rfl (hb hby d5_23) k) ?_
  refine own_st (B := T8.setTop (mkF m 25 #[.val (.ref a1), .val (.ref a2), .val (.long q1), .second, .val (.long q2), .second] [(.ref a2), (.int (2 : Int32)), (.ref b)])) (fun t k => XS.aloadN X8.here hx rfl (hb hby d5_24) rfl rfl k) ?_
  have f9 : Fld Z h4 a2 "java/lang/Enum" "ordinal" "I" (.int p1) := (F2.other W4 (Or.inl nb2))
  have f11 : Exa Z h4 a2 "com/example/bucketd/bucketd/quota/BucketKind" := (F1.wr W4)
  obtain ⟨cq10, kq10, q10a, q10b, q10c⟩ := isOf hZ e8 f11
  obtain ⟨_, _, ⟨T10, L10, k10, j10⟩, -, X10, ⟨Lc10, hQ10, l10, y10_, z10_⟩, st10⟩ := X8.virtualBackUp hx (x := (⟨"com/example/bucketd/bucketd/quota/BucketKind", "ordinal", "()I"⟩ : MethodName)) (y := (⟨"java/lang/Enum", "ordinal", "()I"⟩ : MethodName)) (owner := "java/lang/Enum") hown (mvT hZ (w_42 hw)) (mvT hZ (w_43 hw)) (mvT hZ (w_44 hw)) (by decide) (mvT hZ (w_46 hw)) (mvT hZ (w_45 hw)) (backOf (W := 2) (rm6 l Z a0 hw [] a2 p1 h4 n0 z5 f9) hZ (w_48 hw) (w_47 hw) (by decide) (by decide)) q10a q10c (g := (mkF m 25 #[.val (.ref a1), .val (.ref a2), .val (.long q1), .second, .val (.long q2), .second] [(.ref a2), (.int (2 : Int32)), (.ref b)])) rfl (by rw [hml]; rfl) (Steps.refl _) (argsL := []) (rest := [(.int (2 : Int32)), (.ref b)]) (lenOf own_pd2 rfl) rfl (by show 2 * 0 + _ ≤ _; exact Nat.le_of_eq rfl) (hb hby d5_25) (fun _ _ => ⟨rfl, e8, (by decide : 0 + 0 ≤ _), (by decide : 0 + 0 ≤ _)⟩)
  dsimp only [Pt.U, Pt.locs, Pt.cells, Pt.slots] at X10 l10 y10_ z10_ st10 hQ10
  subst l10 y10_ z10_
  obtain ⟨rfl, N10q, e10q⟩ := hQ10
  have N10 := Fr.app n6 N10q
  refine own_ss (B := T10.setTop (mkF m 28 #[.val (.ref a1), .val (.ref a2), .val (.long q1), .second, .val (.long q2), .second] [(.int p1), (.int (2 : Int32)), (.ref b)])) st10 ?_
  refine own_st (B := T10.setTop (mkF m 29 #[.val (.ref a1), .val (.ref a2), .val (.long q1), .second, .val (.long q2), .second] [(.int ((2 : Int32) * p1)), (.ref b)])) (fun t k => XS.imul X10.here hx rfl (hb hby d5_28) rfl k) ?_
  refine own_st (B := T10.setTop (mkF m 30 #[.val (.ref a1), .val (.ref a2), .val (.long q1), .second, .val (.long q2), .second] [(.int (1 : Int32)), (.int ((2 : Int32) * p1)), (.ref b)])) (fun t k => XS.iconst X10.here hx rfl (hb hby d5_29) k) ?_
  refine own_st (B := T10.setTop (mkF m 31 #[.val (.ref a1), .val (.ref a2), .val (.long q1), .second, .val (.long q2), .second] [(.int (((2 : Int32) * p1) + (1 : Int32))), (.ref b)])) (fun t k => XS.iadd X10.here hx rfl (hb hby d5_30) rfl k) ?_
  refine own_st (B := T10.setTop (mkF m 33 #[.val (.ref a1), .val (.ref a2), .val (.long q1), .second, .val (.long q2), .second] [(.long q2), (.int (((2 : Int32) * p1) + (1 : Int32))), (.ref b)])) (fun t k => XS.lload X10.here hx rfl (hb hby d5_31) rfl k) ?_
  refine own_st (B := T10.setTop (mkF m 36 #[.val (.ref a1), .val (.ref a2), .val (.long q1), .second, .val (.long q2), .second] [(.long (2147483647 : Int64)), (.long q2), (.int (((2 : Int32) * p1) + (1 : Int32))), (.ref b)])) (fun t k => X10.ldc2Long hx hown (mvT hZ (w_51 hw)) (g := (mkF m 33 #[.val (.ref a1), .val (.ref a2), .val (.long q1), .second, .val (.long q2), .second] [(.long q2), (.int (((2 : Int32) * p1) + (1 : Int32))), (.ref b)])) rfl (hb hby d5_33) _ k) ?_
  obtain ⟨_, _, ⟨T12, L12, k12, j12⟩, -, X12, ⟨Lc12, hQ12, l12, y12_, z12_⟩, st12⟩ := Jvm.LawKit.callS X10 hx (y := (⟨"java/lang/Math", "min", "(JJ)J"⟩ : MethodName)) hown (mvT hZ (w_52 hw)) (mvT hZ (w_53 hw)) (mvT hZ (w_54 hw)) (mvT hZ (w_55 hw)) (by decide) (backOf (W := 2) (rm7 l Z a0 hw [] q2 (2147483647 : Int64) h4 n0 z5 ) hZ (w_55 hw) (w_54 hw) (by decide) (by decide)) (g := (mkF m 36 #[.val (.ref a1), .val (.ref a2), .val (.long q1), .second, .val (.long q2), .second] [(.long (2147483647 : Int64)), (.long q2), (.int (((2 : Int32) * p1) + (1 : Int32))), (.ref b)])) rfl (by rw [hml]; rfl) (argsL := [(.long q2), (.long (2147483647 : Int64))]) (rest := [(.int (((2 : Int32) * p1) + (1 : Int32))), (.ref b)]) (lenOf own_pd5 rfl) rfl (by show 2 * 0 + _ ≤ _; exact Nat.le_of_eq rfl) (hb hby d5_36) (fun _ _ => ⟨rfl, e10q, (by decide : 0 + 0 ≤ _), (by decide : 0 + 0 ≤ _)⟩)
  dsimp only [Pt.U, Pt.locs, Pt.cells, Pt.slots] at X12 l12 y12_ z12_ st12 hQ12
  subst l12 y12_ z12_
  obtain ⟨rfl, N12q, e12q⟩ := hQ12
  have N12 := Fr.app N10 N12q
  refine own_st (B := T12.setTop (mkF m 39 #[.val (.ref a1), .val (.ref a2), .val (.long q1), .second, .val (.long q2), .second] [(.long (own_min q2 (2147483647 : Int64))), (.int (((2 : Int32) * p1) + (1 : Int32))), (.ref b)])) (fun t k => st12 t k) ?_
  refine own_st (B := T12.setTop (mkF m 40 #[.val (.ref a1), .val (.ref a2), .val (.long q1), .second, .val (.long q2), .second] [(.int ((own_min q2 (2147483647 : Int64)).toInt32)), (.int (((2 : Int32) * p1) + (1 : Int32))), (.ref b)])) (fun t k => XS.l2i X12.here hx rfl (hb hby d5_39) rfl k) ?_
  obtain ⟨T13, h13, X13, e13, W13, A13, st13⟩ := own_stI X12 hx hZ e12q f4_ (j := (((2 : Int32) * p1) + (1 : Int32))) (x := ((own_min q2 (2147483647 : Int64)).toInt32)) (i := (2 * p1.toInt.toNat + 1)) (own_i1 hp) (by rw [List.length_set, List.length_map]; omega) (g := (mkF m 40 #[.val (.ref a1), .val (.ref a2), .val (.long q1), .second, .val (.long q2), .second] [(.int ((own_min q2 (2147483647 : Int64)).toInt32)), (.int (((2 : Int32) * p1) + (1 : Int32))), (.ref b)])) rfl rfl (hb hby d5_40)
  have f13_ : own_A Z h13 b .int (((xs.map Value.int).set (2 * p1.toInt.toNat) (.int ((own_min q1 (2147483647 : Int64)).toInt32))).set (2 * p1.toInt.toNat + 1) (.int ((own_min q2 (2147483647 : Int64)).toInt32))) := A13
  have z14 : n0 ≤ h13.size := Nat.le_trans z5 (Keep.of_wr W13).1
  have kp14 : Keep h0 h13 [b] := kp5.wr W13 (Or.inl (List.mem_of_getElem? (i := 0) rfl))
  have n15 := Fr.snoc X13 N12 gb
  refine own_st (B := T13.setTop (mkF m 41 #[.val (.ref a1), .val (.ref a2), .val (.long q1), .second, .val (.long q2), .second] [])) (fun t k => st13 t k) ?_
  refine own_retV X13 hx hlk Bd.returns (hb hby d5_41) (by decide) (by decide) ?_
  show Q5 Z a1 a2 q1 q2 b p1 xs h0 n0 _ T13.heap _
  rw [e13]
  exact ⟨rfl, n15, kp14, (by rw [← own_set_map, ← own_set_map]; exact f13_)⟩
theorem d8_0 : decode prog_29_method_5_code 0 = .ok (.aload_n 0, 1) := by decide +kernel
theorem d8_1 : decode prog_29_method_5_code 1 = .ok (.getfield 21, 3) := by decide +kernel
theorem d8_4 : decode prog_29_method_5_code 4 = .ok (.iconst 2, 1) := by decide +kernel
theorem d8_5 : decode prog_29_method_5_code 5 = .ok (.aload_n 1, 1) := by decide +kernel
theorem d8_6 : decode prog_29_method_5_code 6 = .ok (.invokevirtual 25, 3) := by decide +kernel
theorem d8_9 : decode prog_29_method_5_code 9 = .ok (.imul, 1) := by decide +kernel
theorem d8_10 : decode prog_29_method_5_code 10 = .ok (.iconst 1, 1) := by decide +kernel
theorem d8_11 : decode prog_29_method_5_code 11 = .ok (.iadd, 1) := by decide +kernel
theorem d8_12 : decode prog_29_method_5_code 12 = .ok (.iaload, 1) := by decide +kernel
theorem d8_13 : decode prog_29_method_5_code 13 = .ok (.i2l, 1) := by decide +kernel
theorem d8_14 : decode prog_29_method_5_code 14 = .ok (.lreturn, 1) := by decide +kernel
theorem ef_8 (m : MethodId) (x0 : Addr) (x1 : Addr) : entryFrame m #[(.ref x0), (.ref x1)] 2 = mkF m 0 #[.val (.ref x0), .val (.ref x1)] [] := by first | (simp [entryFrame, mkF, argsToLocals, Value.category]; done) | rfl
def Q8 (Z : State) (a1 : Addr) (a2 : Addr) (b : Addr) (p1 : Int32) (xs : List Int32) (h0 : Heap) (n0 : Nat) (v : Option Value) (h : Heap) (L : List Loc) : Prop := v = some (.long ((xs.getD (2 * p1.toInt.toNat + 1) 0).toInt64)) ∧ Fr n0 L ∧ h = h0
set_option maxHeartbeats 40000000 in
theorem rm8 (l : Launch) (Z : State) (a0 : Array Value) (hw : ∀ d ∈ tables_1, d.before a0 Z = true) (ws : List Jvm.Cond) (a1 : Addr) (a2 : Addr) (b : Addr) (p1 : Int32) (xs : List Int32) (h0 : Heap) (n0 : Nat) (Z0 : n0 ≤ h0.size) (F0 : Fld Z h0 a1 "com/example/bucketd/bucketd/quota/QuotaReport" "counts" "[I" (.ref b)) (F1 : Exa Z h0 a2 "com/example/bucketd/bucketd/quota/BucketKind") (F2 : Fld Z h0 a2 "java/lang/Enum" "ordinal" "I" (.int p1)) (F3 : own_A Z h0 b .int (xs.map Value.int)) (hp : 0 ≤ p1.toInt ∧ p1.toInt ≤ 5) (hx12 : xs.length = 12) :
    MetFree l (⟨"com/example/bucketd/bucketd/quota/QuotaReport", "remaining", "(Lcom/example/bucketd/bucketd/quota/BucketKind;)J"⟩ : MethodName) (head1 (Jvm.Cond.code (⟨"com/example/bucketd/bucketd/quota/QuotaReport", "remaining", "(Lcom/example/bucketd/bucketd/quota/BucketKind;)J"⟩ : MethodName) prog_29_method_5_code 2 (some .long) :: ws) ({ frames := 1, cells := 0, slots := 0, locals := 14 } : Room)) (fun a U => a = #[(.ref a1), (.ref a2)] ∧ Z.Warmed39 U.vm ∧ U.heap = h0) (fun _ _ _ _ _ => True) (fun _ U o U' => ∃ v L, o = .returned v ∧ Q8 Z a1 a2 b p1 xs h0 n0 v U'.heap L ∧ FrameEnd U o U' L ({ frames := 1, cells := 0, slots := 0, locals := 14 } : Room).cells ({ frames := 1, cells := 0, slots := 0, locals := 14 } : Room).slots) := by
  refine MetFree.of_bodySF (plainFor_of_name own_pn3) hisR ?_
  intro p e s m args below meth c s₁ Bd hml0 hP hK
  obtain ⟨rfl, hZ, hh⟩ := hP
  have hx := Bd.exec
  have hby := Bd.bytes
  have hml : c.maxLocals = 2 := hml0
  have hlk : meth.locks = false := BodyLoose.notSynchronized Bd
  have hown : s.vm.findClass "com/example/bucketd/bucketd/quota/QuotaReport" = some m.cls := findClass_of_methodNamed Bd.named
  have hnm := (name_of_methodNamed Bd.named Bd.method).1
  have X0 : Stand p l e ({ frames := 1, cells := 0, slots := 0, locals := 14 } : Room) s m #[(.ref a1), (.ref a2)] below meth c s₁ [] 0 0 := Stand.of_body Bd
  have e0 : s₁.heap = h0 := by rw [← hh, Bd.state]; rfl
  have N0 := Fr.nil n0
  show own_Go p e below s (Q8 Z a1 a2 b p1 xs h0 n0) ({ frames := 1, cells := 0, slots := 0, locals := 14 } : Room).cells ({ frames := 1, cells := 0, slots := 0, locals := 14 } : Room).slots _
  refine own_st (B := s₁.setTop (mkF m 0 #[.val (.ref a1), .val (.ref a2)] [])) (fun t k => castTop (ef_8 m (a1) (a2)) k) ?_
  refine own_st (B := s₁.setTop (mkF m 1 #[.val (.ref a1), .val (.ref a2)] [(.ref a1)])) (fun t k => XS.aloadN X0.here hx rfl (hb hby d8_0) rfl rfl k) ?_
  obtain ⟨T1, X1, e1, st1⟩ := getF X0 hx hZ hown (host := "") (Or.inl (w_35 hw)) Via.refl e0 F0 (g := (mkF m 1 #[.val (.ref a1), .val (.ref a2)] [(.ref a1)])) rfl rfl (hb hby d8_1)
  refine own_st (B := T1.setTop (mkF m 4 #[.val (.ref a1), .val (.ref a2)] [(.ref b)])) (fun t k => st1 t k) ?_
  refine own_st (B := T1.setTop (mkF m 5 #[.val (.ref a1), .val (.ref a2)] [(.int (2 : Int32)), (.ref b)])) (fun t k => XS.iconst X1.here hx rfl (hb hby d8_4) k) ?_
  refine own_st (B := T1.setTop (mkF m 6 #[.val (.ref a1), .val (.ref a2)] [(.ref a2), (.int (2 : Int32)), (.ref b)])) (fun t k => XS.aloadN X1.here hx rfl (hb hby d8_5) rfl rfl k) ?_
  obtain ⟨cq2, kq2, q2a, q2b, q2c⟩ := isOf hZ e1 F1
  obtain ⟨_, _, ⟨T2, L2, k2, j2⟩, -, X2, ⟨Lc2, hQ2, l2, y2_, z2_⟩, st2⟩ := X1.virtualBackUp hx (x := (⟨"com/example/bucketd/bucketd/quota/BucketKind", "ordinal", "()I"⟩ : MethodName)) (y := (⟨"java/lang/Enum", "ordinal", "()I"⟩ : MethodName)) (owner := "java/lang/Enum") hown (mvT hZ (w_42 hw)) (mvT hZ (w_43 hw)) (mvT hZ (w_44 hw)) (by decide) (mvT hZ (w_46 hw)) (mvT hZ (w_45 hw)) (backOf (W := 2) (rm6 l Z a0 hw [] a2 p1 h0 n0 Z0 F2) hZ (w_48 hw) (w_47 hw) (by decide) (by decide)) q2a q2c (g := (mkF m 6 #[.val (.ref a1), .val (.ref a2)] [(.ref a2), (.int (2 : Int32)), (.ref b)])) rfl (by rw [hml]; rfl) (Steps.refl _) (argsL := []) (rest := [(.int (2 : Int32)), (.ref b)]) (lenOf own_pd2 rfl) rfl (by show 2 * 0 + _ ≤ _; exact Nat.le_of_eq rfl) (hb hby d8_6) (fun _ _ => ⟨rfl, e1, (by decide : 0 + 0 ≤ _), (by decide : 0 + 0 ≤ _)⟩)
  dsimp only [Pt.U, Pt.locs, Pt.cells, Pt.slots] at X2 l2 y2_ z2_ st2 hQ2
  subst l2 y2_ z2_
  obtain ⟨rfl, N2q, e2q⟩ := hQ2
  have N2 := Fr.app N0 N2q
  refine own_ss (B := T2.setTop (mkF m 9 #[.val (.ref a1), .val (.ref a2)] [(.int p1), (.int (2 : Int32)), (.ref b)])) st2 ?_
  refine own_st (B := T2.setTop (mkF m 10 #[.val (.ref a1), .val (.ref a2)] [(.int ((2 : Int32) * p1)), (.ref b)])) (fun t k => XS.imul X2.here hx rfl (hb hby d8_9) rfl k) ?_
  refine own_st (B := T2.setTop (mkF m 11 #[.val (.ref a1), .val (.ref a2)] [(.int (1 : Int32)), (.int ((2 : Int32) * p1)), (.ref b)])) (fun t k => XS.iconst X2.here hx rfl (hb hby d8_10) k) ?_
  refine own_st (B := T2.setTop (mkF m 12 #[.val (.ref a1), .val (.ref a2)] [(.int (((2 : Int32) * p1) + (1 : Int32))), (.ref b)])) (fun t k => XS.iadd X2.here hx rfl (hb hby d8_11) rfl k) ?_
  refine own_st (B := T2.setTop (mkF m 13 #[.val (.ref a1), .val (.ref a2)] [(.int (xs.getD (2 * p1.toInt.toNat + 1) 0))])) (fun t k => own_ldI X2 hx hZ e2q F3 (g := (mkF m 12 #[.val (.ref a1), .val (.ref a2)] [(.int (((2 : Int32) * p1) + (1 : Int32))), (.ref b)])) (i := (2 * p1.toInt.toNat + 1)) (own_i1 hp) (own_getI (by omega)) rfl rfl (hb hby d8_12) k) ?_
  refine own_st (B := T2.setTop (mkF m 14 #[.val (.ref a1), .val (.ref a2)] [(.long ((xs.getD (2 * p1.toInt.toNat + 1) 0).toInt64))])) (fun t k => XS.i2l X2.here hx rfl (hb hby d8_13) rfl k) ?_
  refine own_retJ X2 hx hlk Bd.returns (hb hby d8_14) (by decide) (by decide) ?_
  show Q8 Z a1 a2 b p1 xs h0 n0 _ T2.heap _
  rw [e2q]
  exact ⟨rfl, N2, rfl⟩
theorem own_six (x : Int32) : 0 ≤ ((x &&& 2147483647) % 6).toInt ∧ ((x &&& 2147483647) % 6).toInt ≤ 5 := by
  have h1 := c_mask x 2147483647 31 (by decide) (by decide)
  have h2 := c_irem (x &&& 2147483647) 6 6 rfl
  omega
theorem own_mask {x v : Int64} (e : v = x &&& 9223372036854775807) : 0 ≤ v.toInt := by
  rw [e, c_maskL x 9223372036854775807 63 (by decide) (by decide)]
  omega
theorem own_val {q : Int64} (h : 0 ≤ q.toInt) : ((own_min q 2147483647).toInt32).toInt64 = own_cap q := by
  have k : (2147483647 : Int64).toInt = 2147483647 := rfl
  refine Int64.toInt_inj.mp ?_
  rw [c_i2l]
  have h1 := c_l2i (own_min q 2147483647)
  have h2 := rng32 (own_min q 2147483647).toInt32
  have h3 : (own_min q 2147483647).toInt = (own_cap q).toInt ∧ 0 ≤ (own_cap q).toInt ∧ (own_cap q).toInt ≤ 2147483647 := by
    unfold own_min own_cap
    by_cases a : (2147483647 : Int64) < q
    · rw [if_pos a, k]; omega
    · rw [if_neg a]
      rw [Int64.lt_iff_toInt_lt, k] at a
      omega
  omega
theorem own_last {xs : List Int32} {i : Nat} {x y : Int32} (h : i + 1 < xs.length) : ((xs.set i x).set (i + 1) y).getD (i + 1) 0 = y := by
  simp [List.getD, h]
theorem own_past {xs : List Int32} {i j : Nat} {x y : Int32} (h : 2 * i ≠ 2 * j) : ((xs.set (2 * i) x).set (2 * i + 1) y).getD (2 * j + 1) 0 = xs.getD (2 * j + 1) 0 := by
  simp only [List.getD]
  rw [List.getElem?_set_ne (by omega), List.getElem?_set_ne (by omega)]
theorem own_len0 {Z : State} {args : Array Value} {t : Term} {x : Addr} {cl : Cell} {n : Int32} {k : Nat} (ht : t.eval args Z none [] Z = some (.ref x)) (ha : Z.arrayAt? x = some cl) (hk : n.toInt = (k : Int)) (hk2 : k < 2147483648) (h : (Term.length t).eval args Z none [] Z = some (.int n)) : cl.slots.toList.length = k := by
  by_cases hl : cl.slots.size < 2 ^ 31
  · rw [len_f ht ha hl] at h
    have h1 : cl.slots.size.toInt32 = n := Value.int.inj (Option.some.inj h)
    have h2 := len_toInt hl
    rw [h1, hk] at h2
    rw [Array.length_toList]
    omega
  · simp [Term.eval, ht, ha, hl] at h
theorem own_pd6 : parseMethodDescriptor "(I)Lcom/example/bucketd/bucketd/quota/BucketKind;" = some ⟨[.int], some (.object "com/example/bucketd/bucketd/quota/BucketKind")⟩ := by decide +kernel
theorem own_pd7 : parseMethodDescriptor "()V" = some ⟨[], none⟩ := by decide +kernel
theorem own_pd8 : parseMethodDescriptor "(Lcom/example/bucketd/bucketd/quota/BucketKind;JJ)V" = some ⟨[(.object "com/example/bucketd/bucketd/quota/BucketKind"), .long, .long], none⟩ := by decide +kernel
theorem own_pd9 : parseMethodDescriptor "(Lcom/example/bucketd/bucketd/quota/BucketKind;)J" = some ⟨[(.object "com/example/bucketd/bucketd/quota/BucketKind")], some .long⟩ := by decide +kernel
theorem own_pd10 : parseMethodDescriptor "(J)J" = some ⟨[.long], some .long⟩ := by decide +kernel
theorem ef_0 (m : MethodId) (x0 : Int32) (x1 : Int32) (x2 : Int64) (x3 : Int64) (x4 : Int64) (x5 : Int64) : entryFrame m #[(.int x0), (.int x1), (.long x2), (.long x3), (.long x4), (.long x5)] maxLocals = mkF m 0 #[.val (.int x0), .val (.int x1), .val (.long x2), .second, .val (.long x3), .second, .val (.long x4), .second, .val (.long x5), .second, .unset, .unset, .unset, .unset, .unset, .unset, .unset, .unset] [] := by first | (simp [entryFrame, mkF, argsToLocals, Value.category, maxLocals]; done) | rfl
def Q0 (Z : State) (arg0 : Int32) (arg1 : Int32) (arg2 : Int64) (arg3 : Int64) (arg4 : Int64) (arg5 : Int64) (r0 : Addr) (r1 : Addr) (r2 : Addr) (r3 : Addr) (r4 : Addr) (r5 : Addr) (k1 : Addr) (k2 : Addr) (ks : List Value) (h0 : Heap) (n0 : Nat) (v : Option Value) (h : Heap) (L : List Loc) : Prop := v = some (.int 1) ∧ Fr n0 L
set_option maxHeartbeats 40000000 in
theorem rm0 (l : Launch) (Z : State) (a0 : Array Value) (hw : ∀ d ∈ tables_1, d.before a0 Z = true) (ws : List Jvm.Cond) (arg0 : Int32) (arg1 : Int32) (arg2 : Int64) (arg3 : Int64) (arg4 : Int64) (arg5 : Int64) (r0 : Addr) (r1 : Addr) (r2 : Addr) (r3 : Addr) (r4 : Addr) (r5 : Addr) (k1 : Addr) (k2 : Addr) (ks : List Value) (h0 : Heap) (n0 : Nat) (Z0 : n0 ≤ h0.size) (F0 : Sta Z h0 "com/example/bucketd/bucketd/quota/BucketKind" "TOKENS_PER_DAY" "Lcom/example/bucketd/bucketd/quota/BucketKind;" (.ref r0)) (F1 : Sta Z h0 "com/example/bucketd/bucketd/quota/BucketKind" "TOKENS_PER_HOUR" "Lcom/example/bucketd/bucketd/quota/BucketKind;" (.ref r1)) (F2 : Sta Z h0 "com/example/bucketd/bucketd/quota/BucketKind" "TOKENS_PER_PROJECT_PER_HOUR" "Lcom/example/bucketd/bucketd/quota/BucketKind;" (.ref r2)) (F3 : Sta Z h0 "com/example/bucketd/bucketd/quota/BucketKind" "CONCURRENT_REQUESTS" "Lcom/example/bucketd/bucketd/quota/BucketKind;" (.ref r3)) (F4 : Sta Z h0 "com/example/bucketd/bucketd/quota/BucketKind" "SERVER_ERRORS_PER_PROJECT_PER_HOUR" "Lcom/example/bucketd/bucketd/quota/BucketKind;" (.ref r4)) (F5 : Sta Z h0 "com/example/bucketd/bucketd/quota/BucketKind" "POTENTIALLY_THRESHOLDED_REQUESTS_PER_HOUR" "Lcom/example/bucketd/bucketd/quota/BucketKind;" (.ref r5)) (F6 : Exa Z h0 r0 "com/example/bucketd/bucketd/quota/BucketKind") (F7 : Exa Z h0 r1 "com/example/bucketd/bucketd/quota/BucketKind") (F8 : Exa Z h0 r2 "com/example/bucketd/bucketd/quota/BucketKind") (F9 : Exa Z h0 r3 "com/example/bucketd/bucketd/quota/BucketKind") (F10 : Exa Z h0 r4 "com/example/bucketd/bucketd/quota/BucketKind") (F11 : Exa Z h0 r5 "com/example/bucketd/bucketd/quota/BucketKind") (F12 : Fld Z h0 r0 "java/lang/Enum" "ordinal" "I" (.int (0 : Int32))) (F13 : Fld Z h0 r1 "java/lang/Enum" "ordinal" "I" (.int (1 : Int32))) (F14 : Fld Z h0 r2 "java/lang/Enum" "ordinal" "I" (.int (2 : Int32))) (F15 : Fld Z h0 r3 "java/lang/Enum" "ordinal" "I" (.int (3 : Int32))) (F16 : Fld Z h0 r4 "java/lang/Enum" "ordinal" "I" (.int (4 : Int32))) (F17 : Fld Z h0 r5 "java/lang/Enum" "ordinal" "I" (.int (5 : Int32))) (F18 : Sta Z h0 "com/example/bucketd/bucketd/quota/QuotaReport" "KINDS" "Ljava/util/List;" (.ref k1)) (F19 : Exa Z h0 k1 "java/util/ImmutableCollections$ListN") (F20 : Fld Z h0 k1 "java/util/ImmutableCollections$ListN" "elements" "[Ljava/lang/Object;" (.ref k2)) (F21 : own_A Z h0 k2 (.object "java/lang/Object") ks) (hk : ks.length = 6) :
    MetFree l x (head1 (Jvm.Cond.code x code maxLocals ret :: ws) room_1) (fun a U => a = #[(.int arg0), (.int arg1), (.long arg2), (.long arg3), (.long arg4), (.long arg5)] ∧ Z.Warmed39 U.vm ∧ U.heap = h0) (fun _ _ _ _ _ => True) (fun _ U o U' => ∃ v L, o = .returned v ∧ Q0 Z arg0 arg1 arg2 arg3 arg4 arg5 r0 r1 r2 r3 r4 r5 k1 k2 ks h0 n0 v U'.heap L ∧ FrameEnd U o U' L 16 128) := by
  refine MetFree.of_bodySF (plainFor_of_name own_pn1) hisR ?_
  intro p e s m args below meth c s₁ Bd hml0 hP hK
  obtain ⟨rfl, hZ, hh⟩ := hP
  have hx := Bd.exec
  have hby := Bd.bytes
  have hml : c.maxLocals = 18 := hml0
  have hlk : meth.locks = false := BodyLoose.notSynchronized Bd
  have hown : s.vm.findClass "com/example/bucketd/bucketd/quota/QuotaReportRemainingPinLaw" = some m.cls := findClass_of_methodNamed Bd.named
  have hnm := (name_of_methodNamed Bd.named Bd.method).1
  have X0 : Stand p l e room_1 s m #[(.int arg0), (.int arg1), (.long arg2), (.long arg3), (.long arg4), (.long arg5)] below meth c s₁ [] 0 0 := Stand.of_body Bd
  have e0 : s₁.heap = h0 := by rw [← hh, Bd.state]; rfl
  have N0 := Fr.nil n0
  show own_Go p e below s (Q0 Z arg0 arg1 arg2 arg3 arg4 arg5 r0 r1 r2 r3 r4 r5 k1 k2 ks h0 n0) 16 128 _
  refine own_st (B := s₁.setTop (mkF m 0 #[.val (.int arg0), .val (.int arg1), .val (.long arg2), .second, .val (.long arg3), .second, .val (.long arg4), .second, .val (.long arg5), .second, .unset, .unset, .unset, .unset, .unset, .unset, .unset, .unset] [])) (fun t k => castTop (ef_0 m (arg0) (arg1) (arg2) (arg3) (arg4) (arg5)) k) ?_
  refine own_st (B := s₁.setTop (mkF m 1 #[.val (.int arg0), .val (.int arg1), .val (.long arg2), .second, .val (.long arg3), .second, .val (.long arg4), .second, .val (.long arg5), .second, .unset, .unset, .unset, .unset, .unset, .unset, .unset, .unset] [(.int arg0)])) (fun t k => XS.iloadN X0.here hx rfl (hb hby at_0) rfl k) ?_
  refine own_st (B := s₁.setTop (mkF m 3 #[.val (.int arg0), .val (.int arg1), .val (.long arg2), .second, .val (.long arg3), .second, .val (.long arg4), .second, .val (.long arg5), .second, .unset, .unset, .unset, .unset, .unset, .unset, .unset, .unset] [(.int (2147483647 : Int32)), (.int arg0)])) (fun t k => X0.ldcInt hx hown (mvT hZ (w_0 hw)) (g := (mkF m 1 #[.val (.int arg0), .val (.int arg1), .val (.long arg2), .second, .val (.long arg3), .second, .val (.long arg4), .second, .val (.long arg5), .second, .unset, .unset, .unset, .unset, .unset, .unset, .unset, .unset] [(.int arg0)])) rfl (hb hby at_1) _ k) ?_
  refine own_st (B := s₁.setTop (mkF m 4 #[.val (.int arg0), .val (.int arg1), .val (.long arg2), .second, .val (.long arg3), .second, .val (.long arg4), .second, .val (.long arg5), .second, .unset, .unset, .unset, .unset, .unset, .unset, .unset, .unset] [(.int (arg0 &&& (2147483647 : Int32)))])) (fun t k => XS.iand X0.here hx rfl (hb hby at_3) rfl k) ?_
  refine own_st (B := s₁.setTop (mkF m 6 #[.val (.int arg0), .val (.int arg1), .val (.long arg2), .second, .val (.long arg3), .second, .val (.long arg4), .second, .val (.long arg5), .second, .unset, .unset, .unset, .unset, .unset, .unset, .unset, .unset] [(.int (6 : Int32)), (.int (arg0 &&& (2147483647 : Int32)))])) (fun t k => XS.bipush X0.here hx rfl (hb hby at_4) k) ?_
  refine own_st (B := s₁.setTop (mkF m 7 #[.val (.int arg0), .val (.int arg1), .val (.long arg2), .second, .val (.long arg3), .second, .val (.long arg4), .second, .val (.long arg5), .second, .unset, .unset, .unset, .unset, .unset, .unset, .unset, .unset] [(.int ((arg0 &&& (2147483647 : Int32)) % (6 : Int32)))])) (fun t k => iremM X0 hx (g := (mkF m 6 #[.val (.int arg0), .val (.int arg1), .val (.long arg2), .second, .val (.long arg3), .second, .val (.long arg4), .second, .val (.long arg5), .second, .unset, .unset, .unset, .unset, .unset, .unset, .unset, .unset] [(.int (6 : Int32)), (.int (arg0 &&& (2147483647 : Int32)))])) rfl (x := (arg0 &&& (2147483647 : Int32))) (y := (6 : Int32)) (rest := []) (hb hby at_6) rfl (by decide) k) ?_
  obtain ⟨_, _, ⟨T1, L1, k1, j1⟩, -, X1, ⟨Lc1, hQ1, l1, y1_, z1_⟩, st1⟩ := Jvm.LawKit.callS X0 hx (y := (⟨"com/example/bucketd/bucketd/quota/QuotaReportRemainingPinLaw", "pick", "(I)Lcom/example/bucketd/bucketd/quota/BucketKind;"⟩ : MethodName)) hown (mvT hZ (w_1 hw)) (mvT hZ (w_2 hw)) (mvT hZ (w_3 hw)) (mvT hZ (w_4 hw)) (by decide) (backOf (W := 0) (rm1 l Z a0 hw [] ((arg0 &&& (2147483647 : Int32)) % (6 : Int32)) r0 r1 r2 r3 r4 r5 h0 n0 Z0 F0 F1 F2 F3 F4 F5 F6 F7 F8 F9 F10 F11 F12 F13 F14 F15 F16 F17 (own_six _)) hZ (w_4 hw) (w_3 hw) (by decide) (by decide)) (g := (mkF m 7 #[.val (.int arg0), .val (.int arg1), .val (.long arg2), .second, .val (.long arg3), .second, .val (.long arg4), .second, .val (.long arg5), .second, .unset, .unset, .unset, .unset, .unset, .unset, .unset, .unset] [(.int ((arg0 &&& (2147483647 : Int32)) % (6 : Int32)))])) rfl (by rw [hml]; rfl) (argsL := [(.int ((arg0 &&& (2147483647 : Int32)) % (6 : Int32)))]) (rest := []) (lenOf own_pd6 rfl) rfl (by show 2 * 0 + _ ≤ _; exact Nat.le_of_eq rfl) (hb hby at_7) (fun _ _ => ⟨rfl, e0, (by decide : 0 + 0 ≤ _), (by decide : 0 + 0 ≤ _)⟩)
  dsimp only [Pt.U, Pt.locs, Pt.cells, Pt.slots] at X1 l1 y1_ z1_ st1 hQ1
  subst l1 y1_ z1_
  obtain ⟨r_1, rfl, N1q, e1q, p1_0, p1_1, r1_0⟩ := hQ1
  have N1 := Fr.app N0 N1q
  rw [e1q] at p1_0
  rw [e1q] at p1_1
  refine own_st (B := T1.setTop (mkF m 10 #[.val (.int arg0), .val (.int arg1), .val (.long arg2), .second, .val (.long arg3), .second, .val (.long arg4), .second, .val (.long arg5), .second, .unset, .unset, .unset, .unset, .unset, .unset, .unset, .unset] [(.ref r_1)])) (fun t k => st1 t k) ?_
  refine own_st (B := T1.setTop (mkF m 12 #[.val (.int arg0), .val (.int arg1), .val (.long arg2), .second, .val (.long arg3), .second, .val (.long arg4), .second, .val (.long arg5), .second, .val (.ref r_1), .unset, .unset, .unset, .unset, .unset, .unset, .unset] [])) (fun t k => XS.astore X1.here hx rfl (hb hby at_10) rfl rfl (l' := #[.val (.int arg0), .val (.int arg1), .val (.long arg2), .second, .val (.long arg3), .second, .val (.long arg4), .second, .val (.long arg5), .second, .val (.ref r_1), .unset, .unset, .unset, .unset, .unset, .unset, .unset]) rfl k) ?_
  refine own_st (B := T1.setTop (mkF m 13 #[.val (.int arg0), .val (.int arg1), .val (.long arg2), .second, .val (.long arg3), .second, .val (.long arg4), .second, .val (.long arg5), .second, .val (.ref r_1), .unset, .unset, .unset, .unset, .unset, .unset, .unset] [(.int arg1)])) (fun t k => XS.iloadN X1.here hx rfl (hb hby at_12) rfl k) ?_
  refine own_st (B := T1.setTop (mkF m 15 #[.val (.int arg0), .val (.int arg1), .val (.long arg2), .second, .val (.long arg3), .second, .val (.long arg4), .second, .val (.long arg5), .second, .val (.ref r_1), .unset, .unset, .unset, .unset, .unset, .unset, .unset] [(.int (2147483647 : Int32)), (.int arg1)])) (fun t k => X1.ldcInt hx hown (mvT hZ (w_0 hw)) (g := (mkF m 13 #[.val (.int arg0), .val (.int arg1), .val (.long arg2), .second, .val (.long arg3), .second, .val (.long arg4), .second, .val (.long arg5), .second, .val (.ref r_1), .unset, .unset, .unset, .unset, .unset, .unset, .unset] [(.int arg1)])) rfl (hb hby at_13) _ k) ?_
  refine own_st (B := T1.setTop (mkF m 16 #[.val (.int arg0), .val (.int arg1), .val (.long arg2), .second, .val (.long arg3), .second, .val (.long arg4), .second, .val (.long arg5), .second, .val (.ref r_1), .unset, .unset, .unset, .unset, .unset, .unset, .unset] [(.int (arg1 &&& (2147483647 : Int32)))])) (fun t k => XS.iand X1.here hx rfl (hb hby at_15) rfl k) ?_
  refine own_st (B := T1.setTop (mkF m 18 #[.val (.int arg0), .val (.int arg1), .val (.long arg2), .second, .val (.long arg3), .second, .val (.long arg4), .second, .val (.long arg5), .second, .val (.ref r_1), .unset, .unset, .unset, .unset, .unset, .unset, .unset] [(.int (6 : Int32)), (.int (arg1 &&& (2147483647 : Int32)))])) (fun t k => XS.bipush X1.here hx rfl (hb hby at_16) k) ?_
  refine own_st (B := T1.setTop (mkF m 19 #[.val (.int arg0), .val (.int arg1), .val (.long arg2), .second, .val (.long arg3), .second, .val (.long arg4), .second, .val (.long arg5), .second, .val (.ref r_1), .unset, .unset, .unset, .unset, .unset, .unset, .unset] [(.int ((arg1 &&& (2147483647 : Int32)) % (6 : Int32)))])) (fun t k => iremM X1 hx (g := (mkF m 18 #[.val (.int arg0), .val (.int arg1), .val (.long arg2), .second, .val (.long arg3), .second, .val (.long arg4), .second, .val (.long arg5), .second, .val (.ref r_1), .unset, .unset, .unset, .unset, .unset, .unset, .unset] [(.int (6 : Int32)), (.int (arg1 &&& (2147483647 : Int32)))])) rfl (x := (arg1 &&& (2147483647 : Int32))) (y := (6 : Int32)) (rest := []) (hb hby at_18) rfl (by decide) k) ?_
  obtain ⟨_, _, ⟨T2, L2, k2, j2⟩, -, X2, ⟨Lc2, hQ2, l2, y2_, z2_⟩, st2⟩ := Jvm.LawKit.callS X1 hx (y := (⟨"com/example/bucketd/bucketd/quota/QuotaReportRemainingPinLaw", "pick", "(I)Lcom/example/bucketd/bucketd/quota/BucketKind;"⟩ : MethodName)) hown (mvT hZ (w_1 hw)) (mvT hZ (w_2 hw)) (mvT hZ (w_3 hw)) (mvT hZ (w_4 hw)) (by decide) (backOf (W := 0) (rm1 l Z a0 hw [] ((arg1 &&& (2147483647 : Int32)) % (6 : Int32)) r0 r1 r2 r3 r4 r5 h0 n0 Z0 F0 F1 F2 F3 F4 F5 F6 F7 F8 F9 F10 F11 F12 F13 F14 F15 F16 F17 (own_six _)) hZ (w_4 hw) (w_3 hw) (by decide) (by decide)) (g := (mkF m 19 #[.val (.int arg0), .val (.int arg1), .val (.long arg2), .second, .val (.long arg3), .second, .val (.long arg4), .second, .val (.long arg5), .second, .val (.ref r_1), .unset, .unset, .unset, .unset, .unset, .unset, .unset] [(.int ((arg1 &&& (2147483647 : Int32)) % (6 : Int32)))])) rfl (by rw [hml]; rfl) (argsL := [(.int ((arg1 &&& (2147483647 : Int32)) % (6 : Int32)))]) (rest := []) (lenOf own_pd6 rfl) rfl (by show 2 * 0 + _ ≤ _; exact Nat.le_of_eq rfl) (hb hby at_19) (fun _ _ => ⟨rfl, e1q, (by decide : 0 + 0 ≤ _), (by decide : 0 + 0 ≤ _)⟩)
  dsimp only [Pt.U, Pt.locs, Pt.cells, Pt.slots] at X2 l2 y2_ z2_ st2 hQ2
  subst l2 y2_ z2_
  obtain ⟨r_2, rfl, N2q, e2q, p2_0, p2_1, r2_0⟩ := hQ2
  have N2 := Fr.app N1 N2q
  rw [e2q] at p2_0
  rw [e2q] at p2_1
  refine own_st (B := T2.setTop (mkF m 22 #[.val (.int arg0), .val (.int arg1), .val (.long arg2), .second, .val (.long arg3), .second, .val (.long arg4), .second, .val (.long arg5), .second, .val (.ref r_1), .unset, .unset, .unset, .unset, .unset, .unset, .unset] [(.ref r_2)])) (fun t k => st2 t k) ?_
  refine own_st (B := T2.setTop (mkF m 24 #[.val (.int arg0), .val (.int arg1), .val (.long arg2), .second, .val (.long arg3), .second, .val (.long arg4), .second, .val (.long arg5), .second, .val (.ref r_1), .val (.ref r_2), .unset, .unset, .unset, .unset, .unset, .unset] [])) (fun t k => XS.astore X2.here hx rfl (hb hby at_22) rfl rfl (l' := #[.val (.int arg0), .val (.int arg1), .val (.long arg2), .second, .val (.long arg3), .second, .val (.long arg4), .second, .val (.long arg5), .second, .val (.ref r_1), .val (.ref r_2), .unset, .unset, .unset, .unset, .unset, .unset]) rfl k) ?_
  refine own_st (B := T2.setTop (mkF m 26 #[.val (.int arg0), .val (.int arg1), .val (.long arg2), .second, .val (.long arg3), .second, .val (.long arg4), .second, .val (.long arg5), .second, .val (.ref r_1), .val (.ref r_2), .unset, .unset, .unset, .unset, .unset, .unset] [(.long arg3)])) (fun t k => XS.lload X2.here hx rfl (hb hby at_24) rfl k) ?_
  refine own_st (B := T2.setTop (mkF m 29 #[.val (.int arg0), .val (.int arg1), .val (.long arg2), .second, .val (.long arg3), .second, .val (.long arg4), .second, .val (.long arg5), .second, .val (.ref r_1), .val (.ref r_2), .unset, .unset, .unset, .unset, .unset, .unset] [(.long (9223372036854775807 : Int64)), (.long arg3)])) (fun t k => X2.ldc2Long hx hown (mvT hZ (w_10 hw)) (g := (mkF m 26 #[.val (.int arg0), .val (.int arg1), .val (.long arg2), .second, .val (.long arg3), .second, .val (.long arg4), .second, .val (.long arg5), .second, .val (.ref r_1), .val (.ref r_2), .unset, .unset, .unset, .unset, .unset, .unset] [(.long arg3)])) rfl (hb hby at_26) _ k) ?_
  refine own_st (B := T2.setTop (mkF m 30 #[.val (.int arg0), .val (.int arg1), .val (.long arg2), .second, .val (.long arg3), .second, .val (.long arg4), .second, .val (.long arg5), .second, .val (.ref r_1), .val (.ref r_2), .unset, .unset, .unset, .unset, .unset, .unset] [(.long (arg3 &&& (9223372036854775807 : Int64)))])) (fun t k => XS.land X2.here hx rfl (hb hby at_29) rfl k) ?_
  obtain ⟨v3, ev3⟩ : ∃ z : Int64, z = (arg3 &&& (9223372036854775807 : Int64)) := ⟨_, rfl⟩
  rw [← ev3]
  refine own_st (B := T2.setTop (mkF m 32 #[.val (.int arg0), .val (.int arg1), .val (.long arg2), .second, .val (.long arg3), .second, .val (.long arg4), .second, .val (.long arg5), .second, .val (.ref r_1), .val (.ref r_2), .val (.long v3), .second, .unset, .unset, .unset, .unset] [])) (fun t k => XS.lstore X2.here hx rfl (hb hby at_30) rfl (l' := #[.val (.int arg0), .val (.int arg1), .val (.long arg2), .second, .val (.long arg3), .second, .val (.long arg4), .second, .val (.long arg5), .second, .val (.ref r_1), .val (.ref r_2), .val (.long v3), .second, .unset, .unset, .unset, .unset]) rfl k) ?_
  refine own_st (B := T2.setTop (mkF m 34 #[.val (.int arg0), .val (.int arg1), .val (.long arg2), .second, .val (.long arg3), .second, .val (.long arg4), .second, .val (.long arg5), .second, .val (.ref r_1), .val (.ref r_2), .val (.long v3), .second, .unset, .unset, .unset, .unset] [(.long arg5)])) (fun t k => XS.lload X2.here hx rfl (hb hby at_32) rfl k) ?_
  refine own_st (B := T2.setTop (mkF m 37 #[.val (.int arg0), .val (.int arg1), .val (.long arg2), .second, .val (.long arg3), .second, .val (.long arg4), .second, .val (.long arg5), .second, .val (.ref r_1), .val (.ref r_2), .val (.long v3), .second, .unset, .unset, .unset, .unset] [(.long (9223372036854775807 : Int64)), (.long arg5)])) (fun t k => X2.ldc2Long hx hown (mvT hZ (w_10 hw)) (g := (mkF m 34 #[.val (.int arg0), .val (.int arg1), .val (.long arg2), .second, .val (.long arg3), .second, .val (.long arg4), .second, .val (.long arg5), .second, .val (.ref r_1), .val (.ref r_2), .val (.long v3), .second, .unset, .unset, .unset, .unset] [(.long arg5)])) rfl (hb hby at_34) _ k) ?_
  refine own_st (B := T2.setTop (mkF m 38 #[.val (.int arg0), .val (.int arg1), .val (.long arg2), .second, .val (.long arg3), .second, .val (.long arg4), .second, .val (.long arg5), .second, .val (.ref r_1), .val (.ref r_2), .val (.long v3), .second, .unset, .unset, .unset, .unset] [(.long (arg5 &&& (9223372036854775807 : Int64)))])) (fun t k => XS.land X2.here hx rfl (hb hby at_37) rfl k) ?_
  obtain ⟨v4, ev4⟩ : ∃ z : Int64, z = (arg5 &&& (9223372036854775807 : Int64)) := ⟨_, rfl⟩
  rw [← ev4]
  refine own_st (B := T2.setTop (mkF m 40 #[.val (.int arg0), .val (.int arg1), .val (.long arg2), .second, .val (.long arg3), .second, .val (.long arg4), .second, .val (.long arg5), .second, .val (.ref r_1), .val (.ref r_2), .val (.long v3), .second, .val (.long v4), .second, .unset, .unset] [])) (fun t k => XS.lstore X2.here hx rfl (hb hby at_38) rfl (l' := #[.val (.int arg0), .val (.int arg1), .val (.long arg2), .second, .val (.long arg3), .second, .val (.long arg4), .second, .val (.long arg5), .second, .val (.ref r_1), .val (.ref r_2), .val (.long v3), .second, .val (.long v4), .second, .unset, .unset]) rfl k) ?_
  obtain ⟨T5, h5, X5, e5, E5, A5, D5, -, st5⟩ := newO X2 hx hZ hown (w_11 hw) (w_12 hw) (w_13 hw) e2q (g := (mkF m 40 #[.val (.int arg0), .val (.int arg1), .val (.long arg2), .second, .val (.long arg3), .second, .val (.long arg4), .second, .val (.long arg5), .second, .val (.ref r_1), .val (.ref r_2), .val (.long v3), .second, .val (.long v4), .second, .unset, .unset] [])) rfl (hb hby at_40) (by decide) (by decide)
  obtain ⟨b5, g5⟩ : ∃ z, z = h0.size := ⟨_, rfl⟩
  rw [← g5] at A5 D5 st5
  have q5_r0 : r0 ≠ b5 := Nat.ne_of_lt (Nat.lt_of_lt_of_le F6.lt (Nat.le_of_eq g5.symm))
  have q5_r1 : r1 ≠ b5 := Nat.ne_of_lt (Nat.lt_of_lt_of_le F7.lt (Nat.le_of_eq g5.symm))
  have q5_r2 : r2 ≠ b5 := Nat.ne_of_lt (Nat.lt_of_lt_of_le F8.lt (Nat.le_of_eq g5.symm))
  have q5_r3 : r3 ≠ b5 := Nat.ne_of_lt (Nat.lt_of_lt_of_le F9.lt (Nat.le_of_eq g5.symm))
  have q5_r4 : r4 ≠ b5 := Nat.ne_of_lt (Nat.lt_of_lt_of_le F10.lt (Nat.le_of_eq g5.symm))
  have q5_r5 : r5 ≠ b5 := Nat.ne_of_lt (Nat.lt_of_lt_of_le F11.lt (Nat.le_of_eq g5.symm))
  have q5_k1 : k1 ≠ b5 := Nat.ne_of_lt (Nat.lt_of_lt_of_le F19.lt (Nat.le_of_eq g5.symm))
  have q5_k2 : k2 ≠ b5 := Nat.ne_of_lt (Nat.lt_of_lt_of_le F21.lt (Nat.le_of_eq g5.symm))
  have q5_r_1 : r_1 ≠ b5 := Nat.ne_of_lt (Nat.lt_of_lt_of_le p1_0.lt (Nat.le_of_eq g5.symm))
  have q5_r_2 : r_2 ≠ b5 := Nat.ne_of_lt (Nat.lt_of_lt_of_le p2_0.lt (Nat.le_of_eq g5.symm))
  have u5 : n0 ≤ b5 := Nat.le_trans Z0 (Nat.le_of_eq g5.symm)
  have z6 : n0 ≤ h5.size := Nat.le_trans Z0 E5.1
  have f7 : Fld Z h5 b5 "com/example/bucketd/bucketd/quota/QuotaReport" "counts" "[I" .null := D5 (Or.inr (w_36 hw)) (ty := (.array .int)) (by decide)
  refine own_st (B := T5.setTop (mkF m 43 #[.val (.int arg0), .val (.int arg1), .val (.long arg2), .second, .val (.long arg3), .second, .val (.long arg4), .second, .val (.long arg5), .second, .val (.ref r_1), .val (.ref r_2), .val (.long v3), .second, .val (.long v4), .second, .unset, .unset] [(.ref b5)])) (fun t k => st5 t k) ?_
  refine own_st (B := T5.setTop (mkF m 44 #[.val (.int arg0), .val (.int arg1), .val (.long arg2), .second, .val (.long arg3), .second, .val (.long arg4), .second, .val (.long arg5), .second, .val (.ref r_1), .val (.ref r_2), .val (.long v3), .second, .val (.long v4), .second, .unset, .unset] [(.ref b5), (.ref b5)])) (fun t k => XS.dup X5.here hx rfl (hb hby at_43) rfl rfl k) ?_
  have f8 : Sta Z h5 "com/example/bucketd/bucketd/quota/QuotaReport" "KINDS" "Ljava/util/List;" (.ref k1) := (F18.ext E5)
  have f9 : Exa Z h5 k1 "java/util/ImmutableCollections$ListN" := (F19.ext E5)
  have f10 : Fld Z h5 k1 "java/util/ImmutableCollections$ListN" "elements" "[Ljava/lang/Object;" (.ref k2) := (F20.ext E5)
  have f11 : own_A Z h5 k2 (.object "java/lang/Object") ks := (F21.ext E5)
  obtain ⟨_, _, ⟨T12, L12, k12, j12⟩, -, X12, ⟨Lc12, hQ12, l12, y12_, z12_⟩, st12⟩ := X5.specialBack hx (y := (⟨"com/example/bucketd/bucketd/quota/QuotaReport", "<init>", "()V"⟩ : MethodName)) rfl hown (mvT hZ (w_14 hw)) (mvT hZ (w_15 hw)) (mvT hZ (w_16 hw)) (by decide) (backOf (W := 1) (rm2 l Z a0 hw [] b5 k1 k2 ks h5 n0 z6 A5 f7 f8 f9 f10 f11 u5 hk) hZ (w_16 hw) (w_13 hw) (by decide) (by decide)) (g := (mkF m 44 #[.val (.int arg0), .val (.int arg1), .val (.long arg2), .second, .val (.long arg3), .second, .val (.long arg4), .second, .val (.long arg5), .second, .val (.ref r_1), .val (.ref r_2), .val (.long v3), .second, .val (.long v4), .second, .unset, .unset] [(.ref b5), (.ref b5)])) rfl (by rw [hml]; rfl) (Steps.refl _) (a := b5) (argsL := []) (rest := [(.ref b5)]) (lenOf own_pd7 rfl) rfl (by show 2 * 0 + _ ≤ _; exact Nat.le_of_eq rfl) (hb hby at_44) (fun _ _ => ⟨rfl, e5, (by decide : 1 + 1 ≤ _), (by decide : 1 + 12 ≤ _)⟩)
  dsimp only [Pt.U, Pt.locs, Pt.cells, Pt.slots] at X12 l12 y12_ z12_ st12 hQ12
  subst l12 y12_ z12_
  obtain ⟨b_12, rfl, N12q, K12, u12_b, y12_b, p12_0, p12_1, p12_2⟩ := hQ12
  have N12 := Fr.app N2 N12q
  have f13 : Exa Z h5 r0 "com/example/bucketd/bucketd/quota/BucketKind" := (F6.ext E5)
  have q12_b_r0 : r0 ≠ b_12 := Nat.ne_of_lt (Nat.lt_of_lt_of_le f13.lt y12_b)
  have f14 : Exa Z h5 r1 "com/example/bucketd/bucketd/quota/BucketKind" := (F7.ext E5)
  have q12_b_r1 : r1 ≠ b_12 := Nat.ne_of_lt (Nat.lt_of_lt_of_le f14.lt y12_b)
  have f15 : Exa Z h5 r2 "com/example/bucketd/bucketd/quota/BucketKind" := (F8.ext E5)
  have q12_b_r2 : r2 ≠ b_12 := Nat.ne_of_lt (Nat.lt_of_lt_of_le f15.lt y12_b)
  have f16 : Exa Z h5 r3 "com/example/bucketd/bucketd/quota/BucketKind" := (F9.ext E5)
  have q12_b_r3 : r3 ≠ b_12 := Nat.ne_of_lt (Nat.lt_of_lt_of_le f16.lt y12_b)
  have f17 : Exa Z h5 r4 "com/example/bucketd/bucketd/quota/BucketKind" := (F10.ext E5)
  have q12_b_r4 : r4 ≠ b_12 := Nat.ne_of_lt (Nat.lt_of_lt_of_le f17.lt y12_b)
  have f18 : Exa Z h5 r5 "com/example/bucketd/bucketd/quota/BucketKind" := (F11.ext E5)
  have q12_b_r5 : r5 ≠ b_12 := Nat.ne_of_lt (Nat.lt_of_lt_of_le f18.lt y12_b)
  have q12_b_k1 : k1 ≠ b_12 := Nat.ne_of_lt (Nat.lt_of_lt_of_le f9.lt y12_b)
  have q12_b_k2 : k2 ≠ b_12 := Nat.ne_of_lt (Nat.lt_of_lt_of_le f11.lt y12_b)
  have f19 : Exa Z h5 r_1 "com/example/bucketd/bucketd/quota/BucketKind" := (p1_0.ext E5)
  have q12_b_r_1 : r_1 ≠ b_12 := Nat.ne_of_lt (Nat.lt_of_lt_of_le f19.lt y12_b)
  have f20 : Exa Z h5 r_2 "com/example/bucketd/bucketd/quota/BucketKind" := (p2_0.ext E5)
  have q12_b_r_2 : r_2 ≠ b_12 := Nat.ne_of_lt (Nat.lt_of_lt_of_le f20.lt y12_b)
  have q12_b_b5 : b5 ≠ b_12 := Nat.ne_of_lt (Nat.lt_of_lt_of_le A5.lt y12_b)
  have z21 : n0 ≤ T12.heap.size := Nat.le_trans z6 K12.1
  refine own_ss (B := T12.setTop (mkF m 47 #[.val (.int arg0), .val (.int arg1), .val (.long arg2), .second, .val (.long arg3), .second, .val (.long arg4), .second, .val (.long arg5), .second, .val (.ref r_1), .val (.ref r_2), .val (.long v3), .second, .val (.long v4), .second, .unset, .unset] [(.ref b5)])) st12 ?_
  refine own_st (B := T12.setTop (mkF m 49 #[.val (.int arg0), .val (.int arg1), .val (.long arg2), .second, .val (.long arg3), .second, .val (.long arg4), .second, .val (.long arg5), .second, .val (.ref r_1), .val (.ref r_2), .val (.long v3), .second, .val (.long v4), .second, .val (.ref b5), .unset] [])) (fun t k => XS.astore X12.here hx rfl (hb hby at_47) rfl rfl (l' := #[.val (.int arg0), .val (.int arg1), .val (.long arg2), .second, .val (.long arg3), .second, .val (.long arg4), .second, .val (.long arg5), .second, .val (.ref r_1), .val (.ref r_2), .val (.long v3), .second, .val (.long v4), .second, .val (.ref b5), .unset]) rfl k) ?_
  refine own_st (B := T12.setTop (mkF m 51 #[.val (.int arg0), .val (.int arg1), .val (.long arg2), .second, .val (.long arg3), .second, .val (.long arg4), .second, .val (.long arg5), .second, .val (.ref r_1), .val (.ref r_2), .val (.long v3), .second, .val (.long v4), .second, .val (.ref b5), .unset] [(.ref b5)])) (fun t k => XS.aload X12.here hx rfl (hb hby at_49) rfl rfl k) ?_
  refine own_st (B := T12.setTop (mkF m 53 #[.val (.int arg0), .val (.int arg1), .val (.long arg2), .second, .val (.long arg3), .second, .val (.long arg4), .second, .val (.long arg5), .second, .val (.ref r_1), .val (.ref r_2), .val (.long v3), .second, .val (.long v4), .second, .val (.ref b5), .unset] [(.ref r_1), (.ref b5)])) (fun t k => XS.aload X12.here hx rfl (hb hby at_51) rfl rfl k) ?_
  refine own_st (B := T12.setTop (mkF m 54 #[.val (.int arg0), .val (.int arg1), .val (.long arg2), .second, .val (.long arg3), .second, .val (.long arg4), .second, .val (.long arg5), .second, .val (.ref r_1), .val (.ref r_2), .val (.long v3), .second, .val (.long v4), .second, .val (.ref b5), .unset] [(.long arg2), (.ref r_1), (.ref b5)])) (fun t k => XS.lloadN X12.here hx rfl (hb hby at_53) rfl k) ?_
  refine own_st (B := T12.setTop (mkF m 56 #[.val (.int arg0), .val (.int arg1), .val (.long arg2), .second, .val (.long arg3), .second, .val (.long arg4), .second, .val (.long arg5), .second, .val (.ref r_1), .val (.ref r_2), .val (.long v3), .second, .val (.long v4), .second, .val (.ref b5), .unset] [(.long v3), (.long arg2), (.ref r_1), (.ref b5)])) (fun t k => XS.lload X12.here hx rfl (hb hby at_54) rfl k) ?_
  have f22 : Exa Z T12.heap r_1 "com/example/bucketd/bucketd/quota/BucketKind" := (f19.keep K12)
  have f23 : Fld Z T12.heap r_1 "java/lang/Enum" "ordinal" "I" (.int ((arg0 &&& (2147483647 : Int32)) % (6 : Int32))) := ((p1_1.ext E5).keep K12 (ninS q5_r_1 nin0))
  obtain ⟨cq24, kq24, q24a, q24b, q24c⟩ := isOf hZ rfl p12_0
  obtain ⟨_, _, ⟨T24, L24, k24, j24⟩, -, X24, ⟨Lc24, hQ24, l24, y24_, z24_⟩, st24⟩ := X12.virtualBack hx (y := (⟨"com/example/bucketd/bucketd/quota/QuotaReport", "put", "(Lcom/example/bucketd/bucketd/quota/BucketKind;JJ)V"⟩ : MethodName)) (z := (⟨"com/example/bucketd/bucketd/quota/QuotaReport", "put", "(Lcom/example/bucketd/bucketd/quota/BucketKind;JJ)V"⟩ : MethodName)) hown (mvT hZ (w_37 hw)) (mvT hZ (w_38 hw)) (notFace_of_selects (args := #[]) (mvT hZ (w_40 hw))) (mvT hZ (w_40 hw)) (mvT hZ (w_39 hw)) (by decide) (backOf (W := 0) (rm5 l Z a0 hw [] b5 r_1 arg2 v3 b_12 ((arg0 &&& (2147483647 : Int32)) % (6 : Int32)) (List.replicate 12 (0 : Int32)) T12.heap n0 z21 p12_1 f22 f23 p12_2 p12_0 u12_b q12_b_b5 q12_b_r_1 (own_six _) (show (List.replicate 12 (0 : Int32)).length = 12 by simp only [List.length_set, List.length_replicate])) hZ (w_41 hw) (w_13 hw) (by decide) (by decide)) q24a q24c (g := (mkF m 56 #[.val (.int arg0), .val (.int arg1), .val (.long arg2), .second, .val (.long arg3), .second, .val (.long arg4), .second, .val (.long arg5), .second, .val (.ref r_1), .val (.ref r_2), .val (.long v3), .second, .val (.long v4), .second, .val (.ref b5), .unset] [(.long v3), (.long arg2), (.ref r_1), (.ref b5)])) rfl (by rw [hml]; rfl) (Steps.refl _) (argsL := [(.ref r_1), (.long arg2), (.long v3)]) (rest := []) (lenOf own_pd8 rfl) rfl (by show 2 * 0 + _ ≤ _; exact Nat.le_of_eq rfl) (hb hby at_56) (fun _ _ => ⟨rfl, rfl, (by decide : 2 + 0 ≤ _), (by decide : 13 + 0 ≤ _)⟩)
  dsimp only [Pt.U, Pt.locs, Pt.cells, Pt.slots] at X24 l24 y24_ z24_ st24 hQ24
  subst l24 y24_ z24_
  obtain ⟨rfl, N24q, K24, p24_0⟩ := hQ24
  have N24 := Fr.app N12 N24q
  have z25 : n0 ≤ T24.heap.size := Nat.le_trans z21 K24.1
  refine own_ss (B := T24.setTop (mkF m 59 #[.val (.int arg0), .val (.int arg1), .val (.long arg2), .second, .val (.long arg3), .second, .val (.long arg4), .second, .val (.long arg5), .second, .val (.ref r_1), .val (.ref r_2), .val (.long v3), .second, .val (.long v4), .second, .val (.ref b5), .unset] [])) st24 ?_
  refine own_st (B := T24.setTop (mkF m 61 #[.val (.int arg0), .val (.int arg1), .val (.long arg2), .second, .val (.long arg3), .second, .val (.long arg4), .second, .val (.long arg5), .second, .val (.ref r_1), .val (.ref r_2), .val (.long v3), .second, .val (.long v4), .second, .val (.ref b5), .unset] [(.ref b5)])) (fun t k => XS.aload X24.here hx rfl (hb hby at_59) rfl rfl k) ?_
  refine own_st (B := T24.setTop (mkF m 63 #[.val (.int arg0), .val (.int arg1), .val (.long arg2), .second, .val (.long arg3), .second, .val (.long arg4), .second, .val (.long arg5), .second, .val (.ref r_1), .val (.ref r_2), .val (.long v3), .second, .val (.long v4), .second, .val (.ref b5), .unset] [(.ref r_2), (.ref b5)])) (fun t k => XS.aload X24.here hx rfl (hb hby at_61) rfl rfl k) ?_
  refine own_st (B := T24.setTop (mkF m 65 #[.val (.int arg0), .val (.int arg1), .val (.long arg2), .second, .val (.long arg3), .second, .val (.long arg4), .second, .val (.long arg5), .second, .val (.ref r_1), .val (.ref r_2), .val (.long v3), .second, .val (.long v4), .second, .val (.ref b5), .unset] [(.long arg4), (.ref r_2), (.ref b5)])) (fun t k => XS.lload X24.here hx rfl (hb hby at_63) rfl k) ?_
  refine own_st (B := T24.setTop (mkF m 67 #[.val (.int arg0), .val (.int arg1), .val (.long arg2), .second, .val (.long arg3), .second, .val (.long arg4), .second, .val (.long arg5), .second, .val (.ref r_1), .val (.ref r_2), .val (.long v3), .second, .val (.long v4), .second, .val (.ref b5), .unset] [(.long v4), (.long arg4), (.ref r_2), (.ref b5)])) (fun t k => XS.lload X24.here hx rfl (hb hby at_65) rfl k) ?_
  have f26 : Fld Z T24.heap b5 "com/example/bucketd/bucketd/quota/QuotaReport" "counts" "[I" (.ref b_12) := (p12_1.keep K24 (ninS q12_b_b5 nin0))
  have f27 : Exa Z T24.heap r_2 "com/example/bucketd/bucketd/quota/BucketKind" := ((f20.keep K12).keep K24)
  have f28 : Fld Z T24.heap r_2 "java/lang/Enum" "ordinal" "I" (.int ((arg1 &&& (2147483647 : Int32)) % (6 : Int32))) := (((p2_1.ext E5).keep K12 (ninS q5_r_2 nin0)).keep K24 (ninS q12_b_r_2 nin0))
  have f29 : Exa Z T24.heap b5 "com/example/bucketd/bucketd/quota/QuotaReport" := (p12_0.keep K24)
  obtain ⟨cq30, kq30, q30a, q30b, q30c⟩ := isOf hZ rfl f29
  obtain ⟨_, _, ⟨T30, L30, k30, j30⟩, -, X30, ⟨Lc30, hQ30, l30, y30_, z30_⟩, st30⟩ := X24.virtualBack hx (y := (⟨"com/example/bucketd/bucketd/quota/QuotaReport", "put", "(Lcom/example/bucketd/bucketd/quota/BucketKind;JJ)V"⟩ : MethodName)) (z := (⟨"com/example/bucketd/bucketd/quota/QuotaReport", "put", "(Lcom/example/bucketd/bucketd/quota/BucketKind;JJ)V"⟩ : MethodName)) hown (mvT hZ (w_37 hw)) (mvT hZ (w_38 hw)) (notFace_of_selects (args := #[]) (mvT hZ (w_40 hw))) (mvT hZ (w_40 hw)) (mvT hZ (w_39 hw)) (by decide) (backOf (W := 0) (rm5 l Z a0 hw [] b5 r_2 arg4 v4 b_12 ((arg1 &&& (2147483647 : Int32)) % (6 : Int32)) (((List.replicate 12 (0 : Int32)).set (2 * ((arg0 &&& (2147483647 : Int32)) % (6 : Int32)).toInt.toNat) (own_min arg2 (2147483647 : Int64)).toInt32).set (2 * ((arg0 &&& (2147483647 : Int32)) % (6 : Int32)).toInt.toNat + 1) (own_min v3 (2147483647 : Int64)).toInt32) T24.heap n0 z25 f26 f27 f28 p24_0 f29 u12_b q12_b_b5 q12_b_r_2 (own_six _) (show (((List.replicate 12 (0 : Int32)).set (2 * ((arg0 &&& (2147483647 : Int32)) % (6 : Int32)).toInt.toNat) (own_min arg2 (2147483647 : Int64)).toInt32).set (2 * ((arg0 &&& (2147483647 : Int32)) % (6 : Int32)).toInt.toNat + 1) (own_min v3 (2147483647 : Int64)).toInt32).length = 12 by simp only [List.length_set, List.length_replicate])) hZ (w_41 hw) (w_13 hw) (by decide) (by decide)) q30a q30c (g := (mkF m 67 #[.val (.int arg0), .val (.int arg1), .val (.long arg2), .second, .val (.long arg3), .second, .val (.long arg4), .second, .val (.long arg5), .second, .val (.ref r_1), .val (.ref r_2), .val (.long v3), .second, .val (.long v4), .second, .val (.ref b5), .unset] [(.long v4), (.long arg4), (.ref r_2), (.ref b5)])) rfl (by rw [hml]; rfl) (Steps.refl _) (argsL := [(.ref r_2), (.long arg4), (.long v4)]) (rest := []) (lenOf own_pd8 rfl) rfl (by show 2 * 0 + _ ≤ _; exact Nat.le_of_eq rfl) (hb hby at_67) (fun _ _ => ⟨rfl, rfl, (by decide : 2 + 0 ≤ _), (by decide : 13 + 0 ≤ _)⟩)
  dsimp only [Pt.U, Pt.locs, Pt.cells, Pt.slots] at X30 l30 y30_ z30_ st30 hQ30
  subst l30 y30_ z30_
  obtain ⟨rfl, N30q, K30, p30_0⟩ := hQ30
  have N30 := Fr.app N24 N30q
  have z31 : n0 ≤ T30.heap.size := Nat.le_trans z25 K30.1
  refine own_ss (B := T30.setTop (mkF m 70 #[.val (.int arg0), .val (.int arg1), .val (.long arg2), .second, .val (.long arg3), .second, .val (.long arg4), .second, .val (.long arg5), .second, .val (.ref r_1), .val (.ref r_2), .val (.long v3), .second, .val (.long v4), .second, .val (.ref b5), .unset] [])) st30 ?_
  refine own_st (B := T30.setTop (mkF m 72 #[.val (.int arg0), .val (.int arg1), .val (.long arg2), .second, .val (.long arg3), .second, .val (.long arg4), .second, .val (.long arg5), .second, .val (.ref r_1), .val (.ref r_2), .val (.long v3), .second, .val (.long v4), .second, .val (.ref b5), .unset] [(.ref b5)])) (fun t k => XS.aload X30.here hx rfl (hb hby at_70) rfl rfl k) ?_
  refine own_st (B := T30.setTop (mkF m 74 #[.val (.int arg0), .val (.int arg1), .val (.long arg2), .second, .val (.long arg3), .second, .val (.long arg4), .second, .val (.long arg5), .second, .val (.ref r_1), .val (.ref r_2), .val (.long v3), .second, .val (.long v4), .second, .val (.ref b5), .unset] [(.ref r_2), (.ref b5)])) (fun t k => XS.aload X30.here hx rfl (hb hby at_72) rfl rfl k) ?_
  have f32 : Fld Z T30.heap b5 "com/example/bucketd/bucketd/quota/QuotaReport" "counts" "[I" (.ref b_12) := (f26.keep K30 (ninS q12_b_b5 nin0))
  have f33 : Exa Z T30.heap r_2 "com/example/bucketd/bucketd/quota/BucketKind" := (f27.keep K30)
  have f34 : Fld Z T30.heap r_2 "java/lang/Enum" "ordinal" "I" (.int ((arg1 &&& (2147483647 : Int32)) % (6 : Int32))) := (f28.keep K30 (ninS q12_b_r_2 nin0))
  have f36 : Exa Z T30.heap b5 "com/example/bucketd/bucketd/quota/QuotaReport" := (f29.keep K30)
  obtain ⟨cq35, kq35, q35a, q35b, q35c⟩ := isOf hZ rfl f36
  obtain ⟨_, _, ⟨T35, L35, k35, j35⟩, -, X35, ⟨Lc35, hQ35, l35, y35_, z35_⟩, st35⟩ := X30.virtualBack hx (y := (⟨"com/example/bucketd/bucketd/quota/QuotaReport", "remaining", "(Lcom/example/bucketd/bucketd/quota/BucketKind;)J"⟩ : MethodName)) (z := (⟨"com/example/bucketd/bucketd/quota/QuotaReport", "remaining", "(Lcom/example/bucketd/bucketd/quota/BucketKind;)J"⟩ : MethodName)) hown (mvT hZ (w_56 hw)) (mvT hZ (w_57 hw)) (notFace_of_selects (args := #[]) (mvT hZ (w_59 hw))) (mvT hZ (w_59 hw)) (mvT hZ (w_58 hw)) (by decide) (backOf (W := 0) (rm8 l Z a0 hw [] b5 r_2 b_12 ((arg1 &&& (2147483647 : Int32)) % (6 : Int32)) (((((List.replicate 12 (0 : Int32)).set (2 * ((arg0 &&& (2147483647 : Int32)) % (6 : Int32)).toInt.toNat) (own_min arg2 (2147483647 : Int64)).toInt32).set (2 * ((arg0 &&& (2147483647 : Int32)) % (6 : Int32)).toInt.toNat + 1) (own_min v3 (2147483647 : Int64)).toInt32).set (2 * ((arg1 &&& (2147483647 : Int32)) % (6 : Int32)).toInt.toNat) (own_min arg4 (2147483647 : Int64)).toInt32).set (2 * ((arg1 &&& (2147483647 : Int32)) % (6 : Int32)).toInt.toNat + 1) (own_min v4 (2147483647 : Int64)).toInt32) T30.heap n0 z31 f32 f33 f34 p30_0 (own_six _) (show (((((List.replicate 12 (0 : Int32)).set (2 * ((arg0 &&& (2147483647 : Int32)) % (6 : Int32)).toInt.toNat) (own_min arg2 (2147483647 : Int64)).toInt32).set (2 * ((arg0 &&& (2147483647 : Int32)) % (6 : Int32)).toInt.toNat + 1) (own_min v3 (2147483647 : Int64)).toInt32).set (2 * ((arg1 &&& (2147483647 : Int32)) % (6 : Int32)).toInt.toNat) (own_min arg4 (2147483647 : Int64)).toInt32).set (2 * ((arg1 &&& (2147483647 : Int32)) % (6 : Int32)).toInt.toNat + 1) (own_min v4 (2147483647 : Int64)).toInt32).length = 12 by simp only [List.length_set, List.length_replicate])) hZ (w_60 hw) (w_13 hw) (by decide) (by decide)) q35a q35c (g := (mkF m 74 #[.val (.int arg0), .val (.int arg1), .val (.long arg2), .second, .val (.long arg3), .second, .val (.long arg4), .second, .val (.long arg5), .second, .val (.ref r_1), .val (.ref r_2), .val (.long v3), .second, .val (.long v4), .second, .val (.ref b5), .unset] [(.ref r_2), (.ref b5)])) rfl (by rw [hml]; rfl) (Steps.refl _) (argsL := [(.ref r_2)]) (rest := []) (lenOf own_pd9 rfl) rfl (by show 2 * 0 + _ ≤ _; exact Nat.le_of_eq rfl) (hb hby at_74) (fun _ _ => ⟨rfl, rfl, (by decide : 2 + 0 ≤ _), (by decide : 13 + 0 ≤ _)⟩)
  dsimp only [Pt.U, Pt.locs, Pt.cells, Pt.slots] at X35 l35 y35_ z35_ st35 hQ35
  subst l35 y35_ z35_
  obtain ⟨rfl, N35q, e35q⟩ := hQ35
  have N35 := Fr.app N30 N35q
  refine own_ss (B := T35.setTop (mkF m 77 #[.val (.int arg0), .val (.int arg1), .val (.long arg2), .second, .val (.long arg3), .second, .val (.long arg4), .second, .val (.long arg5), .second, .val (.ref r_1), .val (.ref r_2), .val (.long v3), .second, .val (.long v4), .second, .val (.ref b5), .unset] [(.long (((((((List.replicate 12 (0 : Int32)).set (2 * ((arg0 &&& (2147483647 : Int32)) % (6 : Int32)).toInt.toNat) (own_min arg2 (2147483647 : Int64)).toInt32).set (2 * ((arg0 &&& (2147483647 : Int32)) % (6 : Int32)).toInt.toNat + 1) (own_min v3 (2147483647 : Int64)).toInt32).set (2 * ((arg1 &&& (2147483647 : Int32)) % (6 : Int32)).toInt.toNat) (own_min arg4 (2147483647 : Int64)).toInt32).set (2 * ((arg1 &&& (2147483647 : Int32)) % (6 : Int32)).toInt.toNat + 1) (own_min v4 (2147483647 : Int64)).toInt32).getD (2 * ((arg1 &&& (2147483647 : Int32)) % (6 : Int32)).toInt.toNat + 1) 0).toInt64))])) st35 ?_
  refine own_st (B := T35.setTop (mkF m 79 #[.val (.int arg0), .val (.int arg1), .val (.long arg2), .second, .val (.long arg3), .second, .val (.long arg4), .second, .val (.long arg5), .second, .val (.ref r_1), .val (.ref r_2), .val (.long v3), .second, .val (.long v4), .second, .val (.ref b5), .unset] [(.long v4), (.long (((((((List.replicate 12 (0 : Int32)).set (2 * ((arg0 &&& (2147483647 : Int32)) % (6 : Int32)).toInt.toNat) (own_min arg2 (2147483647 : Int64)).toInt32).set (2 * ((arg0 &&& (2147483647 : Int32)) % (6 : Int32)).toInt.toNat + 1) (own_min v3 (2147483647 : Int64)).toInt32).set (2 * ((arg1 &&& (2147483647 : Int32)) % (6 : Int32)).toInt.toNat) (own_min arg4 (2147483647 : Int64)).toInt32).set (2 * ((arg1 &&& (2147483647 : Int32)) % (6 : Int32)).toInt.toNat + 1) (own_min v4 (2147483647 : Int64)).toInt32).getD (2 * ((arg1 &&& (2147483647 : Int32)) % (6 : Int32)).toInt.toNat + 1) 0).toInt64))])) (fun t k => XS.lload X35.here hx rfl (hb hby at_77) rfl k) ?_
  obtain ⟨_, _, ⟨T37, L37, k37, j37⟩, -, X37, ⟨Lc37, hQ37, l37, y37_, z37_⟩, st37⟩ := Jvm.LawKit.callS X35 hx (y := (⟨"com/example/bucketd/bucketd/quota/QuotaReportRemainingPinLaw", "cap", "(J)J"⟩ : MethodName)) hown (mvT hZ (w_61 hw)) (mvT hZ (w_62 hw)) (mvT hZ (w_3 hw)) (mvT hZ (w_63 hw)) (by decide) (backOf (W := 2) (rm9 l Z a0 hw [] v4 T30.heap n0 z31 ) hZ (w_63 hw) (w_3 hw) (by decide) (by decide)) (g := (mkF m 79 #[.val (.int arg0), .val (.int arg1), .val (.long arg2), .second, .val (.long arg3), .second, .val (.long arg4), .second, .val (.long arg5), .second, .val (.ref r_1), .val (.ref r_2), .val (.long v3), .second, .val (.long v4), .second, .val (.ref b5), .unset] [(.long v4), (.long (((((((List.replicate 12 (0 : Int32)).set (2 * ((arg0 &&& (2147483647 : Int32)) % (6 : Int32)).toInt.toNat) (own_min arg2 (2147483647 : Int64)).toInt32).set (2 * ((arg0 &&& (2147483647 : Int32)) % (6 : Int32)).toInt.toNat + 1) (own_min v3 (2147483647 : Int64)).toInt32).set (2 * ((arg1 &&& (2147483647 : Int32)) % (6 : Int32)).toInt.toNat) (own_min arg4 (2147483647 : Int64)).toInt32).set (2 * ((arg1 &&& (2147483647 : Int32)) % (6 : Int32)).toInt.toNat + 1) (own_min v4 (2147483647 : Int64)).toInt32).getD (2 * ((arg1 &&& (2147483647 : Int32)) % (6 : Int32)).toInt.toNat + 1) 0).toInt64))])) rfl (by rw [hml]; rfl) (argsL := [(.long v4)]) (rest := [(.long (((((((List.replicate 12 (0 : Int32)).set (2 * ((arg0 &&& (2147483647 : Int32)) % (6 : Int32)).toInt.toNat) (own_min arg2 (2147483647 : Int64)).toInt32).set (2 * ((arg0 &&& (2147483647 : Int32)) % (6 : Int32)).toInt.toNat + 1) (own_min v3 (2147483647 : Int64)).toInt32).set (2 * ((arg1 &&& (2147483647 : Int32)) % (6 : Int32)).toInt.toNat) (own_min arg4 (2147483647 : Int64)).toInt32).set (2 * ((arg1 &&& (2147483647 : Int32)) % (6 : Int32)).toInt.toNat + 1) (own_min v4 (2147483647 : Int64)).toInt32).getD (2 * ((arg1 &&& (2147483647 : Int32)) % (6 : Int32)).toInt.toNat + 1) 0).toInt64))]) (lenOf own_pd10 rfl) rfl (by show 2 * 0 + _ ≤ _; exact Nat.le_of_eq rfl) (hb hby at_79) (fun _ _ => ⟨rfl, e35q, (by decide : 2 + 0 ≤ _), (by decide : 13 + 0 ≤ _)⟩)
  dsimp only [Pt.U, Pt.locs, Pt.cells, Pt.slots] at X37 l37 y37_ z37_ st37 hQ37
  subst l37 y37_ z37_
  obtain ⟨rfl, N37q, e37q⟩ := hQ37
  have N37 := Fr.app N35 N37q
  refine own_st (B := T37.setTop (mkF m 82 #[.val (.int arg0), .val (.int arg1), .val (.long arg2), .second, .val (.long arg3), .second, .val (.long arg4), .second, .val (.long arg5), .second, .val (.ref r_1), .val (.ref r_2), .val (.long v3), .second, .val (.long v4), .second, .val (.ref b5), .unset] [(.long (own_cap v4)), (.long (((((((List.replicate 12 (0 : Int32)).set (2 * ((arg0 &&& (2147483647 : Int32)) % (6 : Int32)).toInt.toNat) (own_min arg2 (2147483647 : Int64)).toInt32).set (2 * ((arg0 &&& (2147483647 : Int32)) % (6 : Int32)).toInt.toNat + 1) (own_min v3 (2147483647 : Int64)).toInt32).set (2 * ((arg1 &&& (2147483647 : Int32)) % (6 : Int32)).toInt.toNat) (own_min arg4 (2147483647 : Int64)).toInt32).set (2 * ((arg1 &&& (2147483647 : Int32)) % (6 : Int32)).toInt.toNat + 1) (own_min v4 (2147483647 : Int64)).toInt32).getD (2 * ((arg1 &&& (2147483647 : Int32)) % (6 : Int32)).toInt.toNat + 1) 0).toInt64))])) (fun t k => st37 t k) ?_
  refine own_st (B := T37.setTop (mkF m 83 #[.val (.int arg0), .val (.int arg1), .val (.long arg2), .second, .val (.long arg3), .second, .val (.long arg4), .second, .val (.long arg5), .second, .val (.ref r_1), .val (.ref r_2), .val (.long v3), .second, .val (.long v4), .second, .val (.ref b5), .unset] [(.int (XT.cmpL (((((((List.replicate 12 (0 : Int32)).set (2 * ((arg0 &&& (2147483647 : Int32)) % (6 : Int32)).toInt.toNat) (own_min arg2 (2147483647 : Int64)).toInt32).set (2 * ((arg0 &&& (2147483647 : Int32)) % (6 : Int32)).toInt.toNat + 1) (own_min v3 (2147483647 : Int64)).toInt32).set (2 * ((arg1 &&& (2147483647 : Int32)) % (6 : Int32)).toInt.toNat) (own_min arg4 (2147483647 : Int64)).toInt32).set (2 * ((arg1 &&& (2147483647 : Int32)) % (6 : Int32)).toInt.toNat + 1) (own_min v4 (2147483647 : Int64)).toInt32).getD (2 * ((arg1 &&& (2147483647 : Int32)) % (6 : Int32)).toInt.toNat + 1) 0).toInt64) (own_cap v4)))])) (fun t k => XS.lcmp X37.here hx rfl (hb hby at_82) rfl k) ?_
  have hc38 : (((((((List.replicate 12 (0 : Int32)).set (2 * ((arg0 &&& (2147483647 : Int32)) % (6 : Int32)).toInt.toNat) (own_min arg2 (2147483647 : Int64)).toInt32).set (2 * ((arg0 &&& (2147483647 : Int32)) % (6 : Int32)).toInt.toNat + 1) (own_min v3 (2147483647 : Int64)).toInt32).set (2 * ((arg1 &&& (2147483647 : Int32)) % (6 : Int32)).toInt.toNat) (own_min arg4 (2147483647 : Int64)).toInt32).set (2 * ((arg1 &&& (2147483647 : Int32)) % (6 : Int32)).toInt.toNat + 1) (own_min v4 (2147483647 : Int64)).toInt32).getD (2 * ((arg1 &&& (2147483647 : Int32)) % (6 : Int32)).toInt.toNat + 1) 0).toInt64) = (own_cap v4) := by
    rw [own_last (by simp only [List.length_set, List.length_replicate]; have := own_six arg1; omega)]; exact own_val (own_mask ev4)
  refine own_st (B := T37.setTop (mkF m 86 #[.val (.int arg0), .val (.int arg1), .val (.long arg2), .second, .val (.long arg3), .second, .val (.long arg4), .second, .val (.long arg5), .second, .val (.ref r_1), .val (.ref r_2), .val (.long v3), .second, .val (.long v4), .second, .val (.ref b5), .unset] [])) (fun t k => XS.ifNo X37.here hx rfl (hb hby at_83) rfl (XT.ll_ne_f hc38) k) ?_
  refine own_st (B := T37.setTop (mkF m 87 #[.val (.int arg0), .val (.int arg1), .val (.long arg2), .second, .val (.long arg3), .second, .val (.long arg4), .second, .val (.long arg5), .second, .val (.ref r_1), .val (.ref r_2), .val (.long v3), .second, .val (.long v4), .second, .val (.ref b5), .unset] [(.int (1 : Int32))])) (fun t k => XS.iconst X37.here hx rfl (hb hby at_86) k) ?_
  refine own_st (B := T37.setTop (mkF m 91 #[.val (.int arg0), .val (.int arg1), .val (.long arg2), .second, .val (.long arg3), .second, .val (.long arg4), .second, .val (.long arg5), .second, .val (.ref r_1), .val (.ref r_2), .val (.long v3), .second, .val (.long v4), .second, .val (.ref b5), .unset] [(.int (1 : Int32))])) (fun t k => XS.goto X37.here hx rfl (pc0 := 87) (pc' := 91) rfl (hb hby at_87) (by decide) (by decide) k) ?_
  refine own_st (B := T37.setTop (mkF m 93 #[.val (.int arg0), .val (.int arg1), .val (.long arg2), .second, .val (.long arg3), .second, .val (.long arg4), .second, .val (.long arg5), .second, .val (.ref r_1), .val (.ref r_2), .val (.long v3), .second, .val (.long v4), .second, .val (.ref b5), .val (.int (1 : Int32))] [])) (fun t k => XS.istore X37.here hx rfl (hb hby at_91) rfl (l' := #[.val (.int arg0), .val (.int arg1), .val (.long arg2), .second, .val (.long arg3), .second, .val (.long arg4), .second, .val (.long arg5), .second, .val (.ref r_1), .val (.ref r_2), .val (.long v3), .second, .val (.long v4), .second, .val (.ref b5), .val (.int (1 : Int32))]) rfl k) ?_
  refine own_st (B := T37.setTop (mkF m 95 #[.val (.int arg0), .val (.int arg1), .val (.long arg2), .second, .val (.long arg3), .second, .val (.long arg4), .second, .val (.long arg5), .second, .val (.ref r_1), .val (.ref r_2), .val (.long v3), .second, .val (.long v4), .second, .val (.ref b5), .val (.int (1 : Int32))] [(.ref r_1)])) (fun t k => XS.aload X37.here hx rfl (hb hby at_93) rfl rfl k) ?_
  refine own_st (B := T37.setTop (mkF m 97 #[.val (.int arg0), .val (.int arg1), .val (.long arg2), .second, .val (.long arg3), .second, .val (.long arg4), .second, .val (.long arg5), .second, .val (.ref r_1), .val (.ref r_2), .val (.long v3), .second, .val (.long v4), .second, .val (.ref b5), .val (.int (1 : Int32))] [(.ref r_2), (.ref r_1)])) (fun t k => XS.aload X37.here hx rfl (hb hby at_95) rfl rfl k) ?_
  by_cases hc39 : r_1 = r_2
  · refine own_st (B := T37.setTop (mkF m 128 #[.val (.int arg0), .val (.int arg1), .val (.long arg2), .second, .val (.long arg3), .second, .val (.long arg4), .second, .val (.long arg5), .second, .val (.ref r_1), .val (.ref r_2), .val (.long v3), .second, .val (.long v4), .second, .val (.ref b5), .val (.int (1 : Int32))] [])) (fun t k => Jvm.RoadKit.acmp (g := (mkF m 97 #[.val (.int arg0), .val (.int arg1), .val (.long arg2), .second, .val (.long arg3), .second, .val (.long arg4), .second, .val (.long arg5), .second, .val (.ref r_1), .val (.ref r_2), .val (.long v3), .second, .val (.long v4), .second, .val (.ref b5), .val (.int (1 : Int32))] [(.ref r_2), (.ref r_1)])) X37 hx rfl rfl rfl (pc0 := 97) (pc' := 128) (same := true) rfl (hb hby at_97) rfl (decide_eq_true (congrArg Value.ref hc39)) (by decide) (by decide) k) ?_
    refine own_st (B := T37.setTop (mkF m 130 #[.val (.int arg0), .val (.int arg1), .val (.long arg2), .second, .val (.long arg3), .second, .val (.long arg4), .second, .val (.long arg5), .second, .val (.ref r_1), .val (.ref r_2), .val (.long v3), .second, .val (.long v4), .second, .val (.ref b5), .val (.int (1 : Int32))] [(.int (1 : Int32))])) (fun t k => XS.iload X37.here hx rfl (hb hby at_128) rfl k) ?_
    refine own_retN X37 hx hlk (t := .boolean) Bd.returns (by simp) (z' := (1 : Int32)) rfl (hb hby at_130) (by decide) (by decide) ?_
    show Q0 Z arg0 arg1 arg2 arg3 arg4 arg5 r0 r1 r2 r3 r4 r5 k1 k2 ks h0 n0 _ T37.heap _
    rw [e37q]
    exact ⟨rfl, N37⟩
  · refine own_st (B := T37.setTop (mkF m 100 #[.val (.int arg0), .val (.int arg1), .val (.long arg2), .second, .val (.long arg3), .second, .val (.long arg4), .second, .val (.long arg5), .second, .val (.ref r_1), .val (.ref r_2), .val (.long v3), .second, .val (.long v4), .second, .val (.ref b5), .val (.int (1 : Int32))] [])) (fun t k => Jvm.RoadKit.acmp (g := (mkF m 97 #[.val (.int arg0), .val (.int arg1), .val (.long arg2), .second, .val (.long arg3), .second, .val (.long arg4), .second, .val (.long arg5), .second, .val (.ref r_1), .val (.ref r_2), .val (.long v3), .second, .val (.long v4), .second, .val (.ref b5), .val (.int (1 : Int32))] [(.ref r_2), (.ref r_1)])) X37 hx rfl rfl rfl (pc0 := 97) (pc' := 100) (same := false) rfl (hb hby at_97) rfl (decide_eq_false fun q => hc39 (Value.ref.inj q)) (by decide) (by decide) k) ?_
    refine own_st (B := T37.setTop (mkF m 102 #[.val (.int arg0), .val (.int arg1), .val (.long arg2), .second, .val (.long arg3), .second, .val (.long arg4), .second, .val (.long arg5), .second, .val (.ref r_1), .val (.ref r_2), .val (.long v3), .second, .val (.long v4), .second, .val (.ref b5), .val (.int (1 : Int32))] [(.int (1 : Int32))])) (fun t k => XS.iload X37.here hx rfl (hb hby at_100) rfl k) ?_
    refine own_st (B := T37.setTop (mkF m 105 #[.val (.int arg0), .val (.int arg1), .val (.long arg2), .second, .val (.long arg3), .second, .val (.long arg4), .second, .val (.long arg5), .second, .val (.ref r_1), .val (.ref r_2), .val (.long v3), .second, .val (.long v4), .second, .val (.ref b5), .val (.int (1 : Int32))] [])) (fun t k => XS.ifNo X37.here hx rfl (hb hby at_102) rfl (by decide) k) ?_
    refine own_st (B := T37.setTop (mkF m 107 #[.val (.int arg0), .val (.int arg1), .val (.long arg2), .second, .val (.long arg3), .second, .val (.long arg4), .second, .val (.long arg5), .second, .val (.ref r_1), .val (.ref r_2), .val (.long v3), .second, .val (.long v4), .second, .val (.ref b5), .val (.int (1 : Int32))] [(.ref b5)])) (fun t k => XS.aload X37.here hx rfl (hb hby at_105) rfl rfl k) ?_
    refine own_st (B := T37.setTop (mkF m 109 #[.val (.int arg0), .val (.int arg1), .val (.long arg2), .second, .val (.long arg3), .second, .val (.long arg4), .second, .val (.long arg5), .second, .val (.ref r_1), .val (.ref r_2), .val (.long v3), .second, .val (.long v4), .second, .val (.ref b5), .val (.int (1 : Int32))] [(.ref r_1), (.ref b5)])) (fun t k => XS.aload X37.here hx rfl (hb hby at_107) rfl rfl k) ?_
    have f40 : Exa Z T30.heap r_1 "com/example/bucketd/bucketd/quota/BucketKind" := ((f22.keep K24).keep K30)
    have f41 : Fld Z T30.heap r_1 "java/lang/Enum" "ordinal" "I" (.int ((arg0 &&& (2147483647 : Int32)) % (6 : Int32))) := ((f23.keep K24 (ninS q12_b_r_1 nin0)).keep K30 (ninS q12_b_r_1 nin0))
    obtain ⟨cq42, kq42, q42a, q42b, q42c⟩ := isOf hZ e37q f36
    obtain ⟨_, _, ⟨T42, L42, k42, j42⟩, -, X42, ⟨Lc42, hQ42, l42, y42_, z42_⟩, st42⟩ := X37.virtualBack hx (y := (⟨"com/example/bucketd/bucketd/quota/QuotaReport", "remaining", "(Lcom/example/bucketd/bucketd/quota/BucketKind;)J"⟩ : MethodName)) (z := (⟨"com/example/bucketd/bucketd/quota/QuotaReport", "remaining", "(Lcom/example/bucketd/bucketd/quota/BucketKind;)J"⟩ : MethodName)) hown (mvT hZ (w_56 hw)) (mvT hZ (w_57 hw)) (notFace_of_selects (args := #[]) (mvT hZ (w_59 hw))) (mvT hZ (w_59 hw)) (mvT hZ (w_58 hw)) (by decide) (backOf (W := 0) (rm8 l Z a0 hw [] b5 r_1 b_12 ((arg0 &&& (2147483647 : Int32)) % (6 : Int32)) (((((List.replicate 12 (0 : Int32)).set (2 * ((arg0 &&& (2147483647 : Int32)) % (6 : Int32)).toInt.toNat) (own_min arg2 (2147483647 : Int64)).toInt32).set (2 * ((arg0 &&& (2147483647 : Int32)) % (6 : Int32)).toInt.toNat + 1) (own_min v3 (2147483647 : Int64)).toInt32).set (2 * ((arg1 &&& (2147483647 : Int32)) % (6 : Int32)).toInt.toNat) (own_min arg4 (2147483647 : Int64)).toInt32).set (2 * ((arg1 &&& (2147483647 : Int32)) % (6 : Int32)).toInt.toNat + 1) (own_min v4 (2147483647 : Int64)).toInt32) T30.heap n0 z31 f32 f40 f41 p30_0 (own_six _) (show (((((List.replicate 12 (0 : Int32)).set (2 * ((arg0 &&& (2147483647 : Int32)) % (6 : Int32)).toInt.toNat) (own_min arg2 (2147483647 : Int64)).toInt32).set (2 * ((arg0 &&& (2147483647 : Int32)) % (6 : Int32)).toInt.toNat + 1) (own_min v3 (2147483647 : Int64)).toInt32).set (2 * ((arg1 &&& (2147483647 : Int32)) % (6 : Int32)).toInt.toNat) (own_min arg4 (2147483647 : Int64)).toInt32).set (2 * ((arg1 &&& (2147483647 : Int32)) % (6 : Int32)).toInt.toNat + 1) (own_min v4 (2147483647 : Int64)).toInt32).length = 12 by simp only [List.length_set, List.length_replicate])) hZ (w_60 hw) (w_13 hw) (by decide) (by decide)) q42a q42c (g := (mkF m 109 #[.val (.int arg0), .val (.int arg1), .val (.long arg2), .second, .val (.long arg3), .second, .val (.long arg4), .second, .val (.long arg5), .second, .val (.ref r_1), .val (.ref r_2), .val (.long v3), .second, .val (.long v4), .second, .val (.ref b5), .val (.int (1 : Int32))] [(.ref r_1), (.ref b5)])) rfl (by rw [hml]; rfl) (Steps.refl _) (argsL := [(.ref r_1)]) (rest := []) (lenOf own_pd9 rfl) rfl (by show 2 * 0 + _ ≤ _; exact Nat.le_of_eq rfl) (hb hby at_109) (fun _ _ => ⟨rfl, e37q, (by decide : 2 + 0 ≤ _), (by decide : 13 + 0 ≤ _)⟩)
    dsimp only [Pt.U, Pt.locs, Pt.cells, Pt.slots] at X42 l42 y42_ z42_ st42 hQ42
    subst l42 y42_ z42_
    obtain ⟨rfl, N42q, e42q⟩ := hQ42
    have N42 := Fr.app N37 N42q
    refine own_ss (B := T42.setTop (mkF m 112 #[.val (.int arg0), .val (.int arg1), .val (.long arg2), .second, .val (.long arg3), .second, .val (.long arg4), .second, .val (.long arg5), .second, .val (.ref r_1), .val (.ref r_2), .val (.long v3), .second, .val (.long v4), .second, .val (.ref b5), .val (.int (1 : Int32))] [(.long (((((((List.replicate 12 (0 : Int32)).set (2 * ((arg0 &&& (2147483647 : Int32)) % (6 : Int32)).toInt.toNat) (own_min arg2 (2147483647 : Int64)).toInt32).set (2 * ((arg0 &&& (2147483647 : Int32)) % (6 : Int32)).toInt.toNat + 1) (own_min v3 (2147483647 : Int64)).toInt32).set (2 * ((arg1 &&& (2147483647 : Int32)) % (6 : Int32)).toInt.toNat) (own_min arg4 (2147483647 : Int64)).toInt32).set (2 * ((arg1 &&& (2147483647 : Int32)) % (6 : Int32)).toInt.toNat + 1) (own_min v4 (2147483647 : Int64)).toInt32).getD (2 * ((arg0 &&& (2147483647 : Int32)) % (6 : Int32)).toInt.toNat + 1) 0).toInt64))])) st42 ?_
    refine own_st (B := T42.setTop (mkF m 114 #[.val (.int arg0), .val (.int arg1), .val (.long arg2), .second, .val (.long arg3), .second, .val (.long arg4), .second, .val (.long arg5), .second, .val (.ref r_1), .val (.ref r_2), .val (.long v3), .second, .val (.long v4), .second, .val (.ref b5), .val (.int (1 : Int32))] [(.long v3), (.long (((((((List.replicate 12 (0 : Int32)).set (2 * ((arg0 &&& (2147483647 : Int32)) % (6 : Int32)).toInt.toNat) (own_min arg2 (2147483647 : Int64)).toInt32).set (2 * ((arg0 &&& (2147483647 : Int32)) % (6 : Int32)).toInt.toNat + 1) (own_min v3 (2147483647 : Int64)).toInt32).set (2 * ((arg1 &&& (2147483647 : Int32)) % (6 : Int32)).toInt.toNat) (own_min arg4 (2147483647 : Int64)).toInt32).set (2 * ((arg1 &&& (2147483647 : Int32)) % (6 : Int32)).toInt.toNat + 1) (own_min v4 (2147483647 : Int64)).toInt32).getD (2 * ((arg0 &&& (2147483647 : Int32)) % (6 : Int32)).toInt.toNat + 1) 0).toInt64))])) (fun t k => XS.lload X42.here hx rfl (hb hby at_112) rfl k) ?_
    obtain ⟨_, _, ⟨T43, L43, k43, j43⟩, -, X43, ⟨Lc43, hQ43, l43, y43_, z43_⟩, st43⟩ := Jvm.LawKit.callS X42 hx (y := (⟨"com/example/bucketd/bucketd/quota/QuotaReportRemainingPinLaw", "cap", "(J)J"⟩ : MethodName)) hown (mvT hZ (w_61 hw)) (mvT hZ (w_62 hw)) (mvT hZ (w_3 hw)) (mvT hZ (w_63 hw)) (by decide) (backOf (W := 2) (rm9 l Z a0 hw [] v3 T30.heap n0 z31 ) hZ (w_63 hw) (w_3 hw) (by decide) (by decide)) (g := (mkF m 114 #[.val (.int arg0), .val (.int arg1), .val (.long arg2), .second, .val (.long arg3), .second, .val (.long arg4), .second, .val (.long arg5), .second, .val (.ref r_1), .val (.ref r_2), .val (.long v3), .second, .val (.long v4), .second, .val (.ref b5), .val (.int (1 : Int32))] [(.long v3), (.long (((((((List.replicate 12 (0 : Int32)).set (2 * ((arg0 &&& (2147483647 : Int32)) % (6 : Int32)).toInt.toNat) (own_min arg2 (2147483647 : Int64)).toInt32).set (2 * ((arg0 &&& (2147483647 : Int32)) % (6 : Int32)).toInt.toNat + 1) (own_min v3 (2147483647 : Int64)).toInt32).set (2 * ((arg1 &&& (2147483647 : Int32)) % (6 : Int32)).toInt.toNat) (own_min arg4 (2147483647 : Int64)).toInt32).set (2 * ((arg1 &&& (2147483647 : Int32)) % (6 : Int32)).toInt.toNat + 1) (own_min v4 (2147483647 : Int64)).toInt32).getD (2 * ((arg0 &&& (2147483647 : Int32)) % (6 : Int32)).toInt.toNat + 1) 0).toInt64))])) rfl (by rw [hml]; rfl) (argsL := [(.long v3)]) (rest := [(.long (((((((List.replicate 12 (0 : Int32)).set (2 * ((arg0 &&& (2147483647 : Int32)) % (6 : Int32)).toInt.toNat) (own_min arg2 (2147483647 : Int64)).toInt32).set (2 * ((arg0 &&& (2147483647 : Int32)) % (6 : Int32)).toInt.toNat + 1) (own_min v3 (2147483647 : Int64)).toInt32).set (2 * ((arg1 &&& (2147483647 : Int32)) % (6 : Int32)).toInt.toNat) (own_min arg4 (2147483647 : Int64)).toInt32).set (2 * ((arg1 &&& (2147483647 : Int32)) % (6 : Int32)).toInt.toNat + 1) (own_min v4 (2147483647 : Int64)).toInt32).getD (2 * ((arg0 &&& (2147483647 : Int32)) % (6 : Int32)).toInt.toNat + 1) 0).toInt64))]) (lenOf own_pd10 rfl) rfl (by show 2 * 0 + _ ≤ _; exact Nat.le_of_eq rfl) (hb hby at_114) (fun _ _ => ⟨rfl, e42q, (by decide : 2 + 0 ≤ _), (by decide : 13 + 0 ≤ _)⟩)
    dsimp only [Pt.U, Pt.locs, Pt.cells, Pt.slots] at X43 l43 y43_ z43_ st43 hQ43
    subst l43 y43_ z43_
    obtain ⟨rfl, N43q, e43q⟩ := hQ43
    have N43 := Fr.app N42 N43q
    refine own_st (B := T43.setTop (mkF m 117 #[.val (.int arg0), .val (.int arg1), .val (.long arg2), .second, .val (.long arg3), .second, .val (.long arg4), .second, .val (.long arg5), .second, .val (.ref r_1), .val (.ref r_2), .val (.long v3), .second, .val (.long v4), .second, .val (.ref b5), .val (.int (1 : Int32))] [(.long (own_cap v3)), (.long (((((((List.replicate 12 (0 : Int32)).set (2 * ((arg0 &&& (2147483647 : Int32)) % (6 : Int32)).toInt.toNat) (own_min arg2 (2147483647 : Int64)).toInt32).set (2 * ((arg0 &&& (2147483647 : Int32)) % (6 : Int32)).toInt.toNat + 1) (own_min v3 (2147483647 : Int64)).toInt32).set (2 * ((arg1 &&& (2147483647 : Int32)) % (6 : Int32)).toInt.toNat) (own_min arg4 (2147483647 : Int64)).toInt32).set (2 * ((arg1 &&& (2147483647 : Int32)) % (6 : Int32)).toInt.toNat + 1) (own_min v4 (2147483647 : Int64)).toInt32).getD (2 * ((arg0 &&& (2147483647 : Int32)) % (6 : Int32)).toInt.toNat + 1) 0).toInt64))])) (fun t k => st43 t k) ?_
    refine own_st (B := T43.setTop (mkF m 118 #[.val (.int arg0), .val (.int arg1), .val (.long arg2), .second, .val (.long arg3), .second, .val (.long arg4), .second, .val (.long arg5), .second, .val (.ref r_1), .val (.ref r_2), .val (.long v3), .second, .val (.long v4), .second, .val (.ref b5), .val (.int (1 : Int32))] [(.int (XT.cmpL (((((((List.replicate 12 (0 : Int32)).set (2 * ((arg0 &&& (2147483647 : Int32)) % (6 : Int32)).toInt.toNat) (own_min arg2 (2147483647 : Int64)).toInt32).set (2 * ((arg0 &&& (2147483647 : Int32)) % (6 : Int32)).toInt.toNat + 1) (own_min v3 (2147483647 : Int64)).toInt32).set (2 * ((arg1 &&& (2147483647 : Int32)) % (6 : Int32)).toInt.toNat) (own_min arg4 (2147483647 : Int64)).toInt32).set (2 * ((arg1 &&& (2147483647 : Int32)) % (6 : Int32)).toInt.toNat + 1) (own_min v4 (2147483647 : Int64)).toInt32).getD (2 * ((arg0 &&& (2147483647 : Int32)) % (6 : Int32)).toInt.toNat + 1) 0).toInt64) (own_cap v3)))])) (fun t k => XS.lcmp X43.here hx rfl (hb hby at_117) rfl k) ?_
    have hc44 : (((((((List.replicate 12 (0 : Int32)).set (2 * ((arg0 &&& (2147483647 : Int32)) % (6 : Int32)).toInt.toNat) (own_min arg2 (2147483647 : Int64)).toInt32).set (2 * ((arg0 &&& (2147483647 : Int32)) % (6 : Int32)).toInt.toNat + 1) (own_min v3 (2147483647 : Int64)).toInt32).set (2 * ((arg1 &&& (2147483647 : Int32)) % (6 : Int32)).toInt.toNat) (own_min arg4 (2147483647 : Int64)).toInt32).set (2 * ((arg1 &&& (2147483647 : Int32)) % (6 : Int32)).toInt.toNat + 1) (own_min v4 (2147483647 : Int64)).toInt32).getD (2 * ((arg0 &&& (2147483647 : Int32)) % (6 : Int32)).toInt.toNat + 1) 0).toInt64) = (own_cap v3) := by
      rw [own_past (fun q => hc39 (by rw [r1_0, r2_0]; congr 1; exact Int32.toInt_inj.mp (by have h1 := own_six arg0; have h2 := own_six arg1; omega)))]
      rw [own_last (by simp only [List.length_set, List.length_replicate]; have := own_six arg0; omega)]; exact own_val (own_mask ev3)
    refine own_st (B := T43.setTop (mkF m 121 #[.val (.int arg0), .val (.int arg1), .val (.long arg2), .second, .val (.long arg3), .second, .val (.long arg4), .second, .val (.long arg5), .second, .val (.ref r_1), .val (.ref r_2), .val (.long v3), .second, .val (.long v4), .second, .val (.ref b5), .val (.int (1 : Int32))] [])) (fun t k => XS.ifNo X43.here hx rfl (hb hby at_118) rfl (XT.ll_ne_f hc44) k) ?_
    refine own_st (B := T43.setTop (mkF m 122 #[.val (.int arg0), .val (.int arg1), .val (.long arg2), .second, .val (.long arg3), .second, .val (.long arg4), .second, .val (.long arg5), .second, .val (.ref r_1), .val (.ref r_2), .val (.long v3), .second, .val (.long v4), .second, .val (.ref b5), .val (.int (1 : Int32))] [(.int (1 : Int32))])) (fun t k => XS.iconst X43.here hx rfl (hb hby at_121) k) ?_
    refine own_st (B := T43.setTop (mkF m 126 #[.val (.int arg0), .val (.int arg1), .val (.long arg2), .second, .val (.long arg3), .second, .val (.long arg4), .second, .val (.long arg5), .second, .val (.ref r_1), .val (.ref r_2), .val (.long v3), .second, .val (.long v4), .second, .val (.ref b5), .val (.int (1 : Int32))] [(.int (1 : Int32))])) (fun t k => XS.goto X43.here hx rfl (pc0 := 122) (pc' := 126) rfl (hb hby at_122) (by decide) (by decide) k) ?_
    refine own_st (B := T43.setTop (mkF m 128 #[.val (.int arg0), .val (.int arg1), .val (.long arg2), .second, .val (.long arg3), .second, .val (.long arg4), .second, .val (.long arg5), .second, .val (.ref r_1), .val (.ref r_2), .val (.long v3), .second, .val (.long v4), .second, .val (.ref b5), .val (.int (1 : Int32))] [])) (fun t k => XS.istore X43.here hx rfl (hb hby at_126) rfl (l' := #[.val (.int arg0), .val (.int arg1), .val (.long arg2), .second, .val (.long arg3), .second, .val (.long arg4), .second, .val (.long arg5), .second, .val (.ref r_1), .val (.ref r_2), .val (.long v3), .second, .val (.long v4), .second, .val (.ref b5), .val (.int (1 : Int32))]) rfl k) ?_
    refine own_st (B := T43.setTop (mkF m 130 #[.val (.int arg0), .val (.int arg1), .val (.long arg2), .second, .val (.long arg3), .second, .val (.long arg4), .second, .val (.long arg5), .second, .val (.ref r_1), .val (.ref r_2), .val (.long v3), .second, .val (.long v4), .second, .val (.ref b5), .val (.int (1 : Int32))] [(.int (1 : Int32))])) (fun t k => XS.iload X43.here hx rfl (hb hby at_128) rfl k) ?_
    refine own_retN X43 hx hlk (t := .boolean) Bd.returns (by simp) (z' := (1 : Int32)) rfl (hb hby at_130) (by decide) (by decide) ?_
    show Q0 Z arg0 arg1 arg2 arg3 arg4 arg5 r0 r1 r2 r3 r4 r5 k1 k2 ks h0 n0 _ T43.heap _
    rw [e43q]
    exact ⟨rfl, N43⟩
set_option maxHeartbeats 40000000 in
theorem comes_1 {Post : Tables → Env → Array Value → State → Outcome → State → Prop} (hpost : ∀ tb e args s v u, (limb_1_1.after args s (.returned v) u = true ∧ limb_1_2.after args s (.returned v) u = true ∧ True) → FrameEnd s (.returned v) u (Jvm.fieldLocs frame_1_writes args s ++ Jvm.arrayLocs frame_1_arrays args s ++ Jvm.staticLocs frame_1_statics s) 16 128 → Post tb e args s (.returned v) u) :
    ArmFor flags0 classFile x code maxLocals ret World_1 tables_1 room_1 Calls_1 rest_1 Pre_1 Post := by
  intro l hfl _ _ p e ha hc hk s m args below hf hA hF happ hP
  obtain ⟨hcalls, hrest, hpre⟩ := hP
  obtain ⟨-, -, -, hnamed, -, -, -, hat⟩ := (Spec.applies_iff hf).mp happ
  obtain ⟨hg, hn⟩ := and_e (Cond.before_iff.mp (show (Jvm.Cond.and given_1 narrow_1).before args s = true from hpre))
  obtain ⟨g1a, g1b⟩ := and_e hg
  obtain ⟨g2a, g2b⟩ := and_e g1b
  obtain ⟨g3a, g3b⟩ := and_e g2b
  obtain ⟨g4a, g4b⟩ := and_e g3b
  obtain ⟨g5a, g5b⟩ := and_e g4b
  obtain ⟨g6a, g6b⟩ := and_e g5b
  obtain ⟨w0, w1, w2, w3, w4, w5, rfl⟩ : ∃ w0 w1 w2 w3 w4 w5 : Value, args = #[w0, w1, w2, w3, w4, w5] := by
    have hs : args.size = 6 := by simpa [Cond.value, given_1] using g1a
    obtain ⟨L⟩ := args
    match L, hs with
    | [w0, w1, w2, w3, w4, w5], _ => exact ⟨w0, w1, w2, w3, w4, w5, rfl⟩
  have hw := fun d (hd : d ∈ tables_1) => atoms_spec (ws := Jvm.Cond.code x code maxLocals ret :: tables_1) hat d (List.mem_cons_of_mem _ hd)
  have hfit : Fit s := fun {y c} hc i hi => by
    obtain ⟨ha, rfl⟩ := Array.getElem?_eq_some_iff.mp hc
    have q := List.all_eq_true.mp ((Array.all_eq_true_iff_forall_mem.mp hF) _ (Array.getElem_mem ha)) i (List.mem_range.mpr hi)
    simpa [Array.getElem?_eq_getElem hi] using q
  obtain ⟨i0, ei0⟩ := is_v g2a
  obtain rfl : w0 = (.int i0) := Option.some.inj ei0
  obtain ⟨i1, ei1⟩ := is_v g3a
  obtain rfl : w1 = (.int i1) := Option.some.inj ei1
  obtain ⟨i2, ei2⟩ := isL_v g4a
  obtain rfl : w2 = (.long i2) := Option.some.inj ei2
  obtain ⟨i3, ei3⟩ := isL_v g5a
  obtain rfl : w3 = (.long i3) := Option.some.inj ei3
  obtain ⟨i4, ei4⟩ := isL_v g6a
  obtain rfl : w4 = (.long i4) := Option.some.inj ei4
  obtain ⟨i5, ei5⟩ := isL_v g6b
  obtain rfl : w5 = (.long i5) := Option.some.inj ei5
  obtain ⟨nl1, nr1⟩ := and_e hn
  obtain ⟨nl2, nr2⟩ := and_e nr1
  obtain ⟨nl3, nr3⟩ := and_e nr2
  obtain ⟨nl4, nr4⟩ := and_e nr3
  obtain ⟨nl5, nr5⟩ := and_e nr4
  obtain ⟨nl6, nr6⟩ := and_e nr5
  obtain ⟨nl7, nr7⟩ := and_e nr6
  obtain ⟨nl8, nr8⟩ := and_e nr7
  obtain ⟨nl9, nr9⟩ := and_e nr8
  obtain ⟨nl10, nr10⟩ := and_e nr9
  obtain ⟨nl11, nr11⟩ := and_e nr10
  obtain ⟨nl12, nr12⟩ := and_e nr11
  obtain ⟨nl13, nr13⟩ := and_e nr12
  obtain ⟨nl14, nr14⟩ := and_e nr13
  obtain ⟨r_TOKENS_PER_DAY, er_TOKENS_PER_DAY⟩ := exa_v nl1
  have S_TOKENS_PER_DAY : Sta s s.heap "com/example/bucketd/bucketd/quota/BucketKind" "TOKENS_PER_DAY" "Lcom/example/bucketd/bucketd/quota/BucketKind;" (.ref r_TOKENS_PER_DAY) := Sta.start er_TOKENS_PER_DAY (Or.inr ⟨(w_6 hw), (w_7 hw)⟩)
  have E_TOKENS_PER_DAY : Exa s s.heap r_TOKENS_PER_DAY "com/example/bucketd/bucketd/quota/BucketKind" := Exa.start er_TOKENS_PER_DAY nl1
  obtain ⟨r_CONCURRENT_REQUESTS, er_CONCURRENT_REQUESTS⟩ := exa_v nl2
  have S_CONCURRENT_REQUESTS : Sta s s.heap "com/example/bucketd/bucketd/quota/BucketKind" "CONCURRENT_REQUESTS" "Lcom/example/bucketd/bucketd/quota/BucketKind;" (.ref r_CONCURRENT_REQUESTS) := Sta.start er_CONCURRENT_REQUESTS (Or.inr ⟨(w_6 hw), (w_9 hw)⟩)
  have E_CONCURRENT_REQUESTS : Exa s s.heap r_CONCURRENT_REQUESTS "com/example/bucketd/bucketd/quota/BucketKind" := Exa.start er_CONCURRENT_REQUESTS nl2
  obtain ⟨r_KINDS, er_KINDS⟩ := exa_v nl3
  have S_KINDS : Sta s s.heap "com/example/bucketd/bucketd/quota/QuotaReport" "KINDS" "Ljava/util/List;" (.ref r_KINDS) := Sta.start er_KINDS (Or.inr ⟨(w_13 hw), (w_21 hw)⟩)
  have E_KINDS : Exa s s.heap r_KINDS "java/util/ImmutableCollections$ListN" := Exa.start er_KINDS nl3
  obtain ⟨r_TOKENS_PER_PROJECT_PER_HOUR, er_TOKENS_PER_PROJECT_PER_HOUR⟩ := exa_v nl8
  have S_TOKENS_PER_PROJECT_PER_HOUR : Sta s s.heap "com/example/bucketd/bucketd/quota/BucketKind" "TOKENS_PER_PROJECT_PER_HOUR" "Lcom/example/bucketd/bucketd/quota/BucketKind;" (.ref r_TOKENS_PER_PROJECT_PER_HOUR) := Sta.start er_TOKENS_PER_PROJECT_PER_HOUR (Or.inr ⟨(w_6 hw), (w_66 hw)⟩)
  have E_TOKENS_PER_PROJECT_PER_HOUR : Exa s s.heap r_TOKENS_PER_PROJECT_PER_HOUR "com/example/bucketd/bucketd/quota/BucketKind" := Exa.start er_TOKENS_PER_PROJECT_PER_HOUR nl8
  obtain ⟨r_TOKENS_PER_HOUR, er_TOKENS_PER_HOUR⟩ := exa_v nl9
  have S_TOKENS_PER_HOUR : Sta s s.heap "com/example/bucketd/bucketd/quota/BucketKind" "TOKENS_PER_HOUR" "Lcom/example/bucketd/bucketd/quota/BucketKind;" (.ref r_TOKENS_PER_HOUR) := Sta.start er_TOKENS_PER_HOUR (Or.inr ⟨(w_6 hw), (w_68 hw)⟩)
  have E_TOKENS_PER_HOUR : Exa s s.heap r_TOKENS_PER_HOUR "com/example/bucketd/bucketd/quota/BucketKind" := Exa.start er_TOKENS_PER_HOUR nl9
  obtain ⟨r_POTENTIALLY_THRESHOLDED_REQUESTS_PER_HOUR, er_POTENTIALLY_THRESHOLDED_REQUESTS_PER_HOUR⟩ := exa_v nl12
  have S_POTENTIALLY_THRESHOLDED_REQUESTS_PER_HOUR : Sta s s.heap "com/example/bucketd/bucketd/quota/BucketKind" "POTENTIALLY_THRESHOLDED_REQUESTS_PER_HOUR" "Lcom/example/bucketd/bucketd/quota/BucketKind;" (.ref r_POTENTIALLY_THRESHOLDED_REQUESTS_PER_HOUR) := Sta.start er_POTENTIALLY_THRESHOLDED_REQUESTS_PER_HOUR (Or.inr ⟨(w_6 hw), (w_70 hw)⟩)
  have E_POTENTIALLY_THRESHOLDED_REQUESTS_PER_HOUR : Exa s s.heap r_POTENTIALLY_THRESHOLDED_REQUESTS_PER_HOUR "com/example/bucketd/bucketd/quota/BucketKind" := Exa.start er_POTENTIALLY_THRESHOLDED_REQUESTS_PER_HOUR nl12
  obtain ⟨r_SERVER_ERRORS_PER_PROJECT_PER_HOUR, er_SERVER_ERRORS_PER_PROJECT_PER_HOUR⟩ := exa_v nl13
  have S_SERVER_ERRORS_PER_PROJECT_PER_HOUR : Sta s s.heap "com/example/bucketd/bucketd/quota/BucketKind" "SERVER_ERRORS_PER_PROJECT_PER_HOUR" "Lcom/example/bucketd/bucketd/quota/BucketKind;" (.ref r_SERVER_ERRORS_PER_PROJECT_PER_HOUR) := Sta.start er_SERVER_ERRORS_PER_PROJECT_PER_HOUR (Or.inr ⟨(w_6 hw), (w_72 hw)⟩)
  have E_SERVER_ERRORS_PER_PROJECT_PER_HOUR : Exa s s.heap r_SERVER_ERRORS_PER_PROJECT_PER_HOUR "com/example/bucketd/bucketd/quota/BucketKind" := Exa.start er_SERVER_ERRORS_PER_PROJECT_PER_HOUR nl13
  have F_TOKENS_PER_DAY_ordinal : Fld s s.heap r_TOKENS_PER_DAY "java/lang/Enum" "ordinal" "I" (.int (0 : Int32)) := Fld.start ((fld_at er_TOKENS_PER_DAY).symm.trans (eqv_i (Term.int_eval (0)) nl6))
  have F_CONCURRENT_REQUESTS_ordinal : Fld s s.heap r_CONCURRENT_REQUESTS "java/lang/Enum" "ordinal" "I" (.int (3 : Int32)) := Fld.start ((fld_at er_CONCURRENT_REQUESTS).symm.trans (eqv_i (Term.int_eval (3)) nl7))
  have F_TOKENS_PER_PROJECT_PER_HOUR_ordinal : Fld s s.heap r_TOKENS_PER_PROJECT_PER_HOUR "java/lang/Enum" "ordinal" "I" (.int (2 : Int32)) := Fld.start ((fld_at er_TOKENS_PER_PROJECT_PER_HOUR).symm.trans (eqv_i (Term.int_eval (2)) nl10))
  have F_TOKENS_PER_HOUR_ordinal : Fld s s.heap r_TOKENS_PER_HOUR "java/lang/Enum" "ordinal" "I" (.int (1 : Int32)) := Fld.start ((fld_at er_TOKENS_PER_HOUR).symm.trans (eqv_i (Term.int_eval (1)) nl11))
  have F_POTENTIALLY_THRESHOLDED_REQUESTS_PER_HOUR_ordinal : Fld s s.heap r_POTENTIALLY_THRESHOLDED_REQUESTS_PER_HOUR "java/lang/Enum" "ordinal" "I" (.int (5 : Int32)) := Fld.start ((fld_at er_POTENTIALLY_THRESHOLDED_REQUESTS_PER_HOUR).symm.trans (eqv_i (Term.int_eval (5)) nl14))
  have F_SERVER_ERRORS_PER_PROJECT_PER_HOUR_ordinal : Fld s s.heap r_SERVER_ERRORS_PER_PROJECT_PER_HOUR "java/lang/Enum" "ordinal" "I" (.int (4 : Int32)) := Fld.start ((fld_at er_SERVER_ERRORS_PER_PROJECT_PER_HOUR).symm.trans (eqv_i (Term.int_eval (4)) nr14))
  obtain ⟨k2, ek2⟩ := arr_v nl4
  have F_KINDS_elements : Fld s s.heap r_KINDS "java/util/ImmutableCollections$ListN" "elements" "[Ljava/lang/Object;" (.ref k2) := Fld.start ((fld_at er_KINDS).symm.trans ek2)
  obtain ⟨cl2, A2⟩ := Arr.start ek2 nl4
  have A_k2 : own_A s s.heap k2 (.object "java/lang/Object") cl2.slots.toList := ⟨cl2, A2, rfl⟩
  have hlen2 : cl2.slots.toList.length = 6 := own_len0 (k := 6) ek2 (A2.fin (Vm.Alike.refl _)) (by decide) (by decide) (eqv_i (Term.int_eval (6)) nl5)
  obtain ⟨n, o, h1, h2, h3, _, L, rfl, ⟨rfl, N⟩, hq⟩ := rm0 l s _ hw tables_1 i0 i1 i2 i3 i4 i5 r_TOKENS_PER_DAY r_TOKENS_PER_HOUR r_TOKENS_PER_PROJECT_PER_HOUR r_CONCURRENT_REQUESTS r_SERVER_ERRORS_PER_PROJECT_PER_HOUR r_POTENTIALLY_THRESHOLDED_REQUESTS_PER_HOUR r_KINDS k2 _ s.heap s.heap.size (Nat.le_refl _) S_TOKENS_PER_DAY S_TOKENS_PER_HOUR S_TOKENS_PER_PROJECT_PER_HOUR S_CONCURRENT_REQUESTS S_SERVER_ERRORS_PER_PROJECT_PER_HOUR S_POTENTIALLY_THRESHOLDED_REQUESTS_PER_HOUR E_TOKENS_PER_DAY E_TOKENS_PER_HOUR E_TOKENS_PER_PROJECT_PER_HOUR E_CONCURRENT_REQUESTS E_SERVER_ERRORS_PER_PROJECT_PER_HOUR E_POTENTIALLY_THRESHOLDED_REQUESTS_PER_HOUR F_TOKENS_PER_DAY_ordinal F_TOKENS_PER_HOUR_ordinal F_TOKENS_PER_PROJECT_PER_HOUR_ordinal F_CONCURRENT_REQUESTS_ordinal F_SERVER_ERRORS_PER_PROJECT_PER_HOUR_ordinal F_POTENTIALLY_THRESHOLDED_REQUESTS_PER_HOUR_ordinal S_KINDS E_KINDS F_KINDS_elements A_k2 hlen2 p e ha hc hk s m _ below hf ((Spec.applies_iff_loose hf).mp happ).1 ⟨rfl, State.Warmed39.refl s, rfl⟩ trivial
  refine ⟨n, _, h1, h2, h3, hpost _ _ _ _ _ _ ⟨Cond.after_iff.mpr rfl, Cond.after_iff.mpr (eq_i res_at (Term.int_eval (1)) rfl), trivial⟩ ⟨hq.1, hq.2.1, (hq.2.2.sift fun y hy => Or.inr (N y hy)).mono (by decide) (by decide)⟩⟩
theorem main_1_1 : Claimed_1_1 := comes_1 fun _ _ _ _ _ _ h hF => ⟨h.1, hF⟩
theorem main_1_2 : Claimed_1_2 := comes_1 fun _ _ _ _ _ _ h hF => ⟨h.2.1, hF⟩
end Jvm.Pilot.@@N@@
namespace Jvm.Pilot.@@N@@
open Jvm Jvm.ClassFile Sem Op Lib Jvm.Free Jvm.Stand Jvm.Pilot.@@N@@.Jvm.D
/-! MADE BY PROGRAM (witnessworld.py) out of the Statement's table words and the real class files: 24 classes; the members and pool entries that the words name. The judged class is class 1, her method 3. -/
namespace start1
open Jvm.ClassFile
def u (s : String) : CpInfo := .utf8 (stringToUtf16 s)
/-- a pool by its gaps: so many unusable entries, then the entry; so many at the end -/
def gap : Nat → List CpInfo → List CpInfo
  | 0, r => r
  | n + 1, r => .unusable :: gap n r
def poolList (es : List (Nat × CpInfo)) (last : Nat) : List CpInfo := es.foldr (fun e r => gap e.1 (e.2 :: r)) (gap last [])
def pool (es : List (Nat × CpInfo)) (last : Nat) : Array CpInfo := ⟨poolList es last⟩
def fileOf (pool : Array CpInfo) (this : Nat) (attrs : Array Attribute := #[]) (ms : Array MethodInfo := #[]) (fl : Nat := 33) (sup : Nat := 0) (ifs : Array Nat := #[]) (fds : Array FieldInfo := #[]) : ClassFile where
  minorVersion := 0
  majorVersion := 65
  constantPool := pool
  accessFlags := fl
  thisClass := this
  superClass := sup
  interfaces := ifs
  fields := fds
  methods := ms
  attributes := attrs
def plain (name : String) (sup : Option ClassId) : Class where
  name := name
  kind := .ordinary
  loader := none
  accessFlags := 33
  super := sup
  interfaces := #[]
  cf := none
  fields := #[]
  methods := #[]
  instanceTypes := #[]
  staticTypes := #[]
  resolved := #[]
  callSites := []
  init := .initialized
  statics := none
  mirror := none

def pool0 : Array CpInfo := pool [(5, u "<init>"), (0, u "()V"), (1, .class_ 10), (1, u "java/lang/Object")] 113

def k0c0 : Code := { maxStack := 0, maxLocals := 1, code := object_method_1_code, exceptionTable := #[], attributes := #[] }
def k0m0 : Method := { name := "<init>", desc := "()V", sig := { parameters := [], returnType := none }, accessFlags := 1, code := some k0c0 }
/-- java/lang/Object -/
def k0 : Class := { plain "java/lang/Object" none with
  accessFlags := 33
  interfaces := #[]
  cf := some (fileOf pool0 8 #[] #[{ accessFlags := 1, nameIndex := 5, descriptorIndex := 6, attributes := #[] }] 33 0 #[] #[])
  fields := #[]
  methods := #[k0m0]
  instanceTypes := #[]
  staticTypes := #[]
  resolved := Array.replicate 124 none
  statics := none }

def pool1 : Array CpInfo := pool [(2, .class_ 4), (0, .nameAndType 5 6), (0, u "java/lang/Object"), (0, u "<init>"), (0, u "()V"), (0, .fieldref 8 9), (0, .class_ 10), (0, .nameAndType 11 12), (0, u "com/example/bucketd/bucketd/quota/BucketKind"), (0, u "TOKENS_PER_DAY"), (0, u "Lcom/example/bucketd/bucketd/quota/BucketKind;"), (0, .fieldref 8 14), (0, .nameAndType 15 12), (0, u "TOKENS_PER_HOUR"), (0, .fieldref 8 17), (0, .nameAndType 18 12), (0, u "TOKENS_PER_PROJECT_PER_HOUR"), (0, .fieldref 8 20), (0, .nameAndType 21 12), (0, u "CONCURRENT_REQUESTS"), (0, .fieldref 8 23), (0, .nameAndType 24 12), (0, u "SERVER_ERRORS_PER_PROJECT_PER_HOUR"), (0, .fieldref 8 26), (0, .nameAndType 27 12), (0, u "POTENTIALLY_THRESHOLDED_REQUESTS_PER_HOUR"), (0, .long 2147483647), (1, .integer 2147483647), (0, .methodref 32 33), (0, .class_ 34), (0, .nameAndType 35 36), (0, u "com/example/bucketd/bucketd/quota/QuotaReportRemainingPinLaw"), (0, u "pick"), (0, u "(I)Lcom/example/bucketd/bucketd/quota/BucketKind;"), (2, .long 9223372036854775807), (1, .class_ 42), (0, u "com/example/bucketd/bucketd/quota/QuotaReport"), (0, .methodref 41 3), (0, .methodref 41 45), (0, .nameAndType 46 47), (0, u "put"), (0, u "(Lcom/example/bucketd/bucketd/quota/BucketKind;JJ)V"), (0, .methodref 41 49), (0, .nameAndType 50 51), (0, u "remaining"), (0, u "(Lcom/example/bucketd/bucketd/quota/BucketKind;)J"), (0, .methodref 32 53), (0, .nameAndType 54 55), (0, u "cap"), (0, u "(J)J"), (3, u "law"), (0, u "(IIJJJJ)Z")] 2

def k1m0 : Method := { name := "<init>", desc := "()V", sig := { parameters := [], returnType := none }, accessFlags := 1, code := none }
def k1c1 : Code := { maxStack := 2, maxLocals := 1, code := method_2_code, exceptionTable := #[], attributes := #[] }
def k1m1 : Method := { name := "pick", desc := "(I)Lcom/example/bucketd/bucketd/quota/BucketKind;", sig := { parameters := [.int], returnType := some (.object "com/example/bucketd/bucketd/quota/BucketKind") }, accessFlags := 10, code := some k1c1 }
def k1c2 : Code := { maxStack := 4, maxLocals := 2, code := method_3_code, exceptionTable := #[], attributes := #[] }
def k1m2 : Method := { name := "cap", desc := "(J)J", sig := { parameters := [.long], returnType := some .long }, accessFlags := 10, code := some k1c2 }
def k1c3 : Code := { maxStack := 6, maxLocals := 18, code := code, exceptionTable := #[], attributes := #[] }
def k1m3 : Method := { name := "law", desc := "(IIJJJJ)Z", sig := { parameters := [.int, .int, .long, .long, .long, .long], returnType := some .boolean }, accessFlags := 9, code := some k1c3 }
/-- com/example/bucketd/bucketd/quota/QuotaReportRemainingPinLaw -/
def k1 : Class := { plain "com/example/bucketd/bucketd/quota/QuotaReportRemainingPinLaw" (some 0) with
  accessFlags := 49
  interfaces := #[]
  cf := some (fileOf pool1 32 #[] #[{ accessFlags := 1, nameIndex := 5, descriptorIndex := 6, attributes := #[] }, { accessFlags := 10, nameIndex := 35, descriptorIndex := 36, attributes := #[] }, { accessFlags := 10, nameIndex := 54, descriptorIndex := 55, attributes := #[] }, { accessFlags := 9, nameIndex := 59, descriptorIndex := 60, attributes := #[] }] 49 2 #[] #[])
  fields := #[]
  methods := #[k1m0, k1m1, k1m2, k1m3]
  instanceTypes := #[]
  staticTypes := #[]
  resolved := Array.replicate 63 none
  statics := none }

def pool2 : Array CpInfo := pool [(1, .class_ 2), (0, u "java/lang/constant/Constable"), (0, .class_ 4), (0, u "java/lang/Object")] 6

/-- java/lang/constant/Constable -/
def k2 : Class := { plain "java/lang/constant/Constable" (some 0) with
  accessFlags := 1537
  interfaces := #[]
  cf := some (fileOf pool2 1 #[] #[] 1537 3 #[] #[])
  fields := #[]
  methods := #[]
  instanceTypes := #[]
  staticTypes := #[]
  resolved := Array.replicate 11 none
  statics := none }

def pool3 : Array CpInfo := pool [(1, .class_ 2), (0, u "java/lang/Comparable"), (0, .class_ 4), (0, u "java/lang/Object")] 7

/-- java/lang/Comparable -/
def k3 : Class := { plain "java/lang/Comparable" (some 0) with
  accessFlags := 1537
  interfaces := #[]
  cf := some (fileOf pool3 1 #[] #[] 1537 3 #[] #[])
  fields := #[]
  methods := #[]
  instanceTypes := #[]
  staticTypes := #[]
  resolved := Array.replicate 12 none
  statics := none }

def pool4 : Array CpInfo := pool [(1, .class_ 2), (0, u "java/io/Serializable"), (0, .class_ 4), (0, u "java/lang/Object")] 2

/-- java/io/Serializable -/
def k4 : Class := { plain "java/io/Serializable" (some 0) with
  accessFlags := 1537
  interfaces := #[]
  cf := some (fileOf pool4 1 #[] #[] 1537 3 #[] #[])
  fields := #[]
  methods := #[]
  instanceTypes := #[]
  staticTypes := #[]
  resolved := Array.replicate 7 none
  statics := none }

def pool5 : Array CpInfo := pool [(2, .class_ 4), (1, u "java/lang/Enum"), (0, u "name"), (0, u "Ljava/lang/String;"), (0, .fieldref 2 8), (0, .nameAndType 9 10), (0, u "ordinal"), (0, u "I"), (1, .class_ 14), (1, u "java/lang/Object"), (4, u "hash"), (86, .class_ 108), (1, u "java/lang/Enum$EnumDesc"), (2, .class_ 112), (0, u "java/lang/constant/Constable"), (0, .class_ 114), (0, u "java/lang/Comparable"), (0, .class_ 116), (0, u "java/io/Serializable"), (9, u "()I")] 77

def k5c0 : Code := { maxStack := 1, maxLocals := 1, code := jdk_37_method_2_code, exceptionTable := #[], attributes := #[] }
def k5m0 : Method := { name := "ordinal", desc := "()I", sig := { parameters := [], returnType := some .int }, accessFlags := 17, code := some k5c0 }
/-- java/lang/Enum -/
def k5 : Class := { plain "java/lang/Enum" (some 0) with
  accessFlags := 1057
  interfaces := #[2, 3, 4]
  cf := some (fileOf pool5 2 #[.nestMembers #[106]] #[{ accessFlags := 17, nameIndex := 9, descriptorIndex := 126, attributes := #[] }] 1057 12 #[111, 113, 115] #[{ accessFlags := 18, nameIndex := 5, descriptorIndex := 6, attributes := #[] }, { accessFlags := 18, nameIndex := 9, descriptorIndex := 10, attributes := #[] }, { accessFlags := 2, nameIndex := 19, descriptorIndex := 10, attributes := #[] }])
  fields := #[{ name := "name", type := (.object "java/lang/String"), accessFlags := 18, slot := 0, constantValue := 0 }, { name := "ordinal", type := .int, accessFlags := 18, slot := 1, constantValue := 0 }, { name := "hash", type := .int, accessFlags := 2, slot := 2, constantValue := 0 }]
  methods := #[k5m0]
  instanceTypes := #[(.object "java/lang/String"), .int, .int]
  staticTypes := #[]
  resolved := Array.replicate 204 none
  statics := none }

def pool6 : Array CpInfo := pool [(1, .class_ 2), (0, u "com/example/bucketd/bucketd/quota/BucketKind"), (2, u "TOKENS_PER_DAY"), (0, u "Lcom/example/bucketd/bucketd/quota/BucketKind;"), (2, u "TOKENS_PER_HOUR"), (2, u "TOKENS_PER_PROJECT_PER_HOUR"), (2, u "CONCURRENT_REQUESTS"), (2, u "SERVER_ERRORS_PER_PROJECT_PER_HOUR"), (2, u "POTENTIALLY_THRESHOLDED_REQUESTS_PER_HOUR"), (2, u "$VALUES"), (0, u "[Lcom/example/bucketd/bucketd/quota/BucketKind;"), (6, .class_ 34), (1, u "java/lang/Enum"), (8, u "key"), (0, u "Ljava/lang/String;"), (2, u "standardFigure"), (0, u "J"), (2, u "premiumFigure"), (2, u "window"), (0, u "Lcom/example/bucketd/bucketd/quota/Window;"), (2, u "perProject"), (0, u "Z"), (2, u "perCategory"), (21, .class_ 86), (1, u "com/example/bucketd/bucketd/quota/BucketKind$1")] 88

/-- com/example/bucketd/bucketd/quota/BucketKind -/
def k6 : Class := { plain "com/example/bucketd/bucketd/quota/BucketKind" (some 5) with
  accessFlags := 16433
  interfaces := #[]
  cf := some (fileOf pool6 1 #[.nestMembers #[84]] #[] 16433 32 #[] #[{ accessFlags := 16409, nameIndex := 5, descriptorIndex := 6, attributes := #[] }, { accessFlags := 16409, nameIndex := 9, descriptorIndex := 6, attributes := #[] }, { accessFlags := 16409, nameIndex := 12, descriptorIndex := 6, attributes := #[] }, { accessFlags := 16409, nameIndex := 15, descriptorIndex := 6, attributes := #[] }, { accessFlags := 16409, nameIndex := 18, descriptorIndex := 6, attributes := #[] }, { accessFlags := 16409, nameIndex := 21, descriptorIndex := 6, attributes := #[] }, { accessFlags := 18, nameIndex := 43, descriptorIndex := 44, attributes := #[] }, { accessFlags := 18, nameIndex := 47, descriptorIndex := 48, attributes := #[] }, { accessFlags := 18, nameIndex := 51, descriptorIndex := 48, attributes := #[] }, { accessFlags := 18, nameIndex := 54, descriptorIndex := 55, attributes := #[] }, { accessFlags := 18, nameIndex := 58, descriptorIndex := 59, attributes := #[] }, { accessFlags := 18, nameIndex := 62, descriptorIndex := 59, attributes := #[] }, { accessFlags := 4122, nameIndex := 24, descriptorIndex := 25, attributes := #[] }])
  fields := #[{ name := "TOKENS_PER_DAY", type := (.object "com/example/bucketd/bucketd/quota/BucketKind"), accessFlags := 16409, slot := 0, constantValue := 0 }, { name := "TOKENS_PER_HOUR", type := (.object "com/example/bucketd/bucketd/quota/BucketKind"), accessFlags := 16409, slot := 1, constantValue := 0 }, { name := "TOKENS_PER_PROJECT_PER_HOUR", type := (.object "com/example/bucketd/bucketd/quota/BucketKind"), accessFlags := 16409, slot := 2, constantValue := 0 }, { name := "CONCURRENT_REQUESTS", type := (.object "com/example/bucketd/bucketd/quota/BucketKind"), accessFlags := 16409, slot := 3, constantValue := 0 }, { name := "SERVER_ERRORS_PER_PROJECT_PER_HOUR", type := (.object "com/example/bucketd/bucketd/quota/BucketKind"), accessFlags := 16409, slot := 4, constantValue := 0 }, { name := "POTENTIALLY_THRESHOLDED_REQUESTS_PER_HOUR", type := (.object "com/example/bucketd/bucketd/quota/BucketKind"), accessFlags := 16409, slot := 5, constantValue := 0 }, { name := "key", type := (.object "java/lang/String"), accessFlags := 18, slot := 3, constantValue := 0 }, { name := "standardFigure", type := .long, accessFlags := 18, slot := 4, constantValue := 0 }, { name := "premiumFigure", type := .long, accessFlags := 18, slot := 5, constantValue := 0 }, { name := "window", type := (.object "com/example/bucketd/bucketd/quota/Window"), accessFlags := 18, slot := 6, constantValue := 0 }, { name := "perProject", type := .boolean, accessFlags := 18, slot := 7, constantValue := 0 }, { name := "perCategory", type := .boolean, accessFlags := 18, slot := 8, constantValue := 0 }, { name := "$VALUES", type := (.array (.object "com/example/bucketd/bucketd/quota/BucketKind")), accessFlags := 4122, slot := 6, constantValue := 0 }]
  methods := #[]
  instanceTypes := #[(.object "java/lang/String"), .int, .int, (.object "java/lang/String"), .long, .long, (.object "com/example/bucketd/bucketd/quota/Window"), .boolean, .boolean]
  staticTypes := #[(.object "com/example/bucketd/bucketd/quota/BucketKind"), (.object "com/example/bucketd/bucketd/quota/BucketKind"), (.object "com/example/bucketd/bucketd/quota/BucketKind"), (.object "com/example/bucketd/bucketd/quota/BucketKind"), (.object "com/example/bucketd/bucketd/quota/BucketKind"), (.object "com/example/bucketd/bucketd/quota/BucketKind"), (.array (.object "com/example/bucketd/bucketd/quota/BucketKind"))]
  resolved := Array.replicate 175 none
  statics := some 0 }

def pool7 : Array CpInfo := pool [(3, .methodref 4 5), (0, .class_ 6), (0, .nameAndType 7 8), (0, u "java/lang/Object"), (0, u "<init>"), (0, u "()V"), (0, .fieldref 10 11), (0, .class_ 12), (0, .nameAndType 13 14), (0, u "com/example/bucketd/bucketd/quota/QuotaReport"), (0, u "KINDS"), (0, u "Ljava/util/List;"), (0, .interfaceMethodref 16 17), (0, .class_ 18), (0, .nameAndType 19 20), (0, u "java/util/List"), (0, u "size"), (0, u "()I"), (0, .fieldref 10 22), (0, .nameAndType 23 24), (0, u "counts"), (0, u "[I"), (0, .methodref 26 27), (0, .class_ 28), (0, .nameAndType 29 20), (0, u "com/example/bucketd/bucketd/quota/BucketKind"), (0, u "ordinal"), (0, .long 2147483647), (1, .methodref 33 34), (0, .class_ 35), (0, .nameAndType 36 37), (0, u "java/lang/Math"), (0, u "min"), (0, u "(JJ)J"), (8, u "LARGEST"), (0, u "J"), (5, u "put"), (0, u "(Lcom/example/bucketd/bucketd/quota/BucketKind;JJ)V"), (4, u "(Lcom/example/bucketd/bucketd/quota/BucketKind;)J"), (0, u "remaining")] 3

def k7c0 : Code := { maxStack := 3, maxLocals := 1, code := prog_29_method_1_code, exceptionTable := #[], attributes := #[] }
def k7m0 : Method := { name := "<init>", desc := "()V", sig := { parameters := [], returnType := none }, accessFlags := 0, code := some k7c0 }
def k7c1 : Code := { maxStack := 6, maxLocals := 6, code := prog_29_method_2_code, exceptionTable := #[], attributes := #[] }
def k7m1 : Method := { name := "put", desc := "(Lcom/example/bucketd/bucketd/quota/BucketKind;JJ)V", sig := { parameters := [(.object "com/example/bucketd/bucketd/quota/BucketKind"), .long, .long], returnType := none }, accessFlags := 0, code := some k7c1 }
def k7c2 : Code := { maxStack := 3, maxLocals := 2, code := prog_29_method_5_code, exceptionTable := #[], attributes := #[] }
def k7m2 : Method := { name := "remaining", desc := "(Lcom/example/bucketd/bucketd/quota/BucketKind;)J", sig := { parameters := [(.object "com/example/bucketd/bucketd/quota/BucketKind")], returnType := some .long }, accessFlags := 1, code := some k7c2 }
/-- com/example/bucketd/bucketd/quota/QuotaReport -/
def k7 : Class := { plain "com/example/bucketd/bucketd/quota/QuotaReport" (some 0) with
  accessFlags := 49
  interfaces := #[]
  cf := some (fileOf pool7 10 #[] #[{ accessFlags := 0, nameIndex := 7, descriptorIndex := 8, attributes := #[] }, { accessFlags := 0, nameIndex := 53, descriptorIndex := 54, attributes := #[] }, { accessFlags := 1, nameIndex := 60, descriptorIndex := 59, attributes := #[] }] 49 4 #[] #[{ accessFlags := 26, nameIndex := 46, descriptorIndex := 47, attributes := #[] }, { accessFlags := 26, nameIndex := 13, descriptorIndex := 14, attributes := #[] }, { accessFlags := 18, nameIndex := 23, descriptorIndex := 24, attributes := #[] }])
  fields := #[{ name := "LARGEST", type := .long, accessFlags := 26, slot := 0, constantValue := 0 }, { name := "KINDS", type := (.object "java/util/List"), accessFlags := 26, slot := 1, constantValue := 0 }, { name := "counts", type := (.array .int), accessFlags := 18, slot := 0, constantValue := 0 }]
  methods := #[k7m0, k7m1, k7m2]
  instanceTypes := #[(.array .int)]
  staticTypes := #[.long, (.object "java/util/List")]
  resolved := Array.replicate 64 none
  statics := some 1 }

def pool8 : Array CpInfo := pool [(8, .class_ 10), (1, u "java/lang/Iterable"), (24, .class_ 36), (0, u "java/lang/Object")] 25

/-- java/lang/Iterable -/
def k8 : Class := { plain "java/lang/Iterable" (some 0) with
  accessFlags := 1537
  interfaces := #[]
  cf := some (fileOf pool8 8 #[] #[] 1537 35 #[] #[])
  fields := #[]
  methods := #[]
  instanceTypes := #[]
  staticTypes := #[]
  resolved := Array.replicate 62 none
  statics := none }

def pool9 : Array CpInfo := pool [(10, .class_ 12), (1, u "java/util/Collection"), (47, .class_ 61), (0, u "java/lang/Object"), (0, .class_ 63), (0, u "java/lang/Iterable")] 51

/-- java/util/Collection -/
def k9 : Class := { plain "java/util/Collection" (some 0) with
  accessFlags := 1537
  interfaces := #[8]
  cf := some (fileOf pool9 10 #[] #[] 1537 60 #[62] #[])
  fields := #[]
  methods := #[]
  instanceTypes := #[]
  staticTypes := #[]
  resolved := Array.replicate 115 none
  statics := none }

def pool10 : Array CpInfo := pool [(8, .class_ 10), (1, u "java/util/SequencedCollection"), (15, .class_ 27), (0, u "java/lang/Object"), (0, .class_ 29), (0, u "java/util/Collection")] 27

/-- java/util/SequencedCollection -/
def k10 : Class := { plain "java/util/SequencedCollection" (some 0) with
  accessFlags := 1537
  interfaces := #[9]
  cf := some (fileOf pool10 8 #[] #[] 1537 26 #[28] #[])
  fields := #[]
  methods := #[]
  instanceTypes := #[]
  staticTypes := #[]
  resolved := Array.replicate 57 none
  statics := none }

def pool11 : Array CpInfo := pool [(8, .class_ 10), (1, u "java/util/List"), (68, u "size"), (0, u "()I"), (22, .class_ 104), (0, u "java/lang/Object"), (15, .class_ 121), (0, u "java/util/SequencedCollection")] 129

def k11m0 : Method := { name := "size", desc := "()I", sig := { parameters := [], returnType := some .int }, accessFlags := 1025, code := none }
/-- java/util/List -/
def k11 : Class := { plain "java/util/List" (some 0) with
  accessFlags := 1537
  interfaces := #[10]
  cf := some (fileOf pool11 8 #[] #[{ accessFlags := 1025, nameIndex := 79, descriptorIndex := 80, attributes := #[] }] 1537 103 #[120] #[])
  fields := #[]
  methods := #[k11m0]
  instanceTypes := #[]
  staticTypes := #[]
  resolved := Array.replicate 251 none
  statics := none }

def pool12 : Array CpInfo := pool [(2, .class_ 4), (1, u "java/lang/Object"), (0, u "<init>"), (0, u "()V"), (1, .class_ 10), (1, u "java/util/AbstractCollection"), (66, .class_ 78), (0, u "java/util/Collection")] 81

def k12m0 : Method := { name := "<init>", desc := "()V", sig := { parameters := [], returnType := none }, accessFlags := 4, code := none }
/-- java/util/AbstractCollection -/
def k12 : Class := { plain "java/util/AbstractCollection" (some 0) with
  accessFlags := 1057
  interfaces := #[9]
  cf := some (fileOf pool12 8 #[] #[{ accessFlags := 4, nameIndex := 5, descriptorIndex := 6, attributes := #[] }] 1057 2 #[77] #[])
  fields := #[]
  methods := #[k12m0]
  instanceTypes := #[]
  staticTypes := #[]
  resolved := Array.replicate 160 none
  statics := none }

def pool13 : Array CpInfo := pool [(2, .class_ 4), (1, u "java/util/AbstractCollection"), (0, u "<init>"), (0, u "()V"), (1, .class_ 10), (1, u "java/util/ImmutableCollections"), (2, .class_ 14), (0, u "java/util/ImmutableCollections$AbstractImmutableCollection")] 41

def k13m0 : Method := { name := "<init>", desc := "()V", sig := { parameters := [], returnType := none }, accessFlags := 0, code := none }
/-- java/util/ImmutableCollections$AbstractImmutableCollection -/
def k13 : Class := { plain "java/util/ImmutableCollections$AbstractImmutableCollection" (some 12) with
  accessFlags := 1056
  interfaces := #[]
  cf := some (fileOf pool13 13 #[.nestHost 8] #[{ accessFlags := 0, nameIndex := 5, descriptorIndex := 6, attributes := #[] }] 1056 2 #[] #[])
  fields := #[]
  methods := #[k13m0]
  instanceTypes := #[]
  staticTypes := #[]
  resolved := Array.replicate 56 none
  statics := none }

def pool14 : Array CpInfo := pool [(1, .class_ 2), (0, u "java/util/RandomAccess"), (0, .class_ 4), (0, u "java/lang/Object")] 2

/-- java/util/RandomAccess -/
def k14 : Class := { plain "java/util/RandomAccess" (some 0) with
  accessFlags := 1537
  interfaces := #[]
  cf := some (fileOf pool14 1 #[] #[] 1537 3 #[] #[])
  fields := #[]
  methods := #[]
  instanceTypes := #[]
  staticTypes := #[]
  resolved := Array.replicate 7 none
  statics := none }

def pool15 : Array CpInfo := pool [(2, .class_ 4), (1, u "java/util/ImmutableCollections$AbstractImmutableCollection"), (0, u "<init>"), (0, u "()V"), (1, .class_ 10), (1, u "java/util/ImmutableCollections"), (3, .class_ 16), (1, u "java/util/ImmutableCollections$AbstractImmutableList"), (60, .class_ 78), (0, u "java/util/List"), (45, .class_ 125), (0, u "java/util/RandomAccess")] 70

def k15m0 : Method := { name := "<init>", desc := "()V", sig := { parameters := [], returnType := none }, accessFlags := 0, code := none }
/-- java/util/ImmutableCollections$AbstractImmutableList -/
def k15 : Class := { plain "java/util/ImmutableCollections$AbstractImmutableList" (some 13) with
  accessFlags := 1056
  interfaces := #[11, 14]
  cf := some (fileOf pool15 14 #[.nestHost 8] #[{ accessFlags := 0, nameIndex := 5, descriptorIndex := 6, attributes := #[] }] 1056 2 #[77, 124] #[])
  fields := #[]
  methods := #[k15m0]
  instanceTypes := #[]
  staticTypes := #[]
  resolved := Array.replicate 196 none
  statics := none }

def pool16 : Array CpInfo := pool [(2, .class_ 4), (1, u "java/util/ImmutableCollections$AbstractImmutableList"), (2, .fieldref 8 9), (0, .class_ 10), (0, .nameAndType 11 12), (0, u "java/util/ImmutableCollections$ListN"), (0, u "elements"), (0, u "[Ljava/lang/Object;"), (2, u "allowNulls"), (0, u "Z"), (42, .class_ 60), (0, u "java/io/Serializable"), (16, u "size"), (0, u "()I"), (35, .class_ 115), (0, u "java/util/ImmutableCollections")] 3

def k16c0 : Code := { maxStack := 1, maxLocals := 1, code := jdk_45_method_3_code, exceptionTable := #[], attributes := #[] }
def k16m0 : Method := { name := "size", desc := "()I", sig := { parameters := [], returnType := some .int }, accessFlags := 1, code := some k16c0 }
/-- java/util/ImmutableCollections$ListN -/
def k16 : Class := { plain "java/util/ImmutableCollections$ListN" (some 15) with
  accessFlags := 48
  interfaces := #[4]
  cf := some (fileOf pool16 8 #[.nestHost 114] #[{ accessFlags := 1, nameIndex := 77, descriptorIndex := 78, attributes := #[] }] 48 2 #[59] #[{ accessFlags := 18, nameIndex := 11, descriptorIndex := 12, attributes := #[] }, { accessFlags := 18, nameIndex := 15, descriptorIndex := 16, attributes := #[] }])
  fields := #[{ name := "elements", type := (.array (.object "java/lang/Object")), accessFlags := 18, slot := 0, constantValue := 0 }, { name := "allowNulls", type := .boolean, accessFlags := 18, slot := 1, constantValue := 0 }]
  methods := #[k16m0]
  instanceTypes := #[(.array (.object "java/lang/Object")), .boolean]
  staticTypes := #[]
  resolved := Array.replicate 119 none
  statics := none }

def pool17 : Array CpInfo := pool [(1, .class_ 2), (0, u "java/lang/Math"), (1, .class_ 6), (1, u "java/lang/Object"), (0, u "<init>"), (0, u "()V"), (89, .class_ 100), (1, u "java/lang/Math$RandomNumberGeneratorHolder"), (20, u "(JJ)J"), (50, u "negativeZeroFloatBits"), (0, u "J"), (2, u "negativeZeroDoubleBits"), (24, u "min"), (43, u "$assertionsDisabled"), (0, u "Z"), (91, u "twoToTheDoubleScaleDown"), (0, u "D"), (4, u "twoToTheDoubleScaleUp"), (9, u "E"), (3, u "PI"), (2, u "TAU"), (2, u "DEGREES_TO_RADIANS"), (0, u "RADIANS_TO_DEGREES")] 94

def k17m0 : Method := { name := "<init>", desc := "()V", sig := { parameters := [], returnType := none }, accessFlags := 2, code := none }
def k17c1 : Code := { maxStack := 4, maxLocals := 4, code := jdk_29_method_70_code, exceptionTable := #[], attributes := #[] }
def k17m1 : Method := { name := "min", desc := "(JJ)J", sig := { parameters := [.long, .long], returnType := some .long }, accessFlags := 9, code := some k17c1 }
/-- java/lang/Math -/
def k17 : Class := { plain "java/lang/Math" (some 0) with
  accessFlags := 49
  interfaces := #[]
  cf := some (fileOf pool17 1 #[.nestMembers #[98]] #[{ accessFlags := 2, nameIndex := 7, descriptorIndex := 8, attributes := #[] }, { accessFlags := 9, nameIndex := 201, descriptorIndex := 121, attributes := #[] }] 49 4 #[] #[{ accessFlags := 25, nameIndex := 354, descriptorIndex := 339, attributes := #[] }, { accessFlags := 25, nameIndex := 358, descriptorIndex := 339, attributes := #[] }, { accessFlags := 25, nameIndex := 361, descriptorIndex := 339, attributes := #[] }, { accessFlags := 26, nameIndex := 364, descriptorIndex := 339, attributes := #[] }, { accessFlags := 26, nameIndex := 365, descriptorIndex := 339, attributes := #[] }, { accessFlags := 26, nameIndex := 172, descriptorIndex := 173, attributes := #[] }, { accessFlags := 26, nameIndex := 176, descriptorIndex := 173, attributes := #[] }, { accessFlags := 8, nameIndex := 344, descriptorIndex := 339, attributes := #[] }, { accessFlags := 8, nameIndex := 338, descriptorIndex := 339, attributes := #[] }, { accessFlags := 4120, nameIndex := 245, descriptorIndex := 246, attributes := #[] }])
  fields := #[{ name := "E", type := .double, accessFlags := 25, slot := 0, constantValue := 0 }, { name := "PI", type := .double, accessFlags := 25, slot := 1, constantValue := 0 }, { name := "TAU", type := .double, accessFlags := 25, slot := 2, constantValue := 0 }, { name := "DEGREES_TO_RADIANS", type := .double, accessFlags := 26, slot := 3, constantValue := 0 }, { name := "RADIANS_TO_DEGREES", type := .double, accessFlags := 26, slot := 4, constantValue := 0 }, { name := "negativeZeroFloatBits", type := .long, accessFlags := 26, slot := 5, constantValue := 0 }, { name := "negativeZeroDoubleBits", type := .long, accessFlags := 26, slot := 6, constantValue := 0 }, { name := "twoToTheDoubleScaleUp", type := .double, accessFlags := 8, slot := 7, constantValue := 0 }, { name := "twoToTheDoubleScaleDown", type := .double, accessFlags := 8, slot := 8, constantValue := 0 }, { name := "$assertionsDisabled", type := .boolean, accessFlags := 4120, slot := 9, constantValue := 0 }]
  methods := #[k17m0, k17m1]
  instanceTypes := #[]
  staticTypes := #[.double, .double, .double, .double, .double, .long, .long, .double, .double, .boolean]
  resolved := Array.replicate 460 none
  statics := none }

def pool18 : Array CpInfo := pool [(1, u "java/lang/Cloneable"), (0, .class_ 1), (0, u "java/lang/Object"), (0, .class_ 3)] 3

/-- java/lang/Cloneable -/
def k18 : Class := { plain "java/lang/Cloneable" (some 0) with
  accessFlags := 1537
  interfaces := #[]
  cf := some (fileOf pool18 2 #[] #[] 1537 4 #[] #[])
  fields := #[]
  methods := #[]
  instanceTypes := #[]
  staticTypes := #[]
  resolved := Array.replicate 8 none
  statics := none }

/-- the primitive byte -/
def k19 : Class := { plain "byte" none with kind := .primitive 'B', accessFlags := 0x411 }
/-- [B -/
def k20 : Class := { plain "[B" (some 0) with kind := .array 19 .byte, interfaces := #[18, 4], accessFlags := 1041 }

/-- the primitive int -/
def k21 : Class := { plain "int" none with kind := .primitive 'I', accessFlags := 0x411 }
/-- [I -/
def k22 : Class := { plain "[I" (some 0) with kind := .array 21 .int, interfaces := #[18, 4], accessFlags := 1041 }

/-- [Ljava/lang/Object; -/
def k23 : Class := { plain "[Ljava/lang/Object;" (some 0) with kind := .array 0 (.object "java/lang/Object"), interfaces := #[18, 4], accessFlags := 1041 }

def heap : Heap := #[{ cls := 6, slots := #[.ref 3, .ref 4, .ref 5, .ref 6, .ref 7, .ref 8, .null], vm := .statics 6 },
  { cls := 7, slots := #[.long 0, .ref 9], vm := .statics 7 },
  { cls := 23, slots := #[.null, .null, .null, .null, .null, .null], vm := .none },
  { cls := 6, slots := #[.null, .int 0, .int 0, .null, .long 0, .long 0, .null, .int 0, .int 0], vm := .none },
  { cls := 6, slots := #[.null, .int 1, .int 0, .null, .long 0, .long 0, .null, .int 0, .int 0], vm := .none },
  { cls := 6, slots := #[.null, .int 2, .int 0, .null, .long 0, .long 0, .null, .int 0, .int 0], vm := .none },
  { cls := 6, slots := #[.null, .int 3, .int 0, .null, .long 0, .long 0, .null, .int 0, .int 0], vm := .none },
  { cls := 6, slots := #[.null, .int 4, .int 0, .null, .long 0, .long 0, .null, .int 0, .int 0], vm := .none },
  { cls := 6, slots := #[.null, .int 5, .int 0, .null, .long 0, .long 0, .null, .int 0, .int 0], vm := .none },
  { cls := 16, slots := #[.ref 2, .int 0], vm := .none }]
def classes : Array Class := #[k0, k1, k2, k3, k4, k5, k6, k7, k8, k9, k10, k11, k12, k13, k14, k15, k16, k17, k18, k19, k20, k21, k22, k23]
def interned : List (Array UInt16 × Addr) := []
def slotsUsed : Nat := 71
def theMethod : MethodId := ⟨1, 3⟩
def args0 : Array Value := #[.int 5, .int 5, .long 5, .long 5, .long 5, .long 5]
def aboutOver (below : List Frame) : State where
  vm := { classes := classes, interned := interned.toArray }
  heap := heap
  slotsUsed := slotsUsed
  threads := #[{ frames := .invoking theMethod args0 :: below }]
def below0 : List Frame := [.native { method := ⟨0, 0⟩, args := #[] }]
def about1 : State := aboutOver below0
def p0 : Program := .bare "" "" ""
def e0 : Env := launch0.env 0 0 0
theorem w_frames : about1.frames = Frame.invoking theMethod args0 :: below0 := rfl
set_option maxRecDepth 65536 in
theorem w_args : argsFit about1.vm theMethod args0 = true := by decide +kernel
set_option maxRecDepth 65536 in
theorem w_heap : heapFits about1 = true := by decide +kernel
set_option maxRecDepth 65536 in
theorem w_runnable : about1.curStatus? = some .runnable := by decide +kernel
set_option maxRecDepth 65536 in
theorem w_alone : about1.alone = true := by decide +kernel
set_option maxRecDepth 65536 in
theorem w_named : about1.methodNamed? x = some theMethod := by decide +kernel
set_option maxRecDepth 65536 in
theorem w_hears : about1.hears theMethod below0 = true := by decide +kernel
set_option maxRecDepth 65536 in
theorem w_ripe : about1.ripe theMethod args0 below0 = true := by decide +kernel
theorem w_running : about1.status = .running := rfl
set_option maxRecDepth 65536 in
theorem w_room : about1.hasRoom e0.platform room_1 = true :=
  launch0.hasRoom_least _ room_1 (by decide +kernel) (by decide +kernel) (by decide +kernel) (by decide +kernel) (by decide +kernel) (by decide +kernel)
theorem allAtoms_all (ts : List Jvm.Cond) (a : Array Jvm.Value) (st : Jvm.State) : (allAtoms ts).before a st = ts.all (fun c => c.before a st) := by
  induction ts with
  | nil => rfl
  | cons c t ih =>
    show (Jvm.Cond.and c (allAtoms t)).before a st = _
    rw [Jvm.Cond.before_and, ih, List.all_cons]
def words1 : List Jvm.Cond := Jvm.Cond.code x code maxLocals ret :: tables_1
/-- a 'code' word, met by the world's own term for the bytes: nothing is compared byte by byte -/
theorem code_word {y : MethodName} {bytes : ByteArray} {mx : Nat} {rt : Option FieldType} {a : Array Value} {s : State} {m : MethodId} {meth : Method} {c : Code} (h1 : s.methodNamed? y = some m) (h2 : s.vm.method? m = some meth) (h3 : meth.code = some c) (h4 : c.code = bytes)
    (h5 : (c.maxLocals == mx && c.exceptionTable.isEmpty && decide (c.maxStack ≤ mostOperands) && decide (meth.sig.returnType = rt) && !meth.locks && decide (parseMethodDescriptor y.desc = some meth.sig)) = true) : (Jvm.Cond.code y bytes mx rt).before a s = true := by
  simp only [Bool.and_eq_true, beq_iff_eq, Bool.not_eq_true', decide_eq_true_eq] at h5
  obtain ⟨⟨⟨⟨⟨g1, g2⟩, g3⟩, g4⟩, g5⟩, g6⟩ := h5
  simp [Cond.before, Cond.holds, Cond.value, h1, h2, h3, h4, g1, g2, g3, g4, g5, g6]
def isCode : Jvm.Cond → Bool
  | .code _ _ _ _ => true
  | _ => false
theorem all_split {L : List Jvm.Cond} {P : Jvm.Cond → Bool} (h1 : L.all (fun c => isCode c || P c) = true) (h2 : ∀ c ∈ L.filter isCode, P c = true) : L.all P = true := by
  refine List.all_eq_true.mpr fun c hc => ?_
  have h := List.all_eq_true.mp h1 c hc
  rcases Bool.eq_false_or_eq_true (isCode c) with hi | hi
  · exact h2 c (List.mem_filter.mpr ⟨hc, hi⟩)
  · simpa [hi] using h
set_option maxRecDepth 65536 in
theorem w_c0 : (Jvm.Cond.code x code maxLocals ret).before args0 about1 = true := code_word (m := ⟨1, 3⟩) (meth := k1m3) (c := k1c3) (by decide +kernel) rfl rfl rfl (by decide +kernel)
set_option maxRecDepth 65536 in
theorem w_c1 : (Jvm.Cond.code ({ cls := "com/example/bucketd/bucketd/quota/QuotaReportRemainingPinLaw", name := "pick", desc := "(I)Lcom/example/bucketd/bucketd/quota/BucketKind;" } : Jvm.MethodName) method_2_code (1 : Nat) (Option.some (Jvm.ClassFile.FieldType.object "com/example/bucketd/bucketd/quota/BucketKind"))).before args0 about1 = true := code_word (m := ⟨1, 1⟩) (meth := k1m1) (c := k1c1) (by decide +kernel) rfl rfl rfl (by decide +kernel)
set_option maxRecDepth 65536 in
theorem w_c2 : (Jvm.Cond.code ({ cls := "com/example/bucketd/bucketd/quota/QuotaReport", name := "<init>", desc := "()V" } : Jvm.MethodName) prog_29_method_1_code (1 : Nat) (Option.none : Option Jvm.ClassFile.FieldType)).before args0 about1 = true := code_word (m := ⟨7, 0⟩) (meth := k7m0) (c := k7c0) (by decide +kernel) rfl rfl rfl (by decide +kernel)
set_option maxRecDepth 65536 in
theorem w_c3 : (Jvm.Cond.code ({ cls := "java/lang/Object", name := "<init>", desc := "()V" } : Jvm.MethodName) object_method_1_code (1 : Nat) (Option.none : Option Jvm.ClassFile.FieldType)).before args0 about1 = true := code_word (m := ⟨0, 0⟩) (meth := k0m0) (c := k0c0) (by decide +kernel) rfl rfl rfl (by decide +kernel)
set_option maxRecDepth 65536 in
theorem w_c4 : (Jvm.Cond.code ({ cls := "java/util/ImmutableCollections$ListN", name := "size", desc := "()I" } : Jvm.MethodName) jdk_45_method_3_code (1 : Nat) (Option.some Jvm.ClassFile.FieldType.int)).before args0 about1 = true := code_word (m := ⟨16, 0⟩) (meth := k16m0) (c := k16c0) (by decide +kernel) rfl rfl rfl (by decide +kernel)
set_option maxRecDepth 65536 in
theorem w_c5 : (Jvm.Cond.code ({ cls := "com/example/bucketd/bucketd/quota/QuotaReport", name := "put", desc := "(Lcom/example/bucketd/bucketd/quota/BucketKind;JJ)V" } : Jvm.MethodName) prog_29_method_2_code (6 : Nat) (Option.none : Option Jvm.ClassFile.FieldType)).before args0 about1 = true := code_word (m := ⟨7, 1⟩) (meth := k7m1) (c := k7c1) (by decide +kernel) rfl rfl rfl (by decide +kernel)
set_option maxRecDepth 65536 in
theorem w_c6 : (Jvm.Cond.code ({ cls := "java/lang/Enum", name := "ordinal", desc := "()I" } : Jvm.MethodName) jdk_37_method_2_code (1 : Nat) (Option.some Jvm.ClassFile.FieldType.int)).before args0 about1 = true := code_word (m := ⟨5, 0⟩) (meth := k5m0) (c := k5c0) (by decide +kernel) rfl rfl rfl (by decide +kernel)
set_option maxRecDepth 65536 in
theorem w_c7 : (Jvm.Cond.code ({ cls := "java/lang/Math", name := "min", desc := "(JJ)J" } : Jvm.MethodName) jdk_29_method_70_code (4 : Nat) (Option.some Jvm.ClassFile.FieldType.long)).before args0 about1 = true := code_word (m := ⟨17, 1⟩) (meth := k17m1) (c := k17c1) (by decide +kernel) rfl rfl rfl (by decide +kernel)
set_option maxRecDepth 65536 in
theorem w_c8 : (Jvm.Cond.code ({ cls := "com/example/bucketd/bucketd/quota/QuotaReport", name := "remaining", desc := "(Lcom/example/bucketd/bucketd/quota/BucketKind;)J" } : Jvm.MethodName) prog_29_method_5_code (2 : Nat) (Option.some Jvm.ClassFile.FieldType.long)).before args0 about1 = true := code_word (m := ⟨7, 2⟩) (meth := k7m2) (c := k7c2) (by decide +kernel) rfl rfl rfl (by decide +kernel)
set_option maxRecDepth 65536 in
theorem w_c9 : (Jvm.Cond.code ({ cls := "com/example/bucketd/bucketd/quota/QuotaReportRemainingPinLaw", name := "cap", desc := "(J)J" } : Jvm.MethodName) method_3_code (2 : Nat) (Option.some Jvm.ClassFile.FieldType.long)).before args0 about1 = true := code_word (m := ⟨1, 2⟩) (meth := k1m2) (c := k1c2) (by decide +kernel) rfl rfl rfl (by decide +kernel)
def codes1 : List Jvm.Cond := [Jvm.Cond.code x code maxLocals ret, Jvm.Cond.code ({ cls := "com/example/bucketd/bucketd/quota/QuotaReportRemainingPinLaw", name := "pick", desc := "(I)Lcom/example/bucketd/bucketd/quota/BucketKind;" } : Jvm.MethodName) method_2_code (1 : Nat) (Option.some (Jvm.ClassFile.FieldType.object "com/example/bucketd/bucketd/quota/BucketKind")), Jvm.Cond.code ({ cls := "com/example/bucketd/bucketd/quota/QuotaReport", name := "<init>", desc := "()V" } : Jvm.MethodName) prog_29_method_1_code (1 : Nat) (Option.none : Option Jvm.ClassFile.FieldType), Jvm.Cond.code ({ cls := "java/lang/Object", name := "<init>", desc := "()V" } : Jvm.MethodName) object_method_1_code (1 : Nat) (Option.none : Option Jvm.ClassFile.FieldType), Jvm.Cond.code ({ cls := "java/util/ImmutableCollections$ListN", name := "size", desc := "()I" } : Jvm.MethodName) jdk_45_method_3_code (1 : Nat) (Option.some Jvm.ClassFile.FieldType.int), Jvm.Cond.code ({ cls := "com/example/bucketd/bucketd/quota/QuotaReport", name := "put", desc := "(Lcom/example/bucketd/bucketd/quota/BucketKind;JJ)V" } : Jvm.MethodName) prog_29_method_2_code (6 : Nat) (Option.none : Option Jvm.ClassFile.FieldType), Jvm.Cond.code ({ cls := "java/lang/Enum", name := "ordinal", desc := "()I" } : Jvm.MethodName) jdk_37_method_2_code (1 : Nat) (Option.some Jvm.ClassFile.FieldType.int), Jvm.Cond.code ({ cls := "java/lang/Math", name := "min", desc := "(JJ)J" } : Jvm.MethodName) jdk_29_method_70_code (4 : Nat) (Option.some Jvm.ClassFile.FieldType.long), Jvm.Cond.code ({ cls := "com/example/bucketd/bucketd/quota/QuotaReport", name := "remaining", desc := "(Lcom/example/bucketd/bucketd/quota/BucketKind;)J" } : Jvm.MethodName) prog_29_method_5_code (2 : Nat) (Option.some Jvm.ClassFile.FieldType.long), Jvm.Cond.code ({ cls := "com/example/bucketd/bucketd/quota/QuotaReportRemainingPinLaw", name := "cap", desc := "(J)J" } : Jvm.MethodName) method_3_code (2 : Nat) (Option.some Jvm.ClassFile.FieldType.long)]
set_option maxRecDepth 65536 in
theorem codes_eq : words1.filter isCode = codes1 := rfl
theorem w_codes : ∀ c ∈ words1.filter isCode, c.before args0 about1 = true := by
  rw [codes_eq]
  intro c hc
  simp only [codes1, List.mem_cons, List.not_mem_nil, or_false] at hc
  rcases hc with rfl | rfl | rfl | rfl | rfl | rfl | rfl | rfl | rfl | rfl
  · exact w_c0
  · exact w_c1
  · exact w_c2
  · exact w_c3
  · exact w_c4
  · exact w_c5
  · exact w_c6
  · exact w_c7
  · exact w_c8
  · exact w_c9
set_option maxRecDepth 65536 in
theorem w_t1 : (words1.take 24).all (fun c => isCode c || c.before args0 about1) = true := by decide +kernel
set_option maxRecDepth 65536 in
theorem w_t2 : ((words1.drop 24).take 24).all (fun c => isCode c || c.before args0 about1) = true := by decide +kernel
set_option maxRecDepth 65536 in
theorem w_t3 : (((words1.drop 24).drop 24).take 24).all (fun c => isCode c || c.before args0 about1) = true := by decide +kernel
set_option maxRecDepth 65536 in
theorem w_t4 : (((words1.drop 24).drop 24).drop 24).all (fun c => isCode c || c.before args0 about1) = true := by decide +kernel
theorem w_tables : (allAtoms (Jvm.Cond.code x code maxLocals ret :: tables_1)).before args0 about1 = true := by
  rw [allAtoms_all]
  show words1.all (fun c => c.before args0 about1) = true
  refine all_split ?_ w_codes
  rw [← List.take_append_drop 24 words1, List.all_append, w_t1, ← List.take_append_drop 24 (words1.drop 24), List.all_append, w_t2, ← List.take_append_drop 24 ((words1.drop 24).drop 24), List.all_append, w_t3, w_t4]
  rfl
set_option maxRecDepth 65536 in
theorem w_case : (Jvm.Cond.and given_1 narrow_1).before args0 about1 = true := by decide +kernel
theorem w_applies : (headSpec (Jvm.Cond.code x code maxLocals ret :: tables_1) room_1).applies x e0.platform about1 = true :=
  (Spec.applies_iff w_frames).mpr ⟨w_running, w_runnable, w_alone, w_named, w_hears, w_ripe, w_room, w_tables⟩
theorem atStart : AtStart classFile x code maxLocals ret World_1 tables_1 room_1 Calls_1 rest_1 Pre_1 launch0 p0 e0 about1 theMethod args0 below0 :=
  ⟨lists_1, trivial, launch0.admits_env _ _ _, launch0.least_env, fairChoices_fair.cas, fairChoices_fair.clock, w_frames, w_args, w_heap, w_applies, trivial, trivial, w_case⟩
end start1
theorem witness_1 : WitnessClaimed_1 := ⟨start1.p0, start1.e0, start1.about1, start1.theMethod, start1.args0, start1.below0, start1.atStart⟩
end Jvm.Pilot.@@N@@
