import JvmDerived
import JvmDerived.Pilot.@@N@@Statement
import JvmDerived.Pilot.@@N@@Code
set_option linter.unusedVariables false
set_option linter.unusedSimpArgs false
namespace Jvm.Pilot.@@N@@
open Jvm Jvm.ClassFile Sem Op Lib Jvm.Free Jvm.Stand Jvm.LawKit Jvm.RoadKit Bundle Jvm.Pilot.@@N@@.Jvm.D
set_option maxRecDepth 65536
/-! the run still has to be led to its end from A: the goal of a walk, taken step by step -/
def own_Go (p : Program) (e : Env) (below : List Frame) (s : State) (Q : Option Value → Heap → List Loc → Prop) (C S : Nat) (A : State) : Prop :=
  ∃ s₂ o, Steps p.tables e below A s₂ ∧ s₂.status = .running ∧ Ended s₂ below o ∧ ∃ v L, o = .returned v ∧ Q v s₂.heap L ∧ FrameEnd s o s₂ L C S
section OwnA
variable {p : Program} {l : Launch} {e : Env} {R : Room} {s : State} {m : MethodId} {args : Array Value} {below : List Frame} {meth : Method} {c : Code} {T : State} {locs : List Loc} {cells slots : Nat} {Q : Option Value → Heap → List Loc → Prop} {C S : Nat}
theorem own_st {A B : State} (h : ∀ t, Steps p.tables e below B t → Steps p.tables e below A t) (g : own_Go p e below s Q C S B) : own_Go p e below s Q C S A := by
  obtain ⟨s₂, o, h1, r⟩ := g
  exact ⟨s₂, o, h _ h1, r⟩
theorem own_ss {A B : State} (h : Steps p.tables e below A B) (g : own_Go p e below s Q C S B) : own_Go p e below s Q C S A := own_st (fun _ k => h.trans k) g
theorem own_cut {P G : Prop} (a : P → G) (b : P) : G := a b
theorem own_leave (X : Stand p l e R s m args below meth c T locs cells slots) {v : Option Value} (hv : meth.sig.returnType = none → v = none) (hlk : meth.locks = false) (hQ : Q v T.heap locs) (hc : cells ≤ C) (hs : slots ≤ S) {A : State}
    (hr : ∀ fs, (∀ (f : JFrame) (acts : List Action), f.method = m → f.locked = none → f.entered = [] → (doReturn e (T.setTop f) acts v).1 = T.setFrames fs) → Steps p.tables e below A (T.setFrames fs)) : own_Go p e below s Q C S A := by
  obtain ⟨fs, hr', hrun, hended, hW, hsame⟩ := X.leave (v := v) hv hlk
  exact ⟨_, _, hr fs hr', hrun, hended, _, _, rfl, hQ, ⟨_, rfl⟩, hW, hsame.mono hc hs⟩
theorem own_retV (X : Stand p l e R s m args below meth c T locs cells slots) (hx : p.tables.exec = Jvm.exec) (hlk : meth.locks = false) (hret : meth.sig.returnType = none) {pc : Nat} {Ls : Array Slot} (hd : decode c.code pc = .ok (.return_, 1)) (hc : cells ≤ C) (hs : slots ≤ S) (hQ : Q none T.heap locs) :
    own_Go p e below s Q C S (T.setTop (mkF m pc Ls [])) := own_leave X (fun _ => rfl) hlk hQ hc hs fun _ hr => X.returnOut hx hret hd hr
theorem own_retI (X : Stand p l e R s m args below meth c T locs cells slots) (hx : p.tables.exec = Jvm.exec) (hlk : meth.locks = false) (hret : meth.sig.returnType = some .int) {pc : Nat} {Ls : Array Slot} {z : Int32} {rest : List Value} (hd : decode c.code pc = .ok (.ireturn, 1)) (hc : cells ≤ C) (hs : slots ≤ S) (hQ : Q (some (.int z)) T.heap locs) :
    own_Go p e below s Q C S (T.setTop (mkF m pc Ls (.int z :: rest))) := own_leave X (fun h => by rw [hret] at h; cases h) hlk hQ hc hs fun _ hr => retOut X hx hret rfl (Or.inl ⟨rfl, Or.inl rfl, _, rfl⟩) hd hr
theorem own_retJ (X : Stand p l e R s m args below meth c T locs cells slots) (hx : p.tables.exec = Jvm.exec) (hlk : meth.locks = false) (hret : meth.sig.returnType = some .long) {pc : Nat} {Ls : Array Slot} {z : Int64} {rest : List Value} (hd : decode c.code pc = .ok (.lreturn, 1)) (hc : cells ≤ C) (hs : slots ≤ S) (hQ : Q (some (.long z)) T.heap locs) :
    own_Go p e below s Q C S (T.setTop (mkF m pc Ls (.long z :: rest))) := own_leave X (fun h => by rw [hret] at h; cases h) hlk hQ hc hs fun _ hr => retOut X hx hret rfl (Or.inr (Or.inl ⟨rfl, rfl, _, rfl⟩)) hd hr
theorem own_retR (X : Stand p l e R s m args below meth c T locs cells slots) (hx : p.tables.exec = Jvm.exec) (hlk : meth.locks = false) {t : FieldType} (hret : meth.sig.returnType = some t) (ht : t.isReference = true) {pc : Nat} {Ls : Array Slot} {w : Value} {rest : List Value} (hn : narrow t w = w) (hw : w.isRef = true) (hd : decode c.code pc = .ok (.areturn, 1)) (hc : cells ≤ C) (hs : slots ≤ S) (hQ : Q (some w) T.heap locs) :
    own_Go p e below s Q C S (T.setTop (mkF m pc Ls (w :: rest))) := own_leave X (fun h => by rw [hret] at h; cases h) hlk hQ hc hs fun _ hr => retOut X hx hret hn (Or.inr (Or.inr (Or.inr (Or.inr ⟨rfl, ht, hw⟩)))) hd hr
theorem own_retN (X : Stand p l e R s m args below meth c T locs cells slots) (hx : p.tables.exec = Jvm.exec) (hlk : meth.locks = false) {t : FieldType} (hret : meth.sig.returnType = some t) (ht : t = .boolean ∨ t = .byte ∨ t = .char ∨ t = .short) {pc : Nat} {Ls : Array Slot} {z z' : Int32} {rest : List Value} (hz : nar t z = z') (hd : decode c.code pc = .ok (.ireturn, 1)) (hc : cells ≤ C) (hs : slots ≤ S) (hQ : Q (some (.int z')) T.heap locs) :
    own_Go p e below s Q C S (T.setTop (mkF m pc Ls (.int z :: rest))) := by
  subst hz
  exact own_leave X (fun h => by rw [hret] at h; cases h) hlk hQ hc hs fun _ hr => retN X hx hret ht hd hr
/-! arrays by the whole list of what they hold -/
variable {Z : State} {h h' : Heap} {a b : Addr} {ty : FieldType} {vs : List Value}
def own_A (Z : State) (h : Heap) (a : Addr) (ty : FieldType) (vs : List Value) : Prop := ∃ c : Cell, Arr Z h a c ty ∧ c.slots.toList = vs
theorem own_A.lt (F : own_A Z h a ty vs) : a < h.size := by obtain ⟨c, A, -⟩ := F; exact A.lt
theorem own_A.ext (F : own_A Z h a ty vs) (E : Ext h h') : own_A Z h' a ty vs := by obtain ⟨c, A, q⟩ := F; exact ⟨c, A.ext E, q⟩
theorem own_A.other {sl : Nat} {v : Value} (F : own_A Z h a ty vs) (W : Wr h h' b sl v) (q : a ≠ b) : own_A Z h' a ty vs := by obtain ⟨c, A, r⟩ := F; exact ⟨c, A.other W q, r⟩
theorem own_A.keep {ws : List Addr} (F : own_A Z h a ty vs) (K : Keep h h' ws) (q : a ∉ ws) : own_A Z h' a ty vs := by obtain ⟨c, A, r⟩ := F; exact ⟨c, ⟨K.2.1 a c A.1 q, A.2⟩, r⟩
theorem own_A.set {i : Nat} {v : Value} (F : own_A Z h a ty vs) (W : Wr h h' a i v) : own_A Z h' a ty (vs.set i v) := by
  obtain ⟨c, A, rfl⟩ := F
  exact ⟨_, A.same W, by simp [Cell.setSlot]⟩
theorem own_ix {j : Int32} {i : Nat} (hj : j.toInt = (i : Int)) : ¬ j < 0 ∧ j.toNatClampNeg = i := by
  refine ⟨?_, ?_⟩
  · rw [Int32.lt_iff_toInt_lt, hj]
    show ¬ ((i : Int) < 0)
    omega
  · have h1 : j.toNatClampNeg = j.toInt.toNat := rfl
    rw [h1, hj]; rfl
theorem own_in {cl : Cell} {j : Int32} {i : Nat} {v : Value} (hj : j.toInt = (i : Int)) (hv : cl.slots.toList[i]? = some v) : ¬ (j < 0 ∨ cl.slots.size ≤ j.toNatClampNeg) ∧ cl.slots[j.toNatClampNeg]? = some v := by
  obtain ⟨n0, n1⟩ := own_ix hj
  rw [n1]
  rw [Array.getElem?_toList] at hv
  refine ⟨?_, hv⟩
  have h2 := (Array.getElem?_eq_some_iff.mp hv).1
  rintro (q | q)
  · exact n0 q
  · omega
theorem own_ldI (X : Stand p l e R s m args below meth c T locs cells slots) (hx : p.tables.exec = Jvm.exec) (hZ : Z.Warmed39 s.vm) (eT : T.heap = h) (A : own_A Z h a .int vs) {j : Int32} {i : Nat} {v : Value} (hj : j.toInt = (i : Int)) (hv : vs[i]? = some v) {g : JFrame} (hg : g.method = m) {rest : List Value} (hs : g.stack = .int j :: .ref a :: rest) (hd : decode c.code g.pc = .ok (.iaload, 1)) {t : State}
    (k : Steps p.tables e below (T.setTop { g with pc := g.pc + 1, stack := v :: rest }) t) : Steps p.tables e below (T.setTop g) t := by
  obtain ⟨cl, A, rfl⟩ := A
  exact X.iaload hx (by rw [eT]; exact A.1) (State.isArrayOf_alike hZ.alike A.2.1) A.2.2 (own_in hj hv).1 (own_in hj hv).2 hg hs hd _ k
theorem own_ldJ (X : Stand p l e R s m args below meth c T locs cells slots) (hx : p.tables.exec = Jvm.exec) (hZ : Z.Warmed39 s.vm) (eT : T.heap = h) (A : own_A Z h a .long vs) {j : Int32} {i : Nat} {v : Value} (hj : j.toInt = (i : Int)) (hv : vs[i]? = some v) {g : JFrame} (hg : g.method = m) {rest : List Value} (hs : g.stack = .int j :: .ref a :: rest) (hd : decode c.code g.pc = .ok (.laload, 1)) {t : State}
    (k : Steps p.tables e below (T.setTop { g with pc := g.pc + 1, stack := v :: rest }) t) : Steps p.tables e below (T.setTop g) t := by
  obtain ⟨cl, A, rfl⟩ := A
  exact X.laload hx (by rw [eT]; exact A.1) (State.isArrayOf_alike hZ.alike A.2.1) A.2.2 (own_in hj hv).1 (own_in hj hv).2 hg hs hd _ k
theorem own_ldB (X : Stand p l e R s m args below meth c T locs cells slots) (hx : p.tables.exec = Jvm.exec) (hZ : Z.Warmed39 s.vm) (eT : T.heap = h) (A : own_A Z h a .byte vs) {j : Int32} {i : Nat} {v : Value} (hj : j.toInt = (i : Int)) (hv : vs[i]? = some v) {g : JFrame} (hg : g.method = m) {rest : List Value} (hs : g.stack = .int j :: .ref a :: rest) (hd : decode c.code g.pc = .ok (.baload, 1)) {t : State}
    (k : Steps p.tables e below (T.setTop { g with pc := g.pc + 1, stack := v :: rest }) t) : Steps p.tables e below (T.setTop g) t := by
  obtain ⟨cl, A, rfl⟩ := A
  exact X.baloadBytes hx (by rw [eT]; exact A.1) (State.isArrayOf_alike hZ.alike A.2.1) A.2.2 (own_in hj hv).1 (own_in hj hv).2 hg hs hd _ k
theorem own_ldZ (X : Stand p l e R s m args below meth c T locs cells slots) (hx : p.tables.exec = Jvm.exec) (hZ : Z.Warmed39 s.vm) (eT : T.heap = h) (A : own_A Z h a .boolean vs) {j : Int32} {i : Nat} {v : Value} (hj : j.toInt = (i : Int)) (hv : vs[i]? = some v) {g : JFrame} (hg : g.method = m) {rest : List Value} (hs : g.stack = .int j :: .ref a :: rest) (hd : decode c.code g.pc = .ok (.baload, 1)) {t : State}
    (k : Steps p.tables e below (T.setTop { g with pc := g.pc + 1, stack := v :: rest }) t) : Steps p.tables e below (T.setTop g) t := by
  obtain ⟨cl, A, rfl⟩ := A
  exact X.baloadBooleans hx (by rw [eT]; exact A.1) (State.isArrayOf_alike hZ.alike A.2.1) A.2.2 (own_in hj hv).1 (own_in hj hv).2 hg hs hd _ k
theorem own_ldS (X : Stand p l e R s m args below meth c T locs cells slots) (hx : p.tables.exec = Jvm.exec) (hZ : Z.Warmed39 s.vm) (eT : T.heap = h) (A : own_A Z h a .short vs) {j : Int32} {i : Nat} {v : Value} (hj : j.toInt = (i : Int)) (hv : vs[i]? = some v) {g : JFrame} (hg : g.method = m) {rest : List Value} (hs : g.stack = .int j :: .ref a :: rest) (hd : decode c.code g.pc = .ok (.saload, 1)) {t : State}
    (k : Steps p.tables e below (T.setTop { g with pc := g.pc + 1, stack := v :: rest }) t) : Steps p.tables e below (T.setTop g) t := by
  obtain ⟨cl, A, rfl⟩ := A
  exact X.saload hx (by rw [eT]; exact A.1) (State.isArrayOf_alike hZ.alike A.2.1) A.2.2 (own_in hj hv).1 (own_in hj hv).2 hg hs hd _ k
theorem own_ldC (X : Stand p l e R s m args below meth c T locs cells slots) (hx : p.tables.exec = Jvm.exec) (hZ : Z.Warmed39 s.vm) (eT : T.heap = h) (A : own_A Z h a .char vs) {j : Int32} {i : Nat} {v : Value} (hj : j.toInt = (i : Int)) (hv : vs[i]? = some v) {g : JFrame} (hg : g.method = m) {rest : List Value} (hs : g.stack = .int j :: .ref a :: rest) (hd : decode c.code g.pc = .ok (.caload, 1)) {t : State}
    (k : Steps p.tables e below (T.setTop { g with pc := g.pc + 1, stack := v :: rest }) t) : Steps p.tables e below (T.setTop g) t := by
  obtain ⟨cl, A, rfl⟩ := A
  exact X.caload hx (by rw [eT]; exact A.1) (State.isArrayOf_alike hZ.alike A.2.1) A.2.2 (own_in hj hv).1 (own_in hj hv).2 hg hs hd _ k
theorem own_ldR (X : Stand p l e R s m args below meth c T locs cells slots) (hx : p.tables.exec = Jvm.exec) (hZ : Z.Warmed39 s.vm) (eT : T.heap = h) (A : own_A Z h a ty vs) (hty : ty.isReference = true) {j : Int32} {i : Nat} {v : Value} (hj : j.toInt = (i : Int)) (hv : vs[i]? = some v) {g : JFrame} (hg : g.method = m) {rest : List Value} (hs : g.stack = .int j :: .ref a :: rest) (hd : decode c.code g.pc = .ok (.aaload, 1)) {t : State}
    (k : Steps p.tables e below (T.setTop { g with pc := g.pc + 1, stack := v :: rest }) t) : Steps p.tables e below (T.setTop g) t := by
  obtain ⟨cl, A, rfl⟩ := A
  exact X.aaload hx (by rw [eT]; exact A.1) (State.isArrayOf_alike hZ.alike A.2.1) hty A.2.2 (own_in hj hv).1 (own_in hj hv).2 hg hs hd _ k
theorem own_stI (X : Stand p l e R s m args below meth c T locs cells slots) (hx : p.tables.exec = Jvm.exec) (hZ : Z.Warmed39 s.vm) (eT : T.heap = h) (A : own_A Z h a .int vs) {j x : Int32} {i : Nat} (hj : j.toInt = (i : Int)) (hi : i < vs.length) {g : JFrame} (hg : g.method = m) {rest : List Value} (hs : g.stack = .int x :: .int j :: .ref a :: rest) (hd : decode c.code g.pc = .ok (.iastore, 1)) :
    ∃ T' h', Stand p l e R s m args below meth c T' (locs ++ [⟨a, i⟩]) cells slots ∧ T'.heap = h' ∧ Wr h h' a i (.int x) ∧ own_A Z h' a .int (vs.set i (.int x)) ∧ ∀ target, Steps p.tables e below (T'.setTop { g with pc := g.pc + 1, stack := rest }) target → Steps p.tables e below (T.setTop g) target := by
  obtain ⟨cl, A, rfl⟩ := A
  have hin := (own_in (cl := cl) (v := cl.slots.toList[i]) hj (List.getElem?_eq_getElem hi)).1
  obtain ⟨T', h', X', e', W', st⟩ := stI X hx hZ eT A (j := j) (x := x) hin hg hs hd
  rw [(own_ix hj).2] at X' W'
  exact ⟨T', h', X', e', W', own_A.set ⟨cl, A, rfl⟩ W', st⟩
theorem own_stJ (X : Stand p l e R s m args below meth c T locs cells slots) (hx : p.tables.exec = Jvm.exec) (hZ : Z.Warmed39 s.vm) (eT : T.heap = h) (A : own_A Z h a .long vs) {j : Int32} {x : Int64} {i : Nat} (hj : j.toInt = (i : Int)) (hi : i < vs.length) {g : JFrame} (hg : g.method = m) {rest : List Value} (hs : g.stack = .long x :: .int j :: .ref a :: rest) (hd : decode c.code g.pc = .ok (.lastore, 1)) :
    ∃ T' h', Stand p l e R s m args below meth c T' (locs ++ [⟨a, i⟩]) cells slots ∧ T'.heap = h' ∧ Wr h h' a i (.long x) ∧ own_A Z h' a .long (vs.set i (.long x)) ∧ ∀ target, Steps p.tables e below (T'.setTop { g with pc := g.pc + 1, stack := rest }) target → Steps p.tables e below (T.setTop g) target := by
  obtain ⟨cl, A, rfl⟩ := A
  have hin := (own_in (cl := cl) (v := cl.slots.toList[i]) hj (List.getElem?_eq_getElem hi)).1
  obtain ⟨T', h', X', e', W', st⟩ := stJ X hx hZ eT A (j := j) (x := x) hin hg hs hd
  rw [(own_ix hj).2] at X' W'
  exact ⟨T', h', X', e', W', own_A.set ⟨cl, A, rfl⟩ W', st⟩
theorem own_stB (X : Stand p l e R s m args below meth c T locs cells slots) (hx : p.tables.exec = Jvm.exec) (hZ : Z.Warmed39 s.vm) (eT : T.heap = h) (A : own_A Z h a .byte vs) {j x : Int32} {i : Nat} (hj : j.toInt = (i : Int)) (hi : i < vs.length) {g : JFrame} (hg : g.method = m) {rest : List Value} (hs : g.stack = .int x :: .int j :: .ref a :: rest) (hd : decode c.code g.pc = .ok (.bastore, 1)) :
    ∃ T' h', Stand p l e R s m args below meth c T' (locs ++ [⟨a, i⟩]) cells slots ∧ T'.heap = h' ∧ Wr h h' a i (.int x.toInt8.toInt32) ∧ own_A Z h' a .byte (vs.set i (.int x.toInt8.toInt32)) ∧ ∀ target, Steps p.tables e below (T'.setTop { g with pc := g.pc + 1, stack := rest }) target → Steps p.tables e below (T.setTop g) target := by
  obtain ⟨cl, A, rfl⟩ := A
  have hin := (own_in (cl := cl) (v := cl.slots.toList[i]) hj (List.getElem?_eq_getElem hi)).1
  obtain ⟨T', h', X', e', W', st⟩ := stB X hx hZ eT A (j := j) (x := x) hin hg hs hd
  rw [(own_ix hj).2] at X' W'
  exact ⟨T', h', X', e', W', own_A.set ⟨cl, A, rfl⟩ W', st⟩
theorem own_stS (X : Stand p l e R s m args below meth c T locs cells slots) (hx : p.tables.exec = Jvm.exec) (hZ : Z.Warmed39 s.vm) (eT : T.heap = h) (A : own_A Z h a .short vs) {j x : Int32} {i : Nat} (hj : j.toInt = (i : Int)) (hi : i < vs.length) {g : JFrame} (hg : g.method = m) {rest : List Value} (hs : g.stack = .int x :: .int j :: .ref a :: rest) (hd : decode c.code g.pc = .ok (.sastore, 1)) :
    ∃ T' h', Stand p l e R s m args below meth c T' (locs ++ [⟨a, i⟩]) cells slots ∧ T'.heap = h' ∧ Wr h h' a i (.int x.toInt16.toInt32) ∧ own_A Z h' a .short (vs.set i (.int x.toInt16.toInt32)) ∧ ∀ target, Steps p.tables e below (T'.setTop { g with pc := g.pc + 1, stack := rest }) target → Steps p.tables e below (T.setTop g) target := by
  obtain ⟨cl, A, rfl⟩ := A
  have hin := (own_in (cl := cl) (v := cl.slots.toList[i]) hj (List.getElem?_eq_getElem hi)).1
  obtain ⟨T', h', X', e', W', st⟩ := stS X hx hZ eT A (j := j) (x := x) hin hg hs hd
  rw [(own_ix hj).2] at X' W'
  exact ⟨T', h', X', e', W', own_A.set ⟨cl, A, rfl⟩ W', st⟩
theorem own_stC (X : Stand p l e R s m args below meth c T locs cells slots) (hx : p.tables.exec = Jvm.exec) (hZ : Z.Warmed39 s.vm) (eT : T.heap = h) (A : own_A Z h a .char vs) {j x : Int32} {i : Nat} (hj : j.toInt = (i : Int)) (hi : i < vs.length) {g : JFrame} (hg : g.method = m) {rest : List Value} (hs : g.stack = .int x :: .int j :: .ref a :: rest) (hd : decode c.code g.pc = .ok (.castore, 1)) :
    ∃ T' h', Stand p l e R s m args below meth c T' (locs ++ [⟨a, i⟩]) cells slots ∧ T'.heap = h' ∧ Wr h h' a i (.int x.toUInt32.toUInt16.toUInt32.toInt32) ∧ own_A Z h' a .char (vs.set i (.int x.toUInt32.toUInt16.toUInt32.toInt32)) ∧ ∀ target, Steps p.tables e below (T'.setTop { g with pc := g.pc + 1, stack := rest }) target → Steps p.tables e below (T.setTop g) target := by
  obtain ⟨cl, A, rfl⟩ := A
  have hin := (own_in (cl := cl) (v := cl.slots.toList[i]) hj (List.getElem?_eq_getElem hi)).1
  obtain ⟨T', h', X', e', W', st⟩ := stC X hx hZ eT A (j := j) (x := x) hin hg hs hd
  rw [(own_ix hj).2] at X' W'
  exact ⟨T', h', X', e', W', own_A.set ⟨cl, A, rfl⟩ W', st⟩
theorem own_newP {a0 : Array Value} (X : Stand p l e R s m args below meth c T locs cells slots) (hx : p.tables.exec = Jvm.exec) (hZ : Z.Warmed39 s.vm) {aty : ArrayType} (w : (Cond.arrayClass (newarray.typeOf aty)).before a0 Z = true) (eT : T.heap = h) {g : JFrame} (hg : g.method = m) (hd : decode c.code g.pc = .ok (.newarray aty, 2)) {n : Int32} {rest : List Value} (hs : g.stack = .int n :: rest)
    {k cap : Nat} (hk : n.toInt = (k : Int)) (hcap : k ≤ cap) (hb : cap * 8 ≤ 536870912) (hc : cells + 1 ≤ R.cells) (hl : slots + cap ≤ R.slots) {ad : String} (had : "[" ++ (newarray.typeOf aty).toString = ad) :
    ∃ T' h', Stand p l e R s m args below meth c T' locs (cells + 1) (slots + cap) ∧ T'.heap = h' ∧ Ext h h' ∧ own_A Z h' h.size (newarray.typeOf aty) (List.replicate k (defaultValue (newarray.typeOf aty))) ∧ Exa Z h' h.size ad ∧
      ∀ target, Steps p.tables e below (T'.setTop { g with pc := g.pc + 2, stack := .ref h.size :: rest }) target → Steps p.tables e below (T.setTop g) target := by
  obtain ⟨n0, n1⟩ := own_ix hk
  obtain ⟨T', h', cA, X', e', E', A', x', st⟩ := newPE X hx hZ w eT hg hd hs n0 (cap := cap) (by rw [n1]; exact hcap) hb hc hl had
  exact ⟨T', h', X', e', E', ⟨_, A', by simp [newA, n1]⟩, x', st⟩
theorem own_clone {a0 : Array Value} (X : Stand p l e R s m args below meth c T locs cells slots) (hx : p.tables.exec = Jvm.exec) (hZ : Z.Warmed39 s.vm) {own ad : String} {index : Nat} (hown : s.vm.findClass own = some m.cls)
    (w1 : (Cond.methodLink own index ⟨ad, "clone", "()Ljava/lang/Object;"⟩).before a0 Z = true) (w2 : (Cond.sameMethod ad "java/lang/Object" "clone" "()Ljava/lang/Object;").before a0 Z = true) (w3 : (Cond.native ⟨"java/lang/Object", "clone", "()Ljava/lang/Object;"⟩).before a0 Z = true)
    (w4 : (Cond.instanceMethod ⟨"java/lang/Object", "clone", "()Ljava/lang/Object;"⟩).before a0 Z = true) (w5 : (Cond.selects ad ⟨ad, "clone", "()Ljava/lang/Object;"⟩ ⟨"java/lang/Object", "clone", "()Ljava/lang/Object;"⟩).before a0 Z = true) (w6 : (Cond.castable ad "java/lang/Cloneable").before a0 Z = true)
    (eT : T.heap = h) (A : own_A Z h a ty vs) (E : Exa Z h a ad) (hf : ∀ v ∈ vs, fits ty v = true) {g : JFrame} (hg : g.method = m) (hsize : g.locals.size = c.maxLocals) {rest : List Value} (hst : g.stack = .ref a :: rest) (hd : decode c.code g.pc = .ok (.invokevirtual index, 3))
    (hfr : 1 ≤ R.frames) {W cap : Nat} (hW : 2 * g.monitorRoom + (rest.map fun v => v.category).sum ≤ W) (hl : W + 14 ≤ R.locals) (hcap : vs.length ≤ cap) (hc : cells + 1 ≤ R.cells) (hsl : slots + cap ≤ R.slots) :
    ∃ T' h', Stand p l e R s m args below meth c T' locs (cells + 1) (slots + cap) ∧ T'.heap = h' ∧ Ext h h' ∧ own_A Z h' h.size ty vs ∧ Exa Z h' h.size ad ∧
      ∀ target, Steps p.tables e below (T'.setTop { g with pc := g.pc + 3, stack := .ref h.size :: rest }) target → Steps p.tables e below (T.setTop g) target := by
  obtain ⟨cl, A, rfl⟩ := A
  have FC : FitC Z cl := fitC_of A fun i hi v hv => hf v (by
    rw [← Array.getElem?_toList] at hv
    exact List.mem_of_getElem? hv)
  obtain ⟨T', h', X', e', ex, A', E', st⟩ := cloneA X hx hZ hown w1 w2 w3 w4 w5 w6 eT A E FC hg hsize hst hd hfr hW hl (by simpa using hcap) hc hsl
  exact ⟨T', h', X', e', ex, ⟨_, A', rfl⟩, E', st⟩
def own_Ov (C : String) (Z : State) (h : Heap) (a : Addr) : Prop := ∃ c : Cell, h[a]? = some c ∧ Ovr Z c.cls C
theorem own_Ov.lt {C : String} (F : own_Ov C Z h a) : a < h.size := by obtain ⟨c, q, -⟩ := F; exact (Array.getElem?_eq_some_iff.mp q).1
theorem own_Ov.ext {C : String} (F : own_Ov C Z h a) (E : Ext h h') : own_Ov C Z h' a := by obtain ⟨c, q, r⟩ := F; exact ⟨c, E.2 _ _ q, r⟩
theorem own_Ov.other {C : String} {sl : Nat} {v : Value} (F : own_Ov C Z h a) (W : Wr h h' b sl v) (ne : a ≠ b) : own_Ov C Z h' a := by
  obtain ⟨c, q, r⟩ := F
  obtain ⟨c', q', -, -, -, e, -⟩ := wr_at W q
  exact ⟨c', q', by rw [e ne]; exact r⟩
theorem own_Ov.keep {C : String} {ws : List Addr} (F : own_Ov C Z h a) (K : Keep h h' ws) (ne : a ∉ ws) : own_Ov C Z h' a := by obtain ⟨c, q, r⟩ := F; exact ⟨c, K.2.1 _ _ q ne, r⟩
theorem own_newR {a0 : Array Value} (X : Stand p l e R s m args below meth c T locs cells slots) (hx : p.tables.exec = Jvm.exec) (hZ : Z.Warmed39 s.vm) {own C : String} {index : Nat} (hown : s.vm.findClass own = some m.cls) (w1 : (Cond.classLink own index C).before a0 Z = true) (w2 : (Cond.arrayOver (.object C)).before a0 Z = true) (eT : T.heap = h) {g : JFrame} (hg : g.method = m) (hd : decode c.code g.pc = .ok (.anewarray index, 3)) {n : Int32} {rest : List Value} (hs : g.stack = .int n :: rest)
    {k cap : Nat} (hk : n.toInt = (k : Int)) (hcap : k ≤ cap) (hb : cap * 8 ≤ 536870912) (hc : cells + 1 ≤ R.cells) (hl : slots + cap ≤ R.slots) {ad : String} (had : "[" ++ (FieldType.object C).toString = ad) :
    ∃ T' h', Stand p l e R s m args below meth c T' locs (cells + 1) (slots + cap) ∧ T'.heap = h' ∧ Ext h h' ∧ own_A Z h' h.size (.object C) (List.replicate k .null) ∧ Exa Z h' h.size ad ∧ own_Ov C Z h' h.size ∧
      ∀ target, Steps p.tables e below (T'.setTop { g with pc := g.pc + 3, stack := .ref h.size :: rest }) target → Steps p.tables e below (T.setTop g) target := by
  obtain ⟨n0, n1⟩ := own_ix hk
  obtain ⟨T', h', cA, X', e', E', A', x', O', st⟩ := newRE X hx hZ hown w1 w2 eT hg hd hs n0 (cap := cap) (by rw [n1]; exact hcap) hb hc hl had
  exact ⟨T', h', X', e', E', ⟨_, A', by simp [newA, n1, defaultValue]⟩, x', ⟨_, A'.1, O'⟩, st⟩
theorem own_stR {C : String} (X : Stand p l e R s m args below meth c T locs cells slots) (hx : p.tables.exec = Jvm.exec) (hZ : Z.Warmed39 s.vm) (eT : T.heap = h) (A : own_A Z h a (.object C) vs) (O : own_Ov C Z h a) {y : Addr} (I : Ins Z h y C true) {j : Int32} {i : Nat} (hj : j.toInt = (i : Int)) (hi : i < vs.length) {g : JFrame} (hg : g.method = m) {rest : List Value} (hs : g.stack = .ref y :: .int j :: .ref a :: rest) (hd : decode c.code g.pc = .ok (.aastore, 1)) :
    ∃ T' h', Stand p l e R s m args below meth c T' (locs ++ [⟨a, i⟩]) cells slots ∧ T'.heap = h' ∧ Wr h h' a i (.ref y) ∧ own_A Z h' a (.object C) (vs.set i (.ref y)) ∧ ∀ target, Steps p.tables e below (T'.setTop { g with pc := g.pc + 1, stack := rest }) target → Steps p.tables e below (T.setTop g) target := by
  obtain ⟨cl, A, rfl⟩ := A
  obtain ⟨c2, q, r⟩ := O
  cases A.1.symm.trans q
  have hin := (own_in (cl := cl) (v := cl.slots.toList[i]) hj (List.getElem?_eq_getElem hi)).1
  obtain ⟨T', h', X', e', W', st⟩ := stR X hx hZ eT A (j := j) (v := .ref y) hin rfl (Sto.of A r I) hg hs hd
  rw [(own_ix hj).2] at X' W'
  exact ⟨T', h', X', e', W', own_A.set ⟨cl, A, rfl⟩ W', st⟩
theorem own_len (X : Stand p l e R s m args below meth c T locs cells slots) (hx : p.tables.exec = Jvm.exec) (hZ : Z.Warmed39 s.vm) (eT : T.heap = h) (A : own_A Z h a ty vs) {n : Int32} (hn : n.toInt = (vs.length : Int)) {g : JFrame} (hg : g.method = m) {rest : List Value} (hs : g.stack = .ref a :: rest) (hd : decode c.code g.pc = .ok (.arraylength, 1)) {t : State}
    (k : Steps p.tables e below (T.setTop { g with pc := g.pc + 1, stack := .int n :: rest }) t) : Steps p.tables e below (T.setTop g) t := by
  obtain ⟨cl, A, rfl⟩ := A
  have h1 := n.toInt_lt
  have h2 : cl.slots.size.toInt32 = n := by
    refine Int32.toInt_inj.mp ?_
    rw [hn]
    have h3 : cl.slots.toList.length = cl.slots.size := by simp
    rw [h3] at hn ⊢
    exact len_toInt (by omega)
  refine X.arraylength hx (by rw [eT]; exact A.1) (State.isArrayOf_alike hZ.alike A.2.1) hg hs hd _ ?_
  rw [h2]; exact k
theorem own_lrem (X : Stand p l e R s m args below meth c T locs cells slots) (hx : p.tables.exec = Jvm.exec) {g : JFrame} (hg : g.method = m) {x y : Int64} {rest : List Value} (hd : decode c.code g.pc = .ok (.lrem, 1)) (hs : g.stack = .long y :: .long x :: rest) (hy : y ≠ 0) {t : State}
    (k : Steps p.tables e below (T.setTop { g with pc := g.pc + 1, stack := .long (x % y) :: rest }) t) : Steps p.tables e below (T.setTop g) t := XS.lrem X.here hx hg hd hs hy (by rw [lrem_mod]; exact k)
end OwnA
theorem own_Sta.keep {Z : State} {h h' : Heap} {ws : List Addr} {C n d : String} {v : Value} (F : Sta Z h C n d v) (K : Keep h h' ws) (q : ∀ st ∈ ws, ∀ cell : Cell, h[st]? = some cell → cell.vm.isStatics = false) : Sta Z h' C n d v := by
  obtain ⟨cf, i, k, f, st, cell, h1, h2, h3, h4, h5, h6, h7⟩ := F
  refine ⟨cf, i, k, f, st, cell, h1, h2, h3, h4, K.2.1 st cell h5 fun hm => ?_, h6, h7⟩
  rw [q st hm cell h5] at h6
  cases h6
theorem own_z_eq_t {c : Prop} [Decidable c] (h : ¬ c) : ifCond.holds .eq (if c then (1 : Int32) else 0) = true := by rw [if_neg h]; rfl
theorem own_z_eq_f {c : Prop} [Decidable c] (h : c) : ifCond.holds .eq (if c then (1 : Int32) else 0) = false := by rw [if_pos h]; rfl
theorem own_z_ne_t {c : Prop} [Decidable c] (h : c) : ifCond.holds .ne (if c then (1 : Int32) else 0) = true := by rw [if_pos h]; rfl
theorem own_z_ne_f {c : Prop} [Decidable c] (h : ¬ c) : ifCond.holds .ne (if c then (1 : Int32) else 0) = false := by rw [if_neg h]; rfl
theorem own_z_nar {c : Prop} [Decidable c] : nar .boolean (if c then (1 : Int32) else 0) = if c then (1 : Int32) else 0 := by split <;> rfl
/-- two slots that hold nothing or a long, whose value nobody reads again -/
def own_Two (a b : Slot) : Prop := (a = .unset ∧ b = .unset) ∨ ∃ z, a = .val (.long z) ∧ b = .second
theorem own_plainE {Z : State} {h : Heap} {a : Addr} {C : String} (F : Exa Z h a C) : ∀ cell : Cell, h[a]? = some cell → cell.vm.isStatics = false := fun cell hc => by
  obtain ⟨c, k, h1, -, -, h4, -⟩ := F
  cases h1.symm.trans hc
  exact h4
theorem own_plainA {Z : State} {h : Heap} {a : Addr} {ty : FieldType} {vs : List Value} (F : own_A Z h a ty vs) : ∀ cell : Cell, h[a]? = some cell → cell.vm.isStatics = false := fun cell hc => by
  obtain ⟨c, A, -⟩ := F
  cases A.1.symm.trans hc
  exact A.plain
theorem own_pop2 {tb : Tables} [Ours tb] {e : Env} {below : List Frame} {T target : State} {m : MethodId} {c : Code} {g : JFrame} (h : At T m c below) (hx : tb.exec = Jvm.exec) (hg : g.method = m) {x : Int64} {rest : List Value} (hd : decode c.code g.pc = .ok (.pop2, 1)) (hs : g.stack = .long x :: rest)
    (hr : Steps tb e below (T.setTop { g with pc := g.pc + 1, stack := rest }) target) : Steps tb e below (T.setTop g) target := by
  subst hg
  jvm_step h [h.top, hx, hd, hs, Value.category]
  exact hr
theorem own_min1 {i : Int32} {n : Nat} (h0 : 0 ≤ i.toInt) (h1 : i.toInt < (n : Int)) (hn : n < 1000) : (i + 1).toInt.toNat = i.toInt.toNat + 1 ∧ (i + 1).toInt = i.toInt + 1 := by
  have h2 := c_iadd i 1
  have h3 := rng32 (i + 1)
  have h4 : (1 : Int32).toInt = 1 := rfl
  omega
theorem own_ltN {i : Int32} {n : Nat} (hn : n < 1000) : i < n.toInt32 ↔ i.toInt < (n : Int) := by
  rw [Int32.lt_iff_toInt_lt, len_toInt (by omega)]
theorem own_getI {bs : List Int32} {i : Nat} (h : i < bs.length) : (bs.map Value.int)[i]? = some (.int (bs.getD i 0)) := by
  simp [List.getElem?_map, h]
theorem own_nat {i : Int32} (h : 0 ≤ i.toInt) : i.toInt = ((i.toInt.toNat : Nat) : Int) := by omega
theorem w_0 {a0 : Array Value} {Z : State} (hw : ∀ d ∈ tables_1, d.before a0 Z = true) : (Jvm.Cond.arrayClass Jvm.ClassFile.FieldType.byte).before a0 Z = true := hw _ (List.mem_of_getElem? (i := 0) rfl)
theorem w_1 {a0 : Array Value} {Z : State} (hw : ∀ d ∈ tables_1, d.before a0 Z = true) : (Jvm.Cond.constant "com/example/libentkey/libentkey/codec/KeyReaderSkipAsciiPinLaw" (7 : Nat) (2147483647 : Int32)).before a0 Z = true := hw _ (List.mem_of_getElem? (i := 1) rfl)
theorem w_2 {a0 : Array Value} {Z : State} (hw : ∀ d ∈ tables_1, d.before a0 Z = true) : (Jvm.Cond.classLink "com/example/libentkey/libentkey/codec/KeyReaderSkipAsciiPinLaw" (8 : Nat) "com/example/libentkey/libentkey/codec/KeyReader").before a0 Z = true := hw _ (List.mem_of_getElem? (i := 2) rfl)
theorem w_3 {a0 : Array Value} {Z : State} (hw : ∀ d ∈ tables_1, d.before a0 Z = true) : (Jvm.Cond.instantiable "com/example/libentkey/libentkey/codec/KeyReader" (4 : Nat)).before a0 Z = true := hw _ (List.mem_of_getElem? (i := 3) rfl)
theorem w_4 {a0 : Array Value} {Z : State} (hw : ∀ d ∈ tables_1, d.before a0 Z = true) : (Jvm.Cond.initialized "com/example/libentkey/libentkey/codec/KeyReader").before a0 Z = true := hw _ (List.mem_of_getElem? (i := 4) rfl)
theorem w_5 {a0 : Array Value} {Z : State} (hw : ∀ d ∈ tables_1, d.before a0 Z = true) : (Jvm.Cond.methodLink "com/example/libentkey/libentkey/codec/KeyReaderSkipAsciiPinLaw" (10 : Nat) ({ cls := "com/example/libentkey/libentkey/codec/KeyReader", name := "<init>", desc := "([B)V" } : Jvm.MethodName)).before a0 Z = true := hw _ (List.mem_of_getElem? (i := 5) rfl)
theorem w_6 {a0 : Array Value} {Z : State} (hw : ∀ d ∈ tables_1, d.before a0 Z = true) : (Jvm.Cond.instanceMethod ({ cls := "com/example/libentkey/libentkey/codec/KeyReader", name := "<init>", desc := "([B)V" } : Jvm.MethodName)).before a0 Z = true := hw _ (List.mem_of_getElem? (i := 6) rfl)
theorem w_7 {a0 : Array Value} {Z : State} (hw : ∀ d ∈ tables_1, d.before a0 Z = true) : (Jvm.Cond.code ({ cls := "com/example/libentkey/libentkey/codec/KeyReader", name := "<init>", desc := "([B)V" } : Jvm.MethodName) prog_22_method_1_code (2 : Nat) (Option.none : Option Jvm.ClassFile.FieldType)).before a0 Z = true := hw _ (List.mem_of_getElem? (i := 7) rfl)
theorem w_8 {a0 : Array Value} {Z : State} (hw : ∀ d ∈ tables_1, d.before a0 Z = true) : (Jvm.Cond.methodLink "com/example/libentkey/libentkey/codec/KeyReader" (1 : Nat) ({ cls := "java/lang/Object", name := "<init>", desc := "()V" } : Jvm.MethodName)).before a0 Z = true := hw _ (List.mem_of_getElem? (i := 8) rfl)
theorem w_9 {a0 : Array Value} {Z : State} (hw : ∀ d ∈ tables_1, d.before a0 Z = true) : (Jvm.Cond.instanceMethod ({ cls := "java/lang/Object", name := "<init>", desc := "()V" } : Jvm.MethodName)).before a0 Z = true := hw _ (List.mem_of_getElem? (i := 9) rfl)
theorem w_10 {a0 : Array Value} {Z : State} (hw : ∀ d ∈ tables_1, d.before a0 Z = true) : (Jvm.Cond.code ({ cls := "java/lang/Object", name := "<init>", desc := "()V" } : Jvm.MethodName) object_method_1_code (1 : Nat) (Option.none : Option Jvm.ClassFile.FieldType)).before a0 Z = true := hw _ (List.mem_of_getElem? (i := 10) rfl)
theorem w_11 {a0 : Array Value} {Z : State} (hw : ∀ d ∈ tables_1, d.before a0 Z = true) : (Jvm.Cond.fieldLink "com/example/libentkey/libentkey/codec/KeyReader" (7 : Nat) "com/example/libentkey/libentkey/codec/KeyReader" "key" "[B").before a0 Z = true := hw _ (List.mem_of_getElem? (i := 11) rfl)
theorem w_12 {a0 : Array Value} {Z : State} (hw : ∀ d ∈ tables_1, d.before a0 Z = true) : (Jvm.Cond.laysFinal "com/example/libentkey/libentkey/codec/KeyReader" "com/example/libentkey/libentkey/codec/KeyReader" "key" "[B").before a0 Z = true := hw _ (List.mem_of_getElem? (i := 12) rfl)
theorem w_13 {a0 : Array Value} {Z : State} (hw : ∀ d ∈ tables_1, d.before a0 Z = true) : (Jvm.Cond.methodLink "com/example/libentkey/libentkey/codec/KeyReaderSkipAsciiPinLaw" (13 : Nat) ({ cls := "com/example/libentkey/libentkey/codec/KeyReader", name := "next", desc := "()I" } : Jvm.MethodName)).before a0 Z = true := hw _ (List.mem_of_getElem? (i := 13) rfl)
theorem w_14 {a0 : Array Value} {Z : State} (hw : ∀ d ∈ tables_1, d.before a0 Z = true) : (Jvm.Cond.declares ({ cls := "com/example/libentkey/libentkey/codec/KeyReader", name := "next", desc := "()I" } : Jvm.MethodName)).before a0 Z = true := hw _ (List.mem_of_getElem? (i := 14) rfl)
theorem w_15 {a0 : Array Value} {Z : State} (hw : ∀ d ∈ tables_1, d.before a0 Z = true) : (Jvm.Cond.instanceMethod ({ cls := "com/example/libentkey/libentkey/codec/KeyReader", name := "next", desc := "()I" } : Jvm.MethodName)).before a0 Z = true := hw _ (List.mem_of_getElem? (i := 15) rfl)
theorem w_16 {a0 : Array Value} {Z : State} (hw : ∀ d ∈ tables_1, d.before a0 Z = true) : (Jvm.Cond.selects "com/example/libentkey/libentkey/codec/KeyReader" ({ cls := "com/example/libentkey/libentkey/codec/KeyReader", name := "next", desc := "()I" } : Jvm.MethodName) ({ cls := "com/example/libentkey/libentkey/codec/KeyReader", name := "next", desc := "()I" } : Jvm.MethodName)).before a0 Z = true := hw _ (List.mem_of_getElem? (i := 16) rfl)
theorem w_17 {a0 : Array Value} {Z : State} (hw : ∀ d ∈ tables_1, d.before a0 Z = true) : (Jvm.Cond.code ({ cls := "com/example/libentkey/libentkey/codec/KeyReader", name := "next", desc := "()I" } : Jvm.MethodName) prog_22_method_5_code (1 : Nat) (Option.some Jvm.ClassFile.FieldType.int)).before a0 Z = true := hw _ (List.mem_of_getElem? (i := 17) rfl)
theorem w_18 {a0 : Array Value} {Z : State} (hw : ∀ d ∈ tables_1, d.before a0 Z = true) : (Jvm.Cond.fieldLink "com/example/libentkey/libentkey/codec/KeyReader" (13 : Nat) "com/example/libentkey/libentkey/codec/KeyReader" "position" "I").before a0 Z = true := hw _ (List.mem_of_getElem? (i := 18) rfl)
theorem w_19 {a0 : Array Value} {Z : State} (hw : ∀ d ∈ tables_1, d.before a0 Z = true) : (Jvm.Cond.lays "com/example/libentkey/libentkey/codec/KeyReader" "com/example/libentkey/libentkey/codec/KeyReader" "position" "I").before a0 Z = true := hw _ (List.mem_of_getElem? (i := 19) rfl)
theorem w_20 {a0 : Array Value} {Z : State} (hw : ∀ d ∈ tables_1, d.before a0 Z = true) : (Jvm.Cond.methodLink "com/example/libentkey/libentkey/codec/KeyReaderSkipAsciiPinLaw" (17 : Nat) ({ cls := "com/example/libentkey/libentkey/codec/KeyReaderSkipAsciiPinLaw", name := "ascii", desc := "(B)Z" } : Jvm.MethodName)).before a0 Z = true := hw _ (List.mem_of_getElem? (i := 20) rfl)
theorem w_21 {a0 : Array Value} {Z : State} (hw : ∀ d ∈ tables_1, d.before a0 Z = true) : (Jvm.Cond.static ({ cls := "com/example/libentkey/libentkey/codec/KeyReaderSkipAsciiPinLaw", name := "ascii", desc := "(B)Z" } : Jvm.MethodName)).before a0 Z = true := hw _ (List.mem_of_getElem? (i := 21) rfl)
theorem w_22 {a0 : Array Value} {Z : State} (hw : ∀ d ∈ tables_1, d.before a0 Z = true) : (Jvm.Cond.initialized "com/example/libentkey/libentkey/codec/KeyReaderSkipAsciiPinLaw").before a0 Z = true := hw _ (List.mem_of_getElem? (i := 22) rfl)
theorem w_23 {a0 : Array Value} {Z : State} (hw : ∀ d ∈ tables_1, d.before a0 Z = true) : (Jvm.Cond.code ({ cls := "com/example/libentkey/libentkey/codec/KeyReaderSkipAsciiPinLaw", name := "ascii", desc := "(B)Z" } : Jvm.MethodName) method_2_code (2 : Nat) (Option.some Jvm.ClassFile.FieldType.boolean)).before a0 Z = true := hw _ (List.mem_of_getElem? (i := 23) rfl)
theorem w_24 {a0 : Array Value} {Z : State} (hw : ∀ d ∈ tables_1, d.before a0 Z = true) : (Jvm.Cond.methodLink "com/example/libentkey/libentkey/codec/KeyReaderSkipAsciiPinLaw" (23 : Nat) ({ cls := "com/example/libentkey/libentkey/codec/KeyReader", name := "skipAscii", desc := "()V" } : Jvm.MethodName)).before a0 Z = true := hw _ (List.mem_of_getElem? (i := 24) rfl)
theorem w_25 {a0 : Array Value} {Z : State} (hw : ∀ d ∈ tables_1, d.before a0 Z = true) : (Jvm.Cond.declares ({ cls := "com/example/libentkey/libentkey/codec/KeyReader", name := "skipAscii", desc := "()V" } : Jvm.MethodName)).before a0 Z = true := hw _ (List.mem_of_getElem? (i := 25) rfl)
theorem w_26 {a0 : Array Value} {Z : State} (hw : ∀ d ∈ tables_1, d.before a0 Z = true) : (Jvm.Cond.instanceMethod ({ cls := "com/example/libentkey/libentkey/codec/KeyReader", name := "skipAscii", desc := "()V" } : Jvm.MethodName)).before a0 Z = true := hw _ (List.mem_of_getElem? (i := 26) rfl)
theorem w_27 {a0 : Array Value} {Z : State} (hw : ∀ d ∈ tables_1, d.before a0 Z = true) : (Jvm.Cond.selects "com/example/libentkey/libentkey/codec/KeyReader" ({ cls := "com/example/libentkey/libentkey/codec/KeyReader", name := "skipAscii", desc := "()V" } : Jvm.MethodName) ({ cls := "com/example/libentkey/libentkey/codec/KeyReader", name := "skipAscii", desc := "()V" } : Jvm.MethodName)).before a0 Z = true := hw _ (List.mem_of_getElem? (i := 27) rfl)
theorem w_28 {a0 : Array Value} {Z : State} (hw : ∀ d ∈ tables_1, d.before a0 Z = true) : (Jvm.Cond.code ({ cls := "com/example/libentkey/libentkey/codec/KeyReader", name := "skipAscii", desc := "()V" } : Jvm.MethodName) prog_22_method_9_code (2 : Nat) (Option.none : Option Jvm.ClassFile.FieldType)).before a0 Z = true := hw _ (List.mem_of_getElem? (i := 28) rfl)
theorem w_29 {a0 : Array Value} {Z : State} (hw : ∀ d ∈ tables_1, d.before a0 Z = true) : (Jvm.Cond.methodLink "com/example/libentkey/libentkey/codec/KeyReaderSkipAsciiPinLaw" (26 : Nat) ({ cls := "com/example/libentkey/libentkey/codec/KeyReader", name := "position", desc := "()I" } : Jvm.MethodName)).before a0 Z = true := hw _ (List.mem_of_getElem? (i := 29) rfl)
theorem w_30 {a0 : Array Value} {Z : State} (hw : ∀ d ∈ tables_1, d.before a0 Z = true) : (Jvm.Cond.declares ({ cls := "com/example/libentkey/libentkey/codec/KeyReader", name := "position", desc := "()I" } : Jvm.MethodName)).before a0 Z = true := hw _ (List.mem_of_getElem? (i := 30) rfl)
theorem w_31 {a0 : Array Value} {Z : State} (hw : ∀ d ∈ tables_1, d.before a0 Z = true) : (Jvm.Cond.instanceMethod ({ cls := "com/example/libentkey/libentkey/codec/KeyReader", name := "position", desc := "()I" } : Jvm.MethodName)).before a0 Z = true := hw _ (List.mem_of_getElem? (i := 31) rfl)
theorem w_32 {a0 : Array Value} {Z : State} (hw : ∀ d ∈ tables_1, d.before a0 Z = true) : (Jvm.Cond.selects "com/example/libentkey/libentkey/codec/KeyReader" ({ cls := "com/example/libentkey/libentkey/codec/KeyReader", name := "position", desc := "()I" } : Jvm.MethodName) ({ cls := "com/example/libentkey/libentkey/codec/KeyReader", name := "position", desc := "()I" } : Jvm.MethodName)).before a0 Z = true := hw _ (List.mem_of_getElem? (i := 32) rfl)
theorem w_33 {a0 : Array Value} {Z : State} (hw : ∀ d ∈ tables_1, d.before a0 Z = true) : (Jvm.Cond.code ({ cls := "com/example/libentkey/libentkey/codec/KeyReader", name := "position", desc := "()I" } : Jvm.MethodName) prog_22_method_3_code (1 : Nat) (Option.some Jvm.ClassFile.FieldType.int)).before a0 Z = true := hw _ (List.mem_of_getElem? (i := 33) rfl)
theorem own_pn1 : plainName "com/example/libentkey/libentkey/codec/KeyReader" = true := by first | (simp [plainName, overriddenIn]; done) | decide +kernel
theorem d1_0 : decode prog_22_method_1_code 0 = .ok (.aload_n 0, 1) := by decide +kernel
theorem d1_1 : decode prog_22_method_1_code 1 = .ok (.invokespecial 1, 3) := by decide +kernel
theorem d1_4 : decode prog_22_method_1_code 4 = .ok (.aload_n 0, 1) := by decide +kernel
theorem d1_5 : decode prog_22_method_1_code 5 = .ok (.aload_n 1, 1) := by decide +kernel
theorem d1_6 : decode prog_22_method_1_code 6 = .ok (.putfield 7, 3) := by decide +kernel
theorem d1_9 : decode prog_22_method_1_code 9 = .ok (.return_, 1) := by decide +kernel
theorem ef_1 (m : MethodId) (x0 : Addr) (x1 : Addr) : entryFrame m #[(.ref x0), (.ref x1)] 2 = mkF m 0 #[.val (.ref x0), .val (.ref x1)] [] := by first | (simp [entryFrame, mkF, argsToLocals, Value.category]; done) | rfl
def Q1 (Z : State) (a1 : Addr) (a2 : Addr) (h0 : Heap) (n0 : Nat) (v : Option Value) (h : Heap) (L : List Loc) : Prop := v = none ∧ Fr n0 L ∧ Keep h0 h [a1] ∧ Exa Z h a1 "com/example/libentkey/libentkey/codec/KeyReader" ∧ Fld Z h a1 "com/example/libentkey/libentkey/codec/KeyReader" "key" "[B" (.ref a2) ∧ Fld Z h a1 "com/example/libentkey/libentkey/codec/KeyReader" "position" "I" (.int (0 : Int32))
set_option maxHeartbeats 40000000 in
theorem rm1 (l : Launch) (Z : State) (a0 : Array Value) (hw : ∀ d ∈ tables_1, d.before a0 Z = true) (ws : List Jvm.Cond) (a1 : Addr) (a2 : Addr) (h0 : Heap) (n0 : Nat) (Z0 : n0 ≤ h0.size) (F0 : Exa Z h0 a1 "com/example/libentkey/libentkey/codec/KeyReader") (F1 : Fld Z h0 a1 "com/example/libentkey/libentkey/codec/KeyReader" "key" "[B" .null) (F2 : Fld Z h0 a1 "com/example/libentkey/libentkey/codec/KeyReader" "position" "I" (.int (0 : Int32))) (ga : n0 ≤ a1) :
    MetFree l (⟨"com/example/libentkey/libentkey/codec/KeyReader", "<init>", "([B)V"⟩ : MethodName) (head1 (Jvm.Cond.code (⟨"com/example/libentkey/libentkey/codec/KeyReader", "<init>", "([B)V"⟩ : MethodName) prog_22_method_1_code 2 none :: ws) ({ frames := 1, cells := 0, slots := 0, locals := 12 } : Room)) (fun a U => a = #[(.ref a1), (.ref a2)] ∧ Z.Warmed39 U.vm ∧ U.heap = h0) (fun _ _ _ _ _ => True) (fun _ U o U' => ∃ v L, o = .returned v ∧ Q1 Z a1 a2 h0 n0 v U'.heap L ∧ FrameEnd U o U' L ({ frames := 1, cells := 0, slots := 0, locals := 12 } : Room).cells ({ frames := 1, cells := 0, slots := 0, locals := 12 } : Room).slots) := by
  refine MetFree.of_bodySF (plainFor_of_name own_pn1) hisR ?_
  intro p e s m args below meth c s₁ Bd hml0 hP hK
  obtain ⟨rfl, hZ, hh⟩ := hP
  have hx := Bd.exec
  have hby := Bd.bytes
  have hml : c.maxLocals = 2 := hml0
  have hlk : meth.locks = false := BodyLoose.notSynchronized Bd
  have hown : s.vm.findClass "com/example/libentkey/libentkey/codec/KeyReader" = some m.cls := findClass_of_methodNamed Bd.named
  have hnm := (name_of_methodNamed Bd.named Bd.method).1
  have X0 : Stand p l e ({ frames := 1, cells := 0, slots := 0, locals := 12 } : Room) s m #[(.ref a1), (.ref a2)] below meth c s₁ [] 0 0 := Stand.of_body Bd
  have e0 : s₁.heap = h0 := by rw [← hh, Bd.state]; rfl
  have N0 := Fr.nil n0
  show own_Go p e below s (Q1 Z a1 a2 h0 n0) ({ frames := 1, cells := 0, slots := 0, locals := 12 } : Room).cells ({ frames := 1, cells := 0, slots := 0, locals := 12 } : Room).slots _
  refine own_st (B := s₁.setTop (mkF m 0 #[.val (.ref a1), .val (.ref a2)] [])) (fun t k => castTop (ef_1 m (a1) (a2)) k) ?_
  refine own_st (B := s₁.setTop (mkF m 1 #[.val (.ref a1), .val (.ref a2)] [(.ref a1)])) (fun t k => XS.aloadN X0.here hx rfl (hb hby d1_0) rfl rfl k) ?_
  obtain ⟨T1, X1, e1, st1⟩ := initO X0 hx hZ hown (w_8 hw) (w_9 hw) (w_10 hw) e0 (g := (mkF m 1 #[.val (.ref a1), .val (.ref a2)] [(.ref a1)])) rfl (by rw [hml]; rfl) rfl (hb hby d1_1) (by decide) (W := 0) (by show 2 * 0 + _ ≤ _; exact Nat.le_of_eq rfl) (by decide)
  refine own_st (B := T1.setTop (mkF m 4 #[.val (.ref a1), .val (.ref a2)] [])) (fun t k => st1 t k) ?_
  refine own_st (B := T1.setTop (mkF m 5 #[.val (.ref a1), .val (.ref a2)] [(.ref a1)])) (fun t k => XS.aloadN X1.here hx rfl (hb hby d1_4) rfl rfl k) ?_
  refine own_st (B := T1.setTop (mkF m 6 #[.val (.ref a1), .val (.ref a2)] [(.ref a2), (.ref a1)])) (fun t k => XS.aloadN X1.here hx rfl (hb hby d1_5) rfl rfl k) ?_
  obtain ⟨T2, h2, X2, e2, W2, st2⟩ := putF X1 hx hZ hown (host := "") (Or.inl (w_11 hw)) Via.refl e1 F1 F0 (Or.inr ⟨(w_12 hw), rfl, hnm⟩) (w_3 hw) (ty := (.array .byte)) (by decide) rfl rfl (g := (mkF m 6 #[.val (.ref a1), .val (.ref a2)] [(.ref a2), (.ref a1)])) rfl rfl (hb hby d1_6)
  have f2_ : Fld Z h2 a1 "com/example/libentkey/libentkey/codec/KeyReader" "key" "[B" (.ref a2) := F1.same W2
  have z3 : n0 ≤ h2.size := Nat.le_trans Z0 (Keep.of_wr W2).1
  have kp3 : Keep h0 h2 [a1] := (Keep.refl h0 [a1]).wr W2 (Or.inl (List.mem_of_getElem? (i := 0) rfl))
  have n4 := Fr.snoc X2 N0 ga
  refine own_st (B := T2.setTop (mkF m 9 #[.val (.ref a1), .val (.ref a2)] [])) (fun t k => st2 t k) ?_
  refine own_retV X2 hx hlk Bd.returns (hb hby d1_9) (by decide) (by decide) ?_
  show Q1 Z a1 a2 h0 n0 _ T2.heap _
  rw [e2]
  have f5 : Exa Z h2 a1 "com/example/libentkey/libentkey/codec/KeyReader" := (F0.wr W2)
  have f6 : Fld Z h2 a1 "com/example/libentkey/libentkey/codec/KeyReader" "position" "I" (.int (0 : Int32)) := (F2.other W2 (Or.inr (slot_ne (Or.inl (w_19 hw)) (Or.inr (w_12 hw)) (by decide) (t := .int) (t' := (.array .byte)) (by decide) (by decide))))
  exact ⟨rfl, n4, kp3, f5, f2_, f6⟩
theorem own_neL {p : Int32} {n : Nat} (h : p.toInt < (n : Int)) (hn : n < 1000) : ¬ (p = n.toInt32) := fun q => by
  have h1 := len_toInt (n := n) (by omega)
  rw [← q] at h1
  omega
theorem d3_0 : decode prog_22_method_5_code 0 = .ok (.aload_n 0, 1) := by decide +kernel
theorem d3_1 : decode prog_22_method_5_code 1 = .ok (.getfield 13, 3) := by decide +kernel
theorem d3_4 : decode prog_22_method_5_code 4 = .ok (.aload_n 0, 1) := by decide +kernel
theorem d3_5 : decode prog_22_method_5_code 5 = .ok (.getfield 7, 3) := by decide +kernel
theorem d3_8 : decode prog_22_method_5_code 8 = .ok (.arraylength, 1) := by decide +kernel
theorem d3_9 : decode prog_22_method_5_code 9 = .ok (.if_icmp .ne 8, 3) := by decide +kernel
theorem d3_17 : decode prog_22_method_5_code 17 = .ok (.aload_n 0, 1) := by decide +kernel
theorem d3_18 : decode prog_22_method_5_code 18 = .ok (.getfield 7, 3) := by decide +kernel
theorem d3_21 : decode prog_22_method_5_code 21 = .ok (.aload_n 0, 1) := by decide +kernel
theorem d3_22 : decode prog_22_method_5_code 22 = .ok (.dup, 1) := by decide +kernel
theorem d3_23 : decode prog_22_method_5_code 23 = .ok (.getfield 13, 3) := by decide +kernel
theorem d3_26 : decode prog_22_method_5_code 26 = .ok (.dup_x1, 1) := by decide +kernel
theorem d3_27 : decode prog_22_method_5_code 27 = .ok (.iconst 1, 1) := by decide +kernel
theorem d3_28 : decode prog_22_method_5_code 28 = .ok (.iadd, 1) := by decide +kernel
theorem d3_29 : decode prog_22_method_5_code 29 = .ok (.putfield 13, 3) := by decide +kernel
theorem d3_32 : decode prog_22_method_5_code 32 = .ok (.baload, 1) := by decide +kernel
theorem d3_33 : decode prog_22_method_5_code 33 = .ok (.sipush 255, 3) := by decide +kernel
theorem d3_36 : decode prog_22_method_5_code 36 = .ok (.iand, 1) := by decide +kernel
theorem d3_37 : decode prog_22_method_5_code 37 = .ok (.ireturn, 1) := by decide +kernel
theorem ef_3 (m : MethodId) (x0 : Addr) : entryFrame m #[(.ref x0)] 1 = mkF m 0 #[.val (.ref x0)] [] := by first | (simp [entryFrame, mkF, argsToLocals, Value.category]; done) | rfl
def Q3 (Z : State) (a1 : Addr) (b : Addr) (p1 : Int32) (bs : List Int32) (h0 : Heap) (n0 : Nat) (v : Option Value) (h : Heap) (L : List Loc) : Prop := v = some (.int ((bs.getD p1.toInt.toNat 0) &&& (255 : Int32))) ∧ Fr n0 L ∧ Keep h0 h [a1] ∧ Exa Z h a1 "com/example/libentkey/libentkey/codec/KeyReader" ∧ Fld Z h a1 "com/example/libentkey/libentkey/codec/KeyReader" "key" "[B" (.ref b) ∧ Fld Z h a1 "com/example/libentkey/libentkey/codec/KeyReader" "position" "I" (.int (p1 + (1 : Int32)))
set_option maxHeartbeats 40000000 in
theorem rm3 (l : Launch) (Z : State) (a0 : Array Value) (hw : ∀ d ∈ tables_1, d.before a0 Z = true) (ws : List Jvm.Cond) (a1 : Addr) (b : Addr) (p1 : Int32) (bs : List Int32) (h0 : Heap) (n0 : Nat) (Z0 : n0 ≤ h0.size) (F0 : Exa Z h0 a1 "com/example/libentkey/libentkey/codec/KeyReader") (F1 : Fld Z h0 a1 "com/example/libentkey/libentkey/codec/KeyReader" "key" "[B" (.ref b)) (F2 : Fld Z h0 a1 "com/example/libentkey/libentkey/codec/KeyReader" "position" "I" (.int p1)) (F3 : own_A Z h0 b .byte (bs.map Value.int)) (ga : n0 ≤ a1) (nab : b ≠ a1) (hp : 0 ≤ p1.toInt ∧ p1.toInt < (bs.length : Int)) (hl : bs.length < 1000) :
    MetFree l (⟨"com/example/libentkey/libentkey/codec/KeyReader", "next", "()I"⟩ : MethodName) (head1 (Jvm.Cond.code (⟨"com/example/libentkey/libentkey/codec/KeyReader", "next", "()I"⟩ : MethodName) prog_22_method_5_code 1 (some .int) :: ws) ({ frames := 0, cells := 0, slots := 0, locals := 0 } : Room)) (fun a U => a = #[(.ref a1)] ∧ Z.Warmed39 U.vm ∧ U.heap = h0) (fun _ _ _ _ _ => True) (fun _ U o U' => ∃ v L, o = .returned v ∧ Q3 Z a1 b p1 bs h0 n0 v U'.heap L ∧ FrameEnd U o U' L ({ frames := 0, cells := 0, slots := 0, locals := 0 } : Room).cells ({ frames := 0, cells := 0, slots := 0, locals := 0 } : Room).slots) := by
  refine MetFree.of_bodySF (plainFor_of_name own_pn1) hisR ?_
  intro p e s m args below meth c s₁ Bd hml0 hP hK
  obtain ⟨rfl, hZ, hh⟩ := hP
  have hx := Bd.exec
  have hby := Bd.bytes
  have hml : c.maxLocals = 1 := hml0
  have hlk : meth.locks = false := BodyLoose.notSynchronized Bd
  have hown : s.vm.findClass "com/example/libentkey/libentkey/codec/KeyReader" = some m.cls := findClass_of_methodNamed Bd.named
  have hnm := (name_of_methodNamed Bd.named Bd.method).1
  have X0 : Stand p l e ({ frames := 0, cells := 0, slots := 0, locals := 0 } : Room) s m #[(.ref a1)] below meth c s₁ [] 0 0 := Stand.of_body Bd
  have e0 : s₁.heap = h0 := by rw [← hh, Bd.state]; rfl
  have N0 := Fr.nil n0
  show own_Go p e below s (Q3 Z a1 b p1 bs h0 n0) ({ frames := 0, cells := 0, slots := 0, locals := 0 } : Room).cells ({ frames := 0, cells := 0, slots := 0, locals := 0 } : Room).slots _
  refine own_st (B := s₁.setTop (mkF m 0 #[.val (.ref a1)] [])) (fun t k => castTop (ef_3 m (a1)) k) ?_
  refine own_st (B := s₁.setTop (mkF m 1 #[.val (.ref a1)] [(.ref a1)])) (fun t k => XS.aloadN X0.here hx rfl (hb hby d3_0) rfl rfl k) ?_
  obtain ⟨T1, X1, e1, st1⟩ := getF X0 hx hZ hown (host := "") (Or.inl (w_18 hw)) Via.refl e0 F2 (g := (mkF m 1 #[.val (.ref a1)] [(.ref a1)])) rfl rfl (hb hby d3_1)
  refine own_st (B := T1.setTop (mkF m 4 #[.val (.ref a1)] [(.int p1)])) (fun t k => st1 t k) ?_
  refine own_st (B := T1.setTop (mkF m 5 #[.val (.ref a1)] [(.ref a1), (.int p1)])) (fun t k => XS.aloadN X1.here hx rfl (hb hby d3_4) rfl rfl k) ?_
  obtain ⟨T2, X2, e2, st2⟩ := getF X1 hx hZ hown (host := "") (Or.inl (w_11 hw)) Via.refl e1 F1 (g := (mkF m 5 #[.val (.ref a1)] [(.ref a1), (.int p1)])) rfl rfl (hb hby d3_5)
  refine own_st (B := T2.setTop (mkF m 8 #[.val (.ref a1)] [(.ref b), (.int p1)])) (fun t k => st2 t k) ?_
  refine own_st (B := T2.setTop (mkF m 9 #[.val (.ref a1)] [(.int (bs.length.toInt32)), (.int p1)])) (fun t k => own_len X2 hx hZ e2 F3 (g := (mkF m 8 #[.val (.ref a1)] [(.ref b), (.int p1)])) (n := (bs.length.toInt32)) (by rw [List.length_map]; exact len_toInt (by omega)) rfl rfl (hb hby d3_8) k) ?_
  have hc3 : ¬ (p1 = (bs.length.toInt32)) := by
    exact own_neL hp.2 hl
  refine own_st (B := T2.setTop (mkF m 17 #[.val (.ref a1)] [])) (fun t k => XS.icmpYes X2.here hx rfl (pc0 := 9) (pc' := 17) rfl (hb hby d3_9) rfl (XT.ii_ne_t hc3) (by decide) (by decide) k) ?_
  refine own_st (B := T2.setTop (mkF m 18 #[.val (.ref a1)] [(.ref a1)])) (fun t k => XS.aloadN X2.here hx rfl (hb hby d3_17) rfl rfl k) ?_
  obtain ⟨T4, X4, e4, st4⟩ := getF X2 hx hZ hown (host := "") (Or.inl (w_11 hw)) Via.refl e2 F1 (g := (mkF m 18 #[.val (.ref a1)] [(.ref a1)])) rfl rfl (hb hby d3_18)
  refine own_st (B := T4.setTop (mkF m 21 #[.val (.ref a1)] [(.ref b)])) (fun t k => st4 t k) ?_
  refine own_st (B := T4.setTop (mkF m 22 #[.val (.ref a1)] [(.ref a1), (.ref b)])) (fun t k => XS.aloadN X4.here hx rfl (hb hby d3_21) rfl rfl k) ?_
  refine own_st (B := T4.setTop (mkF m 23 #[.val (.ref a1)] [(.ref a1), (.ref a1), (.ref b)])) (fun t k => XS.dup X4.here hx rfl (hb hby d3_22) rfl rfl k) ?_
  obtain ⟨T5, X5, e5, st5⟩ := getF X4 hx hZ hown (host := "") (Or.inl (w_18 hw)) Via.refl e4 F2 (g := (mkF m 23 #[.val (.ref a1)] [(.ref a1), (.ref a1), (.ref b)])) rfl rfl (hb hby d3_23)
  refine own_st (B := T5.setTop (mkF m 26 #[.val (.ref a1)] [(.int p1), (.ref a1), (.ref b)])) (fun t k => st5 t k) ?_
  refine own_st (B := T5.setTop (mkF m 27 #[.val (.ref a1)] [(.int p1), (.ref a1), (.int p1), (.ref b)])) (fun t k => XS.dupX1 X5.here hx rfl (hb hby d3_26) rfl rfl rfl k) ?_
  refine own_st (B := T5.setTop (mkF m 28 #[.val (.ref a1)] [(.int (1 : Int32)), (.int p1), (.ref a1), (.int p1), (.ref b)])) (fun t k => XS.iconst X5.here hx rfl (hb hby d3_27) k) ?_
  refine own_st (B := T5.setTop (mkF m 29 #[.val (.ref a1)] [(.int (p1 + (1 : Int32))), (.ref a1), (.int p1), (.ref b)])) (fun t k => XS.iadd X5.here hx rfl (hb hby d3_28) rfl k) ?_
  obtain ⟨T6, h6, X6, e6, W6, st6⟩ := putF X5 hx hZ hown (host := "") (Or.inl (w_18 hw)) Via.refl e5 F2 F0 (Or.inl (w_19 hw)) (w_3 hw) (ty := .int) (by decide) rfl rfl (g := (mkF m 29 #[.val (.ref a1)] [(.int (p1 + (1 : Int32))), (.ref a1), (.int p1), (.ref b)])) rfl rfl (hb hby d3_29)
  have f6_ : Fld Z h6 a1 "com/example/libentkey/libentkey/codec/KeyReader" "position" "I" (.int (p1 + (1 : Int32))) := F2.same W6
  have z7 : n0 ≤ h6.size := Nat.le_trans Z0 (Keep.of_wr W6).1
  have kp7 : Keep h0 h6 [a1] := (Keep.refl h0 [a1]).wr W6 (Or.inl (List.mem_of_getElem? (i := 0) rfl))
  have n8 := Fr.snoc X6 N0 ga
  refine own_st (B := T6.setTop (mkF m 32 #[.val (.ref a1)] [(.int p1), (.ref b)])) (fun t k => st6 t k) ?_
  have f9 : own_A Z h6 b .byte (bs.map Value.int) := (F3.other W6 nab)
  refine own_st (B := T6.setTop (mkF m 33 #[.val (.ref a1)] [(.int (bs.getD p1.toInt.toNat 0))])) (fun t k => own_ldB X6 hx hZ e6 f9 (g := (mkF m 32 #[.val (.ref a1)] [(.int p1), (.ref b)])) (i := (p1.toInt.toNat)) (own_nat hp.1) (own_getI (show p1.toInt.toNat < bs.length by omega)) rfl rfl (hb hby d3_32) k) ?_
  refine own_st (B := T6.setTop (mkF m 36 #[.val (.ref a1)] [(.int (255 : Int32)), (.int (bs.getD p1.toInt.toNat 0))])) (fun t k => XS.sipush X6.here hx rfl (hb hby d3_33) k) ?_
  refine own_st (B := T6.setTop (mkF m 37 #[.val (.ref a1)] [(.int ((bs.getD p1.toInt.toNat 0) &&& (255 : Int32)))])) (fun t k => XS.iand X6.here hx rfl (hb hby d3_36) rfl k) ?_
  refine own_retI X6 hx hlk Bd.returns (hb hby d3_37) (by decide) (by decide) ?_
  show Q3 Z a1 b p1 bs h0 n0 _ T6.heap _
  rw [e6]
  have f10 : Exa Z h6 a1 "com/example/libentkey/libentkey/codec/KeyReader" := (F0.wr W6)
  have f11 : Fld Z h6 a1 "com/example/libentkey/libentkey/codec/KeyReader" "key" "[B" (.ref b) := (F1.other W6 (Or.inr (slot_ne (Or.inr (w_12 hw)) (Or.inl (w_19 hw)) (by decide) (t := (.array .byte)) (t' := .int) (by decide) (by decide))))
  exact ⟨rfl, n8, kp7, f10, f11, f6_⟩
theorem own_pn2 : plainName "com/example/libentkey/libentkey/codec/KeyReaderSkipAsciiPinLaw" = true := by first | (simp [plainName, overriddenIn]; done) | decide +kernel
theorem d4_0 : decode method_2_code 0 = .ok (.iload_n 0, 1) := by decide +kernel
theorem d4_1 : decode method_2_code 1 = .ok (.sipush 255, 3) := by decide +kernel
theorem d4_4 : decode method_2_code 4 = .ok (.iand, 1) := by decide +kernel
theorem d4_5 : decode method_2_code 5 = .ok (.istore_n 1, 1) := by decide +kernel
theorem d4_6 : decode method_2_code 6 = .ok (.iload_n 1, 1) := by decide +kernel
theorem d4_7 : decode method_2_code 7 = .ok (.iconst 1, 1) := by decide +kernel
theorem d4_8 : decode method_2_code 8 = .ok (.if_icmp .lt 13, 3) := by decide +kernel
theorem d4_11 : decode method_2_code 11 = .ok (.iload_n 1, 1) := by decide +kernel
theorem d4_12 : decode method_2_code 12 = .ok (.bipush 127, 2) := by decide +kernel
theorem d4_14 : decode method_2_code 14 = .ok (.if_icmp .gt 7, 3) := by decide +kernel
theorem d4_17 : decode method_2_code 17 = .ok (.iconst 1, 1) := by decide +kernel
theorem d4_18 : decode method_2_code 18 = .ok (.goto 4, 3) := by decide +kernel
theorem d4_21 : decode method_2_code 21 = .ok (.iconst 0, 1) := by decide +kernel
theorem d4_22 : decode method_2_code 22 = .ok (.ireturn, 1) := by decide +kernel
theorem ef_4 (m : MethodId) (x0 : Int32) : entryFrame m #[(.int x0)] 2 = mkF m 0 #[.val (.int x0), .unset] [] := by first | (simp [entryFrame, mkF, argsToLocals, Value.category]; done) | rfl
def own_f4 (p1 : Int32) : Int32 := (if (p1 &&& (255 : Int32)) < (1 : Int32) then (0 : Int32) else (if (127 : Int32) < (p1 &&& (255 : Int32)) then (0 : Int32) else (1 : Int32)))
def Q4 (Z : State) (p1 : Int32) (h0 : Heap) (n0 : Nat) (v : Option Value) (h : Heap) (L : List Loc) : Prop := v = some (.int (own_f4 p1)) ∧ Fr n0 L ∧ h = h0
set_option maxHeartbeats 40000000 in
theorem rm4 (l : Launch) (Z : State) (a0 : Array Value) (hw : ∀ d ∈ tables_1, d.before a0 Z = true) (ws : List Jvm.Cond) (p1 : Int32) (h0 : Heap) (n0 : Nat) (Z0 : n0 ≤ h0.size) :
    MetFree l (⟨"com/example/libentkey/libentkey/codec/KeyReaderSkipAsciiPinLaw", "ascii", "(B)Z"⟩ : MethodName) (head1 (Jvm.Cond.code (⟨"com/example/libentkey/libentkey/codec/KeyReaderSkipAsciiPinLaw", "ascii", "(B)Z"⟩ : MethodName) method_2_code 2 (some .boolean) :: ws) ({ frames := 0, cells := 0, slots := 0, locals := 0 } : Room)) (fun a U => a = #[(.int p1)] ∧ Z.Warmed39 U.vm ∧ U.heap = h0) (fun _ _ _ _ _ => True) (fun _ U o U' => ∃ v L, o = .returned v ∧ Q4 Z p1 h0 n0 v U'.heap L ∧ FrameEnd U o U' L ({ frames := 0, cells := 0, slots := 0, locals := 0 } : Room).cells ({ frames := 0, cells := 0, slots := 0, locals := 0 } : Room).slots) := by
  refine MetFree.of_bodySF (plainFor_of_name own_pn2) hisR ?_
  intro p e s m args below meth c s₁ Bd hml0 hP hK
  obtain ⟨rfl, hZ, hh⟩ := hP
  have hx := Bd.exec
  have hby := Bd.bytes
  have hml : c.maxLocals = 2 := hml0
  have hlk : meth.locks = false := BodyLoose.notSynchronized Bd
  have hown : s.vm.findClass "com/example/libentkey/libentkey/codec/KeyReaderSkipAsciiPinLaw" = some m.cls := findClass_of_methodNamed Bd.named
  have hnm := (name_of_methodNamed Bd.named Bd.method).1
  have X0 : Stand p l e ({ frames := 0, cells := 0, slots := 0, locals := 0 } : Room) s m #[(.int p1)] below meth c s₁ [] 0 0 := Stand.of_body Bd
  have e0 : s₁.heap = h0 := by rw [← hh, Bd.state]; rfl
  have N0 := Fr.nil n0
  show own_Go p e below s (Q4 Z p1 h0 n0) ({ frames := 0, cells := 0, slots := 0, locals := 0 } : Room).cells ({ frames := 0, cells := 0, slots := 0, locals := 0 } : Room).slots _
  refine own_st (B := s₁.setTop (mkF m 0 #[.val (.int p1), .unset] [])) (fun t k => castTop (ef_4 m (p1)) k) ?_
  refine own_st (B := s₁.setTop (mkF m 1 #[.val (.int p1), .unset] [(.int p1)])) (fun t k => XS.iloadN X0.here hx rfl (hb hby d4_0) rfl k) ?_
  refine own_st (B := s₁.setTop (mkF m 4 #[.val (.int p1), .unset] [(.int (255 : Int32)), (.int p1)])) (fun t k => XS.sipush X0.here hx rfl (hb hby d4_1) k) ?_
  refine own_st (B := s₁.setTop (mkF m 5 #[.val (.int p1), .unset] [(.int (p1 &&& (255 : Int32)))])) (fun t k => XS.iand X0.here hx rfl (hb hby d4_4) rfl k) ?_
  obtain ⟨v1, ev1⟩ : ∃ z : Int32, z = (p1 &&& (255 : Int32)) := ⟨_, rfl⟩
  rw [← ev1]
  refine own_st (B := s₁.setTop (mkF m 6 #[.val (.int p1), .val (.int v1)] [])) (fun t k => XS.istoreN X0.here hx rfl (hb hby d4_5) rfl (l' := #[.val (.int p1), .val (.int v1)]) rfl k) ?_
  refine own_st (B := s₁.setTop (mkF m 7 #[.val (.int p1), .val (.int v1)] [(.int v1)])) (fun t k => XS.iloadN X0.here hx rfl (hb hby d4_6) rfl k) ?_
  refine own_st (B := s₁.setTop (mkF m 8 #[.val (.int p1), .val (.int v1)] [(.int (1 : Int32)), (.int v1)])) (fun t k => XS.iconst X0.here hx rfl (hb hby d4_7) k) ?_
  by_cases hc2 : v1 < (1 : Int32)
  · refine own_st (B := s₁.setTop (mkF m 21 #[.val (.int p1), .val (.int v1)] [])) (fun t k => XS.icmpYes X0.here hx rfl (pc0 := 8) (pc' := 21) rfl (hb hby d4_8) rfl (XT.ii_lt_t hc2) (by decide) (by decide) k) ?_
    refine own_st (B := s₁.setTop (mkF m 22 #[.val (.int p1), .val (.int v1)] [(.int (0 : Int32))])) (fun t k => XS.iconst X0.here hx rfl (hb hby d4_21) k) ?_
    refine own_retN X0 hx hlk (t := .boolean) Bd.returns (by simp) (z' := (0 : Int32)) rfl (hb hby d4_22) (by decide) (by decide) ?_
    show Q4 Z p1 h0 n0 _ s₁.heap _
    rw [e0]
    exact ⟨(by subst v1; unfold own_f4; rw [if_pos hc2]), N0, rfl⟩
  · refine own_st (B := s₁.setTop (mkF m 11 #[.val (.int p1), .val (.int v1)] [])) (fun t k => XS.icmpNo X0.here hx rfl (hb hby d4_8) rfl (XT.ii_lt_f hc2) k) ?_
    refine own_st (B := s₁.setTop (mkF m 12 #[.val (.int p1), .val (.int v1)] [(.int v1)])) (fun t k => XS.iloadN X0.here hx rfl (hb hby d4_11) rfl k) ?_
    refine own_st (B := s₁.setTop (mkF m 14 #[.val (.int p1), .val (.int v1)] [(.int (127 : Int32)), (.int v1)])) (fun t k => XS.bipush X0.here hx rfl (hb hby d4_12) k) ?_
    by_cases hc3 : (127 : Int32) < v1
    · refine own_st (B := s₁.setTop (mkF m 21 #[.val (.int p1), .val (.int v1)] [])) (fun t k => XS.icmpYes X0.here hx rfl (pc0 := 14) (pc' := 21) rfl (hb hby d4_14) rfl (XT.ii_gt_t hc3) (by decide) (by decide) k) ?_
      refine own_st (B := s₁.setTop (mkF m 22 #[.val (.int p1), .val (.int v1)] [(.int (0 : Int32))])) (fun t k => XS.iconst X0.here hx rfl (hb hby d4_21) k) ?_
      refine own_retN X0 hx hlk (t := .boolean) Bd.returns (by simp) (z' := (0 : Int32)) rfl (hb hby d4_22) (by decide) (by decide) ?_
      show Q4 Z p1 h0 n0 _ s₁.heap _
      rw [e0]
      exact ⟨(by subst v1; unfold own_f4; rw [if_neg hc2, if_pos hc3]), N0, rfl⟩
    · refine own_st (B := s₁.setTop (mkF m 17 #[.val (.int p1), .val (.int v1)] [])) (fun t k => XS.icmpNo X0.here hx rfl (hb hby d4_14) rfl (XT.ii_gt_f hc3) k) ?_
      refine own_st (B := s₁.setTop (mkF m 18 #[.val (.int p1), .val (.int v1)] [(.int (1 : Int32))])) (fun t k => XS.iconst X0.here hx rfl (hb hby d4_17) k) ?_
      refine own_st (B := s₁.setTop (mkF m 22 #[.val (.int p1), .val (.int v1)] [(.int (1 : Int32))])) (fun t k => XS.goto X0.here hx rfl (pc0 := 18) (pc' := 22) rfl (hb hby d4_18) (by decide) (by decide) k) ?_
      refine own_retN X0 hx hlk (t := .boolean) Bd.returns (by simp) (z' := (1 : Int32)) rfl (hb hby d4_22) (by decide) (by decide) ?_
      show Q4 Z p1 h0 n0 _ s₁.heap _
      rw [e0]
      exact ⟨(by subst v1; unfold own_f4; rw [if_neg hc2, if_neg hc3]), N0, rfl⟩
def own_run : List Int32 → Nat
  | [] => 0
  | x :: xs => if 0 < x.toInt then own_run xs + 1 else 0
theorem own_cons {bs : List Int32} {i : Nat} (h : i < bs.length) : own_run (bs.drop i) = if 0 < (bs.getD i 0).toInt then own_run (bs.drop (i + 1)) + 1 else 0 := by
  rw [List.drop_eq_getElem_cons h]
  show (if 0 < (bs[i]).toInt then _ else _) = _
  simp [List.getD, h]
theorem own_run_end : ∀ xs : List Int32, own_run (xs.drop (own_run xs)) = 0
  | [] => rfl
  | x :: xs => by
    show own_run ((x :: xs).drop (if 0 < x.toInt then own_run xs + 1 else 0)) = 0
    by_cases h : 0 < x.toInt
    · rw [if_pos h]; exact own_run_end xs
    · rw [if_neg h]
      show (if 0 < x.toInt then own_run xs + 1 else 0) = 0
      rw [if_neg h]
theorem own_run_again (bs : List Int32) (n : Nat) : own_run (bs.drop (n + own_run (bs.drop n))) = 0 := by
  rw [← List.drop_drop]
  exact own_run_end _
theorem own_pos0 {x : Int32} : (0 : Int32) < x ↔ 0 < x.toInt := by
  rw [Int32.lt_iff_toInt_lt]; rfl
theorem d5_0 : decode prog_22_method_9_code 0 = .ok (.aload_n 0, 1) := by decide +kernel
theorem d5_1 : decode prog_22_method_9_code 1 = .ok (.getfield 13, 3) := by decide +kernel
theorem d5_4 : decode prog_22_method_9_code 4 = .ok (.istore_n 1, 1) := by decide +kernel
theorem d5_5 : decode prog_22_method_9_code 5 = .ok (.iload_n 1, 1) := by decide +kernel
theorem d5_6 : decode prog_22_method_9_code 6 = .ok (.aload_n 0, 1) := by decide +kernel
theorem d5_7 : decode prog_22_method_9_code 7 = .ok (.getfield 7, 3) := by decide +kernel
theorem d5_10 : decode prog_22_method_9_code 10 = .ok (.arraylength, 1) := by decide +kernel
theorem d5_11 : decode prog_22_method_9_code 11 = .ok (.if_icmp .ge 18, 3) := by decide +kernel
theorem d5_14 : decode prog_22_method_9_code 14 = .ok (.aload_n 0, 1) := by decide +kernel
theorem d5_15 : decode prog_22_method_9_code 15 = .ok (.getfield 7, 3) := by decide +kernel
theorem d5_18 : decode prog_22_method_9_code 18 = .ok (.iload_n 1, 1) := by decide +kernel
theorem d5_19 : decode prog_22_method_9_code 19 = .ok (.baload, 1) := by decide +kernel
theorem d5_20 : decode prog_22_method_9_code 20 = .ok (.ifCond .le 9, 3) := by decide +kernel
theorem d5_23 : decode prog_22_method_9_code 23 = .ok (.iinc 1 1, 3) := by decide +kernel
theorem d5_26 : decode prog_22_method_9_code 26 = .ok (.goto (-21), 3) := by decide +kernel
theorem d5_29 : decode prog_22_method_9_code 29 = .ok (.aload_n 0, 1) := by decide +kernel
theorem d5_30 : decode prog_22_method_9_code 30 = .ok (.iload_n 1, 1) := by decide +kernel
theorem d5_31 : decode prog_22_method_9_code 31 = .ok (.putfield 13, 3) := by decide +kernel
theorem d5_34 : decode prog_22_method_9_code 34 = .ok (.return_, 1) := by decide +kernel
theorem ef_5 (m : MethodId) (x0 : Addr) : entryFrame m #[(.ref x0)] 2 = mkF m 0 #[.val (.ref x0), .unset] [] := by first | (simp [entryFrame, mkF, argsToLocals, Value.category]; done) | rfl
def Q5 (Z : State) (a1 : Addr) (b : Addr) (p1 : Int32) (bs : List Int32) (h0 : Heap) (n0 : Nat) (v : Option Value) (h : Heap) (L : List Loc) : Prop := ∃ (q : Int32), v = none ∧ Fr n0 L ∧ Keep h0 h [a1] ∧ Exa Z h a1 "com/example/libentkey/libentkey/codec/KeyReader" ∧ Fld Z h a1 "com/example/libentkey/libentkey/codec/KeyReader" "key" "[B" (.ref b) ∧ Fld Z h a1 "com/example/libentkey/libentkey/codec/KeyReader" "position" "I" (.int q) ∧ (q.toInt = p1.toInt + (own_run (bs.drop p1.toInt.toNat) : Int))
set_option maxHeartbeats 40000000 in
theorem rm5 (l : Launch) (Z : State) (a0 : Array Value) (hw : ∀ d ∈ tables_1, d.before a0 Z = true) (ws : List Jvm.Cond) (a1 : Addr) (b : Addr) (p1 : Int32) (bs : List Int32) (h0 : Heap) (n0 : Nat) (Z0 : n0 ≤ h0.size) (F0 : Exa Z h0 a1 "com/example/libentkey/libentkey/codec/KeyReader") (F1 : Fld Z h0 a1 "com/example/libentkey/libentkey/codec/KeyReader" "key" "[B" (.ref b)) (F2 : Fld Z h0 a1 "com/example/libentkey/libentkey/codec/KeyReader" "position" "I" (.int p1)) (F3 : own_A Z h0 b .byte (bs.map Value.int)) (ga : n0 ≤ a1) (hp : 0 ≤ p1.toInt ∧ p1.toInt ≤ (bs.length : Int)) (hl : bs.length < 1000) :
    MetFree l (⟨"com/example/libentkey/libentkey/codec/KeyReader", "skipAscii", "()V"⟩ : MethodName) (head1 (Jvm.Cond.code (⟨"com/example/libentkey/libentkey/codec/KeyReader", "skipAscii", "()V"⟩ : MethodName) prog_22_method_9_code 2 none :: ws) ({ frames := 0, cells := 0, slots := 0, locals := 0 } : Room)) (fun a U => a = #[(.ref a1)] ∧ Z.Warmed39 U.vm ∧ U.heap = h0) (fun _ _ _ _ _ => True) (fun _ U o U' => ∃ v L, o = .returned v ∧ Q5 Z a1 b p1 bs h0 n0 v U'.heap L ∧ FrameEnd U o U' L ({ frames := 0, cells := 0, slots := 0, locals := 0 } : Room).cells ({ frames := 0, cells := 0, slots := 0, locals := 0 } : Room).slots) := by
  refine MetFree.of_bodySF (plainFor_of_name own_pn1) hisR ?_
  intro p e s m args below meth c s₁ Bd hml0 hP hK
  obtain ⟨rfl, hZ, hh⟩ := hP
  have hx := Bd.exec
  have hby := Bd.bytes
  have hml : c.maxLocals = 2 := hml0
  have hlk : meth.locks = false := BodyLoose.notSynchronized Bd
  have hown : s.vm.findClass "com/example/libentkey/libentkey/codec/KeyReader" = some m.cls := findClass_of_methodNamed Bd.named
  have hnm := (name_of_methodNamed Bd.named Bd.method).1
  have X0 : Stand p l e ({ frames := 0, cells := 0, slots := 0, locals := 0 } : Room) s m #[(.ref a1)] below meth c s₁ [] 0 0 := Stand.of_body Bd
  have e0 : s₁.heap = h0 := by rw [← hh, Bd.state]; rfl
  have N0 := Fr.nil n0
  show own_Go p e below s (Q5 Z a1 b p1 bs h0 n0) ({ frames := 0, cells := 0, slots := 0, locals := 0 } : Room).cells ({ frames := 0, cells := 0, slots := 0, locals := 0 } : Room).slots _
  refine own_st (B := s₁.setTop (mkF m 0 #[.val (.ref a1), .unset] [])) (fun t k => castTop (ef_5 m (a1)) k) ?_
  refine own_st (B := s₁.setTop (mkF m 1 #[.val (.ref a1), .unset] [(.ref a1)])) (fun t k => XS.aloadN X0.here hx rfl (hb hby d5_0) rfl rfl k) ?_
  obtain ⟨T1, X1, e1, st1⟩ := getF X0 hx hZ hown (host := "") (Or.inl (w_18 hw)) Via.refl e0 F2 (g := (mkF m 1 #[.val (.ref a1), .unset] [(.ref a1)])) rfl rfl (hb hby d5_1)
  refine own_st (B := T1.setTop (mkF m 4 #[.val (.ref a1), .unset] [(.int p1)])) (fun t k => st1 t k) ?_
  refine own_st (B := T1.setTop (mkF m 5 #[.val (.ref a1), .val (.int p1)] [])) (fun t k => XS.istoreN X1.here hx rfl (hb hby d5_4) rfl (l' := #[.val (.ref a1), .val (.int p1)]) rfl k) ?_
  refine own_cut (P := ∀ (mu2 : Nat) (T2 : State) (lo2 : List Loc) (i : Int32), Stand p l e ({ frames := 0, cells := 0, slots := 0, locals := 0 } : Room) s m #[(.ref a1)] below meth c T2 lo2 0 0 → T2.heap = h0 → Fr n0 lo2 → mu2 = (bs.length - i.toInt.toNat) → (p1.toInt ≤ i.toInt ∧ i.toInt ≤ (bs.length : Int)) → (i.toInt + (own_run (bs.drop i.toInt.toNat) : Int) = p1.toInt + (own_run (bs.drop p1.toInt.toNat) : Int)) → own_Go p e below s (Q5 Z a1 b p1 bs h0 n0) ({ frames := 0, cells := 0, slots := 0, locals := 0 } : Room).cells ({ frames := 0, cells := 0, slots := 0, locals := 0 } : Room).slots (T2.setTop (mkF m 5 #[.val (.ref a1), .val (.int i)] []))) (fun J2 => ?_) ?_
  · exact J2 _ T1 _ p1 X1 e1 N0 rfl (show p1.toInt ≤ p1.toInt ∧ p1.toInt ≤ (bs.length : Int) by omega) (show p1.toInt + (own_run (bs.drop p1.toInt.toNat) : Int) = p1.toInt + (own_run (bs.drop p1.toInt.toNat) : Int) by rfl)
  intro mu2
  induction mu2 using Nat.strongRecOn with
  | ind mu2 ih2 =>
    intro T2 lo2 i X2 e2 N2 hmu2 hi hS
    refine own_st (B := T2.setTop (mkF m 6 #[.val (.ref a1), .val (.int i)] [(.int i)])) (fun t k => XS.iloadN X2.here hx rfl (hb hby d5_5) rfl k) ?_
    refine own_st (B := T2.setTop (mkF m 7 #[.val (.ref a1), .val (.int i)] [(.ref a1), (.int i)])) (fun t k => XS.aloadN X2.here hx rfl (hb hby d5_6) rfl rfl k) ?_
    obtain ⟨T3, X3, e3, st3⟩ := getF X2 hx hZ hown (host := "") (Or.inl (w_11 hw)) Via.refl e2 F1 (g := (mkF m 7 #[.val (.ref a1), .val (.int i)] [(.ref a1), (.int i)])) rfl rfl (hb hby d5_7)
    refine own_st (B := T3.setTop (mkF m 10 #[.val (.ref a1), .val (.int i)] [(.ref b), (.int i)])) (fun t k => st3 t k) ?_
    refine own_st (B := T3.setTop (mkF m 11 #[.val (.ref a1), .val (.int i)] [(.int (bs.length.toInt32)), (.int i)])) (fun t k => own_len X3 hx hZ e3 F3 (g := (mkF m 10 #[.val (.ref a1), .val (.int i)] [(.ref b), (.int i)])) (n := (bs.length.toInt32)) (by rw [List.length_map]; exact len_toInt (by omega)) rfl rfl (hb hby d5_10) k) ?_
    by_cases hc4 : i < (bs.length.toInt32)
    · refine own_st (B := T3.setTop (mkF m 14 #[.val (.ref a1), .val (.int i)] [])) (fun t k => XS.icmpNo X3.here hx rfl (hb hby d5_11) rfl (XT.ii_ge_f hc4) k) ?_
      refine own_st (B := T3.setTop (mkF m 15 #[.val (.ref a1), .val (.int i)] [(.ref a1)])) (fun t k => XS.aloadN X3.here hx rfl (hb hby d5_14) rfl rfl k) ?_
      obtain ⟨T5, X5, e5, st5⟩ := getF X3 hx hZ hown (host := "") (Or.inl (w_11 hw)) Via.refl e3 F1 (g := (mkF m 15 #[.val (.ref a1), .val (.int i)] [(.ref a1)])) rfl rfl (hb hby d5_15)
      refine own_st (B := T5.setTop (mkF m 18 #[.val (.ref a1), .val (.int i)] [(.ref b)])) (fun t k => st5 t k) ?_
      refine own_st (B := T5.setTop (mkF m 19 #[.val (.ref a1), .val (.int i)] [(.int i), (.ref b)])) (fun t k => XS.iloadN X5.here hx rfl (hb hby d5_18) rfl k) ?_
      refine own_st (B := T5.setTop (mkF m 20 #[.val (.ref a1), .val (.int i)] [(.int (bs.getD i.toInt.toNat 0))])) (fun t k => own_ldB X5 hx hZ e5 F3 (g := (mkF m 19 #[.val (.ref a1), .val (.int i)] [(.int i), (.ref b)])) (i := (i.toInt.toNat)) (own_nat (by omega)) (own_getI (show i.toInt.toNat < bs.length by have := (own_ltN hl).mp hc4; omega)) rfl rfl (hb hby d5_19) k) ?_
      by_cases hc6 : (0 : Int32) < (bs.getD i.toInt.toNat 0)
      · refine own_st (B := T5.setTop (mkF m 23 #[.val (.ref a1), .val (.int i)] [])) (fun t k => XS.ifNo X5.here hx rfl (hb hby d5_20) rfl (XT.i0_le_f hc6) k) ?_
        refine own_st (B := T5.setTop (mkF m 26 #[.val (.ref a1), .val (.int (i + (1 : Int32)))] [])) (fun t k => XS.iinc X5.here hx rfl (hb hby d5_23) rfl (l' := #[.val (.ref a1), .val (.int (i + (1 : Int32)))]) rfl k) ?_
        refine own_st (B := T5.setTop (mkF m 5 #[.val (.ref a1), .val (.int (i + (1 : Int32)))] [])) (fun t k => XS.goto X5.here hx rfl (pc0 := 26) (pc' := 5) rfl (hb hby d5_26) (by decide) (by decide) k) ?_
        exact ih2 _ (by have h1 := (own_ltN hl).mp hc4; have h2 := own_min1 (by omega) h1 hl; omega) T5 _ ((i + (1 : Int32))) X5 e5 N2 rfl (show p1.toInt ≤ (i + (1 : Int32)).toInt ∧ (i + (1 : Int32)).toInt ≤ (bs.length : Int) by have h1 := (own_ltN hl).mp hc4; have h2 := own_min1 (by omega) h1 hl; omega) (show (i + (1 : Int32)).toInt + (own_run (bs.drop (i + (1 : Int32)).toInt.toNat) : Int) = p1.toInt + (own_run (bs.drop p1.toInt.toNat) : Int) by have h1 := (own_ltN hl).mp hc4; have h2 := own_min1 (by omega) h1 hl; have h3 := own_cons (bs := bs) (i := i.toInt.toNat) (by omega); rw [if_pos (own_pos0.mp hc6)] at h3; rw [h2.1]; omega)
      · refine own_st (B := T5.setTop (mkF m 29 #[.val (.ref a1), .val (.int i)] [])) (fun t k => XS.ifYes X5.here hx rfl (pc0 := 20) (pc' := 29) rfl (hb hby d5_20) rfl (XT.i0_le_t hc6) (by decide) (by decide) k) ?_
        refine own_st (B := T5.setTop (mkF m 30 #[.val (.ref a1), .val (.int i)] [(.ref a1)])) (fun t k => XS.aloadN X5.here hx rfl (hb hby d5_29) rfl rfl k) ?_
        refine own_st (B := T5.setTop (mkF m 31 #[.val (.ref a1), .val (.int i)] [(.int i), (.ref a1)])) (fun t k => XS.iloadN X5.here hx rfl (hb hby d5_30) rfl k) ?_
        obtain ⟨T7, h7, X7, e7, W7, st7⟩ := putF X5 hx hZ hown (host := "") (Or.inl (w_18 hw)) Via.refl e5 F2 F0 (Or.inl (w_19 hw)) (w_3 hw) (ty := .int) (by decide) rfl rfl (g := (mkF m 31 #[.val (.ref a1), .val (.int i)] [(.int i), (.ref a1)])) rfl rfl (hb hby d5_31)
        have f7_ : Fld Z h7 a1 "com/example/libentkey/libentkey/codec/KeyReader" "position" "I" (.int i) := F2.same W7
        have z8 : n0 ≤ h7.size := Nat.le_trans Z0 (Keep.of_wr W7).1
        have kp8 : Keep h0 h7 [a1] := (Keep.refl h0 [a1]).wr W7 (Or.inl (List.mem_of_getElem? (i := 0) rfl))
        have n9 := Fr.snoc X7 N2 ga
        refine own_st (B := T7.setTop (mkF m 34 #[.val (.ref a1), .val (.int i)] [])) (fun t k => st7 t k) ?_
        refine own_retV X7 hx hlk Bd.returns (hb hby d5_34) (by decide) (by decide) ?_
        show Q5 Z a1 b p1 bs h0 n0 _ T7.heap _
        rw [e7]
        have f10 : Exa Z h7 a1 "com/example/libentkey/libentkey/codec/KeyReader" := (F0.wr W7)
        have f11 : Fld Z h7 a1 "com/example/libentkey/libentkey/codec/KeyReader" "key" "[B" (.ref b) := (F1.other W7 (Or.inr (slot_ne (Or.inr (w_12 hw)) (Or.inl (w_19 hw)) (by decide) (t := (.array .byte)) (t' := .int) (by decide) (by decide))))
        exact ⟨i, rfl, n9, kp8, f10, f11, f7_, (show i.toInt = p1.toInt + (own_run (bs.drop p1.toInt.toNat) : Int) by have h1 := (own_ltN hl).mp hc4; have h3 := own_cons (bs := bs) (i := i.toInt.toNat) (by omega); rw [if_neg (fun q => hc6 (own_pos0.mpr q))] at h3; rw [← hS, h3]; show i.toInt = i.toInt + ((0 : Nat) : Int); omega)⟩
    · refine own_st (B := T3.setTop (mkF m 29 #[.val (.ref a1), .val (.int i)] [])) (fun t k => XS.icmpYes X3.here hx rfl (pc0 := 11) (pc' := 29) rfl (hb hby d5_11) rfl (XT.ii_ge_t hc4) (by decide) (by decide) k) ?_
      refine own_st (B := T3.setTop (mkF m 30 #[.val (.ref a1), .val (.int i)] [(.ref a1)])) (fun t k => XS.aloadN X3.here hx rfl (hb hby d5_29) rfl rfl k) ?_
      refine own_st (B := T3.setTop (mkF m 31 #[.val (.ref a1), .val (.int i)] [(.int i), (.ref a1)])) (fun t k => XS.iloadN X3.here hx rfl (hb hby d5_30) rfl k) ?_
      obtain ⟨T12, h12, X12, e12, W12, st12⟩ := putF X3 hx hZ hown (host := "") (Or.inl (w_18 hw)) Via.refl e3 F2 F0 (Or.inl (w_19 hw)) (w_3 hw) (ty := .int) (by decide) rfl rfl (g := (mkF m 31 #[.val (.ref a1), .val (.int i)] [(.int i), (.ref a1)])) rfl rfl (hb hby d5_31)
      have f12_ : Fld Z h12 a1 "com/example/libentkey/libentkey/codec/KeyReader" "position" "I" (.int i) := F2.same W12
      have z13 : n0 ≤ h12.size := Nat.le_trans Z0 (Keep.of_wr W12).1
      have kp13 : Keep h0 h12 [a1] := (Keep.refl h0 [a1]).wr W12 (Or.inl (List.mem_of_getElem? (i := 0) rfl))
      have n14 := Fr.snoc X12 N2 ga
      refine own_st (B := T12.setTop (mkF m 34 #[.val (.ref a1), .val (.int i)] [])) (fun t k => st12 t k) ?_
      refine own_retV X12 hx hlk Bd.returns (hb hby d5_34) (by decide) (by decide) ?_
      show Q5 Z a1 b p1 bs h0 n0 _ T12.heap _
      rw [e12]
      have f15 : Exa Z h12 a1 "com/example/libentkey/libentkey/codec/KeyReader" := (F0.wr W12)
      have f16 : Fld Z h12 a1 "com/example/libentkey/libentkey/codec/KeyReader" "key" "[B" (.ref b) := (F1.other W12 (Or.inr (slot_ne (Or.inr (w_12 hw)) (Or.inl (w_19 hw)) (by decide) (t := (.array .byte)) (t' := .int) (by decide) (by decide))))
      exact ⟨i, rfl, n14, kp13, f15, f16, f12_, (show i.toInt = p1.toInt + (own_run (bs.drop p1.toInt.toNat) : Int) by have h1 : ¬ (i.toInt < (bs.length : Int)) := fun q => hc4 ((own_ltN hl).mpr q); rw [← hS, List.drop_of_length_le (by omega)]; show i.toInt = i.toInt + ((0 : Nat) : Int); omega)⟩
theorem d6_0 : decode prog_22_method_3_code 0 = .ok (.aload_n 0, 1) := by decide +kernel
theorem d6_1 : decode prog_22_method_3_code 1 = .ok (.getfield 13, 3) := by decide +kernel
theorem d6_4 : decode prog_22_method_3_code 4 = .ok (.ireturn, 1) := by decide +kernel
theorem ef_6 (m : MethodId) (x0 : Addr) : entryFrame m #[(.ref x0)] 1 = mkF m 0 #[.val (.ref x0)] [] := by first | (simp [entryFrame, mkF, argsToLocals, Value.category]; done) | rfl
def Q6 (Z : State) (a1 : Addr) (p1 : Int32) (h0 : Heap) (n0 : Nat) (v : Option Value) (h : Heap) (L : List Loc) : Prop := v = some (.int p1) ∧ Fr n0 L ∧ h = h0
set_option maxHeartbeats 40000000 in
theorem rm6 (l : Launch) (Z : State) (a0 : Array Value) (hw : ∀ d ∈ tables_1, d.before a0 Z = true) (ws : List Jvm.Cond) (a1 : Addr) (p1 : Int32) (h0 : Heap) (n0 : Nat) (Z0 : n0 ≤ h0.size) (F0 : Fld Z h0 a1 "com/example/libentkey/libentkey/codec/KeyReader" "position" "I" (.int p1)) :
    MetFree l (⟨"com/example/libentkey/libentkey/codec/KeyReader", "position", "()I"⟩ : MethodName) (head1 (Jvm.Cond.code (⟨"com/example/libentkey/libentkey/codec/KeyReader", "position", "()I"⟩ : MethodName) prog_22_method_3_code 1 (some .int) :: ws) ({ frames := 0, cells := 0, slots := 0, locals := 0 } : Room)) (fun a U => a = #[(.ref a1)] ∧ Z.Warmed39 U.vm ∧ U.heap = h0) (fun _ _ _ _ _ => True) (fun _ U o U' => ∃ v L, o = .returned v ∧ Q6 Z a1 p1 h0 n0 v U'.heap L ∧ FrameEnd U o U' L ({ frames := 0, cells := 0, slots := 0, locals := 0 } : Room).cells ({ frames := 0, cells := 0, slots := 0, locals := 0 } : Room).slots) := by
  refine MetFree.of_bodySF (plainFor_of_name own_pn1) hisR ?_
  intro p e s m args below meth c s₁ Bd hml0 hP hK
  obtain ⟨rfl, hZ, hh⟩ := hP
  have hx := Bd.exec
  have hby := Bd.bytes
  have hml : c.maxLocals = 1 := hml0
  have hlk : meth.locks = false := BodyLoose.notSynchronized Bd
  have hown : s.vm.findClass "com/example/libentkey/libentkey/codec/KeyReader" = some m.cls := findClass_of_methodNamed Bd.named
  have hnm := (name_of_methodNamed Bd.named Bd.method).1
  have X0 : Stand p l e ({ frames := 0, cells := 0, slots := 0, locals := 0 } : Room) s m #[(.ref a1)] below meth c s₁ [] 0 0 := Stand.of_body Bd
  have e0 : s₁.heap = h0 := by rw [← hh, Bd.state]; rfl
  have N0 := Fr.nil n0
  show own_Go p e below s (Q6 Z a1 p1 h0 n0) ({ frames := 0, cells := 0, slots := 0, locals := 0 } : Room).cells ({ frames := 0, cells := 0, slots := 0, locals := 0 } : Room).slots _
  refine own_st (B := s₁.setTop (mkF m 0 #[.val (.ref a1)] [])) (fun t k => castTop (ef_6 m (a1)) k) ?_
  refine own_st (B := s₁.setTop (mkF m 1 #[.val (.ref a1)] [(.ref a1)])) (fun t k => XS.aloadN X0.here hx rfl (hb hby d6_0) rfl rfl k) ?_
  obtain ⟨T1, X1, e1, st1⟩ := getF X0 hx hZ hown (host := "") (Or.inl (w_18 hw)) Via.refl e0 F0 (g := (mkF m 1 #[.val (.ref a1)] [(.ref a1)])) rfl rfl (hb hby d6_1)
  refine own_st (B := T1.setTop (mkF m 4 #[.val (.ref a1)] [(.int p1)])) (fun t k => st1 t k) ?_
  refine own_retI X1 hx hlk Bd.returns (hb hby d6_4) (by decide) (by decide) ?_
  show Q6 Z a1 p1 h0 n0 _ T1.heap _
  rw [e1]
  exact ⟨rfl, N0, rfl⟩
theorem own_six (x : Int32) : (x &&& 2147483647) % 6 = 0 ∨ (x &&& 2147483647) % 6 = 1 ∨ (x &&& 2147483647) % 6 = 2 ∨ (x &&& 2147483647) % 6 = 3 ∨ (x &&& 2147483647) % 6 = 4 ∨ (x &&& 2147483647) % 6 = 5 := by
  have h1 := c_mask x 2147483647 31 (by decide) (by decide)
  have h2 := c_irem (x &&& 2147483647) 6 6 rfl
  have k0 : (0 : Int32).toInt = 0 := rfl
  have k1 : (1 : Int32).toInt = 1 := rfl
  have k2 : (2 : Int32).toInt = 2 := rfl
  have k3 : (3 : Int32).toInt = 3 := rfl
  have k4 : (4 : Int32).toInt = 4 := rfl
  have k5 : (5 : Int32).toInt = 5 := rfl
  simp only [← Int32.toInt_inj]
  omega
theorem own_b88 (x : Int32) : x.toInt8.toInt32.toInt8.toInt32 = x.toInt8.toInt32 := by simp
theorem own_asc {z x : Int32} (hz : z = x.toInt8.toInt32) : own_f4 z = 0 ↔ ¬ (0 < (z.toInt8.toInt32).toInt) := by
  have h0 : z.toInt8.toInt32 = z := by rw [hz, own_b88]
  have h1 := c_i2b x
  rw [← hz] at h1
  have h2 := c_mask z 255 8 (by decide) (by decide)
  have k1 : (1 : Int32).toInt = 1 := rfl
  have k2 : (127 : Int32).toInt = 127 := rfl
  have k0 : (0 : Int32).toInt = 0 := rfl
  rw [h0]
  unfold own_f4
  simp only [Int32.lt_iff_toInt_lt, h2, k1, k2]
  by_cases a : z.toInt % ((2 ^ 8 : Nat) : Int) < 1
  · rw [if_pos a]; simp only [true_iff]; omega
  · rw [if_neg a]
    by_cases b : 127 < z.toInt % ((2 ^ 8 : Nat) : Int)
    · rw [if_pos b]; simp only [true_iff]; omega
    · rw [if_neg b]; simp only [← Int32.toInt_inj, k1, k0]; omega
theorem own_rs {k : Nat} {z x r r' K : Int32} {bs : List Int32} (hz : z = x.toInt8.toInt32) (hK : K.toInt = (k : Int)) (h : r.toInt = ((k + 1 : Nat) : Int) + (own_run bs : Int)) (e : r' = if own_f4 z = 0 then K else r) : r'.toInt = (k : Int) + (own_run (z.toInt8.toInt32 :: bs) : Int) := by
  show r'.toInt = (k : Int) + ((if 0 < (z.toInt8.toInt32).toInt then own_run bs + 1 else 0 : Nat) : Int)
  by_cases a : own_f4 z = 0
  · rw [e, if_pos a, if_neg ((own_asc hz).mp a), hK]; omega
  · have b : 0 < (z.toInt8.toInt32).toInt := by
      by_cases c : 0 < (z.toInt8.toInt32).toInt
      · exact c
      · exact absurd ((own_asc hz).mpr c) a
    rw [e, if_neg a, if_pos b]; omega
theorem own_run_le : ∀ xs : List Int32, own_run xs ≤ xs.length
  | [] => Nat.le_refl _
  | x :: xs => by
    show (if 0 < x.toInt then own_run xs + 1 else 0) ≤ xs.length + 1
    have := own_run_le xs
    split <;> omega
theorem own_bnd_0 {a b c d e q : Int32} (h : q.toInt = (0 : Int32).toInt + (own_run (([a, b, c, d, e] : List Int32).drop (0 : Int32).toInt.toNat) : Int)) : 0 ≤ q.toInt ∧ q.toInt ≤ 5 := by
  have h1 := own_run_le (([a, b, c, d, e] : List Int32).drop 0)
  have h2 : (0 : Int32).toInt = 0 := by decide
  rw [h2] at h
  have h3 : (([a, b, c, d, e] : List Int32).drop 0).length = 5 := rfl
  have h4 : (0 : Int).toNat = 0 := rfl
  rw [h4] at h
  omega
theorem own_bnd_1 {a b c d e q : Int32} (h : q.toInt = ((0 : Int32) + (1 : Int32)).toInt + (own_run (([a, b, c, d, e] : List Int32).drop ((0 : Int32) + (1 : Int32)).toInt.toNat) : Int)) : 0 ≤ q.toInt ∧ q.toInt ≤ 5 := by
  have h1 := own_run_le (([a, b, c, d, e] : List Int32).drop 1)
  have h2 : ((0 : Int32) + (1 : Int32)).toInt = 1 := by decide
  rw [h2] at h
  have h3 : (([a, b, c, d, e] : List Int32).drop 1).length = 4 := rfl
  have h4 : (1 : Int).toNat = 1 := rfl
  rw [h4] at h
  omega
theorem own_bnd_2 {a b c d e q : Int32} (h : q.toInt = (((0 : Int32) + (1 : Int32)) + (1 : Int32)).toInt + (own_run (([a, b, c, d, e] : List Int32).drop (((0 : Int32) + (1 : Int32)) + (1 : Int32)).toInt.toNat) : Int)) : 0 ≤ q.toInt ∧ q.toInt ≤ 5 := by
  have h1 := own_run_le (([a, b, c, d, e] : List Int32).drop 2)
  have h2 : (((0 : Int32) + (1 : Int32)) + (1 : Int32)).toInt = 2 := by decide
  rw [h2] at h
  have h3 : (([a, b, c, d, e] : List Int32).drop 2).length = 3 := rfl
  have h4 : (2 : Int).toNat = 2 := rfl
  rw [h4] at h
  omega
theorem own_bnd_3 {a b c d e q : Int32} (h : q.toInt = ((((0 : Int32) + (1 : Int32)) + (1 : Int32)) + (1 : Int32)).toInt + (own_run (([a, b, c, d, e] : List Int32).drop ((((0 : Int32) + (1 : Int32)) + (1 : Int32)) + (1 : Int32)).toInt.toNat) : Int)) : 0 ≤ q.toInt ∧ q.toInt ≤ 5 := by
  have h1 := own_run_le (([a, b, c, d, e] : List Int32).drop 3)
  have h2 : ((((0 : Int32) + (1 : Int32)) + (1 : Int32)) + (1 : Int32)).toInt = 3 := by decide
  rw [h2] at h
  have h3 : (([a, b, c, d, e] : List Int32).drop 3).length = 2 := rfl
  have h4 : (3 : Int).toNat = 3 := rfl
  rw [h4] at h
  omega
theorem own_bnd_4 {a b c d e q : Int32} (h : q.toInt = (((((0 : Int32) + (1 : Int32)) + (1 : Int32)) + (1 : Int32)) + (1 : Int32)).toInt + (own_run (([a, b, c, d, e] : List Int32).drop (((((0 : Int32) + (1 : Int32)) + (1 : Int32)) + (1 : Int32)) + (1 : Int32)).toInt.toNat) : Int)) : 0 ≤ q.toInt ∧ q.toInt ≤ 5 := by
  have h1 := own_run_le (([a, b, c, d, e] : List Int32).drop 4)
  have h2 : (((((0 : Int32) + (1 : Int32)) + (1 : Int32)) + (1 : Int32)) + (1 : Int32)).toInt = 4 := by decide
  rw [h2] at h
  have h3 : (([a, b, c, d, e] : List Int32).drop 4).length = 1 := rfl
  have h4 : (4 : Int).toNat = 4 := rfl
  rw [h4] at h
  omega
theorem own_bnd_5 {a b c d e q : Int32} (h : q.toInt = ((((((0 : Int32) + (1 : Int32)) + (1 : Int32)) + (1 : Int32)) + (1 : Int32)) + (1 : Int32)).toInt + (own_run (([a, b, c, d, e] : List Int32).drop ((((((0 : Int32) + (1 : Int32)) + (1 : Int32)) + (1 : Int32)) + (1 : Int32)) + (1 : Int32)).toInt.toNat) : Int)) : 0 ≤ q.toInt ∧ q.toInt ≤ 5 := by
  have h1 := own_run_le (([a, b, c, d, e] : List Int32).drop 5)
  have h2 : ((((((0 : Int32) + (1 : Int32)) + (1 : Int32)) + (1 : Int32)) + (1 : Int32)) + (1 : Int32)).toInt = 5 := by decide
  rw [h2] at h
  have h3 : (([a, b, c, d, e] : List Int32).drop 5).length = 0 := rfl
  have h4 : (5 : Int).toNat = 5 := rfl
  rw [h4] at h
  omega
theorem own_nat_0 {bs : List Int32} {q : Int32} (h : q.toInt = (0 : Int32).toInt + (own_run (bs.drop (0 : Int32).toInt.toNat) : Int)) : q.toInt.toNat = 0 + own_run (bs.drop 0) := by
  have h2 : (0 : Int32).toInt = 0 := by decide
  rw [h2] at h
  have h4 : (0 : Int).toNat = 0 := rfl
  rw [h4] at h
  omega
theorem own_nat_1 {bs : List Int32} {q : Int32} (h : q.toInt = ((0 : Int32) + (1 : Int32)).toInt + (own_run (bs.drop ((0 : Int32) + (1 : Int32)).toInt.toNat) : Int)) : q.toInt.toNat = 1 + own_run (bs.drop 1) := by
  have h2 : ((0 : Int32) + (1 : Int32)).toInt = 1 := by decide
  rw [h2] at h
  have h4 : (1 : Int).toNat = 1 := rfl
  rw [h4] at h
  omega
theorem own_nat_2 {bs : List Int32} {q : Int32} (h : q.toInt = (((0 : Int32) + (1 : Int32)) + (1 : Int32)).toInt + (own_run (bs.drop (((0 : Int32) + (1 : Int32)) + (1 : Int32)).toInt.toNat) : Int)) : q.toInt.toNat = 2 + own_run (bs.drop 2) := by
  have h2 : (((0 : Int32) + (1 : Int32)) + (1 : Int32)).toInt = 2 := by decide
  rw [h2] at h
  have h4 : (2 : Int).toNat = 2 := rfl
  rw [h4] at h
  omega
theorem own_nat_3 {bs : List Int32} {q : Int32} (h : q.toInt = ((((0 : Int32) + (1 : Int32)) + (1 : Int32)) + (1 : Int32)).toInt + (own_run (bs.drop ((((0 : Int32) + (1 : Int32)) + (1 : Int32)) + (1 : Int32)).toInt.toNat) : Int)) : q.toInt.toNat = 3 + own_run (bs.drop 3) := by
  have h2 : ((((0 : Int32) + (1 : Int32)) + (1 : Int32)) + (1 : Int32)).toInt = 3 := by decide
  rw [h2] at h
  have h4 : (3 : Int).toNat = 3 := rfl
  rw [h4] at h
  omega
theorem own_nat_4 {bs : List Int32} {q : Int32} (h : q.toInt = (((((0 : Int32) + (1 : Int32)) + (1 : Int32)) + (1 : Int32)) + (1 : Int32)).toInt + (own_run (bs.drop (((((0 : Int32) + (1 : Int32)) + (1 : Int32)) + (1 : Int32)) + (1 : Int32)).toInt.toNat) : Int)) : q.toInt.toNat = 4 + own_run (bs.drop 4) := by
  have h2 : (((((0 : Int32) + (1 : Int32)) + (1 : Int32)) + (1 : Int32)) + (1 : Int32)).toInt = 4 := by decide
  rw [h2] at h
  have h4 : (4 : Int).toNat = 4 := rfl
  rw [h4] at h
  omega
theorem own_nat_5 {bs : List Int32} {q : Int32} (h : q.toInt = ((((((0 : Int32) + (1 : Int32)) + (1 : Int32)) + (1 : Int32)) + (1 : Int32)) + (1 : Int32)).toInt + (own_run (bs.drop ((((((0 : Int32) + (1 : Int32)) + (1 : Int32)) + (1 : Int32)) + (1 : Int32)) + (1 : Int32)).toInt.toNat) : Int)) : q.toInt.toNat = 5 + own_run (bs.drop 5) := by
  have h2 : ((((((0 : Int32) + (1 : Int32)) + (1 : Int32)) + (1 : Int32)) + (1 : Int32)) + (1 : Int32)).toInt = 5 := by decide
  rw [h2] at h
  have h4 : (5 : Int).toNat = 5 := rfl
  rw [h4] at h
  omega
theorem own_pd2 : parseMethodDescriptor "([B)V" = some ⟨[(.array .byte)], none⟩ := by decide +kernel
theorem own_pd3 : parseMethodDescriptor "(B)Z" = some ⟨[.byte], some .boolean⟩ := by decide +kernel
theorem own_pd4 : parseMethodDescriptor "()V" = some ⟨[], none⟩ := by decide +kernel
theorem own_pd5 : parseMethodDescriptor "()I" = some ⟨[], some .int⟩ := by decide +kernel
theorem ef_0 (m : MethodId) (x0 : Int32) (x1 : Int32) (x2 : Int32) : entryFrame m #[(.int x0), (.int x1), (.int x2)] maxLocals = mkF m 0 #[.val (.int x0), .val (.int x1), .val (.int x2), .unset, .unset, .unset, .unset, .unset, .unset, .unset, .unset, .unset, .unset, .unset] [] := by first | (simp [entryFrame, mkF, argsToLocals, Value.category, maxLocals]; done) | rfl
def Q0 (Z : State) (arg0 : Int32) (arg1 : Int32) (arg2 : Int32) (h0 : Heap) (n0 : Nat) (v : Option Value) (h : Heap) (L : List Loc) : Prop := v = some (.int 1) ∧ Fr n0 L
set_option maxHeartbeats 40000000 in
theorem rm0 (l : Launch) (Z : State) (a0 : Array Value) (hw : ∀ d ∈ tables_1, d.before a0 Z = true) (ws : List Jvm.Cond) (arg0 : Int32) (arg1 : Int32) (arg2 : Int32) (h0 : Heap) (n0 : Nat) (Z0 : n0 ≤ h0.size) :
    MetFree l x (head1 (Jvm.Cond.code x code maxLocals ret :: ws) room_1) (fun a U => a = #[(.int arg0), (.int arg1), (.int arg2)] ∧ Z.Warmed39 U.vm ∧ U.heap = h0) (fun _ _ _ _ _ => True) (fun _ U o U' => ∃ v L, o = .returned v ∧ Q0 Z arg0 arg1 arg2 h0 n0 v U'.heap L ∧ FrameEnd U o U' L 16 128) := by
  refine MetFree.of_bodySF (plainFor_of_name own_pn2) hisR ?_
  intro p e s m args below meth c s₁ Bd hml0 hP hK
  obtain ⟨rfl, hZ, hh⟩ := hP
  have hx := Bd.exec
  have hby := Bd.bytes
  have hml : c.maxLocals = 14 := hml0
  have hlk : meth.locks = false := BodyLoose.notSynchronized Bd
  have hown : s.vm.findClass "com/example/libentkey/libentkey/codec/KeyReaderSkipAsciiPinLaw" = some m.cls := findClass_of_methodNamed Bd.named
  have hnm := (name_of_methodNamed Bd.named Bd.method).1
  have X0 : Stand p l e room_1 s m #[(.int arg0), (.int arg1), (.int arg2)] below meth c s₁ [] 0 0 := Stand.of_body Bd
  have e0 : s₁.heap = h0 := by rw [← hh, Bd.state]; rfl
  have N0 := Fr.nil n0
  show own_Go p e below s (Q0 Z arg0 arg1 arg2 h0 n0) 16 128 _
  refine own_st (B := s₁.setTop (mkF m 0 #[.val (.int arg0), .val (.int arg1), .val (.int arg2), .unset, .unset, .unset, .unset, .unset, .unset, .unset, .unset, .unset, .unset, .unset] [])) (fun t k => castTop (ef_0 m (arg0) (arg1) (arg2)) k) ?_
  refine own_st (B := s₁.setTop (mkF m 1 #[.val (.int arg0), .val (.int arg1), .val (.int arg2), .unset, .unset, .unset, .unset, .unset, .unset, .unset, .unset, .unset, .unset, .unset] [(.int arg0)])) (fun t k => XS.iloadN X0.here hx rfl (hb hby at_0) rfl k) ?_
  refine own_st (B := s₁.setTop (mkF m 2 #[.val (.int arg0), .val (.int arg1), .val (.int arg2), .unset, .unset, .unset, .unset, .unset, .unset, .unset, .unset, .unset, .unset, .unset] [(.int (arg0.toInt8.toInt32))])) (fun t k => XS.i2b X0.here hx rfl (hb hby at_1) rfl k) ?_
  obtain ⟨v1, ev1⟩ : ∃ z : Int32, z = (arg0.toInt8.toInt32) := ⟨_, rfl⟩
  rw [← ev1]
  refine own_st (B := s₁.setTop (mkF m 3 #[.val (.int arg0), .val (.int arg1), .val (.int arg2), .val (.int v1), .unset, .unset, .unset, .unset, .unset, .unset, .unset, .unset, .unset, .unset] [])) (fun t k => XS.istoreN X0.here hx rfl (hb hby at_2) rfl (l' := #[.val (.int arg0), .val (.int arg1), .val (.int arg2), .val (.int v1), .unset, .unset, .unset, .unset, .unset, .unset, .unset, .unset, .unset, .unset]) rfl k) ?_
  refine own_st (B := s₁.setTop (mkF m 4 #[.val (.int arg0), .val (.int arg1), .val (.int arg2), .val (.int v1), .unset, .unset, .unset, .unset, .unset, .unset, .unset, .unset, .unset, .unset] [(.int arg0)])) (fun t k => XS.iloadN X0.here hx rfl (hb hby at_3) rfl k) ?_
  refine own_st (B := s₁.setTop (mkF m 6 #[.val (.int arg0), .val (.int arg1), .val (.int arg2), .val (.int v1), .unset, .unset, .unset, .unset, .unset, .unset, .unset, .unset, .unset, .unset] [(.int (8 : Int32)), (.int arg0)])) (fun t k => XS.bipush X0.here hx rfl (hb hby at_4) k) ?_
  refine own_st (B := s₁.setTop (mkF m 7 #[.val (.int arg0), .val (.int arg1), .val (.int arg2), .val (.int v1), .unset, .unset, .unset, .unset, .unset, .unset, .unset, .unset, .unset, .unset] [(.int (arg0 >>> ((8 : Int32) &&& 31)))])) (fun t k => XS.ishr X0.here hx rfl (hb hby at_6) rfl k) ?_
  refine own_st (B := s₁.setTop (mkF m 8 #[.val (.int arg0), .val (.int arg1), .val (.int arg2), .val (.int v1), .unset, .unset, .unset, .unset, .unset, .unset, .unset, .unset, .unset, .unset] [(.int ((arg0 >>> ((8 : Int32) &&& 31)).toInt8.toInt32))])) (fun t k => XS.i2b X0.here hx rfl (hb hby at_7) rfl k) ?_
  obtain ⟨v2, ev2⟩ : ∃ z : Int32, z = ((arg0 >>> ((8 : Int32) &&& 31)).toInt8.toInt32) := ⟨_, rfl⟩
  rw [← ev2]
  refine own_st (B := s₁.setTop (mkF m 10 #[.val (.int arg0), .val (.int arg1), .val (.int arg2), .val (.int v1), .val (.int v2), .unset, .unset, .unset, .unset, .unset, .unset, .unset, .unset, .unset] [])) (fun t k => XS.istore X0.here hx rfl (hb hby at_8) rfl (l' := #[.val (.int arg0), .val (.int arg1), .val (.int arg2), .val (.int v1), .val (.int v2), .unset, .unset, .unset, .unset, .unset, .unset, .unset, .unset, .unset]) rfl k) ?_
  refine own_st (B := s₁.setTop (mkF m 11 #[.val (.int arg0), .val (.int arg1), .val (.int arg2), .val (.int v1), .val (.int v2), .unset, .unset, .unset, .unset, .unset, .unset, .unset, .unset, .unset] [(.int arg0)])) (fun t k => XS.iloadN X0.here hx rfl (hb hby at_10) rfl k) ?_
  refine own_st (B := s₁.setTop (mkF m 13 #[.val (.int arg0), .val (.int arg1), .val (.int arg2), .val (.int v1), .val (.int v2), .unset, .unset, .unset, .unset, .unset, .unset, .unset, .unset, .unset] [(.int (16 : Int32)), (.int arg0)])) (fun t k => XS.bipush X0.here hx rfl (hb hby at_11) k) ?_
  refine own_st (B := s₁.setTop (mkF m 14 #[.val (.int arg0), .val (.int arg1), .val (.int arg2), .val (.int v1), .val (.int v2), .unset, .unset, .unset, .unset, .unset, .unset, .unset, .unset, .unset] [(.int (arg0 >>> ((16 : Int32) &&& 31)))])) (fun t k => XS.ishr X0.here hx rfl (hb hby at_13) rfl k) ?_
  refine own_st (B := s₁.setTop (mkF m 15 #[.val (.int arg0), .val (.int arg1), .val (.int arg2), .val (.int v1), .val (.int v2), .unset, .unset, .unset, .unset, .unset, .unset, .unset, .unset, .unset] [(.int ((arg0 >>> ((16 : Int32) &&& 31)).toInt8.toInt32))])) (fun t k => XS.i2b X0.here hx rfl (hb hby at_14) rfl k) ?_
  obtain ⟨v3, ev3⟩ : ∃ z : Int32, z = ((arg0 >>> ((16 : Int32) &&& 31)).toInt8.toInt32) := ⟨_, rfl⟩
  rw [← ev3]
  refine own_st (B := s₁.setTop (mkF m 17 #[.val (.int arg0), .val (.int arg1), .val (.int arg2), .val (.int v1), .val (.int v2), .val (.int v3), .unset, .unset, .unset, .unset, .unset, .unset, .unset, .unset] [])) (fun t k => XS.istore X0.here hx rfl (hb hby at_15) rfl (l' := #[.val (.int arg0), .val (.int arg1), .val (.int arg2), .val (.int v1), .val (.int v2), .val (.int v3), .unset, .unset, .unset, .unset, .unset, .unset, .unset, .unset]) rfl k) ?_
  refine own_st (B := s₁.setTop (mkF m 18 #[.val (.int arg0), .val (.int arg1), .val (.int arg2), .val (.int v1), .val (.int v2), .val (.int v3), .unset, .unset, .unset, .unset, .unset, .unset, .unset, .unset] [(.int arg0)])) (fun t k => XS.iloadN X0.here hx rfl (hb hby at_17) rfl k) ?_
  refine own_st (B := s₁.setTop (mkF m 20 #[.val (.int arg0), .val (.int arg1), .val (.int arg2), .val (.int v1), .val (.int v2), .val (.int v3), .unset, .unset, .unset, .unset, .unset, .unset, .unset, .unset] [(.int (24 : Int32)), (.int arg0)])) (fun t k => XS.bipush X0.here hx rfl (hb hby at_18) k) ?_
  refine own_st (B := s₁.setTop (mkF m 21 #[.val (.int arg0), .val (.int arg1), .val (.int arg2), .val (.int v1), .val (.int v2), .val (.int v3), .unset, .unset, .unset, .unset, .unset, .unset, .unset, .unset] [(.int (arg0 >>> ((24 : Int32) &&& 31)))])) (fun t k => XS.ishr X0.here hx rfl (hb hby at_20) rfl k) ?_
  refine own_st (B := s₁.setTop (mkF m 22 #[.val (.int arg0), .val (.int arg1), .val (.int arg2), .val (.int v1), .val (.int v2), .val (.int v3), .unset, .unset, .unset, .unset, .unset, .unset, .unset, .unset] [(.int ((arg0 >>> ((24 : Int32) &&& 31)).toInt8.toInt32))])) (fun t k => XS.i2b X0.here hx rfl (hb hby at_21) rfl k) ?_
  obtain ⟨v4, ev4⟩ : ∃ z : Int32, z = ((arg0 >>> ((24 : Int32) &&& 31)).toInt8.toInt32) := ⟨_, rfl⟩
  rw [← ev4]
  refine own_st (B := s₁.setTop (mkF m 24 #[.val (.int arg0), .val (.int arg1), .val (.int arg2), .val (.int v1), .val (.int v2), .val (.int v3), .val (.int v4), .unset, .unset, .unset, .unset, .unset, .unset, .unset] [])) (fun t k => XS.istore X0.here hx rfl (hb hby at_22) rfl (l' := #[.val (.int arg0), .val (.int arg1), .val (.int arg2), .val (.int v1), .val (.int v2), .val (.int v3), .val (.int v4), .unset, .unset, .unset, .unset, .unset, .unset, .unset]) rfl k) ?_
  refine own_st (B := s₁.setTop (mkF m 25 #[.val (.int arg0), .val (.int arg1), .val (.int arg2), .val (.int v1), .val (.int v2), .val (.int v3), .val (.int v4), .unset, .unset, .unset, .unset, .unset, .unset, .unset] [(.int arg1)])) (fun t k => XS.iloadN X0.here hx rfl (hb hby at_24) rfl k) ?_
  refine own_st (B := s₁.setTop (mkF m 26 #[.val (.int arg0), .val (.int arg1), .val (.int arg2), .val (.int v1), .val (.int v2), .val (.int v3), .val (.int v4), .unset, .unset, .unset, .unset, .unset, .unset, .unset] [(.int (arg1.toInt8.toInt32))])) (fun t k => XS.i2b X0.here hx rfl (hb hby at_25) rfl k) ?_
  obtain ⟨v5, ev5⟩ : ∃ z : Int32, z = (arg1.toInt8.toInt32) := ⟨_, rfl⟩
  rw [← ev5]
  refine own_st (B := s₁.setTop (mkF m 28 #[.val (.int arg0), .val (.int arg1), .val (.int arg2), .val (.int v1), .val (.int v2), .val (.int v3), .val (.int v4), .val (.int v5), .unset, .unset, .unset, .unset, .unset, .unset] [])) (fun t k => XS.istore X0.here hx rfl (hb hby at_26) rfl (l' := #[.val (.int arg0), .val (.int arg1), .val (.int arg2), .val (.int v1), .val (.int v2), .val (.int v3), .val (.int v4), .val (.int v5), .unset, .unset, .unset, .unset, .unset, .unset]) rfl k) ?_
  refine own_st (B := s₁.setTop (mkF m 29 #[.val (.int arg0), .val (.int arg1), .val (.int arg2), .val (.int v1), .val (.int v2), .val (.int v3), .val (.int v4), .val (.int v5), .unset, .unset, .unset, .unset, .unset, .unset] [(.int (5 : Int32))])) (fun t k => XS.iconst X0.here hx rfl (hb hby at_28) k) ?_
  obtain ⟨T6, h6, X6, e6, E6, A6, x6, st6⟩ := own_newP X0 hx hZ (aty := .byte) (w_0 hw) e0 (g := (mkF m 29 #[.val (.int arg0), .val (.int arg1), .val (.int arg2), .val (.int v1), .val (.int v2), .val (.int v3), .val (.int v4), .val (.int v5), .unset, .unset, .unset, .unset, .unset, .unset] [(.int (5 : Int32))])) rfl (hb hby at_29) (n := (5 : Int32)) (rest := []) rfl (k := 5) (cap := 5) (by decide) (Nat.le_refl _) (by decide) (by decide) (by decide) (ad := "[B") rfl
  obtain ⟨b6, g6⟩ : ∃ z, z = h0.size := ⟨_, rfl⟩
  rw [← g6] at A6 x6 st6
  have u6 : n0 ≤ b6 := Nat.le_trans Z0 (Nat.le_of_eq g6.symm)
  have z7 : n0 ≤ h6.size := Nat.le_trans Z0 E6.1
  have f6_ : own_A Z h6 b6 .byte [(.int (0 : Int32)), (.int (0 : Int32)), (.int (0 : Int32)), (.int (0 : Int32)), (.int (0 : Int32))] := A6
  refine own_st (B := T6.setTop (mkF m 31 #[.val (.int arg0), .val (.int arg1), .val (.int arg2), .val (.int v1), .val (.int v2), .val (.int v3), .val (.int v4), .val (.int v5), .unset, .unset, .unset, .unset, .unset, .unset] [(.ref b6)])) (fun t k => st6 t k) ?_
  refine own_st (B := T6.setTop (mkF m 33 #[.val (.int arg0), .val (.int arg1), .val (.int arg2), .val (.int v1), .val (.int v2), .val (.int v3), .val (.int v4), .val (.int v5), .val (.ref b6), .unset, .unset, .unset, .unset, .unset] [])) (fun t k => XS.astore X6.here hx rfl (hb hby at_31) rfl rfl (l' := #[.val (.int arg0), .val (.int arg1), .val (.int arg2), .val (.int v1), .val (.int v2), .val (.int v3), .val (.int v4), .val (.int v5), .val (.ref b6), .unset, .unset, .unset, .unset, .unset]) rfl k) ?_
  refine own_st (B := T6.setTop (mkF m 35 #[.val (.int arg0), .val (.int arg1), .val (.int arg2), .val (.int v1), .val (.int v2), .val (.int v3), .val (.int v4), .val (.int v5), .val (.ref b6), .unset, .unset, .unset, .unset, .unset] [(.ref b6)])) (fun t k => XS.aload X6.here hx rfl (hb hby at_33) rfl rfl k) ?_
  refine own_st (B := T6.setTop (mkF m 36 #[.val (.int arg0), .val (.int arg1), .val (.int arg2), .val (.int v1), .val (.int v2), .val (.int v3), .val (.int v4), .val (.int v5), .val (.ref b6), .unset, .unset, .unset, .unset, .unset] [(.int (0 : Int32)), (.ref b6)])) (fun t k => XS.iconst X6.here hx rfl (hb hby at_35) k) ?_
  refine own_st (B := T6.setTop (mkF m 37 #[.val (.int arg0), .val (.int arg1), .val (.int arg2), .val (.int v1), .val (.int v2), .val (.int v3), .val (.int v4), .val (.int v5), .val (.ref b6), .unset, .unset, .unset, .unset, .unset] [(.int v1), (.int (0 : Int32)), (.ref b6)])) (fun t k => XS.iloadN X6.here hx rfl (hb hby at_36) rfl k) ?_
  obtain ⟨T8, h8, X8, e8, W8, A8, st8⟩ := own_stB X6 hx hZ e6 f6_ (j := (0 : Int32)) (x := v1) (i := 0) (by decide) (show 0 < 5 from by decide) (g := (mkF m 37 #[.val (.int arg0), .val (.int arg1), .val (.int arg2), .val (.int v1), .val (.int v2), .val (.int v3), .val (.int v4), .val (.int v5), .val (.ref b6), .unset, .unset, .unset, .unset, .unset] [(.int v1), (.int (0 : Int32)), (.ref b6)])) rfl rfl (hb hby at_37)
  have f8_ : own_A Z h8 b6 .byte [(.int (v1.toInt8.toInt32)), (.int (0 : Int32)), (.int (0 : Int32)), (.int (0 : Int32)), (.int (0 : Int32))] := A8
  have z9 : n0 ≤ h8.size := Nat.le_trans z7 (Keep.of_wr W8).1
  have n10 := Fr.snoc X8 N0 u6
  refine own_st (B := T8.setTop (mkF m 38 #[.val (.int arg0), .val (.int arg1), .val (.int arg2), .val (.int v1), .val (.int v2), .val (.int v3), .val (.int v4), .val (.int v5), .val (.ref b6), .unset, .unset, .unset, .unset, .unset] [])) (fun t k => st8 t k) ?_
  refine own_st (B := T8.setTop (mkF m 40 #[.val (.int arg0), .val (.int arg1), .val (.int arg2), .val (.int v1), .val (.int v2), .val (.int v3), .val (.int v4), .val (.int v5), .val (.ref b6), .unset, .unset, .unset, .unset, .unset] [(.ref b6)])) (fun t k => XS.aload X8.here hx rfl (hb hby at_38) rfl rfl k) ?_
  refine own_st (B := T8.setTop (mkF m 41 #[.val (.int arg0), .val (.int arg1), .val (.int arg2), .val (.int v1), .val (.int v2), .val (.int v3), .val (.int v4), .val (.int v5), .val (.ref b6), .unset, .unset, .unset, .unset, .unset] [(.int (1 : Int32)), (.ref b6)])) (fun t k => XS.iconst X8.here hx rfl (hb hby at_40) k) ?_
  refine own_st (B := T8.setTop (mkF m 43 #[.val (.int arg0), .val (.int arg1), .val (.int arg2), .val (.int v1), .val (.int v2), .val (.int v3), .val (.int v4), .val (.int v5), .val (.ref b6), .unset, .unset, .unset, .unset, .unset] [(.int v2), (.int (1 : Int32)), (.ref b6)])) (fun t k => XS.iload X8.here hx rfl (hb hby at_41) rfl k) ?_
  obtain ⟨T11, h11, X11, e11, W11, A11, st11⟩ := own_stB X8 hx hZ e8 f8_ (j := (1 : Int32)) (x := v2) (i := 1) (by decide) (show 1 < 5 from by decide) (g := (mkF m 43 #[.val (.int arg0), .val (.int arg1), .val (.int arg2), .val (.int v1), .val (.int v2), .val (.int v3), .val (.int v4), .val (.int v5), .val (.ref b6), .unset, .unset, .unset, .unset, .unset] [(.int v2), (.int (1 : Int32)), (.ref b6)])) rfl rfl (hb hby at_43)
  have f11_ : own_A Z h11 b6 .byte [(.int (v1.toInt8.toInt32)), (.int (v2.toInt8.toInt32)), (.int (0 : Int32)), (.int (0 : Int32)), (.int (0 : Int32))] := A11
  have z12 : n0 ≤ h11.size := Nat.le_trans z9 (Keep.of_wr W11).1
  have n13 := Fr.snoc X11 n10 u6
  refine own_st (B := T11.setTop (mkF m 44 #[.val (.int arg0), .val (.int arg1), .val (.int arg2), .val (.int v1), .val (.int v2), .val (.int v3), .val (.int v4), .val (.int v5), .val (.ref b6), .unset, .unset, .unset, .unset, .unset] [])) (fun t k => st11 t k) ?_
  refine own_st (B := T11.setTop (mkF m 46 #[.val (.int arg0), .val (.int arg1), .val (.int arg2), .val (.int v1), .val (.int v2), .val (.int v3), .val (.int v4), .val (.int v5), .val (.ref b6), .unset, .unset, .unset, .unset, .unset] [(.ref b6)])) (fun t k => XS.aload X11.here hx rfl (hb hby at_44) rfl rfl k) ?_
  refine own_st (B := T11.setTop (mkF m 47 #[.val (.int arg0), .val (.int arg1), .val (.int arg2), .val (.int v1), .val (.int v2), .val (.int v3), .val (.int v4), .val (.int v5), .val (.ref b6), .unset, .unset, .unset, .unset, .unset] [(.int (2 : Int32)), (.ref b6)])) (fun t k => XS.iconst X11.here hx rfl (hb hby at_46) k) ?_
  refine own_st (B := T11.setTop (mkF m 49 #[.val (.int arg0), .val (.int arg1), .val (.int arg2), .val (.int v1), .val (.int v2), .val (.int v3), .val (.int v4), .val (.int v5), .val (.ref b6), .unset, .unset, .unset, .unset, .unset] [(.int v3), (.int (2 : Int32)), (.ref b6)])) (fun t k => XS.iload X11.here hx rfl (hb hby at_47) rfl k) ?_
  obtain ⟨T14, h14, X14, e14, W14, A14, st14⟩ := own_stB X11 hx hZ e11 f11_ (j := (2 : Int32)) (x := v3) (i := 2) (by decide) (show 2 < 5 from by decide) (g := (mkF m 49 #[.val (.int arg0), .val (.int arg1), .val (.int arg2), .val (.int v1), .val (.int v2), .val (.int v3), .val (.int v4), .val (.int v5), .val (.ref b6), .unset, .unset, .unset, .unset, .unset] [(.int v3), (.int (2 : Int32)), (.ref b6)])) rfl rfl (hb hby at_49)
  have f14_ : own_A Z h14 b6 .byte [(.int (v1.toInt8.toInt32)), (.int (v2.toInt8.toInt32)), (.int (v3.toInt8.toInt32)), (.int (0 : Int32)), (.int (0 : Int32))] := A14
  have z15 : n0 ≤ h14.size := Nat.le_trans z12 (Keep.of_wr W14).1
  have n16 := Fr.snoc X14 n13 u6
  refine own_st (B := T14.setTop (mkF m 50 #[.val (.int arg0), .val (.int arg1), .val (.int arg2), .val (.int v1), .val (.int v2), .val (.int v3), .val (.int v4), .val (.int v5), .val (.ref b6), .unset, .unset, .unset, .unset, .unset] [])) (fun t k => st14 t k) ?_
  refine own_st (B := T14.setTop (mkF m 52 #[.val (.int arg0), .val (.int arg1), .val (.int arg2), .val (.int v1), .val (.int v2), .val (.int v3), .val (.int v4), .val (.int v5), .val (.ref b6), .unset, .unset, .unset, .unset, .unset] [(.ref b6)])) (fun t k => XS.aload X14.here hx rfl (hb hby at_50) rfl rfl k) ?_
  refine own_st (B := T14.setTop (mkF m 53 #[.val (.int arg0), .val (.int arg1), .val (.int arg2), .val (.int v1), .val (.int v2), .val (.int v3), .val (.int v4), .val (.int v5), .val (.ref b6), .unset, .unset, .unset, .unset, .unset] [(.int (3 : Int32)), (.ref b6)])) (fun t k => XS.iconst X14.here hx rfl (hb hby at_52) k) ?_
  refine own_st (B := T14.setTop (mkF m 55 #[.val (.int arg0), .val (.int arg1), .val (.int arg2), .val (.int v1), .val (.int v2), .val (.int v3), .val (.int v4), .val (.int v5), .val (.ref b6), .unset, .unset, .unset, .unset, .unset] [(.int v4), (.int (3 : Int32)), (.ref b6)])) (fun t k => XS.iload X14.here hx rfl (hb hby at_53) rfl k) ?_
  obtain ⟨T17, h17, X17, e17, W17, A17, st17⟩ := own_stB X14 hx hZ e14 f14_ (j := (3 : Int32)) (x := v4) (i := 3) (by decide) (show 3 < 5 from by decide) (g := (mkF m 55 #[.val (.int arg0), .val (.int arg1), .val (.int arg2), .val (.int v1), .val (.int v2), .val (.int v3), .val (.int v4), .val (.int v5), .val (.ref b6), .unset, .unset, .unset, .unset, .unset] [(.int v4), (.int (3 : Int32)), (.ref b6)])) rfl rfl (hb hby at_55)
  have f17_ : own_A Z h17 b6 .byte [(.int (v1.toInt8.toInt32)), (.int (v2.toInt8.toInt32)), (.int (v3.toInt8.toInt32)), (.int (v4.toInt8.toInt32)), (.int (0 : Int32))] := A17
  have z18 : n0 ≤ h17.size := Nat.le_trans z15 (Keep.of_wr W17).1
  have n19 := Fr.snoc X17 n16 u6
  refine own_st (B := T17.setTop (mkF m 56 #[.val (.int arg0), .val (.int arg1), .val (.int arg2), .val (.int v1), .val (.int v2), .val (.int v3), .val (.int v4), .val (.int v5), .val (.ref b6), .unset, .unset, .unset, .unset, .unset] [])) (fun t k => st17 t k) ?_
  refine own_st (B := T17.setTop (mkF m 58 #[.val (.int arg0), .val (.int arg1), .val (.int arg2), .val (.int v1), .val (.int v2), .val (.int v3), .val (.int v4), .val (.int v5), .val (.ref b6), .unset, .unset, .unset, .unset, .unset] [(.ref b6)])) (fun t k => XS.aload X17.here hx rfl (hb hby at_56) rfl rfl k) ?_
  refine own_st (B := T17.setTop (mkF m 59 #[.val (.int arg0), .val (.int arg1), .val (.int arg2), .val (.int v1), .val (.int v2), .val (.int v3), .val (.int v4), .val (.int v5), .val (.ref b6), .unset, .unset, .unset, .unset, .unset] [(.int (4 : Int32)), (.ref b6)])) (fun t k => XS.iconst X17.here hx rfl (hb hby at_58) k) ?_
  refine own_st (B := T17.setTop (mkF m 61 #[.val (.int arg0), .val (.int arg1), .val (.int arg2), .val (.int v1), .val (.int v2), .val (.int v3), .val (.int v4), .val (.int v5), .val (.ref b6), .unset, .unset, .unset, .unset, .unset] [(.int v5), (.int (4 : Int32)), (.ref b6)])) (fun t k => XS.iload X17.here hx rfl (hb hby at_59) rfl k) ?_
  obtain ⟨T20, h20, X20, e20, W20, A20, st20⟩ := own_stB X17 hx hZ e17 f17_ (j := (4 : Int32)) (x := v5) (i := 4) (by decide) (show 4 < 5 from by decide) (g := (mkF m 61 #[.val (.int arg0), .val (.int arg1), .val (.int arg2), .val (.int v1), .val (.int v2), .val (.int v3), .val (.int v4), .val (.int v5), .val (.ref b6), .unset, .unset, .unset, .unset, .unset] [(.int v5), (.int (4 : Int32)), (.ref b6)])) rfl rfl (hb hby at_61)
  have f20_ : own_A Z h20 b6 .byte [(.int (v1.toInt8.toInt32)), (.int (v2.toInt8.toInt32)), (.int (v3.toInt8.toInt32)), (.int (v4.toInt8.toInt32)), (.int (v5.toInt8.toInt32))] := A20
  have z21 : n0 ≤ h20.size := Nat.le_trans z18 (Keep.of_wr W20).1
  have n22 := Fr.snoc X20 n19 u6
  refine own_st (B := T20.setTop (mkF m 62 #[.val (.int arg0), .val (.int arg1), .val (.int arg2), .val (.int v1), .val (.int v2), .val (.int v3), .val (.int v4), .val (.int v5), .val (.ref b6), .unset, .unset, .unset, .unset, .unset] [])) (fun t k => st20 t k) ?_
  refine own_st (B := T20.setTop (mkF m 63 #[.val (.int arg0), .val (.int arg1), .val (.int arg2), .val (.int v1), .val (.int v2), .val (.int v3), .val (.int v4), .val (.int v5), .val (.ref b6), .unset, .unset, .unset, .unset, .unset] [(.int arg2)])) (fun t k => XS.iloadN X20.here hx rfl (hb hby at_62) rfl k) ?_
  refine own_st (B := T20.setTop (mkF m 65 #[.val (.int arg0), .val (.int arg1), .val (.int arg2), .val (.int v1), .val (.int v2), .val (.int v3), .val (.int v4), .val (.int v5), .val (.ref b6), .unset, .unset, .unset, .unset, .unset] [(.int (2147483647 : Int32)), (.int arg2)])) (fun t k => X20.ldcInt hx hown (mvT hZ (w_1 hw)) (g := (mkF m 63 #[.val (.int arg0), .val (.int arg1), .val (.int arg2), .val (.int v1), .val (.int v2), .val (.int v3), .val (.int v4), .val (.int v5), .val (.ref b6), .unset, .unset, .unset, .unset, .unset] [(.int arg2)])) rfl (hb hby at_63) _ k) ?_
  refine own_st (B := T20.setTop (mkF m 66 #[.val (.int arg0), .val (.int arg1), .val (.int arg2), .val (.int v1), .val (.int v2), .val (.int v3), .val (.int v4), .val (.int v5), .val (.ref b6), .unset, .unset, .unset, .unset, .unset] [(.int (arg2 &&& (2147483647 : Int32)))])) (fun t k => XS.iand X20.here hx rfl (hb hby at_65) rfl k) ?_
  refine own_st (B := T20.setTop (mkF m 68 #[.val (.int arg0), .val (.int arg1), .val (.int arg2), .val (.int v1), .val (.int v2), .val (.int v3), .val (.int v4), .val (.int v5), .val (.ref b6), .unset, .unset, .unset, .unset, .unset] [(.int (6 : Int32)), (.int (arg2 &&& (2147483647 : Int32)))])) (fun t k => XS.bipush X20.here hx rfl (hb hby at_66) k) ?_
  refine own_st (B := T20.setTop (mkF m 69 #[.val (.int arg0), .val (.int arg1), .val (.int arg2), .val (.int v1), .val (.int v2), .val (.int v3), .val (.int v4), .val (.int v5), .val (.ref b6), .unset, .unset, .unset, .unset, .unset] [(.int ((arg2 &&& (2147483647 : Int32)) % (6 : Int32)))])) (fun t k => iremM X20 hx (g := (mkF m 68 #[.val (.int arg0), .val (.int arg1), .val (.int arg2), .val (.int v1), .val (.int v2), .val (.int v3), .val (.int v4), .val (.int v5), .val (.ref b6), .unset, .unset, .unset, .unset, .unset] [(.int (6 : Int32)), (.int (arg2 &&& (2147483647 : Int32)))])) rfl (x := (arg2 &&& (2147483647 : Int32))) (y := (6 : Int32)) (rest := []) (hb hby at_68) rfl (by decide) k) ?_
  rcases own_six arg2 with hn | hn | hn | hn | hn | hn
  · rw [hn]
    refine own_st (B := T20.setTop (mkF m 71 #[.val (.int arg0), .val (.int arg1), .val (.int arg2), .val (.int v1), .val (.int v2), .val (.int v3), .val (.int v4), .val (.int v5), .val (.ref b6), .val (.int (0 : Int32)), .unset, .unset, .unset, .unset] [])) (fun t k => XS.istore X20.here hx rfl (hb hby at_69) rfl (l' := #[.val (.int arg0), .val (.int arg1), .val (.int arg2), .val (.int v1), .val (.int v2), .val (.int v3), .val (.int v4), .val (.int v5), .val (.ref b6), .val (.int (0 : Int32)), .unset, .unset, .unset, .unset]) rfl k) ?_
    obtain ⟨T23, h23, X23, e23, E23, A23, D23, -, st23⟩ := newO X20 hx hZ hown (w_2 hw) (w_3 hw) (w_4 hw) e20 (g := (mkF m 71 #[.val (.int arg0), .val (.int arg1), .val (.int arg2), .val (.int v1), .val (.int v2), .val (.int v3), .val (.int v4), .val (.int v5), .val (.ref b6), .val (.int (0 : Int32)), .unset, .unset, .unset, .unset] [])) rfl (hb hby at_71) (by decide) (by decide)
    obtain ⟨b23, g23⟩ : ∃ z, z = h20.size := ⟨_, rfl⟩
    rw [← g23] at A23 D23 st23
    have q23_b6 : b6 ≠ b23 := Nat.ne_of_lt (Nat.lt_of_lt_of_le f20_.lt (Nat.le_of_eq g23.symm))
    have u23 : n0 ≤ b23 := Nat.le_trans z21 (Nat.le_of_eq g23.symm)
    have z24 : n0 ≤ h23.size := Nat.le_trans z21 E23.1
    have f25 : Fld Z h23 b23 "com/example/libentkey/libentkey/codec/KeyReader" "key" "[B" .null := D23 (Or.inr (w_12 hw)) (ty := (.array .byte)) (by decide)
    have f26 : Fld Z h23 b23 "com/example/libentkey/libentkey/codec/KeyReader" "position" "I" (.int (0 : Int32)) := D23 (Or.inl (w_19 hw)) (ty := .int) (by decide)
    refine own_st (B := T23.setTop (mkF m 74 #[.val (.int arg0), .val (.int arg1), .val (.int arg2), .val (.int v1), .val (.int v2), .val (.int v3), .val (.int v4), .val (.int v5), .val (.ref b6), .val (.int (0 : Int32)), .unset, .unset, .unset, .unset] [(.ref b23)])) (fun t k => st23 t k) ?_
    refine own_st (B := T23.setTop (mkF m 75 #[.val (.int arg0), .val (.int arg1), .val (.int arg2), .val (.int v1), .val (.int v2), .val (.int v3), .val (.int v4), .val (.int v5), .val (.ref b6), .val (.int (0 : Int32)), .unset, .unset, .unset, .unset] [(.ref b23), (.ref b23)])) (fun t k => XS.dup X23.here hx rfl (hb hby at_74) rfl rfl k) ?_
    refine own_st (B := T23.setTop (mkF m 77 #[.val (.int arg0), .val (.int arg1), .val (.int arg2), .val (.int v1), .val (.int v2), .val (.int v3), .val (.int v4), .val (.int v5), .val (.ref b6), .val (.int (0 : Int32)), .unset, .unset, .unset, .unset] [(.ref b6), (.ref b23), (.ref b23)])) (fun t k => XS.aload X23.here hx rfl (hb hby at_75) rfl rfl k) ?_
    obtain ⟨_, _, ⟨T27, L27, k27, j27⟩, -, X27, ⟨Lc27, hQ27, l27, y27_, z27_⟩, st27⟩ := X23.specialBack hx (y := (⟨"com/example/libentkey/libentkey/codec/KeyReader", "<init>", "([B)V"⟩ : MethodName)) rfl hown (mvT hZ (w_5 hw)) (mvT hZ (w_6 hw)) (mvT hZ (w_7 hw)) (by decide) (backOf (W := 1) (rm1 l Z a0 hw [] b23 b6 h23 n0 z24 A23 f25 f26 u23) hZ (w_7 hw) (w_4 hw) (by decide) (by decide)) (g := (mkF m 77 #[.val (.int arg0), .val (.int arg1), .val (.int arg2), .val (.int v1), .val (.int v2), .val (.int v3), .val (.int v4), .val (.int v5), .val (.ref b6), .val (.int (0 : Int32)), .unset, .unset, .unset, .unset] [(.ref b6), (.ref b23), (.ref b23)])) rfl (by rw [hml]; rfl) (Steps.refl _) (a := b23) (argsL := [(.ref b6)]) (rest := [(.ref b23)]) (lenOf own_pd2 rfl) rfl (by show 2 * 0 + _ ≤ _; exact Nat.le_of_eq rfl) (hb hby at_77) (fun _ _ => ⟨rfl, e23, (by decide : 2 + 0 ≤ _), (by decide : 9 + 0 ≤ _)⟩)
    dsimp only [Pt.U, Pt.locs, Pt.cells, Pt.slots] at X27 l27 y27_ z27_ st27 hQ27
    subst l27 y27_ z27_
    obtain ⟨rfl, N27q, K27, p27_0, p27_1, p27_2⟩ := hQ27
    have N27 := Fr.app n22 N27q
    have z28 : n0 ≤ T27.heap.size := Nat.le_trans z24 K27.1
    refine own_ss (B := T27.setTop (mkF m 80 #[.val (.int arg0), .val (.int arg1), .val (.int arg2), .val (.int v1), .val (.int v2), .val (.int v3), .val (.int v4), .val (.int v5), .val (.ref b6), .val (.int (0 : Int32)), .unset, .unset, .unset, .unset] [(.ref b23)])) st27 ?_
    refine own_st (B := T27.setTop (mkF m 82 #[.val (.int arg0), .val (.int arg1), .val (.int arg2), .val (.int v1), .val (.int v2), .val (.int v3), .val (.int v4), .val (.int v5), .val (.ref b6), .val (.int (0 : Int32)), .val (.ref b23), .unset, .unset, .unset] [])) (fun t k => XS.astore X27.here hx rfl (hb hby at_80) rfl rfl (l' := #[.val (.int arg0), .val (.int arg1), .val (.int arg2), .val (.int v1), .val (.int v2), .val (.int v3), .val (.int v4), .val (.int v5), .val (.ref b6), .val (.int (0 : Int32)), .val (.ref b23), .unset, .unset, .unset]) rfl k) ?_
    refine own_st (B := T27.setTop (mkF m 84 #[.val (.int arg0), .val (.int arg1), .val (.int arg2), .val (.int v1), .val (.int v2), .val (.int v3), .val (.int v4), .val (.int v5), .val (.ref b6), .val (.int (0 : Int32)), .val (.ref b23), .unset, .unset, .unset] [(.int (0 : Int32))])) (fun t k => XS.iload X27.here hx rfl (hb hby at_82) rfl k) ?_
    refine own_st (B := T27.setTop (mkF m 93 #[.val (.int arg0), .val (.int arg1), .val (.int arg2), .val (.int v1), .val (.int v2), .val (.int v3), .val (.int v4), .val (.int v5), .val (.ref b6), .val (.int (0 : Int32)), .val (.ref b23), .unset, .unset, .unset] [])) (fun t k => XS.ifYes X27.here hx rfl (pc0 := 84) (pc' := 93) rfl (hb hby at_84) rfl (by decide) (by decide) (by decide) k) ?_
    refine own_st (B := T27.setTop (mkF m 95 #[.val (.int arg0), .val (.int arg1), .val (.int arg2), .val (.int v1), .val (.int v2), .val (.int v3), .val (.int v4), .val (.int v5), .val (.ref b6), .val (.int (0 : Int32)), .val (.ref b23), .unset, .unset, .unset] [(.int (0 : Int32))])) (fun t k => XS.iload X27.here hx rfl (hb hby at_93) rfl k) ?_
    refine own_st (B := T27.setTop (mkF m 96 #[.val (.int arg0), .val (.int arg1), .val (.int arg2), .val (.int v1), .val (.int v2), .val (.int v3), .val (.int v4), .val (.int v5), .val (.ref b6), .val (.int (0 : Int32)), .val (.ref b23), .unset, .unset, .unset] [(.int (1 : Int32)), (.int (0 : Int32))])) (fun t k => XS.iconst X27.here hx rfl (hb hby at_95) k) ?_
    refine own_st (B := T27.setTop (mkF m 105 #[.val (.int arg0), .val (.int arg1), .val (.int arg2), .val (.int v1), .val (.int v2), .val (.int v3), .val (.int v4), .val (.int v5), .val (.ref b6), .val (.int (0 : Int32)), .val (.ref b23), .unset, .unset, .unset] [])) (fun t k => XS.icmpYes X27.here hx rfl (pc0 := 96) (pc' := 105) rfl (hb hby at_96) rfl (by decide) (by decide) (by decide) k) ?_
    refine own_st (B := T27.setTop (mkF m 107 #[.val (.int arg0), .val (.int arg1), .val (.int arg2), .val (.int v1), .val (.int v2), .val (.int v3), .val (.int v4), .val (.int v5), .val (.ref b6), .val (.int (0 : Int32)), .val (.ref b23), .unset, .unset, .unset] [(.int (0 : Int32))])) (fun t k => XS.iload X27.here hx rfl (hb hby at_105) rfl k) ?_
    refine own_st (B := T27.setTop (mkF m 108 #[.val (.int arg0), .val (.int arg1), .val (.int arg2), .val (.int v1), .val (.int v2), .val (.int v3), .val (.int v4), .val (.int v5), .val (.ref b6), .val (.int (0 : Int32)), .val (.ref b23), .unset, .unset, .unset] [(.int (2 : Int32)), (.int (0 : Int32))])) (fun t k => XS.iconst X27.here hx rfl (hb hby at_107) k) ?_
    refine own_st (B := T27.setTop (mkF m 117 #[.val (.int arg0), .val (.int arg1), .val (.int arg2), .val (.int v1), .val (.int v2), .val (.int v3), .val (.int v4), .val (.int v5), .val (.ref b6), .val (.int (0 : Int32)), .val (.ref b23), .unset, .unset, .unset] [])) (fun t k => XS.icmpYes X27.here hx rfl (pc0 := 108) (pc' := 117) rfl (hb hby at_108) rfl (by decide) (by decide) (by decide) k) ?_
    refine own_st (B := T27.setTop (mkF m 119 #[.val (.int arg0), .val (.int arg1), .val (.int arg2), .val (.int v1), .val (.int v2), .val (.int v3), .val (.int v4), .val (.int v5), .val (.ref b6), .val (.int (0 : Int32)), .val (.ref b23), .unset, .unset, .unset] [(.int (0 : Int32))])) (fun t k => XS.iload X27.here hx rfl (hb hby at_117) rfl k) ?_
    refine own_st (B := T27.setTop (mkF m 120 #[.val (.int arg0), .val (.int arg1), .val (.int arg2), .val (.int v1), .val (.int v2), .val (.int v3), .val (.int v4), .val (.int v5), .val (.ref b6), .val (.int (0 : Int32)), .val (.ref b23), .unset, .unset, .unset] [(.int (3 : Int32)), (.int (0 : Int32))])) (fun t k => XS.iconst X27.here hx rfl (hb hby at_119) k) ?_
    refine own_st (B := T27.setTop (mkF m 129 #[.val (.int arg0), .val (.int arg1), .val (.int arg2), .val (.int v1), .val (.int v2), .val (.int v3), .val (.int v4), .val (.int v5), .val (.ref b6), .val (.int (0 : Int32)), .val (.ref b23), .unset, .unset, .unset] [])) (fun t k => XS.icmpYes X27.here hx rfl (pc0 := 120) (pc' := 129) rfl (hb hby at_120) rfl (by decide) (by decide) (by decide) k) ?_
    refine own_st (B := T27.setTop (mkF m 131 #[.val (.int arg0), .val (.int arg1), .val (.int arg2), .val (.int v1), .val (.int v2), .val (.int v3), .val (.int v4), .val (.int v5), .val (.ref b6), .val (.int (0 : Int32)), .val (.ref b23), .unset, .unset, .unset] [(.int (0 : Int32))])) (fun t k => XS.iload X27.here hx rfl (hb hby at_129) rfl k) ?_
    refine own_st (B := T27.setTop (mkF m 132 #[.val (.int arg0), .val (.int arg1), .val (.int arg2), .val (.int v1), .val (.int v2), .val (.int v3), .val (.int v4), .val (.int v5), .val (.ref b6), .val (.int (0 : Int32)), .val (.ref b23), .unset, .unset, .unset] [(.int (4 : Int32)), (.int (0 : Int32))])) (fun t k => XS.iconst X27.here hx rfl (hb hby at_131) k) ?_
    refine own_st (B := T27.setTop (mkF m 141 #[.val (.int arg0), .val (.int arg1), .val (.int arg2), .val (.int v1), .val (.int v2), .val (.int v3), .val (.int v4), .val (.int v5), .val (.ref b6), .val (.int (0 : Int32)), .val (.ref b23), .unset, .unset, .unset] [])) (fun t k => XS.icmpYes X27.here hx rfl (pc0 := 132) (pc' := 141) rfl (hb hby at_132) rfl (by decide) (by decide) (by decide) k) ?_
    refine own_st (B := T27.setTop (mkF m 142 #[.val (.int arg0), .val (.int arg1), .val (.int arg2), .val (.int v1), .val (.int v2), .val (.int v3), .val (.int v4), .val (.int v5), .val (.ref b6), .val (.int (0 : Int32)), .val (.ref b23), .unset, .unset, .unset] [(.int (5 : Int32))])) (fun t k => XS.iconst X27.here hx rfl (hb hby at_141) k) ?_
    refine own_st (B := T27.setTop (mkF m 144 #[.val (.int arg0), .val (.int arg1), .val (.int arg2), .val (.int v1), .val (.int v2), .val (.int v3), .val (.int v4), .val (.int v5), .val (.ref b6), .val (.int (0 : Int32)), .val (.ref b23), .val (.int (5 : Int32)), .unset, .unset] [])) (fun t k => XS.istore X27.here hx rfl (hb hby at_142) rfl (l' := #[.val (.int arg0), .val (.int arg1), .val (.int arg2), .val (.int v1), .val (.int v2), .val (.int v3), .val (.int v4), .val (.int v5), .val (.ref b6), .val (.int (0 : Int32)), .val (.ref b23), .val (.int (5 : Int32)), .unset, .unset]) rfl k) ?_
    refine own_st (B := T27.setTop (mkF m 146 #[.val (.int arg0), .val (.int arg1), .val (.int arg2), .val (.int v1), .val (.int v2), .val (.int v3), .val (.int v4), .val (.int v5), .val (.ref b6), .val (.int (0 : Int32)), .val (.ref b23), .val (.int (5 : Int32)), .unset, .unset] [(.int (0 : Int32))])) (fun t k => XS.iload X27.here hx rfl (hb hby at_144) rfl k) ?_
    refine own_st (B := T27.setTop (mkF m 147 #[.val (.int arg0), .val (.int arg1), .val (.int arg2), .val (.int v1), .val (.int v2), .val (.int v3), .val (.int v4), .val (.int v5), .val (.ref b6), .val (.int (0 : Int32)), .val (.ref b23), .val (.int (5 : Int32)), .unset, .unset] [(.int (4 : Int32)), (.int (0 : Int32))])) (fun t k => XS.iconst X27.here hx rfl (hb hby at_146) k) ?_
    refine own_st (B := T27.setTop (mkF m 150 #[.val (.int arg0), .val (.int arg1), .val (.int arg2), .val (.int v1), .val (.int v2), .val (.int v3), .val (.int v4), .val (.int v5), .val (.ref b6), .val (.int (0 : Int32)), .val (.ref b23), .val (.int (5 : Int32)), .unset, .unset] [])) (fun t k => XS.icmpNo X27.here hx rfl (hb hby at_147) rfl (by decide) k) ?_
    refine own_st (B := T27.setTop (mkF m 152 #[.val (.int arg0), .val (.int arg1), .val (.int arg2), .val (.int v1), .val (.int v2), .val (.int v3), .val (.int v4), .val (.int v5), .val (.ref b6), .val (.int (0 : Int32)), .val (.ref b23), .val (.int (5 : Int32)), .unset, .unset] [(.int v5)])) (fun t k => XS.iload X27.here hx rfl (hb hby at_150) rfl k) ?_
    obtain ⟨_, _, ⟨T29, L29, k29, j29⟩, -, X29, ⟨Lc29, hQ29, l29, y29_, z29_⟩, st29⟩ := Jvm.LawKit.callS X27 hx (y := (⟨"com/example/libentkey/libentkey/codec/KeyReaderSkipAsciiPinLaw", "ascii", "(B)Z"⟩ : MethodName)) hown (mvT hZ (w_20 hw)) (mvT hZ (w_21 hw)) (mvT hZ (w_22 hw)) (mvT hZ (w_23 hw)) (by decide) (backOf (W := 0) (rm4 l Z a0 hw [] v5 T27.heap n0 z28 ) hZ (w_23 hw) (w_22 hw) (by decide) (by decide)) (g := (mkF m 152 #[.val (.int arg0), .val (.int arg1), .val (.int arg2), .val (.int v1), .val (.int v2), .val (.int v3), .val (.int v4), .val (.int v5), .val (.ref b6), .val (.int (0 : Int32)), .val (.ref b23), .val (.int (5 : Int32)), .unset, .unset] [(.int v5)])) rfl (by rw [hml]; rfl) (argsL := [(.int v5)]) (rest := []) (lenOf own_pd3 rfl) rfl (by show 2 * 0 + _ ≤ _; exact Nat.le_of_eq rfl) (hb hby at_152) (fun _ _ => ⟨rfl, rfl, (by decide : 2 + 0 ≤ _), (by decide : 9 + 0 ≤ _)⟩)
    dsimp only [Pt.U, Pt.locs, Pt.cells, Pt.slots] at X29 l29 y29_ z29_ st29 hQ29
    subst l29 y29_ z29_
    obtain ⟨rfl, N29q, e29q⟩ := hQ29
    have N29 := Fr.app N27 N29q
    refine own_st (B := T29.setTop (mkF m 155 #[.val (.int arg0), .val (.int arg1), .val (.int arg2), .val (.int v1), .val (.int v2), .val (.int v3), .val (.int v4), .val (.int v5), .val (.ref b6), .val (.int (0 : Int32)), .val (.ref b23), .val (.int (5 : Int32)), .unset, .unset] [(.int (own_f4 v5))])) (fun t k => st29 t k) ?_
    refine own_cut (P := ∀ (v31 : Int32), (v31 = (if (own_f4 v5) = (0 : Int32) then (4 : Int32) else (5 : Int32))) → own_Go p e below s (Q0 Z arg0 arg1 arg2 h0 n0) 16 128 (T29.setTop (mkF m 161 #[.val (.int arg0), .val (.int arg1), .val (.int arg2), .val (.int v1), .val (.int v2), .val (.int v3), .val (.int v4), .val (.int v5), .val (.ref b6), .val (.int (0 : Int32)), .val (.ref b23), .val (.int v31), .unset, .unset] []))) (fun J32 => ?_) ?_
    · by_cases hc30 : (own_f4 v5) = (0 : Int32)
      · refine own_st (B := T29.setTop (mkF m 158 #[.val (.int arg0), .val (.int arg1), .val (.int arg2), .val (.int v1), .val (.int v2), .val (.int v3), .val (.int v4), .val (.int v5), .val (.ref b6), .val (.int (0 : Int32)), .val (.ref b23), .val (.int (5 : Int32)), .unset, .unset] [])) (fun t k => XS.ifNo X29.here hx rfl (hb hby at_155) rfl (XT.i0_ne_f hc30) k) ?_
        refine own_st (B := T29.setTop (mkF m 159 #[.val (.int arg0), .val (.int arg1), .val (.int arg2), .val (.int v1), .val (.int v2), .val (.int v3), .val (.int v4), .val (.int v5), .val (.ref b6), .val (.int (0 : Int32)), .val (.ref b23), .val (.int (5 : Int32)), .unset, .unset] [(.int (4 : Int32))])) (fun t k => XS.iconst X29.here hx rfl (hb hby at_158) k) ?_
        refine own_st (B := T29.setTop (mkF m 161 #[.val (.int arg0), .val (.int arg1), .val (.int arg2), .val (.int v1), .val (.int v2), .val (.int v3), .val (.int v4), .val (.int v5), .val (.ref b6), .val (.int (0 : Int32)), .val (.ref b23), .val (.int (4 : Int32)), .unset, .unset] [])) (fun t k => XS.istore X29.here hx rfl (hb hby at_159) rfl (l' := #[.val (.int arg0), .val (.int arg1), .val (.int arg2), .val (.int v1), .val (.int v2), .val (.int v3), .val (.int v4), .val (.int v5), .val (.ref b6), .val (.int (0 : Int32)), .val (.ref b23), .val (.int (4 : Int32)), .unset, .unset]) rfl k) ?_
        exact J32 (4 : Int32) (by rw [if_pos hc30])
      · refine own_st (B := T29.setTop (mkF m 161 #[.val (.int arg0), .val (.int arg1), .val (.int arg2), .val (.int v1), .val (.int v2), .val (.int v3), .val (.int v4), .val (.int v5), .val (.ref b6), .val (.int (0 : Int32)), .val (.ref b23), .val (.int (5 : Int32)), .unset, .unset] [])) (fun t k => XS.ifYes X29.here hx rfl (pc0 := 155) (pc' := 161) rfl (hb hby at_155) rfl (XT.i0_ne_t hc30) (by decide) (by decide) k) ?_
        exact J32 (5 : Int32) (by rw [if_neg hc30])
    intro v31 hv31
    refine own_st (B := T29.setTop (mkF m 163 #[.val (.int arg0), .val (.int arg1), .val (.int arg2), .val (.int v1), .val (.int v2), .val (.int v3), .val (.int v4), .val (.int v5), .val (.ref b6), .val (.int (0 : Int32)), .val (.ref b23), .val (.int v31), .unset, .unset] [(.int (0 : Int32))])) (fun t k => XS.iload X29.here hx rfl (hb hby at_161) rfl k) ?_
    refine own_st (B := T29.setTop (mkF m 164 #[.val (.int arg0), .val (.int arg1), .val (.int arg2), .val (.int v1), .val (.int v2), .val (.int v3), .val (.int v4), .val (.int v5), .val (.ref b6), .val (.int (0 : Int32)), .val (.ref b23), .val (.int v31), .unset, .unset] [(.int (3 : Int32)), (.int (0 : Int32))])) (fun t k => XS.iconst X29.here hx rfl (hb hby at_163) k) ?_
    refine own_st (B := T29.setTop (mkF m 167 #[.val (.int arg0), .val (.int arg1), .val (.int arg2), .val (.int v1), .val (.int v2), .val (.int v3), .val (.int v4), .val (.int v5), .val (.ref b6), .val (.int (0 : Int32)), .val (.ref b23), .val (.int v31), .unset, .unset] [])) (fun t k => XS.icmpNo X29.here hx rfl (hb hby at_164) rfl (by decide) k) ?_
    refine own_st (B := T29.setTop (mkF m 169 #[.val (.int arg0), .val (.int arg1), .val (.int arg2), .val (.int v1), .val (.int v2), .val (.int v3), .val (.int v4), .val (.int v5), .val (.ref b6), .val (.int (0 : Int32)), .val (.ref b23), .val (.int v31), .unset, .unset] [(.int v4)])) (fun t k => XS.iload X29.here hx rfl (hb hby at_167) rfl k) ?_
    obtain ⟨_, _, ⟨T33, L33, k33, j33⟩, -, X33, ⟨Lc33, hQ33, l33, y33_, z33_⟩, st33⟩ := Jvm.LawKit.callS X29 hx (y := (⟨"com/example/libentkey/libentkey/codec/KeyReaderSkipAsciiPinLaw", "ascii", "(B)Z"⟩ : MethodName)) hown (mvT hZ (w_20 hw)) (mvT hZ (w_21 hw)) (mvT hZ (w_22 hw)) (mvT hZ (w_23 hw)) (by decide) (backOf (W := 0) (rm4 l Z a0 hw [] v4 T27.heap n0 z28 ) hZ (w_23 hw) (w_22 hw) (by decide) (by decide)) (g := (mkF m 169 #[.val (.int arg0), .val (.int arg1), .val (.int arg2), .val (.int v1), .val (.int v2), .val (.int v3), .val (.int v4), .val (.int v5), .val (.ref b6), .val (.int (0 : Int32)), .val (.ref b23), .val (.int v31), .unset, .unset] [(.int v4)])) rfl (by rw [hml]; rfl) (argsL := [(.int v4)]) (rest := []) (lenOf own_pd3 rfl) rfl (by show 2 * 0 + _ ≤ _; exact Nat.le_of_eq rfl) (hb hby at_169) (fun _ _ => ⟨rfl, e29q, (by decide : 2 + 0 ≤ _), (by decide : 9 + 0 ≤ _)⟩)
    dsimp only [Pt.U, Pt.locs, Pt.cells, Pt.slots] at X33 l33 y33_ z33_ st33 hQ33
    subst l33 y33_ z33_
    obtain ⟨rfl, N33q, e33q⟩ := hQ33
    have N33 := Fr.app N29 N33q
    refine own_st (B := T33.setTop (mkF m 172 #[.val (.int arg0), .val (.int arg1), .val (.int arg2), .val (.int v1), .val (.int v2), .val (.int v3), .val (.int v4), .val (.int v5), .val (.ref b6), .val (.int (0 : Int32)), .val (.ref b23), .val (.int v31), .unset, .unset] [(.int (own_f4 v4))])) (fun t k => st33 t k) ?_
    refine own_cut (P := ∀ (v35 : Int32), (v35 = (if (own_f4 v4) = (0 : Int32) then (3 : Int32) else v31)) → own_Go p e below s (Q0 Z arg0 arg1 arg2 h0 n0) 16 128 (T33.setTop (mkF m 178 #[.val (.int arg0), .val (.int arg1), .val (.int arg2), .val (.int v1), .val (.int v2), .val (.int v3), .val (.int v4), .val (.int v5), .val (.ref b6), .val (.int (0 : Int32)), .val (.ref b23), .val (.int v35), .unset, .unset] []))) (fun J36 => ?_) ?_
    · by_cases hc34 : (own_f4 v4) = (0 : Int32)
      · refine own_st (B := T33.setTop (mkF m 175 #[.val (.int arg0), .val (.int arg1), .val (.int arg2), .val (.int v1), .val (.int v2), .val (.int v3), .val (.int v4), .val (.int v5), .val (.ref b6), .val (.int (0 : Int32)), .val (.ref b23), .val (.int v31), .unset, .unset] [])) (fun t k => XS.ifNo X33.here hx rfl (hb hby at_172) rfl (XT.i0_ne_f hc34) k) ?_
        refine own_st (B := T33.setTop (mkF m 176 #[.val (.int arg0), .val (.int arg1), .val (.int arg2), .val (.int v1), .val (.int v2), .val (.int v3), .val (.int v4), .val (.int v5), .val (.ref b6), .val (.int (0 : Int32)), .val (.ref b23), .val (.int v31), .unset, .unset] [(.int (3 : Int32))])) (fun t k => XS.iconst X33.here hx rfl (hb hby at_175) k) ?_
        refine own_st (B := T33.setTop (mkF m 178 #[.val (.int arg0), .val (.int arg1), .val (.int arg2), .val (.int v1), .val (.int v2), .val (.int v3), .val (.int v4), .val (.int v5), .val (.ref b6), .val (.int (0 : Int32)), .val (.ref b23), .val (.int (3 : Int32)), .unset, .unset] [])) (fun t k => XS.istore X33.here hx rfl (hb hby at_176) rfl (l' := #[.val (.int arg0), .val (.int arg1), .val (.int arg2), .val (.int v1), .val (.int v2), .val (.int v3), .val (.int v4), .val (.int v5), .val (.ref b6), .val (.int (0 : Int32)), .val (.ref b23), .val (.int (3 : Int32)), .unset, .unset]) rfl k) ?_
        exact J36 (3 : Int32) (by rw [if_pos hc34])
      · refine own_st (B := T33.setTop (mkF m 178 #[.val (.int arg0), .val (.int arg1), .val (.int arg2), .val (.int v1), .val (.int v2), .val (.int v3), .val (.int v4), .val (.int v5), .val (.ref b6), .val (.int (0 : Int32)), .val (.ref b23), .val (.int v31), .unset, .unset] [])) (fun t k => XS.ifYes X33.here hx rfl (pc0 := 172) (pc' := 178) rfl (hb hby at_172) rfl (XT.i0_ne_t hc34) (by decide) (by decide) k) ?_
        exact J36 v31 (by rw [if_neg hc34])
    intro v35 hv35
    refine own_st (B := T33.setTop (mkF m 180 #[.val (.int arg0), .val (.int arg1), .val (.int arg2), .val (.int v1), .val (.int v2), .val (.int v3), .val (.int v4), .val (.int v5), .val (.ref b6), .val (.int (0 : Int32)), .val (.ref b23), .val (.int v35), .unset, .unset] [(.int (0 : Int32))])) (fun t k => XS.iload X33.here hx rfl (hb hby at_178) rfl k) ?_
    refine own_st (B := T33.setTop (mkF m 181 #[.val (.int arg0), .val (.int arg1), .val (.int arg2), .val (.int v1), .val (.int v2), .val (.int v3), .val (.int v4), .val (.int v5), .val (.ref b6), .val (.int (0 : Int32)), .val (.ref b23), .val (.int v35), .unset, .unset] [(.int (2 : Int32)), (.int (0 : Int32))])) (fun t k => XS.iconst X33.here hx rfl (hb hby at_180) k) ?_
    refine own_st (B := T33.setTop (mkF m 184 #[.val (.int arg0), .val (.int arg1), .val (.int arg2), .val (.int v1), .val (.int v2), .val (.int v3), .val (.int v4), .val (.int v5), .val (.ref b6), .val (.int (0 : Int32)), .val (.ref b23), .val (.int v35), .unset, .unset] [])) (fun t k => XS.icmpNo X33.here hx rfl (hb hby at_181) rfl (by decide) k) ?_
    refine own_st (B := T33.setTop (mkF m 186 #[.val (.int arg0), .val (.int arg1), .val (.int arg2), .val (.int v1), .val (.int v2), .val (.int v3), .val (.int v4), .val (.int v5), .val (.ref b6), .val (.int (0 : Int32)), .val (.ref b23), .val (.int v35), .unset, .unset] [(.int v3)])) (fun t k => XS.iload X33.here hx rfl (hb hby at_184) rfl k) ?_
    obtain ⟨_, _, ⟨T37, L37, k37, j37⟩, -, X37, ⟨Lc37, hQ37, l37, y37_, z37_⟩, st37⟩ := Jvm.LawKit.callS X33 hx (y := (⟨"com/example/libentkey/libentkey/codec/KeyReaderSkipAsciiPinLaw", "ascii", "(B)Z"⟩ : MethodName)) hown (mvT hZ (w_20 hw)) (mvT hZ (w_21 hw)) (mvT hZ (w_22 hw)) (mvT hZ (w_23 hw)) (by decide) (backOf (W := 0) (rm4 l Z a0 hw [] v3 T27.heap n0 z28 ) hZ (w_23 hw) (w_22 hw) (by decide) (by decide)) (g := (mkF m 186 #[.val (.int arg0), .val (.int arg1), .val (.int arg2), .val (.int v1), .val (.int v2), .val (.int v3), .val (.int v4), .val (.int v5), .val (.ref b6), .val (.int (0 : Int32)), .val (.ref b23), .val (.int v35), .unset, .unset] [(.int v3)])) rfl (by rw [hml]; rfl) (argsL := [(.int v3)]) (rest := []) (lenOf own_pd3 rfl) rfl (by show 2 * 0 + _ ≤ _; exact Nat.le_of_eq rfl) (hb hby at_186) (fun _ _ => ⟨rfl, e33q, (by decide : 2 + 0 ≤ _), (by decide : 9 + 0 ≤ _)⟩)
    dsimp only [Pt.U, Pt.locs, Pt.cells, Pt.slots] at X37 l37 y37_ z37_ st37 hQ37
    subst l37 y37_ z37_
    obtain ⟨rfl, N37q, e37q⟩ := hQ37
    have N37 := Fr.app N33 N37q
    refine own_st (B := T37.setTop (mkF m 189 #[.val (.int arg0), .val (.int arg1), .val (.int arg2), .val (.int v1), .val (.int v2), .val (.int v3), .val (.int v4), .val (.int v5), .val (.ref b6), .val (.int (0 : Int32)), .val (.ref b23), .val (.int v35), .unset, .unset] [(.int (own_f4 v3))])) (fun t k => st37 t k) ?_
    refine own_cut (P := ∀ (v39 : Int32), (v39 = (if (own_f4 v3) = (0 : Int32) then (2 : Int32) else v35)) → own_Go p e below s (Q0 Z arg0 arg1 arg2 h0 n0) 16 128 (T37.setTop (mkF m 195 #[.val (.int arg0), .val (.int arg1), .val (.int arg2), .val (.int v1), .val (.int v2), .val (.int v3), .val (.int v4), .val (.int v5), .val (.ref b6), .val (.int (0 : Int32)), .val (.ref b23), .val (.int v39), .unset, .unset] []))) (fun J40 => ?_) ?_
    · by_cases hc38 : (own_f4 v3) = (0 : Int32)
      · refine own_st (B := T37.setTop (mkF m 192 #[.val (.int arg0), .val (.int arg1), .val (.int arg2), .val (.int v1), .val (.int v2), .val (.int v3), .val (.int v4), .val (.int v5), .val (.ref b6), .val (.int (0 : Int32)), .val (.ref b23), .val (.int v35), .unset, .unset] [])) (fun t k => XS.ifNo X37.here hx rfl (hb hby at_189) rfl (XT.i0_ne_f hc38) k) ?_
        refine own_st (B := T37.setTop (mkF m 193 #[.val (.int arg0), .val (.int arg1), .val (.int arg2), .val (.int v1), .val (.int v2), .val (.int v3), .val (.int v4), .val (.int v5), .val (.ref b6), .val (.int (0 : Int32)), .val (.ref b23), .val (.int v35), .unset, .unset] [(.int (2 : Int32))])) (fun t k => XS.iconst X37.here hx rfl (hb hby at_192) k) ?_
        refine own_st (B := T37.setTop (mkF m 195 #[.val (.int arg0), .val (.int arg1), .val (.int arg2), .val (.int v1), .val (.int v2), .val (.int v3), .val (.int v4), .val (.int v5), .val (.ref b6), .val (.int (0 : Int32)), .val (.ref b23), .val (.int (2 : Int32)), .unset, .unset] [])) (fun t k => XS.istore X37.here hx rfl (hb hby at_193) rfl (l' := #[.val (.int arg0), .val (.int arg1), .val (.int arg2), .val (.int v1), .val (.int v2), .val (.int v3), .val (.int v4), .val (.int v5), .val (.ref b6), .val (.int (0 : Int32)), .val (.ref b23), .val (.int (2 : Int32)), .unset, .unset]) rfl k) ?_
        exact J40 (2 : Int32) (by rw [if_pos hc38])
      · refine own_st (B := T37.setTop (mkF m 195 #[.val (.int arg0), .val (.int arg1), .val (.int arg2), .val (.int v1), .val (.int v2), .val (.int v3), .val (.int v4), .val (.int v5), .val (.ref b6), .val (.int (0 : Int32)), .val (.ref b23), .val (.int v35), .unset, .unset] [])) (fun t k => XS.ifYes X37.here hx rfl (pc0 := 189) (pc' := 195) rfl (hb hby at_189) rfl (XT.i0_ne_t hc38) (by decide) (by decide) k) ?_
        exact J40 v35 (by rw [if_neg hc38])
    intro v39 hv39
    refine own_st (B := T37.setTop (mkF m 197 #[.val (.int arg0), .val (.int arg1), .val (.int arg2), .val (.int v1), .val (.int v2), .val (.int v3), .val (.int v4), .val (.int v5), .val (.ref b6), .val (.int (0 : Int32)), .val (.ref b23), .val (.int v39), .unset, .unset] [(.int (0 : Int32))])) (fun t k => XS.iload X37.here hx rfl (hb hby at_195) rfl k) ?_
    refine own_st (B := T37.setTop (mkF m 198 #[.val (.int arg0), .val (.int arg1), .val (.int arg2), .val (.int v1), .val (.int v2), .val (.int v3), .val (.int v4), .val (.int v5), .val (.ref b6), .val (.int (0 : Int32)), .val (.ref b23), .val (.int v39), .unset, .unset] [(.int (1 : Int32)), (.int (0 : Int32))])) (fun t k => XS.iconst X37.here hx rfl (hb hby at_197) k) ?_
    refine own_st (B := T37.setTop (mkF m 201 #[.val (.int arg0), .val (.int arg1), .val (.int arg2), .val (.int v1), .val (.int v2), .val (.int v3), .val (.int v4), .val (.int v5), .val (.ref b6), .val (.int (0 : Int32)), .val (.ref b23), .val (.int v39), .unset, .unset] [])) (fun t k => XS.icmpNo X37.here hx rfl (hb hby at_198) rfl (by decide) k) ?_
    refine own_st (B := T37.setTop (mkF m 203 #[.val (.int arg0), .val (.int arg1), .val (.int arg2), .val (.int v1), .val (.int v2), .val (.int v3), .val (.int v4), .val (.int v5), .val (.ref b6), .val (.int (0 : Int32)), .val (.ref b23), .val (.int v39), .unset, .unset] [(.int v2)])) (fun t k => XS.iload X37.here hx rfl (hb hby at_201) rfl k) ?_
    obtain ⟨_, _, ⟨T41, L41, k41, j41⟩, -, X41, ⟨Lc41, hQ41, l41, y41_, z41_⟩, st41⟩ := Jvm.LawKit.callS X37 hx (y := (⟨"com/example/libentkey/libentkey/codec/KeyReaderSkipAsciiPinLaw", "ascii", "(B)Z"⟩ : MethodName)) hown (mvT hZ (w_20 hw)) (mvT hZ (w_21 hw)) (mvT hZ (w_22 hw)) (mvT hZ (w_23 hw)) (by decide) (backOf (W := 0) (rm4 l Z a0 hw [] v2 T27.heap n0 z28 ) hZ (w_23 hw) (w_22 hw) (by decide) (by decide)) (g := (mkF m 203 #[.val (.int arg0), .val (.int arg1), .val (.int arg2), .val (.int v1), .val (.int v2), .val (.int v3), .val (.int v4), .val (.int v5), .val (.ref b6), .val (.int (0 : Int32)), .val (.ref b23), .val (.int v39), .unset, .unset] [(.int v2)])) rfl (by rw [hml]; rfl) (argsL := [(.int v2)]) (rest := []) (lenOf own_pd3 rfl) rfl (by show 2 * 0 + _ ≤ _; exact Nat.le_of_eq rfl) (hb hby at_203) (fun _ _ => ⟨rfl, e37q, (by decide : 2 + 0 ≤ _), (by decide : 9 + 0 ≤ _)⟩)
    dsimp only [Pt.U, Pt.locs, Pt.cells, Pt.slots] at X41 l41 y41_ z41_ st41 hQ41
    subst l41 y41_ z41_
    obtain ⟨rfl, N41q, e41q⟩ := hQ41
    have N41 := Fr.app N37 N41q
    refine own_st (B := T41.setTop (mkF m 206 #[.val (.int arg0), .val (.int arg1), .val (.int arg2), .val (.int v1), .val (.int v2), .val (.int v3), .val (.int v4), .val (.int v5), .val (.ref b6), .val (.int (0 : Int32)), .val (.ref b23), .val (.int v39), .unset, .unset] [(.int (own_f4 v2))])) (fun t k => st41 t k) ?_
    refine own_cut (P := ∀ (v43 : Int32), (v43 = (if (own_f4 v2) = (0 : Int32) then (1 : Int32) else v39)) → own_Go p e below s (Q0 Z arg0 arg1 arg2 h0 n0) 16 128 (T41.setTop (mkF m 212 #[.val (.int arg0), .val (.int arg1), .val (.int arg2), .val (.int v1), .val (.int v2), .val (.int v3), .val (.int v4), .val (.int v5), .val (.ref b6), .val (.int (0 : Int32)), .val (.ref b23), .val (.int v43), .unset, .unset] []))) (fun J44 => ?_) ?_
    · by_cases hc42 : (own_f4 v2) = (0 : Int32)
      · refine own_st (B := T41.setTop (mkF m 209 #[.val (.int arg0), .val (.int arg1), .val (.int arg2), .val (.int v1), .val (.int v2), .val (.int v3), .val (.int v4), .val (.int v5), .val (.ref b6), .val (.int (0 : Int32)), .val (.ref b23), .val (.int v39), .unset, .unset] [])) (fun t k => XS.ifNo X41.here hx rfl (hb hby at_206) rfl (XT.i0_ne_f hc42) k) ?_
        refine own_st (B := T41.setTop (mkF m 210 #[.val (.int arg0), .val (.int arg1), .val (.int arg2), .val (.int v1), .val (.int v2), .val (.int v3), .val (.int v4), .val (.int v5), .val (.ref b6), .val (.int (0 : Int32)), .val (.ref b23), .val (.int v39), .unset, .unset] [(.int (1 : Int32))])) (fun t k => XS.iconst X41.here hx rfl (hb hby at_209) k) ?_
        refine own_st (B := T41.setTop (mkF m 212 #[.val (.int arg0), .val (.int arg1), .val (.int arg2), .val (.int v1), .val (.int v2), .val (.int v3), .val (.int v4), .val (.int v5), .val (.ref b6), .val (.int (0 : Int32)), .val (.ref b23), .val (.int (1 : Int32)), .unset, .unset] [])) (fun t k => XS.istore X41.here hx rfl (hb hby at_210) rfl (l' := #[.val (.int arg0), .val (.int arg1), .val (.int arg2), .val (.int v1), .val (.int v2), .val (.int v3), .val (.int v4), .val (.int v5), .val (.ref b6), .val (.int (0 : Int32)), .val (.ref b23), .val (.int (1 : Int32)), .unset, .unset]) rfl k) ?_
        exact J44 (1 : Int32) (by rw [if_pos hc42])
      · refine own_st (B := T41.setTop (mkF m 212 #[.val (.int arg0), .val (.int arg1), .val (.int arg2), .val (.int v1), .val (.int v2), .val (.int v3), .val (.int v4), .val (.int v5), .val (.ref b6), .val (.int (0 : Int32)), .val (.ref b23), .val (.int v39), .unset, .unset] [])) (fun t k => XS.ifYes X41.here hx rfl (pc0 := 206) (pc' := 212) rfl (hb hby at_206) rfl (XT.i0_ne_t hc42) (by decide) (by decide) k) ?_
        exact J44 v39 (by rw [if_neg hc42])
    intro v43 hv43
    refine own_st (B := T41.setTop (mkF m 214 #[.val (.int arg0), .val (.int arg1), .val (.int arg2), .val (.int v1), .val (.int v2), .val (.int v3), .val (.int v4), .val (.int v5), .val (.ref b6), .val (.int (0 : Int32)), .val (.ref b23), .val (.int v43), .unset, .unset] [(.int (0 : Int32))])) (fun t k => XS.iload X41.here hx rfl (hb hby at_212) rfl k) ?_
    refine own_st (B := T41.setTop (mkF m 217 #[.val (.int arg0), .val (.int arg1), .val (.int arg2), .val (.int v1), .val (.int v2), .val (.int v3), .val (.int v4), .val (.int v5), .val (.ref b6), .val (.int (0 : Int32)), .val (.ref b23), .val (.int v43), .unset, .unset] [])) (fun t k => XS.ifNo X41.here hx rfl (hb hby at_214) rfl (by decide) k) ?_
    refine own_st (B := T41.setTop (mkF m 218 #[.val (.int arg0), .val (.int arg1), .val (.int arg2), .val (.int v1), .val (.int v2), .val (.int v3), .val (.int v4), .val (.int v5), .val (.ref b6), .val (.int (0 : Int32)), .val (.ref b23), .val (.int v43), .unset, .unset] [(.int v1)])) (fun t k => XS.iloadN X41.here hx rfl (hb hby at_217) rfl k) ?_
    obtain ⟨_, _, ⟨T45, L45, k45, j45⟩, -, X45, ⟨Lc45, hQ45, l45, y45_, z45_⟩, st45⟩ := Jvm.LawKit.callS X41 hx (y := (⟨"com/example/libentkey/libentkey/codec/KeyReaderSkipAsciiPinLaw", "ascii", "(B)Z"⟩ : MethodName)) hown (mvT hZ (w_20 hw)) (mvT hZ (w_21 hw)) (mvT hZ (w_22 hw)) (mvT hZ (w_23 hw)) (by decide) (backOf (W := 0) (rm4 l Z a0 hw [] v1 T27.heap n0 z28 ) hZ (w_23 hw) (w_22 hw) (by decide) (by decide)) (g := (mkF m 218 #[.val (.int arg0), .val (.int arg1), .val (.int arg2), .val (.int v1), .val (.int v2), .val (.int v3), .val (.int v4), .val (.int v5), .val (.ref b6), .val (.int (0 : Int32)), .val (.ref b23), .val (.int v43), .unset, .unset] [(.int v1)])) rfl (by rw [hml]; rfl) (argsL := [(.int v1)]) (rest := []) (lenOf own_pd3 rfl) rfl (by show 2 * 0 + _ ≤ _; exact Nat.le_of_eq rfl) (hb hby at_218) (fun _ _ => ⟨rfl, e41q, (by decide : 2 + 0 ≤ _), (by decide : 9 + 0 ≤ _)⟩)
    dsimp only [Pt.U, Pt.locs, Pt.cells, Pt.slots] at X45 l45 y45_ z45_ st45 hQ45
    subst l45 y45_ z45_
    obtain ⟨rfl, N45q, e45q⟩ := hQ45
    have N45 := Fr.app N41 N45q
    refine own_st (B := T45.setTop (mkF m 221 #[.val (.int arg0), .val (.int arg1), .val (.int arg2), .val (.int v1), .val (.int v2), .val (.int v3), .val (.int v4), .val (.int v5), .val (.ref b6), .val (.int (0 : Int32)), .val (.ref b23), .val (.int v43), .unset, .unset] [(.int (own_f4 v1))])) (fun t k => st45 t k) ?_
    refine own_cut (P := ∀ (v47 : Int32), (v47 = (if (own_f4 v1) = (0 : Int32) then (0 : Int32) else v43)) → own_Go p e below s (Q0 Z arg0 arg1 arg2 h0 n0) 16 128 (T45.setTop (mkF m 227 #[.val (.int arg0), .val (.int arg1), .val (.int arg2), .val (.int v1), .val (.int v2), .val (.int v3), .val (.int v4), .val (.int v5), .val (.ref b6), .val (.int (0 : Int32)), .val (.ref b23), .val (.int v47), .unset, .unset] []))) (fun J48 => ?_) ?_
    · by_cases hc46 : (own_f4 v1) = (0 : Int32)
      · refine own_st (B := T45.setTop (mkF m 224 #[.val (.int arg0), .val (.int arg1), .val (.int arg2), .val (.int v1), .val (.int v2), .val (.int v3), .val (.int v4), .val (.int v5), .val (.ref b6), .val (.int (0 : Int32)), .val (.ref b23), .val (.int v43), .unset, .unset] [])) (fun t k => XS.ifNo X45.here hx rfl (hb hby at_221) rfl (XT.i0_ne_f hc46) k) ?_
        refine own_st (B := T45.setTop (mkF m 225 #[.val (.int arg0), .val (.int arg1), .val (.int arg2), .val (.int v1), .val (.int v2), .val (.int v3), .val (.int v4), .val (.int v5), .val (.ref b6), .val (.int (0 : Int32)), .val (.ref b23), .val (.int v43), .unset, .unset] [(.int (0 : Int32))])) (fun t k => XS.iconst X45.here hx rfl (hb hby at_224) k) ?_
        refine own_st (B := T45.setTop (mkF m 227 #[.val (.int arg0), .val (.int arg1), .val (.int arg2), .val (.int v1), .val (.int v2), .val (.int v3), .val (.int v4), .val (.int v5), .val (.ref b6), .val (.int (0 : Int32)), .val (.ref b23), .val (.int (0 : Int32)), .unset, .unset] [])) (fun t k => XS.istore X45.here hx rfl (hb hby at_225) rfl (l' := #[.val (.int arg0), .val (.int arg1), .val (.int arg2), .val (.int v1), .val (.int v2), .val (.int v3), .val (.int v4), .val (.int v5), .val (.ref b6), .val (.int (0 : Int32)), .val (.ref b23), .val (.int (0 : Int32)), .unset, .unset]) rfl k) ?_
        exact J48 (0 : Int32) (by rw [if_pos hc46])
      · refine own_st (B := T45.setTop (mkF m 227 #[.val (.int arg0), .val (.int arg1), .val (.int arg2), .val (.int v1), .val (.int v2), .val (.int v3), .val (.int v4), .val (.int v5), .val (.ref b6), .val (.int (0 : Int32)), .val (.ref b23), .val (.int v43), .unset, .unset] [])) (fun t k => XS.ifYes X45.here hx rfl (pc0 := 221) (pc' := 227) rfl (hb hby at_221) rfl (XT.i0_ne_t hc46) (by decide) (by decide) k) ?_
        exact J48 v43 (by rw [if_neg hc46])
    intro v47 hv47
    refine own_st (B := T45.setTop (mkF m 229 #[.val (.int arg0), .val (.int arg1), .val (.int arg2), .val (.int v1), .val (.int v2), .val (.int v3), .val (.int v4), .val (.int v5), .val (.ref b6), .val (.int (0 : Int32)), .val (.ref b23), .val (.int v47), .unset, .unset] [(.ref b23)])) (fun t k => XS.aload X45.here hx rfl (hb hby at_227) rfl rfl k) ?_
    have f49 : own_A Z T27.heap b6 .byte [(.int (v1.toInt8.toInt32)), (.int (v2.toInt8.toInt32)), (.int (v3.toInt8.toInt32)), (.int (v4.toInt8.toInt32)), (.int (v5.toInt8.toInt32))] := ((f20_.ext E23).keep K27 (ninS q23_b6 nin0))
    obtain ⟨cq50, kq50, q50a, q50b, q50c⟩ := isOf hZ e45q p27_0
    obtain ⟨_, _, ⟨T50, L50, k50, j50⟩, -, X50, ⟨Lc50, hQ50, l50, y50_, z50_⟩, st50⟩ := X45.virtualBack hx (y := (⟨"com/example/libentkey/libentkey/codec/KeyReader", "skipAscii", "()V"⟩ : MethodName)) (z := (⟨"com/example/libentkey/libentkey/codec/KeyReader", "skipAscii", "()V"⟩ : MethodName)) hown (mvT hZ (w_24 hw)) (mvT hZ (w_25 hw)) (notFace_of_selects (args := #[]) (mvT hZ (w_27 hw))) (mvT hZ (w_27 hw)) (mvT hZ (w_26 hw)) (by decide) (backOf (W := 0) (rm5 l Z a0 hw [] b23 b6 (0 : Int32) [(v1.toInt8.toInt32), (v2.toInt8.toInt32), (v3.toInt8.toInt32), (v4.toInt8.toInt32), (v5.toInt8.toInt32)] T27.heap n0 z28 p27_0 p27_1 p27_2 f49 u23 (show 0 ≤ (0 : Int32).toInt ∧ (0 : Int32).toInt ≤ ((5 : Nat) : Int) from by decide) (show [(v1.toInt8.toInt32), (v2.toInt8.toInt32), (v3.toInt8.toInt32), (v4.toInt8.toInt32), (v5.toInt8.toInt32)].length < 1000 from (by decide : 5 < 1000))) hZ (w_28 hw) (w_4 hw) (by decide) (by decide)) q50a q50c (g := (mkF m 229 #[.val (.int arg0), .val (.int arg1), .val (.int arg2), .val (.int v1), .val (.int v2), .val (.int v3), .val (.int v4), .val (.int v5), .val (.ref b6), .val (.int (0 : Int32)), .val (.ref b23), .val (.int v47), .unset, .unset] [(.ref b23)])) rfl (by rw [hml]; rfl) (Steps.refl _) (argsL := []) (rest := []) (lenOf own_pd4 rfl) rfl (by show 2 * 0 + _ ≤ _; exact Nat.le_of_eq rfl) (hb hby at_229) (fun _ _ => ⟨rfl, e45q, (by decide : 2 + 0 ≤ _), (by decide : 9 + 0 ≤ _)⟩)
    dsimp only [Pt.U, Pt.locs, Pt.cells, Pt.slots] at X50 l50 y50_ z50_ st50 hQ50
    subst l50 y50_ z50_
    obtain ⟨q_50, rfl, N50q, K50, p50_0, p50_1, p50_2, r50_0⟩ := hQ50
    have N50 := Fr.app N45 N50q
    have z51 : n0 ≤ T50.heap.size := Nat.le_trans z28 K50.1
    refine own_ss (B := T50.setTop (mkF m 232 #[.val (.int arg0), .val (.int arg1), .val (.int arg2), .val (.int v1), .val (.int v2), .val (.int v3), .val (.int v4), .val (.int v5), .val (.ref b6), .val (.int (0 : Int32)), .val (.ref b23), .val (.int v47), .unset, .unset] [])) st50 ?_
    refine own_st (B := T50.setTop (mkF m 234 #[.val (.int arg0), .val (.int arg1), .val (.int arg2), .val (.int v1), .val (.int v2), .val (.int v3), .val (.int v4), .val (.int v5), .val (.ref b6), .val (.int (0 : Int32)), .val (.ref b23), .val (.int v47), .unset, .unset] [(.ref b23)])) (fun t k => XS.aload X50.here hx rfl (hb hby at_232) rfl rfl k) ?_
    obtain ⟨cq52, kq52, q52a, q52b, q52c⟩ := isOf hZ rfl p50_0
    obtain ⟨_, _, ⟨T52, L52, k52, j52⟩, -, X52, ⟨Lc52, hQ52, l52, y52_, z52_⟩, st52⟩ := X50.virtualBack hx (y := (⟨"com/example/libentkey/libentkey/codec/KeyReader", "position", "()I"⟩ : MethodName)) (z := (⟨"com/example/libentkey/libentkey/codec/KeyReader", "position", "()I"⟩ : MethodName)) hown (mvT hZ (w_29 hw)) (mvT hZ (w_30 hw)) (notFace_of_selects (args := #[]) (mvT hZ (w_32 hw))) (mvT hZ (w_32 hw)) (mvT hZ (w_31 hw)) (by decide) (backOf (W := 0) (rm6 l Z a0 hw [] b23 q_50 T50.heap n0 z51 p50_2) hZ (w_33 hw) (w_4 hw) (by decide) (by decide)) q52a q52c (g := (mkF m 234 #[.val (.int arg0), .val (.int arg1), .val (.int arg2), .val (.int v1), .val (.int v2), .val (.int v3), .val (.int v4), .val (.int v5), .val (.ref b6), .val (.int (0 : Int32)), .val (.ref b23), .val (.int v47), .unset, .unset] [(.ref b23)])) rfl (by rw [hml]; rfl) (Steps.refl _) (argsL := []) (rest := []) (lenOf own_pd5 rfl) rfl (by show 2 * 0 + _ ≤ _; exact Nat.le_of_eq rfl) (hb hby at_234) (fun _ _ => ⟨rfl, rfl, (by decide : 2 + 0 ≤ _), (by decide : 9 + 0 ≤ _)⟩)
    dsimp only [Pt.U, Pt.locs, Pt.cells, Pt.slots] at X52 l52 y52_ z52_ st52 hQ52
    subst l52 y52_ z52_
    obtain ⟨rfl, N52q, e52q⟩ := hQ52
    have N52 := Fr.app N50 N52q
    refine own_ss (B := T52.setTop (mkF m 237 #[.val (.int arg0), .val (.int arg1), .val (.int arg2), .val (.int v1), .val (.int v2), .val (.int v3), .val (.int v4), .val (.int v5), .val (.ref b6), .val (.int (0 : Int32)), .val (.ref b23), .val (.int v47), .unset, .unset] [(.int q_50)])) st52 ?_
    refine own_st (B := T52.setTop (mkF m 239 #[.val (.int arg0), .val (.int arg1), .val (.int arg2), .val (.int v1), .val (.int v2), .val (.int v3), .val (.int v4), .val (.int v5), .val (.ref b6), .val (.int (0 : Int32)), .val (.ref b23), .val (.int v47), .val (.int q_50), .unset] [])) (fun t k => XS.istore X52.here hx rfl (hb hby at_237) rfl (l' := #[.val (.int arg0), .val (.int arg1), .val (.int arg2), .val (.int v1), .val (.int v2), .val (.int v3), .val (.int v4), .val (.int v5), .val (.ref b6), .val (.int (0 : Int32)), .val (.ref b23), .val (.int v47), .val (.int q_50), .unset]) rfl k) ?_
    refine own_st (B := T52.setTop (mkF m 241 #[.val (.int arg0), .val (.int arg1), .val (.int arg2), .val (.int v1), .val (.int v2), .val (.int v3), .val (.int v4), .val (.int v5), .val (.ref b6), .val (.int (0 : Int32)), .val (.ref b23), .val (.int v47), .val (.int q_50), .unset] [(.ref b23)])) (fun t k => XS.aload X52.here hx rfl (hb hby at_239) rfl rfl k) ?_
    have f53 : own_A Z T50.heap b6 .byte [(.int (v1.toInt8.toInt32)), (.int (v2.toInt8.toInt32)), (.int (v3.toInt8.toInt32)), (.int (v4.toInt8.toInt32)), (.int (v5.toInt8.toInt32))] := (f49.keep K50 (ninS q23_b6 nin0))
    obtain ⟨cq54, kq54, q54a, q54b, q54c⟩ := isOf hZ e52q p50_0
    obtain ⟨_, _, ⟨T54, L54, k54, j54⟩, -, X54, ⟨Lc54, hQ54, l54, y54_, z54_⟩, st54⟩ := X52.virtualBack hx (y := (⟨"com/example/libentkey/libentkey/codec/KeyReader", "skipAscii", "()V"⟩ : MethodName)) (z := (⟨"com/example/libentkey/libentkey/codec/KeyReader", "skipAscii", "()V"⟩ : MethodName)) hown (mvT hZ (w_24 hw)) (mvT hZ (w_25 hw)) (notFace_of_selects (args := #[]) (mvT hZ (w_27 hw))) (mvT hZ (w_27 hw)) (mvT hZ (w_26 hw)) (by decide) (backOf (W := 0) (rm5 l Z a0 hw [] b23 b6 q_50 [(v1.toInt8.toInt32), (v2.toInt8.toInt32), (v3.toInt8.toInt32), (v4.toInt8.toInt32), (v5.toInt8.toInt32)] T50.heap n0 z51 p50_0 p50_1 p50_2 f53 u23 (show 0 ≤ q_50.toInt ∧ q_50.toInt ≤ ([(v1.toInt8.toInt32), (v2.toInt8.toInt32), (v3.toInt8.toInt32), (v4.toInt8.toInt32), (v5.toInt8.toInt32)].length : Int) by have h1 := own_bnd_0 r50_0; exact ⟨by omega, by show _ ≤ ((5 : Nat) : Int); omega⟩) (show [(v1.toInt8.toInt32), (v2.toInt8.toInt32), (v3.toInt8.toInt32), (v4.toInt8.toInt32), (v5.toInt8.toInt32)].length < 1000 from (by decide : 5 < 1000))) hZ (w_28 hw) (w_4 hw) (by decide) (by decide)) q54a q54c (g := (mkF m 241 #[.val (.int arg0), .val (.int arg1), .val (.int arg2), .val (.int v1), .val (.int v2), .val (.int v3), .val (.int v4), .val (.int v5), .val (.ref b6), .val (.int (0 : Int32)), .val (.ref b23), .val (.int v47), .val (.int q_50), .unset] [(.ref b23)])) rfl (by rw [hml]; rfl) (Steps.refl _) (argsL := []) (rest := []) (lenOf own_pd4 rfl) rfl (by show 2 * 0 + _ ≤ _; exact Nat.le_of_eq rfl) (hb hby at_241) (fun _ _ => ⟨rfl, e52q, (by decide : 2 + 0 ≤ _), (by decide : 9 + 0 ≤ _)⟩)
    dsimp only [Pt.U, Pt.locs, Pt.cells, Pt.slots] at X54 l54 y54_ z54_ st54 hQ54
    subst l54 y54_ z54_
    obtain ⟨q_54, rfl, N54q, K54, p54_0, p54_1, p54_2, r54_0⟩ := hQ54
    have N54 := Fr.app N52 N54q
    have z55 : n0 ≤ T54.heap.size := Nat.le_trans z51 K54.1
    refine own_ss (B := T54.setTop (mkF m 244 #[.val (.int arg0), .val (.int arg1), .val (.int arg2), .val (.int v1), .val (.int v2), .val (.int v3), .val (.int v4), .val (.int v5), .val (.ref b6), .val (.int (0 : Int32)), .val (.ref b23), .val (.int v47), .val (.int q_50), .unset] [])) st54 ?_
    refine own_st (B := T54.setTop (mkF m 246 #[.val (.int arg0), .val (.int arg1), .val (.int arg2), .val (.int v1), .val (.int v2), .val (.int v3), .val (.int v4), .val (.int v5), .val (.ref b6), .val (.int (0 : Int32)), .val (.ref b23), .val (.int v47), .val (.int q_50), .unset] [(.ref b23)])) (fun t k => XS.aload X54.here hx rfl (hb hby at_244) rfl rfl k) ?_
    obtain ⟨cq56, kq56, q56a, q56b, q56c⟩ := isOf hZ rfl p54_0
    obtain ⟨_, _, ⟨T56, L56, k56, j56⟩, -, X56, ⟨Lc56, hQ56, l56, y56_, z56_⟩, st56⟩ := X54.virtualBack hx (y := (⟨"com/example/libentkey/libentkey/codec/KeyReader", "position", "()I"⟩ : MethodName)) (z := (⟨"com/example/libentkey/libentkey/codec/KeyReader", "position", "()I"⟩ : MethodName)) hown (mvT hZ (w_29 hw)) (mvT hZ (w_30 hw)) (notFace_of_selects (args := #[]) (mvT hZ (w_32 hw))) (mvT hZ (w_32 hw)) (mvT hZ (w_31 hw)) (by decide) (backOf (W := 0) (rm6 l Z a0 hw [] b23 q_54 T54.heap n0 z55 p54_2) hZ (w_33 hw) (w_4 hw) (by decide) (by decide)) q56a q56c (g := (mkF m 246 #[.val (.int arg0), .val (.int arg1), .val (.int arg2), .val (.int v1), .val (.int v2), .val (.int v3), .val (.int v4), .val (.int v5), .val (.ref b6), .val (.int (0 : Int32)), .val (.ref b23), .val (.int v47), .val (.int q_50), .unset] [(.ref b23)])) rfl (by rw [hml]; rfl) (Steps.refl _) (argsL := []) (rest := []) (lenOf own_pd5 rfl) rfl (by show 2 * 0 + _ ≤ _; exact Nat.le_of_eq rfl) (hb hby at_246) (fun _ _ => ⟨rfl, rfl, (by decide : 2 + 0 ≤ _), (by decide : 9 + 0 ≤ _)⟩)
    dsimp only [Pt.U, Pt.locs, Pt.cells, Pt.slots] at X56 l56 y56_ z56_ st56 hQ56
    subst l56 y56_ z56_
    obtain ⟨rfl, N56q, e56q⟩ := hQ56
    have N56 := Fr.app N54 N56q
    refine own_ss (B := T56.setTop (mkF m 249 #[.val (.int arg0), .val (.int arg1), .val (.int arg2), .val (.int v1), .val (.int v2), .val (.int v3), .val (.int v4), .val (.int v5), .val (.ref b6), .val (.int (0 : Int32)), .val (.ref b23), .val (.int v47), .val (.int q_50), .unset] [(.int q_54)])) st56 ?_
    refine own_st (B := T56.setTop (mkF m 251 #[.val (.int arg0), .val (.int arg1), .val (.int arg2), .val (.int v1), .val (.int v2), .val (.int v3), .val (.int v4), .val (.int v5), .val (.ref b6), .val (.int (0 : Int32)), .val (.ref b23), .val (.int v47), .val (.int q_50), .val (.int q_54)] [])) (fun t k => XS.istore X56.here hx rfl (hb hby at_249) rfl (l' := #[.val (.int arg0), .val (.int arg1), .val (.int arg2), .val (.int v1), .val (.int v2), .val (.int v3), .val (.int v4), .val (.int v5), .val (.ref b6), .val (.int (0 : Int32)), .val (.ref b23), .val (.int v47), .val (.int q_50), .val (.int q_54)]) rfl k) ?_
    refine own_st (B := T56.setTop (mkF m 253 #[.val (.int arg0), .val (.int arg1), .val (.int arg2), .val (.int v1), .val (.int v2), .val (.int v3), .val (.int v4), .val (.int v5), .val (.ref b6), .val (.int (0 : Int32)), .val (.ref b23), .val (.int v47), .val (.int q_50), .val (.int q_54)] [(.int q_50)])) (fun t k => XS.iload X56.here hx rfl (hb hby at_251) rfl k) ?_
    refine own_st (B := T56.setTop (mkF m 255 #[.val (.int arg0), .val (.int arg1), .val (.int arg2), .val (.int v1), .val (.int v2), .val (.int v3), .val (.int v4), .val (.int v5), .val (.ref b6), .val (.int (0 : Int32)), .val (.ref b23), .val (.int v47), .val (.int q_50), .val (.int q_54)] [(.int v47), (.int q_50)])) (fun t k => XS.iload X56.here hx rfl (hb hby at_253) rfl k) ?_
    have hc57 : q_50 = v47 := by
      refine Int32.toInt_inj.mp (r50_0.trans ?_)
      exact (show v47.toInt = _ from (own_rs (k := 0) ev1 rfl (own_rs (k := 1) ev2 rfl (own_rs (k := 2) ev3 rfl (own_rs (k := 3) ev4 rfl (own_rs (k := 4) ev5 rfl rfl hv31) hv35) hv39) hv43) hv47)).symm
    refine own_st (B := T56.setTop (mkF m 258 #[.val (.int arg0), .val (.int arg1), .val (.int arg2), .val (.int v1), .val (.int v2), .val (.int v3), .val (.int v4), .val (.int v5), .val (.ref b6), .val (.int (0 : Int32)), .val (.ref b23), .val (.int v47), .val (.int q_50), .val (.int q_54)] [])) (fun t k => XS.icmpNo X56.here hx rfl (hb hby at_255) rfl (XT.ii_ne_f hc57) k) ?_
    refine own_st (B := T56.setTop (mkF m 260 #[.val (.int arg0), .val (.int arg1), .val (.int arg2), .val (.int v1), .val (.int v2), .val (.int v3), .val (.int v4), .val (.int v5), .val (.ref b6), .val (.int (0 : Int32)), .val (.ref b23), .val (.int v47), .val (.int q_50), .val (.int q_54)] [(.int q_54)])) (fun t k => XS.iload X56.here hx rfl (hb hby at_258) rfl k) ?_
    refine own_st (B := T56.setTop (mkF m 262 #[.val (.int arg0), .val (.int arg1), .val (.int arg2), .val (.int v1), .val (.int v2), .val (.int v3), .val (.int v4), .val (.int v5), .val (.ref b6), .val (.int (0 : Int32)), .val (.ref b23), .val (.int v47), .val (.int q_50), .val (.int q_54)] [(.int v47), (.int q_54)])) (fun t k => XS.iload X56.here hx rfl (hb hby at_260) rfl k) ?_
    have hc58 : q_54 = v47 := by
      refine Eq.trans (Int32.toInt_inj.mp ?_) hc57
      have b1 := own_bnd_0 r50_0
      have e2 := r54_0
      have e3 : q_50.toInt.toNat = 0 + own_run (([(v1.toInt8.toInt32), (v2.toInt8.toInt32), (v3.toInt8.toInt32), (v4.toInt8.toInt32), (v5.toInt8.toInt32)] : List Int32).drop 0) := by
        have e4 := r50_0
        show _ = _
        exact own_nat_0 e4
      rw [e3, own_run_again] at e2
      omega
    refine own_st (B := T56.setTop (mkF m 265 #[.val (.int arg0), .val (.int arg1), .val (.int arg2), .val (.int v1), .val (.int v2), .val (.int v3), .val (.int v4), .val (.int v5), .val (.ref b6), .val (.int (0 : Int32)), .val (.ref b23), .val (.int v47), .val (.int q_50), .val (.int q_54)] [])) (fun t k => XS.icmpNo X56.here hx rfl (hb hby at_262) rfl (XT.ii_ne_f hc58) k) ?_
    refine own_st (B := T56.setTop (mkF m 266 #[.val (.int arg0), .val (.int arg1), .val (.int arg2), .val (.int v1), .val (.int v2), .val (.int v3), .val (.int v4), .val (.int v5), .val (.ref b6), .val (.int (0 : Int32)), .val (.ref b23), .val (.int v47), .val (.int q_50), .val (.int q_54)] [(.int (1 : Int32))])) (fun t k => XS.iconst X56.here hx rfl (hb hby at_265) k) ?_
    refine own_st (B := T56.setTop (mkF m 270 #[.val (.int arg0), .val (.int arg1), .val (.int arg2), .val (.int v1), .val (.int v2), .val (.int v3), .val (.int v4), .val (.int v5), .val (.ref b6), .val (.int (0 : Int32)), .val (.ref b23), .val (.int v47), .val (.int q_50), .val (.int q_54)] [(.int (1 : Int32))])) (fun t k => XS.goto X56.here hx rfl (pc0 := 266) (pc' := 270) rfl (hb hby at_266) (by decide) (by decide) k) ?_
    refine own_retN X56 hx hlk (t := .boolean) Bd.returns (by simp) (z' := (1 : Int32)) rfl (hb hby at_270) (by decide) (by decide) ?_
    show Q0 Z arg0 arg1 arg2 h0 n0 _ T56.heap _
    rw [e56q]
    exact ⟨rfl, N56⟩
  · rw [hn]
    refine own_st (B := T20.setTop (mkF m 71 #[.val (.int arg0), .val (.int arg1), .val (.int arg2), .val (.int v1), .val (.int v2), .val (.int v3), .val (.int v4), .val (.int v5), .val (.ref b6), .val (.int (1 : Int32)), .unset, .unset, .unset, .unset] [])) (fun t k => XS.istore X20.here hx rfl (hb hby at_69) rfl (l' := #[.val (.int arg0), .val (.int arg1), .val (.int arg2), .val (.int v1), .val (.int v2), .val (.int v3), .val (.int v4), .val (.int v5), .val (.ref b6), .val (.int (1 : Int32)), .unset, .unset, .unset, .unset]) rfl k) ?_
    obtain ⟨T59, h59, X59, e59, E59, A59, D59, -, st59⟩ := newO X20 hx hZ hown (w_2 hw) (w_3 hw) (w_4 hw) e20 (g := (mkF m 71 #[.val (.int arg0), .val (.int arg1), .val (.int arg2), .val (.int v1), .val (.int v2), .val (.int v3), .val (.int v4), .val (.int v5), .val (.ref b6), .val (.int (1 : Int32)), .unset, .unset, .unset, .unset] [])) rfl (hb hby at_71) (by decide) (by decide)
    obtain ⟨b59, g59⟩ : ∃ z, z = h20.size := ⟨_, rfl⟩
    rw [← g59] at A59 D59 st59
    have q59_b6 : b6 ≠ b59 := Nat.ne_of_lt (Nat.lt_of_lt_of_le f20_.lt (Nat.le_of_eq g59.symm))
    have u59 : n0 ≤ b59 := Nat.le_trans z21 (Nat.le_of_eq g59.symm)
    have z60 : n0 ≤ h59.size := Nat.le_trans z21 E59.1
    have f61 : Fld Z h59 b59 "com/example/libentkey/libentkey/codec/KeyReader" "key" "[B" .null := D59 (Or.inr (w_12 hw)) (ty := (.array .byte)) (by decide)
    have f62 : Fld Z h59 b59 "com/example/libentkey/libentkey/codec/KeyReader" "position" "I" (.int (0 : Int32)) := D59 (Or.inl (w_19 hw)) (ty := .int) (by decide)
    refine own_st (B := T59.setTop (mkF m 74 #[.val (.int arg0), .val (.int arg1), .val (.int arg2), .val (.int v1), .val (.int v2), .val (.int v3), .val (.int v4), .val (.int v5), .val (.ref b6), .val (.int (1 : Int32)), .unset, .unset, .unset, .unset] [(.ref b59)])) (fun t k => st59 t k) ?_
    refine own_st (B := T59.setTop (mkF m 75 #[.val (.int arg0), .val (.int arg1), .val (.int arg2), .val (.int v1), .val (.int v2), .val (.int v3), .val (.int v4), .val (.int v5), .val (.ref b6), .val (.int (1 : Int32)), .unset, .unset, .unset, .unset] [(.ref b59), (.ref b59)])) (fun t k => XS.dup X59.here hx rfl (hb hby at_74) rfl rfl k) ?_
    refine own_st (B := T59.setTop (mkF m 77 #[.val (.int arg0), .val (.int arg1), .val (.int arg2), .val (.int v1), .val (.int v2), .val (.int v3), .val (.int v4), .val (.int v5), .val (.ref b6), .val (.int (1 : Int32)), .unset, .unset, .unset, .unset] [(.ref b6), (.ref b59), (.ref b59)])) (fun t k => XS.aload X59.here hx rfl (hb hby at_75) rfl rfl k) ?_
    obtain ⟨_, _, ⟨T63, L63, k63, j63⟩, -, X63, ⟨Lc63, hQ63, l63, y63_, z63_⟩, st63⟩ := X59.specialBack hx (y := (⟨"com/example/libentkey/libentkey/codec/KeyReader", "<init>", "([B)V"⟩ : MethodName)) rfl hown (mvT hZ (w_5 hw)) (mvT hZ (w_6 hw)) (mvT hZ (w_7 hw)) (by decide) (backOf (W := 1) (rm1 l Z a0 hw [] b59 b6 h59 n0 z60 A59 f61 f62 u59) hZ (w_7 hw) (w_4 hw) (by decide) (by decide)) (g := (mkF m 77 #[.val (.int arg0), .val (.int arg1), .val (.int arg2), .val (.int v1), .val (.int v2), .val (.int v3), .val (.int v4), .val (.int v5), .val (.ref b6), .val (.int (1 : Int32)), .unset, .unset, .unset, .unset] [(.ref b6), (.ref b59), (.ref b59)])) rfl (by rw [hml]; rfl) (Steps.refl _) (a := b59) (argsL := [(.ref b6)]) (rest := [(.ref b59)]) (lenOf own_pd2 rfl) rfl (by show 2 * 0 + _ ≤ _; exact Nat.le_of_eq rfl) (hb hby at_77) (fun _ _ => ⟨rfl, e59, (by decide : 2 + 0 ≤ _), (by decide : 9 + 0 ≤ _)⟩)
    dsimp only [Pt.U, Pt.locs, Pt.cells, Pt.slots] at X63 l63 y63_ z63_ st63 hQ63
    subst l63 y63_ z63_
    obtain ⟨rfl, N63q, K63, p63_0, p63_1, p63_2⟩ := hQ63
    have N63 := Fr.app n22 N63q
    have z64 : n0 ≤ T63.heap.size := Nat.le_trans z60 K63.1
    refine own_ss (B := T63.setTop (mkF m 80 #[.val (.int arg0), .val (.int arg1), .val (.int arg2), .val (.int v1), .val (.int v2), .val (.int v3), .val (.int v4), .val (.int v5), .val (.ref b6), .val (.int (1 : Int32)), .unset, .unset, .unset, .unset] [(.ref b59)])) st63 ?_
    refine own_st (B := T63.setTop (mkF m 82 #[.val (.int arg0), .val (.int arg1), .val (.int arg2), .val (.int v1), .val (.int v2), .val (.int v3), .val (.int v4), .val (.int v5), .val (.ref b6), .val (.int (1 : Int32)), .val (.ref b59), .unset, .unset, .unset] [])) (fun t k => XS.astore X63.here hx rfl (hb hby at_80) rfl rfl (l' := #[.val (.int arg0), .val (.int arg1), .val (.int arg2), .val (.int v1), .val (.int v2), .val (.int v3), .val (.int v4), .val (.int v5), .val (.ref b6), .val (.int (1 : Int32)), .val (.ref b59), .unset, .unset, .unset]) rfl k) ?_
    refine own_st (B := T63.setTop (mkF m 84 #[.val (.int arg0), .val (.int arg1), .val (.int arg2), .val (.int v1), .val (.int v2), .val (.int v3), .val (.int v4), .val (.int v5), .val (.ref b6), .val (.int (1 : Int32)), .val (.ref b59), .unset, .unset, .unset] [(.int (1 : Int32))])) (fun t k => XS.iload X63.here hx rfl (hb hby at_82) rfl k) ?_
    refine own_st (B := T63.setTop (mkF m 87 #[.val (.int arg0), .val (.int arg1), .val (.int arg2), .val (.int v1), .val (.int v2), .val (.int v3), .val (.int v4), .val (.int v5), .val (.ref b6), .val (.int (1 : Int32)), .val (.ref b59), .unset, .unset, .unset] [])) (fun t k => XS.ifNo X63.here hx rfl (hb hby at_84) rfl (by decide) k) ?_
    refine own_st (B := T63.setTop (mkF m 89 #[.val (.int arg0), .val (.int arg1), .val (.int arg2), .val (.int v1), .val (.int v2), .val (.int v3), .val (.int v4), .val (.int v5), .val (.ref b6), .val (.int (1 : Int32)), .val (.ref b59), .unset, .unset, .unset] [(.ref b59)])) (fun t k => XS.aload X63.here hx rfl (hb hby at_87) rfl rfl k) ?_
    have f65 : own_A Z T63.heap b6 .byte [(.int (v1.toInt8.toInt32)), (.int (v2.toInt8.toInt32)), (.int (v3.toInt8.toInt32)), (.int (v4.toInt8.toInt32)), (.int (v5.toInt8.toInt32))] := ((f20_.ext E59).keep K63 (ninS q59_b6 nin0))
    obtain ⟨cq66, kq66, q66a, q66b, q66c⟩ := isOf hZ rfl p63_0
    obtain ⟨_, _, ⟨T66, L66, k66, j66⟩, -, X66, ⟨Lc66, hQ66, l66, y66_, z66_⟩, st66⟩ := X63.virtualBack hx (y := (⟨"com/example/libentkey/libentkey/codec/KeyReader", "next", "()I"⟩ : MethodName)) (z := (⟨"com/example/libentkey/libentkey/codec/KeyReader", "next", "()I"⟩ : MethodName)) hown (mvT hZ (w_13 hw)) (mvT hZ (w_14 hw)) (notFace_of_selects (args := #[]) (mvT hZ (w_16 hw))) (mvT hZ (w_16 hw)) (mvT hZ (w_15 hw)) (by decide) (backOf (W := 0) (rm3 l Z a0 hw [] b59 b6 (0 : Int32) [(v1.toInt8.toInt32), (v2.toInt8.toInt32), (v3.toInt8.toInt32), (v4.toInt8.toInt32), (v5.toInt8.toInt32)] T63.heap n0 z64 p63_0 p63_1 p63_2 f65 u59 q59_b6 (show 0 ≤ (0 : Int32).toInt ∧ (0 : Int32).toInt < ((5 : Nat) : Int) from by decide) (show [(v1.toInt8.toInt32), (v2.toInt8.toInt32), (v3.toInt8.toInt32), (v4.toInt8.toInt32), (v5.toInt8.toInt32)].length < 1000 from (by decide : 5 < 1000))) hZ (w_17 hw) (w_4 hw) (by decide) (by decide)) q66a q66c (g := (mkF m 89 #[.val (.int arg0), .val (.int arg1), .val (.int arg2), .val (.int v1), .val (.int v2), .val (.int v3), .val (.int v4), .val (.int v5), .val (.ref b6), .val (.int (1 : Int32)), .val (.ref b59), .unset, .unset, .unset] [(.ref b59)])) rfl (by rw [hml]; rfl) (Steps.refl _) (argsL := []) (rest := []) (lenOf own_pd5 rfl) rfl (by show 2 * 0 + _ ≤ _; exact Nat.le_of_eq rfl) (hb hby at_89) (fun _ _ => ⟨rfl, rfl, (by decide : 2 + 0 ≤ _), (by decide : 9 + 0 ≤ _)⟩)
    dsimp only [Pt.U, Pt.locs, Pt.cells, Pt.slots] at X66 l66 y66_ z66_ st66 hQ66
    subst l66 y66_ z66_
    obtain ⟨rfl, N66q, K66, p66_0, p66_1, p66_2⟩ := hQ66
    have N66 := Fr.app N63 N66q
    have z67 : n0 ≤ T66.heap.size := Nat.le_trans z64 K66.1
    refine own_ss (B := T66.setTop (mkF m 92 #[.val (.int arg0), .val (.int arg1), .val (.int arg2), .val (.int v1), .val (.int v2), .val (.int v3), .val (.int v4), .val (.int v5), .val (.ref b6), .val (.int (1 : Int32)), .val (.ref b59), .unset, .unset, .unset] [(.int (([(v1.toInt8.toInt32), (v2.toInt8.toInt32), (v3.toInt8.toInt32), (v4.toInt8.toInt32), (v5.toInt8.toInt32)].getD (0 : Int32).toInt.toNat 0) &&& (255 : Int32)))])) st66 ?_
    refine own_st (B := T66.setTop (mkF m 93 #[.val (.int arg0), .val (.int arg1), .val (.int arg2), .val (.int v1), .val (.int v2), .val (.int v3), .val (.int v4), .val (.int v5), .val (.ref b6), .val (.int (1 : Int32)), .val (.ref b59), .unset, .unset, .unset] [])) (fun t k => XS.pop X66.here hx rfl (hb hby at_92) rfl rfl k) ?_
    refine own_st (B := T66.setTop (mkF m 95 #[.val (.int arg0), .val (.int arg1), .val (.int arg2), .val (.int v1), .val (.int v2), .val (.int v3), .val (.int v4), .val (.int v5), .val (.ref b6), .val (.int (1 : Int32)), .val (.ref b59), .unset, .unset, .unset] [(.int (1 : Int32))])) (fun t k => XS.iload X66.here hx rfl (hb hby at_93) rfl k) ?_
    refine own_st (B := T66.setTop (mkF m 96 #[.val (.int arg0), .val (.int arg1), .val (.int arg2), .val (.int v1), .val (.int v2), .val (.int v3), .val (.int v4), .val (.int v5), .val (.ref b6), .val (.int (1 : Int32)), .val (.ref b59), .unset, .unset, .unset] [(.int (1 : Int32)), (.int (1 : Int32))])) (fun t k => XS.iconst X66.here hx rfl (hb hby at_95) k) ?_
    refine own_st (B := T66.setTop (mkF m 105 #[.val (.int arg0), .val (.int arg1), .val (.int arg2), .val (.int v1), .val (.int v2), .val (.int v3), .val (.int v4), .val (.int v5), .val (.ref b6), .val (.int (1 : Int32)), .val (.ref b59), .unset, .unset, .unset] [])) (fun t k => XS.icmpYes X66.here hx rfl (pc0 := 96) (pc' := 105) rfl (hb hby at_96) rfl (by decide) (by decide) (by decide) k) ?_
    refine own_st (B := T66.setTop (mkF m 107 #[.val (.int arg0), .val (.int arg1), .val (.int arg2), .val (.int v1), .val (.int v2), .val (.int v3), .val (.int v4), .val (.int v5), .val (.ref b6), .val (.int (1 : Int32)), .val (.ref b59), .unset, .unset, .unset] [(.int (1 : Int32))])) (fun t k => XS.iload X66.here hx rfl (hb hby at_105) rfl k) ?_
    refine own_st (B := T66.setTop (mkF m 108 #[.val (.int arg0), .val (.int arg1), .val (.int arg2), .val (.int v1), .val (.int v2), .val (.int v3), .val (.int v4), .val (.int v5), .val (.ref b6), .val (.int (1 : Int32)), .val (.ref b59), .unset, .unset, .unset] [(.int (2 : Int32)), (.int (1 : Int32))])) (fun t k => XS.iconst X66.here hx rfl (hb hby at_107) k) ?_
    refine own_st (B := T66.setTop (mkF m 117 #[.val (.int arg0), .val (.int arg1), .val (.int arg2), .val (.int v1), .val (.int v2), .val (.int v3), .val (.int v4), .val (.int v5), .val (.ref b6), .val (.int (1 : Int32)), .val (.ref b59), .unset, .unset, .unset] [])) (fun t k => XS.icmpYes X66.here hx rfl (pc0 := 108) (pc' := 117) rfl (hb hby at_108) rfl (by decide) (by decide) (by decide) k) ?_
    refine own_st (B := T66.setTop (mkF m 119 #[.val (.int arg0), .val (.int arg1), .val (.int arg2), .val (.int v1), .val (.int v2), .val (.int v3), .val (.int v4), .val (.int v5), .val (.ref b6), .val (.int (1 : Int32)), .val (.ref b59), .unset, .unset, .unset] [(.int (1 : Int32))])) (fun t k => XS.iload X66.here hx rfl (hb hby at_117) rfl k) ?_
    refine own_st (B := T66.setTop (mkF m 120 #[.val (.int arg0), .val (.int arg1), .val (.int arg2), .val (.int v1), .val (.int v2), .val (.int v3), .val (.int v4), .val (.int v5), .val (.ref b6), .val (.int (1 : Int32)), .val (.ref b59), .unset, .unset, .unset] [(.int (3 : Int32)), (.int (1 : Int32))])) (fun t k => XS.iconst X66.here hx rfl (hb hby at_119) k) ?_
    refine own_st (B := T66.setTop (mkF m 129 #[.val (.int arg0), .val (.int arg1), .val (.int arg2), .val (.int v1), .val (.int v2), .val (.int v3), .val (.int v4), .val (.int v5), .val (.ref b6), .val (.int (1 : Int32)), .val (.ref b59), .unset, .unset, .unset] [])) (fun t k => XS.icmpYes X66.here hx rfl (pc0 := 120) (pc' := 129) rfl (hb hby at_120) rfl (by decide) (by decide) (by decide) k) ?_
    refine own_st (B := T66.setTop (mkF m 131 #[.val (.int arg0), .val (.int arg1), .val (.int arg2), .val (.int v1), .val (.int v2), .val (.int v3), .val (.int v4), .val (.int v5), .val (.ref b6), .val (.int (1 : Int32)), .val (.ref b59), .unset, .unset, .unset] [(.int (1 : Int32))])) (fun t k => XS.iload X66.here hx rfl (hb hby at_129) rfl k) ?_
    refine own_st (B := T66.setTop (mkF m 132 #[.val (.int arg0), .val (.int arg1), .val (.int arg2), .val (.int v1), .val (.int v2), .val (.int v3), .val (.int v4), .val (.int v5), .val (.ref b6), .val (.int (1 : Int32)), .val (.ref b59), .unset, .unset, .unset] [(.int (4 : Int32)), (.int (1 : Int32))])) (fun t k => XS.iconst X66.here hx rfl (hb hby at_131) k) ?_
    refine own_st (B := T66.setTop (mkF m 141 #[.val (.int arg0), .val (.int arg1), .val (.int arg2), .val (.int v1), .val (.int v2), .val (.int v3), .val (.int v4), .val (.int v5), .val (.ref b6), .val (.int (1 : Int32)), .val (.ref b59), .unset, .unset, .unset] [])) (fun t k => XS.icmpYes X66.here hx rfl (pc0 := 132) (pc' := 141) rfl (hb hby at_132) rfl (by decide) (by decide) (by decide) k) ?_
    refine own_st (B := T66.setTop (mkF m 142 #[.val (.int arg0), .val (.int arg1), .val (.int arg2), .val (.int v1), .val (.int v2), .val (.int v3), .val (.int v4), .val (.int v5), .val (.ref b6), .val (.int (1 : Int32)), .val (.ref b59), .unset, .unset, .unset] [(.int (5 : Int32))])) (fun t k => XS.iconst X66.here hx rfl (hb hby at_141) k) ?_
    refine own_st (B := T66.setTop (mkF m 144 #[.val (.int arg0), .val (.int arg1), .val (.int arg2), .val (.int v1), .val (.int v2), .val (.int v3), .val (.int v4), .val (.int v5), .val (.ref b6), .val (.int (1 : Int32)), .val (.ref b59), .val (.int (5 : Int32)), .unset, .unset] [])) (fun t k => XS.istore X66.here hx rfl (hb hby at_142) rfl (l' := #[.val (.int arg0), .val (.int arg1), .val (.int arg2), .val (.int v1), .val (.int v2), .val (.int v3), .val (.int v4), .val (.int v5), .val (.ref b6), .val (.int (1 : Int32)), .val (.ref b59), .val (.int (5 : Int32)), .unset, .unset]) rfl k) ?_
    refine own_st (B := T66.setTop (mkF m 146 #[.val (.int arg0), .val (.int arg1), .val (.int arg2), .val (.int v1), .val (.int v2), .val (.int v3), .val (.int v4), .val (.int v5), .val (.ref b6), .val (.int (1 : Int32)), .val (.ref b59), .val (.int (5 : Int32)), .unset, .unset] [(.int (1 : Int32))])) (fun t k => XS.iload X66.here hx rfl (hb hby at_144) rfl k) ?_
    refine own_st (B := T66.setTop (mkF m 147 #[.val (.int arg0), .val (.int arg1), .val (.int arg2), .val (.int v1), .val (.int v2), .val (.int v3), .val (.int v4), .val (.int v5), .val (.ref b6), .val (.int (1 : Int32)), .val (.ref b59), .val (.int (5 : Int32)), .unset, .unset] [(.int (4 : Int32)), (.int (1 : Int32))])) (fun t k => XS.iconst X66.here hx rfl (hb hby at_146) k) ?_
    refine own_st (B := T66.setTop (mkF m 150 #[.val (.int arg0), .val (.int arg1), .val (.int arg2), .val (.int v1), .val (.int v2), .val (.int v3), .val (.int v4), .val (.int v5), .val (.ref b6), .val (.int (1 : Int32)), .val (.ref b59), .val (.int (5 : Int32)), .unset, .unset] [])) (fun t k => XS.icmpNo X66.here hx rfl (hb hby at_147) rfl (by decide) k) ?_
    refine own_st (B := T66.setTop (mkF m 152 #[.val (.int arg0), .val (.int arg1), .val (.int arg2), .val (.int v1), .val (.int v2), .val (.int v3), .val (.int v4), .val (.int v5), .val (.ref b6), .val (.int (1 : Int32)), .val (.ref b59), .val (.int (5 : Int32)), .unset, .unset] [(.int v5)])) (fun t k => XS.iload X66.here hx rfl (hb hby at_150) rfl k) ?_
    obtain ⟨_, _, ⟨T68, L68, k68, j68⟩, -, X68, ⟨Lc68, hQ68, l68, y68_, z68_⟩, st68⟩ := Jvm.LawKit.callS X66 hx (y := (⟨"com/example/libentkey/libentkey/codec/KeyReaderSkipAsciiPinLaw", "ascii", "(B)Z"⟩ : MethodName)) hown (mvT hZ (w_20 hw)) (mvT hZ (w_21 hw)) (mvT hZ (w_22 hw)) (mvT hZ (w_23 hw)) (by decide) (backOf (W := 0) (rm4 l Z a0 hw [] v5 T66.heap n0 z67 ) hZ (w_23 hw) (w_22 hw) (by decide) (by decide)) (g := (mkF m 152 #[.val (.int arg0), .val (.int arg1), .val (.int arg2), .val (.int v1), .val (.int v2), .val (.int v3), .val (.int v4), .val (.int v5), .val (.ref b6), .val (.int (1 : Int32)), .val (.ref b59), .val (.int (5 : Int32)), .unset, .unset] [(.int v5)])) rfl (by rw [hml]; rfl) (argsL := [(.int v5)]) (rest := []) (lenOf own_pd3 rfl) rfl (by show 2 * 0 + _ ≤ _; exact Nat.le_of_eq rfl) (hb hby at_152) (fun _ _ => ⟨rfl, rfl, (by decide : 2 + 0 ≤ _), (by decide : 9 + 0 ≤ _)⟩)
    dsimp only [Pt.U, Pt.locs, Pt.cells, Pt.slots] at X68 l68 y68_ z68_ st68 hQ68
    subst l68 y68_ z68_
    obtain ⟨rfl, N68q, e68q⟩ := hQ68
    have N68 := Fr.app N66 N68q
    refine own_st (B := T68.setTop (mkF m 155 #[.val (.int arg0), .val (.int arg1), .val (.int arg2), .val (.int v1), .val (.int v2), .val (.int v3), .val (.int v4), .val (.int v5), .val (.ref b6), .val (.int (1 : Int32)), .val (.ref b59), .val (.int (5 : Int32)), .unset, .unset] [(.int (own_f4 v5))])) (fun t k => st68 t k) ?_
    refine own_cut (P := ∀ (v70 : Int32), (v70 = (if (own_f4 v5) = (0 : Int32) then (4 : Int32) else (5 : Int32))) → own_Go p e below s (Q0 Z arg0 arg1 arg2 h0 n0) 16 128 (T68.setTop (mkF m 161 #[.val (.int arg0), .val (.int arg1), .val (.int arg2), .val (.int v1), .val (.int v2), .val (.int v3), .val (.int v4), .val (.int v5), .val (.ref b6), .val (.int (1 : Int32)), .val (.ref b59), .val (.int v70), .unset, .unset] []))) (fun J71 => ?_) ?_
    · by_cases hc69 : (own_f4 v5) = (0 : Int32)
      · refine own_st (B := T68.setTop (mkF m 158 #[.val (.int arg0), .val (.int arg1), .val (.int arg2), .val (.int v1), .val (.int v2), .val (.int v3), .val (.int v4), .val (.int v5), .val (.ref b6), .val (.int (1 : Int32)), .val (.ref b59), .val (.int (5 : Int32)), .unset, .unset] [])) (fun t k => XS.ifNo X68.here hx rfl (hb hby at_155) rfl (XT.i0_ne_f hc69) k) ?_
        refine own_st (B := T68.setTop (mkF m 159 #[.val (.int arg0), .val (.int arg1), .val (.int arg2), .val (.int v1), .val (.int v2), .val (.int v3), .val (.int v4), .val (.int v5), .val (.ref b6), .val (.int (1 : Int32)), .val (.ref b59), .val (.int (5 : Int32)), .unset, .unset] [(.int (4 : Int32))])) (fun t k => XS.iconst X68.here hx rfl (hb hby at_158) k) ?_
        refine own_st (B := T68.setTop (mkF m 161 #[.val (.int arg0), .val (.int arg1), .val (.int arg2), .val (.int v1), .val (.int v2), .val (.int v3), .val (.int v4), .val (.int v5), .val (.ref b6), .val (.int (1 : Int32)), .val (.ref b59), .val (.int (4 : Int32)), .unset, .unset] [])) (fun t k => XS.istore X68.here hx rfl (hb hby at_159) rfl (l' := #[.val (.int arg0), .val (.int arg1), .val (.int arg2), .val (.int v1), .val (.int v2), .val (.int v3), .val (.int v4), .val (.int v5), .val (.ref b6), .val (.int (1 : Int32)), .val (.ref b59), .val (.int (4 : Int32)), .unset, .unset]) rfl k) ?_
        exact J71 (4 : Int32) (by rw [if_pos hc69])
      · refine own_st (B := T68.setTop (mkF m 161 #[.val (.int arg0), .val (.int arg1), .val (.int arg2), .val (.int v1), .val (.int v2), .val (.int v3), .val (.int v4), .val (.int v5), .val (.ref b6), .val (.int (1 : Int32)), .val (.ref b59), .val (.int (5 : Int32)), .unset, .unset] [])) (fun t k => XS.ifYes X68.here hx rfl (pc0 := 155) (pc' := 161) rfl (hb hby at_155) rfl (XT.i0_ne_t hc69) (by decide) (by decide) k) ?_
        exact J71 (5 : Int32) (by rw [if_neg hc69])
    intro v70 hv70
    refine own_st (B := T68.setTop (mkF m 163 #[.val (.int arg0), .val (.int arg1), .val (.int arg2), .val (.int v1), .val (.int v2), .val (.int v3), .val (.int v4), .val (.int v5), .val (.ref b6), .val (.int (1 : Int32)), .val (.ref b59), .val (.int v70), .unset, .unset] [(.int (1 : Int32))])) (fun t k => XS.iload X68.here hx rfl (hb hby at_161) rfl k) ?_
    refine own_st (B := T68.setTop (mkF m 164 #[.val (.int arg0), .val (.int arg1), .val (.int arg2), .val (.int v1), .val (.int v2), .val (.int v3), .val (.int v4), .val (.int v5), .val (.ref b6), .val (.int (1 : Int32)), .val (.ref b59), .val (.int v70), .unset, .unset] [(.int (3 : Int32)), (.int (1 : Int32))])) (fun t k => XS.iconst X68.here hx rfl (hb hby at_163) k) ?_
    refine own_st (B := T68.setTop (mkF m 167 #[.val (.int arg0), .val (.int arg1), .val (.int arg2), .val (.int v1), .val (.int v2), .val (.int v3), .val (.int v4), .val (.int v5), .val (.ref b6), .val (.int (1 : Int32)), .val (.ref b59), .val (.int v70), .unset, .unset] [])) (fun t k => XS.icmpNo X68.here hx rfl (hb hby at_164) rfl (by decide) k) ?_
    refine own_st (B := T68.setTop (mkF m 169 #[.val (.int arg0), .val (.int arg1), .val (.int arg2), .val (.int v1), .val (.int v2), .val (.int v3), .val (.int v4), .val (.int v5), .val (.ref b6), .val (.int (1 : Int32)), .val (.ref b59), .val (.int v70), .unset, .unset] [(.int v4)])) (fun t k => XS.iload X68.here hx rfl (hb hby at_167) rfl k) ?_
    obtain ⟨_, _, ⟨T72, L72, k72, j72⟩, -, X72, ⟨Lc72, hQ72, l72, y72_, z72_⟩, st72⟩ := Jvm.LawKit.callS X68 hx (y := (⟨"com/example/libentkey/libentkey/codec/KeyReaderSkipAsciiPinLaw", "ascii", "(B)Z"⟩ : MethodName)) hown (mvT hZ (w_20 hw)) (mvT hZ (w_21 hw)) (mvT hZ (w_22 hw)) (mvT hZ (w_23 hw)) (by decide) (backOf (W := 0) (rm4 l Z a0 hw [] v4 T66.heap n0 z67 ) hZ (w_23 hw) (w_22 hw) (by decide) (by decide)) (g := (mkF m 169 #[.val (.int arg0), .val (.int arg1), .val (.int arg2), .val (.int v1), .val (.int v2), .val (.int v3), .val (.int v4), .val (.int v5), .val (.ref b6), .val (.int (1 : Int32)), .val (.ref b59), .val (.int v70), .unset, .unset] [(.int v4)])) rfl (by rw [hml]; rfl) (argsL := [(.int v4)]) (rest := []) (lenOf own_pd3 rfl) rfl (by show 2 * 0 + _ ≤ _; exact Nat.le_of_eq rfl) (hb hby at_169) (fun _ _ => ⟨rfl, e68q, (by decide : 2 + 0 ≤ _), (by decide : 9 + 0 ≤ _)⟩)
    dsimp only [Pt.U, Pt.locs, Pt.cells, Pt.slots] at X72 l72 y72_ z72_ st72 hQ72
    subst l72 y72_ z72_
    obtain ⟨rfl, N72q, e72q⟩ := hQ72
    have N72 := Fr.app N68 N72q
    refine own_st (B := T72.setTop (mkF m 172 #[.val (.int arg0), .val (.int arg1), .val (.int arg2), .val (.int v1), .val (.int v2), .val (.int v3), .val (.int v4), .val (.int v5), .val (.ref b6), .val (.int (1 : Int32)), .val (.ref b59), .val (.int v70), .unset, .unset] [(.int (own_f4 v4))])) (fun t k => st72 t k) ?_
    refine own_cut (P := ∀ (v74 : Int32), (v74 = (if (own_f4 v4) = (0 : Int32) then (3 : Int32) else v70)) → own_Go p e below s (Q0 Z arg0 arg1 arg2 h0 n0) 16 128 (T72.setTop (mkF m 178 #[.val (.int arg0), .val (.int arg1), .val (.int arg2), .val (.int v1), .val (.int v2), .val (.int v3), .val (.int v4), .val (.int v5), .val (.ref b6), .val (.int (1 : Int32)), .val (.ref b59), .val (.int v74), .unset, .unset] []))) (fun J75 => ?_) ?_
    · by_cases hc73 : (own_f4 v4) = (0 : Int32)
      · refine own_st (B := T72.setTop (mkF m 175 #[.val (.int arg0), .val (.int arg1), .val (.int arg2), .val (.int v1), .val (.int v2), .val (.int v3), .val (.int v4), .val (.int v5), .val (.ref b6), .val (.int (1 : Int32)), .val (.ref b59), .val (.int v70), .unset, .unset] [])) (fun t k => XS.ifNo X72.here hx rfl (hb hby at_172) rfl (XT.i0_ne_f hc73) k) ?_
        refine own_st (B := T72.setTop (mkF m 176 #[.val (.int arg0), .val (.int arg1), .val (.int arg2), .val (.int v1), .val (.int v2), .val (.int v3), .val (.int v4), .val (.int v5), .val (.ref b6), .val (.int (1 : Int32)), .val (.ref b59), .val (.int v70), .unset, .unset] [(.int (3 : Int32))])) (fun t k => XS.iconst X72.here hx rfl (hb hby at_175) k) ?_
        refine own_st (B := T72.setTop (mkF m 178 #[.val (.int arg0), .val (.int arg1), .val (.int arg2), .val (.int v1), .val (.int v2), .val (.int v3), .val (.int v4), .val (.int v5), .val (.ref b6), .val (.int (1 : Int32)), .val (.ref b59), .val (.int (3 : Int32)), .unset, .unset] [])) (fun t k => XS.istore X72.here hx rfl (hb hby at_176) rfl (l' := #[.val (.int arg0), .val (.int arg1), .val (.int arg2), .val (.int v1), .val (.int v2), .val (.int v3), .val (.int v4), .val (.int v5), .val (.ref b6), .val (.int (1 : Int32)), .val (.ref b59), .val (.int (3 : Int32)), .unset, .unset]) rfl k) ?_
        exact J75 (3 : Int32) (by rw [if_pos hc73])
      · refine own_st (B := T72.setTop (mkF m 178 #[.val (.int arg0), .val (.int arg1), .val (.int arg2), .val (.int v1), .val (.int v2), .val (.int v3), .val (.int v4), .val (.int v5), .val (.ref b6), .val (.int (1 : Int32)), .val (.ref b59), .val (.int v70), .unset, .unset] [])) (fun t k => XS.ifYes X72.here hx rfl (pc0 := 172) (pc' := 178) rfl (hb hby at_172) rfl (XT.i0_ne_t hc73) (by decide) (by decide) k) ?_
        exact J75 v70 (by rw [if_neg hc73])
    intro v74 hv74
    refine own_st (B := T72.setTop (mkF m 180 #[.val (.int arg0), .val (.int arg1), .val (.int arg2), .val (.int v1), .val (.int v2), .val (.int v3), .val (.int v4), .val (.int v5), .val (.ref b6), .val (.int (1 : Int32)), .val (.ref b59), .val (.int v74), .unset, .unset] [(.int (1 : Int32))])) (fun t k => XS.iload X72.here hx rfl (hb hby at_178) rfl k) ?_
    refine own_st (B := T72.setTop (mkF m 181 #[.val (.int arg0), .val (.int arg1), .val (.int arg2), .val (.int v1), .val (.int v2), .val (.int v3), .val (.int v4), .val (.int v5), .val (.ref b6), .val (.int (1 : Int32)), .val (.ref b59), .val (.int v74), .unset, .unset] [(.int (2 : Int32)), (.int (1 : Int32))])) (fun t k => XS.iconst X72.here hx rfl (hb hby at_180) k) ?_
    refine own_st (B := T72.setTop (mkF m 184 #[.val (.int arg0), .val (.int arg1), .val (.int arg2), .val (.int v1), .val (.int v2), .val (.int v3), .val (.int v4), .val (.int v5), .val (.ref b6), .val (.int (1 : Int32)), .val (.ref b59), .val (.int v74), .unset, .unset] [])) (fun t k => XS.icmpNo X72.here hx rfl (hb hby at_181) rfl (by decide) k) ?_
    refine own_st (B := T72.setTop (mkF m 186 #[.val (.int arg0), .val (.int arg1), .val (.int arg2), .val (.int v1), .val (.int v2), .val (.int v3), .val (.int v4), .val (.int v5), .val (.ref b6), .val (.int (1 : Int32)), .val (.ref b59), .val (.int v74), .unset, .unset] [(.int v3)])) (fun t k => XS.iload X72.here hx rfl (hb hby at_184) rfl k) ?_
    obtain ⟨_, _, ⟨T76, L76, k76, j76⟩, -, X76, ⟨Lc76, hQ76, l76, y76_, z76_⟩, st76⟩ := Jvm.LawKit.callS X72 hx (y := (⟨"com/example/libentkey/libentkey/codec/KeyReaderSkipAsciiPinLaw", "ascii", "(B)Z"⟩ : MethodName)) hown (mvT hZ (w_20 hw)) (mvT hZ (w_21 hw)) (mvT hZ (w_22 hw)) (mvT hZ (w_23 hw)) (by decide) (backOf (W := 0) (rm4 l Z a0 hw [] v3 T66.heap n0 z67 ) hZ (w_23 hw) (w_22 hw) (by decide) (by decide)) (g := (mkF m 186 #[.val (.int arg0), .val (.int arg1), .val (.int arg2), .val (.int v1), .val (.int v2), .val (.int v3), .val (.int v4), .val (.int v5), .val (.ref b6), .val (.int (1 : Int32)), .val (.ref b59), .val (.int v74), .unset, .unset] [(.int v3)])) rfl (by rw [hml]; rfl) (argsL := [(.int v3)]) (rest := []) (lenOf own_pd3 rfl) rfl (by show 2 * 0 + _ ≤ _; exact Nat.le_of_eq rfl) (hb hby at_186) (fun _ _ => ⟨rfl, e72q, (by decide : 2 + 0 ≤ _), (by decide : 9 + 0 ≤ _)⟩)
    dsimp only [Pt.U, Pt.locs, Pt.cells, Pt.slots] at X76 l76 y76_ z76_ st76 hQ76
    subst l76 y76_ z76_
    obtain ⟨rfl, N76q, e76q⟩ := hQ76
    have N76 := Fr.app N72 N76q
    refine own_st (B := T76.setTop (mkF m 189 #[.val (.int arg0), .val (.int arg1), .val (.int arg2), .val (.int v1), .val (.int v2), .val (.int v3), .val (.int v4), .val (.int v5), .val (.ref b6), .val (.int (1 : Int32)), .val (.ref b59), .val (.int v74), .unset, .unset] [(.int (own_f4 v3))])) (fun t k => st76 t k) ?_
    refine own_cut (P := ∀ (v78 : Int32), (v78 = (if (own_f4 v3) = (0 : Int32) then (2 : Int32) else v74)) → own_Go p e below s (Q0 Z arg0 arg1 arg2 h0 n0) 16 128 (T76.setTop (mkF m 195 #[.val (.int arg0), .val (.int arg1), .val (.int arg2), .val (.int v1), .val (.int v2), .val (.int v3), .val (.int v4), .val (.int v5), .val (.ref b6), .val (.int (1 : Int32)), .val (.ref b59), .val (.int v78), .unset, .unset] []))) (fun J79 => ?_) ?_
    · by_cases hc77 : (own_f4 v3) = (0 : Int32)
      · refine own_st (B := T76.setTop (mkF m 192 #[.val (.int arg0), .val (.int arg1), .val (.int arg2), .val (.int v1), .val (.int v2), .val (.int v3), .val (.int v4), .val (.int v5), .val (.ref b6), .val (.int (1 : Int32)), .val (.ref b59), .val (.int v74), .unset, .unset] [])) (fun t k => XS.ifNo X76.here hx rfl (hb hby at_189) rfl (XT.i0_ne_f hc77) k) ?_
        refine own_st (B := T76.setTop (mkF m 193 #[.val (.int arg0), .val (.int arg1), .val (.int arg2), .val (.int v1), .val (.int v2), .val (.int v3), .val (.int v4), .val (.int v5), .val (.ref b6), .val (.int (1 : Int32)), .val (.ref b59), .val (.int v74), .unset, .unset] [(.int (2 : Int32))])) (fun t k => XS.iconst X76.here hx rfl (hb hby at_192) k) ?_
        refine own_st (B := T76.setTop (mkF m 195 #[.val (.int arg0), .val (.int arg1), .val (.int arg2), .val (.int v1), .val (.int v2), .val (.int v3), .val (.int v4), .val (.int v5), .val (.ref b6), .val (.int (1 : Int32)), .val (.ref b59), .val (.int (2 : Int32)), .unset, .unset] [])) (fun t k => XS.istore X76.here hx rfl (hb hby at_193) rfl (l' := #[.val (.int arg0), .val (.int arg1), .val (.int arg2), .val (.int v1), .val (.int v2), .val (.int v3), .val (.int v4), .val (.int v5), .val (.ref b6), .val (.int (1 : Int32)), .val (.ref b59), .val (.int (2 : Int32)), .unset, .unset]) rfl k) ?_
        exact J79 (2 : Int32) (by rw [if_pos hc77])
      · refine own_st (B := T76.setTop (mkF m 195 #[.val (.int arg0), .val (.int arg1), .val (.int arg2), .val (.int v1), .val (.int v2), .val (.int v3), .val (.int v4), .val (.int v5), .val (.ref b6), .val (.int (1 : Int32)), .val (.ref b59), .val (.int v74), .unset, .unset] [])) (fun t k => XS.ifYes X76.here hx rfl (pc0 := 189) (pc' := 195) rfl (hb hby at_189) rfl (XT.i0_ne_t hc77) (by decide) (by decide) k) ?_
        exact J79 v74 (by rw [if_neg hc77])
    intro v78 hv78
    refine own_st (B := T76.setTop (mkF m 197 #[.val (.int arg0), .val (.int arg1), .val (.int arg2), .val (.int v1), .val (.int v2), .val (.int v3), .val (.int v4), .val (.int v5), .val (.ref b6), .val (.int (1 : Int32)), .val (.ref b59), .val (.int v78), .unset, .unset] [(.int (1 : Int32))])) (fun t k => XS.iload X76.here hx rfl (hb hby at_195) rfl k) ?_
    refine own_st (B := T76.setTop (mkF m 198 #[.val (.int arg0), .val (.int arg1), .val (.int arg2), .val (.int v1), .val (.int v2), .val (.int v3), .val (.int v4), .val (.int v5), .val (.ref b6), .val (.int (1 : Int32)), .val (.ref b59), .val (.int v78), .unset, .unset] [(.int (1 : Int32)), (.int (1 : Int32))])) (fun t k => XS.iconst X76.here hx rfl (hb hby at_197) k) ?_
    refine own_st (B := T76.setTop (mkF m 201 #[.val (.int arg0), .val (.int arg1), .val (.int arg2), .val (.int v1), .val (.int v2), .val (.int v3), .val (.int v4), .val (.int v5), .val (.ref b6), .val (.int (1 : Int32)), .val (.ref b59), .val (.int v78), .unset, .unset] [])) (fun t k => XS.icmpNo X76.here hx rfl (hb hby at_198) rfl (by decide) k) ?_
    refine own_st (B := T76.setTop (mkF m 203 #[.val (.int arg0), .val (.int arg1), .val (.int arg2), .val (.int v1), .val (.int v2), .val (.int v3), .val (.int v4), .val (.int v5), .val (.ref b6), .val (.int (1 : Int32)), .val (.ref b59), .val (.int v78), .unset, .unset] [(.int v2)])) (fun t k => XS.iload X76.here hx rfl (hb hby at_201) rfl k) ?_
    obtain ⟨_, _, ⟨T80, L80, k80, j80⟩, -, X80, ⟨Lc80, hQ80, l80, y80_, z80_⟩, st80⟩ := Jvm.LawKit.callS X76 hx (y := (⟨"com/example/libentkey/libentkey/codec/KeyReaderSkipAsciiPinLaw", "ascii", "(B)Z"⟩ : MethodName)) hown (mvT hZ (w_20 hw)) (mvT hZ (w_21 hw)) (mvT hZ (w_22 hw)) (mvT hZ (w_23 hw)) (by decide) (backOf (W := 0) (rm4 l Z a0 hw [] v2 T66.heap n0 z67 ) hZ (w_23 hw) (w_22 hw) (by decide) (by decide)) (g := (mkF m 203 #[.val (.int arg0), .val (.int arg1), .val (.int arg2), .val (.int v1), .val (.int v2), .val (.int v3), .val (.int v4), .val (.int v5), .val (.ref b6), .val (.int (1 : Int32)), .val (.ref b59), .val (.int v78), .unset, .unset] [(.int v2)])) rfl (by rw [hml]; rfl) (argsL := [(.int v2)]) (rest := []) (lenOf own_pd3 rfl) rfl (by show 2 * 0 + _ ≤ _; exact Nat.le_of_eq rfl) (hb hby at_203) (fun _ _ => ⟨rfl, e76q, (by decide : 2 + 0 ≤ _), (by decide : 9 + 0 ≤ _)⟩)
    dsimp only [Pt.U, Pt.locs, Pt.cells, Pt.slots] at X80 l80 y80_ z80_ st80 hQ80
    subst l80 y80_ z80_
    obtain ⟨rfl, N80q, e80q⟩ := hQ80
    have N80 := Fr.app N76 N80q
    refine own_st (B := T80.setTop (mkF m 206 #[.val (.int arg0), .val (.int arg1), .val (.int arg2), .val (.int v1), .val (.int v2), .val (.int v3), .val (.int v4), .val (.int v5), .val (.ref b6), .val (.int (1 : Int32)), .val (.ref b59), .val (.int v78), .unset, .unset] [(.int (own_f4 v2))])) (fun t k => st80 t k) ?_
    refine own_cut (P := ∀ (v82 : Int32), (v82 = (if (own_f4 v2) = (0 : Int32) then (1 : Int32) else v78)) → own_Go p e below s (Q0 Z arg0 arg1 arg2 h0 n0) 16 128 (T80.setTop (mkF m 212 #[.val (.int arg0), .val (.int arg1), .val (.int arg2), .val (.int v1), .val (.int v2), .val (.int v3), .val (.int v4), .val (.int v5), .val (.ref b6), .val (.int (1 : Int32)), .val (.ref b59), .val (.int v82), .unset, .unset] []))) (fun J83 => ?_) ?_
    · by_cases hc81 : (own_f4 v2) = (0 : Int32)
      · refine own_st (B := T80.setTop (mkF m 209 #[.val (.int arg0), .val (.int arg1), .val (.int arg2), .val (.int v1), .val (.int v2), .val (.int v3), .val (.int v4), .val (.int v5), .val (.ref b6), .val (.int (1 : Int32)), .val (.ref b59), .val (.int v78), .unset, .unset] [])) (fun t k => XS.ifNo X80.here hx rfl (hb hby at_206) rfl (XT.i0_ne_f hc81) k) ?_
        refine own_st (B := T80.setTop (mkF m 210 #[.val (.int arg0), .val (.int arg1), .val (.int arg2), .val (.int v1), .val (.int v2), .val (.int v3), .val (.int v4), .val (.int v5), .val (.ref b6), .val (.int (1 : Int32)), .val (.ref b59), .val (.int v78), .unset, .unset] [(.int (1 : Int32))])) (fun t k => XS.iconst X80.here hx rfl (hb hby at_209) k) ?_
        refine own_st (B := T80.setTop (mkF m 212 #[.val (.int arg0), .val (.int arg1), .val (.int arg2), .val (.int v1), .val (.int v2), .val (.int v3), .val (.int v4), .val (.int v5), .val (.ref b6), .val (.int (1 : Int32)), .val (.ref b59), .val (.int (1 : Int32)), .unset, .unset] [])) (fun t k => XS.istore X80.here hx rfl (hb hby at_210) rfl (l' := #[.val (.int arg0), .val (.int arg1), .val (.int arg2), .val (.int v1), .val (.int v2), .val (.int v3), .val (.int v4), .val (.int v5), .val (.ref b6), .val (.int (1 : Int32)), .val (.ref b59), .val (.int (1 : Int32)), .unset, .unset]) rfl k) ?_
        exact J83 (1 : Int32) (by rw [if_pos hc81])
      · refine own_st (B := T80.setTop (mkF m 212 #[.val (.int arg0), .val (.int arg1), .val (.int arg2), .val (.int v1), .val (.int v2), .val (.int v3), .val (.int v4), .val (.int v5), .val (.ref b6), .val (.int (1 : Int32)), .val (.ref b59), .val (.int v78), .unset, .unset] [])) (fun t k => XS.ifYes X80.here hx rfl (pc0 := 206) (pc' := 212) rfl (hb hby at_206) rfl (XT.i0_ne_t hc81) (by decide) (by decide) k) ?_
        exact J83 v78 (by rw [if_neg hc81])
    intro v82 hv82
    refine own_st (B := T80.setTop (mkF m 214 #[.val (.int arg0), .val (.int arg1), .val (.int arg2), .val (.int v1), .val (.int v2), .val (.int v3), .val (.int v4), .val (.int v5), .val (.ref b6), .val (.int (1 : Int32)), .val (.ref b59), .val (.int v82), .unset, .unset] [(.int (1 : Int32))])) (fun t k => XS.iload X80.here hx rfl (hb hby at_212) rfl k) ?_
    refine own_st (B := T80.setTop (mkF m 227 #[.val (.int arg0), .val (.int arg1), .val (.int arg2), .val (.int v1), .val (.int v2), .val (.int v3), .val (.int v4), .val (.int v5), .val (.ref b6), .val (.int (1 : Int32)), .val (.ref b59), .val (.int v82), .unset, .unset] [])) (fun t k => XS.ifYes X80.here hx rfl (pc0 := 214) (pc' := 227) rfl (hb hby at_214) rfl (by decide) (by decide) (by decide) k) ?_
    refine own_st (B := T80.setTop (mkF m 229 #[.val (.int arg0), .val (.int arg1), .val (.int arg2), .val (.int v1), .val (.int v2), .val (.int v3), .val (.int v4), .val (.int v5), .val (.ref b6), .val (.int (1 : Int32)), .val (.ref b59), .val (.int v82), .unset, .unset] [(.ref b59)])) (fun t k => XS.aload X80.here hx rfl (hb hby at_227) rfl rfl k) ?_
    have f84 : own_A Z T66.heap b6 .byte [(.int (v1.toInt8.toInt32)), (.int (v2.toInt8.toInt32)), (.int (v3.toInt8.toInt32)), (.int (v4.toInt8.toInt32)), (.int (v5.toInt8.toInt32))] := (f65.keep K66 (ninS q59_b6 nin0))
    obtain ⟨cq85, kq85, q85a, q85b, q85c⟩ := isOf hZ e80q p66_0
    obtain ⟨_, _, ⟨T85, L85, k85, j85⟩, -, X85, ⟨Lc85, hQ85, l85, y85_, z85_⟩, st85⟩ := X80.virtualBack hx (y := (⟨"com/example/libentkey/libentkey/codec/KeyReader", "skipAscii", "()V"⟩ : MethodName)) (z := (⟨"com/example/libentkey/libentkey/codec/KeyReader", "skipAscii", "()V"⟩ : MethodName)) hown (mvT hZ (w_24 hw)) (mvT hZ (w_25 hw)) (notFace_of_selects (args := #[]) (mvT hZ (w_27 hw))) (mvT hZ (w_27 hw)) (mvT hZ (w_26 hw)) (by decide) (backOf (W := 0) (rm5 l Z a0 hw [] b59 b6 ((0 : Int32) + (1 : Int32)) [(v1.toInt8.toInt32), (v2.toInt8.toInt32), (v3.toInt8.toInt32), (v4.toInt8.toInt32), (v5.toInt8.toInt32)] T66.heap n0 z67 p66_0 p66_1 p66_2 f84 u59 (show 0 ≤ ((0 : Int32) + (1 : Int32)).toInt ∧ ((0 : Int32) + (1 : Int32)).toInt ≤ ((5 : Nat) : Int) from by decide) (show [(v1.toInt8.toInt32), (v2.toInt8.toInt32), (v3.toInt8.toInt32), (v4.toInt8.toInt32), (v5.toInt8.toInt32)].length < 1000 from (by decide : 5 < 1000))) hZ (w_28 hw) (w_4 hw) (by decide) (by decide)) q85a q85c (g := (mkF m 229 #[.val (.int arg0), .val (.int arg1), .val (.int arg2), .val (.int v1), .val (.int v2), .val (.int v3), .val (.int v4), .val (.int v5), .val (.ref b6), .val (.int (1 : Int32)), .val (.ref b59), .val (.int v82), .unset, .unset] [(.ref b59)])) rfl (by rw [hml]; rfl) (Steps.refl _) (argsL := []) (rest := []) (lenOf own_pd4 rfl) rfl (by show 2 * 0 + _ ≤ _; exact Nat.le_of_eq rfl) (hb hby at_229) (fun _ _ => ⟨rfl, e80q, (by decide : 2 + 0 ≤ _), (by decide : 9 + 0 ≤ _)⟩)
    dsimp only [Pt.U, Pt.locs, Pt.cells, Pt.slots] at X85 l85 y85_ z85_ st85 hQ85
    subst l85 y85_ z85_
    obtain ⟨q_85, rfl, N85q, K85, p85_0, p85_1, p85_2, r85_0⟩ := hQ85
    have N85 := Fr.app N80 N85q
    have z86 : n0 ≤ T85.heap.size := Nat.le_trans z67 K85.1
    refine own_ss (B := T85.setTop (mkF m 232 #[.val (.int arg0), .val (.int arg1), .val (.int arg2), .val (.int v1), .val (.int v2), .val (.int v3), .val (.int v4), .val (.int v5), .val (.ref b6), .val (.int (1 : Int32)), .val (.ref b59), .val (.int v82), .unset, .unset] [])) st85 ?_
    refine own_st (B := T85.setTop (mkF m 234 #[.val (.int arg0), .val (.int arg1), .val (.int arg2), .val (.int v1), .val (.int v2), .val (.int v3), .val (.int v4), .val (.int v5), .val (.ref b6), .val (.int (1 : Int32)), .val (.ref b59), .val (.int v82), .unset, .unset] [(.ref b59)])) (fun t k => XS.aload X85.here hx rfl (hb hby at_232) rfl rfl k) ?_
    obtain ⟨cq87, kq87, q87a, q87b, q87c⟩ := isOf hZ rfl p85_0
    obtain ⟨_, _, ⟨T87, L87, k87, j87⟩, -, X87, ⟨Lc87, hQ87, l87, y87_, z87_⟩, st87⟩ := X85.virtualBack hx (y := (⟨"com/example/libentkey/libentkey/codec/KeyReader", "position", "()I"⟩ : MethodName)) (z := (⟨"com/example/libentkey/libentkey/codec/KeyReader", "position", "()I"⟩ : MethodName)) hown (mvT hZ (w_29 hw)) (mvT hZ (w_30 hw)) (notFace_of_selects (args := #[]) (mvT hZ (w_32 hw))) (mvT hZ (w_32 hw)) (mvT hZ (w_31 hw)) (by decide) (backOf (W := 0) (rm6 l Z a0 hw [] b59 q_85 T85.heap n0 z86 p85_2) hZ (w_33 hw) (w_4 hw) (by decide) (by decide)) q87a q87c (g := (mkF m 234 #[.val (.int arg0), .val (.int arg1), .val (.int arg2), .val (.int v1), .val (.int v2), .val (.int v3), .val (.int v4), .val (.int v5), .val (.ref b6), .val (.int (1 : Int32)), .val (.ref b59), .val (.int v82), .unset, .unset] [(.ref b59)])) rfl (by rw [hml]; rfl) (Steps.refl _) (argsL := []) (rest := []) (lenOf own_pd5 rfl) rfl (by show 2 * 0 + _ ≤ _; exact Nat.le_of_eq rfl) (hb hby at_234) (fun _ _ => ⟨rfl, rfl, (by decide : 2 + 0 ≤ _), (by decide : 9 + 0 ≤ _)⟩)
    dsimp only [Pt.U, Pt.locs, Pt.cells, Pt.slots] at X87 l87 y87_ z87_ st87 hQ87
    subst l87 y87_ z87_
    obtain ⟨rfl, N87q, e87q⟩ := hQ87
    have N87 := Fr.app N85 N87q
    refine own_ss (B := T87.setTop (mkF m 237 #[.val (.int arg0), .val (.int arg1), .val (.int arg2), .val (.int v1), .val (.int v2), .val (.int v3), .val (.int v4), .val (.int v5), .val (.ref b6), .val (.int (1 : Int32)), .val (.ref b59), .val (.int v82), .unset, .unset] [(.int q_85)])) st87 ?_
    refine own_st (B := T87.setTop (mkF m 239 #[.val (.int arg0), .val (.int arg1), .val (.int arg2), .val (.int v1), .val (.int v2), .val (.int v3), .val (.int v4), .val (.int v5), .val (.ref b6), .val (.int (1 : Int32)), .val (.ref b59), .val (.int v82), .val (.int q_85), .unset] [])) (fun t k => XS.istore X87.here hx rfl (hb hby at_237) rfl (l' := #[.val (.int arg0), .val (.int arg1), .val (.int arg2), .val (.int v1), .val (.int v2), .val (.int v3), .val (.int v4), .val (.int v5), .val (.ref b6), .val (.int (1 : Int32)), .val (.ref b59), .val (.int v82), .val (.int q_85), .unset]) rfl k) ?_
    refine own_st (B := T87.setTop (mkF m 241 #[.val (.int arg0), .val (.int arg1), .val (.int arg2), .val (.int v1), .val (.int v2), .val (.int v3), .val (.int v4), .val (.int v5), .val (.ref b6), .val (.int (1 : Int32)), .val (.ref b59), .val (.int v82), .val (.int q_85), .unset] [(.ref b59)])) (fun t k => XS.aload X87.here hx rfl (hb hby at_239) rfl rfl k) ?_
    have f88 : own_A Z T85.heap b6 .byte [(.int (v1.toInt8.toInt32)), (.int (v2.toInt8.toInt32)), (.int (v3.toInt8.toInt32)), (.int (v4.toInt8.toInt32)), (.int (v5.toInt8.toInt32))] := (f84.keep K85 (ninS q59_b6 nin0))
    obtain ⟨cq89, kq89, q89a, q89b, q89c⟩ := isOf hZ e87q p85_0
    obtain ⟨_, _, ⟨T89, L89, k89, j89⟩, -, X89, ⟨Lc89, hQ89, l89, y89_, z89_⟩, st89⟩ := X87.virtualBack hx (y := (⟨"com/example/libentkey/libentkey/codec/KeyReader", "skipAscii", "()V"⟩ : MethodName)) (z := (⟨"com/example/libentkey/libentkey/codec/KeyReader", "skipAscii", "()V"⟩ : MethodName)) hown (mvT hZ (w_24 hw)) (mvT hZ (w_25 hw)) (notFace_of_selects (args := #[]) (mvT hZ (w_27 hw))) (mvT hZ (w_27 hw)) (mvT hZ (w_26 hw)) (by decide) (backOf (W := 0) (rm5 l Z a0 hw [] b59 b6 q_85 [(v1.toInt8.toInt32), (v2.toInt8.toInt32), (v3.toInt8.toInt32), (v4.toInt8.toInt32), (v5.toInt8.toInt32)] T85.heap n0 z86 p85_0 p85_1 p85_2 f88 u59 (show 0 ≤ q_85.toInt ∧ q_85.toInt ≤ ([(v1.toInt8.toInt32), (v2.toInt8.toInt32), (v3.toInt8.toInt32), (v4.toInt8.toInt32), (v5.toInt8.toInt32)].length : Int) by have h1 := own_bnd_1 r85_0; exact ⟨by omega, by show _ ≤ ((5 : Nat) : Int); omega⟩) (show [(v1.toInt8.toInt32), (v2.toInt8.toInt32), (v3.toInt8.toInt32), (v4.toInt8.toInt32), (v5.toInt8.toInt32)].length < 1000 from (by decide : 5 < 1000))) hZ (w_28 hw) (w_4 hw) (by decide) (by decide)) q89a q89c (g := (mkF m 241 #[.val (.int arg0), .val (.int arg1), .val (.int arg2), .val (.int v1), .val (.int v2), .val (.int v3), .val (.int v4), .val (.int v5), .val (.ref b6), .val (.int (1 : Int32)), .val (.ref b59), .val (.int v82), .val (.int q_85), .unset] [(.ref b59)])) rfl (by rw [hml]; rfl) (Steps.refl _) (argsL := []) (rest := []) (lenOf own_pd4 rfl) rfl (by show 2 * 0 + _ ≤ _; exact Nat.le_of_eq rfl) (hb hby at_241) (fun _ _ => ⟨rfl, e87q, (by decide : 2 + 0 ≤ _), (by decide : 9 + 0 ≤ _)⟩)
    dsimp only [Pt.U, Pt.locs, Pt.cells, Pt.slots] at X89 l89 y89_ z89_ st89 hQ89
    subst l89 y89_ z89_
    obtain ⟨q_89, rfl, N89q, K89, p89_0, p89_1, p89_2, r89_0⟩ := hQ89
    have N89 := Fr.app N87 N89q
    have z90 : n0 ≤ T89.heap.size := Nat.le_trans z86 K89.1
    refine own_ss (B := T89.setTop (mkF m 244 #[.val (.int arg0), .val (.int arg1), .val (.int arg2), .val (.int v1), .val (.int v2), .val (.int v3), .val (.int v4), .val (.int v5), .val (.ref b6), .val (.int (1 : Int32)), .val (.ref b59), .val (.int v82), .val (.int q_85), .unset] [])) st89 ?_
    refine own_st (B := T89.setTop (mkF m 246 #[.val (.int arg0), .val (.int arg1), .val (.int arg2), .val (.int v1), .val (.int v2), .val (.int v3), .val (.int v4), .val (.int v5), .val (.ref b6), .val (.int (1 : Int32)), .val (.ref b59), .val (.int v82), .val (.int q_85), .unset] [(.ref b59)])) (fun t k => XS.aload X89.here hx rfl (hb hby at_244) rfl rfl k) ?_
    obtain ⟨cq91, kq91, q91a, q91b, q91c⟩ := isOf hZ rfl p89_0
    obtain ⟨_, _, ⟨T91, L91, k91, j91⟩, -, X91, ⟨Lc91, hQ91, l91, y91_, z91_⟩, st91⟩ := X89.virtualBack hx (y := (⟨"com/example/libentkey/libentkey/codec/KeyReader", "position", "()I"⟩ : MethodName)) (z := (⟨"com/example/libentkey/libentkey/codec/KeyReader", "position", "()I"⟩ : MethodName)) hown (mvT hZ (w_29 hw)) (mvT hZ (w_30 hw)) (notFace_of_selects (args := #[]) (mvT hZ (w_32 hw))) (mvT hZ (w_32 hw)) (mvT hZ (w_31 hw)) (by decide) (backOf (W := 0) (rm6 l Z a0 hw [] b59 q_89 T89.heap n0 z90 p89_2) hZ (w_33 hw) (w_4 hw) (by decide) (by decide)) q91a q91c (g := (mkF m 246 #[.val (.int arg0), .val (.int arg1), .val (.int arg2), .val (.int v1), .val (.int v2), .val (.int v3), .val (.int v4), .val (.int v5), .val (.ref b6), .val (.int (1 : Int32)), .val (.ref b59), .val (.int v82), .val (.int q_85), .unset] [(.ref b59)])) rfl (by rw [hml]; rfl) (Steps.refl _) (argsL := []) (rest := []) (lenOf own_pd5 rfl) rfl (by show 2 * 0 + _ ≤ _; exact Nat.le_of_eq rfl) (hb hby at_246) (fun _ _ => ⟨rfl, rfl, (by decide : 2 + 0 ≤ _), (by decide : 9 + 0 ≤ _)⟩)
    dsimp only [Pt.U, Pt.locs, Pt.cells, Pt.slots] at X91 l91 y91_ z91_ st91 hQ91
    subst l91 y91_ z91_
    obtain ⟨rfl, N91q, e91q⟩ := hQ91
    have N91 := Fr.app N89 N91q
    refine own_ss (B := T91.setTop (mkF m 249 #[.val (.int arg0), .val (.int arg1), .val (.int arg2), .val (.int v1), .val (.int v2), .val (.int v3), .val (.int v4), .val (.int v5), .val (.ref b6), .val (.int (1 : Int32)), .val (.ref b59), .val (.int v82), .val (.int q_85), .unset] [(.int q_89)])) st91 ?_
    refine own_st (B := T91.setTop (mkF m 251 #[.val (.int arg0), .val (.int arg1), .val (.int arg2), .val (.int v1), .val (.int v2), .val (.int v3), .val (.int v4), .val (.int v5), .val (.ref b6), .val (.int (1 : Int32)), .val (.ref b59), .val (.int v82), .val (.int q_85), .val (.int q_89)] [])) (fun t k => XS.istore X91.here hx rfl (hb hby at_249) rfl (l' := #[.val (.int arg0), .val (.int arg1), .val (.int arg2), .val (.int v1), .val (.int v2), .val (.int v3), .val (.int v4), .val (.int v5), .val (.ref b6), .val (.int (1 : Int32)), .val (.ref b59), .val (.int v82), .val (.int q_85), .val (.int q_89)]) rfl k) ?_
    refine own_st (B := T91.setTop (mkF m 253 #[.val (.int arg0), .val (.int arg1), .val (.int arg2), .val (.int v1), .val (.int v2), .val (.int v3), .val (.int v4), .val (.int v5), .val (.ref b6), .val (.int (1 : Int32)), .val (.ref b59), .val (.int v82), .val (.int q_85), .val (.int q_89)] [(.int q_85)])) (fun t k => XS.iload X91.here hx rfl (hb hby at_251) rfl k) ?_
    refine own_st (B := T91.setTop (mkF m 255 #[.val (.int arg0), .val (.int arg1), .val (.int arg2), .val (.int v1), .val (.int v2), .val (.int v3), .val (.int v4), .val (.int v5), .val (.ref b6), .val (.int (1 : Int32)), .val (.ref b59), .val (.int v82), .val (.int q_85), .val (.int q_89)] [(.int v82), (.int q_85)])) (fun t k => XS.iload X91.here hx rfl (hb hby at_253) rfl k) ?_
    have hc92 : q_85 = v82 := by
      refine Int32.toInt_inj.mp (r85_0.trans ?_)
      exact (show v82.toInt = _ from (own_rs (k := 1) ev2 rfl (own_rs (k := 2) ev3 rfl (own_rs (k := 3) ev4 rfl (own_rs (k := 4) ev5 rfl rfl hv70) hv74) hv78) hv82)).symm
    refine own_st (B := T91.setTop (mkF m 258 #[.val (.int arg0), .val (.int arg1), .val (.int arg2), .val (.int v1), .val (.int v2), .val (.int v3), .val (.int v4), .val (.int v5), .val (.ref b6), .val (.int (1 : Int32)), .val (.ref b59), .val (.int v82), .val (.int q_85), .val (.int q_89)] [])) (fun t k => XS.icmpNo X91.here hx rfl (hb hby at_255) rfl (XT.ii_ne_f hc92) k) ?_
    refine own_st (B := T91.setTop (mkF m 260 #[.val (.int arg0), .val (.int arg1), .val (.int arg2), .val (.int v1), .val (.int v2), .val (.int v3), .val (.int v4), .val (.int v5), .val (.ref b6), .val (.int (1 : Int32)), .val (.ref b59), .val (.int v82), .val (.int q_85), .val (.int q_89)] [(.int q_89)])) (fun t k => XS.iload X91.here hx rfl (hb hby at_258) rfl k) ?_
    refine own_st (B := T91.setTop (mkF m 262 #[.val (.int arg0), .val (.int arg1), .val (.int arg2), .val (.int v1), .val (.int v2), .val (.int v3), .val (.int v4), .val (.int v5), .val (.ref b6), .val (.int (1 : Int32)), .val (.ref b59), .val (.int v82), .val (.int q_85), .val (.int q_89)] [(.int v82), (.int q_89)])) (fun t k => XS.iload X91.here hx rfl (hb hby at_260) rfl k) ?_
    have hc93 : q_89 = v82 := by
      refine Eq.trans (Int32.toInt_inj.mp ?_) hc92
      have b1 := own_bnd_1 r85_0
      have e2 := r89_0
      have e3 : q_85.toInt.toNat = 1 + own_run (([(v1.toInt8.toInt32), (v2.toInt8.toInt32), (v3.toInt8.toInt32), (v4.toInt8.toInt32), (v5.toInt8.toInt32)] : List Int32).drop 1) := by
        have e4 := r85_0
        show _ = _
        exact own_nat_1 e4
      rw [e3, own_run_again] at e2
      omega
    refine own_st (B := T91.setTop (mkF m 265 #[.val (.int arg0), .val (.int arg1), .val (.int arg2), .val (.int v1), .val (.int v2), .val (.int v3), .val (.int v4), .val (.int v5), .val (.ref b6), .val (.int (1 : Int32)), .val (.ref b59), .val (.int v82), .val (.int q_85), .val (.int q_89)] [])) (fun t k => XS.icmpNo X91.here hx rfl (hb hby at_262) rfl (XT.ii_ne_f hc93) k) ?_
    refine own_st (B := T91.setTop (mkF m 266 #[.val (.int arg0), .val (.int arg1), .val (.int arg2), .val (.int v1), .val (.int v2), .val (.int v3), .val (.int v4), .val (.int v5), .val (.ref b6), .val (.int (1 : Int32)), .val (.ref b59), .val (.int v82), .val (.int q_85), .val (.int q_89)] [(.int (1 : Int32))])) (fun t k => XS.iconst X91.here hx rfl (hb hby at_265) k) ?_
    refine own_st (B := T91.setTop (mkF m 270 #[.val (.int arg0), .val (.int arg1), .val (.int arg2), .val (.int v1), .val (.int v2), .val (.int v3), .val (.int v4), .val (.int v5), .val (.ref b6), .val (.int (1 : Int32)), .val (.ref b59), .val (.int v82), .val (.int q_85), .val (.int q_89)] [(.int (1 : Int32))])) (fun t k => XS.goto X91.here hx rfl (pc0 := 266) (pc' := 270) rfl (hb hby at_266) (by decide) (by decide) k) ?_
    refine own_retN X91 hx hlk (t := .boolean) Bd.returns (by simp) (z' := (1 : Int32)) rfl (hb hby at_270) (by decide) (by decide) ?_
    show Q0 Z arg0 arg1 arg2 h0 n0 _ T91.heap _
    rw [e91q]
    exact ⟨rfl, N91⟩
  · rw [hn]
    refine own_st (B := T20.setTop (mkF m 71 #[.val (.int arg0), .val (.int arg1), .val (.int arg2), .val (.int v1), .val (.int v2), .val (.int v3), .val (.int v4), .val (.int v5), .val (.ref b6), .val (.int (2 : Int32)), .unset, .unset, .unset, .unset] [])) (fun t k => XS.istore X20.here hx rfl (hb hby at_69) rfl (l' := #[.val (.int arg0), .val (.int arg1), .val (.int arg2), .val (.int v1), .val (.int v2), .val (.int v3), .val (.int v4), .val (.int v5), .val (.ref b6), .val (.int (2 : Int32)), .unset, .unset, .unset, .unset]) rfl k) ?_
    obtain ⟨T94, h94, X94, e94, E94, A94, D94, -, st94⟩ := newO X20 hx hZ hown (w_2 hw) (w_3 hw) (w_4 hw) e20 (g := (mkF m 71 #[.val (.int arg0), .val (.int arg1), .val (.int arg2), .val (.int v1), .val (.int v2), .val (.int v3), .val (.int v4), .val (.int v5), .val (.ref b6), .val (.int (2 : Int32)), .unset, .unset, .unset, .unset] [])) rfl (hb hby at_71) (by decide) (by decide)
    obtain ⟨b94, g94⟩ : ∃ z, z = h20.size := ⟨_, rfl⟩
    rw [← g94] at A94 D94 st94
    have q94_b6 : b6 ≠ b94 := Nat.ne_of_lt (Nat.lt_of_lt_of_le f20_.lt (Nat.le_of_eq g94.symm))
    have u94 : n0 ≤ b94 := Nat.le_trans z21 (Nat.le_of_eq g94.symm)
    have z95 : n0 ≤ h94.size := Nat.le_trans z21 E94.1
    have f96 : Fld Z h94 b94 "com/example/libentkey/libentkey/codec/KeyReader" "key" "[B" .null := D94 (Or.inr (w_12 hw)) (ty := (.array .byte)) (by decide)
    have f97 : Fld Z h94 b94 "com/example/libentkey/libentkey/codec/KeyReader" "position" "I" (.int (0 : Int32)) := D94 (Or.inl (w_19 hw)) (ty := .int) (by decide)
    refine own_st (B := T94.setTop (mkF m 74 #[.val (.int arg0), .val (.int arg1), .val (.int arg2), .val (.int v1), .val (.int v2), .val (.int v3), .val (.int v4), .val (.int v5), .val (.ref b6), .val (.int (2 : Int32)), .unset, .unset, .unset, .unset] [(.ref b94)])) (fun t k => st94 t k) ?_
    refine own_st (B := T94.setTop (mkF m 75 #[.val (.int arg0), .val (.int arg1), .val (.int arg2), .val (.int v1), .val (.int v2), .val (.int v3), .val (.int v4), .val (.int v5), .val (.ref b6), .val (.int (2 : Int32)), .unset, .unset, .unset, .unset] [(.ref b94), (.ref b94)])) (fun t k => XS.dup X94.here hx rfl (hb hby at_74) rfl rfl k) ?_
    refine own_st (B := T94.setTop (mkF m 77 #[.val (.int arg0), .val (.int arg1), .val (.int arg2), .val (.int v1), .val (.int v2), .val (.int v3), .val (.int v4), .val (.int v5), .val (.ref b6), .val (.int (2 : Int32)), .unset, .unset, .unset, .unset] [(.ref b6), (.ref b94), (.ref b94)])) (fun t k => XS.aload X94.here hx rfl (hb hby at_75) rfl rfl k) ?_
    obtain ⟨_, _, ⟨T98, L98, k98, j98⟩, -, X98, ⟨Lc98, hQ98, l98, y98_, z98_⟩, st98⟩ := X94.specialBack hx (y := (⟨"com/example/libentkey/libentkey/codec/KeyReader", "<init>", "([B)V"⟩ : MethodName)) rfl hown (mvT hZ (w_5 hw)) (mvT hZ (w_6 hw)) (mvT hZ (w_7 hw)) (by decide) (backOf (W := 1) (rm1 l Z a0 hw [] b94 b6 h94 n0 z95 A94 f96 f97 u94) hZ (w_7 hw) (w_4 hw) (by decide) (by decide)) (g := (mkF m 77 #[.val (.int arg0), .val (.int arg1), .val (.int arg2), .val (.int v1), .val (.int v2), .val (.int v3), .val (.int v4), .val (.int v5), .val (.ref b6), .val (.int (2 : Int32)), .unset, .unset, .unset, .unset] [(.ref b6), (.ref b94), (.ref b94)])) rfl (by rw [hml]; rfl) (Steps.refl _) (a := b94) (argsL := [(.ref b6)]) (rest := [(.ref b94)]) (lenOf own_pd2 rfl) rfl (by show 2 * 0 + _ ≤ _; exact Nat.le_of_eq rfl) (hb hby at_77) (fun _ _ => ⟨rfl, e94, (by decide : 2 + 0 ≤ _), (by decide : 9 + 0 ≤ _)⟩)
    dsimp only [Pt.U, Pt.locs, Pt.cells, Pt.slots] at X98 l98 y98_ z98_ st98 hQ98
    subst l98 y98_ z98_
    obtain ⟨rfl, N98q, K98, p98_0, p98_1, p98_2⟩ := hQ98
    have N98 := Fr.app n22 N98q
    have z99 : n0 ≤ T98.heap.size := Nat.le_trans z95 K98.1
    refine own_ss (B := T98.setTop (mkF m 80 #[.val (.int arg0), .val (.int arg1), .val (.int arg2), .val (.int v1), .val (.int v2), .val (.int v3), .val (.int v4), .val (.int v5), .val (.ref b6), .val (.int (2 : Int32)), .unset, .unset, .unset, .unset] [(.ref b94)])) st98 ?_
    refine own_st (B := T98.setTop (mkF m 82 #[.val (.int arg0), .val (.int arg1), .val (.int arg2), .val (.int v1), .val (.int v2), .val (.int v3), .val (.int v4), .val (.int v5), .val (.ref b6), .val (.int (2 : Int32)), .val (.ref b94), .unset, .unset, .unset] [])) (fun t k => XS.astore X98.here hx rfl (hb hby at_80) rfl rfl (l' := #[.val (.int arg0), .val (.int arg1), .val (.int arg2), .val (.int v1), .val (.int v2), .val (.int v3), .val (.int v4), .val (.int v5), .val (.ref b6), .val (.int (2 : Int32)), .val (.ref b94), .unset, .unset, .unset]) rfl k) ?_
    refine own_st (B := T98.setTop (mkF m 84 #[.val (.int arg0), .val (.int arg1), .val (.int arg2), .val (.int v1), .val (.int v2), .val (.int v3), .val (.int v4), .val (.int v5), .val (.ref b6), .val (.int (2 : Int32)), .val (.ref b94), .unset, .unset, .unset] [(.int (2 : Int32))])) (fun t k => XS.iload X98.here hx rfl (hb hby at_82) rfl k) ?_
    refine own_st (B := T98.setTop (mkF m 87 #[.val (.int arg0), .val (.int arg1), .val (.int arg2), .val (.int v1), .val (.int v2), .val (.int v3), .val (.int v4), .val (.int v5), .val (.ref b6), .val (.int (2 : Int32)), .val (.ref b94), .unset, .unset, .unset] [])) (fun t k => XS.ifNo X98.here hx rfl (hb hby at_84) rfl (by decide) k) ?_
    refine own_st (B := T98.setTop (mkF m 89 #[.val (.int arg0), .val (.int arg1), .val (.int arg2), .val (.int v1), .val (.int v2), .val (.int v3), .val (.int v4), .val (.int v5), .val (.ref b6), .val (.int (2 : Int32)), .val (.ref b94), .unset, .unset, .unset] [(.ref b94)])) (fun t k => XS.aload X98.here hx rfl (hb hby at_87) rfl rfl k) ?_
    have f100 : own_A Z T98.heap b6 .byte [(.int (v1.toInt8.toInt32)), (.int (v2.toInt8.toInt32)), (.int (v3.toInt8.toInt32)), (.int (v4.toInt8.toInt32)), (.int (v5.toInt8.toInt32))] := ((f20_.ext E94).keep K98 (ninS q94_b6 nin0))
    obtain ⟨cq101, kq101, q101a, q101b, q101c⟩ := isOf hZ rfl p98_0
    obtain ⟨_, _, ⟨T101, L101, k101, j101⟩, -, X101, ⟨Lc101, hQ101, l101, y101_, z101_⟩, st101⟩ := X98.virtualBack hx (y := (⟨"com/example/libentkey/libentkey/codec/KeyReader", "next", "()I"⟩ : MethodName)) (z := (⟨"com/example/libentkey/libentkey/codec/KeyReader", "next", "()I"⟩ : MethodName)) hown (mvT hZ (w_13 hw)) (mvT hZ (w_14 hw)) (notFace_of_selects (args := #[]) (mvT hZ (w_16 hw))) (mvT hZ (w_16 hw)) (mvT hZ (w_15 hw)) (by decide) (backOf (W := 0) (rm3 l Z a0 hw [] b94 b6 (0 : Int32) [(v1.toInt8.toInt32), (v2.toInt8.toInt32), (v3.toInt8.toInt32), (v4.toInt8.toInt32), (v5.toInt8.toInt32)] T98.heap n0 z99 p98_0 p98_1 p98_2 f100 u94 q94_b6 (show 0 ≤ (0 : Int32).toInt ∧ (0 : Int32).toInt < ((5 : Nat) : Int) from by decide) (show [(v1.toInt8.toInt32), (v2.toInt8.toInt32), (v3.toInt8.toInt32), (v4.toInt8.toInt32), (v5.toInt8.toInt32)].length < 1000 from (by decide : 5 < 1000))) hZ (w_17 hw) (w_4 hw) (by decide) (by decide)) q101a q101c (g := (mkF m 89 #[.val (.int arg0), .val (.int arg1), .val (.int arg2), .val (.int v1), .val (.int v2), .val (.int v3), .val (.int v4), .val (.int v5), .val (.ref b6), .val (.int (2 : Int32)), .val (.ref b94), .unset, .unset, .unset] [(.ref b94)])) rfl (by rw [hml]; rfl) (Steps.refl _) (argsL := []) (rest := []) (lenOf own_pd5 rfl) rfl (by show 2 * 0 + _ ≤ _; exact Nat.le_of_eq rfl) (hb hby at_89) (fun _ _ => ⟨rfl, rfl, (by decide : 2 + 0 ≤ _), (by decide : 9 + 0 ≤ _)⟩)
    dsimp only [Pt.U, Pt.locs, Pt.cells, Pt.slots] at X101 l101 y101_ z101_ st101 hQ101
    subst l101 y101_ z101_
    obtain ⟨rfl, N101q, K101, p101_0, p101_1, p101_2⟩ := hQ101
    have N101 := Fr.app N98 N101q
    have z102 : n0 ≤ T101.heap.size := Nat.le_trans z99 K101.1
    refine own_ss (B := T101.setTop (mkF m 92 #[.val (.int arg0), .val (.int arg1), .val (.int arg2), .val (.int v1), .val (.int v2), .val (.int v3), .val (.int v4), .val (.int v5), .val (.ref b6), .val (.int (2 : Int32)), .val (.ref b94), .unset, .unset, .unset] [(.int (([(v1.toInt8.toInt32), (v2.toInt8.toInt32), (v3.toInt8.toInt32), (v4.toInt8.toInt32), (v5.toInt8.toInt32)].getD (0 : Int32).toInt.toNat 0) &&& (255 : Int32)))])) st101 ?_
    refine own_st (B := T101.setTop (mkF m 93 #[.val (.int arg0), .val (.int arg1), .val (.int arg2), .val (.int v1), .val (.int v2), .val (.int v3), .val (.int v4), .val (.int v5), .val (.ref b6), .val (.int (2 : Int32)), .val (.ref b94), .unset, .unset, .unset] [])) (fun t k => XS.pop X101.here hx rfl (hb hby at_92) rfl rfl k) ?_
    refine own_st (B := T101.setTop (mkF m 95 #[.val (.int arg0), .val (.int arg1), .val (.int arg2), .val (.int v1), .val (.int v2), .val (.int v3), .val (.int v4), .val (.int v5), .val (.ref b6), .val (.int (2 : Int32)), .val (.ref b94), .unset, .unset, .unset] [(.int (2 : Int32))])) (fun t k => XS.iload X101.here hx rfl (hb hby at_93) rfl k) ?_
    refine own_st (B := T101.setTop (mkF m 96 #[.val (.int arg0), .val (.int arg1), .val (.int arg2), .val (.int v1), .val (.int v2), .val (.int v3), .val (.int v4), .val (.int v5), .val (.ref b6), .val (.int (2 : Int32)), .val (.ref b94), .unset, .unset, .unset] [(.int (1 : Int32)), (.int (2 : Int32))])) (fun t k => XS.iconst X101.here hx rfl (hb hby at_95) k) ?_
    refine own_st (B := T101.setTop (mkF m 99 #[.val (.int arg0), .val (.int arg1), .val (.int arg2), .val (.int v1), .val (.int v2), .val (.int v3), .val (.int v4), .val (.int v5), .val (.ref b6), .val (.int (2 : Int32)), .val (.ref b94), .unset, .unset, .unset] [])) (fun t k => XS.icmpNo X101.here hx rfl (hb hby at_96) rfl (by decide) k) ?_
    refine own_st (B := T101.setTop (mkF m 101 #[.val (.int arg0), .val (.int arg1), .val (.int arg2), .val (.int v1), .val (.int v2), .val (.int v3), .val (.int v4), .val (.int v5), .val (.ref b6), .val (.int (2 : Int32)), .val (.ref b94), .unset, .unset, .unset] [(.ref b94)])) (fun t k => XS.aload X101.here hx rfl (hb hby at_99) rfl rfl k) ?_
    have f103 : own_A Z T101.heap b6 .byte [(.int (v1.toInt8.toInt32)), (.int (v2.toInt8.toInt32)), (.int (v3.toInt8.toInt32)), (.int (v4.toInt8.toInt32)), (.int (v5.toInt8.toInt32))] := (f100.keep K101 (ninS q94_b6 nin0))
    obtain ⟨cq104, kq104, q104a, q104b, q104c⟩ := isOf hZ rfl p101_0
    obtain ⟨_, _, ⟨T104, L104, k104, j104⟩, -, X104, ⟨Lc104, hQ104, l104, y104_, z104_⟩, st104⟩ := X101.virtualBack hx (y := (⟨"com/example/libentkey/libentkey/codec/KeyReader", "next", "()I"⟩ : MethodName)) (z := (⟨"com/example/libentkey/libentkey/codec/KeyReader", "next", "()I"⟩ : MethodName)) hown (mvT hZ (w_13 hw)) (mvT hZ (w_14 hw)) (notFace_of_selects (args := #[]) (mvT hZ (w_16 hw))) (mvT hZ (w_16 hw)) (mvT hZ (w_15 hw)) (by decide) (backOf (W := 0) (rm3 l Z a0 hw [] b94 b6 ((0 : Int32) + (1 : Int32)) [(v1.toInt8.toInt32), (v2.toInt8.toInt32), (v3.toInt8.toInt32), (v4.toInt8.toInt32), (v5.toInt8.toInt32)] T101.heap n0 z102 p101_0 p101_1 p101_2 f103 u94 q94_b6 (show 0 ≤ ((0 : Int32) + (1 : Int32)).toInt ∧ ((0 : Int32) + (1 : Int32)).toInt < ((5 : Nat) : Int) from by decide) (show [(v1.toInt8.toInt32), (v2.toInt8.toInt32), (v3.toInt8.toInt32), (v4.toInt8.toInt32), (v5.toInt8.toInt32)].length < 1000 from (by decide : 5 < 1000))) hZ (w_17 hw) (w_4 hw) (by decide) (by decide)) q104a q104c (g := (mkF m 101 #[.val (.int arg0), .val (.int arg1), .val (.int arg2), .val (.int v1), .val (.int v2), .val (.int v3), .val (.int v4), .val (.int v5), .val (.ref b6), .val (.int (2 : Int32)), .val (.ref b94), .unset, .unset, .unset] [(.ref b94)])) rfl (by rw [hml]; rfl) (Steps.refl _) (argsL := []) (rest := []) (lenOf own_pd5 rfl) rfl (by show 2 * 0 + _ ≤ _; exact Nat.le_of_eq rfl) (hb hby at_101) (fun _ _ => ⟨rfl, rfl, (by decide : 2 + 0 ≤ _), (by decide : 9 + 0 ≤ _)⟩)
    dsimp only [Pt.U, Pt.locs, Pt.cells, Pt.slots] at X104 l104 y104_ z104_ st104 hQ104
    subst l104 y104_ z104_
    obtain ⟨rfl, N104q, K104, p104_0, p104_1, p104_2⟩ := hQ104
    have N104 := Fr.app N101 N104q
    have z105 : n0 ≤ T104.heap.size := Nat.le_trans z102 K104.1
    refine own_ss (B := T104.setTop (mkF m 104 #[.val (.int arg0), .val (.int arg1), .val (.int arg2), .val (.int v1), .val (.int v2), .val (.int v3), .val (.int v4), .val (.int v5), .val (.ref b6), .val (.int (2 : Int32)), .val (.ref b94), .unset, .unset, .unset] [(.int (([(v1.toInt8.toInt32), (v2.toInt8.toInt32), (v3.toInt8.toInt32), (v4.toInt8.toInt32), (v5.toInt8.toInt32)].getD ((0 : Int32) + (1 : Int32)).toInt.toNat 0) &&& (255 : Int32)))])) st104 ?_
    refine own_st (B := T104.setTop (mkF m 105 #[.val (.int arg0), .val (.int arg1), .val (.int arg2), .val (.int v1), .val (.int v2), .val (.int v3), .val (.int v4), .val (.int v5), .val (.ref b6), .val (.int (2 : Int32)), .val (.ref b94), .unset, .unset, .unset] [])) (fun t k => XS.pop X104.here hx rfl (hb hby at_104) rfl rfl k) ?_
    refine own_st (B := T104.setTop (mkF m 107 #[.val (.int arg0), .val (.int arg1), .val (.int arg2), .val (.int v1), .val (.int v2), .val (.int v3), .val (.int v4), .val (.int v5), .val (.ref b6), .val (.int (2 : Int32)), .val (.ref b94), .unset, .unset, .unset] [(.int (2 : Int32))])) (fun t k => XS.iload X104.here hx rfl (hb hby at_105) rfl k) ?_
    refine own_st (B := T104.setTop (mkF m 108 #[.val (.int arg0), .val (.int arg1), .val (.int arg2), .val (.int v1), .val (.int v2), .val (.int v3), .val (.int v4), .val (.int v5), .val (.ref b6), .val (.int (2 : Int32)), .val (.ref b94), .unset, .unset, .unset] [(.int (2 : Int32)), (.int (2 : Int32))])) (fun t k => XS.iconst X104.here hx rfl (hb hby at_107) k) ?_
    refine own_st (B := T104.setTop (mkF m 117 #[.val (.int arg0), .val (.int arg1), .val (.int arg2), .val (.int v1), .val (.int v2), .val (.int v3), .val (.int v4), .val (.int v5), .val (.ref b6), .val (.int (2 : Int32)), .val (.ref b94), .unset, .unset, .unset] [])) (fun t k => XS.icmpYes X104.here hx rfl (pc0 := 108) (pc' := 117) rfl (hb hby at_108) rfl (by decide) (by decide) (by decide) k) ?_
    refine own_st (B := T104.setTop (mkF m 119 #[.val (.int arg0), .val (.int arg1), .val (.int arg2), .val (.int v1), .val (.int v2), .val (.int v3), .val (.int v4), .val (.int v5), .val (.ref b6), .val (.int (2 : Int32)), .val (.ref b94), .unset, .unset, .unset] [(.int (2 : Int32))])) (fun t k => XS.iload X104.here hx rfl (hb hby at_117) rfl k) ?_
    refine own_st (B := T104.setTop (mkF m 120 #[.val (.int arg0), .val (.int arg1), .val (.int arg2), .val (.int v1), .val (.int v2), .val (.int v3), .val (.int v4), .val (.int v5), .val (.ref b6), .val (.int (2 : Int32)), .val (.ref b94), .unset, .unset, .unset] [(.int (3 : Int32)), (.int (2 : Int32))])) (fun t k => XS.iconst X104.here hx rfl (hb hby at_119) k) ?_
    refine own_st (B := T104.setTop (mkF m 129 #[.val (.int arg0), .val (.int arg1), .val (.int arg2), .val (.int v1), .val (.int v2), .val (.int v3), .val (.int v4), .val (.int v5), .val (.ref b6), .val (.int (2 : Int32)), .val (.ref b94), .unset, .unset, .unset] [])) (fun t k => XS.icmpYes X104.here hx rfl (pc0 := 120) (pc' := 129) rfl (hb hby at_120) rfl (by decide) (by decide) (by decide) k) ?_
    refine own_st (B := T104.setTop (mkF m 131 #[.val (.int arg0), .val (.int arg1), .val (.int arg2), .val (.int v1), .val (.int v2), .val (.int v3), .val (.int v4), .val (.int v5), .val (.ref b6), .val (.int (2 : Int32)), .val (.ref b94), .unset, .unset, .unset] [(.int (2 : Int32))])) (fun t k => XS.iload X104.here hx rfl (hb hby at_129) rfl k) ?_
    refine own_st (B := T104.setTop (mkF m 132 #[.val (.int arg0), .val (.int arg1), .val (.int arg2), .val (.int v1), .val (.int v2), .val (.int v3), .val (.int v4), .val (.int v5), .val (.ref b6), .val (.int (2 : Int32)), .val (.ref b94), .unset, .unset, .unset] [(.int (4 : Int32)), (.int (2 : Int32))])) (fun t k => XS.iconst X104.here hx rfl (hb hby at_131) k) ?_
    refine own_st (B := T104.setTop (mkF m 141 #[.val (.int arg0), .val (.int arg1), .val (.int arg2), .val (.int v1), .val (.int v2), .val (.int v3), .val (.int v4), .val (.int v5), .val (.ref b6), .val (.int (2 : Int32)), .val (.ref b94), .unset, .unset, .unset] [])) (fun t k => XS.icmpYes X104.here hx rfl (pc0 := 132) (pc' := 141) rfl (hb hby at_132) rfl (by decide) (by decide) (by decide) k) ?_
    refine own_st (B := T104.setTop (mkF m 142 #[.val (.int arg0), .val (.int arg1), .val (.int arg2), .val (.int v1), .val (.int v2), .val (.int v3), .val (.int v4), .val (.int v5), .val (.ref b6), .val (.int (2 : Int32)), .val (.ref b94), .unset, .unset, .unset] [(.int (5 : Int32))])) (fun t k => XS.iconst X104.here hx rfl (hb hby at_141) k) ?_
    refine own_st (B := T104.setTop (mkF m 144 #[.val (.int arg0), .val (.int arg1), .val (.int arg2), .val (.int v1), .val (.int v2), .val (.int v3), .val (.int v4), .val (.int v5), .val (.ref b6), .val (.int (2 : Int32)), .val (.ref b94), .val (.int (5 : Int32)), .unset, .unset] [])) (fun t k => XS.istore X104.here hx rfl (hb hby at_142) rfl (l' := #[.val (.int arg0), .val (.int arg1), .val (.int arg2), .val (.int v1), .val (.int v2), .val (.int v3), .val (.int v4), .val (.int v5), .val (.ref b6), .val (.int (2 : Int32)), .val (.ref b94), .val (.int (5 : Int32)), .unset, .unset]) rfl k) ?_
    refine own_st (B := T104.setTop (mkF m 146 #[.val (.int arg0), .val (.int arg1), .val (.int arg2), .val (.int v1), .val (.int v2), .val (.int v3), .val (.int v4), .val (.int v5), .val (.ref b6), .val (.int (2 : Int32)), .val (.ref b94), .val (.int (5 : Int32)), .unset, .unset] [(.int (2 : Int32))])) (fun t k => XS.iload X104.here hx rfl (hb hby at_144) rfl k) ?_
    refine own_st (B := T104.setTop (mkF m 147 #[.val (.int arg0), .val (.int arg1), .val (.int arg2), .val (.int v1), .val (.int v2), .val (.int v3), .val (.int v4), .val (.int v5), .val (.ref b6), .val (.int (2 : Int32)), .val (.ref b94), .val (.int (5 : Int32)), .unset, .unset] [(.int (4 : Int32)), (.int (2 : Int32))])) (fun t k => XS.iconst X104.here hx rfl (hb hby at_146) k) ?_
    refine own_st (B := T104.setTop (mkF m 150 #[.val (.int arg0), .val (.int arg1), .val (.int arg2), .val (.int v1), .val (.int v2), .val (.int v3), .val (.int v4), .val (.int v5), .val (.ref b6), .val (.int (2 : Int32)), .val (.ref b94), .val (.int (5 : Int32)), .unset, .unset] [])) (fun t k => XS.icmpNo X104.here hx rfl (hb hby at_147) rfl (by decide) k) ?_
    refine own_st (B := T104.setTop (mkF m 152 #[.val (.int arg0), .val (.int arg1), .val (.int arg2), .val (.int v1), .val (.int v2), .val (.int v3), .val (.int v4), .val (.int v5), .val (.ref b6), .val (.int (2 : Int32)), .val (.ref b94), .val (.int (5 : Int32)), .unset, .unset] [(.int v5)])) (fun t k => XS.iload X104.here hx rfl (hb hby at_150) rfl k) ?_
    obtain ⟨_, _, ⟨T106, L106, k106, j106⟩, -, X106, ⟨Lc106, hQ106, l106, y106_, z106_⟩, st106⟩ := Jvm.LawKit.callS X104 hx (y := (⟨"com/example/libentkey/libentkey/codec/KeyReaderSkipAsciiPinLaw", "ascii", "(B)Z"⟩ : MethodName)) hown (mvT hZ (w_20 hw)) (mvT hZ (w_21 hw)) (mvT hZ (w_22 hw)) (mvT hZ (w_23 hw)) (by decide) (backOf (W := 0) (rm4 l Z a0 hw [] v5 T104.heap n0 z105 ) hZ (w_23 hw) (w_22 hw) (by decide) (by decide)) (g := (mkF m 152 #[.val (.int arg0), .val (.int arg1), .val (.int arg2), .val (.int v1), .val (.int v2), .val (.int v3), .val (.int v4), .val (.int v5), .val (.ref b6), .val (.int (2 : Int32)), .val (.ref b94), .val (.int (5 : Int32)), .unset, .unset] [(.int v5)])) rfl (by rw [hml]; rfl) (argsL := [(.int v5)]) (rest := []) (lenOf own_pd3 rfl) rfl (by show 2 * 0 + _ ≤ _; exact Nat.le_of_eq rfl) (hb hby at_152) (fun _ _ => ⟨rfl, rfl, (by decide : 2 + 0 ≤ _), (by decide : 9 + 0 ≤ _)⟩)
    dsimp only [Pt.U, Pt.locs, Pt.cells, Pt.slots] at X106 l106 y106_ z106_ st106 hQ106
    subst l106 y106_ z106_
    obtain ⟨rfl, N106q, e106q⟩ := hQ106
    have N106 := Fr.app N104 N106q
    refine own_st (B := T106.setTop (mkF m 155 #[.val (.int arg0), .val (.int arg1), .val (.int arg2), .val (.int v1), .val (.int v2), .val (.int v3), .val (.int v4), .val (.int v5), .val (.ref b6), .val (.int (2 : Int32)), .val (.ref b94), .val (.int (5 : Int32)), .unset, .unset] [(.int (own_f4 v5))])) (fun t k => st106 t k) ?_
    refine own_cut (P := ∀ (v108 : Int32), (v108 = (if (own_f4 v5) = (0 : Int32) then (4 : Int32) else (5 : Int32))) → own_Go p e below s (Q0 Z arg0 arg1 arg2 h0 n0) 16 128 (T106.setTop (mkF m 161 #[.val (.int arg0), .val (.int arg1), .val (.int arg2), .val (.int v1), .val (.int v2), .val (.int v3), .val (.int v4), .val (.int v5), .val (.ref b6), .val (.int (2 : Int32)), .val (.ref b94), .val (.int v108), .unset, .unset] []))) (fun J109 => ?_) ?_
    · by_cases hc107 : (own_f4 v5) = (0 : Int32)
      · refine own_st (B := T106.setTop (mkF m 158 #[.val (.int arg0), .val (.int arg1), .val (.int arg2), .val (.int v1), .val (.int v2), .val (.int v3), .val (.int v4), .val (.int v5), .val (.ref b6), .val (.int (2 : Int32)), .val (.ref b94), .val (.int (5 : Int32)), .unset, .unset] [])) (fun t k => XS.ifNo X106.here hx rfl (hb hby at_155) rfl (XT.i0_ne_f hc107) k) ?_
        refine own_st (B := T106.setTop (mkF m 159 #[.val (.int arg0), .val (.int arg1), .val (.int arg2), .val (.int v1), .val (.int v2), .val (.int v3), .val (.int v4), .val (.int v5), .val (.ref b6), .val (.int (2 : Int32)), .val (.ref b94), .val (.int (5 : Int32)), .unset, .unset] [(.int (4 : Int32))])) (fun t k => XS.iconst X106.here hx rfl (hb hby at_158) k) ?_
        refine own_st (B := T106.setTop (mkF m 161 #[.val (.int arg0), .val (.int arg1), .val (.int arg2), .val (.int v1), .val (.int v2), .val (.int v3), .val (.int v4), .val (.int v5), .val (.ref b6), .val (.int (2 : Int32)), .val (.ref b94), .val (.int (4 : Int32)), .unset, .unset] [])) (fun t k => XS.istore X106.here hx rfl (hb hby at_159) rfl (l' := #[.val (.int arg0), .val (.int arg1), .val (.int arg2), .val (.int v1), .val (.int v2), .val (.int v3), .val (.int v4), .val (.int v5), .val (.ref b6), .val (.int (2 : Int32)), .val (.ref b94), .val (.int (4 : Int32)), .unset, .unset]) rfl k) ?_
        exact J109 (4 : Int32) (by rw [if_pos hc107])
      · refine own_st (B := T106.setTop (mkF m 161 #[.val (.int arg0), .val (.int arg1), .val (.int arg2), .val (.int v1), .val (.int v2), .val (.int v3), .val (.int v4), .val (.int v5), .val (.ref b6), .val (.int (2 : Int32)), .val (.ref b94), .val (.int (5 : Int32)), .unset, .unset] [])) (fun t k => XS.ifYes X106.here hx rfl (pc0 := 155) (pc' := 161) rfl (hb hby at_155) rfl (XT.i0_ne_t hc107) (by decide) (by decide) k) ?_
        exact J109 (5 : Int32) (by rw [if_neg hc107])
    intro v108 hv108
    refine own_st (B := T106.setTop (mkF m 163 #[.val (.int arg0), .val (.int arg1), .val (.int arg2), .val (.int v1), .val (.int v2), .val (.int v3), .val (.int v4), .val (.int v5), .val (.ref b6), .val (.int (2 : Int32)), .val (.ref b94), .val (.int v108), .unset, .unset] [(.int (2 : Int32))])) (fun t k => XS.iload X106.here hx rfl (hb hby at_161) rfl k) ?_
    refine own_st (B := T106.setTop (mkF m 164 #[.val (.int arg0), .val (.int arg1), .val (.int arg2), .val (.int v1), .val (.int v2), .val (.int v3), .val (.int v4), .val (.int v5), .val (.ref b6), .val (.int (2 : Int32)), .val (.ref b94), .val (.int v108), .unset, .unset] [(.int (3 : Int32)), (.int (2 : Int32))])) (fun t k => XS.iconst X106.here hx rfl (hb hby at_163) k) ?_
    refine own_st (B := T106.setTop (mkF m 167 #[.val (.int arg0), .val (.int arg1), .val (.int arg2), .val (.int v1), .val (.int v2), .val (.int v3), .val (.int v4), .val (.int v5), .val (.ref b6), .val (.int (2 : Int32)), .val (.ref b94), .val (.int v108), .unset, .unset] [])) (fun t k => XS.icmpNo X106.here hx rfl (hb hby at_164) rfl (by decide) k) ?_
    refine own_st (B := T106.setTop (mkF m 169 #[.val (.int arg0), .val (.int arg1), .val (.int arg2), .val (.int v1), .val (.int v2), .val (.int v3), .val (.int v4), .val (.int v5), .val (.ref b6), .val (.int (2 : Int32)), .val (.ref b94), .val (.int v108), .unset, .unset] [(.int v4)])) (fun t k => XS.iload X106.here hx rfl (hb hby at_167) rfl k) ?_
    obtain ⟨_, _, ⟨T110, L110, k110, j110⟩, -, X110, ⟨Lc110, hQ110, l110, y110_, z110_⟩, st110⟩ := Jvm.LawKit.callS X106 hx (y := (⟨"com/example/libentkey/libentkey/codec/KeyReaderSkipAsciiPinLaw", "ascii", "(B)Z"⟩ : MethodName)) hown (mvT hZ (w_20 hw)) (mvT hZ (w_21 hw)) (mvT hZ (w_22 hw)) (mvT hZ (w_23 hw)) (by decide) (backOf (W := 0) (rm4 l Z a0 hw [] v4 T104.heap n0 z105 ) hZ (w_23 hw) (w_22 hw) (by decide) (by decide)) (g := (mkF m 169 #[.val (.int arg0), .val (.int arg1), .val (.int arg2), .val (.int v1), .val (.int v2), .val (.int v3), .val (.int v4), .val (.int v5), .val (.ref b6), .val (.int (2 : Int32)), .val (.ref b94), .val (.int v108), .unset, .unset] [(.int v4)])) rfl (by rw [hml]; rfl) (argsL := [(.int v4)]) (rest := []) (lenOf own_pd3 rfl) rfl (by show 2 * 0 + _ ≤ _; exact Nat.le_of_eq rfl) (hb hby at_169) (fun _ _ => ⟨rfl, e106q, (by decide : 2 + 0 ≤ _), (by decide : 9 + 0 ≤ _)⟩)
    dsimp only [Pt.U, Pt.locs, Pt.cells, Pt.slots] at X110 l110 y110_ z110_ st110 hQ110
    subst l110 y110_ z110_
    obtain ⟨rfl, N110q, e110q⟩ := hQ110
    have N110 := Fr.app N106 N110q
    refine own_st (B := T110.setTop (mkF m 172 #[.val (.int arg0), .val (.int arg1), .val (.int arg2), .val (.int v1), .val (.int v2), .val (.int v3), .val (.int v4), .val (.int v5), .val (.ref b6), .val (.int (2 : Int32)), .val (.ref b94), .val (.int v108), .unset, .unset] [(.int (own_f4 v4))])) (fun t k => st110 t k) ?_
    refine own_cut (P := ∀ (v112 : Int32), (v112 = (if (own_f4 v4) = (0 : Int32) then (3 : Int32) else v108)) → own_Go p e below s (Q0 Z arg0 arg1 arg2 h0 n0) 16 128 (T110.setTop (mkF m 178 #[.val (.int arg0), .val (.int arg1), .val (.int arg2), .val (.int v1), .val (.int v2), .val (.int v3), .val (.int v4), .val (.int v5), .val (.ref b6), .val (.int (2 : Int32)), .val (.ref b94), .val (.int v112), .unset, .unset] []))) (fun J113 => ?_) ?_
    · by_cases hc111 : (own_f4 v4) = (0 : Int32)
      · refine own_st (B := T110.setTop (mkF m 175 #[.val (.int arg0), .val (.int arg1), .val (.int arg2), .val (.int v1), .val (.int v2), .val (.int v3), .val (.int v4), .val (.int v5), .val (.ref b6), .val (.int (2 : Int32)), .val (.ref b94), .val (.int v108), .unset, .unset] [])) (fun t k => XS.ifNo X110.here hx rfl (hb hby at_172) rfl (XT.i0_ne_f hc111) k) ?_
        refine own_st (B := T110.setTop (mkF m 176 #[.val (.int arg0), .val (.int arg1), .val (.int arg2), .val (.int v1), .val (.int v2), .val (.int v3), .val (.int v4), .val (.int v5), .val (.ref b6), .val (.int (2 : Int32)), .val (.ref b94), .val (.int v108), .unset, .unset] [(.int (3 : Int32))])) (fun t k => XS.iconst X110.here hx rfl (hb hby at_175) k) ?_
        refine own_st (B := T110.setTop (mkF m 178 #[.val (.int arg0), .val (.int arg1), .val (.int arg2), .val (.int v1), .val (.int v2), .val (.int v3), .val (.int v4), .val (.int v5), .val (.ref b6), .val (.int (2 : Int32)), .val (.ref b94), .val (.int (3 : Int32)), .unset, .unset] [])) (fun t k => XS.istore X110.here hx rfl (hb hby at_176) rfl (l' := #[.val (.int arg0), .val (.int arg1), .val (.int arg2), .val (.int v1), .val (.int v2), .val (.int v3), .val (.int v4), .val (.int v5), .val (.ref b6), .val (.int (2 : Int32)), .val (.ref b94), .val (.int (3 : Int32)), .unset, .unset]) rfl k) ?_
        exact J113 (3 : Int32) (by rw [if_pos hc111])
      · refine own_st (B := T110.setTop (mkF m 178 #[.val (.int arg0), .val (.int arg1), .val (.int arg2), .val (.int v1), .val (.int v2), .val (.int v3), .val (.int v4), .val (.int v5), .val (.ref b6), .val (.int (2 : Int32)), .val (.ref b94), .val (.int v108), .unset, .unset] [])) (fun t k => XS.ifYes X110.here hx rfl (pc0 := 172) (pc' := 178) rfl (hb hby at_172) rfl (XT.i0_ne_t hc111) (by decide) (by decide) k) ?_
        exact J113 v108 (by rw [if_neg hc111])
    intro v112 hv112
    refine own_st (B := T110.setTop (mkF m 180 #[.val (.int arg0), .val (.int arg1), .val (.int arg2), .val (.int v1), .val (.int v2), .val (.int v3), .val (.int v4), .val (.int v5), .val (.ref b6), .val (.int (2 : Int32)), .val (.ref b94), .val (.int v112), .unset, .unset] [(.int (2 : Int32))])) (fun t k => XS.iload X110.here hx rfl (hb hby at_178) rfl k) ?_
    refine own_st (B := T110.setTop (mkF m 181 #[.val (.int arg0), .val (.int arg1), .val (.int arg2), .val (.int v1), .val (.int v2), .val (.int v3), .val (.int v4), .val (.int v5), .val (.ref b6), .val (.int (2 : Int32)), .val (.ref b94), .val (.int v112), .unset, .unset] [(.int (2 : Int32)), (.int (2 : Int32))])) (fun t k => XS.iconst X110.here hx rfl (hb hby at_180) k) ?_
    refine own_st (B := T110.setTop (mkF m 184 #[.val (.int arg0), .val (.int arg1), .val (.int arg2), .val (.int v1), .val (.int v2), .val (.int v3), .val (.int v4), .val (.int v5), .val (.ref b6), .val (.int (2 : Int32)), .val (.ref b94), .val (.int v112), .unset, .unset] [])) (fun t k => XS.icmpNo X110.here hx rfl (hb hby at_181) rfl (by decide) k) ?_
    refine own_st (B := T110.setTop (mkF m 186 #[.val (.int arg0), .val (.int arg1), .val (.int arg2), .val (.int v1), .val (.int v2), .val (.int v3), .val (.int v4), .val (.int v5), .val (.ref b6), .val (.int (2 : Int32)), .val (.ref b94), .val (.int v112), .unset, .unset] [(.int v3)])) (fun t k => XS.iload X110.here hx rfl (hb hby at_184) rfl k) ?_
    obtain ⟨_, _, ⟨T114, L114, k114, j114⟩, -, X114, ⟨Lc114, hQ114, l114, y114_, z114_⟩, st114⟩ := Jvm.LawKit.callS X110 hx (y := (⟨"com/example/libentkey/libentkey/codec/KeyReaderSkipAsciiPinLaw", "ascii", "(B)Z"⟩ : MethodName)) hown (mvT hZ (w_20 hw)) (mvT hZ (w_21 hw)) (mvT hZ (w_22 hw)) (mvT hZ (w_23 hw)) (by decide) (backOf (W := 0) (rm4 l Z a0 hw [] v3 T104.heap n0 z105 ) hZ (w_23 hw) (w_22 hw) (by decide) (by decide)) (g := (mkF m 186 #[.val (.int arg0), .val (.int arg1), .val (.int arg2), .val (.int v1), .val (.int v2), .val (.int v3), .val (.int v4), .val (.int v5), .val (.ref b6), .val (.int (2 : Int32)), .val (.ref b94), .val (.int v112), .unset, .unset] [(.int v3)])) rfl (by rw [hml]; rfl) (argsL := [(.int v3)]) (rest := []) (lenOf own_pd3 rfl) rfl (by show 2 * 0 + _ ≤ _; exact Nat.le_of_eq rfl) (hb hby at_186) (fun _ _ => ⟨rfl, e110q, (by decide : 2 + 0 ≤ _), (by decide : 9 + 0 ≤ _)⟩)
    dsimp only [Pt.U, Pt.locs, Pt.cells, Pt.slots] at X114 l114 y114_ z114_ st114 hQ114
    subst l114 y114_ z114_
    obtain ⟨rfl, N114q, e114q⟩ := hQ114
    have N114 := Fr.app N110 N114q
    refine own_st (B := T114.setTop (mkF m 189 #[.val (.int arg0), .val (.int arg1), .val (.int arg2), .val (.int v1), .val (.int v2), .val (.int v3), .val (.int v4), .val (.int v5), .val (.ref b6), .val (.int (2 : Int32)), .val (.ref b94), .val (.int v112), .unset, .unset] [(.int (own_f4 v3))])) (fun t k => st114 t k) ?_
    refine own_cut (P := ∀ (v116 : Int32), (v116 = (if (own_f4 v3) = (0 : Int32) then (2 : Int32) else v112)) → own_Go p e below s (Q0 Z arg0 arg1 arg2 h0 n0) 16 128 (T114.setTop (mkF m 195 #[.val (.int arg0), .val (.int arg1), .val (.int arg2), .val (.int v1), .val (.int v2), .val (.int v3), .val (.int v4), .val (.int v5), .val (.ref b6), .val (.int (2 : Int32)), .val (.ref b94), .val (.int v116), .unset, .unset] []))) (fun J117 => ?_) ?_
    · by_cases hc115 : (own_f4 v3) = (0 : Int32)
      · refine own_st (B := T114.setTop (mkF m 192 #[.val (.int arg0), .val (.int arg1), .val (.int arg2), .val (.int v1), .val (.int v2), .val (.int v3), .val (.int v4), .val (.int v5), .val (.ref b6), .val (.int (2 : Int32)), .val (.ref b94), .val (.int v112), .unset, .unset] [])) (fun t k => XS.ifNo X114.here hx rfl (hb hby at_189) rfl (XT.i0_ne_f hc115) k) ?_
        refine own_st (B := T114.setTop (mkF m 193 #[.val (.int arg0), .val (.int arg1), .val (.int arg2), .val (.int v1), .val (.int v2), .val (.int v3), .val (.int v4), .val (.int v5), .val (.ref b6), .val (.int (2 : Int32)), .val (.ref b94), .val (.int v112), .unset, .unset] [(.int (2 : Int32))])) (fun t k => XS.iconst X114.here hx rfl (hb hby at_192) k) ?_
        refine own_st (B := T114.setTop (mkF m 195 #[.val (.int arg0), .val (.int arg1), .val (.int arg2), .val (.int v1), .val (.int v2), .val (.int v3), .val (.int v4), .val (.int v5), .val (.ref b6), .val (.int (2 : Int32)), .val (.ref b94), .val (.int (2 : Int32)), .unset, .unset] [])) (fun t k => XS.istore X114.here hx rfl (hb hby at_193) rfl (l' := #[.val (.int arg0), .val (.int arg1), .val (.int arg2), .val (.int v1), .val (.int v2), .val (.int v3), .val (.int v4), .val (.int v5), .val (.ref b6), .val (.int (2 : Int32)), .val (.ref b94), .val (.int (2 : Int32)), .unset, .unset]) rfl k) ?_
        exact J117 (2 : Int32) (by rw [if_pos hc115])
      · refine own_st (B := T114.setTop (mkF m 195 #[.val (.int arg0), .val (.int arg1), .val (.int arg2), .val (.int v1), .val (.int v2), .val (.int v3), .val (.int v4), .val (.int v5), .val (.ref b6), .val (.int (2 : Int32)), .val (.ref b94), .val (.int v112), .unset, .unset] [])) (fun t k => XS.ifYes X114.here hx rfl (pc0 := 189) (pc' := 195) rfl (hb hby at_189) rfl (XT.i0_ne_t hc115) (by decide) (by decide) k) ?_
        exact J117 v112 (by rw [if_neg hc115])
    intro v116 hv116
    refine own_st (B := T114.setTop (mkF m 197 #[.val (.int arg0), .val (.int arg1), .val (.int arg2), .val (.int v1), .val (.int v2), .val (.int v3), .val (.int v4), .val (.int v5), .val (.ref b6), .val (.int (2 : Int32)), .val (.ref b94), .val (.int v116), .unset, .unset] [(.int (2 : Int32))])) (fun t k => XS.iload X114.here hx rfl (hb hby at_195) rfl k) ?_
    refine own_st (B := T114.setTop (mkF m 198 #[.val (.int arg0), .val (.int arg1), .val (.int arg2), .val (.int v1), .val (.int v2), .val (.int v3), .val (.int v4), .val (.int v5), .val (.ref b6), .val (.int (2 : Int32)), .val (.ref b94), .val (.int v116), .unset, .unset] [(.int (1 : Int32)), (.int (2 : Int32))])) (fun t k => XS.iconst X114.here hx rfl (hb hby at_197) k) ?_
    refine own_st (B := T114.setTop (mkF m 212 #[.val (.int arg0), .val (.int arg1), .val (.int arg2), .val (.int v1), .val (.int v2), .val (.int v3), .val (.int v4), .val (.int v5), .val (.ref b6), .val (.int (2 : Int32)), .val (.ref b94), .val (.int v116), .unset, .unset] [])) (fun t k => XS.icmpYes X114.here hx rfl (pc0 := 198) (pc' := 212) rfl (hb hby at_198) rfl (by decide) (by decide) (by decide) k) ?_
    refine own_st (B := T114.setTop (mkF m 214 #[.val (.int arg0), .val (.int arg1), .val (.int arg2), .val (.int v1), .val (.int v2), .val (.int v3), .val (.int v4), .val (.int v5), .val (.ref b6), .val (.int (2 : Int32)), .val (.ref b94), .val (.int v116), .unset, .unset] [(.int (2 : Int32))])) (fun t k => XS.iload X114.here hx rfl (hb hby at_212) rfl k) ?_
    refine own_st (B := T114.setTop (mkF m 227 #[.val (.int arg0), .val (.int arg1), .val (.int arg2), .val (.int v1), .val (.int v2), .val (.int v3), .val (.int v4), .val (.int v5), .val (.ref b6), .val (.int (2 : Int32)), .val (.ref b94), .val (.int v116), .unset, .unset] [])) (fun t k => XS.ifYes X114.here hx rfl (pc0 := 214) (pc' := 227) rfl (hb hby at_214) rfl (by decide) (by decide) (by decide) k) ?_
    refine own_st (B := T114.setTop (mkF m 229 #[.val (.int arg0), .val (.int arg1), .val (.int arg2), .val (.int v1), .val (.int v2), .val (.int v3), .val (.int v4), .val (.int v5), .val (.ref b6), .val (.int (2 : Int32)), .val (.ref b94), .val (.int v116), .unset, .unset] [(.ref b94)])) (fun t k => XS.aload X114.here hx rfl (hb hby at_227) rfl rfl k) ?_
    have f118 : own_A Z T104.heap b6 .byte [(.int (v1.toInt8.toInt32)), (.int (v2.toInt8.toInt32)), (.int (v3.toInt8.toInt32)), (.int (v4.toInt8.toInt32)), (.int (v5.toInt8.toInt32))] := (f103.keep K104 (ninS q94_b6 nin0))
    obtain ⟨cq119, kq119, q119a, q119b, q119c⟩ := isOf hZ e114q p104_0
    obtain ⟨_, _, ⟨T119, L119, k119, j119⟩, -, X119, ⟨Lc119, hQ119, l119, y119_, z119_⟩, st119⟩ := X114.virtualBack hx (y := (⟨"com/example/libentkey/libentkey/codec/KeyReader", "skipAscii", "()V"⟩ : MethodName)) (z := (⟨"com/example/libentkey/libentkey/codec/KeyReader", "skipAscii", "()V"⟩ : MethodName)) hown (mvT hZ (w_24 hw)) (mvT hZ (w_25 hw)) (notFace_of_selects (args := #[]) (mvT hZ (w_27 hw))) (mvT hZ (w_27 hw)) (mvT hZ (w_26 hw)) (by decide) (backOf (W := 0) (rm5 l Z a0 hw [] b94 b6 (((0 : Int32) + (1 : Int32)) + (1 : Int32)) [(v1.toInt8.toInt32), (v2.toInt8.toInt32), (v3.toInt8.toInt32), (v4.toInt8.toInt32), (v5.toInt8.toInt32)] T104.heap n0 z105 p104_0 p104_1 p104_2 f118 u94 (show 0 ≤ (((0 : Int32) + (1 : Int32)) + (1 : Int32)).toInt ∧ (((0 : Int32) + (1 : Int32)) + (1 : Int32)).toInt ≤ ((5 : Nat) : Int) from by decide) (show [(v1.toInt8.toInt32), (v2.toInt8.toInt32), (v3.toInt8.toInt32), (v4.toInt8.toInt32), (v5.toInt8.toInt32)].length < 1000 from (by decide : 5 < 1000))) hZ (w_28 hw) (w_4 hw) (by decide) (by decide)) q119a q119c (g := (mkF m 229 #[.val (.int arg0), .val (.int arg1), .val (.int arg2), .val (.int v1), .val (.int v2), .val (.int v3), .val (.int v4), .val (.int v5), .val (.ref b6), .val (.int (2 : Int32)), .val (.ref b94), .val (.int v116), .unset, .unset] [(.ref b94)])) rfl (by rw [hml]; rfl) (Steps.refl _) (argsL := []) (rest := []) (lenOf own_pd4 rfl) rfl (by show 2 * 0 + _ ≤ _; exact Nat.le_of_eq rfl) (hb hby at_229) (fun _ _ => ⟨rfl, e114q, (by decide : 2 + 0 ≤ _), (by decide : 9 + 0 ≤ _)⟩)
    dsimp only [Pt.U, Pt.locs, Pt.cells, Pt.slots] at X119 l119 y119_ z119_ st119 hQ119
    subst l119 y119_ z119_
    obtain ⟨q_119, rfl, N119q, K119, p119_0, p119_1, p119_2, r119_0⟩ := hQ119
    have N119 := Fr.app N114 N119q
    have z120 : n0 ≤ T119.heap.size := Nat.le_trans z105 K119.1
    refine own_ss (B := T119.setTop (mkF m 232 #[.val (.int arg0), .val (.int arg1), .val (.int arg2), .val (.int v1), .val (.int v2), .val (.int v3), .val (.int v4), .val (.int v5), .val (.ref b6), .val (.int (2 : Int32)), .val (.ref b94), .val (.int v116), .unset, .unset] [])) st119 ?_
    refine own_st (B := T119.setTop (mkF m 234 #[.val (.int arg0), .val (.int arg1), .val (.int arg2), .val (.int v1), .val (.int v2), .val (.int v3), .val (.int v4), .val (.int v5), .val (.ref b6), .val (.int (2 : Int32)), .val (.ref b94), .val (.int v116), .unset, .unset] [(.ref b94)])) (fun t k => XS.aload X119.here hx rfl (hb hby at_232) rfl rfl k) ?_
    obtain ⟨cq121, kq121, q121a, q121b, q121c⟩ := isOf hZ rfl p119_0
    obtain ⟨_, _, ⟨T121, L121, k121, j121⟩, -, X121, ⟨Lc121, hQ121, l121, y121_, z121_⟩, st121⟩ := X119.virtualBack hx (y := (⟨"com/example/libentkey/libentkey/codec/KeyReader", "position", "()I"⟩ : MethodName)) (z := (⟨"com/example/libentkey/libentkey/codec/KeyReader", "position", "()I"⟩ : MethodName)) hown (mvT hZ (w_29 hw)) (mvT hZ (w_30 hw)) (notFace_of_selects (args := #[]) (mvT hZ (w_32 hw))) (mvT hZ (w_32 hw)) (mvT hZ (w_31 hw)) (by decide) (backOf (W := 0) (rm6 l Z a0 hw [] b94 q_119 T119.heap n0 z120 p119_2) hZ (w_33 hw) (w_4 hw) (by decide) (by decide)) q121a q121c (g := (mkF m 234 #[.val (.int arg0), .val (.int arg1), .val (.int arg2), .val (.int v1), .val (.int v2), .val (.int v3), .val (.int v4), .val (.int v5), .val (.ref b6), .val (.int (2 : Int32)), .val (.ref b94), .val (.int v116), .unset, .unset] [(.ref b94)])) rfl (by rw [hml]; rfl) (Steps.refl _) (argsL := []) (rest := []) (lenOf own_pd5 rfl) rfl (by show 2 * 0 + _ ≤ _; exact Nat.le_of_eq rfl) (hb hby at_234) (fun _ _ => ⟨rfl, rfl, (by decide : 2 + 0 ≤ _), (by decide : 9 + 0 ≤ _)⟩)
    dsimp only [Pt.U, Pt.locs, Pt.cells, Pt.slots] at X121 l121 y121_ z121_ st121 hQ121
    subst l121 y121_ z121_
    obtain ⟨rfl, N121q, e121q⟩ := hQ121
    have N121 := Fr.app N119 N121q
    refine own_ss (B := T121.setTop (mkF m 237 #[.val (.int arg0), .val (.int arg1), .val (.int arg2), .val (.int v1), .val (.int v2), .val (.int v3), .val (.int v4), .val (.int v5), .val (.ref b6), .val (.int (2 : Int32)), .val (.ref b94), .val (.int v116), .unset, .unset] [(.int q_119)])) st121 ?_
    refine own_st (B := T121.setTop (mkF m 239 #[.val (.int arg0), .val (.int arg1), .val (.int arg2), .val (.int v1), .val (.int v2), .val (.int v3), .val (.int v4), .val (.int v5), .val (.ref b6), .val (.int (2 : Int32)), .val (.ref b94), .val (.int v116), .val (.int q_119), .unset] [])) (fun t k => XS.istore X121.here hx rfl (hb hby at_237) rfl (l' := #[.val (.int arg0), .val (.int arg1), .val (.int arg2), .val (.int v1), .val (.int v2), .val (.int v3), .val (.int v4), .val (.int v5), .val (.ref b6), .val (.int (2 : Int32)), .val (.ref b94), .val (.int v116), .val (.int q_119), .unset]) rfl k) ?_
    refine own_st (B := T121.setTop (mkF m 241 #[.val (.int arg0), .val (.int arg1), .val (.int arg2), .val (.int v1), .val (.int v2), .val (.int v3), .val (.int v4), .val (.int v5), .val (.ref b6), .val (.int (2 : Int32)), .val (.ref b94), .val (.int v116), .val (.int q_119), .unset] [(.ref b94)])) (fun t k => XS.aload X121.here hx rfl (hb hby at_239) rfl rfl k) ?_
    have f122 : own_A Z T119.heap b6 .byte [(.int (v1.toInt8.toInt32)), (.int (v2.toInt8.toInt32)), (.int (v3.toInt8.toInt32)), (.int (v4.toInt8.toInt32)), (.int (v5.toInt8.toInt32))] := (f118.keep K119 (ninS q94_b6 nin0))
    obtain ⟨cq123, kq123, q123a, q123b, q123c⟩ := isOf hZ e121q p119_0
    obtain ⟨_, _, ⟨T123, L123, k123, j123⟩, -, X123, ⟨Lc123, hQ123, l123, y123_, z123_⟩, st123⟩ := X121.virtualBack hx (y := (⟨"com/example/libentkey/libentkey/codec/KeyReader", "skipAscii", "()V"⟩ : MethodName)) (z := (⟨"com/example/libentkey/libentkey/codec/KeyReader", "skipAscii", "()V"⟩ : MethodName)) hown (mvT hZ (w_24 hw)) (mvT hZ (w_25 hw)) (notFace_of_selects (args := #[]) (mvT hZ (w_27 hw))) (mvT hZ (w_27 hw)) (mvT hZ (w_26 hw)) (by decide) (backOf (W := 0) (rm5 l Z a0 hw [] b94 b6 q_119 [(v1.toInt8.toInt32), (v2.toInt8.toInt32), (v3.toInt8.toInt32), (v4.toInt8.toInt32), (v5.toInt8.toInt32)] T119.heap n0 z120 p119_0 p119_1 p119_2 f122 u94 (show 0 ≤ q_119.toInt ∧ q_119.toInt ≤ ([(v1.toInt8.toInt32), (v2.toInt8.toInt32), (v3.toInt8.toInt32), (v4.toInt8.toInt32), (v5.toInt8.toInt32)].length : Int) by have h1 := own_bnd_2 r119_0; exact ⟨by omega, by show _ ≤ ((5 : Nat) : Int); omega⟩) (show [(v1.toInt8.toInt32), (v2.toInt8.toInt32), (v3.toInt8.toInt32), (v4.toInt8.toInt32), (v5.toInt8.toInt32)].length < 1000 from (by decide : 5 < 1000))) hZ (w_28 hw) (w_4 hw) (by decide) (by decide)) q123a q123c (g := (mkF m 241 #[.val (.int arg0), .val (.int arg1), .val (.int arg2), .val (.int v1), .val (.int v2), .val (.int v3), .val (.int v4), .val (.int v5), .val (.ref b6), .val (.int (2 : Int32)), .val (.ref b94), .val (.int v116), .val (.int q_119), .unset] [(.ref b94)])) rfl (by rw [hml]; rfl) (Steps.refl _) (argsL := []) (rest := []) (lenOf own_pd4 rfl) rfl (by show 2 * 0 + _ ≤ _; exact Nat.le_of_eq rfl) (hb hby at_241) (fun _ _ => ⟨rfl, e121q, (by decide : 2 + 0 ≤ _), (by decide : 9 + 0 ≤ _)⟩)
    dsimp only [Pt.U, Pt.locs, Pt.cells, Pt.slots] at X123 l123 y123_ z123_ st123 hQ123
    subst l123 y123_ z123_
    obtain ⟨q_123, rfl, N123q, K123, p123_0, p123_1, p123_2, r123_0⟩ := hQ123
    have N123 := Fr.app N121 N123q
    have z124 : n0 ≤ T123.heap.size := Nat.le_trans z120 K123.1
    refine own_ss (B := T123.setTop (mkF m 244 #[.val (.int arg0), .val (.int arg1), .val (.int arg2), .val (.int v1), .val (.int v2), .val (.int v3), .val (.int v4), .val (.int v5), .val (.ref b6), .val (.int (2 : Int32)), .val (.ref b94), .val (.int v116), .val (.int q_119), .unset] [])) st123 ?_
    refine own_st (B := T123.setTop (mkF m 246 #[.val (.int arg0), .val (.int arg1), .val (.int arg2), .val (.int v1), .val (.int v2), .val (.int v3), .val (.int v4), .val (.int v5), .val (.ref b6), .val (.int (2 : Int32)), .val (.ref b94), .val (.int v116), .val (.int q_119), .unset] [(.ref b94)])) (fun t k => XS.aload X123.here hx rfl (hb hby at_244) rfl rfl k) ?_
    obtain ⟨cq125, kq125, q125a, q125b, q125c⟩ := isOf hZ rfl p123_0
    obtain ⟨_, _, ⟨T125, L125, k125, j125⟩, -, X125, ⟨Lc125, hQ125, l125, y125_, z125_⟩, st125⟩ := X123.virtualBack hx (y := (⟨"com/example/libentkey/libentkey/codec/KeyReader", "position", "()I"⟩ : MethodName)) (z := (⟨"com/example/libentkey/libentkey/codec/KeyReader", "position", "()I"⟩ : MethodName)) hown (mvT hZ (w_29 hw)) (mvT hZ (w_30 hw)) (notFace_of_selects (args := #[]) (mvT hZ (w_32 hw))) (mvT hZ (w_32 hw)) (mvT hZ (w_31 hw)) (by decide) (backOf (W := 0) (rm6 l Z a0 hw [] b94 q_123 T123.heap n0 z124 p123_2) hZ (w_33 hw) (w_4 hw) (by decide) (by decide)) q125a q125c (g := (mkF m 246 #[.val (.int arg0), .val (.int arg1), .val (.int arg2), .val (.int v1), .val (.int v2), .val (.int v3), .val (.int v4), .val (.int v5), .val (.ref b6), .val (.int (2 : Int32)), .val (.ref b94), .val (.int v116), .val (.int q_119), .unset] [(.ref b94)])) rfl (by rw [hml]; rfl) (Steps.refl _) (argsL := []) (rest := []) (lenOf own_pd5 rfl) rfl (by show 2 * 0 + _ ≤ _; exact Nat.le_of_eq rfl) (hb hby at_246) (fun _ _ => ⟨rfl, rfl, (by decide : 2 + 0 ≤ _), (by decide : 9 + 0 ≤ _)⟩)
    dsimp only [Pt.U, Pt.locs, Pt.cells, Pt.slots] at X125 l125 y125_ z125_ st125 hQ125
    subst l125 y125_ z125_
    obtain ⟨rfl, N125q, e125q⟩ := hQ125
    have N125 := Fr.app N123 N125q
    refine own_ss (B := T125.setTop (mkF m 249 #[.val (.int arg0), .val (.int arg1), .val (.int arg2), .val (.int v1), .val (.int v2), .val (.int v3), .val (.int v4), .val (.int v5), .val (.ref b6), .val (.int (2 : Int32)), .val (.ref b94), .val (.int v116), .val (.int q_119), .unset] [(.int q_123)])) st125 ?_
    refine own_st (B := T125.setTop (mkF m 251 #[.val (.int arg0), .val (.int arg1), .val (.int arg2), .val (.int v1), .val (.int v2), .val (.int v3), .val (.int v4), .val (.int v5), .val (.ref b6), .val (.int (2 : Int32)), .val (.ref b94), .val (.int v116), .val (.int q_119), .val (.int q_123)] [])) (fun t k => XS.istore X125.here hx rfl (hb hby at_249) rfl (l' := #[.val (.int arg0), .val (.int arg1), .val (.int arg2), .val (.int v1), .val (.int v2), .val (.int v3), .val (.int v4), .val (.int v5), .val (.ref b6), .val (.int (2 : Int32)), .val (.ref b94), .val (.int v116), .val (.int q_119), .val (.int q_123)]) rfl k) ?_
    refine own_st (B := T125.setTop (mkF m 253 #[.val (.int arg0), .val (.int arg1), .val (.int arg2), .val (.int v1), .val (.int v2), .val (.int v3), .val (.int v4), .val (.int v5), .val (.ref b6), .val (.int (2 : Int32)), .val (.ref b94), .val (.int v116), .val (.int q_119), .val (.int q_123)] [(.int q_119)])) (fun t k => XS.iload X125.here hx rfl (hb hby at_251) rfl k) ?_
    refine own_st (B := T125.setTop (mkF m 255 #[.val (.int arg0), .val (.int arg1), .val (.int arg2), .val (.int v1), .val (.int v2), .val (.int v3), .val (.int v4), .val (.int v5), .val (.ref b6), .val (.int (2 : Int32)), .val (.ref b94), .val (.int v116), .val (.int q_119), .val (.int q_123)] [(.int v116), (.int q_119)])) (fun t k => XS.iload X125.here hx rfl (hb hby at_253) rfl k) ?_
    have hc126 : q_119 = v116 := by
      refine Int32.toInt_inj.mp (r119_0.trans ?_)
      exact (show v116.toInt = _ from (own_rs (k := 2) ev3 rfl (own_rs (k := 3) ev4 rfl (own_rs (k := 4) ev5 rfl rfl hv108) hv112) hv116)).symm
    refine own_st (B := T125.setTop (mkF m 258 #[.val (.int arg0), .val (.int arg1), .val (.int arg2), .val (.int v1), .val (.int v2), .val (.int v3), .val (.int v4), .val (.int v5), .val (.ref b6), .val (.int (2 : Int32)), .val (.ref b94), .val (.int v116), .val (.int q_119), .val (.int q_123)] [])) (fun t k => XS.icmpNo X125.here hx rfl (hb hby at_255) rfl (XT.ii_ne_f hc126) k) ?_
    refine own_st (B := T125.setTop (mkF m 260 #[.val (.int arg0), .val (.int arg1), .val (.int arg2), .val (.int v1), .val (.int v2), .val (.int v3), .val (.int v4), .val (.int v5), .val (.ref b6), .val (.int (2 : Int32)), .val (.ref b94), .val (.int v116), .val (.int q_119), .val (.int q_123)] [(.int q_123)])) (fun t k => XS.iload X125.here hx rfl (hb hby at_258) rfl k) ?_
    refine own_st (B := T125.setTop (mkF m 262 #[.val (.int arg0), .val (.int arg1), .val (.int arg2), .val (.int v1), .val (.int v2), .val (.int v3), .val (.int v4), .val (.int v5), .val (.ref b6), .val (.int (2 : Int32)), .val (.ref b94), .val (.int v116), .val (.int q_119), .val (.int q_123)] [(.int v116), (.int q_123)])) (fun t k => XS.iload X125.here hx rfl (hb hby at_260) rfl k) ?_
    have hc127 : q_123 = v116 := by
      refine Eq.trans (Int32.toInt_inj.mp ?_) hc126
      have b1 := own_bnd_2 r119_0
      have e2 := r123_0
      have e3 : q_119.toInt.toNat = 2 + own_run (([(v1.toInt8.toInt32), (v2.toInt8.toInt32), (v3.toInt8.toInt32), (v4.toInt8.toInt32), (v5.toInt8.toInt32)] : List Int32).drop 2) := by
        have e4 := r119_0
        show _ = _
        exact own_nat_2 e4
      rw [e3, own_run_again] at e2
      omega
    refine own_st (B := T125.setTop (mkF m 265 #[.val (.int arg0), .val (.int arg1), .val (.int arg2), .val (.int v1), .val (.int v2), .val (.int v3), .val (.int v4), .val (.int v5), .val (.ref b6), .val (.int (2 : Int32)), .val (.ref b94), .val (.int v116), .val (.int q_119), .val (.int q_123)] [])) (fun t k => XS.icmpNo X125.here hx rfl (hb hby at_262) rfl (XT.ii_ne_f hc127) k) ?_
    refine own_st (B := T125.setTop (mkF m 266 #[.val (.int arg0), .val (.int arg1), .val (.int arg2), .val (.int v1), .val (.int v2), .val (.int v3), .val (.int v4), .val (.int v5), .val (.ref b6), .val (.int (2 : Int32)), .val (.ref b94), .val (.int v116), .val (.int q_119), .val (.int q_123)] [(.int (1 : Int32))])) (fun t k => XS.iconst X125.here hx rfl (hb hby at_265) k) ?_
    refine own_st (B := T125.setTop (mkF m 270 #[.val (.int arg0), .val (.int arg1), .val (.int arg2), .val (.int v1), .val (.int v2), .val (.int v3), .val (.int v4), .val (.int v5), .val (.ref b6), .val (.int (2 : Int32)), .val (.ref b94), .val (.int v116), .val (.int q_119), .val (.int q_123)] [(.int (1 : Int32))])) (fun t k => XS.goto X125.here hx rfl (pc0 := 266) (pc' := 270) rfl (hb hby at_266) (by decide) (by decide) k) ?_
    refine own_retN X125 hx hlk (t := .boolean) Bd.returns (by simp) (z' := (1 : Int32)) rfl (hb hby at_270) (by decide) (by decide) ?_
    show Q0 Z arg0 arg1 arg2 h0 n0 _ T125.heap _
    rw [e125q]
    exact ⟨rfl, N125⟩
  · rw [hn]
    refine own_st (B := T20.setTop (mkF m 71 #[.val (.int arg0), .val (.int arg1), .val (.int arg2), .val (.int v1), .val (.int v2), .val (.int v3), .val (.int v4), .val (.int v5), .val (.ref b6), .val (.int (3 : Int32)), .unset, .unset, .unset, .unset] [])) (fun t k => XS.istore X20.here hx rfl (hb hby at_69) rfl (l' := #[.val (.int arg0), .val (.int arg1), .val (.int arg2), .val (.int v1), .val (.int v2), .val (.int v3), .val (.int v4), .val (.int v5), .val (.ref b6), .val (.int (3 : Int32)), .unset, .unset, .unset, .unset]) rfl k) ?_
    obtain ⟨T128, h128, X128, e128, E128, A128, D128, -, st128⟩ := newO X20 hx hZ hown (w_2 hw) (w_3 hw) (w_4 hw) e20 (g := (mkF m 71 #[.val (.int arg0), .val (.int arg1), .val (.int arg2), .val (.int v1), .val (.int v2), .val (.int v3), .val (.int v4), .val (.int v5), .val (.ref b6), .val (.int (3 : Int32)), .unset, .unset, .unset, .unset] [])) rfl (hb hby at_71) (by decide) (by decide)
    obtain ⟨b128, g128⟩ : ∃ z, z = h20.size := ⟨_, rfl⟩
    rw [← g128] at A128 D128 st128
    have q128_b6 : b6 ≠ b128 := Nat.ne_of_lt (Nat.lt_of_lt_of_le f20_.lt (Nat.le_of_eq g128.symm))
    have u128 : n0 ≤ b128 := Nat.le_trans z21 (Nat.le_of_eq g128.symm)
    have z129 : n0 ≤ h128.size := Nat.le_trans z21 E128.1
    have f130 : Fld Z h128 b128 "com/example/libentkey/libentkey/codec/KeyReader" "key" "[B" .null := D128 (Or.inr (w_12 hw)) (ty := (.array .byte)) (by decide)
    have f131 : Fld Z h128 b128 "com/example/libentkey/libentkey/codec/KeyReader" "position" "I" (.int (0 : Int32)) := D128 (Or.inl (w_19 hw)) (ty := .int) (by decide)
    refine own_st (B := T128.setTop (mkF m 74 #[.val (.int arg0), .val (.int arg1), .val (.int arg2), .val (.int v1), .val (.int v2), .val (.int v3), .val (.int v4), .val (.int v5), .val (.ref b6), .val (.int (3 : Int32)), .unset, .unset, .unset, .unset] [(.ref b128)])) (fun t k => st128 t k) ?_
    refine own_st (B := T128.setTop (mkF m 75 #[.val (.int arg0), .val (.int arg1), .val (.int arg2), .val (.int v1), .val (.int v2), .val (.int v3), .val (.int v4), .val (.int v5), .val (.ref b6), .val (.int (3 : Int32)), .unset, .unset, .unset, .unset] [(.ref b128), (.ref b128)])) (fun t k => XS.dup X128.here hx rfl (hb hby at_74) rfl rfl k) ?_
    refine own_st (B := T128.setTop (mkF m 77 #[.val (.int arg0), .val (.int arg1), .val (.int arg2), .val (.int v1), .val (.int v2), .val (.int v3), .val (.int v4), .val (.int v5), .val (.ref b6), .val (.int (3 : Int32)), .unset, .unset, .unset, .unset] [(.ref b6), (.ref b128), (.ref b128)])) (fun t k => XS.aload X128.here hx rfl (hb hby at_75) rfl rfl k) ?_
    obtain ⟨_, _, ⟨T132, L132, k132, j132⟩, -, X132, ⟨Lc132, hQ132, l132, y132_, z132_⟩, st132⟩ := X128.specialBack hx (y := (⟨"com/example/libentkey/libentkey/codec/KeyReader", "<init>", "([B)V"⟩ : MethodName)) rfl hown (mvT hZ (w_5 hw)) (mvT hZ (w_6 hw)) (mvT hZ (w_7 hw)) (by decide) (backOf (W := 1) (rm1 l Z a0 hw [] b128 b6 h128 n0 z129 A128 f130 f131 u128) hZ (w_7 hw) (w_4 hw) (by decide) (by decide)) (g := (mkF m 77 #[.val (.int arg0), .val (.int arg1), .val (.int arg2), .val (.int v1), .val (.int v2), .val (.int v3), .val (.int v4), .val (.int v5), .val (.ref b6), .val (.int (3 : Int32)), .unset, .unset, .unset, .unset] [(.ref b6), (.ref b128), (.ref b128)])) rfl (by rw [hml]; rfl) (Steps.refl _) (a := b128) (argsL := [(.ref b6)]) (rest := [(.ref b128)]) (lenOf own_pd2 rfl) rfl (by show 2 * 0 + _ ≤ _; exact Nat.le_of_eq rfl) (hb hby at_77) (fun _ _ => ⟨rfl, e128, (by decide : 2 + 0 ≤ _), (by decide : 9 + 0 ≤ _)⟩)
    dsimp only [Pt.U, Pt.locs, Pt.cells, Pt.slots] at X132 l132 y132_ z132_ st132 hQ132
    subst l132 y132_ z132_
    obtain ⟨rfl, N132q, K132, p132_0, p132_1, p132_2⟩ := hQ132
    have N132 := Fr.app n22 N132q
    have z133 : n0 ≤ T132.heap.size := Nat.le_trans z129 K132.1
    refine own_ss (B := T132.setTop (mkF m 80 #[.val (.int arg0), .val (.int arg1), .val (.int arg2), .val (.int v1), .val (.int v2), .val (.int v3), .val (.int v4), .val (.int v5), .val (.ref b6), .val (.int (3 : Int32)), .unset, .unset, .unset, .unset] [(.ref b128)])) st132 ?_
    refine own_st (B := T132.setTop (mkF m 82 #[.val (.int arg0), .val (.int arg1), .val (.int arg2), .val (.int v1), .val (.int v2), .val (.int v3), .val (.int v4), .val (.int v5), .val (.ref b6), .val (.int (3 : Int32)), .val (.ref b128), .unset, .unset, .unset] [])) (fun t k => XS.astore X132.here hx rfl (hb hby at_80) rfl rfl (l' := #[.val (.int arg0), .val (.int arg1), .val (.int arg2), .val (.int v1), .val (.int v2), .val (.int v3), .val (.int v4), .val (.int v5), .val (.ref b6), .val (.int (3 : Int32)), .val (.ref b128), .unset, .unset, .unset]) rfl k) ?_
    refine own_st (B := T132.setTop (mkF m 84 #[.val (.int arg0), .val (.int arg1), .val (.int arg2), .val (.int v1), .val (.int v2), .val (.int v3), .val (.int v4), .val (.int v5), .val (.ref b6), .val (.int (3 : Int32)), .val (.ref b128), .unset, .unset, .unset] [(.int (3 : Int32))])) (fun t k => XS.iload X132.here hx rfl (hb hby at_82) rfl k) ?_
    refine own_st (B := T132.setTop (mkF m 87 #[.val (.int arg0), .val (.int arg1), .val (.int arg2), .val (.int v1), .val (.int v2), .val (.int v3), .val (.int v4), .val (.int v5), .val (.ref b6), .val (.int (3 : Int32)), .val (.ref b128), .unset, .unset, .unset] [])) (fun t k => XS.ifNo X132.here hx rfl (hb hby at_84) rfl (by decide) k) ?_
    refine own_st (B := T132.setTop (mkF m 89 #[.val (.int arg0), .val (.int arg1), .val (.int arg2), .val (.int v1), .val (.int v2), .val (.int v3), .val (.int v4), .val (.int v5), .val (.ref b6), .val (.int (3 : Int32)), .val (.ref b128), .unset, .unset, .unset] [(.ref b128)])) (fun t k => XS.aload X132.here hx rfl (hb hby at_87) rfl rfl k) ?_
    have f134 : own_A Z T132.heap b6 .byte [(.int (v1.toInt8.toInt32)), (.int (v2.toInt8.toInt32)), (.int (v3.toInt8.toInt32)), (.int (v4.toInt8.toInt32)), (.int (v5.toInt8.toInt32))] := ((f20_.ext E128).keep K132 (ninS q128_b6 nin0))
    obtain ⟨cq135, kq135, q135a, q135b, q135c⟩ := isOf hZ rfl p132_0
    obtain ⟨_, _, ⟨T135, L135, k135, j135⟩, -, X135, ⟨Lc135, hQ135, l135, y135_, z135_⟩, st135⟩ := X132.virtualBack hx (y := (⟨"com/example/libentkey/libentkey/codec/KeyReader", "next", "()I"⟩ : MethodName)) (z := (⟨"com/example/libentkey/libentkey/codec/KeyReader", "next", "()I"⟩ : MethodName)) hown (mvT hZ (w_13 hw)) (mvT hZ (w_14 hw)) (notFace_of_selects (args := #[]) (mvT hZ (w_16 hw))) (mvT hZ (w_16 hw)) (mvT hZ (w_15 hw)) (by decide) (backOf (W := 0) (rm3 l Z a0 hw [] b128 b6 (0 : Int32) [(v1.toInt8.toInt32), (v2.toInt8.toInt32), (v3.toInt8.toInt32), (v4.toInt8.toInt32), (v5.toInt8.toInt32)] T132.heap n0 z133 p132_0 p132_1 p132_2 f134 u128 q128_b6 (show 0 ≤ (0 : Int32).toInt ∧ (0 : Int32).toInt < ((5 : Nat) : Int) from by decide) (show [(v1.toInt8.toInt32), (v2.toInt8.toInt32), (v3.toInt8.toInt32), (v4.toInt8.toInt32), (v5.toInt8.toInt32)].length < 1000 from (by decide : 5 < 1000))) hZ (w_17 hw) (w_4 hw) (by decide) (by decide)) q135a q135c (g := (mkF m 89 #[.val (.int arg0), .val (.int arg1), .val (.int arg2), .val (.int v1), .val (.int v2), .val (.int v3), .val (.int v4), .val (.int v5), .val (.ref b6), .val (.int (3 : Int32)), .val (.ref b128), .unset, .unset, .unset] [(.ref b128)])) rfl (by rw [hml]; rfl) (Steps.refl _) (argsL := []) (rest := []) (lenOf own_pd5 rfl) rfl (by show 2 * 0 + _ ≤ _; exact Nat.le_of_eq rfl) (hb hby at_89) (fun _ _ => ⟨rfl, rfl, (by decide : 2 + 0 ≤ _), (by decide : 9 + 0 ≤ _)⟩)
    dsimp only [Pt.U, Pt.locs, Pt.cells, Pt.slots] at X135 l135 y135_ z135_ st135 hQ135
    subst l135 y135_ z135_
    obtain ⟨rfl, N135q, K135, p135_0, p135_1, p135_2⟩ := hQ135
    have N135 := Fr.app N132 N135q
    have z136 : n0 ≤ T135.heap.size := Nat.le_trans z133 K135.1
    refine own_ss (B := T135.setTop (mkF m 92 #[.val (.int arg0), .val (.int arg1), .val (.int arg2), .val (.int v1), .val (.int v2), .val (.int v3), .val (.int v4), .val (.int v5), .val (.ref b6), .val (.int (3 : Int32)), .val (.ref b128), .unset, .unset, .unset] [(.int (([(v1.toInt8.toInt32), (v2.toInt8.toInt32), (v3.toInt8.toInt32), (v4.toInt8.toInt32), (v5.toInt8.toInt32)].getD (0 : Int32).toInt.toNat 0) &&& (255 : Int32)))])) st135 ?_
    refine own_st (B := T135.setTop (mkF m 93 #[.val (.int arg0), .val (.int arg1), .val (.int arg2), .val (.int v1), .val (.int v2), .val (.int v3), .val (.int v4), .val (.int v5), .val (.ref b6), .val (.int (3 : Int32)), .val (.ref b128), .unset, .unset, .unset] [])) (fun t k => XS.pop X135.here hx rfl (hb hby at_92) rfl rfl k) ?_
    refine own_st (B := T135.setTop (mkF m 95 #[.val (.int arg0), .val (.int arg1), .val (.int arg2), .val (.int v1), .val (.int v2), .val (.int v3), .val (.int v4), .val (.int v5), .val (.ref b6), .val (.int (3 : Int32)), .val (.ref b128), .unset, .unset, .unset] [(.int (3 : Int32))])) (fun t k => XS.iload X135.here hx rfl (hb hby at_93) rfl k) ?_
    refine own_st (B := T135.setTop (mkF m 96 #[.val (.int arg0), .val (.int arg1), .val (.int arg2), .val (.int v1), .val (.int v2), .val (.int v3), .val (.int v4), .val (.int v5), .val (.ref b6), .val (.int (3 : Int32)), .val (.ref b128), .unset, .unset, .unset] [(.int (1 : Int32)), (.int (3 : Int32))])) (fun t k => XS.iconst X135.here hx rfl (hb hby at_95) k) ?_
    refine own_st (B := T135.setTop (mkF m 99 #[.val (.int arg0), .val (.int arg1), .val (.int arg2), .val (.int v1), .val (.int v2), .val (.int v3), .val (.int v4), .val (.int v5), .val (.ref b6), .val (.int (3 : Int32)), .val (.ref b128), .unset, .unset, .unset] [])) (fun t k => XS.icmpNo X135.here hx rfl (hb hby at_96) rfl (by decide) k) ?_
    refine own_st (B := T135.setTop (mkF m 101 #[.val (.int arg0), .val (.int arg1), .val (.int arg2), .val (.int v1), .val (.int v2), .val (.int v3), .val (.int v4), .val (.int v5), .val (.ref b6), .val (.int (3 : Int32)), .val (.ref b128), .unset, .unset, .unset] [(.ref b128)])) (fun t k => XS.aload X135.here hx rfl (hb hby at_99) rfl rfl k) ?_
    have f137 : own_A Z T135.heap b6 .byte [(.int (v1.toInt8.toInt32)), (.int (v2.toInt8.toInt32)), (.int (v3.toInt8.toInt32)), (.int (v4.toInt8.toInt32)), (.int (v5.toInt8.toInt32))] := (f134.keep K135 (ninS q128_b6 nin0))
    obtain ⟨cq138, kq138, q138a, q138b, q138c⟩ := isOf hZ rfl p135_0
    obtain ⟨_, _, ⟨T138, L138, k138, j138⟩, -, X138, ⟨Lc138, hQ138, l138, y138_, z138_⟩, st138⟩ := X135.virtualBack hx (y := (⟨"com/example/libentkey/libentkey/codec/KeyReader", "next", "()I"⟩ : MethodName)) (z := (⟨"com/example/libentkey/libentkey/codec/KeyReader", "next", "()I"⟩ : MethodName)) hown (mvT hZ (w_13 hw)) (mvT hZ (w_14 hw)) (notFace_of_selects (args := #[]) (mvT hZ (w_16 hw))) (mvT hZ (w_16 hw)) (mvT hZ (w_15 hw)) (by decide) (backOf (W := 0) (rm3 l Z a0 hw [] b128 b6 ((0 : Int32) + (1 : Int32)) [(v1.toInt8.toInt32), (v2.toInt8.toInt32), (v3.toInt8.toInt32), (v4.toInt8.toInt32), (v5.toInt8.toInt32)] T135.heap n0 z136 p135_0 p135_1 p135_2 f137 u128 q128_b6 (show 0 ≤ ((0 : Int32) + (1 : Int32)).toInt ∧ ((0 : Int32) + (1 : Int32)).toInt < ((5 : Nat) : Int) from by decide) (show [(v1.toInt8.toInt32), (v2.toInt8.toInt32), (v3.toInt8.toInt32), (v4.toInt8.toInt32), (v5.toInt8.toInt32)].length < 1000 from (by decide : 5 < 1000))) hZ (w_17 hw) (w_4 hw) (by decide) (by decide)) q138a q138c (g := (mkF m 101 #[.val (.int arg0), .val (.int arg1), .val (.int arg2), .val (.int v1), .val (.int v2), .val (.int v3), .val (.int v4), .val (.int v5), .val (.ref b6), .val (.int (3 : Int32)), .val (.ref b128), .unset, .unset, .unset] [(.ref b128)])) rfl (by rw [hml]; rfl) (Steps.refl _) (argsL := []) (rest := []) (lenOf own_pd5 rfl) rfl (by show 2 * 0 + _ ≤ _; exact Nat.le_of_eq rfl) (hb hby at_101) (fun _ _ => ⟨rfl, rfl, (by decide : 2 + 0 ≤ _), (by decide : 9 + 0 ≤ _)⟩)
    dsimp only [Pt.U, Pt.locs, Pt.cells, Pt.slots] at X138 l138 y138_ z138_ st138 hQ138
    subst l138 y138_ z138_
    obtain ⟨rfl, N138q, K138, p138_0, p138_1, p138_2⟩ := hQ138
    have N138 := Fr.app N135 N138q
    have z139 : n0 ≤ T138.heap.size := Nat.le_trans z136 K138.1
    refine own_ss (B := T138.setTop (mkF m 104 #[.val (.int arg0), .val (.int arg1), .val (.int arg2), .val (.int v1), .val (.int v2), .val (.int v3), .val (.int v4), .val (.int v5), .val (.ref b6), .val (.int (3 : Int32)), .val (.ref b128), .unset, .unset, .unset] [(.int (([(v1.toInt8.toInt32), (v2.toInt8.toInt32), (v3.toInt8.toInt32), (v4.toInt8.toInt32), (v5.toInt8.toInt32)].getD ((0 : Int32) + (1 : Int32)).toInt.toNat 0) &&& (255 : Int32)))])) st138 ?_
    refine own_st (B := T138.setTop (mkF m 105 #[.val (.int arg0), .val (.int arg1), .val (.int arg2), .val (.int v1), .val (.int v2), .val (.int v3), .val (.int v4), .val (.int v5), .val (.ref b6), .val (.int (3 : Int32)), .val (.ref b128), .unset, .unset, .unset] [])) (fun t k => XS.pop X138.here hx rfl (hb hby at_104) rfl rfl k) ?_
    refine own_st (B := T138.setTop (mkF m 107 #[.val (.int arg0), .val (.int arg1), .val (.int arg2), .val (.int v1), .val (.int v2), .val (.int v3), .val (.int v4), .val (.int v5), .val (.ref b6), .val (.int (3 : Int32)), .val (.ref b128), .unset, .unset, .unset] [(.int (3 : Int32))])) (fun t k => XS.iload X138.here hx rfl (hb hby at_105) rfl k) ?_
    refine own_st (B := T138.setTop (mkF m 108 #[.val (.int arg0), .val (.int arg1), .val (.int arg2), .val (.int v1), .val (.int v2), .val (.int v3), .val (.int v4), .val (.int v5), .val (.ref b6), .val (.int (3 : Int32)), .val (.ref b128), .unset, .unset, .unset] [(.int (2 : Int32)), (.int (3 : Int32))])) (fun t k => XS.iconst X138.here hx rfl (hb hby at_107) k) ?_
    refine own_st (B := T138.setTop (mkF m 111 #[.val (.int arg0), .val (.int arg1), .val (.int arg2), .val (.int v1), .val (.int v2), .val (.int v3), .val (.int v4), .val (.int v5), .val (.ref b6), .val (.int (3 : Int32)), .val (.ref b128), .unset, .unset, .unset] [])) (fun t k => XS.icmpNo X138.here hx rfl (hb hby at_108) rfl (by decide) k) ?_
    refine own_st (B := T138.setTop (mkF m 113 #[.val (.int arg0), .val (.int arg1), .val (.int arg2), .val (.int v1), .val (.int v2), .val (.int v3), .val (.int v4), .val (.int v5), .val (.ref b6), .val (.int (3 : Int32)), .val (.ref b128), .unset, .unset, .unset] [(.ref b128)])) (fun t k => XS.aload X138.here hx rfl (hb hby at_111) rfl rfl k) ?_
    have f140 : own_A Z T138.heap b6 .byte [(.int (v1.toInt8.toInt32)), (.int (v2.toInt8.toInt32)), (.int (v3.toInt8.toInt32)), (.int (v4.toInt8.toInt32)), (.int (v5.toInt8.toInt32))] := (f137.keep K138 (ninS q128_b6 nin0))
    obtain ⟨cq141, kq141, q141a, q141b, q141c⟩ := isOf hZ rfl p138_0
    obtain ⟨_, _, ⟨T141, L141, k141, j141⟩, -, X141, ⟨Lc141, hQ141, l141, y141_, z141_⟩, st141⟩ := X138.virtualBack hx (y := (⟨"com/example/libentkey/libentkey/codec/KeyReader", "next", "()I"⟩ : MethodName)) (z := (⟨"com/example/libentkey/libentkey/codec/KeyReader", "next", "()I"⟩ : MethodName)) hown (mvT hZ (w_13 hw)) (mvT hZ (w_14 hw)) (notFace_of_selects (args := #[]) (mvT hZ (w_16 hw))) (mvT hZ (w_16 hw)) (mvT hZ (w_15 hw)) (by decide) (backOf (W := 0) (rm3 l Z a0 hw [] b128 b6 (((0 : Int32) + (1 : Int32)) + (1 : Int32)) [(v1.toInt8.toInt32), (v2.toInt8.toInt32), (v3.toInt8.toInt32), (v4.toInt8.toInt32), (v5.toInt8.toInt32)] T138.heap n0 z139 p138_0 p138_1 p138_2 f140 u128 q128_b6 (show 0 ≤ (((0 : Int32) + (1 : Int32)) + (1 : Int32)).toInt ∧ (((0 : Int32) + (1 : Int32)) + (1 : Int32)).toInt < ((5 : Nat) : Int) from by decide) (show [(v1.toInt8.toInt32), (v2.toInt8.toInt32), (v3.toInt8.toInt32), (v4.toInt8.toInt32), (v5.toInt8.toInt32)].length < 1000 from (by decide : 5 < 1000))) hZ (w_17 hw) (w_4 hw) (by decide) (by decide)) q141a q141c (g := (mkF m 113 #[.val (.int arg0), .val (.int arg1), .val (.int arg2), .val (.int v1), .val (.int v2), .val (.int v3), .val (.int v4), .val (.int v5), .val (.ref b6), .val (.int (3 : Int32)), .val (.ref b128), .unset, .unset, .unset] [(.ref b128)])) rfl (by rw [hml]; rfl) (Steps.refl _) (argsL := []) (rest := []) (lenOf own_pd5 rfl) rfl (by show 2 * 0 + _ ≤ _; exact Nat.le_of_eq rfl) (hb hby at_113) (fun _ _ => ⟨rfl, rfl, (by decide : 2 + 0 ≤ _), (by decide : 9 + 0 ≤ _)⟩)
    dsimp only [Pt.U, Pt.locs, Pt.cells, Pt.slots] at X141 l141 y141_ z141_ st141 hQ141
    subst l141 y141_ z141_
    obtain ⟨rfl, N141q, K141, p141_0, p141_1, p141_2⟩ := hQ141
    have N141 := Fr.app N138 N141q
    have z142 : n0 ≤ T141.heap.size := Nat.le_trans z139 K141.1
    refine own_ss (B := T141.setTop (mkF m 116 #[.val (.int arg0), .val (.int arg1), .val (.int arg2), .val (.int v1), .val (.int v2), .val (.int v3), .val (.int v4), .val (.int v5), .val (.ref b6), .val (.int (3 : Int32)), .val (.ref b128), .unset, .unset, .unset] [(.int (([(v1.toInt8.toInt32), (v2.toInt8.toInt32), (v3.toInt8.toInt32), (v4.toInt8.toInt32), (v5.toInt8.toInt32)].getD (((0 : Int32) + (1 : Int32)) + (1 : Int32)).toInt.toNat 0) &&& (255 : Int32)))])) st141 ?_
    refine own_st (B := T141.setTop (mkF m 117 #[.val (.int arg0), .val (.int arg1), .val (.int arg2), .val (.int v1), .val (.int v2), .val (.int v3), .val (.int v4), .val (.int v5), .val (.ref b6), .val (.int (3 : Int32)), .val (.ref b128), .unset, .unset, .unset] [])) (fun t k => XS.pop X141.here hx rfl (hb hby at_116) rfl rfl k) ?_
    refine own_st (B := T141.setTop (mkF m 119 #[.val (.int arg0), .val (.int arg1), .val (.int arg2), .val (.int v1), .val (.int v2), .val (.int v3), .val (.int v4), .val (.int v5), .val (.ref b6), .val (.int (3 : Int32)), .val (.ref b128), .unset, .unset, .unset] [(.int (3 : Int32))])) (fun t k => XS.iload X141.here hx rfl (hb hby at_117) rfl k) ?_
    refine own_st (B := T141.setTop (mkF m 120 #[.val (.int arg0), .val (.int arg1), .val (.int arg2), .val (.int v1), .val (.int v2), .val (.int v3), .val (.int v4), .val (.int v5), .val (.ref b6), .val (.int (3 : Int32)), .val (.ref b128), .unset, .unset, .unset] [(.int (3 : Int32)), (.int (3 : Int32))])) (fun t k => XS.iconst X141.here hx rfl (hb hby at_119) k) ?_
    refine own_st (B := T141.setTop (mkF m 129 #[.val (.int arg0), .val (.int arg1), .val (.int arg2), .val (.int v1), .val (.int v2), .val (.int v3), .val (.int v4), .val (.int v5), .val (.ref b6), .val (.int (3 : Int32)), .val (.ref b128), .unset, .unset, .unset] [])) (fun t k => XS.icmpYes X141.here hx rfl (pc0 := 120) (pc' := 129) rfl (hb hby at_120) rfl (by decide) (by decide) (by decide) k) ?_
    refine own_st (B := T141.setTop (mkF m 131 #[.val (.int arg0), .val (.int arg1), .val (.int arg2), .val (.int v1), .val (.int v2), .val (.int v3), .val (.int v4), .val (.int v5), .val (.ref b6), .val (.int (3 : Int32)), .val (.ref b128), .unset, .unset, .unset] [(.int (3 : Int32))])) (fun t k => XS.iload X141.here hx rfl (hb hby at_129) rfl k) ?_
    refine own_st (B := T141.setTop (mkF m 132 #[.val (.int arg0), .val (.int arg1), .val (.int arg2), .val (.int v1), .val (.int v2), .val (.int v3), .val (.int v4), .val (.int v5), .val (.ref b6), .val (.int (3 : Int32)), .val (.ref b128), .unset, .unset, .unset] [(.int (4 : Int32)), (.int (3 : Int32))])) (fun t k => XS.iconst X141.here hx rfl (hb hby at_131) k) ?_
    refine own_st (B := T141.setTop (mkF m 141 #[.val (.int arg0), .val (.int arg1), .val (.int arg2), .val (.int v1), .val (.int v2), .val (.int v3), .val (.int v4), .val (.int v5), .val (.ref b6), .val (.int (3 : Int32)), .val (.ref b128), .unset, .unset, .unset] [])) (fun t k => XS.icmpYes X141.here hx rfl (pc0 := 132) (pc' := 141) rfl (hb hby at_132) rfl (by decide) (by decide) (by decide) k) ?_
    refine own_st (B := T141.setTop (mkF m 142 #[.val (.int arg0), .val (.int arg1), .val (.int arg2), .val (.int v1), .val (.int v2), .val (.int v3), .val (.int v4), .val (.int v5), .val (.ref b6), .val (.int (3 : Int32)), .val (.ref b128), .unset, .unset, .unset] [(.int (5 : Int32))])) (fun t k => XS.iconst X141.here hx rfl (hb hby at_141) k) ?_
    refine own_st (B := T141.setTop (mkF m 144 #[.val (.int arg0), .val (.int arg1), .val (.int arg2), .val (.int v1), .val (.int v2), .val (.int v3), .val (.int v4), .val (.int v5), .val (.ref b6), .val (.int (3 : Int32)), .val (.ref b128), .val (.int (5 : Int32)), .unset, .unset] [])) (fun t k => XS.istore X141.here hx rfl (hb hby at_142) rfl (l' := #[.val (.int arg0), .val (.int arg1), .val (.int arg2), .val (.int v1), .val (.int v2), .val (.int v3), .val (.int v4), .val (.int v5), .val (.ref b6), .val (.int (3 : Int32)), .val (.ref b128), .val (.int (5 : Int32)), .unset, .unset]) rfl k) ?_
    refine own_st (B := T141.setTop (mkF m 146 #[.val (.int arg0), .val (.int arg1), .val (.int arg2), .val (.int v1), .val (.int v2), .val (.int v3), .val (.int v4), .val (.int v5), .val (.ref b6), .val (.int (3 : Int32)), .val (.ref b128), .val (.int (5 : Int32)), .unset, .unset] [(.int (3 : Int32))])) (fun t k => XS.iload X141.here hx rfl (hb hby at_144) rfl k) ?_
    refine own_st (B := T141.setTop (mkF m 147 #[.val (.int arg0), .val (.int arg1), .val (.int arg2), .val (.int v1), .val (.int v2), .val (.int v3), .val (.int v4), .val (.int v5), .val (.ref b6), .val (.int (3 : Int32)), .val (.ref b128), .val (.int (5 : Int32)), .unset, .unset] [(.int (4 : Int32)), (.int (3 : Int32))])) (fun t k => XS.iconst X141.here hx rfl (hb hby at_146) k) ?_
    refine own_st (B := T141.setTop (mkF m 150 #[.val (.int arg0), .val (.int arg1), .val (.int arg2), .val (.int v1), .val (.int v2), .val (.int v3), .val (.int v4), .val (.int v5), .val (.ref b6), .val (.int (3 : Int32)), .val (.ref b128), .val (.int (5 : Int32)), .unset, .unset] [])) (fun t k => XS.icmpNo X141.here hx rfl (hb hby at_147) rfl (by decide) k) ?_
    refine own_st (B := T141.setTop (mkF m 152 #[.val (.int arg0), .val (.int arg1), .val (.int arg2), .val (.int v1), .val (.int v2), .val (.int v3), .val (.int v4), .val (.int v5), .val (.ref b6), .val (.int (3 : Int32)), .val (.ref b128), .val (.int (5 : Int32)), .unset, .unset] [(.int v5)])) (fun t k => XS.iload X141.here hx rfl (hb hby at_150) rfl k) ?_
    obtain ⟨_, _, ⟨T143, L143, k143, j143⟩, -, X143, ⟨Lc143, hQ143, l143, y143_, z143_⟩, st143⟩ := Jvm.LawKit.callS X141 hx (y := (⟨"com/example/libentkey/libentkey/codec/KeyReaderSkipAsciiPinLaw", "ascii", "(B)Z"⟩ : MethodName)) hown (mvT hZ (w_20 hw)) (mvT hZ (w_21 hw)) (mvT hZ (w_22 hw)) (mvT hZ (w_23 hw)) (by decide) (backOf (W := 0) (rm4 l Z a0 hw [] v5 T141.heap n0 z142 ) hZ (w_23 hw) (w_22 hw) (by decide) (by decide)) (g := (mkF m 152 #[.val (.int arg0), .val (.int arg1), .val (.int arg2), .val (.int v1), .val (.int v2), .val (.int v3), .val (.int v4), .val (.int v5), .val (.ref b6), .val (.int (3 : Int32)), .val (.ref b128), .val (.int (5 : Int32)), .unset, .unset] [(.int v5)])) rfl (by rw [hml]; rfl) (argsL := [(.int v5)]) (rest := []) (lenOf own_pd3 rfl) rfl (by show 2 * 0 + _ ≤ _; exact Nat.le_of_eq rfl) (hb hby at_152) (fun _ _ => ⟨rfl, rfl, (by decide : 2 + 0 ≤ _), (by decide : 9 + 0 ≤ _)⟩)
    dsimp only [Pt.U, Pt.locs, Pt.cells, Pt.slots] at X143 l143 y143_ z143_ st143 hQ143
    subst l143 y143_ z143_
    obtain ⟨rfl, N143q, e143q⟩ := hQ143
    have N143 := Fr.app N141 N143q
    refine own_st (B := T143.setTop (mkF m 155 #[.val (.int arg0), .val (.int arg1), .val (.int arg2), .val (.int v1), .val (.int v2), .val (.int v3), .val (.int v4), .val (.int v5), .val (.ref b6), .val (.int (3 : Int32)), .val (.ref b128), .val (.int (5 : Int32)), .unset, .unset] [(.int (own_f4 v5))])) (fun t k => st143 t k) ?_
    refine own_cut (P := ∀ (v145 : Int32), (v145 = (if (own_f4 v5) = (0 : Int32) then (4 : Int32) else (5 : Int32))) → own_Go p e below s (Q0 Z arg0 arg1 arg2 h0 n0) 16 128 (T143.setTop (mkF m 161 #[.val (.int arg0), .val (.int arg1), .val (.int arg2), .val (.int v1), .val (.int v2), .val (.int v3), .val (.int v4), .val (.int v5), .val (.ref b6), .val (.int (3 : Int32)), .val (.ref b128), .val (.int v145), .unset, .unset] []))) (fun J146 => ?_) ?_
    · by_cases hc144 : (own_f4 v5) = (0 : Int32)
      · refine own_st (B := T143.setTop (mkF m 158 #[.val (.int arg0), .val (.int arg1), .val (.int arg2), .val (.int v1), .val (.int v2), .val (.int v3), .val (.int v4), .val (.int v5), .val (.ref b6), .val (.int (3 : Int32)), .val (.ref b128), .val (.int (5 : Int32)), .unset, .unset] [])) (fun t k => XS.ifNo X143.here hx rfl (hb hby at_155) rfl (XT.i0_ne_f hc144) k) ?_
        refine own_st (B := T143.setTop (mkF m 159 #[.val (.int arg0), .val (.int arg1), .val (.int arg2), .val (.int v1), .val (.int v2), .val (.int v3), .val (.int v4), .val (.int v5), .val (.ref b6), .val (.int (3 : Int32)), .val (.ref b128), .val (.int (5 : Int32)), .unset, .unset] [(.int (4 : Int32))])) (fun t k => XS.iconst X143.here hx rfl (hb hby at_158) k) ?_
        refine own_st (B := T143.setTop (mkF m 161 #[.val (.int arg0), .val (.int arg1), .val (.int arg2), .val (.int v1), .val (.int v2), .val (.int v3), .val (.int v4), .val (.int v5), .val (.ref b6), .val (.int (3 : Int32)), .val (.ref b128), .val (.int (4 : Int32)), .unset, .unset] [])) (fun t k => XS.istore X143.here hx rfl (hb hby at_159) rfl (l' := #[.val (.int arg0), .val (.int arg1), .val (.int arg2), .val (.int v1), .val (.int v2), .val (.int v3), .val (.int v4), .val (.int v5), .val (.ref b6), .val (.int (3 : Int32)), .val (.ref b128), .val (.int (4 : Int32)), .unset, .unset]) rfl k) ?_
        exact J146 (4 : Int32) (by rw [if_pos hc144])
      · refine own_st (B := T143.setTop (mkF m 161 #[.val (.int arg0), .val (.int arg1), .val (.int arg2), .val (.int v1), .val (.int v2), .val (.int v3), .val (.int v4), .val (.int v5), .val (.ref b6), .val (.int (3 : Int32)), .val (.ref b128), .val (.int (5 : Int32)), .unset, .unset] [])) (fun t k => XS.ifYes X143.here hx rfl (pc0 := 155) (pc' := 161) rfl (hb hby at_155) rfl (XT.i0_ne_t hc144) (by decide) (by decide) k) ?_
        exact J146 (5 : Int32) (by rw [if_neg hc144])
    intro v145 hv145
    refine own_st (B := T143.setTop (mkF m 163 #[.val (.int arg0), .val (.int arg1), .val (.int arg2), .val (.int v1), .val (.int v2), .val (.int v3), .val (.int v4), .val (.int v5), .val (.ref b6), .val (.int (3 : Int32)), .val (.ref b128), .val (.int v145), .unset, .unset] [(.int (3 : Int32))])) (fun t k => XS.iload X143.here hx rfl (hb hby at_161) rfl k) ?_
    refine own_st (B := T143.setTop (mkF m 164 #[.val (.int arg0), .val (.int arg1), .val (.int arg2), .val (.int v1), .val (.int v2), .val (.int v3), .val (.int v4), .val (.int v5), .val (.ref b6), .val (.int (3 : Int32)), .val (.ref b128), .val (.int v145), .unset, .unset] [(.int (3 : Int32)), (.int (3 : Int32))])) (fun t k => XS.iconst X143.here hx rfl (hb hby at_163) k) ?_
    refine own_st (B := T143.setTop (mkF m 167 #[.val (.int arg0), .val (.int arg1), .val (.int arg2), .val (.int v1), .val (.int v2), .val (.int v3), .val (.int v4), .val (.int v5), .val (.ref b6), .val (.int (3 : Int32)), .val (.ref b128), .val (.int v145), .unset, .unset] [])) (fun t k => XS.icmpNo X143.here hx rfl (hb hby at_164) rfl (by decide) k) ?_
    refine own_st (B := T143.setTop (mkF m 169 #[.val (.int arg0), .val (.int arg1), .val (.int arg2), .val (.int v1), .val (.int v2), .val (.int v3), .val (.int v4), .val (.int v5), .val (.ref b6), .val (.int (3 : Int32)), .val (.ref b128), .val (.int v145), .unset, .unset] [(.int v4)])) (fun t k => XS.iload X143.here hx rfl (hb hby at_167) rfl k) ?_
    obtain ⟨_, _, ⟨T147, L147, k147, j147⟩, -, X147, ⟨Lc147, hQ147, l147, y147_, z147_⟩, st147⟩ := Jvm.LawKit.callS X143 hx (y := (⟨"com/example/libentkey/libentkey/codec/KeyReaderSkipAsciiPinLaw", "ascii", "(B)Z"⟩ : MethodName)) hown (mvT hZ (w_20 hw)) (mvT hZ (w_21 hw)) (mvT hZ (w_22 hw)) (mvT hZ (w_23 hw)) (by decide) (backOf (W := 0) (rm4 l Z a0 hw [] v4 T141.heap n0 z142 ) hZ (w_23 hw) (w_22 hw) (by decide) (by decide)) (g := (mkF m 169 #[.val (.int arg0), .val (.int arg1), .val (.int arg2), .val (.int v1), .val (.int v2), .val (.int v3), .val (.int v4), .val (.int v5), .val (.ref b6), .val (.int (3 : Int32)), .val (.ref b128), .val (.int v145), .unset, .unset] [(.int v4)])) rfl (by rw [hml]; rfl) (argsL := [(.int v4)]) (rest := []) (lenOf own_pd3 rfl) rfl (by show 2 * 0 + _ ≤ _; exact Nat.le_of_eq rfl) (hb hby at_169) (fun _ _ => ⟨rfl, e143q, (by decide : 2 + 0 ≤ _), (by decide : 9 + 0 ≤ _)⟩)
    dsimp only [Pt.U, Pt.locs, Pt.cells, Pt.slots] at X147 l147 y147_ z147_ st147 hQ147
    subst l147 y147_ z147_
    obtain ⟨rfl, N147q, e147q⟩ := hQ147
    have N147 := Fr.app N143 N147q
    refine own_st (B := T147.setTop (mkF m 172 #[.val (.int arg0), .val (.int arg1), .val (.int arg2), .val (.int v1), .val (.int v2), .val (.int v3), .val (.int v4), .val (.int v5), .val (.ref b6), .val (.int (3 : Int32)), .val (.ref b128), .val (.int v145), .unset, .unset] [(.int (own_f4 v4))])) (fun t k => st147 t k) ?_
    refine own_cut (P := ∀ (v149 : Int32), (v149 = (if (own_f4 v4) = (0 : Int32) then (3 : Int32) else v145)) → own_Go p e below s (Q0 Z arg0 arg1 arg2 h0 n0) 16 128 (T147.setTop (mkF m 178 #[.val (.int arg0), .val (.int arg1), .val (.int arg2), .val (.int v1), .val (.int v2), .val (.int v3), .val (.int v4), .val (.int v5), .val (.ref b6), .val (.int (3 : Int32)), .val (.ref b128), .val (.int v149), .unset, .unset] []))) (fun J150 => ?_) ?_
    · by_cases hc148 : (own_f4 v4) = (0 : Int32)
      · refine own_st (B := T147.setTop (mkF m 175 #[.val (.int arg0), .val (.int arg1), .val (.int arg2), .val (.int v1), .val (.int v2), .val (.int v3), .val (.int v4), .val (.int v5), .val (.ref b6), .val (.int (3 : Int32)), .val (.ref b128), .val (.int v145), .unset, .unset] [])) (fun t k => XS.ifNo X147.here hx rfl (hb hby at_172) rfl (XT.i0_ne_f hc148) k) ?_
        refine own_st (B := T147.setTop (mkF m 176 #[.val (.int arg0), .val (.int arg1), .val (.int arg2), .val (.int v1), .val (.int v2), .val (.int v3), .val (.int v4), .val (.int v5), .val (.ref b6), .val (.int (3 : Int32)), .val (.ref b128), .val (.int v145), .unset, .unset] [(.int (3 : Int32))])) (fun t k => XS.iconst X147.here hx rfl (hb hby at_175) k) ?_
        refine own_st (B := T147.setTop (mkF m 178 #[.val (.int arg0), .val (.int arg1), .val (.int arg2), .val (.int v1), .val (.int v2), .val (.int v3), .val (.int v4), .val (.int v5), .val (.ref b6), .val (.int (3 : Int32)), .val (.ref b128), .val (.int (3 : Int32)), .unset, .unset] [])) (fun t k => XS.istore X147.here hx rfl (hb hby at_176) rfl (l' := #[.val (.int arg0), .val (.int arg1), .val (.int arg2), .val (.int v1), .val (.int v2), .val (.int v3), .val (.int v4), .val (.int v5), .val (.ref b6), .val (.int (3 : Int32)), .val (.ref b128), .val (.int (3 : Int32)), .unset, .unset]) rfl k) ?_
        exact J150 (3 : Int32) (by rw [if_pos hc148])
      · refine own_st (B := T147.setTop (mkF m 178 #[.val (.int arg0), .val (.int arg1), .val (.int arg2), .val (.int v1), .val (.int v2), .val (.int v3), .val (.int v4), .val (.int v5), .val (.ref b6), .val (.int (3 : Int32)), .val (.ref b128), .val (.int v145), .unset, .unset] [])) (fun t k => XS.ifYes X147.here hx rfl (pc0 := 172) (pc' := 178) rfl (hb hby at_172) rfl (XT.i0_ne_t hc148) (by decide) (by decide) k) ?_
        exact J150 v145 (by rw [if_neg hc148])
    intro v149 hv149
    refine own_st (B := T147.setTop (mkF m 180 #[.val (.int arg0), .val (.int arg1), .val (.int arg2), .val (.int v1), .val (.int v2), .val (.int v3), .val (.int v4), .val (.int v5), .val (.ref b6), .val (.int (3 : Int32)), .val (.ref b128), .val (.int v149), .unset, .unset] [(.int (3 : Int32))])) (fun t k => XS.iload X147.here hx rfl (hb hby at_178) rfl k) ?_
    refine own_st (B := T147.setTop (mkF m 181 #[.val (.int arg0), .val (.int arg1), .val (.int arg2), .val (.int v1), .val (.int v2), .val (.int v3), .val (.int v4), .val (.int v5), .val (.ref b6), .val (.int (3 : Int32)), .val (.ref b128), .val (.int v149), .unset, .unset] [(.int (2 : Int32)), (.int (3 : Int32))])) (fun t k => XS.iconst X147.here hx rfl (hb hby at_180) k) ?_
    refine own_st (B := T147.setTop (mkF m 195 #[.val (.int arg0), .val (.int arg1), .val (.int arg2), .val (.int v1), .val (.int v2), .val (.int v3), .val (.int v4), .val (.int v5), .val (.ref b6), .val (.int (3 : Int32)), .val (.ref b128), .val (.int v149), .unset, .unset] [])) (fun t k => XS.icmpYes X147.here hx rfl (pc0 := 181) (pc' := 195) rfl (hb hby at_181) rfl (by decide) (by decide) (by decide) k) ?_
    refine own_st (B := T147.setTop (mkF m 197 #[.val (.int arg0), .val (.int arg1), .val (.int arg2), .val (.int v1), .val (.int v2), .val (.int v3), .val (.int v4), .val (.int v5), .val (.ref b6), .val (.int (3 : Int32)), .val (.ref b128), .val (.int v149), .unset, .unset] [(.int (3 : Int32))])) (fun t k => XS.iload X147.here hx rfl (hb hby at_195) rfl k) ?_
    refine own_st (B := T147.setTop (mkF m 198 #[.val (.int arg0), .val (.int arg1), .val (.int arg2), .val (.int v1), .val (.int v2), .val (.int v3), .val (.int v4), .val (.int v5), .val (.ref b6), .val (.int (3 : Int32)), .val (.ref b128), .val (.int v149), .unset, .unset] [(.int (1 : Int32)), (.int (3 : Int32))])) (fun t k => XS.iconst X147.here hx rfl (hb hby at_197) k) ?_
    refine own_st (B := T147.setTop (mkF m 212 #[.val (.int arg0), .val (.int arg1), .val (.int arg2), .val (.int v1), .val (.int v2), .val (.int v3), .val (.int v4), .val (.int v5), .val (.ref b6), .val (.int (3 : Int32)), .val (.ref b128), .val (.int v149), .unset, .unset] [])) (fun t k => XS.icmpYes X147.here hx rfl (pc0 := 198) (pc' := 212) rfl (hb hby at_198) rfl (by decide) (by decide) (by decide) k) ?_
    refine own_st (B := T147.setTop (mkF m 214 #[.val (.int arg0), .val (.int arg1), .val (.int arg2), .val (.int v1), .val (.int v2), .val (.int v3), .val (.int v4), .val (.int v5), .val (.ref b6), .val (.int (3 : Int32)), .val (.ref b128), .val (.int v149), .unset, .unset] [(.int (3 : Int32))])) (fun t k => XS.iload X147.here hx rfl (hb hby at_212) rfl k) ?_
    refine own_st (B := T147.setTop (mkF m 227 #[.val (.int arg0), .val (.int arg1), .val (.int arg2), .val (.int v1), .val (.int v2), .val (.int v3), .val (.int v4), .val (.int v5), .val (.ref b6), .val (.int (3 : Int32)), .val (.ref b128), .val (.int v149), .unset, .unset] [])) (fun t k => XS.ifYes X147.here hx rfl (pc0 := 214) (pc' := 227) rfl (hb hby at_214) rfl (by decide) (by decide) (by decide) k) ?_
    refine own_st (B := T147.setTop (mkF m 229 #[.val (.int arg0), .val (.int arg1), .val (.int arg2), .val (.int v1), .val (.int v2), .val (.int v3), .val (.int v4), .val (.int v5), .val (.ref b6), .val (.int (3 : Int32)), .val (.ref b128), .val (.int v149), .unset, .unset] [(.ref b128)])) (fun t k => XS.aload X147.here hx rfl (hb hby at_227) rfl rfl k) ?_
    have f151 : own_A Z T141.heap b6 .byte [(.int (v1.toInt8.toInt32)), (.int (v2.toInt8.toInt32)), (.int (v3.toInt8.toInt32)), (.int (v4.toInt8.toInt32)), (.int (v5.toInt8.toInt32))] := (f140.keep K141 (ninS q128_b6 nin0))
    obtain ⟨cq152, kq152, q152a, q152b, q152c⟩ := isOf hZ e147q p141_0
    obtain ⟨_, _, ⟨T152, L152, k152, j152⟩, -, X152, ⟨Lc152, hQ152, l152, y152_, z152_⟩, st152⟩ := X147.virtualBack hx (y := (⟨"com/example/libentkey/libentkey/codec/KeyReader", "skipAscii", "()V"⟩ : MethodName)) (z := (⟨"com/example/libentkey/libentkey/codec/KeyReader", "skipAscii", "()V"⟩ : MethodName)) hown (mvT hZ (w_24 hw)) (mvT hZ (w_25 hw)) (notFace_of_selects (args := #[]) (mvT hZ (w_27 hw))) (mvT hZ (w_27 hw)) (mvT hZ (w_26 hw)) (by decide) (backOf (W := 0) (rm5 l Z a0 hw [] b128 b6 ((((0 : Int32) + (1 : Int32)) + (1 : Int32)) + (1 : Int32)) [(v1.toInt8.toInt32), (v2.toInt8.toInt32), (v3.toInt8.toInt32), (v4.toInt8.toInt32), (v5.toInt8.toInt32)] T141.heap n0 z142 p141_0 p141_1 p141_2 f151 u128 (show 0 ≤ ((((0 : Int32) + (1 : Int32)) + (1 : Int32)) + (1 : Int32)).toInt ∧ ((((0 : Int32) + (1 : Int32)) + (1 : Int32)) + (1 : Int32)).toInt ≤ ((5 : Nat) : Int) from by decide) (show [(v1.toInt8.toInt32), (v2.toInt8.toInt32), (v3.toInt8.toInt32), (v4.toInt8.toInt32), (v5.toInt8.toInt32)].length < 1000 from (by decide : 5 < 1000))) hZ (w_28 hw) (w_4 hw) (by decide) (by decide)) q152a q152c (g := (mkF m 229 #[.val (.int arg0), .val (.int arg1), .val (.int arg2), .val (.int v1), .val (.int v2), .val (.int v3), .val (.int v4), .val (.int v5), .val (.ref b6), .val (.int (3 : Int32)), .val (.ref b128), .val (.int v149), .unset, .unset] [(.ref b128)])) rfl (by rw [hml]; rfl) (Steps.refl _) (argsL := []) (rest := []) (lenOf own_pd4 rfl) rfl (by show 2 * 0 + _ ≤ _; exact Nat.le_of_eq rfl) (hb hby at_229) (fun _ _ => ⟨rfl, e147q, (by decide : 2 + 0 ≤ _), (by decide : 9 + 0 ≤ _)⟩)
    dsimp only [Pt.U, Pt.locs, Pt.cells, Pt.slots] at X152 l152 y152_ z152_ st152 hQ152
    subst l152 y152_ z152_
    obtain ⟨q_152, rfl, N152q, K152, p152_0, p152_1, p152_2, r152_0⟩ := hQ152
    have N152 := Fr.app N147 N152q
    have z153 : n0 ≤ T152.heap.size := Nat.le_trans z142 K152.1
    refine own_ss (B := T152.setTop (mkF m 232 #[.val (.int arg0), .val (.int arg1), .val (.int arg2), .val (.int v1), .val (.int v2), .val (.int v3), .val (.int v4), .val (.int v5), .val (.ref b6), .val (.int (3 : Int32)), .val (.ref b128), .val (.int v149), .unset, .unset] [])) st152 ?_
    refine own_st (B := T152.setTop (mkF m 234 #[.val (.int arg0), .val (.int arg1), .val (.int arg2), .val (.int v1), .val (.int v2), .val (.int v3), .val (.int v4), .val (.int v5), .val (.ref b6), .val (.int (3 : Int32)), .val (.ref b128), .val (.int v149), .unset, .unset] [(.ref b128)])) (fun t k => XS.aload X152.here hx rfl (hb hby at_232) rfl rfl k) ?_
    obtain ⟨cq154, kq154, q154a, q154b, q154c⟩ := isOf hZ rfl p152_0
    obtain ⟨_, _, ⟨T154, L154, k154, j154⟩, -, X154, ⟨Lc154, hQ154, l154, y154_, z154_⟩, st154⟩ := X152.virtualBack hx (y := (⟨"com/example/libentkey/libentkey/codec/KeyReader", "position", "()I"⟩ : MethodName)) (z := (⟨"com/example/libentkey/libentkey/codec/KeyReader", "position", "()I"⟩ : MethodName)) hown (mvT hZ (w_29 hw)) (mvT hZ (w_30 hw)) (notFace_of_selects (args := #[]) (mvT hZ (w_32 hw))) (mvT hZ (w_32 hw)) (mvT hZ (w_31 hw)) (by decide) (backOf (W := 0) (rm6 l Z a0 hw [] b128 q_152 T152.heap n0 z153 p152_2) hZ (w_33 hw) (w_4 hw) (by decide) (by decide)) q154a q154c (g := (mkF m 234 #[.val (.int arg0), .val (.int arg1), .val (.int arg2), .val (.int v1), .val (.int v2), .val (.int v3), .val (.int v4), .val (.int v5), .val (.ref b6), .val (.int (3 : Int32)), .val (.ref b128), .val (.int v149), .unset, .unset] [(.ref b128)])) rfl (by rw [hml]; rfl) (Steps.refl _) (argsL := []) (rest := []) (lenOf own_pd5 rfl) rfl (by show 2 * 0 + _ ≤ _; exact Nat.le_of_eq rfl) (hb hby at_234) (fun _ _ => ⟨rfl, rfl, (by decide : 2 + 0 ≤ _), (by decide : 9 + 0 ≤ _)⟩)
    dsimp only [Pt.U, Pt.locs, Pt.cells, Pt.slots] at X154 l154 y154_ z154_ st154 hQ154
    subst l154 y154_ z154_
    obtain ⟨rfl, N154q, e154q⟩ := hQ154
    have N154 := Fr.app N152 N154q
    refine own_ss (B := T154.setTop (mkF m 237 #[.val (.int arg0), .val (.int arg1), .val (.int arg2), .val (.int v1), .val (.int v2), .val (.int v3), .val (.int v4), .val (.int v5), .val (.ref b6), .val (.int (3 : Int32)), .val (.ref b128), .val (.int v149), .unset, .unset] [(.int q_152)])) st154 ?_
    refine own_st (B := T154.setTop (mkF m 239 #[.val (.int arg0), .val (.int arg1), .val (.int arg2), .val (.int v1), .val (.int v2), .val (.int v3), .val (.int v4), .val (.int v5), .val (.ref b6), .val (.int (3 : Int32)), .val (.ref b128), .val (.int v149), .val (.int q_152), .unset] [])) (fun t k => XS.istore X154.here hx rfl (hb hby at_237) rfl (l' := #[.val (.int arg0), .val (.int arg1), .val (.int arg2), .val (.int v1), .val (.int v2), .val (.int v3), .val (.int v4), .val (.int v5), .val (.ref b6), .val (.int (3 : Int32)), .val (.ref b128), .val (.int v149), .val (.int q_152), .unset]) rfl k) ?_
    refine own_st (B := T154.setTop (mkF m 241 #[.val (.int arg0), .val (.int arg1), .val (.int arg2), .val (.int v1), .val (.int v2), .val (.int v3), .val (.int v4), .val (.int v5), .val (.ref b6), .val (.int (3 : Int32)), .val (.ref b128), .val (.int v149), .val (.int q_152), .unset] [(.ref b128)])) (fun t k => XS.aload X154.here hx rfl (hb hby at_239) rfl rfl k) ?_
    have f155 : own_A Z T152.heap b6 .byte [(.int (v1.toInt8.toInt32)), (.int (v2.toInt8.toInt32)), (.int (v3.toInt8.toInt32)), (.int (v4.toInt8.toInt32)), (.int (v5.toInt8.toInt32))] := (f151.keep K152 (ninS q128_b6 nin0))
    obtain ⟨cq156, kq156, q156a, q156b, q156c⟩ := isOf hZ e154q p152_0
    obtain ⟨_, _, ⟨T156, L156, k156, j156⟩, -, X156, ⟨Lc156, hQ156, l156, y156_, z156_⟩, st156⟩ := X154.virtualBack hx (y := (⟨"com/example/libentkey/libentkey/codec/KeyReader", "skipAscii", "()V"⟩ : MethodName)) (z := (⟨"com/example/libentkey/libentkey/codec/KeyReader", "skipAscii", "()V"⟩ : MethodName)) hown (mvT hZ (w_24 hw)) (mvT hZ (w_25 hw)) (notFace_of_selects (args := #[]) (mvT hZ (w_27 hw))) (mvT hZ (w_27 hw)) (mvT hZ (w_26 hw)) (by decide) (backOf (W := 0) (rm5 l Z a0 hw [] b128 b6 q_152 [(v1.toInt8.toInt32), (v2.toInt8.toInt32), (v3.toInt8.toInt32), (v4.toInt8.toInt32), (v5.toInt8.toInt32)] T152.heap n0 z153 p152_0 p152_1 p152_2 f155 u128 (show 0 ≤ q_152.toInt ∧ q_152.toInt ≤ ([(v1.toInt8.toInt32), (v2.toInt8.toInt32), (v3.toInt8.toInt32), (v4.toInt8.toInt32), (v5.toInt8.toInt32)].length : Int) by have h1 := own_bnd_3 r152_0; exact ⟨by omega, by show _ ≤ ((5 : Nat) : Int); omega⟩) (show [(v1.toInt8.toInt32), (v2.toInt8.toInt32), (v3.toInt8.toInt32), (v4.toInt8.toInt32), (v5.toInt8.toInt32)].length < 1000 from (by decide : 5 < 1000))) hZ (w_28 hw) (w_4 hw) (by decide) (by decide)) q156a q156c (g := (mkF m 241 #[.val (.int arg0), .val (.int arg1), .val (.int arg2), .val (.int v1), .val (.int v2), .val (.int v3), .val (.int v4), .val (.int v5), .val (.ref b6), .val (.int (3 : Int32)), .val (.ref b128), .val (.int v149), .val (.int q_152), .unset] [(.ref b128)])) rfl (by rw [hml]; rfl) (Steps.refl _) (argsL := []) (rest := []) (lenOf own_pd4 rfl) rfl (by show 2 * 0 + _ ≤ _; exact Nat.le_of_eq rfl) (hb hby at_241) (fun _ _ => ⟨rfl, e154q, (by decide : 2 + 0 ≤ _), (by decide : 9 + 0 ≤ _)⟩)
    dsimp only [Pt.U, Pt.locs, Pt.cells, Pt.slots] at X156 l156 y156_ z156_ st156 hQ156
    subst l156 y156_ z156_
    obtain ⟨q_156, rfl, N156q, K156, p156_0, p156_1, p156_2, r156_0⟩ := hQ156
    have N156 := Fr.app N154 N156q
    have z157 : n0 ≤ T156.heap.size := Nat.le_trans z153 K156.1
    refine own_ss (B := T156.setTop (mkF m 244 #[.val (.int arg0), .val (.int arg1), .val (.int arg2), .val (.int v1), .val (.int v2), .val (.int v3), .val (.int v4), .val (.int v5), .val (.ref b6), .val (.int (3 : Int32)), .val (.ref b128), .val (.int v149), .val (.int q_152), .unset] [])) st156 ?_
    refine own_st (B := T156.setTop (mkF m 246 #[.val (.int arg0), .val (.int arg1), .val (.int arg2), .val (.int v1), .val (.int v2), .val (.int v3), .val (.int v4), .val (.int v5), .val (.ref b6), .val (.int (3 : Int32)), .val (.ref b128), .val (.int v149), .val (.int q_152), .unset] [(.ref b128)])) (fun t k => XS.aload X156.here hx rfl (hb hby at_244) rfl rfl k) ?_
    obtain ⟨cq158, kq158, q158a, q158b, q158c⟩ := isOf hZ rfl p156_0
    obtain ⟨_, _, ⟨T158, L158, k158, j158⟩, -, X158, ⟨Lc158, hQ158, l158, y158_, z158_⟩, st158⟩ := X156.virtualBack hx (y := (⟨"com/example/libentkey/libentkey/codec/KeyReader", "position", "()I"⟩ : MethodName)) (z := (⟨"com/example/libentkey/libentkey/codec/KeyReader", "position", "()I"⟩ : MethodName)) hown (mvT hZ (w_29 hw)) (mvT hZ (w_30 hw)) (notFace_of_selects (args := #[]) (mvT hZ (w_32 hw))) (mvT hZ (w_32 hw)) (mvT hZ (w_31 hw)) (by decide) (backOf (W := 0) (rm6 l Z a0 hw [] b128 q_156 T156.heap n0 z157 p156_2) hZ (w_33 hw) (w_4 hw) (by decide) (by decide)) q158a q158c (g := (mkF m 246 #[.val (.int arg0), .val (.int arg1), .val (.int arg2), .val (.int v1), .val (.int v2), .val (.int v3), .val (.int v4), .val (.int v5), .val (.ref b6), .val (.int (3 : Int32)), .val (.ref b128), .val (.int v149), .val (.int q_152), .unset] [(.ref b128)])) rfl (by rw [hml]; rfl) (Steps.refl _) (argsL := []) (rest := []) (lenOf own_pd5 rfl) rfl (by show 2 * 0 + _ ≤ _; exact Nat.le_of_eq rfl) (hb hby at_246) (fun _ _ => ⟨rfl, rfl, (by decide : 2 + 0 ≤ _), (by decide : 9 + 0 ≤ _)⟩)
    dsimp only [Pt.U, Pt.locs, Pt.cells, Pt.slots] at X158 l158 y158_ z158_ st158 hQ158
    subst l158 y158_ z158_
    obtain ⟨rfl, N158q, e158q⟩ := hQ158
    have N158 := Fr.app N156 N158q
    refine own_ss (B := T158.setTop (mkF m 249 #[.val (.int arg0), .val (.int arg1), .val (.int arg2), .val (.int v1), .val (.int v2), .val (.int v3), .val (.int v4), .val (.int v5), .val (.ref b6), .val (.int (3 : Int32)), .val (.ref b128), .val (.int v149), .val (.int q_152), .unset] [(.int q_156)])) st158 ?_
    refine own_st (B := T158.setTop (mkF m 251 #[.val (.int arg0), .val (.int arg1), .val (.int arg2), .val (.int v1), .val (.int v2), .val (.int v3), .val (.int v4), .val (.int v5), .val (.ref b6), .val (.int (3 : Int32)), .val (.ref b128), .val (.int v149), .val (.int q_152), .val (.int q_156)] [])) (fun t k => XS.istore X158.here hx rfl (hb hby at_249) rfl (l' := #[.val (.int arg0), .val (.int arg1), .val (.int arg2), .val (.int v1), .val (.int v2), .val (.int v3), .val (.int v4), .val (.int v5), .val (.ref b6), .val (.int (3 : Int32)), .val (.ref b128), .val (.int v149), .val (.int q_152), .val (.int q_156)]) rfl k) ?_
    refine own_st (B := T158.setTop (mkF m 253 #[.val (.int arg0), .val (.int arg1), .val (.int arg2), .val (.int v1), .val (.int v2), .val (.int v3), .val (.int v4), .val (.int v5), .val (.ref b6), .val (.int (3 : Int32)), .val (.ref b128), .val (.int v149), .val (.int q_152), .val (.int q_156)] [(.int q_152)])) (fun t k => XS.iload X158.here hx rfl (hb hby at_251) rfl k) ?_
    refine own_st (B := T158.setTop (mkF m 255 #[.val (.int arg0), .val (.int arg1), .val (.int arg2), .val (.int v1), .val (.int v2), .val (.int v3), .val (.int v4), .val (.int v5), .val (.ref b6), .val (.int (3 : Int32)), .val (.ref b128), .val (.int v149), .val (.int q_152), .val (.int q_156)] [(.int v149), (.int q_152)])) (fun t k => XS.iload X158.here hx rfl (hb hby at_253) rfl k) ?_
    have hc159 : q_152 = v149 := by
      refine Int32.toInt_inj.mp (r152_0.trans ?_)
      exact (show v149.toInt = _ from (own_rs (k := 3) ev4 rfl (own_rs (k := 4) ev5 rfl rfl hv145) hv149)).symm
    refine own_st (B := T158.setTop (mkF m 258 #[.val (.int arg0), .val (.int arg1), .val (.int arg2), .val (.int v1), .val (.int v2), .val (.int v3), .val (.int v4), .val (.int v5), .val (.ref b6), .val (.int (3 : Int32)), .val (.ref b128), .val (.int v149), .val (.int q_152), .val (.int q_156)] [])) (fun t k => XS.icmpNo X158.here hx rfl (hb hby at_255) rfl (XT.ii_ne_f hc159) k) ?_
    refine own_st (B := T158.setTop (mkF m 260 #[.val (.int arg0), .val (.int arg1), .val (.int arg2), .val (.int v1), .val (.int v2), .val (.int v3), .val (.int v4), .val (.int v5), .val (.ref b6), .val (.int (3 : Int32)), .val (.ref b128), .val (.int v149), .val (.int q_152), .val (.int q_156)] [(.int q_156)])) (fun t k => XS.iload X158.here hx rfl (hb hby at_258) rfl k) ?_
    refine own_st (B := T158.setTop (mkF m 262 #[.val (.int arg0), .val (.int arg1), .val (.int arg2), .val (.int v1), .val (.int v2), .val (.int v3), .val (.int v4), .val (.int v5), .val (.ref b6), .val (.int (3 : Int32)), .val (.ref b128), .val (.int v149), .val (.int q_152), .val (.int q_156)] [(.int v149), (.int q_156)])) (fun t k => XS.iload X158.here hx rfl (hb hby at_260) rfl k) ?_
    have hc160 : q_156 = v149 := by
      refine Eq.trans (Int32.toInt_inj.mp ?_) hc159
      have b1 := own_bnd_3 r152_0
      have e2 := r156_0
      have e3 : q_152.toInt.toNat = 3 + own_run (([(v1.toInt8.toInt32), (v2.toInt8.toInt32), (v3.toInt8.toInt32), (v4.toInt8.toInt32), (v5.toInt8.toInt32)] : List Int32).drop 3) := by
        have e4 := r152_0
        show _ = _
        exact own_nat_3 e4
      rw [e3, own_run_again] at e2
      omega
    refine own_st (B := T158.setTop (mkF m 265 #[.val (.int arg0), .val (.int arg1), .val (.int arg2), .val (.int v1), .val (.int v2), .val (.int v3), .val (.int v4), .val (.int v5), .val (.ref b6), .val (.int (3 : Int32)), .val (.ref b128), .val (.int v149), .val (.int q_152), .val (.int q_156)] [])) (fun t k => XS.icmpNo X158.here hx rfl (hb hby at_262) rfl (XT.ii_ne_f hc160) k) ?_
    refine own_st (B := T158.setTop (mkF m 266 #[.val (.int arg0), .val (.int arg1), .val (.int arg2), .val (.int v1), .val (.int v2), .val (.int v3), .val (.int v4), .val (.int v5), .val (.ref b6), .val (.int (3 : Int32)), .val (.ref b128), .val (.int v149), .val (.int q_152), .val (.int q_156)] [(.int (1 : Int32))])) (fun t k => XS.iconst X158.here hx rfl (hb hby at_265) k) ?_
    refine own_st (B := T158.setTop (mkF m 270 #[.val (.int arg0), .val (.int arg1), .val (.int arg2), .val (.int v1), .val (.int v2), .val (.int v3), .val (.int v4), .val (.int v5), .val (.ref b6), .val (.int (3 : Int32)), .val (.ref b128), .val (.int v149), .val (.int q_152), .val (.int q_156)] [(.int (1 : Int32))])) (fun t k => XS.goto X158.here hx rfl (pc0 := 266) (pc' := 270) rfl (hb hby at_266) (by decide) (by decide) k) ?_
    refine own_retN X158 hx hlk (t := .boolean) Bd.returns (by simp) (z' := (1 : Int32)) rfl (hb hby at_270) (by decide) (by decide) ?_
    show Q0 Z arg0 arg1 arg2 h0 n0 _ T158.heap _
    rw [e158q]
    exact ⟨rfl, N158⟩
  · rw [hn]
    refine own_st (B := T20.setTop (mkF m 71 #[.val (.int arg0), .val (.int arg1), .val (.int arg2), .val (.int v1), .val (.int v2), .val (.int v3), .val (.int v4), .val (.int v5), .val (.ref b6), .val (.int (4 : Int32)), .unset, .unset, .unset, .unset] [])) (fun t k => XS.istore X20.here hx rfl (hb hby at_69) rfl (l' := #[.val (.int arg0), .val (.int arg1), .val (.int arg2), .val (.int v1), .val (.int v2), .val (.int v3), .val (.int v4), .val (.int v5), .val (.ref b6), .val (.int (4 : Int32)), .unset, .unset, .unset, .unset]) rfl k) ?_
    obtain ⟨T161, h161, X161, e161, E161, A161, D161, -, st161⟩ := newO X20 hx hZ hown (w_2 hw) (w_3 hw) (w_4 hw) e20 (g := (mkF m 71 #[.val (.int arg0), .val (.int arg1), .val (.int arg2), .val (.int v1), .val (.int v2), .val (.int v3), .val (.int v4), .val (.int v5), .val (.ref b6), .val (.int (4 : Int32)), .unset, .unset, .unset, .unset] [])) rfl (hb hby at_71) (by decide) (by decide)
    obtain ⟨b161, g161⟩ : ∃ z, z = h20.size := ⟨_, rfl⟩
    rw [← g161] at A161 D161 st161
    have q161_b6 : b6 ≠ b161 := Nat.ne_of_lt (Nat.lt_of_lt_of_le f20_.lt (Nat.le_of_eq g161.symm))
    have u161 : n0 ≤ b161 := Nat.le_trans z21 (Nat.le_of_eq g161.symm)
    have z162 : n0 ≤ h161.size := Nat.le_trans z21 E161.1
    have f163 : Fld Z h161 b161 "com/example/libentkey/libentkey/codec/KeyReader" "key" "[B" .null := D161 (Or.inr (w_12 hw)) (ty := (.array .byte)) (by decide)
    have f164 : Fld Z h161 b161 "com/example/libentkey/libentkey/codec/KeyReader" "position" "I" (.int (0 : Int32)) := D161 (Or.inl (w_19 hw)) (ty := .int) (by decide)
    refine own_st (B := T161.setTop (mkF m 74 #[.val (.int arg0), .val (.int arg1), .val (.int arg2), .val (.int v1), .val (.int v2), .val (.int v3), .val (.int v4), .val (.int v5), .val (.ref b6), .val (.int (4 : Int32)), .unset, .unset, .unset, .unset] [(.ref b161)])) (fun t k => st161 t k) ?_
    refine own_st (B := T161.setTop (mkF m 75 #[.val (.int arg0), .val (.int arg1), .val (.int arg2), .val (.int v1), .val (.int v2), .val (.int v3), .val (.int v4), .val (.int v5), .val (.ref b6), .val (.int (4 : Int32)), .unset, .unset, .unset, .unset] [(.ref b161), (.ref b161)])) (fun t k => XS.dup X161.here hx rfl (hb hby at_74) rfl rfl k) ?_
    refine own_st (B := T161.setTop (mkF m 77 #[.val (.int arg0), .val (.int arg1), .val (.int arg2), .val (.int v1), .val (.int v2), .val (.int v3), .val (.int v4), .val (.int v5), .val (.ref b6), .val (.int (4 : Int32)), .unset, .unset, .unset, .unset] [(.ref b6), (.ref b161), (.ref b161)])) (fun t k => XS.aload X161.here hx rfl (hb hby at_75) rfl rfl k) ?_
    obtain ⟨_, _, ⟨T165, L165, k165, j165⟩, -, X165, ⟨Lc165, hQ165, l165, y165_, z165_⟩, st165⟩ := X161.specialBack hx (y := (⟨"com/example/libentkey/libentkey/codec/KeyReader", "<init>", "([B)V"⟩ : MethodName)) rfl hown (mvT hZ (w_5 hw)) (mvT hZ (w_6 hw)) (mvT hZ (w_7 hw)) (by decide) (backOf (W := 1) (rm1 l Z a0 hw [] b161 b6 h161 n0 z162 A161 f163 f164 u161) hZ (w_7 hw) (w_4 hw) (by decide) (by decide)) (g := (mkF m 77 #[.val (.int arg0), .val (.int arg1), .val (.int arg2), .val (.int v1), .val (.int v2), .val (.int v3), .val (.int v4), .val (.int v5), .val (.ref b6), .val (.int (4 : Int32)), .unset, .unset, .unset, .unset] [(.ref b6), (.ref b161), (.ref b161)])) rfl (by rw [hml]; rfl) (Steps.refl _) (a := b161) (argsL := [(.ref b6)]) (rest := [(.ref b161)]) (lenOf own_pd2 rfl) rfl (by show 2 * 0 + _ ≤ _; exact Nat.le_of_eq rfl) (hb hby at_77) (fun _ _ => ⟨rfl, e161, (by decide : 2 + 0 ≤ _), (by decide : 9 + 0 ≤ _)⟩)
    dsimp only [Pt.U, Pt.locs, Pt.cells, Pt.slots] at X165 l165 y165_ z165_ st165 hQ165
    subst l165 y165_ z165_
    obtain ⟨rfl, N165q, K165, p165_0, p165_1, p165_2⟩ := hQ165
    have N165 := Fr.app n22 N165q
    have z166 : n0 ≤ T165.heap.size := Nat.le_trans z162 K165.1
    refine own_ss (B := T165.setTop (mkF m 80 #[.val (.int arg0), .val (.int arg1), .val (.int arg2), .val (.int v1), .val (.int v2), .val (.int v3), .val (.int v4), .val (.int v5), .val (.ref b6), .val (.int (4 : Int32)), .unset, .unset, .unset, .unset] [(.ref b161)])) st165 ?_
    refine own_st (B := T165.setTop (mkF m 82 #[.val (.int arg0), .val (.int arg1), .val (.int arg2), .val (.int v1), .val (.int v2), .val (.int v3), .val (.int v4), .val (.int v5), .val (.ref b6), .val (.int (4 : Int32)), .val (.ref b161), .unset, .unset, .unset] [])) (fun t k => XS.astore X165.here hx rfl (hb hby at_80) rfl rfl (l' := #[.val (.int arg0), .val (.int arg1), .val (.int arg2), .val (.int v1), .val (.int v2), .val (.int v3), .val (.int v4), .val (.int v5), .val (.ref b6), .val (.int (4 : Int32)), .val (.ref b161), .unset, .unset, .unset]) rfl k) ?_
    refine own_st (B := T165.setTop (mkF m 84 #[.val (.int arg0), .val (.int arg1), .val (.int arg2), .val (.int v1), .val (.int v2), .val (.int v3), .val (.int v4), .val (.int v5), .val (.ref b6), .val (.int (4 : Int32)), .val (.ref b161), .unset, .unset, .unset] [(.int (4 : Int32))])) (fun t k => XS.iload X165.here hx rfl (hb hby at_82) rfl k) ?_
    refine own_st (B := T165.setTop (mkF m 87 #[.val (.int arg0), .val (.int arg1), .val (.int arg2), .val (.int v1), .val (.int v2), .val (.int v3), .val (.int v4), .val (.int v5), .val (.ref b6), .val (.int (4 : Int32)), .val (.ref b161), .unset, .unset, .unset] [])) (fun t k => XS.ifNo X165.here hx rfl (hb hby at_84) rfl (by decide) k) ?_
    refine own_st (B := T165.setTop (mkF m 89 #[.val (.int arg0), .val (.int arg1), .val (.int arg2), .val (.int v1), .val (.int v2), .val (.int v3), .val (.int v4), .val (.int v5), .val (.ref b6), .val (.int (4 : Int32)), .val (.ref b161), .unset, .unset, .unset] [(.ref b161)])) (fun t k => XS.aload X165.here hx rfl (hb hby at_87) rfl rfl k) ?_
    have f167 : own_A Z T165.heap b6 .byte [(.int (v1.toInt8.toInt32)), (.int (v2.toInt8.toInt32)), (.int (v3.toInt8.toInt32)), (.int (v4.toInt8.toInt32)), (.int (v5.toInt8.toInt32))] := ((f20_.ext E161).keep K165 (ninS q161_b6 nin0))
    obtain ⟨cq168, kq168, q168a, q168b, q168c⟩ := isOf hZ rfl p165_0
    obtain ⟨_, _, ⟨T168, L168, k168, j168⟩, -, X168, ⟨Lc168, hQ168, l168, y168_, z168_⟩, st168⟩ := X165.virtualBack hx (y := (⟨"com/example/libentkey/libentkey/codec/KeyReader", "next", "()I"⟩ : MethodName)) (z := (⟨"com/example/libentkey/libentkey/codec/KeyReader", "next", "()I"⟩ : MethodName)) hown (mvT hZ (w_13 hw)) (mvT hZ (w_14 hw)) (notFace_of_selects (args := #[]) (mvT hZ (w_16 hw))) (mvT hZ (w_16 hw)) (mvT hZ (w_15 hw)) (by decide) (backOf (W := 0) (rm3 l Z a0 hw [] b161 b6 (0 : Int32) [(v1.toInt8.toInt32), (v2.toInt8.toInt32), (v3.toInt8.toInt32), (v4.toInt8.toInt32), (v5.toInt8.toInt32)] T165.heap n0 z166 p165_0 p165_1 p165_2 f167 u161 q161_b6 (show 0 ≤ (0 : Int32).toInt ∧ (0 : Int32).toInt < ((5 : Nat) : Int) from by decide) (show [(v1.toInt8.toInt32), (v2.toInt8.toInt32), (v3.toInt8.toInt32), (v4.toInt8.toInt32), (v5.toInt8.toInt32)].length < 1000 from (by decide : 5 < 1000))) hZ (w_17 hw) (w_4 hw) (by decide) (by decide)) q168a q168c (g := (mkF m 89 #[.val (.int arg0), .val (.int arg1), .val (.int arg2), .val (.int v1), .val (.int v2), .val (.int v3), .val (.int v4), .val (.int v5), .val (.ref b6), .val (.int (4 : Int32)), .val (.ref b161), .unset, .unset, .unset] [(.ref b161)])) rfl (by rw [hml]; rfl) (Steps.refl _) (argsL := []) (rest := []) (lenOf own_pd5 rfl) rfl (by show 2 * 0 + _ ≤ _; exact Nat.le_of_eq rfl) (hb hby at_89) (fun _ _ => ⟨rfl, rfl, (by decide : 2 + 0 ≤ _), (by decide : 9 + 0 ≤ _)⟩)
    dsimp only [Pt.U, Pt.locs, Pt.cells, Pt.slots] at X168 l168 y168_ z168_ st168 hQ168
    subst l168 y168_ z168_
    obtain ⟨rfl, N168q, K168, p168_0, p168_1, p168_2⟩ := hQ168
    have N168 := Fr.app N165 N168q
    have z169 : n0 ≤ T168.heap.size := Nat.le_trans z166 K168.1
    refine own_ss (B := T168.setTop (mkF m 92 #[.val (.int arg0), .val (.int arg1), .val (.int arg2), .val (.int v1), .val (.int v2), .val (.int v3), .val (.int v4), .val (.int v5), .val (.ref b6), .val (.int (4 : Int32)), .val (.ref b161), .unset, .unset, .unset] [(.int (([(v1.toInt8.toInt32), (v2.toInt8.toInt32), (v3.toInt8.toInt32), (v4.toInt8.toInt32), (v5.toInt8.toInt32)].getD (0 : Int32).toInt.toNat 0) &&& (255 : Int32)))])) st168 ?_
    refine own_st (B := T168.setTop (mkF m 93 #[.val (.int arg0), .val (.int arg1), .val (.int arg2), .val (.int v1), .val (.int v2), .val (.int v3), .val (.int v4), .val (.int v5), .val (.ref b6), .val (.int (4 : Int32)), .val (.ref b161), .unset, .unset, .unset] [])) (fun t k => XS.pop X168.here hx rfl (hb hby at_92) rfl rfl k) ?_
    refine own_st (B := T168.setTop (mkF m 95 #[.val (.int arg0), .val (.int arg1), .val (.int arg2), .val (.int v1), .val (.int v2), .val (.int v3), .val (.int v4), .val (.int v5), .val (.ref b6), .val (.int (4 : Int32)), .val (.ref b161), .unset, .unset, .unset] [(.int (4 : Int32))])) (fun t k => XS.iload X168.here hx rfl (hb hby at_93) rfl k) ?_
    refine own_st (B := T168.setTop (mkF m 96 #[.val (.int arg0), .val (.int arg1), .val (.int arg2), .val (.int v1), .val (.int v2), .val (.int v3), .val (.int v4), .val (.int v5), .val (.ref b6), .val (.int (4 : Int32)), .val (.ref b161), .unset, .unset, .unset] [(.int (1 : Int32)), (.int (4 : Int32))])) (fun t k => XS.iconst X168.here hx rfl (hb hby at_95) k) ?_
    refine own_st (B := T168.setTop (mkF m 99 #[.val (.int arg0), .val (.int arg1), .val (.int arg2), .val (.int v1), .val (.int v2), .val (.int v3), .val (.int v4), .val (.int v5), .val (.ref b6), .val (.int (4 : Int32)), .val (.ref b161), .unset, .unset, .unset] [])) (fun t k => XS.icmpNo X168.here hx rfl (hb hby at_96) rfl (by decide) k) ?_
    refine own_st (B := T168.setTop (mkF m 101 #[.val (.int arg0), .val (.int arg1), .val (.int arg2), .val (.int v1), .val (.int v2), .val (.int v3), .val (.int v4), .val (.int v5), .val (.ref b6), .val (.int (4 : Int32)), .val (.ref b161), .unset, .unset, .unset] [(.ref b161)])) (fun t k => XS.aload X168.here hx rfl (hb hby at_99) rfl rfl k) ?_
    have f170 : own_A Z T168.heap b6 .byte [(.int (v1.toInt8.toInt32)), (.int (v2.toInt8.toInt32)), (.int (v3.toInt8.toInt32)), (.int (v4.toInt8.toInt32)), (.int (v5.toInt8.toInt32))] := (f167.keep K168 (ninS q161_b6 nin0))
    obtain ⟨cq171, kq171, q171a, q171b, q171c⟩ := isOf hZ rfl p168_0
    obtain ⟨_, _, ⟨T171, L171, k171, j171⟩, -, X171, ⟨Lc171, hQ171, l171, y171_, z171_⟩, st171⟩ := X168.virtualBack hx (y := (⟨"com/example/libentkey/libentkey/codec/KeyReader", "next", "()I"⟩ : MethodName)) (z := (⟨"com/example/libentkey/libentkey/codec/KeyReader", "next", "()I"⟩ : MethodName)) hown (mvT hZ (w_13 hw)) (mvT hZ (w_14 hw)) (notFace_of_selects (args := #[]) (mvT hZ (w_16 hw))) (mvT hZ (w_16 hw)) (mvT hZ (w_15 hw)) (by decide) (backOf (W := 0) (rm3 l Z a0 hw [] b161 b6 ((0 : Int32) + (1 : Int32)) [(v1.toInt8.toInt32), (v2.toInt8.toInt32), (v3.toInt8.toInt32), (v4.toInt8.toInt32), (v5.toInt8.toInt32)] T168.heap n0 z169 p168_0 p168_1 p168_2 f170 u161 q161_b6 (show 0 ≤ ((0 : Int32) + (1 : Int32)).toInt ∧ ((0 : Int32) + (1 : Int32)).toInt < ((5 : Nat) : Int) from by decide) (show [(v1.toInt8.toInt32), (v2.toInt8.toInt32), (v3.toInt8.toInt32), (v4.toInt8.toInt32), (v5.toInt8.toInt32)].length < 1000 from (by decide : 5 < 1000))) hZ (w_17 hw) (w_4 hw) (by decide) (by decide)) q171a q171c (g := (mkF m 101 #[.val (.int arg0), .val (.int arg1), .val (.int arg2), .val (.int v1), .val (.int v2), .val (.int v3), .val (.int v4), .val (.int v5), .val (.ref b6), .val (.int (4 : Int32)), .val (.ref b161), .unset, .unset, .unset] [(.ref b161)])) rfl (by rw [hml]; rfl) (Steps.refl _) (argsL := []) (rest := []) (lenOf own_pd5 rfl) rfl (by show 2 * 0 + _ ≤ _; exact Nat.le_of_eq rfl) (hb hby at_101) (fun _ _ => ⟨rfl, rfl, (by decide : 2 + 0 ≤ _), (by decide : 9 + 0 ≤ _)⟩)
    dsimp only [Pt.U, Pt.locs, Pt.cells, Pt.slots] at X171 l171 y171_ z171_ st171 hQ171
    subst l171 y171_ z171_
    obtain ⟨rfl, N171q, K171, p171_0, p171_1, p171_2⟩ := hQ171
    have N171 := Fr.app N168 N171q
    have z172 : n0 ≤ T171.heap.size := Nat.le_trans z169 K171.1
    refine own_ss (B := T171.setTop (mkF m 104 #[.val (.int arg0), .val (.int arg1), .val (.int arg2), .val (.int v1), .val (.int v2), .val (.int v3), .val (.int v4), .val (.int v5), .val (.ref b6), .val (.int (4 : Int32)), .val (.ref b161), .unset, .unset, .unset] [(.int (([(v1.toInt8.toInt32), (v2.toInt8.toInt32), (v3.toInt8.toInt32), (v4.toInt8.toInt32), (v5.toInt8.toInt32)].getD ((0 : Int32) + (1 : Int32)).toInt.toNat 0) &&& (255 : Int32)))])) st171 ?_
    refine own_st (B := T171.setTop (mkF m 105 #[.val (.int arg0), .val (.int arg1), .val (.int arg2), .val (.int v1), .val (.int v2), .val (.int v3), .val (.int v4), .val (.int v5), .val (.ref b6), .val (.int (4 : Int32)), .val (.ref b161), .unset, .unset, .unset] [])) (fun t k => XS.pop X171.here hx rfl (hb hby at_104) rfl rfl k) ?_
    refine own_st (B := T171.setTop (mkF m 107 #[.val (.int arg0), .val (.int arg1), .val (.int arg2), .val (.int v1), .val (.int v2), .val (.int v3), .val (.int v4), .val (.int v5), .val (.ref b6), .val (.int (4 : Int32)), .val (.ref b161), .unset, .unset, .unset] [(.int (4 : Int32))])) (fun t k => XS.iload X171.here hx rfl (hb hby at_105) rfl k) ?_
    refine own_st (B := T171.setTop (mkF m 108 #[.val (.int arg0), .val (.int arg1), .val (.int arg2), .val (.int v1), .val (.int v2), .val (.int v3), .val (.int v4), .val (.int v5), .val (.ref b6), .val (.int (4 : Int32)), .val (.ref b161), .unset, .unset, .unset] [(.int (2 : Int32)), (.int (4 : Int32))])) (fun t k => XS.iconst X171.here hx rfl (hb hby at_107) k) ?_
    refine own_st (B := T171.setTop (mkF m 111 #[.val (.int arg0), .val (.int arg1), .val (.int arg2), .val (.int v1), .val (.int v2), .val (.int v3), .val (.int v4), .val (.int v5), .val (.ref b6), .val (.int (4 : Int32)), .val (.ref b161), .unset, .unset, .unset] [])) (fun t k => XS.icmpNo X171.here hx rfl (hb hby at_108) rfl (by decide) k) ?_
    refine own_st (B := T171.setTop (mkF m 113 #[.val (.int arg0), .val (.int arg1), .val (.int arg2), .val (.int v1), .val (.int v2), .val (.int v3), .val (.int v4), .val (.int v5), .val (.ref b6), .val (.int (4 : Int32)), .val (.ref b161), .unset, .unset, .unset] [(.ref b161)])) (fun t k => XS.aload X171.here hx rfl (hb hby at_111) rfl rfl k) ?_
    have f173 : own_A Z T171.heap b6 .byte [(.int (v1.toInt8.toInt32)), (.int (v2.toInt8.toInt32)), (.int (v3.toInt8.toInt32)), (.int (v4.toInt8.toInt32)), (.int (v5.toInt8.toInt32))] := (f170.keep K171 (ninS q161_b6 nin0))
    obtain ⟨cq174, kq174, q174a, q174b, q174c⟩ := isOf hZ rfl p171_0
    obtain ⟨_, _, ⟨T174, L174, k174, j174⟩, -, X174, ⟨Lc174, hQ174, l174, y174_, z174_⟩, st174⟩ := X171.virtualBack hx (y := (⟨"com/example/libentkey/libentkey/codec/KeyReader", "next", "()I"⟩ : MethodName)) (z := (⟨"com/example/libentkey/libentkey/codec/KeyReader", "next", "()I"⟩ : MethodName)) hown (mvT hZ (w_13 hw)) (mvT hZ (w_14 hw)) (notFace_of_selects (args := #[]) (mvT hZ (w_16 hw))) (mvT hZ (w_16 hw)) (mvT hZ (w_15 hw)) (by decide) (backOf (W := 0) (rm3 l Z a0 hw [] b161 b6 (((0 : Int32) + (1 : Int32)) + (1 : Int32)) [(v1.toInt8.toInt32), (v2.toInt8.toInt32), (v3.toInt8.toInt32), (v4.toInt8.toInt32), (v5.toInt8.toInt32)] T171.heap n0 z172 p171_0 p171_1 p171_2 f173 u161 q161_b6 (show 0 ≤ (((0 : Int32) + (1 : Int32)) + (1 : Int32)).toInt ∧ (((0 : Int32) + (1 : Int32)) + (1 : Int32)).toInt < ((5 : Nat) : Int) from by decide) (show [(v1.toInt8.toInt32), (v2.toInt8.toInt32), (v3.toInt8.toInt32), (v4.toInt8.toInt32), (v5.toInt8.toInt32)].length < 1000 from (by decide : 5 < 1000))) hZ (w_17 hw) (w_4 hw) (by decide) (by decide)) q174a q174c (g := (mkF m 113 #[.val (.int arg0), .val (.int arg1), .val (.int arg2), .val (.int v1), .val (.int v2), .val (.int v3), .val (.int v4), .val (.int v5), .val (.ref b6), .val (.int (4 : Int32)), .val (.ref b161), .unset, .unset, .unset] [(.ref b161)])) rfl (by rw [hml]; rfl) (Steps.refl _) (argsL := []) (rest := []) (lenOf own_pd5 rfl) rfl (by show 2 * 0 + _ ≤ _; exact Nat.le_of_eq rfl) (hb hby at_113) (fun _ _ => ⟨rfl, rfl, (by decide : 2 + 0 ≤ _), (by decide : 9 + 0 ≤ _)⟩)
    dsimp only [Pt.U, Pt.locs, Pt.cells, Pt.slots] at X174 l174 y174_ z174_ st174 hQ174
    subst l174 y174_ z174_
    obtain ⟨rfl, N174q, K174, p174_0, p174_1, p174_2⟩ := hQ174
    have N174 := Fr.app N171 N174q
    have z175 : n0 ≤ T174.heap.size := Nat.le_trans z172 K174.1
    refine own_ss (B := T174.setTop (mkF m 116 #[.val (.int arg0), .val (.int arg1), .val (.int arg2), .val (.int v1), .val (.int v2), .val (.int v3), .val (.int v4), .val (.int v5), .val (.ref b6), .val (.int (4 : Int32)), .val (.ref b161), .unset, .unset, .unset] [(.int (([(v1.toInt8.toInt32), (v2.toInt8.toInt32), (v3.toInt8.toInt32), (v4.toInt8.toInt32), (v5.toInt8.toInt32)].getD (((0 : Int32) + (1 : Int32)) + (1 : Int32)).toInt.toNat 0) &&& (255 : Int32)))])) st174 ?_
    refine own_st (B := T174.setTop (mkF m 117 #[.val (.int arg0), .val (.int arg1), .val (.int arg2), .val (.int v1), .val (.int v2), .val (.int v3), .val (.int v4), .val (.int v5), .val (.ref b6), .val (.int (4 : Int32)), .val (.ref b161), .unset, .unset, .unset] [])) (fun t k => XS.pop X174.here hx rfl (hb hby at_116) rfl rfl k) ?_
    refine own_st (B := T174.setTop (mkF m 119 #[.val (.int arg0), .val (.int arg1), .val (.int arg2), .val (.int v1), .val (.int v2), .val (.int v3), .val (.int v4), .val (.int v5), .val (.ref b6), .val (.int (4 : Int32)), .val (.ref b161), .unset, .unset, .unset] [(.int (4 : Int32))])) (fun t k => XS.iload X174.here hx rfl (hb hby at_117) rfl k) ?_
    refine own_st (B := T174.setTop (mkF m 120 #[.val (.int arg0), .val (.int arg1), .val (.int arg2), .val (.int v1), .val (.int v2), .val (.int v3), .val (.int v4), .val (.int v5), .val (.ref b6), .val (.int (4 : Int32)), .val (.ref b161), .unset, .unset, .unset] [(.int (3 : Int32)), (.int (4 : Int32))])) (fun t k => XS.iconst X174.here hx rfl (hb hby at_119) k) ?_
    refine own_st (B := T174.setTop (mkF m 123 #[.val (.int arg0), .val (.int arg1), .val (.int arg2), .val (.int v1), .val (.int v2), .val (.int v3), .val (.int v4), .val (.int v5), .val (.ref b6), .val (.int (4 : Int32)), .val (.ref b161), .unset, .unset, .unset] [])) (fun t k => XS.icmpNo X174.here hx rfl (hb hby at_120) rfl (by decide) k) ?_
    refine own_st (B := T174.setTop (mkF m 125 #[.val (.int arg0), .val (.int arg1), .val (.int arg2), .val (.int v1), .val (.int v2), .val (.int v3), .val (.int v4), .val (.int v5), .val (.ref b6), .val (.int (4 : Int32)), .val (.ref b161), .unset, .unset, .unset] [(.ref b161)])) (fun t k => XS.aload X174.here hx rfl (hb hby at_123) rfl rfl k) ?_
    have f176 : own_A Z T174.heap b6 .byte [(.int (v1.toInt8.toInt32)), (.int (v2.toInt8.toInt32)), (.int (v3.toInt8.toInt32)), (.int (v4.toInt8.toInt32)), (.int (v5.toInt8.toInt32))] := (f173.keep K174 (ninS q161_b6 nin0))
    obtain ⟨cq177, kq177, q177a, q177b, q177c⟩ := isOf hZ rfl p174_0
    obtain ⟨_, _, ⟨T177, L177, k177, j177⟩, -, X177, ⟨Lc177, hQ177, l177, y177_, z177_⟩, st177⟩ := X174.virtualBack hx (y := (⟨"com/example/libentkey/libentkey/codec/KeyReader", "next", "()I"⟩ : MethodName)) (z := (⟨"com/example/libentkey/libentkey/codec/KeyReader", "next", "()I"⟩ : MethodName)) hown (mvT hZ (w_13 hw)) (mvT hZ (w_14 hw)) (notFace_of_selects (args := #[]) (mvT hZ (w_16 hw))) (mvT hZ (w_16 hw)) (mvT hZ (w_15 hw)) (by decide) (backOf (W := 0) (rm3 l Z a0 hw [] b161 b6 ((((0 : Int32) + (1 : Int32)) + (1 : Int32)) + (1 : Int32)) [(v1.toInt8.toInt32), (v2.toInt8.toInt32), (v3.toInt8.toInt32), (v4.toInt8.toInt32), (v5.toInt8.toInt32)] T174.heap n0 z175 p174_0 p174_1 p174_2 f176 u161 q161_b6 (show 0 ≤ ((((0 : Int32) + (1 : Int32)) + (1 : Int32)) + (1 : Int32)).toInt ∧ ((((0 : Int32) + (1 : Int32)) + (1 : Int32)) + (1 : Int32)).toInt < ((5 : Nat) : Int) from by decide) (show [(v1.toInt8.toInt32), (v2.toInt8.toInt32), (v3.toInt8.toInt32), (v4.toInt8.toInt32), (v5.toInt8.toInt32)].length < 1000 from (by decide : 5 < 1000))) hZ (w_17 hw) (w_4 hw) (by decide) (by decide)) q177a q177c (g := (mkF m 125 #[.val (.int arg0), .val (.int arg1), .val (.int arg2), .val (.int v1), .val (.int v2), .val (.int v3), .val (.int v4), .val (.int v5), .val (.ref b6), .val (.int (4 : Int32)), .val (.ref b161), .unset, .unset, .unset] [(.ref b161)])) rfl (by rw [hml]; rfl) (Steps.refl _) (argsL := []) (rest := []) (lenOf own_pd5 rfl) rfl (by show 2 * 0 + _ ≤ _; exact Nat.le_of_eq rfl) (hb hby at_125) (fun _ _ => ⟨rfl, rfl, (by decide : 2 + 0 ≤ _), (by decide : 9 + 0 ≤ _)⟩)
    dsimp only [Pt.U, Pt.locs, Pt.cells, Pt.slots] at X177 l177 y177_ z177_ st177 hQ177
    subst l177 y177_ z177_
    obtain ⟨rfl, N177q, K177, p177_0, p177_1, p177_2⟩ := hQ177
    have N177 := Fr.app N174 N177q
    have z178 : n0 ≤ T177.heap.size := Nat.le_trans z175 K177.1
    refine own_ss (B := T177.setTop (mkF m 128 #[.val (.int arg0), .val (.int arg1), .val (.int arg2), .val (.int v1), .val (.int v2), .val (.int v3), .val (.int v4), .val (.int v5), .val (.ref b6), .val (.int (4 : Int32)), .val (.ref b161), .unset, .unset, .unset] [(.int (([(v1.toInt8.toInt32), (v2.toInt8.toInt32), (v3.toInt8.toInt32), (v4.toInt8.toInt32), (v5.toInt8.toInt32)].getD ((((0 : Int32) + (1 : Int32)) + (1 : Int32)) + (1 : Int32)).toInt.toNat 0) &&& (255 : Int32)))])) st177 ?_
    refine own_st (B := T177.setTop (mkF m 129 #[.val (.int arg0), .val (.int arg1), .val (.int arg2), .val (.int v1), .val (.int v2), .val (.int v3), .val (.int v4), .val (.int v5), .val (.ref b6), .val (.int (4 : Int32)), .val (.ref b161), .unset, .unset, .unset] [])) (fun t k => XS.pop X177.here hx rfl (hb hby at_128) rfl rfl k) ?_
    refine own_st (B := T177.setTop (mkF m 131 #[.val (.int arg0), .val (.int arg1), .val (.int arg2), .val (.int v1), .val (.int v2), .val (.int v3), .val (.int v4), .val (.int v5), .val (.ref b6), .val (.int (4 : Int32)), .val (.ref b161), .unset, .unset, .unset] [(.int (4 : Int32))])) (fun t k => XS.iload X177.here hx rfl (hb hby at_129) rfl k) ?_
    refine own_st (B := T177.setTop (mkF m 132 #[.val (.int arg0), .val (.int arg1), .val (.int arg2), .val (.int v1), .val (.int v2), .val (.int v3), .val (.int v4), .val (.int v5), .val (.ref b6), .val (.int (4 : Int32)), .val (.ref b161), .unset, .unset, .unset] [(.int (4 : Int32)), (.int (4 : Int32))])) (fun t k => XS.iconst X177.here hx rfl (hb hby at_131) k) ?_
    refine own_st (B := T177.setTop (mkF m 141 #[.val (.int arg0), .val (.int arg1), .val (.int arg2), .val (.int v1), .val (.int v2), .val (.int v3), .val (.int v4), .val (.int v5), .val (.ref b6), .val (.int (4 : Int32)), .val (.ref b161), .unset, .unset, .unset] [])) (fun t k => XS.icmpYes X177.here hx rfl (pc0 := 132) (pc' := 141) rfl (hb hby at_132) rfl (by decide) (by decide) (by decide) k) ?_
    refine own_st (B := T177.setTop (mkF m 142 #[.val (.int arg0), .val (.int arg1), .val (.int arg2), .val (.int v1), .val (.int v2), .val (.int v3), .val (.int v4), .val (.int v5), .val (.ref b6), .val (.int (4 : Int32)), .val (.ref b161), .unset, .unset, .unset] [(.int (5 : Int32))])) (fun t k => XS.iconst X177.here hx rfl (hb hby at_141) k) ?_
    refine own_st (B := T177.setTop (mkF m 144 #[.val (.int arg0), .val (.int arg1), .val (.int arg2), .val (.int v1), .val (.int v2), .val (.int v3), .val (.int v4), .val (.int v5), .val (.ref b6), .val (.int (4 : Int32)), .val (.ref b161), .val (.int (5 : Int32)), .unset, .unset] [])) (fun t k => XS.istore X177.here hx rfl (hb hby at_142) rfl (l' := #[.val (.int arg0), .val (.int arg1), .val (.int arg2), .val (.int v1), .val (.int v2), .val (.int v3), .val (.int v4), .val (.int v5), .val (.ref b6), .val (.int (4 : Int32)), .val (.ref b161), .val (.int (5 : Int32)), .unset, .unset]) rfl k) ?_
    refine own_st (B := T177.setTop (mkF m 146 #[.val (.int arg0), .val (.int arg1), .val (.int arg2), .val (.int v1), .val (.int v2), .val (.int v3), .val (.int v4), .val (.int v5), .val (.ref b6), .val (.int (4 : Int32)), .val (.ref b161), .val (.int (5 : Int32)), .unset, .unset] [(.int (4 : Int32))])) (fun t k => XS.iload X177.here hx rfl (hb hby at_144) rfl k) ?_
    refine own_st (B := T177.setTop (mkF m 147 #[.val (.int arg0), .val (.int arg1), .val (.int arg2), .val (.int v1), .val (.int v2), .val (.int v3), .val (.int v4), .val (.int v5), .val (.ref b6), .val (.int (4 : Int32)), .val (.ref b161), .val (.int (5 : Int32)), .unset, .unset] [(.int (4 : Int32)), (.int (4 : Int32))])) (fun t k => XS.iconst X177.here hx rfl (hb hby at_146) k) ?_
    refine own_st (B := T177.setTop (mkF m 150 #[.val (.int arg0), .val (.int arg1), .val (.int arg2), .val (.int v1), .val (.int v2), .val (.int v3), .val (.int v4), .val (.int v5), .val (.ref b6), .val (.int (4 : Int32)), .val (.ref b161), .val (.int (5 : Int32)), .unset, .unset] [])) (fun t k => XS.icmpNo X177.here hx rfl (hb hby at_147) rfl (by decide) k) ?_
    refine own_st (B := T177.setTop (mkF m 152 #[.val (.int arg0), .val (.int arg1), .val (.int arg2), .val (.int v1), .val (.int v2), .val (.int v3), .val (.int v4), .val (.int v5), .val (.ref b6), .val (.int (4 : Int32)), .val (.ref b161), .val (.int (5 : Int32)), .unset, .unset] [(.int v5)])) (fun t k => XS.iload X177.here hx rfl (hb hby at_150) rfl k) ?_
    obtain ⟨_, _, ⟨T179, L179, k179, j179⟩, -, X179, ⟨Lc179, hQ179, l179, y179_, z179_⟩, st179⟩ := Jvm.LawKit.callS X177 hx (y := (⟨"com/example/libentkey/libentkey/codec/KeyReaderSkipAsciiPinLaw", "ascii", "(B)Z"⟩ : MethodName)) hown (mvT hZ (w_20 hw)) (mvT hZ (w_21 hw)) (mvT hZ (w_22 hw)) (mvT hZ (w_23 hw)) (by decide) (backOf (W := 0) (rm4 l Z a0 hw [] v5 T177.heap n0 z178 ) hZ (w_23 hw) (w_22 hw) (by decide) (by decide)) (g := (mkF m 152 #[.val (.int arg0), .val (.int arg1), .val (.int arg2), .val (.int v1), .val (.int v2), .val (.int v3), .val (.int v4), .val (.int v5), .val (.ref b6), .val (.int (4 : Int32)), .val (.ref b161), .val (.int (5 : Int32)), .unset, .unset] [(.int v5)])) rfl (by rw [hml]; rfl) (argsL := [(.int v5)]) (rest := []) (lenOf own_pd3 rfl) rfl (by show 2 * 0 + _ ≤ _; exact Nat.le_of_eq rfl) (hb hby at_152) (fun _ _ => ⟨rfl, rfl, (by decide : 2 + 0 ≤ _), (by decide : 9 + 0 ≤ _)⟩)
    dsimp only [Pt.U, Pt.locs, Pt.cells, Pt.slots] at X179 l179 y179_ z179_ st179 hQ179
    subst l179 y179_ z179_
    obtain ⟨rfl, N179q, e179q⟩ := hQ179
    have N179 := Fr.app N177 N179q
    refine own_st (B := T179.setTop (mkF m 155 #[.val (.int arg0), .val (.int arg1), .val (.int arg2), .val (.int v1), .val (.int v2), .val (.int v3), .val (.int v4), .val (.int v5), .val (.ref b6), .val (.int (4 : Int32)), .val (.ref b161), .val (.int (5 : Int32)), .unset, .unset] [(.int (own_f4 v5))])) (fun t k => st179 t k) ?_
    refine own_cut (P := ∀ (v181 : Int32), (v181 = (if (own_f4 v5) = (0 : Int32) then (4 : Int32) else (5 : Int32))) → own_Go p e below s (Q0 Z arg0 arg1 arg2 h0 n0) 16 128 (T179.setTop (mkF m 161 #[.val (.int arg0), .val (.int arg1), .val (.int arg2), .val (.int v1), .val (.int v2), .val (.int v3), .val (.int v4), .val (.int v5), .val (.ref b6), .val (.int (4 : Int32)), .val (.ref b161), .val (.int v181), .unset, .unset] []))) (fun J182 => ?_) ?_
    · by_cases hc180 : (own_f4 v5) = (0 : Int32)
      · refine own_st (B := T179.setTop (mkF m 158 #[.val (.int arg0), .val (.int arg1), .val (.int arg2), .val (.int v1), .val (.int v2), .val (.int v3), .val (.int v4), .val (.int v5), .val (.ref b6), .val (.int (4 : Int32)), .val (.ref b161), .val (.int (5 : Int32)), .unset, .unset] [])) (fun t k => XS.ifNo X179.here hx rfl (hb hby at_155) rfl (XT.i0_ne_f hc180) k) ?_
        refine own_st (B := T179.setTop (mkF m 159 #[.val (.int arg0), .val (.int arg1), .val (.int arg2), .val (.int v1), .val (.int v2), .val (.int v3), .val (.int v4), .val (.int v5), .val (.ref b6), .val (.int (4 : Int32)), .val (.ref b161), .val (.int (5 : Int32)), .unset, .unset] [(.int (4 : Int32))])) (fun t k => XS.iconst X179.here hx rfl (hb hby at_158) k) ?_
        refine own_st (B := T179.setTop (mkF m 161 #[.val (.int arg0), .val (.int arg1), .val (.int arg2), .val (.int v1), .val (.int v2), .val (.int v3), .val (.int v4), .val (.int v5), .val (.ref b6), .val (.int (4 : Int32)), .val (.ref b161), .val (.int (4 : Int32)), .unset, .unset] [])) (fun t k => XS.istore X179.here hx rfl (hb hby at_159) rfl (l' := #[.val (.int arg0), .val (.int arg1), .val (.int arg2), .val (.int v1), .val (.int v2), .val (.int v3), .val (.int v4), .val (.int v5), .val (.ref b6), .val (.int (4 : Int32)), .val (.ref b161), .val (.int (4 : Int32)), .unset, .unset]) rfl k) ?_
        exact J182 (4 : Int32) (by rw [if_pos hc180])
      · refine own_st (B := T179.setTop (mkF m 161 #[.val (.int arg0), .val (.int arg1), .val (.int arg2), .val (.int v1), .val (.int v2), .val (.int v3), .val (.int v4), .val (.int v5), .val (.ref b6), .val (.int (4 : Int32)), .val (.ref b161), .val (.int (5 : Int32)), .unset, .unset] [])) (fun t k => XS.ifYes X179.here hx rfl (pc0 := 155) (pc' := 161) rfl (hb hby at_155) rfl (XT.i0_ne_t hc180) (by decide) (by decide) k) ?_
        exact J182 (5 : Int32) (by rw [if_neg hc180])
    intro v181 hv181
    refine own_st (B := T179.setTop (mkF m 163 #[.val (.int arg0), .val (.int arg1), .val (.int arg2), .val (.int v1), .val (.int v2), .val (.int v3), .val (.int v4), .val (.int v5), .val (.ref b6), .val (.int (4 : Int32)), .val (.ref b161), .val (.int v181), .unset, .unset] [(.int (4 : Int32))])) (fun t k => XS.iload X179.here hx rfl (hb hby at_161) rfl k) ?_
    refine own_st (B := T179.setTop (mkF m 164 #[.val (.int arg0), .val (.int arg1), .val (.int arg2), .val (.int v1), .val (.int v2), .val (.int v3), .val (.int v4), .val (.int v5), .val (.ref b6), .val (.int (4 : Int32)), .val (.ref b161), .val (.int v181), .unset, .unset] [(.int (3 : Int32)), (.int (4 : Int32))])) (fun t k => XS.iconst X179.here hx rfl (hb hby at_163) k) ?_
    refine own_st (B := T179.setTop (mkF m 178 #[.val (.int arg0), .val (.int arg1), .val (.int arg2), .val (.int v1), .val (.int v2), .val (.int v3), .val (.int v4), .val (.int v5), .val (.ref b6), .val (.int (4 : Int32)), .val (.ref b161), .val (.int v181), .unset, .unset] [])) (fun t k => XS.icmpYes X179.here hx rfl (pc0 := 164) (pc' := 178) rfl (hb hby at_164) rfl (by decide) (by decide) (by decide) k) ?_
    refine own_st (B := T179.setTop (mkF m 180 #[.val (.int arg0), .val (.int arg1), .val (.int arg2), .val (.int v1), .val (.int v2), .val (.int v3), .val (.int v4), .val (.int v5), .val (.ref b6), .val (.int (4 : Int32)), .val (.ref b161), .val (.int v181), .unset, .unset] [(.int (4 : Int32))])) (fun t k => XS.iload X179.here hx rfl (hb hby at_178) rfl k) ?_
    refine own_st (B := T179.setTop (mkF m 181 #[.val (.int arg0), .val (.int arg1), .val (.int arg2), .val (.int v1), .val (.int v2), .val (.int v3), .val (.int v4), .val (.int v5), .val (.ref b6), .val (.int (4 : Int32)), .val (.ref b161), .val (.int v181), .unset, .unset] [(.int (2 : Int32)), (.int (4 : Int32))])) (fun t k => XS.iconst X179.here hx rfl (hb hby at_180) k) ?_
    refine own_st (B := T179.setTop (mkF m 195 #[.val (.int arg0), .val (.int arg1), .val (.int arg2), .val (.int v1), .val (.int v2), .val (.int v3), .val (.int v4), .val (.int v5), .val (.ref b6), .val (.int (4 : Int32)), .val (.ref b161), .val (.int v181), .unset, .unset] [])) (fun t k => XS.icmpYes X179.here hx rfl (pc0 := 181) (pc' := 195) rfl (hb hby at_181) rfl (by decide) (by decide) (by decide) k) ?_
    refine own_st (B := T179.setTop (mkF m 197 #[.val (.int arg0), .val (.int arg1), .val (.int arg2), .val (.int v1), .val (.int v2), .val (.int v3), .val (.int v4), .val (.int v5), .val (.ref b6), .val (.int (4 : Int32)), .val (.ref b161), .val (.int v181), .unset, .unset] [(.int (4 : Int32))])) (fun t k => XS.iload X179.here hx rfl (hb hby at_195) rfl k) ?_
    refine own_st (B := T179.setTop (mkF m 198 #[.val (.int arg0), .val (.int arg1), .val (.int arg2), .val (.int v1), .val (.int v2), .val (.int v3), .val (.int v4), .val (.int v5), .val (.ref b6), .val (.int (4 : Int32)), .val (.ref b161), .val (.int v181), .unset, .unset] [(.int (1 : Int32)), (.int (4 : Int32))])) (fun t k => XS.iconst X179.here hx rfl (hb hby at_197) k) ?_
    refine own_st (B := T179.setTop (mkF m 212 #[.val (.int arg0), .val (.int arg1), .val (.int arg2), .val (.int v1), .val (.int v2), .val (.int v3), .val (.int v4), .val (.int v5), .val (.ref b6), .val (.int (4 : Int32)), .val (.ref b161), .val (.int v181), .unset, .unset] [])) (fun t k => XS.icmpYes X179.here hx rfl (pc0 := 198) (pc' := 212) rfl (hb hby at_198) rfl (by decide) (by decide) (by decide) k) ?_
    refine own_st (B := T179.setTop (mkF m 214 #[.val (.int arg0), .val (.int arg1), .val (.int arg2), .val (.int v1), .val (.int v2), .val (.int v3), .val (.int v4), .val (.int v5), .val (.ref b6), .val (.int (4 : Int32)), .val (.ref b161), .val (.int v181), .unset, .unset] [(.int (4 : Int32))])) (fun t k => XS.iload X179.here hx rfl (hb hby at_212) rfl k) ?_
    refine own_st (B := T179.setTop (mkF m 227 #[.val (.int arg0), .val (.int arg1), .val (.int arg2), .val (.int v1), .val (.int v2), .val (.int v3), .val (.int v4), .val (.int v5), .val (.ref b6), .val (.int (4 : Int32)), .val (.ref b161), .val (.int v181), .unset, .unset] [])) (fun t k => XS.ifYes X179.here hx rfl (pc0 := 214) (pc' := 227) rfl (hb hby at_214) rfl (by decide) (by decide) (by decide) k) ?_
    refine own_st (B := T179.setTop (mkF m 229 #[.val (.int arg0), .val (.int arg1), .val (.int arg2), .val (.int v1), .val (.int v2), .val (.int v3), .val (.int v4), .val (.int v5), .val (.ref b6), .val (.int (4 : Int32)), .val (.ref b161), .val (.int v181), .unset, .unset] [(.ref b161)])) (fun t k => XS.aload X179.here hx rfl (hb hby at_227) rfl rfl k) ?_
    have f183 : own_A Z T177.heap b6 .byte [(.int (v1.toInt8.toInt32)), (.int (v2.toInt8.toInt32)), (.int (v3.toInt8.toInt32)), (.int (v4.toInt8.toInt32)), (.int (v5.toInt8.toInt32))] := (f176.keep K177 (ninS q161_b6 nin0))
    obtain ⟨cq184, kq184, q184a, q184b, q184c⟩ := isOf hZ e179q p177_0
    obtain ⟨_, _, ⟨T184, L184, k184, j184⟩, -, X184, ⟨Lc184, hQ184, l184, y184_, z184_⟩, st184⟩ := X179.virtualBack hx (y := (⟨"com/example/libentkey/libentkey/codec/KeyReader", "skipAscii", "()V"⟩ : MethodName)) (z := (⟨"com/example/libentkey/libentkey/codec/KeyReader", "skipAscii", "()V"⟩ : MethodName)) hown (mvT hZ (w_24 hw)) (mvT hZ (w_25 hw)) (notFace_of_selects (args := #[]) (mvT hZ (w_27 hw))) (mvT hZ (w_27 hw)) (mvT hZ (w_26 hw)) (by decide) (backOf (W := 0) (rm5 l Z a0 hw [] b161 b6 (((((0 : Int32) + (1 : Int32)) + (1 : Int32)) + (1 : Int32)) + (1 : Int32)) [(v1.toInt8.toInt32), (v2.toInt8.toInt32), (v3.toInt8.toInt32), (v4.toInt8.toInt32), (v5.toInt8.toInt32)] T177.heap n0 z178 p177_0 p177_1 p177_2 f183 u161 (show 0 ≤ (((((0 : Int32) + (1 : Int32)) + (1 : Int32)) + (1 : Int32)) + (1 : Int32)).toInt ∧ (((((0 : Int32) + (1 : Int32)) + (1 : Int32)) + (1 : Int32)) + (1 : Int32)).toInt ≤ ((5 : Nat) : Int) from by decide) (show [(v1.toInt8.toInt32), (v2.toInt8.toInt32), (v3.toInt8.toInt32), (v4.toInt8.toInt32), (v5.toInt8.toInt32)].length < 1000 from (by decide : 5 < 1000))) hZ (w_28 hw) (w_4 hw) (by decide) (by decide)) q184a q184c (g := (mkF m 229 #[.val (.int arg0), .val (.int arg1), .val (.int arg2), .val (.int v1), .val (.int v2), .val (.int v3), .val (.int v4), .val (.int v5), .val (.ref b6), .val (.int (4 : Int32)), .val (.ref b161), .val (.int v181), .unset, .unset] [(.ref b161)])) rfl (by rw [hml]; rfl) (Steps.refl _) (argsL := []) (rest := []) (lenOf own_pd4 rfl) rfl (by show 2 * 0 + _ ≤ _; exact Nat.le_of_eq rfl) (hb hby at_229) (fun _ _ => ⟨rfl, e179q, (by decide : 2 + 0 ≤ _), (by decide : 9 + 0 ≤ _)⟩)
    dsimp only [Pt.U, Pt.locs, Pt.cells, Pt.slots] at X184 l184 y184_ z184_ st184 hQ184
    subst l184 y184_ z184_
    obtain ⟨q_184, rfl, N184q, K184, p184_0, p184_1, p184_2, r184_0⟩ := hQ184
    have N184 := Fr.app N179 N184q
    have z185 : n0 ≤ T184.heap.size := Nat.le_trans z178 K184.1
    refine own_ss (B := T184.setTop (mkF m 232 #[.val (.int arg0), .val (.int arg1), .val (.int arg2), .val (.int v1), .val (.int v2), .val (.int v3), .val (.int v4), .val (.int v5), .val (.ref b6), .val (.int (4 : Int32)), .val (.ref b161), .val (.int v181), .unset, .unset] [])) st184 ?_
    refine own_st (B := T184.setTop (mkF m 234 #[.val (.int arg0), .val (.int arg1), .val (.int arg2), .val (.int v1), .val (.int v2), .val (.int v3), .val (.int v4), .val (.int v5), .val (.ref b6), .val (.int (4 : Int32)), .val (.ref b161), .val (.int v181), .unset, .unset] [(.ref b161)])) (fun t k => XS.aload X184.here hx rfl (hb hby at_232) rfl rfl k) ?_
    obtain ⟨cq186, kq186, q186a, q186b, q186c⟩ := isOf hZ rfl p184_0
    obtain ⟨_, _, ⟨T186, L186, k186, j186⟩, -, X186, ⟨Lc186, hQ186, l186, y186_, z186_⟩, st186⟩ := X184.virtualBack hx (y := (⟨"com/example/libentkey/libentkey/codec/KeyReader", "position", "()I"⟩ : MethodName)) (z := (⟨"com/example/libentkey/libentkey/codec/KeyReader", "position", "()I"⟩ : MethodName)) hown (mvT hZ (w_29 hw)) (mvT hZ (w_30 hw)) (notFace_of_selects (args := #[]) (mvT hZ (w_32 hw))) (mvT hZ (w_32 hw)) (mvT hZ (w_31 hw)) (by decide) (backOf (W := 0) (rm6 l Z a0 hw [] b161 q_184 T184.heap n0 z185 p184_2) hZ (w_33 hw) (w_4 hw) (by decide) (by decide)) q186a q186c (g := (mkF m 234 #[.val (.int arg0), .val (.int arg1), .val (.int arg2), .val (.int v1), .val (.int v2), .val (.int v3), .val (.int v4), .val (.int v5), .val (.ref b6), .val (.int (4 : Int32)), .val (.ref b161), .val (.int v181), .unset, .unset] [(.ref b161)])) rfl (by rw [hml]; rfl) (Steps.refl _) (argsL := []) (rest := []) (lenOf own_pd5 rfl) rfl (by show 2 * 0 + _ ≤ _; exact Nat.le_of_eq rfl) (hb hby at_234) (fun _ _ => ⟨rfl, rfl, (by decide : 2 + 0 ≤ _), (by decide : 9 + 0 ≤ _)⟩)
    dsimp only [Pt.U, Pt.locs, Pt.cells, Pt.slots] at X186 l186 y186_ z186_ st186 hQ186
    subst l186 y186_ z186_
    obtain ⟨rfl, N186q, e186q⟩ := hQ186
    have N186 := Fr.app N184 N186q
    refine own_ss (B := T186.setTop (mkF m 237 #[.val (.int arg0), .val (.int arg1), .val (.int arg2), .val (.int v1), .val (.int v2), .val (.int v3), .val (.int v4), .val (.int v5), .val (.ref b6), .val (.int (4 : Int32)), .val (.ref b161), .val (.int v181), .unset, .unset] [(.int q_184)])) st186 ?_
    refine own_st (B := T186.setTop (mkF m 239 #[.val (.int arg0), .val (.int arg1), .val (.int arg2), .val (.int v1), .val (.int v2), .val (.int v3), .val (.int v4), .val (.int v5), .val (.ref b6), .val (.int (4 : Int32)), .val (.ref b161), .val (.int v181), .val (.int q_184), .unset] [])) (fun t k => XS.istore X186.here hx rfl (hb hby at_237) rfl (l' := #[.val (.int arg0), .val (.int arg1), .val (.int arg2), .val (.int v1), .val (.int v2), .val (.int v3), .val (.int v4), .val (.int v5), .val (.ref b6), .val (.int (4 : Int32)), .val (.ref b161), .val (.int v181), .val (.int q_184), .unset]) rfl k) ?_
    refine own_st (B := T186.setTop (mkF m 241 #[.val (.int arg0), .val (.int arg1), .val (.int arg2), .val (.int v1), .val (.int v2), .val (.int v3), .val (.int v4), .val (.int v5), .val (.ref b6), .val (.int (4 : Int32)), .val (.ref b161), .val (.int v181), .val (.int q_184), .unset] [(.ref b161)])) (fun t k => XS.aload X186.here hx rfl (hb hby at_239) rfl rfl k) ?_
    have f187 : own_A Z T184.heap b6 .byte [(.int (v1.toInt8.toInt32)), (.int (v2.toInt8.toInt32)), (.int (v3.toInt8.toInt32)), (.int (v4.toInt8.toInt32)), (.int (v5.toInt8.toInt32))] := (f183.keep K184 (ninS q161_b6 nin0))
    obtain ⟨cq188, kq188, q188a, q188b, q188c⟩ := isOf hZ e186q p184_0
    obtain ⟨_, _, ⟨T188, L188, k188, j188⟩, -, X188, ⟨Lc188, hQ188, l188, y188_, z188_⟩, st188⟩ := X186.virtualBack hx (y := (⟨"com/example/libentkey/libentkey/codec/KeyReader", "skipAscii", "()V"⟩ : MethodName)) (z := (⟨"com/example/libentkey/libentkey/codec/KeyReader", "skipAscii", "()V"⟩ : MethodName)) hown (mvT hZ (w_24 hw)) (mvT hZ (w_25 hw)) (notFace_of_selects (args := #[]) (mvT hZ (w_27 hw))) (mvT hZ (w_27 hw)) (mvT hZ (w_26 hw)) (by decide) (backOf (W := 0) (rm5 l Z a0 hw [] b161 b6 q_184 [(v1.toInt8.toInt32), (v2.toInt8.toInt32), (v3.toInt8.toInt32), (v4.toInt8.toInt32), (v5.toInt8.toInt32)] T184.heap n0 z185 p184_0 p184_1 p184_2 f187 u161 (show 0 ≤ q_184.toInt ∧ q_184.toInt ≤ ([(v1.toInt8.toInt32), (v2.toInt8.toInt32), (v3.toInt8.toInt32), (v4.toInt8.toInt32), (v5.toInt8.toInt32)].length : Int) by have h1 := own_bnd_4 r184_0; exact ⟨by omega, by show _ ≤ ((5 : Nat) : Int); omega⟩) (show [(v1.toInt8.toInt32), (v2.toInt8.toInt32), (v3.toInt8.toInt32), (v4.toInt8.toInt32), (v5.toInt8.toInt32)].length < 1000 from (by decide : 5 < 1000))) hZ (w_28 hw) (w_4 hw) (by decide) (by decide)) q188a q188c (g := (mkF m 241 #[.val (.int arg0), .val (.int arg1), .val (.int arg2), .val (.int v1), .val (.int v2), .val (.int v3), .val (.int v4), .val (.int v5), .val (.ref b6), .val (.int (4 : Int32)), .val (.ref b161), .val (.int v181), .val (.int q_184), .unset] [(.ref b161)])) rfl (by rw [hml]; rfl) (Steps.refl _) (argsL := []) (rest := []) (lenOf own_pd4 rfl) rfl (by show 2 * 0 + _ ≤ _; exact Nat.le_of_eq rfl) (hb hby at_241) (fun _ _ => ⟨rfl, e186q, (by decide : 2 + 0 ≤ _), (by decide : 9 + 0 ≤ _)⟩)
    dsimp only [Pt.U, Pt.locs, Pt.cells, Pt.slots] at X188 l188 y188_ z188_ st188 hQ188
    subst l188 y188_ z188_
    obtain ⟨q_188, rfl, N188q, K188, p188_0, p188_1, p188_2, r188_0⟩ := hQ188
    have N188 := Fr.app N186 N188q
    have z189 : n0 ≤ T188.heap.size := Nat.le_trans z185 K188.1
    refine own_ss (B := T188.setTop (mkF m 244 #[.val (.int arg0), .val (.int arg1), .val (.int arg2), .val (.int v1), .val (.int v2), .val (.int v3), .val (.int v4), .val (.int v5), .val (.ref b6), .val (.int (4 : Int32)), .val (.ref b161), .val (.int v181), .val (.int q_184), .unset] [])) st188 ?_
    refine own_st (B := T188.setTop (mkF m 246 #[.val (.int arg0), .val (.int arg1), .val (.int arg2), .val (.int v1), .val (.int v2), .val (.int v3), .val (.int v4), .val (.int v5), .val (.ref b6), .val (.int (4 : Int32)), .val (.ref b161), .val (.int v181), .val (.int q_184), .unset] [(.ref b161)])) (fun t k => XS.aload X188.here hx rfl (hb hby at_244) rfl rfl k) ?_
    obtain ⟨cq190, kq190, q190a, q190b, q190c⟩ := isOf hZ rfl p188_0
    obtain ⟨_, _, ⟨T190, L190, k190, j190⟩, -, X190, ⟨Lc190, hQ190, l190, y190_, z190_⟩, st190⟩ := X188.virtualBack hx (y := (⟨"com/example/libentkey/libentkey/codec/KeyReader", "position", "()I"⟩ : MethodName)) (z := (⟨"com/example/libentkey/libentkey/codec/KeyReader", "position", "()I"⟩ : MethodName)) hown (mvT hZ (w_29 hw)) (mvT hZ (w_30 hw)) (notFace_of_selects (args := #[]) (mvT hZ (w_32 hw))) (mvT hZ (w_32 hw)) (mvT hZ (w_31 hw)) (by decide) (backOf (W := 0) (rm6 l Z a0 hw [] b161 q_188 T188.heap n0 z189 p188_2) hZ (w_33 hw) (w_4 hw) (by decide) (by decide)) q190a q190c (g := (mkF m 246 #[.val (.int arg0), .val (.int arg1), .val (.int arg2), .val (.int v1), .val (.int v2), .val (.int v3), .val (.int v4), .val (.int v5), .val (.ref b6), .val (.int (4 : Int32)), .val (.ref b161), .val (.int v181), .val (.int q_184), .unset] [(.ref b161)])) rfl (by rw [hml]; rfl) (Steps.refl _) (argsL := []) (rest := []) (lenOf own_pd5 rfl) rfl (by show 2 * 0 + _ ≤ _; exact Nat.le_of_eq rfl) (hb hby at_246) (fun _ _ => ⟨rfl, rfl, (by decide : 2 + 0 ≤ _), (by decide : 9 + 0 ≤ _)⟩)
    dsimp only [Pt.U, Pt.locs, Pt.cells, Pt.slots] at X190 l190 y190_ z190_ st190 hQ190
    subst l190 y190_ z190_
    obtain ⟨rfl, N190q, e190q⟩ := hQ190
    have N190 := Fr.app N188 N190q
    refine own_ss (B := T190.setTop (mkF m 249 #[.val (.int arg0), .val (.int arg1), .val (.int arg2), .val (.int v1), .val (.int v2), .val (.int v3), .val (.int v4), .val (.int v5), .val (.ref b6), .val (.int (4 : Int32)), .val (.ref b161), .val (.int v181), .val (.int q_184), .unset] [(.int q_188)])) st190 ?_
    refine own_st (B := T190.setTop (mkF m 251 #[.val (.int arg0), .val (.int arg1), .val (.int arg2), .val (.int v1), .val (.int v2), .val (.int v3), .val (.int v4), .val (.int v5), .val (.ref b6), .val (.int (4 : Int32)), .val (.ref b161), .val (.int v181), .val (.int q_184), .val (.int q_188)] [])) (fun t k => XS.istore X190.here hx rfl (hb hby at_249) rfl (l' := #[.val (.int arg0), .val (.int arg1), .val (.int arg2), .val (.int v1), .val (.int v2), .val (.int v3), .val (.int v4), .val (.int v5), .val (.ref b6), .val (.int (4 : Int32)), .val (.ref b161), .val (.int v181), .val (.int q_184), .val (.int q_188)]) rfl k) ?_
    refine own_st (B := T190.setTop (mkF m 253 #[.val (.int arg0), .val (.int arg1), .val (.int arg2), .val (.int v1), .val (.int v2), .val (.int v3), .val (.int v4), .val (.int v5), .val (.ref b6), .val (.int (4 : Int32)), .val (.ref b161), .val (.int v181), .val (.int q_184), .val (.int q_188)] [(.int q_184)])) (fun t k => XS.iload X190.here hx rfl (hb hby at_251) rfl k) ?_
    refine own_st (B := T190.setTop (mkF m 255 #[.val (.int arg0), .val (.int arg1), .val (.int arg2), .val (.int v1), .val (.int v2), .val (.int v3), .val (.int v4), .val (.int v5), .val (.ref b6), .val (.int (4 : Int32)), .val (.ref b161), .val (.int v181), .val (.int q_184), .val (.int q_188)] [(.int v181), (.int q_184)])) (fun t k => XS.iload X190.here hx rfl (hb hby at_253) rfl k) ?_
    have hc191 : q_184 = v181 := by
      refine Int32.toInt_inj.mp (r184_0.trans ?_)
      exact (show v181.toInt = _ from (own_rs (k := 4) ev5 rfl rfl hv181)).symm
    refine own_st (B := T190.setTop (mkF m 258 #[.val (.int arg0), .val (.int arg1), .val (.int arg2), .val (.int v1), .val (.int v2), .val (.int v3), .val (.int v4), .val (.int v5), .val (.ref b6), .val (.int (4 : Int32)), .val (.ref b161), .val (.int v181), .val (.int q_184), .val (.int q_188)] [])) (fun t k => XS.icmpNo X190.here hx rfl (hb hby at_255) rfl (XT.ii_ne_f hc191) k) ?_
    refine own_st (B := T190.setTop (mkF m 260 #[.val (.int arg0), .val (.int arg1), .val (.int arg2), .val (.int v1), .val (.int v2), .val (.int v3), .val (.int v4), .val (.int v5), .val (.ref b6), .val (.int (4 : Int32)), .val (.ref b161), .val (.int v181), .val (.int q_184), .val (.int q_188)] [(.int q_188)])) (fun t k => XS.iload X190.here hx rfl (hb hby at_258) rfl k) ?_
    refine own_st (B := T190.setTop (mkF m 262 #[.val (.int arg0), .val (.int arg1), .val (.int arg2), .val (.int v1), .val (.int v2), .val (.int v3), .val (.int v4), .val (.int v5), .val (.ref b6), .val (.int (4 : Int32)), .val (.ref b161), .val (.int v181), .val (.int q_184), .val (.int q_188)] [(.int v181), (.int q_188)])) (fun t k => XS.iload X190.here hx rfl (hb hby at_260) rfl k) ?_
    have hc192 : q_188 = v181 := by
      refine Eq.trans (Int32.toInt_inj.mp ?_) hc191
      have b1 := own_bnd_4 r184_0
      have e2 := r188_0
      have e3 : q_184.toInt.toNat = 4 + own_run (([(v1.toInt8.toInt32), (v2.toInt8.toInt32), (v3.toInt8.toInt32), (v4.toInt8.toInt32), (v5.toInt8.toInt32)] : List Int32).drop 4) := by
        have e4 := r184_0
        show _ = _
        exact own_nat_4 e4
      rw [e3, own_run_again] at e2
      omega
    refine own_st (B := T190.setTop (mkF m 265 #[.val (.int arg0), .val (.int arg1), .val (.int arg2), .val (.int v1), .val (.int v2), .val (.int v3), .val (.int v4), .val (.int v5), .val (.ref b6), .val (.int (4 : Int32)), .val (.ref b161), .val (.int v181), .val (.int q_184), .val (.int q_188)] [])) (fun t k => XS.icmpNo X190.here hx rfl (hb hby at_262) rfl (XT.ii_ne_f hc192) k) ?_
    refine own_st (B := T190.setTop (mkF m 266 #[.val (.int arg0), .val (.int arg1), .val (.int arg2), .val (.int v1), .val (.int v2), .val (.int v3), .val (.int v4), .val (.int v5), .val (.ref b6), .val (.int (4 : Int32)), .val (.ref b161), .val (.int v181), .val (.int q_184), .val (.int q_188)] [(.int (1 : Int32))])) (fun t k => XS.iconst X190.here hx rfl (hb hby at_265) k) ?_
    refine own_st (B := T190.setTop (mkF m 270 #[.val (.int arg0), .val (.int arg1), .val (.int arg2), .val (.int v1), .val (.int v2), .val (.int v3), .val (.int v4), .val (.int v5), .val (.ref b6), .val (.int (4 : Int32)), .val (.ref b161), .val (.int v181), .val (.int q_184), .val (.int q_188)] [(.int (1 : Int32))])) (fun t k => XS.goto X190.here hx rfl (pc0 := 266) (pc' := 270) rfl (hb hby at_266) (by decide) (by decide) k) ?_
    refine own_retN X190 hx hlk (t := .boolean) Bd.returns (by simp) (z' := (1 : Int32)) rfl (hb hby at_270) (by decide) (by decide) ?_
    show Q0 Z arg0 arg1 arg2 h0 n0 _ T190.heap _
    rw [e190q]
    exact ⟨rfl, N190⟩
  · rw [hn]
    refine own_st (B := T20.setTop (mkF m 71 #[.val (.int arg0), .val (.int arg1), .val (.int arg2), .val (.int v1), .val (.int v2), .val (.int v3), .val (.int v4), .val (.int v5), .val (.ref b6), .val (.int (5 : Int32)), .unset, .unset, .unset, .unset] [])) (fun t k => XS.istore X20.here hx rfl (hb hby at_69) rfl (l' := #[.val (.int arg0), .val (.int arg1), .val (.int arg2), .val (.int v1), .val (.int v2), .val (.int v3), .val (.int v4), .val (.int v5), .val (.ref b6), .val (.int (5 : Int32)), .unset, .unset, .unset, .unset]) rfl k) ?_
    obtain ⟨T193, h193, X193, e193, E193, A193, D193, -, st193⟩ := newO X20 hx hZ hown (w_2 hw) (w_3 hw) (w_4 hw) e20 (g := (mkF m 71 #[.val (.int arg0), .val (.int arg1), .val (.int arg2), .val (.int v1), .val (.int v2), .val (.int v3), .val (.int v4), .val (.int v5), .val (.ref b6), .val (.int (5 : Int32)), .unset, .unset, .unset, .unset] [])) rfl (hb hby at_71) (by decide) (by decide)
    obtain ⟨b193, g193⟩ : ∃ z, z = h20.size := ⟨_, rfl⟩
    rw [← g193] at A193 D193 st193
    have q193_b6 : b6 ≠ b193 := Nat.ne_of_lt (Nat.lt_of_lt_of_le f20_.lt (Nat.le_of_eq g193.symm))
    have u193 : n0 ≤ b193 := Nat.le_trans z21 (Nat.le_of_eq g193.symm)
    have z194 : n0 ≤ h193.size := Nat.le_trans z21 E193.1
    have f195 : Fld Z h193 b193 "com/example/libentkey/libentkey/codec/KeyReader" "key" "[B" .null := D193 (Or.inr (w_12 hw)) (ty := (.array .byte)) (by decide)
    have f196 : Fld Z h193 b193 "com/example/libentkey/libentkey/codec/KeyReader" "position" "I" (.int (0 : Int32)) := D193 (Or.inl (w_19 hw)) (ty := .int) (by decide)
    refine own_st (B := T193.setTop (mkF m 74 #[.val (.int arg0), .val (.int arg1), .val (.int arg2), .val (.int v1), .val (.int v2), .val (.int v3), .val (.int v4), .val (.int v5), .val (.ref b6), .val (.int (5 : Int32)), .unset, .unset, .unset, .unset] [(.ref b193)])) (fun t k => st193 t k) ?_
    refine own_st (B := T193.setTop (mkF m 75 #[.val (.int arg0), .val (.int arg1), .val (.int arg2), .val (.int v1), .val (.int v2), .val (.int v3), .val (.int v4), .val (.int v5), .val (.ref b6), .val (.int (5 : Int32)), .unset, .unset, .unset, .unset] [(.ref b193), (.ref b193)])) (fun t k => XS.dup X193.here hx rfl (hb hby at_74) rfl rfl k) ?_
    refine own_st (B := T193.setTop (mkF m 77 #[.val (.int arg0), .val (.int arg1), .val (.int arg2), .val (.int v1), .val (.int v2), .val (.int v3), .val (.int v4), .val (.int v5), .val (.ref b6), .val (.int (5 : Int32)), .unset, .unset, .unset, .unset] [(.ref b6), (.ref b193), (.ref b193)])) (fun t k => XS.aload X193.here hx rfl (hb hby at_75) rfl rfl k) ?_
    obtain ⟨_, _, ⟨T197, L197, k197, j197⟩, -, X197, ⟨Lc197, hQ197, l197, y197_, z197_⟩, st197⟩ := X193.specialBack hx (y := (⟨"com/example/libentkey/libentkey/codec/KeyReader", "<init>", "([B)V"⟩ : MethodName)) rfl hown (mvT hZ (w_5 hw)) (mvT hZ (w_6 hw)) (mvT hZ (w_7 hw)) (by decide) (backOf (W := 1) (rm1 l Z a0 hw [] b193 b6 h193 n0 z194 A193 f195 f196 u193) hZ (w_7 hw) (w_4 hw) (by decide) (by decide)) (g := (mkF m 77 #[.val (.int arg0), .val (.int arg1), .val (.int arg2), .val (.int v1), .val (.int v2), .val (.int v3), .val (.int v4), .val (.int v5), .val (.ref b6), .val (.int (5 : Int32)), .unset, .unset, .unset, .unset] [(.ref b6), (.ref b193), (.ref b193)])) rfl (by rw [hml]; rfl) (Steps.refl _) (a := b193) (argsL := [(.ref b6)]) (rest := [(.ref b193)]) (lenOf own_pd2 rfl) rfl (by show 2 * 0 + _ ≤ _; exact Nat.le_of_eq rfl) (hb hby at_77) (fun _ _ => ⟨rfl, e193, (by decide : 2 + 0 ≤ _), (by decide : 9 + 0 ≤ _)⟩)
    dsimp only [Pt.U, Pt.locs, Pt.cells, Pt.slots] at X197 l197 y197_ z197_ st197 hQ197
    subst l197 y197_ z197_
    obtain ⟨rfl, N197q, K197, p197_0, p197_1, p197_2⟩ := hQ197
    have N197 := Fr.app n22 N197q
    have z198 : n0 ≤ T197.heap.size := Nat.le_trans z194 K197.1
    refine own_ss (B := T197.setTop (mkF m 80 #[.val (.int arg0), .val (.int arg1), .val (.int arg2), .val (.int v1), .val (.int v2), .val (.int v3), .val (.int v4), .val (.int v5), .val (.ref b6), .val (.int (5 : Int32)), .unset, .unset, .unset, .unset] [(.ref b193)])) st197 ?_
    refine own_st (B := T197.setTop (mkF m 82 #[.val (.int arg0), .val (.int arg1), .val (.int arg2), .val (.int v1), .val (.int v2), .val (.int v3), .val (.int v4), .val (.int v5), .val (.ref b6), .val (.int (5 : Int32)), .val (.ref b193), .unset, .unset, .unset] [])) (fun t k => XS.astore X197.here hx rfl (hb hby at_80) rfl rfl (l' := #[.val (.int arg0), .val (.int arg1), .val (.int arg2), .val (.int v1), .val (.int v2), .val (.int v3), .val (.int v4), .val (.int v5), .val (.ref b6), .val (.int (5 : Int32)), .val (.ref b193), .unset, .unset, .unset]) rfl k) ?_
    refine own_st (B := T197.setTop (mkF m 84 #[.val (.int arg0), .val (.int arg1), .val (.int arg2), .val (.int v1), .val (.int v2), .val (.int v3), .val (.int v4), .val (.int v5), .val (.ref b6), .val (.int (5 : Int32)), .val (.ref b193), .unset, .unset, .unset] [(.int (5 : Int32))])) (fun t k => XS.iload X197.here hx rfl (hb hby at_82) rfl k) ?_
    refine own_st (B := T197.setTop (mkF m 87 #[.val (.int arg0), .val (.int arg1), .val (.int arg2), .val (.int v1), .val (.int v2), .val (.int v3), .val (.int v4), .val (.int v5), .val (.ref b6), .val (.int (5 : Int32)), .val (.ref b193), .unset, .unset, .unset] [])) (fun t k => XS.ifNo X197.here hx rfl (hb hby at_84) rfl (by decide) k) ?_
    refine own_st (B := T197.setTop (mkF m 89 #[.val (.int arg0), .val (.int arg1), .val (.int arg2), .val (.int v1), .val (.int v2), .val (.int v3), .val (.int v4), .val (.int v5), .val (.ref b6), .val (.int (5 : Int32)), .val (.ref b193), .unset, .unset, .unset] [(.ref b193)])) (fun t k => XS.aload X197.here hx rfl (hb hby at_87) rfl rfl k) ?_
    have f199 : own_A Z T197.heap b6 .byte [(.int (v1.toInt8.toInt32)), (.int (v2.toInt8.toInt32)), (.int (v3.toInt8.toInt32)), (.int (v4.toInt8.toInt32)), (.int (v5.toInt8.toInt32))] := ((f20_.ext E193).keep K197 (ninS q193_b6 nin0))
    obtain ⟨cq200, kq200, q200a, q200b, q200c⟩ := isOf hZ rfl p197_0
    obtain ⟨_, _, ⟨T200, L200, k200, j200⟩, -, X200, ⟨Lc200, hQ200, l200, y200_, z200_⟩, st200⟩ := X197.virtualBack hx (y := (⟨"com/example/libentkey/libentkey/codec/KeyReader", "next", "()I"⟩ : MethodName)) (z := (⟨"com/example/libentkey/libentkey/codec/KeyReader", "next", "()I"⟩ : MethodName)) hown (mvT hZ (w_13 hw)) (mvT hZ (w_14 hw)) (notFace_of_selects (args := #[]) (mvT hZ (w_16 hw))) (mvT hZ (w_16 hw)) (mvT hZ (w_15 hw)) (by decide) (backOf (W := 0) (rm3 l Z a0 hw [] b193 b6 (0 : Int32) [(v1.toInt8.toInt32), (v2.toInt8.toInt32), (v3.toInt8.toInt32), (v4.toInt8.toInt32), (v5.toInt8.toInt32)] T197.heap n0 z198 p197_0 p197_1 p197_2 f199 u193 q193_b6 (show 0 ≤ (0 : Int32).toInt ∧ (0 : Int32).toInt < ((5 : Nat) : Int) from by decide) (show [(v1.toInt8.toInt32), (v2.toInt8.toInt32), (v3.toInt8.toInt32), (v4.toInt8.toInt32), (v5.toInt8.toInt32)].length < 1000 from (by decide : 5 < 1000))) hZ (w_17 hw) (w_4 hw) (by decide) (by decide)) q200a q200c (g := (mkF m 89 #[.val (.int arg0), .val (.int arg1), .val (.int arg2), .val (.int v1), .val (.int v2), .val (.int v3), .val (.int v4), .val (.int v5), .val (.ref b6), .val (.int (5 : Int32)), .val (.ref b193), .unset, .unset, .unset] [(.ref b193)])) rfl (by rw [hml]; rfl) (Steps.refl _) (argsL := []) (rest := []) (lenOf own_pd5 rfl) rfl (by show 2 * 0 + _ ≤ _; exact Nat.le_of_eq rfl) (hb hby at_89) (fun _ _ => ⟨rfl, rfl, (by decide : 2 + 0 ≤ _), (by decide : 9 + 0 ≤ _)⟩)
    dsimp only [Pt.U, Pt.locs, Pt.cells, Pt.slots] at X200 l200 y200_ z200_ st200 hQ200
    subst l200 y200_ z200_
    obtain ⟨rfl, N200q, K200, p200_0, p200_1, p200_2⟩ := hQ200
    have N200 := Fr.app N197 N200q
    have z201 : n0 ≤ T200.heap.size := Nat.le_trans z198 K200.1
    refine own_ss (B := T200.setTop (mkF m 92 #[.val (.int arg0), .val (.int arg1), .val (.int arg2), .val (.int v1), .val (.int v2), .val (.int v3), .val (.int v4), .val (.int v5), .val (.ref b6), .val (.int (5 : Int32)), .val (.ref b193), .unset, .unset, .unset] [(.int (([(v1.toInt8.toInt32), (v2.toInt8.toInt32), (v3.toInt8.toInt32), (v4.toInt8.toInt32), (v5.toInt8.toInt32)].getD (0 : Int32).toInt.toNat 0) &&& (255 : Int32)))])) st200 ?_
    refine own_st (B := T200.setTop (mkF m 93 #[.val (.int arg0), .val (.int arg1), .val (.int arg2), .val (.int v1), .val (.int v2), .val (.int v3), .val (.int v4), .val (.int v5), .val (.ref b6), .val (.int (5 : Int32)), .val (.ref b193), .unset, .unset, .unset] [])) (fun t k => XS.pop X200.here hx rfl (hb hby at_92) rfl rfl k) ?_
    refine own_st (B := T200.setTop (mkF m 95 #[.val (.int arg0), .val (.int arg1), .val (.int arg2), .val (.int v1), .val (.int v2), .val (.int v3), .val (.int v4), .val (.int v5), .val (.ref b6), .val (.int (5 : Int32)), .val (.ref b193), .unset, .unset, .unset] [(.int (5 : Int32))])) (fun t k => XS.iload X200.here hx rfl (hb hby at_93) rfl k) ?_
    refine own_st (B := T200.setTop (mkF m 96 #[.val (.int arg0), .val (.int arg1), .val (.int arg2), .val (.int v1), .val (.int v2), .val (.int v3), .val (.int v4), .val (.int v5), .val (.ref b6), .val (.int (5 : Int32)), .val (.ref b193), .unset, .unset, .unset] [(.int (1 : Int32)), (.int (5 : Int32))])) (fun t k => XS.iconst X200.here hx rfl (hb hby at_95) k) ?_
    refine own_st (B := T200.setTop (mkF m 99 #[.val (.int arg0), .val (.int arg1), .val (.int arg2), .val (.int v1), .val (.int v2), .val (.int v3), .val (.int v4), .val (.int v5), .val (.ref b6), .val (.int (5 : Int32)), .val (.ref b193), .unset, .unset, .unset] [])) (fun t k => XS.icmpNo X200.here hx rfl (hb hby at_96) rfl (by decide) k) ?_
    refine own_st (B := T200.setTop (mkF m 101 #[.val (.int arg0), .val (.int arg1), .val (.int arg2), .val (.int v1), .val (.int v2), .val (.int v3), .val (.int v4), .val (.int v5), .val (.ref b6), .val (.int (5 : Int32)), .val (.ref b193), .unset, .unset, .unset] [(.ref b193)])) (fun t k => XS.aload X200.here hx rfl (hb hby at_99) rfl rfl k) ?_
    have f202 : own_A Z T200.heap b6 .byte [(.int (v1.toInt8.toInt32)), (.int (v2.toInt8.toInt32)), (.int (v3.toInt8.toInt32)), (.int (v4.toInt8.toInt32)), (.int (v5.toInt8.toInt32))] := (f199.keep K200 (ninS q193_b6 nin0))
    obtain ⟨cq203, kq203, q203a, q203b, q203c⟩ := isOf hZ rfl p200_0
    obtain ⟨_, _, ⟨T203, L203, k203, j203⟩, -, X203, ⟨Lc203, hQ203, l203, y203_, z203_⟩, st203⟩ := X200.virtualBack hx (y := (⟨"com/example/libentkey/libentkey/codec/KeyReader", "next", "()I"⟩ : MethodName)) (z := (⟨"com/example/libentkey/libentkey/codec/KeyReader", "next", "()I"⟩ : MethodName)) hown (mvT hZ (w_13 hw)) (mvT hZ (w_14 hw)) (notFace_of_selects (args := #[]) (mvT hZ (w_16 hw))) (mvT hZ (w_16 hw)) (mvT hZ (w_15 hw)) (by decide) (backOf (W := 0) (rm3 l Z a0 hw [] b193 b6 ((0 : Int32) + (1 : Int32)) [(v1.toInt8.toInt32), (v2.toInt8.toInt32), (v3.toInt8.toInt32), (v4.toInt8.toInt32), (v5.toInt8.toInt32)] T200.heap n0 z201 p200_0 p200_1 p200_2 f202 u193 q193_b6 (show 0 ≤ ((0 : Int32) + (1 : Int32)).toInt ∧ ((0 : Int32) + (1 : Int32)).toInt < ((5 : Nat) : Int) from by decide) (show [(v1.toInt8.toInt32), (v2.toInt8.toInt32), (v3.toInt8.toInt32), (v4.toInt8.toInt32), (v5.toInt8.toInt32)].length < 1000 from (by decide : 5 < 1000))) hZ (w_17 hw) (w_4 hw) (by decide) (by decide)) q203a q203c (g := (mkF m 101 #[.val (.int arg0), .val (.int arg1), .val (.int arg2), .val (.int v1), .val (.int v2), .val (.int v3), .val (.int v4), .val (.int v5), .val (.ref b6), .val (.int (5 : Int32)), .val (.ref b193), .unset, .unset, .unset] [(.ref b193)])) rfl (by rw [hml]; rfl) (Steps.refl _) (argsL := []) (rest := []) (lenOf own_pd5 rfl) rfl (by show 2 * 0 + _ ≤ _; exact Nat.le_of_eq rfl) (hb hby at_101) (fun _ _ => ⟨rfl, rfl, (by decide : 2 + 0 ≤ _), (by decide : 9 + 0 ≤ _)⟩)
    dsimp only [Pt.U, Pt.locs, Pt.cells, Pt.slots] at X203 l203 y203_ z203_ st203 hQ203
    subst l203 y203_ z203_
    obtain ⟨rfl, N203q, K203, p203_0, p203_1, p203_2⟩ := hQ203
    have N203 := Fr.app N200 N203q
    have z204 : n0 ≤ T203.heap.size := Nat.le_trans z201 K203.1
    refine own_ss (B := T203.setTop (mkF m 104 #[.val (.int arg0), .val (.int arg1), .val (.int arg2), .val (.int v1), .val (.int v2), .val (.int v3), .val (.int v4), .val (.int v5), .val (.ref b6), .val (.int (5 : Int32)), .val (.ref b193), .unset, .unset, .unset] [(.int (([(v1.toInt8.toInt32), (v2.toInt8.toInt32), (v3.toInt8.toInt32), (v4.toInt8.toInt32), (v5.toInt8.toInt32)].getD ((0 : Int32) + (1 : Int32)).toInt.toNat 0) &&& (255 : Int32)))])) st203 ?_
    refine own_st (B := T203.setTop (mkF m 105 #[.val (.int arg0), .val (.int arg1), .val (.int arg2), .val (.int v1), .val (.int v2), .val (.int v3), .val (.int v4), .val (.int v5), .val (.ref b6), .val (.int (5 : Int32)), .val (.ref b193), .unset, .unset, .unset] [])) (fun t k => XS.pop X203.here hx rfl (hb hby at_104) rfl rfl k) ?_
    refine own_st (B := T203.setTop (mkF m 107 #[.val (.int arg0), .val (.int arg1), .val (.int arg2), .val (.int v1), .val (.int v2), .val (.int v3), .val (.int v4), .val (.int v5), .val (.ref b6), .val (.int (5 : Int32)), .val (.ref b193), .unset, .unset, .unset] [(.int (5 : Int32))])) (fun t k => XS.iload X203.here hx rfl (hb hby at_105) rfl k) ?_
    refine own_st (B := T203.setTop (mkF m 108 #[.val (.int arg0), .val (.int arg1), .val (.int arg2), .val (.int v1), .val (.int v2), .val (.int v3), .val (.int v4), .val (.int v5), .val (.ref b6), .val (.int (5 : Int32)), .val (.ref b193), .unset, .unset, .unset] [(.int (2 : Int32)), (.int (5 : Int32))])) (fun t k => XS.iconst X203.here hx rfl (hb hby at_107) k) ?_
    refine own_st (B := T203.setTop (mkF m 111 #[.val (.int arg0), .val (.int arg1), .val (.int arg2), .val (.int v1), .val (.int v2), .val (.int v3), .val (.int v4), .val (.int v5), .val (.ref b6), .val (.int (5 : Int32)), .val (.ref b193), .unset, .unset, .unset] [])) (fun t k => XS.icmpNo X203.here hx rfl (hb hby at_108) rfl (by decide) k) ?_
    refine own_st (B := T203.setTop (mkF m 113 #[.val (.int arg0), .val (.int arg1), .val (.int arg2), .val (.int v1), .val (.int v2), .val (.int v3), .val (.int v4), .val (.int v5), .val (.ref b6), .val (.int (5 : Int32)), .val (.ref b193), .unset, .unset, .unset] [(.ref b193)])) (fun t k => XS.aload X203.here hx rfl (hb hby at_111) rfl rfl k) ?_
    have f205 : own_A Z T203.heap b6 .byte [(.int (v1.toInt8.toInt32)), (.int (v2.toInt8.toInt32)), (.int (v3.toInt8.toInt32)), (.int (v4.toInt8.toInt32)), (.int (v5.toInt8.toInt32))] := (f202.keep K203 (ninS q193_b6 nin0))
    obtain ⟨cq206, kq206, q206a, q206b, q206c⟩ := isOf hZ rfl p203_0
    obtain ⟨_, _, ⟨T206, L206, k206, j206⟩, -, X206, ⟨Lc206, hQ206, l206, y206_, z206_⟩, st206⟩ := X203.virtualBack hx (y := (⟨"com/example/libentkey/libentkey/codec/KeyReader", "next", "()I"⟩ : MethodName)) (z := (⟨"com/example/libentkey/libentkey/codec/KeyReader", "next", "()I"⟩ : MethodName)) hown (mvT hZ (w_13 hw)) (mvT hZ (w_14 hw)) (notFace_of_selects (args := #[]) (mvT hZ (w_16 hw))) (mvT hZ (w_16 hw)) (mvT hZ (w_15 hw)) (by decide) (backOf (W := 0) (rm3 l Z a0 hw [] b193 b6 (((0 : Int32) + (1 : Int32)) + (1 : Int32)) [(v1.toInt8.toInt32), (v2.toInt8.toInt32), (v3.toInt8.toInt32), (v4.toInt8.toInt32), (v5.toInt8.toInt32)] T203.heap n0 z204 p203_0 p203_1 p203_2 f205 u193 q193_b6 (show 0 ≤ (((0 : Int32) + (1 : Int32)) + (1 : Int32)).toInt ∧ (((0 : Int32) + (1 : Int32)) + (1 : Int32)).toInt < ((5 : Nat) : Int) from by decide) (show [(v1.toInt8.toInt32), (v2.toInt8.toInt32), (v3.toInt8.toInt32), (v4.toInt8.toInt32), (v5.toInt8.toInt32)].length < 1000 from (by decide : 5 < 1000))) hZ (w_17 hw) (w_4 hw) (by decide) (by decide)) q206a q206c (g := (mkF m 113 #[.val (.int arg0), .val (.int arg1), .val (.int arg2), .val (.int v1), .val (.int v2), .val (.int v3), .val (.int v4), .val (.int v5), .val (.ref b6), .val (.int (5 : Int32)), .val (.ref b193), .unset, .unset, .unset] [(.ref b193)])) rfl (by rw [hml]; rfl) (Steps.refl _) (argsL := []) (rest := []) (lenOf own_pd5 rfl) rfl (by show 2 * 0 + _ ≤ _; exact Nat.le_of_eq rfl) (hb hby at_113) (fun _ _ => ⟨rfl, rfl, (by decide : 2 + 0 ≤ _), (by decide : 9 + 0 ≤ _)⟩)
    dsimp only [Pt.U, Pt.locs, Pt.cells, Pt.slots] at X206 l206 y206_ z206_ st206 hQ206
    subst l206 y206_ z206_
    obtain ⟨rfl, N206q, K206, p206_0, p206_1, p206_2⟩ := hQ206
    have N206 := Fr.app N203 N206q
    have z207 : n0 ≤ T206.heap.size := Nat.le_trans z204 K206.1
    refine own_ss (B := T206.setTop (mkF m 116 #[.val (.int arg0), .val (.int arg1), .val (.int arg2), .val (.int v1), .val (.int v2), .val (.int v3), .val (.int v4), .val (.int v5), .val (.ref b6), .val (.int (5 : Int32)), .val (.ref b193), .unset, .unset, .unset] [(.int (([(v1.toInt8.toInt32), (v2.toInt8.toInt32), (v3.toInt8.toInt32), (v4.toInt8.toInt32), (v5.toInt8.toInt32)].getD (((0 : Int32) + (1 : Int32)) + (1 : Int32)).toInt.toNat 0) &&& (255 : Int32)))])) st206 ?_
    refine own_st (B := T206.setTop (mkF m 117 #[.val (.int arg0), .val (.int arg1), .val (.int arg2), .val (.int v1), .val (.int v2), .val (.int v3), .val (.int v4), .val (.int v5), .val (.ref b6), .val (.int (5 : Int32)), .val (.ref b193), .unset, .unset, .unset] [])) (fun t k => XS.pop X206.here hx rfl (hb hby at_116) rfl rfl k) ?_
    refine own_st (B := T206.setTop (mkF m 119 #[.val (.int arg0), .val (.int arg1), .val (.int arg2), .val (.int v1), .val (.int v2), .val (.int v3), .val (.int v4), .val (.int v5), .val (.ref b6), .val (.int (5 : Int32)), .val (.ref b193), .unset, .unset, .unset] [(.int (5 : Int32))])) (fun t k => XS.iload X206.here hx rfl (hb hby at_117) rfl k) ?_
    refine own_st (B := T206.setTop (mkF m 120 #[.val (.int arg0), .val (.int arg1), .val (.int arg2), .val (.int v1), .val (.int v2), .val (.int v3), .val (.int v4), .val (.int v5), .val (.ref b6), .val (.int (5 : Int32)), .val (.ref b193), .unset, .unset, .unset] [(.int (3 : Int32)), (.int (5 : Int32))])) (fun t k => XS.iconst X206.here hx rfl (hb hby at_119) k) ?_
    refine own_st (B := T206.setTop (mkF m 123 #[.val (.int arg0), .val (.int arg1), .val (.int arg2), .val (.int v1), .val (.int v2), .val (.int v3), .val (.int v4), .val (.int v5), .val (.ref b6), .val (.int (5 : Int32)), .val (.ref b193), .unset, .unset, .unset] [])) (fun t k => XS.icmpNo X206.here hx rfl (hb hby at_120) rfl (by decide) k) ?_
    refine own_st (B := T206.setTop (mkF m 125 #[.val (.int arg0), .val (.int arg1), .val (.int arg2), .val (.int v1), .val (.int v2), .val (.int v3), .val (.int v4), .val (.int v5), .val (.ref b6), .val (.int (5 : Int32)), .val (.ref b193), .unset, .unset, .unset] [(.ref b193)])) (fun t k => XS.aload X206.here hx rfl (hb hby at_123) rfl rfl k) ?_
    have f208 : own_A Z T206.heap b6 .byte [(.int (v1.toInt8.toInt32)), (.int (v2.toInt8.toInt32)), (.int (v3.toInt8.toInt32)), (.int (v4.toInt8.toInt32)), (.int (v5.toInt8.toInt32))] := (f205.keep K206 (ninS q193_b6 nin0))
    obtain ⟨cq209, kq209, q209a, q209b, q209c⟩ := isOf hZ rfl p206_0
    obtain ⟨_, _, ⟨T209, L209, k209, j209⟩, -, X209, ⟨Lc209, hQ209, l209, y209_, z209_⟩, st209⟩ := X206.virtualBack hx (y := (⟨"com/example/libentkey/libentkey/codec/KeyReader", "next", "()I"⟩ : MethodName)) (z := (⟨"com/example/libentkey/libentkey/codec/KeyReader", "next", "()I"⟩ : MethodName)) hown (mvT hZ (w_13 hw)) (mvT hZ (w_14 hw)) (notFace_of_selects (args := #[]) (mvT hZ (w_16 hw))) (mvT hZ (w_16 hw)) (mvT hZ (w_15 hw)) (by decide) (backOf (W := 0) (rm3 l Z a0 hw [] b193 b6 ((((0 : Int32) + (1 : Int32)) + (1 : Int32)) + (1 : Int32)) [(v1.toInt8.toInt32), (v2.toInt8.toInt32), (v3.toInt8.toInt32), (v4.toInt8.toInt32), (v5.toInt8.toInt32)] T206.heap n0 z207 p206_0 p206_1 p206_2 f208 u193 q193_b6 (show 0 ≤ ((((0 : Int32) + (1 : Int32)) + (1 : Int32)) + (1 : Int32)).toInt ∧ ((((0 : Int32) + (1 : Int32)) + (1 : Int32)) + (1 : Int32)).toInt < ((5 : Nat) : Int) from by decide) (show [(v1.toInt8.toInt32), (v2.toInt8.toInt32), (v3.toInt8.toInt32), (v4.toInt8.toInt32), (v5.toInt8.toInt32)].length < 1000 from (by decide : 5 < 1000))) hZ (w_17 hw) (w_4 hw) (by decide) (by decide)) q209a q209c (g := (mkF m 125 #[.val (.int arg0), .val (.int arg1), .val (.int arg2), .val (.int v1), .val (.int v2), .val (.int v3), .val (.int v4), .val (.int v5), .val (.ref b6), .val (.int (5 : Int32)), .val (.ref b193), .unset, .unset, .unset] [(.ref b193)])) rfl (by rw [hml]; rfl) (Steps.refl _) (argsL := []) (rest := []) (lenOf own_pd5 rfl) rfl (by show 2 * 0 + _ ≤ _; exact Nat.le_of_eq rfl) (hb hby at_125) (fun _ _ => ⟨rfl, rfl, (by decide : 2 + 0 ≤ _), (by decide : 9 + 0 ≤ _)⟩)
    dsimp only [Pt.U, Pt.locs, Pt.cells, Pt.slots] at X209 l209 y209_ z209_ st209 hQ209
    subst l209 y209_ z209_
    obtain ⟨rfl, N209q, K209, p209_0, p209_1, p209_2⟩ := hQ209
    have N209 := Fr.app N206 N209q
    have z210 : n0 ≤ T209.heap.size := Nat.le_trans z207 K209.1
    refine own_ss (B := T209.setTop (mkF m 128 #[.val (.int arg0), .val (.int arg1), .val (.int arg2), .val (.int v1), .val (.int v2), .val (.int v3), .val (.int v4), .val (.int v5), .val (.ref b6), .val (.int (5 : Int32)), .val (.ref b193), .unset, .unset, .unset] [(.int (([(v1.toInt8.toInt32), (v2.toInt8.toInt32), (v3.toInt8.toInt32), (v4.toInt8.toInt32), (v5.toInt8.toInt32)].getD ((((0 : Int32) + (1 : Int32)) + (1 : Int32)) + (1 : Int32)).toInt.toNat 0) &&& (255 : Int32)))])) st209 ?_
    refine own_st (B := T209.setTop (mkF m 129 #[.val (.int arg0), .val (.int arg1), .val (.int arg2), .val (.int v1), .val (.int v2), .val (.int v3), .val (.int v4), .val (.int v5), .val (.ref b6), .val (.int (5 : Int32)), .val (.ref b193), .unset, .unset, .unset] [])) (fun t k => XS.pop X209.here hx rfl (hb hby at_128) rfl rfl k) ?_
    refine own_st (B := T209.setTop (mkF m 131 #[.val (.int arg0), .val (.int arg1), .val (.int arg2), .val (.int v1), .val (.int v2), .val (.int v3), .val (.int v4), .val (.int v5), .val (.ref b6), .val (.int (5 : Int32)), .val (.ref b193), .unset, .unset, .unset] [(.int (5 : Int32))])) (fun t k => XS.iload X209.here hx rfl (hb hby at_129) rfl k) ?_
    refine own_st (B := T209.setTop (mkF m 132 #[.val (.int arg0), .val (.int arg1), .val (.int arg2), .val (.int v1), .val (.int v2), .val (.int v3), .val (.int v4), .val (.int v5), .val (.ref b6), .val (.int (5 : Int32)), .val (.ref b193), .unset, .unset, .unset] [(.int (4 : Int32)), (.int (5 : Int32))])) (fun t k => XS.iconst X209.here hx rfl (hb hby at_131) k) ?_
    refine own_st (B := T209.setTop (mkF m 135 #[.val (.int arg0), .val (.int arg1), .val (.int arg2), .val (.int v1), .val (.int v2), .val (.int v3), .val (.int v4), .val (.int v5), .val (.ref b6), .val (.int (5 : Int32)), .val (.ref b193), .unset, .unset, .unset] [])) (fun t k => XS.icmpNo X209.here hx rfl (hb hby at_132) rfl (by decide) k) ?_
    refine own_st (B := T209.setTop (mkF m 137 #[.val (.int arg0), .val (.int arg1), .val (.int arg2), .val (.int v1), .val (.int v2), .val (.int v3), .val (.int v4), .val (.int v5), .val (.ref b6), .val (.int (5 : Int32)), .val (.ref b193), .unset, .unset, .unset] [(.ref b193)])) (fun t k => XS.aload X209.here hx rfl (hb hby at_135) rfl rfl k) ?_
    have f211 : own_A Z T209.heap b6 .byte [(.int (v1.toInt8.toInt32)), (.int (v2.toInt8.toInt32)), (.int (v3.toInt8.toInt32)), (.int (v4.toInt8.toInt32)), (.int (v5.toInt8.toInt32))] := (f208.keep K209 (ninS q193_b6 nin0))
    obtain ⟨cq212, kq212, q212a, q212b, q212c⟩ := isOf hZ rfl p209_0
    obtain ⟨_, _, ⟨T212, L212, k212, j212⟩, -, X212, ⟨Lc212, hQ212, l212, y212_, z212_⟩, st212⟩ := X209.virtualBack hx (y := (⟨"com/example/libentkey/libentkey/codec/KeyReader", "next", "()I"⟩ : MethodName)) (z := (⟨"com/example/libentkey/libentkey/codec/KeyReader", "next", "()I"⟩ : MethodName)) hown (mvT hZ (w_13 hw)) (mvT hZ (w_14 hw)) (notFace_of_selects (args := #[]) (mvT hZ (w_16 hw))) (mvT hZ (w_16 hw)) (mvT hZ (w_15 hw)) (by decide) (backOf (W := 0) (rm3 l Z a0 hw [] b193 b6 (((((0 : Int32) + (1 : Int32)) + (1 : Int32)) + (1 : Int32)) + (1 : Int32)) [(v1.toInt8.toInt32), (v2.toInt8.toInt32), (v3.toInt8.toInt32), (v4.toInt8.toInt32), (v5.toInt8.toInt32)] T209.heap n0 z210 p209_0 p209_1 p209_2 f211 u193 q193_b6 (show 0 ≤ (((((0 : Int32) + (1 : Int32)) + (1 : Int32)) + (1 : Int32)) + (1 : Int32)).toInt ∧ (((((0 : Int32) + (1 : Int32)) + (1 : Int32)) + (1 : Int32)) + (1 : Int32)).toInt < ((5 : Nat) : Int) from by decide) (show [(v1.toInt8.toInt32), (v2.toInt8.toInt32), (v3.toInt8.toInt32), (v4.toInt8.toInt32), (v5.toInt8.toInt32)].length < 1000 from (by decide : 5 < 1000))) hZ (w_17 hw) (w_4 hw) (by decide) (by decide)) q212a q212c (g := (mkF m 137 #[.val (.int arg0), .val (.int arg1), .val (.int arg2), .val (.int v1), .val (.int v2), .val (.int v3), .val (.int v4), .val (.int v5), .val (.ref b6), .val (.int (5 : Int32)), .val (.ref b193), .unset, .unset, .unset] [(.ref b193)])) rfl (by rw [hml]; rfl) (Steps.refl _) (argsL := []) (rest := []) (lenOf own_pd5 rfl) rfl (by show 2 * 0 + _ ≤ _; exact Nat.le_of_eq rfl) (hb hby at_137) (fun _ _ => ⟨rfl, rfl, (by decide : 2 + 0 ≤ _), (by decide : 9 + 0 ≤ _)⟩)
    dsimp only [Pt.U, Pt.locs, Pt.cells, Pt.slots] at X212 l212 y212_ z212_ st212 hQ212
    subst l212 y212_ z212_
    obtain ⟨rfl, N212q, K212, p212_0, p212_1, p212_2⟩ := hQ212
    have N212 := Fr.app N209 N212q
    have z213 : n0 ≤ T212.heap.size := Nat.le_trans z210 K212.1
    refine own_ss (B := T212.setTop (mkF m 140 #[.val (.int arg0), .val (.int arg1), .val (.int arg2), .val (.int v1), .val (.int v2), .val (.int v3), .val (.int v4), .val (.int v5), .val (.ref b6), .val (.int (5 : Int32)), .val (.ref b193), .unset, .unset, .unset] [(.int (([(v1.toInt8.toInt32), (v2.toInt8.toInt32), (v3.toInt8.toInt32), (v4.toInt8.toInt32), (v5.toInt8.toInt32)].getD (((((0 : Int32) + (1 : Int32)) + (1 : Int32)) + (1 : Int32)) + (1 : Int32)).toInt.toNat 0) &&& (255 : Int32)))])) st212 ?_
    refine own_st (B := T212.setTop (mkF m 141 #[.val (.int arg0), .val (.int arg1), .val (.int arg2), .val (.int v1), .val (.int v2), .val (.int v3), .val (.int v4), .val (.int v5), .val (.ref b6), .val (.int (5 : Int32)), .val (.ref b193), .unset, .unset, .unset] [])) (fun t k => XS.pop X212.here hx rfl (hb hby at_140) rfl rfl k) ?_
    refine own_st (B := T212.setTop (mkF m 142 #[.val (.int arg0), .val (.int arg1), .val (.int arg2), .val (.int v1), .val (.int v2), .val (.int v3), .val (.int v4), .val (.int v5), .val (.ref b6), .val (.int (5 : Int32)), .val (.ref b193), .unset, .unset, .unset] [(.int (5 : Int32))])) (fun t k => XS.iconst X212.here hx rfl (hb hby at_141) k) ?_
    refine own_st (B := T212.setTop (mkF m 144 #[.val (.int arg0), .val (.int arg1), .val (.int arg2), .val (.int v1), .val (.int v2), .val (.int v3), .val (.int v4), .val (.int v5), .val (.ref b6), .val (.int (5 : Int32)), .val (.ref b193), .val (.int (5 : Int32)), .unset, .unset] [])) (fun t k => XS.istore X212.here hx rfl (hb hby at_142) rfl (l' := #[.val (.int arg0), .val (.int arg1), .val (.int arg2), .val (.int v1), .val (.int v2), .val (.int v3), .val (.int v4), .val (.int v5), .val (.ref b6), .val (.int (5 : Int32)), .val (.ref b193), .val (.int (5 : Int32)), .unset, .unset]) rfl k) ?_
    refine own_st (B := T212.setTop (mkF m 146 #[.val (.int arg0), .val (.int arg1), .val (.int arg2), .val (.int v1), .val (.int v2), .val (.int v3), .val (.int v4), .val (.int v5), .val (.ref b6), .val (.int (5 : Int32)), .val (.ref b193), .val (.int (5 : Int32)), .unset, .unset] [(.int (5 : Int32))])) (fun t k => XS.iload X212.here hx rfl (hb hby at_144) rfl k) ?_
    refine own_st (B := T212.setTop (mkF m 147 #[.val (.int arg0), .val (.int arg1), .val (.int arg2), .val (.int v1), .val (.int v2), .val (.int v3), .val (.int v4), .val (.int v5), .val (.ref b6), .val (.int (5 : Int32)), .val (.ref b193), .val (.int (5 : Int32)), .unset, .unset] [(.int (4 : Int32)), (.int (5 : Int32))])) (fun t k => XS.iconst X212.here hx rfl (hb hby at_146) k) ?_
    refine own_st (B := T212.setTop (mkF m 161 #[.val (.int arg0), .val (.int arg1), .val (.int arg2), .val (.int v1), .val (.int v2), .val (.int v3), .val (.int v4), .val (.int v5), .val (.ref b6), .val (.int (5 : Int32)), .val (.ref b193), .val (.int (5 : Int32)), .unset, .unset] [])) (fun t k => XS.icmpYes X212.here hx rfl (pc0 := 147) (pc' := 161) rfl (hb hby at_147) rfl (by decide) (by decide) (by decide) k) ?_
    refine own_st (B := T212.setTop (mkF m 163 #[.val (.int arg0), .val (.int arg1), .val (.int arg2), .val (.int v1), .val (.int v2), .val (.int v3), .val (.int v4), .val (.int v5), .val (.ref b6), .val (.int (5 : Int32)), .val (.ref b193), .val (.int (5 : Int32)), .unset, .unset] [(.int (5 : Int32))])) (fun t k => XS.iload X212.here hx rfl (hb hby at_161) rfl k) ?_
    refine own_st (B := T212.setTop (mkF m 164 #[.val (.int arg0), .val (.int arg1), .val (.int arg2), .val (.int v1), .val (.int v2), .val (.int v3), .val (.int v4), .val (.int v5), .val (.ref b6), .val (.int (5 : Int32)), .val (.ref b193), .val (.int (5 : Int32)), .unset, .unset] [(.int (3 : Int32)), (.int (5 : Int32))])) (fun t k => XS.iconst X212.here hx rfl (hb hby at_163) k) ?_
    refine own_st (B := T212.setTop (mkF m 178 #[.val (.int arg0), .val (.int arg1), .val (.int arg2), .val (.int v1), .val (.int v2), .val (.int v3), .val (.int v4), .val (.int v5), .val (.ref b6), .val (.int (5 : Int32)), .val (.ref b193), .val (.int (5 : Int32)), .unset, .unset] [])) (fun t k => XS.icmpYes X212.here hx rfl (pc0 := 164) (pc' := 178) rfl (hb hby at_164) rfl (by decide) (by decide) (by decide) k) ?_
    refine own_st (B := T212.setTop (mkF m 180 #[.val (.int arg0), .val (.int arg1), .val (.int arg2), .val (.int v1), .val (.int v2), .val (.int v3), .val (.int v4), .val (.int v5), .val (.ref b6), .val (.int (5 : Int32)), .val (.ref b193), .val (.int (5 : Int32)), .unset, .unset] [(.int (5 : Int32))])) (fun t k => XS.iload X212.here hx rfl (hb hby at_178) rfl k) ?_
    refine own_st (B := T212.setTop (mkF m 181 #[.val (.int arg0), .val (.int arg1), .val (.int arg2), .val (.int v1), .val (.int v2), .val (.int v3), .val (.int v4), .val (.int v5), .val (.ref b6), .val (.int (5 : Int32)), .val (.ref b193), .val (.int (5 : Int32)), .unset, .unset] [(.int (2 : Int32)), (.int (5 : Int32))])) (fun t k => XS.iconst X212.here hx rfl (hb hby at_180) k) ?_
    refine own_st (B := T212.setTop (mkF m 195 #[.val (.int arg0), .val (.int arg1), .val (.int arg2), .val (.int v1), .val (.int v2), .val (.int v3), .val (.int v4), .val (.int v5), .val (.ref b6), .val (.int (5 : Int32)), .val (.ref b193), .val (.int (5 : Int32)), .unset, .unset] [])) (fun t k => XS.icmpYes X212.here hx rfl (pc0 := 181) (pc' := 195) rfl (hb hby at_181) rfl (by decide) (by decide) (by decide) k) ?_
    refine own_st (B := T212.setTop (mkF m 197 #[.val (.int arg0), .val (.int arg1), .val (.int arg2), .val (.int v1), .val (.int v2), .val (.int v3), .val (.int v4), .val (.int v5), .val (.ref b6), .val (.int (5 : Int32)), .val (.ref b193), .val (.int (5 : Int32)), .unset, .unset] [(.int (5 : Int32))])) (fun t k => XS.iload X212.here hx rfl (hb hby at_195) rfl k) ?_
    refine own_st (B := T212.setTop (mkF m 198 #[.val (.int arg0), .val (.int arg1), .val (.int arg2), .val (.int v1), .val (.int v2), .val (.int v3), .val (.int v4), .val (.int v5), .val (.ref b6), .val (.int (5 : Int32)), .val (.ref b193), .val (.int (5 : Int32)), .unset, .unset] [(.int (1 : Int32)), (.int (5 : Int32))])) (fun t k => XS.iconst X212.here hx rfl (hb hby at_197) k) ?_
    refine own_st (B := T212.setTop (mkF m 212 #[.val (.int arg0), .val (.int arg1), .val (.int arg2), .val (.int v1), .val (.int v2), .val (.int v3), .val (.int v4), .val (.int v5), .val (.ref b6), .val (.int (5 : Int32)), .val (.ref b193), .val (.int (5 : Int32)), .unset, .unset] [])) (fun t k => XS.icmpYes X212.here hx rfl (pc0 := 198) (pc' := 212) rfl (hb hby at_198) rfl (by decide) (by decide) (by decide) k) ?_
    refine own_st (B := T212.setTop (mkF m 214 #[.val (.int arg0), .val (.int arg1), .val (.int arg2), .val (.int v1), .val (.int v2), .val (.int v3), .val (.int v4), .val (.int v5), .val (.ref b6), .val (.int (5 : Int32)), .val (.ref b193), .val (.int (5 : Int32)), .unset, .unset] [(.int (5 : Int32))])) (fun t k => XS.iload X212.here hx rfl (hb hby at_212) rfl k) ?_
    refine own_st (B := T212.setTop (mkF m 227 #[.val (.int arg0), .val (.int arg1), .val (.int arg2), .val (.int v1), .val (.int v2), .val (.int v3), .val (.int v4), .val (.int v5), .val (.ref b6), .val (.int (5 : Int32)), .val (.ref b193), .val (.int (5 : Int32)), .unset, .unset] [])) (fun t k => XS.ifYes X212.here hx rfl (pc0 := 214) (pc' := 227) rfl (hb hby at_214) rfl (by decide) (by decide) (by decide) k) ?_
    refine own_st (B := T212.setTop (mkF m 229 #[.val (.int arg0), .val (.int arg1), .val (.int arg2), .val (.int v1), .val (.int v2), .val (.int v3), .val (.int v4), .val (.int v5), .val (.ref b6), .val (.int (5 : Int32)), .val (.ref b193), .val (.int (5 : Int32)), .unset, .unset] [(.ref b193)])) (fun t k => XS.aload X212.here hx rfl (hb hby at_227) rfl rfl k) ?_
    have f214 : own_A Z T212.heap b6 .byte [(.int (v1.toInt8.toInt32)), (.int (v2.toInt8.toInt32)), (.int (v3.toInt8.toInt32)), (.int (v4.toInt8.toInt32)), (.int (v5.toInt8.toInt32))] := (f211.keep K212 (ninS q193_b6 nin0))
    obtain ⟨cq215, kq215, q215a, q215b, q215c⟩ := isOf hZ rfl p212_0
    obtain ⟨_, _, ⟨T215, L215, k215, j215⟩, -, X215, ⟨Lc215, hQ215, l215, y215_, z215_⟩, st215⟩ := X212.virtualBack hx (y := (⟨"com/example/libentkey/libentkey/codec/KeyReader", "skipAscii", "()V"⟩ : MethodName)) (z := (⟨"com/example/libentkey/libentkey/codec/KeyReader", "skipAscii", "()V"⟩ : MethodName)) hown (mvT hZ (w_24 hw)) (mvT hZ (w_25 hw)) (notFace_of_selects (args := #[]) (mvT hZ (w_27 hw))) (mvT hZ (w_27 hw)) (mvT hZ (w_26 hw)) (by decide) (backOf (W := 0) (rm5 l Z a0 hw [] b193 b6 ((((((0 : Int32) + (1 : Int32)) + (1 : Int32)) + (1 : Int32)) + (1 : Int32)) + (1 : Int32)) [(v1.toInt8.toInt32), (v2.toInt8.toInt32), (v3.toInt8.toInt32), (v4.toInt8.toInt32), (v5.toInt8.toInt32)] T212.heap n0 z213 p212_0 p212_1 p212_2 f214 u193 (show 0 ≤ ((((((0 : Int32) + (1 : Int32)) + (1 : Int32)) + (1 : Int32)) + (1 : Int32)) + (1 : Int32)).toInt ∧ ((((((0 : Int32) + (1 : Int32)) + (1 : Int32)) + (1 : Int32)) + (1 : Int32)) + (1 : Int32)).toInt ≤ ((5 : Nat) : Int) from by decide) (show [(v1.toInt8.toInt32), (v2.toInt8.toInt32), (v3.toInt8.toInt32), (v4.toInt8.toInt32), (v5.toInt8.toInt32)].length < 1000 from (by decide : 5 < 1000))) hZ (w_28 hw) (w_4 hw) (by decide) (by decide)) q215a q215c (g := (mkF m 229 #[.val (.int arg0), .val (.int arg1), .val (.int arg2), .val (.int v1), .val (.int v2), .val (.int v3), .val (.int v4), .val (.int v5), .val (.ref b6), .val (.int (5 : Int32)), .val (.ref b193), .val (.int (5 : Int32)), .unset, .unset] [(.ref b193)])) rfl (by rw [hml]; rfl) (Steps.refl _) (argsL := []) (rest := []) (lenOf own_pd4 rfl) rfl (by show 2 * 0 + _ ≤ _; exact Nat.le_of_eq rfl) (hb hby at_229) (fun _ _ => ⟨rfl, rfl, (by decide : 2 + 0 ≤ _), (by decide : 9 + 0 ≤ _)⟩)
    dsimp only [Pt.U, Pt.locs, Pt.cells, Pt.slots] at X215 l215 y215_ z215_ st215 hQ215
    subst l215 y215_ z215_
    obtain ⟨q_215, rfl, N215q, K215, p215_0, p215_1, p215_2, r215_0⟩ := hQ215
    have N215 := Fr.app N212 N215q
    have z216 : n0 ≤ T215.heap.size := Nat.le_trans z213 K215.1
    refine own_ss (B := T215.setTop (mkF m 232 #[.val (.int arg0), .val (.int arg1), .val (.int arg2), .val (.int v1), .val (.int v2), .val (.int v3), .val (.int v4), .val (.int v5), .val (.ref b6), .val (.int (5 : Int32)), .val (.ref b193), .val (.int (5 : Int32)), .unset, .unset] [])) st215 ?_
    refine own_st (B := T215.setTop (mkF m 234 #[.val (.int arg0), .val (.int arg1), .val (.int arg2), .val (.int v1), .val (.int v2), .val (.int v3), .val (.int v4), .val (.int v5), .val (.ref b6), .val (.int (5 : Int32)), .val (.ref b193), .val (.int (5 : Int32)), .unset, .unset] [(.ref b193)])) (fun t k => XS.aload X215.here hx rfl (hb hby at_232) rfl rfl k) ?_
    obtain ⟨cq217, kq217, q217a, q217b, q217c⟩ := isOf hZ rfl p215_0
    obtain ⟨_, _, ⟨T217, L217, k217, j217⟩, -, X217, ⟨Lc217, hQ217, l217, y217_, z217_⟩, st217⟩ := X215.virtualBack hx (y := (⟨"com/example/libentkey/libentkey/codec/KeyReader", "position", "()I"⟩ : MethodName)) (z := (⟨"com/example/libentkey/libentkey/codec/KeyReader", "position", "()I"⟩ : MethodName)) hown (mvT hZ (w_29 hw)) (mvT hZ (w_30 hw)) (notFace_of_selects (args := #[]) (mvT hZ (w_32 hw))) (mvT hZ (w_32 hw)) (mvT hZ (w_31 hw)) (by decide) (backOf (W := 0) (rm6 l Z a0 hw [] b193 q_215 T215.heap n0 z216 p215_2) hZ (w_33 hw) (w_4 hw) (by decide) (by decide)) q217a q217c (g := (mkF m 234 #[.val (.int arg0), .val (.int arg1), .val (.int arg2), .val (.int v1), .val (.int v2), .val (.int v3), .val (.int v4), .val (.int v5), .val (.ref b6), .val (.int (5 : Int32)), .val (.ref b193), .val (.int (5 : Int32)), .unset, .unset] [(.ref b193)])) rfl (by rw [hml]; rfl) (Steps.refl _) (argsL := []) (rest := []) (lenOf own_pd5 rfl) rfl (by show 2 * 0 + _ ≤ _; exact Nat.le_of_eq rfl) (hb hby at_234) (fun _ _ => ⟨rfl, rfl, (by decide : 2 + 0 ≤ _), (by decide : 9 + 0 ≤ _)⟩)
    dsimp only [Pt.U, Pt.locs, Pt.cells, Pt.slots] at X217 l217 y217_ z217_ st217 hQ217
    subst l217 y217_ z217_
    obtain ⟨rfl, N217q, e217q⟩ := hQ217
    have N217 := Fr.app N215 N217q
    refine own_ss (B := T217.setTop (mkF m 237 #[.val (.int arg0), .val (.int arg1), .val (.int arg2), .val (.int v1), .val (.int v2), .val (.int v3), .val (.int v4), .val (.int v5), .val (.ref b6), .val (.int (5 : Int32)), .val (.ref b193), .val (.int (5 : Int32)), .unset, .unset] [(.int q_215)])) st217 ?_
    refine own_st (B := T217.setTop (mkF m 239 #[.val (.int arg0), .val (.int arg1), .val (.int arg2), .val (.int v1), .val (.int v2), .val (.int v3), .val (.int v4), .val (.int v5), .val (.ref b6), .val (.int (5 : Int32)), .val (.ref b193), .val (.int (5 : Int32)), .val (.int q_215), .unset] [])) (fun t k => XS.istore X217.here hx rfl (hb hby at_237) rfl (l' := #[.val (.int arg0), .val (.int arg1), .val (.int arg2), .val (.int v1), .val (.int v2), .val (.int v3), .val (.int v4), .val (.int v5), .val (.ref b6), .val (.int (5 : Int32)), .val (.ref b193), .val (.int (5 : Int32)), .val (.int q_215), .unset]) rfl k) ?_
    refine own_st (B := T217.setTop (mkF m 241 #[.val (.int arg0), .val (.int arg1), .val (.int arg2), .val (.int v1), .val (.int v2), .val (.int v3), .val (.int v4), .val (.int v5), .val (.ref b6), .val (.int (5 : Int32)), .val (.ref b193), .val (.int (5 : Int32)), .val (.int q_215), .unset] [(.ref b193)])) (fun t k => XS.aload X217.here hx rfl (hb hby at_239) rfl rfl k) ?_
    have f218 : own_A Z T215.heap b6 .byte [(.int (v1.toInt8.toInt32)), (.int (v2.toInt8.toInt32)), (.int (v3.toInt8.toInt32)), (.int (v4.toInt8.toInt32)), (.int (v5.toInt8.toInt32))] := (f214.keep K215 (ninS q193_b6 nin0))
    obtain ⟨cq219, kq219, q219a, q219b, q219c⟩ := isOf hZ e217q p215_0
    obtain ⟨_, _, ⟨T219, L219, k219, j219⟩, -, X219, ⟨Lc219, hQ219, l219, y219_, z219_⟩, st219⟩ := X217.virtualBack hx (y := (⟨"com/example/libentkey/libentkey/codec/KeyReader", "skipAscii", "()V"⟩ : MethodName)) (z := (⟨"com/example/libentkey/libentkey/codec/KeyReader", "skipAscii", "()V"⟩ : MethodName)) hown (mvT hZ (w_24 hw)) (mvT hZ (w_25 hw)) (notFace_of_selects (args := #[]) (mvT hZ (w_27 hw))) (mvT hZ (w_27 hw)) (mvT hZ (w_26 hw)) (by decide) (backOf (W := 0) (rm5 l Z a0 hw [] b193 b6 q_215 [(v1.toInt8.toInt32), (v2.toInt8.toInt32), (v3.toInt8.toInt32), (v4.toInt8.toInt32), (v5.toInt8.toInt32)] T215.heap n0 z216 p215_0 p215_1 p215_2 f218 u193 (show 0 ≤ q_215.toInt ∧ q_215.toInt ≤ ([(v1.toInt8.toInt32), (v2.toInt8.toInt32), (v3.toInt8.toInt32), (v4.toInt8.toInt32), (v5.toInt8.toInt32)].length : Int) by have h1 := own_bnd_5 r215_0; exact ⟨by omega, by show _ ≤ ((5 : Nat) : Int); omega⟩) (show [(v1.toInt8.toInt32), (v2.toInt8.toInt32), (v3.toInt8.toInt32), (v4.toInt8.toInt32), (v5.toInt8.toInt32)].length < 1000 from (by decide : 5 < 1000))) hZ (w_28 hw) (w_4 hw) (by decide) (by decide)) q219a q219c (g := (mkF m 241 #[.val (.int arg0), .val (.int arg1), .val (.int arg2), .val (.int v1), .val (.int v2), .val (.int v3), .val (.int v4), .val (.int v5), .val (.ref b6), .val (.int (5 : Int32)), .val (.ref b193), .val (.int (5 : Int32)), .val (.int q_215), .unset] [(.ref b193)])) rfl (by rw [hml]; rfl) (Steps.refl _) (argsL := []) (rest := []) (lenOf own_pd4 rfl) rfl (by show 2 * 0 + _ ≤ _; exact Nat.le_of_eq rfl) (hb hby at_241) (fun _ _ => ⟨rfl, e217q, (by decide : 2 + 0 ≤ _), (by decide : 9 + 0 ≤ _)⟩)
    dsimp only [Pt.U, Pt.locs, Pt.cells, Pt.slots] at X219 l219 y219_ z219_ st219 hQ219
    subst l219 y219_ z219_
    obtain ⟨q_219, rfl, N219q, K219, p219_0, p219_1, p219_2, r219_0⟩ := hQ219
    have N219 := Fr.app N217 N219q
    have z220 : n0 ≤ T219.heap.size := Nat.le_trans z216 K219.1
    refine own_ss (B := T219.setTop (mkF m 244 #[.val (.int arg0), .val (.int arg1), .val (.int arg2), .val (.int v1), .val (.int v2), .val (.int v3), .val (.int v4), .val (.int v5), .val (.ref b6), .val (.int (5 : Int32)), .val (.ref b193), .val (.int (5 : Int32)), .val (.int q_215), .unset] [])) st219 ?_
    refine own_st (B := T219.setTop (mkF m 246 #[.val (.int arg0), .val (.int arg1), .val (.int arg2), .val (.int v1), .val (.int v2), .val (.int v3), .val (.int v4), .val (.int v5), .val (.ref b6), .val (.int (5 : Int32)), .val (.ref b193), .val (.int (5 : Int32)), .val (.int q_215), .unset] [(.ref b193)])) (fun t k => XS.aload X219.here hx rfl (hb hby at_244) rfl rfl k) ?_
    obtain ⟨cq221, kq221, q221a, q221b, q221c⟩ := isOf hZ rfl p219_0
    obtain ⟨_, _, ⟨T221, L221, k221, j221⟩, -, X221, ⟨Lc221, hQ221, l221, y221_, z221_⟩, st221⟩ := X219.virtualBack hx (y := (⟨"com/example/libentkey/libentkey/codec/KeyReader", "position", "()I"⟩ : MethodName)) (z := (⟨"com/example/libentkey/libentkey/codec/KeyReader", "position", "()I"⟩ : MethodName)) hown (mvT hZ (w_29 hw)) (mvT hZ (w_30 hw)) (notFace_of_selects (args := #[]) (mvT hZ (w_32 hw))) (mvT hZ (w_32 hw)) (mvT hZ (w_31 hw)) (by decide) (backOf (W := 0) (rm6 l Z a0 hw [] b193 q_219 T219.heap n0 z220 p219_2) hZ (w_33 hw) (w_4 hw) (by decide) (by decide)) q221a q221c (g := (mkF m 246 #[.val (.int arg0), .val (.int arg1), .val (.int arg2), .val (.int v1), .val (.int v2), .val (.int v3), .val (.int v4), .val (.int v5), .val (.ref b6), .val (.int (5 : Int32)), .val (.ref b193), .val (.int (5 : Int32)), .val (.int q_215), .unset] [(.ref b193)])) rfl (by rw [hml]; rfl) (Steps.refl _) (argsL := []) (rest := []) (lenOf own_pd5 rfl) rfl (by show 2 * 0 + _ ≤ _; exact Nat.le_of_eq rfl) (hb hby at_246) (fun _ _ => ⟨rfl, rfl, (by decide : 2 + 0 ≤ _), (by decide : 9 + 0 ≤ _)⟩)
    dsimp only [Pt.U, Pt.locs, Pt.cells, Pt.slots] at X221 l221 y221_ z221_ st221 hQ221
    subst l221 y221_ z221_
    obtain ⟨rfl, N221q, e221q⟩ := hQ221
    have N221 := Fr.app N219 N221q
    refine own_ss (B := T221.setTop (mkF m 249 #[.val (.int arg0), .val (.int arg1), .val (.int arg2), .val (.int v1), .val (.int v2), .val (.int v3), .val (.int v4), .val (.int v5), .val (.ref b6), .val (.int (5 : Int32)), .val (.ref b193), .val (.int (5 : Int32)), .val (.int q_215), .unset] [(.int q_219)])) st221 ?_
    refine own_st (B := T221.setTop (mkF m 251 #[.val (.int arg0), .val (.int arg1), .val (.int arg2), .val (.int v1), .val (.int v2), .val (.int v3), .val (.int v4), .val (.int v5), .val (.ref b6), .val (.int (5 : Int32)), .val (.ref b193), .val (.int (5 : Int32)), .val (.int q_215), .val (.int q_219)] [])) (fun t k => XS.istore X221.here hx rfl (hb hby at_249) rfl (l' := #[.val (.int arg0), .val (.int arg1), .val (.int arg2), .val (.int v1), .val (.int v2), .val (.int v3), .val (.int v4), .val (.int v5), .val (.ref b6), .val (.int (5 : Int32)), .val (.ref b193), .val (.int (5 : Int32)), .val (.int q_215), .val (.int q_219)]) rfl k) ?_
    refine own_st (B := T221.setTop (mkF m 253 #[.val (.int arg0), .val (.int arg1), .val (.int arg2), .val (.int v1), .val (.int v2), .val (.int v3), .val (.int v4), .val (.int v5), .val (.ref b6), .val (.int (5 : Int32)), .val (.ref b193), .val (.int (5 : Int32)), .val (.int q_215), .val (.int q_219)] [(.int q_215)])) (fun t k => XS.iload X221.here hx rfl (hb hby at_251) rfl k) ?_
    refine own_st (B := T221.setTop (mkF m 255 #[.val (.int arg0), .val (.int arg1), .val (.int arg2), .val (.int v1), .val (.int v2), .val (.int v3), .val (.int v4), .val (.int v5), .val (.ref b6), .val (.int (5 : Int32)), .val (.ref b193), .val (.int (5 : Int32)), .val (.int q_215), .val (.int q_219)] [(.int (5 : Int32)), (.int q_215)])) (fun t k => XS.iload X221.here hx rfl (hb hby at_253) rfl k) ?_
    have hc222 : q_215 = (5 : Int32) := by
      refine Int32.toInt_inj.mp (r215_0.trans ?_)
      exact (show (5 : Int32).toInt = _ from rfl).symm
    refine own_st (B := T221.setTop (mkF m 258 #[.val (.int arg0), .val (.int arg1), .val (.int arg2), .val (.int v1), .val (.int v2), .val (.int v3), .val (.int v4), .val (.int v5), .val (.ref b6), .val (.int (5 : Int32)), .val (.ref b193), .val (.int (5 : Int32)), .val (.int q_215), .val (.int q_219)] [])) (fun t k => XS.icmpNo X221.here hx rfl (hb hby at_255) rfl (XT.ii_ne_f hc222) k) ?_
    refine own_st (B := T221.setTop (mkF m 260 #[.val (.int arg0), .val (.int arg1), .val (.int arg2), .val (.int v1), .val (.int v2), .val (.int v3), .val (.int v4), .val (.int v5), .val (.ref b6), .val (.int (5 : Int32)), .val (.ref b193), .val (.int (5 : Int32)), .val (.int q_215), .val (.int q_219)] [(.int q_219)])) (fun t k => XS.iload X221.here hx rfl (hb hby at_258) rfl k) ?_
    refine own_st (B := T221.setTop (mkF m 262 #[.val (.int arg0), .val (.int arg1), .val (.int arg2), .val (.int v1), .val (.int v2), .val (.int v3), .val (.int v4), .val (.int v5), .val (.ref b6), .val (.int (5 : Int32)), .val (.ref b193), .val (.int (5 : Int32)), .val (.int q_215), .val (.int q_219)] [(.int (5 : Int32)), (.int q_219)])) (fun t k => XS.iload X221.here hx rfl (hb hby at_260) rfl k) ?_
    have hc223 : q_219 = (5 : Int32) := by
      refine Eq.trans (Int32.toInt_inj.mp ?_) hc222
      have b1 := own_bnd_5 r215_0
      have e2 := r219_0
      have e3 : q_215.toInt.toNat = 5 + own_run (([(v1.toInt8.toInt32), (v2.toInt8.toInt32), (v3.toInt8.toInt32), (v4.toInt8.toInt32), (v5.toInt8.toInt32)] : List Int32).drop 5) := by
        have e4 := r215_0
        show _ = _
        exact own_nat_5 e4
      rw [e3, own_run_again] at e2
      omega
    refine own_st (B := T221.setTop (mkF m 265 #[.val (.int arg0), .val (.int arg1), .val (.int arg2), .val (.int v1), .val (.int v2), .val (.int v3), .val (.int v4), .val (.int v5), .val (.ref b6), .val (.int (5 : Int32)), .val (.ref b193), .val (.int (5 : Int32)), .val (.int q_215), .val (.int q_219)] [])) (fun t k => XS.icmpNo X221.here hx rfl (hb hby at_262) rfl (XT.ii_ne_f hc223) k) ?_
    refine own_st (B := T221.setTop (mkF m 266 #[.val (.int arg0), .val (.int arg1), .val (.int arg2), .val (.int v1), .val (.int v2), .val (.int v3), .val (.int v4), .val (.int v5), .val (.ref b6), .val (.int (5 : Int32)), .val (.ref b193), .val (.int (5 : Int32)), .val (.int q_215), .val (.int q_219)] [(.int (1 : Int32))])) (fun t k => XS.iconst X221.here hx rfl (hb hby at_265) k) ?_
    refine own_st (B := T221.setTop (mkF m 270 #[.val (.int arg0), .val (.int arg1), .val (.int arg2), .val (.int v1), .val (.int v2), .val (.int v3), .val (.int v4), .val (.int v5), .val (.ref b6), .val (.int (5 : Int32)), .val (.ref b193), .val (.int (5 : Int32)), .val (.int q_215), .val (.int q_219)] [(.int (1 : Int32))])) (fun t k => XS.goto X221.here hx rfl (pc0 := 266) (pc' := 270) rfl (hb hby at_266) (by decide) (by decide) k) ?_
    refine own_retN X221 hx hlk (t := .boolean) Bd.returns (by simp) (z' := (1 : Int32)) rfl (hb hby at_270) (by decide) (by decide) ?_
    show Q0 Z arg0 arg1 arg2 h0 n0 _ T221.heap _
    rw [e221q]
    exact ⟨rfl, N221⟩
set_option maxHeartbeats 40000000 in
theorem comes_1 {Post : Tables → Env → Array Value → State → Outcome → State → Prop} (hpost : ∀ tb e args s v u, (limb_1_1.after args s (.returned v) u = true ∧ limb_1_2.after args s (.returned v) u = true ∧ True) → FrameEnd s (.returned v) u (Jvm.fieldLocs frame_1_writes args s ++ Jvm.arrayLocs frame_1_arrays args s ++ Jvm.staticLocs frame_1_statics s) 16 128 → Post tb e args s (.returned v) u) :
    ArmFor flags0 classFile x code maxLocals ret World_1 tables_1 room_1 Calls_1 rest_1 Pre_1 Post := by
  intro l hfl _ _ p e ha hc hk s m args below hf hA hF happ hP
  obtain ⟨hcalls, hrest, hpre⟩ := hP
  obtain ⟨-, -, -, hnamed, -, -, -, hat⟩ := (Spec.applies_iff hf).mp happ
  obtain ⟨hg, hn⟩ := and_e (Cond.before_iff.mp (show (Jvm.Cond.and given_1 narrow_1).before args s = true from hpre))
  obtain ⟨g1a, g1b⟩ := and_e hg
  obtain ⟨g2a, g2b⟩ := and_e g1b
  obtain ⟨g3a, g3b⟩ := and_e g2b
  obtain ⟨w0, w1, w2, rfl⟩ : ∃ w0 w1 w2 : Value, args = #[w0, w1, w2] := by
    have hs : args.size = 3 := by simpa [Cond.value, given_1] using g1a
    obtain ⟨L⟩ := args
    match L, hs with
    | [w0, w1, w2], _ => exact ⟨w0, w1, w2, rfl⟩
  have hw := fun d (hd : d ∈ tables_1) => atoms_spec (ws := Jvm.Cond.code x code maxLocals ret :: tables_1) hat d (List.mem_cons_of_mem _ hd)
  have hfit : Fit s := fun {y c} hc i hi => by
    obtain ⟨ha, rfl⟩ := Array.getElem?_eq_some_iff.mp hc
    have q := List.all_eq_true.mp ((Array.all_eq_true_iff_forall_mem.mp hF) _ (Array.getElem_mem ha)) i (List.mem_range.mpr hi)
    simpa [Array.getElem?_eq_getElem hi] using q
  obtain ⟨i0, ei0⟩ := is_v g2a
  obtain rfl : w0 = (.int i0) := Option.some.inj ei0
  obtain ⟨i1, ei1⟩ := is_v g3a
  obtain rfl : w1 = (.int i1) := Option.some.inj ei1
  obtain ⟨i2, ei2⟩ := is_v g3b
  obtain rfl : w2 = (.int i2) := Option.some.inj ei2
  obtain ⟨n, o, h1, h2, h3, _, L, rfl, ⟨rfl, N⟩, hq⟩ := rm0 l s _ hw tables_1 i0 i1 i2 s.heap s.heap.size (Nat.le_refl _)  p e ha hc hk s m _ below hf ((Spec.applies_iff_loose hf).mp happ).1 ⟨rfl, State.Warmed39.refl s, rfl⟩ trivial
  refine ⟨n, _, h1, h2, h3, hpost _ _ _ _ _ _ ⟨Cond.after_iff.mpr rfl, Cond.after_iff.mpr (eq_i res_at (Term.int_eval (1)) rfl), trivial⟩ ⟨hq.1, hq.2.1, (hq.2.2.sift fun y hy => Or.inr (N y hy)).mono (by decide) (by decide)⟩⟩
theorem main_1_1 : Claimed_1_1 := comes_1 fun _ _ _ _ _ _ h hF => ⟨h.1, hF⟩
theorem main_1_2 : Claimed_1_2 := comes_1 fun _ _ _ _ _ _ h hF => ⟨h.2.1, hF⟩
end Jvm.Pilot.@@N@@
namespace Jvm.Pilot.@@N@@
open Jvm Jvm.ClassFile Sem Op Lib Jvm.Free Jvm.Stand Jvm.Pilot.@@N@@.Jvm.D
/-! MADE BY PROGRAM (witnessworld.py) out of the Statement's table words and the real class files: 9 classes; the members and pool entries that the words name. The judged class is class 1, her method 2. -/
namespace start1
open Jvm.ClassFile
def u (s : String) : CpInfo := .utf8 (stringToUtf16 s)
/-- a pool by its gaps: so many unusable entries, then the entry; so many at the end -/
def gap : Nat → List CpInfo → List CpInfo
  | 0, r => r
  | n + 1, r => .unusable :: gap n r
def poolList (es : List (Nat × CpInfo)) (last : Nat) : List CpInfo := es.foldr (fun e r => gap e.1 (e.2 :: r)) (gap last [])
def pool (es : List (Nat × CpInfo)) (last : Nat) : Array CpInfo := ⟨poolList es last⟩
def fileOf (pool : Array CpInfo) (this : Nat) (attrs : Array Attribute := #[]) (ms : Array MethodInfo := #[]) (fl : Nat := 33) (sup : Nat := 0) (ifs : Array Nat := #[]) (fds : Array FieldInfo := #[]) : ClassFile where
  minorVersion := 0
  majorVersion := 65
  constantPool := pool
  accessFlags := fl
  thisClass := this
  superClass := sup
  interfaces := ifs
  fields := fds
  methods := ms
  attributes := attrs
def plain (name : String) (sup : Option ClassId) : Class where
  name := name
  kind := .ordinary
  loader := none
  accessFlags := 33
  super := sup
  interfaces := #[]
  cf := none
  fields := #[]
  methods := #[]
  instanceTypes := #[]
  staticTypes := #[]
  resolved := #[]
  callSites := []
  init := .initialized
  statics := none
  mirror := none

def pool0 : Array CpInfo := pool [(5, u "<init>"), (0, u "()V"), (1, .class_ 10), (1, u "java/lang/Object")] 113

def k0c0 : Code := { maxStack := 0, maxLocals := 1, code := object_method_1_code, exceptionTable := #[], attributes := #[] }
def k0m0 : Method := { name := "<init>", desc := "()V", sig := { parameters := [], returnType := none }, accessFlags := 1, code := some k0c0 }
/-- java/lang/Object -/
def k0 : Class := { plain "java/lang/Object" none with
  accessFlags := 33
  interfaces := #[]
  cf := some (fileOf pool0 8 #[] #[{ accessFlags := 1, nameIndex := 5, descriptorIndex := 6, attributes := #[] }] 33 0 #[] #[])
  fields := #[]
  methods := #[k0m0]
  instanceTypes := #[]
  staticTypes := #[]
  resolved := Array.replicate 124 none
  statics := none }

def pool1 : Array CpInfo := pool [(2, .class_ 4), (1, u "java/lang/Object"), (0, u "<init>"), (0, u "()V"), (0, .integer 2147483647), (0, .class_ 9), (0, u "com/example/libentkey/libentkey/codec/KeyReader"), (0, .methodref 8 11), (0, .nameAndType 5 12), (0, u "([B)V"), (0, .methodref 8 14), (0, .nameAndType 15 16), (0, u "next"), (0, u "()I"), (0, .methodref 18 19), (0, .class_ 20), (0, .nameAndType 21 22), (0, u "com/example/libentkey/libentkey/codec/KeyReaderSkipAsciiPinLaw"), (0, u "ascii"), (0, u "(B)Z"), (0, .methodref 8 24), (0, .nameAndType 25 6), (0, u "skipAscii"), (0, .methodref 8 27), (0, .nameAndType 28 16), (0, u "position"), (3, u "law"), (0, u "(III)Z")] 4

def k1m0 : Method := { name := "<init>", desc := "()V", sig := { parameters := [], returnType := none }, accessFlags := 1, code := none }
def k1c1 : Code := { maxStack := 2, maxLocals := 2, code := method_2_code, exceptionTable := #[], attributes := #[] }
def k1m1 : Method := { name := "ascii", desc := "(B)Z", sig := { parameters := [.byte], returnType := some .boolean }, accessFlags := 10, code := some k1c1 }
def k1c2 : Code := { maxStack := 3, maxLocals := 14, code := code, exceptionTable := #[], attributes := #[] }
def k1m2 : Method := { name := "law", desc := "(III)Z", sig := { parameters := [.int, .int, .int], returnType := some .boolean }, accessFlags := 9, code := some k1c2 }
/-- com/example/libentkey/libentkey/codec/KeyReaderSkipAsciiPinLaw -/
def k1 : Class := { plain "com/example/libentkey/libentkey/codec/KeyReaderSkipAsciiPinLaw" (some 0) with
  accessFlags := 49
  interfaces := #[]
  cf := some (fileOf pool1 18 #[] #[{ accessFlags := 1, nameIndex := 5, descriptorIndex := 6, attributes := #[] }, { accessFlags := 10, nameIndex := 21, descriptorIndex := 22, attributes := #[] }, { accessFlags := 9, nameIndex := 32, descriptorIndex := 33, attributes := #[] }] 49 2 #[] #[])
  fields := #[]
  methods := #[k1m0, k1m1, k1m2]
  instanceTypes := #[]
  staticTypes := #[]
  resolved := Array.replicate 38 none
  statics := none }

def pool2 : Array CpInfo := pool [(1, .methodref 2 3), (0, .class_ 4), (0, .nameAndType 5 6), (0, u "java/lang/Object"), (0, u "<init>"), (0, u "()V"), (0, .fieldref 8 9), (0, .class_ 10), (0, .nameAndType 11 12), (0, u "com/example/libentkey/libentkey/codec/KeyReader"), (0, u "key"), (0, u "[B"), (0, .fieldref 8 14), (0, .nameAndType 15 16), (0, u "position"), (0, u "I"), (2, u "field"), (2, u "fieldStart"), (48, u "BIG_ENDIAN_LONGS"), (0, u "Ljava/lang/invoke/VarHandle;"), (8, u "next"), (0, u "()I"), (44, u "([B)V"), (10, u "skipAscii")] 26

def k2c0 : Code := { maxStack := 2, maxLocals := 2, code := prog_22_method_1_code, exceptionTable := #[], attributes := #[] }
def k2m0 : Method := { name := "<init>", desc := "([B)V", sig := { parameters := [(.array .byte)], returnType := none }, accessFlags := 0, code := some k2c0 }
def k2c1 : Code := { maxStack := 1, maxLocals := 1, code := prog_22_method_3_code, exceptionTable := #[], attributes := #[] }
def k2m1 : Method := { name := "position", desc := "()I", sig := { parameters := [], returnType := some .int }, accessFlags := 0, code := some k2c1 }
def k2c2 : Code := { maxStack := 5, maxLocals := 1, code := prog_22_method_5_code, exceptionTable := #[], attributes := #[] }
def k2m2 : Method := { name := "next", desc := "()I", sig := { parameters := [], returnType := some .int }, accessFlags := 0, code := some k2c2 }
def k2c3 : Code := { maxStack := 2, maxLocals := 2, code := prog_22_method_9_code, exceptionTable := #[], attributes := #[] }
def k2m3 : Method := { name := "skipAscii", desc := "()V", sig := { parameters := [], returnType := none }, accessFlags := 0, code := some k2c3 }
/-- com/example/libentkey/libentkey/codec/KeyReader -/
def k2 : Class := { plain "com/example/libentkey/libentkey/codec/KeyReader" (some 0) with
  accessFlags := 48
  interfaces := #[]
  cf := some (fileOf pool2 8 #[] #[{ accessFlags := 0, nameIndex := 5, descriptorIndex := 127, attributes := #[] }, { accessFlags := 0, nameIndex := 15, descriptorIndex := 82, attributes := #[] }, { accessFlags := 0, nameIndex := 81, descriptorIndex := 82, attributes := #[] }, { accessFlags := 0, nameIndex := 138, descriptorIndex := 6, attributes := #[] }] 48 2 #[] #[{ accessFlags := 24, nameIndex := 71, descriptorIndex := 72, attributes := #[] }, { accessFlags := 18, nameIndex := 11, descriptorIndex := 12, attributes := #[] }, { accessFlags := 2, nameIndex := 15, descriptorIndex := 16, attributes := #[] }, { accessFlags := 2, nameIndex := 19, descriptorIndex := 16, attributes := #[] }, { accessFlags := 2, nameIndex := 22, descriptorIndex := 16, attributes := #[] }])
  fields := #[{ name := "BIG_ENDIAN_LONGS", type := (.object "java/lang/invoke/VarHandle"), accessFlags := 24, slot := 0, constantValue := 0 }, { name := "key", type := (.array .byte), accessFlags := 18, slot := 0, constantValue := 0 }, { name := "position", type := .int, accessFlags := 2, slot := 1, constantValue := 0 }, { name := "field", type := .int, accessFlags := 2, slot := 2, constantValue := 0 }, { name := "fieldStart", type := .int, accessFlags := 2, slot := 3, constantValue := 0 }]
  methods := #[k2m0, k2m1, k2m2, k2m3]
  instanceTypes := #[(.array .byte), .int, .int, .int]
  staticTypes := #[(.object "java/lang/invoke/VarHandle")]
  resolved := Array.replicate 165 none
  statics := none }

def pool3 : Array CpInfo := pool [(1, u "java/lang/Cloneable"), (0, .class_ 1), (0, u "java/lang/Object"), (0, .class_ 3)] 3

/-- java/lang/Cloneable -/
def k3 : Class := { plain "java/lang/Cloneable" (some 0) with
  accessFlags := 1537
  interfaces := #[]
  cf := some (fileOf pool3 2 #[] #[] 1537 4 #[] #[])
  fields := #[]
  methods := #[]
  instanceTypes := #[]
  staticTypes := #[]
  resolved := Array.replicate 8 none
  statics := none }

def pool4 : Array CpInfo := pool [(1, u "java/io/Serializable"), (0, .class_ 1), (0, u "java/lang/Object"), (0, .class_ 3)] 3

/-- java/io/Serializable -/
def k4 : Class := { plain "java/io/Serializable" (some 0) with
  accessFlags := 1537
  interfaces := #[]
  cf := some (fileOf pool4 2 #[] #[] 1537 4 #[] #[])
  fields := #[]
  methods := #[]
  instanceTypes := #[]
  staticTypes := #[]
  resolved := Array.replicate 8 none
  statics := none }

/-- the primitive byte -/
def k5 : Class := { plain "byte" none with kind := .primitive 'B', accessFlags := 0x411 }
/-- [B -/
def k6 : Class := { plain "[B" (some 0) with kind := .array 5 .byte, interfaces := #[3, 4], accessFlags := 1041 }

/-- the primitive int -/
def k7 : Class := { plain "int" none with kind := .primitive 'I', accessFlags := 0x411 }
/-- [I -/
def k8 : Class := { plain "[I" (some 0) with kind := .array 7 .int, interfaces := #[3, 4], accessFlags := 1041 }

def heap : Heap := #[]
def classes : Array Class := #[k0, k1, k2, k3, k4, k5, k6, k7, k8]
def interned : List (Array UInt16 × Addr) := []
def slotsUsed : Nat := 0
def theMethod : MethodId := ⟨1, 2⟩
def args0 : Array Value := #[.int 5, .int 5, .int 5]
def aboutOver (below : List Frame) : State where
  vm := { classes := classes, interned := interned.toArray }
  heap := heap
  slotsUsed := slotsUsed
  threads := #[{ frames := .invoking theMethod args0 :: below }]
def below0 : List Frame := [.native { method := ⟨0, 0⟩, args := #[] }]
def about1 : State := aboutOver below0
def p0 : Program := .bare "" "" ""
def e0 : Env := launch0.env 0 0 0
theorem w_frames : about1.frames = Frame.invoking theMethod args0 :: below0 := rfl
set_option maxRecDepth 65536 in
theorem w_args : argsFit about1.vm theMethod args0 = true := by decide +kernel
set_option maxRecDepth 65536 in
theorem w_heap : heapFits about1 = true := by decide +kernel
set_option maxRecDepth 65536 in
theorem w_runnable : about1.curStatus? = some .runnable := by decide +kernel
set_option maxRecDepth 65536 in
theorem w_alone : about1.alone = true := by decide +kernel
set_option maxRecDepth 65536 in
theorem w_named : about1.methodNamed? x = some theMethod := by decide +kernel
set_option maxRecDepth 65536 in
theorem w_hears : about1.hears theMethod below0 = true := by decide +kernel
set_option maxRecDepth 65536 in
theorem w_ripe : about1.ripe theMethod args0 below0 = true := by decide +kernel
theorem w_running : about1.status = .running := rfl
set_option maxRecDepth 65536 in
theorem w_room : about1.hasRoom e0.platform room_1 = true :=
  launch0.hasRoom_least _ room_1 (by decide +kernel) (by decide +kernel) (by decide +kernel) (by decide +kernel) (by decide +kernel) (by decide +kernel)
theorem allAtoms_all (ts : List Jvm.Cond) (a : Array Jvm.Value) (st : Jvm.State) : (allAtoms ts).before a st = ts.all (fun c => c.before a st) := by
  induction ts with
  | nil => rfl
  | cons c t ih =>
    show (Jvm.Cond.and c (allAtoms t)).before a st = _
    rw [Jvm.Cond.before_and, ih, List.all_cons]
def words1 : List Jvm.Cond := Jvm.Cond.code x code maxLocals ret :: tables_1
/-- a 'code' word, met by the world's own term for the bytes: nothing is compared byte by byte -/
theorem code_word {y : MethodName} {bytes : ByteArray} {mx : Nat} {rt : Option FieldType} {a : Array Value} {s : State} {m : MethodId} {meth : Method} {c : Code} (h1 : s.methodNamed? y = some m) (h2 : s.vm.method? m = some meth) (h3 : meth.code = some c) (h4 : c.code = bytes)
    (h5 : (c.maxLocals == mx && c.exceptionTable.isEmpty && decide (c.maxStack ≤ mostOperands) && decide (meth.sig.returnType = rt) && !meth.locks && decide (parseMethodDescriptor y.desc = some meth.sig)) = true) : (Jvm.Cond.code y bytes mx rt).before a s = true := by
  simp only [Bool.and_eq_true, beq_iff_eq, Bool.not_eq_true', decide_eq_true_eq] at h5
  obtain ⟨⟨⟨⟨⟨g1, g2⟩, g3⟩, g4⟩, g5⟩, g6⟩ := h5
  simp [Cond.before, Cond.holds, Cond.value, h1, h2, h3, h4, g1, g2, g3, g4, g5, g6]
def isCode : Jvm.Cond → Bool
  | .code _ _ _ _ => true
  | _ => false
theorem all_split {L : List Jvm.Cond} {P : Jvm.Cond → Bool} (h1 : L.all (fun c => isCode c || P c) = true) (h2 : ∀ c ∈ L.filter isCode, P c = true) : L.all P = true := by
  refine List.all_eq_true.mpr fun c hc => ?_
  have h := List.all_eq_true.mp h1 c hc
  rcases Bool.eq_false_or_eq_true (isCode c) with hi | hi
  · exact h2 c (List.mem_filter.mpr ⟨hc, hi⟩)
  · simpa [hi] using h
set_option maxRecDepth 65536 in
theorem w_c0 : (Jvm.Cond.code x code maxLocals ret).before args0 about1 = true := code_word (m := ⟨1, 2⟩) (meth := k1m2) (c := k1c2) (by decide +kernel) rfl rfl rfl (by decide +kernel)
set_option maxRecDepth 65536 in
theorem w_c1 : (Jvm.Cond.code ({ cls := "com/example/libentkey/libentkey/codec/KeyReader", name := "<init>", desc := "([B)V" } : Jvm.MethodName) prog_22_method_1_code (2 : Nat) (Option.none : Option Jvm.ClassFile.FieldType)).before args0 about1 = true := code_word (m := ⟨2, 0⟩) (meth := k2m0) (c := k2c0) (by decide +kernel) rfl rfl rfl (by decide +kernel)
set_option maxRecDepth 65536 in
theorem w_c2 : (Jvm.Cond.code ({ cls := "java/lang/Object", name := "<init>", desc := "()V" } : Jvm.MethodName) object_method_1_code (1 : Nat) (Option.none : Option Jvm.ClassFile.FieldType)).before args0 about1 = true := code_word (m := ⟨0, 0⟩) (meth := k0m0) (c := k0c0) (by decide +kernel) rfl rfl rfl (by decide +kernel)
set_option maxRecDepth 65536 in
theorem w_c3 : (Jvm.Cond.code ({ cls := "com/example/libentkey/libentkey/codec/KeyReader", name := "next", desc := "()I" } : Jvm.MethodName) prog_22_method_5_code (1 : Nat) (Option.some Jvm.ClassFile.FieldType.int)).before args0 about1 = true := code_word (m := ⟨2, 2⟩) (meth := k2m2) (c := k2c2) (by decide +kernel) rfl rfl rfl (by decide +kernel)
set_option maxRecDepth 65536 in
theorem w_c4 : (Jvm.Cond.code ({ cls := "com/example/libentkey/libentkey/codec/KeyReaderSkipAsciiPinLaw", name := "ascii", desc := "(B)Z" } : Jvm.MethodName) method_2_code (2 : Nat) (Option.some Jvm.ClassFile.FieldType.boolean)).before args0 about1 = true := code_word (m := ⟨1, 1⟩) (meth := k1m1) (c := k1c1) (by decide +kernel) rfl rfl rfl (by decide +kernel)
set_option maxRecDepth 65536 in
theorem w_c5 : (Jvm.Cond.code ({ cls := "com/example/libentkey/libentkey/codec/KeyReader", name := "skipAscii", desc := "()V" } : Jvm.MethodName) prog_22_method_9_code (2 : Nat) (Option.none : Option Jvm.ClassFile.FieldType)).before args0 about1 = true := code_word (m := ⟨2, 3⟩) (meth := k2m3) (c := k2c3) (by decide +kernel) rfl rfl rfl (by decide +kernel)
set_option maxRecDepth 65536 in
theorem w_c6 : (Jvm.Cond.code ({ cls := "com/example/libentkey/libentkey/codec/KeyReader", name := "position", desc := "()I" } : Jvm.MethodName) prog_22_method_3_code (1 : Nat) (Option.some Jvm.ClassFile.FieldType.int)).before args0 about1 = true := code_word (m := ⟨2, 1⟩) (meth := k2m1) (c := k2c1) (by decide +kernel) rfl rfl rfl (by decide +kernel)
def codes1 : List Jvm.Cond := [Jvm.Cond.code x code maxLocals ret, Jvm.Cond.code ({ cls := "com/example/libentkey/libentkey/codec/KeyReader", name := "<init>", desc := "([B)V" } : Jvm.MethodName) prog_22_method_1_code (2 : Nat) (Option.none : Option Jvm.ClassFile.FieldType), Jvm.Cond.code ({ cls := "java/lang/Object", name := "<init>", desc := "()V" } : Jvm.MethodName) object_method_1_code (1 : Nat) (Option.none : Option Jvm.ClassFile.FieldType), Jvm.Cond.code ({ cls := "com/example/libentkey/libentkey/codec/KeyReader", name := "next", desc := "()I" } : Jvm.MethodName) prog_22_method_5_code (1 : Nat) (Option.some Jvm.ClassFile.FieldType.int), Jvm.Cond.code ({ cls := "com/example/libentkey/libentkey/codec/KeyReaderSkipAsciiPinLaw", name := "ascii", desc := "(B)Z" } : Jvm.MethodName) method_2_code (2 : Nat) (Option.some Jvm.ClassFile.FieldType.boolean), Jvm.Cond.code ({ cls := "com/example/libentkey/libentkey/codec/KeyReader", name := "skipAscii", desc := "()V" } : Jvm.MethodName) prog_22_method_9_code (2 : Nat) (Option.none : Option Jvm.ClassFile.FieldType), Jvm.Cond.code ({ cls := "com/example/libentkey/libentkey/codec/KeyReader", name := "position", desc := "()I" } : Jvm.MethodName) prog_22_method_3_code (1 : Nat) (Option.some Jvm.ClassFile.FieldType.int)]
set_option maxRecDepth 65536 in
theorem codes_eq : words1.filter isCode = codes1 := rfl
theorem w_codes : ∀ c ∈ words1.filter isCode, c.before args0 about1 = true := by
  rw [codes_eq]
  intro c hc
  simp only [codes1, List.mem_cons, List.not_mem_nil, or_false] at hc
  rcases hc with rfl | rfl | rfl | rfl | rfl | rfl | rfl
  · exact w_c0
  · exact w_c1
  · exact w_c2
  · exact w_c3
  · exact w_c4
  · exact w_c5
  · exact w_c6
set_option maxRecDepth 65536 in
theorem w_t1 : (words1.take 24).all (fun c => isCode c || c.before args0 about1) = true := by decide +kernel
set_option maxRecDepth 65536 in
theorem w_t2 : (words1.drop 24).all (fun c => isCode c || c.before args0 about1) = true := by decide +kernel
theorem w_tables : (allAtoms (Jvm.Cond.code x code maxLocals ret :: tables_1)).before args0 about1 = true := by
  rw [allAtoms_all]
  show words1.all (fun c => c.before args0 about1) = true
  refine all_split ?_ w_codes
  rw [← List.take_append_drop 24 words1, List.all_append, w_t1, w_t2]
  rfl
set_option maxRecDepth 65536 in
theorem w_case : (Jvm.Cond.and given_1 narrow_1).before args0 about1 = true := by decide +kernel
theorem w_applies : (headSpec (Jvm.Cond.code x code maxLocals ret :: tables_1) room_1).applies x e0.platform about1 = true :=
  (Spec.applies_iff w_frames).mpr ⟨w_running, w_runnable, w_alone, w_named, w_hears, w_ripe, w_room, w_tables⟩
theorem atStart : AtStart classFile x code maxLocals ret World_1 tables_1 room_1 Calls_1 rest_1 Pre_1 launch0 p0 e0 about1 theMethod args0 below0 :=
  ⟨lists_1, trivial, launch0.admits_env _ _ _, launch0.least_env, fairChoices_fair.cas, fairChoices_fair.clock, w_frames, w_args, w_heap, w_applies, trivial, trivial, w_case⟩
end start1
theorem witness_1 : WitnessClaimed_1 := ⟨start1.p0, start1.e0, start1.about1, start1.theMethod, start1.args0, start1.below0, start1.atStart⟩
end Jvm.Pilot.@@N@@
