import JvmDerived
import JvmDerived.Pilot.@@N@@Statement
import JvmDerived.Pilot.@@N@@Code
set_option linter.unusedVariables false
set_option linter.unusedSimpArgs false
namespace Jvm.Pilot.@@N@@
open Jvm Jvm.ClassFile Sem Op Lib Jvm.Free Jvm.Stand Jvm.LawKit Jvm.RoadKit Bundle Jvm.Pilot.@@N@@.Jvm.D
set_option maxRecDepth 65536
/-! the run still has to be led to its end from A: the goal of a walk, taken step by step -/
def own_Go (p : Program) (e : Env) (below : List Frame) (s : State) (Q : Option Value → Heap → List Loc → Prop) (C S : Nat) (A : State) : Prop :=
  ∃ s₂ o, Steps p.tables e below A s₂ ∧ s₂.status = .running ∧ Ended s₂ below o ∧ ∃ v L, o = .returned v ∧ Q v s₂.heap L ∧ FrameEnd s o s₂ L C S
section OwnA
variable {p : Program} {l : Launch} {e : Env} {R : Room} {s : State} {m : MethodId} {args : Array Value} {below : List Frame} {meth : Method} {c : Code} {T : State} {locs : List Loc} {cells slots : Nat} {Q : Option Value → Heap → List Loc → Prop} {C S : Nat}
theorem own_st {A B : State} (h : ∀ t, Steps p.tables e below B t → Steps p.tables e below A t) (g : own_Go p e below s Q C S B) : own_Go p e below s Q C S A := by
  obtain ⟨s₂, o, h1, r⟩ := g
  exact ⟨s₂, o, h _ h1, r⟩
theorem own_ss {A B : State} (h : Steps p.tables e below A B) (g : own_Go p e below s Q C S B) : own_Go p e below s Q C S A := own_st (fun _ k => h.trans k) g
theorem own_cut {P G : Prop} (a : P → G) (b : P) : G := a b
theorem own_leave (X : Stand p l e R s m args below meth c T locs cells slots) {v : Option Value} (hv : meth.sig.returnType = none → v = none) (hlk : meth.locks = false) (hQ : Q v T.heap locs) (hc : cells ≤ C) (hs : slots ≤ S) {A : State}
    (hr : ∀ fs, (∀ (f : JFrame) (acts : List Action), f.method = m → f.locked = none → f.entered = [] → (doReturn e (T.setTop f) acts v).1 = T.setFrames fs) → Steps p.tables e below A (T.setFrames fs)) : own_Go p e below s Q C S A := by
  obtain ⟨fs, hr', hrun, hended, hW, hsame⟩ := X.leave (v := v) hv hlk
  exact ⟨_, _, hr fs hr', hrun, hended, _, _, rfl, hQ, ⟨_, rfl⟩, hW, hsame.mono hc hs⟩
theorem own_retV (X : Stand p l e R s m args below meth c T locs cells slots) (hx : p.tables.exec = Jvm.exec) (hlk : meth.locks = false) (hret : meth.sig.returnType = none) {pc : Nat} {Ls : Array Slot} (hd : decode c.code pc = .ok (.return_, 1)) (hc : cells ≤ C) (hs : slots ≤ S) (hQ : Q none T.heap locs) :
    own_Go p e below s Q C S (T.setTop (mkF m pc Ls [])) := own_leave X (fun _ => rfl) hlk hQ hc hs fun _ hr => X.returnOut hx hret hd hr
theorem own_retI (X : Stand p l e R s m args below meth c T locs cells slots) (hx : p.tables.exec = Jvm.exec) (hlk : meth.locks = false) (hret : meth.sig.returnType = some .int) {pc : Nat} {Ls : Array Slot} {z : Int32} {rest : List Value} (hd : decode c.code pc = .ok (.ireturn, 1)) (hc : cells ≤ C) (hs : slots ≤ S) (hQ : Q (some (.int z)) T.heap locs) :
    own_Go p e below s Q C S (T.setTop (mkF m pc Ls (.int z :: rest))) := own_leave X (fun h => by rw [hret] at h; cases h) hlk hQ hc hs fun _ hr => retOut X hx hret rfl (Or.inl ⟨rfl, Or.inl rfl, _, rfl⟩) hd hr
theorem own_retJ (X : Stand p l e R s m args below meth c T locs cells slots) (hx : p.tables.exec = Jvm.exec) (hlk : meth.locks = false) (hret : meth.sig.returnType = some .long) {pc : Nat} {Ls : Array Slot} {z : Int64} {rest : List Value} (hd : decode c.code pc = .ok (.lreturn, 1)) (hc : cells ≤ C) (hs : slots ≤ S) (hQ : Q (some (.long z)) T.heap locs) :
    own_Go p e below s Q C S (T.setTop (mkF m pc Ls (.long z :: rest))) := own_leave X (fun h => by rw [hret] at h; cases h) hlk hQ hc hs fun _ hr => retOut X hx hret rfl (Or.inr (Or.inl ⟨rfl, rfl, _, rfl⟩)) hd hr
theorem own_retR (X : Stand p l e R s m args below meth c T locs cells slots) (hx : p.tables.exec = Jvm.exec) (hlk : meth.locks = false) {t : FieldType} (hret : meth.sig.returnType = some t) (ht : t.isReference = true) {pc : Nat} {Ls : Array Slot} {w : Value} {rest : List Value} (hn : narrow t w = w) (hw : w.isRef = true) (hd : decode c.code pc = .ok (.areturn, 1)) (hc : cells ≤ C) (hs : slots ≤ S) (hQ : Q (some w) T.heap locs) :
    own_Go p e below s Q C S (T.setTop (mkF m pc Ls (w :: rest))) := own_leave X (fun h => by rw [hret] at h; cases h) hlk hQ hc hs fun _ hr => retOut X hx hret hn (Or.inr (Or.inr (Or.inr (Or.inr ⟨rfl, ht, hw⟩)))) hd hr
theorem own_retN (X : Stand p l e R s m args below meth c T locs cells slots) (hx : p.tables.exec = Jvm.exec) (hlk : meth.locks = false) {t : FieldType} (hret : meth.sig.returnType = some t) (ht : t = .boolean ∨ t = .byte ∨ t = .char ∨ t = .short) {pc : Nat} {Ls : Array Slot} {z z' : Int32} {rest : List Value} (hz : nar t z = z') (hd : decode c.code pc = .ok (.ireturn, 1)) (hc : cells ≤ C) (hs : slots ≤ S) (hQ : Q (some (.int z')) T.heap locs) :
    own_Go p e below s Q C S (T.setTop (mkF m pc Ls (.int z :: rest))) := by
  subst hz
  exact own_leave X (fun h => by rw [hret] at h; cases h) hlk hQ hc hs fun _ hr => retN X hx hret ht hd hr
/-! arrays by the whole list of what they hold -/
variable {Z : State} {h h' : Heap} {a b : Addr} {ty : FieldType} {vs : List Value}
def own_A (Z : State) (h : Heap) (a : Addr) (ty : FieldType) (vs : List Value) : Prop := ∃ c : Cell, Arr Z h a c ty ∧ c.slots.toList = vs
theorem own_A.lt (F : own_A Z h a ty vs) : a < h.size := by obtain ⟨c, A, -⟩ := F; exact A.lt
theorem own_A.ext (F : own_A Z h a ty vs) (E : Ext h h') : own_A Z h' a ty vs := by obtain ⟨c, A, q⟩ := F; exact ⟨c, A.ext E, q⟩
theorem own_A.other {sl : Nat} {v : Value} (F : own_A Z h a ty vs) (W : Wr h h' b sl v) (q : a ≠ b) : own_A Z h' a ty vs := by obtain ⟨c, A, r⟩ := F; exact ⟨c, A.other W q, r⟩
theorem own_A.keep {ws : List Addr} (F : own_A Z h a ty vs) (K : Keep h h' ws) (q : a ∉ ws) : own_A Z h' a ty vs := by obtain ⟨c, A, r⟩ := F; exact ⟨c, ⟨K.2.1 a c A.1 q, A.2⟩, r⟩
theorem own_A.set {i : Nat} {v : Value} (F : own_A Z h a ty vs) (W : Wr h h' a i v) : own_A Z h' a ty (vs.set i v) := by
  obtain ⟨c, A, rfl⟩ := F
  exact ⟨_, A.same W, by simp [Cell.setSlot]⟩
theorem own_ix {j : Int32} {i : Nat} (hj : j.toInt = (i : Int)) : ¬ j < 0 ∧ j.toNatClampNeg = i := by
  refine ⟨?_, ?_⟩
  · rw [Int32.lt_iff_toInt_lt, hj]
    show ¬ ((i : Int) < 0)
    omega
  · have h1 : j.toNatClampNeg = j.toInt.toNat := rfl
    rw [h1, hj]; rfl
theorem own_in {cl : Cell} {j : Int32} {i : Nat} {v : Value} (hj : j.toInt = (i : Int)) (hv : cl.slots.toList[i]? = some v) : ¬ (j < 0 ∨ cl.slots.size ≤ j.toNatClampNeg) ∧ cl.slots[j.toNatClampNeg]? = some v := by
  obtain ⟨n0, n1⟩ := own_ix hj
  rw [n1]
  rw [Array.getElem?_toList] at hv
  refine ⟨?_, hv⟩
  have h2 := (Array.getElem?_eq_some_iff.mp hv).1
  rintro (q | q)
  · exact n0 q
  · omega
theorem own_ldI (X : Stand p l e R s m args below meth c T locs cells slots) (hx : p.tables.exec = Jvm.exec) (hZ : Z.Warmed39 s.vm) (eT : T.heap = h) (A : own_A Z h a .int vs) {j : Int32} {i : Nat} {v : Value} (hj : j.toInt = (i : Int)) (hv : vs[i]? = some v) {g : JFrame} (hg : g.method = m) {rest : List Value} (hs : g.stack = .int j :: .ref a :: rest) (hd : decode c.code g.pc = .ok (.iaload, 1)) {t : State}
    (k : Steps p.tables e below (T.setTop { g with pc := g.pc + 1, stack := v :: rest }) t) : Steps p.tables e below (T.setTop g) t := by
  obtain ⟨cl, A, rfl⟩ := A
  exact X.iaload hx (by rw [eT]; exact A.1) (State.isArrayOf_alike hZ.alike A.2.1) A.2.2 (own_in hj hv).1 (own_in hj hv).2 hg hs hd _ k
theorem own_ldJ (X : Stand p l e R s m args below meth c T locs cells slots) (hx : p.tables.exec = Jvm.exec) (hZ : Z.Warmed39 s.vm) (eT : T.heap = h) (A : own_A Z h a .long vs) {j : Int32} {i : Nat} {v : Value} (hj : j.toInt = (i : Int)) (hv : vs[i]? = some v) {g : JFrame} (hg : g.method = m) {rest : List Value} (hs : g.stack = .int j :: .ref a :: rest) (hd : decode c.code g.pc = .ok (.laload, 1)) {t : State}
    (k : Steps p.tables e below (T.setTop { g with pc := g.pc + 1, stack := v :: rest }) t) : Steps p.tables e below (T.setTop g) t := by
  obtain ⟨cl, A, rfl⟩ := A
  exact X.laload hx (by rw [eT]; exact A.1) (State.isArrayOf_alike hZ.alike A.2.1) A.2.2 (own_in hj hv).1 (own_in hj hv).2 hg hs hd _ k
theorem own_ldB (X : Stand p l e R s m args below meth c T locs cells slots) (hx : p.tables.exec = Jvm.exec) (hZ : Z.Warmed39 s.vm) (eT : T.heap = h) (A : own_A Z h a .byte vs) {j : Int32} {i : Nat} {v : Value} (hj : j.toInt = (i : Int)) (hv : vs[i]? = some v) {g : JFrame} (hg : g.method = m) {rest : List Value} (hs : g.stack = .int j :: .ref a :: rest) (hd : decode c.code g.pc = .ok (.baload, 1)) {t : State}
    (k : Steps p.tables e below (T.setTop { g with pc := g.pc + 1, stack := v :: rest }) t) : Steps p.tables e below (T.setTop g) t := by
  obtain ⟨cl, A, rfl⟩ := A
  exact X.baloadBytes hx (by rw [eT]; exact A.1) (State.isArrayOf_alike hZ.alike A.2.1) A.2.2 (own_in hj hv).1 (own_in hj hv).2 hg hs hd _ k
theorem own_ldZ (X : Stand p l e R s m args below meth c T locs cells slots) (hx : p.tables.exec = Jvm.exec) (hZ : Z.Warmed39 s.vm) (eT : T.heap = h) (A : own_A Z h a .boolean vs) {j : Int32} {i : Nat} {v : Value} (hj : j.toInt = (i : Int)) (hv : vs[i]? = some v) {g : JFrame} (hg : g.method = m) {rest : List Value} (hs : g.stack = .int j :: .ref a :: rest) (hd : decode c.code g.pc = .ok (.baload, 1)) {t : State}
    (k : Steps p.tables e below (T.setTop { g with pc := g.pc + 1, stack := v :: rest }) t) : Steps p.tables e below (T.setTop g) t := by
  obtain ⟨cl, A, rfl⟩ := A
  exact X.baloadBooleans hx (by rw [eT]; exact A.1) (State.isArrayOf_alike hZ.alike A.2.1) A.2.2 (own_in hj hv).1 (own_in hj hv).2 hg hs hd _ k
theorem own_ldS (X : Stand p l e R s m args below meth c T locs cells slots) (hx : p.tables.exec = Jvm.exec) (hZ : Z.Warmed39 s.vm) (eT : T.heap = h) (A : own_A Z h a .short vs) {j : Int32} {i : Nat} {v : Value} (hj : j.toInt = (i : Int)) (hv : vs[i]? = some v) {g : JFrame} (hg : g.method = m) {rest : List Value} (hs : g.stack = .int j :: .ref a :: rest) (hd : decode c.code g.pc = .ok (.saload, 1)) {t : State}
    (k : Steps p.tables e below (T.setTop { g with pc := g.pc + 1, stack := v :: rest }) t) : Steps p.tables e below (T.setTop g) t := by
  obtain ⟨cl, A, rfl⟩ := A
  exact X.saload hx (by rw [eT]; exact A.1) (State.isArrayOf_alike hZ.alike A.2.1) A.2.2 (own_in hj hv).1 (own_in hj hv).2 hg hs hd _ k
theorem own_ldC (X : Stand p l e R s m args below meth c T locs cells slots) (hx : p.tables.exec = Jvm.exec) (hZ : Z.Warmed39 s.vm) (eT : T.heap = h) (A : own_A Z h a .char vs) {j : Int32} {i : Nat} {v : Value} (hj : j.toInt = (i : Int)) (hv : vs[i]? = some v) {g : JFrame} (hg : g.method = m) {rest : List Value} (hs : g.stack = .int j :: .ref a :: rest) (hd : decode c.code g.pc = .ok (.caload, 1)) {t : State}
    (k : Steps p.tables e below (T.setTop { g with pc := g.pc + 1, stack := v :: rest }) t) : Steps p.tables e below (T.setTop g) t := by
  obtain ⟨cl, A, rfl⟩ := A
  exact X.caload hx (by rw [eT]; exact A.1) (State.isArrayOf_alike hZ.alike A.2.1) A.2.2 (own_in hj hv).1 (own_in hj hv).2 hg hs hd _ k
theorem own_ldR (X : Stand p l e R s m args below meth c T locs cells slots) (hx : p.tables.exec = Jvm.exec) (hZ : Z.Warmed39 s.vm) (eT : T.heap = h) (A : own_A Z h a ty vs) (hty : ty.isReference = true) {j : Int32} {i : Nat} {v : Value} (hj : j.toInt = (i : Int)) (hv : vs[i]? = some v) {g : JFrame} (hg : g.method = m) {rest : List Value} (hs : g.stack = .int j :: .ref a :: rest) (hd : decode c.code g.pc = .ok (.aaload, 1)) {t : State}
    (k : Steps p.tables e below (T.setTop { g with pc := g.pc + 1, stack := v :: rest }) t) : Steps p.tables e below (T.setTop g) t := by
  obtain ⟨cl, A, rfl⟩ := A
  exact X.aaload hx (by rw [eT]; exact A.1) (State.isArrayOf_alike hZ.alike A.2.1) hty A.2.2 (own_in hj hv).1 (own_in hj hv).2 hg hs hd _ k
theorem own_stI (X : Stand p l e R s m args below meth c T locs cells slots) (hx : p.tables.exec = Jvm.exec) (hZ : Z.Warmed39 s.vm) (eT : T.heap = h) (A : own_A Z h a .int vs) {j x : Int32} {i : Nat} (hj : j.toInt = (i : Int)) (hi : i < vs.length) {g : JFrame} (hg : g.method = m) {rest : List Value} (hs : g.stack = .int x :: .int j :: .ref a :: rest) (hd : decode c.code g.pc = .ok (.iastore, 1)) :
    ∃ T' h', Stand p l e R s m args below meth c T' (locs ++ [⟨a, i⟩]) cells slots ∧ T'.heap = h' ∧ Wr h h' a i (.int x) ∧ own_A Z h' a .int (vs.set i (.int x)) ∧ ∀ target, Steps p.tables e below (T'.setTop { g with pc := g.pc + 1, stack := rest }) target → Steps p.tables e below (T.setTop g) target := by
  obtain ⟨cl, A, rfl⟩ := A
  have hin := (own_in (cl := cl) (v := cl.slots.toList[i]) hj (List.getElem?_eq_getElem hi)).1
  obtain ⟨T', h', X', e', W', st⟩ := stI X hx hZ eT A (j := j) (x := x) hin hg hs hd
  rw [(own_ix hj).2] at X' W'
  exact ⟨T', h', X', e', W', own_A.set ⟨cl, A, rfl⟩ W', st⟩
theorem own_stJ (X : Stand p l e R s m args below meth c T locs cells slots) (hx : p.tables.exec = Jvm.exec) (hZ : Z.Warmed39 s.vm) (eT : T.heap = h) (A : own_A Z h a .long vs) {j : Int32} {x : Int64} {i : Nat} (hj : j.toInt = (i : Int)) (hi : i < vs.length) {g : JFrame} (hg : g.method = m) {rest : List Value} (hs : g.stack = .long x :: .int j :: .ref a :: rest) (hd : decode c.code g.pc = .ok (.lastore, 1)) :
    ∃ T' h', Stand p l e R s m args below meth c T' (locs ++ [⟨a, i⟩]) cells slots ∧ T'.heap = h' ∧ Wr h h' a i (.long x) ∧ own_A Z h' a .long (vs.set i (.long x)) ∧ ∀ target, Steps p.tables e below (T'.setTop { g with pc := g.pc + 1, stack := rest }) target → Steps p.tables e below (T.setTop g) target := by
  obtain ⟨cl, A, rfl⟩ := A
  have hin := (own_in (cl := cl) (v := cl.slots.toList[i]) hj (List.getElem?_eq_getElem hi)).1
  obtain ⟨T', h', X', e', W', st⟩ := stJ X hx hZ eT A (j := j) (x := x) hin hg hs hd
  rw [(own_ix hj).2] at X' W'
  exact ⟨T', h', X', e', W', own_A.set ⟨cl, A, rfl⟩ W', st⟩
theorem own_stB (X : Stand p l e R s m args below meth c T locs cells slots) (hx : p.tables.exec = Jvm.exec) (hZ : Z.Warmed39 s.vm) (eT : T.heap = h) (A : own_A Z h a .byte vs) {j x : Int32} {i : Nat} (hj : j.toInt = (i : Int)) (hi : i < vs.length) {g : JFrame} (hg : g.method = m) {rest : List Value} (hs : g.stack = .int x :: .int j :: .ref a :: rest) (hd : decode c.code g.pc = .ok (.bastore, 1)) :
    ∃ T' h', Stand p l e R s m args below meth c T' (locs ++ [⟨a, i⟩]) cells slots ∧ T'.heap = h' ∧ Wr h h' a i (.int x.toInt8.toInt32) ∧ own_A Z h' a .byte (vs.set i (.int x.toInt8.toInt32)) ∧ ∀ target, Steps p.tables e below (T'.setTop { g with pc := g.pc + 1, stack := rest }) target → Steps p.tables e below (T.setTop g) target := by
  obtain ⟨cl, A, rfl⟩ := A
  have hin := (own_in (cl := cl) (v := cl.slots.toList[i]) hj (List.getElem?_eq_getElem hi)).1
  obtain ⟨T', h', X', e', W', st⟩ := stB X hx hZ eT A (j := j) (x := x) hin hg hs hd
  rw [(own_ix hj).2] at X' W'
  exact ⟨T', h', X', e', W', own_A.set ⟨cl, A, rfl⟩ W', st⟩
theorem own_stS (X : Stand p l e R s m args below meth c T locs cells slots) (hx : p.tables.exec = Jvm.exec) (hZ : Z.Warmed39 s.vm) (eT : T.heap = h) (A : own_A Z h a .short vs) {j x : Int32} {i : Nat} (hj : j.toInt = (i : Int)) (hi : i < vs.length) {g : JFrame} (hg : g.method = m) {rest : List Value} (hs : g.stack = .int x :: .int j :: .ref a :: rest) (hd : decode c.code g.pc = .ok (.sastore, 1)) :
    ∃ T' h', Stand p l e R s m args below meth c T' (locs ++ [⟨a, i⟩]) cells slots ∧ T'.heap = h' ∧ Wr h h' a i (.int x.toInt16.toInt32) ∧ own_A Z h' a .short (vs.set i (.int x.toInt16.toInt32)) ∧ ∀ target, Steps p.tables e below (T'.setTop { g with pc := g.pc + 1, stack := rest }) target → Steps p.tables e below (T.setTop g) target := by
  obtain ⟨cl, A, rfl⟩ := A
  have hin := (own_in (cl := cl) (v := cl.slots.toList[i]) hj (List.getElem?_eq_getElem hi)).1
  obtain ⟨T', h', X', e', W', st⟩ := stS X hx hZ eT A (j := j) (x := x) hin hg hs hd
  rw [(own_ix hj).2] at X' W'
  exact ⟨T', h', X', e', W', own_A.set ⟨cl, A, rfl⟩ W', st⟩
theorem own_stC (X : Stand p l e R s m args below meth c T locs cells slots) (hx : p.tables.exec = Jvm.exec) (hZ : Z.Warmed39 s.vm) (eT : T.heap = h) (A : own_A Z h a .char vs) {j x : Int32} {i : Nat} (hj : j.toInt = (i : Int)) (hi : i < vs.length) {g : JFrame} (hg : g.method = m) {rest : List Value} (hs : g.stack = .int x :: .int j :: .ref a :: rest) (hd : decode c.code g.pc = .ok (.castore, 1)) :
    ∃ T' h', Stand p l e R s m args below meth c T' (locs ++ [⟨a, i⟩]) cells slots ∧ T'.heap = h' ∧ Wr h h' a i (.int x.toUInt32.toUInt16.toUInt32.toInt32) ∧ own_A Z h' a .char (vs.set i (.int x.toUInt32.toUInt16.toUInt32.toInt32)) ∧ ∀ target, Steps p.tables e below (T'.setTop { g with pc := g.pc + 1, stack := rest }) target → Steps p.tables e below (T.setTop g) target := by
  obtain ⟨cl, A, rfl⟩ := A
  have hin := (own_in (cl := cl) (v := cl.slots.toList[i]) hj (List.getElem?_eq_getElem hi)).1
  obtain ⟨T', h', X', e', W', st⟩ := stC X hx hZ eT A (j := j) (x := x) hin hg hs hd
  rw [(own_ix hj).2] at X' W'
  exact ⟨T', h', X', e', W', own_A.set ⟨cl, A, rfl⟩ W', st⟩
theorem own_newP {a0 : Array Value} (X : Stand p l e R s m args below meth c T locs cells slots) (hx : p.tables.exec = Jvm.exec) (hZ : Z.Warmed39 s.vm) {aty : ArrayType} (w : (Cond.arrayClass (newarray.typeOf aty)).before a0 Z = true) (eT : T.heap = h) {g : JFrame} (hg : g.method = m) (hd : decode c.code g.pc = .ok (.newarray aty, 2)) {n : Int32} {rest : List Value} (hs : g.stack = .int n :: rest)
    {k cap : Nat} (hk : n.toInt = (k : Int)) (hcap : k ≤ cap) (hb : cap * 8 ≤ 536870912) (hc : cells + 1 ≤ R.cells) (hl : slots + cap ≤ R.slots) {ad : String} (had : "[" ++ (newarray.typeOf aty).toString = ad) :
    ∃ T' h', Stand p l e R s m args below meth c T' locs (cells + 1) (slots + cap) ∧ T'.heap = h' ∧ Ext h h' ∧ own_A Z h' h.size (newarray.typeOf aty) (List.replicate k (defaultValue (newarray.typeOf aty))) ∧ Exa Z h' h.size ad ∧
      ∀ target, Steps p.tables e below (T'.setTop { g with pc := g.pc + 2, stack := .ref h.size :: rest }) target → Steps p.tables e below (T.setTop g) target := by
  obtain ⟨n0, n1⟩ := own_ix hk
  obtain ⟨T', h', cA, X', e', E', A', x', st⟩ := newPE X hx hZ w eT hg hd hs n0 (cap := cap) (by rw [n1]; exact hcap) hb hc hl had
  exact ⟨T', h', X', e', E', ⟨_, A', by simp [newA, n1]⟩, x', st⟩
theorem own_clone {a0 : Array Value} (X : Stand p l e R s m args below meth c T locs cells slots) (hx : p.tables.exec = Jvm.exec) (hZ : Z.Warmed39 s.vm) {own ad : String} {index : Nat} (hown : s.vm.findClass own = some m.cls)
    (w1 : (Cond.methodLink own index ⟨ad, "clone", "()Ljava/lang/Object;"⟩).before a0 Z = true) (w2 : (Cond.sameMethod ad "java/lang/Object" "clone" "()Ljava/lang/Object;").before a0 Z = true) (w3 : (Cond.native ⟨"java/lang/Object", "clone", "()Ljava/lang/Object;"⟩).before a0 Z = true)
    (w4 : (Cond.instanceMethod ⟨"java/lang/Object", "clone", "()Ljava/lang/Object;"⟩).before a0 Z = true) (w5 : (Cond.selects ad ⟨ad, "clone", "()Ljava/lang/Object;"⟩ ⟨"java/lang/Object", "clone", "()Ljava/lang/Object;"⟩).before a0 Z = true) (w6 : (Cond.castable ad "java/lang/Cloneable").before a0 Z = true)
    (eT : T.heap = h) (A : own_A Z h a ty vs) (E : Exa Z h a ad) (hf : ∀ v ∈ vs, fits ty v = true) {g : JFrame} (hg : g.method = m) (hsize : g.locals.size = c.maxLocals) {rest : List Value} (hst : g.stack = .ref a :: rest) (hd : decode c.code g.pc = .ok (.invokevirtual index, 3))
    (hfr : 1 ≤ R.frames) {W cap : Nat} (hW : 2 * g.monitorRoom + (rest.map fun v => v.category).sum ≤ W) (hl : W + 14 ≤ R.locals) (hcap : vs.length ≤ cap) (hc : cells + 1 ≤ R.cells) (hsl : slots + cap ≤ R.slots) :
    ∃ T' h', Stand p l e R s m args below meth c T' locs (cells + 1) (slots + cap) ∧ T'.heap = h' ∧ Ext h h' ∧ own_A Z h' h.size ty vs ∧ Exa Z h' h.size ad ∧
      ∀ target, Steps p.tables e below (T'.setTop { g with pc := g.pc + 3, stack := .ref h.size :: rest }) target → Steps p.tables e below (T.setTop g) target := by
  obtain ⟨cl, A, rfl⟩ := A
  have FC : FitC Z cl := fitC_of A fun i hi v hv => hf v (by
    rw [← Array.getElem?_toList] at hv
    exact List.mem_of_getElem? hv)
  obtain ⟨T', h', X', e', ex, A', E', st⟩ := cloneA X hx hZ hown w1 w2 w3 w4 w5 w6 eT A E FC hg hsize hst hd hfr hW hl (by simpa using hcap) hc hsl
  exact ⟨T', h', X', e', ex, ⟨_, A', rfl⟩, E', st⟩
def own_Ov (C : String) (Z : State) (h : Heap) (a : Addr) : Prop := ∃ c : Cell, h[a]? = some c ∧ Ovr Z c.cls C
theorem own_Ov.lt {C : String} (F : own_Ov C Z h a) : a < h.size := by obtain ⟨c, q, -⟩ := F; exact (Array.getElem?_eq_some_iff.mp q).1
theorem own_Ov.ext {C : String} (F : own_Ov C Z h a) (E : Ext h h') : own_Ov C Z h' a := by obtain ⟨c, q, r⟩ := F; exact ⟨c, E.2 _ _ q, r⟩
theorem own_Ov.other {C : String} {sl : Nat} {v : Value} (F : own_Ov C Z h a) (W : Wr h h' b sl v) (ne : a ≠ b) : own_Ov C Z h' a := by
  obtain ⟨c, q, r⟩ := F
  obtain ⟨c', q', -, -, -, e, -⟩ := wr_at W q
  exact ⟨c', q', by rw [e ne]; exact r⟩
theorem own_Ov.keep {C : String} {ws : List Addr} (F : own_Ov C Z h a) (K : Keep h h' ws) (ne : a ∉ ws) : own_Ov C Z h' a := by obtain ⟨c, q, r⟩ := F; exact ⟨c, K.2.1 _ _ q ne, r⟩
theorem own_newR {a0 : Array Value} (X : Stand p l e R s m args below meth c T locs cells slots) (hx : p.tables.exec = Jvm.exec) (hZ : Z.Warmed39 s.vm) {own C : String} {index : Nat} (hown : s.vm.findClass own = some m.cls) (w1 : (Cond.classLink own index C).before a0 Z = true) (w2 : (Cond.arrayOver (.object C)).before a0 Z = true) (eT : T.heap = h) {g : JFrame} (hg : g.method = m) (hd : decode c.code g.pc = .ok (.anewarray index, 3)) {n : Int32} {rest : List Value} (hs : g.stack = .int n :: rest)
    {k cap : Nat} (hk : n.toInt = (k : Int)) (hcap : k ≤ cap) (hb : cap * 8 ≤ 536870912) (hc : cells + 1 ≤ R.cells) (hl : slots + cap ≤ R.slots) {ad : String} (had : "[" ++ (FieldType.object C).toString = ad) :
    ∃ T' h', Stand p l e R s m args below meth c T' locs (cells + 1) (slots + cap) ∧ T'.heap = h' ∧ Ext h h' ∧ own_A Z h' h.size (.object C) (List.replicate k .null) ∧ Exa Z h' h.size ad ∧ own_Ov C Z h' h.size ∧
      ∀ target, Steps p.tables e below (T'.setTop { g with pc := g.pc + 3, stack := .ref h.size :: rest }) target → Steps p.tables e below (T.setTop g) target := by
  obtain ⟨n0, n1⟩ := own_ix hk
  obtain ⟨T', h', cA, X', e', E', A', x', O', st⟩ := newRE X hx hZ hown w1 w2 eT hg hd hs n0 (cap := cap) (by rw [n1]; exact hcap) hb hc hl had
  exact ⟨T', h', X', e', E', ⟨_, A', by simp [newA, n1, defaultValue]⟩, x', ⟨_, A'.1, O'⟩, st⟩
theorem own_stR {C : String} (X : Stand p l e R s m args below meth c T locs cells slots) (hx : p.tables.exec = Jvm.exec) (hZ : Z.Warmed39 s.vm) (eT : T.heap = h) (A : own_A Z h a (.object C) vs) (O : own_Ov C Z h a) {y : Addr} (I : Ins Z h y C true) {j : Int32} {i : Nat} (hj : j.toInt = (i : Int)) (hi : i < vs.length) {g : JFrame} (hg : g.method = m) {rest : List Value} (hs : g.stack = .ref y :: .int j :: .ref a :: rest) (hd : decode c.code g.pc = .ok (.aastore, 1)) :
    ∃ T' h', Stand p l e R s m args below meth c T' (locs ++ [⟨a, i⟩]) cells slots ∧ T'.heap = h' ∧ Wr h h' a i (.ref y) ∧ own_A Z h' a (.object C) (vs.set i (.ref y)) ∧ ∀ target, Steps p.tables e below (T'.setTop { g with pc := g.pc + 1, stack := rest }) target → Steps p.tables e below (T.setTop g) target := by
  obtain ⟨cl, A, rfl⟩ := A
  obtain ⟨c2, q, r⟩ := O
  cases A.1.symm.trans q
  have hin := (own_in (cl := cl) (v := cl.slots.toList[i]) hj (List.getElem?_eq_getElem hi)).1
  obtain ⟨T', h', X', e', W', st⟩ := stR X hx hZ eT A (j := j) (v := .ref y) hin rfl (Sto.of A r I) hg hs hd
  rw [(own_ix hj).2] at X' W'
  exact ⟨T', h', X', e', W', own_A.set ⟨cl, A, rfl⟩ W', st⟩
theorem own_len (X : Stand p l e R s m args below meth c T locs cells slots) (hx : p.tables.exec = Jvm.exec) (hZ : Z.Warmed39 s.vm) (eT : T.heap = h) (A : own_A Z h a ty vs) {n : Int32} (hn : n.toInt = (vs.length : Int)) {g : JFrame} (hg : g.method = m) {rest : List Value} (hs : g.stack = .ref a :: rest) (hd : decode c.code g.pc = .ok (.arraylength, 1)) {t : State}
    (k : Steps p.tables e below (T.setTop { g with pc := g.pc + 1, stack := .int n :: rest }) t) : Steps p.tables e below (T.setTop g) t := by
  obtain ⟨cl, A, rfl⟩ := A
  have h1 := n.toInt_lt
  have h2 : cl.slots.size.toInt32 = n := by
    refine Int32.toInt_inj.mp ?_
    rw [hn]
    have h3 : cl.slots.toList.length = cl.slots.size := by simp
    rw [h3] at hn ⊢
    exact len_toInt (by omega)
  refine X.arraylength hx (by rw [eT]; exact A.1) (State.isArrayOf_alike hZ.alike A.2.1) hg hs hd _ ?_
  rw [h2]; exact k
theorem own_lrem (X : Stand p l e R s m args below meth c T locs cells slots) (hx : p.tables.exec = Jvm.exec) {g : JFrame} (hg : g.method = m) {x y : Int64} {rest : List Value} (hd : decode c.code g.pc = .ok (.lrem, 1)) (hs : g.stack = .long y :: .long x :: rest) (hy : y ≠ 0) {t : State}
    (k : Steps p.tables e below (T.setTop { g with pc := g.pc + 1, stack := .long (x % y) :: rest }) t) : Steps p.tables e below (T.setTop g) t := XS.lrem X.here hx hg hd hs hy (by rw [lrem_mod]; exact k)
end OwnA
theorem own_Sta.keep {Z : State} {h h' : Heap} {ws : List Addr} {C n d : String} {v : Value} (F : Sta Z h C n d v) (K : Keep h h' ws) (q : ∀ st ∈ ws, ∀ cell : Cell, h[st]? = some cell → cell.vm.isStatics = false) : Sta Z h' C n d v := by
  obtain ⟨cf, i, k, f, st, cell, h1, h2, h3, h4, h5, h6, h7⟩ := F
  refine ⟨cf, i, k, f, st, cell, h1, h2, h3, h4, K.2.1 st cell h5 fun hm => ?_, h6, h7⟩
  rw [q st hm cell h5] at h6
  cases h6
theorem own_z_eq_t {c : Prop} [Decidable c] (h : ¬ c) : ifCond.holds .eq (if c then (1 : Int32) else 0) = true := by rw [if_neg h]; rfl
theorem own_z_eq_f {c : Prop} [Decidable c] (h : c) : ifCond.holds .eq (if c then (1 : Int32) else 0) = false := by rw [if_pos h]; rfl
theorem own_z_ne_t {c : Prop} [Decidable c] (h : c) : ifCond.holds .ne (if c then (1 : Int32) else 0) = true := by rw [if_pos h]; rfl
theorem own_z_ne_f {c : Prop} [Decidable c] (h : ¬ c) : ifCond.holds .ne (if c then (1 : Int32) else 0) = false := by rw [if_neg h]; rfl
theorem own_z_nar {c : Prop} [Decidable c] : nar .boolean (if c then (1 : Int32) else 0) = if c then (1 : Int32) else 0 := by split <;> rfl
/-- two slots that hold nothing or a long, whose value nobody reads again -/
def own_Two (a b : Slot) : Prop := (a = .unset ∧ b = .unset) ∨ ∃ z, a = .val (.long z) ∧ b = .second
theorem own_plainE {Z : State} {h : Heap} {a : Addr} {C : String} (F : Exa Z h a C) : ∀ cell : Cell, h[a]? = some cell → cell.vm.isStatics = false := fun cell hc => by
  obtain ⟨c, k, h1, -, -, h4, -⟩ := F
  cases h1.symm.trans hc
  exact h4
theorem own_plainA {Z : State} {h : Heap} {a : Addr} {ty : FieldType} {vs : List Value} (F : own_A Z h a ty vs) : ∀ cell : Cell, h[a]? = some cell → cell.vm.isStatics = false := fun cell hc => by
  obtain ⟨c, A, -⟩ := F
  cases A.1.symm.trans hc
  exact A.plain
theorem own_pop2 {tb : Tables} [Ours tb] {e : Env} {below : List Frame} {T target : State} {m : MethodId} {c : Code} {g : JFrame} (h : At T m c below) (hx : tb.exec = Jvm.exec) (hg : g.method = m) {x : Int64} {rest : List Value} (hd : decode c.code g.pc = .ok (.pop2, 1)) (hs : g.stack = .long x :: rest)
    (hr : Steps tb e below (T.setTop { g with pc := g.pc + 1, stack := rest }) target) : Steps tb e below (T.setTop g) target := by
  subst hg
  jvm_step h [h.top, hx, hd, hs, Value.category]
  exact hr
theorem own_min1 {i : Int32} {n : Nat} (h0 : 0 ≤ i.toInt) (h1 : i.toInt < (n : Int)) (hn : n < 1000) : (i + 1).toInt.toNat = i.toInt.toNat + 1 ∧ (i + 1).toInt = i.toInt + 1 := by
  have h2 := c_iadd i 1
  have h3 := rng32 (i + 1)
  have h4 : (1 : Int32).toInt = 1 := rfl
  omega
theorem own_ltN {i : Int32} {n : Nat} (hn : n < 1000) : i < n.toInt32 ↔ i.toInt < (n : Int) := by
  rw [Int32.lt_iff_toInt_lt, len_toInt (by omega)]
theorem own_getI {bs : List Int32} {i : Nat} (h : i < bs.length) : (bs.map Value.int)[i]? = some (.int (bs.getD i 0)) := by
  simp [List.getElem?_map, h]
theorem own_nat {i : Int32} (h : 0 ≤ i.toInt) : i.toInt = ((i.toInt.toNat : Nat) : Int) := by omega
theorem w_0 {a0 : Array Value} {Z : State} (hw : ∀ d ∈ tables_1, d.before a0 Z = true) : (Jvm.Cond.methodLink "com/example/libentkey/libentkey/codec/NullsIsNullPinLaw" (7 : Nat) ({ cls := "com/example/libentkey/libentkey/codec/Nulls", name := "isNull", desc := "(I)Z" } : Jvm.MethodName)).before a0 Z = true := hw _ (List.mem_of_getElem? (i := 0) rfl)
theorem w_1 {a0 : Array Value} {Z : State} (hw : ∀ d ∈ tables_1, d.before a0 Z = true) : (Jvm.Cond.static ({ cls := "com/example/libentkey/libentkey/codec/Nulls", name := "isNull", desc := "(I)Z" } : Jvm.MethodName)).before a0 Z = true := hw _ (List.mem_of_getElem? (i := 1) rfl)
theorem w_2 {a0 : Array Value} {Z : State} (hw : ∀ d ∈ tables_1, d.before a0 Z = true) : (Jvm.Cond.initialized "com/example/libentkey/libentkey/codec/Nulls").before a0 Z = true := hw _ (List.mem_of_getElem? (i := 2) rfl)
theorem w_3 {a0 : Array Value} {Z : State} (hw : ∀ d ∈ tables_1, d.before a0 Z = true) : (Jvm.Cond.code ({ cls := "com/example/libentkey/libentkey/codec/Nulls", name := "isNull", desc := "(I)Z" } : Jvm.MethodName) prog_27_method_7_code (1 : Nat) (Option.some Jvm.ClassFile.FieldType.boolean)).before a0 Z = true := hw _ (List.mem_of_getElem? (i := 3) rfl)
theorem w_4 {a0 : Array Value} {Z : State} (hw : ∀ d ∈ tables_1, d.before a0 Z = true) : (Jvm.Cond.fieldLink "com/example/libentkey/libentkey/codec/Nulls" (3 : Nat) "com/example/libentkey/libentkey/codec/Nulls" "FIRST" "Lcom/example/libentkey/libentkey/codec/Nulls;").before a0 Z = true := hw _ (List.mem_of_getElem? (i := 4) rfl)
theorem w_5 {a0 : Array Value} {Z : State} (hw : ∀ d ∈ tables_1, d.before a0 Z = true) : (Jvm.Cond.laysStatic "com/example/libentkey/libentkey/codec/Nulls" "FIRST" "Lcom/example/libentkey/libentkey/codec/Nulls;").before a0 Z = true := hw _ (List.mem_of_getElem? (i := 5) rfl)
theorem w_6 {a0 : Array Value} {Z : State} (hw : ∀ d ∈ tables_1, d.before a0 Z = true) : (Jvm.Cond.fieldLink "com/example/libentkey/libentkey/codec/Nulls" (33 : Nat) "com/example/libentkey/libentkey/codec/Nulls" "typeByte" "I").before a0 Z = true := hw _ (List.mem_of_getElem? (i := 6) rfl)
theorem w_8 {a0 : Array Value} {Z : State} (hw : ∀ d ∈ tables_1, d.before a0 Z = true) : (Jvm.Cond.fieldLink "com/example/libentkey/libentkey/codec/NullsIsNullPinLaw" (13 : Nat) "com/example/libentkey/libentkey/codec/Nulls" "FIRST" "Lcom/example/libentkey/libentkey/codec/Nulls;").before a0 Z = true := hw _ (List.mem_of_getElem? (i := 8) rfl)
theorem w_9 {a0 : Array Value} {Z : State} (hw : ∀ d ∈ tables_1, d.before a0 Z = true) : (Jvm.Cond.methodLink "com/example/libentkey/libentkey/codec/NullsIsNullPinLaw" (17 : Nat) ({ cls := "com/example/libentkey/libentkey/codec/Nulls", name := "typeByte", desc := "()I" } : Jvm.MethodName)).before a0 Z = true := hw _ (List.mem_of_getElem? (i := 9) rfl)
theorem w_10 {a0 : Array Value} {Z : State} (hw : ∀ d ∈ tables_1, d.before a0 Z = true) : (Jvm.Cond.declares ({ cls := "com/example/libentkey/libentkey/codec/Nulls", name := "typeByte", desc := "()I" } : Jvm.MethodName)).before a0 Z = true := hw _ (List.mem_of_getElem? (i := 10) rfl)
theorem w_11 {a0 : Array Value} {Z : State} (hw : ∀ d ∈ tables_1, d.before a0 Z = true) : (Jvm.Cond.instanceMethod ({ cls := "com/example/libentkey/libentkey/codec/Nulls", name := "typeByte", desc := "()I" } : Jvm.MethodName)).before a0 Z = true := hw _ (List.mem_of_getElem? (i := 11) rfl)
theorem w_12 {a0 : Array Value} {Z : State} (hw : ∀ d ∈ tables_1, d.before a0 Z = true) : (Jvm.Cond.selects "com/example/libentkey/libentkey/codec/Nulls" ({ cls := "com/example/libentkey/libentkey/codec/Nulls", name := "typeByte", desc := "()I" } : Jvm.MethodName) ({ cls := "com/example/libentkey/libentkey/codec/Nulls", name := "typeByte", desc := "()I" } : Jvm.MethodName)).before a0 Z = true := hw _ (List.mem_of_getElem? (i := 12) rfl)
theorem w_13 {a0 : Array Value} {Z : State} (hw : ∀ d ∈ tables_1, d.before a0 Z = true) : (Jvm.Cond.code ({ cls := "com/example/libentkey/libentkey/codec/Nulls", name := "typeByte", desc := "()I" } : Jvm.MethodName) prog_27_method_5_code (1 : Nat) (Option.some Jvm.ClassFile.FieldType.int)).before a0 Z = true := hw _ (List.mem_of_getElem? (i := 13) rfl)
theorem w_14 {a0 : Array Value} {Z : State} (hw : ∀ d ∈ tables_1, d.before a0 Z = true) : (Jvm.Cond.fieldLink "com/example/libentkey/libentkey/codec/NullsIsNullPinLaw" (21 : Nat) "com/example/libentkey/libentkey/codec/Nulls" "LAST" "Lcom/example/libentkey/libentkey/codec/Nulls;").before a0 Z = true := hw _ (List.mem_of_getElem? (i := 14) rfl)
theorem w_15 {a0 : Array Value} {Z : State} (hw : ∀ d ∈ tables_1, d.before a0 Z = true) : (Jvm.Cond.laysStatic "com/example/libentkey/libentkey/codec/Nulls" "LAST" "Lcom/example/libentkey/libentkey/codec/Nulls;").before a0 Z = true := hw _ (List.mem_of_getElem? (i := 15) rfl)
theorem w_16 {a0 : Array Value} {Z : State} (hw : ∀ d ∈ tables_1, d.before a0 Z = true) : (Jvm.Cond.fieldLink "com/example/libentkey/libentkey/codec/Nulls" (7 : Nat) "com/example/libentkey/libentkey/codec/Nulls" "LAST" "Lcom/example/libentkey/libentkey/codec/Nulls;").before a0 Z = true := hw _ (List.mem_of_getElem? (i := 16) rfl)
theorem own_pn1 : plainName "com/example/libentkey/libentkey/codec/Nulls" = true := by first | (simp [plainName, overriddenIn]; done) | decide +kernel
theorem d1_0 : decode prog_27_method_7_code 0 = .ok (.iload_n 0, 1) := by decide +kernel
theorem d1_1 : decode prog_27_method_7_code 1 = .ok (.getstatic 3, 3) := by decide +kernel
theorem d1_4 : decode prog_27_method_7_code 4 = .ok (.getfield 33, 3) := by decide +kernel
theorem d1_7 : decode prog_27_method_7_code 7 = .ok (.if_icmp .eq 13, 3) := by decide +kernel
theorem d1_10 : decode prog_27_method_7_code 10 = .ok (.iload_n 0, 1) := by decide +kernel
theorem d1_11 : decode prog_27_method_7_code 11 = .ok (.getstatic 7, 3) := by decide +kernel
theorem d1_14 : decode prog_27_method_7_code 14 = .ok (.getfield 33, 3) := by decide +kernel
theorem d1_17 : decode prog_27_method_7_code 17 = .ok (.if_icmp .ne 7, 3) := by decide +kernel
theorem d1_20 : decode prog_27_method_7_code 20 = .ok (.iconst 1, 1) := by decide +kernel
theorem d1_21 : decode prog_27_method_7_code 21 = .ok (.goto 4, 3) := by decide +kernel
theorem d1_24 : decode prog_27_method_7_code 24 = .ok (.iconst 0, 1) := by decide +kernel
theorem d1_25 : decode prog_27_method_7_code 25 = .ok (.ireturn, 1) := by decide +kernel
theorem ef_1 (m : MethodId) (x0 : Int32) : entryFrame m #[(.int x0)] 1 = mkF m 0 #[.val (.int x0)] [] := by first | (simp [entryFrame, mkF, argsToLocals, Value.category]; done) | rfl
def own_f1 (p1 : Int32) (r1 : Addr) (r2 : Addr) : Int32 := (if p1 = (0 : Int32) then (1 : Int32) else (if p1 = (255 : Int32) then (1 : Int32) else (0 : Int32)))
def Q1 (Z : State) (p1 : Int32) (r1 : Addr) (r2 : Addr) (h0 : Heap) (n0 : Nat) (v : Option Value) (h : Heap) (L : List Loc) : Prop := v = some (.int (own_f1 p1 r1 r2)) ∧ Fr n0 L ∧ h = h0
set_option maxHeartbeats 40000000 in
theorem rm1 (l : Launch) (Z : State) (a0 : Array Value) (hw : ∀ d ∈ tables_1, d.before a0 Z = true) (ws : List Jvm.Cond) (p1 : Int32) (r1 : Addr) (r2 : Addr) (h0 : Heap) (n0 : Nat) (Z0 : n0 ≤ h0.size) (F0 : Sta Z h0 "com/example/libentkey/libentkey/codec/Nulls" "FIRST" "Lcom/example/libentkey/libentkey/codec/Nulls;" (.ref r1)) (F1 : Sta Z h0 "com/example/libentkey/libentkey/codec/Nulls" "LAST" "Lcom/example/libentkey/libentkey/codec/Nulls;" (.ref r2)) (F2 : Fld Z h0 r1 "com/example/libentkey/libentkey/codec/Nulls" "typeByte" "I" (.int (0 : Int32))) (F3 : Fld Z h0 r2 "com/example/libentkey/libentkey/codec/Nulls" "typeByte" "I" (.int (255 : Int32))) :
    MetFree l (⟨"com/example/libentkey/libentkey/codec/Nulls", "isNull", "(I)Z"⟩ : MethodName) (head1 (Jvm.Cond.code (⟨"com/example/libentkey/libentkey/codec/Nulls", "isNull", "(I)Z"⟩ : MethodName) prog_27_method_7_code 1 (some .boolean) :: ws) ({ frames := 0, cells := 0, slots := 0, locals := 0 } : Room)) (fun a U => a = #[(.int p1)] ∧ Z.Warmed39 U.vm ∧ U.heap = h0) (fun _ _ _ _ _ => True) (fun _ U o U' => ∃ v L, o = .returned v ∧ Q1 Z p1 r1 r2 h0 n0 v U'.heap L ∧ FrameEnd U o U' L ({ frames := 0, cells := 0, slots := 0, locals := 0 } : Room).cells ({ frames := 0, cells := 0, slots := 0, locals := 0 } : Room).slots) := by
  refine MetFree.of_bodySF (plainFor_of_name own_pn1) hisR ?_
  intro p e s m args below meth c s₁ Bd hml0 hP hK
  obtain ⟨rfl, hZ, hh⟩ := hP
  have hx := Bd.exec
  have hby := Bd.bytes
  have hml : c.maxLocals = 1 := hml0
  have hlk : meth.locks = false := BodyLoose.notSynchronized Bd
  have hown : s.vm.findClass "com/example/libentkey/libentkey/codec/Nulls" = some m.cls := findClass_of_methodNamed Bd.named
  have hnm := (name_of_methodNamed Bd.named Bd.method).1
  have X0 : Stand p l e ({ frames := 0, cells := 0, slots := 0, locals := 0 } : Room) s m #[(.int p1)] below meth c s₁ [] 0 0 := Stand.of_body Bd
  have e0 : s₁.heap = h0 := by rw [← hh, Bd.state]; rfl
  have N0 := Fr.nil n0
  show own_Go p e below s (Q1 Z p1 r1 r2 h0 n0) ({ frames := 0, cells := 0, slots := 0, locals := 0 } : Room).cells ({ frames := 0, cells := 0, slots := 0, locals := 0 } : Room).slots _
  refine own_st (B := s₁.setTop (mkF m 0 #[.val (.int p1)] [])) (fun t k => castTop (ef_1 m (p1)) k) ?_
  refine own_st (B := s₁.setTop (mkF m 1 #[.val (.int p1)] [(.int p1)])) (fun t k => XS.iloadN X0.here hx rfl (hb hby d1_0) rfl k) ?_
  obtain ⟨T1, X1, e1, st1⟩ := getS2 X0 hx hZ hown (host := "") (Or.inl (w_4 hw)) Via.refl e0 F0 (g := (mkF m 1 #[.val (.int p1)] [(.int p1)])) rfl (hb hby d1_1)
  refine own_st (B := T1.setTop (mkF m 4 #[.val (.int p1)] [(.ref r1), (.int p1)])) (fun t k => st1 t k) ?_
  obtain ⟨T2, X2, e2, st2⟩ := getF X1 hx hZ hown (host := "") (Or.inl (w_6 hw)) Via.refl e1 F2 (g := (mkF m 4 #[.val (.int p1)] [(.ref r1), (.int p1)])) rfl rfl (hb hby d1_4)
  refine own_st (B := T2.setTop (mkF m 7 #[.val (.int p1)] [(.int (0 : Int32)), (.int p1)])) (fun t k => st2 t k) ?_
  by_cases hc3 : p1 = (0 : Int32)
  · refine own_st (B := T2.setTop (mkF m 20 #[.val (.int p1)] [])) (fun t k => XS.icmpYes X2.here hx rfl (pc0 := 7) (pc' := 20) rfl (hb hby d1_7) rfl (XT.ii_eq_t hc3) (by decide) (by decide) k) ?_
    refine own_st (B := T2.setTop (mkF m 21 #[.val (.int p1)] [(.int (1 : Int32))])) (fun t k => XS.iconst X2.here hx rfl (hb hby d1_20) k) ?_
    refine own_st (B := T2.setTop (mkF m 25 #[.val (.int p1)] [(.int (1 : Int32))])) (fun t k => XS.goto X2.here hx rfl (pc0 := 21) (pc' := 25) rfl (hb hby d1_21) (by decide) (by decide) k) ?_
    refine own_retN X2 hx hlk (t := .boolean) Bd.returns (by simp) (z' := (1 : Int32)) rfl (hb hby d1_25) (by decide) (by decide) ?_
    show Q1 Z p1 r1 r2 h0 n0 _ T2.heap _
    rw [e2]
    exact ⟨(by unfold own_f1; rw [if_pos hc3]), N0, rfl⟩
  · refine own_st (B := T2.setTop (mkF m 10 #[.val (.int p1)] [])) (fun t k => XS.icmpNo X2.here hx rfl (hb hby d1_7) rfl (XT.ii_eq_f hc3) k) ?_
    refine own_st (B := T2.setTop (mkF m 11 #[.val (.int p1)] [(.int p1)])) (fun t k => XS.iloadN X2.here hx rfl (hb hby d1_10) rfl k) ?_
    obtain ⟨T4, X4, e4, st4⟩ := getS2 X2 hx hZ hown (host := "") (Or.inl (w_16 hw)) Via.refl e2 F1 (g := (mkF m 11 #[.val (.int p1)] [(.int p1)])) rfl (hb hby d1_11)
    refine own_st (B := T4.setTop (mkF m 14 #[.val (.int p1)] [(.ref r2), (.int p1)])) (fun t k => st4 t k) ?_
    obtain ⟨T5, X5, e5, st5⟩ := getF X4 hx hZ hown (host := "") (Or.inl (w_6 hw)) Via.refl e4 F3 (g := (mkF m 14 #[.val (.int p1)] [(.ref r2), (.int p1)])) rfl rfl (hb hby d1_14)
    refine own_st (B := T5.setTop (mkF m 17 #[.val (.int p1)] [(.int (255 : Int32)), (.int p1)])) (fun t k => st5 t k) ?_
    by_cases hc6 : p1 = (255 : Int32)
    · refine own_st (B := T5.setTop (mkF m 20 #[.val (.int p1)] [])) (fun t k => XS.icmpNo X5.here hx rfl (hb hby d1_17) rfl (XT.ii_ne_f hc6) k) ?_
      refine own_st (B := T5.setTop (mkF m 21 #[.val (.int p1)] [(.int (1 : Int32))])) (fun t k => XS.iconst X5.here hx rfl (hb hby d1_20) k) ?_
      refine own_st (B := T5.setTop (mkF m 25 #[.val (.int p1)] [(.int (1 : Int32))])) (fun t k => XS.goto X5.here hx rfl (pc0 := 21) (pc' := 25) rfl (hb hby d1_21) (by decide) (by decide) k) ?_
      refine own_retN X5 hx hlk (t := .boolean) Bd.returns (by simp) (z' := (1 : Int32)) rfl (hb hby d1_25) (by decide) (by decide) ?_
      show Q1 Z p1 r1 r2 h0 n0 _ T5.heap _
      rw [e5]
      exact ⟨(by unfold own_f1; rw [if_neg hc3, if_pos hc6]), N0, rfl⟩
    · refine own_st (B := T5.setTop (mkF m 24 #[.val (.int p1)] [])) (fun t k => XS.icmpYes X5.here hx rfl (pc0 := 17) (pc' := 24) rfl (hb hby d1_17) rfl (XT.ii_ne_t hc6) (by decide) (by decide) k) ?_
      refine own_st (B := T5.setTop (mkF m 25 #[.val (.int p1)] [(.int (0 : Int32))])) (fun t k => XS.iconst X5.here hx rfl (hb hby d1_24) k) ?_
      refine own_retN X5 hx hlk (t := .boolean) Bd.returns (by simp) (z' := (0 : Int32)) rfl (hb hby d1_25) (by decide) (by decide) ?_
      show Q1 Z p1 r1 r2 h0 n0 _ T5.heap _
      rw [e5]
      exact ⟨(by unfold own_f1; rw [if_neg hc3, if_neg hc6]), N0, rfl⟩
theorem d2_0 : decode prog_27_method_5_code 0 = .ok (.aload_n 0, 1) := by decide +kernel
theorem d2_1 : decode prog_27_method_5_code 1 = .ok (.getfield 33, 3) := by decide +kernel
theorem d2_4 : decode prog_27_method_5_code 4 = .ok (.ireturn, 1) := by decide +kernel
theorem ef_2 (m : MethodId) (x0 : Addr) : entryFrame m #[(.ref x0)] 1 = mkF m 0 #[.val (.ref x0)] [] := by first | (simp [entryFrame, mkF, argsToLocals, Value.category]; done) | rfl
def Q2 (Z : State) (a1 : Addr) (p1 : Int32) (h0 : Heap) (n0 : Nat) (v : Option Value) (h : Heap) (L : List Loc) : Prop := v = some (.int p1) ∧ Fr n0 L ∧ h = h0
set_option maxHeartbeats 40000000 in
theorem rm2 (l : Launch) (Z : State) (a0 : Array Value) (hw : ∀ d ∈ tables_1, d.before a0 Z = true) (ws : List Jvm.Cond) (a1 : Addr) (p1 : Int32) (h0 : Heap) (n0 : Nat) (Z0 : n0 ≤ h0.size) (F0 : Fld Z h0 a1 "com/example/libentkey/libentkey/codec/Nulls" "typeByte" "I" (.int p1)) :
    MetFree l (⟨"com/example/libentkey/libentkey/codec/Nulls", "typeByte", "()I"⟩ : MethodName) (head1 (Jvm.Cond.code (⟨"com/example/libentkey/libentkey/codec/Nulls", "typeByte", "()I"⟩ : MethodName) prog_27_method_5_code 1 (some .int) :: ws) ({ frames := 0, cells := 0, slots := 0, locals := 0 } : Room)) (fun a U => a = #[(.ref a1)] ∧ Z.Warmed39 U.vm ∧ U.heap = h0) (fun _ _ _ _ _ => True) (fun _ U o U' => ∃ v L, o = .returned v ∧ Q2 Z a1 p1 h0 n0 v U'.heap L ∧ FrameEnd U o U' L ({ frames := 0, cells := 0, slots := 0, locals := 0 } : Room).cells ({ frames := 0, cells := 0, slots := 0, locals := 0 } : Room).slots) := by
  refine MetFree.of_bodySF (plainFor_of_name own_pn1) hisR ?_
  intro p e s m args below meth c s₁ Bd hml0 hP hK
  obtain ⟨rfl, hZ, hh⟩ := hP
  have hx := Bd.exec
  have hby := Bd.bytes
  have hml : c.maxLocals = 1 := hml0
  have hlk : meth.locks = false := BodyLoose.notSynchronized Bd
  have hown : s.vm.findClass "com/example/libentkey/libentkey/codec/Nulls" = some m.cls := findClass_of_methodNamed Bd.named
  have hnm := (name_of_methodNamed Bd.named Bd.method).1
  have X0 : Stand p l e ({ frames := 0, cells := 0, slots := 0, locals := 0 } : Room) s m #[(.ref a1)] below meth c s₁ [] 0 0 := Stand.of_body Bd
  have e0 : s₁.heap = h0 := by rw [← hh, Bd.state]; rfl
  have N0 := Fr.nil n0
  show own_Go p e below s (Q2 Z a1 p1 h0 n0) ({ frames := 0, cells := 0, slots := 0, locals := 0 } : Room).cells ({ frames := 0, cells := 0, slots := 0, locals := 0 } : Room).slots _
  refine own_st (B := s₁.setTop (mkF m 0 #[.val (.ref a1)] [])) (fun t k => castTop (ef_2 m (a1)) k) ?_
  refine own_st (B := s₁.setTop (mkF m 1 #[.val (.ref a1)] [(.ref a1)])) (fun t k => XS.aloadN X0.here hx rfl (hb hby d2_0) rfl rfl k) ?_
  obtain ⟨T1, X1, e1, st1⟩ := getF X0 hx hZ hown (host := "") (Or.inl (w_6 hw)) Via.refl e0 F0 (g := (mkF m 1 #[.val (.ref a1)] [(.ref a1)])) rfl rfl (hb hby d2_1)
  refine own_st (B := T1.setTop (mkF m 4 #[.val (.ref a1)] [(.int p1)])) (fun t k => st1 t k) ?_
  refine own_retI X1 hx hlk Bd.returns (hb hby d2_4) (by decide) (by decide) ?_
  show Q2 Z a1 p1 h0 n0 _ T1.heap _
  rw [e1]
  exact ⟨rfl, N0, rfl⟩
theorem own_fin {x v : Int32} {r1 r2 : Addr} (e : v = if x = 0 then 1 else if x = 255 then 1 else 0) : own_f1 x r1 r2 = v := by
  rw [e]; rfl
theorem own_pd1 : parseMethodDescriptor "(I)Z" = some ⟨[.int], some .boolean⟩ := by decide +kernel
theorem own_pd2 : parseMethodDescriptor "()I" = some ⟨[], some .int⟩ := by decide +kernel
theorem own_pn2 : plainName "com/example/libentkey/libentkey/codec/NullsIsNullPinLaw" = true := by first | (simp [plainName, overriddenIn]; done) | decide +kernel
theorem ef_0 (m : MethodId) (x0 : Int32) (x1 : Int32) : entryFrame m #[(.int x0), (.int x1)] maxLocals = mkF m 0 #[.val (.int x0), .val (.int x1), .unset, .unset, .unset, .unset, .unset] [] := by first | (simp [entryFrame, mkF, argsToLocals, Value.category, maxLocals]; done) | rfl
def Q0 (Z : State) (arg0 : Int32) (arg1 : Int32) (r1 : Addr) (r2 : Addr) (h0 : Heap) (n0 : Nat) (v : Option Value) (h : Heap) (L : List Loc) : Prop := v = some (.int 1) ∧ Fr n0 L
set_option maxHeartbeats 40000000 in
theorem rm0 (l : Launch) (Z : State) (a0 : Array Value) (hw : ∀ d ∈ tables_1, d.before a0 Z = true) (ws : List Jvm.Cond) (arg0 : Int32) (arg1 : Int32) (r1 : Addr) (r2 : Addr) (h0 : Heap) (n0 : Nat) (Z0 : n0 ≤ h0.size) (F0 : Sta Z h0 "com/example/libentkey/libentkey/codec/Nulls" "FIRST" "Lcom/example/libentkey/libentkey/codec/Nulls;" (.ref r1)) (F1 : Sta Z h0 "com/example/libentkey/libentkey/codec/Nulls" "LAST" "Lcom/example/libentkey/libentkey/codec/Nulls;" (.ref r2)) (F2 : Fld Z h0 r1 "com/example/libentkey/libentkey/codec/Nulls" "typeByte" "I" (.int (0 : Int32))) (F3 : Fld Z h0 r2 "com/example/libentkey/libentkey/codec/Nulls" "typeByte" "I" (.int (255 : Int32))) (F4 : Exa Z h0 r1 "com/example/libentkey/libentkey/codec/Nulls") (F5 : Exa Z h0 r2 "com/example/libentkey/libentkey/codec/Nulls") :
    MetFree l x (head1 (Jvm.Cond.code x code maxLocals ret :: ws) room_1) (fun a U => a = #[(.int arg0), (.int arg1)] ∧ Z.Warmed39 U.vm ∧ U.heap = h0) (fun _ _ _ _ _ => True) (fun _ U o U' => ∃ v L, o = .returned v ∧ Q0 Z arg0 arg1 r1 r2 h0 n0 v U'.heap L ∧ FrameEnd U o U' L 0 0) := by
  refine MetFree.of_bodySF (plainFor_of_name own_pn2) hisR ?_
  intro p e s m args below meth c s₁ Bd hml0 hP hK
  obtain ⟨rfl, hZ, hh⟩ := hP
  have hx := Bd.exec
  have hby := Bd.bytes
  have hml : c.maxLocals = 7 := hml0
  have hlk : meth.locks = false := BodyLoose.notSynchronized Bd
  have hown : s.vm.findClass "com/example/libentkey/libentkey/codec/NullsIsNullPinLaw" = some m.cls := findClass_of_methodNamed Bd.named
  have hnm := (name_of_methodNamed Bd.named Bd.method).1
  have X0 : Stand p l e room_1 s m #[(.int arg0), (.int arg1)] below meth c s₁ [] 0 0 := Stand.of_body Bd
  have e0 : s₁.heap = h0 := by rw [← hh, Bd.state]; rfl
  have N0 := Fr.nil n0
  show own_Go p e below s (Q0 Z arg0 arg1 r1 r2 h0 n0) 0 0 _
  refine own_st (B := s₁.setTop (mkF m 0 #[.val (.int arg0), .val (.int arg1), .unset, .unset, .unset, .unset, .unset] [])) (fun t k => castTop (ef_0 m (arg0) (arg1)) k) ?_
  refine own_st (B := s₁.setTop (mkF m 1 #[.val (.int arg0), .val (.int arg1), .unset, .unset, .unset, .unset, .unset] [(.int arg0)])) (fun t k => XS.iloadN X0.here hx rfl (hb hby at_0) rfl k) ?_
  refine own_st (B := s₁.setTop (mkF m 2 #[.val (.int arg0), .val (.int arg1), .unset, .unset, .unset, .unset, .unset] [(.int (3 : Int32)), (.int arg0)])) (fun t k => XS.iconst X0.here hx rfl (hb hby at_1) k) ?_
  refine own_st (B := s₁.setTop (mkF m 3 #[.val (.int arg0), .val (.int arg1), .unset, .unset, .unset, .unset, .unset] [(.int (arg0 &&& (3 : Int32)))])) (fun t k => XS.iand X0.here hx rfl (hb hby at_2) rfl k) ?_
  obtain ⟨v1, ev1⟩ : ∃ z : Int32, z = (arg0 &&& (3 : Int32)) := ⟨_, rfl⟩
  rw [← ev1]
  refine own_st (B := s₁.setTop (mkF m 4 #[.val (.int arg0), .val (.int arg1), .val (.int v1), .unset, .unset, .unset, .unset] [])) (fun t k => XS.istoreN X0.here hx rfl (hb hby at_3) rfl (l' := #[.val (.int arg0), .val (.int arg1), .val (.int v1), .unset, .unset, .unset, .unset]) rfl k) ?_
  refine own_st (B := s₁.setTop (mkF m 5 #[.val (.int arg0), .val (.int arg1), .val (.int v1), .unset, .unset, .unset, .unset] [(.int v1)])) (fun t k => XS.iloadN X0.here hx rfl (hb hby at_4) rfl k) ?_
  refine own_cut (P := ∀ (v4 : Int32), (v4 = (if v1 = (0 : Int32) then (0 : Int32) else (if v1 = (1 : Int32) then (255 : Int32) else arg1))) → own_Go p e below s (Q0 Z arg0 arg1 r1 r2 h0 n0) 0 0 (s₁.setTop (mkF m 27 #[.val (.int arg0), .val (.int arg1), .val (.int v1), .val (.int v4), .unset, .unset, .unset] []))) (fun J5 => ?_) ?_
  · by_cases hc2 : v1 = (0 : Int32)
    · refine own_st (B := s₁.setTop (mkF m 8 #[.val (.int arg0), .val (.int arg1), .val (.int v1), .unset, .unset, .unset, .unset] [])) (fun t k => XS.ifNo X0.here hx rfl (hb hby at_5) rfl (XT.i0_ne_f hc2) k) ?_
      refine own_st (B := s₁.setTop (mkF m 9 #[.val (.int arg0), .val (.int arg1), .val (.int v1), .unset, .unset, .unset, .unset] [(.int (0 : Int32))])) (fun t k => XS.iconst X0.here hx rfl (hb hby at_8) k) ?_
      refine own_st (B := s₁.setTop (mkF m 10 #[.val (.int arg0), .val (.int arg1), .val (.int v1), .val (.int (0 : Int32)), .unset, .unset, .unset] [])) (fun t k => XS.istoreN X0.here hx rfl (hb hby at_9) rfl (l' := #[.val (.int arg0), .val (.int arg1), .val (.int v1), .val (.int (0 : Int32)), .unset, .unset, .unset]) rfl k) ?_
      refine own_st (B := s₁.setTop (mkF m 27 #[.val (.int arg0), .val (.int arg1), .val (.int v1), .val (.int (0 : Int32)), .unset, .unset, .unset] [])) (fun t k => XS.goto X0.here hx rfl (pc0 := 10) (pc' := 27) rfl (hb hby at_10) (by decide) (by decide) k) ?_
      exact J5 (0 : Int32) (by rw [if_pos hc2])
    · refine own_st (B := s₁.setTop (mkF m 13 #[.val (.int arg0), .val (.int arg1), .val (.int v1), .unset, .unset, .unset, .unset] [])) (fun t k => XS.ifYes X0.here hx rfl (pc0 := 5) (pc' := 13) rfl (hb hby at_5) rfl (XT.i0_ne_t hc2) (by decide) (by decide) k) ?_
      refine own_st (B := s₁.setTop (mkF m 14 #[.val (.int arg0), .val (.int arg1), .val (.int v1), .unset, .unset, .unset, .unset] [(.int v1)])) (fun t k => XS.iloadN X0.here hx rfl (hb hby at_13) rfl k) ?_
      refine own_st (B := s₁.setTop (mkF m 15 #[.val (.int arg0), .val (.int arg1), .val (.int v1), .unset, .unset, .unset, .unset] [(.int (1 : Int32)), (.int v1)])) (fun t k => XS.iconst X0.here hx rfl (hb hby at_14) k) ?_
      by_cases hc3 : v1 = (1 : Int32)
      · refine own_st (B := s₁.setTop (mkF m 18 #[.val (.int arg0), .val (.int arg1), .val (.int v1), .unset, .unset, .unset, .unset] [])) (fun t k => XS.icmpNo X0.here hx rfl (hb hby at_15) rfl (XT.ii_ne_f hc3) k) ?_
        refine own_st (B := s₁.setTop (mkF m 21 #[.val (.int arg0), .val (.int arg1), .val (.int v1), .unset, .unset, .unset, .unset] [(.int (255 : Int32))])) (fun t k => XS.sipush X0.here hx rfl (hb hby at_18) k) ?_
        refine own_st (B := s₁.setTop (mkF m 22 #[.val (.int arg0), .val (.int arg1), .val (.int v1), .val (.int (255 : Int32)), .unset, .unset, .unset] [])) (fun t k => XS.istoreN X0.here hx rfl (hb hby at_21) rfl (l' := #[.val (.int arg0), .val (.int arg1), .val (.int v1), .val (.int (255 : Int32)), .unset, .unset, .unset]) rfl k) ?_
        refine own_st (B := s₁.setTop (mkF m 27 #[.val (.int arg0), .val (.int arg1), .val (.int v1), .val (.int (255 : Int32)), .unset, .unset, .unset] [])) (fun t k => XS.goto X0.here hx rfl (pc0 := 22) (pc' := 27) rfl (hb hby at_22) (by decide) (by decide) k) ?_
        exact J5 (255 : Int32) (by rw [if_neg hc2, if_pos hc3])
      · refine own_st (B := s₁.setTop (mkF m 25 #[.val (.int arg0), .val (.int arg1), .val (.int v1), .unset, .unset, .unset, .unset] [])) (fun t k => XS.icmpYes X0.here hx rfl (pc0 := 15) (pc' := 25) rfl (hb hby at_15) rfl (XT.ii_ne_t hc3) (by decide) (by decide) k) ?_
        refine own_st (B := s₁.setTop (mkF m 26 #[.val (.int arg0), .val (.int arg1), .val (.int v1), .unset, .unset, .unset, .unset] [(.int arg1)])) (fun t k => XS.iloadN X0.here hx rfl (hb hby at_25) rfl k) ?_
        refine own_st (B := s₁.setTop (mkF m 27 #[.val (.int arg0), .val (.int arg1), .val (.int v1), .val (.int arg1), .unset, .unset, .unset] [])) (fun t k => XS.istoreN X0.here hx rfl (hb hby at_26) rfl (l' := #[.val (.int arg0), .val (.int arg1), .val (.int v1), .val (.int arg1), .unset, .unset, .unset]) rfl k) ?_
        exact J5 arg1 (by rw [if_neg hc2, if_neg hc3])
  intro v4 hv4
  refine own_st (B := s₁.setTop (mkF m 28 #[.val (.int arg0), .val (.int arg1), .val (.int v1), .val (.int v4), .unset, .unset, .unset] [(.int v4)])) (fun t k => XS.iloadN X0.here hx rfl (hb hby at_27) rfl k) ?_
  refine own_cut (P := ∀ (v8 : Int32), (v8 = (if v4 = (0 : Int32) then (1 : Int32) else (if v4 = (255 : Int32) then (1 : Int32) else (0 : Int32)))) → own_Go p e below s (Q0 Z arg0 arg1 r1 r2 h0 n0) 0 0 (s₁.setTop (mkF m 43 #[.val (.int arg0), .val (.int arg1), .val (.int v1), .val (.int v4), .unset, .unset, .unset] [(.int v8)]))) (fun J9 => ?_) ?_
  · by_cases hc6 : v4 = (0 : Int32)
    · refine own_st (B := s₁.setTop (mkF m 38 #[.val (.int arg0), .val (.int arg1), .val (.int v1), .val (.int v4), .unset, .unset, .unset] [])) (fun t k => XS.ifYes X0.here hx rfl (pc0 := 28) (pc' := 38) rfl (hb hby at_28) rfl (XT.i0_eq_t hc6) (by decide) (by decide) k) ?_
      refine own_st (B := s₁.setTop (mkF m 39 #[.val (.int arg0), .val (.int arg1), .val (.int v1), .val (.int v4), .unset, .unset, .unset] [(.int (1 : Int32))])) (fun t k => XS.iconst X0.here hx rfl (hb hby at_38) k) ?_
      refine own_st (B := s₁.setTop (mkF m 43 #[.val (.int arg0), .val (.int arg1), .val (.int v1), .val (.int v4), .unset, .unset, .unset] [(.int (1 : Int32))])) (fun t k => XS.goto X0.here hx rfl (pc0 := 39) (pc' := 43) rfl (hb hby at_39) (by decide) (by decide) k) ?_
      exact J9 (1 : Int32) (by rw [if_pos hc6])
    · refine own_st (B := s₁.setTop (mkF m 31 #[.val (.int arg0), .val (.int arg1), .val (.int v1), .val (.int v4), .unset, .unset, .unset] [])) (fun t k => XS.ifNo X0.here hx rfl (hb hby at_28) rfl (XT.i0_eq_f hc6) k) ?_
      refine own_st (B := s₁.setTop (mkF m 32 #[.val (.int arg0), .val (.int arg1), .val (.int v1), .val (.int v4), .unset, .unset, .unset] [(.int v4)])) (fun t k => XS.iloadN X0.here hx rfl (hb hby at_31) rfl k) ?_
      refine own_st (B := s₁.setTop (mkF m 35 #[.val (.int arg0), .val (.int arg1), .val (.int v1), .val (.int v4), .unset, .unset, .unset] [(.int (255 : Int32)), (.int v4)])) (fun t k => XS.sipush X0.here hx rfl (hb hby at_32) k) ?_
      by_cases hc7 : v4 = (255 : Int32)
      · refine own_st (B := s₁.setTop (mkF m 38 #[.val (.int arg0), .val (.int arg1), .val (.int v1), .val (.int v4), .unset, .unset, .unset] [])) (fun t k => XS.icmpNo X0.here hx rfl (hb hby at_35) rfl (XT.ii_ne_f hc7) k) ?_
        refine own_st (B := s₁.setTop (mkF m 39 #[.val (.int arg0), .val (.int arg1), .val (.int v1), .val (.int v4), .unset, .unset, .unset] [(.int (1 : Int32))])) (fun t k => XS.iconst X0.here hx rfl (hb hby at_38) k) ?_
        refine own_st (B := s₁.setTop (mkF m 43 #[.val (.int arg0), .val (.int arg1), .val (.int v1), .val (.int v4), .unset, .unset, .unset] [(.int (1 : Int32))])) (fun t k => XS.goto X0.here hx rfl (pc0 := 39) (pc' := 43) rfl (hb hby at_39) (by decide) (by decide) k) ?_
        exact J9 (1 : Int32) (by rw [if_neg hc6, if_pos hc7])
      · refine own_st (B := s₁.setTop (mkF m 42 #[.val (.int arg0), .val (.int arg1), .val (.int v1), .val (.int v4), .unset, .unset, .unset] [])) (fun t k => XS.icmpYes X0.here hx rfl (pc0 := 35) (pc' := 42) rfl (hb hby at_35) rfl (XT.ii_ne_t hc7) (by decide) (by decide) k) ?_
        refine own_st (B := s₁.setTop (mkF m 43 #[.val (.int arg0), .val (.int arg1), .val (.int v1), .val (.int v4), .unset, .unset, .unset] [(.int (0 : Int32))])) (fun t k => XS.iconst X0.here hx rfl (hb hby at_42) k) ?_
        exact J9 (0 : Int32) (by rw [if_neg hc6, if_neg hc7])
  intro v8 hv8
  refine own_st (B := s₁.setTop (mkF m 45 #[.val (.int arg0), .val (.int arg1), .val (.int v1), .val (.int v4), .val (.int v8), .unset, .unset] [])) (fun t k => XS.istore X0.here hx rfl (hb hby at_43) rfl (l' := #[.val (.int arg0), .val (.int arg1), .val (.int v1), .val (.int v4), .val (.int v8), .unset, .unset]) rfl k) ?_
  refine own_st (B := s₁.setTop (mkF m 46 #[.val (.int arg0), .val (.int arg1), .val (.int v1), .val (.int v4), .val (.int v8), .unset, .unset] [(.int v4)])) (fun t k => XS.iloadN X0.here hx rfl (hb hby at_45) rfl k) ?_
  obtain ⟨_, _, ⟨T10, L10, k10, j10⟩, -, X10, ⟨Lc10, hQ10, l10, y10_, z10_⟩, st10⟩ := Jvm.LawKit.callS X0 hx (y := (⟨"com/example/libentkey/libentkey/codec/Nulls", "isNull", "(I)Z"⟩ : MethodName)) hown (mvT hZ (w_0 hw)) (mvT hZ (w_1 hw)) (mvT hZ (w_2 hw)) (mvT hZ (w_3 hw)) (by decide) (backOf (W := 0) (rm1 l Z a0 hw [] v4 r1 r2 h0 n0 Z0 F0 F1 F2 F3) hZ (w_3 hw) (w_2 hw) (by decide) (by decide)) (g := (mkF m 46 #[.val (.int arg0), .val (.int arg1), .val (.int v1), .val (.int v4), .val (.int v8), .unset, .unset] [(.int v4)])) rfl (by rw [hml]; rfl) (argsL := [(.int v4)]) (rest := []) (lenOf own_pd1 rfl) rfl (by show 2 * 0 + _ ≤ _; exact Nat.le_of_eq rfl) (hb hby at_46) (fun _ _ => ⟨rfl, e0, (by decide : 0 + 0 ≤ _), (by decide : 0 + 0 ≤ _)⟩)
  dsimp only [Pt.U, Pt.locs, Pt.cells, Pt.slots] at X10 l10 y10_ z10_ st10 hQ10
  subst l10 y10_ z10_
  obtain ⟨rfl, N10q, e10q⟩ := hQ10
  have N10 := Fr.app N0 N10q
  refine own_st (B := T10.setTop (mkF m 49 #[.val (.int arg0), .val (.int arg1), .val (.int v1), .val (.int v4), .val (.int v8), .unset, .unset] [(.int (own_f1 v4 r1 r2))])) (fun t k => st10 t k) ?_
  obtain ⟨v11, ev11⟩ : ∃ z : Int32, z = (own_f1 v4 r1 r2) := ⟨_, rfl⟩
  rw [← ev11]
  refine own_st (B := T10.setTop (mkF m 51 #[.val (.int arg0), .val (.int arg1), .val (.int v1), .val (.int v4), .val (.int v8), .val (.int v11), .unset] [])) (fun t k => XS.istore X10.here hx rfl (hb hby at_49) rfl (l' := #[.val (.int arg0), .val (.int arg1), .val (.int v1), .val (.int v4), .val (.int v8), .val (.int v11), .unset]) rfl k) ?_
  obtain ⟨T12, X12, e12, st12⟩ := getS2 X10 hx hZ hown (host := "") (Or.inl (w_8 hw)) Via.refl e10q F0 (g := (mkF m 51 #[.val (.int arg0), .val (.int arg1), .val (.int v1), .val (.int v4), .val (.int v8), .val (.int v11), .unset] [])) rfl (hb hby at_51)
  refine own_st (B := T12.setTop (mkF m 54 #[.val (.int arg0), .val (.int arg1), .val (.int v1), .val (.int v4), .val (.int v8), .val (.int v11), .unset] [(.ref r1)])) (fun t k => st12 t k) ?_
  obtain ⟨cq13, kq13, q13a, q13b, q13c⟩ := isOf hZ e12 F4
  obtain ⟨_, _, ⟨T13, L13, k13, j13⟩, -, X13, ⟨Lc13, hQ13, l13, y13_, z13_⟩, st13⟩ := X12.virtualBack hx (y := (⟨"com/example/libentkey/libentkey/codec/Nulls", "typeByte", "()I"⟩ : MethodName)) (z := (⟨"com/example/libentkey/libentkey/codec/Nulls", "typeByte", "()I"⟩ : MethodName)) hown (mvT hZ (w_9 hw)) (mvT hZ (w_10 hw)) (notFace_of_selects (args := #[]) (mvT hZ (w_12 hw))) (mvT hZ (w_12 hw)) (mvT hZ (w_11 hw)) (by decide) (backOf (W := 0) (rm2 l Z a0 hw [] r1 (0 : Int32) h0 n0 Z0 F2) hZ (w_13 hw) (w_2 hw) (by decide) (by decide)) q13a q13c (g := (mkF m 54 #[.val (.int arg0), .val (.int arg1), .val (.int v1), .val (.int v4), .val (.int v8), .val (.int v11), .unset] [(.ref r1)])) rfl (by rw [hml]; rfl) (Steps.refl _) (argsL := []) (rest := []) (lenOf own_pd2 rfl) rfl (by show 2 * 0 + _ ≤ _; exact Nat.le_of_eq rfl) (hb hby at_54) (fun _ _ => ⟨rfl, e12, (by decide : 0 + 0 ≤ _), (by decide : 0 + 0 ≤ _)⟩)
  dsimp only [Pt.U, Pt.locs, Pt.cells, Pt.slots] at X13 l13 y13_ z13_ st13 hQ13
  subst l13 y13_ z13_
  obtain ⟨rfl, N13q, e13q⟩ := hQ13
  have N13 := Fr.app N10 N13q
  refine own_ss (B := T13.setTop (mkF m 57 #[.val (.int arg0), .val (.int arg1), .val (.int v1), .val (.int v4), .val (.int v8), .val (.int v11), .unset] [(.int (0 : Int32))])) st13 ?_
  obtain ⟨_, _, ⟨T14, L14, k14, j14⟩, -, X14, ⟨Lc14, hQ14, l14, y14_, z14_⟩, st14⟩ := Jvm.LawKit.callS X13 hx (y := (⟨"com/example/libentkey/libentkey/codec/Nulls", "isNull", "(I)Z"⟩ : MethodName)) hown (mvT hZ (w_0 hw)) (mvT hZ (w_1 hw)) (mvT hZ (w_2 hw)) (mvT hZ (w_3 hw)) (by decide) (backOf (W := 0) (rm1 l Z a0 hw [] (0 : Int32) r1 r2 h0 n0 Z0 F0 F1 F2 F3) hZ (w_3 hw) (w_2 hw) (by decide) (by decide)) (g := (mkF m 57 #[.val (.int arg0), .val (.int arg1), .val (.int v1), .val (.int v4), .val (.int v8), .val (.int v11), .unset] [(.int (0 : Int32))])) rfl (by rw [hml]; rfl) (argsL := [(.int (0 : Int32))]) (rest := []) (lenOf own_pd1 rfl) rfl (by show 2 * 0 + _ ≤ _; exact Nat.le_of_eq rfl) (hb hby at_57) (fun _ _ => ⟨rfl, e13q, (by decide : 0 + 0 ≤ _), (by decide : 0 + 0 ≤ _)⟩)
  dsimp only [Pt.U, Pt.locs, Pt.cells, Pt.slots] at X14 l14 y14_ z14_ st14 hQ14
  subst l14 y14_ z14_
  obtain ⟨rfl, N14q, e14q⟩ := hQ14
  have N14 := Fr.app N13 N14q
  refine own_st (B := T14.setTop (mkF m 60 #[.val (.int arg0), .val (.int arg1), .val (.int v1), .val (.int v4), .val (.int v8), .val (.int v11), .unset] [(.int (own_f1 (0 : Int32) r1 r2))])) (fun t k => st14 t k) ?_
  have hc15 : ¬ ((own_f1 (0 : Int32) r1 r2) = (0 : Int32)) := by
    show ¬ (own_f1 0 r1 r2 = 0); unfold own_f1; decide
  refine own_st (B := T14.setTop (mkF m 63 #[.val (.int arg0), .val (.int arg1), .val (.int v1), .val (.int v4), .val (.int v8), .val (.int v11), .unset] [])) (fun t k => XS.ifNo X14.here hx rfl (hb hby at_60) rfl (XT.i0_eq_f hc15) k) ?_
  obtain ⟨T16, X16, e16, st16⟩ := getS2 X14 hx hZ hown (host := "") (Or.inl (w_14 hw)) Via.refl e14q F1 (g := (mkF m 63 #[.val (.int arg0), .val (.int arg1), .val (.int v1), .val (.int v4), .val (.int v8), .val (.int v11), .unset] [])) rfl (hb hby at_63)
  refine own_st (B := T16.setTop (mkF m 66 #[.val (.int arg0), .val (.int arg1), .val (.int v1), .val (.int v4), .val (.int v8), .val (.int v11), .unset] [(.ref r2)])) (fun t k => st16 t k) ?_
  obtain ⟨cq17, kq17, q17a, q17b, q17c⟩ := isOf hZ e16 F5
  obtain ⟨_, _, ⟨T17, L17, k17, j17⟩, -, X17, ⟨Lc17, hQ17, l17, y17_, z17_⟩, st17⟩ := X16.virtualBack hx (y := (⟨"com/example/libentkey/libentkey/codec/Nulls", "typeByte", "()I"⟩ : MethodName)) (z := (⟨"com/example/libentkey/libentkey/codec/Nulls", "typeByte", "()I"⟩ : MethodName)) hown (mvT hZ (w_9 hw)) (mvT hZ (w_10 hw)) (notFace_of_selects (args := #[]) (mvT hZ (w_12 hw))) (mvT hZ (w_12 hw)) (mvT hZ (w_11 hw)) (by decide) (backOf (W := 0) (rm2 l Z a0 hw [] r2 (255 : Int32) h0 n0 Z0 F3) hZ (w_13 hw) (w_2 hw) (by decide) (by decide)) q17a q17c (g := (mkF m 66 #[.val (.int arg0), .val (.int arg1), .val (.int v1), .val (.int v4), .val (.int v8), .val (.int v11), .unset] [(.ref r2)])) rfl (by rw [hml]; rfl) (Steps.refl _) (argsL := []) (rest := []) (lenOf own_pd2 rfl) rfl (by show 2 * 0 + _ ≤ _; exact Nat.le_of_eq rfl) (hb hby at_66) (fun _ _ => ⟨rfl, e16, (by decide : 0 + 0 ≤ _), (by decide : 0 + 0 ≤ _)⟩)
  dsimp only [Pt.U, Pt.locs, Pt.cells, Pt.slots] at X17 l17 y17_ z17_ st17 hQ17
  subst l17 y17_ z17_
  obtain ⟨rfl, N17q, e17q⟩ := hQ17
  have N17 := Fr.app N14 N17q
  refine own_ss (B := T17.setTop (mkF m 69 #[.val (.int arg0), .val (.int arg1), .val (.int v1), .val (.int v4), .val (.int v8), .val (.int v11), .unset] [(.int (255 : Int32))])) st17 ?_
  obtain ⟨_, _, ⟨T18, L18, k18, j18⟩, -, X18, ⟨Lc18, hQ18, l18, y18_, z18_⟩, st18⟩ := Jvm.LawKit.callS X17 hx (y := (⟨"com/example/libentkey/libentkey/codec/Nulls", "isNull", "(I)Z"⟩ : MethodName)) hown (mvT hZ (w_0 hw)) (mvT hZ (w_1 hw)) (mvT hZ (w_2 hw)) (mvT hZ (w_3 hw)) (by decide) (backOf (W := 0) (rm1 l Z a0 hw [] (255 : Int32) r1 r2 h0 n0 Z0 F0 F1 F2 F3) hZ (w_3 hw) (w_2 hw) (by decide) (by decide)) (g := (mkF m 69 #[.val (.int arg0), .val (.int arg1), .val (.int v1), .val (.int v4), .val (.int v8), .val (.int v11), .unset] [(.int (255 : Int32))])) rfl (by rw [hml]; rfl) (argsL := [(.int (255 : Int32))]) (rest := []) (lenOf own_pd1 rfl) rfl (by show 2 * 0 + _ ≤ _; exact Nat.le_of_eq rfl) (hb hby at_69) (fun _ _ => ⟨rfl, e17q, (by decide : 0 + 0 ≤ _), (by decide : 0 + 0 ≤ _)⟩)
  dsimp only [Pt.U, Pt.locs, Pt.cells, Pt.slots] at X18 l18 y18_ z18_ st18 hQ18
  subst l18 y18_ z18_
  obtain ⟨rfl, N18q, e18q⟩ := hQ18
  have N18 := Fr.app N17 N18q
  refine own_st (B := T18.setTop (mkF m 72 #[.val (.int arg0), .val (.int arg1), .val (.int v1), .val (.int v4), .val (.int v8), .val (.int v11), .unset] [(.int (own_f1 (255 : Int32) r1 r2))])) (fun t k => st18 t k) ?_
  have hc19 : ¬ ((own_f1 (255 : Int32) r1 r2) = (0 : Int32)) := by
    show ¬ (own_f1 255 r1 r2 = 0); unfold own_f1; decide
  refine own_st (B := T18.setTop (mkF m 75 #[.val (.int arg0), .val (.int arg1), .val (.int v1), .val (.int v4), .val (.int v8), .val (.int v11), .unset] [])) (fun t k => XS.ifNo X18.here hx rfl (hb hby at_72) rfl (XT.i0_eq_f hc19) k) ?_
  refine own_st (B := T18.setTop (mkF m 76 #[.val (.int arg0), .val (.int arg1), .val (.int v1), .val (.int v4), .val (.int v8), .val (.int v11), .unset] [(.int (1 : Int32))])) (fun t k => XS.iconst X18.here hx rfl (hb hby at_75) k) ?_
  refine own_st (B := T18.setTop (mkF m 80 #[.val (.int arg0), .val (.int arg1), .val (.int v1), .val (.int v4), .val (.int v8), .val (.int v11), .unset] [(.int (1 : Int32))])) (fun t k => XS.goto X18.here hx rfl (pc0 := 76) (pc' := 80) rfl (hb hby at_76) (by decide) (by decide) k) ?_
  refine own_st (B := T18.setTop (mkF m 82 #[.val (.int arg0), .val (.int arg1), .val (.int v1), .val (.int v4), .val (.int v8), .val (.int v11), .val (.int (1 : Int32))] [])) (fun t k => XS.istore X18.here hx rfl (hb hby at_80) rfl (l' := #[.val (.int arg0), .val (.int arg1), .val (.int v1), .val (.int v4), .val (.int v8), .val (.int v11), .val (.int (1 : Int32))]) rfl k) ?_
  refine own_st (B := T18.setTop (mkF m 84 #[.val (.int arg0), .val (.int arg1), .val (.int v1), .val (.int v4), .val (.int v8), .val (.int v11), .val (.int (1 : Int32))] [(.int v11)])) (fun t k => XS.iload X18.here hx rfl (hb hby at_82) rfl k) ?_
  refine own_st (B := T18.setTop (mkF m 86 #[.val (.int arg0), .val (.int arg1), .val (.int v1), .val (.int v4), .val (.int v8), .val (.int v11), .val (.int (1 : Int32))] [(.int v8), (.int v11)])) (fun t k => XS.iload X18.here hx rfl (hb hby at_84) rfl k) ?_
  have hc20 : v11 = v8 := by
    rw [ev11]; exact own_fin hv8
  refine own_st (B := T18.setTop (mkF m 89 #[.val (.int arg0), .val (.int arg1), .val (.int v1), .val (.int v4), .val (.int v8), .val (.int v11), .val (.int (1 : Int32))] [])) (fun t k => XS.icmpNo X18.here hx rfl (hb hby at_86) rfl (XT.ii_ne_f hc20) k) ?_
  refine own_st (B := T18.setTop (mkF m 91 #[.val (.int arg0), .val (.int arg1), .val (.int v1), .val (.int v4), .val (.int v8), .val (.int v11), .val (.int (1 : Int32))] [(.int (1 : Int32))])) (fun t k => XS.iload X18.here hx rfl (hb hby at_89) rfl k) ?_
  refine own_st (B := T18.setTop (mkF m 94 #[.val (.int arg0), .val (.int arg1), .val (.int v1), .val (.int v4), .val (.int v8), .val (.int v11), .val (.int (1 : Int32))] [])) (fun t k => XS.ifNo X18.here hx rfl (hb hby at_91) rfl (by decide) k) ?_
  refine own_st (B := T18.setTop (mkF m 95 #[.val (.int arg0), .val (.int arg1), .val (.int v1), .val (.int v4), .val (.int v8), .val (.int v11), .val (.int (1 : Int32))] [(.int (1 : Int32))])) (fun t k => XS.iconst X18.here hx rfl (hb hby at_94) k) ?_
  refine own_st (B := T18.setTop (mkF m 99 #[.val (.int arg0), .val (.int arg1), .val (.int v1), .val (.int v4), .val (.int v8), .val (.int v11), .val (.int (1 : Int32))] [(.int (1 : Int32))])) (fun t k => XS.goto X18.here hx rfl (pc0 := 95) (pc' := 99) rfl (hb hby at_95) (by decide) (by decide) k) ?_
  refine own_retN X18 hx hlk (t := .boolean) Bd.returns (by simp) (z' := (1 : Int32)) rfl (hb hby at_99) (by decide) (by decide) ?_
  show Q0 Z arg0 arg1 r1 r2 h0 n0 _ T18.heap _
  rw [e18q]
  exact ⟨rfl, N18⟩
set_option maxHeartbeats 40000000 in
theorem comes_1 {Post : Tables → Env → Array Value → State → Outcome → State → Prop} (hpost : ∀ tb e args s v u, (limb_1_1.after args s (.returned v) u = true ∧ limb_1_2.after args s (.returned v) u = true ∧ True) → FrameEnd s (.returned v) u (Jvm.fieldLocs frame_1_writes args s ++ Jvm.arrayLocs frame_1_arrays args s ++ Jvm.staticLocs frame_1_statics s) 0 0 → Post tb e args s (.returned v) u) :
    ArmFor flags0 classFile x code maxLocals ret World_1 tables_1 room_1 Calls_1 rest_1 Pre_1 Post := by
  intro l hfl _ _ p e ha hc hk s m args below hf hA hF happ hP
  obtain ⟨hcalls, hrest, hpre⟩ := hP
  obtain ⟨-, -, -, hnamed, -, -, -, hat⟩ := (Spec.applies_iff hf).mp happ
  obtain ⟨hg, hn⟩ := and_e (Cond.before_iff.mp (show (Jvm.Cond.and given_1 narrow_1).before args s = true from hpre))
  obtain ⟨g1a, g1b⟩ := and_e hg
  obtain ⟨g2a, g2b⟩ := and_e g1b
  obtain ⟨w0, w1, rfl⟩ : ∃ w0 w1 : Value, args = #[w0, w1] := by
    have hs : args.size = 2 := by simpa [Cond.value, given_1] using g1a
    obtain ⟨L⟩ := args
    match L, hs with
    | [w0, w1], _ => exact ⟨w0, w1, rfl⟩
  have hw := fun d (hd : d ∈ tables_1) => atoms_spec (ws := Jvm.Cond.code x code maxLocals ret :: tables_1) hat d (List.mem_cons_of_mem _ hd)
  have hfit : Fit s := fun {y c} hc i hi => by
    obtain ⟨ha, rfl⟩ := Array.getElem?_eq_some_iff.mp hc
    have q := List.all_eq_true.mp ((Array.all_eq_true_iff_forall_mem.mp hF) _ (Array.getElem_mem ha)) i (List.mem_range.mpr hi)
    simpa [Array.getElem?_eq_getElem hi] using q
  obtain ⟨i0, ei0⟩ := is_v g2a
  obtain rfl : w0 = (.int i0) := Option.some.inj ei0
  obtain ⟨i1, ei1⟩ := is_v g2b
  obtain rfl : w1 = (.int i1) := Option.some.inj ei1
  obtain ⟨nl1, nr1⟩ := and_e hn
  obtain ⟨nl2, nr2⟩ := and_e nr1
  obtain ⟨nl3, nr3⟩ := and_e nr2
  obtain ⟨r_FIRST, er_FIRST⟩ := exa_v nl1
  have S_FIRST : Sta s s.heap "com/example/libentkey/libentkey/codec/Nulls" "FIRST" "Lcom/example/libentkey/libentkey/codec/Nulls;" (.ref r_FIRST) := Sta.start er_FIRST (Or.inr ⟨(w_2 hw), (w_5 hw)⟩)
  have E_FIRST : Exa s s.heap r_FIRST "com/example/libentkey/libentkey/codec/Nulls" := Exa.start er_FIRST nl1
  obtain ⟨r_LAST, er_LAST⟩ := exa_v nl3
  have S_LAST : Sta s s.heap "com/example/libentkey/libentkey/codec/Nulls" "LAST" "Lcom/example/libentkey/libentkey/codec/Nulls;" (.ref r_LAST) := Sta.start er_LAST (Or.inr ⟨(w_2 hw), (w_15 hw)⟩)
  have E_LAST : Exa s s.heap r_LAST "com/example/libentkey/libentkey/codec/Nulls" := Exa.start er_LAST nl3
  have F_FIRST_typeByte : Fld s s.heap r_FIRST "com/example/libentkey/libentkey/codec/Nulls" "typeByte" "I" (.int (0 : Int32)) := Fld.start ((fld_at er_FIRST).symm.trans (eqv_i (Term.int_eval (0)) nl2))
  have F_LAST_typeByte : Fld s s.heap r_LAST "com/example/libentkey/libentkey/codec/Nulls" "typeByte" "I" (.int (255 : Int32)) := Fld.start ((fld_at er_LAST).symm.trans (eqv_i (Term.int_eval (255)) nr3))
  obtain ⟨n, o, h1, h2, h3, _, L, rfl, ⟨rfl, N⟩, hq⟩ := rm0 l s _ hw tables_1 i0 i1 r_FIRST r_LAST s.heap s.heap.size (Nat.le_refl _) S_FIRST S_LAST F_FIRST_typeByte F_LAST_typeByte E_FIRST E_LAST p e ha hc hk s m _ below hf ((Spec.applies_iff_loose hf).mp happ).1 ⟨rfl, State.Warmed39.refl s, rfl⟩ trivial
  refine ⟨n, _, h1, h2, h3, hpost _ _ _ _ _ _ ⟨Cond.after_iff.mpr rfl, Cond.after_iff.mpr (eq_i res_at (Term.int_eval (1)) rfl), trivial⟩ ⟨hq.1, hq.2.1, (hq.2.2.sift fun y hy => Or.inr (N y hy)).mono (by decide) (by decide)⟩⟩
theorem main_1_1 : Claimed_1_1 := comes_1 fun _ _ _ _ _ _ h hF => ⟨h.1, hF⟩
theorem main_1_2 : Claimed_1_2 := comes_1 fun _ _ _ _ _ _ h hF => ⟨h.2.1, hF⟩
end Jvm.Pilot.@@N@@
namespace Jvm.Pilot.@@N@@
open Jvm Jvm.ClassFile Sem Op Lib Jvm.Free Jvm.Stand Jvm.Pilot.@@N@@.Jvm.D
/-! MADE BY PROGRAM (witnessworld.py) out of the Statement's table words and the real class files: 12 classes; the members and pool entries that the words name. The judged class is class 1, her method 1. -/
namespace start1
open Jvm.ClassFile
def u (s : String) : CpInfo := .utf8 (stringToUtf16 s)
/-- a pool by its gaps: so many unusable entries, then the entry; so many at the end -/
def gap : Nat → List CpInfo → List CpInfo
  | 0, r => r
  | n + 1, r => .unusable :: gap n r
def poolList (es : List (Nat × CpInfo)) (last : Nat) : List CpInfo := es.foldr (fun e r => gap e.1 (e.2 :: r)) (gap last [])
def pool (es : List (Nat × CpInfo)) (last : Nat) : Array CpInfo := ⟨poolList es last⟩
def fileOf (pool : Array CpInfo) (this : Nat) (attrs : Array Attribute := #[]) (ms : Array MethodInfo := #[]) (fl : Nat := 33) (sup : Nat := 0) (ifs : Array Nat := #[]) (fds : Array FieldInfo := #[]) : ClassFile where
  minorVersion := 0
  majorVersion := 65
  constantPool := pool
  accessFlags := fl
  thisClass := this
  superClass := sup
  interfaces := ifs
  fields := fds
  methods := ms
  attributes := attrs
def plain (name : String) (sup : Option ClassId) : Class where
  name := name
  kind := .ordinary
  loader := none
  accessFlags := 33
  super := sup
  interfaces := #[]
  cf := none
  fields := #[]
  methods := #[]
  instanceTypes := #[]
  staticTypes := #[]
  resolved := #[]
  callSites := []
  init := .initialized
  statics := none
  mirror := none

def pool0 : Array CpInfo := pool [(5, u "<init>"), (0, u "()V"), (1, .class_ 10), (1, u "java/lang/Object")] 113

def k0m0 : Method := { name := "<init>", desc := "()V", sig := { parameters := [], returnType := none }, accessFlags := 1, code := none }
/-- java/lang/Object -/
def k0 : Class := { plain "java/lang/Object" none with
  accessFlags := 33
  interfaces := #[]
  cf := some (fileOf pool0 8 #[] #[{ accessFlags := 1, nameIndex := 5, descriptorIndex := 6, attributes := #[] }] 33 0 #[] #[])
  fields := #[]
  methods := #[k0m0]
  instanceTypes := #[]
  staticTypes := #[]
  resolved := Array.replicate 124 none
  statics := none }

def pool1 : Array CpInfo := pool [(2, .class_ 4), (1, u "java/lang/Object"), (0, u "<init>"), (0, u "()V"), (0, .methodref 8 9), (0, .class_ 10), (0, .nameAndType 11 12), (0, u "com/example/libentkey/libentkey/codec/Nulls"), (0, u "isNull"), (0, u "(I)Z"), (0, .fieldref 8 14), (0, .nameAndType 15 16), (0, u "FIRST"), (0, u "Lcom/example/libentkey/libentkey/codec/Nulls;"), (0, .methodref 8 18), (0, .nameAndType 19 20), (0, u "typeByte"), (0, u "()I"), (0, .fieldref 8 22), (0, .nameAndType 23 16), (0, u "LAST"), (0, .class_ 25), (0, u "com/example/libentkey/libentkey/codec/NullsIsNullPinLaw"), (2, u "law"), (0, u "(II)Z")] 3

def k1m0 : Method := { name := "<init>", desc := "()V", sig := { parameters := [], returnType := none }, accessFlags := 1, code := none }
def k1c1 : Code := { maxStack := 2, maxLocals := 7, code := code, exceptionTable := #[], attributes := #[] }
def k1m1 : Method := { name := "law", desc := "(II)Z", sig := { parameters := [.int, .int], returnType := some .boolean }, accessFlags := 9, code := some k1c1 }
/-- com/example/libentkey/libentkey/codec/NullsIsNullPinLaw -/
def k1 : Class := { plain "com/example/libentkey/libentkey/codec/NullsIsNullPinLaw" (some 0) with
  accessFlags := 49
  interfaces := #[]
  cf := some (fileOf pool1 24 #[] #[{ accessFlags := 1, nameIndex := 5, descriptorIndex := 6, attributes := #[] }, { accessFlags := 9, nameIndex := 28, descriptorIndex := 29, attributes := #[] }] 49 2 #[] #[])
  fields := #[]
  methods := #[k1m0, k1m1]
  instanceTypes := #[]
  staticTypes := #[]
  resolved := Array.replicate 33 none
  statics := none }

def pool2 : Array CpInfo := pool [(1, .class_ 2), (0, u "java/lang/constant/Constable"), (0, .class_ 4), (0, u "java/lang/Object")] 6

/-- java/lang/constant/Constable -/
def k2 : Class := { plain "java/lang/constant/Constable" (some 0) with
  accessFlags := 1537
  interfaces := #[]
  cf := some (fileOf pool2 1 #[] #[] 1537 3 #[] #[])
  fields := #[]
  methods := #[]
  instanceTypes := #[]
  staticTypes := #[]
  resolved := Array.replicate 11 none
  statics := none }

def pool3 : Array CpInfo := pool [(1, .class_ 2), (0, u "java/lang/Comparable"), (0, .class_ 4), (0, u "java/lang/Object")] 7

/-- java/lang/Comparable -/
def k3 : Class := { plain "java/lang/Comparable" (some 0) with
  accessFlags := 1537
  interfaces := #[]
  cf := some (fileOf pool3 1 #[] #[] 1537 3 #[] #[])
  fields := #[]
  methods := #[]
  instanceTypes := #[]
  staticTypes := #[]
  resolved := Array.replicate 12 none
  statics := none }

def pool4 : Array CpInfo := pool [(1, .class_ 2), (0, u "java/io/Serializable"), (0, .class_ 4), (0, u "java/lang/Object")] 2

/-- java/io/Serializable -/
def k4 : Class := { plain "java/io/Serializable" (some 0) with
  accessFlags := 1537
  interfaces := #[]
  cf := some (fileOf pool4 1 #[] #[] 1537 3 #[] #[])
  fields := #[]
  methods := #[]
  instanceTypes := #[]
  staticTypes := #[]
  resolved := Array.replicate 7 none
  statics := none }

def pool5 : Array CpInfo := pool [(2, .class_ 4), (1, u "java/lang/Enum"), (0, u "name"), (0, u "Ljava/lang/String;"), (2, u "ordinal"), (0, u "I"), (1, .class_ 14), (1, u "java/lang/Object"), (4, u "hash"), (86, .class_ 108), (1, u "java/lang/Enum$EnumDesc"), (2, .class_ 112), (0, u "java/lang/constant/Constable"), (0, .class_ 114), (0, u "java/lang/Comparable"), (0, .class_ 116), (0, u "java/io/Serializable")] 87

/-- java/lang/Enum -/
def k5 : Class := { plain "java/lang/Enum" (some 0) with
  accessFlags := 1057
  interfaces := #[2, 3, 4]
  cf := some (fileOf pool5 2 #[.nestMembers #[106]] #[] 1057 12 #[111, 113, 115] #[{ accessFlags := 18, nameIndex := 5, descriptorIndex := 6, attributes := #[] }, { accessFlags := 18, nameIndex := 9, descriptorIndex := 10, attributes := #[] }, { accessFlags := 2, nameIndex := 19, descriptorIndex := 10, attributes := #[] }])
  fields := #[{ name := "name", type := (.object "java/lang/String"), accessFlags := 18, slot := 0, constantValue := 0 }, { name := "ordinal", type := .int, accessFlags := 18, slot := 1, constantValue := 0 }, { name := "hash", type := .int, accessFlags := 2, slot := 2, constantValue := 0 }]
  methods := #[]
  instanceTypes := #[(.object "java/lang/String"), .int, .int]
  staticTypes := #[]
  resolved := Array.replicate 204 none
  statics := none }

def pool6 : Array CpInfo := pool [(1, .class_ 2), (0, u "com/example/libentkey/libentkey/codec/Nulls"), (0, .fieldref 1 4), (0, .nameAndType 5 6), (0, u "FIRST"), (0, u "Lcom/example/libentkey/libentkey/codec/Nulls;"), (0, .fieldref 1 8), (0, .nameAndType 9 6), (0, u "LAST"), (2, u "$VALUES"), (0, u "[Lcom/example/libentkey/libentkey/codec/Nulls;"), (6, .class_ 22), (1, u "java/lang/Enum"), (8, u "schemaName"), (0, u "Ljava/lang/String;"), (0, .fieldref 1 34), (0, .nameAndType 35 36), (0, u "typeByte"), (0, u "I"), (28, u "()I"), (2, u "isNull"), (0, u "(I)Z")] 6

def k6c0 : Code := { maxStack := 1, maxLocals := 1, code := prog_27_method_5_code, exceptionTable := #[], attributes := #[] }
def k6m0 : Method := { name := "typeByte", desc := "()I", sig := { parameters := [], returnType := some .int }, accessFlags := 1, code := some k6c0 }
def k6c1 : Code := { maxStack := 2, maxLocals := 1, code := prog_27_method_7_code, exceptionTable := #[], attributes := #[] }
def k6m1 : Method := { name := "isNull", desc := "(I)Z", sig := { parameters := [.int], returnType := some .boolean }, accessFlags := 8, code := some k6c1 }
/-- com/example/libentkey/libentkey/codec/Nulls -/
def k6 : Class := { plain "com/example/libentkey/libentkey/codec/Nulls" (some 5) with
  accessFlags := 16433
  interfaces := #[]
  cf := some (fileOf pool6 1 #[] #[{ accessFlags := 1, nameIndex := 35, descriptorIndex := 65, attributes := #[] }, { accessFlags := 8, nameIndex := 68, descriptorIndex := 69, attributes := #[] }] 16433 20 #[] #[{ accessFlags := 16409, nameIndex := 5, descriptorIndex := 6, attributes := #[] }, { accessFlags := 16409, nameIndex := 9, descriptorIndex := 6, attributes := #[] }, { accessFlags := 18, nameIndex := 31, descriptorIndex := 32, attributes := #[] }, { accessFlags := 18, nameIndex := 35, descriptorIndex := 36, attributes := #[] }, { accessFlags := 4122, nameIndex := 12, descriptorIndex := 13, attributes := #[] }])
  fields := #[{ name := "FIRST", type := (.object "com/example/libentkey/libentkey/codec/Nulls"), accessFlags := 16409, slot := 0, constantValue := 0 }, { name := "LAST", type := (.object "com/example/libentkey/libentkey/codec/Nulls"), accessFlags := 16409, slot := 1, constantValue := 0 }, { name := "schemaName", type := (.object "java/lang/String"), accessFlags := 18, slot := 3, constantValue := 0 }, { name := "typeByte", type := .int, accessFlags := 18, slot := 4, constantValue := 0 }, { name := "$VALUES", type := (.array (.object "com/example/libentkey/libentkey/codec/Nulls")), accessFlags := 4122, slot := 2, constantValue := 0 }]
  methods := #[k6m0, k6m1]
  instanceTypes := #[(.object "java/lang/String"), .int, .int, (.object "java/lang/String"), .int]
  staticTypes := #[(.object "com/example/libentkey/libentkey/codec/Nulls"), (.object "com/example/libentkey/libentkey/codec/Nulls"), (.array (.object "com/example/libentkey/libentkey/codec/Nulls"))]
  resolved := Array.replicate 76 none
  statics := some 0 }

def pool7 : Array CpInfo := pool [(1, u "java/lang/Cloneable"), (0, .class_ 1), (0, u "java/lang/Object"), (0, .class_ 3)] 3

/-- java/lang/Cloneable -/
def k7 : Class := { plain "java/lang/Cloneable" (some 0) with
  accessFlags := 1537
  interfaces := #[]
  cf := some (fileOf pool7 2 #[] #[] 1537 4 #[] #[])
  fields := #[]
  methods := #[]
  instanceTypes := #[]
  staticTypes := #[]
  resolved := Array.replicate 8 none
  statics := none }

/-- the primitive byte -/
def k8 : Class := { plain "byte" none with kind := .primitive 'B', accessFlags := 0x411 }
/-- [B -/
def k9 : Class := { plain "[B" (some 0) with kind := .array 8 .byte, interfaces := #[7, 4], accessFlags := 1041 }

/-- the primitive int -/
def k10 : Class := { plain "int" none with kind := .primitive 'I', accessFlags := 0x411 }
/-- [I -/
def k11 : Class := { plain "[I" (some 0) with kind := .array 10 .int, interfaces := #[7, 4], accessFlags := 1041 }

def heap : Heap := #[{ cls := 6, slots := #[.ref 1, .ref 2, .null], vm := .statics 6 },
  { cls := 6, slots := #[.null, .int 0, .int 0, .null, .int 0], vm := .none },
  { cls := 6, slots := #[.null, .int 1, .int 0, .null, .int 255], vm := .none }]
def classes : Array Class := #[k0, k1, k2, k3, k4, k5, k6, k7, k8, k9, k10, k11]
def interned : List (Array UInt16 × Addr) := []
def slotsUsed : Nat := 13
def theMethod : MethodId := ⟨1, 1⟩
def args0 : Array Value := #[.int 5, .int 5]
def aboutOver (below : List Frame) : State where
  vm := { classes := classes, interned := interned.toArray }
  heap := heap
  slotsUsed := slotsUsed
  threads := #[{ frames := .invoking theMethod args0 :: below }]
def below0 : List Frame := [.native { method := ⟨0, 0⟩, args := #[] }]
def about1 : State := aboutOver below0
def p0 : Program := .bare "" "" ""
def e0 : Env := launch0.env 0 0 0
theorem w_frames : about1.frames = Frame.invoking theMethod args0 :: below0 := rfl
set_option maxRecDepth 65536 in
theorem w_args : argsFit about1.vm theMethod args0 = true := by decide +kernel
set_option maxRecDepth 65536 in
theorem w_heap : heapFits about1 = true := by decide +kernel
set_option maxRecDepth 65536 in
theorem w_runnable : about1.curStatus? = some .runnable := by decide +kernel
set_option maxRecDepth 65536 in
theorem w_alone : about1.alone = true := by decide +kernel
set_option maxRecDepth 65536 in
theorem w_named : about1.methodNamed? x = some theMethod := by decide +kernel
set_option maxRecDepth 65536 in
theorem w_hears : about1.hears theMethod below0 = true := by decide +kernel
set_option maxRecDepth 65536 in
theorem w_ripe : about1.ripe theMethod args0 below0 = true := by decide +kernel
theorem w_running : about1.status = .running := rfl
set_option maxRecDepth 65536 in
theorem w_room : about1.hasRoom e0.platform room_1 = true :=
  launch0.hasRoom_least _ room_1 (by decide +kernel) (by decide +kernel) (by decide +kernel) (by decide +kernel) (by decide +kernel) (by decide +kernel)
theorem allAtoms_all (ts : List Jvm.Cond) (a : Array Jvm.Value) (st : Jvm.State) : (allAtoms ts).before a st = ts.all (fun c => c.before a st) := by
  induction ts with
  | nil => rfl
  | cons c t ih =>
    show (Jvm.Cond.and c (allAtoms t)).before a st = _
    rw [Jvm.Cond.before_and, ih, List.all_cons]
def words1 : List Jvm.Cond := Jvm.Cond.code x code maxLocals ret :: tables_1
/-- a 'code' word, met by the world's own term for the bytes: nothing is compared byte by byte -/
theorem code_word {y : MethodName} {bytes : ByteArray} {mx : Nat} {rt : Option FieldType} {a : Array Value} {s : State} {m : MethodId} {meth : Method} {c : Code} (h1 : s.methodNamed? y = some m) (h2 : s.vm.method? m = some meth) (h3 : meth.code = some c) (h4 : c.code = bytes)
    (h5 : (c.maxLocals == mx && c.exceptionTable.isEmpty && decide (c.maxStack ≤ mostOperands) && decide (meth.sig.returnType = rt) && !meth.locks && decide (parseMethodDescriptor y.desc = some meth.sig)) = true) : (Jvm.Cond.code y bytes mx rt).before a s = true := by
  simp only [Bool.and_eq_true, beq_iff_eq, Bool.not_eq_true', decide_eq_true_eq] at h5
  obtain ⟨⟨⟨⟨⟨g1, g2⟩, g3⟩, g4⟩, g5⟩, g6⟩ := h5
  simp [Cond.before, Cond.holds, Cond.value, h1, h2, h3, h4, g1, g2, g3, g4, g5, g6]
def isCode : Jvm.Cond → Bool
  | .code _ _ _ _ => true
  | _ => false
theorem all_split {L : List Jvm.Cond} {P : Jvm.Cond → Bool} (h1 : L.all (fun c => isCode c || P c) = true) (h2 : ∀ c ∈ L.filter isCode, P c = true) : L.all P = true := by
  refine List.all_eq_true.mpr fun c hc => ?_
  have h := List.all_eq_true.mp h1 c hc
  rcases Bool.eq_false_or_eq_true (isCode c) with hi | hi
  · exact h2 c (List.mem_filter.mpr ⟨hc, hi⟩)
  · simpa [hi] using h
set_option maxRecDepth 65536 in
theorem w_c0 : (Jvm.Cond.code x code maxLocals ret).before args0 about1 = true := code_word (m := ⟨1, 1⟩) (meth := k1m1) (c := k1c1) (by decide +kernel) rfl rfl rfl (by decide +kernel)
set_option maxRecDepth 65536 in
theorem w_c1 : (Jvm.Cond.code ({ cls := "com/example/libentkey/libentkey/codec/Nulls", name := "isNull", desc := "(I)Z" } : Jvm.MethodName) prog_27_method_7_code (1 : Nat) (Option.some Jvm.ClassFile.FieldType.boolean)).before args0 about1 = true := code_word (m := ⟨6, 1⟩) (meth := k6m1) (c := k6c1) (by decide +kernel) rfl rfl rfl (by decide +kernel)
set_option maxRecDepth 65536 in
theorem w_c2 : (Jvm.Cond.code ({ cls := "com/example/libentkey/libentkey/codec/Nulls", name := "typeByte", desc := "()I" } : Jvm.MethodName) prog_27_method_5_code (1 : Nat) (Option.some Jvm.ClassFile.FieldType.int)).before args0 about1 = true := code_word (m := ⟨6, 0⟩) (meth := k6m0) (c := k6c0) (by decide +kernel) rfl rfl rfl (by decide +kernel)
def codes1 : List Jvm.Cond := [Jvm.Cond.code x code maxLocals ret, Jvm.Cond.code ({ cls := "com/example/libentkey/libentkey/codec/Nulls", name := "isNull", desc := "(I)Z" } : Jvm.MethodName) prog_27_method_7_code (1 : Nat) (Option.some Jvm.ClassFile.FieldType.boolean), Jvm.Cond.code ({ cls := "com/example/libentkey/libentkey/codec/Nulls", name := "typeByte", desc := "()I" } : Jvm.MethodName) prog_27_method_5_code (1 : Nat) (Option.some Jvm.ClassFile.FieldType.int)]
set_option maxRecDepth 65536 in
theorem codes_eq : words1.filter isCode = codes1 := rfl
theorem w_codes : ∀ c ∈ words1.filter isCode, c.before args0 about1 = true := by
  rw [codes_eq]
  intro c hc
  simp only [codes1, List.mem_cons, List.not_mem_nil, or_false] at hc
  rcases hc with rfl | rfl | rfl
  · exact w_c0
  · exact w_c1
  · exact w_c2
set_option maxRecDepth 65536 in
theorem w_t1 : words1.all (fun c => isCode c || c.before args0 about1) = true := by decide +kernel
theorem w_tables : (allAtoms (Jvm.Cond.code x code maxLocals ret :: tables_1)).before args0 about1 = true := by
  rw [allAtoms_all]
  show words1.all (fun c => c.before args0 about1) = true
  refine all_split ?_ w_codes
  rw [w_t1]
set_option maxRecDepth 65536 in
theorem w_case : (Jvm.Cond.and given_1 narrow_1).before args0 about1 = true := by decide +kernel
theorem w_applies : (headSpec (Jvm.Cond.code x code maxLocals ret :: tables_1) room_1).applies x e0.platform about1 = true :=
  (Spec.applies_iff w_frames).mpr ⟨w_running, w_runnable, w_alone, w_named, w_hears, w_ripe, w_room, w_tables⟩
theorem atStart : AtStart classFile x code maxLocals ret World_1 tables_1 room_1 Calls_1 rest_1 Pre_1 launch0 p0 e0 about1 theMethod args0 below0 :=
  ⟨lists_1, trivial, launch0.admits_env _ _ _, launch0.least_env, fairChoices_fair.cas, fairChoices_fair.clock, w_frames, w_args, w_heap, w_applies, trivial, trivial, w_case⟩
end start1
theorem witness_1 : WitnessClaimed_1 := ⟨start1.p0, start1.e0, start1.about1, start1.theMethod, start1.args0, start1.below0, start1.atStart⟩
end Jvm.Pilot.@@N@@
