import JvmDerived
import JvmDerived.Pilot.@@N@@Statement
import JvmDerived.Pilot.@@N@@Code
set_option linter.unusedVariables false
set_option linter.unusedSimpArgs false
namespace Jvm.Pilot.@@N@@
open Jvm Jvm.ClassFile Sem Op Lib Jvm.Free Jvm.Stand Jvm.LawKit Jvm.RoadKit Bundle Jvm.Pilot.@@N@@.Jvm.D
set_option maxRecDepth 65536
/-! the run still has to be led to its end from A: the goal of a walk, taken step by step -/
def own_Go (p : Program) (e : Env) (below : List Frame) (s : State) (Q : Option Value → Heap → List Loc → Prop) (C S : Nat) (A : State) : Prop :=
  ∃ s₂ o, Steps p.tables e below A s₂ ∧ s₂.status = .running ∧ Ended s₂ below o ∧ ∃ v L, o = .returned v ∧ Q v s₂.heap L ∧ FrameEnd s o s₂ L C S
section OwnA
variable {p : Program} {l : Launch} {e : Env} {R : Room} {s : State} {m : MethodId} {args : Array Value} {below : List Frame} {meth : Method} {c : Code} {T : State} {locs : List Loc} {cells slots : Nat} {Q : Option Value → Heap → List Loc → Prop} {C S : Nat}
theorem own_st {A B : State} (h : ∀ t, Steps p.tables e below B t → Steps p.tables e below A t) (g : own_Go p e below s Q C S B) : own_Go p e below s Q C S A := by
  obtain ⟨s₂, o, h1, r⟩ := g
  exact ⟨s₂, o, h _ h1, r⟩
theorem own_ss {A B : State} (h : Steps p.tables e below A B) (g : own_Go p e below s Q C S B) : own_Go p e below s Q C S A := own_st (fun _ k => h.trans k) g
theorem own_cut {P G : Prop} (a : P → G) (b : P) : G := a b
theorem own_leave (X : Stand p l e R s m args below meth c T locs cells slots) {v : Option Value} (hv : meth.sig.returnType = none → v = none) (hlk : meth.locks = false) (hQ : Q v T.heap locs) (hc : cells ≤ C) (hs : slots ≤ S) {A : State}
    (hr : ∀ fs, (∀ (f : JFrame) (acts : List Action), f.method = m → f.locked = none → f.entered = [] → (doReturn e (T.setTop f) acts v).1 = T.setFrames fs) → Steps p.tables e below A (T.setFrames fs)) : own_Go p e below s Q C S A := by
  obtain ⟨fs, hr', hrun, hended, hW, hsame⟩ := X.leave (v := v) hv hlk
  exact ⟨_, _, hr fs hr', hrun, hended, _, _, rfl, hQ, ⟨_, rfl⟩, hW, hsame.mono hc hs⟩
theorem own_retV (X : Stand p l e R s m args below meth c T locs cells slots) (hx : p.tables.exec = Jvm.exec) (hlk : meth.locks = false) (hret : meth.sig.returnType = none) {pc : Nat} {Ls : Array Slot} (hd : decode c.code pc = .ok (.return_, 1)) (hc : cells ≤ C) (hs : slots ≤ S) (hQ : Q none T.heap locs) :
    own_Go p e below s Q C S (T.setTop (mkF m pc Ls [])) := own_leave X (fun _ => rfl) hlk hQ hc hs fun _ hr => X.returnOut hx hret hd hr
theorem own_retI (X : Stand p l e R s m args below meth c T locs cells slots) (hx : p.tables.exec = Jvm.exec) (hlk : meth.locks = false) (hret : meth.sig.returnType = some .int) {pc : Nat} {Ls : Array Slot} {z : Int32} {rest : List Value} (hd : decode c.code pc = .ok (.ireturn, 1)) (hc : cells ≤ C) (hs : slots ≤ S) (hQ : Q (some (.int z)) T.heap locs) :
    own_Go p e below s Q C S (T.setTop (mkF m pc Ls (.int z :: rest))) := own_leave X (fun h => by rw [hret] at h; cases h) hlk hQ hc hs fun _ hr => retOut X hx hret rfl (Or.inl ⟨rfl, Or.inl rfl, _, rfl⟩) hd hr
theorem own_retJ (X : Stand p l e R s m args below meth c T locs cells slots) (hx : p.tables.exec = Jvm.exec) (hlk : meth.locks = false) (hret : meth.sig.returnType = some .long) {pc : Nat} {Ls : Array Slot} {z : Int64} {rest : List Value} (hd : decode c.code pc = .ok (.lreturn, 1)) (hc : cells ≤ C) (hs : slots ≤ S) (hQ : Q (some (.long z)) T.heap locs) :
    own_Go p e below s Q C S (T.setTop (mkF m pc Ls (.long z :: rest))) := own_leave X (fun h => by rw [hret] at h; cases h) hlk hQ hc hs fun _ hr => retOut X hx hret rfl (Or.inr (Or.inl ⟨rfl, rfl, _, rfl⟩)) hd hr
theorem own_retR (X : Stand p l e R s m args below meth c T locs cells slots) (hx : p.tables.exec = Jvm.exec) (hlk : meth.locks = false) {t : FieldType} (hret : meth.sig.returnType = some t) (ht : t.isReference = true) {pc : Nat} {Ls : Array Slot} {w : Value} {rest : List Value} (hn : narrow t w = w) (hw : w.isRef = true) (hd : decode c.code pc = .ok (.areturn, 1)) (hc : cells ≤ C) (hs : slots ≤ S) (hQ : Q (some w) T.heap locs) :
    own_Go p e below s Q C S (T.setTop (mkF m pc Ls (w :: rest))) := own_leave X (fun h => by rw [hret] at h; cases h) hlk hQ hc hs fun _ hr => retOut X hx hret hn (Or.inr (Or.inr (Or.inr (Or.inr ⟨rfl, ht, hw⟩)))) hd hr
theorem own_retN (X : Stand p l e R s m args below meth c T locs cells slots) (hx : p.tables.exec = Jvm.exec) (hlk : meth.locks = false) {t : FieldType} (hret : meth.sig.returnType = some t) (ht : t = .boolean ∨ t = .byte ∨ t = .char ∨ t = .short) {pc : Nat} {Ls : Array Slot} {z z' : Int32} {rest : List Value} (hz : nar t z = z') (hd : decode c.code pc = .ok (.ireturn, 1)) (hc : cells ≤ C) (hs : slots ≤ S) (hQ : Q (some (.int z')) T.heap locs) :
    own_Go p e below s Q C S (T.setTop (mkF m pc Ls (.int z :: rest))) := by
  subst hz
  exact own_leave X (fun h => by rw [hret] at h; cases h) hlk hQ hc hs fun _ hr => retN X hx hret ht hd hr
/-! arrays by the whole list of what they hold -/
variable {Z : State} {h h' : Heap} {a b : Addr} {ty : FieldType} {vs : List Value}
def own_A (Z : State) (h : Heap) (a : Addr) (ty : FieldType) (vs : List Value) : Prop := ∃ c : Cell, Arr Z h a c ty ∧ c.slots.toList = vs
theorem own_A.lt (F : own_A Z h a ty vs) : a < h.size := by obtain ⟨c, A, -⟩ := F; exact A.lt
theorem own_A.ext (F : own_A Z h a ty vs) (E : Ext h h') : own_A Z h' a ty vs := by obtain ⟨c, A, q⟩ := F; exact ⟨c, A.ext E, q⟩
theorem own_A.other {sl : Nat} {v : Value} (F : own_A Z h a ty vs) (W : Wr h h' b sl v) (q : a ≠ b) : own_A Z h' a ty vs := by obtain ⟨c, A, r⟩ := F; exact ⟨c, A.other W q, r⟩
theorem own_A.keep {ws : List Addr} (F : own_A Z h a ty vs) (K : Keep h h' ws) (q : a ∉ ws) : own_A Z h' a ty vs := by obtain ⟨c, A, r⟩ := F; exact ⟨c, ⟨K.2.1 a c A.1 q, A.2⟩, r⟩
theorem own_A.set {i : Nat} {v : Value} (F : own_A Z h a ty vs) (W : Wr h h' a i v) : own_A Z h' a ty (vs.set i v) := by
  obtain ⟨c, A, rfl⟩ := F
  exact ⟨_, A.same W, by simp [Cell.setSlot]⟩
theorem own_ix {j : Int32} {i : Nat} (hj : j.toInt = (i : Int)) : ¬ j < 0 ∧ j.toNatClampNeg = i := by
  refine ⟨?_, ?_⟩
  · rw [Int32.lt_iff_toInt_lt, hj]
    show ¬ ((i : Int) < 0)
    omega
  · have h1 : j.toNatClampNeg = j.toInt.toNat := rfl
    rw [h1, hj]; rfl
theorem own_in {cl : Cell} {j : Int32} {i : Nat} {v : Value} (hj : j.toInt = (i : Int)) (hv : cl.slots.toList[i]? = some v) : ¬ (j < 0 ∨ cl.slots.size ≤ j.toNatClampNeg) ∧ cl.slots[j.toNatClampNeg]? = some v := by
  obtain ⟨n0, n1⟩ := own_ix hj
  rw [n1]
  rw [Array.getElem?_toList] at hv
  refine ⟨?_, hv⟩
  have h2 := (Array.getElem?_eq_some_iff.mp hv).1
  rintro (q | q)
  · exact n0 q
  · omega
theorem own_ldI (X : Stand p l e R s m args below meth c T locs cells slots) (hx : p.tables.exec = Jvm.exec) (hZ : Z.Warmed39 s.vm) (eT : T.heap = h) (A : own_A Z h a .int vs) {j : Int32} {i : Nat} {v : Value} (hj : j.toInt = (i : Int)) (hv : vs[i]? = some v) {g : JFrame} (hg : g.method = m) {rest : List Value} (hs : g.stack = .int j :: .ref a :: rest) (hd : decode c.code g.pc = .ok (.iaload, 1)) {t : State}
    (k : Steps p.tables e below (T.setTop { g with pc := g.pc + 1, stack := v :: rest }) t) : Steps p.tables e below (T.setTop g) t := by
  obtain ⟨cl, A, rfl⟩ := A
  exact X.iaload hx (by rw [eT]; exact A.1) (State.isArrayOf_alike hZ.alike A.2.1) A.2.2 (own_in hj hv).1 (own_in hj hv).2 hg hs hd _ k
theorem own_ldJ (X : Stand p l e R s m args below meth c T locs cells slots) (hx : p.tables.exec = Jvm.exec) (hZ : Z.Warmed39 s.vm) (eT : T.heap = h) (A : own_A Z h a .long vs) {j : Int32} {i : Nat} {v : Value} (hj : j.toInt = (i : Int)) (hv : vs[i]? = some v) {g : JFrame} (hg : g.method = m) {rest : List Value} (hs : g.stack = .int j :: .ref a :: rest) (hd : decode c.code g.pc = .ok (.laload, 1)) {t : State}
    (k : Steps p.tables e below (T.setTop { g with pc := g.pc + 1, stack := v :: rest }) t) : Steps p.tables e below (T.setTop g) t := by
  obtain ⟨cl, A, rfl⟩ := A
  exact X.laload hx (by rw [eT]; exact A.1) (State.isArrayOf_alike hZ.alike A.2.1) A.2.2 (own_in hj hv).1 (own_in hj hv).2 hg hs hd _ k
theorem own_ldB (X : Stand p l e R s m args below meth c T locs cells slots) (hx : p.tables.exec = Jvm.exec) (hZ : Z.Warmed39 s.vm) (eT : T.heap = h) (A : own_A Z h a .byte vs) {j : Int32} {i : Nat} {v : Value} (hj : j.toInt = (i : Int)) (hv : vs[i]? = some v) {g : JFrame} (hg : g.method = m) {rest : List Value} (hs : g.stack = .int j :: .ref a :: rest) (hd : decode c.code g.pc = .ok (.baload, 1)) {t : State}
    (k : Steps p.tables e below (T.setTop { g with pc := g.pc + 1, stack := v :: rest }) t) : Steps p.tables e below (T.setTop g) t := by
  obtain ⟨cl, A, rfl⟩ := A
  exact X.baloadBytes hx (by rw [eT]; exact A.1) (State.isArrayOf_alike hZ.alike A.2.1) A.2.2 (own_in hj hv).1 (own_in hj hv).2 hg hs hd _ k
theorem own_ldZ (X : Stand p l e R s m args below meth c T locs cells slots) (hx : p.tables.exec = Jvm.exec) (hZ : Z.Warmed39 s.vm) (eT : T.heap = h) (A : own_A Z h a .boolean vs) {j : Int32} {i : Nat} {v : Value} (hj : j.toInt = (i : Int)) (hv : vs[i]? = some v) {g : JFrame} (hg : g.method = m) {rest : List Value} (hs : g.stack = .int j :: .ref a :: rest) (hd : decode c.code g.pc = .ok (.baload, 1)) {t : State}
    (k : Steps p.tables e below (T.setTop { g with pc := g.pc + 1, stack := v :: rest }) t) : Steps p.tables e below (T.setTop g) t := by
  obtain ⟨cl, A, rfl⟩ := A
  exact X.baloadBooleans hx (by rw [eT]; exact A.1) (State.isArrayOf_alike hZ.alike A.2.1) A.2.2 (own_in hj hv).1 (own_in hj hv).2 hg hs hd _ k
theorem own_ldS (X : Stand p l e R s m args below meth c T locs cells slots) (hx : p.tables.exec = Jvm.exec) (hZ : Z.Warmed39 s.vm) (eT : T.heap = h) (A : own_A Z h a .short vs) {j : Int32} {i : Nat} {v : Value} (hj : j.toInt = (i : Int)) (hv : vs[i]? = some v) {g : JFrame} (hg : g.method = m) {rest : List Value} (hs : g.stack = .int j :: .ref a :: rest) (hd : decode c.code g.pc = .ok (.saload, 1)) {t : State}
    (k : Steps p.tables e below (T.setTop { g with pc := g.pc + 1, stack := v :: rest }) t) : Steps p.tables e below (T.setTop g) t := by
  obtain ⟨cl, A, rfl⟩ := A
  exact X.saload hx (by rw [eT]; exact A.1) (State.isArrayOf_alike hZ.alike A.2.1) A.2.2 (own_in hj hv).1 (own_in hj hv).2 hg hs hd _ k
theorem own_ldC (X : Stand p l e R s m args below meth c T locs cells slots) (hx : p.tables.exec = Jvm.exec) (hZ : Z.Warmed39 s.vm) (eT : T.heap = h) (A : own_A Z h a .char vs) {j : Int32} {i : Nat} {v : Value} (hj : j.toInt = (i : Int)) (hv : vs[i]? = some v) {g : JFrame} (hg : g.method = m) {rest : List Value} (hs : g.stack = .int j :: .ref a :: rest) (hd : decode c.code g.pc = .ok (.caload, 1)) {t : State}
    (k : Steps p.tables e below (T.setTop { g with pc := g.pc + 1, stack := v :: rest }) t) : Steps p.tables e below (T.setTop g) t := by
  obtain ⟨cl, A, rfl⟩ := A
  exact X.caload hx (by rw [eT]; exact A.1) (State.isArrayOf_alike hZ.alike A.2.1) A.2.2 (own_in hj hv).1 (own_in hj hv).2 hg hs hd _ k
theorem own_ldR (X : Stand p l e R s m args below meth c T locs cells slots) (hx : p.tables.exec = Jvm.exec) (hZ : Z.Warmed39 s.vm) (eT : T.heap = h) (A : own_A Z h a ty vs) (hty : ty.isReference = true) {j : Int32} {i : Nat} {v : Value} (hj : j.toInt = (i : Int)) (hv : vs[i]? = some v) {g : JFrame} (hg : g.method = m) {rest : List Value} (hs : g.stack = .int j :: .ref a :: rest) (hd : decode c.code g.pc = .ok (.aaload, 1)) {t : State}
    (k : Steps p.tables e below (T.setTop { g with pc := g.pc + 1, stack := v :: rest }) t) : Steps p.tables e below (T.setTop g) t := by
  obtain ⟨cl, A, rfl⟩ := A
  exact X.aaload hx (by rw [eT]; exact A.1) (State.isArrayOf_alike hZ.alike A.2.1) hty A.2.2 (own_in hj hv).1 (own_in hj hv).2 hg hs hd _ k
theorem own_stI (X : Stand p l e R s m args below meth c T locs cells slots) (hx : p.tables.exec = Jvm.exec) (hZ : Z.Warmed39 s.vm) (eT : T.heap = h) (A : own_A Z h a .int vs) {j x : Int32} {i : Nat} (hj : j.toInt = (i : Int)) (hi : i < vs.length) {g : JFrame} (hg : g.method = m) {rest : List Value} (hs : g.stack = .int x :: .int j :: .ref a :: rest) (hd : decode c.code g.pc = .ok (.iastore, 1)) :
    ∃ T' h', Stand p l e R s m args below meth c T' (locs ++ [⟨a, i⟩]) cells slots ∧ T'.heap = h' ∧ Wr h h' a i (.int x) ∧ own_A Z h' a .int (vs.set i (.int x)) ∧ ∀ target, Steps p.tables e below (T'.setTop { g with pc := g.pc + 1, stack := rest }) target → Steps p.tables e below (T.setTop g) target := by
  obtain ⟨cl, A, rfl⟩ := A
  have hin := (own_in (cl := cl) (v := cl.slots.toList[i]) hj (List.getElem?_eq_getElem hi)).1
  obtain ⟨T', h', X', e', W', st⟩ := stI X hx hZ eT A (j := j) (x := x) hin hg hs hd
  rw [(own_ix hj).2] at X' W'
  exact ⟨T', h', X', e', W', own_A.set ⟨cl, A, rfl⟩ W', st⟩
theorem own_stJ (X : Stand p l e R s m args below meth c T locs cells slots) (hx : p.tables.exec = Jvm.exec) (hZ : Z.Warmed39 s.vm) (eT : T.heap = h) (A : own_A Z h a .long vs) {j : Int32} {x : Int64} {i : Nat} (hj : j.toInt = (i : Int)) (hi : i < vs.length) {g : JFrame} (hg : g.method = m) {rest : List Value} (hs : g.stack = .long x :: .int j :: .ref a :: rest) (hd : decode c.code g.pc = .ok (.lastore, 1)) :
    ∃ T' h', Stand p l e R s m args below meth c T' (locs ++ [⟨a, i⟩]) cells slots ∧ T'.heap = h' ∧ Wr h h' a i (.long x) ∧ own_A Z h' a .long (vs.set i (.long x)) ∧ ∀ target, Steps p.tables e below (T'.setTop { g with pc := g.pc + 1, stack := rest }) target → Steps p.tables e below (T.setTop g) target := by
  obtain ⟨cl, A, rfl⟩ := A
  have hin := (own_in (cl := cl) (v := cl.slots.toList[i]) hj (List.getElem?_eq_getElem hi)).1
  obtain ⟨T', h', X', e', W', st⟩ := stJ X hx hZ eT A (j := j) (x := x) hin hg hs hd
  rw [(own_ix hj).2] at X' W'
  exact ⟨T', h', X', e', W', own_A.set ⟨cl, A, rfl⟩ W', st⟩
theorem own_stB (X : Stand p l e R s m args below meth c T locs cells slots) (hx : p.tables.exec = Jvm.exec) (hZ : Z.Warmed39 s.vm) (eT : T.heap = h) (A : own_A Z h a .byte vs) {j x : Int32} {i : Nat} (hj : j.toInt = (i : Int)) (hi : i < vs.length) {g : JFrame} (hg : g.method = m) {rest : List Value} (hs : g.stack = .int x :: .int j :: .ref a :: rest) (hd : decode c.code g.pc = .ok (.bastore, 1)) :
    ∃ T' h', Stand p l e R s m args below meth c T' (locs ++ [⟨a, i⟩]) cells slots ∧ T'.heap = h' ∧ Wr h h' a i (.int x.toInt8.toInt32) ∧ own_A Z h' a .byte (vs.set i (.int x.toInt8.toInt32)) ∧ ∀ target, Steps p.tables e below (T'.setTop { g with pc := g.pc + 1, stack := rest }) target → Steps p.tables e below (T.setTop g) target := by
  obtain ⟨cl, A, rfl⟩ := A
  have hin := (own_in (cl := cl) (v := cl.slots.toList[i]) hj (List.getElem?_eq_getElem hi)).1
  obtain ⟨T', h', X', e', W', st⟩ := stB X hx hZ eT A (j := j) (x := x) hin hg hs hd
  rw [(own_ix hj).2] at X' W'
  exact ⟨T', h', X', e', W', own_A.set ⟨cl, A, rfl⟩ W', st⟩
theorem own_stS (X : Stand p l e R s m args below meth c T locs cells slots) (hx : p.tables.exec = Jvm.exec) (hZ : Z.Warmed39 s.vm) (eT : T.heap = h) (A : own_A Z h a .short vs) {j x : Int32} {i : Nat} (hj : j.toInt = (i : Int)) (hi : i < vs.length) {g : JFrame} (hg : g.method = m) {rest : List Value} (hs : g.stack = .int x :: .int j :: .ref a :: rest) (hd : decode c.code g.pc = .ok (.sastore, 1)) :
    ∃ T' h', Stand p l e R s m args below meth c T' (locs ++ [⟨a, i⟩]) cells slots ∧ T'.heap = h' ∧ Wr h h' a i (.int x.toInt16.toInt32) ∧ own_A Z h' a .short (vs.set i (.int x.toInt16.toInt32)) ∧ ∀ target, Steps p.tables e below (T'.setTop { g with pc := g.pc + 1, stack := rest }) target → Steps p.tables e below (T.setTop g) target := by
  obtain ⟨cl, A, rfl⟩ := A
  have hin := (own_in (cl := cl) (v := cl.slots.toList[i]) hj (List.getElem?_eq_getElem hi)).1
  obtain ⟨T', h', X', e', W', st⟩ := stS X hx hZ eT A (j := j) (x := x) hin hg hs hd
  rw [(own_ix hj).2] at X' W'
  exact ⟨T', h', X', e', W', own_A.set ⟨cl, A, rfl⟩ W', st⟩
theorem own_stC (X : Stand p l e R s m args below meth c T locs cells slots) (hx : p.tables.exec = Jvm.exec) (hZ : Z.Warmed39 s.vm) (eT : T.heap = h) (A : own_A Z h a .char vs) {j x : Int32} {i : Nat} (hj : j.toInt = (i : Int)) (hi : i < vs.length) {g : JFrame} (hg : g.method = m) {rest : List Value} (hs : g.stack = .int x :: .int j :: .ref a :: rest) (hd : decode c.code g.pc = .ok (.castore, 1)) :
    ∃ T' h', Stand p l e R s m args below meth c T' (locs ++ [⟨a, i⟩]) cells slots ∧ T'.heap = h' ∧ Wr h h' a i (.int x.toUInt32.toUInt16.toUInt32.toInt32) ∧ own_A Z h' a .char (vs.set i (.int x.toUInt32.toUInt16.toUInt32.toInt32)) ∧ ∀ target, Steps p.tables e below (T'.setTop { g with pc := g.pc + 1, stack := rest }) target → Steps p.tables e below (T.setTop g) target := by
  obtain ⟨cl, A, rfl⟩ := A
  have hin := (own_in (cl := cl) (v := cl.slots.toList[i]) hj (List.getElem?_eq_getElem hi)).1
  obtain ⟨T', h', X', e', W', st⟩ := stC X hx hZ eT A (j := j) (x := x) hin hg hs hd
  rw [(own_ix hj).2] at X' W'
  exact ⟨T', h', X', e', W', own_A.set ⟨cl, A, rfl⟩ W', st⟩
theorem own_newP {a0 : Array Value} (X : Stand p l e R s m args below meth c T locs cells slots) (hx : p.tables.exec = Jvm.exec) (hZ : Z.Warmed39 s.vm) {aty : ArrayType} (w : (Cond.arrayClass (newarray.typeOf aty)).before a0 Z = true) (eT : T.heap = h) {g : JFrame} (hg : g.method = m) (hd : decode c.code g.pc = .ok (.newarray aty, 2)) {n : Int32} {rest : List Value} (hs : g.stack = .int n :: rest)
    {k cap : Nat} (hk : n.toInt = (k : Int)) (hcap : k ≤ cap) (hb : cap * 8 ≤ 536870912) (hc : cells + 1 ≤ R.cells) (hl : slots + cap ≤ R.slots) {ad : String} (had : "[" ++ (newarray.typeOf aty).toString = ad) :
    ∃ T' h', Stand p l e R s m args below meth c T' locs (cells + 1) (slots + cap) ∧ T'.heap = h' ∧ Ext h h' ∧ own_A Z h' h.size (newarray.typeOf aty) (List.replicate k (defaultValue (newarray.typeOf aty))) ∧ Exa Z h' h.size ad ∧
      ∀ target, Steps p.tables e below (T'.setTop { g with pc := g.pc + 2, stack := .ref h.size :: rest }) target → Steps p.tables e below (T.setTop g) target := by
  obtain ⟨n0, n1⟩ := own_ix hk
  obtain ⟨T', h', cA, X', e', E', A', x', st⟩ := newPE X hx hZ w eT hg hd hs n0 (cap := cap) (by rw [n1]; exact hcap) hb hc hl had
  exact ⟨T', h', X', e', E', ⟨_, A', by simp [newA, n1]⟩, x', st⟩
theorem own_clone {a0 : Array Value} (X : Stand p l e R s m args below meth c T locs cells slots) (hx : p.tables.exec = Jvm.exec) (hZ : Z.Warmed39 s.vm) {own ad : String} {index : Nat} (hown : s.vm.findClass own = some m.cls)
    (w1 : (Cond.methodLink own index ⟨ad, "clone", "()Ljava/lang/Object;"⟩).before a0 Z = true) (w2 : (Cond.sameMethod ad "java/lang/Object" "clone" "()Ljava/lang/Object;").before a0 Z = true) (w3 : (Cond.native ⟨"java/lang/Object", "clone", "()Ljava/lang/Object;"⟩).before a0 Z = true)
    (w4 : (Cond.instanceMethod ⟨"java/lang/Object", "clone", "()Ljava/lang/Object;"⟩).before a0 Z = true) (w5 : (Cond.selects ad ⟨ad, "clone", "()Ljava/lang/Object;"⟩ ⟨"java/lang/Object", "clone", "()Ljava/lang/Object;"⟩).before a0 Z = true) (w6 : (Cond.castable ad "java/lang/Cloneable").before a0 Z = true)
    (eT : T.heap = h) (A : own_A Z h a ty vs) (E : Exa Z h a ad) (hf : ∀ v ∈ vs, fits ty v = true) {g : JFrame} (hg : g.method = m) (hsize : g.locals.size = c.maxLocals) {rest : List Value} (hst : g.stack = .ref a :: rest) (hd : decode c.code g.pc = .ok (.invokevirtual index, 3))
    (hfr : 1 ≤ R.frames) {W cap : Nat} (hW : 2 * g.monitorRoom + (rest.map fun v => v.category).sum ≤ W) (hl : W + 14 ≤ R.locals) (hcap : vs.length ≤ cap) (hc : cells + 1 ≤ R.cells) (hsl : slots + cap ≤ R.slots) :
    ∃ T' h', Stand p l e R s m args below meth c T' locs (cells + 1) (slots + cap) ∧ T'.heap = h' ∧ Ext h h' ∧ own_A Z h' h.size ty vs ∧ Exa Z h' h.size ad ∧
      ∀ target, Steps p.tables e below (T'.setTop { g with pc := g.pc + 3, stack := .ref h.size :: rest }) target → Steps p.tables e below (T.setTop g) target := by
  obtain ⟨cl, A, rfl⟩ := A
  have FC : FitC Z cl := fitC_of A fun i hi v hv => hf v (by
    rw [← Array.getElem?_toList] at hv
    exact List.mem_of_getElem? hv)
  obtain ⟨T', h', X', e', ex, A', E', st⟩ := cloneA X hx hZ hown w1 w2 w3 w4 w5 w6 eT A E FC hg hsize hst hd hfr hW hl (by simpa using hcap) hc hsl
  exact ⟨T', h', X', e', ex, ⟨_, A', rfl⟩, E', st⟩
def own_Ov (C : String) (Z : State) (h : Heap) (a : Addr) : Prop := ∃ c : Cell, h[a]? = some c ∧ Ovr Z c.cls C
theorem own_Ov.lt {C : String} (F : own_Ov C Z h a) : a < h.size := by obtain ⟨c, q, -⟩ := F; exact (Array.getElem?_eq_some_iff.mp q).1
theorem own_Ov.ext {C : String} (F : own_Ov C Z h a) (E : Ext h h') : own_Ov C Z h' a := by obtain ⟨c, q, r⟩ := F; exact ⟨c, E.2 _ _ q, r⟩
theorem own_Ov.other {C : String} {sl : Nat} {v : Value} (F : own_Ov C Z h a) (W : Wr h h' b sl v) (ne : a ≠ b) : own_Ov C Z h' a := by
  obtain ⟨c, q, r⟩ := F
  obtain ⟨c', q', -, -, -, e, -⟩ := wr_at W q
  exact ⟨c', q', by rw [e ne]; exact r⟩
theorem own_Ov.keep {C : String} {ws : List Addr} (F : own_Ov C Z h a) (K : Keep h h' ws) (ne : a ∉ ws) : own_Ov C Z h' a := by obtain ⟨c, q, r⟩ := F; exact ⟨c, K.2.1 _ _ q ne, r⟩
theorem own_newR {a0 : Array Value} (X : Stand p l e R s m args below meth c T locs cells slots) (hx : p.tables.exec = Jvm.exec) (hZ : Z.Warmed39 s.vm) {own C : String} {index : Nat} (hown : s.vm.findClass own = some m.cls) (w1 : (Cond.classLink own index C).before a0 Z = true) (w2 : (Cond.arrayOver (.object C)).before a0 Z = true) (eT : T.heap = h) {g : JFrame} (hg : g.method = m) (hd : decode c.code g.pc = .ok (.anewarray index, 3)) {n : Int32} {rest : List Value} (hs : g.stack = .int n :: rest)
    {k cap : Nat} (hk : n.toInt = (k : Int)) (hcap : k ≤ cap) (hb : cap * 8 ≤ 536870912) (hc : cells + 1 ≤ R.cells) (hl : slots + cap ≤ R.slots) {ad : String} (had : "[" ++ (FieldType.object C).toString = ad) :
    ∃ T' h', Stand p l e R s m args below meth c T' locs (cells + 1) (slots + cap) ∧ T'.heap = h' ∧ Ext h h' ∧ own_A Z h' h.size (.object C) (List.replicate k .null) ∧ Exa Z h' h.size ad ∧ own_Ov C Z h' h.size ∧
      ∀ target, Steps p.tables e below (T'.setTop { g with pc := g.pc + 3, stack := .ref h.size :: rest }) target → Steps p.tables e below (T.setTop g) target := by
  obtain ⟨n0, n1⟩ := own_ix hk
  obtain ⟨T', h', cA, X', e', E', A', x', O', st⟩ := newRE X hx hZ hown w1 w2 eT hg hd hs n0 (cap := cap) (by rw [n1]; exact hcap) hb hc hl had
  exact ⟨T', h', X', e', E', ⟨_, A', by simp [newA, n1, defaultValue]⟩, x', ⟨_, A'.1, O'⟩, st⟩
theorem own_stR {C : String} (X : Stand p l e R s m args below meth c T locs cells slots) (hx : p.tables.exec = Jvm.exec) (hZ : Z.Warmed39 s.vm) (eT : T.heap = h) (A : own_A Z h a (.object C) vs) (O : own_Ov C Z h a) {y : Addr} (I : Ins Z h y C true) {j : Int32} {i : Nat} (hj : j.toInt = (i : Int)) (hi : i < vs.length) {g : JFrame} (hg : g.method = m) {rest : List Value} (hs : g.stack = .ref y :: .int j :: .ref a :: rest) (hd : decode c.code g.pc = .ok (.aastore, 1)) :
    ∃ T' h', Stand p l e R s m args below meth c T' (locs ++ [⟨a, i⟩]) cells slots ∧ T'.heap = h' ∧ Wr h h' a i (.ref y) ∧ own_A Z h' a (.object C) (vs.set i (.ref y)) ∧ ∀ target, Steps p.tables e below (T'.setTop { g with pc := g.pc + 1, stack := rest }) target → Steps p.tables e below (T.setTop g) target := by
  obtain ⟨cl, A, rfl⟩ := A
  obtain ⟨c2, q, r⟩ := O
  cases A.1.symm.trans q
  have hin := (own_in (cl := cl) (v := cl.slots.toList[i]) hj (List.getElem?_eq_getElem hi)).1
  obtain ⟨T', h', X', e', W', st⟩ := stR X hx hZ eT A (j := j) (v := .ref y) hin rfl (Sto.of A r I) hg hs hd
  rw [(own_ix hj).2] at X' W'
  exact ⟨T', h', X', e', W', own_A.set ⟨cl, A, rfl⟩ W', st⟩
theorem own_len (X : Stand p l e R s m args below meth c T locs cells slots) (hx : p.tables.exec = Jvm.exec) (hZ : Z.Warmed39 s.vm) (eT : T.heap = h) (A : own_A Z h a ty vs) {n : Int32} (hn : n.toInt = (vs.length : Int)) {g : JFrame} (hg : g.method = m) {rest : List Value} (hs : g.stack = .ref a :: rest) (hd : decode c.code g.pc = .ok (.arraylength, 1)) {t : State}
    (k : Steps p.tables e below (T.setTop { g with pc := g.pc + 1, stack := .int n :: rest }) t) : Steps p.tables e below (T.setTop g) t := by
  obtain ⟨cl, A, rfl⟩ := A
  have h1 := n.toInt_lt
  have h2 : cl.slots.size.toInt32 = n := by
    refine Int32.toInt_inj.mp ?_
    rw [hn]
    have h3 : cl.slots.toList.length = cl.slots.size := by simp
    rw [h3] at hn ⊢
    exact len_toInt (by omega)
  refine X.arraylength hx (by rw [eT]; exact A.1) (State.isArrayOf_alike hZ.alike A.2.1) hg hs hd _ ?_
  rw [h2]; exact k
theorem own_lrem (X : Stand p l e R s m args below meth c T locs cells slots) (hx : p.tables.exec = Jvm.exec) {g : JFrame} (hg : g.method = m) {x y : Int64} {rest : List Value} (hd : decode c.code g.pc = .ok (.lrem, 1)) (hs : g.stack = .long y :: .long x :: rest) (hy : y ≠ 0) {t : State}
    (k : Steps p.tables e below (T.setTop { g with pc := g.pc + 1, stack := .long (x % y) :: rest }) t) : Steps p.tables e below (T.setTop g) t := XS.lrem X.here hx hg hd hs hy (by rw [lrem_mod]; exact k)
end OwnA
theorem own_Sta.keep {Z : State} {h h' : Heap} {ws : List Addr} {C n d : String} {v : Value} (F : Sta Z h C n d v) (K : Keep h h' ws) (q : ∀ st ∈ ws, ∀ cell : Cell, h[st]? = some cell → cell.vm.isStatics = false) : Sta Z h' C n d v := by
  obtain ⟨cf, i, k, f, st, cell, h1, h2, h3, h4, h5, h6, h7⟩ := F
  refine ⟨cf, i, k, f, st, cell, h1, h2, h3, h4, K.2.1 st cell h5 fun hm => ?_, h6, h7⟩
  rw [q st hm cell h5] at h6
  cases h6
theorem own_z_eq_t {c : Prop} [Decidable c] (h : ¬ c) : ifCond.holds .eq (if c then (1 : Int32) else 0) = true := by rw [if_neg h]; rfl
theorem own_z_eq_f {c : Prop} [Decidable c] (h : c) : ifCond.holds .eq (if c then (1 : Int32) else 0) = false := by rw [if_pos h]; rfl
theorem own_z_ne_t {c : Prop} [Decidable c] (h : c) : ifCond.holds .ne (if c then (1 : Int32) else 0) = true := by rw [if_pos h]; rfl
theorem own_z_ne_f {c : Prop} [Decidable c] (h : ¬ c) : ifCond.holds .ne (if c then (1 : Int32) else 0) = false := by rw [if_neg h]; rfl
theorem own_z_nar {c : Prop} [Decidable c] : nar .boolean (if c then (1 : Int32) else 0) = if c then (1 : Int32) else 0 := by split <;> rfl
/-- two slots that hold nothing or a long, whose value nobody reads again -/
def own_Two (a b : Slot) : Prop := (a = .unset ∧ b = .unset) ∨ ∃ z, a = .val (.long z) ∧ b = .second
theorem own_plainE {Z : State} {h : Heap} {a : Addr} {C : String} (F : Exa Z h a C) : ∀ cell : Cell, h[a]? = some cell → cell.vm.isStatics = false := fun cell hc => by
  obtain ⟨c, k, h1, -, -, h4, -⟩ := F
  cases h1.symm.trans hc
  exact h4
theorem own_plainA {Z : State} {h : Heap} {a : Addr} {ty : FieldType} {vs : List Value} (F : own_A Z h a ty vs) : ∀ cell : Cell, h[a]? = some cell → cell.vm.isStatics = false := fun cell hc => by
  obtain ⟨c, A, -⟩ := F
  cases A.1.symm.trans hc
  exact A.plain
theorem own_pop2 {tb : Tables} [Ours tb] {e : Env} {below : List Frame} {T target : State} {m : MethodId} {c : Code} {g : JFrame} (h : At T m c below) (hx : tb.exec = Jvm.exec) (hg : g.method = m) {x : Int64} {rest : List Value} (hd : decode c.code g.pc = .ok (.pop2, 1)) (hs : g.stack = .long x :: rest)
    (hr : Steps tb e below (T.setTop { g with pc := g.pc + 1, stack := rest }) target) : Steps tb e below (T.setTop g) target := by
  subst hg
  jvm_step h [h.top, hx, hd, hs, Value.category]
  exact hr
theorem own_min1 {i : Int32} {n : Nat} (h0 : 0 ≤ i.toInt) (h1 : i.toInt < (n : Int)) (hn : n < 1000) : (i + 1).toInt.toNat = i.toInt.toNat + 1 ∧ (i + 1).toInt = i.toInt + 1 := by
  have h2 := c_iadd i 1
  have h3 := rng32 (i + 1)
  have h4 : (1 : Int32).toInt = 1 := rfl
  omega
theorem own_ltN {i : Int32} {n : Nat} (hn : n < 1000) : i < n.toInt32 ↔ i.toInt < (n : Int) := by
  rw [Int32.lt_iff_toInt_lt, len_toInt (by omega)]
theorem own_getI {bs : List Int32} {i : Nat} (h : i < bs.length) : (bs.map Value.int)[i]? = some (.int (bs.getD i 0)) := by
  simp [List.getElem?_map, h]
theorem own_nat {i : Int32} (h : 0 ≤ i.toInt) : i.toInt = ((i.toInt.toNat : Nat) : Int) := by omega
theorem w_0 {a0 : Array Value} {Z : State} (hw : ∀ d ∈ tables_1, d.before a0 Z = true) : (Jvm.Cond.constant "com/example/libentkey/libentkey/codec/KeyReaderHasMorePinLaw" (7 : Nat) (2147483647 : Int32)).before a0 Z = true := hw _ (List.mem_of_getElem? (i := 0) rfl)
theorem w_1 {a0 : Array Value} {Z : State} (hw : ∀ d ∈ tables_1, d.before a0 Z = true) : (Jvm.Cond.arrayClass Jvm.ClassFile.FieldType.byte).before a0 Z = true := hw _ (List.mem_of_getElem? (i := 1) rfl)
theorem w_2 {a0 : Array Value} {Z : State} (hw : ∀ d ∈ tables_1, d.before a0 Z = true) : (Jvm.Cond.classLink "com/example/libentkey/libentkey/codec/KeyReaderHasMorePinLaw" (8 : Nat) "com/example/libentkey/libentkey/codec/KeyReader").before a0 Z = true := hw _ (List.mem_of_getElem? (i := 2) rfl)
theorem w_3 {a0 : Array Value} {Z : State} (hw : ∀ d ∈ tables_1, d.before a0 Z = true) : (Jvm.Cond.instantiable "com/example/libentkey/libentkey/codec/KeyReader" (4 : Nat)).before a0 Z = true := hw _ (List.mem_of_getElem? (i := 3) rfl)
theorem w_4 {a0 : Array Value} {Z : State} (hw : ∀ d ∈ tables_1, d.before a0 Z = true) : (Jvm.Cond.initialized "com/example/libentkey/libentkey/codec/KeyReader").before a0 Z = true := hw _ (List.mem_of_getElem? (i := 4) rfl)
theorem w_5 {a0 : Array Value} {Z : State} (hw : ∀ d ∈ tables_1, d.before a0 Z = true) : (Jvm.Cond.methodLink "com/example/libentkey/libentkey/codec/KeyReaderHasMorePinLaw" (10 : Nat) ({ cls := "com/example/libentkey/libentkey/codec/KeyReader", name := "<init>", desc := "([B)V" } : Jvm.MethodName)).before a0 Z = true := hw _ (List.mem_of_getElem? (i := 5) rfl)
theorem w_6 {a0 : Array Value} {Z : State} (hw : ∀ d ∈ tables_1, d.before a0 Z = true) : (Jvm.Cond.instanceMethod ({ cls := "com/example/libentkey/libentkey/codec/KeyReader", name := "<init>", desc := "([B)V" } : Jvm.MethodName)).before a0 Z = true := hw _ (List.mem_of_getElem? (i := 6) rfl)
theorem w_7 {a0 : Array Value} {Z : State} (hw : ∀ d ∈ tables_1, d.before a0 Z = true) : (Jvm.Cond.code ({ cls := "com/example/libentkey/libentkey/codec/KeyReader", name := "<init>", desc := "([B)V" } : Jvm.MethodName) prog_22_method_1_code (2 : Nat) (Option.none : Option Jvm.ClassFile.FieldType)).before a0 Z = true := hw _ (List.mem_of_getElem? (i := 7) rfl)
theorem w_8 {a0 : Array Value} {Z : State} (hw : ∀ d ∈ tables_1, d.before a0 Z = true) : (Jvm.Cond.methodLink "com/example/libentkey/libentkey/codec/KeyReader" (1 : Nat) ({ cls := "java/lang/Object", name := "<init>", desc := "()V" } : Jvm.MethodName)).before a0 Z = true := hw _ (List.mem_of_getElem? (i := 8) rfl)
theorem w_9 {a0 : Array Value} {Z : State} (hw : ∀ d ∈ tables_1, d.before a0 Z = true) : (Jvm.Cond.instanceMethod ({ cls := "java/lang/Object", name := "<init>", desc := "()V" } : Jvm.MethodName)).before a0 Z = true := hw _ (List.mem_of_getElem? (i := 9) rfl)
theorem w_10 {a0 : Array Value} {Z : State} (hw : ∀ d ∈ tables_1, d.before a0 Z = true) : (Jvm.Cond.code ({ cls := "java/lang/Object", name := "<init>", desc := "()V" } : Jvm.MethodName) object_method_1_code (1 : Nat) (Option.none : Option Jvm.ClassFile.FieldType)).before a0 Z = true := hw _ (List.mem_of_getElem? (i := 10) rfl)
theorem w_11 {a0 : Array Value} {Z : State} (hw : ∀ d ∈ tables_1, d.before a0 Z = true) : (Jvm.Cond.fieldLink "com/example/libentkey/libentkey/codec/KeyReader" (7 : Nat) "com/example/libentkey/libentkey/codec/KeyReader" "key" "[B").before a0 Z = true := hw _ (List.mem_of_getElem? (i := 11) rfl)
theorem w_12 {a0 : Array Value} {Z : State} (hw : ∀ d ∈ tables_1, d.before a0 Z = true) : (Jvm.Cond.laysFinal "com/example/libentkey/libentkey/codec/KeyReader" "com/example/libentkey/libentkey/codec/KeyReader" "key" "[B").before a0 Z = true := hw _ (List.mem_of_getElem? (i := 12) rfl)
theorem w_13 {a0 : Array Value} {Z : State} (hw : ∀ d ∈ tables_1, d.before a0 Z = true) : (Jvm.Cond.methodLink "com/example/libentkey/libentkey/codec/KeyReaderHasMorePinLaw" (13 : Nat) ({ cls := "com/example/libentkey/libentkey/codec/KeyReader", name := "hasMore", desc := "()Z" } : Jvm.MethodName)).before a0 Z = true := hw _ (List.mem_of_getElem? (i := 13) rfl)
theorem w_14 {a0 : Array Value} {Z : State} (hw : ∀ d ∈ tables_1, d.before a0 Z = true) : (Jvm.Cond.declares ({ cls := "com/example/libentkey/libentkey/codec/KeyReader", name := "hasMore", desc := "()Z" } : Jvm.MethodName)).before a0 Z = true := hw _ (List.mem_of_getElem? (i := 14) rfl)
theorem w_15 {a0 : Array Value} {Z : State} (hw : ∀ d ∈ tables_1, d.before a0 Z = true) : (Jvm.Cond.instanceMethod ({ cls := "com/example/libentkey/libentkey/codec/KeyReader", name := "hasMore", desc := "()Z" } : Jvm.MethodName)).before a0 Z = true := hw _ (List.mem_of_getElem? (i := 15) rfl)
theorem w_16 {a0 : Array Value} {Z : State} (hw : ∀ d ∈ tables_1, d.before a0 Z = true) : (Jvm.Cond.selects "com/example/libentkey/libentkey/codec/KeyReader" ({ cls := "com/example/libentkey/libentkey/codec/KeyReader", name := "hasMore", desc := "()Z" } : Jvm.MethodName) ({ cls := "com/example/libentkey/libentkey/codec/KeyReader", name := "hasMore", desc := "()Z" } : Jvm.MethodName)).before a0 Z = true := hw _ (List.mem_of_getElem? (i := 16) rfl)
theorem w_17 {a0 : Array Value} {Z : State} (hw : ∀ d ∈ tables_1, d.before a0 Z = true) : (Jvm.Cond.code ({ cls := "com/example/libentkey/libentkey/codec/KeyReader", name := "hasMore", desc := "()Z" } : Jvm.MethodName) prog_22_method_2_code (1 : Nat) (Option.some Jvm.ClassFile.FieldType.boolean)).before a0 Z = true := hw _ (List.mem_of_getElem? (i := 17) rfl)
theorem w_18 {a0 : Array Value} {Z : State} (hw : ∀ d ∈ tables_1, d.before a0 Z = true) : (Jvm.Cond.fieldLink "com/example/libentkey/libentkey/codec/KeyReader" (13 : Nat) "com/example/libentkey/libentkey/codec/KeyReader" "position" "I").before a0 Z = true := hw _ (List.mem_of_getElem? (i := 18) rfl)
theorem w_19 {a0 : Array Value} {Z : State} (hw : ∀ d ∈ tables_1, d.before a0 Z = true) : (Jvm.Cond.lays "com/example/libentkey/libentkey/codec/KeyReader" "com/example/libentkey/libentkey/codec/KeyReader" "position" "I").before a0 Z = true := hw _ (List.mem_of_getElem? (i := 19) rfl)
theorem w_20 {a0 : Array Value} {Z : State} (hw : ∀ d ∈ tables_1, d.before a0 Z = true) : (Jvm.Cond.methodLink "com/example/libentkey/libentkey/codec/KeyReaderHasMorePinLaw" (17 : Nat) ({ cls := "java/lang/Math", name := "min", desc := "(II)I" } : Jvm.MethodName)).before a0 Z = true := hw _ (List.mem_of_getElem? (i := 20) rfl)
theorem w_21 {a0 : Array Value} {Z : State} (hw : ∀ d ∈ tables_1, d.before a0 Z = true) : (Jvm.Cond.static ({ cls := "java/lang/Math", name := "min", desc := "(II)I" } : Jvm.MethodName)).before a0 Z = true := hw _ (List.mem_of_getElem? (i := 21) rfl)
theorem w_22 {a0 : Array Value} {Z : State} (hw : ∀ d ∈ tables_1, d.before a0 Z = true) : (Jvm.Cond.initialized "java/lang/Math").before a0 Z = true := hw _ (List.mem_of_getElem? (i := 22) rfl)
theorem w_23 {a0 : Array Value} {Z : State} (hw : ∀ d ∈ tables_1, d.before a0 Z = true) : (Jvm.Cond.code ({ cls := "java/lang/Math", name := "min", desc := "(II)I" } : Jvm.MethodName) jdk_29_method_69_code (2 : Nat) (Option.some Jvm.ClassFile.FieldType.int)).before a0 Z = true := hw _ (List.mem_of_getElem? (i := 23) rfl)
theorem w_24 {a0 : Array Value} {Z : State} (hw : ∀ d ∈ tables_1, d.before a0 Z = true) : (Jvm.Cond.methodLink "com/example/libentkey/libentkey/codec/KeyReaderHasMorePinLaw" (23 : Nat) ({ cls := "com/example/libentkey/libentkey/codec/KeyReader", name := "nextLong", desc := "(I)J" } : Jvm.MethodName)).before a0 Z = true := hw _ (List.mem_of_getElem? (i := 24) rfl)
theorem w_25 {a0 : Array Value} {Z : State} (hw : ∀ d ∈ tables_1, d.before a0 Z = true) : (Jvm.Cond.declares ({ cls := "com/example/libentkey/libentkey/codec/KeyReader", name := "nextLong", desc := "(I)J" } : Jvm.MethodName)).before a0 Z = true := hw _ (List.mem_of_getElem? (i := 25) rfl)
theorem w_26 {a0 : Array Value} {Z : State} (hw : ∀ d ∈ tables_1, d.before a0 Z = true) : (Jvm.Cond.instanceMethod ({ cls := "com/example/libentkey/libentkey/codec/KeyReader", name := "nextLong", desc := "(I)J" } : Jvm.MethodName)).before a0 Z = true := hw _ (List.mem_of_getElem? (i := 26) rfl)
theorem w_27 {a0 : Array Value} {Z : State} (hw : ∀ d ∈ tables_1, d.before a0 Z = true) : (Jvm.Cond.selects "com/example/libentkey/libentkey/codec/KeyReader" ({ cls := "com/example/libentkey/libentkey/codec/KeyReader", name := "nextLong", desc := "(I)J" } : Jvm.MethodName) ({ cls := "com/example/libentkey/libentkey/codec/KeyReader", name := "nextLong", desc := "(I)J" } : Jvm.MethodName)).before a0 Z = true := hw _ (List.mem_of_getElem? (i := 27) rfl)
theorem w_28 {a0 : Array Value} {Z : State} (hw : ∀ d ∈ tables_1, d.before a0 Z = true) : (Jvm.Cond.code ({ cls := "com/example/libentkey/libentkey/codec/KeyReader", name := "nextLong", desc := "(I)J" } : Jvm.MethodName) prog_22_method_8_code (6 : Nat) (Option.some Jvm.ClassFile.FieldType.long)).before a0 Z = true := hw _ (List.mem_of_getElem? (i := 28) rfl)
theorem w_29 {a0 : Array Value} {Z : State} (hw : ∀ d ∈ tables_1, d.before a0 Z = true) : (Jvm.Cond.methodLink "com/example/libentkey/libentkey/codec/KeyReaderHasMorePinLaw" (27 : Nat) ({ cls := "com/example/libentkey/libentkey/codec/KeyReader", name := "position", desc := "()I" } : Jvm.MethodName)).before a0 Z = true := hw _ (List.mem_of_getElem? (i := 29) rfl)
theorem w_30 {a0 : Array Value} {Z : State} (hw : ∀ d ∈ tables_1, d.before a0 Z = true) : (Jvm.Cond.declares ({ cls := "com/example/libentkey/libentkey/codec/KeyReader", name := "position", desc := "()I" } : Jvm.MethodName)).before a0 Z = true := hw _ (List.mem_of_getElem? (i := 30) rfl)
theorem w_31 {a0 : Array Value} {Z : State} (hw : ∀ d ∈ tables_1, d.before a0 Z = true) : (Jvm.Cond.instanceMethod ({ cls := "com/example/libentkey/libentkey/codec/KeyReader", name := "position", desc := "()I" } : Jvm.MethodName)).before a0 Z = true := hw _ (List.mem_of_getElem? (i := 31) rfl)
theorem w_32 {a0 : Array Value} {Z : State} (hw : ∀ d ∈ tables_1, d.before a0 Z = true) : (Jvm.Cond.selects "com/example/libentkey/libentkey/codec/KeyReader" ({ cls := "com/example/libentkey/libentkey/codec/KeyReader", name := "position", desc := "()I" } : Jvm.MethodName) ({ cls := "com/example/libentkey/libentkey/codec/KeyReader", name := "position", desc := "()I" } : Jvm.MethodName)).before a0 Z = true := hw _ (List.mem_of_getElem? (i := 32) rfl)
theorem w_33 {a0 : Array Value} {Z : State} (hw : ∀ d ∈ tables_1, d.before a0 Z = true) : (Jvm.Cond.code ({ cls := "com/example/libentkey/libentkey/codec/KeyReader", name := "position", desc := "()I" } : Jvm.MethodName) prog_22_method_3_code (1 : Nat) (Option.some Jvm.ClassFile.FieldType.int)).before a0 Z = true := hw _ (List.mem_of_getElem? (i := 33) rfl)
theorem own_pn1 : plainName "com/example/libentkey/libentkey/codec/KeyReader" = true := by first | (simp [plainName, overriddenIn]; done) | decide +kernel
theorem d1_0 : decode prog_22_method_1_code 0 = .ok (.aload_n 0, 1) := by decide +kernel
theorem d1_1 : decode prog_22_method_1_code 1 = .ok (.invokespecial 1, 3) := by decide +kernel
theorem d1_4 : decode prog_22_method_1_code 4 = .ok (.aload_n 0, 1) := by decide +kernel
theorem d1_5 : decode prog_22_method_1_code 5 = .ok (.aload_n 1, 1) := by decide +kernel
theorem d1_6 : decode prog_22_method_1_code 6 = .ok (.putfield 7, 3) := by decide +kernel
theorem d1_9 : decode prog_22_method_1_code 9 = .ok (.return_, 1) := by decide +kernel
theorem ef_1 (m : MethodId) (x0 : Addr) (x1 : Addr) : entryFrame m #[(.ref x0), (.ref x1)] 2 = mkF m 0 #[.val (.ref x0), .val (.ref x1)] [] := by first | (simp [entryFrame, mkF, argsToLocals, Value.category]; done) | rfl
def Q1 (Z : State) (a1 : Addr) (a2 : Addr) (h0 : Heap) (n0 : Nat) (v : Option Value) (h : Heap) (L : List Loc) : Prop := v = none ∧ Fr n0 L ∧ Keep h0 h [a1] ∧ Exa Z h a1 "com/example/libentkey/libentkey/codec/KeyReader" ∧ Fld Z h a1 "com/example/libentkey/libentkey/codec/KeyReader" "key" "[B" (.ref a2) ∧ Fld Z h a1 "com/example/libentkey/libentkey/codec/KeyReader" "position" "I" (.int (0 : Int32))
set_option maxHeartbeats 40000000 in
theorem rm1 (l : Launch) (Z : State) (a0 : Array Value) (hw : ∀ d ∈ tables_1, d.before a0 Z = true) (ws : List Jvm.Cond) (a1 : Addr) (a2 : Addr) (h0 : Heap) (n0 : Nat) (Z0 : n0 ≤ h0.size) (F0 : Exa Z h0 a1 "com/example/libentkey/libentkey/codec/KeyReader") (F1 : Fld Z h0 a1 "com/example/libentkey/libentkey/codec/KeyReader" "key" "[B" .null) (F2 : Fld Z h0 a1 "com/example/libentkey/libentkey/codec/KeyReader" "position" "I" (.int (0 : Int32))) (ga : n0 ≤ a1) :
    MetFree l (⟨"com/example/libentkey/libentkey/codec/KeyReader", "<init>", "([B)V"⟩ : MethodName) (head1 (Jvm.Cond.code (⟨"com/example/libentkey/libentkey/codec/KeyReader", "<init>", "([B)V"⟩ : MethodName) prog_22_method_1_code 2 none :: ws) ({ frames := 1, cells := 0, slots := 0, locals := 12 } : Room)) (fun a U => a = #[(.ref a1), (.ref a2)] ∧ Z.Warmed39 U.vm ∧ U.heap = h0) (fun _ _ _ _ _ => True) (fun _ U o U' => ∃ v L, o = .returned v ∧ Q1 Z a1 a2 h0 n0 v U'.heap L ∧ FrameEnd U o U' L ({ frames := 1, cells := 0, slots := 0, locals := 12 } : Room).cells ({ frames := 1, cells := 0, slots := 0, locals := 12 } : Room).slots) := by
  refine MetFree.of_bodySF (plainFor_of_name own_pn1) hisR ?_
  intro p e s m args below meth c s₁ Bd hml0 hP hK
  obtain ⟨rfl, hZ, hh⟩ := hP
  have hx := Bd.exec
  have hby := Bd.bytes
  have hml : c.maxLocals = 2 := hml0
  have hlk : meth.locks = false := BodyLoose.notSynchronized Bd
  have hown : s.vm.findClass "com/example/libentkey/libentkey/codec/KeyReader" = some m.cls := findClass_of_methodNamed Bd.named
  have hnm := (name_of_methodNamed Bd.named Bd.method).1
  have X0 : Stand p l e ({ frames := 1, cells := 0, slots := 0, locals := 12 } : Room) s m #[(.ref a1), (.ref a2)] below meth c s₁ [] 0 0 := Stand.of_body Bd
  have e0 : s₁.heap = h0 := by rw [← hh, Bd.state]; rfl
  have N0 := Fr.nil n0
  show own_Go p e below s (Q1 Z a1 a2 h0 n0) ({ frames := 1, cells := 0, slots := 0, locals := 12 } : Room).cells ({ frames := 1, cells := 0, slots := 0, locals := 12 } : Room).slots _
  refine own_st (B := s₁.setTop (mkF m 0 #[.val (.ref a1), .val (.ref a2)] [])) (fun t k => castTop (ef_1 m (a1) (a2)) k) ?_
  refine own_st (B := s₁.setTop (mkF m 1 #[.val (.ref a1), .val (.ref a2)] [(.ref a1)])) (fun t k => XS.aloadN X0.here hx rfl (hb hby d1_0) rfl rfl k) ?_
  obtain ⟨T1, X1, e1, st1⟩ := initO X0 hx hZ hown (w_8 hw) (w_9 hw) (w_10 hw) e0 (g := (mkF m 1 #[.val (.ref a1), .val (.ref a2)] [(.ref a1)])) rfl (by rw [hml]; rfl) rfl (hb hby d1_1) (by decide) (W := 0) (by show 2 * 0 + _ ≤ _; exact Nat.le_of_eq rfl) (by decide)
  refine own_st (B := T1.setTop (mkF m 4 #[.val (.ref a1), .val (.ref a2)] [])) (fun t k => st1 t k) ?_
  refine own_st (B := T1.setTop (mkF m 5 #[.val (.ref a1), .val (.ref a2)] [(.ref a1)])) (fun t k => XS.aloadN X1.here hx rfl (hb hby d1_4) rfl rfl k) ?_
  refine own_st (B := T1.setTop (mkF m 6 #[.val (.ref a1), .val (.ref a2)] [(.ref a2), (.ref a1)])) (fun t k => XS.aloadN X1.here hx rfl (hb hby d1_5) rfl rfl k) ?_
  obtain ⟨T2, h2, X2, e2, W2, st2⟩ := putF X1 hx hZ hown (host := "") (Or.inl (w_11 hw)) Via.refl e1 F1 F0 (Or.inr ⟨(w_12 hw), rfl, hnm⟩) (w_3 hw) (ty := (.array .byte)) (by decide) rfl rfl (g := (mkF m 6 #[.val (.ref a1), .val (.ref a2)] [(.ref a2), (.ref a1)])) rfl rfl (hb hby d1_6)
  have f2_ : Fld Z h2 a1 "com/example/libentkey/libentkey/codec/KeyReader" "key" "[B" (.ref a2) := F1.same W2
  have z3 : n0 ≤ h2.size := Nat.le_trans Z0 (Keep.of_wr W2).1
  have kp3 : Keep h0 h2 [a1] := (Keep.refl h0 [a1]).wr W2 (Or.inl (List.mem_of_getElem? (i := 0) rfl))
  have n4 := Fr.snoc X2 N0 ga
  refine own_st (B := T2.setTop (mkF m 9 #[.val (.ref a1), .val (.ref a2)] [])) (fun t k => st2 t k) ?_
  refine own_retV X2 hx hlk Bd.returns (hb hby d1_9) (by decide) (by decide) ?_
  show Q1 Z a1 a2 h0 n0 _ T2.heap _
  rw [e2]
  have f5 : Exa Z h2 a1 "com/example/libentkey/libentkey/codec/KeyReader" := (F0.wr W2)
  have f6 : Fld Z h2 a1 "com/example/libentkey/libentkey/codec/KeyReader" "position" "I" (.int (0 : Int32)) := (F2.other W2 (Or.inr (slot_ne (Or.inl (w_19 hw)) (Or.inr (w_12 hw)) (by decide) (t := .int) (t' := (.array .byte)) (by decide) (by decide))))
  exact ⟨rfl, n4, kp3, f5, f2_, f6⟩
theorem d3_0 : decode prog_22_method_2_code 0 = .ok (.aload_n 0, 1) := by decide +kernel
theorem d3_1 : decode prog_22_method_2_code 1 = .ok (.getfield 13, 3) := by decide +kernel
theorem d3_4 : decode prog_22_method_2_code 4 = .ok (.aload_n 0, 1) := by decide +kernel
theorem d3_5 : decode prog_22_method_2_code 5 = .ok (.getfield 7, 3) := by decide +kernel
theorem d3_8 : decode prog_22_method_2_code 8 = .ok (.arraylength, 1) := by decide +kernel
theorem d3_9 : decode prog_22_method_2_code 9 = .ok (.if_icmp .ge 7, 3) := by decide +kernel
theorem d3_12 : decode prog_22_method_2_code 12 = .ok (.iconst 1, 1) := by decide +kernel
theorem d3_13 : decode prog_22_method_2_code 13 = .ok (.goto 4, 3) := by decide +kernel
theorem d3_16 : decode prog_22_method_2_code 16 = .ok (.iconst 0, 1) := by decide +kernel
theorem d3_17 : decode prog_22_method_2_code 17 = .ok (.ireturn, 1) := by decide +kernel
theorem ef_3 (m : MethodId) (x0 : Addr) : entryFrame m #[(.ref x0)] 1 = mkF m 0 #[.val (.ref x0)] [] := by first | (simp [entryFrame, mkF, argsToLocals, Value.category]; done) | rfl
def Q3 (Z : State) (a1 : Addr) (b : Addr) (p1 : Int32) (vs : List Value) (nn : Int32) (h0 : Heap) (n0 : Nat) (v : Option Value) (h : Heap) (L : List Loc) : Prop := v = some (.int (if p1 < nn then (1 : Int32) else 0)) ∧ Fr n0 L ∧ h = h0
set_option maxHeartbeats 40000000 in
theorem rm3 (l : Launch) (Z : State) (a0 : Array Value) (hw : ∀ d ∈ tables_1, d.before a0 Z = true) (ws : List Jvm.Cond) (a1 : Addr) (b : Addr) (p1 : Int32) (vs : List Value) (nn : Int32) (h0 : Heap) (n0 : Nat) (Z0 : n0 ≤ h0.size) (F0 : Fld Z h0 a1 "com/example/libentkey/libentkey/codec/KeyReader" "key" "[B" (.ref b)) (F1 : Fld Z h0 a1 "com/example/libentkey/libentkey/codec/KeyReader" "position" "I" (.int p1)) (F2 : own_A Z h0 b .byte vs) (hn : nn.toInt = (vs.length : Int)) :
    MetFree l (⟨"com/example/libentkey/libentkey/codec/KeyReader", "hasMore", "()Z"⟩ : MethodName) (head1 (Jvm.Cond.code (⟨"com/example/libentkey/libentkey/codec/KeyReader", "hasMore", "()Z"⟩ : MethodName) prog_22_method_2_code 1 (some .boolean) :: ws) ({ frames := 0, cells := 0, slots := 0, locals := 0 } : Room)) (fun a U => a = #[(.ref a1)] ∧ Z.Warmed39 U.vm ∧ U.heap = h0) (fun _ _ _ _ _ => True) (fun _ U o U' => ∃ v L, o = .returned v ∧ Q3 Z a1 b p1 vs nn h0 n0 v U'.heap L ∧ FrameEnd U o U' L ({ frames := 0, cells := 0, slots := 0, locals := 0 } : Room).cells ({ frames := 0, cells := 0, slots := 0, locals := 0 } : Room).slots) := by
  refine MetFree.of_bodySF (plainFor_of_name own_pn1) hisR ?_
  intro p e s m args below meth c s₁ Bd hml0 hP hK
  obtain ⟨rfl, hZ, hh⟩ := hP
  have hx := Bd.exec
  have hby := Bd.bytes
  have hml : c.maxLocals = 1 := hml0
  have hlk : meth.locks = false := BodyLoose.notSynchronized Bd
  have hown : s.vm.findClass "com/example/libentkey/libentkey/codec/KeyReader" = some m.cls := findClass_of_methodNamed Bd.named
  have hnm := (name_of_methodNamed Bd.named Bd.method).1
  have X0 : Stand p l e ({ frames := 0, cells := 0, slots := 0, locals := 0 } : Room) s m #[(.ref a1)] below meth c s₁ [] 0 0 := Stand.of_body Bd
  have e0 : s₁.heap = h0 := by rw [← hh, Bd.state]; rfl
  have N0 := Fr.nil n0
  show own_Go p e below s (Q3 Z a1 b p1 vs nn h0 n0) ({ frames := 0, cells := 0, slots := 0, locals := 0 } : Room).cells ({ frames := 0, cells := 0, slots := 0, locals := 0 } : Room).slots _
  refine own_st (B := s₁.setTop (mkF m 0 #[.val (.ref a1)] [])) (fun t k => castTop (ef_3 m (a1)) k) ?_
  refine own_st (B := s₁.setTop (mkF m 1 #[.val (.ref a1)] [(.ref a1)])) (fun t k => XS.aloadN X0.here hx rfl (hb hby d3_0) rfl rfl k) ?_
  obtain ⟨T1, X1, e1, st1⟩ := getF X0 hx hZ hown (host := "") (Or.inl (w_18 hw)) Via.refl e0 F1 (g := (mkF m 1 #[.val (.ref a1)] [(.ref a1)])) rfl rfl (hb hby d3_1)
  refine own_st (B := T1.setTop (mkF m 4 #[.val (.ref a1)] [(.int p1)])) (fun t k => st1 t k) ?_
  refine own_st (B := T1.setTop (mkF m 5 #[.val (.ref a1)] [(.ref a1), (.int p1)])) (fun t k => XS.aloadN X1.here hx rfl (hb hby d3_4) rfl rfl k) ?_
  obtain ⟨T2, X2, e2, st2⟩ := getF X1 hx hZ hown (host := "") (Or.inl (w_11 hw)) Via.refl e1 F0 (g := (mkF m 5 #[.val (.ref a1)] [(.ref a1), (.int p1)])) rfl rfl (hb hby d3_5)
  refine own_st (B := T2.setTop (mkF m 8 #[.val (.ref a1)] [(.ref b), (.int p1)])) (fun t k => st2 t k) ?_
  refine own_st (B := T2.setTop (mkF m 9 #[.val (.ref a1)] [(.int nn), (.int p1)])) (fun t k => own_len X2 hx hZ e2 F2 (g := (mkF m 8 #[.val (.ref a1)] [(.ref b), (.int p1)])) (n := nn) hn rfl rfl (hb hby d3_8) k) ?_
  by_cases hc3 : p1 < nn
  · refine own_st (B := T2.setTop (mkF m 12 #[.val (.ref a1)] [])) (fun t k => XS.icmpNo X2.here hx rfl (hb hby d3_9) rfl (XT.ii_ge_f hc3) k) ?_
    refine own_st (B := T2.setTop (mkF m 13 #[.val (.ref a1)] [(.int (1 : Int32))])) (fun t k => XS.iconst X2.here hx rfl (hb hby d3_12) k) ?_
    refine own_st (B := T2.setTop (mkF m 17 #[.val (.ref a1)] [(.int (1 : Int32))])) (fun t k => XS.goto X2.here hx rfl (pc0 := 13) (pc' := 17) rfl (hb hby d3_13) (by decide) (by decide) k) ?_
    refine own_retN X2 hx hlk (t := .boolean) Bd.returns (by simp) (z' := (1 : Int32)) rfl (hb hby d3_17) (by decide) (by decide) ?_
    show Q3 Z a1 b p1 vs nn h0 n0 _ T2.heap _
    rw [e2]
    exact ⟨(by rw [if_pos hc3]), N0, rfl⟩
  · refine own_st (B := T2.setTop (mkF m 16 #[.val (.ref a1)] [])) (fun t k => XS.icmpYes X2.here hx rfl (pc0 := 9) (pc' := 16) rfl (hb hby d3_9) rfl (XT.ii_ge_t hc3) (by decide) (by decide) k) ?_
    refine own_st (B := T2.setTop (mkF m 17 #[.val (.ref a1)] [(.int (0 : Int32))])) (fun t k => XS.iconst X2.here hx rfl (hb hby d3_16) k) ?_
    refine own_retN X2 hx hlk (t := .boolean) Bd.returns (by simp) (z' := (0 : Int32)) rfl (hb hby d3_17) (by decide) (by decide) ?_
    show Q3 Z a1 b p1 vs nn h0 n0 _ T2.heap _
    rw [e2]
    exact ⟨(by rw [if_neg hc3]), N0, rfl⟩
theorem d4_0 : decode jdk_29_method_69_code 0 = .ok (.iload_n 0, 1) := by decide +kernel
theorem d4_1 : decode jdk_29_method_69_code 1 = .ok (.iload_n 1, 1) := by decide +kernel
theorem d4_2 : decode jdk_29_method_69_code 2 = .ok (.if_icmp .gt 7, 3) := by decide +kernel
theorem d4_5 : decode jdk_29_method_69_code 5 = .ok (.iload_n 0, 1) := by decide +kernel
theorem d4_6 : decode jdk_29_method_69_code 6 = .ok (.goto 4, 3) := by decide +kernel
theorem d4_9 : decode jdk_29_method_69_code 9 = .ok (.iload_n 1, 1) := by decide +kernel
theorem d4_10 : decode jdk_29_method_69_code 10 = .ok (.ireturn, 1) := by decide +kernel
theorem ef_4 (m : MethodId) (x0 : Int32) (x1 : Int32) : entryFrame m #[(.int x0), (.int x1)] 2 = mkF m 0 #[.val (.int x0), .val (.int x1)] [] := by first | (simp [entryFrame, mkF, argsToLocals, Value.category]; done) | rfl
def own_min (p1 : Int32) (p2 : Int32) : Int32 := (if p2 < p1 then p2 else p1)
def Q4 (Z : State) (p1 : Int32) (p2 : Int32) (h0 : Heap) (n0 : Nat) (v : Option Value) (h : Heap) (L : List Loc) : Prop := v = some (.int (own_min p1 p2)) ∧ Fr n0 L ∧ h = h0
set_option maxHeartbeats 40000000 in
theorem rm4 (l : Launch) (Z : State) (a0 : Array Value) (hw : ∀ d ∈ tables_1, d.before a0 Z = true) (ws : List Jvm.Cond) (p1 : Int32) (p2 : Int32) (h0 : Heap) (n0 : Nat) (Z0 : n0 ≤ h0.size) :
    MetFree l (⟨"java/lang/Math", "min", "(II)I"⟩ : MethodName) (head1 (Jvm.Cond.code (⟨"java/lang/Math", "min", "(II)I"⟩ : MethodName) jdk_29_method_69_code 2 (some .int) :: ws) ({ frames := 0, cells := 0, slots := 0, locals := 0 } : Room)) (fun a U => a = #[(.int p1), (.int p2)] ∧ Z.Warmed39 U.vm ∧ U.heap = h0) (fun _ _ _ _ _ => True) (fun _ U o U' => ∃ v L, o = .returned v ∧ Q4 Z p1 p2 h0 n0 v U'.heap L ∧ FrameEnd U o U' L ({ frames := 0, cells := 0, slots := 0, locals := 0 } : Room).cells ({ frames := 0, cells := 0, slots := 0, locals := 0 } : Room).slots) := by
  refine MetFree.of_bodySF (Jvm.Free.JP.mathPlain rfl (by decide +kernel)) hisR ?_
  intro p e s m args below meth c s₁ Bd hml0 hP hK
  obtain ⟨rfl, hZ, hh⟩ := hP
  have hx := Bd.exec
  have hby := Bd.bytes
  have hml : c.maxLocals = 2 := hml0
  have hlk : meth.locks = false := BodyLoose.notSynchronized Bd
  have hown : s.vm.findClass "java/lang/Math" = some m.cls := findClass_of_methodNamed Bd.named
  have hnm := (name_of_methodNamed Bd.named Bd.method).1
  have X0 : Stand p l e ({ frames := 0, cells := 0, slots := 0, locals := 0 } : Room) s m #[(.int p1), (.int p2)] below meth c s₁ [] 0 0 := Stand.of_body Bd
  have e0 : s₁.heap = h0 := by rw [← hh, Bd.state]; rfl
  have N0 := Fr.nil n0
  show own_Go p e below s (Q4 Z p1 p2 h0 n0) ({ frames := 0, cells := 0, slots := 0, locals := 0 } : Room).cells ({ frames := 0, cells := 0, slots := 0, locals := 0 } : Room).slots _
  refine own_st (B := s₁.setTop (mkF m 0 #[.val (.int p1), .val (.int p2)] [])) (fun t k => castTop (ef_4 m (p1) (p2)) k) ?_
  refine own_st (B := s₁.setTop (mkF m 1 #[.val (.int p1), .val (.int p2)] [(.int p1)])) (fun t k => XS.iloadN X0.here hx rfl (hb hby d4_0) rfl k) ?_
  refine own_st (B := s₁.setTop (mkF m 2 #[.val (.int p1), .val (.int p2)] [(.int p2), (.int p1)])) (fun t k => XS.iloadN X0.here hx rfl (hb hby d4_1) rfl k) ?_
  by_cases hc1 : p2 < p1
  · refine own_st (B := s₁.setTop (mkF m 9 #[.val (.int p1), .val (.int p2)] [])) (fun t k => XS.icmpYes X0.here hx rfl (pc0 := 2) (pc' := 9) rfl (hb hby d4_2) rfl (XT.ii_gt_t hc1) (by decide) (by decide) k) ?_
    refine own_st (B := s₁.setTop (mkF m 10 #[.val (.int p1), .val (.int p2)] [(.int p2)])) (fun t k => XS.iloadN X0.here hx rfl (hb hby d4_9) rfl k) ?_
    refine own_retI X0 hx hlk Bd.returns (hb hby d4_10) (by decide) (by decide) ?_
    show Q4 Z p1 p2 h0 n0 _ s₁.heap _
    rw [e0]
    exact ⟨(by unfold own_min; rw [if_pos hc1]), N0, rfl⟩
  · refine own_st (B := s₁.setTop (mkF m 5 #[.val (.int p1), .val (.int p2)] [])) (fun t k => XS.icmpNo X0.here hx rfl (hb hby d4_2) rfl (XT.ii_gt_f hc1) k) ?_
    refine own_st (B := s₁.setTop (mkF m 6 #[.val (.int p1), .val (.int p2)] [(.int p1)])) (fun t k => XS.iloadN X0.here hx rfl (hb hby d4_5) rfl k) ?_
    refine own_st (B := s₁.setTop (mkF m 10 #[.val (.int p1), .val (.int p2)] [(.int p1)])) (fun t k => XS.goto X0.here hx rfl (pc0 := 6) (pc' := 10) rfl (hb hby d4_6) (by decide) (by decide) k) ?_
    refine own_retI X0 hx hlk Bd.returns (hb hby d4_10) (by decide) (by decide) ?_
    show Q4 Z p1 p2 h0 n0 _ s₁.heap _
    rw [e0]
    exact ⟨(by unfold own_min; rw [if_neg hc1]), N0, rfl⟩
theorem d6_0 : decode prog_22_method_3_code 0 = .ok (.aload_n 0, 1) := by decide +kernel
theorem d6_1 : decode prog_22_method_3_code 1 = .ok (.getfield 13, 3) := by decide +kernel
theorem d6_4 : decode prog_22_method_3_code 4 = .ok (.ireturn, 1) := by decide +kernel
theorem ef_6 (m : MethodId) (x0 : Addr) : entryFrame m #[(.ref x0)] 1 = mkF m 0 #[.val (.ref x0)] [] := by first | (simp [entryFrame, mkF, argsToLocals, Value.category]; done) | rfl
def Q6 (Z : State) (a1 : Addr) (p1 : Int32) (h0 : Heap) (n0 : Nat) (v : Option Value) (h : Heap) (L : List Loc) : Prop := v = some (.int p1) ∧ Fr n0 L ∧ h = h0
set_option maxHeartbeats 40000000 in
theorem rm6 (l : Launch) (Z : State) (a0 : Array Value) (hw : ∀ d ∈ tables_1, d.before a0 Z = true) (ws : List Jvm.Cond) (a1 : Addr) (p1 : Int32) (h0 : Heap) (n0 : Nat) (Z0 : n0 ≤ h0.size) (F0 : Fld Z h0 a1 "com/example/libentkey/libentkey/codec/KeyReader" "position" "I" (.int p1)) :
    MetFree l (⟨"com/example/libentkey/libentkey/codec/KeyReader", "position", "()I"⟩ : MethodName) (head1 (Jvm.Cond.code (⟨"com/example/libentkey/libentkey/codec/KeyReader", "position", "()I"⟩ : MethodName) prog_22_method_3_code 1 (some .int) :: ws) ({ frames := 0, cells := 0, slots := 0, locals := 0 } : Room)) (fun a U => a = #[(.ref a1)] ∧ Z.Warmed39 U.vm ∧ U.heap = h0) (fun _ _ _ _ _ => True) (fun _ U o U' => ∃ v L, o = .returned v ∧ Q6 Z a1 p1 h0 n0 v U'.heap L ∧ FrameEnd U o U' L ({ frames := 0, cells := 0, slots := 0, locals := 0 } : Room).cells ({ frames := 0, cells := 0, slots := 0, locals := 0 } : Room).slots) := by
  refine MetFree.of_bodySF (plainFor_of_name own_pn1) hisR ?_
  intro p e s m args below meth c s₁ Bd hml0 hP hK
  obtain ⟨rfl, hZ, hh⟩ := hP
  have hx := Bd.exec
  have hby := Bd.bytes
  have hml : c.maxLocals = 1 := hml0
  have hlk : meth.locks = false := BodyLoose.notSynchronized Bd
  have hown : s.vm.findClass "com/example/libentkey/libentkey/codec/KeyReader" = some m.cls := findClass_of_methodNamed Bd.named
  have hnm := (name_of_methodNamed Bd.named Bd.method).1
  have X0 : Stand p l e ({ frames := 0, cells := 0, slots := 0, locals := 0 } : Room) s m #[(.ref a1)] below meth c s₁ [] 0 0 := Stand.of_body Bd
  have e0 : s₁.heap = h0 := by rw [← hh, Bd.state]; rfl
  have N0 := Fr.nil n0
  show own_Go p e below s (Q6 Z a1 p1 h0 n0) ({ frames := 0, cells := 0, slots := 0, locals := 0 } : Room).cells ({ frames := 0, cells := 0, slots := 0, locals := 0 } : Room).slots _
  refine own_st (B := s₁.setTop (mkF m 0 #[.val (.ref a1)] [])) (fun t k => castTop (ef_6 m (a1)) k) ?_
  refine own_st (B := s₁.setTop (mkF m 1 #[.val (.ref a1)] [(.ref a1)])) (fun t k => XS.aloadN X0.here hx rfl (hb hby d6_0) rfl rfl k) ?_
  obtain ⟨T1, X1, e1, st1⟩ := getF X0 hx hZ hown (host := "") (Or.inl (w_18 hw)) Via.refl e0 F0 (g := (mkF m 1 #[.val (.ref a1)] [(.ref a1)])) rfl rfl (hb hby d6_1)
  refine own_st (B := T1.setTop (mkF m 4 #[.val (.ref a1)] [(.int p1)])) (fun t k => st1 t k) ?_
  refine own_retI X1 hx hlk Bd.returns (hb hby d6_4) (by decide) (by decide) ?_
  show Q6 Z a1 p1 h0 n0 _ T1.heap _
  rw [e1]
  exact ⟨rfl, N0, rfl⟩
def own_ints (vs : List Value) : Prop := ∀ v ∈ vs, ∃ z, v = Value.int z
theorem own_ints_rep (k : Nat) (z : Int32) : own_ints (List.replicate k (.int z)) := fun v hv => ⟨z, (List.mem_replicate.mp hv).2⟩
theorem own_ints_set {vs : List Value} (h : own_ints vs) (i : Nat) (z : Int32) : own_ints (vs.set i (.int z)) := fun v hv => by
  rcases List.mem_or_eq_of_mem_set hv with q | q
  · exact h v q
  · exact ⟨z, q⟩
theorem own_ints_at {vs : List Value} (h : own_ints vs) {i : Nat} (hi : i < vs.length) : ∃ z, vs[i]? = some (.int z) := by
  obtain ⟨z, q⟩ := h _ (List.getElem_mem hi)
  exact ⟨z, by rw [List.getElem?_eq_getElem hi, q]⟩
theorem own_pc {p c n : Int32} (hp : 0 ≤ p.toInt) (hc : 0 ≤ c.toInt) (hs : p.toInt + c.toInt ≤ n.toInt) : ¬ ((n - p) < c) ∧ (p + c).toInt = p.toInt + c.toInt := by
  have h1 := c_isub n p
  have h2 := c_iadd p c
  have h3 := rng32 n
  have h4 := rng32 (n - p)
  have h5 := rng32 (p + c)
  rw [Int32.lt_iff_toInt_lt]
  omega
theorem d5_0 : decode prog_22_method_8_code 0 = .ok (.aload_n 0, 1) := by decide +kernel
theorem d5_1 : decode prog_22_method_8_code 1 = .ok (.getfield 7, 3) := by decide +kernel
theorem d5_4 : decode prog_22_method_8_code 4 = .ok (.arraylength, 1) := by decide +kernel
theorem d5_5 : decode prog_22_method_8_code 5 = .ok (.aload_n 0, 1) := by decide +kernel
theorem d5_6 : decode prog_22_method_8_code 6 = .ok (.getfield 13, 3) := by decide +kernel
theorem d5_9 : decode prog_22_method_8_code 9 = .ok (.isub, 1) := by decide +kernel
theorem d5_10 : decode prog_22_method_8_code 10 = .ok (.iload_n 1, 1) := by decide +kernel
theorem d5_11 : decode prog_22_method_8_code 11 = .ok (.if_icmp .ge 8, 3) := by decide +kernel
theorem d5_19 : decode prog_22_method_8_code 19 = .ok (.aload_n 0, 1) := by decide +kernel
theorem d5_20 : decode prog_22_method_8_code 20 = .ok (.getfield 13, 3) := by decide +kernel
theorem d5_23 : decode prog_22_method_8_code 23 = .ok (.istore_n 2, 1) := by decide +kernel
theorem d5_24 : decode prog_22_method_8_code 24 = .ok (.iload_n 2, 1) := by decide +kernel
theorem d5_25 : decode prog_22_method_8_code 25 = .ok (.iload_n 1, 1) := by decide +kernel
theorem d5_26 : decode prog_22_method_8_code 26 = .ok (.iadd, 1) := by decide +kernel
theorem d5_27 : decode prog_22_method_8_code 27 = .ok (.istore_n 3, 1) := by decide +kernel
theorem d5_28 : decode prog_22_method_8_code 28 = .ok (.lconst 0, 1) := by decide +kernel
theorem d5_29 : decode prog_22_method_8_code 29 = .ok (.lstore 4, 2) := by decide +kernel
theorem d5_31 : decode prog_22_method_8_code 31 = .ok (.iload_n 2, 1) := by decide +kernel
theorem d5_32 : decode prog_22_method_8_code 32 = .ok (.iload_n 3, 1) := by decide +kernel
theorem d5_33 : decode prog_22_method_8_code 33 = .ok (.if_icmp .ge 28, 3) := by decide +kernel
theorem d5_36 : decode prog_22_method_8_code 36 = .ok (.lload 4, 2) := by decide +kernel
theorem d5_38 : decode prog_22_method_8_code 38 = .ok (.bipush 8, 2) := by decide +kernel
theorem d5_40 : decode prog_22_method_8_code 40 = .ok (.lshl, 1) := by decide +kernel
theorem d5_41 : decode prog_22_method_8_code 41 = .ok (.aload_n 0, 1) := by decide +kernel
theorem d5_42 : decode prog_22_method_8_code 42 = .ok (.getfield 7, 3) := by decide +kernel
theorem d5_45 : decode prog_22_method_8_code 45 = .ok (.iload_n 2, 1) := by decide +kernel
theorem d5_46 : decode prog_22_method_8_code 46 = .ok (.iinc 2 1, 3) := by decide +kernel
theorem d5_49 : decode prog_22_method_8_code 49 = .ok (.baload, 1) := by decide +kernel
theorem d5_50 : decode prog_22_method_8_code 50 = .ok (.sipush 255, 3) := by decide +kernel
theorem d5_53 : decode prog_22_method_8_code 53 = .ok (.iand, 1) := by decide +kernel
theorem d5_54 : decode prog_22_method_8_code 54 = .ok (.i2l, 1) := by decide +kernel
theorem d5_55 : decode prog_22_method_8_code 55 = .ok (.lor, 1) := by decide +kernel
theorem d5_56 : decode prog_22_method_8_code 56 = .ok (.lstore 4, 2) := by decide +kernel
theorem d5_58 : decode prog_22_method_8_code 58 = .ok (.goto (-27), 3) := by decide +kernel
theorem d5_61 : decode prog_22_method_8_code 61 = .ok (.aload_n 0, 1) := by decide +kernel
theorem d5_62 : decode prog_22_method_8_code 62 = .ok (.iload_n 3, 1) := by decide +kernel
theorem d5_63 : decode prog_22_method_8_code 63 = .ok (.putfield 13, 3) := by decide +kernel
theorem d5_66 : decode prog_22_method_8_code 66 = .ok (.lload 4, 2) := by decide +kernel
theorem d5_68 : decode prog_22_method_8_code 68 = .ok (.lreturn, 1) := by decide +kernel
theorem ef_5 (m : MethodId) (x0 : Addr) (x1 : Int32) : entryFrame m #[(.ref x0), (.int x1)] 6 = mkF m 0 #[.val (.ref x0), .val (.int x1), .unset, .unset, .unset, .unset] [] := by first | (simp [entryFrame, mkF, argsToLocals, Value.category]; done) | rfl
def Q5 (Z : State) (a1 : Addr) (p2 : Int32) (b : Addr) (p1 : Int32) (vs : List Value) (nn : Int32) (h0 : Heap) (n0 : Nat) (v : Option Value) (h : Heap) (L : List Loc) : Prop := ∃ (z : Int64), v = some (.long z) ∧ Fr n0 L ∧ Keep h0 h [a1] ∧ Exa Z h a1 "com/example/libentkey/libentkey/codec/KeyReader" ∧ Fld Z h a1 "com/example/libentkey/libentkey/codec/KeyReader" "key" "[B" (.ref b) ∧ Fld Z h a1 "com/example/libentkey/libentkey/codec/KeyReader" "position" "I" (.int (p1 + p2))
set_option maxHeartbeats 40000000 in
theorem rm5 (l : Launch) (Z : State) (a0 : Array Value) (hw : ∀ d ∈ tables_1, d.before a0 Z = true) (ws : List Jvm.Cond) (a1 : Addr) (p2 : Int32) (b : Addr) (p1 : Int32) (vs : List Value) (nn : Int32) (h0 : Heap) (n0 : Nat) (Z0 : n0 ≤ h0.size) (F0 : Exa Z h0 a1 "com/example/libentkey/libentkey/codec/KeyReader") (F1 : Fld Z h0 a1 "com/example/libentkey/libentkey/codec/KeyReader" "key" "[B" (.ref b)) (F2 : Fld Z h0 a1 "com/example/libentkey/libentkey/codec/KeyReader" "position" "I" (.int p1)) (F3 : own_A Z h0 b .byte vs) (ga : n0 ≤ a1) (hn : nn.toInt = (vs.length : Int)) (hv : own_ints vs) (hp : 0 ≤ p1.toInt) (hc : 0 ≤ p2.toInt) (hs : p1.toInt + p2.toInt ≤ nn.toInt) :
    MetFree l (⟨"com/example/libentkey/libentkey/codec/KeyReader", "nextLong", "(I)J"⟩ : MethodName) (head1 (Jvm.Cond.code (⟨"com/example/libentkey/libentkey/codec/KeyReader", "nextLong", "(I)J"⟩ : MethodName) prog_22_method_8_code 6 (some .long) :: ws) ({ frames := 0, cells := 0, slots := 0, locals := 0 } : Room)) (fun a U => a = #[(.ref a1), (.int p2)] ∧ Z.Warmed39 U.vm ∧ U.heap = h0) (fun _ _ _ _ _ => True) (fun _ U o U' => ∃ v L, o = .returned v ∧ Q5 Z a1 p2 b p1 vs nn h0 n0 v U'.heap L ∧ FrameEnd U o U' L ({ frames := 0, cells := 0, slots := 0, locals := 0 } : Room).cells ({ frames := 0, cells := 0, slots := 0, locals := 0 } : Room).slots) := by
  refine MetFree.of_bodySF (plainFor_of_name own_pn1) hisR ?_
  intro p e s m args below meth c s₁ Bd hml0 hP hK
  obtain ⟨rfl, hZ, hh⟩ := hP
  have hx := Bd.exec
  have hby := Bd.bytes
  have hml : c.maxLocals = 6 := hml0
  have hlk : meth.locks = false := BodyLoose.notSynchronized Bd
  have hown : s.vm.findClass "com/example/libentkey/libentkey/codec/KeyReader" = some m.cls := findClass_of_methodNamed Bd.named
  have hnm := (name_of_methodNamed Bd.named Bd.method).1
  have X0 : Stand p l e ({ frames := 0, cells := 0, slots := 0, locals := 0 } : Room) s m #[(.ref a1), (.int p2)] below meth c s₁ [] 0 0 := Stand.of_body Bd
  have e0 : s₁.heap = h0 := by rw [← hh, Bd.state]; rfl
  have N0 := Fr.nil n0
  show own_Go p e below s (Q5 Z a1 p2 b p1 vs nn h0 n0) ({ frames := 0, cells := 0, slots := 0, locals := 0 } : Room).cells ({ frames := 0, cells := 0, slots := 0, locals := 0 } : Room).slots _
  refine own_st (B := s₁.setTop (mkF m 0 #[.val (.ref a1), .val (.int p2), .unset, .unset, .unset, .unset] [])) (fun t k => castTop (ef_5 m (a1) (p2)) k) ?_
  refine own_st (B := s₁.setTop (mkF m 1 #[.val (.ref a1), .val (.int p2), .unset, .unset, .unset, .unset] [(.ref a1)])) (fun t k => XS.aloadN X0.here hx rfl (hb hby d5_0) rfl rfl k) ?_
  obtain ⟨T1, X1, e1, st1⟩ := getF X0 hx hZ hown (host := "") (Or.inl (w_11 hw)) Via.refl e0 F1 (g := (mkF m 1 #[.val (.ref a1), .val (.int p2), .unset, .unset, .unset, .unset] [(.ref a1)])) rfl rfl (hb hby d5_1)
  refine own_st (B := T1.setTop (mkF m 4 #[.val (.ref a1), .val (.int p2), .unset, .unset, .unset, .unset] [(.ref b)])) (fun t k => st1 t k) ?_
  refine own_st (B := T1.setTop (mkF m 5 #[.val (.ref a1), .val (.int p2), .unset, .unset, .unset, .unset] [(.int nn)])) (fun t k => own_len X1 hx hZ e1 F3 (g := (mkF m 4 #[.val (.ref a1), .val (.int p2), .unset, .unset, .unset, .unset] [(.ref b)])) (n := nn) hn rfl rfl (hb hby d5_4) k) ?_
  refine own_st (B := T1.setTop (mkF m 6 #[.val (.ref a1), .val (.int p2), .unset, .unset, .unset, .unset] [(.ref a1), (.int nn)])) (fun t k => XS.aloadN X1.here hx rfl (hb hby d5_5) rfl rfl k) ?_
  obtain ⟨T2, X2, e2, st2⟩ := getF X1 hx hZ hown (host := "") (Or.inl (w_18 hw)) Via.refl e1 F2 (g := (mkF m 6 #[.val (.ref a1), .val (.int p2), .unset, .unset, .unset, .unset] [(.ref a1), (.int nn)])) rfl rfl (hb hby d5_6)
  refine own_st (B := T2.setTop (mkF m 9 #[.val (.ref a1), .val (.int p2), .unset, .unset, .unset, .unset] [(.int p1), (.int nn)])) (fun t k => st2 t k) ?_
  refine own_st (B := T2.setTop (mkF m 10 #[.val (.ref a1), .val (.int p2), .unset, .unset, .unset, .unset] [(.int (nn - p1))])) (fun t k => XS.isub X2.here hx rfl (hb hby d5_9) rfl k) ?_
  refine own_st (B := T2.setTop (mkF m 11 #[.val (.ref a1), .val (.int p2), .unset, .unset, .unset, .unset] [(.int p2), (.int (nn - p1))])) (fun t k => XS.iloadN X2.here hx rfl (hb hby d5_10) rfl k) ?_
  have hc3 : ¬ ((nn - p1) < p2) := by
    exact (own_pc hp hc hs).1
  refine own_st (B := T2.setTop (mkF m 19 #[.val (.ref a1), .val (.int p2), .unset, .unset, .unset, .unset] [])) (fun t k => XS.icmpYes X2.here hx rfl (pc0 := 11) (pc' := 19) rfl (hb hby d5_11) rfl (XT.ii_ge_t hc3) (by decide) (by decide) k) ?_
  refine own_st (B := T2.setTop (mkF m 20 #[.val (.ref a1), .val (.int p2), .unset, .unset, .unset, .unset] [(.ref a1)])) (fun t k => XS.aloadN X2.here hx rfl (hb hby d5_19) rfl rfl k) ?_
  obtain ⟨T4, X4, e4, st4⟩ := getF X2 hx hZ hown (host := "") (Or.inl (w_18 hw)) Via.refl e2 F2 (g := (mkF m 20 #[.val (.ref a1), .val (.int p2), .unset, .unset, .unset, .unset] [(.ref a1)])) rfl rfl (hb hby d5_20)
  refine own_st (B := T4.setTop (mkF m 23 #[.val (.ref a1), .val (.int p2), .unset, .unset, .unset, .unset] [(.int p1)])) (fun t k => st4 t k) ?_
  refine own_st (B := T4.setTop (mkF m 24 #[.val (.ref a1), .val (.int p2), .val (.int p1), .unset, .unset, .unset] [])) (fun t k => XS.istoreN X4.here hx rfl (hb hby d5_23) rfl (l' := #[.val (.ref a1), .val (.int p2), .val (.int p1), .unset, .unset, .unset]) rfl k) ?_
  refine own_st (B := T4.setTop (mkF m 25 #[.val (.ref a1), .val (.int p2), .val (.int p1), .unset, .unset, .unset] [(.int p1)])) (fun t k => XS.iloadN X4.here hx rfl (hb hby d5_24) rfl k) ?_
  refine own_st (B := T4.setTop (mkF m 26 #[.val (.ref a1), .val (.int p2), .val (.int p1), .unset, .unset, .unset] [(.int p2), (.int p1)])) (fun t k => XS.iloadN X4.here hx rfl (hb hby d5_25) rfl k) ?_
  refine own_st (B := T4.setTop (mkF m 27 #[.val (.ref a1), .val (.int p2), .val (.int p1), .unset, .unset, .unset] [(.int (p1 + p2))])) (fun t k => XS.iadd X4.here hx rfl (hb hby d5_26) rfl k) ?_
  refine own_st (B := T4.setTop (mkF m 28 #[.val (.ref a1), .val (.int p2), .val (.int p1), .val (.int (p1 + p2)), .unset, .unset] [])) (fun t k => XS.istoreN X4.here hx rfl (hb hby d5_27) rfl (l' := #[.val (.ref a1), .val (.int p2), .val (.int p1), .val (.int (p1 + p2)), .unset, .unset]) rfl k) ?_
  refine own_st (B := T4.setTop (mkF m 29 #[.val (.ref a1), .val (.int p2), .val (.int p1), .val (.int (p1 + p2)), .unset, .unset] [(.long (0 : Int64))])) (fun t k => XS.lconst X4.here hx rfl (hb hby d5_28) k) ?_
  refine own_st (B := T4.setTop (mkF m 31 #[.val (.ref a1), .val (.int p2), .val (.int p1), .val (.int (p1 + p2)), .val (.long (0 : Int64)), .second] [])) (fun t k => XS.lstore X4.here hx rfl (hb hby d5_29) rfl (l' := #[.val (.ref a1), .val (.int p2), .val (.int p1), .val (.int (p1 + p2)), .val (.long (0 : Int64)), .second]) rfl k) ?_
  refine own_cut (P := ∀ (mu5 : Nat) (T5 : State) (lo5 : List Loc) (i : Int32) (S : Int64), Stand p l e ({ frames := 0, cells := 0, slots := 0, locals := 0 } : Room) s m #[(.ref a1), (.int p2)] below meth c T5 lo5 0 0 → T5.heap = h0 → Fr n0 lo5 → mu5 = ((p1 + p2).toInt - i.toInt).toNat → (p1.toInt ≤ i.toInt) → own_Go p e below s (Q5 Z a1 p2 b p1 vs nn h0 n0) ({ frames := 0, cells := 0, slots := 0, locals := 0 } : Room).cells ({ frames := 0, cells := 0, slots := 0, locals := 0 } : Room).slots (T5.setTop (mkF m 31 #[.val (.ref a1), .val (.int p2), .val (.int i), .val (.int (p1 + p2)), .val (.long S), .second] []))) (fun J5 => ?_) ?_
  · exact J5 _ T4 _ p1 (0 : Int64) X4 e4 N0 rfl (show p1.toInt ≤ p1.toInt by omega)
  intro mu5
  induction mu5 using Nat.strongRecOn with
  | ind mu5 ih5 =>
    intro T5 lo5 i S X5 e5 N5 hmu5 hi
    refine own_st (B := T5.setTop (mkF m 32 #[.val (.ref a1), .val (.int p2), .val (.int i), .val (.int (p1 + p2)), .val (.long S), .second] [(.int i)])) (fun t k => XS.iloadN X5.here hx rfl (hb hby d5_31) rfl k) ?_
    refine own_st (B := T5.setTop (mkF m 33 #[.val (.ref a1), .val (.int p2), .val (.int i), .val (.int (p1 + p2)), .val (.long S), .second] [(.int (p1 + p2)), (.int i)])) (fun t k => XS.iloadN X5.here hx rfl (hb hby d5_32) rfl k) ?_
    by_cases hc6 : i < (p1 + p2)
    · refine own_st (B := T5.setTop (mkF m 36 #[.val (.ref a1), .val (.int p2), .val (.int i), .val (.int (p1 + p2)), .val (.long S), .second] [])) (fun t k => XS.icmpNo X5.here hx rfl (hb hby d5_33) rfl (XT.ii_ge_f hc6) k) ?_
      refine own_st (B := T5.setTop (mkF m 38 #[.val (.ref a1), .val (.int p2), .val (.int i), .val (.int (p1 + p2)), .val (.long S), .second] [(.long S)])) (fun t k => XS.lload X5.here hx rfl (hb hby d5_36) rfl k) ?_
      refine own_st (B := T5.setTop (mkF m 40 #[.val (.ref a1), .val (.int p2), .val (.int i), .val (.int (p1 + p2)), .val (.long S), .second] [(.int (8 : Int32)), (.long S)])) (fun t k => XS.bipush X5.here hx rfl (hb hby d5_38) k) ?_
      refine own_st (B := T5.setTop (mkF m 41 #[.val (.ref a1), .val (.int p2), .val (.int i), .val (.int (p1 + p2)), .val (.long S), .second] [(.long (S <<< ((8 : Int32) &&& 0x3f).toInt64))])) (fun t k => XS.lshl X5.here hx rfl (hb hby d5_40) rfl k) ?_
      refine own_st (B := T5.setTop (mkF m 42 #[.val (.ref a1), .val (.int p2), .val (.int i), .val (.int (p1 + p2)), .val (.long S), .second] [(.ref a1), (.long (S <<< ((8 : Int32) &&& 0x3f).toInt64))])) (fun t k => XS.aloadN X5.here hx rfl (hb hby d5_41) rfl rfl k) ?_
      obtain ⟨T7, X7, e7, st7⟩ := getF X5 hx hZ hown (host := "") (Or.inl (w_11 hw)) Via.refl e5 F1 (g := (mkF m 42 #[.val (.ref a1), .val (.int p2), .val (.int i), .val (.int (p1 + p2)), .val (.long S), .second] [(.ref a1), (.long (S <<< ((8 : Int32) &&& 0x3f).toInt64))])) rfl rfl (hb hby d5_42)
      refine own_st (B := T7.setTop (mkF m 45 #[.val (.ref a1), .val (.int p2), .val (.int i), .val (.int (p1 + p2)), .val (.long S), .second] [(.ref b), (.long (S <<< ((8 : Int32) &&& 0x3f).toInt64))])) (fun t k => st7 t k) ?_
      refine own_st (B := T7.setTop (mkF m 46 #[.val (.ref a1), .val (.int p2), .val (.int i), .val (.int (p1 + p2)), .val (.long S), .second] [(.int i), (.ref b), (.long (S <<< ((8 : Int32) &&& 0x3f).toInt64))])) (fun t k => XS.iloadN X7.here hx rfl (hb hby d5_45) rfl k) ?_
      refine own_st (B := T7.setTop (mkF m 49 #[.val (.ref a1), .val (.int p2), .val (.int (i + (1 : Int32))), .val (.int (p1 + p2)), .val (.long S), .second] [(.int i), (.ref b), (.long (S <<< ((8 : Int32) &&& 0x3f).toInt64))])) (fun t k => XS.iinc X7.here hx rfl (hb hby d5_46) rfl (l' := #[.val (.ref a1), .val (.int p2), .val (.int (i + (1 : Int32))), .val (.int (p1 + p2)), .val (.long S), .second]) rfl k) ?_
      obtain ⟨z8, hz8⟩ := own_ints_at hv (i := i.toInt.toNat) (by have h1 := Int32.lt_iff_toInt_lt.mp hc6; have h2 := (own_pc hp hc hs).2; omega)
      refine own_st (B := T7.setTop (mkF m 50 #[.val (.ref a1), .val (.int p2), .val (.int (i + (1 : Int32))), .val (.int (p1 + p2)), .val (.long S), .second] [(.int z8), (.long (S <<< ((8 : Int32) &&& 0x3f).toInt64))])) (fun t k => own_ldB X7 hx hZ e7 F3 (g := (mkF m 49 #[.val (.ref a1), .val (.int p2), .val (.int (i + (1 : Int32))), .val (.int (p1 + p2)), .val (.long S), .second] [(.int i), (.ref b), (.long (S <<< ((8 : Int32) &&& 0x3f).toInt64))])) (i := (i.toInt.toNat)) (own_nat (by omega)) hz8 rfl rfl (hb hby d5_49) k) ?_
      refine own_st (B := T7.setTop (mkF m 53 #[.val (.ref a1), .val (.int p2), .val (.int (i + (1 : Int32))), .val (.int (p1 + p2)), .val (.long S), .second] [(.int (255 : Int32)), (.int z8), (.long (S <<< ((8 : Int32) &&& 0x3f).toInt64))])) (fun t k => XS.sipush X7.here hx rfl (hb hby d5_50) k) ?_
      refine own_st (B := T7.setTop (mkF m 54 #[.val (.ref a1), .val (.int p2), .val (.int (i + (1 : Int32))), .val (.int (p1 + p2)), .val (.long S), .second] [(.int (z8 &&& (255 : Int32))), (.long (S <<< ((8 : Int32) &&& 0x3f).toInt64))])) (fun t k => XS.iand X7.here hx rfl (hb hby d5_53) rfl k) ?_
      refine own_st (B := T7.setTop (mkF m 55 #[.val (.ref a1), .val (.int p2), .val (.int (i + (1 : Int32))), .val (.int (p1 + p2)), .val (.long S), .second] [(.long ((z8 &&& (255 : Int32)).toInt64)), (.long (S <<< ((8 : Int32) &&& 0x3f).toInt64))])) (fun t k => XS.i2l X7.here hx rfl (hb hby d5_54) rfl k) ?_
      refine own_st (B := T7.setTop (mkF m 56 #[.val (.ref a1), .val (.int p2), .val (.int (i + (1 : Int32))), .val (.int (p1 + p2)), .val (.long S), .second] [(.long ((S <<< ((8 : Int32) &&& 0x3f).toInt64) ||| ((z8 &&& (255 : Int32)).toInt64)))])) (fun t k => XS.lor X7.here hx rfl (hb hby d5_55) rfl k) ?_
      refine own_st (B := T7.setTop (mkF m 58 #[.val (.ref a1), .val (.int p2), .val (.int (i + (1 : Int32))), .val (.int (p1 + p2)), .val (.long ((S <<< ((8 : Int32) &&& 0x3f).toInt64) ||| ((z8 &&& (255 : Int32)).toInt64))), .second] [])) (fun t k => XS.lstore X7.here hx rfl (hb hby d5_56) rfl (l' := #[.val (.ref a1), .val (.int p2), .val (.int (i + (1 : Int32))), .val (.int (p1 + p2)), .val (.long ((S <<< ((8 : Int32) &&& 0x3f).toInt64) ||| ((z8 &&& (255 : Int32)).toInt64))), .second]) rfl k) ?_
      refine own_st (B := T7.setTop (mkF m 31 #[.val (.ref a1), .val (.int p2), .val (.int (i + (1 : Int32))), .val (.int (p1 + p2)), .val (.long ((S <<< ((8 : Int32) &&& 0x3f).toInt64) ||| ((z8 &&& (255 : Int32)).toInt64))), .second] [])) (fun t k => XS.goto X7.here hx rfl (pc0 := 58) (pc' := 31) rfl (hb hby d5_58) (by decide) (by decide) k) ?_
      exact ih5 _ (by have h1 := Int32.lt_iff_toInt_lt.mp hc6; have h2 := (own_pc hp hc hs).2; have h3 := c_iadd i 1; have h4 := rng32 (i + 1); have h5 := rng32 nn; have h6 : (1 : Int32).toInt = 1 := rfl; omega) T7 _ ((i + (1 : Int32))) (((S <<< ((8 : Int32) &&& 0x3f).toInt64) ||| ((z8 &&& (255 : Int32)).toInt64))) X7 e7 N5 rfl (show p1.toInt ≤ (i + (1 : Int32)).toInt by have h1 := Int32.lt_iff_toInt_lt.mp hc6; have h2 := (own_pc hp hc hs).2; have h3 := c_iadd i 1; have h4 := rng32 (i + 1); have h5 := rng32 nn; have h6 : (1 : Int32).toInt = 1 := rfl; omega)
    · refine own_st (B := T5.setTop (mkF m 61 #[.val (.ref a1), .val (.int p2), .val (.int i), .val (.int (p1 + p2)), .val (.long S), .second] [])) (fun t k => XS.icmpYes X5.here hx rfl (pc0 := 33) (pc' := 61) rfl (hb hby d5_33) rfl (XT.ii_ge_t hc6) (by decide) (by decide) k) ?_
      refine own_st (B := T5.setTop (mkF m 62 #[.val (.ref a1), .val (.int p2), .val (.int i), .val (.int (p1 + p2)), .val (.long S), .second] [(.ref a1)])) (fun t k => XS.aloadN X5.here hx rfl (hb hby d5_61) rfl rfl k) ?_
      refine own_st (B := T5.setTop (mkF m 63 #[.val (.ref a1), .val (.int p2), .val (.int i), .val (.int (p1 + p2)), .val (.long S), .second] [(.int (p1 + p2)), (.ref a1)])) (fun t k => XS.iloadN X5.here hx rfl (hb hby d5_62) rfl k) ?_
      obtain ⟨T9, h9, X9, e9, W9, st9⟩ := putF X5 hx hZ hown (host := "") (Or.inl (w_18 hw)) Via.refl e5 F2 F0 (Or.inl (w_19 hw)) (w_3 hw) (ty := .int) (by decide) rfl rfl (g := (mkF m 63 #[.val (.ref a1), .val (.int p2), .val (.int i), .val (.int (p1 + p2)), .val (.long S), .second] [(.int (p1 + p2)), (.ref a1)])) rfl rfl (hb hby d5_63)
      have f9_ : Fld Z h9 a1 "com/example/libentkey/libentkey/codec/KeyReader" "position" "I" (.int (p1 + p2)) := F2.same W9
      have z10 : n0 ≤ h9.size := Nat.le_trans Z0 (Keep.of_wr W9).1
      have kp10 : Keep h0 h9 [a1] := (Keep.refl h0 [a1]).wr W9 (Or.inl (List.mem_of_getElem? (i := 0) rfl))
      have n11 := Fr.snoc X9 N5 ga
      refine own_st (B := T9.setTop (mkF m 66 #[.val (.ref a1), .val (.int p2), .val (.int i), .val (.int (p1 + p2)), .val (.long S), .second] [])) (fun t k => st9 t k) ?_
      refine own_st (B := T9.setTop (mkF m 68 #[.val (.ref a1), .val (.int p2), .val (.int i), .val (.int (p1 + p2)), .val (.long S), .second] [(.long S)])) (fun t k => XS.lload X9.here hx rfl (hb hby d5_66) rfl k) ?_
      refine own_retJ X9 hx hlk Bd.returns (hb hby d5_68) (by decide) (by decide) ?_
      show Q5 Z a1 p2 b p1 vs nn h0 n0 _ T9.heap _
      rw [e9]
      have f12 : Exa Z h9 a1 "com/example/libentkey/libentkey/codec/KeyReader" := (F0.wr W9)
      have f13 : Fld Z h9 a1 "com/example/libentkey/libentkey/codec/KeyReader" "key" "[B" (.ref b) := (F1.other W9 (Or.inr (slot_ne (Or.inr (w_12 hw)) (Or.inl (w_19 hw)) (by decide) (t := (.array .byte)) (t' := .int) (by decide) (by decide))))
      exact ⟨S, rfl, n11, kp10, f12, f13, f9_⟩
theorem own_ten {x v : Int32} (e : v = (x &&& 2147483647) % 10) : 0 ≤ v.toInt ∧ v.toInt < 10 := by
  have h1 := c_mask x 2147483647 31 (by decide) (by decide)
  have h2 := c_irem (x &&& 2147483647) 10 10 rfl
  rw [← e] at h2
  omega
theorem own_nine (x : Int32) : 0 ≤ ((x &&& 2147483647) % 9).toInt := by
  have h1 := c_mask x 2147483647 31 (by decide) (by decide)
  have h2 := c_irem (x &&& 2147483647) 9 9 rfl
  omega
theorem own_mn {a b v : Int32} (e : v = own_min a b) (ha : 0 ≤ a.toInt) (hb : 0 ≤ b.toInt) : 0 ≤ v.toInt ∧ v.toInt ≤ b.toInt := by
  rw [e]
  unfold own_min
  by_cases h : b < a
  · rw [if_pos h]; omega
  · rw [if_neg h]
    rw [Int32.lt_iff_toInt_lt] at h
    omega
theorem own_sb {n c : Int32} (h0 : 0 ≤ c.toInt) (h1 : c.toInt ≤ n.toInt) : (n - c).toInt = n.toInt - c.toInt := by
  have h2 := c_isub n c
  have h3 := rng32 n
  have h4 := rng32 (n - c)
  omega
theorem own_pd1 : parseMethodDescriptor "([B)V" = some ⟨[(.array .byte)], none⟩ := by decide +kernel
theorem own_pd2 : parseMethodDescriptor "()Z" = some ⟨[], some .boolean⟩ := by decide +kernel
theorem own_pd3 : parseMethodDescriptor "(II)I" = some ⟨[.int, .int], some .int⟩ := by decide +kernel
theorem own_pd4 : parseMethodDescriptor "(I)J" = some ⟨[.int], some .long⟩ := by decide +kernel
theorem own_pd5 : parseMethodDescriptor "()I" = some ⟨[], some .int⟩ := by decide +kernel
theorem own_pn2 : plainName "com/example/libentkey/libentkey/codec/KeyReaderHasMorePinLaw" = true := by first | (simp [plainName, overriddenIn]; done) | decide +kernel
theorem ef_0 (m : MethodId) (x0 : Int32) (x1 : Int32) (x2 : Int32) (x3 : Int32) : entryFrame m #[(.int x0), (.int x1), (.int x2), (.int x3)] maxLocals = mkF m 0 #[.val (.int x0), .val (.int x1), .val (.int x2), .val (.int x3), .unset, .unset, .unset, .unset, .unset, .unset, .unset] [] := by first | (simp [entryFrame, mkF, argsToLocals, Value.category, maxLocals]; done) | rfl
def Q0 (Z : State) (arg0 : Int32) (arg1 : Int32) (arg2 : Int32) (arg3 : Int32) (h0 : Heap) (n0 : Nat) (v : Option Value) (h : Heap) (L : List Loc) : Prop := v = some (.int 1) ∧ Fr n0 L
set_option maxHeartbeats 40000000 in
theorem rm0 (l : Launch) (Z : State) (a0 : Array Value) (hw : ∀ d ∈ tables_1, d.before a0 Z = true) (ws : List Jvm.Cond) (arg0 : Int32) (arg1 : Int32) (arg2 : Int32) (arg3 : Int32) (h0 : Heap) (n0 : Nat) (Z0 : n0 ≤ h0.size) :
    MetFree l x (head1 (Jvm.Cond.code x code maxLocals ret :: ws) room_1) (fun a U => a = #[(.int arg0), (.int arg1), (.int arg2), (.int arg3)] ∧ Z.Warmed39 U.vm ∧ U.heap = h0) (fun _ _ _ _ _ => True) (fun _ U o U' => ∃ v L, o = .returned v ∧ Q0 Z arg0 arg1 arg2 arg3 h0 n0 v U'.heap L ∧ FrameEnd U o U' L 16 128) := by
  refine MetFree.of_bodySF (plainFor_of_name own_pn2) hisR ?_
  intro p e s m args below meth c s₁ Bd hml0 hP hK
  obtain ⟨rfl, hZ, hh⟩ := hP
  have hx := Bd.exec
  have hby := Bd.bytes
  have hml : c.maxLocals = 11 := hml0
  have hlk : meth.locks = false := BodyLoose.notSynchronized Bd
  have hown : s.vm.findClass "com/example/libentkey/libentkey/codec/KeyReaderHasMorePinLaw" = some m.cls := findClass_of_methodNamed Bd.named
  have hnm := (name_of_methodNamed Bd.named Bd.method).1
  have X0 : Stand p l e room_1 s m #[(.int arg0), (.int arg1), (.int arg2), (.int arg3)] below meth c s₁ [] 0 0 := Stand.of_body Bd
  have e0 : s₁.heap = h0 := by rw [← hh, Bd.state]; rfl
  have N0 := Fr.nil n0
  show own_Go p e below s (Q0 Z arg0 arg1 arg2 arg3 h0 n0) 16 128 _
  refine own_st (B := s₁.setTop (mkF m 0 #[.val (.int arg0), .val (.int arg1), .val (.int arg2), .val (.int arg3), .unset, .unset, .unset, .unset, .unset, .unset, .unset] [])) (fun t k => castTop (ef_0 m (arg0) (arg1) (arg2) (arg3)) k) ?_
  refine own_st (B := s₁.setTop (mkF m 1 #[.val (.int arg0), .val (.int arg1), .val (.int arg2), .val (.int arg3), .unset, .unset, .unset, .unset, .unset, .unset, .unset] [(.int arg0)])) (fun t k => XS.iloadN X0.here hx rfl (hb hby at_0) rfl k) ?_
  refine own_st (B := s₁.setTop (mkF m 3 #[.val (.int arg0), .val (.int arg1), .val (.int arg2), .val (.int arg3), .unset, .unset, .unset, .unset, .unset, .unset, .unset] [(.int (2147483647 : Int32)), (.int arg0)])) (fun t k => X0.ldcInt hx hown (mvT hZ (w_0 hw)) (g := (mkF m 1 #[.val (.int arg0), .val (.int arg1), .val (.int arg2), .val (.int arg3), .unset, .unset, .unset, .unset, .unset, .unset, .unset] [(.int arg0)])) rfl (hb hby at_1) _ k) ?_
  refine own_st (B := s₁.setTop (mkF m 4 #[.val (.int arg0), .val (.int arg1), .val (.int arg2), .val (.int arg3), .unset, .unset, .unset, .unset, .unset, .unset, .unset] [(.int (arg0 &&& (2147483647 : Int32)))])) (fun t k => XS.iand X0.here hx rfl (hb hby at_3) rfl k) ?_
  refine own_st (B := s₁.setTop (mkF m 6 #[.val (.int arg0), .val (.int arg1), .val (.int arg2), .val (.int arg3), .unset, .unset, .unset, .unset, .unset, .unset, .unset] [(.int (10 : Int32)), (.int (arg0 &&& (2147483647 : Int32)))])) (fun t k => XS.bipush X0.here hx rfl (hb hby at_4) k) ?_
  refine own_st (B := s₁.setTop (mkF m 7 #[.val (.int arg0), .val (.int arg1), .val (.int arg2), .val (.int arg3), .unset, .unset, .unset, .unset, .unset, .unset, .unset] [(.int ((arg0 &&& (2147483647 : Int32)) % (10 : Int32)))])) (fun t k => iremM X0 hx (g := (mkF m 6 #[.val (.int arg0), .val (.int arg1), .val (.int arg2), .val (.int arg3), .unset, .unset, .unset, .unset, .unset, .unset, .unset] [(.int (10 : Int32)), (.int (arg0 &&& (2147483647 : Int32)))])) rfl (x := (arg0 &&& (2147483647 : Int32))) (y := (10 : Int32)) (rest := []) (hb hby at_6) rfl (by decide) k) ?_
  obtain ⟨v1, ev1⟩ : ∃ z : Int32, z = ((arg0 &&& (2147483647 : Int32)) % (10 : Int32)) := ⟨_, rfl⟩
  rw [← ev1]
  refine own_st (B := s₁.setTop (mkF m 9 #[.val (.int arg0), .val (.int arg1), .val (.int arg2), .val (.int arg3), .val (.int v1), .unset, .unset, .unset, .unset, .unset, .unset] [])) (fun t k => XS.istore X0.here hx rfl (hb hby at_7) rfl (l' := #[.val (.int arg0), .val (.int arg1), .val (.int arg2), .val (.int arg3), .val (.int v1), .unset, .unset, .unset, .unset, .unset, .unset]) rfl k) ?_
  refine own_st (B := s₁.setTop (mkF m 11 #[.val (.int arg0), .val (.int arg1), .val (.int arg2), .val (.int arg3), .val (.int v1), .unset, .unset, .unset, .unset, .unset, .unset] [(.int v1)])) (fun t k => XS.iload X0.here hx rfl (hb hby at_9) rfl k) ?_
  obtain ⟨T2, h2, X2, e2, E2, A2, x2, st2⟩ := own_newP X0 hx hZ (aty := .byte) (w_1 hw) e0 (g := (mkF m 11 #[.val (.int arg0), .val (.int arg1), .val (.int arg2), .val (.int arg3), .val (.int v1), .unset, .unset, .unset, .unset, .unset, .unset] [(.int v1)])) rfl (hb hby at_11) (n := v1) (rest := []) rfl (k := (v1.toInt.toNat)) (cap := 9) (own_nat (own_ten ev1).1) (by have := own_ten ev1; omega) (by decide) (by decide) (by decide) (ad := "[B") rfl
  obtain ⟨b2, g2⟩ : ∃ z, z = h0.size := ⟨_, rfl⟩
  rw [← g2] at A2 x2 st2
  have u2 : n0 ≤ b2 := Nat.le_trans Z0 (Nat.le_of_eq g2.symm)
  have z3 : n0 ≤ h2.size := Nat.le_trans Z0 E2.1
  have f2_ : own_A Z h2 b2 .byte (List.replicate (v1.toInt.toNat) (Value.int (0 : Int32))) := A2
  refine own_st (B := T2.setTop (mkF m 13 #[.val (.int arg0), .val (.int arg1), .val (.int arg2), .val (.int arg3), .val (.int v1), .unset, .unset, .unset, .unset, .unset, .unset] [(.ref b2)])) (fun t k => st2 t k) ?_
  refine own_st (B := T2.setTop (mkF m 15 #[.val (.int arg0), .val (.int arg1), .val (.int arg2), .val (.int arg3), .val (.int v1), .val (.ref b2), .unset, .unset, .unset, .unset, .unset] [])) (fun t k => XS.astore X2.here hx rfl (hb hby at_13) rfl rfl (l' := #[.val (.int arg0), .val (.int arg1), .val (.int arg2), .val (.int arg3), .val (.int v1), .val (.ref b2), .unset, .unset, .unset, .unset, .unset]) rfl k) ?_
  refine own_st (B := T2.setTop (mkF m 17 #[.val (.int arg0), .val (.int arg1), .val (.int arg2), .val (.int arg3), .val (.int v1), .val (.ref b2), .unset, .unset, .unset, .unset, .unset] [(.int v1)])) (fun t k => XS.iload X2.here hx rfl (hb hby at_15) rfl k) ?_
  by_cases hc4 : (0 : Int32) < v1
  · refine own_st (B := T2.setTop (mkF m 20 #[.val (.int arg0), .val (.int arg1), .val (.int arg2), .val (.int arg3), .val (.int v1), .val (.ref b2), .unset, .unset, .unset, .unset, .unset] [])) (fun t k => XS.ifNo X2.here hx rfl (hb hby at_17) rfl (XT.i0_le_f hc4) k) ?_
    refine own_st (B := T2.setTop (mkF m 22 #[.val (.int arg0), .val (.int arg1), .val (.int arg2), .val (.int arg3), .val (.int v1), .val (.ref b2), .unset, .unset, .unset, .unset, .unset] [(.ref b2)])) (fun t k => XS.aload X2.here hx rfl (hb hby at_20) rfl rfl k) ?_
    refine own_st (B := T2.setTop (mkF m 23 #[.val (.int arg0), .val (.int arg1), .val (.int arg2), .val (.int arg3), .val (.int v1), .val (.ref b2), .unset, .unset, .unset, .unset, .unset] [(.int (0 : Int32)), (.ref b2)])) (fun t k => XS.iconst X2.here hx rfl (hb hby at_22) k) ?_
    refine own_st (B := T2.setTop (mkF m 24 #[.val (.int arg0), .val (.int arg1), .val (.int arg2), .val (.int arg3), .val (.int v1), .val (.ref b2), .unset, .unset, .unset, .unset, .unset] [(.int arg3), (.int (0 : Int32)), (.ref b2)])) (fun t k => XS.iloadN X2.here hx rfl (hb hby at_23) rfl k) ?_
    refine own_st (B := T2.setTop (mkF m 25 #[.val (.int arg0), .val (.int arg1), .val (.int arg2), .val (.int arg3), .val (.int v1), .val (.ref b2), .unset, .unset, .unset, .unset, .unset] [(.int (arg3.toInt8.toInt32)), (.int (0 : Int32)), (.ref b2)])) (fun t k => XS.i2b X2.here hx rfl (hb hby at_24) rfl k) ?_
    obtain ⟨T5, h5, X5, e5, W5, A5, st5⟩ := own_stB X2 hx hZ e2 f2_ (j := (0 : Int32)) (x := (arg3.toInt8.toInt32)) (i := 0) (by decide) (by rw [List.length_replicate]; have := Int32.lt_iff_toInt_lt.mp hc4; have h0 : (0 : Int32).toInt = 0 := rfl; omega) (g := (mkF m 25 #[.val (.int arg0), .val (.int arg1), .val (.int arg2), .val (.int arg3), .val (.int v1), .val (.ref b2), .unset, .unset, .unset, .unset, .unset] [(.int (arg3.toInt8.toInt32)), (.int (0 : Int32)), (.ref b2)])) rfl rfl (hb hby at_25)
    have f5_ : own_A Z h5 b2 .byte ((List.replicate (v1.toInt.toNat) (Value.int (0 : Int32))).set 0 (.int ((arg3.toInt8.toInt32).toInt8.toInt32))) := A5
    have z6 : n0 ≤ h5.size := Nat.le_trans z3 (Keep.of_wr W5).1
    have n7 := Fr.snoc X5 N0 u2
    refine own_st (B := T5.setTop (mkF m 26 #[.val (.int arg0), .val (.int arg1), .val (.int arg2), .val (.int arg3), .val (.int v1), .val (.ref b2), .unset, .unset, .unset, .unset, .unset] [])) (fun t k => st5 t k) ?_
    refine own_st (B := T5.setTop (mkF m 28 #[.val (.int arg0), .val (.int arg1), .val (.int arg2), .val (.int arg3), .val (.int v1), .val (.ref b2), .unset, .unset, .unset, .unset, .unset] [(.ref b2)])) (fun t k => XS.aload X5.here hx rfl (hb hby at_26) rfl rfl k) ?_
    refine own_st (B := T5.setTop (mkF m 30 #[.val (.int arg0), .val (.int arg1), .val (.int arg2), .val (.int arg3), .val (.int v1), .val (.ref b2), .unset, .unset, .unset, .unset, .unset] [(.int v1), (.ref b2)])) (fun t k => XS.iload X5.here hx rfl (hb hby at_28) rfl k) ?_
    refine own_st (B := T5.setTop (mkF m 31 #[.val (.int arg0), .val (.int arg1), .val (.int arg2), .val (.int arg3), .val (.int v1), .val (.ref b2), .unset, .unset, .unset, .unset, .unset] [(.int (1 : Int32)), (.int v1), (.ref b2)])) (fun t k => XS.iconst X5.here hx rfl (hb hby at_30) k) ?_
    refine own_st (B := T5.setTop (mkF m 32 #[.val (.int arg0), .val (.int arg1), .val (.int arg2), .val (.int arg3), .val (.int v1), .val (.ref b2), .unset, .unset, .unset, .unset, .unset] [(.int (v1 - (1 : Int32))), (.ref b2)])) (fun t k => XS.isub X5.here hx rfl (hb hby at_31) rfl k) ?_
    refine own_st (B := T5.setTop (mkF m 33 #[.val (.int arg0), .val (.int arg1), .val (.int arg2), .val (.int arg3), .val (.int v1), .val (.ref b2), .unset, .unset, .unset, .unset, .unset] [(.int arg3), (.int (v1 - (1 : Int32))), (.ref b2)])) (fun t k => XS.iloadN X5.here hx rfl (hb hby at_32) rfl k) ?_
    refine own_st (B := T5.setTop (mkF m 35 #[.val (.int arg0), .val (.int arg1), .val (.int arg2), .val (.int arg3), .val (.int v1), .val (.ref b2), .unset, .unset, .unset, .unset, .unset] [(.int (8 : Int32)), (.int arg3), (.int (v1 - (1 : Int32))), (.ref b2)])) (fun t k => XS.bipush X5.here hx rfl (hb hby at_33) k) ?_
    refine own_st (B := T5.setTop (mkF m 36 #[.val (.int arg0), .val (.int arg1), .val (.int arg2), .val (.int arg3), .val (.int v1), .val (.ref b2), .unset, .unset, .unset, .unset, .unset] [(.int ((arg3.toUInt32 >>> ((8 : Int32) &&& 31).toUInt32).toInt32)), (.int (v1 - (1 : Int32))), (.ref b2)])) (fun t k => XS.iushr X5.here hx rfl (hb hby at_35) rfl k) ?_
    refine own_st (B := T5.setTop (mkF m 37 #[.val (.int arg0), .val (.int arg1), .val (.int arg2), .val (.int arg3), .val (.int v1), .val (.ref b2), .unset, .unset, .unset, .unset, .unset] [(.int (((arg3.toUInt32 >>> ((8 : Int32) &&& 31).toUInt32).toInt32).toInt8.toInt32)), (.int (v1 - (1 : Int32))), (.ref b2)])) (fun t k => XS.i2b X5.here hx rfl (hb hby at_36) rfl k) ?_
    have hp8 : 0 < v1.toInt := Int32.lt_iff_toInt_lt.mp hc4
    have hq8 : (v1 - (1 : Int32)).toInt = v1.toInt - 1 := own_sb (c := 1) (by decide) (by show (1 : Int) ≤ _; omega)
    obtain ⟨T9, h9, X9, e9, W9, A9, st9⟩ := own_stB X5 hx hZ e5 f5_ (j := (v1 - (1 : Int32))) (x := (((arg3.toUInt32 >>> ((8 : Int32) &&& 31).toUInt32).toInt32).toInt8.toInt32)) (i := ((v1 - (1 : Int32)).toInt.toNat)) (own_nat (by omega)) (by simp only [List.length_set, List.length_replicate]; omega) (g := (mkF m 37 #[.val (.int arg0), .val (.int arg1), .val (.int arg2), .val (.int arg3), .val (.int v1), .val (.ref b2), .unset, .unset, .unset, .unset, .unset] [(.int (((arg3.toUInt32 >>> ((8 : Int32) &&& 31).toUInt32).toInt32).toInt8.toInt32)), (.int (v1 - (1 : Int32))), (.ref b2)])) rfl rfl (hb hby at_37)
    have f9_ : own_A Z h9 b2 .byte (((List.replicate (v1.toInt.toNat) (Value.int (0 : Int32))).set 0 (.int ((arg3.toInt8.toInt32).toInt8.toInt32))).set ((v1 - (1 : Int32)).toInt.toNat) (.int ((((arg3.toUInt32 >>> ((8 : Int32) &&& 31).toUInt32).toInt32).toInt8.toInt32).toInt8.toInt32))) := A9
    have z10 : n0 ≤ h9.size := Nat.le_trans z6 (Keep.of_wr W9).1
    have n11 := Fr.snoc X9 n7 u2
    refine own_st (B := T9.setTop (mkF m 38 #[.val (.int arg0), .val (.int arg1), .val (.int arg2), .val (.int arg3), .val (.int v1), .val (.ref b2), .unset, .unset, .unset, .unset, .unset] [])) (fun t k => st9 t k) ?_
    obtain ⟨T12, h12, X12, e12, E12, A12, D12, -, st12⟩ := newO X9 hx hZ hown (w_2 hw) (w_3 hw) (w_4 hw) e9 (g := (mkF m 38 #[.val (.int arg0), .val (.int arg1), .val (.int arg2), .val (.int arg3), .val (.int v1), .val (.ref b2), .unset, .unset, .unset, .unset, .unset] [])) rfl (hb hby at_38) (by decide) (by decide)
    obtain ⟨b12, g12⟩ : ∃ z, z = h9.size := ⟨_, rfl⟩
    rw [← g12] at A12 D12 st12
    have q12_b2 : b2 ≠ b12 := Nat.ne_of_lt (Nat.lt_of_lt_of_le f9_.lt (Nat.le_of_eq g12.symm))
    have u12 : n0 ≤ b12 := Nat.le_trans z10 (Nat.le_of_eq g12.symm)
    have z13 : n0 ≤ h12.size := Nat.le_trans z10 E12.1
    have f14 : Fld Z h12 b12 "com/example/libentkey/libentkey/codec/KeyReader" "key" "[B" .null := D12 (Or.inr (w_12 hw)) (ty := (.array .byte)) (by decide)
    have f15 : Fld Z h12 b12 "com/example/libentkey/libentkey/codec/KeyReader" "position" "I" (.int (0 : Int32)) := D12 (Or.inl (w_19 hw)) (ty := .int) (by decide)
    refine own_st (B := T12.setTop (mkF m 41 #[.val (.int arg0), .val (.int arg1), .val (.int arg2), .val (.int arg3), .val (.int v1), .val (.ref b2), .unset, .unset, .unset, .unset, .unset] [(.ref b12)])) (fun t k => st12 t k) ?_
    refine own_st (B := T12.setTop (mkF m 42 #[.val (.int arg0), .val (.int arg1), .val (.int arg2), .val (.int arg3), .val (.int v1), .val (.ref b2), .unset, .unset, .unset, .unset, .unset] [(.ref b12), (.ref b12)])) (fun t k => XS.dup X12.here hx rfl (hb hby at_41) rfl rfl k) ?_
    refine own_st (B := T12.setTop (mkF m 44 #[.val (.int arg0), .val (.int arg1), .val (.int arg2), .val (.int arg3), .val (.int v1), .val (.ref b2), .unset, .unset, .unset, .unset, .unset] [(.ref b2), (.ref b12), (.ref b12)])) (fun t k => XS.aload X12.here hx rfl (hb hby at_42) rfl rfl k) ?_
    obtain ⟨_, _, ⟨T16, L16, k16, j16⟩, -, X16, ⟨Lc16, hQ16, l16, y16_, z16_⟩, st16⟩ := X12.specialBack hx (y := (⟨"com/example/libentkey/libentkey/codec/KeyReader", "<init>", "([B)V"⟩ : MethodName)) rfl hown (mvT hZ (w_5 hw)) (mvT hZ (w_6 hw)) (mvT hZ (w_7 hw)) (by decide) (backOf (W := 1) (rm1 l Z a0 hw [] b12 b2 h12 n0 z13 A12 f14 f15 u12) hZ (w_7 hw) (w_4 hw) (by decide) (by decide)) (g := (mkF m 44 #[.val (.int arg0), .val (.int arg1), .val (.int arg2), .val (.int arg3), .val (.int v1), .val (.ref b2), .unset, .unset, .unset, .unset, .unset] [(.ref b2), (.ref b12), (.ref b12)])) rfl (by rw [hml]; rfl) (Steps.refl _) (a := b12) (argsL := [(.ref b2)]) (rest := [(.ref b12)]) (lenOf own_pd1 rfl) rfl (by show 2 * 0 + _ ≤ _; exact Nat.le_of_eq rfl) (hb hby at_44) (fun _ _ => ⟨rfl, e12, (by decide : 2 + 0 ≤ _), (by decide : 13 + 0 ≤ _)⟩)
    dsimp only [Pt.U, Pt.locs, Pt.cells, Pt.slots] at X16 l16 y16_ z16_ st16 hQ16
    subst l16 y16_ z16_
    obtain ⟨rfl, N16q, K16, p16_0, p16_1, p16_2⟩ := hQ16
    have N16 := Fr.app n11 N16q
    have z17 : n0 ≤ T16.heap.size := Nat.le_trans z13 K16.1
    refine own_ss (B := T16.setTop (mkF m 47 #[.val (.int arg0), .val (.int arg1), .val (.int arg2), .val (.int arg3), .val (.int v1), .val (.ref b2), .unset, .unset, .unset, .unset, .unset] [(.ref b12)])) st16 ?_
    refine own_st (B := T16.setTop (mkF m 49 #[.val (.int arg0), .val (.int arg1), .val (.int arg2), .val (.int arg3), .val (.int v1), .val (.ref b2), .val (.ref b12), .unset, .unset, .unset, .unset] [])) (fun t k => XS.astore X16.here hx rfl (hb hby at_47) rfl rfl (l' := #[.val (.int arg0), .val (.int arg1), .val (.int arg2), .val (.int arg3), .val (.int v1), .val (.ref b2), .val (.ref b12), .unset, .unset, .unset, .unset]) rfl k) ?_
    refine own_st (B := T16.setTop (mkF m 51 #[.val (.int arg0), .val (.int arg1), .val (.int arg2), .val (.int arg3), .val (.int v1), .val (.ref b2), .val (.ref b12), .unset, .unset, .unset, .unset] [(.ref b12)])) (fun t k => XS.aload X16.here hx rfl (hb hby at_49) rfl rfl k) ?_
    have f18 : own_A Z T16.heap b2 .byte (((List.replicate (v1.toInt.toNat) (Value.int (0 : Int32))).set 0 (.int ((arg3.toInt8.toInt32).toInt8.toInt32))).set ((v1 - (1 : Int32)).toInt.toNat) (.int ((((arg3.toUInt32 >>> ((8 : Int32) &&& 31).toUInt32).toInt32).toInt8.toInt32).toInt8.toInt32))) := ((f9_.ext E12).keep K16 (ninS q12_b2 nin0))
    obtain ⟨cq19, kq19, q19a, q19b, q19c⟩ := isOf hZ rfl p16_0
    obtain ⟨_, _, ⟨T19, L19, k19, j19⟩, -, X19, ⟨Lc19, hQ19, l19, y19_, z19_⟩, st19⟩ := X16.virtualBack hx (y := (⟨"com/example/libentkey/libentkey/codec/KeyReader", "hasMore", "()Z"⟩ : MethodName)) (z := (⟨"com/example/libentkey/libentkey/codec/KeyReader", "hasMore", "()Z"⟩ : MethodName)) hown (mvT hZ (w_13 hw)) (mvT hZ (w_14 hw)) (notFace_of_selects (args := #[]) (mvT hZ (w_16 hw))) (mvT hZ (w_16 hw)) (mvT hZ (w_15 hw)) (by decide) (backOf (W := 0) (rm3 l Z a0 hw [] b12 b2 (0 : Int32) (((List.replicate (v1.toInt.toNat) (Value.int (0 : Int32))).set 0 (.int ((arg3.toInt8.toInt32).toInt8.toInt32))).set ((v1 - (1 : Int32)).toInt.toNat) (.int ((((arg3.toUInt32 >>> ((8 : Int32) &&& 31).toUInt32).toInt32).toInt8.toInt32).toInt8.toInt32))) v1 T16.heap n0 z17 p16_1 p16_2 f18 (show v1.toInt = ((((List.replicate (v1.toInt.toNat) (Value.int (0 : Int32))).set 0 (.int ((arg3.toInt8.toInt32).toInt8.toInt32))).set ((v1 - (1 : Int32)).toInt.toNat) (.int ((((arg3.toUInt32 >>> ((8 : Int32) &&& 31).toUInt32).toInt32).toInt8.toInt32).toInt8.toInt32))).length : Int) by simp only [List.length_set, List.length_replicate]; exact own_nat (own_ten ev1).1)) hZ (w_17 hw) (w_4 hw) (by decide) (by decide)) q19a q19c (g := (mkF m 51 #[.val (.int arg0), .val (.int arg1), .val (.int arg2), .val (.int arg3), .val (.int v1), .val (.ref b2), .val (.ref b12), .unset, .unset, .unset, .unset] [(.ref b12)])) rfl (by rw [hml]; rfl) (Steps.refl _) (argsL := []) (rest := []) (lenOf own_pd2 rfl) rfl (by show 2 * 0 + _ ≤ _; exact Nat.le_of_eq rfl) (hb hby at_51) (fun _ _ => ⟨rfl, rfl, (by decide : 2 + 0 ≤ _), (by decide : 13 + 0 ≤ _)⟩)
    dsimp only [Pt.U, Pt.locs, Pt.cells, Pt.slots] at X19 l19 y19_ z19_ st19 hQ19
    subst l19 y19_ z19_
    obtain ⟨rfl, N19q, e19q⟩ := hQ19
    have N19 := Fr.app N16 N19q
    refine own_ss (B := T19.setTop (mkF m 54 #[.val (.int arg0), .val (.int arg1), .val (.int arg2), .val (.int arg3), .val (.int v1), .val (.ref b2), .val (.ref b12), .unset, .unset, .unset, .unset] [(.int (if (0 : Int32) < v1 then (1 : Int32) else 0))])) st19 ?_
    refine own_st (B := T19.setTop (mkF m 56 #[.val (.int arg0), .val (.int arg1), .val (.int arg2), .val (.int arg3), .val (.int v1), .val (.ref b2), .val (.ref b12), .unset, .unset, .unset, .unset] [(.int v1), (.int (if (0 : Int32) < v1 then (1 : Int32) else 0))])) (fun t k => XS.iload X19.here hx rfl (hb hby at_54) rfl k) ?_
    refine own_st (B := T19.setTop (mkF m 59 #[.val (.int arg0), .val (.int arg1), .val (.int arg2), .val (.int arg3), .val (.int v1), .val (.ref b2), .val (.ref b12), .unset, .unset, .unset, .unset] [(.int (if (0 : Int32) < v1 then (1 : Int32) else 0))])) (fun t k => XS.ifNo X19.here hx rfl (hb hby at_56) rfl (XT.i0_le_f hc4) k) ?_
    refine own_st (B := T19.setTop (mkF m 60 #[.val (.int arg0), .val (.int arg1), .val (.int arg2), .val (.int arg3), .val (.int v1), .val (.ref b2), .val (.ref b12), .unset, .unset, .unset, .unset] [(.int (1 : Int32)), (.int (if (0 : Int32) < v1 then (1 : Int32) else 0))])) (fun t k => XS.iconst X19.here hx rfl (hb hby at_59) k) ?_
    refine own_st (B := T19.setTop (mkF m 64 #[.val (.int arg0), .val (.int arg1), .val (.int arg2), .val (.int arg3), .val (.int v1), .val (.ref b2), .val (.ref b12), .unset, .unset, .unset, .unset] [(.int (1 : Int32)), (.int (if (0 : Int32) < v1 then (1 : Int32) else 0))])) (fun t k => XS.goto X19.here hx rfl (pc0 := 60) (pc' := 64) rfl (hb hby at_60) (by decide) (by decide) k) ?_
    have hc20 : (if (0 : Int32) < v1 then (1 : Int32) else 0) = (1 : Int32) := by
      rw [if_pos hc4]
    refine own_st (B := T19.setTop (mkF m 67 #[.val (.int arg0), .val (.int arg1), .val (.int arg2), .val (.int arg3), .val (.int v1), .val (.ref b2), .val (.ref b12), .unset, .unset, .unset, .unset] [])) (fun t k => XS.icmpNo X19.here hx rfl (hb hby at_64) rfl (XT.ii_ne_f hc20) k) ?_
    refine own_st (B := T19.setTop (mkF m 68 #[.val (.int arg0), .val (.int arg1), .val (.int arg2), .val (.int arg3), .val (.int v1), .val (.ref b2), .val (.ref b12), .unset, .unset, .unset, .unset] [(.int (1 : Int32))])) (fun t k => XS.iconst X19.here hx rfl (hb hby at_67) k) ?_
    refine own_st (B := T19.setTop (mkF m 72 #[.val (.int arg0), .val (.int arg1), .val (.int arg2), .val (.int arg3), .val (.int v1), .val (.ref b2), .val (.ref b12), .unset, .unset, .unset, .unset] [(.int (1 : Int32))])) (fun t k => XS.goto X19.here hx rfl (pc0 := 68) (pc' := 72) rfl (hb hby at_68) (by decide) (by decide) k) ?_
    refine own_st (B := T19.setTop (mkF m 74 #[.val (.int arg0), .val (.int arg1), .val (.int arg2), .val (.int arg3), .val (.int v1), .val (.ref b2), .val (.ref b12), .val (.int (1 : Int32)), .unset, .unset, .unset] [])) (fun t k => XS.istore X19.here hx rfl (hb hby at_72) rfl (l' := #[.val (.int arg0), .val (.int arg1), .val (.int arg2), .val (.int arg3), .val (.int v1), .val (.ref b2), .val (.ref b12), .val (.int (1 : Int32)), .unset, .unset, .unset]) rfl k) ?_
    refine own_st (B := T19.setTop (mkF m 75 #[.val (.int arg0), .val (.int arg1), .val (.int arg2), .val (.int arg3), .val (.int v1), .val (.ref b2), .val (.ref b12), .val (.int (1 : Int32)), .unset, .unset, .unset] [(.int arg1)])) (fun t k => XS.iloadN X19.here hx rfl (hb hby at_74) rfl k) ?_
    refine own_st (B := T19.setTop (mkF m 77 #[.val (.int arg0), .val (.int arg1), .val (.int arg2), .val (.int arg3), .val (.int v1), .val (.ref b2), .val (.ref b12), .val (.int (1 : Int32)), .unset, .unset, .unset] [(.int (2147483647 : Int32)), (.int arg1)])) (fun t k => X19.ldcInt hx hown (mvT hZ (w_0 hw)) (g := (mkF m 75 #[.val (.int arg0), .val (.int arg1), .val (.int arg2), .val (.int arg3), .val (.int v1), .val (.ref b2), .val (.ref b12), .val (.int (1 : Int32)), .unset, .unset, .unset] [(.int arg1)])) rfl (hb hby at_75) _ k) ?_
    refine own_st (B := T19.setTop (mkF m 78 #[.val (.int arg0), .val (.int arg1), .val (.int arg2), .val (.int arg3), .val (.int v1), .val (.ref b2), .val (.ref b12), .val (.int (1 : Int32)), .unset, .unset, .unset] [(.int (arg1 &&& (2147483647 : Int32)))])) (fun t k => XS.iand X19.here hx rfl (hb hby at_77) rfl k) ?_
    refine own_st (B := T19.setTop (mkF m 80 #[.val (.int arg0), .val (.int arg1), .val (.int arg2), .val (.int arg3), .val (.int v1), .val (.ref b2), .val (.ref b12), .val (.int (1 : Int32)), .unset, .unset, .unset] [(.int (9 : Int32)), (.int (arg1 &&& (2147483647 : Int32)))])) (fun t k => XS.bipush X19.here hx rfl (hb hby at_78) k) ?_
    refine own_st (B := T19.setTop (mkF m 81 #[.val (.int arg0), .val (.int arg1), .val (.int arg2), .val (.int arg3), .val (.int v1), .val (.ref b2), .val (.ref b12), .val (.int (1 : Int32)), .unset, .unset, .unset] [(.int ((arg1 &&& (2147483647 : Int32)) % (9 : Int32)))])) (fun t k => iremM X19 hx (g := (mkF m 80 #[.val (.int arg0), .val (.int arg1), .val (.int arg2), .val (.int arg3), .val (.int v1), .val (.ref b2), .val (.ref b12), .val (.int (1 : Int32)), .unset, .unset, .unset] [(.int (9 : Int32)), (.int (arg1 &&& (2147483647 : Int32)))])) rfl (x := (arg1 &&& (2147483647 : Int32))) (y := (9 : Int32)) (rest := []) (hb hby at_80) rfl (by decide) k) ?_
    refine own_st (B := T19.setTop (mkF m 83 #[.val (.int arg0), .val (.int arg1), .val (.int arg2), .val (.int arg3), .val (.int v1), .val (.ref b2), .val (.ref b12), .val (.int (1 : Int32)), .unset, .unset, .unset] [(.int v1), (.int ((arg1 &&& (2147483647 : Int32)) % (9 : Int32)))])) (fun t k => XS.iload X19.here hx rfl (hb hby at_81) rfl k) ?_
    obtain ⟨_, _, ⟨T21, L21, k21, j21⟩, -, X21, ⟨Lc21, hQ21, l21, y21_, z21_⟩, st21⟩ := Jvm.LawKit.callS X19 hx (y := (⟨"java/lang/Math", "min", "(II)I"⟩ : MethodName)) hown (mvT hZ (w_20 hw)) (mvT hZ (w_21 hw)) (mvT hZ (w_22 hw)) (mvT hZ (w_23 hw)) (by decide) (backOf (W := 0) (rm4 l Z a0 hw [] ((arg1 &&& (2147483647 : Int32)) % (9 : Int32)) v1 T16.heap n0 z17 ) hZ (w_23 hw) (w_22 hw) (by decide) (by decide)) (g := (mkF m 83 #[.val (.int arg0), .val (.int arg1), .val (.int arg2), .val (.int arg3), .val (.int v1), .val (.ref b2), .val (.ref b12), .val (.int (1 : Int32)), .unset, .unset, .unset] [(.int v1), (.int ((arg1 &&& (2147483647 : Int32)) % (9 : Int32)))])) rfl (by rw [hml]; rfl) (argsL := [(.int ((arg1 &&& (2147483647 : Int32)) % (9 : Int32))), (.int v1)]) (rest := []) (lenOf own_pd3 rfl) rfl (by show 2 * 0 + _ ≤ _; exact Nat.le_of_eq rfl) (hb hby at_83) (fun _ _ => ⟨rfl, e19q, (by decide : 2 + 0 ≤ _), (by decide : 13 + 0 ≤ _)⟩)
    dsimp only [Pt.U, Pt.locs, Pt.cells, Pt.slots] at X21 l21 y21_ z21_ st21 hQ21
    subst l21 y21_ z21_
    obtain ⟨rfl, N21q, e21q⟩ := hQ21
    have N21 := Fr.app N19 N21q
    refine own_st (B := T21.setTop (mkF m 86 #[.val (.int arg0), .val (.int arg1), .val (.int arg2), .val (.int arg3), .val (.int v1), .val (.ref b2), .val (.ref b12), .val (.int (1 : Int32)), .unset, .unset, .unset] [(.int (own_min ((arg1 &&& (2147483647 : Int32)) % (9 : Int32)) v1))])) (fun t k => st21 t k) ?_
    obtain ⟨v22, ev22⟩ : ∃ z : Int32, z = (own_min ((arg1 &&& (2147483647 : Int32)) % (9 : Int32)) v1) := ⟨_, rfl⟩
    rw [← ev22]
    refine own_st (B := T21.setTop (mkF m 88 #[.val (.int arg0), .val (.int arg1), .val (.int arg2), .val (.int arg3), .val (.int v1), .val (.ref b2), .val (.ref b12), .val (.int (1 : Int32)), .val (.int v22), .unset, .unset] [])) (fun t k => XS.istore X21.here hx rfl (hb hby at_86) rfl (l' := #[.val (.int arg0), .val (.int arg1), .val (.int arg2), .val (.int arg3), .val (.int v1), .val (.ref b2), .val (.ref b12), .val (.int (1 : Int32)), .val (.int v22), .unset, .unset]) rfl k) ?_
    refine own_st (B := T21.setTop (mkF m 90 #[.val (.int arg0), .val (.int arg1), .val (.int arg2), .val (.int arg3), .val (.int v1), .val (.ref b2), .val (.ref b12), .val (.int (1 : Int32)), .val (.int v22), .unset, .unset] [(.ref b12)])) (fun t k => XS.aload X21.here hx rfl (hb hby at_88) rfl rfl k) ?_
    refine own_st (B := T21.setTop (mkF m 92 #[.val (.int arg0), .val (.int arg1), .val (.int arg2), .val (.int arg3), .val (.int v1), .val (.ref b2), .val (.ref b12), .val (.int (1 : Int32)), .val (.int v22), .unset, .unset] [(.int v22), (.ref b12)])) (fun t k => XS.iload X21.here hx rfl (hb hby at_90) rfl k) ?_
    obtain ⟨cq23, kq23, q23a, q23b, q23c⟩ := isOf hZ e21q p16_0
    obtain ⟨_, _, ⟨T23, L23, k23, j23⟩, -, X23, ⟨Lc23, hQ23, l23, y23_, z23_⟩, st23⟩ := X21.virtualBack hx (y := (⟨"com/example/libentkey/libentkey/codec/KeyReader", "nextLong", "(I)J"⟩ : MethodName)) (z := (⟨"com/example/libentkey/libentkey/codec/KeyReader", "nextLong", "(I)J"⟩ : MethodName)) hown (mvT hZ (w_24 hw)) (mvT hZ (w_25 hw)) (notFace_of_selects (args := #[]) (mvT hZ (w_27 hw))) (mvT hZ (w_27 hw)) (mvT hZ (w_26 hw)) (by decide) (backOf (W := 0) (rm5 l Z a0 hw [] b12 v22 b2 (0 : Int32) (((List.replicate (v1.toInt.toNat) (Value.int (0 : Int32))).set 0 (.int ((arg3.toInt8.toInt32).toInt8.toInt32))).set ((v1 - (1 : Int32)).toInt.toNat) (.int ((((arg3.toUInt32 >>> ((8 : Int32) &&& 31).toUInt32).toInt32).toInt8.toInt32).toInt8.toInt32))) v1 T16.heap n0 z17 p16_0 p16_1 p16_2 f18 u12 (show v1.toInt = ((((List.replicate (v1.toInt.toNat) (Value.int (0 : Int32))).set 0 (.int ((arg3.toInt8.toInt32).toInt8.toInt32))).set ((v1 - (1 : Int32)).toInt.toNat) (.int ((((arg3.toUInt32 >>> ((8 : Int32) &&& 31).toUInt32).toInt32).toInt8.toInt32).toInt8.toInt32))).length : Int) by simp only [List.length_set, List.length_replicate]; exact own_nat (own_ten ev1).1) (show own_ints (((List.replicate (v1.toInt.toNat) (Value.int (0 : Int32))).set 0 (.int ((arg3.toInt8.toInt32).toInt8.toInt32))).set ((v1 - (1 : Int32)).toInt.toNat) (.int ((((arg3.toUInt32 >>> ((8 : Int32) &&& 31).toUInt32).toInt32).toInt8.toInt32).toInt8.toInt32))) by first | exact own_ints_rep _ _ | exact own_ints_set (own_ints_set (own_ints_rep _ _) _ _) _ _) (by decide) (own_mn ev22 (own_nine _) (own_ten ev1).1).1 (show (0 : Int32).toInt + v22.toInt ≤ v1.toInt by have := (own_mn ev22 (own_nine _) (own_ten ev1).1); have h0 : (0 : Int32).toInt = 0 := rfl; omega)) hZ (w_28 hw) (w_4 hw) (by decide) (by decide)) q23a q23c (g := (mkF m 92 #[.val (.int arg0), .val (.int arg1), .val (.int arg2), .val (.int arg3), .val (.int v1), .val (.ref b2), .val (.ref b12), .val (.int (1 : Int32)), .val (.int v22), .unset, .unset] [(.int v22), (.ref b12)])) rfl (by rw [hml]; rfl) (Steps.refl _) (argsL := [(.int v22)]) (rest := []) (lenOf own_pd4 rfl) rfl (by show 2 * 0 + _ ≤ _; exact Nat.le_of_eq rfl) (hb hby at_92) (fun _ _ => ⟨rfl, e21q, (by decide : 2 + 0 ≤ _), (by decide : 13 + 0 ≤ _)⟩)
    dsimp only [Pt.U, Pt.locs, Pt.cells, Pt.slots] at X23 l23 y23_ z23_ st23 hQ23
    subst l23 y23_ z23_
    obtain ⟨z_23, rfl, N23q, K23, p23_0, p23_1, p23_2⟩ := hQ23
    have N23 := Fr.app N21 N23q
    have z24 : n0 ≤ T23.heap.size := Nat.le_trans z17 K23.1
    refine own_ss (B := T23.setTop (mkF m 95 #[.val (.int arg0), .val (.int arg1), .val (.int arg2), .val (.int arg3), .val (.int v1), .val (.ref b2), .val (.ref b12), .val (.int (1 : Int32)), .val (.int v22), .unset, .unset] [(.long z_23)])) st23 ?_
    refine own_st (B := T23.setTop (mkF m 96 #[.val (.int arg0), .val (.int arg1), .val (.int arg2), .val (.int arg3), .val (.int v1), .val (.ref b2), .val (.ref b12), .val (.int (1 : Int32)), .val (.int v22), .unset, .unset] [])) (fun t k => own_pop2 X23.here hx rfl (hb hby at_95) rfl k) ?_
    refine own_st (B := T23.setTop (mkF m 98 #[.val (.int arg0), .val (.int arg1), .val (.int arg2), .val (.int arg3), .val (.int v1), .val (.ref b2), .val (.ref b12), .val (.int (1 : Int32)), .val (.int v22), .unset, .unset] [(.int (1 : Int32))])) (fun t k => XS.iload X23.here hx rfl (hb hby at_96) rfl k) ?_
    refine own_st (B := T23.setTop (mkF m 101 #[.val (.int arg0), .val (.int arg1), .val (.int arg2), .val (.int arg3), .val (.int v1), .val (.ref b2), .val (.ref b12), .val (.int (1 : Int32)), .val (.int v22), .unset, .unset] [])) (fun t k => XS.ifNo X23.here hx rfl (hb hby at_98) rfl (by decide) k) ?_
    refine own_st (B := T23.setTop (mkF m 103 #[.val (.int arg0), .val (.int arg1), .val (.int arg2), .val (.int arg3), .val (.int v1), .val (.ref b2), .val (.ref b12), .val (.int (1 : Int32)), .val (.int v22), .unset, .unset] [(.ref b12)])) (fun t k => XS.aload X23.here hx rfl (hb hby at_101) rfl rfl k) ?_
    obtain ⟨cq25, kq25, q25a, q25b, q25c⟩ := isOf hZ rfl p23_0
    obtain ⟨_, _, ⟨T25, L25, k25, j25⟩, -, X25, ⟨Lc25, hQ25, l25, y25_, z25_⟩, st25⟩ := X23.virtualBack hx (y := (⟨"com/example/libentkey/libentkey/codec/KeyReader", "position", "()I"⟩ : MethodName)) (z := (⟨"com/example/libentkey/libentkey/codec/KeyReader", "position", "()I"⟩ : MethodName)) hown (mvT hZ (w_29 hw)) (mvT hZ (w_30 hw)) (notFace_of_selects (args := #[]) (mvT hZ (w_32 hw))) (mvT hZ (w_32 hw)) (mvT hZ (w_31 hw)) (by decide) (backOf (W := 0) (rm6 l Z a0 hw [] b12 ((0 : Int32) + v22) T23.heap n0 z24 p23_2) hZ (w_33 hw) (w_4 hw) (by decide) (by decide)) q25a q25c (g := (mkF m 103 #[.val (.int arg0), .val (.int arg1), .val (.int arg2), .val (.int arg3), .val (.int v1), .val (.ref b2), .val (.ref b12), .val (.int (1 : Int32)), .val (.int v22), .unset, .unset] [(.ref b12)])) rfl (by rw [hml]; rfl) (Steps.refl _) (argsL := []) (rest := []) (lenOf own_pd5 rfl) rfl (by show 2 * 0 + _ ≤ _; exact Nat.le_of_eq rfl) (hb hby at_103) (fun _ _ => ⟨rfl, rfl, (by decide : 2 + 0 ≤ _), (by decide : 13 + 0 ≤ _)⟩)
    dsimp only [Pt.U, Pt.locs, Pt.cells, Pt.slots] at X25 l25 y25_ z25_ st25 hQ25
    subst l25 y25_ z25_
    obtain ⟨rfl, N25q, e25q⟩ := hQ25
    have N25 := Fr.app N23 N25q
    refine own_ss (B := T25.setTop (mkF m 106 #[.val (.int arg0), .val (.int arg1), .val (.int arg2), .val (.int arg3), .val (.int v1), .val (.ref b2), .val (.ref b12), .val (.int (1 : Int32)), .val (.int v22), .unset, .unset] [(.int ((0 : Int32) + v22))])) st25 ?_
    refine own_st (B := T25.setTop (mkF m 108 #[.val (.int arg0), .val (.int arg1), .val (.int arg2), .val (.int arg3), .val (.int v1), .val (.ref b2), .val (.ref b12), .val (.int (1 : Int32)), .val (.int v22), .unset, .unset] [(.int v22), (.int ((0 : Int32) + v22))])) (fun t k => XS.iload X25.here hx rfl (hb hby at_106) rfl k) ?_
    have hc26 : ((0 : Int32) + v22) = v22 := by
      exact Int32.zero_add _
    refine own_st (B := T25.setTop (mkF m 111 #[.val (.int arg0), .val (.int arg1), .val (.int arg2), .val (.int arg3), .val (.int v1), .val (.ref b2), .val (.ref b12), .val (.int (1 : Int32)), .val (.int v22), .unset, .unset] [])) (fun t k => XS.icmpNo X25.here hx rfl (hb hby at_108) rfl (XT.ii_ne_f hc26) k) ?_
    refine own_st (B := T25.setTop (mkF m 112 #[.val (.int arg0), .val (.int arg1), .val (.int arg2), .val (.int arg3), .val (.int v1), .val (.ref b2), .val (.ref b12), .val (.int (1 : Int32)), .val (.int v22), .unset, .unset] [(.int (1 : Int32))])) (fun t k => XS.iconst X25.here hx rfl (hb hby at_111) k) ?_
    refine own_st (B := T25.setTop (mkF m 116 #[.val (.int arg0), .val (.int arg1), .val (.int arg2), .val (.int arg3), .val (.int v1), .val (.ref b2), .val (.ref b12), .val (.int (1 : Int32)), .val (.int v22), .unset, .unset] [(.int (1 : Int32))])) (fun t k => XS.goto X25.here hx rfl (pc0 := 112) (pc' := 116) rfl (hb hby at_112) (by decide) (by decide) k) ?_
    refine own_st (B := T25.setTop (mkF m 118 #[.val (.int arg0), .val (.int arg1), .val (.int arg2), .val (.int arg3), .val (.int v1), .val (.ref b2), .val (.ref b12), .val (.int (1 : Int32)), .val (.int v22), .unset, .unset] [])) (fun t k => XS.istore X25.here hx rfl (hb hby at_116) rfl (l' := #[.val (.int arg0), .val (.int arg1), .val (.int arg2), .val (.int arg3), .val (.int v1), .val (.ref b2), .val (.ref b12), .val (.int (1 : Int32)), .val (.int v22), .unset, .unset]) rfl k) ?_
    refine own_st (B := T25.setTop (mkF m 120 #[.val (.int arg0), .val (.int arg1), .val (.int arg2), .val (.int arg3), .val (.int v1), .val (.ref b2), .val (.ref b12), .val (.int (1 : Int32)), .val (.int v22), .unset, .unset] [(.int (1 : Int32))])) (fun t k => XS.iload X25.here hx rfl (hb hby at_118) rfl k) ?_
    refine own_st (B := T25.setTop (mkF m 123 #[.val (.int arg0), .val (.int arg1), .val (.int arg2), .val (.int arg3), .val (.int v1), .val (.ref b2), .val (.ref b12), .val (.int (1 : Int32)), .val (.int v22), .unset, .unset] [])) (fun t k => XS.ifNo X25.here hx rfl (hb hby at_120) rfl (by decide) k) ?_
    refine own_st (B := T25.setTop (mkF m 125 #[.val (.int arg0), .val (.int arg1), .val (.int arg2), .val (.int arg3), .val (.int v1), .val (.ref b2), .val (.ref b12), .val (.int (1 : Int32)), .val (.int v22), .unset, .unset] [(.ref b12)])) (fun t k => XS.aload X25.here hx rfl (hb hby at_123) rfl rfl k) ?_
    have f27 : own_A Z T23.heap b2 .byte (((List.replicate (v1.toInt.toNat) (Value.int (0 : Int32))).set 0 (.int ((arg3.toInt8.toInt32).toInt8.toInt32))).set ((v1 - (1 : Int32)).toInt.toNat) (.int ((((arg3.toUInt32 >>> ((8 : Int32) &&& 31).toUInt32).toInt32).toInt8.toInt32).toInt8.toInt32))) := (f18.keep K23 (ninS q12_b2 nin0))
    obtain ⟨cq28, kq28, q28a, q28b, q28c⟩ := isOf hZ e25q p23_0
    obtain ⟨_, _, ⟨T28, L28, k28, j28⟩, -, X28, ⟨Lc28, hQ28, l28, y28_, z28_⟩, st28⟩ := X25.virtualBack hx (y := (⟨"com/example/libentkey/libentkey/codec/KeyReader", "hasMore", "()Z"⟩ : MethodName)) (z := (⟨"com/example/libentkey/libentkey/codec/KeyReader", "hasMore", "()Z"⟩ : MethodName)) hown (mvT hZ (w_13 hw)) (mvT hZ (w_14 hw)) (notFace_of_selects (args := #[]) (mvT hZ (w_16 hw))) (mvT hZ (w_16 hw)) (mvT hZ (w_15 hw)) (by decide) (backOf (W := 0) (rm3 l Z a0 hw [] b12 b2 ((0 : Int32) + v22) (((List.replicate (v1.toInt.toNat) (Value.int (0 : Int32))).set 0 (.int ((arg3.toInt8.toInt32).toInt8.toInt32))).set ((v1 - (1 : Int32)).toInt.toNat) (.int ((((arg3.toUInt32 >>> ((8 : Int32) &&& 31).toUInt32).toInt32).toInt8.toInt32).toInt8.toInt32))) v1 T23.heap n0 z24 p23_1 p23_2 f27 (show v1.toInt = ((((List.replicate (v1.toInt.toNat) (Value.int (0 : Int32))).set 0 (.int ((arg3.toInt8.toInt32).toInt8.toInt32))).set ((v1 - (1 : Int32)).toInt.toNat) (.int ((((arg3.toUInt32 >>> ((8 : Int32) &&& 31).toUInt32).toInt32).toInt8.toInt32).toInt8.toInt32))).length : Int) by simp only [List.length_set, List.length_replicate]; exact own_nat (own_ten ev1).1)) hZ (w_17 hw) (w_4 hw) (by decide) (by decide)) q28a q28c (g := (mkF m 125 #[.val (.int arg0), .val (.int arg1), .val (.int arg2), .val (.int arg3), .val (.int v1), .val (.ref b2), .val (.ref b12), .val (.int (1 : Int32)), .val (.int v22), .unset, .unset] [(.ref b12)])) rfl (by rw [hml]; rfl) (Steps.refl _) (argsL := []) (rest := []) (lenOf own_pd2 rfl) rfl (by show 2 * 0 + _ ≤ _; exact Nat.le_of_eq rfl) (hb hby at_125) (fun _ _ => ⟨rfl, e25q, (by decide : 2 + 0 ≤ _), (by decide : 13 + 0 ≤ _)⟩)
    dsimp only [Pt.U, Pt.locs, Pt.cells, Pt.slots] at X28 l28 y28_ z28_ st28 hQ28
    subst l28 y28_ z28_
    obtain ⟨rfl, N28q, e28q⟩ := hQ28
    have N28 := Fr.app N25 N28q
    refine own_ss (B := T28.setTop (mkF m 128 #[.val (.int arg0), .val (.int arg1), .val (.int arg2), .val (.int arg3), .val (.int v1), .val (.ref b2), .val (.ref b12), .val (.int (1 : Int32)), .val (.int v22), .unset, .unset] [(.int (if ((0 : Int32) + v22) < v1 then (1 : Int32) else 0))])) st28 ?_
    refine own_st (B := T28.setTop (mkF m 130 #[.val (.int arg0), .val (.int arg1), .val (.int arg2), .val (.int arg3), .val (.int v1), .val (.ref b2), .val (.ref b12), .val (.int (1 : Int32)), .val (.int v22), .unset, .unset] [(.int v22), (.int (if ((0 : Int32) + v22) < v1 then (1 : Int32) else 0))])) (fun t k => XS.iload X28.here hx rfl (hb hby at_128) rfl k) ?_
    refine own_st (B := T28.setTop (mkF m 132 #[.val (.int arg0), .val (.int arg1), .val (.int arg2), .val (.int arg3), .val (.int v1), .val (.ref b2), .val (.ref b12), .val (.int (1 : Int32)), .val (.int v22), .unset, .unset] [(.int v1), (.int v22), (.int (if ((0 : Int32) + v22) < v1 then (1 : Int32) else 0))])) (fun t k => XS.iload X28.here hx rfl (hb hby at_130) rfl k) ?_
    refine own_cut (P := ∀ (v30 : Int32), (v30 = (if v22 < v1 then (1 : Int32) else (0 : Int32))) → own_Go p e below s (Q0 Z arg0 arg1 arg2 arg3 h0 n0) 16 128 (T28.setTop (mkF m 140 #[.val (.int arg0), .val (.int arg1), .val (.int arg2), .val (.int arg3), .val (.int v1), .val (.ref b2), .val (.ref b12), .val (.int (1 : Int32)), .val (.int v22), .unset, .unset] [(.int v30), (.int (if ((0 : Int32) + v22) < v1 then (1 : Int32) else 0))]))) (fun J31 => ?_) ?_
    · by_cases hc29 : v22 < v1
      · refine own_st (B := T28.setTop (mkF m 135 #[.val (.int arg0), .val (.int arg1), .val (.int arg2), .val (.int arg3), .val (.int v1), .val (.ref b2), .val (.ref b12), .val (.int (1 : Int32)), .val (.int v22), .unset, .unset] [(.int (if ((0 : Int32) + v22) < v1 then (1 : Int32) else 0))])) (fun t k => XS.icmpNo X28.here hx rfl (hb hby at_132) rfl (XT.ii_ge_f hc29) k) ?_
        refine own_st (B := T28.setTop (mkF m 136 #[.val (.int arg0), .val (.int arg1), .val (.int arg2), .val (.int arg3), .val (.int v1), .val (.ref b2), .val (.ref b12), .val (.int (1 : Int32)), .val (.int v22), .unset, .unset] [(.int (1 : Int32)), (.int (if ((0 : Int32) + v22) < v1 then (1 : Int32) else 0))])) (fun t k => XS.iconst X28.here hx rfl (hb hby at_135) k) ?_
        refine own_st (B := T28.setTop (mkF m 140 #[.val (.int arg0), .val (.int arg1), .val (.int arg2), .val (.int arg3), .val (.int v1), .val (.ref b2), .val (.ref b12), .val (.int (1 : Int32)), .val (.int v22), .unset, .unset] [(.int (1 : Int32)), (.int (if ((0 : Int32) + v22) < v1 then (1 : Int32) else 0))])) (fun t k => XS.goto X28.here hx rfl (pc0 := 136) (pc' := 140) rfl (hb hby at_136) (by decide) (by decide) k) ?_
        exact J31 (1 : Int32) (by rw [if_pos hc29])
      · refine own_st (B := T28.setTop (mkF m 139 #[.val (.int arg0), .val (.int arg1), .val (.int arg2), .val (.int arg3), .val (.int v1), .val (.ref b2), .val (.ref b12), .val (.int (1 : Int32)), .val (.int v22), .unset, .unset] [(.int (if ((0 : Int32) + v22) < v1 then (1 : Int32) else 0))])) (fun t k => XS.icmpYes X28.here hx rfl (pc0 := 132) (pc' := 139) rfl (hb hby at_132) rfl (XT.ii_ge_t hc29) (by decide) (by decide) k) ?_
        refine own_st (B := T28.setTop (mkF m 140 #[.val (.int arg0), .val (.int arg1), .val (.int arg2), .val (.int arg3), .val (.int v1), .val (.ref b2), .val (.ref b12), .val (.int (1 : Int32)), .val (.int v22), .unset, .unset] [(.int (0 : Int32)), (.int (if ((0 : Int32) + v22) < v1 then (1 : Int32) else 0))])) (fun t k => XS.iconst X28.here hx rfl (hb hby at_139) k) ?_
        exact J31 (0 : Int32) (by rw [if_neg hc29])
    intro v30 hv30
    have hc32 : (if ((0 : Int32) + v22) < v1 then (1 : Int32) else 0) = v30 := by
      rw [Int32.zero_add]; exact hv30.symm
    refine own_st (B := T28.setTop (mkF m 143 #[.val (.int arg0), .val (.int arg1), .val (.int arg2), .val (.int arg3), .val (.int v1), .val (.ref b2), .val (.ref b12), .val (.int (1 : Int32)), .val (.int v22), .unset, .unset] [])) (fun t k => XS.icmpNo X28.here hx rfl (hb hby at_140) rfl (XT.ii_ne_f hc32) k) ?_
    refine own_st (B := T28.setTop (mkF m 144 #[.val (.int arg0), .val (.int arg1), .val (.int arg2), .val (.int arg3), .val (.int v1), .val (.ref b2), .val (.ref b12), .val (.int (1 : Int32)), .val (.int v22), .unset, .unset] [(.int (1 : Int32))])) (fun t k => XS.iconst X28.here hx rfl (hb hby at_143) k) ?_
    refine own_st (B := T28.setTop (mkF m 148 #[.val (.int arg0), .val (.int arg1), .val (.int arg2), .val (.int arg3), .val (.int v1), .val (.ref b2), .val (.ref b12), .val (.int (1 : Int32)), .val (.int v22), .unset, .unset] [(.int (1 : Int32))])) (fun t k => XS.goto X28.here hx rfl (pc0 := 144) (pc' := 148) rfl (hb hby at_144) (by decide) (by decide) k) ?_
    refine own_st (B := T28.setTop (mkF m 150 #[.val (.int arg0), .val (.int arg1), .val (.int arg2), .val (.int arg3), .val (.int v1), .val (.ref b2), .val (.ref b12), .val (.int (1 : Int32)), .val (.int v22), .unset, .unset] [])) (fun t k => XS.istore X28.here hx rfl (hb hby at_148) rfl (l' := #[.val (.int arg0), .val (.int arg1), .val (.int arg2), .val (.int arg3), .val (.int v1), .val (.ref b2), .val (.ref b12), .val (.int (1 : Int32)), .val (.int v22), .unset, .unset]) rfl k) ?_
    refine own_st (B := T28.setTop (mkF m 151 #[.val (.int arg0), .val (.int arg1), .val (.int arg2), .val (.int arg3), .val (.int v1), .val (.ref b2), .val (.ref b12), .val (.int (1 : Int32)), .val (.int v22), .unset, .unset] [(.int arg2)])) (fun t k => XS.iloadN X28.here hx rfl (hb hby at_150) rfl k) ?_
    refine own_st (B := T28.setTop (mkF m 153 #[.val (.int arg0), .val (.int arg1), .val (.int arg2), .val (.int arg3), .val (.int v1), .val (.ref b2), .val (.ref b12), .val (.int (1 : Int32)), .val (.int v22), .unset, .unset] [(.int (2147483647 : Int32)), (.int arg2)])) (fun t k => X28.ldcInt hx hown (mvT hZ (w_0 hw)) (g := (mkF m 151 #[.val (.int arg0), .val (.int arg1), .val (.int arg2), .val (.int arg3), .val (.int v1), .val (.ref b2), .val (.ref b12), .val (.int (1 : Int32)), .val (.int v22), .unset, .unset] [(.int arg2)])) rfl (hb hby at_151) _ k) ?_
    refine own_st (B := T28.setTop (mkF m 154 #[.val (.int arg0), .val (.int arg1), .val (.int arg2), .val (.int arg3), .val (.int v1), .val (.ref b2), .val (.ref b12), .val (.int (1 : Int32)), .val (.int v22), .unset, .unset] [(.int (arg2 &&& (2147483647 : Int32)))])) (fun t k => XS.iand X28.here hx rfl (hb hby at_153) rfl k) ?_
    refine own_st (B := T28.setTop (mkF m 156 #[.val (.int arg0), .val (.int arg1), .val (.int arg2), .val (.int arg3), .val (.int v1), .val (.ref b2), .val (.ref b12), .val (.int (1 : Int32)), .val (.int v22), .unset, .unset] [(.int (9 : Int32)), (.int (arg2 &&& (2147483647 : Int32)))])) (fun t k => XS.bipush X28.here hx rfl (hb hby at_154) k) ?_
    refine own_st (B := T28.setTop (mkF m 157 #[.val (.int arg0), .val (.int arg1), .val (.int arg2), .val (.int arg3), .val (.int v1), .val (.ref b2), .val (.ref b12), .val (.int (1 : Int32)), .val (.int v22), .unset, .unset] [(.int ((arg2 &&& (2147483647 : Int32)) % (9 : Int32)))])) (fun t k => iremM X28 hx (g := (mkF m 156 #[.val (.int arg0), .val (.int arg1), .val (.int arg2), .val (.int arg3), .val (.int v1), .val (.ref b2), .val (.ref b12), .val (.int (1 : Int32)), .val (.int v22), .unset, .unset] [(.int (9 : Int32)), (.int (arg2 &&& (2147483647 : Int32)))])) rfl (x := (arg2 &&& (2147483647 : Int32))) (y := (9 : Int32)) (rest := []) (hb hby at_156) rfl (by decide) k) ?_
    refine own_st (B := T28.setTop (mkF m 159 #[.val (.int arg0), .val (.int arg1), .val (.int arg2), .val (.int arg3), .val (.int v1), .val (.ref b2), .val (.ref b12), .val (.int (1 : Int32)), .val (.int v22), .unset, .unset] [(.int v1), (.int ((arg2 &&& (2147483647 : Int32)) % (9 : Int32)))])) (fun t k => XS.iload X28.here hx rfl (hb hby at_157) rfl k) ?_
    refine own_st (B := T28.setTop (mkF m 161 #[.val (.int arg0), .val (.int arg1), .val (.int arg2), .val (.int arg3), .val (.int v1), .val (.ref b2), .val (.ref b12), .val (.int (1 : Int32)), .val (.int v22), .unset, .unset] [(.int v22), (.int v1), (.int ((arg2 &&& (2147483647 : Int32)) % (9 : Int32)))])) (fun t k => XS.iload X28.here hx rfl (hb hby at_159) rfl k) ?_
    refine own_st (B := T28.setTop (mkF m 162 #[.val (.int arg0), .val (.int arg1), .val (.int arg2), .val (.int arg3), .val (.int v1), .val (.ref b2), .val (.ref b12), .val (.int (1 : Int32)), .val (.int v22), .unset, .unset] [(.int (v1 - v22)), (.int ((arg2 &&& (2147483647 : Int32)) % (9 : Int32)))])) (fun t k => XS.isub X28.here hx rfl (hb hby at_161) rfl k) ?_
    obtain ⟨_, _, ⟨T33, L33, k33, j33⟩, -, X33, ⟨Lc33, hQ33, l33, y33_, z33_⟩, st33⟩ := Jvm.LawKit.callS X28 hx (y := (⟨"java/lang/Math", "min", "(II)I"⟩ : MethodName)) hown (mvT hZ (w_20 hw)) (mvT hZ (w_21 hw)) (mvT hZ (w_22 hw)) (mvT hZ (w_23 hw)) (by decide) (backOf (W := 0) (rm4 l Z a0 hw [] ((arg2 &&& (2147483647 : Int32)) % (9 : Int32)) (v1 - v22) T23.heap n0 z24 ) hZ (w_23 hw) (w_22 hw) (by decide) (by decide)) (g := (mkF m 162 #[.val (.int arg0), .val (.int arg1), .val (.int arg2), .val (.int arg3), .val (.int v1), .val (.ref b2), .val (.ref b12), .val (.int (1 : Int32)), .val (.int v22), .unset, .unset] [(.int (v1 - v22)), (.int ((arg2 &&& (2147483647 : Int32)) % (9 : Int32)))])) rfl (by rw [hml]; rfl) (argsL := [(.int ((arg2 &&& (2147483647 : Int32)) % (9 : Int32))), (.int (v1 - v22))]) (rest := []) (lenOf own_pd3 rfl) rfl (by show 2 * 0 + _ ≤ _; exact Nat.le_of_eq rfl) (hb hby at_162) (fun _ _ => ⟨rfl, e28q, (by decide : 2 + 0 ≤ _), (by decide : 13 + 0 ≤ _)⟩)
    dsimp only [Pt.U, Pt.locs, Pt.cells, Pt.slots] at X33 l33 y33_ z33_ st33 hQ33
    subst l33 y33_ z33_
    obtain ⟨rfl, N33q, e33q⟩ := hQ33
    have N33 := Fr.app N28 N33q
    refine own_st (B := T33.setTop (mkF m 165 #[.val (.int arg0), .val (.int arg1), .val (.int arg2), .val (.int arg3), .val (.int v1), .val (.ref b2), .val (.ref b12), .val (.int (1 : Int32)), .val (.int v22), .unset, .unset] [(.int (own_min ((arg2 &&& (2147483647 : Int32)) % (9 : Int32)) (v1 - v22)))])) (fun t k => st33 t k) ?_
    obtain ⟨v34, ev34⟩ : ∃ z : Int32, z = (own_min ((arg2 &&& (2147483647 : Int32)) % (9 : Int32)) (v1 - v22)) := ⟨_, rfl⟩
    rw [← ev34]
    refine own_st (B := T33.setTop (mkF m 167 #[.val (.int arg0), .val (.int arg1), .val (.int arg2), .val (.int arg3), .val (.int v1), .val (.ref b2), .val (.ref b12), .val (.int (1 : Int32)), .val (.int v22), .val (.int v34), .unset] [])) (fun t k => XS.istore X33.here hx rfl (hb hby at_165) rfl (l' := #[.val (.int arg0), .val (.int arg1), .val (.int arg2), .val (.int arg3), .val (.int v1), .val (.ref b2), .val (.ref b12), .val (.int (1 : Int32)), .val (.int v22), .val (.int v34), .unset]) rfl k) ?_
    refine own_st (B := T33.setTop (mkF m 169 #[.val (.int arg0), .val (.int arg1), .val (.int arg2), .val (.int arg3), .val (.int v1), .val (.ref b2), .val (.ref b12), .val (.int (1 : Int32)), .val (.int v22), .val (.int v34), .unset] [(.ref b12)])) (fun t k => XS.aload X33.here hx rfl (hb hby at_167) rfl rfl k) ?_
    refine own_st (B := T33.setTop (mkF m 171 #[.val (.int arg0), .val (.int arg1), .val (.int arg2), .val (.int arg3), .val (.int v1), .val (.ref b2), .val (.ref b12), .val (.int (1 : Int32)), .val (.int v22), .val (.int v34), .unset] [(.int v34), (.ref b12)])) (fun t k => XS.iload X33.here hx rfl (hb hby at_169) rfl k) ?_
    obtain ⟨cq35, kq35, q35a, q35b, q35c⟩ := isOf hZ e33q p23_0
    obtain ⟨_, _, ⟨T35, L35, k35, j35⟩, -, X35, ⟨Lc35, hQ35, l35, y35_, z35_⟩, st35⟩ := X33.virtualBack hx (y := (⟨"com/example/libentkey/libentkey/codec/KeyReader", "nextLong", "(I)J"⟩ : MethodName)) (z := (⟨"com/example/libentkey/libentkey/codec/KeyReader", "nextLong", "(I)J"⟩ : MethodName)) hown (mvT hZ (w_24 hw)) (mvT hZ (w_25 hw)) (notFace_of_selects (args := #[]) (mvT hZ (w_27 hw))) (mvT hZ (w_27 hw)) (mvT hZ (w_26 hw)) (by decide) (backOf (W := 0) (rm5 l Z a0 hw [] b12 v34 b2 ((0 : Int32) + v22) (((List.replicate (v1.toInt.toNat) (Value.int (0 : Int32))).set 0 (.int ((arg3.toInt8.toInt32).toInt8.toInt32))).set ((v1 - (1 : Int32)).toInt.toNat) (.int ((((arg3.toUInt32 >>> ((8 : Int32) &&& 31).toUInt32).toInt32).toInt8.toInt32).toInt8.toInt32))) v1 T23.heap n0 z24 p23_0 p23_1 p23_2 f27 u12 (show v1.toInt = ((((List.replicate (v1.toInt.toNat) (Value.int (0 : Int32))).set 0 (.int ((arg3.toInt8.toInt32).toInt8.toInt32))).set ((v1 - (1 : Int32)).toInt.toNat) (.int ((((arg3.toUInt32 >>> ((8 : Int32) &&& 31).toUInt32).toInt32).toInt8.toInt32).toInt8.toInt32))).length : Int) by simp only [List.length_set, List.length_replicate]; exact own_nat (own_ten ev1).1) (show own_ints (((List.replicate (v1.toInt.toNat) (Value.int (0 : Int32))).set 0 (.int ((arg3.toInt8.toInt32).toInt8.toInt32))).set ((v1 - (1 : Int32)).toInt.toNat) (.int ((((arg3.toUInt32 >>> ((8 : Int32) &&& 31).toUInt32).toInt32).toInt8.toInt32).toInt8.toInt32))) by first | exact own_ints_rep _ _ | exact own_ints_set (own_ints_set (own_ints_rep _ _) _ _) _ _) (show 0 ≤ ((0 : Int32) + v22).toInt by rw [Int32.zero_add]; exact (own_mn ev22 (own_nine _) (own_ten ev1).1).1) (own_mn ev34 (own_nine _) (by rw [own_sb (own_mn ev22 (own_nine _) (own_ten ev1).1).1 (own_mn ev22 (own_nine _) (own_ten ev1).1).2]; have := (own_mn ev22 (own_nine _) (own_ten ev1).1); omega)).1 (show ((0 : Int32) + v22).toInt + v34.toInt ≤ v1.toInt by rw [Int32.zero_add]; have h1 := (own_mn ev22 (own_nine _) (own_ten ev1).1); have h2 := (own_mn ev34 (own_nine _) (by rw [own_sb (own_mn ev22 (own_nine _) (own_ten ev1).1).1 (own_mn ev22 (own_nine _) (own_ten ev1).1).2]; have := (own_mn ev22 (own_nine _) (own_ten ev1).1); omega)); rw [own_sb h1.1 h1.2] at h2; omega)) hZ (w_28 hw) (w_4 hw) (by decide) (by decide)) q35a q35c (g := (mkF m 171 #[.val (.int arg0), .val (.int arg1), .val (.int arg2), .val (.int arg3), .val (.int v1), .val (.ref b2), .val (.ref b12), .val (.int (1 : Int32)), .val (.int v22), .val (.int v34), .unset] [(.int v34), (.ref b12)])) rfl (by rw [hml]; rfl) (Steps.refl _) (argsL := [(.int v34)]) (rest := []) (lenOf own_pd4 rfl) rfl (by show 2 * 0 + _ ≤ _; exact Nat.le_of_eq rfl) (hb hby at_171) (fun _ _ => ⟨rfl, e33q, (by decide : 2 + 0 ≤ _), (by decide : 13 + 0 ≤ _)⟩)
    dsimp only [Pt.U, Pt.locs, Pt.cells, Pt.slots] at X35 l35 y35_ z35_ st35 hQ35
    subst l35 y35_ z35_
    obtain ⟨z_35, rfl, N35q, K35, p35_0, p35_1, p35_2⟩ := hQ35
    have N35 := Fr.app N33 N35q
    have z36 : n0 ≤ T35.heap.size := Nat.le_trans z24 K35.1
    refine own_ss (B := T35.setTop (mkF m 174 #[.val (.int arg0), .val (.int arg1), .val (.int arg2), .val (.int arg3), .val (.int v1), .val (.ref b2), .val (.ref b12), .val (.int (1 : Int32)), .val (.int v22), .val (.int v34), .unset] [(.long z_35)])) st35 ?_
    refine own_st (B := T35.setTop (mkF m 175 #[.val (.int arg0), .val (.int arg1), .val (.int arg2), .val (.int arg3), .val (.int v1), .val (.ref b2), .val (.ref b12), .val (.int (1 : Int32)), .val (.int v22), .val (.int v34), .unset] [])) (fun t k => own_pop2 X35.here hx rfl (hb hby at_174) rfl k) ?_
    refine own_st (B := T35.setTop (mkF m 177 #[.val (.int arg0), .val (.int arg1), .val (.int arg2), .val (.int arg3), .val (.int v1), .val (.ref b2), .val (.ref b12), .val (.int (1 : Int32)), .val (.int v22), .val (.int v34), .unset] [(.int v22)])) (fun t k => XS.iload X35.here hx rfl (hb hby at_175) rfl k) ?_
    refine own_st (B := T35.setTop (mkF m 179 #[.val (.int arg0), .val (.int arg1), .val (.int arg2), .val (.int arg3), .val (.int v1), .val (.ref b2), .val (.ref b12), .val (.int (1 : Int32)), .val (.int v22), .val (.int v34), .unset] [(.int v34), (.int v22)])) (fun t k => XS.iload X35.here hx rfl (hb hby at_177) rfl k) ?_
    refine own_st (B := T35.setTop (mkF m 180 #[.val (.int arg0), .val (.int arg1), .val (.int arg2), .val (.int arg3), .val (.int v1), .val (.ref b2), .val (.ref b12), .val (.int (1 : Int32)), .val (.int v22), .val (.int v34), .unset] [(.int (v22 + v34))])) (fun t k => XS.iadd X35.here hx rfl (hb hby at_179) rfl k) ?_
    obtain ⟨v37, ev37⟩ : ∃ z : Int32, z = (v22 + v34) := ⟨_, rfl⟩
    rw [← ev37]
    refine own_st (B := T35.setTop (mkF m 182 #[.val (.int arg0), .val (.int arg1), .val (.int arg2), .val (.int arg3), .val (.int v1), .val (.ref b2), .val (.ref b12), .val (.int (1 : Int32)), .val (.int v22), .val (.int v34), .val (.int v37)] [])) (fun t k => XS.istore X35.here hx rfl (hb hby at_180) rfl (l' := #[.val (.int arg0), .val (.int arg1), .val (.int arg2), .val (.int arg3), .val (.int v1), .val (.ref b2), .val (.ref b12), .val (.int (1 : Int32)), .val (.int v22), .val (.int v34), .val (.int v37)]) rfl k) ?_
    refine own_st (B := T35.setTop (mkF m 184 #[.val (.int arg0), .val (.int arg1), .val (.int arg2), .val (.int arg3), .val (.int v1), .val (.ref b2), .val (.ref b12), .val (.int (1 : Int32)), .val (.int v22), .val (.int v34), .val (.int v37)] [(.int (1 : Int32))])) (fun t k => XS.iload X35.here hx rfl (hb hby at_182) rfl k) ?_
    refine own_st (B := T35.setTop (mkF m 187 #[.val (.int arg0), .val (.int arg1), .val (.int arg2), .val (.int arg3), .val (.int v1), .val (.ref b2), .val (.ref b12), .val (.int (1 : Int32)), .val (.int v22), .val (.int v34), .val (.int v37)] [])) (fun t k => XS.ifNo X35.here hx rfl (hb hby at_184) rfl (by decide) k) ?_
    refine own_st (B := T35.setTop (mkF m 189 #[.val (.int arg0), .val (.int arg1), .val (.int arg2), .val (.int arg3), .val (.int v1), .val (.ref b2), .val (.ref b12), .val (.int (1 : Int32)), .val (.int v22), .val (.int v34), .val (.int v37)] [(.ref b12)])) (fun t k => XS.aload X35.here hx rfl (hb hby at_187) rfl rfl k) ?_
    have f38 : own_A Z T35.heap b2 .byte (((List.replicate (v1.toInt.toNat) (Value.int (0 : Int32))).set 0 (.int ((arg3.toInt8.toInt32).toInt8.toInt32))).set ((v1 - (1 : Int32)).toInt.toNat) (.int ((((arg3.toUInt32 >>> ((8 : Int32) &&& 31).toUInt32).toInt32).toInt8.toInt32).toInt8.toInt32))) := (f27.keep K35 (ninS q12_b2 nin0))
    obtain ⟨cq39, kq39, q39a, q39b, q39c⟩ := isOf hZ rfl p35_0
    obtain ⟨_, _, ⟨T39, L39, k39, j39⟩, -, X39, ⟨Lc39, hQ39, l39, y39_, z39_⟩, st39⟩ := X35.virtualBack hx (y := (⟨"com/example/libentkey/libentkey/codec/KeyReader", "hasMore", "()Z"⟩ : MethodName)) (z := (⟨"com/example/libentkey/libentkey/codec/KeyReader", "hasMore", "()Z"⟩ : MethodName)) hown (mvT hZ (w_13 hw)) (mvT hZ (w_14 hw)) (notFace_of_selects (args := #[]) (mvT hZ (w_16 hw))) (mvT hZ (w_16 hw)) (mvT hZ (w_15 hw)) (by decide) (backOf (W := 0) (rm3 l Z a0 hw [] b12 b2 (((0 : Int32) + v22) + v34) (((List.replicate (v1.toInt.toNat) (Value.int (0 : Int32))).set 0 (.int ((arg3.toInt8.toInt32).toInt8.toInt32))).set ((v1 - (1 : Int32)).toInt.toNat) (.int ((((arg3.toUInt32 >>> ((8 : Int32) &&& 31).toUInt32).toInt32).toInt8.toInt32).toInt8.toInt32))) v1 T35.heap n0 z36 p35_1 p35_2 f38 (show v1.toInt = ((((List.replicate (v1.toInt.toNat) (Value.int (0 : Int32))).set 0 (.int ((arg3.toInt8.toInt32).toInt8.toInt32))).set ((v1 - (1 : Int32)).toInt.toNat) (.int ((((arg3.toUInt32 >>> ((8 : Int32) &&& 31).toUInt32).toInt32).toInt8.toInt32).toInt8.toInt32))).length : Int) by simp only [List.length_set, List.length_replicate]; exact own_nat (own_ten ev1).1)) hZ (w_17 hw) (w_4 hw) (by decide) (by decide)) q39a q39c (g := (mkF m 189 #[.val (.int arg0), .val (.int arg1), .val (.int arg2), .val (.int arg3), .val (.int v1), .val (.ref b2), .val (.ref b12), .val (.int (1 : Int32)), .val (.int v22), .val (.int v34), .val (.int v37)] [(.ref b12)])) rfl (by rw [hml]; rfl) (Steps.refl _) (argsL := []) (rest := []) (lenOf own_pd2 rfl) rfl (by show 2 * 0 + _ ≤ _; exact Nat.le_of_eq rfl) (hb hby at_189) (fun _ _ => ⟨rfl, rfl, (by decide : 2 + 0 ≤ _), (by decide : 13 + 0 ≤ _)⟩)
    dsimp only [Pt.U, Pt.locs, Pt.cells, Pt.slots] at X39 l39 y39_ z39_ st39 hQ39
    subst l39 y39_ z39_
    obtain ⟨rfl, N39q, e39q⟩ := hQ39
    have N39 := Fr.app N35 N39q
    refine own_ss (B := T39.setTop (mkF m 192 #[.val (.int arg0), .val (.int arg1), .val (.int arg2), .val (.int arg3), .val (.int v1), .val (.ref b2), .val (.ref b12), .val (.int (1 : Int32)), .val (.int v22), .val (.int v34), .val (.int v37)] [(.int (if (((0 : Int32) + v22) + v34) < v1 then (1 : Int32) else 0))])) st39 ?_
    refine own_st (B := T39.setTop (mkF m 194 #[.val (.int arg0), .val (.int arg1), .val (.int arg2), .val (.int arg3), .val (.int v1), .val (.ref b2), .val (.ref b12), .val (.int (1 : Int32)), .val (.int v22), .val (.int v34), .val (.int v37)] [(.int v37), (.int (if (((0 : Int32) + v22) + v34) < v1 then (1 : Int32) else 0))])) (fun t k => XS.iload X39.here hx rfl (hb hby at_192) rfl k) ?_
    refine own_st (B := T39.setTop (mkF m 196 #[.val (.int arg0), .val (.int arg1), .val (.int arg2), .val (.int arg3), .val (.int v1), .val (.ref b2), .val (.ref b12), .val (.int (1 : Int32)), .val (.int v22), .val (.int v34), .val (.int v37)] [(.int v1), (.int v37), (.int (if (((0 : Int32) + v22) + v34) < v1 then (1 : Int32) else 0))])) (fun t k => XS.iload X39.here hx rfl (hb hby at_194) rfl k) ?_
    refine own_cut (P := ∀ (v41 : Int32), (v41 = (if v37 < v1 then (1 : Int32) else (0 : Int32))) → own_Go p e below s (Q0 Z arg0 arg1 arg2 arg3 h0 n0) 16 128 (T39.setTop (mkF m 204 #[.val (.int arg0), .val (.int arg1), .val (.int arg2), .val (.int arg3), .val (.int v1), .val (.ref b2), .val (.ref b12), .val (.int (1 : Int32)), .val (.int v22), .val (.int v34), .val (.int v37)] [(.int v41), (.int (if (((0 : Int32) + v22) + v34) < v1 then (1 : Int32) else 0))]))) (fun J42 => ?_) ?_
    · by_cases hc40 : v37 < v1
      · refine own_st (B := T39.setTop (mkF m 199 #[.val (.int arg0), .val (.int arg1), .val (.int arg2), .val (.int arg3), .val (.int v1), .val (.ref b2), .val (.ref b12), .val (.int (1 : Int32)), .val (.int v22), .val (.int v34), .val (.int v37)] [(.int (if (((0 : Int32) + v22) + v34) < v1 then (1 : Int32) else 0))])) (fun t k => XS.icmpNo X39.here hx rfl (hb hby at_196) rfl (XT.ii_ge_f hc40) k) ?_
        refine own_st (B := T39.setTop (mkF m 200 #[.val (.int arg0), .val (.int arg1), .val (.int arg2), .val (.int arg3), .val (.int v1), .val (.ref b2), .val (.ref b12), .val (.int (1 : Int32)), .val (.int v22), .val (.int v34), .val (.int v37)] [(.int (1 : Int32)), (.int (if (((0 : Int32) + v22) + v34) < v1 then (1 : Int32) else 0))])) (fun t k => XS.iconst X39.here hx rfl (hb hby at_199) k) ?_
        refine own_st (B := T39.setTop (mkF m 204 #[.val (.int arg0), .val (.int arg1), .val (.int arg2), .val (.int arg3), .val (.int v1), .val (.ref b2), .val (.ref b12), .val (.int (1 : Int32)), .val (.int v22), .val (.int v34), .val (.int v37)] [(.int (1 : Int32)), (.int (if (((0 : Int32) + v22) + v34) < v1 then (1 : Int32) else 0))])) (fun t k => XS.goto X39.here hx rfl (pc0 := 200) (pc' := 204) rfl (hb hby at_200) (by decide) (by decide) k) ?_
        exact J42 (1 : Int32) (by rw [if_pos hc40])
      · refine own_st (B := T39.setTop (mkF m 203 #[.val (.int arg0), .val (.int arg1), .val (.int arg2), .val (.int arg3), .val (.int v1), .val (.ref b2), .val (.ref b12), .val (.int (1 : Int32)), .val (.int v22), .val (.int v34), .val (.int v37)] [(.int (if (((0 : Int32) + v22) + v34) < v1 then (1 : Int32) else 0))])) (fun t k => XS.icmpYes X39.here hx rfl (pc0 := 196) (pc' := 203) rfl (hb hby at_196) rfl (XT.ii_ge_t hc40) (by decide) (by decide) k) ?_
        refine own_st (B := T39.setTop (mkF m 204 #[.val (.int arg0), .val (.int arg1), .val (.int arg2), .val (.int arg3), .val (.int v1), .val (.ref b2), .val (.ref b12), .val (.int (1 : Int32)), .val (.int v22), .val (.int v34), .val (.int v37)] [(.int (0 : Int32)), (.int (if (((0 : Int32) + v22) + v34) < v1 then (1 : Int32) else 0))])) (fun t k => XS.iconst X39.here hx rfl (hb hby at_203) k) ?_
        exact J42 (0 : Int32) (by rw [if_neg hc40])
    intro v41 hv41
    have hc43 : (if (((0 : Int32) + v22) + v34) < v1 then (1 : Int32) else 0) = v41 := by
      rw [Int32.zero_add, ← ev37]; exact hv41.symm
    refine own_st (B := T39.setTop (mkF m 207 #[.val (.int arg0), .val (.int arg1), .val (.int arg2), .val (.int arg3), .val (.int v1), .val (.ref b2), .val (.ref b12), .val (.int (1 : Int32)), .val (.int v22), .val (.int v34), .val (.int v37)] [])) (fun t k => XS.icmpNo X39.here hx rfl (hb hby at_204) rfl (XT.ii_ne_f hc43) k) ?_
    refine own_st (B := T39.setTop (mkF m 208 #[.val (.int arg0), .val (.int arg1), .val (.int arg2), .val (.int arg3), .val (.int v1), .val (.ref b2), .val (.ref b12), .val (.int (1 : Int32)), .val (.int v22), .val (.int v34), .val (.int v37)] [(.int (1 : Int32))])) (fun t k => XS.iconst X39.here hx rfl (hb hby at_207) k) ?_
    refine own_st (B := T39.setTop (mkF m 212 #[.val (.int arg0), .val (.int arg1), .val (.int arg2), .val (.int arg3), .val (.int v1), .val (.ref b2), .val (.ref b12), .val (.int (1 : Int32)), .val (.int v22), .val (.int v34), .val (.int v37)] [(.int (1 : Int32))])) (fun t k => XS.goto X39.here hx rfl (pc0 := 208) (pc' := 212) rfl (hb hby at_208) (by decide) (by decide) k) ?_
    refine own_st (B := T39.setTop (mkF m 214 #[.val (.int arg0), .val (.int arg1), .val (.int arg2), .val (.int arg3), .val (.int v1), .val (.ref b2), .val (.ref b12), .val (.int (1 : Int32)), .val (.int v22), .val (.int v34), .val (.int v37)] [])) (fun t k => XS.istore X39.here hx rfl (hb hby at_212) rfl (l' := #[.val (.int arg0), .val (.int arg1), .val (.int arg2), .val (.int arg3), .val (.int v1), .val (.ref b2), .val (.ref b12), .val (.int (1 : Int32)), .val (.int v22), .val (.int v34), .val (.int v37)]) rfl k) ?_
    refine own_st (B := T39.setTop (mkF m 216 #[.val (.int arg0), .val (.int arg1), .val (.int arg2), .val (.int arg3), .val (.int v1), .val (.ref b2), .val (.ref b12), .val (.int (1 : Int32)), .val (.int v22), .val (.int v34), .val (.int v37)] [(.int (1 : Int32))])) (fun t k => XS.iload X39.here hx rfl (hb hby at_214) rfl k) ?_
    refine own_st (B := T39.setTop (mkF m 219 #[.val (.int arg0), .val (.int arg1), .val (.int arg2), .val (.int arg3), .val (.int v1), .val (.ref b2), .val (.ref b12), .val (.int (1 : Int32)), .val (.int v22), .val (.int v34), .val (.int v37)] [])) (fun t k => XS.ifNo X39.here hx rfl (hb hby at_216) rfl (by decide) k) ?_
    refine own_st (B := T39.setTop (mkF m 221 #[.val (.int arg0), .val (.int arg1), .val (.int arg2), .val (.int arg3), .val (.int v1), .val (.ref b2), .val (.ref b12), .val (.int (1 : Int32)), .val (.int v22), .val (.int v34), .val (.int v37)] [(.ref b12)])) (fun t k => XS.aload X39.here hx rfl (hb hby at_219) rfl rfl k) ?_
    obtain ⟨cq44, kq44, q44a, q44b, q44c⟩ := isOf hZ e39q p35_0
    obtain ⟨_, _, ⟨T44, L44, k44, j44⟩, -, X44, ⟨Lc44, hQ44, l44, y44_, z44_⟩, st44⟩ := X39.virtualBack hx (y := (⟨"com/example/libentkey/libentkey/codec/KeyReader", "position", "()I"⟩ : MethodName)) (z := (⟨"com/example/libentkey/libentkey/codec/KeyReader", "position", "()I"⟩ : MethodName)) hown (mvT hZ (w_29 hw)) (mvT hZ (w_30 hw)) (notFace_of_selects (args := #[]) (mvT hZ (w_32 hw))) (mvT hZ (w_32 hw)) (mvT hZ (w_31 hw)) (by decide) (backOf (W := 0) (rm6 l Z a0 hw [] b12 (((0 : Int32) + v22) + v34) T35.heap n0 z36 p35_2) hZ (w_33 hw) (w_4 hw) (by decide) (by decide)) q44a q44c (g := (mkF m 221 #[.val (.int arg0), .val (.int arg1), .val (.int arg2), .val (.int arg3), .val (.int v1), .val (.ref b2), .val (.ref b12), .val (.int (1 : Int32)), .val (.int v22), .val (.int v34), .val (.int v37)] [(.ref b12)])) rfl (by rw [hml]; rfl) (Steps.refl _) (argsL := []) (rest := []) (lenOf own_pd5 rfl) rfl (by show 2 * 0 + _ ≤ _; exact Nat.le_of_eq rfl) (hb hby at_221) (fun _ _ => ⟨rfl, e39q, (by decide : 2 + 0 ≤ _), (by decide : 13 + 0 ≤ _)⟩)
    dsimp only [Pt.U, Pt.locs, Pt.cells, Pt.slots] at X44 l44 y44_ z44_ st44 hQ44
    subst l44 y44_ z44_
    obtain ⟨rfl, N44q, e44q⟩ := hQ44
    have N44 := Fr.app N39 N44q
    refine own_ss (B := T44.setTop (mkF m 224 #[.val (.int arg0), .val (.int arg1), .val (.int arg2), .val (.int arg3), .val (.int v1), .val (.ref b2), .val (.ref b12), .val (.int (1 : Int32)), .val (.int v22), .val (.int v34), .val (.int v37)] [(.int (((0 : Int32) + v22) + v34))])) st44 ?_
    refine own_st (B := T44.setTop (mkF m 226 #[.val (.int arg0), .val (.int arg1), .val (.int arg2), .val (.int arg3), .val (.int v1), .val (.ref b2), .val (.ref b12), .val (.int (1 : Int32)), .val (.int v22), .val (.int v34), .val (.int v37)] [(.int v37), (.int (((0 : Int32) + v22) + v34))])) (fun t k => XS.iload X44.here hx rfl (hb hby at_224) rfl k) ?_
    have hc45 : (((0 : Int32) + v22) + v34) = v37 := by
      rw [Int32.zero_add]; exact ev37.symm
    refine own_st (B := T44.setTop (mkF m 229 #[.val (.int arg0), .val (.int arg1), .val (.int arg2), .val (.int arg3), .val (.int v1), .val (.ref b2), .val (.ref b12), .val (.int (1 : Int32)), .val (.int v22), .val (.int v34), .val (.int v37)] [])) (fun t k => XS.icmpNo X44.here hx rfl (hb hby at_226) rfl (XT.ii_ne_f hc45) k) ?_
    refine own_st (B := T44.setTop (mkF m 230 #[.val (.int arg0), .val (.int arg1), .val (.int arg2), .val (.int arg3), .val (.int v1), .val (.ref b2), .val (.ref b12), .val (.int (1 : Int32)), .val (.int v22), .val (.int v34), .val (.int v37)] [(.int (1 : Int32))])) (fun t k => XS.iconst X44.here hx rfl (hb hby at_229) k) ?_
    refine own_st (B := T44.setTop (mkF m 234 #[.val (.int arg0), .val (.int arg1), .val (.int arg2), .val (.int arg3), .val (.int v1), .val (.ref b2), .val (.ref b12), .val (.int (1 : Int32)), .val (.int v22), .val (.int v34), .val (.int v37)] [(.int (1 : Int32))])) (fun t k => XS.goto X44.here hx rfl (pc0 := 230) (pc' := 234) rfl (hb hby at_230) (by decide) (by decide) k) ?_
    refine own_st (B := T44.setTop (mkF m 236 #[.val (.int arg0), .val (.int arg1), .val (.int arg2), .val (.int arg3), .val (.int v1), .val (.ref b2), .val (.ref b12), .val (.int (1 : Int32)), .val (.int v22), .val (.int v34), .val (.int v37)] [])) (fun t k => XS.istore X44.here hx rfl (hb hby at_234) rfl (l' := #[.val (.int arg0), .val (.int arg1), .val (.int arg2), .val (.int arg3), .val (.int v1), .val (.ref b2), .val (.ref b12), .val (.int (1 : Int32)), .val (.int v22), .val (.int v34), .val (.int v37)]) rfl k) ?_
    refine own_st (B := T44.setTop (mkF m 238 #[.val (.int arg0), .val (.int arg1), .val (.int arg2), .val (.int arg3), .val (.int v1), .val (.ref b2), .val (.ref b12), .val (.int (1 : Int32)), .val (.int v22), .val (.int v34), .val (.int v37)] [(.int (1 : Int32))])) (fun t k => XS.iload X44.here hx rfl (hb hby at_236) rfl k) ?_
    refine own_retN X44 hx hlk (t := .boolean) Bd.returns (by simp) (z' := (1 : Int32)) rfl (hb hby at_238) (by decide) (by decide) ?_
    show Q0 Z arg0 arg1 arg2 arg3 h0 n0 _ T44.heap _
    rw [e44q]
    exact ⟨rfl, N44⟩
  · refine own_st (B := T2.setTop (mkF m 38 #[.val (.int arg0), .val (.int arg1), .val (.int arg2), .val (.int arg3), .val (.int v1), .val (.ref b2), .unset, .unset, .unset, .unset, .unset] [])) (fun t k => XS.ifYes X2.here hx rfl (pc0 := 17) (pc' := 38) rfl (hb hby at_17) rfl (XT.i0_le_t hc4) (by decide) (by decide) k) ?_
    obtain ⟨T46, h46, X46, e46, E46, A46, D46, -, st46⟩ := newO X2 hx hZ hown (w_2 hw) (w_3 hw) (w_4 hw) e2 (g := (mkF m 38 #[.val (.int arg0), .val (.int arg1), .val (.int arg2), .val (.int arg3), .val (.int v1), .val (.ref b2), .unset, .unset, .unset, .unset, .unset] [])) rfl (hb hby at_38) (by decide) (by decide)
    obtain ⟨b46, g46⟩ : ∃ z, z = h2.size := ⟨_, rfl⟩
    rw [← g46] at A46 D46 st46
    have q46_b2 : b2 ≠ b46 := Nat.ne_of_lt (Nat.lt_of_lt_of_le f2_.lt (Nat.le_of_eq g46.symm))
    have u46 : n0 ≤ b46 := Nat.le_trans z3 (Nat.le_of_eq g46.symm)
    have z47 : n0 ≤ h46.size := Nat.le_trans z3 E46.1
    have f48 : Fld Z h46 b46 "com/example/libentkey/libentkey/codec/KeyReader" "key" "[B" .null := D46 (Or.inr (w_12 hw)) (ty := (.array .byte)) (by decide)
    have f49 : Fld Z h46 b46 "com/example/libentkey/libentkey/codec/KeyReader" "position" "I" (.int (0 : Int32)) := D46 (Or.inl (w_19 hw)) (ty := .int) (by decide)
    refine own_st (B := T46.setTop (mkF m 41 #[.val (.int arg0), .val (.int arg1), .val (.int arg2), .val (.int arg3), .val (.int v1), .val (.ref b2), .unset, .unset, .unset, .unset, .unset] [(.ref b46)])) (fun t k => st46 t k) ?_
    refine own_st (B := T46.setTop (mkF m 42 #[.val (.int arg0), .val (.int arg1), .val (.int arg2), .val (.int arg3), .val (.int v1), .val (.ref b2), .unset, .unset, .unset, .unset, .unset] [(.ref b46), (.ref b46)])) (fun t k => XS.dup X46.here hx rfl (hb hby at_41) rfl rfl k) ?_
    refine own_st (B := T46.setTop (mkF m 44 #[.val (.int arg0), .val (.int arg1), .val (.int arg2), .val (.int arg3), .val (.int v1), .val (.ref b2), .unset, .unset, .unset, .unset, .unset] [(.ref b2), (.ref b46), (.ref b46)])) (fun t k => XS.aload X46.here hx rfl (hb hby at_42) rfl rfl k) ?_
    obtain ⟨_, _, ⟨T50, L50, k50, j50⟩, -, X50, ⟨Lc50, hQ50, l50, y50_, z50_⟩, st50⟩ := X46.specialBack hx (y := (⟨"com/example/libentkey/libentkey/codec/KeyReader", "<init>", "([B)V"⟩ : MethodName)) rfl hown (mvT hZ (w_5 hw)) (mvT hZ (w_6 hw)) (mvT hZ (w_7 hw)) (by decide) (backOf (W := 1) (rm1 l Z a0 hw [] b46 b2 h46 n0 z47 A46 f48 f49 u46) hZ (w_7 hw) (w_4 hw) (by decide) (by decide)) (g := (mkF m 44 #[.val (.int arg0), .val (.int arg1), .val (.int arg2), .val (.int arg3), .val (.int v1), .val (.ref b2), .unset, .unset, .unset, .unset, .unset] [(.ref b2), (.ref b46), (.ref b46)])) rfl (by rw [hml]; rfl) (Steps.refl _) (a := b46) (argsL := [(.ref b2)]) (rest := [(.ref b46)]) (lenOf own_pd1 rfl) rfl (by show 2 * 0 + _ ≤ _; exact Nat.le_of_eq rfl) (hb hby at_44) (fun _ _ => ⟨rfl, e46, (by decide : 2 + 0 ≤ _), (by decide : 13 + 0 ≤ _)⟩)
    dsimp only [Pt.U, Pt.locs, Pt.cells, Pt.slots] at X50 l50 y50_ z50_ st50 hQ50
    subst l50 y50_ z50_
    obtain ⟨rfl, N50q, K50, p50_0, p50_1, p50_2⟩ := hQ50
    have N50 := Fr.app N0 N50q
    have z51 : n0 ≤ T50.heap.size := Nat.le_trans z47 K50.1
    refine own_ss (B := T50.setTop (mkF m 47 #[.val (.int arg0), .val (.int arg1), .val (.int arg2), .val (.int arg3), .val (.int v1), .val (.ref b2), .unset, .unset, .unset, .unset, .unset] [(.ref b46)])) st50 ?_
    refine own_st (B := T50.setTop (mkF m 49 #[.val (.int arg0), .val (.int arg1), .val (.int arg2), .val (.int arg3), .val (.int v1), .val (.ref b2), .val (.ref b46), .unset, .unset, .unset, .unset] [])) (fun t k => XS.astore X50.here hx rfl (hb hby at_47) rfl rfl (l' := #[.val (.int arg0), .val (.int arg1), .val (.int arg2), .val (.int arg3), .val (.int v1), .val (.ref b2), .val (.ref b46), .unset, .unset, .unset, .unset]) rfl k) ?_
    refine own_st (B := T50.setTop (mkF m 51 #[.val (.int arg0), .val (.int arg1), .val (.int arg2), .val (.int arg3), .val (.int v1), .val (.ref b2), .val (.ref b46), .unset, .unset, .unset, .unset] [(.ref b46)])) (fun t k => XS.aload X50.here hx rfl (hb hby at_49) rfl rfl k) ?_
    have f52 : own_A Z T50.heap b2 .byte (List.replicate (v1.toInt.toNat) (Value.int (0 : Int32))) := ((f2_.ext E46).keep K50 (ninS q46_b2 nin0))
    obtain ⟨cq53, kq53, q53a, q53b, q53c⟩ := isOf hZ rfl p50_0
    obtain ⟨_, _, ⟨T53, L53, k53, j53⟩, -, X53, ⟨Lc53, hQ53, l53, y53_, z53_⟩, st53⟩ := X50.virtualBack hx (y := (⟨"com/example/libentkey/libentkey/codec/KeyReader", "hasMore", "()Z"⟩ : MethodName)) (z := (⟨"com/example/libentkey/libentkey/codec/KeyReader", "hasMore", "()Z"⟩ : MethodName)) hown (mvT hZ (w_13 hw)) (mvT hZ (w_14 hw)) (notFace_of_selects (args := #[]) (mvT hZ (w_16 hw))) (mvT hZ (w_16 hw)) (mvT hZ (w_15 hw)) (by decide) (backOf (W := 0) (rm3 l Z a0 hw [] b46 b2 (0 : Int32) (List.replicate (v1.toInt.toNat) (Value.int (0 : Int32))) v1 T50.heap n0 z51 p50_1 p50_2 f52 (show v1.toInt = ((List.replicate (v1.toInt.toNat) (Value.int (0 : Int32))).length : Int) by simp only [List.length_set, List.length_replicate]; exact own_nat (own_ten ev1).1)) hZ (w_17 hw) (w_4 hw) (by decide) (by decide)) q53a q53c (g := (mkF m 51 #[.val (.int arg0), .val (.int arg1), .val (.int arg2), .val (.int arg3), .val (.int v1), .val (.ref b2), .val (.ref b46), .unset, .unset, .unset, .unset] [(.ref b46)])) rfl (by rw [hml]; rfl) (Steps.refl _) (argsL := []) (rest := []) (lenOf own_pd2 rfl) rfl (by show 2 * 0 + _ ≤ _; exact Nat.le_of_eq rfl) (hb hby at_51) (fun _ _ => ⟨rfl, rfl, (by decide : 2 + 0 ≤ _), (by decide : 13 + 0 ≤ _)⟩)
    dsimp only [Pt.U, Pt.locs, Pt.cells, Pt.slots] at X53 l53 y53_ z53_ st53 hQ53
    subst l53 y53_ z53_
    obtain ⟨rfl, N53q, e53q⟩ := hQ53
    have N53 := Fr.app N50 N53q
    refine own_ss (B := T53.setTop (mkF m 54 #[.val (.int arg0), .val (.int arg1), .val (.int arg2), .val (.int arg3), .val (.int v1), .val (.ref b2), .val (.ref b46), .unset, .unset, .unset, .unset] [(.int (if (0 : Int32) < v1 then (1 : Int32) else 0))])) st53 ?_
    refine own_st (B := T53.setTop (mkF m 56 #[.val (.int arg0), .val (.int arg1), .val (.int arg2), .val (.int arg3), .val (.int v1), .val (.ref b2), .val (.ref b46), .unset, .unset, .unset, .unset] [(.int v1), (.int (if (0 : Int32) < v1 then (1 : Int32) else 0))])) (fun t k => XS.iload X53.here hx rfl (hb hby at_54) rfl k) ?_
    refine own_st (B := T53.setTop (mkF m 63 #[.val (.int arg0), .val (.int arg1), .val (.int arg2), .val (.int arg3), .val (.int v1), .val (.ref b2), .val (.ref b46), .unset, .unset, .unset, .unset] [(.int (if (0 : Int32) < v1 then (1 : Int32) else 0))])) (fun t k => XS.ifYes X53.here hx rfl (pc0 := 56) (pc' := 63) rfl (hb hby at_56) rfl (XT.i0_le_t hc4) (by decide) (by decide) k) ?_
    refine own_st (B := T53.setTop (mkF m 64 #[.val (.int arg0), .val (.int arg1), .val (.int arg2), .val (.int arg3), .val (.int v1), .val (.ref b2), .val (.ref b46), .unset, .unset, .unset, .unset] [(.int (0 : Int32)), (.int (if (0 : Int32) < v1 then (1 : Int32) else 0))])) (fun t k => XS.iconst X53.here hx rfl (hb hby at_63) k) ?_
    have hc54 : (if (0 : Int32) < v1 then (1 : Int32) else 0) = (0 : Int32) := by
      rw [if_neg hc4]
    refine own_st (B := T53.setTop (mkF m 67 #[.val (.int arg0), .val (.int arg1), .val (.int arg2), .val (.int arg3), .val (.int v1), .val (.ref b2), .val (.ref b46), .unset, .unset, .unset, .unset] [])) (fun t k => XS.icmpNo X53.here hx rfl (hb hby at_64) rfl (XT.ii_ne_f hc54) k) ?_
    refine own_st (B := T53.setTop (mkF m 68 #[.val (.int arg0), .val (.int arg1), .val (.int arg2), .val (.int arg3), .val (.int v1), .val (.ref b2), .val (.ref b46), .unset, .unset, .unset, .unset] [(.int (1 : Int32))])) (fun t k => XS.iconst X53.here hx rfl (hb hby at_67) k) ?_
    refine own_st (B := T53.setTop (mkF m 72 #[.val (.int arg0), .val (.int arg1), .val (.int arg2), .val (.int arg3), .val (.int v1), .val (.ref b2), .val (.ref b46), .unset, .unset, .unset, .unset] [(.int (1 : Int32))])) (fun t k => XS.goto X53.here hx rfl (pc0 := 68) (pc' := 72) rfl (hb hby at_68) (by decide) (by decide) k) ?_
    refine own_st (B := T53.setTop (mkF m 74 #[.val (.int arg0), .val (.int arg1), .val (.int arg2), .val (.int arg3), .val (.int v1), .val (.ref b2), .val (.ref b46), .val (.int (1 : Int32)), .unset, .unset, .unset] [])) (fun t k => XS.istore X53.here hx rfl (hb hby at_72) rfl (l' := #[.val (.int arg0), .val (.int arg1), .val (.int arg2), .val (.int arg3), .val (.int v1), .val (.ref b2), .val (.ref b46), .val (.int (1 : Int32)), .unset, .unset, .unset]) rfl k) ?_
    refine own_st (B := T53.setTop (mkF m 75 #[.val (.int arg0), .val (.int arg1), .val (.int arg2), .val (.int arg3), .val (.int v1), .val (.ref b2), .val (.ref b46), .val (.int (1 : Int32)), .unset, .unset, .unset] [(.int arg1)])) (fun t k => XS.iloadN X53.here hx rfl (hb hby at_74) rfl k) ?_
    refine own_st (B := T53.setTop (mkF m 77 #[.val (.int arg0), .val (.int arg1), .val (.int arg2), .val (.int arg3), .val (.int v1), .val (.ref b2), .val (.ref b46), .val (.int (1 : Int32)), .unset, .unset, .unset] [(.int (2147483647 : Int32)), (.int arg1)])) (fun t k => X53.ldcInt hx hown (mvT hZ (w_0 hw)) (g := (mkF m 75 #[.val (.int arg0), .val (.int arg1), .val (.int arg2), .val (.int arg3), .val (.int v1), .val (.ref b2), .val (.ref b46), .val (.int (1 : Int32)), .unset, .unset, .unset] [(.int arg1)])) rfl (hb hby at_75) _ k) ?_
    refine own_st (B := T53.setTop (mkF m 78 #[.val (.int arg0), .val (.int arg1), .val (.int arg2), .val (.int arg3), .val (.int v1), .val (.ref b2), .val (.ref b46), .val (.int (1 : Int32)), .unset, .unset, .unset] [(.int (arg1 &&& (2147483647 : Int32)))])) (fun t k => XS.iand X53.here hx rfl (hb hby at_77) rfl k) ?_
    refine own_st (B := T53.setTop (mkF m 80 #[.val (.int arg0), .val (.int arg1), .val (.int arg2), .val (.int arg3), .val (.int v1), .val (.ref b2), .val (.ref b46), .val (.int (1 : Int32)), .unset, .unset, .unset] [(.int (9 : Int32)), (.int (arg1 &&& (2147483647 : Int32)))])) (fun t k => XS.bipush X53.here hx rfl (hb hby at_78) k) ?_
    refine own_st (B := T53.setTop (mkF m 81 #[.val (.int arg0), .val (.int arg1), .val (.int arg2), .val (.int arg3), .val (.int v1), .val (.ref b2), .val (.ref b46), .val (.int (1 : Int32)), .unset, .unset, .unset] [(.int ((arg1 &&& (2147483647 : Int32)) % (9 : Int32)))])) (fun t k => iremM X53 hx (g := (mkF m 80 #[.val (.int arg0), .val (.int arg1), .val (.int arg2), .val (.int arg3), .val (.int v1), .val (.ref b2), .val (.ref b46), .val (.int (1 : Int32)), .unset, .unset, .unset] [(.int (9 : Int32)), (.int (arg1 &&& (2147483647 : Int32)))])) rfl (x := (arg1 &&& (2147483647 : Int32))) (y := (9 : Int32)) (rest := []) (hb hby at_80) rfl (by decide) k) ?_
    refine own_st (B := T53.setTop (mkF m 83 #[.val (.int arg0), .val (.int arg1), .val (.int arg2), .val (.int arg3), .val (.int v1), .val (.ref b2), .val (.ref b46), .val (.int (1 : Int32)), .unset, .unset, .unset] [(.int v1), (.int ((arg1 &&& (2147483647 : Int32)) % (9 : Int32)))])) (fun t k => XS.iload X53.here hx rfl (hb hby at_81) rfl k) ?_
    obtain ⟨_, _, ⟨T55, L55, k55, j55⟩, -, X55, ⟨Lc55, hQ55, l55, y55_, z55_⟩, st55⟩ := Jvm.LawKit.callS X53 hx (y := (⟨"java/lang/Math", "min", "(II)I"⟩ : MethodName)) hown (mvT hZ (w_20 hw)) (mvT hZ (w_21 hw)) (mvT hZ (w_22 hw)) (mvT hZ (w_23 hw)) (by decide) (backOf (W := 0) (rm4 l Z a0 hw [] ((arg1 &&& (2147483647 : Int32)) % (9 : Int32)) v1 T50.heap n0 z51 ) hZ (w_23 hw) (w_22 hw) (by decide) (by decide)) (g := (mkF m 83 #[.val (.int arg0), .val (.int arg1), .val (.int arg2), .val (.int arg3), .val (.int v1), .val (.ref b2), .val (.ref b46), .val (.int (1 : Int32)), .unset, .unset, .unset] [(.int v1), (.int ((arg1 &&& (2147483647 : Int32)) % (9 : Int32)))])) rfl (by rw [hml]; rfl) (argsL := [(.int ((arg1 &&& (2147483647 : Int32)) % (9 : Int32))), (.int v1)]) (rest := []) (lenOf own_pd3 rfl) rfl (by show 2 * 0 + _ ≤ _; exact Nat.le_of_eq rfl) (hb hby at_83) (fun _ _ => ⟨rfl, e53q, (by decide : 2 + 0 ≤ _), (by decide : 13 + 0 ≤ _)⟩)
    dsimp only [Pt.U, Pt.locs, Pt.cells, Pt.slots] at X55 l55 y55_ z55_ st55 hQ55
    subst l55 y55_ z55_
    obtain ⟨rfl, N55q, e55q⟩ := hQ55
    have N55 := Fr.app N53 N55q
    refine own_st (B := T55.setTop (mkF m 86 #[.val (.int arg0), .val (.int arg1), .val (.int arg2), .val (.int arg3), .val (.int v1), .val (.ref b2), .val (.ref b46), .val (.int (1 : Int32)), .unset, .unset, .unset] [(.int (own_min ((arg1 &&& (2147483647 : Int32)) % (9 : Int32)) v1))])) (fun t k => st55 t k) ?_
    obtain ⟨v56, ev56⟩ : ∃ z : Int32, z = (own_min ((arg1 &&& (2147483647 : Int32)) % (9 : Int32)) v1) := ⟨_, rfl⟩
    rw [← ev56]
    refine own_st (B := T55.setTop (mkF m 88 #[.val (.int arg0), .val (.int arg1), .val (.int arg2), .val (.int arg3), .val (.int v1), .val (.ref b2), .val (.ref b46), .val (.int (1 : Int32)), .val (.int v56), .unset, .unset] [])) (fun t k => XS.istore X55.here hx rfl (hb hby at_86) rfl (l' := #[.val (.int arg0), .val (.int arg1), .val (.int arg2), .val (.int arg3), .val (.int v1), .val (.ref b2), .val (.ref b46), .val (.int (1 : Int32)), .val (.int v56), .unset, .unset]) rfl k) ?_
    refine own_st (B := T55.setTop (mkF m 90 #[.val (.int arg0), .val (.int arg1), .val (.int arg2), .val (.int arg3), .val (.int v1), .val (.ref b2), .val (.ref b46), .val (.int (1 : Int32)), .val (.int v56), .unset, .unset] [(.ref b46)])) (fun t k => XS.aload X55.here hx rfl (hb hby at_88) rfl rfl k) ?_
    refine own_st (B := T55.setTop (mkF m 92 #[.val (.int arg0), .val (.int arg1), .val (.int arg2), .val (.int arg3), .val (.int v1), .val (.ref b2), .val (.ref b46), .val (.int (1 : Int32)), .val (.int v56), .unset, .unset] [(.int v56), (.ref b46)])) (fun t k => XS.iload X55.here hx rfl (hb hby at_90) rfl k) ?_
    obtain ⟨cq57, kq57, q57a, q57b, q57c⟩ := isOf hZ e55q p50_0
    obtain ⟨_, _, ⟨T57, L57, k57, j57⟩, -, X57, ⟨Lc57, hQ57, l57, y57_, z57_⟩, st57⟩ := X55.virtualBack hx (y := (⟨"com/example/libentkey/libentkey/codec/KeyReader", "nextLong", "(I)J"⟩ : MethodName)) (z := (⟨"com/example/libentkey/libentkey/codec/KeyReader", "nextLong", "(I)J"⟩ : MethodName)) hown (mvT hZ (w_24 hw)) (mvT hZ (w_25 hw)) (notFace_of_selects (args := #[]) (mvT hZ (w_27 hw))) (mvT hZ (w_27 hw)) (mvT hZ (w_26 hw)) (by decide) (backOf (W := 0) (rm5 l Z a0 hw [] b46 v56 b2 (0 : Int32) (List.replicate (v1.toInt.toNat) (Value.int (0 : Int32))) v1 T50.heap n0 z51 p50_0 p50_1 p50_2 f52 u46 (show v1.toInt = ((List.replicate (v1.toInt.toNat) (Value.int (0 : Int32))).length : Int) by simp only [List.length_set, List.length_replicate]; exact own_nat (own_ten ev1).1) (show own_ints (List.replicate (v1.toInt.toNat) (Value.int (0 : Int32))) by first | exact own_ints_rep _ _ | exact own_ints_set (own_ints_set (own_ints_rep _ _) _ _) _ _) (by decide) (own_mn ev56 (own_nine _) (own_ten ev1).1).1 (show (0 : Int32).toInt + v56.toInt ≤ v1.toInt by have := (own_mn ev56 (own_nine _) (own_ten ev1).1); have h0 : (0 : Int32).toInt = 0 := rfl; omega)) hZ (w_28 hw) (w_4 hw) (by decide) (by decide)) q57a q57c (g := (mkF m 92 #[.val (.int arg0), .val (.int arg1), .val (.int arg2), .val (.int arg3), .val (.int v1), .val (.ref b2), .val (.ref b46), .val (.int (1 : Int32)), .val (.int v56), .unset, .unset] [(.int v56), (.ref b46)])) rfl (by rw [hml]; rfl) (Steps.refl _) (argsL := [(.int v56)]) (rest := []) (lenOf own_pd4 rfl) rfl (by show 2 * 0 + _ ≤ _; exact Nat.le_of_eq rfl) (hb hby at_92) (fun _ _ => ⟨rfl, e55q, (by decide : 2 + 0 ≤ _), (by decide : 13 + 0 ≤ _)⟩)
    dsimp only [Pt.U, Pt.locs, Pt.cells, Pt.slots] at X57 l57 y57_ z57_ st57 hQ57
    subst l57 y57_ z57_
    obtain ⟨z_57, rfl, N57q, K57, p57_0, p57_1, p57_2⟩ := hQ57
    have N57 := Fr.app N55 N57q
    have z58 : n0 ≤ T57.heap.size := Nat.le_trans z51 K57.1
    refine own_ss (B := T57.setTop (mkF m 95 #[.val (.int arg0), .val (.int arg1), .val (.int arg2), .val (.int arg3), .val (.int v1), .val (.ref b2), .val (.ref b46), .val (.int (1 : Int32)), .val (.int v56), .unset, .unset] [(.long z_57)])) st57 ?_
    refine own_st (B := T57.setTop (mkF m 96 #[.val (.int arg0), .val (.int arg1), .val (.int arg2), .val (.int arg3), .val (.int v1), .val (.ref b2), .val (.ref b46), .val (.int (1 : Int32)), .val (.int v56), .unset, .unset] [])) (fun t k => own_pop2 X57.here hx rfl (hb hby at_95) rfl k) ?_
    refine own_st (B := T57.setTop (mkF m 98 #[.val (.int arg0), .val (.int arg1), .val (.int arg2), .val (.int arg3), .val (.int v1), .val (.ref b2), .val (.ref b46), .val (.int (1 : Int32)), .val (.int v56), .unset, .unset] [(.int (1 : Int32))])) (fun t k => XS.iload X57.here hx rfl (hb hby at_96) rfl k) ?_
    refine own_st (B := T57.setTop (mkF m 101 #[.val (.int arg0), .val (.int arg1), .val (.int arg2), .val (.int arg3), .val (.int v1), .val (.ref b2), .val (.ref b46), .val (.int (1 : Int32)), .val (.int v56), .unset, .unset] [])) (fun t k => XS.ifNo X57.here hx rfl (hb hby at_98) rfl (by decide) k) ?_
    refine own_st (B := T57.setTop (mkF m 103 #[.val (.int arg0), .val (.int arg1), .val (.int arg2), .val (.int arg3), .val (.int v1), .val (.ref b2), .val (.ref b46), .val (.int (1 : Int32)), .val (.int v56), .unset, .unset] [(.ref b46)])) (fun t k => XS.aload X57.here hx rfl (hb hby at_101) rfl rfl k) ?_
    obtain ⟨cq59, kq59, q59a, q59b, q59c⟩ := isOf hZ rfl p57_0
    obtain ⟨_, _, ⟨T59, L59, k59, j59⟩, -, X59, ⟨Lc59, hQ59, l59, y59_, z59_⟩, st59⟩ := X57.virtualBack hx (y := (⟨"com/example/libentkey/libentkey/codec/KeyReader", "position", "()I"⟩ : MethodName)) (z := (⟨"com/example/libentkey/libentkey/codec/KeyReader", "position", "()I"⟩ : MethodName)) hown (mvT hZ (w_29 hw)) (mvT hZ (w_30 hw)) (notFace_of_selects (args := #[]) (mvT hZ (w_32 hw))) (mvT hZ (w_32 hw)) (mvT hZ (w_31 hw)) (by decide) (backOf (W := 0) (rm6 l Z a0 hw [] b46 ((0 : Int32) + v56) T57.heap n0 z58 p57_2) hZ (w_33 hw) (w_4 hw) (by decide) (by decide)) q59a q59c (g := (mkF m 103 #[.val (.int arg0), .val (.int arg1), .val (.int arg2), .val (.int arg3), .val (.int v1), .val (.ref b2), .val (.ref b46), .val (.int (1 : Int32)), .val (.int v56), .unset, .unset] [(.ref b46)])) rfl (by rw [hml]; rfl) (Steps.refl _) (argsL := []) (rest := []) (lenOf own_pd5 rfl) rfl (by show 2 * 0 + _ ≤ _; exact Nat.le_of_eq rfl) (hb hby at_103) (fun _ _ => ⟨rfl, rfl, (by decide : 2 + 0 ≤ _), (by decide : 13 + 0 ≤ _)⟩)
    dsimp only [Pt.U, Pt.locs, Pt.cells, Pt.slots] at X59 l59 y59_ z59_ st59 hQ59
    subst l59 y59_ z59_
    obtain ⟨rfl, N59q, e59q⟩ := hQ59
    have N59 := Fr.app N57 N59q
    refine own_ss (B := T59.setTop (mkF m 106 #[.val (.int arg0), .val (.int arg1), .val (.int arg2), .val (.int arg3), .val (.int v1), .val (.ref b2), .val (.ref b46), .val (.int (1 : Int32)), .val (.int v56), .unset, .unset] [(.int ((0 : Int32) + v56))])) st59 ?_
    refine own_st (B := T59.setTop (mkF m 108 #[.val (.int arg0), .val (.int arg1), .val (.int arg2), .val (.int arg3), .val (.int v1), .val (.ref b2), .val (.ref b46), .val (.int (1 : Int32)), .val (.int v56), .unset, .unset] [(.int v56), (.int ((0 : Int32) + v56))])) (fun t k => XS.iload X59.here hx rfl (hb hby at_106) rfl k) ?_
    have hc60 : ((0 : Int32) + v56) = v56 := by
      exact Int32.zero_add _
    refine own_st (B := T59.setTop (mkF m 111 #[.val (.int arg0), .val (.int arg1), .val (.int arg2), .val (.int arg3), .val (.int v1), .val (.ref b2), .val (.ref b46), .val (.int (1 : Int32)), .val (.int v56), .unset, .unset] [])) (fun t k => XS.icmpNo X59.here hx rfl (hb hby at_108) rfl (XT.ii_ne_f hc60) k) ?_
    refine own_st (B := T59.setTop (mkF m 112 #[.val (.int arg0), .val (.int arg1), .val (.int arg2), .val (.int arg3), .val (.int v1), .val (.ref b2), .val (.ref b46), .val (.int (1 : Int32)), .val (.int v56), .unset, .unset] [(.int (1 : Int32))])) (fun t k => XS.iconst X59.here hx rfl (hb hby at_111) k) ?_
    refine own_st (B := T59.setTop (mkF m 116 #[.val (.int arg0), .val (.int arg1), .val (.int arg2), .val (.int arg3), .val (.int v1), .val (.ref b2), .val (.ref b46), .val (.int (1 : Int32)), .val (.int v56), .unset, .unset] [(.int (1 : Int32))])) (fun t k => XS.goto X59.here hx rfl (pc0 := 112) (pc' := 116) rfl (hb hby at_112) (by decide) (by decide) k) ?_
    refine own_st (B := T59.setTop (mkF m 118 #[.val (.int arg0), .val (.int arg1), .val (.int arg2), .val (.int arg3), .val (.int v1), .val (.ref b2), .val (.ref b46), .val (.int (1 : Int32)), .val (.int v56), .unset, .unset] [])) (fun t k => XS.istore X59.here hx rfl (hb hby at_116) rfl (l' := #[.val (.int arg0), .val (.int arg1), .val (.int arg2), .val (.int arg3), .val (.int v1), .val (.ref b2), .val (.ref b46), .val (.int (1 : Int32)), .val (.int v56), .unset, .unset]) rfl k) ?_
    refine own_st (B := T59.setTop (mkF m 120 #[.val (.int arg0), .val (.int arg1), .val (.int arg2), .val (.int arg3), .val (.int v1), .val (.ref b2), .val (.ref b46), .val (.int (1 : Int32)), .val (.int v56), .unset, .unset] [(.int (1 : Int32))])) (fun t k => XS.iload X59.here hx rfl (hb hby at_118) rfl k) ?_
    refine own_st (B := T59.setTop (mkF m 123 #[.val (.int arg0), .val (.int arg1), .val (.int arg2), .val (.int arg3), .val (.int v1), .val (.ref b2), .val (.ref b46), .val (.int (1 : Int32)), .val (.int v56), .unset, .unset] [])) (fun t k => XS.ifNo X59.here hx rfl (hb hby at_120) rfl (by decide) k) ?_
    refine own_st (B := T59.setTop (mkF m 125 #[.val (.int arg0), .val (.int arg1), .val (.int arg2), .val (.int arg3), .val (.int v1), .val (.ref b2), .val (.ref b46), .val (.int (1 : Int32)), .val (.int v56), .unset, .unset] [(.ref b46)])) (fun t k => XS.aload X59.here hx rfl (hb hby at_123) rfl rfl k) ?_
    have f61 : own_A Z T57.heap b2 .byte (List.replicate (v1.toInt.toNat) (Value.int (0 : Int32))) := (f52.keep K57 (ninS q46_b2 nin0))
    obtain ⟨cq62, kq62, q62a, q62b, q62c⟩ := isOf hZ e59q p57_0
    obtain ⟨_, _, ⟨T62, L62, k62, j62⟩, -, X62, ⟨Lc62, hQ62, l62, y62_, z62_⟩, st62⟩ := X59.virtualBack hx (y := (⟨"com/example/libentkey/libentkey/codec/KeyReader", "hasMore", "()Z"⟩ : MethodName)) (z := (⟨"com/example/libentkey/libentkey/codec/KeyReader", "hasMore", "()Z"⟩ : MethodName)) hown (mvT hZ (w_13 hw)) (mvT hZ (w_14 hw)) (notFace_of_selects (args := #[]) (mvT hZ (w_16 hw))) (mvT hZ (w_16 hw)) (mvT hZ (w_15 hw)) (by decide) (backOf (W := 0) (rm3 l Z a0 hw [] b46 b2 ((0 : Int32) + v56) (List.replicate (v1.toInt.toNat) (Value.int (0 : Int32))) v1 T57.heap n0 z58 p57_1 p57_2 f61 (show v1.toInt = ((List.replicate (v1.toInt.toNat) (Value.int (0 : Int32))).length : Int) by simp only [List.length_set, List.length_replicate]; exact own_nat (own_ten ev1).1)) hZ (w_17 hw) (w_4 hw) (by decide) (by decide)) q62a q62c (g := (mkF m 125 #[.val (.int arg0), .val (.int arg1), .val (.int arg2), .val (.int arg3), .val (.int v1), .val (.ref b2), .val (.ref b46), .val (.int (1 : Int32)), .val (.int v56), .unset, .unset] [(.ref b46)])) rfl (by rw [hml]; rfl) (Steps.refl _) (argsL := []) (rest := []) (lenOf own_pd2 rfl) rfl (by show 2 * 0 + _ ≤ _; exact Nat.le_of_eq rfl) (hb hby at_125) (fun _ _ => ⟨rfl, e59q, (by decide : 2 + 0 ≤ _), (by decide : 13 + 0 ≤ _)⟩)
    dsimp only [Pt.U, Pt.locs, Pt.cells, Pt.slots] at X62 l62 y62_ z62_ st62 hQ62
    subst l62 y62_ z62_
    obtain ⟨rfl, N62q, e62q⟩ := hQ62
    have N62 := Fr.app N59 N62q
    refine own_ss (B := T62.setTop (mkF m 128 #[.val (.int arg0), .val (.int arg1), .val (.int arg2), .val (.int arg3), .val (.int v1), .val (.ref b2), .val (.ref b46), .val (.int (1 : Int32)), .val (.int v56), .unset, .unset] [(.int (if ((0 : Int32) + v56) < v1 then (1 : Int32) else 0))])) st62 ?_
    refine own_st (B := T62.setTop (mkF m 130 #[.val (.int arg0), .val (.int arg1), .val (.int arg2), .val (.int arg3), .val (.int v1), .val (.ref b2), .val (.ref b46), .val (.int (1 : Int32)), .val (.int v56), .unset, .unset] [(.int v56), (.int (if ((0 : Int32) + v56) < v1 then (1 : Int32) else 0))])) (fun t k => XS.iload X62.here hx rfl (hb hby at_128) rfl k) ?_
    refine own_st (B := T62.setTop (mkF m 132 #[.val (.int arg0), .val (.int arg1), .val (.int arg2), .val (.int arg3), .val (.int v1), .val (.ref b2), .val (.ref b46), .val (.int (1 : Int32)), .val (.int v56), .unset, .unset] [(.int v1), (.int v56), (.int (if ((0 : Int32) + v56) < v1 then (1 : Int32) else 0))])) (fun t k => XS.iload X62.here hx rfl (hb hby at_130) rfl k) ?_
    refine own_cut (P := ∀ (v64 : Int32), (v64 = (if v56 < v1 then (1 : Int32) else (0 : Int32))) → own_Go p e below s (Q0 Z arg0 arg1 arg2 arg3 h0 n0) 16 128 (T62.setTop (mkF m 140 #[.val (.int arg0), .val (.int arg1), .val (.int arg2), .val (.int arg3), .val (.int v1), .val (.ref b2), .val (.ref b46), .val (.int (1 : Int32)), .val (.int v56), .unset, .unset] [(.int v64), (.int (if ((0 : Int32) + v56) < v1 then (1 : Int32) else 0))]))) (fun J65 => ?_) ?_
    · by_cases hc63 : v56 < v1
      · refine own_st (B := T62.setTop (mkF m 135 #[.val (.int arg0), .val (.int arg1), .val (.int arg2), .val (.int arg3), .val (.int v1), .val (.ref b2), .val (.ref b46), .val (.int (1 : Int32)), .val (.int v56), .unset, .unset] [(.int (if ((0 : Int32) + v56) < v1 then (1 : Int32) else 0))])) (fun t k => XS.icmpNo X62.here hx rfl (hb hby at_132) rfl (XT.ii_ge_f hc63) k) ?_
        refine own_st (B := T62.setTop (mkF m 136 #[.val (.int arg0), .val (.int arg1), .val (.int arg2), .val (.int arg3), .val (.int v1), .val (.ref b2), .val (.ref b46), .val (.int (1 : Int32)), .val (.int v56), .unset, .unset] [(.int (1 : Int32)), (.int (if ((0 : Int32) + v56) < v1 then (1 : Int32) else 0))])) (fun t k => XS.iconst X62.here hx rfl (hb hby at_135) k) ?_
        refine own_st (B := T62.setTop (mkF m 140 #[.val (.int arg0), .val (.int arg1), .val (.int arg2), .val (.int arg3), .val (.int v1), .val (.ref b2), .val (.ref b46), .val (.int (1 : Int32)), .val (.int v56), .unset, .unset] [(.int (1 : Int32)), (.int (if ((0 : Int32) + v56) < v1 then (1 : Int32) else 0))])) (fun t k => XS.goto X62.here hx rfl (pc0 := 136) (pc' := 140) rfl (hb hby at_136) (by decide) (by decide) k) ?_
        exact J65 (1 : Int32) (by rw [if_pos hc63])
      · refine own_st (B := T62.setTop (mkF m 139 #[.val (.int arg0), .val (.int arg1), .val (.int arg2), .val (.int arg3), .val (.int v1), .val (.ref b2), .val (.ref b46), .val (.int (1 : Int32)), .val (.int v56), .unset, .unset] [(.int (if ((0 : Int32) + v56) < v1 then (1 : Int32) else 0))])) (fun t k => XS.icmpYes X62.here hx rfl (pc0 := 132) (pc' := 139) rfl (hb hby at_132) rfl (XT.ii_ge_t hc63) (by decide) (by decide) k) ?_
        refine own_st (B := T62.setTop (mkF m 140 #[.val (.int arg0), .val (.int arg1), .val (.int arg2), .val (.int arg3), .val (.int v1), .val (.ref b2), .val (.ref b46), .val (.int (1 : Int32)), .val (.int v56), .unset, .unset] [(.int (0 : Int32)), (.int (if ((0 : Int32) + v56) < v1 then (1 : Int32) else 0))])) (fun t k => XS.iconst X62.here hx rfl (hb hby at_139) k) ?_
        exact J65 (0 : Int32) (by rw [if_neg hc63])
    intro v64 hv64
    have hc66 : (if ((0 : Int32) + v56) < v1 then (1 : Int32) else 0) = v64 := by
      rw [Int32.zero_add]; exact hv64.symm
    refine own_st (B := T62.setTop (mkF m 143 #[.val (.int arg0), .val (.int arg1), .val (.int arg2), .val (.int arg3), .val (.int v1), .val (.ref b2), .val (.ref b46), .val (.int (1 : Int32)), .val (.int v56), .unset, .unset] [])) (fun t k => XS.icmpNo X62.here hx rfl (hb hby at_140) rfl (XT.ii_ne_f hc66) k) ?_
    refine own_st (B := T62.setTop (mkF m 144 #[.val (.int arg0), .val (.int arg1), .val (.int arg2), .val (.int arg3), .val (.int v1), .val (.ref b2), .val (.ref b46), .val (.int (1 : Int32)), .val (.int v56), .unset, .unset] [(.int (1 : Int32))])) (fun t k => XS.iconst X62.here hx rfl (hb hby at_143) k) ?_
    refine own_st (B := T62.setTop (mkF m 148 #[.val (.int arg0), .val (.int arg1), .val (.int arg2), .val (.int arg3), .val (.int v1), .val (.ref b2), .val (.ref b46), .val (.int (1 : Int32)), .val (.int v56), .unset, .unset] [(.int (1 : Int32))])) (fun t k => XS.goto X62.here hx rfl (pc0 := 144) (pc' := 148) rfl (hb hby at_144) (by decide) (by decide) k) ?_
    refine own_st (B := T62.setTop (mkF m 150 #[.val (.int arg0), .val (.int arg1), .val (.int arg2), .val (.int arg3), .val (.int v1), .val (.ref b2), .val (.ref b46), .val (.int (1 : Int32)), .val (.int v56), .unset, .unset] [])) (fun t k => XS.istore X62.here hx rfl (hb hby at_148) rfl (l' := #[.val (.int arg0), .val (.int arg1), .val (.int arg2), .val (.int arg3), .val (.int v1), .val (.ref b2), .val (.ref b46), .val (.int (1 : Int32)), .val (.int v56), .unset, .unset]) rfl k) ?_
    refine own_st (B := T62.setTop (mkF m 151 #[.val (.int arg0), .val (.int arg1), .val (.int arg2), .val (.int arg3), .val (.int v1), .val (.ref b2), .val (.ref b46), .val (.int (1 : Int32)), .val (.int v56), .unset, .unset] [(.int arg2)])) (fun t k => XS.iloadN X62.here hx rfl (hb hby at_150) rfl k) ?_
    refine own_st (B := T62.setTop (mkF m 153 #[.val (.int arg0), .val (.int arg1), .val (.int arg2), .val (.int arg3), .val (.int v1), .val (.ref b2), .val (.ref b46), .val (.int (1 : Int32)), .val (.int v56), .unset, .unset] [(.int (2147483647 : Int32)), (.int arg2)])) (fun t k => X62.ldcInt hx hown (mvT hZ (w_0 hw)) (g := (mkF m 151 #[.val (.int arg0), .val (.int arg1), .val (.int arg2), .val (.int arg3), .val (.int v1), .val (.ref b2), .val (.ref b46), .val (.int (1 : Int32)), .val (.int v56), .unset, .unset] [(.int arg2)])) rfl (hb hby at_151) _ k) ?_
    refine own_st (B := T62.setTop (mkF m 154 #[.val (.int arg0), .val (.int arg1), .val (.int arg2), .val (.int arg3), .val (.int v1), .val (.ref b2), .val (.ref b46), .val (.int (1 : Int32)), .val (.int v56), .unset, .unset] [(.int (arg2 &&& (2147483647 : Int32)))])) (fun t k => XS.iand X62.here hx rfl (hb hby at_153) rfl k) ?_
    refine own_st (B := T62.setTop (mkF m 156 #[.val (.int arg0), .val (.int arg1), .val (.int arg2), .val (.int arg3), .val (.int v1), .val (.ref b2), .val (.ref b46), .val (.int (1 : Int32)), .val (.int v56), .unset, .unset] [(.int (9 : Int32)), (.int (arg2 &&& (2147483647 : Int32)))])) (fun t k => XS.bipush X62.here hx rfl (hb hby at_154) k) ?_
    refine own_st (B := T62.setTop (mkF m 157 #[.val (.int arg0), .val (.int arg1), .val (.int arg2), .val (.int arg3), .val (.int v1), .val (.ref b2), .val (.ref b46), .val (.int (1 : Int32)), .val (.int v56), .unset, .unset] [(.int ((arg2 &&& (2147483647 : Int32)) % (9 : Int32)))])) (fun t k => iremM X62 hx (g := (mkF m 156 #[.val (.int arg0), .val (.int arg1), .val (.int arg2), .val (.int arg3), .val (.int v1), .val (.ref b2), .val (.ref b46), .val (.int (1 : Int32)), .val (.int v56), .unset, .unset] [(.int (9 : Int32)), (.int (arg2 &&& (2147483647 : Int32)))])) rfl (x := (arg2 &&& (2147483647 : Int32))) (y := (9 : Int32)) (rest := []) (hb hby at_156) rfl (by decide) k) ?_
    refine own_st (B := T62.setTop (mkF m 159 #[.val (.int arg0), .val (.int arg1), .val (.int arg2), .val (.int arg3), .val (.int v1), .val (.ref b2), .val (.ref b46), .val (.int (1 : Int32)), .val (.int v56), .unset, .unset] [(.int v1), (.int ((arg2 &&& (2147483647 : Int32)) % (9 : Int32)))])) (fun t k => XS.iload X62.here hx rfl (hb hby at_157) rfl k) ?_
    refine own_st (B := T62.setTop (mkF m 161 #[.val (.int arg0), .val (.int arg1), .val (.int arg2), .val (.int arg3), .val (.int v1), .val (.ref b2), .val (.ref b46), .val (.int (1 : Int32)), .val (.int v56), .unset, .unset] [(.int v56), (.int v1), (.int ((arg2 &&& (2147483647 : Int32)) % (9 : Int32)))])) (fun t k => XS.iload X62.here hx rfl (hb hby at_159) rfl k) ?_
    refine own_st (B := T62.setTop (mkF m 162 #[.val (.int arg0), .val (.int arg1), .val (.int arg2), .val (.int arg3), .val (.int v1), .val (.ref b2), .val (.ref b46), .val (.int (1 : Int32)), .val (.int v56), .unset, .unset] [(.int (v1 - v56)), (.int ((arg2 &&& (2147483647 : Int32)) % (9 : Int32)))])) (fun t k => XS.isub X62.here hx rfl (hb hby at_161) rfl k) ?_
    obtain ⟨_, _, ⟨T67, L67, k67, j67⟩, -, X67, ⟨Lc67, hQ67, l67, y67_, z67_⟩, st67⟩ := Jvm.LawKit.callS X62 hx (y := (⟨"java/lang/Math", "min", "(II)I"⟩ : MethodName)) hown (mvT hZ (w_20 hw)) (mvT hZ (w_21 hw)) (mvT hZ (w_22 hw)) (mvT hZ (w_23 hw)) (by decide) (backOf (W := 0) (rm4 l Z a0 hw [] ((arg2 &&& (2147483647 : Int32)) % (9 : Int32)) (v1 - v56) T57.heap n0 z58 ) hZ (w_23 hw) (w_22 hw) (by decide) (by decide)) (g := (mkF m 162 #[.val (.int arg0), .val (.int arg1), .val (.int arg2), .val (.int arg3), .val (.int v1), .val (.ref b2), .val (.ref b46), .val (.int (1 : Int32)), .val (.int v56), .unset, .unset] [(.int (v1 - v56)), (.int ((arg2 &&& (2147483647 : Int32)) % (9 : Int32)))])) rfl (by rw [hml]; rfl) (argsL := [(.int ((arg2 &&& (2147483647 : Int32)) % (9 : Int32))), (.int (v1 - v56))]) (rest := []) (lenOf own_pd3 rfl) rfl (by show 2 * 0 + _ ≤ _; exact Nat.le_of_eq rfl) (hb hby at_162) (fun _ _ => ⟨rfl, e62q, (by decide : 2 + 0 ≤ _), (by decide : 13 + 0 ≤ _)⟩)
    dsimp only [Pt.U, Pt.locs, Pt.cells, Pt.slots] at X67 l67 y67_ z67_ st67 hQ67
    subst l67 y67_ z67_
    obtain ⟨rfl, N67q, e67q⟩ := hQ67
    have N67 := Fr.app N62 N67q
    refine own_st (B := T67.setTop (mkF m 165 #[.val (.int arg0), .val (.int arg1), .val (.int arg2), .val (.int arg3), .val (.int v1), .val (.ref b2), .val (.ref b46), .val (.int (1 : Int32)), .val (.int v56), .unset, .unset] [(.int (own_min ((arg2 &&& (2147483647 : Int32)) % (9 : Int32)) (v1 - v56)))])) (fun t k => st67 t k) ?_
    obtain ⟨v68, ev68⟩ : ∃ z : Int32, z = (own_min ((arg2 &&& (2147483647 : Int32)) % (9 : Int32)) (v1 - v56)) := ⟨_, rfl⟩
    rw [← ev68]
    refine own_st (B := T67.setTop (mkF m 167 #[.val (.int arg0), .val (.int arg1), .val (.int arg2), .val (.int arg3), .val (.int v1), .val (.ref b2), .val (.ref b46), .val (.int (1 : Int32)), .val (.int v56), .val (.int v68), .unset] [])) (fun t k => XS.istore X67.here hx rfl (hb hby at_165) rfl (l' := #[.val (.int arg0), .val (.int arg1), .val (.int arg2), .val (.int arg3), .val (.int v1), .val (.ref b2), .val (.ref b46), .val (.int (1 : Int32)), .val (.int v56), .val (.int v68), .unset]) rfl k) ?_
    refine own_st (B := T67.setTop (mkF m 169 #[.val (.int arg0), .val (.int arg1), .val (.int arg2), .val (.int arg3), .val (.int v1), .val (.ref b2), .val (.ref b46), .val (.int (1 : Int32)), .val (.int v56), .val (.int v68), .unset] [(.ref b46)])) (fun t k => XS.aload X67.here hx rfl (hb hby at_167) rfl rfl k) ?_
    refine own_st (B := T67.setTop (mkF m 171 #[.val (.int arg0), .val (.int arg1), .val (.int arg2), .val (.int arg3), .val (.int v1), .val (.ref b2), .val (.ref b46), .val (.int (1 : Int32)), .val (.int v56), .val (.int v68), .unset] [(.int v68), (.ref b46)])) (fun t k => XS.iload X67.here hx rfl (hb hby at_169) rfl k) ?_
    obtain ⟨cq69, kq69, q69a, q69b, q69c⟩ := isOf hZ e67q p57_0
    obtain ⟨_, _, ⟨T69, L69, k69, j69⟩, -, X69, ⟨Lc69, hQ69, l69, y69_, z69_⟩, st69⟩ := X67.virtualBack hx (y := (⟨"com/example/libentkey/libentkey/codec/KeyReader", "nextLong", "(I)J"⟩ : MethodName)) (z := (⟨"com/example/libentkey/libentkey/codec/KeyReader", "nextLong", "(I)J"⟩ : MethodName)) hown (mvT hZ (w_24 hw)) (mvT hZ (w_25 hw)) (notFace_of_selects (args := #[]) (mvT hZ (w_27 hw))) (mvT hZ (w_27 hw)) (mvT hZ (w_26 hw)) (by decide) (backOf (W := 0) (rm5 l Z a0 hw [] b46 v68 b2 ((0 : Int32) + v56) (List.replicate (v1.toInt.toNat) (Value.int (0 : Int32))) v1 T57.heap n0 z58 p57_0 p57_1 p57_2 f61 u46 (show v1.toInt = ((List.replicate (v1.toInt.toNat) (Value.int (0 : Int32))).length : Int) by simp only [List.length_set, List.length_replicate]; exact own_nat (own_ten ev1).1) (show own_ints (List.replicate (v1.toInt.toNat) (Value.int (0 : Int32))) by first | exact own_ints_rep _ _ | exact own_ints_set (own_ints_set (own_ints_rep _ _) _ _) _ _) (show 0 ≤ ((0 : Int32) + v56).toInt by rw [Int32.zero_add]; exact (own_mn ev56 (own_nine _) (own_ten ev1).1).1) (own_mn ev68 (own_nine _) (by rw [own_sb (own_mn ev56 (own_nine _) (own_ten ev1).1).1 (own_mn ev56 (own_nine _) (own_ten ev1).1).2]; have := (own_mn ev56 (own_nine _) (own_ten ev1).1); omega)).1 (show ((0 : Int32) + v56).toInt + v68.toInt ≤ v1.toInt by rw [Int32.zero_add]; have h1 := (own_mn ev56 (own_nine _) (own_ten ev1).1); have h2 := (own_mn ev68 (own_nine _) (by rw [own_sb (own_mn ev56 (own_nine _) (own_ten ev1).1).1 (own_mn ev56 (own_nine _) (own_ten ev1).1).2]; have := (own_mn ev56 (own_nine _) (own_ten ev1).1); omega)); rw [own_sb h1.1 h1.2] at h2; omega)) hZ (w_28 hw) (w_4 hw) (by decide) (by decide)) q69a q69c (g := (mkF m 171 #[.val (.int arg0), .val (.int arg1), .val (.int arg2), .val (.int arg3), .val (.int v1), .val (.ref b2), .val (.ref b46), .val (.int (1 : Int32)), .val (.int v56), .val (.int v68), .unset] [(.int v68), (.ref b46)])) rfl (by rw [hml]; rfl) (Steps.refl _) (argsL := [(.int v68)]) (rest := []) (lenOf own_pd4 rfl) rfl (by show 2 * 0 + _ ≤ _; exact Nat.le_of_eq rfl) (hb hby at_171) (fun _ _ => ⟨rfl, e67q, (by decide : 2 + 0 ≤ _), (by decide : 13 + 0 ≤ _)⟩)
    dsimp only [Pt.U, Pt.locs, Pt.cells, Pt.slots] at X69 l69 y69_ z69_ st69 hQ69
    subst l69 y69_ z69_
    obtain ⟨z_69, rfl, N69q, K69, p69_0, p69_1, p69_2⟩ := hQ69
    have N69 := Fr.app N67 N69q
    have z70 : n0 ≤ T69.heap.size := Nat.le_trans z58 K69.1
    refine own_ss (B := T69.setTop (mkF m 174 #[.val (.int arg0), .val (.int arg1), .val (.int arg2), .val (.int arg3), .val (.int v1), .val (.ref b2), .val (.ref b46), .val (.int (1 : Int32)), .val (.int v56), .val (.int v68), .unset] [(.long z_69)])) st69 ?_
    refine own_st (B := T69.setTop (mkF m 175 #[.val (.int arg0), .val (.int arg1), .val (.int arg2), .val (.int arg3), .val (.int v1), .val (.ref b2), .val (.ref b46), .val (.int (1 : Int32)), .val (.int v56), .val (.int v68), .unset] [])) (fun t k => own_pop2 X69.here hx rfl (hb hby at_174) rfl k) ?_
    refine own_st (B := T69.setTop (mkF m 177 #[.val (.int arg0), .val (.int arg1), .val (.int arg2), .val (.int arg3), .val (.int v1), .val (.ref b2), .val (.ref b46), .val (.int (1 : Int32)), .val (.int v56), .val (.int v68), .unset] [(.int v56)])) (fun t k => XS.iload X69.here hx rfl (hb hby at_175) rfl k) ?_
    refine own_st (B := T69.setTop (mkF m 179 #[.val (.int arg0), .val (.int arg1), .val (.int arg2), .val (.int arg3), .val (.int v1), .val (.ref b2), .val (.ref b46), .val (.int (1 : Int32)), .val (.int v56), .val (.int v68), .unset] [(.int v68), (.int v56)])) (fun t k => XS.iload X69.here hx rfl (hb hby at_177) rfl k) ?_
    refine own_st (B := T69.setTop (mkF m 180 #[.val (.int arg0), .val (.int arg1), .val (.int arg2), .val (.int arg3), .val (.int v1), .val (.ref b2), .val (.ref b46), .val (.int (1 : Int32)), .val (.int v56), .val (.int v68), .unset] [(.int (v56 + v68))])) (fun t k => XS.iadd X69.here hx rfl (hb hby at_179) rfl k) ?_
    obtain ⟨v71, ev71⟩ : ∃ z : Int32, z = (v56 + v68) := ⟨_, rfl⟩
    rw [← ev71]
    refine own_st (B := T69.setTop (mkF m 182 #[.val (.int arg0), .val (.int arg1), .val (.int arg2), .val (.int arg3), .val (.int v1), .val (.ref b2), .val (.ref b46), .val (.int (1 : Int32)), .val (.int v56), .val (.int v68), .val (.int v71)] [])) (fun t k => XS.istore X69.here hx rfl (hb hby at_180) rfl (l' := #[.val (.int arg0), .val (.int arg1), .val (.int arg2), .val (.int arg3), .val (.int v1), .val (.ref b2), .val (.ref b46), .val (.int (1 : Int32)), .val (.int v56), .val (.int v68), .val (.int v71)]) rfl k) ?_
    refine own_st (B := T69.setTop (mkF m 184 #[.val (.int arg0), .val (.int arg1), .val (.int arg2), .val (.int arg3), .val (.int v1), .val (.ref b2), .val (.ref b46), .val (.int (1 : Int32)), .val (.int v56), .val (.int v68), .val (.int v71)] [(.int (1 : Int32))])) (fun t k => XS.iload X69.here hx rfl (hb hby at_182) rfl k) ?_
    refine own_st (B := T69.setTop (mkF m 187 #[.val (.int arg0), .val (.int arg1), .val (.int arg2), .val (.int arg3), .val (.int v1), .val (.ref b2), .val (.ref b46), .val (.int (1 : Int32)), .val (.int v56), .val (.int v68), .val (.int v71)] [])) (fun t k => XS.ifNo X69.here hx rfl (hb hby at_184) rfl (by decide) k) ?_
    refine own_st (B := T69.setTop (mkF m 189 #[.val (.int arg0), .val (.int arg1), .val (.int arg2), .val (.int arg3), .val (.int v1), .val (.ref b2), .val (.ref b46), .val (.int (1 : Int32)), .val (.int v56), .val (.int v68), .val (.int v71)] [(.ref b46)])) (fun t k => XS.aload X69.here hx rfl (hb hby at_187) rfl rfl k) ?_
    have f72 : own_A Z T69.heap b2 .byte (List.replicate (v1.toInt.toNat) (Value.int (0 : Int32))) := (f61.keep K69 (ninS q46_b2 nin0))
    obtain ⟨cq73, kq73, q73a, q73b, q73c⟩ := isOf hZ rfl p69_0
    obtain ⟨_, _, ⟨T73, L73, k73, j73⟩, -, X73, ⟨Lc73, hQ73, l73, y73_, z73_⟩, st73⟩ := X69.virtualBack hx (y := (⟨"com/example/libentkey/libentkey/codec/KeyReader", "hasMore", "()Z"⟩ : MethodName)) (z := (⟨"com/example/libentkey/libentkey/codec/KeyReader", "hasMore", "()Z"⟩ : MethodName)) hown (mvT hZ (w_13 hw)) (mvT hZ (w_14 hw)) (notFace_of_selects (args := #[]) (mvT hZ (w_16 hw))) (mvT hZ (w_16 hw)) (mvT hZ (w_15 hw)) (by decide) (backOf (W := 0) (rm3 l Z a0 hw [] b46 b2 (((0 : Int32) + v56) + v68) (List.replicate (v1.toInt.toNat) (Value.int (0 : Int32))) v1 T69.heap n0 z70 p69_1 p69_2 f72 (show v1.toInt = ((List.replicate (v1.toInt.toNat) (Value.int (0 : Int32))).length : Int) by simp only [List.length_set, List.length_replicate]; exact own_nat (own_ten ev1).1)) hZ (w_17 hw) (w_4 hw) (by decide) (by decide)) q73a q73c (g := (mkF m 189 #[.val (.int arg0), .val (.int arg1), .val (.int arg2), .val (.int arg3), .val (.int v1), .val (.ref b2), .val (.ref b46), .val (.int (1 : Int32)), .val (.int v56), .val (.int v68), .val (.int v71)] [(.ref b46)])) rfl (by rw [hml]; rfl) (Steps.refl _) (argsL := []) (rest := []) (lenOf own_pd2 rfl) rfl (by show 2 * 0 + _ ≤ _; exact Nat.le_of_eq rfl) (hb hby at_189) (fun _ _ => ⟨rfl, rfl, (by decide : 2 + 0 ≤ _), (by decide : 13 + 0 ≤ _)⟩)
    dsimp only [Pt.U, Pt.locs, Pt.cells, Pt.slots] at X73 l73 y73_ z73_ st73 hQ73
    subst l73 y73_ z73_
    obtain ⟨rfl, N73q, e73q⟩ := hQ73
    have N73 := Fr.app N69 N73q
    refine own_ss (B := T73.setTop (mkF m 192 #[.val (.int arg0), .val (.int arg1), .val (.int arg2), .val (.int arg3), .val (.int v1), .val (.ref b2), .val (.ref b46), .val (.int (1 : Int32)), .val (.int v56), .val (.int v68), .val (.int v71)] [(.int (if (((0 : Int32) + v56) + v68) < v1 then (1 : Int32) else 0))])) st73 ?_
    refine own_st (B := T73.setTop (mkF m 194 #[.val (.int arg0), .val (.int arg1), .val (.int arg2), .val (.int arg3), .val (.int v1), .val (.ref b2), .val (.ref b46), .val (.int (1 : Int32)), .val (.int v56), .val (.int v68), .val (.int v71)] [(.int v71), (.int (if (((0 : Int32) + v56) + v68) < v1 then (1 : Int32) else 0))])) (fun t k => XS.iload X73.here hx rfl (hb hby at_192) rfl k) ?_
    refine own_st (B := T73.setTop (mkF m 196 #[.val (.int arg0), .val (.int arg1), .val (.int arg2), .val (.int arg3), .val (.int v1), .val (.ref b2), .val (.ref b46), .val (.int (1 : Int32)), .val (.int v56), .val (.int v68), .val (.int v71)] [(.int v1), (.int v71), (.int (if (((0 : Int32) + v56) + v68) < v1 then (1 : Int32) else 0))])) (fun t k => XS.iload X73.here hx rfl (hb hby at_194) rfl k) ?_
    refine own_cut (P := ∀ (v75 : Int32), (v75 = (if v71 < v1 then (1 : Int32) else (0 : Int32))) → own_Go p e below s (Q0 Z arg0 arg1 arg2 arg3 h0 n0) 16 128 (T73.setTop (mkF m 204 #[.val (.int arg0), .val (.int arg1), .val (.int arg2), .val (.int arg3), .val (.int v1), .val (.ref b2), .val (.ref b46), .val (.int (1 : Int32)), .val (.int v56), .val (.int v68), .val (.int v71)] [(.int v75), (.int (if (((0 : Int32) + v56) + v68) < v1 then (1 : Int32) else 0))]))) (fun J76 => ?_) ?_
    · by_cases hc74 : v71 < v1
      · refine own_st (B := T73.setTop (mkF m 199 #[.val (.int arg0), .val (.int arg1), .val (.int arg2), .val (.int arg3), .val (.int v1), .val (.ref b2), .val (.ref b46), .val (.int (1 : Int32)), .val (.int v56), .val (.int v68), .val (.int v71)] [(.int (if (((0 : Int32) + v56) + v68) < v1 then (1 : Int32) else 0))])) (fun t k => XS.icmpNo X73.here hx rfl (hb hby at_196) rfl (XT.ii_ge_f hc74) k) ?_
        refine own_st (B := T73.setTop (mkF m 200 #[.val (.int arg0), .val (.int arg1), .val (.int arg2), .val (.int arg3), .val (.int v1), .val (.ref b2), .val (.ref b46), .val (.int (1 : Int32)), .val (.int v56), .val (.int v68), .val (.int v71)] [(.int (1 : Int32)), (.int (if (((0 : Int32) + v56) + v68) < v1 then (1 : Int32) else 0))])) (fun t k => XS.iconst X73.here hx rfl (hb hby at_199) k) ?_
        refine own_st (B := T73.setTop (mkF m 204 #[.val (.int arg0), .val (.int arg1), .val (.int arg2), .val (.int arg3), .val (.int v1), .val (.ref b2), .val (.ref b46), .val (.int (1 : Int32)), .val (.int v56), .val (.int v68), .val (.int v71)] [(.int (1 : Int32)), (.int (if (((0 : Int32) + v56) + v68) < v1 then (1 : Int32) else 0))])) (fun t k => XS.goto X73.here hx rfl (pc0 := 200) (pc' := 204) rfl (hb hby at_200) (by decide) (by decide) k) ?_
        exact J76 (1 : Int32) (by rw [if_pos hc74])
      · refine own_st (B := T73.setTop (mkF m 203 #[.val (.int arg0), .val (.int arg1), .val (.int arg2), .val (.int arg3), .val (.int v1), .val (.ref b2), .val (.ref b46), .val (.int (1 : Int32)), .val (.int v56), .val (.int v68), .val (.int v71)] [(.int (if (((0 : Int32) + v56) + v68) < v1 then (1 : Int32) else 0))])) (fun t k => XS.icmpYes X73.here hx rfl (pc0 := 196) (pc' := 203) rfl (hb hby at_196) rfl (XT.ii_ge_t hc74) (by decide) (by decide) k) ?_
        refine own_st (B := T73.setTop (mkF m 204 #[.val (.int arg0), .val (.int arg1), .val (.int arg2), .val (.int arg3), .val (.int v1), .val (.ref b2), .val (.ref b46), .val (.int (1 : Int32)), .val (.int v56), .val (.int v68), .val (.int v71)] [(.int (0 : Int32)), (.int (if (((0 : Int32) + v56) + v68) < v1 then (1 : Int32) else 0))])) (fun t k => XS.iconst X73.here hx rfl (hb hby at_203) k) ?_
        exact J76 (0 : Int32) (by rw [if_neg hc74])
    intro v75 hv75
    have hc77 : (if (((0 : Int32) + v56) + v68) < v1 then (1 : Int32) else 0) = v75 := by
      rw [Int32.zero_add, ← ev71]; exact hv75.symm
    refine own_st (B := T73.setTop (mkF m 207 #[.val (.int arg0), .val (.int arg1), .val (.int arg2), .val (.int arg3), .val (.int v1), .val (.ref b2), .val (.ref b46), .val (.int (1 : Int32)), .val (.int v56), .val (.int v68), .val (.int v71)] [])) (fun t k => XS.icmpNo X73.here hx rfl (hb hby at_204) rfl (XT.ii_ne_f hc77) k) ?_
    refine own_st (B := T73.setTop (mkF m 208 #[.val (.int arg0), .val (.int arg1), .val (.int arg2), .val (.int arg3), .val (.int v1), .val (.ref b2), .val (.ref b46), .val (.int (1 : Int32)), .val (.int v56), .val (.int v68), .val (.int v71)] [(.int (1 : Int32))])) (fun t k => XS.iconst X73.here hx rfl (hb hby at_207) k) ?_
    refine own_st (B := T73.setTop (mkF m 212 #[.val (.int arg0), .val (.int arg1), .val (.int arg2), .val (.int arg3), .val (.int v1), .val (.ref b2), .val (.ref b46), .val (.int (1 : Int32)), .val (.int v56), .val (.int v68), .val (.int v71)] [(.int (1 : Int32))])) (fun t k => XS.goto X73.here hx rfl (pc0 := 208) (pc' := 212) rfl (hb hby at_208) (by decide) (by decide) k) ?_
    refine own_st (B := T73.setTop (mkF m 214 #[.val (.int arg0), .val (.int arg1), .val (.int arg2), .val (.int arg3), .val (.int v1), .val (.ref b2), .val (.ref b46), .val (.int (1 : Int32)), .val (.int v56), .val (.int v68), .val (.int v71)] [])) (fun t k => XS.istore X73.here hx rfl (hb hby at_212) rfl (l' := #[.val (.int arg0), .val (.int arg1), .val (.int arg2), .val (.int arg3), .val (.int v1), .val (.ref b2), .val (.ref b46), .val (.int (1 : Int32)), .val (.int v56), .val (.int v68), .val (.int v71)]) rfl k) ?_
    refine own_st (B := T73.setTop (mkF m 216 #[.val (.int arg0), .val (.int arg1), .val (.int arg2), .val (.int arg3), .val (.int v1), .val (.ref b2), .val (.ref b46), .val (.int (1 : Int32)), .val (.int v56), .val (.int v68), .val (.int v71)] [(.int (1 : Int32))])) (fun t k => XS.iload X73.here hx rfl (hb hby at_214) rfl k) ?_
    refine own_st (B := T73.setTop (mkF m 219 #[.val (.int arg0), .val (.int arg1), .val (.int arg2), .val (.int arg3), .val (.int v1), .val (.ref b2), .val (.ref b46), .val (.int (1 : Int32)), .val (.int v56), .val (.int v68), .val (.int v71)] [])) (fun t k => XS.ifNo X73.here hx rfl (hb hby at_216) rfl (by decide) k) ?_
    refine own_st (B := T73.setTop (mkF m 221 #[.val (.int arg0), .val (.int arg1), .val (.int arg2), .val (.int arg3), .val (.int v1), .val (.ref b2), .val (.ref b46), .val (.int (1 : Int32)), .val (.int v56), .val (.int v68), .val (.int v71)] [(.ref b46)])) (fun t k => XS.aload X73.here hx rfl (hb hby at_219) rfl rfl k) ?_
    obtain ⟨cq78, kq78, q78a, q78b, q78c⟩ := isOf hZ e73q p69_0
    obtain ⟨_, _, ⟨T78, L78, k78, j78⟩, -, X78, ⟨Lc78, hQ78, l78, y78_, z78_⟩, st78⟩ := X73.virtualBack hx (y := (⟨"com/example/libentkey/libentkey/codec/KeyReader", "position", "()I"⟩ : MethodName)) (z := (⟨"com/example/libentkey/libentkey/codec/KeyReader", "position", "()I"⟩ : MethodName)) hown (mvT hZ (w_29 hw)) (mvT hZ (w_30 hw)) (notFace_of_selects (args := #[]) (mvT hZ (w_32 hw))) (mvT hZ (w_32 hw)) (mvT hZ (w_31 hw)) (by decide) (backOf (W := 0) (rm6 l Z a0 hw [] b46 (((0 : Int32) + v56) + v68) T69.heap n0 z70 p69_2) hZ (w_33 hw) (w_4 hw) (by decide) (by decide)) q78a q78c (g := (mkF m 221 #[.val (.int arg0), .val (.int arg1), .val (.int arg2), .val (.int arg3), .val (.int v1), .val (.ref b2), .val (.ref b46), .val (.int (1 : Int32)), .val (.int v56), .val (.int v68), .val (.int v71)] [(.ref b46)])) rfl (by rw [hml]; rfl) (Steps.refl _) (argsL := []) (rest := []) (lenOf own_pd5 rfl) rfl (by show 2 * 0 + _ ≤ _; exact Nat.le_of_eq rfl) (hb hby at_221) (fun _ _ => ⟨rfl, e73q, (by decide : 2 + 0 ≤ _), (by decide : 13 + 0 ≤ _)⟩)
    dsimp only [Pt.U, Pt.locs, Pt.cells, Pt.slots] at X78 l78 y78_ z78_ st78 hQ78
    subst l78 y78_ z78_
    obtain ⟨rfl, N78q, e78q⟩ := hQ78
    have N78 := Fr.app N73 N78q
    refine own_ss (B := T78.setTop (mkF m 224 #[.val (.int arg0), .val (.int arg1), .val (.int arg2), .val (.int arg3), .val (.int v1), .val (.ref b2), .val (.ref b46), .val (.int (1 : Int32)), .val (.int v56), .val (.int v68), .val (.int v71)] [(.int (((0 : Int32) + v56) + v68))])) st78 ?_
    refine own_st (B := T78.setTop (mkF m 226 #[.val (.int arg0), .val (.int arg1), .val (.int arg2), .val (.int arg3), .val (.int v1), .val (.ref b2), .val (.ref b46), .val (.int (1 : Int32)), .val (.int v56), .val (.int v68), .val (.int v71)] [(.int v71), (.int (((0 : Int32) + v56) + v68))])) (fun t k => XS.iload X78.here hx rfl (hb hby at_224) rfl k) ?_
    have hc79 : (((0 : Int32) + v56) + v68) = v71 := by
      rw [Int32.zero_add]; exact ev71.symm
    refine own_st (B := T78.setTop (mkF m 229 #[.val (.int arg0), .val (.int arg1), .val (.int arg2), .val (.int arg3), .val (.int v1), .val (.ref b2), .val (.ref b46), .val (.int (1 : Int32)), .val (.int v56), .val (.int v68), .val (.int v71)] [])) (fun t k => XS.icmpNo X78.here hx rfl (hb hby at_226) rfl (XT.ii_ne_f hc79) k) ?_
    refine own_st (B := T78.setTop (mkF m 230 #[.val (.int arg0), .val (.int arg1), .val (.int arg2), .val (.int arg3), .val (.int v1), .val (.ref b2), .val (.ref b46), .val (.int (1 : Int32)), .val (.int v56), .val (.int v68), .val (.int v71)] [(.int (1 : Int32))])) (fun t k => XS.iconst X78.here hx rfl (hb hby at_229) k) ?_
    refine own_st (B := T78.setTop (mkF m 234 #[.val (.int arg0), .val (.int arg1), .val (.int arg2), .val (.int arg3), .val (.int v1), .val (.ref b2), .val (.ref b46), .val (.int (1 : Int32)), .val (.int v56), .val (.int v68), .val (.int v71)] [(.int (1 : Int32))])) (fun t k => XS.goto X78.here hx rfl (pc0 := 230) (pc' := 234) rfl (hb hby at_230) (by decide) (by decide) k) ?_
    refine own_st (B := T78.setTop (mkF m 236 #[.val (.int arg0), .val (.int arg1), .val (.int arg2), .val (.int arg3), .val (.int v1), .val (.ref b2), .val (.ref b46), .val (.int (1 : Int32)), .val (.int v56), .val (.int v68), .val (.int v71)] [])) (fun t k => XS.istore X78.here hx rfl (hb hby at_234) rfl (l' := #[.val (.int arg0), .val (.int arg1), .val (.int arg2), .val (.int arg3), .val (.int v1), .val (.ref b2), .val (.ref b46), .val (.int (1 : Int32)), .val (.int v56), .val (.int v68), .val (.int v71)]) rfl k) ?_
    refine own_st (B := T78.setTop (mkF m 238 #[.val (.int arg0), .val (.int arg1), .val (.int arg2), .val (.int arg3), .val (.int v1), .val (.ref b2), .val (.ref b46), .val (.int (1 : Int32)), .val (.int v56), .val (.int v68), .val (.int v71)] [(.int (1 : Int32))])) (fun t k => XS.iload X78.here hx rfl (hb hby at_236) rfl k) ?_
    refine own_retN X78 hx hlk (t := .boolean) Bd.returns (by simp) (z' := (1 : Int32)) rfl (hb hby at_238) (by decide) (by decide) ?_
    show Q0 Z arg0 arg1 arg2 arg3 h0 n0 _ T78.heap _
    rw [e78q]
    exact ⟨rfl, N78⟩
set_option maxHeartbeats 40000000 in
theorem comes_1 {Post : Tables → Env → Array Value → State → Outcome → State → Prop} (hpost : ∀ tb e args s v u, (limb_1_1.after args s (.returned v) u = true ∧ limb_1_2.after args s (.returned v) u = true ∧ True) → FrameEnd s (.returned v) u (Jvm.fieldLocs frame_1_writes args s ++ Jvm.arrayLocs frame_1_arrays args s ++ Jvm.staticLocs frame_1_statics s) 16 128 → Post tb e args s (.returned v) u) :
    ArmFor flags0 classFile x code maxLocals ret World_1 tables_1 room_1 Calls_1 rest_1 Pre_1 Post := by
  intro l hfl _ _ p e ha hc hk s m args below hf hA hF happ hP
  obtain ⟨hcalls, hrest, hpre⟩ := hP
  obtain ⟨-, -, -, hnamed, -, -, -, hat⟩ := (Spec.applies_iff hf).mp happ
  obtain ⟨hg, hn⟩ := and_e (Cond.before_iff.mp (show (Jvm.Cond.and given_1 narrow_1).before args s = true from hpre))
  obtain ⟨g1a, g1b⟩ := and_e hg
  obtain ⟨g2a, g2b⟩ := and_e g1b
  obtain ⟨g3a, g3b⟩ := and_e g2b
  obtain ⟨g4a, g4b⟩ := and_e g3b
  obtain ⟨w0, w1, w2, w3, rfl⟩ : ∃ w0 w1 w2 w3 : Value, args = #[w0, w1, w2, w3] := by
    have hs : args.size = 4 := by simpa [Cond.value, given_1] using g1a
    obtain ⟨L⟩ := args
    match L, hs with
    | [w0, w1, w2, w3], _ => exact ⟨w0, w1, w2, w3, rfl⟩
  have hw := fun d (hd : d ∈ tables_1) => atoms_spec (ws := Jvm.Cond.code x code maxLocals ret :: tables_1) hat d (List.mem_cons_of_mem _ hd)
  have hfit : Fit s := fun {y c} hc i hi => by
    obtain ⟨ha, rfl⟩ := Array.getElem?_eq_some_iff.mp hc
    have q := List.all_eq_true.mp ((Array.all_eq_true_iff_forall_mem.mp hF) _ (Array.getElem_mem ha)) i (List.mem_range.mpr hi)
    simpa [Array.getElem?_eq_getElem hi] using q
  obtain ⟨i0, ei0⟩ := is_v g2a
  obtain rfl : w0 = (.int i0) := Option.some.inj ei0
  obtain ⟨i1, ei1⟩ := is_v g3a
  obtain rfl : w1 = (.int i1) := Option.some.inj ei1
  obtain ⟨i2, ei2⟩ := is_v g4a
  obtain rfl : w2 = (.int i2) := Option.some.inj ei2
  obtain ⟨i3, ei3⟩ := is_v g4b
  obtain rfl : w3 = (.int i3) := Option.some.inj ei3
  obtain ⟨n, o, h1, h2, h3, _, L, rfl, ⟨rfl, N⟩, hq⟩ := rm0 l s _ hw tables_1 i0 i1 i2 i3 s.heap s.heap.size (Nat.le_refl _)  p e ha hc hk s m _ below hf ((Spec.applies_iff_loose hf).mp happ).1 ⟨rfl, State.Warmed39.refl s, rfl⟩ trivial
  refine ⟨n, _, h1, h2, h3, hpost _ _ _ _ _ _ ⟨Cond.after_iff.mpr rfl, Cond.after_iff.mpr (eq_i res_at (Term.int_eval (1)) rfl), trivial⟩ ⟨hq.1, hq.2.1, (hq.2.2.sift fun y hy => Or.inr (N y hy)).mono (by decide) (by decide)⟩⟩
theorem main_1_1 : Claimed_1_1 := comes_1 fun _ _ _ _ _ _ h hF => ⟨h.1, hF⟩
theorem main_1_2 : Claimed_1_2 := comes_1 fun _ _ _ _ _ _ h hF => ⟨h.2.1, hF⟩
end Jvm.Pilot.@@N@@
namespace Jvm.Pilot.@@N@@
open Jvm Jvm.ClassFile Sem Op Lib Jvm.Free Jvm.Stand Jvm.Pilot.@@N@@.Jvm.D
/-! MADE BY PROGRAM (witnessworld.py) out of the Statement's table words and the real class files: 10 classes; the members and pool entries that the words name. The judged class is class 1, her method 1. -/
namespace start1
open Jvm.ClassFile
def u (s : String) : CpInfo := .utf8 (stringToUtf16 s)
/-- a pool by its gaps: so many unusable entries, then the entry; so many at the end -/
def gap : Nat → List CpInfo → List CpInfo
  | 0, r => r
  | n + 1, r => .unusable :: gap n r
def poolList (es : List (Nat × CpInfo)) (last : Nat) : List CpInfo := es.foldr (fun e r => gap e.1 (e.2 :: r)) (gap last [])
def pool (es : List (Nat × CpInfo)) (last : Nat) : Array CpInfo := ⟨poolList es last⟩
def fileOf (pool : Array CpInfo) (this : Nat) (attrs : Array Attribute := #[]) (ms : Array MethodInfo := #[]) (fl : Nat := 33) (sup : Nat := 0) (ifs : Array Nat := #[]) (fds : Array FieldInfo := #[]) : ClassFile where
  minorVersion := 0
  majorVersion := 65
  constantPool := pool
  accessFlags := fl
  thisClass := this
  superClass := sup
  interfaces := ifs
  fields := fds
  methods := ms
  attributes := attrs
def plain (name : String) (sup : Option ClassId) : Class where
  name := name
  kind := .ordinary
  loader := none
  accessFlags := 33
  super := sup
  interfaces := #[]
  cf := none
  fields := #[]
  methods := #[]
  instanceTypes := #[]
  staticTypes := #[]
  resolved := #[]
  callSites := []
  init := .initialized
  statics := none
  mirror := none

def pool0 : Array CpInfo := pool [(5, u "<init>"), (0, u "()V"), (1, .class_ 10), (1, u "java/lang/Object")] 113

def k0c0 : Code := { maxStack := 0, maxLocals := 1, code := object_method_1_code, exceptionTable := #[], attributes := #[] }
def k0m0 : Method := { name := "<init>", desc := "()V", sig := { parameters := [], returnType := none }, accessFlags := 1, code := some k0c0 }
/-- java/lang/Object -/
def k0 : Class := { plain "java/lang/Object" none with
  accessFlags := 33
  interfaces := #[]
  cf := some (fileOf pool0 8 #[] #[{ accessFlags := 1, nameIndex := 5, descriptorIndex := 6, attributes := #[] }] 33 0 #[] #[])
  fields := #[]
  methods := #[k0m0]
  instanceTypes := #[]
  staticTypes := #[]
  resolved := Array.replicate 124 none
  statics := none }

def pool1 : Array CpInfo := pool [(2, .class_ 4), (1, u "java/lang/Object"), (0, u "<init>"), (0, u "()V"), (0, .integer 2147483647), (0, .class_ 9), (0, u "com/example/libentkey/libentkey/codec/KeyReader"), (0, .methodref 8 11), (0, .nameAndType 5 12), (0, u "([B)V"), (0, .methodref 8 14), (0, .nameAndType 15 16), (0, u "hasMore"), (0, u "()Z"), (0, .methodref 18 19), (0, .class_ 20), (0, .nameAndType 21 22), (0, u "java/lang/Math"), (0, u "min"), (0, u "(II)I"), (0, .methodref 8 24), (0, .nameAndType 25 26), (0, u "nextLong"), (0, u "(I)J"), (0, .methodref 8 28), (0, .nameAndType 29 30), (0, u "position"), (0, u "()I"), (0, .class_ 32), (0, u "com/example/libentkey/libentkey/codec/KeyReaderHasMorePinLaw"), (2, u "law"), (0, u "(IIII)Z")] 5

def k1m0 : Method := { name := "<init>", desc := "()V", sig := { parameters := [], returnType := none }, accessFlags := 2, code := none }
def k1c1 : Code := { maxStack := 4, maxLocals := 11, code := code, exceptionTable := #[], attributes := #[] }
def k1m1 : Method := { name := "law", desc := "(IIII)Z", sig := { parameters := [.int, .int, .int, .int], returnType := some .boolean }, accessFlags := 9, code := some k1c1 }
/-- com/example/libentkey/libentkey/codec/KeyReaderHasMorePinLaw -/
def k1 : Class := { plain "com/example/libentkey/libentkey/codec/KeyReaderHasMorePinLaw" (some 0) with
  accessFlags := 49
  interfaces := #[]
  cf := some (fileOf pool1 31 #[] #[{ accessFlags := 2, nameIndex := 5, descriptorIndex := 6, attributes := #[] }, { accessFlags := 9, nameIndex := 35, descriptorIndex := 36, attributes := #[] }] 49 2 #[] #[])
  fields := #[]
  methods := #[k1m0, k1m1]
  instanceTypes := #[]
  staticTypes := #[]
  resolved := Array.replicate 42 none
  statics := none }

def pool2 : Array CpInfo := pool [(1, .methodref 2 3), (0, .class_ 4), (0, .nameAndType 5 6), (0, u "java/lang/Object"), (0, u "<init>"), (0, u "()V"), (0, .fieldref 8 9), (0, .class_ 10), (0, .nameAndType 11 12), (0, u "com/example/libentkey/libentkey/codec/KeyReader"), (0, u "key"), (0, u "[B"), (0, .fieldref 8 14), (0, .nameAndType 15 16), (0, u "position"), (0, u "I"), (2, u "field"), (2, u "fieldStart"), (48, u "BIG_ENDIAN_LONGS"), (0, u "Ljava/lang/invoke/VarHandle;"), (9, u "()I"), (44, u "([B)V"), (2, u "hasMore"), (0, u "()Z"), (3, u "nextLong"), (1, u "(I)J")] 27

def k2c0 : Code := { maxStack := 2, maxLocals := 2, code := prog_22_method_1_code, exceptionTable := #[], attributes := #[] }
def k2m0 : Method := { name := "<init>", desc := "([B)V", sig := { parameters := [(.array .byte)], returnType := none }, accessFlags := 0, code := some k2c0 }
def k2c1 : Code := { maxStack := 2, maxLocals := 1, code := prog_22_method_2_code, exceptionTable := #[], attributes := #[] }
def k2m1 : Method := { name := "hasMore", desc := "()Z", sig := { parameters := [], returnType := some .boolean }, accessFlags := 0, code := some k2c1 }
def k2c2 : Code := { maxStack := 1, maxLocals := 1, code := prog_22_method_3_code, exceptionTable := #[], attributes := #[] }
def k2m2 : Method := { name := "position", desc := "()I", sig := { parameters := [], returnType := some .int }, accessFlags := 0, code := some k2c2 }
def k2c3 : Code := { maxStack := 4, maxLocals := 6, code := prog_22_method_8_code, exceptionTable := #[], attributes := #[] }
def k2m3 : Method := { name := "nextLong", desc := "(I)J", sig := { parameters := [.int], returnType := some .long }, accessFlags := 0, code := some k2c3 }
/-- com/example/libentkey/libentkey/codec/KeyReader -/
def k2 : Class := { plain "com/example/libentkey/libentkey/codec/KeyReader" (some 0) with
  accessFlags := 48
  interfaces := #[]
  cf := some (fileOf pool2 8 #[] #[{ accessFlags := 0, nameIndex := 5, descriptorIndex := 127, attributes := #[] }, { accessFlags := 0, nameIndex := 130, descriptorIndex := 131, attributes := #[] }, { accessFlags := 0, nameIndex := 15, descriptorIndex := 82, attributes := #[] }, { accessFlags := 0, nameIndex := 135, descriptorIndex := 137, attributes := #[] }] 48 2 #[] #[{ accessFlags := 24, nameIndex := 71, descriptorIndex := 72, attributes := #[] }, { accessFlags := 18, nameIndex := 11, descriptorIndex := 12, attributes := #[] }, { accessFlags := 2, nameIndex := 15, descriptorIndex := 16, attributes := #[] }, { accessFlags := 2, nameIndex := 19, descriptorIndex := 16, attributes := #[] }, { accessFlags := 2, nameIndex := 22, descriptorIndex := 16, attributes := #[] }])
  fields := #[{ name := "BIG_ENDIAN_LONGS", type := (.object "java/lang/invoke/VarHandle"), accessFlags := 24, slot := 0, constantValue := 0 }, { name := "key", type := (.array .byte), accessFlags := 18, slot := 0, constantValue := 0 }, { name := "position", type := .int, accessFlags := 2, slot := 1, constantValue := 0 }, { name := "field", type := .int, accessFlags := 2, slot := 2, constantValue := 0 }, { name := "fieldStart", type := .int, accessFlags := 2, slot := 3, constantValue := 0 }]
  methods := #[k2m0, k2m1, k2m2, k2m3]
  instanceTypes := #[(.array .byte), .int, .int, .int]
  staticTypes := #[(.object "java/lang/invoke/VarHandle")]
  resolved := Array.replicate 165 none
  statics := none }

def pool3 : Array CpInfo := pool [(1, .class_ 2), (0, u "java/lang/Math"), (1, .class_ 6), (1, u "java/lang/Object"), (0, u "<init>"), (0, u "()V"), (89, .class_ 100), (1, u "java/lang/Math$RandomNumberGeneratorHolder"), (71, u "negativeZeroFloatBits"), (0, u "J"), (2, u "negativeZeroDoubleBits"), (24, u "min"), (43, u "$assertionsDisabled"), (0, u "Z"), (88, u "(II)I"), (2, u "twoToTheDoubleScaleDown"), (0, u "D"), (4, u "twoToTheDoubleScaleUp"), (9, u "E"), (3, u "PI"), (2, u "TAU"), (2, u "DEGREES_TO_RADIANS"), (0, u "RADIANS_TO_DEGREES")] 94

def k3m0 : Method := { name := "<init>", desc := "()V", sig := { parameters := [], returnType := none }, accessFlags := 2, code := none }
def k3c1 : Code := { maxStack := 2, maxLocals := 2, code := jdk_29_method_69_code, exceptionTable := #[], attributes := #[] }
def k3m1 : Method := { name := "min", desc := "(II)I", sig := { parameters := [.int, .int], returnType := some .int }, accessFlags := 9, code := some k3c1 }
/-- java/lang/Math -/
def k3 : Class := { plain "java/lang/Math" (some 0) with
  accessFlags := 49
  interfaces := #[]
  cf := some (fileOf pool3 1 #[.nestMembers #[98]] #[{ accessFlags := 2, nameIndex := 7, descriptorIndex := 8, attributes := #[] }, { accessFlags := 9, nameIndex := 201, descriptorIndex := 335, attributes := #[] }] 49 4 #[] #[{ accessFlags := 25, nameIndex := 354, descriptorIndex := 339, attributes := #[] }, { accessFlags := 25, nameIndex := 358, descriptorIndex := 339, attributes := #[] }, { accessFlags := 25, nameIndex := 361, descriptorIndex := 339, attributes := #[] }, { accessFlags := 26, nameIndex := 364, descriptorIndex := 339, attributes := #[] }, { accessFlags := 26, nameIndex := 365, descriptorIndex := 339, attributes := #[] }, { accessFlags := 26, nameIndex := 172, descriptorIndex := 173, attributes := #[] }, { accessFlags := 26, nameIndex := 176, descriptorIndex := 173, attributes := #[] }, { accessFlags := 8, nameIndex := 344, descriptorIndex := 339, attributes := #[] }, { accessFlags := 8, nameIndex := 338, descriptorIndex := 339, attributes := #[] }, { accessFlags := 4120, nameIndex := 245, descriptorIndex := 246, attributes := #[] }])
  fields := #[{ name := "E", type := .double, accessFlags := 25, slot := 0, constantValue := 0 }, { name := "PI", type := .double, accessFlags := 25, slot := 1, constantValue := 0 }, { name := "TAU", type := .double, accessFlags := 25, slot := 2, constantValue := 0 }, { name := "DEGREES_TO_RADIANS", type := .double, accessFlags := 26, slot := 3, constantValue := 0 }, { name := "RADIANS_TO_DEGREES", type := .double, accessFlags := 26, slot := 4, constantValue := 0 }, { name := "negativeZeroFloatBits", type := .long, accessFlags := 26, slot := 5, constantValue := 0 }, { name := "negativeZeroDoubleBits", type := .long, accessFlags := 26, slot := 6, constantValue := 0 }, { name := "twoToTheDoubleScaleUp", type := .double, accessFlags := 8, slot := 7, constantValue := 0 }, { name := "twoToTheDoubleScaleDown", type := .double, accessFlags := 8, slot := 8, constantValue := 0 }, { name := "$assertionsDisabled", type := .boolean, accessFlags := 4120, slot := 9, constantValue := 0 }]
  methods := #[k3m0, k3m1]
  instanceTypes := #[]
  staticTypes := #[.double, .double, .double, .double, .double, .long, .long, .double, .double, .boolean]
  resolved := Array.replicate 460 none
  statics := none }

def pool4 : Array CpInfo := pool [(1, u "java/lang/Cloneable"), (0, .class_ 1), (0, u "java/lang/Object"), (0, .class_ 3)] 3

/-- java/lang/Cloneable -/
def k4 : Class := { plain "java/lang/Cloneable" (some 0) with
  accessFlags := 1537
  interfaces := #[]
  cf := some (fileOf pool4 2 #[] #[] 1537 4 #[] #[])
  fields := #[]
  methods := #[]
  instanceTypes := #[]
  staticTypes := #[]
  resolved := Array.replicate 8 none
  statics := none }

def pool5 : Array CpInfo := pool [(1, u "java/io/Serializable"), (0, .class_ 1), (0, u "java/lang/Object"), (0, .class_ 3)] 3

/-- java/io/Serializable -/
def k5 : Class := { plain "java/io/Serializable" (some 0) with
  accessFlags := 1537
  interfaces := #[]
  cf := some (fileOf pool5 2 #[] #[] 1537 4 #[] #[])
  fields := #[]
  methods := #[]
  instanceTypes := #[]
  staticTypes := #[]
  resolved := Array.replicate 8 none
  statics := none }

/-- the primitive byte -/
def k6 : Class := { plain "byte" none with kind := .primitive 'B', accessFlags := 0x411 }
/-- [B -/
def k7 : Class := { plain "[B" (some 0) with kind := .array 6 .byte, interfaces := #[4, 5], accessFlags := 1041 }

/-- the primitive int -/
def k8 : Class := { plain "int" none with kind := .primitive 'I', accessFlags := 0x411 }
/-- [I -/
def k9 : Class := { plain "[I" (some 0) with kind := .array 8 .int, interfaces := #[4, 5], accessFlags := 1041 }

def heap : Heap := #[]
def classes : Array Class := #[k0, k1, k2, k3, k4, k5, k6, k7, k8, k9]
def interned : List (Array UInt16 × Addr) := []
def slotsUsed : Nat := 0
def theMethod : MethodId := ⟨1, 1⟩
def args0 : Array Value := #[.int 5, .int 5, .int 5, .int 5]
def aboutOver (below : List Frame) : State where
  vm := { classes := classes, interned := interned.toArray }
  heap := heap
  slotsUsed := slotsUsed
  threads := #[{ frames := .invoking theMethod args0 :: below }]
def below0 : List Frame := [.native { method := ⟨0, 0⟩, args := #[] }]
def about1 : State := aboutOver below0
def p0 : Program := .bare "" "" ""
def e0 : Env := launch0.env 0 0 0
theorem w_frames : about1.frames = Frame.invoking theMethod args0 :: below0 := rfl
set_option maxRecDepth 65536 in
theorem w_args : argsFit about1.vm theMethod args0 = true := by decide +kernel
set_option maxRecDepth 65536 in
theorem w_heap : heapFits about1 = true := by decide +kernel
set_option maxRecDepth 65536 in
theorem w_runnable : about1.curStatus? = some .runnable := by decide +kernel
set_option maxRecDepth 65536 in
theorem w_alone : about1.alone = true := by decide +kernel
set_option maxRecDepth 65536 in
theorem w_named : about1.methodNamed? x = some theMethod := by decide +kernel
set_option maxRecDepth 65536 in
theorem w_hears : about1.hears theMethod below0 = true := by decide +kernel
set_option maxRecDepth 65536 in
theorem w_ripe : about1.ripe theMethod args0 below0 = true := by decide +kernel
theorem w_running : about1.status = .running := rfl
set_option maxRecDepth 65536 in
theorem w_room : about1.hasRoom e0.platform room_1 = true :=
  launch0.hasRoom_least _ room_1 (by decide +kernel) (by decide +kernel) (by decide +kernel) (by decide +kernel) (by decide +kernel) (by decide +kernel)
theorem allAtoms_all (ts : List Jvm.Cond) (a : Array Jvm.Value) (st : Jvm.State) : (allAtoms ts).before a st = ts.all (fun c => c.before a st) := by
  induction ts with
  | nil => rfl
  | cons c t ih =>
    show (Jvm.Cond.and c (allAtoms t)).before a st = _
    rw [Jvm.Cond.before_and, ih, List.all_cons]
def words1 : List Jvm.Cond := Jvm.Cond.code x code maxLocals ret :: tables_1
/-- a 'code' word, met by the world's own term for the bytes: nothing is compared byte by byte -/
theorem code_word {y : MethodName} {bytes : ByteArray} {mx : Nat} {rt : Option FieldType} {a : Array Value} {s : State} {m : MethodId} {meth : Method} {c : Code} (h1 : s.methodNamed? y = some m) (h2 : s.vm.method? m = some meth) (h3 : meth.code = some c) (h4 : c.code = bytes)
    (h5 : (c.maxLocals == mx && c.exceptionTable.isEmpty && decide (c.maxStack ≤ mostOperands) && decide (meth.sig.returnType = rt) && !meth.locks && decide (parseMethodDescriptor y.desc = some meth.sig)) = true) : (Jvm.Cond.code y bytes mx rt).before a s = true := by
  simp only [Bool.and_eq_true, beq_iff_eq, Bool.not_eq_true', decide_eq_true_eq] at h5
  obtain ⟨⟨⟨⟨⟨g1, g2⟩, g3⟩, g4⟩, g5⟩, g6⟩ := h5
  simp [Cond.before, Cond.holds, Cond.value, h1, h2, h3, h4, g1, g2, g3, g4, g5, g6]
def isCode : Jvm.Cond → Bool
  | .code _ _ _ _ => true
  | _ => false
theorem all_split {L : List Jvm.Cond} {P : Jvm.Cond → Bool} (h1 : L.all (fun c => isCode c || P c) = true) (h2 : ∀ c ∈ L.filter isCode, P c = true) : L.all P = true := by
  refine List.all_eq_true.mpr fun c hc => ?_
  have h := List.all_eq_true.mp h1 c hc
  rcases Bool.eq_false_or_eq_true (isCode c) with hi | hi
  · exact h2 c (List.mem_filter.mpr ⟨hc, hi⟩)
  · simpa [hi] using h
set_option maxRecDepth 65536 in
theorem w_c0 : (Jvm.Cond.code x code maxLocals ret).before args0 about1 = true := code_word (m := ⟨1, 1⟩) (meth := k1m1) (c := k1c1) (by decide +kernel) rfl rfl rfl (by decide +kernel)
set_option maxRecDepth 65536 in
theorem w_c1 : (Jvm.Cond.code ({ cls := "com/example/libentkey/libentkey/codec/KeyReader", name := "<init>", desc := "([B)V" } : Jvm.MethodName) prog_22_method_1_code (2 : Nat) (Option.none : Option Jvm.ClassFile.FieldType)).before args0 about1 = true := code_word (m := ⟨2, 0⟩) (meth := k2m0) (c := k2c0) (by decide +kernel) rfl rfl rfl (by decide +kernel)
set_option maxRecDepth 65536 in
theorem w_c2 : (Jvm.Cond.code ({ cls := "java/lang/Object", name := "<init>", desc := "()V" } : Jvm.MethodName) object_method_1_code (1 : Nat) (Option.none : Option Jvm.ClassFile.FieldType)).before args0 about1 = true := code_word (m := ⟨0, 0⟩) (meth := k0m0) (c := k0c0) (by decide +kernel) rfl rfl rfl (by decide +kernel)
set_option maxRecDepth 65536 in
theorem w_c3 : (Jvm.Cond.code ({ cls := "com/example/libentkey/libentkey/codec/KeyReader", name := "hasMore", desc := "()Z" } : Jvm.MethodName) prog_22_method_2_code (1 : Nat) (Option.some Jvm.ClassFile.FieldType.boolean)).before args0 about1 = true := code_word (m := ⟨2, 1⟩) (meth := k2m1) (c := k2c1) (by decide +kernel) rfl rfl rfl (by decide +kernel)
set_option maxRecDepth 65536 in
theorem w_c4 : (Jvm.Cond.code ({ cls := "java/lang/Math", name := "min", desc := "(II)I" } : Jvm.MethodName) jdk_29_method_69_code (2 : Nat) (Option.some Jvm.ClassFile.FieldType.int)).before args0 about1 = true := code_word (m := ⟨3, 1⟩) (meth := k3m1) (c := k3c1) (by decide +kernel) rfl rfl rfl (by decide +kernel)
set_option maxRecDepth 65536 in
theorem w_c5 : (Jvm.Cond.code ({ cls := "com/example/libentkey/libentkey/codec/KeyReader", name := "nextLong", desc := "(I)J" } : Jvm.MethodName) prog_22_method_8_code (6 : Nat) (Option.some Jvm.ClassFile.FieldType.long)).before args0 about1 = true := code_word (m := ⟨2, 3⟩) (meth := k2m3) (c := k2c3) (by decide +kernel) rfl rfl rfl (by decide +kernel)
set_option maxRecDepth 65536 in
theorem w_c6 : (Jvm.Cond.code ({ cls := "com/example/libentkey/libentkey/codec/KeyReader", name := "position", desc := "()I" } : Jvm.MethodName) prog_22_method_3_code (1 : Nat) (Option.some Jvm.ClassFile.FieldType.int)).before args0 about1 = true := code_word (m := ⟨2, 2⟩) (meth := k2m2) (c := k2c2) (by decide +kernel) rfl rfl rfl (by decide +kernel)
def codes1 : List Jvm.Cond := [Jvm.Cond.code x code maxLocals ret, Jvm.Cond.code ({ cls := "com/example/libentkey/libentkey/codec/KeyReader", name := "<init>", desc := "([B)V" } : Jvm.MethodName) prog_22_method_1_code (2 : Nat) (Option.none : Option Jvm.ClassFile.FieldType), Jvm.Cond.code ({ cls := "java/lang/Object", name := "<init>", desc := "()V" } : Jvm.MethodName) object_method_1_code (1 : Nat) (Option.none : Option Jvm.ClassFile.FieldType), Jvm.Cond.code ({ cls := "com/example/libentkey/libentkey/codec/KeyReader", name := "hasMore", desc := "()Z" } : Jvm.MethodName) prog_22_method_2_code (1 : Nat) (Option.some Jvm.ClassFile.FieldType.boolean), Jvm.Cond.code ({ cls := "java/lang/Math", name := "min", desc := "(II)I" } : Jvm.MethodName) jdk_29_method_69_code (2 : Nat) (Option.some Jvm.ClassFile.FieldType.int), Jvm.Cond.code ({ cls := "com/example/libentkey/libentkey/codec/KeyReader", name := "nextLong", desc := "(I)J" } : Jvm.MethodName) prog_22_method_8_code (6 : Nat) (Option.some Jvm.ClassFile.FieldType.long), Jvm.Cond.code ({ cls := "com/example/libentkey/libentkey/codec/KeyReader", name := "position", desc := "()I" } : Jvm.MethodName) prog_22_method_3_code (1 : Nat) (Option.some Jvm.ClassFile.FieldType.int)]
set_option maxRecDepth 65536 in
theorem codes_eq : words1.filter isCode = codes1 := rfl
theorem w_codes : ∀ c ∈ words1.filter isCode, c.before args0 about1 = true := by
  rw [codes_eq]
  intro c hc
  simp only [codes1, List.mem_cons, List.not_mem_nil, or_false] at hc
  rcases hc with rfl | rfl | rfl | rfl | rfl | rfl | rfl
  · exact w_c0
  · exact w_c1
  · exact w_c2
  · exact w_c3
  · exact w_c4
  · exact w_c5
  · exact w_c6
set_option maxRecDepth 65536 in
theorem w_t1 : (words1.take 24).all (fun c => isCode c || c.before args0 about1) = true := by decide +kernel
set_option maxRecDepth 65536 in
theorem w_t2 : (words1.drop 24).all (fun c => isCode c || c.before args0 about1) = true := by decide +kernel
theorem w_tables : (allAtoms (Jvm.Cond.code x code maxLocals ret :: tables_1)).before args0 about1 = true := by
  rw [allAtoms_all]
  show words1.all (fun c => c.before args0 about1) = true
  refine all_split ?_ w_codes
  rw [← List.take_append_drop 24 words1, List.all_append, w_t1, w_t2]
  rfl
set_option maxRecDepth 65536 in
theorem w_case : (Jvm.Cond.and given_1 narrow_1).before args0 about1 = true := by decide +kernel
theorem w_applies : (headSpec (Jvm.Cond.code x code maxLocals ret :: tables_1) room_1).applies x e0.platform about1 = true :=
  (Spec.applies_iff w_frames).mpr ⟨w_running, w_runnable, w_alone, w_named, w_hears, w_ripe, w_room, w_tables⟩
theorem atStart : AtStart classFile x code maxLocals ret World_1 tables_1 room_1 Calls_1 rest_1 Pre_1 launch0 p0 e0 about1 theMethod args0 below0 :=
  ⟨lists_1, trivial, launch0.admits_env _ _ _, launch0.least_env, fairChoices_fair.cas, fairChoices_fair.clock, w_frames, w_args, w_heap, w_applies, trivial, trivial, w_case⟩
end start1
theorem witness_1 : WitnessClaimed_1 := ⟨start1.p0, start1.e0, start1.about1, start1.theMethod, start1.args0, start1.below0, start1.atStart⟩
end Jvm.Pilot.@@N@@
