import JvmDerived
import JvmDerived.Pilot.@@N@@Statement
import JvmDerived.Pilot.@@N@@Code
set_option linter.unusedVariables false
set_option linter.unusedSimpArgs false
namespace Jvm.Pilot.@@N@@
open Jvm Jvm.ClassFile Sem Op Lib Jvm.Free Jvm.Stand Jvm.LawKit Jvm.RoadKit Bundle Jvm.Pilot.@@N@@.Jvm.D
set_option maxRecDepth 65536
/-! the run still has to be led to its end from A: the goal of a walk, taken step by step -/
def own_Go (p : Program) (e : Env) (below : List Frame) (s : State) (Q : Option Value → Heap → List Loc → Prop) (C S : Nat) (A : State) : Prop :=
  ∃ s₂ o, Steps p.tables e below A s₂ ∧ s₂.status = .running ∧ Ended s₂ below o ∧ ∃ v L, o = .returned v ∧ Q v s₂.heap L ∧ FrameEnd s o s₂ L C S
section OwnA
variable {p : Program} {l : Launch} {e : Env} {R : Room} {s : State} {m : MethodId} {args : Array Value} {below : List Frame} {meth : Method} {c : Code} {T : State} {locs : List Loc} {cells slots : Nat} {Q : Option Value → Heap → List Loc → Prop} {C S : Nat}
theorem own_st {A B : State} (h : ∀ t, Steps p.tables e below B t → Steps p.tables e below A t) (g : own_Go p e below s Q C S B) : own_Go p e below s Q C S A := by
  obtain ⟨s₂, o, h1, r⟩ := g
  exact ⟨s₂, o, h _ h1, r⟩
theorem own_ss {A B : State} (h : Steps p.tables e below A B) (g : own_Go p e below s Q C S B) : own_Go p e below s Q C S A := own_st (fun _ k => h.trans k) g
theorem own_cut {P G : Prop} (a : P → G) (b : P) : G := a b
theorem own_leave (X : Stand p l e R s m args below meth c T locs cells slots) {v : Option Value} (hv : meth.sig.returnType = none → v = none) (hlk : meth.locks = false) (hQ : Q v T.heap locs) (hc : cells ≤ C) (hs : slots ≤ S) {A : State}
    (hr : ∀ fs, (∀ (f : JFrame) (acts : List Action), f.method = m → f.locked = none → f.entered = [] → (doReturn e (T.setTop f) acts v).1 = T.setFrames fs) → Steps p.tables e below A (T.setFrames fs)) : own_Go p e below s Q C S A := by
  obtain ⟨fs, hr', hrun, hended, hW, hsame⟩ := X.leave (v := v) hv hlk
  exact ⟨_, _, hr fs hr', hrun, hended, _, _, rfl, hQ, ⟨_, rfl⟩, hW, hsame.mono hc hs⟩
theorem own_retV (X : Stand p l e R s m args below meth c T locs cells slots) (hx : p.tables.exec = Jvm.exec) (hlk : meth.locks = false) (hret : meth.sig.returnType = none) {pc : Nat} {Ls : Array Slot} (hd : decode c.code pc = .ok (.return_, 1)) (hc : cells ≤ C) (hs : slots ≤ S) (hQ : Q none T.heap locs) :
    own_Go p e below s Q C S (T.setTop (mkF m pc Ls [])) := own_leave X (fun _ => rfl) hlk hQ hc hs fun _ hr => X.returnOut hx hret hd hr
theorem own_retI (X : Stand p l e R s m args below meth c T locs cells slots) (hx : p.tables.exec = Jvm.exec) (hlk : meth.locks = false) (hret : meth.sig.returnType = some .int) {pc : Nat} {Ls : Array Slot} {z : Int32} {rest : List Value} (hd : decode c.code pc = .ok (.ireturn, 1)) (hc : cells ≤ C) (hs : slots ≤ S) (hQ : Q (some (.int z)) T.heap locs) :
    own_Go p e below s Q C S (T.setTop (mkF m pc Ls (.int z :: rest))) := own_leave X (fun h => by rw [hret] at h; cases h) hlk hQ hc hs fun _ hr => retOut X hx hret rfl (Or.inl ⟨rfl, Or.inl rfl, _, rfl⟩) hd hr
theorem own_retJ (X : Stand p l e R s m args below meth c T locs cells slots) (hx : p.tables.exec = Jvm.exec) (hlk : meth.locks = false) (hret : meth.sig.returnType = some .long) {pc : Nat} {Ls : Array Slot} {z : Int64} {rest : List Value} (hd : decode c.code pc = .ok (.lreturn, 1)) (hc : cells ≤ C) (hs : slots ≤ S) (hQ : Q (some (.long z)) T.heap locs) :
    own_Go p e below s Q C S (T.setTop (mkF m pc Ls (.long z :: rest))) := own_leave X (fun h => by rw [hret] at h; cases h) hlk hQ hc hs fun _ hr => retOut X hx hret rfl (Or.inr (Or.inl ⟨rfl, rfl, _, rfl⟩)) hd hr
theorem own_retR (X : Stand p l e R s m args below meth c T locs cells slots) (hx : p.tables.exec = Jvm.exec) (hlk : meth.locks = false) {t : FieldType} (hret : meth.sig.returnType = some t) (ht : t.isReference = true) {pc : Nat} {Ls : Array Slot} {w : Value} {rest : List Value} (hn : narrow t w = w) (hw : w.isRef = true) (hd : decode c.code pc = .ok (.areturn, 1)) (hc : cells ≤ C) (hs : slots ≤ S) (hQ : Q (some w) T.heap locs) :
    own_Go p e below s Q C S (T.setTop (mkF m pc Ls (w :: rest))) := own_leave X (fun h => by rw [hret] at h; cases h) hlk hQ hc hs fun _ hr => retOut X hx hret hn (Or.inr (Or.inr (Or.inr (Or.inr ⟨rfl, ht, hw⟩)))) hd hr
theorem own_retN (X : Stand p l e R s m args below meth c T locs cells slots) (hx : p.tables.exec = Jvm.exec) (hlk : meth.locks = false) {t : FieldType} (hret : meth.sig.returnType = some t) (ht : t = .boolean ∨ t = .byte ∨ t = .char ∨ t = .short) {pc : Nat} {Ls : Array Slot} {z z' : Int32} {rest : List Value} (hz : nar t z = z') (hd : decode c.code pc = .ok (.ireturn, 1)) (hc : cells ≤ C) (hs : slots ≤ S) (hQ : Q (some (.int z')) T.heap locs) :
    own_Go p e below s Q C S (T.setTop (mkF m pc Ls (.int z :: rest))) := by
  subst hz
  exact own_leave X (fun h => by rw [hret] at h; cases h) hlk hQ hc hs fun _ hr => retN X hx hret ht hd hr
/-! arrays by the whole list of what they hold -/
variable {Z : State} {h h' : Heap} {a b : Addr} {ty : FieldType} {vs : List Value}
def own_A (Z : State) (h : Heap) (a : Addr) (ty : FieldType) (vs : List Value) : Prop := ∃ c : Cell, Arr Z h a c ty ∧ c.slots.toList = vs
theorem own_A.lt (F : own_A Z h a ty vs) : a < h.size := by obtain ⟨c, A, -⟩ := F; exact A.lt
theorem own_A.ext (F : own_A Z h a ty vs) (E : Ext h h') : own_A Z h' a ty vs := by obtain ⟨c, A, q⟩ := F; exact ⟨c, A.ext E, q⟩
theorem own_A.other {sl : Nat} {v : Value} (F : own_A Z h a ty vs) (W : Wr h h' b sl v) (q : a ≠ b) : own_A Z h' a ty vs := by obtain ⟨c, A, r⟩ := F; exact ⟨c, A.other W q, r⟩
theorem own_A.keep {ws : List Addr} (F : own_A Z h a ty vs) (K : Keep h h' ws) (q : a ∉ ws) : own_A Z h' a ty vs := by obtain ⟨c, A, r⟩ := F; exact ⟨c, ⟨K.2.1 a c A.1 q, A.2⟩, r⟩
theorem own_A.set {i : Nat} {v : Value} (F : own_A Z h a ty vs) (W : Wr h h' a i v) : own_A Z h' a ty (vs.set i v) := by
  obtain ⟨c, A, rfl⟩ := F
  exact ⟨_, A.same W, by simp [Cell.setSlot]⟩
theorem own_ix {j : Int32} {i : Nat} (hj : j.toInt = (i : Int)) : ¬ j < 0 ∧ j.toNatClampNeg = i := by
  refine ⟨?_, ?_⟩
  · rw [Int32.lt_iff_toInt_lt, hj]
    show ¬ ((i : Int) < 0)
    omega
  · have h1 : j.toNatClampNeg = j.toInt.toNat := rfl
    rw [h1, hj]; rfl
theorem own_in {cl : Cell} {j : Int32} {i : Nat} {v : Value} (hj : j.toInt = (i : Int)) (hv : cl.slots.toList[i]? = some v) : ¬ (j < 0 ∨ cl.slots.size ≤ j.toNatClampNeg) ∧ cl.slots[j.toNatClampNeg]? = some v := by
  obtain ⟨n0, n1⟩ := own_ix hj
  rw [n1]
  rw [Array.getElem?_toList] at hv
  refine ⟨?_, hv⟩
  have h2 := (Array.getElem?_eq_some_iff.mp hv).1
  rintro (q | q)
  · exact n0 q
  · omega
theorem own_ldI (X : Stand p l e R s m args below meth c T locs cells slots) (hx : p.tables.exec = Jvm.exec) (hZ : Z.Warmed39 s.vm) (eT : T.heap = h) (A : own_A Z h a .int vs) {j : Int32} {i : Nat} {v : Value} (hj : j.toInt = (i : Int)) (hv : vs[i]? = some v) {g : JFrame} (hg : g.method = m) {rest : List Value} (hs : g.stack = .int j :: .ref a :: rest) (hd : decode c.code g.pc = .ok (.iaload, 1)) {t : State}
    (k : Steps p.tables e below (T.setTop { g with pc := g.pc + 1, stack := v :: rest }) t) : Steps p.tables e below (T.setTop g) t := by
  obtain ⟨cl, A, rfl⟩ := A
  exact X.iaload hx (by rw [eT]; exact A.1) (State.isArrayOf_alike hZ.alike A.2.1) A.2.2 (own_in hj hv).1 (own_in hj hv).2 hg hs hd _ k
theorem own_ldJ (X : Stand p l e R s m args below meth c T locs cells slots) (hx : p.tables.exec = Jvm.exec) (hZ : Z.Warmed39 s.vm) (eT : T.heap = h) (A : own_A Z h a .long vs) {j : Int32} {i : Nat} {v : Value} (hj : j.toInt = (i : Int)) (hv : vs[i]? = some v) {g : JFrame} (hg : g.method = m) {rest : List Value} (hs : g.stack = .int j :: .ref a :: rest) (hd : decode c.code g.pc = .ok (.laload, 1)) {t : State}
    (k : Steps p.tables e below (T.setTop { g with pc := g.pc + 1, stack := v :: rest }) t) : Steps p.tables e below (T.setTop g) t := by
  obtain ⟨cl, A, rfl⟩ := A
  exact X.laload hx (by rw [eT]; exact A.1) (State.isArrayOf_alike hZ.alike A.2.1) A.2.2 (own_in hj hv).1 (own_in hj hv).2 hg hs hd _ k
theorem own_ldB (X : Stand p l e R s m args below meth c T locs cells slots) (hx : p.tables.exec = Jvm.exec) (hZ : Z.Warmed39 s.vm) (eT : T.heap = h) (A : own_A Z h a .byte vs) {j : Int32} {i : Nat} {v : Value} (hj : j.toInt = (i : Int)) (hv : vs[i]? = some v) {g : JFrame} (hg : g.method = m) {rest : List Value} (hs : g.stack = .int j :: .ref a :: rest) (hd : decode c.code g.pc = .ok (.baload, 1)) {t : State}
    (k : Steps p.tables e below (T.setTop { g with pc := g.pc + 1, stack := v :: rest }) t) : Steps p.tables e below (T.setTop g) t := by
  obtain ⟨cl, A, rfl⟩ := A
  exact X.baloadBytes hx (by rw [eT]; exact A.1) (State.isArrayOf_alike hZ.alike A.2.1) A.2.2 (own_in hj hv).1 (own_in hj hv).2 hg hs hd _ k
theorem own_ldZ (X : Stand p l e R s m args below meth c T locs cells slots) (hx : p.tables.exec = Jvm.exec) (hZ : Z.Warmed39 s.vm) (eT : T.heap = h) (A : own_A Z h a .boolean vs) {j : Int32} {i : Nat} {v : Value} (hj : j.toInt = (i : Int)) (hv : vs[i]? = some v) {g : JFrame} (hg : g.method = m) {rest : List Value} (hs : g.stack = .int j :: .ref a :: rest) (hd : decode c.code g.pc = .ok (.baload, 1)) {t : State}
    (k : Steps p.tables e below (T.setTop { g with pc := g.pc + 1, stack := v :: rest }) t) : Steps p.tables e below (T.setTop g) t := by
  obtain ⟨cl, A, rfl⟩ := A
  exact X.baloadBooleans hx (by rw [eT]; exact A.1) (State.isArrayOf_alike hZ.alike A.2.1) A.2.2 (own_in hj hv).1 (own_in hj hv).2 hg hs hd _ k
theorem own_ldS (X : Stand p l e R s m args below meth c T locs cells slots) (hx : p.tables.exec = Jvm.exec) (hZ : Z.Warmed39 s.vm) (eT : T.heap = h) (A : own_A Z h a .short vs) {j : Int32} {i : Nat} {v : Value} (hj : j.toInt = (i : Int)) (hv : vs[i]? = some v) {g : JFrame} (hg : g.method = m) {rest : List Value} (hs : g.stack = .int j :: .ref a :: rest) (hd : decode c.code g.pc = .ok (.saload, 1)) {t : State}
    (k : Steps p.tables e below (T.setTop { g with pc := g.pc + 1, stack := v :: rest }) t) : Steps p.tables e below (T.setTop g) t := by
  obtain ⟨cl, A, rfl⟩ := A
  exact X.saload hx (by rw [eT]; exact A.1) (State.isArrayOf_alike hZ.alike A.2.1) A.2.2 (own_in hj hv).1 (own_in hj hv).2 hg hs hd _ k
theorem own_ldC (X : Stand p l e R s m args below meth c T locs cells slots) (hx : p.tables.exec = Jvm.exec) (hZ : Z.Warmed39 s.vm) (eT : T.heap = h) (A : own_A Z h a .char vs) {j : Int32} {i : Nat} {v : Value} (hj : j.toInt = (i : Int)) (hv : vs[i]? = some v) {g : JFrame} (hg : g.method = m) {rest : List Value} (hs : g.stack = .int j :: .ref a :: rest) (hd : decode c.code g.pc = .ok (.caload, 1)) {t : State}
    (k : Steps p.tables e below (T.setTop { g with pc := g.pc + 1, stack := v :: rest }) t) : Steps p.tables e below (T.setTop g) t := by
  obtain ⟨cl, A, rfl⟩ := A
  exact X.caload hx (by rw [eT]; exact A.1) (State.isArrayOf_alike hZ.alike A.2.1) A.2.2 (own_in hj hv).1 (own_in hj hv).2 hg hs hd _ k
theorem own_ldR (X : Stand p l e R s m args below meth c T locs cells slots) (hx : p.tables.exec = Jvm.exec) (hZ : Z.Warmed39 s.vm) (eT : T.heap = h) (A : own_A Z h a ty vs) (hty : ty.isReference = true) {j : Int32} {i : Nat} {v : Value} (hj : j.toInt = (i : Int)) (hv : vs[i]? = some v) {g : JFrame} (hg : g.method = m) {rest : List Value} (hs : g.stack = .int j :: .ref a :: rest) (hd : decode c.code g.pc = .ok (.aaload, 1)) {t : State}
    (k : Steps p.tables e below (T.setTop { g with pc := g.pc + 1, stack := v :: rest }) t) : Steps p.tables e below (T.setTop g) t := by
  obtain ⟨cl, A, rfl⟩ := A
  exact X.aaload hx (by rw [eT]; exact A.1) (State.isArrayOf_alike hZ.alike A.2.1) hty A.2.2 (own_in hj hv).1 (own_in hj hv).2 hg hs hd _ k
theorem own_stI (X : Stand p l e R s m args below meth c T locs cells slots) (hx : p.tables.exec = Jvm.exec) (hZ : Z.Warmed39 s.vm) (eT : T.heap = h) (A : own_A Z h a .int vs) {j x : Int32} {i : Nat} (hj : j.toInt = (i : Int)) (hi : i < vs.length) {g : JFrame} (hg : g.method = m) {rest : List Value} (hs : g.stack = .int x :: .int j :: .ref a :: rest) (hd : decode c.code g.pc = .ok (.iastore, 1)) :
    ∃ T' h', Stand p l e R s m args below meth c T' (locs ++ [⟨a, i⟩]) cells slots ∧ T'.heap = h' ∧ Wr h h' a i (.int x) ∧ own_A Z h' a .int (vs.set i (.int x)) ∧ ∀ target, Steps p.tables e below (T'.setTop { g with pc := g.pc + 1, stack := rest }) target → Steps p.tables e below (T.setTop g) target := by
  obtain ⟨cl, A, rfl⟩ := A
  have hin := (own_in (cl := cl) (v := cl.slots.toList[i]) hj (List.getElem?_eq_getElem hi)).1
  obtain ⟨T', h', X', e', W', st⟩ := stI X hx hZ eT A (j := j) (x := x) hin hg hs hd
  rw [(own_ix hj).2] at X' W'
  exact ⟨T', h', X', e', W', own_A.set ⟨cl, A, rfl⟩ W', st⟩
theorem own_stJ (X : Stand p l e R s m args below meth c T locs cells slots) (hx : p.tables.exec = Jvm.exec) (hZ : Z.Warmed39 s.vm) (eT : T.heap = h) (A : own_A Z h a .long vs) {j : Int32} {x : Int64} {i : Nat} (hj : j.toInt = (i : Int)) (hi : i < vs.length) {g : JFrame} (hg : g.method = m) {rest : List Value} (hs : g.stack = .long x :: .int j :: .ref a :: rest) (hd : decode c.code g.pc = .ok (.lastore, 1)) :
    ∃ T' h', Stand p l e R s m args below meth c T' (locs ++ [⟨a, i⟩]) cells slots ∧ T'.heap = h' ∧ Wr h h' a i (.long x) ∧ own_A Z h' a .long (vs.set i (.long x)) ∧ ∀ target, Steps p.tables e below (T'.setTop { g with pc := g.pc + 1, stack := rest }) target → Steps p.tables e below (T.setTop g) target := by
  obtain ⟨cl, A, rfl⟩ := A
  have hin := (own_in (cl := cl) (v := cl.slots.toList[i]) hj (List.getElem?_eq_getElem hi)).1
  obtain ⟨T', h', X', e', W', st⟩ := stJ X hx hZ eT A (j := j) (x := x) hin hg hs hd
  rw [(own_ix hj).2] at X' W'
  exact ⟨T', h', X', e', W', own_A.set ⟨cl, A, rfl⟩ W', st⟩
theorem own_stB (X : Stand p l e R s m args below meth c T locs cells slots) (hx : p.tables.exec = Jvm.exec) (hZ : Z.Warmed39 s.vm) (eT : T.heap = h) (A : own_A Z h a .byte vs) {j x : Int32} {i : Nat} (hj : j.toInt = (i : Int)) (hi : i < vs.length) {g : JFrame} (hg : g.method = m) {rest : List Value} (hs : g.stack = .int x :: .int j :: .ref a :: rest) (hd : decode c.code g.pc = .ok (.bastore, 1)) :
    ∃ T' h', Stand p l e R s m args below meth c T' (locs ++ [⟨a, i⟩]) cells slots ∧ T'.heap = h' ∧ Wr h h' a i (.int x.toInt8.toInt32) ∧ own_A Z h' a .byte (vs.set i (.int x.toInt8.toInt32)) ∧ ∀ target, Steps p.tables e below (T'.setTop { g with pc := g.pc + 1, stack := rest }) target → Steps p.tables e below (T.setTop g) target := by
  obtain ⟨cl, A, rfl⟩ := A
  have hin := (own_in (cl := cl) (v := cl.slots.toList[i]) hj (List.getElem?_eq_getElem hi)).1
  obtain ⟨T', h', X', e', W', st⟩ := stB X hx hZ eT A (j := j) (x := x) hin hg hs hd
  rw [(own_ix hj).2] at X' W'
  exact ⟨T', h', X', e', W', own_A.set ⟨cl, A, rfl⟩ W', st⟩
theorem own_stS (X : Stand p l e R s m args below meth c T locs cells slots) (hx : p.tables.exec = Jvm.exec) (hZ : Z.Warmed39 s.vm) (eT : T.heap = h) (A : own_A Z h a .short vs) {j x : Int32} {i : Nat} (hj : j.toInt = (i : Int)) (hi : i < vs.length) {g : JFrame} (hg : g.method = m) {rest : List Value} (hs : g.stack = .int x :: .int j :: .ref a :: rest) (hd : decode c.code g.pc = .ok (.sastore, 1)) :
    ∃ T' h', Stand p l e R s m args below meth c T' (locs ++ [⟨a, i⟩]) cells slots ∧ T'.heap = h' ∧ Wr h h' a i (.int x.toInt16.toInt32) ∧ own_A Z h' a .short (vs.set i (.int x.toInt16.toInt32)) ∧ ∀ target, Steps p.tables e below (T'.setTop { g with pc := g.pc + 1, stack := rest }) target → Steps p.tables e below (T.setTop g) target := by
  obtain ⟨cl, A, rfl⟩ := A
  have hin := (own_in (cl := cl) (v := cl.slots.toList[i]) hj (List.getElem?_eq_getElem hi)).1
  obtain ⟨T', h', X', e', W', st⟩ := stS X hx hZ eT A (j := j) (x := x) hin hg hs hd
  rw [(own_ix hj).2] at X' W'
  exact ⟨T', h', X', e', W', own_A.set ⟨cl, A, rfl⟩ W', st⟩
theorem own_stC (X : Stand p l e R s m args below meth c T locs cells slots) (hx : p.tables.exec = Jvm.exec) (hZ : Z.Warmed39 s.vm) (eT : T.heap = h) (A : own_A Z h a .char vs) {j x : Int32} {i : Nat} (hj : j.toInt = (i : Int)) (hi : i < vs.length) {g : JFrame} (hg : g.method = m) {rest : List Value} (hs : g.stack = .int x :: .int j :: .ref a :: rest) (hd : decode c.code g.pc = .ok (.castore, 1)) :
    ∃ T' h', Stand p l e R s m args below meth c T' (locs ++ [⟨a, i⟩]) cells slots ∧ T'.heap = h' ∧ Wr h h' a i (.int x.toUInt32.toUInt16.toUInt32.toInt32) ∧ own_A Z h' a .char (vs.set i (.int x.toUInt32.toUInt16.toUInt32.toInt32)) ∧ ∀ target, Steps p.tables e below (T'.setTop { g with pc := g.pc + 1, stack := rest }) target → Steps p.tables e below (T.setTop g) target := by
  obtain ⟨cl, A, rfl⟩ := A
  have hin := (own_in (cl := cl) (v := cl.slots.toList[i]) hj (List.getElem?_eq_getElem hi)).1
  obtain ⟨T', h', X', e', W', st⟩ := stC X hx hZ eT A (j := j) (x := x) hin hg hs hd
  rw [(own_ix hj).2] at X' W'
  exact ⟨T', h', X', e', W', own_A.set ⟨cl, A, rfl⟩ W', st⟩
theorem own_newP {a0 : Array Value} (X : Stand p l e R s m args below meth c T locs cells slots) (hx : p.tables.exec = Jvm.exec) (hZ : Z.Warmed39 s.vm) {aty : ArrayType} (w : (Cond.arrayClass (newarray.typeOf aty)).before a0 Z = true) (eT : T.heap = h) {g : JFrame} (hg : g.method = m) (hd : decode c.code g.pc = .ok (.newarray aty, 2)) {n : Int32} {rest : List Value} (hs : g.stack = .int n :: rest)
    {k cap : Nat} (hk : n.toInt = (k : Int)) (hcap : k ≤ cap) (hb : cap * 8 ≤ 536870912) (hc : cells + 1 ≤ R.cells) (hl : slots + cap ≤ R.slots) {ad : String} (had : "[" ++ (newarray.typeOf aty).toString = ad) :
    ∃ T' h', Stand p l e R s m args below meth c T' locs (cells + 1) (slots + cap) ∧ T'.heap = h' ∧ Ext h h' ∧ own_A Z h' h.size (newarray.typeOf aty) (List.replicate k (defaultValue (newarray.typeOf aty))) ∧ Exa Z h' h.size ad ∧
      ∀ target, Steps p.tables e below (T'.setTop { g with pc := g.pc + 2, stack := .ref h.size :: rest }) target → Steps p.tables e below (T.setTop g) target := by
  obtain ⟨n0, n1⟩ := own_ix hk
  obtain ⟨T', h', cA, X', e', E', A', x', st⟩ := newPE X hx hZ w eT hg hd hs n0 (cap := cap) (by rw [n1]; exact hcap) hb hc hl had
  exact ⟨T', h', X', e', E', ⟨_, A', by simp [newA, n1]⟩, x', st⟩
theorem own_clone {a0 : Array Value} (X : Stand p l e R s m args below meth c T locs cells slots) (hx : p.tables.exec = Jvm.exec) (hZ : Z.Warmed39 s.vm) {own ad : String} {index : Nat} (hown : s.vm.findClass own = some m.cls)
    (w1 : (Cond.methodLink own index ⟨ad, "clone", "()Ljava/lang/Object;"⟩).before a0 Z = true) (w2 : (Cond.sameMethod ad "java/lang/Object" "clone" "()Ljava/lang/Object;").before a0 Z = true) (w3 : (Cond.native ⟨"java/lang/Object", "clone", "()Ljava/lang/Object;"⟩).before a0 Z = true)
    (w4 : (Cond.instanceMethod ⟨"java/lang/Object", "clone", "()Ljava/lang/Object;"⟩).before a0 Z = true) (w5 : (Cond.selects ad ⟨ad, "clone", "()Ljava/lang/Object;"⟩ ⟨"java/lang/Object", "clone", "()Ljava/lang/Object;"⟩).before a0 Z = true) (w6 : (Cond.castable ad "java/lang/Cloneable").before a0 Z = true)
    (eT : T.heap = h) (A : own_A Z h a ty vs) (E : Exa Z h a ad) (hf : ∀ v ∈ vs, fits ty v = true) {g : JFrame} (hg : g.method = m) (hsize : g.locals.size = c.maxLocals) {rest : List Value} (hst : g.stack = .ref a :: rest) (hd : decode c.code g.pc = .ok (.invokevirtual index, 3))
    (hfr : 1 ≤ R.frames) {W cap : Nat} (hW : 2 * g.monitorRoom + (rest.map fun v => v.category).sum ≤ W) (hl : W + 14 ≤ R.locals) (hcap : vs.length ≤ cap) (hc : cells + 1 ≤ R.cells) (hsl : slots + cap ≤ R.slots) :
    ∃ T' h', Stand p l e R s m args below meth c T' locs (cells + 1) (slots + cap) ∧ T'.heap = h' ∧ Ext h h' ∧ own_A Z h' h.size ty vs ∧ Exa Z h' h.size ad ∧
      ∀ target, Steps p.tables e below (T'.setTop { g with pc := g.pc + 3, stack := .ref h.size :: rest }) target → Steps p.tables e below (T.setTop g) target := by
  obtain ⟨cl, A, rfl⟩ := A
  have FC : FitC Z cl := fitC_of A fun i hi v hv => hf v (by
    rw [← Array.getElem?_toList] at hv
    exact List.mem_of_getElem? hv)
  obtain ⟨T', h', X', e', ex, A', E', st⟩ := cloneA X hx hZ hown w1 w2 w3 w4 w5 w6 eT A E FC hg hsize hst hd hfr hW hl (by simpa using hcap) hc hsl
  exact ⟨T', h', X', e', ex, ⟨_, A', rfl⟩, E', st⟩
def own_Ov (C : String) (Z : State) (h : Heap) (a : Addr) : Prop := ∃ c : Cell, h[a]? = some c ∧ Ovr Z c.cls C
theorem own_Ov.lt {C : String} (F : own_Ov C Z h a) : a < h.size := by obtain ⟨c, q, -⟩ := F; exact (Array.getElem?_eq_some_iff.mp q).1
theorem own_Ov.ext {C : String} (F : own_Ov C Z h a) (E : Ext h h') : own_Ov C Z h' a := by obtain ⟨c, q, r⟩ := F; exact ⟨c, E.2 _ _ q, r⟩
theorem own_Ov.other {C : String} {sl : Nat} {v : Value} (F : own_Ov C Z h a) (W : Wr h h' b sl v) (ne : a ≠ b) : own_Ov C Z h' a := by
  obtain ⟨c, q, r⟩ := F
  obtain ⟨c', q', -, -, -, e, -⟩ := wr_at W q
  exact ⟨c', q', by rw [e ne]; exact r⟩
theorem own_Ov.keep {C : String} {ws : List Addr} (F : own_Ov C Z h a) (K : Keep h h' ws) (ne : a ∉ ws) : own_Ov C Z h' a := by obtain ⟨c, q, r⟩ := F; exact ⟨c, K.2.1 _ _ q ne, r⟩
theorem own_newR {a0 : Array Value} (X : Stand p l e R s m args below meth c T locs cells slots) (hx : p.tables.exec = Jvm.exec) (hZ : Z.Warmed39 s.vm) {own C : String} {index : Nat} (hown : s.vm.findClass own = some m.cls) (w1 : (Cond.classLink own index C).before a0 Z = true) (w2 : (Cond.arrayOver (.object C)).before a0 Z = true) (eT : T.heap = h) {g : JFrame} (hg : g.method = m) (hd : decode c.code g.pc = .ok (.anewarray index, 3)) {n : Int32} {rest : List Value} (hs : g.stack = .int n :: rest)
    {k cap : Nat} (hk : n.toInt = (k : Int)) (hcap : k ≤ cap) (hb : cap * 8 ≤ 536870912) (hc : cells + 1 ≤ R.cells) (hl : slots + cap ≤ R.slots) {ad : String} (had : "[" ++ (FieldType.object C).toString = ad) :
    ∃ T' h', Stand p l e R s m args below meth c T' locs (cells + 1) (slots + cap) ∧ T'.heap = h' ∧ Ext h h' ∧ own_A Z h' h.size (.object C) (List.replicate k .null) ∧ Exa Z h' h.size ad ∧ own_Ov C Z h' h.size ∧
      ∀ target, Steps p.tables e below (T'.setTop { g with pc := g.pc + 3, stack := .ref h.size :: rest }) target → Steps p.tables e below (T.setTop g) target := by
  obtain ⟨n0, n1⟩ := own_ix hk
  obtain ⟨T', h', cA, X', e', E', A', x', O', st⟩ := newRE X hx hZ hown w1 w2 eT hg hd hs n0 (cap := cap) (by rw [n1]; exact hcap) hb hc hl had
  exact ⟨T', h', X', e', E', ⟨_, A', by simp [newA, n1, defaultValue]⟩, x', ⟨_, A'.1, O'⟩, st⟩
theorem own_stR {C : String} (X : Stand p l e R s m args below meth c T locs cells slots) (hx : p.tables.exec = Jvm.exec) (hZ : Z.Warmed39 s.vm) (eT : T.heap = h) (A : own_A Z h a (.object C) vs) (O : own_Ov C Z h a) {y : Addr} (I : Ins Z h y C true) {j : Int32} {i : Nat} (hj : j.toInt = (i : Int)) (hi : i < vs.length) {g : JFrame} (hg : g.method = m) {rest : List Value} (hs : g.stack = .ref y :: .int j :: .ref a :: rest) (hd : decode c.code g.pc = .ok (.aastore, 1)) :
    ∃ T' h', Stand p l e R s m args below meth c T' (locs ++ [⟨a, i⟩]) cells slots ∧ T'.heap = h' ∧ Wr h h' a i (.ref y) ∧ own_A Z h' a (.object C) (vs.set i (.ref y)) ∧ ∀ target, Steps p.tables e below (T'.setTop { g with pc := g.pc + 1, stack := rest }) target → Steps p.tables e below (T.setTop g) target := by
  obtain ⟨cl, A, rfl⟩ := A
  obtain ⟨c2, q, r⟩ := O
  cases A.1.symm.trans q
  have hin := (own_in (cl := cl) (v := cl.slots.toList[i]) hj (List.getElem?_eq_getElem hi)).1
  obtain ⟨T', h', X', e', W', st⟩ := stR X hx hZ eT A (j := j) (v := .ref y) hin rfl (Sto.of A r I) hg hs hd
  rw [(own_ix hj).2] at X' W'
  exact ⟨T', h', X', e', W', own_A.set ⟨cl, A, rfl⟩ W', st⟩
theorem own_len (X : Stand p l e R s m args below meth c T locs cells slots) (hx : p.tables.exec = Jvm.exec) (hZ : Z.Warmed39 s.vm) (eT : T.heap = h) (A : own_A Z h a ty vs) {n : Int32} (hn : n.toInt = (vs.length : Int)) {g : JFrame} (hg : g.method = m) {rest : List Value} (hs : g.stack = .ref a :: rest) (hd : decode c.code g.pc = .ok (.arraylength, 1)) {t : State}
    (k : Steps p.tables e below (T.setTop { g with pc := g.pc + 1, stack := .int n :: rest }) t) : Steps p.tables e below (T.setTop g) t := by
  obtain ⟨cl, A, rfl⟩ := A
  have h1 := n.toInt_lt
  have h2 : cl.slots.size.toInt32 = n := by
    refine Int32.toInt_inj.mp ?_
    rw [hn]
    have h3 : cl.slots.toList.length = cl.slots.size := by simp
    rw [h3] at hn ⊢
    exact len_toInt (by omega)
  refine X.arraylength hx (by rw [eT]; exact A.1) (State.isArrayOf_alike hZ.alike A.2.1) hg hs hd _ ?_
  rw [h2]; exact k
theorem own_lrem (X : Stand p l e R s m args below meth c T locs cells slots) (hx : p.tables.exec = Jvm.exec) {g : JFrame} (hg : g.method = m) {x y : Int64} {rest : List Value} (hd : decode c.code g.pc = .ok (.lrem, 1)) (hs : g.stack = .long y :: .long x :: rest) (hy : y ≠ 0) {t : State}
    (k : Steps p.tables e below (T.setTop { g with pc := g.pc + 1, stack := .long (x % y) :: rest }) t) : Steps p.tables e below (T.setTop g) t := XS.lrem X.here hx hg hd hs hy (by rw [lrem_mod]; exact k)
end OwnA
theorem own_Sta.keep {Z : State} {h h' : Heap} {ws : List Addr} {C n d : String} {v : Value} (F : Sta Z h C n d v) (K : Keep h h' ws) (q : ∀ st ∈ ws, ∀ cell : Cell, h[st]? = some cell → cell.vm.isStatics = false) : Sta Z h' C n d v := by
  obtain ⟨cf, i, k, f, st, cell, h1, h2, h3, h4, h5, h6, h7⟩ := F
  refine ⟨cf, i, k, f, st, cell, h1, h2, h3, h4, K.2.1 st cell h5 fun hm => ?_, h6, h7⟩
  rw [q st hm cell h5] at h6
  cases h6
theorem own_z_eq_t {c : Prop} [Decidable c] (h : ¬ c) : ifCond.holds .eq (if c then (1 : Int32) else 0) = true := by rw [if_neg h]; rfl
theorem own_z_eq_f {c : Prop} [Decidable c] (h : c) : ifCond.holds .eq (if c then (1 : Int32) else 0) = false := by rw [if_pos h]; rfl
theorem own_z_ne_t {c : Prop} [Decidable c] (h : c) : ifCond.holds .ne (if c then (1 : Int32) else 0) = true := by rw [if_pos h]; rfl
theorem own_z_ne_f {c : Prop} [Decidable c] (h : ¬ c) : ifCond.holds .ne (if c then (1 : Int32) else 0) = false := by rw [if_neg h]; rfl
theorem own_z_nar {c : Prop} [Decidable c] : nar .boolean (if c then (1 : Int32) else 0) = if c then (1 : Int32) else 0 := by split <;> rfl
/-- two slots that hold nothing or a long, whose value nobody reads again -/
def own_Two (a b : Slot) : Prop := (a = .unset ∧ b = .unset) ∨ ∃ z, a = .val (.long z) ∧ b = .second
theorem own_plainE {Z : State} {h : Heap} {a : Addr} {C : String} (F : Exa Z h a C) : ∀ cell : Cell, h[a]? = some cell → cell.vm.isStatics = false := fun cell hc => by
  obtain ⟨c, k, h1, -, -, h4, -⟩ := F
  cases h1.symm.trans hc
  exact h4
theorem own_plainA {Z : State} {h : Heap} {a : Addr} {ty : FieldType} {vs : List Value} (F : own_A Z h a ty vs) : ∀ cell : Cell, h[a]? = some cell → cell.vm.isStatics = false := fun cell hc => by
  obtain ⟨c, A, -⟩ := F
  cases A.1.symm.trans hc
  exact A.plain
theorem own_pop2 {tb : Tables} [Ours tb] {e : Env} {below : List Frame} {T target : State} {m : MethodId} {c : Code} {g : JFrame} (h : At T m c below) (hx : tb.exec = Jvm.exec) (hg : g.method = m) {x : Int64} {rest : List Value} (hd : decode c.code g.pc = .ok (.pop2, 1)) (hs : g.stack = .long x :: rest)
    (hr : Steps tb e below (T.setTop { g with pc := g.pc + 1, stack := rest }) target) : Steps tb e below (T.setTop g) target := by
  subst hg
  jvm_step h [h.top, hx, hd, hs, Value.category]
  exact hr
theorem own_min1 {i : Int32} {n : Nat} (h0 : 0 ≤ i.toInt) (h1 : i.toInt < (n : Int)) (hn : n < 1000) : (i + 1).toInt.toNat = i.toInt.toNat + 1 ∧ (i + 1).toInt = i.toInt + 1 := by
  have h2 := c_iadd i 1
  have h3 := rng32 (i + 1)
  have h4 : (1 : Int32).toInt = 1 := rfl
  omega
theorem own_ltN {i : Int32} {n : Nat} (hn : n < 1000) : i < n.toInt32 ↔ i.toInt < (n : Int) := by
  rw [Int32.lt_iff_toInt_lt, len_toInt (by omega)]
theorem own_getI {bs : List Int32} {i : Nat} (h : i < bs.length) : (bs.map Value.int)[i]? = some (.int (bs.getD i 0)) := by
  simp [List.getElem?_map, h]
theorem own_nat {i : Int32} (h : 0 ≤ i.toInt) : i.toInt = ((i.toInt.toNat : Nat) : Int) := by omega
theorem w_0 {a0 : Array Value} {Z : State} (hw : ∀ d ∈ tables_1, d.before a0 Z = true) : (Jvm.Cond.constant "com/example/stockwright/stockwright/model/RememberedAnswerSucceededPinLaw" (7 : Nat) (2147483647 : Int32)).before a0 Z = true := hw _ (List.mem_of_getElem? (i := 0) rfl)
theorem w_1 {a0 : Array Value} {Z : State} (hw : ∀ d ∈ tables_1, d.before a0 Z = true) : (Jvm.Cond.methodLink "com/example/stockwright/stockwright/model/RememberedAnswerSucceededPinLaw" (8 : Nat) ({ cls := "java/lang/String", name := "valueOf", desc := "(C)Ljava/lang/String;" } : Jvm.MethodName)).before a0 Z = true := hw _ (List.mem_of_getElem? (i := 1) rfl)
theorem w_2 {a0 : Array Value} {Z : State} (hw : ∀ d ∈ tables_1, d.before a0 Z = true) : (Jvm.Cond.static ({ cls := "java/lang/String", name := "valueOf", desc := "(C)Ljava/lang/String;" } : Jvm.MethodName)).before a0 Z = true := hw _ (List.mem_of_getElem? (i := 2) rfl)
theorem w_3 {a0 : Array Value} {Z : State} (hw : ∀ d ∈ tables_1, d.before a0 Z = true) : (Jvm.Cond.initialized "java/lang/String").before a0 Z = true := hw _ (List.mem_of_getElem? (i := 3) rfl)
theorem w_4 {a0 : Array Value} {Z : State} (hw : ∀ d ∈ tables_1, d.before a0 Z = true) : (Jvm.Cond.code ({ cls := "java/lang/String", name := "valueOf", desc := "(C)Ljava/lang/String;" } : Jvm.MethodName) jdk_42_method_139_code (1 : Nat) (Option.some (Jvm.ClassFile.FieldType.object "java/lang/String"))).before a0 Z = true := hw _ (List.mem_of_getElem? (i := 4) rfl)
theorem w_5 {a0 : Array Value} {Z : State} (hw : ∀ d ∈ tables_1, d.before a0 Z = true) : (Jvm.Cond.fieldLink "java/lang/String" (38 : Nat) "java/lang/String" "COMPACT_STRINGS" "Z").before a0 Z = true := hw _ (List.mem_of_getElem? (i := 5) rfl)
theorem w_6 {a0 : Array Value} {Z : State} (hw : ∀ d ∈ tables_1, d.before a0 Z = true) : (Jvm.Cond.methodLink "java/lang/String" (1015 : Nat) ({ cls := "java/lang/StringLatin1", name := "canEncode", desc := "(C)Z" } : Jvm.MethodName)).before a0 Z = true := hw _ (List.mem_of_getElem? (i := 6) rfl)
theorem w_7 {a0 : Array Value} {Z : State} (hw : ∀ d ∈ tables_1, d.before a0 Z = true) : (Jvm.Cond.static ({ cls := "java/lang/StringLatin1", name := "canEncode", desc := "(C)Z" } : Jvm.MethodName)).before a0 Z = true := hw _ (List.mem_of_getElem? (i := 7) rfl)
theorem w_8 {a0 : Array Value} {Z : State} (hw : ∀ d ∈ tables_1, d.before a0 Z = true) : (Jvm.Cond.initialized "java/lang/StringLatin1").before a0 Z = true := hw _ (List.mem_of_getElem? (i := 8) rfl)
theorem w_9 {a0 : Array Value} {Z : State} (hw : ∀ d ∈ tables_1, d.before a0 Z = true) : (Jvm.Cond.code ({ cls := "java/lang/StringLatin1", name := "canEncode", desc := "(C)Z" } : Jvm.MethodName) jdk_43_method_3_code (1 : Nat) (Option.some Jvm.ClassFile.FieldType.boolean)).before a0 Z = true := hw _ (List.mem_of_getElem? (i := 9) rfl)
theorem w_10 {a0 : Array Value} {Z : State} (hw : ∀ d ∈ tables_1, d.before a0 Z = true) : (Jvm.Cond.classLink "java/lang/String" (10 : Nat) "java/lang/String").before a0 Z = true := hw _ (List.mem_of_getElem? (i := 10) rfl)
theorem w_11 {a0 : Array Value} {Z : State} (hw : ∀ d ∈ tables_1, d.before a0 Z = true) : (Jvm.Cond.instantiable "java/lang/String" (4 : Nat)).before a0 Z = true := hw _ (List.mem_of_getElem? (i := 11) rfl)
theorem w_12 {a0 : Array Value} {Z : State} (hw : ∀ d ∈ tables_1, d.before a0 Z = true) : (Jvm.Cond.methodLink "java/lang/String" (1018 : Nat) ({ cls := "java/lang/StringLatin1", name := "toBytes", desc := "(C)[B" } : Jvm.MethodName)).before a0 Z = true := hw _ (List.mem_of_getElem? (i := 12) rfl)
theorem w_13 {a0 : Array Value} {Z : State} (hw : ∀ d ∈ tables_1, d.before a0 Z = true) : (Jvm.Cond.static ({ cls := "java/lang/StringLatin1", name := "toBytes", desc := "(C)[B" } : Jvm.MethodName)).before a0 Z = true := hw _ (List.mem_of_getElem? (i := 13) rfl)
theorem w_14 {a0 : Array Value} {Z : State} (hw : ∀ d ∈ tables_1, d.before a0 Z = true) : (Jvm.Cond.code ({ cls := "java/lang/StringLatin1", name := "toBytes", desc := "(C)[B" } : Jvm.MethodName) jdk_43_method_46_code (1 : Nat) (Option.some (Jvm.ClassFile.FieldType.array Jvm.ClassFile.FieldType.byte))).before a0 Z = true := hw _ (List.mem_of_getElem? (i := 14) rfl)
theorem w_15 {a0 : Array Value} {Z : State} (hw : ∀ d ∈ tables_1, d.before a0 Z = true) : (Jvm.Cond.arrayClass Jvm.ClassFile.FieldType.byte).before a0 Z = true := hw _ (List.mem_of_getElem? (i := 15) rfl)
theorem w_16 {a0 : Array Value} {Z : State} (hw : ∀ d ∈ tables_1, d.before a0 Z = true) : (Jvm.Cond.methodLink "java/lang/String" (209 : Nat) ({ cls := "java/lang/String", name := "<init>", desc := "([BB)V" } : Jvm.MethodName)).before a0 Z = true := hw _ (List.mem_of_getElem? (i := 16) rfl)
theorem w_17 {a0 : Array Value} {Z : State} (hw : ∀ d ∈ tables_1, d.before a0 Z = true) : (Jvm.Cond.instanceMethod ({ cls := "java/lang/String", name := "<init>", desc := "([BB)V" } : Jvm.MethodName)).before a0 Z = true := hw _ (List.mem_of_getElem? (i := 17) rfl)
theorem w_19 {a0 : Array Value} {Z : State} (hw : ∀ d ∈ tables_1, d.before a0 Z = true) : (Jvm.Cond.code ({ cls := "java/lang/String", name := "<init>", desc := "([BB)V" } : Jvm.MethodName) jdk_42_method_151_code (3 : Nat) (Option.none : Option Jvm.ClassFile.FieldType)).before a0 Z = true := hw _ (List.mem_of_getElem? (i := 19) rfl)
theorem w_20 {a0 : Array Value} {Z : State} (hw : ∀ d ∈ tables_1, d.before a0 Z = true) : (Jvm.Cond.methodLink "java/lang/String" (1 : Nat) ({ cls := "java/lang/Object", name := "<init>", desc := "()V" } : Jvm.MethodName)).before a0 Z = true := hw _ (List.mem_of_getElem? (i := 20) rfl)
theorem w_21 {a0 : Array Value} {Z : State} (hw : ∀ d ∈ tables_1, d.before a0 Z = true) : (Jvm.Cond.instanceMethod ({ cls := "java/lang/Object", name := "<init>", desc := "()V" } : Jvm.MethodName)).before a0 Z = true := hw _ (List.mem_of_getElem? (i := 21) rfl)
theorem w_22 {a0 : Array Value} {Z : State} (hw : ∀ d ∈ tables_1, d.before a0 Z = true) : (Jvm.Cond.code ({ cls := "java/lang/Object", name := "<init>", desc := "()V" } : Jvm.MethodName) object_method_1_code (1 : Nat) (Option.none : Option Jvm.ClassFile.FieldType)).before a0 Z = true := hw _ (List.mem_of_getElem? (i := 22) rfl)
theorem w_23 {a0 : Array Value} {Z : State} (hw : ∀ d ∈ tables_1, d.before a0 Z = true) : (Jvm.Cond.fieldLink "java/lang/String" (9 : Nat) "java/lang/String" "value" "[B").before a0 Z = true := hw _ (List.mem_of_getElem? (i := 23) rfl)
theorem w_24 {a0 : Array Value} {Z : State} (hw : ∀ d ∈ tables_1, d.before a0 Z = true) : (Jvm.Cond.laysFinal "java/lang/String" "java/lang/String" "value" "[B").before a0 Z = true := hw _ (List.mem_of_getElem? (i := 24) rfl)
theorem w_25 {a0 : Array Value} {Z : State} (hw : ∀ d ∈ tables_1, d.before a0 Z = true) : (Jvm.Cond.fieldLink "java/lang/String" (15 : Nat) "java/lang/String" "coder" "B").before a0 Z = true := hw _ (List.mem_of_getElem? (i := 25) rfl)
theorem w_26 {a0 : Array Value} {Z : State} (hw : ∀ d ∈ tables_1, d.before a0 Z = true) : (Jvm.Cond.laysFinal "java/lang/String" "java/lang/String" "coder" "B").before a0 Z = true := hw _ (List.mem_of_getElem? (i := 26) rfl)
theorem w_27 {a0 : Array Value} {Z : State} (hw : ∀ d ∈ tables_1, d.before a0 Z = true) : (Jvm.Cond.classLink "com/example/stockwright/stockwright/model/RememberedAnswerSucceededPinLaw" (14 : Nat) "com/example/stockwright/stockwright/model/RememberedAnswer").before a0 Z = true := hw _ (List.mem_of_getElem? (i := 27) rfl)
theorem w_28 {a0 : Array Value} {Z : State} (hw : ∀ d ∈ tables_1, d.before a0 Z = true) : (Jvm.Cond.instantiable "com/example/stockwright/stockwright/model/RememberedAnswer" (4 : Nat)).before a0 Z = true := hw _ (List.mem_of_getElem? (i := 28) rfl)
theorem w_29 {a0 : Array Value} {Z : State} (hw : ∀ d ∈ tables_1, d.before a0 Z = true) : (Jvm.Cond.initialized "com/example/stockwright/stockwright/model/RememberedAnswer").before a0 Z = true := hw _ (List.mem_of_getElem? (i := 29) rfl)
theorem w_30 {a0 : Array Value} {Z : State} (hw : ∀ d ∈ tables_1, d.before a0 Z = true) : (Jvm.Cond.methodLink "com/example/stockwright/stockwright/model/RememberedAnswerSucceededPinLaw" (16 : Nat) ({ cls := "com/example/stockwright/stockwright/model/RememberedAnswer", name := "<init>", desc := "(ILjava/lang/String;Ljava/lang/String;[B)V" } : Jvm.MethodName)).before a0 Z = true := hw _ (List.mem_of_getElem? (i := 30) rfl)
theorem w_31 {a0 : Array Value} {Z : State} (hw : ∀ d ∈ tables_1, d.before a0 Z = true) : (Jvm.Cond.instanceMethod ({ cls := "com/example/stockwright/stockwright/model/RememberedAnswer", name := "<init>", desc := "(ILjava/lang/String;Ljava/lang/String;[B)V" } : Jvm.MethodName)).before a0 Z = true := hw _ (List.mem_of_getElem? (i := 31) rfl)
theorem w_32 {a0 : Array Value} {Z : State} (hw : ∀ d ∈ tables_1, d.before a0 Z = true) : (Jvm.Cond.code ({ cls := "com/example/stockwright/stockwright/model/RememberedAnswer", name := "<init>", desc := "(ILjava/lang/String;Ljava/lang/String;[B)V" } : Jvm.MethodName) prog_20_method_1_code (5 : Nat) (Option.none : Option Jvm.ClassFile.FieldType)).before a0 Z = true := hw _ (List.mem_of_getElem? (i := 32) rfl)
theorem w_33 {a0 : Array Value} {Z : State} (hw : ∀ d ∈ tables_1, d.before a0 Z = true) : (Jvm.Cond.methodLink "com/example/stockwright/stockwright/model/RememberedAnswer" (1 : Nat) ({ cls := "java/lang/Record", name := "<init>", desc := "()V" } : Jvm.MethodName)).before a0 Z = true := hw _ (List.mem_of_getElem? (i := 33) rfl)
theorem w_34 {a0 : Array Value} {Z : State} (hw : ∀ d ∈ tables_1, d.before a0 Z = true) : (Jvm.Cond.instanceMethod ({ cls := "java/lang/Record", name := "<init>", desc := "()V" } : Jvm.MethodName)).before a0 Z = true := hw _ (List.mem_of_getElem? (i := 34) rfl)
theorem w_36 {a0 : Array Value} {Z : State} (hw : ∀ d ∈ tables_1, d.before a0 Z = true) : (Jvm.Cond.initialized "java/lang/Record").before a0 Z = true := hw _ (List.mem_of_getElem? (i := 36) rfl)
theorem w_37 {a0 : Array Value} {Z : State} (hw : ∀ d ∈ tables_1, d.before a0 Z = true) : (Jvm.Cond.code ({ cls := "java/lang/Record", name := "<init>", desc := "()V" } : Jvm.MethodName) jdk_30_method_1_code (1 : Nat) (Option.none : Option Jvm.ClassFile.FieldType)).before a0 Z = true := hw _ (List.mem_of_getElem? (i := 37) rfl)
theorem w_38 {a0 : Array Value} {Z : State} (hw : ∀ d ∈ tables_1, d.before a0 Z = true) : (Jvm.Cond.methodLink "java/lang/Record" (1 : Nat) ({ cls := "java/lang/Object", name := "<init>", desc := "()V" } : Jvm.MethodName)).before a0 Z = true := hw _ (List.mem_of_getElem? (i := 38) rfl)
theorem w_39 {a0 : Array Value} {Z : State} (hw : ∀ d ∈ tables_1, d.before a0 Z = true) : (Jvm.Cond.fieldLink "com/example/stockwright/stockwright/model/RememberedAnswer" (7 : Nat) "com/example/stockwright/stockwright/model/RememberedAnswer" "status" "I").before a0 Z = true := hw _ (List.mem_of_getElem? (i := 39) rfl)
theorem w_40 {a0 : Array Value} {Z : State} (hw : ∀ d ∈ tables_1, d.before a0 Z = true) : (Jvm.Cond.laysFinal "com/example/stockwright/stockwright/model/RememberedAnswer" "com/example/stockwright/stockwright/model/RememberedAnswer" "status" "I").before a0 Z = true := hw _ (List.mem_of_getElem? (i := 40) rfl)
theorem w_41 {a0 : Array Value} {Z : State} (hw : ∀ d ∈ tables_1, d.before a0 Z = true) : (Jvm.Cond.fieldLink "com/example/stockwright/stockwright/model/RememberedAnswer" (13 : Nat) "com/example/stockwright/stockwright/model/RememberedAnswer" "contentType" "Ljava/lang/String;").before a0 Z = true := hw _ (List.mem_of_getElem? (i := 41) rfl)
theorem w_42 {a0 : Array Value} {Z : State} (hw : ∀ d ∈ tables_1, d.before a0 Z = true) : (Jvm.Cond.laysFinal "com/example/stockwright/stockwright/model/RememberedAnswer" "com/example/stockwright/stockwright/model/RememberedAnswer" "contentType" "Ljava/lang/String;").before a0 Z = true := hw _ (List.mem_of_getElem? (i := 42) rfl)
theorem w_43 {a0 : Array Value} {Z : State} (hw : ∀ d ∈ tables_1, d.before a0 Z = true) : (Jvm.Cond.fieldLink "com/example/stockwright/stockwright/model/RememberedAnswer" (17 : Nat) "com/example/stockwright/stockwright/model/RememberedAnswer" "location" "Ljava/lang/String;").before a0 Z = true := hw _ (List.mem_of_getElem? (i := 43) rfl)
theorem w_44 {a0 : Array Value} {Z : State} (hw : ∀ d ∈ tables_1, d.before a0 Z = true) : (Jvm.Cond.laysFinal "com/example/stockwright/stockwright/model/RememberedAnswer" "com/example/stockwright/stockwright/model/RememberedAnswer" "location" "Ljava/lang/String;").before a0 Z = true := hw _ (List.mem_of_getElem? (i := 44) rfl)
theorem w_45 {a0 : Array Value} {Z : State} (hw : ∀ d ∈ tables_1, d.before a0 Z = true) : (Jvm.Cond.fieldLink "com/example/stockwright/stockwright/model/RememberedAnswer" (20 : Nat) "com/example/stockwright/stockwright/model/RememberedAnswer" "body" "[B").before a0 Z = true := hw _ (List.mem_of_getElem? (i := 45) rfl)
theorem w_46 {a0 : Array Value} {Z : State} (hw : ∀ d ∈ tables_1, d.before a0 Z = true) : (Jvm.Cond.laysFinal "com/example/stockwright/stockwright/model/RememberedAnswer" "com/example/stockwright/stockwright/model/RememberedAnswer" "body" "[B").before a0 Z = true := hw _ (List.mem_of_getElem? (i := 46) rfl)
theorem w_47 {a0 : Array Value} {Z : State} (hw : ∀ d ∈ tables_1, d.before a0 Z = true) : (Jvm.Cond.methodLink "com/example/stockwright/stockwright/model/RememberedAnswerSucceededPinLaw" (19 : Nat) ({ cls := "com/example/stockwright/stockwright/model/RememberedAnswer", name := "succeeded", desc := "()Z" } : Jvm.MethodName)).before a0 Z = true := hw _ (List.mem_of_getElem? (i := 47) rfl)
theorem w_48 {a0 : Array Value} {Z : State} (hw : ∀ d ∈ tables_1, d.before a0 Z = true) : (Jvm.Cond.declares ({ cls := "com/example/stockwright/stockwright/model/RememberedAnswer", name := "succeeded", desc := "()Z" } : Jvm.MethodName)).before a0 Z = true := hw _ (List.mem_of_getElem? (i := 48) rfl)
theorem w_49 {a0 : Array Value} {Z : State} (hw : ∀ d ∈ tables_1, d.before a0 Z = true) : (Jvm.Cond.instanceMethod ({ cls := "com/example/stockwright/stockwright/model/RememberedAnswer", name := "succeeded", desc := "()Z" } : Jvm.MethodName)).before a0 Z = true := hw _ (List.mem_of_getElem? (i := 49) rfl)
theorem w_50 {a0 : Array Value} {Z : State} (hw : ∀ d ∈ tables_1, d.before a0 Z = true) : (Jvm.Cond.selects "com/example/stockwright/stockwright/model/RememberedAnswer" ({ cls := "com/example/stockwright/stockwright/model/RememberedAnswer", name := "succeeded", desc := "()Z" } : Jvm.MethodName) ({ cls := "com/example/stockwright/stockwright/model/RememberedAnswer", name := "succeeded", desc := "()Z" } : Jvm.MethodName)).before a0 Z = true := hw _ (List.mem_of_getElem? (i := 50) rfl)
theorem w_51 {a0 : Array Value} {Z : State} (hw : ∀ d ∈ tables_1, d.before a0 Z = true) : (Jvm.Cond.code ({ cls := "com/example/stockwright/stockwright/model/RememberedAnswer", name := "succeeded", desc := "()Z" } : Jvm.MethodName) prog_20_method_2_code (1 : Nat) (Option.some Jvm.ClassFile.FieldType.boolean)).before a0 Z = true := hw _ (List.mem_of_getElem? (i := 51) rfl)
theorem own_pn1 : plainName "java/lang/StringLatin1" = true := by first | (simp [plainName, overriddenIn]; done) | decide +kernel
theorem d2_0 : decode jdk_43_method_3_code 0 = .ok (.iload_n 0, 1) := by decide +kernel
theorem d2_1 : decode jdk_43_method_3_code 1 = .ok (.sipush 255, 3) := by decide +kernel
theorem d2_4 : decode jdk_43_method_3_code 4 = .ok (.if_icmp .gt 7, 3) := by decide +kernel
theorem d2_7 : decode jdk_43_method_3_code 7 = .ok (.iconst 1, 1) := by decide +kernel
theorem d2_8 : decode jdk_43_method_3_code 8 = .ok (.goto 4, 3) := by decide +kernel
theorem d2_12 : decode jdk_43_method_3_code 12 = .ok (.ireturn, 1) := by decide +kernel
theorem ef_2 (m : MethodId) (x0 : Int32) : entryFrame m #[(.int x0)] 1 = mkF m 0 #[.val (.int x0)] [] := by first | (simp [entryFrame, mkF, argsToLocals, Value.category]; done) | rfl
def Q2 (Z : State) (p1 : Int32) (h0 : Heap) (n0 : Nat) (v : Option Value) (h : Heap) (L : List Loc) : Prop := v = some (.int (1 : Int32)) ∧ Fr n0 L ∧ h = h0
set_option maxHeartbeats 40000000 in
theorem rm2 (l : Launch) (Z : State) (a0 : Array Value) (hw : ∀ d ∈ tables_1, d.before a0 Z = true) (ws : List Jvm.Cond) (p1 : Int32) (h0 : Heap) (n0 : Nat) (Z0 : n0 ≤ h0.size) (hp : ¬ ((255 : Int32) < p1)) :
    MetFree l (⟨"java/lang/StringLatin1", "canEncode", "(C)Z"⟩ : MethodName) (head1 (Jvm.Cond.code (⟨"java/lang/StringLatin1", "canEncode", "(C)Z"⟩ : MethodName) jdk_43_method_3_code 1 (some .boolean) :: ws) ({ frames := 0, cells := 0, slots := 0, locals := 0 } : Room)) (fun a U => a = #[(.int p1)] ∧ Z.Warmed39 U.vm ∧ U.heap = h0) (fun _ _ _ _ _ => True) (fun _ U o U' => ∃ v L, o = .returned v ∧ Q2 Z p1 h0 n0 v U'.heap L ∧ FrameEnd U o U' L ({ frames := 0, cells := 0, slots := 0, locals := 0 } : Room).cells ({ frames := 0, cells := 0, slots := 0, locals := 0 } : Room).slots) := by
  refine MetFree.of_bodySF (plainFor_of_name own_pn1) hisR ?_
  intro p e s m args below meth c s₁ Bd hml0 hP hK
  obtain ⟨rfl, hZ, hh⟩ := hP
  have hx := Bd.exec
  have hby := Bd.bytes
  have hml : c.maxLocals = 1 := hml0
  have hlk : meth.locks = false := BodyLoose.notSynchronized Bd
  have hown : s.vm.findClass "java/lang/StringLatin1" = some m.cls := findClass_of_methodNamed Bd.named
  have hnm := (name_of_methodNamed Bd.named Bd.method).1
  have X0 : Stand p l e ({ frames := 0, cells := 0, slots := 0, locals := 0 } : Room) s m #[(.int p1)] below meth c s₁ [] 0 0 := Stand.of_body Bd
  have e0 : s₁.heap = h0 := by rw [← hh, Bd.state]; rfl
  have N0 := Fr.nil n0
  show own_Go p e below s (Q2 Z p1 h0 n0) ({ frames := 0, cells := 0, slots := 0, locals := 0 } : Room).cells ({ frames := 0, cells := 0, slots := 0, locals := 0 } : Room).slots _
  refine own_st (B := s₁.setTop (mkF m 0 #[.val (.int p1)] [])) (fun t k => castTop (ef_2 m (p1)) k) ?_
  refine own_st (B := s₁.setTop (mkF m 1 #[.val (.int p1)] [(.int p1)])) (fun t k => XS.iloadN X0.here hx rfl (hb hby d2_0) rfl k) ?_
  refine own_st (B := s₁.setTop (mkF m 4 #[.val (.int p1)] [(.int (255 : Int32)), (.int p1)])) (fun t k => XS.sipush X0.here hx rfl (hb hby d2_1) k) ?_
  refine own_st (B := s₁.setTop (mkF m 7 #[.val (.int p1)] [])) (fun t k => XS.icmpNo X0.here hx rfl (hb hby d2_4) rfl (XT.ii_gt_f hp) k) ?_
  refine own_st (B := s₁.setTop (mkF m 8 #[.val (.int p1)] [(.int (1 : Int32))])) (fun t k => XS.iconst X0.here hx rfl (hb hby d2_7) k) ?_
  refine own_st (B := s₁.setTop (mkF m 12 #[.val (.int p1)] [(.int (1 : Int32))])) (fun t k => XS.goto X0.here hx rfl (pc0 := 8) (pc' := 12) rfl (hb hby d2_8) (by decide) (by decide) k) ?_
  refine own_retN X0 hx hlk (t := .boolean) Bd.returns (by simp) (z' := (1 : Int32)) rfl (hb hby d2_12) (by decide) (by decide) ?_
  show Q2 Z p1 h0 n0 _ s₁.heap _
  rw [e0]
  exact ⟨rfl, N0, rfl⟩
theorem d3_0 : decode jdk_43_method_46_code 0 = .ok (.iconst 1, 1) := by decide +kernel
theorem d3_1 : decode jdk_43_method_46_code 1 = .ok (.newarray .byte, 2) := by decide +kernel
theorem d3_3 : decode jdk_43_method_46_code 3 = .ok (.dup, 1) := by decide +kernel
theorem d3_4 : decode jdk_43_method_46_code 4 = .ok (.iconst 0, 1) := by decide +kernel
theorem d3_5 : decode jdk_43_method_46_code 5 = .ok (.iload_n 0, 1) := by decide +kernel
theorem d3_6 : decode jdk_43_method_46_code 6 = .ok (.i2b, 1) := by decide +kernel
theorem d3_7 : decode jdk_43_method_46_code 7 = .ok (.bastore, 1) := by decide +kernel
theorem d3_8 : decode jdk_43_method_46_code 8 = .ok (.areturn, 1) := by decide +kernel
theorem ef_3 (m : MethodId) (x0 : Int32) : entryFrame m #[(.int x0)] 1 = mkF m 0 #[.val (.int x0)] [] := by first | (simp [entryFrame, mkF, argsToLocals, Value.category]; done) | rfl
def Q3 (Z : State) (p1 : Int32) (h0 : Heap) (n0 : Nat) (v : Option Value) (h : Heap) (L : List Loc) : Prop := ∃ (b : Addr), v = some (.ref b) ∧ Fr n0 L ∧ Keep h0 h [] ∧ n0 ≤ b ∧ h0.size ≤ b
set_option maxHeartbeats 40000000 in
theorem rm3 (l : Launch) (Z : State) (a0 : Array Value) (hw : ∀ d ∈ tables_1, d.before a0 Z = true) (ws : List Jvm.Cond) (p1 : Int32) (h0 : Heap) (n0 : Nat) (Z0 : n0 ≤ h0.size) :
    MetFree l (⟨"java/lang/StringLatin1", "toBytes", "(C)[B"⟩ : MethodName) (head1 (Jvm.Cond.code (⟨"java/lang/StringLatin1", "toBytes", "(C)[B"⟩ : MethodName) jdk_43_method_46_code 1 (some (.array .byte)) :: ws) ({ frames := 0, cells := 1, slots := 1, locals := 0 } : Room)) (fun a U => a = #[(.int p1)] ∧ Z.Warmed39 U.vm ∧ U.heap = h0) (fun _ _ _ _ _ => True) (fun _ U o U' => ∃ v L, o = .returned v ∧ Q3 Z p1 h0 n0 v U'.heap L ∧ FrameEnd U o U' L ({ frames := 0, cells := 1, slots := 1, locals := 0 } : Room).cells ({ frames := 0, cells := 1, slots := 1, locals := 0 } : Room).slots) := by
  refine MetFree.of_bodySF (plainFor_of_name own_pn1) hisR ?_
  intro p e s m args below meth c s₁ Bd hml0 hP hK
  obtain ⟨rfl, hZ, hh⟩ := hP
  have hx := Bd.exec
  have hby := Bd.bytes
  have hml : c.maxLocals = 1 := hml0
  have hlk : meth.locks = false := BodyLoose.notSynchronized Bd
  have hown : s.vm.findClass "java/lang/StringLatin1" = some m.cls := findClass_of_methodNamed Bd.named
  have hnm := (name_of_methodNamed Bd.named Bd.method).1
  have X0 : Stand p l e ({ frames := 0, cells := 1, slots := 1, locals := 0 } : Room) s m #[(.int p1)] below meth c s₁ [] 0 0 := Stand.of_body Bd
  have e0 : s₁.heap = h0 := by rw [← hh, Bd.state]; rfl
  have N0 := Fr.nil n0
  show own_Go p e below s (Q3 Z p1 h0 n0) ({ frames := 0, cells := 1, slots := 1, locals := 0 } : Room).cells ({ frames := 0, cells := 1, slots := 1, locals := 0 } : Room).slots _
  refine own_st (B := s₁.setTop (mkF m 0 #[.val (.int p1)] [])) (fun t k => castTop (ef_3 m (p1)) k) ?_
  refine own_st (B := s₁.setTop (mkF m 1 #[.val (.int p1)] [(.int (1 : Int32))])) (fun t k => XS.iconst X0.here hx rfl (hb hby d3_0) k) ?_
  obtain ⟨T1, h1, X1, e1, E1, A1, x1, st1⟩ := own_newP X0 hx hZ (aty := .byte) (w_15 hw) e0 (g := (mkF m 1 #[.val (.int p1)] [(.int (1 : Int32))])) rfl (hb hby d3_1) (n := (1 : Int32)) (rest := []) rfl (k := 1) (cap := 1) (by decide) (Nat.le_refl _) (by decide) (by decide) (by decide) (ad := "[B") rfl
  obtain ⟨b1, g1⟩ : ∃ z, z = h0.size := ⟨_, rfl⟩
  rw [← g1] at A1 x1 st1
  have u1 : n0 ≤ b1 := Nat.le_trans Z0 (Nat.le_of_eq g1.symm)
  have y1 : h0.size ≤ b1 := Nat.le_trans (Keep.refl h0 []).1 (Nat.le_of_eq g1.symm)
  have z2 : n0 ≤ h1.size := Nat.le_trans Z0 E1.1
  have kp2 : Keep h0 h1 [] := (Keep.refl h0 []).ext E1
  have f1_ : own_A Z h1 b1 .byte [(.int (0 : Int32))] := A1
  refine own_st (B := T1.setTop (mkF m 3 #[.val (.int p1)] [(.ref b1)])) (fun t k => st1 t k) ?_
  refine own_st (B := T1.setTop (mkF m 4 #[.val (.int p1)] [(.ref b1), (.ref b1)])) (fun t k => XS.dup X1.here hx rfl (hb hby d3_3) rfl rfl k) ?_
  refine own_st (B := T1.setTop (mkF m 5 #[.val (.int p1)] [(.int (0 : Int32)), (.ref b1), (.ref b1)])) (fun t k => XS.iconst X1.here hx rfl (hb hby d3_4) k) ?_
  refine own_st (B := T1.setTop (mkF m 6 #[.val (.int p1)] [(.int p1), (.int (0 : Int32)), (.ref b1), (.ref b1)])) (fun t k => XS.iloadN X1.here hx rfl (hb hby d3_5) rfl k) ?_
  refine own_st (B := T1.setTop (mkF m 7 #[.val (.int p1)] [(.int (p1.toInt8.toInt32)), (.int (0 : Int32)), (.ref b1), (.ref b1)])) (fun t k => XS.i2b X1.here hx rfl (hb hby d3_6) rfl k) ?_
  obtain ⟨T3, h3, X3, e3, W3, A3, st3⟩ := own_stB X1 hx hZ e1 f1_ (j := (0 : Int32)) (x := (p1.toInt8.toInt32)) (i := 0) (by decide) (show 0 < 1 from by decide) (g := (mkF m 7 #[.val (.int p1)] [(.int (p1.toInt8.toInt32)), (.int (0 : Int32)), (.ref b1), (.ref b1)])) rfl rfl (hb hby d3_7)
  have f3_ : own_A Z h3 b1 .byte [(.int ((p1.toInt8.toInt32).toInt8.toInt32))] := A3
  have z4 : n0 ≤ h3.size := Nat.le_trans z2 (Keep.of_wr W3).1
  have kp4 : Keep h0 h3 [] := kp2.wr W3 (Or.inr y1)
  have n5 := Fr.snoc X3 N0 u1
  refine own_st (B := T3.setTop (mkF m 8 #[.val (.int p1)] [(.ref b1)])) (fun t k => st3 t k) ?_
  refine own_retR X3 hx hlk (t := (.array .byte)) Bd.returns rfl rfl rfl (hb hby d3_8) (by decide) (by decide) ?_
  show Q3 Z p1 h0 n0 _ T3.heap _
  rw [e3]
  exact ⟨b1, rfl, n5, kp4, u1, y1⟩
theorem own_pn2 : plainName "java/lang/String" = true := by first | (simp [plainName, overriddenIn]; done) | decide +kernel
theorem d4_0 : decode jdk_42_method_151_code 0 = .ok (.aload_n 0, 1) := by decide +kernel
theorem d4_1 : decode jdk_42_method_151_code 1 = .ok (.invokespecial 1, 3) := by decide +kernel
theorem d4_4 : decode jdk_42_method_151_code 4 = .ok (.aload_n 0, 1) := by decide +kernel
theorem d4_5 : decode jdk_42_method_151_code 5 = .ok (.aload_n 1, 1) := by decide +kernel
theorem d4_6 : decode jdk_42_method_151_code 6 = .ok (.putfield 9, 3) := by decide +kernel
theorem d4_9 : decode jdk_42_method_151_code 9 = .ok (.aload_n 0, 1) := by decide +kernel
theorem d4_10 : decode jdk_42_method_151_code 10 = .ok (.iload_n 2, 1) := by decide +kernel
theorem d4_11 : decode jdk_42_method_151_code 11 = .ok (.putfield 15, 3) := by decide +kernel
theorem d4_14 : decode jdk_42_method_151_code 14 = .ok (.return_, 1) := by decide +kernel
theorem ef_4 (m : MethodId) (x0 : Addr) (x1 : Addr) (x2 : Int32) : entryFrame m #[(.ref x0), (.ref x1), (.int x2)] 3 = mkF m 0 #[.val (.ref x0), .val (.ref x1), .val (.int x2)] [] := by first | (simp [entryFrame, mkF, argsToLocals, Value.category]; done) | rfl
def Q4 (Z : State) (a1 : Addr) (a2 : Addr) (h0 : Heap) (n0 : Nat) (v : Option Value) (h : Heap) (L : List Loc) : Prop := v = none ∧ Fr n0 L ∧ Keep h0 h [a1] ∧ Exa Z h a1 "java/lang/String"
set_option maxHeartbeats 40000000 in
theorem rm4 (l : Launch) (Z : State) (a0 : Array Value) (hw : ∀ d ∈ tables_1, d.before a0 Z = true) (ws : List Jvm.Cond) (a1 : Addr) (a2 : Addr) (h0 : Heap) (n0 : Nat) (Z0 : n0 ≤ h0.size) (F0 : Exa Z h0 a1 "java/lang/String") (F1 : Fld Z h0 a1 "java/lang/String" "value" "[B" .null) (F2 : Fld Z h0 a1 "java/lang/String" "coder" "B" (.int (0 : Int32))) (ga : n0 ≤ a1) :
    MetFree l (⟨"java/lang/String", "<init>", "([BB)V"⟩ : MethodName) (head1 (Jvm.Cond.code (⟨"java/lang/String", "<init>", "([BB)V"⟩ : MethodName) jdk_42_method_151_code 3 none :: ws) ({ frames := 1, cells := 0, slots := 0, locals := 12 } : Room)) (fun a U => a = #[(.ref a1), (.ref a2), (.int (0 : Int32))] ∧ Z.Warmed39 U.vm ∧ U.heap = h0) (fun _ _ _ _ _ => True) (fun _ U o U' => ∃ v L, o = .returned v ∧ Q4 Z a1 a2 h0 n0 v U'.heap L ∧ FrameEnd U o U' L ({ frames := 1, cells := 0, slots := 0, locals := 12 } : Room).cells ({ frames := 1, cells := 0, slots := 0, locals := 12 } : Room).slots) := by
  refine MetFree.of_bodySF (plainFor_of_name own_pn2) hisR ?_
  intro p e s m args below meth c s₁ Bd hml0 hP hK
  obtain ⟨rfl, hZ, hh⟩ := hP
  have hx := Bd.exec
  have hby := Bd.bytes
  have hml : c.maxLocals = 3 := hml0
  have hlk : meth.locks = false := BodyLoose.notSynchronized Bd
  have hown : s.vm.findClass "java/lang/String" = some m.cls := findClass_of_methodNamed Bd.named
  have hnm := (name_of_methodNamed Bd.named Bd.method).1
  have X0 : Stand p l e ({ frames := 1, cells := 0, slots := 0, locals := 12 } : Room) s m #[(.ref a1), (.ref a2), (.int (0 : Int32))] below meth c s₁ [] 0 0 := Stand.of_body Bd
  have e0 : s₁.heap = h0 := by rw [← hh, Bd.state]; rfl
  have N0 := Fr.nil n0
  show own_Go p e below s (Q4 Z a1 a2 h0 n0) ({ frames := 1, cells := 0, slots := 0, locals := 12 } : Room).cells ({ frames := 1, cells := 0, slots := 0, locals := 12 } : Room).slots _
  refine own_st (B := s₁.setTop (mkF m 0 #[.val (.ref a1), .val (.ref a2), .val (.int (0 : Int32))] [])) (fun t k => castTop (ef_4 m (a1) (a2) ((0 : Int32))) k) ?_
  refine own_st (B := s₁.setTop (mkF m 1 #[.val (.ref a1), .val (.ref a2), .val (.int (0 : Int32))] [(.ref a1)])) (fun t k => XS.aloadN X0.here hx rfl (hb hby d4_0) rfl rfl k) ?_
  obtain ⟨T1, X1, e1, st1⟩ := initO X0 hx hZ hown (w_20 hw) (w_21 hw) (w_22 hw) e0 (g := (mkF m 1 #[.val (.ref a1), .val (.ref a2), .val (.int (0 : Int32))] [(.ref a1)])) rfl (by rw [hml]; rfl) rfl (hb hby d4_1) (by decide) (W := 0) (by show 2 * 0 + _ ≤ _; exact Nat.le_of_eq rfl) (by decide)
  refine own_st (B := T1.setTop (mkF m 4 #[.val (.ref a1), .val (.ref a2), .val (.int (0 : Int32))] [])) (fun t k => st1 t k) ?_
  refine own_st (B := T1.setTop (mkF m 5 #[.val (.ref a1), .val (.ref a2), .val (.int (0 : Int32))] [(.ref a1)])) (fun t k => XS.aloadN X1.here hx rfl (hb hby d4_4) rfl rfl k) ?_
  refine own_st (B := T1.setTop (mkF m 6 #[.val (.ref a1), .val (.ref a2), .val (.int (0 : Int32))] [(.ref a2), (.ref a1)])) (fun t k => XS.aloadN X1.here hx rfl (hb hby d4_5) rfl rfl k) ?_
  obtain ⟨T2, h2, X2, e2, W2, st2⟩ := putF X1 hx hZ hown (host := "") (Or.inl (w_23 hw)) Via.refl e1 F1 F0 (Or.inr ⟨(w_24 hw), rfl, hnm⟩) (w_11 hw) (ty := (.array .byte)) (by decide) rfl rfl (g := (mkF m 6 #[.val (.ref a1), .val (.ref a2), .val (.int (0 : Int32))] [(.ref a2), (.ref a1)])) rfl rfl (hb hby d4_6)
  have f2_ : Fld Z h2 a1 "java/lang/String" "value" "[B" (.ref a2) := F1.same W2
  have z3 : n0 ≤ h2.size := Nat.le_trans Z0 (Keep.of_wr W2).1
  have kp3 : Keep h0 h2 [a1] := (Keep.refl h0 [a1]).wr W2 (Or.inl (List.mem_of_getElem? (i := 0) rfl))
  have n4 := Fr.snoc X2 N0 ga
  refine own_st (B := T2.setTop (mkF m 9 #[.val (.ref a1), .val (.ref a2), .val (.int (0 : Int32))] [])) (fun t k => st2 t k) ?_
  refine own_st (B := T2.setTop (mkF m 10 #[.val (.ref a1), .val (.ref a2), .val (.int (0 : Int32))] [(.ref a1)])) (fun t k => XS.aloadN X2.here hx rfl (hb hby d4_9) rfl rfl k) ?_
  refine own_st (B := T2.setTop (mkF m 11 #[.val (.ref a1), .val (.ref a2), .val (.int (0 : Int32))] [(.int (0 : Int32)), (.ref a1)])) (fun t k => XS.iloadN X2.here hx rfl (hb hby d4_10) rfl k) ?_
  have f5 : Exa Z h2 a1 "java/lang/String" := (F0.wr W2)
  have f6 : Fld Z h2 a1 "java/lang/String" "coder" "B" (.int (0 : Int32)) := (F2.other W2 (Or.inr (slot_ne (Or.inr (w_26 hw)) (Or.inr (w_24 hw)) (by decide) (t := .byte) (t' := (.array .byte)) (by decide) (by decide))))
  obtain ⟨T7, h7, X7, e7, W7, st7⟩ := putFN X2 hx hZ hown (w_25 hw) Via.refl e2 f6 f5 (Or.inr ⟨(w_26 hw), rfl, hnm⟩) (w_11 hw) (ty := .byte) (v' := .int (nar .byte (0 : Int32))) (by decide) rfl (fits_nar_byte _) (g := (mkF m 11 #[.val (.ref a1), .val (.ref a2), .val (.int (0 : Int32))] [(.int (0 : Int32)), (.ref a1)])) rfl rfl (hb hby d4_11)
  have f7_ : Fld Z h7 a1 "java/lang/String" "coder" "B" (.int (nar .byte (0 : Int32))) := f6.same W7
  have z8 : n0 ≤ h7.size := Nat.le_trans z3 (Keep.of_wr W7).1
  have kp8 : Keep h0 h7 [a1] := kp3.wr W7 (Or.inl (List.mem_of_getElem? (i := 0) rfl))
  have n9 := Fr.snoc X7 n4 ga
  refine own_st (B := T7.setTop (mkF m 14 #[.val (.ref a1), .val (.ref a2), .val (.int (0 : Int32))] [])) (fun t k => st7 t k) ?_
  refine own_retV X7 hx hlk Bd.returns (hb hby d4_14) (by decide) (by decide) ?_
  show Q4 Z a1 a2 h0 n0 _ T7.heap _
  rw [e7]
  have f10 : Exa Z h7 a1 "java/lang/String" := (f5.wr W7)
  exact ⟨rfl, n9, kp8, f10⟩
theorem own_pd2 : parseMethodDescriptor "(C)Z" = some ⟨[.char], some .boolean⟩ := by decide +kernel
theorem own_pd3 : parseMethodDescriptor "(C)[B" = some ⟨[.char], some (.array .byte)⟩ := by decide +kernel
theorem own_pd4 : parseMethodDescriptor "([BB)V" = some ⟨[(.array .byte), .byte], none⟩ := by decide +kernel
theorem d1_0 : decode jdk_42_method_139_code 0 = .ok (.getstatic 38, 3) := by decide +kernel
theorem d1_3 : decode jdk_42_method_139_code 3 = .ok (.ifCond .eq 23, 3) := by decide +kernel
theorem d1_6 : decode jdk_42_method_139_code 6 = .ok (.iload_n 0, 1) := by decide +kernel
theorem d1_7 : decode jdk_42_method_139_code 7 = .ok (.invokestatic 1015, 3) := by decide +kernel
theorem d1_10 : decode jdk_42_method_139_code 10 = .ok (.ifCond .eq 16, 3) := by decide +kernel
theorem d1_13 : decode jdk_42_method_139_code 13 = .ok (.new 10, 3) := by decide +kernel
theorem d1_16 : decode jdk_42_method_139_code 16 = .ok (.dup, 1) := by decide +kernel
theorem d1_17 : decode jdk_42_method_139_code 17 = .ok (.iload_n 0, 1) := by decide +kernel
theorem d1_18 : decode jdk_42_method_139_code 18 = .ok (.invokestatic 1018, 3) := by decide +kernel
theorem d1_21 : decode jdk_42_method_139_code 21 = .ok (.iconst 0, 1) := by decide +kernel
theorem d1_22 : decode jdk_42_method_139_code 22 = .ok (.invokespecial 209, 3) := by decide +kernel
theorem d1_25 : decode jdk_42_method_139_code 25 = .ok (.areturn, 1) := by decide +kernel
theorem ef_1 (m : MethodId) (x0 : Int32) : entryFrame m #[(.int x0)] 1 = mkF m 0 #[.val (.int x0)] [] := by first | (simp [entryFrame, mkF, argsToLocals, Value.category]; done) | rfl
def Q1 (Z : State) (p1 : Int32) (cs : Int32) (h0 : Heap) (n0 : Nat) (v : Option Value) (h : Heap) (L : List Loc) : Prop := ∃ (b : Addr), v = some (.ref b) ∧ Fr n0 L ∧ Keep h0 h [] ∧ n0 ≤ b ∧ h0.size ≤ b
set_option maxHeartbeats 40000000 in
theorem rm1 (l : Launch) (Z : State) (a0 : Array Value) (hw : ∀ d ∈ tables_1, d.before a0 Z = true) (ws : List Jvm.Cond) (p1 : Int32) (cs : Int32) (h0 : Heap) (n0 : Nat) (Z0 : n0 ≤ h0.size) (F0 : Sta Z h0 "java/lang/String" "COMPACT_STRINGS" "Z" (.int cs)) (hcs : ¬ (cs = (0 : Int32))) (hp : ¬ ((255 : Int32) < p1)) :
    MetFree l (⟨"java/lang/String", "valueOf", "(C)Ljava/lang/String;"⟩ : MethodName) (head1 (Jvm.Cond.code (⟨"java/lang/String", "valueOf", "(C)Ljava/lang/String;"⟩ : MethodName) jdk_42_method_139_code 1 (some (.object "java/lang/String")) :: ws) ({ frames := 2, cells := 2, slots := 5, locals := 27 } : Room)) (fun a U => a = #[(.int p1)] ∧ Z.Warmed39 U.vm ∧ U.heap = h0) (fun _ _ _ _ _ => True) (fun _ U o U' => ∃ v L, o = .returned v ∧ Q1 Z p1 cs h0 n0 v U'.heap L ∧ FrameEnd U o U' L ({ frames := 2, cells := 2, slots := 5, locals := 27 } : Room).cells ({ frames := 2, cells := 2, slots := 5, locals := 27 } : Room).slots) := by
  refine MetFree.of_bodySF (plainFor_of_name own_pn2) hisR ?_
  intro p e s m args below meth c s₁ Bd hml0 hP hK
  obtain ⟨rfl, hZ, hh⟩ := hP
  have hx := Bd.exec
  have hby := Bd.bytes
  have hml : c.maxLocals = 1 := hml0
  have hlk : meth.locks = false := BodyLoose.notSynchronized Bd
  have hown : s.vm.findClass "java/lang/String" = some m.cls := findClass_of_methodNamed Bd.named
  have hnm := (name_of_methodNamed Bd.named Bd.method).1
  have X0 : Stand p l e ({ frames := 2, cells := 2, slots := 5, locals := 27 } : Room) s m #[(.int p1)] below meth c s₁ [] 0 0 := Stand.of_body Bd
  have e0 : s₁.heap = h0 := by rw [← hh, Bd.state]; rfl
  have N0 := Fr.nil n0
  show own_Go p e below s (Q1 Z p1 cs h0 n0) ({ frames := 2, cells := 2, slots := 5, locals := 27 } : Room).cells ({ frames := 2, cells := 2, slots := 5, locals := 27 } : Room).slots _
  refine own_st (B := s₁.setTop (mkF m 0 #[.val (.int p1)] [])) (fun t k => castTop (ef_1 m (p1)) k) ?_
  obtain ⟨T1, X1, e1, st1⟩ := getS2 X0 hx hZ hown (host := "") (Or.inl (w_5 hw)) Via.refl e0 F0 (g := (mkF m 0 #[.val (.int p1)] [])) rfl (hb hby d1_0)
  refine own_st (B := T1.setTop (mkF m 3 #[.val (.int p1)] [(.int cs)])) (fun t k => st1 t k) ?_
  refine own_st (B := T1.setTop (mkF m 6 #[.val (.int p1)] [])) (fun t k => XS.ifNo X1.here hx rfl (hb hby d1_3) rfl (XT.i0_eq_f hcs) k) ?_
  refine own_st (B := T1.setTop (mkF m 7 #[.val (.int p1)] [(.int p1)])) (fun t k => XS.iloadN X1.here hx rfl (hb hby d1_6) rfl k) ?_
  obtain ⟨_, _, ⟨T2, L2, k2, j2⟩, -, X2, ⟨Lc2, hQ2, l2, y2_, z2_⟩, st2⟩ := Jvm.LawKit.callS X1 hx (y := (⟨"java/lang/StringLatin1", "canEncode", "(C)Z"⟩ : MethodName)) hown (mvT hZ (w_6 hw)) (mvT hZ (w_7 hw)) (mvT hZ (w_8 hw)) (mvT hZ (w_9 hw)) (by decide) (backOf (W := 0) (rm2 l Z a0 hw [] p1 h0 n0 Z0 hp) hZ (w_9 hw) (w_8 hw) (by decide) (by decide)) (g := (mkF m 7 #[.val (.int p1)] [(.int p1)])) rfl (by rw [hml]; rfl) (argsL := [(.int p1)]) (rest := []) (lenOf own_pd2 rfl) rfl (by show 2 * 0 + _ ≤ _; exact Nat.le_of_eq rfl) (hb hby d1_7) (fun _ _ => ⟨rfl, e1, (by decide : 0 + 0 ≤ _), (by decide : 0 + 0 ≤ _)⟩)
  dsimp only [Pt.U, Pt.locs, Pt.cells, Pt.slots] at X2 l2 y2_ z2_ st2 hQ2
  subst l2 y2_ z2_
  obtain ⟨rfl, N2q, e2q⟩ := hQ2
  have N2 := Fr.app N0 N2q
  refine own_st (B := T2.setTop (mkF m 10 #[.val (.int p1)] [(.int (1 : Int32))])) (fun t k => st2 t k) ?_
  refine own_st (B := T2.setTop (mkF m 13 #[.val (.int p1)] [])) (fun t k => XS.ifNo X2.here hx rfl (hb hby d1_10) rfl (by decide) k) ?_
  obtain ⟨T3, h3, X3, e3, E3, A3, D3, -, st3⟩ := newO X2 hx hZ hown (w_10 hw) (w_11 hw) (w_3 hw) e2q (g := (mkF m 13 #[.val (.int p1)] [])) rfl (hb hby d1_13) (by decide) (by decide)
  obtain ⟨b3, g3⟩ : ∃ z, z = h0.size := ⟨_, rfl⟩
  rw [← g3] at A3 D3 st3
  have u3 : n0 ≤ b3 := Nat.le_trans Z0 (Nat.le_of_eq g3.symm)
  have y3 : h0.size ≤ b3 := Nat.le_trans (Keep.refl h0 []).1 (Nat.le_of_eq g3.symm)
  have z4 : n0 ≤ h3.size := Nat.le_trans Z0 E3.1
  have kp4 : Keep h0 h3 [] := (Keep.refl h0 []).ext E3
  have f5 : Fld Z h3 b3 "java/lang/String" "value" "[B" .null := D3 (Or.inr (w_24 hw)) (ty := (.array .byte)) (by decide)
  have f6 : Fld Z h3 b3 "java/lang/String" "coder" "B" (.int (0 : Int32)) := D3 (Or.inr (w_26 hw)) (ty := .byte) (by decide)
  refine own_st (B := T3.setTop (mkF m 16 #[.val (.int p1)] [(.ref b3)])) (fun t k => st3 t k) ?_
  refine own_st (B := T3.setTop (mkF m 17 #[.val (.int p1)] [(.ref b3), (.ref b3)])) (fun t k => XS.dup X3.here hx rfl (hb hby d1_16) rfl rfl k) ?_
  refine own_st (B := T3.setTop (mkF m 18 #[.val (.int p1)] [(.int p1), (.ref b3), (.ref b3)])) (fun t k => XS.iloadN X3.here hx rfl (hb hby d1_17) rfl k) ?_
  obtain ⟨_, _, ⟨T7, L7, k7, j7⟩, -, X7, ⟨Lc7, hQ7, l7, y7_, z7_⟩, st7⟩ := Jvm.LawKit.callS X3 hx (y := (⟨"java/lang/StringLatin1", "toBytes", "(C)[B"⟩ : MethodName)) hown (mvT hZ (w_12 hw)) (mvT hZ (w_13 hw)) (mvT hZ (w_8 hw)) (mvT hZ (w_14 hw)) (by decide) (backOf (W := 2) (rm3 l Z a0 hw [] p1 h3 n0 z4 ) hZ (w_14 hw) (w_8 hw) (by decide) (by decide)) (g := (mkF m 18 #[.val (.int p1)] [(.int p1), (.ref b3), (.ref b3)])) rfl (by rw [hml]; rfl) (argsL := [(.int p1)]) (rest := [(.ref b3), (.ref b3)]) (lenOf own_pd3 rfl) rfl (by show 2 * 0 + _ ≤ _; exact Nat.le_of_eq rfl) (hb hby d1_18) (fun _ _ => ⟨rfl, e3, (by decide : 1 + 1 ≤ _), (by decide : 4 + 1 ≤ _)⟩)
  dsimp only [Pt.U, Pt.locs, Pt.cells, Pt.slots] at X7 l7 y7_ z7_ st7 hQ7
  subst l7 y7_ z7_
  obtain ⟨b_7, rfl, N7q, K7, u7_b, y7_b⟩ := hQ7
  have N7 := Fr.app N2 N7q
  have q7_b_b3 : b3 ≠ b_7 := Nat.ne_of_lt (Nat.lt_of_lt_of_le A3.lt y7_b)
  have y8 : h0.size ≤ b_7 := Nat.le_trans kp4.1 y7_b
  have z9 : n0 ≤ T7.heap.size := Nat.le_trans z4 K7.1
  have kp9 : Keep h0 T7.heap [] := kp4.trans K7 all0
  refine own_st (B := T7.setTop (mkF m 21 #[.val (.int p1)] [(.ref b_7), (.ref b3), (.ref b3)])) (fun t k => st7 t k) ?_
  refine own_st (B := T7.setTop (mkF m 22 #[.val (.int p1)] [(.int (0 : Int32)), (.ref b_7), (.ref b3), (.ref b3)])) (fun t k => XS.iconst X7.here hx rfl (hb hby d1_21) k) ?_
  have f10 : Exa Z T7.heap b3 "java/lang/String" := (A3.keep K7)
  have f11 : Fld Z T7.heap b3 "java/lang/String" "value" "[B" .null := (f5.keep K7 nin0)
  have f12 : Fld Z T7.heap b3 "java/lang/String" "coder" "B" (.int (0 : Int32)) := (f6.keep K7 nin0)
  obtain ⟨_, _, ⟨T13, L13, k13, j13⟩, -, X13, ⟨Lc13, hQ13, l13, y13_, z13_⟩, st13⟩ := X7.specialBack hx (y := (⟨"java/lang/String", "<init>", "([BB)V"⟩ : MethodName)) rfl hown (mvT hZ (w_16 hw)) (mvT hZ (w_17 hw)) (mvT hZ (w_19 hw)) (by decide) (backOf (W := 1) (rm4 l Z a0 hw [] b3 b_7 T7.heap n0 z9 f10 f11 f12 u3) hZ (w_19 hw) (w_3 hw) (by decide) (by decide)) (g := (mkF m 22 #[.val (.int p1)] [(.int (0 : Int32)), (.ref b_7), (.ref b3), (.ref b3)])) rfl (by rw [hml]; rfl) (Steps.refl _) (a := b3) (argsL := [(.ref b_7), (.int (0 : Int32))]) (rest := [(.ref b3)]) (lenOf own_pd4 rfl) rfl (by show 2 * 0 + _ ≤ _; exact Nat.le_of_eq rfl) (hb hby d1_22) (fun _ _ => ⟨rfl, rfl, (by decide : 2 + 0 ≤ _), (by decide : 5 + 0 ≤ _)⟩)
  dsimp only [Pt.U, Pt.locs, Pt.cells, Pt.slots] at X13 l13 y13_ z13_ st13 hQ13
  subst l13 y13_ z13_
  obtain ⟨rfl, N13q, K13, p13_0⟩ := hQ13
  have N13 := Fr.app N7 N13q
  have z14 : n0 ≤ T13.heap.size := Nat.le_trans z9 K13.1
  have kp14 : Keep h0 T13.heap [] := kp9.trans K13 (allS (Or.inr y3) all0)
  refine own_ss (B := T13.setTop (mkF m 25 #[.val (.int p1)] [(.ref b3)])) st13 ?_
  refine own_retR X13 hx hlk (t := (.object "java/lang/String")) Bd.returns rfl rfl rfl (hb hby d1_25) (by decide) (by decide) ?_
  show Q1 Z p1 cs h0 n0 _ T13.heap _
  exact ⟨b3, rfl, N13, kp14, u3, y3⟩
theorem own_pn3 : plainName "java/lang/Record" = true := by first | (simp [plainName, overriddenIn]; done) | decide +kernel
theorem d7_0 : decode jdk_30_method_1_code 0 = .ok (.aload_n 0, 1) := by decide +kernel
theorem d7_1 : decode jdk_30_method_1_code 1 = .ok (.invokespecial 1, 3) := by decide +kernel
theorem d7_4 : decode jdk_30_method_1_code 4 = .ok (.return_, 1) := by decide +kernel
theorem ef_7 (m : MethodId) (x0 : Addr) : entryFrame m #[(.ref x0)] 1 = mkF m 0 #[.val (.ref x0)] [] := by first | (simp [entryFrame, mkF, argsToLocals, Value.category]; done) | rfl
def Q7 (Z : State) (a1 : Addr) (h0 : Heap) (n0 : Nat) (v : Option Value) (h : Heap) (L : List Loc) : Prop := v = none ∧ Fr n0 L ∧ h = h0
set_option maxHeartbeats 40000000 in
theorem rm7 (l : Launch) (Z : State) (a0 : Array Value) (hw : ∀ d ∈ tables_1, d.before a0 Z = true) (ws : List Jvm.Cond) (a1 : Addr) (h0 : Heap) (n0 : Nat) (Z0 : n0 ≤ h0.size) :
    MetFree l (⟨"java/lang/Record", "<init>", "()V"⟩ : MethodName) (head1 (Jvm.Cond.code (⟨"java/lang/Record", "<init>", "()V"⟩ : MethodName) jdk_30_method_1_code 1 none :: ws) ({ frames := 1, cells := 0, slots := 0, locals := 12 } : Room)) (fun a U => a = #[(.ref a1)] ∧ Z.Warmed39 U.vm ∧ U.heap = h0) (fun _ _ _ _ _ => True) (fun _ U o U' => ∃ v L, o = .returned v ∧ Q7 Z a1 h0 n0 v U'.heap L ∧ FrameEnd U o U' L ({ frames := 1, cells := 0, slots := 0, locals := 12 } : Room).cells ({ frames := 1, cells := 0, slots := 0, locals := 12 } : Room).slots) := by
  refine MetFree.of_bodySF (plainFor_of_name own_pn3) hisR ?_
  intro p e s m args below meth c s₁ Bd hml0 hP hK
  obtain ⟨rfl, hZ, hh⟩ := hP
  have hx := Bd.exec
  have hby := Bd.bytes
  have hml : c.maxLocals = 1 := hml0
  have hlk : meth.locks = false := BodyLoose.notSynchronized Bd
  have hown : s.vm.findClass "java/lang/Record" = some m.cls := findClass_of_methodNamed Bd.named
  have hnm := (name_of_methodNamed Bd.named Bd.method).1
  have X0 : Stand p l e ({ frames := 1, cells := 0, slots := 0, locals := 12 } : Room) s m #[(.ref a1)] below meth c s₁ [] 0 0 := Stand.of_body Bd
  have e0 : s₁.heap = h0 := by rw [← hh, Bd.state]; rfl
  have N0 := Fr.nil n0
  show own_Go p e below s (Q7 Z a1 h0 n0) ({ frames := 1, cells := 0, slots := 0, locals := 12 } : Room).cells ({ frames := 1, cells := 0, slots := 0, locals := 12 } : Room).slots _
  refine own_st (B := s₁.setTop (mkF m 0 #[.val (.ref a1)] [])) (fun t k => castTop (ef_7 m (a1)) k) ?_
  refine own_st (B := s₁.setTop (mkF m 1 #[.val (.ref a1)] [(.ref a1)])) (fun t k => XS.aloadN X0.here hx rfl (hb hby d7_0) rfl rfl k) ?_
  obtain ⟨T1, X1, e1, st1⟩ := initO X0 hx hZ hown (w_38 hw) (w_21 hw) (w_22 hw) e0 (g := (mkF m 1 #[.val (.ref a1)] [(.ref a1)])) rfl (by rw [hml]; rfl) rfl (hb hby d7_1) (by decide) (W := 0) (by show 2 * 0 + _ ≤ _; exact Nat.le_of_eq rfl) (by decide)
  refine own_st (B := T1.setTop (mkF m 4 #[.val (.ref a1)] [])) (fun t k => st1 t k) ?_
  refine own_retV X1 hx hlk Bd.returns (hb hby d7_4) (by decide) (by decide) ?_
  show Q7 Z a1 h0 n0 _ T1.heap _
  rw [e1]
  exact ⟨rfl, N0, rfl⟩
theorem own_pd6 : parseMethodDescriptor "()V" = some ⟨[], none⟩ := by decide +kernel
theorem own_pn4 : plainName "com/example/stockwright/stockwright/model/RememberedAnswer" = true := by first | (simp [plainName, overriddenIn]; done) | decide +kernel
theorem d6_0 : decode prog_20_method_1_code 0 = .ok (.aload_n 0, 1) := by decide +kernel
theorem d6_1 : decode prog_20_method_1_code 1 = .ok (.invokespecial 1, 3) := by decide +kernel
theorem d6_4 : decode prog_20_method_1_code 4 = .ok (.aload_n 0, 1) := by decide +kernel
theorem d6_5 : decode prog_20_method_1_code 5 = .ok (.iload_n 1, 1) := by decide +kernel
theorem d6_6 : decode prog_20_method_1_code 6 = .ok (.putfield 7, 3) := by decide +kernel
theorem d6_9 : decode prog_20_method_1_code 9 = .ok (.aload_n 0, 1) := by decide +kernel
theorem d6_10 : decode prog_20_method_1_code 10 = .ok (.aload_n 2, 1) := by decide +kernel
theorem d6_11 : decode prog_20_method_1_code 11 = .ok (.putfield 13, 3) := by decide +kernel
theorem d6_14 : decode prog_20_method_1_code 14 = .ok (.aload_n 0, 1) := by decide +kernel
theorem d6_15 : decode prog_20_method_1_code 15 = .ok (.aload_n 3, 1) := by decide +kernel
theorem d6_16 : decode prog_20_method_1_code 16 = .ok (.putfield 17, 3) := by decide +kernel
theorem d6_19 : decode prog_20_method_1_code 19 = .ok (.aload_n 0, 1) := by decide +kernel
theorem d6_20 : decode prog_20_method_1_code 20 = .ok (.aload 4, 2) := by decide +kernel
theorem d6_22 : decode prog_20_method_1_code 22 = .ok (.putfield 20, 3) := by decide +kernel
theorem d6_25 : decode prog_20_method_1_code 25 = .ok (.return_, 1) := by decide +kernel
theorem ef_6a (m : MethodId) (x0 : Addr) (x1 : Int32) (x4 : Addr) : entryFrame m #[(.ref x0), (.int x1), .null, .null, (.ref x4)] 5 = mkF m 0 #[.val (.ref x0), .val (.int x1), .val .null, .val .null, .val (.ref x4)] [] := by first | (simp [entryFrame, mkF, argsToLocals, Value.category]; done) | rfl
def Q6a (Z : State) (a1 : Addr) (p1 : Int32) (a4 : Addr) (h0 : Heap) (n0 : Nat) (v : Option Value) (h : Heap) (L : List Loc) : Prop := v = none ∧ Fr n0 L ∧ Keep h0 h [a1] ∧ Exa Z h a1 "com/example/stockwright/stockwright/model/RememberedAnswer" ∧ Fld Z h a1 "com/example/stockwright/stockwright/model/RememberedAnswer" "status" "I" (.int p1)
set_option maxHeartbeats 40000000 in
theorem rm6a (l : Launch) (Z : State) (a0 : Array Value) (hw : ∀ d ∈ tables_1, d.before a0 Z = true) (ws : List Jvm.Cond) (a1 : Addr) (p1 : Int32) (a4 : Addr) (h0 : Heap) (n0 : Nat) (Z0 : n0 ≤ h0.size) (F0 : Exa Z h0 a1 "com/example/stockwright/stockwright/model/RememberedAnswer") (F1 : Fld Z h0 a1 "com/example/stockwright/stockwright/model/RememberedAnswer" "status" "I" (.int (0 : Int32))) (F2 : Fld Z h0 a1 "com/example/stockwright/stockwright/model/RememberedAnswer" "contentType" "Ljava/lang/String;" .null) (F3 : Fld Z h0 a1 "com/example/stockwright/stockwright/model/RememberedAnswer" "location" "Ljava/lang/String;" .null) (F4 : Fld Z h0 a1 "com/example/stockwright/stockwright/model/RememberedAnswer" "body" "[B" .null) (ga : n0 ≤ a1) :
    MetFree l (⟨"com/example/stockwright/stockwright/model/RememberedAnswer", "<init>", "(ILjava/lang/String;Ljava/lang/String;[B)V"⟩ : MethodName) (head1 (Jvm.Cond.code (⟨"com/example/stockwright/stockwright/model/RememberedAnswer", "<init>", "(ILjava/lang/String;Ljava/lang/String;[B)V"⟩ : MethodName) prog_20_method_1_code 5 none :: ws) ({ frames := 2, cells := 0, slots := 0, locals := 24 } : Room)) (fun a U => a = #[(.ref a1), (.int p1), .null, .null, (.ref a4)] ∧ Z.Warmed39 U.vm ∧ U.heap = h0) (fun _ _ _ _ _ => True) (fun _ U o U' => ∃ v L, o = .returned v ∧ Q6a Z a1 p1 a4 h0 n0 v U'.heap L ∧ FrameEnd U o U' L ({ frames := 2, cells := 0, slots := 0, locals := 24 } : Room).cells ({ frames := 2, cells := 0, slots := 0, locals := 24 } : Room).slots) := by
  refine MetFree.of_bodySF (plainFor_of_name own_pn4) hisR ?_
  intro p e s m args below meth c s₁ Bd hml0 hP hK
  obtain ⟨rfl, hZ, hh⟩ := hP
  have hx := Bd.exec
  have hby := Bd.bytes
  have hml : c.maxLocals = 5 := hml0
  have hlk : meth.locks = false := BodyLoose.notSynchronized Bd
  have hown : s.vm.findClass "com/example/stockwright/stockwright/model/RememberedAnswer" = some m.cls := findClass_of_methodNamed Bd.named
  have hnm := (name_of_methodNamed Bd.named Bd.method).1
  have X0 : Stand p l e ({ frames := 2, cells := 0, slots := 0, locals := 24 } : Room) s m #[(.ref a1), (.int p1), .null, .null, (.ref a4)] below meth c s₁ [] 0 0 := Stand.of_body Bd
  have e0 : s₁.heap = h0 := by rw [← hh, Bd.state]; rfl
  have N0 := Fr.nil n0
  show own_Go p e below s (Q6a Z a1 p1 a4 h0 n0) ({ frames := 2, cells := 0, slots := 0, locals := 24 } : Room).cells ({ frames := 2, cells := 0, slots := 0, locals := 24 } : Room).slots _
  refine own_st (B := s₁.setTop (mkF m 0 #[.val (.ref a1), .val (.int p1), .val .null, .val .null, .val (.ref a4)] [])) (fun t k => castTop (ef_6a m (a1) (p1) (a4)) k) ?_
  refine own_st (B := s₁.setTop (mkF m 1 #[.val (.ref a1), .val (.int p1), .val .null, .val .null, .val (.ref a4)] [(.ref a1)])) (fun t k => XS.aloadN X0.here hx rfl (hb hby d6_0) rfl rfl k) ?_
  obtain ⟨_, _, ⟨T1, L1, k1, j1⟩, -, X1, ⟨Lc1, hQ1, l1, y1_, z1_⟩, st1⟩ := X0.specialBack hx (y := (⟨"java/lang/Record", "<init>", "()V"⟩ : MethodName)) rfl hown (mvT hZ (w_33 hw)) (mvT hZ (w_34 hw)) (mvT hZ (w_37 hw)) (by decide) (backOf (W := 0) (rm7 l Z a0 hw [] a1 h0 n0 Z0 ) hZ (w_37 hw) (w_36 hw) (by decide) (by decide)) (g := (mkF m 1 #[.val (.ref a1), .val (.int p1), .val .null, .val .null, .val (.ref a4)] [(.ref a1)])) rfl (by rw [hml]; rfl) (Steps.refl _) (a := a1) (argsL := []) (rest := []) (lenOf own_pd6 rfl) rfl (by show 2 * 0 + _ ≤ _; exact Nat.le_of_eq rfl) (hb hby d6_1) (fun _ _ => ⟨rfl, e0, (by decide : 0 + 0 ≤ _), (by decide : 0 + 0 ≤ _)⟩)
  dsimp only [Pt.U, Pt.locs, Pt.cells, Pt.slots] at X1 l1 y1_ z1_ st1 hQ1
  subst l1 y1_ z1_
  obtain ⟨rfl, N1q, e1q⟩ := hQ1
  have N1 := Fr.app N0 N1q
  refine own_ss (B := T1.setTop (mkF m 4 #[.val (.ref a1), .val (.int p1), .val .null, .val .null, .val (.ref a4)] [])) st1 ?_
  refine own_st (B := T1.setTop (mkF m 5 #[.val (.ref a1), .val (.int p1), .val .null, .val .null, .val (.ref a4)] [(.ref a1)])) (fun t k => XS.aloadN X1.here hx rfl (hb hby d6_4) rfl rfl k) ?_
  refine own_st (B := T1.setTop (mkF m 6 #[.val (.ref a1), .val (.int p1), .val .null, .val .null, .val (.ref a4)] [(.int p1), (.ref a1)])) (fun t k => XS.iloadN X1.here hx rfl (hb hby d6_5) rfl k) ?_
  obtain ⟨T2, h2, X2, e2, W2, st2⟩ := putF X1 hx hZ hown (host := "") (Or.inl (w_39 hw)) Via.refl e1q F1 F0 (Or.inr ⟨(w_40 hw), rfl, hnm⟩) (w_28 hw) (ty := .int) (by decide) rfl rfl (g := (mkF m 6 #[.val (.ref a1), .val (.int p1), .val .null, .val .null, .val (.ref a4)] [(.int p1), (.ref a1)])) rfl rfl (hb hby d6_6)
  have f2_ : Fld Z h2 a1 "com/example/stockwright/stockwright/model/RememberedAnswer" "status" "I" (.int p1) := F1.same W2
  have z3 : n0 ≤ h2.size := Nat.le_trans Z0 (Keep.of_wr W2).1
  have kp3 : Keep h0 h2 [a1] := (Keep.refl h0 [a1]).wr W2 (Or.inl (List.mem_of_getElem? (i := 0) rfl))
  have n4 := Fr.snoc X2 N1 ga
  refine own_st (B := T2.setTop (mkF m 9 #[.val (.ref a1), .val (.int p1), .val .null, .val .null, .val (.ref a4)] [])) (fun t k => st2 t k) ?_
  refine own_st (B := T2.setTop (mkF m 10 #[.val (.ref a1), .val (.int p1), .val .null, .val .null, .val (.ref a4)] [(.ref a1)])) (fun t k => XS.aloadN X2.here hx rfl (hb hby d6_9) rfl rfl k) ?_
  refine own_st (B := T2.setTop (mkF m 11 #[.val (.ref a1), .val (.int p1), .val .null, .val .null, .val (.ref a4)] [.null, (.ref a1)])) (fun t k => XS.aloadN X2.here hx rfl (hb hby d6_10) rfl rfl k) ?_
  have f5 : Exa Z h2 a1 "com/example/stockwright/stockwright/model/RememberedAnswer" := (F0.wr W2)
  have f6 : Fld Z h2 a1 "com/example/stockwright/stockwright/model/RememberedAnswer" "contentType" "Ljava/lang/String;" .null := (F2.other W2 (Or.inr (slot_ne (Or.inr (w_42 hw)) (Or.inr (w_40 hw)) (by decide) (t := (.object "java/lang/String")) (t' := .int) (by decide) (by decide))))
  obtain ⟨T7, h7, X7, e7, W7, st7⟩ := putF X2 hx hZ hown (host := "") (Or.inl (w_41 hw)) Via.refl e2 f6 f5 (Or.inr ⟨(w_42 hw), rfl, hnm⟩) (w_28 hw) (ty := (.object "java/lang/String")) (by decide) rfl rfl (g := (mkF m 11 #[.val (.ref a1), .val (.int p1), .val .null, .val .null, .val (.ref a4)] [.null, (.ref a1)])) rfl rfl (hb hby d6_11)
  have f7_ : Fld Z h7 a1 "com/example/stockwright/stockwright/model/RememberedAnswer" "contentType" "Ljava/lang/String;" .null := f6.same W7
  have z8 : n0 ≤ h7.size := Nat.le_trans z3 (Keep.of_wr W7).1
  have kp8 : Keep h0 h7 [a1] := kp3.wr W7 (Or.inl (List.mem_of_getElem? (i := 0) rfl))
  have n9 := Fr.snoc X7 n4 ga
  refine own_st (B := T7.setTop (mkF m 14 #[.val (.ref a1), .val (.int p1), .val .null, .val .null, .val (.ref a4)] [])) (fun t k => st7 t k) ?_
  refine own_st (B := T7.setTop (mkF m 15 #[.val (.ref a1), .val (.int p1), .val .null, .val .null, .val (.ref a4)] [(.ref a1)])) (fun t k => XS.aloadN X7.here hx rfl (hb hby d6_14) rfl rfl k) ?_
  refine own_st (B := T7.setTop (mkF m 16 #[.val (.ref a1), .val (.int p1), .val .null, .val .null, .val (.ref a4)] [.null, (.ref a1)])) (fun t k => XS.aloadN X7.here hx rfl (hb hby d6_15) rfl rfl k) ?_
  have f10 : Exa Z h7 a1 "com/example/stockwright/stockwright/model/RememberedAnswer" := (f5.wr W7)
  have f11 : Fld Z h7 a1 "com/example/stockwright/stockwright/model/RememberedAnswer" "location" "Ljava/lang/String;" .null := ((F3.other W2 (Or.inr (slot_ne (Or.inr (w_44 hw)) (Or.inr (w_40 hw)) (by decide) (t := (.object "java/lang/String")) (t' := .int) (by decide) (by decide)))).other W7 (Or.inr (slot_ne (Or.inr (w_44 hw)) (Or.inr (w_42 hw)) (by decide) (t := (.object "java/lang/String")) (t' := (.object "java/lang/String")) (by decide) (by decide))))
  obtain ⟨T12, h12, X12, e12, W12, st12⟩ := putF X7 hx hZ hown (host := "") (Or.inl (w_43 hw)) Via.refl e7 f11 f10 (Or.inr ⟨(w_44 hw), rfl, hnm⟩) (w_28 hw) (ty := (.object "java/lang/String")) (by decide) rfl rfl (g := (mkF m 16 #[.val (.ref a1), .val (.int p1), .val .null, .val .null, .val (.ref a4)] [.null, (.ref a1)])) rfl rfl (hb hby d6_16)
  have f12_ : Fld Z h12 a1 "com/example/stockwright/stockwright/model/RememberedAnswer" "location" "Ljava/lang/String;" .null := f11.same W12
  have z13 : n0 ≤ h12.size := Nat.le_trans z8 (Keep.of_wr W12).1
  have kp13 : Keep h0 h12 [a1] := kp8.wr W12 (Or.inl (List.mem_of_getElem? (i := 0) rfl))
  have n14 := Fr.snoc X12 n9 ga
  refine own_st (B := T12.setTop (mkF m 19 #[.val (.ref a1), .val (.int p1), .val .null, .val .null, .val (.ref a4)] [])) (fun t k => st12 t k) ?_
  refine own_st (B := T12.setTop (mkF m 20 #[.val (.ref a1), .val (.int p1), .val .null, .val .null, .val (.ref a4)] [(.ref a1)])) (fun t k => XS.aloadN X12.here hx rfl (hb hby d6_19) rfl rfl k) ?_
  refine own_st (B := T12.setTop (mkF m 22 #[.val (.ref a1), .val (.int p1), .val .null, .val .null, .val (.ref a4)] [(.ref a4), (.ref a1)])) (fun t k => XS.aload X12.here hx rfl (hb hby d6_20) rfl rfl k) ?_
  have f15 : Exa Z h12 a1 "com/example/stockwright/stockwright/model/RememberedAnswer" := (f10.wr W12)
  have f16 : Fld Z h12 a1 "com/example/stockwright/stockwright/model/RememberedAnswer" "body" "[B" .null := (((F4.other W2 (Or.inr (slot_ne (Or.inr (w_46 hw)) (Or.inr (w_40 hw)) (by decide) (t := (.array .byte)) (t' := .int) (by decide) (by decide)))).other W7 (Or.inr (slot_ne (Or.inr (w_46 hw)) (Or.inr (w_42 hw)) (by decide) (t := (.array .byte)) (t' := (.object "java/lang/String")) (by decide) (by decide)))).other W12 (Or.inr (slot_ne (Or.inr (w_46 hw)) (Or.inr (w_44 hw)) (by decide) (t := (.array .byte)) (t' := (.object "java/lang/String")) (by decide) (by decide))))
  obtain ⟨T17, h17, X17, e17, W17, st17⟩ := putF X12 hx hZ hown (host := "") (Or.inl (w_45 hw)) Via.refl e12 f16 f15 (Or.inr ⟨(w_46 hw), rfl, hnm⟩) (w_28 hw) (ty := (.array .byte)) (by decide) rfl rfl (g := (mkF m 22 #[.val (.ref a1), .val (.int p1), .val .null, .val .null, .val (.ref a4)] [(.ref a4), (.ref a1)])) rfl rfl (hb hby d6_22)
  have f17_ : Fld Z h17 a1 "com/example/stockwright/stockwright/model/RememberedAnswer" "body" "[B" (.ref a4) := f16.same W17
  have z18 : n0 ≤ h17.size := Nat.le_trans z13 (Keep.of_wr W17).1
  have kp18 : Keep h0 h17 [a1] := kp13.wr W17 (Or.inl (List.mem_of_getElem? (i := 0) rfl))
  have n19 := Fr.snoc X17 n14 ga
  refine own_st (B := T17.setTop (mkF m 25 #[.val (.ref a1), .val (.int p1), .val .null, .val .null, .val (.ref a4)] [])) (fun t k => st17 t k) ?_
  refine own_retV X17 hx hlk Bd.returns (hb hby d6_25) (by decide) (by decide) ?_
  show Q6a Z a1 p1 a4 h0 n0 _ T17.heap _
  rw [e17]
  have f20 : Exa Z h17 a1 "com/example/stockwright/stockwright/model/RememberedAnswer" := (f15.wr W17)
  have f21 : Fld Z h17 a1 "com/example/stockwright/stockwright/model/RememberedAnswer" "status" "I" (.int p1) := (((f2_.other W7 (Or.inr (slot_ne (Or.inr (w_40 hw)) (Or.inr (w_42 hw)) (by decide) (t := .int) (t' := (.object "java/lang/String")) (by decide) (by decide)))).other W12 (Or.inr (slot_ne (Or.inr (w_40 hw)) (Or.inr (w_44 hw)) (by decide) (t := .int) (t' := (.object "java/lang/String")) (by decide) (by decide)))).other W17 (Or.inr (slot_ne (Or.inr (w_40 hw)) (Or.inr (w_46 hw)) (by decide) (t := .int) (t' := (.array .byte)) (by decide) (by decide))))
  exact ⟨rfl, n19, kp18, f20, f21⟩
theorem ef_6b (m : MethodId) (x0 : Addr) (x1 : Int32) (x3 : Addr) (x4 : Addr) : entryFrame m #[(.ref x0), (.int x1), .null, (.ref x3), (.ref x4)] 5 = mkF m 0 #[.val (.ref x0), .val (.int x1), .val .null, .val (.ref x3), .val (.ref x4)] [] := by first | (simp [entryFrame, mkF, argsToLocals, Value.category]; done) | rfl
def Q6b (Z : State) (a1 : Addr) (p1 : Int32) (a3 : Addr) (a4 : Addr) (h0 : Heap) (n0 : Nat) (v : Option Value) (h : Heap) (L : List Loc) : Prop := v = none ∧ Fr n0 L ∧ Keep h0 h [a1] ∧ Exa Z h a1 "com/example/stockwright/stockwright/model/RememberedAnswer" ∧ Fld Z h a1 "com/example/stockwright/stockwright/model/RememberedAnswer" "status" "I" (.int p1)
set_option maxHeartbeats 40000000 in
theorem rm6b (l : Launch) (Z : State) (a0 : Array Value) (hw : ∀ d ∈ tables_1, d.before a0 Z = true) (ws : List Jvm.Cond) (a1 : Addr) (p1 : Int32) (a3 : Addr) (a4 : Addr) (h0 : Heap) (n0 : Nat) (Z0 : n0 ≤ h0.size) (F0 : Exa Z h0 a1 "com/example/stockwright/stockwright/model/RememberedAnswer") (F1 : Fld Z h0 a1 "com/example/stockwright/stockwright/model/RememberedAnswer" "status" "I" (.int (0 : Int32))) (F2 : Fld Z h0 a1 "com/example/stockwright/stockwright/model/RememberedAnswer" "contentType" "Ljava/lang/String;" .null) (F3 : Fld Z h0 a1 "com/example/stockwright/stockwright/model/RememberedAnswer" "location" "Ljava/lang/String;" .null) (F4 : Fld Z h0 a1 "com/example/stockwright/stockwright/model/RememberedAnswer" "body" "[B" .null) (ga : n0 ≤ a1) :
    MetFree l (⟨"com/example/stockwright/stockwright/model/RememberedAnswer", "<init>", "(ILjava/lang/String;Ljava/lang/String;[B)V"⟩ : MethodName) (head1 (Jvm.Cond.code (⟨"com/example/stockwright/stockwright/model/RememberedAnswer", "<init>", "(ILjava/lang/String;Ljava/lang/String;[B)V"⟩ : MethodName) prog_20_method_1_code 5 none :: ws) ({ frames := 2, cells := 0, slots := 0, locals := 24 } : Room)) (fun a U => a = #[(.ref a1), (.int p1), .null, (.ref a3), (.ref a4)] ∧ Z.Warmed39 U.vm ∧ U.heap = h0) (fun _ _ _ _ _ => True) (fun _ U o U' => ∃ v L, o = .returned v ∧ Q6b Z a1 p1 a3 a4 h0 n0 v U'.heap L ∧ FrameEnd U o U' L ({ frames := 2, cells := 0, slots := 0, locals := 24 } : Room).cells ({ frames := 2, cells := 0, slots := 0, locals := 24 } : Room).slots) := by
  refine MetFree.of_bodySF (plainFor_of_name own_pn4) hisR ?_
  intro p e s m args below meth c s₁ Bd hml0 hP hK
  obtain ⟨rfl, hZ, hh⟩ := hP
  have hx := Bd.exec
  have hby := Bd.bytes
  have hml : c.maxLocals = 5 := hml0
  have hlk : meth.locks = false := BodyLoose.notSynchronized Bd
  have hown : s.vm.findClass "com/example/stockwright/stockwright/model/RememberedAnswer" = some m.cls := findClass_of_methodNamed Bd.named
  have hnm := (name_of_methodNamed Bd.named Bd.method).1
  have X0 : Stand p l e ({ frames := 2, cells := 0, slots := 0, locals := 24 } : Room) s m #[(.ref a1), (.int p1), .null, (.ref a3), (.ref a4)] below meth c s₁ [] 0 0 := Stand.of_body Bd
  have e0 : s₁.heap = h0 := by rw [← hh, Bd.state]; rfl
  have N0 := Fr.nil n0
  show own_Go p e below s (Q6b Z a1 p1 a3 a4 h0 n0) ({ frames := 2, cells := 0, slots := 0, locals := 24 } : Room).cells ({ frames := 2, cells := 0, slots := 0, locals := 24 } : Room).slots _
  refine own_st (B := s₁.setTop (mkF m 0 #[.val (.ref a1), .val (.int p1), .val .null, .val (.ref a3), .val (.ref a4)] [])) (fun t k => castTop (ef_6b m (a1) (p1) (a3) (a4)) k) ?_
  refine own_st (B := s₁.setTop (mkF m 1 #[.val (.ref a1), .val (.int p1), .val .null, .val (.ref a3), .val (.ref a4)] [(.ref a1)])) (fun t k => XS.aloadN X0.here hx rfl (hb hby d6_0) rfl rfl k) ?_
  obtain ⟨_, _, ⟨T1, L1, k1, j1⟩, -, X1, ⟨Lc1, hQ1, l1, y1_, z1_⟩, st1⟩ := X0.specialBack hx (y := (⟨"java/lang/Record", "<init>", "()V"⟩ : MethodName)) rfl hown (mvT hZ (w_33 hw)) (mvT hZ (w_34 hw)) (mvT hZ (w_37 hw)) (by decide) (backOf (W := 0) (rm7 l Z a0 hw [] a1 h0 n0 Z0 ) hZ (w_37 hw) (w_36 hw) (by decide) (by decide)) (g := (mkF m 1 #[.val (.ref a1), .val (.int p1), .val .null, .val (.ref a3), .val (.ref a4)] [(.ref a1)])) rfl (by rw [hml]; rfl) (Steps.refl _) (a := a1) (argsL := []) (rest := []) (lenOf own_pd6 rfl) rfl (by show 2 * 0 + _ ≤ _; exact Nat.le_of_eq rfl) (hb hby d6_1) (fun _ _ => ⟨rfl, e0, (by decide : 0 + 0 ≤ _), (by decide : 0 + 0 ≤ _)⟩)
  dsimp only [Pt.U, Pt.locs, Pt.cells, Pt.slots] at X1 l1 y1_ z1_ st1 hQ1
  subst l1 y1_ z1_
  obtain ⟨rfl, N1q, e1q⟩ := hQ1
  have N1 := Fr.app N0 N1q
  refine own_ss (B := T1.setTop (mkF m 4 #[.val (.ref a1), .val (.int p1), .val .null, .val (.ref a3), .val (.ref a4)] [])) st1 ?_
  refine own_st (B := T1.setTop (mkF m 5 #[.val (.ref a1), .val (.int p1), .val .null, .val (.ref a3), .val (.ref a4)] [(.ref a1)])) (fun t k => XS.aloadN X1.here hx rfl (hb hby d6_4) rfl rfl k) ?_
  refine own_st (B := T1.setTop (mkF m 6 #[.val (.ref a1), .val (.int p1), .val .null, .val (.ref a3), .val (.ref a4)] [(.int p1), (.ref a1)])) (fun t k => XS.iloadN X1.here hx rfl (hb hby d6_5) rfl k) ?_
  obtain ⟨T2, h2, X2, e2, W2, st2⟩ := putF X1 hx hZ hown (host := "") (Or.inl (w_39 hw)) Via.refl e1q F1 F0 (Or.inr ⟨(w_40 hw), rfl, hnm⟩) (w_28 hw) (ty := .int) (by decide) rfl rfl (g := (mkF m 6 #[.val (.ref a1), .val (.int p1), .val .null, .val (.ref a3), .val (.ref a4)] [(.int p1), (.ref a1)])) rfl rfl (hb hby d6_6)
  have f2_ : Fld Z h2 a1 "com/example/stockwright/stockwright/model/RememberedAnswer" "status" "I" (.int p1) := F1.same W2
  have z3 : n0 ≤ h2.size := Nat.le_trans Z0 (Keep.of_wr W2).1
  have kp3 : Keep h0 h2 [a1] := (Keep.refl h0 [a1]).wr W2 (Or.inl (List.mem_of_getElem? (i := 0) rfl))
  have n4 := Fr.snoc X2 N1 ga
  refine own_st (B := T2.setTop (mkF m 9 #[.val (.ref a1), .val (.int p1), .val .null, .val (.ref a3), .val (.ref a4)] [])) (fun t k => st2 t k) ?_
  refine own_st (B := T2.setTop (mkF m 10 #[.val (.ref a1), .val (.int p1), .val .null, .val (.ref a3), .val (.ref a4)] [(.ref a1)])) (fun t k => XS.aloadN X2.here hx rfl (hb hby d6_9) rfl rfl k) ?_
  refine own_st (B := T2.setTop (mkF m 11 #[.val (.ref a1), .val (.int p1), .val .null, .val (.ref a3), .val (.ref a4)] [.null, (.ref a1)])) (fun t k => XS.aloadN X2.here hx rfl (hb hby d6_10) rfl rfl k) ?_
  have f5 : Exa Z h2 a1 "com/example/stockwright/stockwright/model/RememberedAnswer" := (F0.wr W2)
  have f6 : Fld Z h2 a1 "com/example/stockwright/stockwright/model/RememberedAnswer" "contentType" "Ljava/lang/String;" .null := (F2.other W2 (Or.inr (slot_ne (Or.inr (w_42 hw)) (Or.inr (w_40 hw)) (by decide) (t := (.object "java/lang/String")) (t' := .int) (by decide) (by decide))))
  obtain ⟨T7, h7, X7, e7, W7, st7⟩ := putF X2 hx hZ hown (host := "") (Or.inl (w_41 hw)) Via.refl e2 f6 f5 (Or.inr ⟨(w_42 hw), rfl, hnm⟩) (w_28 hw) (ty := (.object "java/lang/String")) (by decide) rfl rfl (g := (mkF m 11 #[.val (.ref a1), .val (.int p1), .val .null, .val (.ref a3), .val (.ref a4)] [.null, (.ref a1)])) rfl rfl (hb hby d6_11)
  have f7_ : Fld Z h7 a1 "com/example/stockwright/stockwright/model/RememberedAnswer" "contentType" "Ljava/lang/String;" .null := f6.same W7
  have z8 : n0 ≤ h7.size := Nat.le_trans z3 (Keep.of_wr W7).1
  have kp8 : Keep h0 h7 [a1] := kp3.wr W7 (Or.inl (List.mem_of_getElem? (i := 0) rfl))
  have n9 := Fr.snoc X7 n4 ga
  refine own_st (B := T7.setTop (mkF m 14 #[.val (.ref a1), .val (.int p1), .val .null, .val (.ref a3), .val (.ref a4)] [])) (fun t k => st7 t k) ?_
  refine own_st (B := T7.setTop (mkF m 15 #[.val (.ref a1), .val (.int p1), .val .null, .val (.ref a3), .val (.ref a4)] [(.ref a1)])) (fun t k => XS.aloadN X7.here hx rfl (hb hby d6_14) rfl rfl k) ?_
  refine own_st (B := T7.setTop (mkF m 16 #[.val (.ref a1), .val (.int p1), .val .null, .val (.ref a3), .val (.ref a4)] [(.ref a3), (.ref a1)])) (fun t k => XS.aloadN X7.here hx rfl (hb hby d6_15) rfl rfl k) ?_
  have f10 : Exa Z h7 a1 "com/example/stockwright/stockwright/model/RememberedAnswer" := (f5.wr W7)
  have f11 : Fld Z h7 a1 "com/example/stockwright/stockwright/model/RememberedAnswer" "location" "Ljava/lang/String;" .null := ((F3.other W2 (Or.inr (slot_ne (Or.inr (w_44 hw)) (Or.inr (w_40 hw)) (by decide) (t := (.object "java/lang/String")) (t' := .int) (by decide) (by decide)))).other W7 (Or.inr (slot_ne (Or.inr (w_44 hw)) (Or.inr (w_42 hw)) (by decide) (t := (.object "java/lang/String")) (t' := (.object "java/lang/String")) (by decide) (by decide))))
  obtain ⟨T12, h12, X12, e12, W12, st12⟩ := putF X7 hx hZ hown (host := "") (Or.inl (w_43 hw)) Via.refl e7 f11 f10 (Or.inr ⟨(w_44 hw), rfl, hnm⟩) (w_28 hw) (ty := (.object "java/lang/String")) (by decide) rfl rfl (g := (mkF m 16 #[.val (.ref a1), .val (.int p1), .val .null, .val (.ref a3), .val (.ref a4)] [(.ref a3), (.ref a1)])) rfl rfl (hb hby d6_16)
  have f12_ : Fld Z h12 a1 "com/example/stockwright/stockwright/model/RememberedAnswer" "location" "Ljava/lang/String;" (.ref a3) := f11.same W12
  have z13 : n0 ≤ h12.size := Nat.le_trans z8 (Keep.of_wr W12).1
  have kp13 : Keep h0 h12 [a1] := kp8.wr W12 (Or.inl (List.mem_of_getElem? (i := 0) rfl))
  have n14 := Fr.snoc X12 n9 ga
  refine own_st (B := T12.setTop (mkF m 19 #[.val (.ref a1), .val (.int p1), .val .null, .val (.ref a3), .val (.ref a4)] [])) (fun t k => st12 t k) ?_
  refine own_st (B := T12.setTop (mkF m 20 #[.val (.ref a1), .val (.int p1), .val .null, .val (.ref a3), .val (.ref a4)] [(.ref a1)])) (fun t k => XS.aloadN X12.here hx rfl (hb hby d6_19) rfl rfl k) ?_
  refine own_st (B := T12.setTop (mkF m 22 #[.val (.ref a1), .val (.int p1), .val .null, .val (.ref a3), .val (.ref a4)] [(.ref a4), (.ref a1)])) (fun t k => XS.aload X12.here hx rfl (hb hby d6_20) rfl rfl k) ?_
  have f15 : Exa Z h12 a1 "com/example/stockwright/stockwright/model/RememberedAnswer" := (f10.wr W12)
  have f16 : Fld Z h12 a1 "com/example/stockwright/stockwright/model/RememberedAnswer" "body" "[B" .null := (((F4.other W2 (Or.inr (slot_ne (Or.inr (w_46 hw)) (Or.inr (w_40 hw)) (by decide) (t := (.array .byte)) (t' := .int) (by decide) (by decide)))).other W7 (Or.inr (slot_ne (Or.inr (w_46 hw)) (Or.inr (w_42 hw)) (by decide) (t := (.array .byte)) (t' := (.object "java/lang/String")) (by decide) (by decide)))).other W12 (Or.inr (slot_ne (Or.inr (w_46 hw)) (Or.inr (w_44 hw)) (by decide) (t := (.array .byte)) (t' := (.object "java/lang/String")) (by decide) (by decide))))
  obtain ⟨T17, h17, X17, e17, W17, st17⟩ := putF X12 hx hZ hown (host := "") (Or.inl (w_45 hw)) Via.refl e12 f16 f15 (Or.inr ⟨(w_46 hw), rfl, hnm⟩) (w_28 hw) (ty := (.array .byte)) (by decide) rfl rfl (g := (mkF m 22 #[.val (.ref a1), .val (.int p1), .val .null, .val (.ref a3), .val (.ref a4)] [(.ref a4), (.ref a1)])) rfl rfl (hb hby d6_22)
  have f17_ : Fld Z h17 a1 "com/example/stockwright/stockwright/model/RememberedAnswer" "body" "[B" (.ref a4) := f16.same W17
  have z18 : n0 ≤ h17.size := Nat.le_trans z13 (Keep.of_wr W17).1
  have kp18 : Keep h0 h17 [a1] := kp13.wr W17 (Or.inl (List.mem_of_getElem? (i := 0) rfl))
  have n19 := Fr.snoc X17 n14 ga
  refine own_st (B := T17.setTop (mkF m 25 #[.val (.ref a1), .val (.int p1), .val .null, .val (.ref a3), .val (.ref a4)] [])) (fun t k => st17 t k) ?_
  refine own_retV X17 hx hlk Bd.returns (hb hby d6_25) (by decide) (by decide) ?_
  show Q6b Z a1 p1 a3 a4 h0 n0 _ T17.heap _
  rw [e17]
  have f20 : Exa Z h17 a1 "com/example/stockwright/stockwright/model/RememberedAnswer" := (f15.wr W17)
  have f21 : Fld Z h17 a1 "com/example/stockwright/stockwright/model/RememberedAnswer" "status" "I" (.int p1) := (((f2_.other W7 (Or.inr (slot_ne (Or.inr (w_40 hw)) (Or.inr (w_42 hw)) (by decide) (t := .int) (t' := (.object "java/lang/String")) (by decide) (by decide)))).other W12 (Or.inr (slot_ne (Or.inr (w_40 hw)) (Or.inr (w_44 hw)) (by decide) (t := .int) (t' := (.object "java/lang/String")) (by decide) (by decide)))).other W17 (Or.inr (slot_ne (Or.inr (w_40 hw)) (Or.inr (w_46 hw)) (by decide) (t := .int) (t' := (.array .byte)) (by decide) (by decide))))
  exact ⟨rfl, n19, kp18, f20, f21⟩
theorem ef_6c (m : MethodId) (x0 : Addr) (x1 : Int32) (x2 : Addr) (x4 : Addr) : entryFrame m #[(.ref x0), (.int x1), (.ref x2), .null, (.ref x4)] 5 = mkF m 0 #[.val (.ref x0), .val (.int x1), .val (.ref x2), .val .null, .val (.ref x4)] [] := by first | (simp [entryFrame, mkF, argsToLocals, Value.category]; done) | rfl
def Q6c (Z : State) (a1 : Addr) (p1 : Int32) (a2 : Addr) (a4 : Addr) (h0 : Heap) (n0 : Nat) (v : Option Value) (h : Heap) (L : List Loc) : Prop := v = none ∧ Fr n0 L ∧ Keep h0 h [a1] ∧ Exa Z h a1 "com/example/stockwright/stockwright/model/RememberedAnswer" ∧ Fld Z h a1 "com/example/stockwright/stockwright/model/RememberedAnswer" "status" "I" (.int p1)
set_option maxHeartbeats 40000000 in
theorem rm6c (l : Launch) (Z : State) (a0 : Array Value) (hw : ∀ d ∈ tables_1, d.before a0 Z = true) (ws : List Jvm.Cond) (a1 : Addr) (p1 : Int32) (a2 : Addr) (a4 : Addr) (h0 : Heap) (n0 : Nat) (Z0 : n0 ≤ h0.size) (F0 : Exa Z h0 a1 "com/example/stockwright/stockwright/model/RememberedAnswer") (F1 : Fld Z h0 a1 "com/example/stockwright/stockwright/model/RememberedAnswer" "status" "I" (.int (0 : Int32))) (F2 : Fld Z h0 a1 "com/example/stockwright/stockwright/model/RememberedAnswer" "contentType" "Ljava/lang/String;" .null) (F3 : Fld Z h0 a1 "com/example/stockwright/stockwright/model/RememberedAnswer" "location" "Ljava/lang/String;" .null) (F4 : Fld Z h0 a1 "com/example/stockwright/stockwright/model/RememberedAnswer" "body" "[B" .null) (ga : n0 ≤ a1) :
    MetFree l (⟨"com/example/stockwright/stockwright/model/RememberedAnswer", "<init>", "(ILjava/lang/String;Ljava/lang/String;[B)V"⟩ : MethodName) (head1 (Jvm.Cond.code (⟨"com/example/stockwright/stockwright/model/RememberedAnswer", "<init>", "(ILjava/lang/String;Ljava/lang/String;[B)V"⟩ : MethodName) prog_20_method_1_code 5 none :: ws) ({ frames := 2, cells := 0, slots := 0, locals := 24 } : Room)) (fun a U => a = #[(.ref a1), (.int p1), (.ref a2), .null, (.ref a4)] ∧ Z.Warmed39 U.vm ∧ U.heap = h0) (fun _ _ _ _ _ => True) (fun _ U o U' => ∃ v L, o = .returned v ∧ Q6c Z a1 p1 a2 a4 h0 n0 v U'.heap L ∧ FrameEnd U o U' L ({ frames := 2, cells := 0, slots := 0, locals := 24 } : Room).cells ({ frames := 2, cells := 0, slots := 0, locals := 24 } : Room).slots) := by
  refine MetFree.of_bodySF (plainFor_of_name own_pn4) hisR ?_
  intro p e s m args below meth c s₁ Bd hml0 hP hK
  obtain ⟨rfl, hZ, hh⟩ := hP
  have hx := Bd.exec
  have hby := Bd.bytes
  have hml : c.maxLocals = 5 := hml0
  have hlk : meth.locks = false := BodyLoose.notSynchronized Bd
  have hown : s.vm.findClass "com/example/stockwright/stockwright/model/RememberedAnswer" = some m.cls := findClass_of_methodNamed Bd.named
  have hnm := (name_of_methodNamed Bd.named Bd.method).1
  have X0 : Stand p l e ({ frames := 2, cells := 0, slots := 0, locals := 24 } : Room) s m #[(.ref a1), (.int p1), (.ref a2), .null, (.ref a4)] below meth c s₁ [] 0 0 := Stand.of_body Bd
  have e0 : s₁.heap = h0 := by rw [← hh, Bd.state]; rfl
  have N0 := Fr.nil n0
  show own_Go p e below s (Q6c Z a1 p1 a2 a4 h0 n0) ({ frames := 2, cells := 0, slots := 0, locals := 24 } : Room).cells ({ frames := 2, cells := 0, slots := 0, locals := 24 } : Room).slots _
  refine own_st (B := s₁.setTop (mkF m 0 #[.val (.ref a1), .val (.int p1), .val (.ref a2), .val .null, .val (.ref a4)] [])) (fun t k => castTop (ef_6c m (a1) (p1) (a2) (a4)) k) ?_
  refine own_st (B := s₁.setTop (mkF m 1 #[.val (.ref a1), .val (.int p1), .val (.ref a2), .val .null, .val (.ref a4)] [(.ref a1)])) (fun t k => XS.aloadN X0.here hx rfl (hb hby d6_0) rfl rfl k) ?_
  obtain ⟨_, _, ⟨T1, L1, k1, j1⟩, -, X1, ⟨Lc1, hQ1, l1, y1_, z1_⟩, st1⟩ := X0.specialBack hx (y := (⟨"java/lang/Record", "<init>", "()V"⟩ : MethodName)) rfl hown (mvT hZ (w_33 hw)) (mvT hZ (w_34 hw)) (mvT hZ (w_37 hw)) (by decide) (backOf (W := 0) (rm7 l Z a0 hw [] a1 h0 n0 Z0 ) hZ (w_37 hw) (w_36 hw) (by decide) (by decide)) (g := (mkF m 1 #[.val (.ref a1), .val (.int p1), .val (.ref a2), .val .null, .val (.ref a4)] [(.ref a1)])) rfl (by rw [hml]; rfl) (Steps.refl _) (a := a1) (argsL := []) (rest := []) (lenOf own_pd6 rfl) rfl (by show 2 * 0 + _ ≤ _; exact Nat.le_of_eq rfl) (hb hby d6_1) (fun _ _ => ⟨rfl, e0, (by decide : 0 + 0 ≤ _), (by decide : 0 + 0 ≤ _)⟩)
  dsimp only [Pt.U, Pt.locs, Pt.cells, Pt.slots] at X1 l1 y1_ z1_ st1 hQ1
  subst l1 y1_ z1_
  obtain ⟨rfl, N1q, e1q⟩ := hQ1
  have N1 := Fr.app N0 N1q
  refine own_ss (B := T1.setTop (mkF m 4 #[.val (.ref a1), .val (.int p1), .val (.ref a2), .val .null, .val (.ref a4)] [])) st1 ?_
  refine own_st (B := T1.setTop (mkF m 5 #[.val (.ref a1), .val (.int p1), .val (.ref a2), .val .null, .val (.ref a4)] [(.ref a1)])) (fun t k => XS.aloadN X1.here hx rfl (hb hby d6_4) rfl rfl k) ?_
  refine own_st (B := T1.setTop (mkF m 6 #[.val (.ref a1), .val (.int p1), .val (.ref a2), .val .null, .val (.ref a4)] [(.int p1), (.ref a1)])) (fun t k => XS.iloadN X1.here hx rfl (hb hby d6_5) rfl k) ?_
  obtain ⟨T2, h2, X2, e2, W2, st2⟩ := putF X1 hx hZ hown (host := "") (Or.inl (w_39 hw)) Via.refl e1q F1 F0 (Or.inr ⟨(w_40 hw), rfl, hnm⟩) (w_28 hw) (ty := .int) (by decide) rfl rfl (g := (mkF m 6 #[.val (.ref a1), .val (.int p1), .val (.ref a2), .val .null, .val (.ref a4)] [(.int p1), (.ref a1)])) rfl rfl (hb hby d6_6)
  have f2_ : Fld Z h2 a1 "com/example/stockwright/stockwright/model/RememberedAnswer" "status" "I" (.int p1) := F1.same W2
  have z3 : n0 ≤ h2.size := Nat.le_trans Z0 (Keep.of_wr W2).1
  have kp3 : Keep h0 h2 [a1] := (Keep.refl h0 [a1]).wr W2 (Or.inl (List.mem_of_getElem? (i := 0) rfl))
  have n4 := Fr.snoc X2 N1 ga
  refine own_st (B := T2.setTop (mkF m 9 #[.val (.ref a1), .val (.int p1), .val (.ref a2), .val .null, .val (.ref a4)] [])) (fun t k => st2 t k) ?_
  refine own_st (B := T2.setTop (mkF m 10 #[.val (.ref a1), .val (.int p1), .val (.ref a2), .val .null, .val (.ref a4)] [(.ref a1)])) (fun t k => XS.aloadN X2.here hx rfl (hb hby d6_9) rfl rfl k) ?_
  refine own_st (B := T2.setTop (mkF m 11 #[.val (.ref a1), .val (.int p1), .val (.ref a2), .val .null, .val (.ref a4)] [(.ref a2), (.ref a1)])) (fun t k => XS.aloadN X2.here hx rfl (hb hby d6_10) rfl rfl k) ?_
  have f5 : Exa Z h2 a1 "com/example/stockwright/stockwright/model/RememberedAnswer" := (F0.wr W2)
  have f6 : Fld Z h2 a1 "com/example/stockwright/stockwright/model/RememberedAnswer" "contentType" "Ljava/lang/String;" .null := (F2.other W2 (Or.inr (slot_ne (Or.inr (w_42 hw)) (Or.inr (w_40 hw)) (by decide) (t := (.object "java/lang/String")) (t' := .int) (by decide) (by decide))))
  obtain ⟨T7, h7, X7, e7, W7, st7⟩ := putF X2 hx hZ hown (host := "") (Or.inl (w_41 hw)) Via.refl e2 f6 f5 (Or.inr ⟨(w_42 hw), rfl, hnm⟩) (w_28 hw) (ty := (.object "java/lang/String")) (by decide) rfl rfl (g := (mkF m 11 #[.val (.ref a1), .val (.int p1), .val (.ref a2), .val .null, .val (.ref a4)] [(.ref a2), (.ref a1)])) rfl rfl (hb hby d6_11)
  have f7_ : Fld Z h7 a1 "com/example/stockwright/stockwright/model/RememberedAnswer" "contentType" "Ljava/lang/String;" (.ref a2) := f6.same W7
  have z8 : n0 ≤ h7.size := Nat.le_trans z3 (Keep.of_wr W7).1
  have kp8 : Keep h0 h7 [a1] := kp3.wr W7 (Or.inl (List.mem_of_getElem? (i := 0) rfl))
  have n9 := Fr.snoc X7 n4 ga
  refine own_st (B := T7.setTop (mkF m 14 #[.val (.ref a1), .val (.int p1), .val (.ref a2), .val .null, .val (.ref a4)] [])) (fun t k => st7 t k) ?_
  refine own_st (B := T7.setTop (mkF m 15 #[.val (.ref a1), .val (.int p1), .val (.ref a2), .val .null, .val (.ref a4)] [(.ref a1)])) (fun t k => XS.aloadN X7.here hx rfl (hb hby d6_14) rfl rfl k) ?_
  refine own_st (B := T7.setTop (mkF m 16 #[.val (.ref a1), .val (.int p1), .val (.ref a2), .val .null, .val (.ref a4)] [.null, (.ref a1)])) (fun t k => XS.aloadN X7.here hx rfl (hb hby d6_15) rfl rfl k) ?_
  have f10 : Exa Z h7 a1 "com/example/stockwright/stockwright/model/RememberedAnswer" := (f5.wr W7)
  have f11 : Fld Z h7 a1 "com/example/stockwright/stockwright/model/RememberedAnswer" "location" "Ljava/lang/String;" .null := ((F3.other W2 (Or.inr (slot_ne (Or.inr (w_44 hw)) (Or.inr (w_40 hw)) (by decide) (t := (.object "java/lang/String")) (t' := .int) (by decide) (by decide)))).other W7 (Or.inr (slot_ne (Or.inr (w_44 hw)) (Or.inr (w_42 hw)) (by decide) (t := (.object "java/lang/String")) (t' := (.object "java/lang/String")) (by decide) (by decide))))
  obtain ⟨T12, h12, X12, e12, W12, st12⟩ := putF X7 hx hZ hown (host := "") (Or.inl (w_43 hw)) Via.refl e7 f11 f10 (Or.inr ⟨(w_44 hw), rfl, hnm⟩) (w_28 hw) (ty := (.object "java/lang/String")) (by decide) rfl rfl (g := (mkF m 16 #[.val (.ref a1), .val (.int p1), .val (.ref a2), .val .null, .val (.ref a4)] [.null, (.ref a1)])) rfl rfl (hb hby d6_16)
  have f12_ : Fld Z h12 a1 "com/example/stockwright/stockwright/model/RememberedAnswer" "location" "Ljava/lang/String;" .null := f11.same W12
  have z13 : n0 ≤ h12.size := Nat.le_trans z8 (Keep.of_wr W12).1
  have kp13 : Keep h0 h12 [a1] := kp8.wr W12 (Or.inl (List.mem_of_getElem? (i := 0) rfl))
  have n14 := Fr.snoc X12 n9 ga
  refine own_st (B := T12.setTop (mkF m 19 #[.val (.ref a1), .val (.int p1), .val (.ref a2), .val .null, .val (.ref a4)] [])) (fun t k => st12 t k) ?_
  refine own_st (B := T12.setTop (mkF m 20 #[.val (.ref a1), .val (.int p1), .val (.ref a2), .val .null, .val (.ref a4)] [(.ref a1)])) (fun t k => XS.aloadN X12.here hx rfl (hb hby d6_19) rfl rfl k) ?_
  refine own_st (B := T12.setTop (mkF m 22 #[.val (.ref a1), .val (.int p1), .val (.ref a2), .val .null, .val (.ref a4)] [(.ref a4), (.ref a1)])) (fun t k => XS.aload X12.here hx rfl (hb hby d6_20) rfl rfl k) ?_
  have f15 : Exa Z h12 a1 "com/example/stockwright/stockwright/model/RememberedAnswer" := (f10.wr W12)
  have f16 : Fld Z h12 a1 "com/example/stockwright/stockwright/model/RememberedAnswer" "body" "[B" .null := (((F4.other W2 (Or.inr (slot_ne (Or.inr (w_46 hw)) (Or.inr (w_40 hw)) (by decide) (t := (.array .byte)) (t' := .int) (by decide) (by decide)))).other W7 (Or.inr (slot_ne (Or.inr (w_46 hw)) (Or.inr (w_42 hw)) (by decide) (t := (.array .byte)) (t' := (.object "java/lang/String")) (by decide) (by decide)))).other W12 (Or.inr (slot_ne (Or.inr (w_46 hw)) (Or.inr (w_44 hw)) (by decide) (t := (.array .byte)) (t' := (.object "java/lang/String")) (by decide) (by decide))))
  obtain ⟨T17, h17, X17, e17, W17, st17⟩ := putF X12 hx hZ hown (host := "") (Or.inl (w_45 hw)) Via.refl e12 f16 f15 (Or.inr ⟨(w_46 hw), rfl, hnm⟩) (w_28 hw) (ty := (.array .byte)) (by decide) rfl rfl (g := (mkF m 22 #[.val (.ref a1), .val (.int p1), .val (.ref a2), .val .null, .val (.ref a4)] [(.ref a4), (.ref a1)])) rfl rfl (hb hby d6_22)
  have f17_ : Fld Z h17 a1 "com/example/stockwright/stockwright/model/RememberedAnswer" "body" "[B" (.ref a4) := f16.same W17
  have z18 : n0 ≤ h17.size := Nat.le_trans z13 (Keep.of_wr W17).1
  have kp18 : Keep h0 h17 [a1] := kp13.wr W17 (Or.inl (List.mem_of_getElem? (i := 0) rfl))
  have n19 := Fr.snoc X17 n14 ga
  refine own_st (B := T17.setTop (mkF m 25 #[.val (.ref a1), .val (.int p1), .val (.ref a2), .val .null, .val (.ref a4)] [])) (fun t k => st17 t k) ?_
  refine own_retV X17 hx hlk Bd.returns (hb hby d6_25) (by decide) (by decide) ?_
  show Q6c Z a1 p1 a2 a4 h0 n0 _ T17.heap _
  rw [e17]
  have f20 : Exa Z h17 a1 "com/example/stockwright/stockwright/model/RememberedAnswer" := (f15.wr W17)
  have f21 : Fld Z h17 a1 "com/example/stockwright/stockwright/model/RememberedAnswer" "status" "I" (.int p1) := (((f2_.other W7 (Or.inr (slot_ne (Or.inr (w_40 hw)) (Or.inr (w_42 hw)) (by decide) (t := .int) (t' := (.object "java/lang/String")) (by decide) (by decide)))).other W12 (Or.inr (slot_ne (Or.inr (w_40 hw)) (Or.inr (w_44 hw)) (by decide) (t := .int) (t' := (.object "java/lang/String")) (by decide) (by decide)))).other W17 (Or.inr (slot_ne (Or.inr (w_40 hw)) (Or.inr (w_46 hw)) (by decide) (t := .int) (t' := (.array .byte)) (by decide) (by decide))))
  exact ⟨rfl, n19, kp18, f20, f21⟩
theorem ef_6d (m : MethodId) (x0 : Addr) (x1 : Int32) (x2 : Addr) (x3 : Addr) (x4 : Addr) : entryFrame m #[(.ref x0), (.int x1), (.ref x2), (.ref x3), (.ref x4)] 5 = mkF m 0 #[.val (.ref x0), .val (.int x1), .val (.ref x2), .val (.ref x3), .val (.ref x4)] [] := by first | (simp [entryFrame, mkF, argsToLocals, Value.category]; done) | rfl
def Q6d (Z : State) (a1 : Addr) (p1 : Int32) (a2 : Addr) (a3 : Addr) (a4 : Addr) (h0 : Heap) (n0 : Nat) (v : Option Value) (h : Heap) (L : List Loc) : Prop := v = none ∧ Fr n0 L ∧ Keep h0 h [a1] ∧ Exa Z h a1 "com/example/stockwright/stockwright/model/RememberedAnswer" ∧ Fld Z h a1 "com/example/stockwright/stockwright/model/RememberedAnswer" "status" "I" (.int p1)
set_option maxHeartbeats 40000000 in
theorem rm6d (l : Launch) (Z : State) (a0 : Array Value) (hw : ∀ d ∈ tables_1, d.before a0 Z = true) (ws : List Jvm.Cond) (a1 : Addr) (p1 : Int32) (a2 : Addr) (a3 : Addr) (a4 : Addr) (h0 : Heap) (n0 : Nat) (Z0 : n0 ≤ h0.size) (F0 : Exa Z h0 a1 "com/example/stockwright/stockwright/model/RememberedAnswer") (F1 : Fld Z h0 a1 "com/example/stockwright/stockwright/model/RememberedAnswer" "status" "I" (.int (0 : Int32))) (F2 : Fld Z h0 a1 "com/example/stockwright/stockwright/model/RememberedAnswer" "contentType" "Ljava/lang/String;" .null) (F3 : Fld Z h0 a1 "com/example/stockwright/stockwright/model/RememberedAnswer" "location" "Ljava/lang/String;" .null) (F4 : Fld Z h0 a1 "com/example/stockwright/stockwright/model/RememberedAnswer" "body" "[B" .null) (ga : n0 ≤ a1) :
    MetFree l (⟨"com/example/stockwright/stockwright/model/RememberedAnswer", "<init>", "(ILjava/lang/String;Ljava/lang/String;[B)V"⟩ : MethodName) (head1 (Jvm.Cond.code (⟨"com/example/stockwright/stockwright/model/RememberedAnswer", "<init>", "(ILjava/lang/String;Ljava/lang/String;[B)V"⟩ : MethodName) prog_20_method_1_code 5 none :: ws) ({ frames := 2, cells := 0, slots := 0, locals := 24 } : Room)) (fun a U => a = #[(.ref a1), (.int p1), (.ref a2), (.ref a3), (.ref a4)] ∧ Z.Warmed39 U.vm ∧ U.heap = h0) (fun _ _ _ _ _ => True) (fun _ U o U' => ∃ v L, o = .returned v ∧ Q6d Z a1 p1 a2 a3 a4 h0 n0 v U'.heap L ∧ FrameEnd U o U' L ({ frames := 2, cells := 0, slots := 0, locals := 24 } : Room).cells ({ frames := 2, cells := 0, slots := 0, locals := 24 } : Room).slots) := by
  refine MetFree.of_bodySF (plainFor_of_name own_pn4) hisR ?_
  intro p e s m args below meth c s₁ Bd hml0 hP hK
  obtain ⟨rfl, hZ, hh⟩ := hP
  have hx := Bd.exec
  have hby := Bd.bytes
  have hml : c.maxLocals = 5 := hml0
  have hlk : meth.locks = false := BodyLoose.notSynchronized Bd
  have hown : s.vm.findClass "com/example/stockwright/stockwright/model/RememberedAnswer" = some m.cls := findClass_of_methodNamed Bd.named
  have hnm := (name_of_methodNamed Bd.named Bd.method).1
  have X0 : Stand p l e ({ frames := 2, cells := 0, slots := 0, locals := 24 } : Room) s m #[(.ref a1), (.int p1), (.ref a2), (.ref a3), (.ref a4)] below meth c s₁ [] 0 0 := Stand.of_body Bd
  have e0 : s₁.heap = h0 := by rw [← hh, Bd.state]; rfl
  have N0 := Fr.nil n0
  show own_Go p e below s (Q6d Z a1 p1 a2 a3 a4 h0 n0) ({ frames := 2, cells := 0, slots := 0, locals := 24 } : Room).cells ({ frames := 2, cells := 0, slots := 0, locals := 24 } : Room).slots _
  refine own_st (B := s₁.setTop (mkF m 0 #[.val (.ref a1), .val (.int p1), .val (.ref a2), .val (.ref a3), .val (.ref a4)] [])) (fun t k => castTop (ef_6d m (a1) (p1) (a2) (a3) (a4)) k) ?_
  refine own_st (B := s₁.setTop (mkF m 1 #[.val (.ref a1), .val (.int p1), .val (.ref a2), .val (.ref a3), .val (.ref a4)] [(.ref a1)])) (fun t k => XS.aloadN X0.here hx rfl (hb hby d6_0) rfl rfl k) ?_
  obtain ⟨_, _, ⟨T1, L1, k1, j1⟩, -, X1, ⟨Lc1, hQ1, l1, y1_, z1_⟩, st1⟩ := X0.specialBack hx (y := (⟨"java/lang/Record", "<init>", "()V"⟩ : MethodName)) rfl hown (mvT hZ (w_33 hw)) (mvT hZ (w_34 hw)) (mvT hZ (w_37 hw)) (by decide) (backOf (W := 0) (rm7 l Z a0 hw [] a1 h0 n0 Z0 ) hZ (w_37 hw) (w_36 hw) (by decide) (by decide)) (g := (mkF m 1 #[.val (.ref a1), .val (.int p1), .val (.ref a2), .val (.ref a3), .val (.ref a4)] [(.ref a1)])) rfl (by rw [hml]; rfl) (Steps.refl _) (a := a1) (argsL := []) (rest := []) (lenOf own_pd6 rfl) rfl (by show 2 * 0 + _ ≤ _; exact Nat.le_of_eq rfl) (hb hby d6_1) (fun _ _ => ⟨rfl, e0, (by decide : 0 + 0 ≤ _), (by decide : 0 + 0 ≤ _)⟩)
  dsimp only [Pt.U, Pt.locs, Pt.cells, Pt.slots] at X1 l1 y1_ z1_ st1 hQ1
  subst l1 y1_ z1_
  obtain ⟨rfl, N1q, e1q⟩ := hQ1
  have N1 := Fr.app N0 N1q
  refine own_ss (B := T1.setTop (mkF m 4 #[.val (.ref a1), .val (.int p1), .val (.ref a2), .val (.ref a3), .val (.ref a4)] [])) st1 ?_
  refine own_st (B := T1.setTop (mkF m 5 #[.val (.ref a1), .val (.int p1), .val (.ref a2), .val (.ref a3), .val (.ref a4)] [(.ref a1)])) (fun t k => XS.aloadN X1.here hx rfl (hb hby d6_4) rfl rfl k) ?_
  refine own_st (B := T1.setTop (mkF m 6 #[.val (.ref a1), .val (.int p1), .val (.ref a2), .val (.ref a3), .val (.ref a4)] [(.int p1), (.ref a1)])) (fun t k => XS.iloadN X1.here hx rfl (hb hby d6_5) rfl k) ?_
  obtain ⟨T2, h2, X2, e2, W2, st2⟩ := putF X1 hx hZ hown (host := "") (Or.inl (w_39 hw)) Via.refl e1q F1 F0 (Or.inr ⟨(w_40 hw), rfl, hnm⟩) (w_28 hw) (ty := .int) (by decide) rfl rfl (g := (mkF m 6 #[.val (.ref a1), .val (.int p1), .val (.ref a2), .val (.ref a3), .val (.ref a4)] [(.int p1), (.ref a1)])) rfl rfl (hb hby d6_6)
  have f2_ : Fld Z h2 a1 "com/example/stockwright/stockwright/model/RememberedAnswer" "status" "I" (.int p1) := F1.same W2
  have z3 : n0 ≤ h2.size := Nat.le_trans Z0 (Keep.of_wr W2).1
  have kp3 : Keep h0 h2 [a1] := (Keep.refl h0 [a1]).wr W2 (Or.inl (List.mem_of_getElem? (i := 0) rfl))
  have n4 := Fr.snoc X2 N1 ga
  refine own_st (B := T2.setTop (mkF m 9 #[.val (.ref a1), .val (.int p1), .val (.ref a2), .val (.ref a3), .val (.ref a4)] [])) (fun t k => st2 t k) ?_
  refine own_st (B := T2.setTop (mkF m 10 #[.val (.ref a1), .val (.int p1), .val (.ref a2), .val (.ref a3), .val (.ref a4)] [(.ref a1)])) (fun t k => XS.aloadN X2.here hx rfl (hb hby d6_9) rfl rfl k) ?_
  refine own_st (B := T2.setTop (mkF m 11 #[.val (.ref a1), .val (.int p1), .val (.ref a2), .val (.ref a3), .val (.ref a4)] [(.ref a2), (.ref a1)])) (fun t k => XS.aloadN X2.here hx rfl (hb hby d6_10) rfl rfl k) ?_
  have f5 : Exa Z h2 a1 "com/example/stockwright/stockwright/model/RememberedAnswer" := (F0.wr W2)
  have f6 : Fld Z h2 a1 "com/example/stockwright/stockwright/model/RememberedAnswer" "contentType" "Ljava/lang/String;" .null := (F2.other W2 (Or.inr (slot_ne (Or.inr (w_42 hw)) (Or.inr (w_40 hw)) (by decide) (t := (.object "java/lang/String")) (t' := .int) (by decide) (by decide))))
  obtain ⟨T7, h7, X7, e7, W7, st7⟩ := putF X2 hx hZ hown (host := "") (Or.inl (w_41 hw)) Via.refl e2 f6 f5 (Or.inr ⟨(w_42 hw), rfl, hnm⟩) (w_28 hw) (ty := (.object "java/lang/String")) (by decide) rfl rfl (g := (mkF m 11 #[.val (.ref a1), .val (.int p1), .val (.ref a2), .val (.ref a3), .val (.ref a4)] [(.ref a2), (.ref a1)])) rfl rfl (hb hby d6_11)
  have f7_ : Fld Z h7 a1 "com/example/stockwright/stockwright/model/RememberedAnswer" "contentType" "Ljava/lang/String;" (.ref a2) := f6.same W7
  have z8 : n0 ≤ h7.size := Nat.le_trans z3 (Keep.of_wr W7).1
  have kp8 : Keep h0 h7 [a1] := kp3.wr W7 (Or.inl (List.mem_of_getElem? (i := 0) rfl))
  have n9 := Fr.snoc X7 n4 ga
  refine own_st (B := T7.setTop (mkF m 14 #[.val (.ref a1), .val (.int p1), .val (.ref a2), .val (.ref a3), .val (.ref a4)] [])) (fun t k => st7 t k) ?_
  refine own_st (B := T7.setTop (mkF m 15 #[.val (.ref a1), .val (.int p1), .val (.ref a2), .val (.ref a3), .val (.ref a4)] [(.ref a1)])) (fun t k => XS.aloadN X7.here hx rfl (hb hby d6_14) rfl rfl k) ?_
  refine own_st (B := T7.setTop (mkF m 16 #[.val (.ref a1), .val (.int p1), .val (.ref a2), .val (.ref a3), .val (.ref a4)] [(.ref a3), (.ref a1)])) (fun t k => XS.aloadN X7.here hx rfl (hb hby d6_15) rfl rfl k) ?_
  have f10 : Exa Z h7 a1 "com/example/stockwright/stockwright/model/RememberedAnswer" := (f5.wr W7)
  have f11 : Fld Z h7 a1 "com/example/stockwright/stockwright/model/RememberedAnswer" "location" "Ljava/lang/String;" .null := ((F3.other W2 (Or.inr (slot_ne (Or.inr (w_44 hw)) (Or.inr (w_40 hw)) (by decide) (t := (.object "java/lang/String")) (t' := .int) (by decide) (by decide)))).other W7 (Or.inr (slot_ne (Or.inr (w_44 hw)) (Or.inr (w_42 hw)) (by decide) (t := (.object "java/lang/String")) (t' := (.object "java/lang/String")) (by decide) (by decide))))
  obtain ⟨T12, h12, X12, e12, W12, st12⟩ := putF X7 hx hZ hown (host := "") (Or.inl (w_43 hw)) Via.refl e7 f11 f10 (Or.inr ⟨(w_44 hw), rfl, hnm⟩) (w_28 hw) (ty := (.object "java/lang/String")) (by decide) rfl rfl (g := (mkF m 16 #[.val (.ref a1), .val (.int p1), .val (.ref a2), .val (.ref a3), .val (.ref a4)] [(.ref a3), (.ref a1)])) rfl rfl (hb hby d6_16)
  have f12_ : Fld Z h12 a1 "com/example/stockwright/stockwright/model/RememberedAnswer" "location" "Ljava/lang/String;" (.ref a3) := f11.same W12
  have z13 : n0 ≤ h12.size := Nat.le_trans z8 (Keep.of_wr W12).1
  have kp13 : Keep h0 h12 [a1] := kp8.wr W12 (Or.inl (List.mem_of_getElem? (i := 0) rfl))
  have n14 := Fr.snoc X12 n9 ga
  refine own_st (B := T12.setTop (mkF m 19 #[.val (.ref a1), .val (.int p1), .val (.ref a2), .val (.ref a3), .val (.ref a4)] [])) (fun t k => st12 t k) ?_
  refine own_st (B := T12.setTop (mkF m 20 #[.val (.ref a1), .val (.int p1), .val (.ref a2), .val (.ref a3), .val (.ref a4)] [(.ref a1)])) (fun t k => XS.aloadN X12.here hx rfl (hb hby d6_19) rfl rfl k) ?_
  refine own_st (B := T12.setTop (mkF m 22 #[.val (.ref a1), .val (.int p1), .val (.ref a2), .val (.ref a3), .val (.ref a4)] [(.ref a4), (.ref a1)])) (fun t k => XS.aload X12.here hx rfl (hb hby d6_20) rfl rfl k) ?_
  have f15 : Exa Z h12 a1 "com/example/stockwright/stockwright/model/RememberedAnswer" := (f10.wr W12)
  have f16 : Fld Z h12 a1 "com/example/stockwright/stockwright/model/RememberedAnswer" "body" "[B" .null := (((F4.other W2 (Or.inr (slot_ne (Or.inr (w_46 hw)) (Or.inr (w_40 hw)) (by decide) (t := (.array .byte)) (t' := .int) (by decide) (by decide)))).other W7 (Or.inr (slot_ne (Or.inr (w_46 hw)) (Or.inr (w_42 hw)) (by decide) (t := (.array .byte)) (t' := (.object "java/lang/String")) (by decide) (by decide)))).other W12 (Or.inr (slot_ne (Or.inr (w_46 hw)) (Or.inr (w_44 hw)) (by decide) (t := (.array .byte)) (t' := (.object "java/lang/String")) (by decide) (by decide))))
  obtain ⟨T17, h17, X17, e17, W17, st17⟩ := putF X12 hx hZ hown (host := "") (Or.inl (w_45 hw)) Via.refl e12 f16 f15 (Or.inr ⟨(w_46 hw), rfl, hnm⟩) (w_28 hw) (ty := (.array .byte)) (by decide) rfl rfl (g := (mkF m 22 #[.val (.ref a1), .val (.int p1), .val (.ref a2), .val (.ref a3), .val (.ref a4)] [(.ref a4), (.ref a1)])) rfl rfl (hb hby d6_22)
  have f17_ : Fld Z h17 a1 "com/example/stockwright/stockwright/model/RememberedAnswer" "body" "[B" (.ref a4) := f16.same W17
  have z18 : n0 ≤ h17.size := Nat.le_trans z13 (Keep.of_wr W17).1
  have kp18 : Keep h0 h17 [a1] := kp13.wr W17 (Or.inl (List.mem_of_getElem? (i := 0) rfl))
  have n19 := Fr.snoc X17 n14 ga
  refine own_st (B := T17.setTop (mkF m 25 #[.val (.ref a1), .val (.int p1), .val (.ref a2), .val (.ref a3), .val (.ref a4)] [])) (fun t k => st17 t k) ?_
  refine own_retV X17 hx hlk Bd.returns (hb hby d6_25) (by decide) (by decide) ?_
  show Q6d Z a1 p1 a2 a3 a4 h0 n0 _ T17.heap _
  rw [e17]
  have f20 : Exa Z h17 a1 "com/example/stockwright/stockwright/model/RememberedAnswer" := (f15.wr W17)
  have f21 : Fld Z h17 a1 "com/example/stockwright/stockwright/model/RememberedAnswer" "status" "I" (.int p1) := (((f2_.other W7 (Or.inr (slot_ne (Or.inr (w_40 hw)) (Or.inr (w_42 hw)) (by decide) (t := .int) (t' := (.object "java/lang/String")) (by decide) (by decide)))).other W12 (Or.inr (slot_ne (Or.inr (w_40 hw)) (Or.inr (w_44 hw)) (by decide) (t := .int) (t' := (.object "java/lang/String")) (by decide) (by decide)))).other W17 (Or.inr (slot_ne (Or.inr (w_40 hw)) (Or.inr (w_46 hw)) (by decide) (t := .int) (t' := (.array .byte)) (by decide) (by decide))))
  exact ⟨rfl, n19, kp18, f20, f21⟩
theorem d8_0 : decode prog_20_method_2_code 0 = .ok (.aload_n 0, 1) := by decide +kernel
theorem d8_1 : decode prog_20_method_2_code 1 = .ok (.getfield 7, 3) := by decide +kernel
theorem d8_4 : decode prog_20_method_2_code 4 = .ok (.sipush 200, 3) := by decide +kernel
theorem d8_7 : decode prog_20_method_2_code 7 = .ok (.if_icmp .lt 17, 3) := by decide +kernel
theorem d8_10 : decode prog_20_method_2_code 10 = .ok (.aload_n 0, 1) := by decide +kernel
theorem d8_11 : decode prog_20_method_2_code 11 = .ok (.getfield 7, 3) := by decide +kernel
theorem d8_14 : decode prog_20_method_2_code 14 = .ok (.sipush 299, 3) := by decide +kernel
theorem d8_17 : decode prog_20_method_2_code 17 = .ok (.if_icmp .gt 7, 3) := by decide +kernel
theorem d8_20 : decode prog_20_method_2_code 20 = .ok (.iconst 1, 1) := by decide +kernel
theorem d8_21 : decode prog_20_method_2_code 21 = .ok (.goto 4, 3) := by decide +kernel
theorem d8_24 : decode prog_20_method_2_code 24 = .ok (.iconst 0, 1) := by decide +kernel
theorem d8_25 : decode prog_20_method_2_code 25 = .ok (.ireturn, 1) := by decide +kernel
theorem ef_8 (m : MethodId) (x0 : Addr) : entryFrame m #[(.ref x0)] 1 = mkF m 0 #[.val (.ref x0)] [] := by first | (simp [entryFrame, mkF, argsToLocals, Value.category]; done) | rfl
def own_f8 (a1 : Addr) (p1 : Int32) : Int32 := (if p1 < (200 : Int32) then (0 : Int32) else (if (299 : Int32) < p1 then (0 : Int32) else (1 : Int32)))
def Q8 (Z : State) (a1 : Addr) (p1 : Int32) (h0 : Heap) (n0 : Nat) (v : Option Value) (h : Heap) (L : List Loc) : Prop := v = some (.int (own_f8 a1 p1)) ∧ Fr n0 L ∧ h = h0
set_option maxHeartbeats 40000000 in
theorem rm8 (l : Launch) (Z : State) (a0 : Array Value) (hw : ∀ d ∈ tables_1, d.before a0 Z = true) (ws : List Jvm.Cond) (a1 : Addr) (p1 : Int32) (h0 : Heap) (n0 : Nat) (Z0 : n0 ≤ h0.size) (F0 : Fld Z h0 a1 "com/example/stockwright/stockwright/model/RememberedAnswer" "status" "I" (.int p1)) :
    MetFree l (⟨"com/example/stockwright/stockwright/model/RememberedAnswer", "succeeded", "()Z"⟩ : MethodName) (head1 (Jvm.Cond.code (⟨"com/example/stockwright/stockwright/model/RememberedAnswer", "succeeded", "()Z"⟩ : MethodName) prog_20_method_2_code 1 (some .boolean) :: ws) ({ frames := 0, cells := 0, slots := 0, locals := 0 } : Room)) (fun a U => a = #[(.ref a1)] ∧ Z.Warmed39 U.vm ∧ U.heap = h0) (fun _ _ _ _ _ => True) (fun _ U o U' => ∃ v L, o = .returned v ∧ Q8 Z a1 p1 h0 n0 v U'.heap L ∧ FrameEnd U o U' L ({ frames := 0, cells := 0, slots := 0, locals := 0 } : Room).cells ({ frames := 0, cells := 0, slots := 0, locals := 0 } : Room).slots) := by
  refine MetFree.of_bodySF (plainFor_of_name own_pn4) hisR ?_
  intro p e s m args below meth c s₁ Bd hml0 hP hK
  obtain ⟨rfl, hZ, hh⟩ := hP
  have hx := Bd.exec
  have hby := Bd.bytes
  have hml : c.maxLocals = 1 := hml0
  have hlk : meth.locks = false := BodyLoose.notSynchronized Bd
  have hown : s.vm.findClass "com/example/stockwright/stockwright/model/RememberedAnswer" = some m.cls := findClass_of_methodNamed Bd.named
  have hnm := (name_of_methodNamed Bd.named Bd.method).1
  have X0 : Stand p l e ({ frames := 0, cells := 0, slots := 0, locals := 0 } : Room) s m #[(.ref a1)] below meth c s₁ [] 0 0 := Stand.of_body Bd
  have e0 : s₁.heap = h0 := by rw [← hh, Bd.state]; rfl
  have N0 := Fr.nil n0
  show own_Go p e below s (Q8 Z a1 p1 h0 n0) ({ frames := 0, cells := 0, slots := 0, locals := 0 } : Room).cells ({ frames := 0, cells := 0, slots := 0, locals := 0 } : Room).slots _
  refine own_st (B := s₁.setTop (mkF m 0 #[.val (.ref a1)] [])) (fun t k => castTop (ef_8 m (a1)) k) ?_
  refine own_st (B := s₁.setTop (mkF m 1 #[.val (.ref a1)] [(.ref a1)])) (fun t k => XS.aloadN X0.here hx rfl (hb hby d8_0) rfl rfl k) ?_
  obtain ⟨T1, X1, e1, st1⟩ := getF X0 hx hZ hown (host := "") (Or.inl (w_39 hw)) Via.refl e0 F0 (g := (mkF m 1 #[.val (.ref a1)] [(.ref a1)])) rfl rfl (hb hby d8_1)
  refine own_st (B := T1.setTop (mkF m 4 #[.val (.ref a1)] [(.int p1)])) (fun t k => st1 t k) ?_
  refine own_st (B := T1.setTop (mkF m 7 #[.val (.ref a1)] [(.int (200 : Int32)), (.int p1)])) (fun t k => XS.sipush X1.here hx rfl (hb hby d8_4) k) ?_
  by_cases hc2 : p1 < (200 : Int32)
  · refine own_st (B := T1.setTop (mkF m 24 #[.val (.ref a1)] [])) (fun t k => XS.icmpYes X1.here hx rfl (pc0 := 7) (pc' := 24) rfl (hb hby d8_7) rfl (XT.ii_lt_t hc2) (by decide) (by decide) k) ?_
    refine own_st (B := T1.setTop (mkF m 25 #[.val (.ref a1)] [(.int (0 : Int32))])) (fun t k => XS.iconst X1.here hx rfl (hb hby d8_24) k) ?_
    refine own_retN X1 hx hlk (t := .boolean) Bd.returns (by simp) (z' := (0 : Int32)) rfl (hb hby d8_25) (by decide) (by decide) ?_
    show Q8 Z a1 p1 h0 n0 _ T1.heap _
    rw [e1]
    exact ⟨(by unfold own_f8; rw [if_pos hc2]), N0, rfl⟩
  · refine own_st (B := T1.setTop (mkF m 10 #[.val (.ref a1)] [])) (fun t k => XS.icmpNo X1.here hx rfl (hb hby d8_7) rfl (XT.ii_lt_f hc2) k) ?_
    refine own_st (B := T1.setTop (mkF m 11 #[.val (.ref a1)] [(.ref a1)])) (fun t k => XS.aloadN X1.here hx rfl (hb hby d8_10) rfl rfl k) ?_
    obtain ⟨T3, X3, e3, st3⟩ := getF X1 hx hZ hown (host := "") (Or.inl (w_39 hw)) Via.refl e1 F0 (g := (mkF m 11 #[.val (.ref a1)] [(.ref a1)])) rfl rfl (hb hby d8_11)
    refine own_st (B := T3.setTop (mkF m 14 #[.val (.ref a1)] [(.int p1)])) (fun t k => st3 t k) ?_
    refine own_st (B := T3.setTop (mkF m 17 #[.val (.ref a1)] [(.int (299 : Int32)), (.int p1)])) (fun t k => XS.sipush X3.here hx rfl (hb hby d8_14) k) ?_
    by_cases hc4 : (299 : Int32) < p1
    · refine own_st (B := T3.setTop (mkF m 24 #[.val (.ref a1)] [])) (fun t k => XS.icmpYes X3.here hx rfl (pc0 := 17) (pc' := 24) rfl (hb hby d8_17) rfl (XT.ii_gt_t hc4) (by decide) (by decide) k) ?_
      refine own_st (B := T3.setTop (mkF m 25 #[.val (.ref a1)] [(.int (0 : Int32))])) (fun t k => XS.iconst X3.here hx rfl (hb hby d8_24) k) ?_
      refine own_retN X3 hx hlk (t := .boolean) Bd.returns (by simp) (z' := (0 : Int32)) rfl (hb hby d8_25) (by decide) (by decide) ?_
      show Q8 Z a1 p1 h0 n0 _ T3.heap _
      rw [e3]
      exact ⟨(by unfold own_f8; rw [if_neg hc2, if_pos hc4]), N0, rfl⟩
    · refine own_st (B := T3.setTop (mkF m 20 #[.val (.ref a1)] [])) (fun t k => XS.icmpNo X3.here hx rfl (hb hby d8_17) rfl (XT.ii_gt_f hc4) k) ?_
      refine own_st (B := T3.setTop (mkF m 21 #[.val (.ref a1)] [(.int (1 : Int32))])) (fun t k => XS.iconst X3.here hx rfl (hb hby d8_20) k) ?_
      refine own_st (B := T3.setTop (mkF m 25 #[.val (.ref a1)] [(.int (1 : Int32))])) (fun t k => XS.goto X3.here hx rfl (pc0 := 21) (pc' := 25) rfl (hb hby d8_21) (by decide) (by decide) k) ?_
      refine own_retN X3 hx hlk (t := .boolean) Bd.returns (by simp) (z' := (1 : Int32)) rfl (hb hby d8_25) (by decide) (by decide) ?_
      show Q8 Z a1 p1 h0 n0 _ T3.heap _
      rw [e3]
      exact ⟨(by unfold own_f8; rw [if_neg hc2, if_neg hc4]), N0, rfl⟩
theorem own_fin {a : Addr} {p v : Int32} (e : v = if p / 100 = 2 then 1 else 0) : own_f8 a p = v := by
  have h1 := c_idiv p 100 100 rfl (by decide)
  have h2 : (200 : Int32).toInt = 200 := rfl
  have h3 : (299 : Int32).toInt = 299 := rfl
  have h4 : (2 : Int32).toInt = 2 := rfl
  have h5 := rng32 p
  rw [e]
  unfold own_f8
  simp only [Int32.lt_iff_toInt_lt, ← Int32.toInt_inj, h2, h3, h4]
  by_cases a : p.toInt < 200
  · rw [if_pos a, if_neg (by omega)]
  · rw [if_neg a]
    by_cases b : 299 < p.toInt
    · rw [if_pos b, if_neg (by omega)]
    · rw [if_neg b, if_pos (by omega)]
theorem own_c8 (x : Int32) : ¬ ((255 : Int32) < (x &&& 255).toUInt32.toUInt16.toUInt32.toInt32) := by
  rw [i2c_mask, Int32.lt_iff_toInt_lt, c_mask x 255 8 (by decide) (by decide)]
  have h2 : (255 : Int32).toInt = 255 := rfl
  omega
theorem own_k3 (x : Int32) : 0 ≤ (x &&& 3).toInt ∧ (x &&& 3).toInt ≤ 3 := by
  rw [c_mask x 3 2 (by decide) (by decide)]
  omega
theorem own_pd8 : parseMethodDescriptor "(C)Ljava/lang/String;" = some ⟨[.char], some (.object "java/lang/String")⟩ := by decide +kernel
theorem own_pd9 : parseMethodDescriptor "(ILjava/lang/String;Ljava/lang/String;[B)V" = some ⟨[.int, (.object "java/lang/String"), (.object "java/lang/String"), (.array .byte)], none⟩ := by decide +kernel
theorem own_pd10 : parseMethodDescriptor "()Z" = some ⟨[], some .boolean⟩ := by decide +kernel
theorem own_pn5 : plainName "com/example/stockwright/stockwright/model/RememberedAnswerSucceededPinLaw" = true := by first | (simp [plainName, overriddenIn]; done) | decide +kernel
theorem ef_0 (m : MethodId) (x0 : Int32) (x1 : Int32) (x2 : Int32) : entryFrame m #[(.int x0), (.int x1), (.int x2)] maxLocals = mkF m 0 #[.val (.int x0), .val (.int x1), .val (.int x2), .unset, .unset, .unset, .unset, .unset, .unset] [] := by first | (simp [entryFrame, mkF, argsToLocals, Value.category, maxLocals]; done) | rfl
def Q0 (Z : State) (arg0 : Int32) (arg1 : Int32) (arg2 : Int32) (cs : Int32) (h0 : Heap) (n0 : Nat) (v : Option Value) (h : Heap) (L : List Loc) : Prop := v = some (.int 1) ∧ Fr n0 L
set_option maxHeartbeats 40000000 in
theorem rm0 (l : Launch) (Z : State) (a0 : Array Value) (hw : ∀ d ∈ tables_1, d.before a0 Z = true) (ws : List Jvm.Cond) (arg0 : Int32) (arg1 : Int32) (arg2 : Int32) (cs : Int32) (h0 : Heap) (n0 : Nat) (Z0 : n0 ≤ h0.size) (F0 : Sta Z h0 "java/lang/String" "COMPACT_STRINGS" "Z" (.int cs)) (hcs : ¬ (cs = (0 : Int32))) :
    MetFree l x (head1 (Jvm.Cond.code x code maxLocals ret :: ws) room_1) (fun a U => a = #[(.int arg0), (.int arg1), (.int arg2)] ∧ Z.Warmed39 U.vm ∧ U.heap = h0) (fun _ _ _ _ _ => True) (fun _ U o U' => ∃ v L, o = .returned v ∧ Q0 Z arg0 arg1 arg2 cs h0 n0 v U'.heap L ∧ FrameEnd U o U' L 24 128) := by
  refine MetFree.of_bodySF (plainFor_of_name own_pn5) hisR ?_
  intro p e s m args below meth c s₁ Bd hml0 hP hK
  obtain ⟨rfl, hZ, hh⟩ := hP
  have hx := Bd.exec
  have hby := Bd.bytes
  have hml : c.maxLocals = 9 := hml0
  have hlk : meth.locks = false := BodyLoose.notSynchronized Bd
  have hown : s.vm.findClass "com/example/stockwright/stockwright/model/RememberedAnswerSucceededPinLaw" = some m.cls := findClass_of_methodNamed Bd.named
  have hnm := (name_of_methodNamed Bd.named Bd.method).1
  have X0 : Stand p l e room_1 s m #[(.int arg0), (.int arg1), (.int arg2)] below meth c s₁ [] 0 0 := Stand.of_body Bd
  have e0 : s₁.heap = h0 := by rw [← hh, Bd.state]; rfl
  have N0 := Fr.nil n0
  show own_Go p e below s (Q0 Z arg0 arg1 arg2 cs h0 n0) 24 128 _
  refine own_st (B := s₁.setTop (mkF m 0 #[.val (.int arg0), .val (.int arg1), .val (.int arg2), .unset, .unset, .unset, .unset, .unset, .unset] [])) (fun t k => castTop (ef_0 m (arg0) (arg1) (arg2)) k) ?_
  refine own_st (B := s₁.setTop (mkF m 1 #[.val (.int arg0), .val (.int arg1), .val (.int arg2), .unset, .unset, .unset, .unset, .unset, .unset] [(.int arg1)])) (fun t k => XS.iloadN X0.here hx rfl (hb hby at_0) rfl k) ?_
  refine own_st (B := s₁.setTop (mkF m 2 #[.val (.int arg0), .val (.int arg1), .val (.int arg2), .unset, .unset, .unset, .unset, .unset, .unset] [(.int (1 : Int32)), (.int arg1)])) (fun t k => XS.iconst X0.here hx rfl (hb hby at_1) k) ?_
  refine own_st (B := s₁.setTop (mkF m 3 #[.val (.int arg0), .val (.int arg1), .val (.int arg2), .unset, .unset, .unset, .unset, .unset, .unset] [(.int (arg1 &&& (1 : Int32)))])) (fun t k => XS.iand X0.here hx rfl (hb hby at_2) rfl k) ?_
  refine own_cut (P := ∀ (v2 : Int32), (v2 = (if (arg1 &&& (1 : Int32)) = (0 : Int32) then arg0 else ((190 : Int32) + ((arg0 &&& (2147483647 : Int32)) % (120 : Int32))))) → own_Go p e below s (Q0 Z arg0 arg1 arg2 cs h0 n0) 24 128 (s₁.setTop (mkF m 21 #[.val (.int arg0), .val (.int arg1), .val (.int arg2), .unset, .unset, .unset, .unset, .unset, .unset] [(.int v2)]))) (fun J3 => ?_) ?_
  · by_cases hc1 : (arg1 &&& (1 : Int32)) = (0 : Int32)
    · refine own_st (B := s₁.setTop (mkF m 20 #[.val (.int arg0), .val (.int arg1), .val (.int arg2), .unset, .unset, .unset, .unset, .unset, .unset] [])) (fun t k => XS.ifYes X0.here hx rfl (pc0 := 3) (pc' := 20) rfl (hb hby at_3) rfl (XT.i0_eq_t hc1) (by decide) (by decide) k) ?_
      refine own_st (B := s₁.setTop (mkF m 21 #[.val (.int arg0), .val (.int arg1), .val (.int arg2), .unset, .unset, .unset, .unset, .unset, .unset] [(.int arg0)])) (fun t k => XS.iloadN X0.here hx rfl (hb hby at_20) rfl k) ?_
      exact J3 arg0 (by rw [if_pos hc1])
    · refine own_st (B := s₁.setTop (mkF m 6 #[.val (.int arg0), .val (.int arg1), .val (.int arg2), .unset, .unset, .unset, .unset, .unset, .unset] [])) (fun t k => XS.ifNo X0.here hx rfl (hb hby at_3) rfl (XT.i0_eq_f hc1) k) ?_
      refine own_st (B := s₁.setTop (mkF m 9 #[.val (.int arg0), .val (.int arg1), .val (.int arg2), .unset, .unset, .unset, .unset, .unset, .unset] [(.int (190 : Int32))])) (fun t k => XS.sipush X0.here hx rfl (hb hby at_6) k) ?_
      refine own_st (B := s₁.setTop (mkF m 10 #[.val (.int arg0), .val (.int arg1), .val (.int arg2), .unset, .unset, .unset, .unset, .unset, .unset] [(.int arg0), (.int (190 : Int32))])) (fun t k => XS.iloadN X0.here hx rfl (hb hby at_9) rfl k) ?_
      refine own_st (B := s₁.setTop (mkF m 12 #[.val (.int arg0), .val (.int arg1), .val (.int arg2), .unset, .unset, .unset, .unset, .unset, .unset] [(.int (2147483647 : Int32)), (.int arg0), (.int (190 : Int32))])) (fun t k => X0.ldcInt hx hown (mvT hZ (w_0 hw)) (g := (mkF m 10 #[.val (.int arg0), .val (.int arg1), .val (.int arg2), .unset, .unset, .unset, .unset, .unset, .unset] [(.int arg0), (.int (190 : Int32))])) rfl (hb hby at_10) _ k) ?_
      refine own_st (B := s₁.setTop (mkF m 13 #[.val (.int arg0), .val (.int arg1), .val (.int arg2), .unset, .unset, .unset, .unset, .unset, .unset] [(.int (arg0 &&& (2147483647 : Int32))), (.int (190 : Int32))])) (fun t k => XS.iand X0.here hx rfl (hb hby at_12) rfl k) ?_
      refine own_st (B := s₁.setTop (mkF m 15 #[.val (.int arg0), .val (.int arg1), .val (.int arg2), .unset, .unset, .unset, .unset, .unset, .unset] [(.int (120 : Int32)), (.int (arg0 &&& (2147483647 : Int32))), (.int (190 : Int32))])) (fun t k => XS.bipush X0.here hx rfl (hb hby at_13) k) ?_
      refine own_st (B := s₁.setTop (mkF m 16 #[.val (.int arg0), .val (.int arg1), .val (.int arg2), .unset, .unset, .unset, .unset, .unset, .unset] [(.int ((arg0 &&& (2147483647 : Int32)) % (120 : Int32))), (.int (190 : Int32))])) (fun t k => iremM X0 hx (g := (mkF m 15 #[.val (.int arg0), .val (.int arg1), .val (.int arg2), .unset, .unset, .unset, .unset, .unset, .unset] [(.int (120 : Int32)), (.int (arg0 &&& (2147483647 : Int32))), (.int (190 : Int32))])) rfl (x := (arg0 &&& (2147483647 : Int32))) (y := (120 : Int32)) (rest := [(.int (190 : Int32))]) (hb hby at_15) rfl (by decide) k) ?_
      refine own_st (B := s₁.setTop (mkF m 17 #[.val (.int arg0), .val (.int arg1), .val (.int arg2), .unset, .unset, .unset, .unset, .unset, .unset] [(.int ((190 : Int32) + ((arg0 &&& (2147483647 : Int32)) % (120 : Int32))))])) (fun t k => XS.iadd X0.here hx rfl (hb hby at_16) rfl k) ?_
      refine own_st (B := s₁.setTop (mkF m 21 #[.val (.int arg0), .val (.int arg1), .val (.int arg2), .unset, .unset, .unset, .unset, .unset, .unset] [(.int ((190 : Int32) + ((arg0 &&& (2147483647 : Int32)) % (120 : Int32))))])) (fun t k => XS.goto X0.here hx rfl (pc0 := 17) (pc' := 21) rfl (hb hby at_17) (by decide) (by decide) k) ?_
      exact J3 ((190 : Int32) + ((arg0 &&& (2147483647 : Int32)) % (120 : Int32))) (by rw [if_neg hc1])
  intro v2 hv2
  refine own_st (B := s₁.setTop (mkF m 22 #[.val (.int arg0), .val (.int arg1), .val (.int arg2), .val (.int v2), .unset, .unset, .unset, .unset, .unset] [])) (fun t k => XS.istoreN X0.here hx rfl (hb hby at_21) rfl (l' := #[.val (.int arg0), .val (.int arg1), .val (.int arg2), .val (.int v2), .unset, .unset, .unset, .unset, .unset]) rfl k) ?_
  refine own_st (B := s₁.setTop (mkF m 23 #[.val (.int arg0), .val (.int arg1), .val (.int arg2), .val (.int v2), .unset, .unset, .unset, .unset, .unset] [(.int arg1)])) (fun t k => XS.iloadN X0.here hx rfl (hb hby at_22) rfl k) ?_
  refine own_st (B := s₁.setTop (mkF m 24 #[.val (.int arg0), .val (.int arg1), .val (.int arg2), .val (.int v2), .unset, .unset, .unset, .unset, .unset] [(.int (2 : Int32)), (.int arg1)])) (fun t k => XS.iconst X0.here hx rfl (hb hby at_23) k) ?_
  refine own_st (B := s₁.setTop (mkF m 25 #[.val (.int arg0), .val (.int arg1), .val (.int arg2), .val (.int v2), .unset, .unset, .unset, .unset, .unset] [(.int (arg1 &&& (2 : Int32)))])) (fun t k => XS.iand X0.here hx rfl (hb hby at_24) rfl k) ?_
  by_cases hc4 : (arg1 &&& (2 : Int32)) = (0 : Int32)
  · refine own_st (B := s₁.setTop (mkF m 32 #[.val (.int arg0), .val (.int arg1), .val (.int arg2), .val (.int v2), .unset, .unset, .unset, .unset, .unset] [])) (fun t k => XS.ifYes X0.here hx rfl (pc0 := 25) (pc' := 32) rfl (hb hby at_25) rfl (XT.i0_eq_t hc4) (by decide) (by decide) k) ?_
    refine own_st (B := s₁.setTop (mkF m 33 #[.val (.int arg0), .val (.int arg1), .val (.int arg2), .val (.int v2), .unset, .unset, .unset, .unset, .unset] [(.int arg2)])) (fun t k => XS.iloadN X0.here hx rfl (hb hby at_32) rfl k) ?_
    refine own_st (B := s₁.setTop (mkF m 36 #[.val (.int arg0), .val (.int arg1), .val (.int arg2), .val (.int v2), .unset, .unset, .unset, .unset, .unset] [(.int (255 : Int32)), (.int arg2)])) (fun t k => XS.sipush X0.here hx rfl (hb hby at_33) k) ?_
    refine own_st (B := s₁.setTop (mkF m 37 #[.val (.int arg0), .val (.int arg1), .val (.int arg2), .val (.int v2), .unset, .unset, .unset, .unset, .unset] [(.int (arg2 &&& (255 : Int32)))])) (fun t k => XS.iand X0.here hx rfl (hb hby at_36) rfl k) ?_
    refine own_st (B := s₁.setTop (mkF m 38 #[.val (.int arg0), .val (.int arg1), .val (.int arg2), .val (.int v2), .unset, .unset, .unset, .unset, .unset] [(.int ((arg2 &&& (255 : Int32)).toUInt32.toUInt16.toUInt32.toInt32))])) (fun t k => XS.i2c X0.here hx rfl (hb hby at_37) rfl k) ?_
    obtain ⟨_, _, ⟨T5, L5, k5, j5⟩, -, X5, ⟨Lc5, hQ5, l5, y5_, z5_⟩, st5⟩ := Jvm.LawKit.callS X0 hx (y := (⟨"java/lang/String", "valueOf", "(C)Ljava/lang/String;"⟩ : MethodName)) hown (mvT hZ (w_1 hw)) (mvT hZ (w_2 hw)) (mvT hZ (w_3 hw)) (mvT hZ (w_4 hw)) (by decide) (backOf (W := 0) (rm1 l Z a0 hw [] ((arg2 &&& (255 : Int32)).toUInt32.toUInt16.toUInt32.toInt32) cs h0 n0 Z0 F0 hcs (show ¬ ((255 : Int32) < ((arg2 &&& (255 : Int32)).toUInt32.toUInt16.toUInt32.toInt32)) from own_c8 _)) hZ (w_4 hw) (w_3 hw) (by decide) (by decide)) (g := (mkF m 38 #[.val (.int arg0), .val (.int arg1), .val (.int arg2), .val (.int v2), .unset, .unset, .unset, .unset, .unset] [(.int ((arg2 &&& (255 : Int32)).toUInt32.toUInt16.toUInt32.toInt32))])) rfl (by rw [hml]; rfl) (argsL := [(.int ((arg2 &&& (255 : Int32)).toUInt32.toUInt16.toUInt32.toInt32))]) (rest := []) (lenOf own_pd8 rfl) rfl (by show 2 * 0 + _ ≤ _; exact Nat.le_of_eq rfl) (hb hby at_38) (fun _ _ => ⟨rfl, e0, (by decide : 0 + 2 ≤ _), (by decide : 0 + 5 ≤ _)⟩)
    dsimp only [Pt.U, Pt.locs, Pt.cells, Pt.slots] at X5 l5 y5_ z5_ st5 hQ5
    subst l5 y5_ z5_
    obtain ⟨b_5, rfl, N5q, K5, u5_b, y5_b⟩ := hQ5
    have N5 := Fr.app N0 N5q
    have z6 : n0 ≤ T5.heap.size := Nat.le_trans Z0 K5.1
    refine own_st (B := T5.setTop (mkF m 41 #[.val (.int arg0), .val (.int arg1), .val (.int arg2), .val (.int v2), .unset, .unset, .unset, .unset, .unset] [(.ref b_5)])) (fun t k => st5 t k) ?_
    refine own_st (B := T5.setTop (mkF m 43 #[.val (.int arg0), .val (.int arg1), .val (.int arg2), .val (.int v2), .val (.ref b_5), .unset, .unset, .unset, .unset] [])) (fun t k => XS.astore X5.here hx rfl (hb hby at_41) rfl rfl (l' := #[.val (.int arg0), .val (.int arg1), .val (.int arg2), .val (.int v2), .val (.ref b_5), .unset, .unset, .unset, .unset]) rfl k) ?_
    refine own_st (B := T5.setTop (mkF m 44 #[.val (.int arg0), .val (.int arg1), .val (.int arg2), .val (.int v2), .val (.ref b_5), .unset, .unset, .unset, .unset] [(.int arg1)])) (fun t k => XS.iloadN X5.here hx rfl (hb hby at_43) rfl k) ?_
    refine own_st (B := T5.setTop (mkF m 45 #[.val (.int arg0), .val (.int arg1), .val (.int arg2), .val (.int v2), .val (.ref b_5), .unset, .unset, .unset, .unset] [(.int (4 : Int32)), (.int arg1)])) (fun t k => XS.iconst X5.here hx rfl (hb hby at_44) k) ?_
    refine own_st (B := T5.setTop (mkF m 46 #[.val (.int arg0), .val (.int arg1), .val (.int arg2), .val (.int v2), .val (.ref b_5), .unset, .unset, .unset, .unset] [(.int (arg1 &&& (4 : Int32)))])) (fun t k => XS.iand X5.here hx rfl (hb hby at_45) rfl k) ?_
    by_cases hc7 : (arg1 &&& (4 : Int32)) = (0 : Int32)
    · refine own_st (B := T5.setTop (mkF m 53 #[.val (.int arg0), .val (.int arg1), .val (.int arg2), .val (.int v2), .val (.ref b_5), .unset, .unset, .unset, .unset] [])) (fun t k => XS.ifYes X5.here hx rfl (pc0 := 46) (pc' := 53) rfl (hb hby at_46) rfl (XT.i0_eq_t hc7) (by decide) (by decide) k) ?_
      refine own_st (B := T5.setTop (mkF m 54 #[.val (.int arg0), .val (.int arg1), .val (.int arg2), .val (.int v2), .val (.ref b_5), .unset, .unset, .unset, .unset] [(.int arg2)])) (fun t k => XS.iloadN X5.here hx rfl (hb hby at_53) rfl k) ?_
      refine own_st (B := T5.setTop (mkF m 56 #[.val (.int arg0), .val (.int arg1), .val (.int arg2), .val (.int v2), .val (.ref b_5), .unset, .unset, .unset, .unset] [(.int (8 : Int32)), (.int arg2)])) (fun t k => XS.bipush X5.here hx rfl (hb hby at_54) k) ?_
      refine own_st (B := T5.setTop (mkF m 57 #[.val (.int arg0), .val (.int arg1), .val (.int arg2), .val (.int v2), .val (.ref b_5), .unset, .unset, .unset, .unset] [(.int ((arg2.toUInt32 >>> ((8 : Int32) &&& 31).toUInt32).toInt32))])) (fun t k => XS.iushr X5.here hx rfl (hb hby at_56) rfl k) ?_
      refine own_st (B := T5.setTop (mkF m 60 #[.val (.int arg0), .val (.int arg1), .val (.int arg2), .val (.int v2), .val (.ref b_5), .unset, .unset, .unset, .unset] [(.int (255 : Int32)), (.int ((arg2.toUInt32 >>> ((8 : Int32) &&& 31).toUInt32).toInt32))])) (fun t k => XS.sipush X5.here hx rfl (hb hby at_57) k) ?_
      refine own_st (B := T5.setTop (mkF m 61 #[.val (.int arg0), .val (.int arg1), .val (.int arg2), .val (.int v2), .val (.ref b_5), .unset, .unset, .unset, .unset] [(.int (((arg2.toUInt32 >>> ((8 : Int32) &&& 31).toUInt32).toInt32) &&& (255 : Int32)))])) (fun t k => XS.iand X5.here hx rfl (hb hby at_60) rfl k) ?_
      refine own_st (B := T5.setTop (mkF m 62 #[.val (.int arg0), .val (.int arg1), .val (.int arg2), .val (.int v2), .val (.ref b_5), .unset, .unset, .unset, .unset] [(.int ((((arg2.toUInt32 >>> ((8 : Int32) &&& 31).toUInt32).toInt32) &&& (255 : Int32)).toUInt32.toUInt16.toUInt32.toInt32))])) (fun t k => XS.i2c X5.here hx rfl (hb hby at_61) rfl k) ?_
      have f8 : Sta Z T5.heap "java/lang/String" "COMPACT_STRINGS" "Z" (.int cs) := (own_Sta.keep F0 K5 (fun _ q => nomatch q))
      obtain ⟨_, _, ⟨T9, L9, k9, j9⟩, -, X9, ⟨Lc9, hQ9, l9, y9_, z9_⟩, st9⟩ := Jvm.LawKit.callS X5 hx (y := (⟨"java/lang/String", "valueOf", "(C)Ljava/lang/String;"⟩ : MethodName)) hown (mvT hZ (w_1 hw)) (mvT hZ (w_2 hw)) (mvT hZ (w_3 hw)) (mvT hZ (w_4 hw)) (by decide) (backOf (W := 0) (rm1 l Z a0 hw [] ((((arg2.toUInt32 >>> ((8 : Int32) &&& 31).toUInt32).toInt32) &&& (255 : Int32)).toUInt32.toUInt16.toUInt32.toInt32) cs T5.heap n0 z6 f8 hcs (show ¬ ((255 : Int32) < ((((arg2.toUInt32 >>> ((8 : Int32) &&& 31).toUInt32).toInt32) &&& (255 : Int32)).toUInt32.toUInt16.toUInt32.toInt32)) from own_c8 _)) hZ (w_4 hw) (w_3 hw) (by decide) (by decide)) (g := (mkF m 62 #[.val (.int arg0), .val (.int arg1), .val (.int arg2), .val (.int v2), .val (.ref b_5), .unset, .unset, .unset, .unset] [(.int ((((arg2.toUInt32 >>> ((8 : Int32) &&& 31).toUInt32).toInt32) &&& (255 : Int32)).toUInt32.toUInt16.toUInt32.toInt32))])) rfl (by rw [hml]; rfl) (argsL := [(.int ((((arg2.toUInt32 >>> ((8 : Int32) &&& 31).toUInt32).toInt32) &&& (255 : Int32)).toUInt32.toUInt16.toUInt32.toInt32))]) (rest := []) (lenOf own_pd8 rfl) rfl (by show 2 * 0 + _ ≤ _; exact Nat.le_of_eq rfl) (hb hby at_62) (fun _ _ => ⟨rfl, rfl, (by decide : 2 + 2 ≤ _), (by decide : 5 + 5 ≤ _)⟩)
      dsimp only [Pt.U, Pt.locs, Pt.cells, Pt.slots] at X9 l9 y9_ z9_ st9 hQ9
      subst l9 y9_ z9_
      obtain ⟨b_9, rfl, N9q, K9, u9_b, y9_b⟩ := hQ9
      have N9 := Fr.app N5 N9q
      have z10 : n0 ≤ T9.heap.size := Nat.le_trans z6 K9.1
      refine own_st (B := T9.setTop (mkF m 65 #[.val (.int arg0), .val (.int arg1), .val (.int arg2), .val (.int v2), .val (.ref b_5), .unset, .unset, .unset, .unset] [(.ref b_9)])) (fun t k => st9 t k) ?_
      refine own_st (B := T9.setTop (mkF m 67 #[.val (.int arg0), .val (.int arg1), .val (.int arg2), .val (.int v2), .val (.ref b_5), .val (.ref b_9), .unset, .unset, .unset] [])) (fun t k => XS.astore X9.here hx rfl (hb hby at_65) rfl rfl (l' := #[.val (.int arg0), .val (.int arg1), .val (.int arg2), .val (.int v2), .val (.ref b_5), .val (.ref b_9), .unset, .unset, .unset]) rfl k) ?_
      refine own_st (B := T9.setTop (mkF m 68 #[.val (.int arg0), .val (.int arg1), .val (.int arg2), .val (.int v2), .val (.ref b_5), .val (.ref b_9), .unset, .unset, .unset] [(.int arg1)])) (fun t k => XS.iloadN X9.here hx rfl (hb hby at_67) rfl k) ?_
      refine own_st (B := T9.setTop (mkF m 69 #[.val (.int arg0), .val (.int arg1), .val (.int arg2), .val (.int v2), .val (.ref b_5), .val (.ref b_9), .unset, .unset, .unset] [(.int (3 : Int32)), (.int arg1)])) (fun t k => XS.iconst X9.here hx rfl (hb hby at_68) k) ?_
      refine own_st (B := T9.setTop (mkF m 70 #[.val (.int arg0), .val (.int arg1), .val (.int arg2), .val (.int v2), .val (.ref b_5), .val (.ref b_9), .unset, .unset, .unset] [(.int ((arg1.toUInt32 >>> ((3 : Int32) &&& 31).toUInt32).toInt32))])) (fun t k => XS.iushr X9.here hx rfl (hb hby at_69) rfl k) ?_
      refine own_st (B := T9.setTop (mkF m 71 #[.val (.int arg0), .val (.int arg1), .val (.int arg2), .val (.int v2), .val (.ref b_5), .val (.ref b_9), .unset, .unset, .unset] [(.int (3 : Int32)), (.int ((arg1.toUInt32 >>> ((3 : Int32) &&& 31).toUInt32).toInt32))])) (fun t k => XS.iconst X9.here hx rfl (hb hby at_70) k) ?_
      refine own_st (B := T9.setTop (mkF m 72 #[.val (.int arg0), .val (.int arg1), .val (.int arg2), .val (.int v2), .val (.ref b_5), .val (.ref b_9), .unset, .unset, .unset] [(.int (((arg1.toUInt32 >>> ((3 : Int32) &&& 31).toUInt32).toInt32) &&& (3 : Int32)))])) (fun t k => XS.iand X9.here hx rfl (hb hby at_71) rfl k) ?_
      obtain ⟨T11, h11, X11, e11, E11, A11, x11, st11⟩ := own_newP X9 hx hZ (aty := .byte) (w_15 hw) rfl (g := (mkF m 72 #[.val (.int arg0), .val (.int arg1), .val (.int arg2), .val (.int v2), .val (.ref b_5), .val (.ref b_9), .unset, .unset, .unset] [(.int (((arg1.toUInt32 >>> ((3 : Int32) &&& 31).toUInt32).toInt32) &&& (3 : Int32)))])) rfl (hb hby at_72) (n := (((arg1.toUInt32 >>> ((3 : Int32) &&& 31).toUInt32).toInt32) &&& (3 : Int32))) (rest := []) rfl (k := ((((arg1.toUInt32 >>> ((3 : Int32) &&& 31).toUInt32).toInt32) &&& (3 : Int32)).toInt.toNat)) (cap := 3) (show (((arg1.toUInt32 >>> ((3 : Int32) &&& 31).toUInt32).toInt32) &&& (3 : Int32)).toInt = (((((arg1.toUInt32 >>> ((3 : Int32) &&& 31).toUInt32).toInt32) &&& (3 : Int32)).toInt.toNat : Nat) : Int) by have := own_k3 ((arg1.toUInt32 >>> ((3 : Int32) &&& 31).toUInt32).toInt32); omega) (show (((arg1.toUInt32 >>> ((3 : Int32) &&& 31).toUInt32).toInt32) &&& (3 : Int32)).toInt.toNat ≤ 3 by have := own_k3 ((arg1.toUInt32 >>> ((3 : Int32) &&& 31).toUInt32).toInt32); omega) (by decide) (by decide) (by decide) (ad := "[B") rfl
      obtain ⟨b11, g11⟩ : ∃ z, z = T9.heap.size := ⟨_, rfl⟩
      rw [← g11] at A11 x11 st11
      have u11 : n0 ≤ b11 := Nat.le_trans z10 (Nat.le_of_eq g11.symm)
      have z12 : n0 ≤ h11.size := Nat.le_trans z10 E11.1
      have f11_ : own_A Z h11 b11 .byte (List.replicate ((((arg1.toUInt32 >>> ((3 : Int32) &&& 31).toUInt32).toInt32) &&& (3 : Int32)).toInt.toNat) (.int (0 : Int32))) := A11
      refine own_st (B := T11.setTop (mkF m 74 #[.val (.int arg0), .val (.int arg1), .val (.int arg2), .val (.int v2), .val (.ref b_5), .val (.ref b_9), .unset, .unset, .unset] [(.ref b11)])) (fun t k => st11 t k) ?_
      refine own_st (B := T11.setTop (mkF m 76 #[.val (.int arg0), .val (.int arg1), .val (.int arg2), .val (.int v2), .val (.ref b_5), .val (.ref b_9), .val (.ref b11), .unset, .unset] [])) (fun t k => XS.astore X11.here hx rfl (hb hby at_74) rfl rfl (l' := #[.val (.int arg0), .val (.int arg1), .val (.int arg2), .val (.int v2), .val (.ref b_5), .val (.ref b_9), .val (.ref b11), .unset, .unset]) rfl k) ?_
      obtain ⟨T13, h13, X13, e13, E13, A13, D13, -, st13⟩ := newO X11 hx hZ hown (w_27 hw) (w_28 hw) (w_29 hw) e11 (g := (mkF m 76 #[.val (.int arg0), .val (.int arg1), .val (.int arg2), .val (.int v2), .val (.ref b_5), .val (.ref b_9), .val (.ref b11), .unset, .unset] [])) rfl (hb hby at_76) (by decide) (by decide)
      obtain ⟨b13, g13⟩ : ∃ z, z = h11.size := ⟨_, rfl⟩
      rw [← g13] at A13 D13 st13
      have q13_b11 : b11 ≠ b13 := Nat.ne_of_lt (Nat.lt_of_lt_of_le f11_.lt (Nat.le_of_eq g13.symm))
      have u13 : n0 ≤ b13 := Nat.le_trans z12 (Nat.le_of_eq g13.symm)
      have z14 : n0 ≤ h13.size := Nat.le_trans z12 E13.1
      have f15 : Fld Z h13 b13 "com/example/stockwright/stockwright/model/RememberedAnswer" "status" "I" (.int (0 : Int32)) := D13 (Or.inr (w_40 hw)) (ty := .int) (by decide)
      have f16 : Fld Z h13 b13 "com/example/stockwright/stockwright/model/RememberedAnswer" "contentType" "Ljava/lang/String;" .null := D13 (Or.inr (w_42 hw)) (ty := (.object "java/lang/String")) (by decide)
      have f17 : Fld Z h13 b13 "com/example/stockwright/stockwright/model/RememberedAnswer" "location" "Ljava/lang/String;" .null := D13 (Or.inr (w_44 hw)) (ty := (.object "java/lang/String")) (by decide)
      have f18 : Fld Z h13 b13 "com/example/stockwright/stockwright/model/RememberedAnswer" "body" "[B" .null := D13 (Or.inr (w_46 hw)) (ty := (.array .byte)) (by decide)
      refine own_st (B := T13.setTop (mkF m 79 #[.val (.int arg0), .val (.int arg1), .val (.int arg2), .val (.int v2), .val (.ref b_5), .val (.ref b_9), .val (.ref b11), .unset, .unset] [(.ref b13)])) (fun t k => st13 t k) ?_
      refine own_st (B := T13.setTop (mkF m 80 #[.val (.int arg0), .val (.int arg1), .val (.int arg2), .val (.int v2), .val (.ref b_5), .val (.ref b_9), .val (.ref b11), .unset, .unset] [(.ref b13), (.ref b13)])) (fun t k => XS.dup X13.here hx rfl (hb hby at_79) rfl rfl k) ?_
      refine own_st (B := T13.setTop (mkF m 81 #[.val (.int arg0), .val (.int arg1), .val (.int arg2), .val (.int v2), .val (.ref b_5), .val (.ref b_9), .val (.ref b11), .unset, .unset] [(.int v2), (.ref b13), (.ref b13)])) (fun t k => XS.iloadN X13.here hx rfl (hb hby at_80) rfl k) ?_
      refine own_st (B := T13.setTop (mkF m 83 #[.val (.int arg0), .val (.int arg1), .val (.int arg2), .val (.int v2), .val (.ref b_5), .val (.ref b_9), .val (.ref b11), .unset, .unset] [(.ref b_5), (.int v2), (.ref b13), (.ref b13)])) (fun t k => XS.aload X13.here hx rfl (hb hby at_81) rfl rfl k) ?_
      refine own_st (B := T13.setTop (mkF m 85 #[.val (.int arg0), .val (.int arg1), .val (.int arg2), .val (.int v2), .val (.ref b_5), .val (.ref b_9), .val (.ref b11), .unset, .unset] [(.ref b_9), (.ref b_5), (.int v2), (.ref b13), (.ref b13)])) (fun t k => XS.aload X13.here hx rfl (hb hby at_83) rfl rfl k) ?_
      refine own_st (B := T13.setTop (mkF m 87 #[.val (.int arg0), .val (.int arg1), .val (.int arg2), .val (.int v2), .val (.ref b_5), .val (.ref b_9), .val (.ref b11), .unset, .unset] [(.ref b11), (.ref b_9), (.ref b_5), (.int v2), (.ref b13), (.ref b13)])) (fun t k => XS.aload X13.here hx rfl (hb hby at_85) rfl rfl k) ?_
      obtain ⟨_, _, ⟨T19, L19, k19, j19⟩, -, X19, ⟨Lc19, hQ19, l19, y19_, z19_⟩, st19⟩ := X13.specialBack hx (y := (⟨"com/example/stockwright/stockwright/model/RememberedAnswer", "<init>", "(ILjava/lang/String;Ljava/lang/String;[B)V"⟩ : MethodName)) rfl hown (mvT hZ (w_30 hw)) (mvT hZ (w_31 hw)) (mvT hZ (w_32 hw)) (by decide) (backOf (W := 1) (rm6d l Z a0 hw [] b13 v2 b_5 b_9 b11 h13 n0 z14 A13 f15 f16 f17 f18 u13) hZ (w_32 hw) (w_29 hw) (by decide) (by decide)) (g := (mkF m 87 #[.val (.int arg0), .val (.int arg1), .val (.int arg2), .val (.int v2), .val (.ref b_5), .val (.ref b_9), .val (.ref b11), .unset, .unset] [(.ref b11), (.ref b_9), (.ref b_5), (.int v2), (.ref b13), (.ref b13)])) rfl (by rw [hml]; rfl) (Steps.refl _) (a := b13) (argsL := [(.int v2), (.ref b_5), (.ref b_9), (.ref b11)]) (rest := [(.ref b13)]) (lenOf own_pd9 rfl) rfl (by show 2 * 0 + _ ≤ _; exact Nat.le_of_eq rfl) (hb hby at_87) (fun _ _ => ⟨rfl, e13, (by decide : 6 + 0 ≤ _), (by decide : 17 + 0 ≤ _)⟩)
      dsimp only [Pt.U, Pt.locs, Pt.cells, Pt.slots] at X19 l19 y19_ z19_ st19 hQ19
      subst l19 y19_ z19_
      obtain ⟨rfl, N19q, K19, p19_0, p19_1⟩ := hQ19
      have N19 := Fr.app N9 N19q
      have z20 : n0 ≤ T19.heap.size := Nat.le_trans z14 K19.1
      refine own_ss (B := T19.setTop (mkF m 90 #[.val (.int arg0), .val (.int arg1), .val (.int arg2), .val (.int v2), .val (.ref b_5), .val (.ref b_9), .val (.ref b11), .unset, .unset] [(.ref b13)])) st19 ?_
      refine own_st (B := T19.setTop (mkF m 92 #[.val (.int arg0), .val (.int arg1), .val (.int arg2), .val (.int v2), .val (.ref b_5), .val (.ref b_9), .val (.ref b11), .val (.ref b13), .unset] [])) (fun t k => XS.astore X19.here hx rfl (hb hby at_90) rfl rfl (l' := #[.val (.int arg0), .val (.int arg1), .val (.int arg2), .val (.int v2), .val (.ref b_5), .val (.ref b_9), .val (.ref b11), .val (.ref b13), .unset]) rfl k) ?_
      refine own_st (B := T19.setTop (mkF m 93 #[.val (.int arg0), .val (.int arg1), .val (.int arg2), .val (.int v2), .val (.ref b_5), .val (.ref b_9), .val (.ref b11), .val (.ref b13), .unset] [(.int v2)])) (fun t k => XS.iloadN X19.here hx rfl (hb hby at_92) rfl k) ?_
      refine own_st (B := T19.setTop (mkF m 95 #[.val (.int arg0), .val (.int arg1), .val (.int arg2), .val (.int v2), .val (.ref b_5), .val (.ref b_9), .val (.ref b11), .val (.ref b13), .unset] [(.int (100 : Int32)), (.int v2)])) (fun t k => XS.bipush X19.here hx rfl (hb hby at_93) k) ?_
      refine own_st (B := T19.setTop (mkF m 96 #[.val (.int arg0), .val (.int arg1), .val (.int arg2), .val (.int v2), .val (.ref b_5), .val (.ref b_9), .val (.ref b11), .val (.ref b13), .unset] [(.int (v2 / (100 : Int32)))])) (fun t k => XS.idiv X19.here hx (g := (mkF m 95 #[.val (.int arg0), .val (.int arg1), .val (.int arg2), .val (.int v2), .val (.ref b_5), .val (.ref b_9), .val (.ref b11), .val (.ref b13), .unset] [(.int (100 : Int32)), (.int v2)])) rfl (x := v2) (y := (100 : Int32)) (rest := []) (hb hby at_95) rfl (by decide) k) ?_
      refine own_st (B := T19.setTop (mkF m 97 #[.val (.int arg0), .val (.int arg1), .val (.int arg2), .val (.int v2), .val (.ref b_5), .val (.ref b_9), .val (.ref b11), .val (.ref b13), .unset] [(.int (2 : Int32)), (.int (v2 / (100 : Int32)))])) (fun t k => XS.iconst X19.here hx rfl (hb hby at_96) k) ?_
      refine own_cut (P := ∀ (v22 : Int32), (v22 = (if (v2 / (100 : Int32)) = (2 : Int32) then (1 : Int32) else (0 : Int32))) → own_Go p e below s (Q0 Z arg0 arg1 arg2 cs h0 n0) 24 128 (T19.setTop (mkF m 105 #[.val (.int arg0), .val (.int arg1), .val (.int arg2), .val (.int v2), .val (.ref b_5), .val (.ref b_9), .val (.ref b11), .val (.ref b13), .unset] [(.int v22)]))) (fun J23 => ?_) ?_
      · by_cases hc21 : (v2 / (100 : Int32)) = (2 : Int32)
        · refine own_st (B := T19.setTop (mkF m 100 #[.val (.int arg0), .val (.int arg1), .val (.int arg2), .val (.int v2), .val (.ref b_5), .val (.ref b_9), .val (.ref b11), .val (.ref b13), .unset] [])) (fun t k => XS.icmpNo X19.here hx rfl (hb hby at_97) rfl (XT.ii_ne_f hc21) k) ?_
          refine own_st (B := T19.setTop (mkF m 101 #[.val (.int arg0), .val (.int arg1), .val (.int arg2), .val (.int v2), .val (.ref b_5), .val (.ref b_9), .val (.ref b11), .val (.ref b13), .unset] [(.int (1 : Int32))])) (fun t k => XS.iconst X19.here hx rfl (hb hby at_100) k) ?_
          refine own_st (B := T19.setTop (mkF m 105 #[.val (.int arg0), .val (.int arg1), .val (.int arg2), .val (.int v2), .val (.ref b_5), .val (.ref b_9), .val (.ref b11), .val (.ref b13), .unset] [(.int (1 : Int32))])) (fun t k => XS.goto X19.here hx rfl (pc0 := 101) (pc' := 105) rfl (hb hby at_101) (by decide) (by decide) k) ?_
          exact J23 (1 : Int32) (by rw [if_pos hc21])
        · refine own_st (B := T19.setTop (mkF m 104 #[.val (.int arg0), .val (.int arg1), .val (.int arg2), .val (.int v2), .val (.ref b_5), .val (.ref b_9), .val (.ref b11), .val (.ref b13), .unset] [])) (fun t k => XS.icmpYes X19.here hx rfl (pc0 := 97) (pc' := 104) rfl (hb hby at_97) rfl (XT.ii_ne_t hc21) (by decide) (by decide) k) ?_
          refine own_st (B := T19.setTop (mkF m 105 #[.val (.int arg0), .val (.int arg1), .val (.int arg2), .val (.int v2), .val (.ref b_5), .val (.ref b_9), .val (.ref b11), .val (.ref b13), .unset] [(.int (0 : Int32))])) (fun t k => XS.iconst X19.here hx rfl (hb hby at_104) k) ?_
          exact J23 (0 : Int32) (by rw [if_neg hc21])
      intro v22 hv22
      refine own_st (B := T19.setTop (mkF m 107 #[.val (.int arg0), .val (.int arg1), .val (.int arg2), .val (.int v2), .val (.ref b_5), .val (.ref b_9), .val (.ref b11), .val (.ref b13), .val (.int v22)] [])) (fun t k => XS.istore X19.here hx rfl (hb hby at_105) rfl (l' := #[.val (.int arg0), .val (.int arg1), .val (.int arg2), .val (.int v2), .val (.ref b_5), .val (.ref b_9), .val (.ref b11), .val (.ref b13), .val (.int v22)]) rfl k) ?_
      refine own_st (B := T19.setTop (mkF m 109 #[.val (.int arg0), .val (.int arg1), .val (.int arg2), .val (.int v2), .val (.ref b_5), .val (.ref b_9), .val (.ref b11), .val (.ref b13), .val (.int v22)] [(.ref b13)])) (fun t k => XS.aload X19.here hx rfl (hb hby at_107) rfl rfl k) ?_
      obtain ⟨cq24, kq24, q24a, q24b, q24c⟩ := isOf hZ rfl p19_0
      obtain ⟨_, _, ⟨T24, L24, k24, j24⟩, -, X24, ⟨Lc24, hQ24, l24, y24_, z24_⟩, st24⟩ := X19.virtualBack hx (y := (⟨"com/example/stockwright/stockwright/model/RememberedAnswer", "succeeded", "()Z"⟩ : MethodName)) (z := (⟨"com/example/stockwright/stockwright/model/RememberedAnswer", "succeeded", "()Z"⟩ : MethodName)) hown (mvT hZ (w_47 hw)) (mvT hZ (w_48 hw)) (notFace_of_selects (args := #[]) (mvT hZ (w_50 hw))) (mvT hZ (w_50 hw)) (mvT hZ (w_49 hw)) (by decide) (backOf (W := 0) (rm8 l Z a0 hw [] b13 v2 T19.heap n0 z20 p19_1) hZ (w_51 hw) (w_29 hw) (by decide) (by decide)) q24a q24c (g := (mkF m 109 #[.val (.int arg0), .val (.int arg1), .val (.int arg2), .val (.int v2), .val (.ref b_5), .val (.ref b_9), .val (.ref b11), .val (.ref b13), .val (.int v22)] [(.ref b13)])) rfl (by rw [hml]; rfl) (Steps.refl _) (argsL := []) (rest := []) (lenOf own_pd10 rfl) rfl (by show 2 * 0 + _ ≤ _; exact Nat.le_of_eq rfl) (hb hby at_109) (fun _ _ => ⟨rfl, rfl, (by decide : 6 + 0 ≤ _), (by decide : 17 + 0 ≤ _)⟩)
      dsimp only [Pt.U, Pt.locs, Pt.cells, Pt.slots] at X24 l24 y24_ z24_ st24 hQ24
      subst l24 y24_ z24_
      obtain ⟨rfl, N24q, e24q⟩ := hQ24
      have N24 := Fr.app N19 N24q
      refine own_ss (B := T24.setTop (mkF m 112 #[.val (.int arg0), .val (.int arg1), .val (.int arg2), .val (.int v2), .val (.ref b_5), .val (.ref b_9), .val (.ref b11), .val (.ref b13), .val (.int v22)] [(.int (own_f8 b13 v2))])) st24 ?_
      refine own_st (B := T24.setTop (mkF m 114 #[.val (.int arg0), .val (.int arg1), .val (.int arg2), .val (.int v2), .val (.ref b_5), .val (.ref b_9), .val (.ref b11), .val (.ref b13), .val (.int v22)] [(.int v22), (.int (own_f8 b13 v2))])) (fun t k => XS.iload X24.here hx rfl (hb hby at_112) rfl k) ?_
      have hc25 : (own_f8 b13 v2) = v22 := by
        exact own_fin hv22
      refine own_st (B := T24.setTop (mkF m 117 #[.val (.int arg0), .val (.int arg1), .val (.int arg2), .val (.int v2), .val (.ref b_5), .val (.ref b_9), .val (.ref b11), .val (.ref b13), .val (.int v22)] [])) (fun t k => XS.icmpNo X24.here hx rfl (hb hby at_114) rfl (XT.ii_ne_f hc25) k) ?_
      refine own_st (B := T24.setTop (mkF m 118 #[.val (.int arg0), .val (.int arg1), .val (.int arg2), .val (.int v2), .val (.ref b_5), .val (.ref b_9), .val (.ref b11), .val (.ref b13), .val (.int v22)] [(.int (1 : Int32))])) (fun t k => XS.iconst X24.here hx rfl (hb hby at_117) k) ?_
      refine own_st (B := T24.setTop (mkF m 122 #[.val (.int arg0), .val (.int arg1), .val (.int arg2), .val (.int v2), .val (.ref b_5), .val (.ref b_9), .val (.ref b11), .val (.ref b13), .val (.int v22)] [(.int (1 : Int32))])) (fun t k => XS.goto X24.here hx rfl (pc0 := 118) (pc' := 122) rfl (hb hby at_118) (by decide) (by decide) k) ?_
      refine own_retN X24 hx hlk (t := .boolean) Bd.returns (by simp) (z' := (1 : Int32)) rfl (hb hby at_122) (by decide) (by decide) ?_
      show Q0 Z arg0 arg1 arg2 cs h0 n0 _ T24.heap _
      rw [e24q]
      exact ⟨rfl, N24⟩
    · refine own_st (B := T5.setTop (mkF m 49 #[.val (.int arg0), .val (.int arg1), .val (.int arg2), .val (.int v2), .val (.ref b_5), .unset, .unset, .unset, .unset] [])) (fun t k => XS.ifNo X5.here hx rfl (hb hby at_46) rfl (XT.i0_eq_f hc7) k) ?_
      refine own_st (B := T5.setTop (mkF m 50 #[.val (.int arg0), .val (.int arg1), .val (.int arg2), .val (.int v2), .val (.ref b_5), .unset, .unset, .unset, .unset] [.null])) (fun t k => XS.aconstNull X5.here hx rfl (hb hby at_49) k) ?_
      refine own_st (B := T5.setTop (mkF m 65 #[.val (.int arg0), .val (.int arg1), .val (.int arg2), .val (.int v2), .val (.ref b_5), .unset, .unset, .unset, .unset] [.null])) (fun t k => XS.goto X5.here hx rfl (pc0 := 50) (pc' := 65) rfl (hb hby at_50) (by decide) (by decide) k) ?_
      refine own_st (B := T5.setTop (mkF m 67 #[.val (.int arg0), .val (.int arg1), .val (.int arg2), .val (.int v2), .val (.ref b_5), .val .null, .unset, .unset, .unset] [])) (fun t k => XS.astore X5.here hx rfl (hb hby at_65) rfl rfl (l' := #[.val (.int arg0), .val (.int arg1), .val (.int arg2), .val (.int v2), .val (.ref b_5), .val .null, .unset, .unset, .unset]) rfl k) ?_
      refine own_st (B := T5.setTop (mkF m 68 #[.val (.int arg0), .val (.int arg1), .val (.int arg2), .val (.int v2), .val (.ref b_5), .val .null, .unset, .unset, .unset] [(.int arg1)])) (fun t k => XS.iloadN X5.here hx rfl (hb hby at_67) rfl k) ?_
      refine own_st (B := T5.setTop (mkF m 69 #[.val (.int arg0), .val (.int arg1), .val (.int arg2), .val (.int v2), .val (.ref b_5), .val .null, .unset, .unset, .unset] [(.int (3 : Int32)), (.int arg1)])) (fun t k => XS.iconst X5.here hx rfl (hb hby at_68) k) ?_
      refine own_st (B := T5.setTop (mkF m 70 #[.val (.int arg0), .val (.int arg1), .val (.int arg2), .val (.int v2), .val (.ref b_5), .val .null, .unset, .unset, .unset] [(.int ((arg1.toUInt32 >>> ((3 : Int32) &&& 31).toUInt32).toInt32))])) (fun t k => XS.iushr X5.here hx rfl (hb hby at_69) rfl k) ?_
      refine own_st (B := T5.setTop (mkF m 71 #[.val (.int arg0), .val (.int arg1), .val (.int arg2), .val (.int v2), .val (.ref b_5), .val .null, .unset, .unset, .unset] [(.int (3 : Int32)), (.int ((arg1.toUInt32 >>> ((3 : Int32) &&& 31).toUInt32).toInt32))])) (fun t k => XS.iconst X5.here hx rfl (hb hby at_70) k) ?_
      refine own_st (B := T5.setTop (mkF m 72 #[.val (.int arg0), .val (.int arg1), .val (.int arg2), .val (.int v2), .val (.ref b_5), .val .null, .unset, .unset, .unset] [(.int (((arg1.toUInt32 >>> ((3 : Int32) &&& 31).toUInt32).toInt32) &&& (3 : Int32)))])) (fun t k => XS.iand X5.here hx rfl (hb hby at_71) rfl k) ?_
      obtain ⟨T26, h26, X26, e26, E26, A26, x26, st26⟩ := own_newP X5 hx hZ (aty := .byte) (w_15 hw) rfl (g := (mkF m 72 #[.val (.int arg0), .val (.int arg1), .val (.int arg2), .val (.int v2), .val (.ref b_5), .val .null, .unset, .unset, .unset] [(.int (((arg1.toUInt32 >>> ((3 : Int32) &&& 31).toUInt32).toInt32) &&& (3 : Int32)))])) rfl (hb hby at_72) (n := (((arg1.toUInt32 >>> ((3 : Int32) &&& 31).toUInt32).toInt32) &&& (3 : Int32))) (rest := []) rfl (k := ((((arg1.toUInt32 >>> ((3 : Int32) &&& 31).toUInt32).toInt32) &&& (3 : Int32)).toInt.toNat)) (cap := 3) (show (((arg1.toUInt32 >>> ((3 : Int32) &&& 31).toUInt32).toInt32) &&& (3 : Int32)).toInt = (((((arg1.toUInt32 >>> ((3 : Int32) &&& 31).toUInt32).toInt32) &&& (3 : Int32)).toInt.toNat : Nat) : Int) by have := own_k3 ((arg1.toUInt32 >>> ((3 : Int32) &&& 31).toUInt32).toInt32); omega) (show (((arg1.toUInt32 >>> ((3 : Int32) &&& 31).toUInt32).toInt32) &&& (3 : Int32)).toInt.toNat ≤ 3 by have := own_k3 ((arg1.toUInt32 >>> ((3 : Int32) &&& 31).toUInt32).toInt32); omega) (by decide) (by decide) (by decide) (ad := "[B") rfl
      obtain ⟨b26, g26⟩ : ∃ z, z = T5.heap.size := ⟨_, rfl⟩
      rw [← g26] at A26 x26 st26
      have u26 : n0 ≤ b26 := Nat.le_trans z6 (Nat.le_of_eq g26.symm)
      have z27 : n0 ≤ h26.size := Nat.le_trans z6 E26.1
      have f26_ : own_A Z h26 b26 .byte (List.replicate ((((arg1.toUInt32 >>> ((3 : Int32) &&& 31).toUInt32).toInt32) &&& (3 : Int32)).toInt.toNat) (.int (0 : Int32))) := A26
      refine own_st (B := T26.setTop (mkF m 74 #[.val (.int arg0), .val (.int arg1), .val (.int arg2), .val (.int v2), .val (.ref b_5), .val .null, .unset, .unset, .unset] [(.ref b26)])) (fun t k => st26 t k) ?_
      refine own_st (B := T26.setTop (mkF m 76 #[.val (.int arg0), .val (.int arg1), .val (.int arg2), .val (.int v2), .val (.ref b_5), .val .null, .val (.ref b26), .unset, .unset] [])) (fun t k => XS.astore X26.here hx rfl (hb hby at_74) rfl rfl (l' := #[.val (.int arg0), .val (.int arg1), .val (.int arg2), .val (.int v2), .val (.ref b_5), .val .null, .val (.ref b26), .unset, .unset]) rfl k) ?_
      obtain ⟨T28, h28, X28, e28, E28, A28, D28, -, st28⟩ := newO X26 hx hZ hown (w_27 hw) (w_28 hw) (w_29 hw) e26 (g := (mkF m 76 #[.val (.int arg0), .val (.int arg1), .val (.int arg2), .val (.int v2), .val (.ref b_5), .val .null, .val (.ref b26), .unset, .unset] [])) rfl (hb hby at_76) (by decide) (by decide)
      obtain ⟨b28, g28⟩ : ∃ z, z = h26.size := ⟨_, rfl⟩
      rw [← g28] at A28 D28 st28
      have q28_b26 : b26 ≠ b28 := Nat.ne_of_lt (Nat.lt_of_lt_of_le f26_.lt (Nat.le_of_eq g28.symm))
      have u28 : n0 ≤ b28 := Nat.le_trans z27 (Nat.le_of_eq g28.symm)
      have z29 : n0 ≤ h28.size := Nat.le_trans z27 E28.1
      have f30 : Fld Z h28 b28 "com/example/stockwright/stockwright/model/RememberedAnswer" "status" "I" (.int (0 : Int32)) := D28 (Or.inr (w_40 hw)) (ty := .int) (by decide)
      have f31 : Fld Z h28 b28 "com/example/stockwright/stockwright/model/RememberedAnswer" "contentType" "Ljava/lang/String;" .null := D28 (Or.inr (w_42 hw)) (ty := (.object "java/lang/String")) (by decide)
      have f32 : Fld Z h28 b28 "com/example/stockwright/stockwright/model/RememberedAnswer" "location" "Ljava/lang/String;" .null := D28 (Or.inr (w_44 hw)) (ty := (.object "java/lang/String")) (by decide)
      have f33 : Fld Z h28 b28 "com/example/stockwright/stockwright/model/RememberedAnswer" "body" "[B" .null := D28 (Or.inr (w_46 hw)) (ty := (.array .byte)) (by decide)
      refine own_st (B := T28.setTop (mkF m 79 #[.val (.int arg0), .val (.int arg1), .val (.int arg2), .val (.int v2), .val (.ref b_5), .val .null, .val (.ref b26), .unset, .unset] [(.ref b28)])) (fun t k => st28 t k) ?_
      refine own_st (B := T28.setTop (mkF m 80 #[.val (.int arg0), .val (.int arg1), .val (.int arg2), .val (.int v2), .val (.ref b_5), .val .null, .val (.ref b26), .unset, .unset] [(.ref b28), (.ref b28)])) (fun t k => XS.dup X28.here hx rfl (hb hby at_79) rfl rfl k) ?_
      refine own_st (B := T28.setTop (mkF m 81 #[.val (.int arg0), .val (.int arg1), .val (.int arg2), .val (.int v2), .val (.ref b_5), .val .null, .val (.ref b26), .unset, .unset] [(.int v2), (.ref b28), (.ref b28)])) (fun t k => XS.iloadN X28.here hx rfl (hb hby at_80) rfl k) ?_
      refine own_st (B := T28.setTop (mkF m 83 #[.val (.int arg0), .val (.int arg1), .val (.int arg2), .val (.int v2), .val (.ref b_5), .val .null, .val (.ref b26), .unset, .unset] [(.ref b_5), (.int v2), (.ref b28), (.ref b28)])) (fun t k => XS.aload X28.here hx rfl (hb hby at_81) rfl rfl k) ?_
      refine own_st (B := T28.setTop (mkF m 85 #[.val (.int arg0), .val (.int arg1), .val (.int arg2), .val (.int v2), .val (.ref b_5), .val .null, .val (.ref b26), .unset, .unset] [.null, (.ref b_5), (.int v2), (.ref b28), (.ref b28)])) (fun t k => XS.aload X28.here hx rfl (hb hby at_83) rfl rfl k) ?_
      refine own_st (B := T28.setTop (mkF m 87 #[.val (.int arg0), .val (.int arg1), .val (.int arg2), .val (.int v2), .val (.ref b_5), .val .null, .val (.ref b26), .unset, .unset] [(.ref b26), .null, (.ref b_5), (.int v2), (.ref b28), (.ref b28)])) (fun t k => XS.aload X28.here hx rfl (hb hby at_85) rfl rfl k) ?_
      obtain ⟨_, _, ⟨T34, L34, k34, j34⟩, -, X34, ⟨Lc34, hQ34, l34, y34_, z34_⟩, st34⟩ := X28.specialBack hx (y := (⟨"com/example/stockwright/stockwright/model/RememberedAnswer", "<init>", "(ILjava/lang/String;Ljava/lang/String;[B)V"⟩ : MethodName)) rfl hown (mvT hZ (w_30 hw)) (mvT hZ (w_31 hw)) (mvT hZ (w_32 hw)) (by decide) (backOf (W := 1) (rm6c l Z a0 hw [] b28 v2 b_5 b26 h28 n0 z29 A28 f30 f31 f32 f33 u28) hZ (w_32 hw) (w_29 hw) (by decide) (by decide)) (g := (mkF m 87 #[.val (.int arg0), .val (.int arg1), .val (.int arg2), .val (.int v2), .val (.ref b_5), .val .null, .val (.ref b26), .unset, .unset] [(.ref b26), .null, (.ref b_5), (.int v2), (.ref b28), (.ref b28)])) rfl (by rw [hml]; rfl) (Steps.refl _) (a := b28) (argsL := [(.int v2), (.ref b_5), .null, (.ref b26)]) (rest := [(.ref b28)]) (lenOf own_pd9 rfl) rfl (by show 2 * 0 + _ ≤ _; exact Nat.le_of_eq rfl) (hb hby at_87) (fun _ _ => ⟨rfl, e28, (by decide : 4 + 0 ≤ _), (by decide : 12 + 0 ≤ _)⟩)
      dsimp only [Pt.U, Pt.locs, Pt.cells, Pt.slots] at X34 l34 y34_ z34_ st34 hQ34
      subst l34 y34_ z34_
      obtain ⟨rfl, N34q, K34, p34_0, p34_1⟩ := hQ34
      have N34 := Fr.app N5 N34q
      have z35 : n0 ≤ T34.heap.size := Nat.le_trans z29 K34.1
      refine own_ss (B := T34.setTop (mkF m 90 #[.val (.int arg0), .val (.int arg1), .val (.int arg2), .val (.int v2), .val (.ref b_5), .val .null, .val (.ref b26), .unset, .unset] [(.ref b28)])) st34 ?_
      refine own_st (B := T34.setTop (mkF m 92 #[.val (.int arg0), .val (.int arg1), .val (.int arg2), .val (.int v2), .val (.ref b_5), .val .null, .val (.ref b26), .val (.ref b28), .unset] [])) (fun t k => XS.astore X34.here hx rfl (hb hby at_90) rfl rfl (l' := #[.val (.int arg0), .val (.int arg1), .val (.int arg2), .val (.int v2), .val (.ref b_5), .val .null, .val (.ref b26), .val (.ref b28), .unset]) rfl k) ?_
      refine own_st (B := T34.setTop (mkF m 93 #[.val (.int arg0), .val (.int arg1), .val (.int arg2), .val (.int v2), .val (.ref b_5), .val .null, .val (.ref b26), .val (.ref b28), .unset] [(.int v2)])) (fun t k => XS.iloadN X34.here hx rfl (hb hby at_92) rfl k) ?_
      refine own_st (B := T34.setTop (mkF m 95 #[.val (.int arg0), .val (.int arg1), .val (.int arg2), .val (.int v2), .val (.ref b_5), .val .null, .val (.ref b26), .val (.ref b28), .unset] [(.int (100 : Int32)), (.int v2)])) (fun t k => XS.bipush X34.here hx rfl (hb hby at_93) k) ?_
      refine own_st (B := T34.setTop (mkF m 96 #[.val (.int arg0), .val (.int arg1), .val (.int arg2), .val (.int v2), .val (.ref b_5), .val .null, .val (.ref b26), .val (.ref b28), .unset] [(.int (v2 / (100 : Int32)))])) (fun t k => XS.idiv X34.here hx (g := (mkF m 95 #[.val (.int arg0), .val (.int arg1), .val (.int arg2), .val (.int v2), .val (.ref b_5), .val .null, .val (.ref b26), .val (.ref b28), .unset] [(.int (100 : Int32)), (.int v2)])) rfl (x := v2) (y := (100 : Int32)) (rest := []) (hb hby at_95) rfl (by decide) k) ?_
      refine own_st (B := T34.setTop (mkF m 97 #[.val (.int arg0), .val (.int arg1), .val (.int arg2), .val (.int v2), .val (.ref b_5), .val .null, .val (.ref b26), .val (.ref b28), .unset] [(.int (2 : Int32)), (.int (v2 / (100 : Int32)))])) (fun t k => XS.iconst X34.here hx rfl (hb hby at_96) k) ?_
      refine own_cut (P := ∀ (v37 : Int32), (v37 = (if (v2 / (100 : Int32)) = (2 : Int32) then (1 : Int32) else (0 : Int32))) → own_Go p e below s (Q0 Z arg0 arg1 arg2 cs h0 n0) 24 128 (T34.setTop (mkF m 105 #[.val (.int arg0), .val (.int arg1), .val (.int arg2), .val (.int v2), .val (.ref b_5), .val .null, .val (.ref b26), .val (.ref b28), .unset] [(.int v37)]))) (fun J38 => ?_) ?_
      · by_cases hc36 : (v2 / (100 : Int32)) = (2 : Int32)
        · refine own_st (B := T34.setTop (mkF m 100 #[.val (.int arg0), .val (.int arg1), .val (.int arg2), .val (.int v2), .val (.ref b_5), .val .null, .val (.ref b26), .val (.ref b28), .unset] [])) (fun t k => XS.icmpNo X34.here hx rfl (hb hby at_97) rfl (XT.ii_ne_f hc36) k) ?_
          refine own_st (B := T34.setTop (mkF m 101 #[.val (.int arg0), .val (.int arg1), .val (.int arg2), .val (.int v2), .val (.ref b_5), .val .null, .val (.ref b26), .val (.ref b28), .unset] [(.int (1 : Int32))])) (fun t k => XS.iconst X34.here hx rfl (hb hby at_100) k) ?_
          refine own_st (B := T34.setTop (mkF m 105 #[.val (.int arg0), .val (.int arg1), .val (.int arg2), .val (.int v2), .val (.ref b_5), .val .null, .val (.ref b26), .val (.ref b28), .unset] [(.int (1 : Int32))])) (fun t k => XS.goto X34.here hx rfl (pc0 := 101) (pc' := 105) rfl (hb hby at_101) (by decide) (by decide) k) ?_
          exact J38 (1 : Int32) (by rw [if_pos hc36])
        · refine own_st (B := T34.setTop (mkF m 104 #[.val (.int arg0), .val (.int arg1), .val (.int arg2), .val (.int v2), .val (.ref b_5), .val .null, .val (.ref b26), .val (.ref b28), .unset] [])) (fun t k => XS.icmpYes X34.here hx rfl (pc0 := 97) (pc' := 104) rfl (hb hby at_97) rfl (XT.ii_ne_t hc36) (by decide) (by decide) k) ?_
          refine own_st (B := T34.setTop (mkF m 105 #[.val (.int arg0), .val (.int arg1), .val (.int arg2), .val (.int v2), .val (.ref b_5), .val .null, .val (.ref b26), .val (.ref b28), .unset] [(.int (0 : Int32))])) (fun t k => XS.iconst X34.here hx rfl (hb hby at_104) k) ?_
          exact J38 (0 : Int32) (by rw [if_neg hc36])
      intro v37 hv37
      refine own_st (B := T34.setTop (mkF m 107 #[.val (.int arg0), .val (.int arg1), .val (.int arg2), .val (.int v2), .val (.ref b_5), .val .null, .val (.ref b26), .val (.ref b28), .val (.int v37)] [])) (fun t k => XS.istore X34.here hx rfl (hb hby at_105) rfl (l' := #[.val (.int arg0), .val (.int arg1), .val (.int arg2), .val (.int v2), .val (.ref b_5), .val .null, .val (.ref b26), .val (.ref b28), .val (.int v37)]) rfl k) ?_
      refine own_st (B := T34.setTop (mkF m 109 #[.val (.int arg0), .val (.int arg1), .val (.int arg2), .val (.int v2), .val (.ref b_5), .val .null, .val (.ref b26), .val (.ref b28), .val (.int v37)] [(.ref b28)])) (fun t k => XS.aload X34.here hx rfl (hb hby at_107) rfl rfl k) ?_
      obtain ⟨cq39, kq39, q39a, q39b, q39c⟩ := isOf hZ rfl p34_0
      obtain ⟨_, _, ⟨T39, L39, k39, j39⟩, -, X39, ⟨Lc39, hQ39, l39, y39_, z39_⟩, st39⟩ := X34.virtualBack hx (y := (⟨"com/example/stockwright/stockwright/model/RememberedAnswer", "succeeded", "()Z"⟩ : MethodName)) (z := (⟨"com/example/stockwright/stockwright/model/RememberedAnswer", "succeeded", "()Z"⟩ : MethodName)) hown (mvT hZ (w_47 hw)) (mvT hZ (w_48 hw)) (notFace_of_selects (args := #[]) (mvT hZ (w_50 hw))) (mvT hZ (w_50 hw)) (mvT hZ (w_49 hw)) (by decide) (backOf (W := 0) (rm8 l Z a0 hw [] b28 v2 T34.heap n0 z35 p34_1) hZ (w_51 hw) (w_29 hw) (by decide) (by decide)) q39a q39c (g := (mkF m 109 #[.val (.int arg0), .val (.int arg1), .val (.int arg2), .val (.int v2), .val (.ref b_5), .val .null, .val (.ref b26), .val (.ref b28), .val (.int v37)] [(.ref b28)])) rfl (by rw [hml]; rfl) (Steps.refl _) (argsL := []) (rest := []) (lenOf own_pd10 rfl) rfl (by show 2 * 0 + _ ≤ _; exact Nat.le_of_eq rfl) (hb hby at_109) (fun _ _ => ⟨rfl, rfl, (by decide : 4 + 0 ≤ _), (by decide : 12 + 0 ≤ _)⟩)
      dsimp only [Pt.U, Pt.locs, Pt.cells, Pt.slots] at X39 l39 y39_ z39_ st39 hQ39
      subst l39 y39_ z39_
      obtain ⟨rfl, N39q, e39q⟩ := hQ39
      have N39 := Fr.app N34 N39q
      refine own_ss (B := T39.setTop (mkF m 112 #[.val (.int arg0), .val (.int arg1), .val (.int arg2), .val (.int v2), .val (.ref b_5), .val .null, .val (.ref b26), .val (.ref b28), .val (.int v37)] [(.int (own_f8 b28 v2))])) st39 ?_
      refine own_st (B := T39.setTop (mkF m 114 #[.val (.int arg0), .val (.int arg1), .val (.int arg2), .val (.int v2), .val (.ref b_5), .val .null, .val (.ref b26), .val (.ref b28), .val (.int v37)] [(.int v37), (.int (own_f8 b28 v2))])) (fun t k => XS.iload X39.here hx rfl (hb hby at_112) rfl k) ?_
      have hc40 : (own_f8 b28 v2) = v37 := by
        exact own_fin hv37
      refine own_st (B := T39.setTop (mkF m 117 #[.val (.int arg0), .val (.int arg1), .val (.int arg2), .val (.int v2), .val (.ref b_5), .val .null, .val (.ref b26), .val (.ref b28), .val (.int v37)] [])) (fun t k => XS.icmpNo X39.here hx rfl (hb hby at_114) rfl (XT.ii_ne_f hc40) k) ?_
      refine own_st (B := T39.setTop (mkF m 118 #[.val (.int arg0), .val (.int arg1), .val (.int arg2), .val (.int v2), .val (.ref b_5), .val .null, .val (.ref b26), .val (.ref b28), .val (.int v37)] [(.int (1 : Int32))])) (fun t k => XS.iconst X39.here hx rfl (hb hby at_117) k) ?_
      refine own_st (B := T39.setTop (mkF m 122 #[.val (.int arg0), .val (.int arg1), .val (.int arg2), .val (.int v2), .val (.ref b_5), .val .null, .val (.ref b26), .val (.ref b28), .val (.int v37)] [(.int (1 : Int32))])) (fun t k => XS.goto X39.here hx rfl (pc0 := 118) (pc' := 122) rfl (hb hby at_118) (by decide) (by decide) k) ?_
      refine own_retN X39 hx hlk (t := .boolean) Bd.returns (by simp) (z' := (1 : Int32)) rfl (hb hby at_122) (by decide) (by decide) ?_
      show Q0 Z arg0 arg1 arg2 cs h0 n0 _ T39.heap _
      rw [e39q]
      exact ⟨rfl, N39⟩
  · refine own_st (B := s₁.setTop (mkF m 28 #[.val (.int arg0), .val (.int arg1), .val (.int arg2), .val (.int v2), .unset, .unset, .unset, .unset, .unset] [])) (fun t k => XS.ifNo X0.here hx rfl (hb hby at_25) rfl (XT.i0_eq_f hc4) k) ?_
    refine own_st (B := s₁.setTop (mkF m 29 #[.val (.int arg0), .val (.int arg1), .val (.int arg2), .val (.int v2), .unset, .unset, .unset, .unset, .unset] [.null])) (fun t k => XS.aconstNull X0.here hx rfl (hb hby at_28) k) ?_
    refine own_st (B := s₁.setTop (mkF m 41 #[.val (.int arg0), .val (.int arg1), .val (.int arg2), .val (.int v2), .unset, .unset, .unset, .unset, .unset] [.null])) (fun t k => XS.goto X0.here hx rfl (pc0 := 29) (pc' := 41) rfl (hb hby at_29) (by decide) (by decide) k) ?_
    refine own_st (B := s₁.setTop (mkF m 43 #[.val (.int arg0), .val (.int arg1), .val (.int arg2), .val (.int v2), .val .null, .unset, .unset, .unset, .unset] [])) (fun t k => XS.astore X0.here hx rfl (hb hby at_41) rfl rfl (l' := #[.val (.int arg0), .val (.int arg1), .val (.int arg2), .val (.int v2), .val .null, .unset, .unset, .unset, .unset]) rfl k) ?_
    refine own_st (B := s₁.setTop (mkF m 44 #[.val (.int arg0), .val (.int arg1), .val (.int arg2), .val (.int v2), .val .null, .unset, .unset, .unset, .unset] [(.int arg1)])) (fun t k => XS.iloadN X0.here hx rfl (hb hby at_43) rfl k) ?_
    refine own_st (B := s₁.setTop (mkF m 45 #[.val (.int arg0), .val (.int arg1), .val (.int arg2), .val (.int v2), .val .null, .unset, .unset, .unset, .unset] [(.int (4 : Int32)), (.int arg1)])) (fun t k => XS.iconst X0.here hx rfl (hb hby at_44) k) ?_
    refine own_st (B := s₁.setTop (mkF m 46 #[.val (.int arg0), .val (.int arg1), .val (.int arg2), .val (.int v2), .val .null, .unset, .unset, .unset, .unset] [(.int (arg1 &&& (4 : Int32)))])) (fun t k => XS.iand X0.here hx rfl (hb hby at_45) rfl k) ?_
    by_cases hc41 : (arg1 &&& (4 : Int32)) = (0 : Int32)
    · refine own_st (B := s₁.setTop (mkF m 53 #[.val (.int arg0), .val (.int arg1), .val (.int arg2), .val (.int v2), .val .null, .unset, .unset, .unset, .unset] [])) (fun t k => XS.ifYes X0.here hx rfl (pc0 := 46) (pc' := 53) rfl (hb hby at_46) rfl (XT.i0_eq_t hc41) (by decide) (by decide) k) ?_
      refine own_st (B := s₁.setTop (mkF m 54 #[.val (.int arg0), .val (.int arg1), .val (.int arg2), .val (.int v2), .val .null, .unset, .unset, .unset, .unset] [(.int arg2)])) (fun t k => XS.iloadN X0.here hx rfl (hb hby at_53) rfl k) ?_
      refine own_st (B := s₁.setTop (mkF m 56 #[.val (.int arg0), .val (.int arg1), .val (.int arg2), .val (.int v2), .val .null, .unset, .unset, .unset, .unset] [(.int (8 : Int32)), (.int arg2)])) (fun t k => XS.bipush X0.here hx rfl (hb hby at_54) k) ?_
      refine own_st (B := s₁.setTop (mkF m 57 #[.val (.int arg0), .val (.int arg1), .val (.int arg2), .val (.int v2), .val .null, .unset, .unset, .unset, .unset] [(.int ((arg2.toUInt32 >>> ((8 : Int32) &&& 31).toUInt32).toInt32))])) (fun t k => XS.iushr X0.here hx rfl (hb hby at_56) rfl k) ?_
      refine own_st (B := s₁.setTop (mkF m 60 #[.val (.int arg0), .val (.int arg1), .val (.int arg2), .val (.int v2), .val .null, .unset, .unset, .unset, .unset] [(.int (255 : Int32)), (.int ((arg2.toUInt32 >>> ((8 : Int32) &&& 31).toUInt32).toInt32))])) (fun t k => XS.sipush X0.here hx rfl (hb hby at_57) k) ?_
      refine own_st (B := s₁.setTop (mkF m 61 #[.val (.int arg0), .val (.int arg1), .val (.int arg2), .val (.int v2), .val .null, .unset, .unset, .unset, .unset] [(.int (((arg2.toUInt32 >>> ((8 : Int32) &&& 31).toUInt32).toInt32) &&& (255 : Int32)))])) (fun t k => XS.iand X0.here hx rfl (hb hby at_60) rfl k) ?_
      refine own_st (B := s₁.setTop (mkF m 62 #[.val (.int arg0), .val (.int arg1), .val (.int arg2), .val (.int v2), .val .null, .unset, .unset, .unset, .unset] [(.int ((((arg2.toUInt32 >>> ((8 : Int32) &&& 31).toUInt32).toInt32) &&& (255 : Int32)).toUInt32.toUInt16.toUInt32.toInt32))])) (fun t k => XS.i2c X0.here hx rfl (hb hby at_61) rfl k) ?_
      obtain ⟨_, _, ⟨T42, L42, k42, j42⟩, -, X42, ⟨Lc42, hQ42, l42, y42_, z42_⟩, st42⟩ := Jvm.LawKit.callS X0 hx (y := (⟨"java/lang/String", "valueOf", "(C)Ljava/lang/String;"⟩ : MethodName)) hown (mvT hZ (w_1 hw)) (mvT hZ (w_2 hw)) (mvT hZ (w_3 hw)) (mvT hZ (w_4 hw)) (by decide) (backOf (W := 0) (rm1 l Z a0 hw [] ((((arg2.toUInt32 >>> ((8 : Int32) &&& 31).toUInt32).toInt32) &&& (255 : Int32)).toUInt32.toUInt16.toUInt32.toInt32) cs h0 n0 Z0 F0 hcs (show ¬ ((255 : Int32) < ((((arg2.toUInt32 >>> ((8 : Int32) &&& 31).toUInt32).toInt32) &&& (255 : Int32)).toUInt32.toUInt16.toUInt32.toInt32)) from own_c8 _)) hZ (w_4 hw) (w_3 hw) (by decide) (by decide)) (g := (mkF m 62 #[.val (.int arg0), .val (.int arg1), .val (.int arg2), .val (.int v2), .val .null, .unset, .unset, .unset, .unset] [(.int ((((arg2.toUInt32 >>> ((8 : Int32) &&& 31).toUInt32).toInt32) &&& (255 : Int32)).toUInt32.toUInt16.toUInt32.toInt32))])) rfl (by rw [hml]; rfl) (argsL := [(.int ((((arg2.toUInt32 >>> ((8 : Int32) &&& 31).toUInt32).toInt32) &&& (255 : Int32)).toUInt32.toUInt16.toUInt32.toInt32))]) (rest := []) (lenOf own_pd8 rfl) rfl (by show 2 * 0 + _ ≤ _; exact Nat.le_of_eq rfl) (hb hby at_62) (fun _ _ => ⟨rfl, e0, (by decide : 0 + 2 ≤ _), (by decide : 0 + 5 ≤ _)⟩)
      dsimp only [Pt.U, Pt.locs, Pt.cells, Pt.slots] at X42 l42 y42_ z42_ st42 hQ42
      subst l42 y42_ z42_
      obtain ⟨b_42, rfl, N42q, K42, u42_b, y42_b⟩ := hQ42
      have N42 := Fr.app N0 N42q
      have z43 : n0 ≤ T42.heap.size := Nat.le_trans Z0 K42.1
      refine own_st (B := T42.setTop (mkF m 65 #[.val (.int arg0), .val (.int arg1), .val (.int arg2), .val (.int v2), .val .null, .unset, .unset, .unset, .unset] [(.ref b_42)])) (fun t k => st42 t k) ?_
      refine own_st (B := T42.setTop (mkF m 67 #[.val (.int arg0), .val (.int arg1), .val (.int arg2), .val (.int v2), .val .null, .val (.ref b_42), .unset, .unset, .unset] [])) (fun t k => XS.astore X42.here hx rfl (hb hby at_65) rfl rfl (l' := #[.val (.int arg0), .val (.int arg1), .val (.int arg2), .val (.int v2), .val .null, .val (.ref b_42), .unset, .unset, .unset]) rfl k) ?_
      refine own_st (B := T42.setTop (mkF m 68 #[.val (.int arg0), .val (.int arg1), .val (.int arg2), .val (.int v2), .val .null, .val (.ref b_42), .unset, .unset, .unset] [(.int arg1)])) (fun t k => XS.iloadN X42.here hx rfl (hb hby at_67) rfl k) ?_
      refine own_st (B := T42.setTop (mkF m 69 #[.val (.int arg0), .val (.int arg1), .val (.int arg2), .val (.int v2), .val .null, .val (.ref b_42), .unset, .unset, .unset] [(.int (3 : Int32)), (.int arg1)])) (fun t k => XS.iconst X42.here hx rfl (hb hby at_68) k) ?_
      refine own_st (B := T42.setTop (mkF m 70 #[.val (.int arg0), .val (.int arg1), .val (.int arg2), .val (.int v2), .val .null, .val (.ref b_42), .unset, .unset, .unset] [(.int ((arg1.toUInt32 >>> ((3 : Int32) &&& 31).toUInt32).toInt32))])) (fun t k => XS.iushr X42.here hx rfl (hb hby at_69) rfl k) ?_
      refine own_st (B := T42.setTop (mkF m 71 #[.val (.int arg0), .val (.int arg1), .val (.int arg2), .val (.int v2), .val .null, .val (.ref b_42), .unset, .unset, .unset] [(.int (3 : Int32)), (.int ((arg1.toUInt32 >>> ((3 : Int32) &&& 31).toUInt32).toInt32))])) (fun t k => XS.iconst X42.here hx rfl (hb hby at_70) k) ?_
      refine own_st (B := T42.setTop (mkF m 72 #[.val (.int arg0), .val (.int arg1), .val (.int arg2), .val (.int v2), .val .null, .val (.ref b_42), .unset, .unset, .unset] [(.int (((arg1.toUInt32 >>> ((3 : Int32) &&& 31).toUInt32).toInt32) &&& (3 : Int32)))])) (fun t k => XS.iand X42.here hx rfl (hb hby at_71) rfl k) ?_
      obtain ⟨T44, h44, X44, e44, E44, A44, x44, st44⟩ := own_newP X42 hx hZ (aty := .byte) (w_15 hw) rfl (g := (mkF m 72 #[.val (.int arg0), .val (.int arg1), .val (.int arg2), .val (.int v2), .val .null, .val (.ref b_42), .unset, .unset, .unset] [(.int (((arg1.toUInt32 >>> ((3 : Int32) &&& 31).toUInt32).toInt32) &&& (3 : Int32)))])) rfl (hb hby at_72) (n := (((arg1.toUInt32 >>> ((3 : Int32) &&& 31).toUInt32).toInt32) &&& (3 : Int32))) (rest := []) rfl (k := ((((arg1.toUInt32 >>> ((3 : Int32) &&& 31).toUInt32).toInt32) &&& (3 : Int32)).toInt.toNat)) (cap := 3) (show (((arg1.toUInt32 >>> ((3 : Int32) &&& 31).toUInt32).toInt32) &&& (3 : Int32)).toInt = (((((arg1.toUInt32 >>> ((3 : Int32) &&& 31).toUInt32).toInt32) &&& (3 : Int32)).toInt.toNat : Nat) : Int) by have := own_k3 ((arg1.toUInt32 >>> ((3 : Int32) &&& 31).toUInt32).toInt32); omega) (show (((arg1.toUInt32 >>> ((3 : Int32) &&& 31).toUInt32).toInt32) &&& (3 : Int32)).toInt.toNat ≤ 3 by have := own_k3 ((arg1.toUInt32 >>> ((3 : Int32) &&& 31).toUInt32).toInt32); omega) (by decide) (by decide) (by decide) (ad := "[B") rfl
      obtain ⟨b44, g44⟩ : ∃ z, z = T42.heap.size := ⟨_, rfl⟩
      rw [← g44] at A44 x44 st44
      have u44 : n0 ≤ b44 := Nat.le_trans z43 (Nat.le_of_eq g44.symm)
      have z45 : n0 ≤ h44.size := Nat.le_trans z43 E44.1
      have f44_ : own_A Z h44 b44 .byte (List.replicate ((((arg1.toUInt32 >>> ((3 : Int32) &&& 31).toUInt32).toInt32) &&& (3 : Int32)).toInt.toNat) (.int (0 : Int32))) := A44
      refine own_st (B := T44.setTop (mkF m 74 #[.val (.int arg0), .val (.int arg1), .val (.int arg2), .val (.int v2), .val .null, .val (.ref b_42), .unset, .unset, .unset] [(.ref b44)])) (fun t k => st44 t k) ?_
      refine own_st (B := T44.setTop (mkF m 76 #[.val (.int arg0), .val (.int arg1), .val (.int arg2), .val (.int v2), .val .null, .val (.ref b_42), .val (.ref b44), .unset, .unset] [])) (fun t k => XS.astore X44.here hx rfl (hb hby at_74) rfl rfl (l' := #[.val (.int arg0), .val (.int arg1), .val (.int arg2), .val (.int v2), .val .null, .val (.ref b_42), .val (.ref b44), .unset, .unset]) rfl k) ?_
      obtain ⟨T46, h46, X46, e46, E46, A46, D46, -, st46⟩ := newO X44 hx hZ hown (w_27 hw) (w_28 hw) (w_29 hw) e44 (g := (mkF m 76 #[.val (.int arg0), .val (.int arg1), .val (.int arg2), .val (.int v2), .val .null, .val (.ref b_42), .val (.ref b44), .unset, .unset] [])) rfl (hb hby at_76) (by decide) (by decide)
      obtain ⟨b46, g46⟩ : ∃ z, z = h44.size := ⟨_, rfl⟩
      rw [← g46] at A46 D46 st46
      have q46_b44 : b44 ≠ b46 := Nat.ne_of_lt (Nat.lt_of_lt_of_le f44_.lt (Nat.le_of_eq g46.symm))
      have u46 : n0 ≤ b46 := Nat.le_trans z45 (Nat.le_of_eq g46.symm)
      have z47 : n0 ≤ h46.size := Nat.le_trans z45 E46.1
      have f48 : Fld Z h46 b46 "com/example/stockwright/stockwright/model/RememberedAnswer" "status" "I" (.int (0 : Int32)) := D46 (Or.inr (w_40 hw)) (ty := .int) (by decide)
      have f49 : Fld Z h46 b46 "com/example/stockwright/stockwright/model/RememberedAnswer" "contentType" "Ljava/lang/String;" .null := D46 (Or.inr (w_42 hw)) (ty := (.object "java/lang/String")) (by decide)
      have f50 : Fld Z h46 b46 "com/example/stockwright/stockwright/model/RememberedAnswer" "location" "Ljava/lang/String;" .null := D46 (Or.inr (w_44 hw)) (ty := (.object "java/lang/String")) (by decide)
      have f51 : Fld Z h46 b46 "com/example/stockwright/stockwright/model/RememberedAnswer" "body" "[B" .null := D46 (Or.inr (w_46 hw)) (ty := (.array .byte)) (by decide)
      refine own_st (B := T46.setTop (mkF m 79 #[.val (.int arg0), .val (.int arg1), .val (.int arg2), .val (.int v2), .val .null, .val (.ref b_42), .val (.ref b44), .unset, .unset] [(.ref b46)])) (fun t k => st46 t k) ?_
      refine own_st (B := T46.setTop (mkF m 80 #[.val (.int arg0), .val (.int arg1), .val (.int arg2), .val (.int v2), .val .null, .val (.ref b_42), .val (.ref b44), .unset, .unset] [(.ref b46), (.ref b46)])) (fun t k => XS.dup X46.here hx rfl (hb hby at_79) rfl rfl k) ?_
      refine own_st (B := T46.setTop (mkF m 81 #[.val (.int arg0), .val (.int arg1), .val (.int arg2), .val (.int v2), .val .null, .val (.ref b_42), .val (.ref b44), .unset, .unset] [(.int v2), (.ref b46), (.ref b46)])) (fun t k => XS.iloadN X46.here hx rfl (hb hby at_80) rfl k) ?_
      refine own_st (B := T46.setTop (mkF m 83 #[.val (.int arg0), .val (.int arg1), .val (.int arg2), .val (.int v2), .val .null, .val (.ref b_42), .val (.ref b44), .unset, .unset] [.null, (.int v2), (.ref b46), (.ref b46)])) (fun t k => XS.aload X46.here hx rfl (hb hby at_81) rfl rfl k) ?_
      refine own_st (B := T46.setTop (mkF m 85 #[.val (.int arg0), .val (.int arg1), .val (.int arg2), .val (.int v2), .val .null, .val (.ref b_42), .val (.ref b44), .unset, .unset] [(.ref b_42), .null, (.int v2), (.ref b46), (.ref b46)])) (fun t k => XS.aload X46.here hx rfl (hb hby at_83) rfl rfl k) ?_
      refine own_st (B := T46.setTop (mkF m 87 #[.val (.int arg0), .val (.int arg1), .val (.int arg2), .val (.int v2), .val .null, .val (.ref b_42), .val (.ref b44), .unset, .unset] [(.ref b44), (.ref b_42), .null, (.int v2), (.ref b46), (.ref b46)])) (fun t k => XS.aload X46.here hx rfl (hb hby at_85) rfl rfl k) ?_
      obtain ⟨_, _, ⟨T52, L52, k52, j52⟩, -, X52, ⟨Lc52, hQ52, l52, y52_, z52_⟩, st52⟩ := X46.specialBack hx (y := (⟨"com/example/stockwright/stockwright/model/RememberedAnswer", "<init>", "(ILjava/lang/String;Ljava/lang/String;[B)V"⟩ : MethodName)) rfl hown (mvT hZ (w_30 hw)) (mvT hZ (w_31 hw)) (mvT hZ (w_32 hw)) (by decide) (backOf (W := 1) (rm6b l Z a0 hw [] b46 v2 b_42 b44 h46 n0 z47 A46 f48 f49 f50 f51 u46) hZ (w_32 hw) (w_29 hw) (by decide) (by decide)) (g := (mkF m 87 #[.val (.int arg0), .val (.int arg1), .val (.int arg2), .val (.int v2), .val .null, .val (.ref b_42), .val (.ref b44), .unset, .unset] [(.ref b44), (.ref b_42), .null, (.int v2), (.ref b46), (.ref b46)])) rfl (by rw [hml]; rfl) (Steps.refl _) (a := b46) (argsL := [(.int v2), .null, (.ref b_42), (.ref b44)]) (rest := [(.ref b46)]) (lenOf own_pd9 rfl) rfl (by show 2 * 0 + _ ≤ _; exact Nat.le_of_eq rfl) (hb hby at_87) (fun _ _ => ⟨rfl, e46, (by decide : 4 + 0 ≤ _), (by decide : 12 + 0 ≤ _)⟩)
      dsimp only [Pt.U, Pt.locs, Pt.cells, Pt.slots] at X52 l52 y52_ z52_ st52 hQ52
      subst l52 y52_ z52_
      obtain ⟨rfl, N52q, K52, p52_0, p52_1⟩ := hQ52
      have N52 := Fr.app N42 N52q
      have z53 : n0 ≤ T52.heap.size := Nat.le_trans z47 K52.1
      refine own_ss (B := T52.setTop (mkF m 90 #[.val (.int arg0), .val (.int arg1), .val (.int arg2), .val (.int v2), .val .null, .val (.ref b_42), .val (.ref b44), .unset, .unset] [(.ref b46)])) st52 ?_
      refine own_st (B := T52.setTop (mkF m 92 #[.val (.int arg0), .val (.int arg1), .val (.int arg2), .val (.int v2), .val .null, .val (.ref b_42), .val (.ref b44), .val (.ref b46), .unset] [])) (fun t k => XS.astore X52.here hx rfl (hb hby at_90) rfl rfl (l' := #[.val (.int arg0), .val (.int arg1), .val (.int arg2), .val (.int v2), .val .null, .val (.ref b_42), .val (.ref b44), .val (.ref b46), .unset]) rfl k) ?_
      refine own_st (B := T52.setTop (mkF m 93 #[.val (.int arg0), .val (.int arg1), .val (.int arg2), .val (.int v2), .val .null, .val (.ref b_42), .val (.ref b44), .val (.ref b46), .unset] [(.int v2)])) (fun t k => XS.iloadN X52.here hx rfl (hb hby at_92) rfl k) ?_
      refine own_st (B := T52.setTop (mkF m 95 #[.val (.int arg0), .val (.int arg1), .val (.int arg2), .val (.int v2), .val .null, .val (.ref b_42), .val (.ref b44), .val (.ref b46), .unset] [(.int (100 : Int32)), (.int v2)])) (fun t k => XS.bipush X52.here hx rfl (hb hby at_93) k) ?_
      refine own_st (B := T52.setTop (mkF m 96 #[.val (.int arg0), .val (.int arg1), .val (.int arg2), .val (.int v2), .val .null, .val (.ref b_42), .val (.ref b44), .val (.ref b46), .unset] [(.int (v2 / (100 : Int32)))])) (fun t k => XS.idiv X52.here hx (g := (mkF m 95 #[.val (.int arg0), .val (.int arg1), .val (.int arg2), .val (.int v2), .val .null, .val (.ref b_42), .val (.ref b44), .val (.ref b46), .unset] [(.int (100 : Int32)), (.int v2)])) rfl (x := v2) (y := (100 : Int32)) (rest := []) (hb hby at_95) rfl (by decide) k) ?_
      refine own_st (B := T52.setTop (mkF m 97 #[.val (.int arg0), .val (.int arg1), .val (.int arg2), .val (.int v2), .val .null, .val (.ref b_42), .val (.ref b44), .val (.ref b46), .unset] [(.int (2 : Int32)), (.int (v2 / (100 : Int32)))])) (fun t k => XS.iconst X52.here hx rfl (hb hby at_96) k) ?_
      refine own_cut (P := ∀ (v55 : Int32), (v55 = (if (v2 / (100 : Int32)) = (2 : Int32) then (1 : Int32) else (0 : Int32))) → own_Go p e below s (Q0 Z arg0 arg1 arg2 cs h0 n0) 24 128 (T52.setTop (mkF m 105 #[.val (.int arg0), .val (.int arg1), .val (.int arg2), .val (.int v2), .val .null, .val (.ref b_42), .val (.ref b44), .val (.ref b46), .unset] [(.int v55)]))) (fun J56 => ?_) ?_
      · by_cases hc54 : (v2 / (100 : Int32)) = (2 : Int32)
        · refine own_st (B := T52.setTop (mkF m 100 #[.val (.int arg0), .val (.int arg1), .val (.int arg2), .val (.int v2), .val .null, .val (.ref b_42), .val (.ref b44), .val (.ref b46), .unset] [])) (fun t k => XS.icmpNo X52.here hx rfl (hb hby at_97) rfl (XT.ii_ne_f hc54) k) ?_
          refine own_st (B := T52.setTop (mkF m 101 #[.val (.int arg0), .val (.int arg1), .val (.int arg2), .val (.int v2), .val .null, .val (.ref b_42), .val (.ref b44), .val (.ref b46), .unset] [(.int (1 : Int32))])) (fun t k => XS.iconst X52.here hx rfl (hb hby at_100) k) ?_
          refine own_st (B := T52.setTop (mkF m 105 #[.val (.int arg0), .val (.int arg1), .val (.int arg2), .val (.int v2), .val .null, .val (.ref b_42), .val (.ref b44), .val (.ref b46), .unset] [(.int (1 : Int32))])) (fun t k => XS.goto X52.here hx rfl (pc0 := 101) (pc' := 105) rfl (hb hby at_101) (by decide) (by decide) k) ?_
          exact J56 (1 : Int32) (by rw [if_pos hc54])
        · refine own_st (B := T52.setTop (mkF m 104 #[.val (.int arg0), .val (.int arg1), .val (.int arg2), .val (.int v2), .val .null, .val (.ref b_42), .val (.ref b44), .val (.ref b46), .unset] [])) (fun t k => XS.icmpYes X52.here hx rfl (pc0 := 97) (pc' := 104) rfl (hb hby at_97) rfl (XT.ii_ne_t hc54) (by decide) (by decide) k) ?_
          refine own_st (B := T52.setTop (mkF m 105 #[.val (.int arg0), .val (.int arg1), .val (.int arg2), .val (.int v2), .val .null, .val (.ref b_42), .val (.ref b44), .val (.ref b46), .unset] [(.int (0 : Int32))])) (fun t k => XS.iconst X52.here hx rfl (hb hby at_104) k) ?_
          exact J56 (0 : Int32) (by rw [if_neg hc54])
      intro v55 hv55
      refine own_st (B := T52.setTop (mkF m 107 #[.val (.int arg0), .val (.int arg1), .val (.int arg2), .val (.int v2), .val .null, .val (.ref b_42), .val (.ref b44), .val (.ref b46), .val (.int v55)] [])) (fun t k => XS.istore X52.here hx rfl (hb hby at_105) rfl (l' := #[.val (.int arg0), .val (.int arg1), .val (.int arg2), .val (.int v2), .val .null, .val (.ref b_42), .val (.ref b44), .val (.ref b46), .val (.int v55)]) rfl k) ?_
      refine own_st (B := T52.setTop (mkF m 109 #[.val (.int arg0), .val (.int arg1), .val (.int arg2), .val (.int v2), .val .null, .val (.ref b_42), .val (.ref b44), .val (.ref b46), .val (.int v55)] [(.ref b46)])) (fun t k => XS.aload X52.here hx rfl (hb hby at_107) rfl rfl k) ?_
      obtain ⟨cq57, kq57, q57a, q57b, q57c⟩ := isOf hZ rfl p52_0
      obtain ⟨_, _, ⟨T57, L57, k57, j57⟩, -, X57, ⟨Lc57, hQ57, l57, y57_, z57_⟩, st57⟩ := X52.virtualBack hx (y := (⟨"com/example/stockwright/stockwright/model/RememberedAnswer", "succeeded", "()Z"⟩ : MethodName)) (z := (⟨"com/example/stockwright/stockwright/model/RememberedAnswer", "succeeded", "()Z"⟩ : MethodName)) hown (mvT hZ (w_47 hw)) (mvT hZ (w_48 hw)) (notFace_of_selects (args := #[]) (mvT hZ (w_50 hw))) (mvT hZ (w_50 hw)) (mvT hZ (w_49 hw)) (by decide) (backOf (W := 0) (rm8 l Z a0 hw [] b46 v2 T52.heap n0 z53 p52_1) hZ (w_51 hw) (w_29 hw) (by decide) (by decide)) q57a q57c (g := (mkF m 109 #[.val (.int arg0), .val (.int arg1), .val (.int arg2), .val (.int v2), .val .null, .val (.ref b_42), .val (.ref b44), .val (.ref b46), .val (.int v55)] [(.ref b46)])) rfl (by rw [hml]; rfl) (Steps.refl _) (argsL := []) (rest := []) (lenOf own_pd10 rfl) rfl (by show 2 * 0 + _ ≤ _; exact Nat.le_of_eq rfl) (hb hby at_109) (fun _ _ => ⟨rfl, rfl, (by decide : 4 + 0 ≤ _), (by decide : 12 + 0 ≤ _)⟩)
      dsimp only [Pt.U, Pt.locs, Pt.cells, Pt.slots] at X57 l57 y57_ z57_ st57 hQ57
      subst l57 y57_ z57_
      obtain ⟨rfl, N57q, e57q⟩ := hQ57
      have N57 := Fr.app N52 N57q
      refine own_ss (B := T57.setTop (mkF m 112 #[.val (.int arg0), .val (.int arg1), .val (.int arg2), .val (.int v2), .val .null, .val (.ref b_42), .val (.ref b44), .val (.ref b46), .val (.int v55)] [(.int (own_f8 b46 v2))])) st57 ?_
      refine own_st (B := T57.setTop (mkF m 114 #[.val (.int arg0), .val (.int arg1), .val (.int arg2), .val (.int v2), .val .null, .val (.ref b_42), .val (.ref b44), .val (.ref b46), .val (.int v55)] [(.int v55), (.int (own_f8 b46 v2))])) (fun t k => XS.iload X57.here hx rfl (hb hby at_112) rfl k) ?_
      have hc58 : (own_f8 b46 v2) = v55 := by
        exact own_fin hv55
      refine own_st (B := T57.setTop (mkF m 117 #[.val (.int arg0), .val (.int arg1), .val (.int arg2), .val (.int v2), .val .null, .val (.ref b_42), .val (.ref b44), .val (.ref b46), .val (.int v55)] [])) (fun t k => XS.icmpNo X57.here hx rfl (hb hby at_114) rfl (XT.ii_ne_f hc58) k) ?_
      refine own_st (B := T57.setTop (mkF m 118 #[.val (.int arg0), .val (.int arg1), .val (.int arg2), .val (.int v2), .val .null, .val (.ref b_42), .val (.ref b44), .val (.ref b46), .val (.int v55)] [(.int (1 : Int32))])) (fun t k => XS.iconst X57.here hx rfl (hb hby at_117) k) ?_
      refine own_st (B := T57.setTop (mkF m 122 #[.val (.int arg0), .val (.int arg1), .val (.int arg2), .val (.int v2), .val .null, .val (.ref b_42), .val (.ref b44), .val (.ref b46), .val (.int v55)] [(.int (1 : Int32))])) (fun t k => XS.goto X57.here hx rfl (pc0 := 118) (pc' := 122) rfl (hb hby at_118) (by decide) (by decide) k) ?_
      refine own_retN X57 hx hlk (t := .boolean) Bd.returns (by simp) (z' := (1 : Int32)) rfl (hb hby at_122) (by decide) (by decide) ?_
      show Q0 Z arg0 arg1 arg2 cs h0 n0 _ T57.heap _
      rw [e57q]
      exact ⟨rfl, N57⟩
    · refine own_st (B := s₁.setTop (mkF m 49 #[.val (.int arg0), .val (.int arg1), .val (.int arg2), .val (.int v2), .val .null, .unset, .unset, .unset, .unset] [])) (fun t k => XS.ifNo X0.here hx rfl (hb hby at_46) rfl (XT.i0_eq_f hc41) k) ?_
      refine own_st (B := s₁.setTop (mkF m 50 #[.val (.int arg0), .val (.int arg1), .val (.int arg2), .val (.int v2), .val .null, .unset, .unset, .unset, .unset] [.null])) (fun t k => XS.aconstNull X0.here hx rfl (hb hby at_49) k) ?_
      refine own_st (B := s₁.setTop (mkF m 65 #[.val (.int arg0), .val (.int arg1), .val (.int arg2), .val (.int v2), .val .null, .unset, .unset, .unset, .unset] [.null])) (fun t k => XS.goto X0.here hx rfl (pc0 := 50) (pc' := 65) rfl (hb hby at_50) (by decide) (by decide) k) ?_
      refine own_st (B := s₁.setTop (mkF m 67 #[.val (.int arg0), .val (.int arg1), .val (.int arg2), .val (.int v2), .val .null, .val .null, .unset, .unset, .unset] [])) (fun t k => XS.astore X0.here hx rfl (hb hby at_65) rfl rfl (l' := #[.val (.int arg0), .val (.int arg1), .val (.int arg2), .val (.int v2), .val .null, .val .null, .unset, .unset, .unset]) rfl k) ?_
      refine own_st (B := s₁.setTop (mkF m 68 #[.val (.int arg0), .val (.int arg1), .val (.int arg2), .val (.int v2), .val .null, .val .null, .unset, .unset, .unset] [(.int arg1)])) (fun t k => XS.iloadN X0.here hx rfl (hb hby at_67) rfl k) ?_
      refine own_st (B := s₁.setTop (mkF m 69 #[.val (.int arg0), .val (.int arg1), .val (.int arg2), .val (.int v2), .val .null, .val .null, .unset, .unset, .unset] [(.int (3 : Int32)), (.int arg1)])) (fun t k => XS.iconst X0.here hx rfl (hb hby at_68) k) ?_
      refine own_st (B := s₁.setTop (mkF m 70 #[.val (.int arg0), .val (.int arg1), .val (.int arg2), .val (.int v2), .val .null, .val .null, .unset, .unset, .unset] [(.int ((arg1.toUInt32 >>> ((3 : Int32) &&& 31).toUInt32).toInt32))])) (fun t k => XS.iushr X0.here hx rfl (hb hby at_69) rfl k) ?_
      refine own_st (B := s₁.setTop (mkF m 71 #[.val (.int arg0), .val (.int arg1), .val (.int arg2), .val (.int v2), .val .null, .val .null, .unset, .unset, .unset] [(.int (3 : Int32)), (.int ((arg1.toUInt32 >>> ((3 : Int32) &&& 31).toUInt32).toInt32))])) (fun t k => XS.iconst X0.here hx rfl (hb hby at_70) k) ?_
      refine own_st (B := s₁.setTop (mkF m 72 #[.val (.int arg0), .val (.int arg1), .val (.int arg2), .val (.int v2), .val .null, .val .null, .unset, .unset, .unset] [(.int (((arg1.toUInt32 >>> ((3 : Int32) &&& 31).toUInt32).toInt32) &&& (3 : Int32)))])) (fun t k => XS.iand X0.here hx rfl (hb hby at_71) rfl k) ?_
      obtain ⟨T59, h59, X59, e59, E59, A59, x59, st59⟩ := own_newP X0 hx hZ (aty := .byte) (w_15 hw) e0 (g := (mkF m 72 #[.val (.int arg0), .val (.int arg1), .val (.int arg2), .val (.int v2), .val .null, .val .null, .unset, .unset, .unset] [(.int (((arg1.toUInt32 >>> ((3 : Int32) &&& 31).toUInt32).toInt32) &&& (3 : Int32)))])) rfl (hb hby at_72) (n := (((arg1.toUInt32 >>> ((3 : Int32) &&& 31).toUInt32).toInt32) &&& (3 : Int32))) (rest := []) rfl (k := ((((arg1.toUInt32 >>> ((3 : Int32) &&& 31).toUInt32).toInt32) &&& (3 : Int32)).toInt.toNat)) (cap := 3) (show (((arg1.toUInt32 >>> ((3 : Int32) &&& 31).toUInt32).toInt32) &&& (3 : Int32)).toInt = (((((arg1.toUInt32 >>> ((3 : Int32) &&& 31).toUInt32).toInt32) &&& (3 : Int32)).toInt.toNat : Nat) : Int) by have := own_k3 ((arg1.toUInt32 >>> ((3 : Int32) &&& 31).toUInt32).toInt32); omega) (show (((arg1.toUInt32 >>> ((3 : Int32) &&& 31).toUInt32).toInt32) &&& (3 : Int32)).toInt.toNat ≤ 3 by have := own_k3 ((arg1.toUInt32 >>> ((3 : Int32) &&& 31).toUInt32).toInt32); omega) (by decide) (by decide) (by decide) (ad := "[B") rfl
      obtain ⟨b59, g59⟩ : ∃ z, z = h0.size := ⟨_, rfl⟩
      rw [← g59] at A59 x59 st59
      have u59 : n0 ≤ b59 := Nat.le_trans Z0 (Nat.le_of_eq g59.symm)
      have z60 : n0 ≤ h59.size := Nat.le_trans Z0 E59.1
      have f59_ : own_A Z h59 b59 .byte (List.replicate ((((arg1.toUInt32 >>> ((3 : Int32) &&& 31).toUInt32).toInt32) &&& (3 : Int32)).toInt.toNat) (.int (0 : Int32))) := A59
      refine own_st (B := T59.setTop (mkF m 74 #[.val (.int arg0), .val (.int arg1), .val (.int arg2), .val (.int v2), .val .null, .val .null, .unset, .unset, .unset] [(.ref b59)])) (fun t k => st59 t k) ?_
      refine own_st (B := T59.setTop (mkF m 76 #[.val (.int arg0), .val (.int arg1), .val (.int arg2), .val (.int v2), .val .null, .val .null, .val (.ref b59), .unset, .unset] [])) (fun t k => XS.astore X59.here hx rfl (hb hby at_74) rfl rfl (l' := #[.val (.int arg0), .val (.int arg1), .val (.int arg2), .val (.int v2), .val .null, .val .null, .val (.ref b59), .unset, .unset]) rfl k) ?_
      obtain ⟨T61, h61, X61, e61, E61, A61, D61, -, st61⟩ := newO X59 hx hZ hown (w_27 hw) (w_28 hw) (w_29 hw) e59 (g := (mkF m 76 #[.val (.int arg0), .val (.int arg1), .val (.int arg2), .val (.int v2), .val .null, .val .null, .val (.ref b59), .unset, .unset] [])) rfl (hb hby at_76) (by decide) (by decide)
      obtain ⟨b61, g61⟩ : ∃ z, z = h59.size := ⟨_, rfl⟩
      rw [← g61] at A61 D61 st61
      have q61_b59 : b59 ≠ b61 := Nat.ne_of_lt (Nat.lt_of_lt_of_le f59_.lt (Nat.le_of_eq g61.symm))
      have u61 : n0 ≤ b61 := Nat.le_trans z60 (Nat.le_of_eq g61.symm)
      have z62 : n0 ≤ h61.size := Nat.le_trans z60 E61.1
      have f63 : Fld Z h61 b61 "com/example/stockwright/stockwright/model/RememberedAnswer" "status" "I" (.int (0 : Int32)) := D61 (Or.inr (w_40 hw)) (ty := .int) (by decide)
      have f64 : Fld Z h61 b61 "com/example/stockwright/stockwright/model/RememberedAnswer" "contentType" "Ljava/lang/String;" .null := D61 (Or.inr (w_42 hw)) (ty := (.object "java/lang/String")) (by decide)
      have f65 : Fld Z h61 b61 "com/example/stockwright/stockwright/model/RememberedAnswer" "location" "Ljava/lang/String;" .null := D61 (Or.inr (w_44 hw)) (ty := (.object "java/lang/String")) (by decide)
      have f66 : Fld Z h61 b61 "com/example/stockwright/stockwright/model/RememberedAnswer" "body" "[B" .null := D61 (Or.inr (w_46 hw)) (ty := (.array .byte)) (by decide)
      refine own_st (B := T61.setTop (mkF m 79 #[.val (.int arg0), .val (.int arg1), .val (.int arg2), .val (.int v2), .val .null, .val .null, .val (.ref b59), .unset, .unset] [(.ref b61)])) (fun t k => st61 t k) ?_
      refine own_st (B := T61.setTop (mkF m 80 #[.val (.int arg0), .val (.int arg1), .val (.int arg2), .val (.int v2), .val .null, .val .null, .val (.ref b59), .unset, .unset] [(.ref b61), (.ref b61)])) (fun t k => XS.dup X61.here hx rfl (hb hby at_79) rfl rfl k) ?_
      refine own_st (B := T61.setTop (mkF m 81 #[.val (.int arg0), .val (.int arg1), .val (.int arg2), .val (.int v2), .val .null, .val .null, .val (.ref b59), .unset, .unset] [(.int v2), (.ref b61), (.ref b61)])) (fun t k => XS.iloadN X61.here hx rfl (hb hby at_80) rfl k) ?_
      refine own_st (B := T61.setTop (mkF m 83 #[.val (.int arg0), .val (.int arg1), .val (.int arg2), .val (.int v2), .val .null, .val .null, .val (.ref b59), .unset, .unset] [.null, (.int v2), (.ref b61), (.ref b61)])) (fun t k => XS.aload X61.here hx rfl (hb hby at_81) rfl rfl k) ?_
      refine own_st (B := T61.setTop (mkF m 85 #[.val (.int arg0), .val (.int arg1), .val (.int arg2), .val (.int v2), .val .null, .val .null, .val (.ref b59), .unset, .unset] [.null, .null, (.int v2), (.ref b61), (.ref b61)])) (fun t k => XS.aload X61.here hx rfl (hb hby at_83) rfl rfl k) ?_
      refine own_st (B := T61.setTop (mkF m 87 #[.val (.int arg0), .val (.int arg1), .val (.int arg2), .val (.int v2), .val .null, .val .null, .val (.ref b59), .unset, .unset] [(.ref b59), .null, .null, (.int v2), (.ref b61), (.ref b61)])) (fun t k => XS.aload X61.here hx rfl (hb hby at_85) rfl rfl k) ?_
      obtain ⟨_, _, ⟨T67, L67, k67, j67⟩, -, X67, ⟨Lc67, hQ67, l67, y67_, z67_⟩, st67⟩ := X61.specialBack hx (y := (⟨"com/example/stockwright/stockwright/model/RememberedAnswer", "<init>", "(ILjava/lang/String;Ljava/lang/String;[B)V"⟩ : MethodName)) rfl hown (mvT hZ (w_30 hw)) (mvT hZ (w_31 hw)) (mvT hZ (w_32 hw)) (by decide) (backOf (W := 1) (rm6a l Z a0 hw [] b61 v2 b59 h61 n0 z62 A61 f63 f64 f65 f66 u61) hZ (w_32 hw) (w_29 hw) (by decide) (by decide)) (g := (mkF m 87 #[.val (.int arg0), .val (.int arg1), .val (.int arg2), .val (.int v2), .val .null, .val .null, .val (.ref b59), .unset, .unset] [(.ref b59), .null, .null, (.int v2), (.ref b61), (.ref b61)])) rfl (by rw [hml]; rfl) (Steps.refl _) (a := b61) (argsL := [(.int v2), .null, .null, (.ref b59)]) (rest := [(.ref b61)]) (lenOf own_pd9 rfl) rfl (by show 2 * 0 + _ ≤ _; exact Nat.le_of_eq rfl) (hb hby at_87) (fun _ _ => ⟨rfl, e61, (by decide : 2 + 0 ≤ _), (by decide : 7 + 0 ≤ _)⟩)
      dsimp only [Pt.U, Pt.locs, Pt.cells, Pt.slots] at X67 l67 y67_ z67_ st67 hQ67
      subst l67 y67_ z67_
      obtain ⟨rfl, N67q, K67, p67_0, p67_1⟩ := hQ67
      have N67 := Fr.app N0 N67q
      have z68 : n0 ≤ T67.heap.size := Nat.le_trans z62 K67.1
      refine own_ss (B := T67.setTop (mkF m 90 #[.val (.int arg0), .val (.int arg1), .val (.int arg2), .val (.int v2), .val .null, .val .null, .val (.ref b59), .unset, .unset] [(.ref b61)])) st67 ?_
      refine own_st (B := T67.setTop (mkF m 92 #[.val (.int arg0), .val (.int arg1), .val (.int arg2), .val (.int v2), .val .null, .val .null, .val (.ref b59), .val (.ref b61), .unset] [])) (fun t k => XS.astore X67.here hx rfl (hb hby at_90) rfl rfl (l' := #[.val (.int arg0), .val (.int arg1), .val (.int arg2), .val (.int v2), .val .null, .val .null, .val (.ref b59), .val (.ref b61), .unset]) rfl k) ?_
      refine own_st (B := T67.setTop (mkF m 93 #[.val (.int arg0), .val (.int arg1), .val (.int arg2), .val (.int v2), .val .null, .val .null, .val (.ref b59), .val (.ref b61), .unset] [(.int v2)])) (fun t k => XS.iloadN X67.here hx rfl (hb hby at_92) rfl k) ?_
      refine own_st (B := T67.setTop (mkF m 95 #[.val (.int arg0), .val (.int arg1), .val (.int arg2), .val (.int v2), .val .null, .val .null, .val (.ref b59), .val (.ref b61), .unset] [(.int (100 : Int32)), (.int v2)])) (fun t k => XS.bipush X67.here hx rfl (hb hby at_93) k) ?_
      refine own_st (B := T67.setTop (mkF m 96 #[.val (.int arg0), .val (.int arg1), .val (.int arg2), .val (.int v2), .val .null, .val .null, .val (.ref b59), .val (.ref b61), .unset] [(.int (v2 / (100 : Int32)))])) (fun t k => XS.idiv X67.here hx (g := (mkF m 95 #[.val (.int arg0), .val (.int arg1), .val (.int arg2), .val (.int v2), .val .null, .val .null, .val (.ref b59), .val (.ref b61), .unset] [(.int (100 : Int32)), (.int v2)])) rfl (x := v2) (y := (100 : Int32)) (rest := []) (hb hby at_95) rfl (by decide) k) ?_
      refine own_st (B := T67.setTop (mkF m 97 #[.val (.int arg0), .val (.int arg1), .val (.int arg2), .val (.int v2), .val .null, .val .null, .val (.ref b59), .val (.ref b61), .unset] [(.int (2 : Int32)), (.int (v2 / (100 : Int32)))])) (fun t k => XS.iconst X67.here hx rfl (hb hby at_96) k) ?_
      refine own_cut (P := ∀ (v70 : Int32), (v70 = (if (v2 / (100 : Int32)) = (2 : Int32) then (1 : Int32) else (0 : Int32))) → own_Go p e below s (Q0 Z arg0 arg1 arg2 cs h0 n0) 24 128 (T67.setTop (mkF m 105 #[.val (.int arg0), .val (.int arg1), .val (.int arg2), .val (.int v2), .val .null, .val .null, .val (.ref b59), .val (.ref b61), .unset] [(.int v70)]))) (fun J71 => ?_) ?_
      · by_cases hc69 : (v2 / (100 : Int32)) = (2 : Int32)
        · refine own_st (B := T67.setTop (mkF m 100 #[.val (.int arg0), .val (.int arg1), .val (.int arg2), .val (.int v2), .val .null, .val .null, .val (.ref b59), .val (.ref b61), .unset] [])) (fun t k => XS.icmpNo X67.here hx rfl (hb hby at_97) rfl (XT.ii_ne_f hc69) k) ?_
          refine own_st (B := T67.setTop (mkF m 101 #[.val (.int arg0), .val (.int arg1), .val (.int arg2), .val (.int v2), .val .null, .val .null, .val (.ref b59), .val (.ref b61), .unset] [(.int (1 : Int32))])) (fun t k => XS.iconst X67.here hx rfl (hb hby at_100) k) ?_
          refine own_st (B := T67.setTop (mkF m 105 #[.val (.int arg0), .val (.int arg1), .val (.int arg2), .val (.int v2), .val .null, .val .null, .val (.ref b59), .val (.ref b61), .unset] [(.int (1 : Int32))])) (fun t k => XS.goto X67.here hx rfl (pc0 := 101) (pc' := 105) rfl (hb hby at_101) (by decide) (by decide) k) ?_
          exact J71 (1 : Int32) (by rw [if_pos hc69])
        · refine own_st (B := T67.setTop (mkF m 104 #[.val (.int arg0), .val (.int arg1), .val (.int arg2), .val (.int v2), .val .null, .val .null, .val (.ref b59), .val (.ref b61), .unset] [])) (fun t k => XS.icmpYes X67.here hx rfl (pc0 := 97) (pc' := 104) rfl (hb hby at_97) rfl (XT.ii_ne_t hc69) (by decide) (by decide) k) ?_
          refine own_st (B := T67.setTop (mkF m 105 #[.val (.int arg0), .val (.int arg1), .val (.int arg2), .val (.int v2), .val .null, .val .null, .val (.ref b59), .val (.ref b61), .unset] [(.int (0 : Int32))])) (fun t k => XS.iconst X67.here hx rfl (hb hby at_104) k) ?_
          exact J71 (0 : Int32) (by rw [if_neg hc69])
      intro v70 hv70
      refine own_st (B := T67.setTop (mkF m 107 #[.val (.int arg0), .val (.int arg1), .val (.int arg2), .val (.int v2), .val .null, .val .null, .val (.ref b59), .val (.ref b61), .val (.int v70)] [])) (fun t k => XS.istore X67.here hx rfl (hb hby at_105) rfl (l' := #[.val (.int arg0), .val (.int arg1), .val (.int arg2), .val (.int v2), .val .null, .val .null, .val (.ref b59), .val (.ref b61), .val (.int v70)]) rfl k) ?_
      refine own_st (B := T67.setTop (mkF m 109 #[.val (.int arg0), .val (.int arg1), .val (.int arg2), .val (.int v2), .val .null, .val .null, .val (.ref b59), .val (.ref b61), .val (.int v70)] [(.ref b61)])) (fun t k => XS.aload X67.here hx rfl (hb hby at_107) rfl rfl k) ?_
      obtain ⟨cq72, kq72, q72a, q72b, q72c⟩ := isOf hZ rfl p67_0
      obtain ⟨_, _, ⟨T72, L72, k72, j72⟩, -, X72, ⟨Lc72, hQ72, l72, y72_, z72_⟩, st72⟩ := X67.virtualBack hx (y := (⟨"com/example/stockwright/stockwright/model/RememberedAnswer", "succeeded", "()Z"⟩ : MethodName)) (z := (⟨"com/example/stockwright/stockwright/model/RememberedAnswer", "succeeded", "()Z"⟩ : MethodName)) hown (mvT hZ (w_47 hw)) (mvT hZ (w_48 hw)) (notFace_of_selects (args := #[]) (mvT hZ (w_50 hw))) (mvT hZ (w_50 hw)) (mvT hZ (w_49 hw)) (by decide) (backOf (W := 0) (rm8 l Z a0 hw [] b61 v2 T67.heap n0 z68 p67_1) hZ (w_51 hw) (w_29 hw) (by decide) (by decide)) q72a q72c (g := (mkF m 109 #[.val (.int arg0), .val (.int arg1), .val (.int arg2), .val (.int v2), .val .null, .val .null, .val (.ref b59), .val (.ref b61), .val (.int v70)] [(.ref b61)])) rfl (by rw [hml]; rfl) (Steps.refl _) (argsL := []) (rest := []) (lenOf own_pd10 rfl) rfl (by show 2 * 0 + _ ≤ _; exact Nat.le_of_eq rfl) (hb hby at_109) (fun _ _ => ⟨rfl, rfl, (by decide : 2 + 0 ≤ _), (by decide : 7 + 0 ≤ _)⟩)
      dsimp only [Pt.U, Pt.locs, Pt.cells, Pt.slots] at X72 l72 y72_ z72_ st72 hQ72
      subst l72 y72_ z72_
      obtain ⟨rfl, N72q, e72q⟩ := hQ72
      have N72 := Fr.app N67 N72q
      refine own_ss (B := T72.setTop (mkF m 112 #[.val (.int arg0), .val (.int arg1), .val (.int arg2), .val (.int v2), .val .null, .val .null, .val (.ref b59), .val (.ref b61), .val (.int v70)] [(.int (own_f8 b61 v2))])) st72 ?_
      refine own_st (B := T72.setTop (mkF m 114 #[.val (.int arg0), .val (.int arg1), .val (.int arg2), .val (.int v2), .val .null, .val .null, .val (.ref b59), .val (.ref b61), .val (.int v70)] [(.int v70), (.int (own_f8 b61 v2))])) (fun t k => XS.iload X72.here hx rfl (hb hby at_112) rfl k) ?_
      have hc73 : (own_f8 b61 v2) = v70 := by
        exact own_fin hv70
      refine own_st (B := T72.setTop (mkF m 117 #[.val (.int arg0), .val (.int arg1), .val (.int arg2), .val (.int v2), .val .null, .val .null, .val (.ref b59), .val (.ref b61), .val (.int v70)] [])) (fun t k => XS.icmpNo X72.here hx rfl (hb hby at_114) rfl (XT.ii_ne_f hc73) k) ?_
      refine own_st (B := T72.setTop (mkF m 118 #[.val (.int arg0), .val (.int arg1), .val (.int arg2), .val (.int v2), .val .null, .val .null, .val (.ref b59), .val (.ref b61), .val (.int v70)] [(.int (1 : Int32))])) (fun t k => XS.iconst X72.here hx rfl (hb hby at_117) k) ?_
      refine own_st (B := T72.setTop (mkF m 122 #[.val (.int arg0), .val (.int arg1), .val (.int arg2), .val (.int v2), .val .null, .val .null, .val (.ref b59), .val (.ref b61), .val (.int v70)] [(.int (1 : Int32))])) (fun t k => XS.goto X72.here hx rfl (pc0 := 118) (pc' := 122) rfl (hb hby at_118) (by decide) (by decide) k) ?_
      refine own_retN X72 hx hlk (t := .boolean) Bd.returns (by simp) (z' := (1 : Int32)) rfl (hb hby at_122) (by decide) (by decide) ?_
      show Q0 Z arg0 arg1 arg2 cs h0 n0 _ T72.heap _
      rw [e72q]
      exact ⟨rfl, N72⟩
set_option maxHeartbeats 40000000 in
theorem comes_1 {Post : Tables → Env → Array Value → State → Outcome → State → Prop} (hpost : ∀ tb e args s v u, (limb_1_1.after args s (.returned v) u = true ∧ limb_1_2.after args s (.returned v) u = true ∧ True) → FrameEnd s (.returned v) u (Jvm.fieldLocs frame_1_writes args s ++ Jvm.arrayLocs frame_1_arrays args s ++ Jvm.staticLocs frame_1_statics s) 24 128 → Post tb e args s (.returned v) u) :
    ArmFor flags0 classFile x code maxLocals ret World_1 tables_1 room_1 Calls_1 rest_1 Pre_1 Post := by
  intro l hfl _ _ p e ha hc hk s m args below hf hA hF happ hP
  obtain ⟨hcalls, hrest, hpre⟩ := hP
  obtain ⟨-, -, -, hnamed, -, -, -, hat⟩ := (Spec.applies_iff hf).mp happ
  obtain ⟨hg, hn⟩ := and_e (Cond.before_iff.mp (show (Jvm.Cond.and given_1 narrow_1).before args s = true from hpre))
  obtain ⟨g1a, g1b⟩ := and_e hg
  obtain ⟨g2a, g2b⟩ := and_e g1b
  obtain ⟨g3a, g3b⟩ := and_e g2b
  obtain ⟨w0, w1, w2, rfl⟩ : ∃ w0 w1 w2 : Value, args = #[w0, w1, w2] := by
    have hs : args.size = 3 := by simpa [Cond.value, given_1] using g1a
    obtain ⟨L⟩ := args
    match L, hs with
    | [w0, w1, w2], _ => exact ⟨w0, w1, w2, rfl⟩
  have hw := fun d (hd : d ∈ tables_1) => atoms_spec (ws := Jvm.Cond.code x code maxLocals ret :: tables_1) hat d (List.mem_cons_of_mem _ hd)
  have hfit : Fit s := fun {y c} hc i hi => by
    obtain ⟨ha, rfl⟩ := Array.getElem?_eq_some_iff.mp hc
    have q := List.all_eq_true.mp ((Array.all_eq_true_iff_forall_mem.mp hF) _ (Array.getElem_mem ha)) i (List.mem_range.mpr hi)
    simpa [Array.getElem?_eq_getElem hi] using q
  obtain ⟨hsets, hown0⟩ := atoms_of _ (rest_1_c_eq ▸ (show rest_1_c.before _ s = true from hrest))
  have hr0 := Cond.before_iff.mp hown0
  obtain ⟨i0, ei0⟩ := is_v g2a
  obtain rfl : w0 = (.int i0) := Option.some.inj ei0
  obtain ⟨i1, ei1⟩ := is_v g3a
  obtain rfl : w1 = (.int i1) := Option.some.inj ei1
  obtain ⟨i2, ei2⟩ := is_v g3b
  obtain rfl : w2 = (.int i2) := Option.some.inj ei2
  obtain ⟨cs, ecs⟩ := is_v (Cond.before_iff.mp (hsets _ (List.mem_of_getElem? (i := 1) rfl)))
  have S1 : Sta s s.heap "java/lang/String" "COMPACT_STRINGS" "Z" (.int cs) := Sta.start ecs (Or.inl (hsets _ (List.mem_of_getElem? (i := 0) rfl)))
  have hcs : ¬ (cs = (0 : Int32)) := gotF (Cond.eq_ints ecs (Term.int_eval (0))) (not_v (Cond.before_iff.mp (hsets _ (List.mem_of_getElem? (i := 2) rfl))))
  obtain ⟨n, o, h1, h2, h3, _, L, rfl, ⟨rfl, N⟩, hq⟩ := rm0 l s _ hw tables_1 i0 i1 i2 cs s.heap s.heap.size (Nat.le_refl _) S1 hcs p e ha hc hk s m _ below hf ((Spec.applies_iff_loose hf).mp happ).1 ⟨rfl, State.Warmed39.refl s, rfl⟩ trivial
  refine ⟨n, _, h1, h2, h3, hpost _ _ _ _ _ _ ⟨Cond.after_iff.mpr rfl, Cond.after_iff.mpr (eq_i res_at (Term.int_eval (1)) rfl), trivial⟩ ⟨hq.1, hq.2.1, (hq.2.2.sift fun y hy => Or.inr (N y hy)).mono (by decide) (by decide)⟩⟩
theorem main_1_1 : Claimed_1_1 := comes_1 fun _ _ _ _ _ _ h hF => ⟨h.1, hF⟩
theorem main_1_2 : Claimed_1_2 := comes_1 fun _ _ _ _ _ _ h hF => ⟨h.2.1, hF⟩
end Jvm.Pilot.@@N@@
namespace Jvm.Pilot.@@N@@
open Jvm Jvm.ClassFile Sem Op Lib Jvm.Free Jvm.Stand Jvm.Pilot.@@N@@.Jvm.D
/-! MADE BY PROGRAM (witnessworld.py) out of the Statement's table words and the real class files: 18 classes; the members and pool entries that the words name. The judged class is class 1, her method 1. -/
namespace start1
open Jvm.ClassFile
def u (s : String) : CpInfo := .utf8 (stringToUtf16 s)
/-- a pool by its gaps: so many unusable entries, then the entry; so many at the end -/
def gap : Nat → List CpInfo → List CpInfo
  | 0, r => r
  | n + 1, r => .unusable :: gap n r
def poolList (es : List (Nat × CpInfo)) (last : Nat) : List CpInfo := es.foldr (fun e r => gap e.1 (e.2 :: r)) (gap last [])
def pool (es : List (Nat × CpInfo)) (last : Nat) : Array CpInfo := ⟨poolList es last⟩
def fileOf (pool : Array CpInfo) (this : Nat) (attrs : Array Attribute := #[]) (ms : Array MethodInfo := #[]) (fl : Nat := 33) (sup : Nat := 0) (ifs : Array Nat := #[]) (fds : Array FieldInfo := #[]) : ClassFile where
  minorVersion := 0
  majorVersion := 65
  constantPool := pool
  accessFlags := fl
  thisClass := this
  superClass := sup
  interfaces := ifs
  fields := fds
  methods := ms
  attributes := attrs
def plain (name : String) (sup : Option ClassId) : Class where
  name := name
  kind := .ordinary
  loader := none
  accessFlags := 33
  super := sup
  interfaces := #[]
  cf := none
  fields := #[]
  methods := #[]
  instanceTypes := #[]
  staticTypes := #[]
  resolved := #[]
  callSites := []
  init := .initialized
  statics := none
  mirror := none

def pool0 : Array CpInfo := pool [(5, u "<init>"), (0, u "()V"), (1, .class_ 10), (1, u "java/lang/Object")] 113

def k0c0 : Code := { maxStack := 0, maxLocals := 1, code := object_method_1_code, exceptionTable := #[], attributes := #[] }
def k0m0 : Method := { name := "<init>", desc := "()V", sig := { parameters := [], returnType := none }, accessFlags := 1, code := some k0c0 }
/-- java/lang/Object -/
def k0 : Class := { plain "java/lang/Object" none with
  accessFlags := 33
  interfaces := #[]
  cf := some (fileOf pool0 8 #[] #[{ accessFlags := 1, nameIndex := 5, descriptorIndex := 6, attributes := #[] }] 33 0 #[] #[])
  fields := #[]
  methods := #[k0m0]
  instanceTypes := #[]
  staticTypes := #[]
  resolved := Array.replicate 124 none
  statics := none }

def pool1 : Array CpInfo := pool [(2, .class_ 4), (1, u "java/lang/Object"), (0, u "<init>"), (0, u "()V"), (0, .integer 2147483647), (0, .methodref 9 10), (0, .class_ 11), (0, .nameAndType 12 13), (0, u "java/lang/String"), (0, u "valueOf"), (0, u "(C)Ljava/lang/String;"), (0, .class_ 15), (0, u "com/example/stockwright/stockwright/model/RememberedAnswer"), (0, .methodref 14 17), (0, .nameAndType 5 18), (0, u "(ILjava/lang/String;Ljava/lang/String;[B)V"), (0, .methodref 14 20), (0, .nameAndType 21 22), (0, u "succeeded"), (0, u "()Z"), (0, .class_ 24), (0, u "com/example/stockwright/stockwright/model/RememberedAnswerSucceededPinLaw"), (2, u "law"), (0, u "(III)Z")] 5

def k1m0 : Method := { name := "<init>", desc := "()V", sig := { parameters := [], returnType := none }, accessFlags := 1, code := none }
def k1c1 : Code := { maxStack := 6, maxLocals := 9, code := code, exceptionTable := #[], attributes := #[] }
def k1m1 : Method := { name := "law", desc := "(III)Z", sig := { parameters := [.int, .int, .int], returnType := some .boolean }, accessFlags := 9, code := some k1c1 }
/-- com/example/stockwright/stockwright/model/RememberedAnswerSucceededPinLaw -/
def k1 : Class := { plain "com/example/stockwright/stockwright/model/RememberedAnswerSucceededPinLaw" (some 0) with
  accessFlags := 49
  interfaces := #[]
  cf := some (fileOf pool1 23 #[] #[{ accessFlags := 1, nameIndex := 5, descriptorIndex := 6, attributes := #[] }, { accessFlags := 9, nameIndex := 27, descriptorIndex := 28, attributes := #[] }] 49 2 #[] #[])
  fields := #[]
  methods := #[k1m0, k1m1]
  instanceTypes := #[]
  staticTypes := #[]
  resolved := Array.replicate 34 none
  statics := none }

def pool2 : Array CpInfo := pool [(1, .class_ 2), (0, u "java/io/Serializable"), (0, .class_ 4), (0, u "java/lang/Object")] 2

/-- java/io/Serializable -/
def k2 : Class := { plain "java/io/Serializable" (some 0) with
  accessFlags := 1537
  interfaces := #[]
  cf := some (fileOf pool2 1 #[] #[] 1537 3 #[] #[])
  fields := #[]
  methods := #[]
  instanceTypes := #[]
  staticTypes := #[]
  resolved := Array.replicate 7 none
  statics := none }

def pool3 : Array CpInfo := pool [(1, .class_ 2), (0, u "java/lang/Comparable"), (0, .class_ 4), (0, u "java/lang/Object")] 7

/-- java/lang/Comparable -/
def k3 : Class := { plain "java/lang/Comparable" (some 0) with
  accessFlags := 1537
  interfaces := #[]
  cf := some (fileOf pool3 1 #[] #[] 1537 3 #[] #[])
  fields := #[]
  methods := #[]
  instanceTypes := #[]
  staticTypes := #[]
  resolved := Array.replicate 12 none
  statics := none }

def pool4 : Array CpInfo := pool [(2, .class_ 4), (1, u "java/lang/CharSequence"), (42, .class_ 48), (0, u "java/lang/CharSequence$1CodePointIterator"), (10, .class_ 60), (0, u "java/lang/CharSequence$1CharIterator"), (5, .class_ 67), (0, u "java/lang/Object")] 63

/-- java/lang/CharSequence -/
def k4 : Class := { plain "java/lang/CharSequence" (some 0) with
  accessFlags := 1537
  interfaces := #[]
  cf := some (fileOf pool4 2 #[.nestMembers #[47, 59]] #[] 1537 66 #[] #[])
  fields := #[]
  methods := #[]
  instanceTypes := #[]
  staticTypes := #[]
  resolved := Array.replicate 131 none
  statics := none }

def pool5 : Array CpInfo := pool [(1, .class_ 2), (0, u "java/lang/constant/Constable"), (0, .class_ 4), (0, u "java/lang/Object")] 6

/-- java/lang/constant/Constable -/
def k5 : Class := { plain "java/lang/constant/Constable" (some 0) with
  accessFlags := 1537
  interfaces := #[]
  cf := some (fileOf pool5 1 #[] #[] 1537 3 #[] #[])
  fields := #[]
  methods := #[]
  instanceTypes := #[]
  staticTypes := #[]
  resolved := Array.replicate 11 none
  statics := none }

def pool6 : Array CpInfo := pool [(1, .class_ 2), (0, u "java/lang/constant/ConstantDesc"), (0, .class_ 4), (0, u "java/lang/Object")] 32

/-- java/lang/constant/ConstantDesc -/
def k6 : Class := { plain "java/lang/constant/ConstantDesc" (some 0) with
  accessFlags := 1537
  interfaces := #[]
  cf := some (fileOf pool6 1 #[] #[] 1537 3 #[] #[])
  fields := #[]
  methods := #[]
  instanceTypes := #[]
  staticTypes := #[]
  resolved := Array.replicate 37 none
  statics := none }

def pool7 : Array CpInfo := pool [(1, .methodref 2 3), (0, .class_ 4), (0, .nameAndType 5 6), (0, u "java/lang/Object"), (0, u "<init>"), (0, u "()V"), (2, .fieldref 10 11), (0, .class_ 12), (0, .nameAndType 13 14), (0, u "java/lang/String"), (0, u "value"), (0, u "[B"), (0, .fieldref 10 16), (0, .nameAndType 17 18), (0, u "coder"), (0, u "B"), (2, u "hash"), (0, u "I"), (2, u "hashIsZero"), (0, u "Z"), (11, .fieldref 10 39), (0, .nameAndType 40 26), (0, u "COMPACT_STRINGS"), (12, u "toBytes"), (53, .class_ 109), (1, u "java/lang/StringLatin1"), (99, .methodref 10 210), (0, .nameAndType 5 211), (0, u "([BB)V"), (157, u "(C)Z"), (205, .class_ 576), (0, u "java/lang/CharSequence"), (22, u "CASE_INSENSITIVE_ORDER"), (0, u "Ljava/util/Comparator;"), (181, u "valueOf"), (0, u "(C)Ljava/lang/String;"), (231, .methodref 107 1016), (0, .nameAndType 1017 369), (0, u "canEncode"), (0, .methodref 107 1019), (0, .nameAndType 53 1020), (0, u "(C)[B"), (80, u "serialPersistentFields"), (0, u "[Ljava/io/ObjectStreamField;"), (0, .class_ 1104), (0, u "java/lang/String$CaseInsensitiveComparator"), (1, .class_ 1107), (0, u "java/io/Serializable"), (0, .class_ 1109), (0, u "java/lang/Comparable"), (0, .class_ 1111), (0, u "java/lang/constant/Constable"), (0, .class_ 1113), (0, u "java/lang/constant/ConstantDesc"), (2, u "serialVersionUID"), (0, u "J"), (3, u "REPL"), (0, u "C"), (2, u "LATIN1"), (1, u "UTF16")] 323

def k7m0 : Method := { name := "<init>", desc := "()V", sig := { parameters := [], returnType := none }, accessFlags := 1, code := none }
def k7c1 : Code := { maxStack := 4, maxLocals := 1, code := jdk_42_method_139_code, exceptionTable := #[], attributes := #[] }
def k7m1 : Method := { name := "valueOf", desc := "(C)Ljava/lang/String;", sig := { parameters := [.char], returnType := some (.object "java/lang/String") }, accessFlags := 9, code := some k7c1 }
def k7c2 : Code := { maxStack := 2, maxLocals := 3, code := jdk_42_method_151_code, exceptionTable := #[], attributes := #[] }
def k7m2 : Method := { name := "<init>", desc := "([BB)V", sig := { parameters := [(.array .byte), .byte], returnType := none }, accessFlags := 0, code := some k7c2 }
/-- java/lang/String -/
def k7 : Class := { plain "java/lang/String" (some 0) with
  accessFlags := 49
  interfaces := #[2, 3, 4, 5, 6]
  cf := some (fileOf pool7 10 #[.nestMembers #[1103]] #[{ accessFlags := 1, nameIndex := 5, descriptorIndex := 6, attributes := #[] }, { accessFlags := 9, nameIndex := 782, descriptorIndex := 783, attributes := #[] }, { accessFlags := 0, nameIndex := 5, descriptorIndex := 211, attributes := #[] }] 49 2 #[1106, 1108, 575, 1110, 1112] #[{ accessFlags := 18, nameIndex := 13, descriptorIndex := 14, attributes := #[] }, { accessFlags := 18, nameIndex := 17, descriptorIndex := 18, attributes := #[] }, { accessFlags := 2, nameIndex := 21, descriptorIndex := 22, attributes := #[] }, { accessFlags := 2, nameIndex := 25, descriptorIndex := 26, attributes := #[] }, { accessFlags := 26, nameIndex := 1116, descriptorIndex := 1117, attributes := #[] }, { accessFlags := 24, nameIndex := 40, descriptorIndex := 26, attributes := #[] }, { accessFlags := 26, nameIndex := 1101, descriptorIndex := 1102, attributes := #[] }, { accessFlags := 26, nameIndex := 1121, descriptorIndex := 1122, attributes := #[] }, { accessFlags := 25, nameIndex := 599, descriptorIndex := 600, attributes := #[] }, { accessFlags := 24, nameIndex := 1125, descriptorIndex := 18, attributes := #[] }, { accessFlags := 24, nameIndex := 1127, descriptorIndex := 18, attributes := #[] }])
  fields := #[{ name := "value", type := (.array .byte), accessFlags := 18, slot := 0, constantValue := 0 }, { name := "coder", type := .byte, accessFlags := 18, slot := 1, constantValue := 0 }, { name := "hash", type := .int, accessFlags := 2, slot := 2, constantValue := 0 }, { name := "hashIsZero", type := .boolean, accessFlags := 2, slot := 3, constantValue := 0 }, { name := "serialVersionUID", type := .long, accessFlags := 26, slot := 0, constantValue := 0 }, { name := "COMPACT_STRINGS", type := .boolean, accessFlags := 24, slot := 1, constantValue := 0 }, { name := "serialPersistentFields", type := (.array (.object "java/io/ObjectStreamField")), accessFlags := 26, slot := 2, constantValue := 0 }, { name := "REPL", type := .char, accessFlags := 26, slot := 3, constantValue := 0 }, { name := "CASE_INSENSITIVE_ORDER", type := (.object "java/util/Comparator"), accessFlags := 25, slot := 4, constantValue := 0 }, { name := "LATIN1", type := .byte, accessFlags := 24, slot := 5, constantValue := 0 }, { name := "UTF16", type := .byte, accessFlags := 24, slot := 6, constantValue := 0 }]
  methods := #[k7m0, k7m1, k7m2]
  instanceTypes := #[(.array .byte), .byte, .int, .boolean]
  staticTypes := #[.long, .boolean, (.array (.object "java/io/ObjectStreamField")), .char, (.object "java/util/Comparator"), .byte, .byte]
  resolved := Array.replicate 1451 none
  statics := some 0 }

def pool8 : Array CpInfo := pool [(4, .class_ 6), (1, u "java/lang/Object"), (0, u "<init>"), (0, u "()V"), (5, .class_ 16), (1, u "java/lang/StringLatin1"), (73, u "canEncode"), (14, u "(C)Z"), (15, u "$assertionsDisabled"), (0, u "Z"), (98, .class_ 223), (1, u "java/lang/StringLatin1$LinesSpliterator"), (156, u "toBytes"), (1, u "(C)[B"), (7, .class_ 391), (0, u "java/lang/StringLatin1$CharsSpliterator")] 3

def k8m0 : Method := { name := "<init>", desc := "()V", sig := { parameters := [], returnType := none }, accessFlags := 0, code := none }
def k8c1 : Code := { maxStack := 2, maxLocals := 1, code := jdk_43_method_3_code, exceptionTable := #[], attributes := #[] }
def k8m1 : Method := { name := "canEncode", desc := "(C)Z", sig := { parameters := [.char], returnType := some .boolean }, accessFlags := 9, code := some k8c1 }
def k8c2 : Code := { maxStack := 4, maxLocals := 1, code := jdk_43_method_46_code, exceptionTable := #[], attributes := #[] }
def k8m2 : Method := { name := "toBytes", desc := "(C)[B", sig := { parameters := [.char], returnType := some (.array .byte) }, accessFlags := 9, code := some k8c2 }
/-- java/lang/StringLatin1 -/
def k8 : Class := { plain "java/lang/StringLatin1" (some 0) with
  accessFlags := 48
  interfaces := #[]
  cf := some (fileOf pool8 14 #[.nestMembers #[390, 221]] #[{ accessFlags := 0, nameIndex := 7, descriptorIndex := 8, attributes := #[] }, { accessFlags := 9, nameIndex := 90, descriptorIndex := 105, attributes := #[] }, { accessFlags := 9, nameIndex := 380, descriptorIndex := 382, attributes := #[] }] 48 4 #[] #[{ accessFlags := 4120, nameIndex := 121, descriptorIndex := 122, attributes := #[] }])
  fields := #[{ name := "$assertionsDisabled", type := .boolean, accessFlags := 4120, slot := 0, constantValue := 0 }]
  methods := #[k8m0, k8m1, k8m2]
  instanceTypes := #[]
  staticTypes := #[.boolean]
  resolved := Array.replicate 395 none
  statics := none }

def pool9 : Array CpInfo := pool [(1, .methodref 2 3), (0, .class_ 4), (0, .nameAndType 5 6), (0, u "java/lang/Object"), (0, u "<init>"), (0, u "()V"), (0, .class_ 8), (0, u "java/lang/Record")] 13

def k9c0 : Code := { maxStack := 1, maxLocals := 1, code := jdk_30_method_1_code, exceptionTable := #[], attributes := #[] }
def k9m0 : Method := { name := "<init>", desc := "()V", sig := { parameters := [], returnType := none }, accessFlags := 4, code := some k9c0 }
/-- java/lang/Record -/
def k9 : Class := { plain "java/lang/Record" (some 0) with
  accessFlags := 1057
  interfaces := #[]
  cf := some (fileOf pool9 7 #[] #[{ accessFlags := 4, nameIndex := 5, descriptorIndex := 6, attributes := #[] }] 1057 2 #[] #[])
  fields := #[]
  methods := #[k9m0]
  instanceTypes := #[]
  staticTypes := #[]
  resolved := Array.replicate 22 none
  statics := none }

def pool10 : Array CpInfo := pool [(1, .methodref 2 3), (0, .class_ 4), (0, .nameAndType 5 6), (0, u "java/lang/Record"), (0, u "<init>"), (0, u "()V"), (0, .fieldref 8 9), (0, .class_ 10), (0, .nameAndType 11 12), (0, u "com/example/stockwright/stockwright/model/RememberedAnswer"), (0, u "status"), (0, u "I"), (0, .fieldref 8 14), (0, .nameAndType 15 16), (0, u "contentType"), (0, u "Ljava/lang/String;"), (0, .fieldref 8 18), (0, .nameAndType 19 16), (0, u "location"), (0, .fieldref 8 21), (0, .nameAndType 22 23), (0, u "body"), (0, u "[B"), (12, u "(ILjava/lang/String;Ljava/lang/String;[B)V"), (3, u "succeeded"), (0, u "()Z")] 28

def k10c0 : Code := { maxStack := 2, maxLocals := 5, code := prog_20_method_1_code, exceptionTable := #[], attributes := #[] }
def k10m0 : Method := { name := "<init>", desc := "(ILjava/lang/String;Ljava/lang/String;[B)V", sig := { parameters := [.int, (.object "java/lang/String"), (.object "java/lang/String"), (.array .byte)], returnType := none }, accessFlags := 1, code := some k10c0 }
def k10c1 : Code := { maxStack := 2, maxLocals := 1, code := prog_20_method_2_code, exceptionTable := #[], attributes := #[] }
def k10m1 : Method := { name := "succeeded", desc := "()Z", sig := { parameters := [], returnType := some .boolean }, accessFlags := 1, code := some k10c1 }
/-- com/example/stockwright/stockwright/model/RememberedAnswer -/
def k10 : Class := { plain "com/example/stockwright/stockwright/model/RememberedAnswer" (some 9) with
  accessFlags := 49
  interfaces := #[]
  cf := some (fileOf pool10 8 #[] #[{ accessFlags := 1, nameIndex := 5, descriptorIndex := 36, attributes := #[] }, { accessFlags := 1, nameIndex := 40, descriptorIndex := 41, attributes := #[] }] 49 2 #[] #[{ accessFlags := 18, nameIndex := 11, descriptorIndex := 12, attributes := #[] }, { accessFlags := 18, nameIndex := 15, descriptorIndex := 16, attributes := #[] }, { accessFlags := 18, nameIndex := 19, descriptorIndex := 16, attributes := #[] }, { accessFlags := 18, nameIndex := 22, descriptorIndex := 23, attributes := #[] }])
  fields := #[{ name := "status", type := .int, accessFlags := 18, slot := 0, constantValue := 0 }, { name := "contentType", type := (.object "java/lang/String"), accessFlags := 18, slot := 1, constantValue := 0 }, { name := "location", type := (.object "java/lang/String"), accessFlags := 18, slot := 2, constantValue := 0 }, { name := "body", type := (.array .byte), accessFlags := 18, slot := 3, constantValue := 0 }]
  methods := #[k10m0, k10m1]
  instanceTypes := #[.int, (.object "java/lang/String"), (.object "java/lang/String"), (.array .byte)]
  staticTypes := #[]
  resolved := Array.replicate 70 none
  statics := none }

def pool11 : Array CpInfo := pool [(2, .class_ 4), (1, u "java/lang/Object"), (0, u "<init>"), (0, u "()V"), (17, .class_ 26), (1, u "jdk/internal/util/Preconditions"), (28, .class_ 56), (0, u "jdk/internal/util/Preconditions$4"), (57, .class_ 115), (0, u "jdk/internal/util/Preconditions$1"), (7, u "SIOOBE_FORMATTER"), (0, u "Ljava/util/function/BiFunction;"), (0, .class_ 126), (0, u "jdk/internal/util/Preconditions$2"), (3, u "AIOOBE_FORMATTER"), (0, .class_ 132), (0, u "jdk/internal/util/Preconditions$3"), (3, u "IOOBE_FORMATTER")] 57

def k11m0 : Method := { name := "<init>", desc := "()V", sig := { parameters := [], returnType := none }, accessFlags := 1, code := none }
/-- jdk/internal/util/Preconditions -/
def k11 : Class := { plain "jdk/internal/util/Preconditions" (some 0) with
  accessFlags := 33
  interfaces := #[]
  cf := some (fileOf pool11 24 #[.nestMembers #[55, 131, 125, 114]] #[{ accessFlags := 1, nameIndex := 5, descriptorIndex := 6, attributes := #[] }] 33 2 #[] #[{ accessFlags := 25, nameIndex := 123, descriptorIndex := 124, attributes := #[] }, { accessFlags := 25, nameIndex := 130, descriptorIndex := 124, attributes := #[] }, { accessFlags := 25, nameIndex := 136, descriptorIndex := 124, attributes := #[] }])
  fields := #[{ name := "SIOOBE_FORMATTER", type := (.object "java/util/function/BiFunction"), accessFlags := 25, slot := 0, constantValue := 0 }, { name := "AIOOBE_FORMATTER", type := (.object "java/util/function/BiFunction"), accessFlags := 25, slot := 1, constantValue := 0 }, { name := "IOOBE_FORMATTER", type := (.object "java/util/function/BiFunction"), accessFlags := 25, slot := 2, constantValue := 0 }]
  methods := #[k11m0]
  instanceTypes := #[]
  staticTypes := #[(.object "java/util/function/BiFunction"), (.object "java/util/function/BiFunction"), (.object "java/util/function/BiFunction")]
  resolved := Array.replicate 194 none
  statics := some 1 }

def pool12 : Array CpInfo := pool [(9, u "<init>"), (6, .class_ 18), (1, u "java/lang/Object"), (0, u "()V"), (1, .class_ 23), (1, u "jdk/internal/util/ArraysSupport"), (0, u "LOG2_ARRAY_LONG_INDEX_SCALE"), (0, u "I"), (2, u "U"), (0, u "Ljdk/internal/misc/Unsafe;"), (8, u "BIG_ENDIAN"), (0, u "Z"), (8, u "LOG2_BYTE_BIT_SIZE"), (4, u "LOG2_ARRAY_INT_INDEX_SCALE"), (54, u "JLA"), (0, u "Ljdk/internal/access/JavaLangAccess;"), (11, u "LOG2_ARRAY_BOOLEAN_INDEX_SCALE"), (9, u "LOG2_ARRAY_BYTE_INDEX_SCALE"), (5, u "LOG2_ARRAY_CHAR_INDEX_SCALE"), (5, u "LOG2_ARRAY_SHORT_INDEX_SCALE"), (18, u "LOG2_ARRAY_FLOAT_INDEX_SCALE"), (24, u "LOG2_ARRAY_DOUBLE_INDEX_SCALE"), (89, u "T_BOOLEAN"), (2, u "T_CHAR"), (1, u "T_FLOAT"), (1, u "T_DOUBLE"), (1, u "T_BYTE"), (1, u "T_SHORT"), (1, u "T_INT"), (1, u "T_LONG"), (1, u "SOFT_MAX_ARRAY_LENGTH")] 83

def k12m0 : Method := { name := "<init>", desc := "()V", sig := { parameters := [], returnType := none }, accessFlags := 2, code := none }
/-- jdk/internal/util/ArraysSupport -/
def k12 : Class := { plain "jdk/internal/util/ArraysSupport" (some 0) with
  accessFlags := 33
  interfaces := #[]
  cf := some (fileOf pool12 21 #[] #[{ accessFlags := 2, nameIndex := 9, descriptorIndex := 19, attributes := #[] }] 33 16 #[] #[{ accessFlags := 24, nameIndex := 28, descriptorIndex := 29, attributes := #[] }, { accessFlags := 26, nameIndex := 38, descriptorIndex := 39, attributes := #[] }, { accessFlags := 25, nameIndex := 121, descriptorIndex := 25, attributes := #[] }, { accessFlags := 25, nameIndex := 131, descriptorIndex := 25, attributes := #[] }, { accessFlags := 25, nameIndex := 137, descriptorIndex := 25, attributes := #[] }, { accessFlags := 25, nameIndex := 143, descriptorIndex := 25, attributes := #[] }, { accessFlags := 25, nameIndex := 53, descriptorIndex := 25, attributes := #[] }, { accessFlags := 25, nameIndex := 24, descriptorIndex := 25, attributes := #[] }, { accessFlags := 25, nameIndex := 162, descriptorIndex := 25, attributes := #[] }, { accessFlags := 25, nameIndex := 187, descriptorIndex := 25, attributes := #[] }, { accessFlags := 26, nameIndex := 48, descriptorIndex := 25, attributes := #[] }, { accessFlags := 25, nameIndex := 277, descriptorIndex := 25, attributes := #[] }, { accessFlags := 25, nameIndex := 280, descriptorIndex := 25, attributes := #[] }, { accessFlags := 25, nameIndex := 282, descriptorIndex := 25, attributes := #[] }, { accessFlags := 25, nameIndex := 284, descriptorIndex := 25, attributes := #[] }, { accessFlags := 25, nameIndex := 286, descriptorIndex := 25, attributes := #[] }, { accessFlags := 25, nameIndex := 288, descriptorIndex := 25, attributes := #[] }, { accessFlags := 25, nameIndex := 290, descriptorIndex := 25, attributes := #[] }, { accessFlags := 25, nameIndex := 292, descriptorIndex := 25, attributes := #[] }, { accessFlags := 26, nameIndex := 108, descriptorIndex := 109, attributes := #[] }, { accessFlags := 25, nameIndex := 294, descriptorIndex := 25, attributes := #[] }])
  fields := #[{ name := "U", type := (.object "jdk/internal/misc/Unsafe"), accessFlags := 24, slot := 0, constantValue := 0 }, { name := "BIG_ENDIAN", type := .boolean, accessFlags := 26, slot := 1, constantValue := 0 }, { name := "LOG2_ARRAY_BOOLEAN_INDEX_SCALE", type := .int, accessFlags := 25, slot := 2, constantValue := 0 }, { name := "LOG2_ARRAY_BYTE_INDEX_SCALE", type := .int, accessFlags := 25, slot := 3, constantValue := 0 }, { name := "LOG2_ARRAY_CHAR_INDEX_SCALE", type := .int, accessFlags := 25, slot := 4, constantValue := 0 }, { name := "LOG2_ARRAY_SHORT_INDEX_SCALE", type := .int, accessFlags := 25, slot := 5, constantValue := 0 }, { name := "LOG2_ARRAY_INT_INDEX_SCALE", type := .int, accessFlags := 25, slot := 6, constantValue := 0 }, { name := "LOG2_ARRAY_LONG_INDEX_SCALE", type := .int, accessFlags := 25, slot := 7, constantValue := 0 }, { name := "LOG2_ARRAY_FLOAT_INDEX_SCALE", type := .int, accessFlags := 25, slot := 8, constantValue := 0 }, { name := "LOG2_ARRAY_DOUBLE_INDEX_SCALE", type := .int, accessFlags := 25, slot := 9, constantValue := 0 }, { name := "LOG2_BYTE_BIT_SIZE", type := .int, accessFlags := 26, slot := 10, constantValue := 0 }, { name := "T_BOOLEAN", type := .int, accessFlags := 25, slot := 11, constantValue := 0 }, { name := "T_CHAR", type := .int, accessFlags := 25, slot := 12, constantValue := 0 }, { name := "T_FLOAT", type := .int, accessFlags := 25, slot := 13, constantValue := 0 }, { name := "T_DOUBLE", type := .int, accessFlags := 25, slot := 14, constantValue := 0 }, { name := "T_BYTE", type := .int, accessFlags := 25, slot := 15, constantValue := 0 }, { name := "T_SHORT", type := .int, accessFlags := 25, slot := 16, constantValue := 0 }, { name := "T_INT", type := .int, accessFlags := 25, slot := 17, constantValue := 0 }, { name := "T_LONG", type := .int, accessFlags := 25, slot := 18, constantValue := 0 }, { name := "JLA", type := (.object "jdk/internal/access/JavaLangAccess"), accessFlags := 26, slot := 19, constantValue := 0 }, { name := "SOFT_MAX_ARRAY_LENGTH", type := .int, accessFlags := 25, slot := 20, constantValue := 0 }]
  methods := #[k12m0]
  instanceTypes := #[]
  staticTypes := #[(.object "jdk/internal/misc/Unsafe"), .boolean, .int, .int, .int, .int, .int, .int, .int, .int, .int, .int, .int, .int, .int, .int, .int, .int, .int, (.object "jdk/internal/access/JavaLangAccess"), .int]
  resolved := Array.replicate 378 none
  statics := none }

def pool13 : Array CpInfo := pool [(1, u "java/lang/Cloneable"), (0, .class_ 1), (0, u "java/lang/Object"), (0, .class_ 3)] 3

/-- java/lang/Cloneable -/
def k13 : Class := { plain "java/lang/Cloneable" (some 0) with
  accessFlags := 1537
  interfaces := #[]
  cf := some (fileOf pool13 2 #[] #[] 1537 4 #[] #[])
  fields := #[]
  methods := #[]
  instanceTypes := #[]
  staticTypes := #[]
  resolved := Array.replicate 8 none
  statics := none }

/-- the primitive byte -/
def k14 : Class := { plain "byte" none with kind := .primitive 'B', accessFlags := 0x411 }
/-- [B -/
def k15 : Class := { plain "[B" (some 0) with kind := .array 14 .byte, interfaces := #[13, 2], accessFlags := 1041 }

/-- the primitive int -/
def k16 : Class := { plain "int" none with kind := .primitive 'I', accessFlags := 0x411 }
/-- [I -/
def k17 : Class := { plain "[I" (some 0) with kind := .array 16 .int, interfaces := #[13, 2], accessFlags := 1041 }

def heap : Heap := #[{ cls := 7, slots := #[.long 0, .int 1, .null, .int 0, .null, .int 0, .int 0], vm := .statics 7 },
  { cls := 11, slots := #[.null, .null, .null], vm := .statics 11 }]
def classes : Array Class := #[k0, k1, k2, k3, k4, k5, k6, k7, k8, k9, k10, k11, k12, k13, k14, k15, k16, k17]
def interned : List (Array UInt16 × Addr) := []
def slotsUsed : Nat := 10
def theMethod : MethodId := ⟨1, 1⟩
def args0 : Array Value := #[.int 5, .int 5, .int 5]
def aboutOver (below : List Frame) : State where
  vm := { classes := classes, interned := interned.toArray }
  heap := heap
  slotsUsed := slotsUsed
  threads := #[{ frames := .invoking theMethod args0 :: below }]
def below0 : List Frame := [.native { method := ⟨0, 0⟩, args := #[] }]
def about1 : State := aboutOver below0
def p0 : Program := .bare "" "" ""
def e0 : Env := launch0.env 0 0 0
theorem w_frames : about1.frames = Frame.invoking theMethod args0 :: below0 := rfl
set_option maxRecDepth 65536 in
theorem w_args : argsFit about1.vm theMethod args0 = true := by decide +kernel
set_option maxRecDepth 65536 in
theorem w_heap : heapFits about1 = true := by decide +kernel
set_option maxRecDepth 65536 in
theorem w_runnable : about1.curStatus? = some .runnable := by decide +kernel
set_option maxRecDepth 65536 in
theorem w_alone : about1.alone = true := by decide +kernel
set_option maxRecDepth 65536 in
theorem w_named : about1.methodNamed? x = some theMethod := by decide +kernel
set_option maxRecDepth 65536 in
theorem w_hears : about1.hears theMethod below0 = true := by decide +kernel
set_option maxRecDepth 65536 in
theorem w_ripe : about1.ripe theMethod args0 below0 = true := by decide +kernel
theorem w_running : about1.status = .running := rfl
set_option maxRecDepth 65536 in
theorem w_room : about1.hasRoom e0.platform room_1 = true :=
  launch0.hasRoom_least _ room_1 (by decide +kernel) (by decide +kernel) (by decide +kernel) (by decide +kernel) (by decide +kernel) (by decide +kernel)
theorem allAtoms_all (ts : List Jvm.Cond) (a : Array Jvm.Value) (st : Jvm.State) : (allAtoms ts).before a st = ts.all (fun c => c.before a st) := by
  induction ts with
  | nil => rfl
  | cons c t ih =>
    show (Jvm.Cond.and c (allAtoms t)).before a st = _
    rw [Jvm.Cond.before_and, ih, List.all_cons]
def words1 : List Jvm.Cond := Jvm.Cond.code x code maxLocals ret :: tables_1
/-- a 'code' word, met by the world's own term for the bytes: nothing is compared byte by byte -/
theorem code_word {y : MethodName} {bytes : ByteArray} {mx : Nat} {rt : Option FieldType} {a : Array Value} {s : State} {m : MethodId} {meth : Method} {c : Code} (h1 : s.methodNamed? y = some m) (h2 : s.vm.method? m = some meth) (h3 : meth.code = some c) (h4 : c.code = bytes)
    (h5 : (c.maxLocals == mx && c.exceptionTable.isEmpty && decide (c.maxStack ≤ mostOperands) && decide (meth.sig.returnType = rt) && !meth.locks && decide (parseMethodDescriptor y.desc = some meth.sig)) = true) : (Jvm.Cond.code y bytes mx rt).before a s = true := by
  simp only [Bool.and_eq_true, beq_iff_eq, Bool.not_eq_true', decide_eq_true_eq] at h5
  obtain ⟨⟨⟨⟨⟨g1, g2⟩, g3⟩, g4⟩, g5⟩, g6⟩ := h5
  simp [Cond.before, Cond.holds, Cond.value, h1, h2, h3, h4, g1, g2, g3, g4, g5, g6]
def isCode : Jvm.Cond → Bool
  | .code _ _ _ _ => true
  | _ => false
theorem all_split {L : List Jvm.Cond} {P : Jvm.Cond → Bool} (h1 : L.all (fun c => isCode c || P c) = true) (h2 : ∀ c ∈ L.filter isCode, P c = true) : L.all P = true := by
  refine List.all_eq_true.mpr fun c hc => ?_
  have h := List.all_eq_true.mp h1 c hc
  rcases Bool.eq_false_or_eq_true (isCode c) with hi | hi
  · exact h2 c (List.mem_filter.mpr ⟨hc, hi⟩)
  · simpa [hi] using h
set_option maxRecDepth 65536 in
theorem w_c0 : (Jvm.Cond.code x code maxLocals ret).before args0 about1 = true := code_word (m := ⟨1, 1⟩) (meth := k1m1) (c := k1c1) (by decide +kernel) rfl rfl rfl (by decide +kernel)
set_option maxRecDepth 65536 in
theorem w_c1 : (Jvm.Cond.code ({ cls := "java/lang/String", name := "valueOf", desc := "(C)Ljava/lang/String;" } : Jvm.MethodName) jdk_42_method_139_code (1 : Nat) (Option.some (Jvm.ClassFile.FieldType.object "java/lang/String"))).before args0 about1 = true := code_word (m := ⟨7, 1⟩) (meth := k7m1) (c := k7c1) (by decide +kernel) rfl rfl rfl (by decide +kernel)
set_option maxRecDepth 65536 in
theorem w_c2 : (Jvm.Cond.code ({ cls := "java/lang/StringLatin1", name := "canEncode", desc := "(C)Z" } : Jvm.MethodName) jdk_43_method_3_code (1 : Nat) (Option.some Jvm.ClassFile.FieldType.boolean)).before args0 about1 = true := code_word (m := ⟨8, 1⟩) (meth := k8m1) (c := k8c1) (by decide +kernel) rfl rfl rfl (by decide +kernel)
set_option maxRecDepth 65536 in
theorem w_c3 : (Jvm.Cond.code ({ cls := "java/lang/StringLatin1", name := "toBytes", desc := "(C)[B" } : Jvm.MethodName) jdk_43_method_46_code (1 : Nat) (Option.some (Jvm.ClassFile.FieldType.array Jvm.ClassFile.FieldType.byte))).before args0 about1 = true := code_word (m := ⟨8, 2⟩) (meth := k8m2) (c := k8c2) (by decide +kernel) rfl rfl rfl (by decide +kernel)
set_option maxRecDepth 65536 in
theorem w_c4 : (Jvm.Cond.code ({ cls := "java/lang/String", name := "<init>", desc := "([BB)V" } : Jvm.MethodName) jdk_42_method_151_code (3 : Nat) (Option.none : Option Jvm.ClassFile.FieldType)).before args0 about1 = true := code_word (m := ⟨7, 2⟩) (meth := k7m2) (c := k7c2) (by decide +kernel) rfl rfl rfl (by decide +kernel)
set_option maxRecDepth 65536 in
theorem w_c5 : (Jvm.Cond.code ({ cls := "java/lang/Object", name := "<init>", desc := "()V" } : Jvm.MethodName) object_method_1_code (1 : Nat) (Option.none : Option Jvm.ClassFile.FieldType)).before args0 about1 = true := code_word (m := ⟨0, 0⟩) (meth := k0m0) (c := k0c0) (by decide +kernel) rfl rfl rfl (by decide +kernel)
set_option maxRecDepth 65536 in
theorem w_c6 : (Jvm.Cond.code ({ cls := "com/example/stockwright/stockwright/model/RememberedAnswer", name := "<init>", desc := "(ILjava/lang/String;Ljava/lang/String;[B)V" } : Jvm.MethodName) prog_20_method_1_code (5 : Nat) (Option.none : Option Jvm.ClassFile.FieldType)).before args0 about1 = true := code_word (m := ⟨10, 0⟩) (meth := k10m0) (c := k10c0) (by decide +kernel) rfl rfl rfl (by decide +kernel)
set_option maxRecDepth 65536 in
theorem w_c7 : (Jvm.Cond.code ({ cls := "java/lang/Record", name := "<init>", desc := "()V" } : Jvm.MethodName) jdk_30_method_1_code (1 : Nat) (Option.none : Option Jvm.ClassFile.FieldType)).before args0 about1 = true := code_word (m := ⟨9, 0⟩) (meth := k9m0) (c := k9c0) (by decide +kernel) rfl rfl rfl (by decide +kernel)
set_option maxRecDepth 65536 in
theorem w_c8 : (Jvm.Cond.code ({ cls := "com/example/stockwright/stockwright/model/RememberedAnswer", name := "succeeded", desc := "()Z" } : Jvm.MethodName) prog_20_method_2_code (1 : Nat) (Option.some Jvm.ClassFile.FieldType.boolean)).before args0 about1 = true := code_word (m := ⟨10, 1⟩) (meth := k10m1) (c := k10c1) (by decide +kernel) rfl rfl rfl (by decide +kernel)
def codes1 : List Jvm.Cond := [Jvm.Cond.code x code maxLocals ret, Jvm.Cond.code ({ cls := "java/lang/String", name := "valueOf", desc := "(C)Ljava/lang/String;" } : Jvm.MethodName) jdk_42_method_139_code (1 : Nat) (Option.some (Jvm.ClassFile.FieldType.object "java/lang/String")), Jvm.Cond.code ({ cls := "java/lang/StringLatin1", name := "canEncode", desc := "(C)Z" } : Jvm.MethodName) jdk_43_method_3_code (1 : Nat) (Option.some Jvm.ClassFile.FieldType.boolean), Jvm.Cond.code ({ cls := "java/lang/StringLatin1", name := "toBytes", desc := "(C)[B" } : Jvm.MethodName) jdk_43_method_46_code (1 : Nat) (Option.some (Jvm.ClassFile.FieldType.array Jvm.ClassFile.FieldType.byte)), Jvm.Cond.code ({ cls := "java/lang/String", name := "<init>", desc := "([BB)V" } : Jvm.MethodName) jdk_42_method_151_code (3 : Nat) (Option.none : Option Jvm.ClassFile.FieldType), Jvm.Cond.code ({ cls := "java/lang/Object", name := "<init>", desc := "()V" } : Jvm.MethodName) object_method_1_code (1 : Nat) (Option.none : Option Jvm.ClassFile.FieldType), Jvm.Cond.code ({ cls := "com/example/stockwright/stockwright/model/RememberedAnswer", name := "<init>", desc := "(ILjava/lang/String;Ljava/lang/String;[B)V" } : Jvm.MethodName) prog_20_method_1_code (5 : Nat) (Option.none : Option Jvm.ClassFile.FieldType), Jvm.Cond.code ({ cls := "java/lang/Record", name := "<init>", desc := "()V" } : Jvm.MethodName) jdk_30_method_1_code (1 : Nat) (Option.none : Option Jvm.ClassFile.FieldType), Jvm.Cond.code ({ cls := "com/example/stockwright/stockwright/model/RememberedAnswer", name := "succeeded", desc := "()Z" } : Jvm.MethodName) prog_20_method_2_code (1 : Nat) (Option.some Jvm.ClassFile.FieldType.boolean)]
set_option maxRecDepth 65536 in
theorem codes_eq : words1.filter isCode = codes1 := rfl
theorem w_codes : ∀ c ∈ words1.filter isCode, c.before args0 about1 = true := by
  rw [codes_eq]
  intro c hc
  simp only [codes1, List.mem_cons, List.not_mem_nil, or_false] at hc
  rcases hc with rfl | rfl | rfl | rfl | rfl | rfl | rfl | rfl | rfl
  · exact w_c0
  · exact w_c1
  · exact w_c2
  · exact w_c3
  · exact w_c4
  · exact w_c5
  · exact w_c6
  · exact w_c7
  · exact w_c8
set_option maxRecDepth 65536 in
theorem w_t1 : (words1.take 24).all (fun c => isCode c || c.before args0 about1) = true := by decide +kernel
set_option maxRecDepth 65536 in
theorem w_t2 : ((words1.drop 24).take 24).all (fun c => isCode c || c.before args0 about1) = true := by decide +kernel
set_option maxRecDepth 65536 in
theorem w_t3 : ((words1.drop 24).drop 24).all (fun c => isCode c || c.before args0 about1) = true := by decide +kernel
theorem w_tables : (allAtoms (Jvm.Cond.code x code maxLocals ret :: tables_1)).before args0 about1 = true := by
  rw [allAtoms_all]
  show words1.all (fun c => c.before args0 about1) = true
  refine all_split ?_ w_codes
  rw [← List.take_append_drop 24 words1, List.all_append, w_t1, ← List.take_append_drop 24 (words1.drop 24), List.all_append, w_t2, w_t3]
  rfl
set_option maxRecDepth 65536 in
theorem w_rest : rest_1_c.before args0 about1 = true := by decide +kernel
set_option maxRecDepth 65536 in
theorem w_case : (Jvm.Cond.and given_1 narrow_1).before args0 about1 = true := by decide +kernel
theorem w_applies : (headSpec (Jvm.Cond.code x code maxLocals ret :: tables_1) room_1).applies x e0.platform about1 = true :=
  (Spec.applies_iff w_frames).mpr ⟨w_running, w_runnable, w_alone, w_named, w_hears, w_ripe, w_room, w_tables⟩
theorem atStart : AtStart classFile x code maxLocals ret World_1 tables_1 room_1 Calls_1 rest_1 Pre_1 launch0 p0 e0 about1 theMethod args0 below0 :=
  ⟨lists_1, trivial, launch0.admits_env _ _ _, launch0.least_env, fairChoices_fair.cas, fairChoices_fair.clock, w_frames, w_args, w_heap, w_applies, trivial, w_rest, w_case⟩
end start1
theorem witness_1 : WitnessClaimed_1 := ⟨start1.p0, start1.e0, start1.about1, start1.theMethod, start1.args0, start1.below0, start1.atStart⟩
end Jvm.Pilot.@@N@@
