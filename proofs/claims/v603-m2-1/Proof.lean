import JvmDerived
import JvmDerived.Pilot.@@N@@Statement
import JvmDerived.Pilot.@@N@@Code
set_option linter.unusedVariables false
set_option linter.unusedSimpArgs false
namespace Jvm.Pilot.@@N@@
open Jvm Jvm.ClassFile Sem Op Lib Jvm.Free Jvm.Stand Jvm.LawKit Jvm.RoadKit Bundle Jvm.Pilot.@@N@@.Jvm.D
set_option maxRecDepth 65536
/-! the run still has to be led to its end from A: the goal of a walk, taken step by step -/
def own_Go (p : Program) (e : Env) (below : List Frame) (s : State) (Q : Option Value → Heap → List Loc → Prop) (C S : Nat) (A : State) : Prop :=
  ∃ s₂ o, Steps p.tables e below A s₂ ∧ s₂.status = .running ∧ Ended s₂ below o ∧ ∃ v L, o = .returned v ∧ Q v s₂.heap L ∧ FrameEnd s o s₂ L C S
section OwnA
variable {p : Program} {l : Launch} {e : Env} {R : Room} {s : State} {m : MethodId} {args : Array Value} {below : List Frame} {meth : Method} {c : Code} {T : State} {locs : List Loc} {cells slots : Nat} {Q : Option Value → Heap → List Loc → Prop} {C S : Nat}
theorem own_st {A B : State} (h : ∀ t, Steps p.tables e below B t → Steps p.tables e below A t) (g : own_Go p e below s Q C S B) : own_Go p e below s Q C S A := by
  obtain ⟨s₂, o, h1, r⟩ := g
  exact ⟨s₂, o, h _ h1, r⟩
theorem own_ss {A B : State} (h : Steps p.tables e below A B) (g : own_Go p e below s Q C S B) : own_Go p e below s Q C S A := own_st (fun _ k => h.trans k) g
theorem own_cut {P G : Prop} (a : P → G) (b : P) : G := a b
theorem own_leave (X : Stand p l e R s m args below meth c T locs cells slots) {v : Option Value} (hv : meth.sig.returnType = none → v = none) (hlk : meth.locks = false) (hQ : Q v T.heap locs) (hc : cells ≤ C) (hs : slots ≤ S) {A : State}
    (hr : ∀ fs, (∀ (f : JFrame) (acts : List Action), f.method = m → f.locked = none → f.entered = [] → (doReturn e (T.setTop f) acts v).1 = T.setFrames fs) → Steps p.tables e below A (T.setFrames fs)) : own_Go p e below s Q C S A := by
  obtain ⟨fs, hr', hrun, hended, hW, hsame⟩ := X.leave (v := v) hv hlk
  exact ⟨_, _, hr fs hr', hrun, hended, _, _, rfl, hQ, ⟨_, rfl⟩, hW, hsame.mono hc hs⟩
theorem own_retV (X : Stand p l e R s m args below meth c T locs cells slots) (hx : p.tables.exec = Jvm.exec) (hlk : meth.locks = false) (hret : meth.sig.returnType = none) {pc : Nat} {Ls : Array Slot} (hd : decode c.code pc = .ok (.return_, 1)) (hc : cells ≤ C) (hs : slots ≤ S) (hQ : Q none T.heap locs) :
    own_Go p e below s Q C S (T.setTop (mkF m pc Ls [])) := own_leave X (fun _ => rfl) hlk hQ hc hs fun _ hr => X.returnOut hx hret hd hr
theorem own_retI (X : Stand p l e R s m args below meth c T locs cells slots) (hx : p.tables.exec = Jvm.exec) (hlk : meth.locks = false) (hret : meth.sig.returnType = some .int) {pc : Nat} {Ls : Array Slot} {z : Int32} {rest : List Value} (hd : decode c.code pc = .ok (.ireturn, 1)) (hc : cells ≤ C) (hs : slots ≤ S) (hQ : Q (some (.int z)) T.heap locs) :
    own_Go p e below s Q C S (T.setTop (mkF m pc Ls (.int z :: rest))) := own_leave X (fun h => by rw [hret] at h; cases h) hlk hQ hc hs fun _ hr => retOut X hx hret rfl (Or.inl ⟨rfl, Or.inl rfl, _, rfl⟩) hd hr
theorem own_retJ (X : Stand p l e R s m args below meth c T locs cells slots) (hx : p.tables.exec = Jvm.exec) (hlk : meth.locks = false) (hret : meth.sig.returnType = some .long) {pc : Nat} {Ls : Array Slot} {z : Int64} {rest : List Value} (hd : decode c.code pc = .ok (.lreturn, 1)) (hc : cells ≤ C) (hs : slots ≤ S) (hQ : Q (some (.long z)) T.heap locs) :
    own_Go p e below s Q C S (T.setTop (mkF m pc Ls (.long z :: rest))) := own_leave X (fun h => by rw [hret] at h; cases h) hlk hQ hc hs fun _ hr => retOut X hx hret rfl (Or.inr (Or.inl ⟨rfl, rfl, _, rfl⟩)) hd hr
theorem own_retR (X : Stand p l e R s m args below meth c T locs cells slots) (hx : p.tables.exec = Jvm.exec) (hlk : meth.locks = false) {t : FieldType} (hret : meth.sig.returnType = some t) (ht : t.isReference = true) {pc : Nat} {Ls : Array Slot} {w : Value} {rest : List Value} (hn : narrow t w = w) (hw : w.isRef = true) (hd : decode c.code pc = .ok (.areturn, 1)) (hc : cells ≤ C) (hs : slots ≤ S) (hQ : Q (some w) T.heap locs) :
    own_Go p e below s Q C S (T.setTop (mkF m pc Ls (w :: rest))) := own_leave X (fun h => by rw [hret] at h; cases h) hlk hQ hc hs fun _ hr => retOut X hx hret hn (Or.inr (Or.inr (Or.inr (Or.inr ⟨rfl, ht, hw⟩)))) hd hr
theorem own_retN (X : Stand p l e R s m args below meth c T locs cells slots) (hx : p.tables.exec = Jvm.exec) (hlk : meth.locks = false) {t : FieldType} (hret : meth.sig.returnType = some t) (ht : t = .boolean ∨ t = .byte ∨ t = .char ∨ t = .short) {pc : Nat} {Ls : Array Slot} {z z' : Int32} {rest : List Value} (hz : nar t z = z') (hd : decode c.code pc = .ok (.ireturn, 1)) (hc : cells ≤ C) (hs : slots ≤ S) (hQ : Q (some (.int z')) T.heap locs) :
    own_Go p e below s Q C S (T.setTop (mkF m pc Ls (.int z :: rest))) := by
  subst hz
  exact own_leave X (fun h => by rw [hret] at h; cases h) hlk hQ hc hs fun _ hr => retN X hx hret ht hd hr
/-! arrays by the whole list of what they hold -/
variable {Z : State} {h h' : Heap} {a b : Addr} {ty : FieldType} {vs : List Value}
def own_A (Z : State) (h : Heap) (a : Addr) (ty : FieldType) (vs : List Value) : Prop := ∃ c : Cell, Arr Z h a c ty ∧ c.slots.toList = vs
theorem own_A.lt (F : own_A Z h a ty vs) : a < h.size := by obtain ⟨c, A, -⟩ := F; exact A.lt
theorem own_A.ext (F : own_A Z h a ty vs) (E : Ext h h') : own_A Z h' a ty vs := by obtain ⟨c, A, q⟩ := F; exact ⟨c, A.ext E, q⟩
theorem own_A.other {sl : Nat} {v : Value} (F : own_A Z h a ty vs) (W : Wr h h' b sl v) (q : a ≠ b) : own_A Z h' a ty vs := by obtain ⟨c, A, r⟩ := F; exact ⟨c, A.other W q, r⟩
theorem own_A.keep {ws : List Addr} (F : own_A Z h a ty vs) (K : Keep h h' ws) (q : a ∉ ws) : own_A Z h' a ty vs := by obtain ⟨c, A, r⟩ := F; exact ⟨c, ⟨K.2.1 a c A.1 q, A.2⟩, r⟩
theorem own_A.set {i : Nat} {v : Value} (F : own_A Z h a ty vs) (W : Wr h h' a i v) : own_A Z h' a ty (vs.set i v) := by
  obtain ⟨c, A, rfl⟩ := F
  exact ⟨_, A.same W, by simp [Cell.setSlot]⟩
theorem own_ix {j : Int32} {i : Nat} (hj : j.toInt = (i : Int)) : ¬ j < 0 ∧ j.toNatClampNeg = i := by
  refine ⟨?_, ?_⟩
  · rw [Int32.lt_iff_toInt_lt, hj]
    show ¬ ((i : Int) < 0)
    omega
  · have h1 : j.toNatClampNeg = j.toInt.toNat := rfl
    rw [h1, hj]; rfl
theorem own_in {cl : Cell} {j : Int32} {i : Nat} {v : Value} (hj : j.toInt = (i : Int)) (hv : cl.slots.toList[i]? = some v) : ¬ (j < 0 ∨ cl.slots.size ≤ j.toNatClampNeg) ∧ cl.slots[j.toNatClampNeg]? = some v := by
  obtain ⟨n0, n1⟩ := own_ix hj
  rw [n1]
  rw [Array.getElem?_toList] at hv
  refine ⟨?_, hv⟩
  have h2 := (Array.getElem?_eq_some_iff.mp hv).1
  rintro (q | q)
  · exact n0 q
  · omega
theorem own_ldI (X : Stand p l e R s m args below meth c T locs cells slots) (hx : p.tables.exec = Jvm.exec) (hZ : Z.Warmed39 s.vm) (eT : T.heap = h) (A : own_A Z h a .int vs) {j : Int32} {i : Nat} {v : Value} (hj : j.toInt = (i : Int)) (hv : vs[i]? = some v) {g : JFrame} (hg : g.method = m) {rest : List Value} (hs : g.stack = .int j :: .ref a :: rest) (hd : decode c.code g.pc = .ok (.iaload, 1)) {t : State}
    (k : Steps p.tables e below (T.setTop { g with pc := g.pc + 1, stack := v :: rest }) t) : Steps p.tables e below (T.setTop g) t := by
  obtain ⟨cl, A, rfl⟩ := A
  exact X.iaload hx (by rw [eT]; exact A.1) (State.isArrayOf_alike hZ.alike A.2.1) A.2.2 (own_in hj hv).1 (own_in hj hv).2 hg hs hd _ k
theorem own_ldJ (X : Stand p l e R s m args below meth c T locs cells slots) (hx : p.tables.exec = Jvm.exec) (hZ : Z.Warmed39 s.vm) (eT : T.heap = h) (A : own_A Z h a .long vs) {j : Int32} {i : Nat} {v : Value} (hj : j.toInt = (i : Int)) (hv : vs[i]? = some v) {g : JFrame} (hg : g.method = m) {rest : List Value} (hs : g.stack = .int j :: .ref a :: rest) (hd : decode c.code g.pc = .ok (.laload, 1)) {t : State}
    (k : Steps p.tables e below (T.setTop { g with pc := g.pc + 1, stack := v :: rest }) t) : Steps p.tables e below (T.setTop g) t := by
  obtain ⟨cl, A, rfl⟩ := A
  exact X.laload hx (by rw [eT]; exact A.1) (State.isArrayOf_alike hZ.alike A.2.1) A.2.2 (own_in hj hv).1 (own_in hj hv).2 hg hs hd _ k
theorem own_ldB (X : Stand p l e R s m args below meth c T locs cells slots) (hx : p.tables.exec = Jvm.exec) (hZ : Z.Warmed39 s.vm) (eT : T.heap = h) (A : own_A Z h a .byte vs) {j : Int32} {i : Nat} {v : Value} (hj : j.toInt = (i : Int)) (hv : vs[i]? = some v) {g : JFrame} (hg : g.method = m) {rest : List Value} (hs : g.stack = .int j :: .ref a :: rest) (hd : decode c.code g.pc = .ok (.baload, 1)) {t : State}
    (k : Steps p.tables e below (T.setTop { g with pc := g.pc + 1, stack := v :: rest }) t) : Steps p.tables e below (T.setTop g) t := by
  obtain ⟨cl, A, rfl⟩ := A
  exact X.baloadBytes hx (by rw [eT]; exact A.1) (State.isArrayOf_alike hZ.alike A.2.1) A.2.2 (own_in hj hv).1 (own_in hj hv).2 hg hs hd _ k
theorem own_ldZ (X : Stand p l e R s m args below meth c T locs cells slots) (hx : p.tables.exec = Jvm.exec) (hZ : Z.Warmed39 s.vm) (eT : T.heap = h) (A : own_A Z h a .boolean vs) {j : Int32} {i : Nat} {v : Value} (hj : j.toInt = (i : Int)) (hv : vs[i]? = some v) {g : JFrame} (hg : g.method = m) {rest : List Value} (hs : g.stack = .int j :: .ref a :: rest) (hd : decode c.code g.pc = .ok (.baload, 1)) {t : State}
    (k : Steps p.tables e below (T.setTop { g with pc := g.pc + 1, stack := v :: rest }) t) : Steps p.tables e below (T.setTop g) t := by
  obtain ⟨cl, A, rfl⟩ := A
  exact X.baloadBooleans hx (by rw [eT]; exact A.1) (State.isArrayOf_alike hZ.alike A.2.1) A.2.2 (own_in hj hv).1 (own_in hj hv).2 hg hs hd _ k
theorem own_ldS (X : Stand p l e R s m args below meth c T locs cells slots) (hx : p.tables.exec = Jvm.exec) (hZ : Z.Warmed39 s.vm) (eT : T.heap = h) (A : own_A Z h a .short vs) {j : Int32} {i : Nat} {v : Value} (hj : j.toInt = (i : Int)) (hv : vs[i]? = some v) {g : JFrame} (hg : g.method = m) {rest : List Value} (hs : g.stack = .int j :: .ref a :: rest) (hd : decode c.code g.pc = .ok (.saload, 1)) {t : State}
    (k : Steps p.tables e below (T.setTop { g with pc := g.pc + 1, stack := v :: rest }) t) : Steps p.tables e below (T.setTop g) t := by
  obtain ⟨cl, A, rfl⟩ := A
  exact X.saload hx (by rw [eT]; exact A.1) (State.isArrayOf_alike hZ.alike A.2.1) A.2.2 (own_in hj hv).1 (own_in hj hv).2 hg hs hd _ k
theorem own_ldC (X : Stand p l e R s m args below meth c T locs cells slots) (hx : p.tables.exec = Jvm.exec) (hZ : Z.Warmed39 s.vm) (eT : T.heap = h) (A : own_A Z h a .char vs) {j : Int32} {i : Nat} {v : Value} (hj : j.toInt = (i : Int)) (hv : vs[i]? = some v) {g : JFrame} (hg : g.method = m) {rest : List Value} (hs : g.stack = .int j :: .ref a :: rest) (hd : decode c.code g.pc = .ok (.caload, 1)) {t : State}
    (k : Steps p.tables e below (T.setTop { g with pc := g.pc + 1, stack := v :: rest }) t) : Steps p.tables e below (T.setTop g) t := by
  obtain ⟨cl, A, rfl⟩ := A
  exact X.caload hx (by rw [eT]; exact A.1) (State.isArrayOf_alike hZ.alike A.2.1) A.2.2 (own_in hj hv).1 (own_in hj hv).2 hg hs hd _ k
theorem own_ldR (X : Stand p l e R s m args below meth c T locs cells slots) (hx : p.tables.exec = Jvm.exec) (hZ : Z.Warmed39 s.vm) (eT : T.heap = h) (A : own_A Z h a ty vs) (hty : ty.isReference = true) {j : Int32} {i : Nat} {v : Value} (hj : j.toInt = (i : Int)) (hv : vs[i]? = some v) {g : JFrame} (hg : g.method = m) {rest : List Value} (hs : g.stack = .int j :: .ref a :: rest) (hd : decode c.code g.pc = .ok (.aaload, 1)) {t : State}
    (k : Steps p.tables e below (T.setTop { g with pc := g.pc + 1, stack := v :: rest }) t) : Steps p.tables e below (T.setTop g) t := by
  obtain ⟨cl, A, rfl⟩ := A
  exact X.aaload hx (by rw [eT]; exact A.1) (State.isArrayOf_alike hZ.alike A.2.1) hty A.2.2 (own_in hj hv).1 (own_in hj hv).2 hg hs hd _ k
theorem own_stI (X : Stand p l e R s m args below meth c T locs cells slots) (hx : p.tables.exec = Jvm.exec) (hZ : Z.Warmed39 s.vm) (eT : T.heap = h) (A : own_A Z h a .int vs) {j x : Int32} {i : Nat} (hj : j.toInt = (i : Int)) (hi : i < vs.length) {g : JFrame} (hg : g.method = m) {rest : List Value} (hs : g.stack = .int x :: .int j :: .ref a :: rest) (hd : decode c.code g.pc = .ok (.iastore, 1)) :
    ∃ T' h', Stand p l e R s m args below meth c T' (locs ++ [⟨a, i⟩]) cells slots ∧ T'.heap = h' ∧ Wr h h' a i (.int x) ∧ own_A Z h' a .int (vs.set i (.int x)) ∧ ∀ target, Steps p.tables e below (T'.setTop { g with pc := g.pc + 1, stack := rest }) target → Steps p.tables e below (T.setTop g) target := by
  obtain ⟨cl, A, rfl⟩ := A
  have hin := (own_in (cl := cl) (v := cl.slots.toList[i]) hj (List.getElem?_eq_getElem hi)).1
  obtain ⟨T', h', X', e', W', st⟩ := stI X hx hZ eT A (j := j) (x := x) hin hg hs hd
  rw [(own_ix hj).2] at X' W'
  exact ⟨T', h', X', e', W', own_A.set ⟨cl, A, rfl⟩ W', st⟩
theorem own_stJ (X : Stand p l e R s m args below meth c T locs cells slots) (hx : p.tables.exec = Jvm.exec) (hZ : Z.Warmed39 s.vm) (eT : T.heap = h) (A : own_A Z h a .long vs) {j : Int32} {x : Int64} {i : Nat} (hj : j.toInt = (i : Int)) (hi : i < vs.length) {g : JFrame} (hg : g.method = m) {rest : List Value} (hs : g.stack = .long x :: .int j :: .ref a :: rest) (hd : decode c.code g.pc = .ok (.lastore, 1)) :
    ∃ T' h', Stand p l e R s m args below meth c T' (locs ++ [⟨a, i⟩]) cells slots ∧ T'.heap = h' ∧ Wr h h' a i (.long x) ∧ own_A Z h' a .long (vs.set i (.long x)) ∧ ∀ target, Steps p.tables e below (T'.setTop { g with pc := g.pc + 1, stack := rest }) target → Steps p.tables e below (T.setTop g) target := by
  obtain ⟨cl, A, rfl⟩ := A
  have hin := (own_in (cl := cl) (v := cl.slots.toList[i]) hj (List.getElem?_eq_getElem hi)).1
  obtain ⟨T', h', X', e', W', st⟩ := stJ X hx hZ eT A (j := j) (x := x) hin hg hs hd
  rw [(own_ix hj).2] at X' W'
  exact ⟨T', h', X', e', W', own_A.set ⟨cl, A, rfl⟩ W', st⟩
theorem own_stB (X : Stand p l e R s m args below meth c T locs cells slots) (hx : p.tables.exec = Jvm.exec) (hZ : Z.Warmed39 s.vm) (eT : T.heap = h) (A : own_A Z h a .byte vs) {j x : Int32} {i : Nat} (hj : j.toInt = (i : Int)) (hi : i < vs.length) {g : JFrame} (hg : g.method = m) {rest : List Value} (hs : g.stack = .int x :: .int j :: .ref a :: rest) (hd : decode c.code g.pc = .ok (.bastore, 1)) :
    ∃ T' h', Stand p l e R s m args below meth c T' (locs ++ [⟨a, i⟩]) cells slots ∧ T'.heap = h' ∧ Wr h h' a i (.int x.toInt8.toInt32) ∧ own_A Z h' a .byte (vs.set i (.int x.toInt8.toInt32)) ∧ ∀ target, Steps p.tables e below (T'.setTop { g with pc := g.pc + 1, stack := rest }) target → Steps p.tables e below (T.setTop g) target := by
  obtain ⟨cl, A, rfl⟩ := A
  have hin := (own_in (cl := cl) (v := cl.slots.toList[i]) hj (List.getElem?_eq_getElem hi)).1
  obtain ⟨T', h', X', e', W', st⟩ := stB X hx hZ eT A (j := j) (x := x) hin hg hs hd
  rw [(own_ix hj).2] at X' W'
  exact ⟨T', h', X', e', W', own_A.set ⟨cl, A, rfl⟩ W', st⟩
theorem own_stS (X : Stand p l e R s m args below meth c T locs cells slots) (hx : p.tables.exec = Jvm.exec) (hZ : Z.Warmed39 s.vm) (eT : T.heap = h) (A : own_A Z h a .short vs) {j x : Int32} {i : Nat} (hj : j.toInt = (i : Int)) (hi : i < vs.length) {g : JFrame} (hg : g.method = m) {rest : List Value} (hs : g.stack = .int x :: .int j :: .ref a :: rest) (hd : decode c.code g.pc = .ok (.sastore, 1)) :
    ∃ T' h', Stand p l e R s m args below meth c T' (locs ++ [⟨a, i⟩]) cells slots ∧ T'.heap = h' ∧ Wr h h' a i (.int x.toInt16.toInt32) ∧ own_A Z h' a .short (vs.set i (.int x.toInt16.toInt32)) ∧ ∀ target, Steps p.tables e below (T'.setTop { g with pc := g.pc + 1, stack := rest }) target → Steps p.tables e below (T.setTop g) target := by
  obtain ⟨cl, A, rfl⟩ := A
  have hin := (own_in (cl := cl) (v := cl.slots.toList[i]) hj (List.getElem?_eq_getElem hi)).1
  obtain ⟨T', h', X', e', W', st⟩ := stS X hx hZ eT A (j := j) (x := x) hin hg hs hd
  rw [(own_ix hj).2] at X' W'
  exact ⟨T', h', X', e', W', own_A.set ⟨cl, A, rfl⟩ W', st⟩
theorem own_stC (X : Stand p l e R s m args below meth c T locs cells slots) (hx : p.tables.exec = Jvm.exec) (hZ : Z.Warmed39 s.vm) (eT : T.heap = h) (A : own_A Z h a .char vs) {j x : Int32} {i : Nat} (hj : j.toInt = (i : Int)) (hi : i < vs.length) {g : JFrame} (hg : g.method = m) {rest : List Value} (hs : g.stack = .int x :: .int j :: .ref a :: rest) (hd : decode c.code g.pc = .ok (.castore, 1)) :
    ∃ T' h', Stand p l e R s m args below meth c T' (locs ++ [⟨a, i⟩]) cells slots ∧ T'.heap = h' ∧ Wr h h' a i (.int x.toUInt32.toUInt16.toUInt32.toInt32) ∧ own_A Z h' a .char (vs.set i (.int x.toUInt32.toUInt16.toUInt32.toInt32)) ∧ ∀ target, Steps p.tables e below (T'.setTop { g with pc := g.pc + 1, stack := rest }) target → Steps p.tables e below (T.setTop g) target := by
  obtain ⟨cl, A, rfl⟩ := A
  have hin := (own_in (cl := cl) (v := cl.slots.toList[i]) hj (List.getElem?_eq_getElem hi)).1
  obtain ⟨T', h', X', e', W', st⟩ := stC X hx hZ eT A (j := j) (x := x) hin hg hs hd
  rw [(own_ix hj).2] at X' W'
  exact ⟨T', h', X', e', W', own_A.set ⟨cl, A, rfl⟩ W', st⟩
theorem own_newP {a0 : Array Value} (X : Stand p l e R s m args below meth c T locs cells slots) (hx : p.tables.exec = Jvm.exec) (hZ : Z.Warmed39 s.vm) {aty : ArrayType} (w : (Cond.arrayClass (newarray.typeOf aty)).before a0 Z = true) (eT : T.heap = h) {g : JFrame} (hg : g.method = m) (hd : decode c.code g.pc = .ok (.newarray aty, 2)) {n : Int32} {rest : List Value} (hs : g.stack = .int n :: rest)
    {k cap : Nat} (hk : n.toInt = (k : Int)) (hcap : k ≤ cap) (hb : cap * 8 ≤ 536870912) (hc : cells + 1 ≤ R.cells) (hl : slots + cap ≤ R.slots) {ad : String} (had : "[" ++ (newarray.typeOf aty).toString = ad) :
    ∃ T' h', Stand p l e R s m args below meth c T' locs (cells + 1) (slots + cap) ∧ T'.heap = h' ∧ Ext h h' ∧ own_A Z h' h.size (newarray.typeOf aty) (List.replicate k (defaultValue (newarray.typeOf aty))) ∧ Exa Z h' h.size ad ∧
      ∀ target, Steps p.tables e below (T'.setTop { g with pc := g.pc + 2, stack := .ref h.size :: rest }) target → Steps p.tables e below (T.setTop g) target := by
  obtain ⟨n0, n1⟩ := own_ix hk
  obtain ⟨T', h', cA, X', e', E', A', x', st⟩ := newPE X hx hZ w eT hg hd hs n0 (cap := cap) (by rw [n1]; exact hcap) hb hc hl had
  exact ⟨T', h', X', e', E', ⟨_, A', by simp [newA, n1]⟩, x', st⟩
theorem own_clone {a0 : Array Value} (X : Stand p l e R s m args below meth c T locs cells slots) (hx : p.tables.exec = Jvm.exec) (hZ : Z.Warmed39 s.vm) {own ad : String} {index : Nat} (hown : s.vm.findClass own = some m.cls)
    (w1 : (Cond.methodLink own index ⟨ad, "clone", "()Ljava/lang/Object;"⟩).before a0 Z = true) (w2 : (Cond.sameMethod ad "java/lang/Object" "clone" "()Ljava/lang/Object;").before a0 Z = true) (w3 : (Cond.native ⟨"java/lang/Object", "clone", "()Ljava/lang/Object;"⟩).before a0 Z = true)
    (w4 : (Cond.instanceMethod ⟨"java/lang/Object", "clone", "()Ljava/lang/Object;"⟩).before a0 Z = true) (w5 : (Cond.selects ad ⟨ad, "clone", "()Ljava/lang/Object;"⟩ ⟨"java/lang/Object", "clone", "()Ljava/lang/Object;"⟩).before a0 Z = true) (w6 : (Cond.castable ad "java/lang/Cloneable").before a0 Z = true)
    (eT : T.heap = h) (A : own_A Z h a ty vs) (E : Exa Z h a ad) (hf : ∀ v ∈ vs, fits ty v = true) {g : JFrame} (hg : g.method = m) (hsize : g.locals.size = c.maxLocals) {rest : List Value} (hst : g.stack = .ref a :: rest) (hd : decode c.code g.pc = .ok (.invokevirtual index, 3))
    (hfr : 1 ≤ R.frames) {W cap : Nat} (hW : 2 * g.monitorRoom + (rest.map fun v => v.category).sum ≤ W) (hl : W + 14 ≤ R.locals) (hcap : vs.length ≤ cap) (hc : cells + 1 ≤ R.cells) (hsl : slots + cap ≤ R.slots) :
    ∃ T' h', Stand p l e R s m args below meth c T' locs (cells + 1) (slots + cap) ∧ T'.heap = h' ∧ Ext h h' ∧ own_A Z h' h.size ty vs ∧ Exa Z h' h.size ad ∧
      ∀ target, Steps p.tables e below (T'.setTop { g with pc := g.pc + 3, stack := .ref h.size :: rest }) target → Steps p.tables e below (T.setTop g) target := by
  obtain ⟨cl, A, rfl⟩ := A
  have FC : FitC Z cl := fitC_of A fun i hi v hv => hf v (by
    rw [← Array.getElem?_toList] at hv
    exact List.mem_of_getElem? hv)
  obtain ⟨T', h', X', e', ex, A', E', st⟩ := cloneA X hx hZ hown w1 w2 w3 w4 w5 w6 eT A E FC hg hsize hst hd hfr hW hl (by simpa using hcap) hc hsl
  exact ⟨T', h', X', e', ex, ⟨_, A', rfl⟩, E', st⟩
def own_Ov (C : String) (Z : State) (h : Heap) (a : Addr) : Prop := ∃ c : Cell, h[a]? = some c ∧ Ovr Z c.cls C
theorem own_Ov.lt {C : String} (F : own_Ov C Z h a) : a < h.size := by obtain ⟨c, q, -⟩ := F; exact (Array.getElem?_eq_some_iff.mp q).1
theorem own_Ov.ext {C : String} (F : own_Ov C Z h a) (E : Ext h h') : own_Ov C Z h' a := by obtain ⟨c, q, r⟩ := F; exact ⟨c, E.2 _ _ q, r⟩
theorem own_Ov.other {C : String} {sl : Nat} {v : Value} (F : own_Ov C Z h a) (W : Wr h h' b sl v) (ne : a ≠ b) : own_Ov C Z h' a := by
  obtain ⟨c, q, r⟩ := F
  obtain ⟨c', q', -, -, -, e, -⟩ := wr_at W q
  exact ⟨c', q', by rw [e ne]; exact r⟩
theorem own_Ov.keep {C : String} {ws : List Addr} (F : own_Ov C Z h a) (K : Keep h h' ws) (ne : a ∉ ws) : own_Ov C Z h' a := by obtain ⟨c, q, r⟩ := F; exact ⟨c, K.2.1 _ _ q ne, r⟩
theorem own_newR {a0 : Array Value} (X : Stand p l e R s m args below meth c T locs cells slots) (hx : p.tables.exec = Jvm.exec) (hZ : Z.Warmed39 s.vm) {own C : String} {index : Nat} (hown : s.vm.findClass own = some m.cls) (w1 : (Cond.classLink own index C).before a0 Z = true) (w2 : (Cond.arrayOver (.object C)).before a0 Z = true) (eT : T.heap = h) {g : JFrame} (hg : g.method = m) (hd : decode c.code g.pc = .ok (.anewarray index, 3)) {n : Int32} {rest : List Value} (hs : g.stack = .int n :: rest)
    {k cap : Nat} (hk : n.toInt = (k : Int)) (hcap : k ≤ cap) (hb : cap * 8 ≤ 536870912) (hc : cells + 1 ≤ R.cells) (hl : slots + cap ≤ R.slots) {ad : String} (had : "[" ++ (FieldType.object C).toString = ad) :
    ∃ T' h', Stand p l e R s m args below meth c T' locs (cells + 1) (slots + cap) ∧ T'.heap = h' ∧ Ext h h' ∧ own_A Z h' h.size (.object C) (List.replicate k .null) ∧ Exa Z h' h.size ad ∧ own_Ov C Z h' h.size ∧
      ∀ target, Steps p.tables e below (T'.setTop { g with pc := g.pc + 3, stack := .ref h.size :: rest }) target → Steps p.tables e below (T.setTop g) target := by
  obtain ⟨n0, n1⟩ := own_ix hk
  obtain ⟨T', h', cA, X', e', E', A', x', O', st⟩ := newRE X hx hZ hown w1 w2 eT hg hd hs n0 (cap := cap) (by rw [n1]; exact hcap) hb hc hl had
  exact ⟨T', h', X', e', E', ⟨_, A', by simp [newA, n1, defaultValue]⟩, x', ⟨_, A'.1, O'⟩, st⟩
theorem own_stR {C : String} (X : Stand p l e R s m args below meth c T locs cells slots) (hx : p.tables.exec = Jvm.exec) (hZ : Z.Warmed39 s.vm) (eT : T.heap = h) (A : own_A Z h a (.object C) vs) (O : own_Ov C Z h a) {y : Addr} (I : Ins Z h y C true) {j : Int32} {i : Nat} (hj : j.toInt = (i : Int)) (hi : i < vs.length) {g : JFrame} (hg : g.method = m) {rest : List Value} (hs : g.stack = .ref y :: .int j :: .ref a :: rest) (hd : decode c.code g.pc = .ok (.aastore, 1)) :
    ∃ T' h', Stand p l e R s m args below meth c T' (locs ++ [⟨a, i⟩]) cells slots ∧ T'.heap = h' ∧ Wr h h' a i (.ref y) ∧ own_A Z h' a (.object C) (vs.set i (.ref y)) ∧ ∀ target, Steps p.tables e below (T'.setTop { g with pc := g.pc + 1, stack := rest }) target → Steps p.tables e below (T.setTop g) target := by
  obtain ⟨cl, A, rfl⟩ := A
  obtain ⟨c2, q, r⟩ := O
  cases A.1.symm.trans q
  have hin := (own_in (cl := cl) (v := cl.slots.toList[i]) hj (List.getElem?_eq_getElem hi)).1
  obtain ⟨T', h', X', e', W', st⟩ := stR X hx hZ eT A (j := j) (v := .ref y) hin rfl (Sto.of A r I) hg hs hd
  rw [(own_ix hj).2] at X' W'
  exact ⟨T', h', X', e', W', own_A.set ⟨cl, A, rfl⟩ W', st⟩
theorem own_len (X : Stand p l e R s m args below meth c T locs cells slots) (hx : p.tables.exec = Jvm.exec) (hZ : Z.Warmed39 s.vm) (eT : T.heap = h) (A : own_A Z h a ty vs) {n : Int32} (hn : n.toInt = (vs.length : Int)) {g : JFrame} (hg : g.method = m) {rest : List Value} (hs : g.stack = .ref a :: rest) (hd : decode c.code g.pc = .ok (.arraylength, 1)) {t : State}
    (k : Steps p.tables e below (T.setTop { g with pc := g.pc + 1, stack := .int n :: rest }) t) : Steps p.tables e below (T.setTop g) t := by
  obtain ⟨cl, A, rfl⟩ := A
  have h1 := n.toInt_lt
  have h2 : cl.slots.size.toInt32 = n := by
    refine Int32.toInt_inj.mp ?_
    rw [hn]
    have h3 : cl.slots.toList.length = cl.slots.size := by simp
    rw [h3] at hn ⊢
    exact len_toInt (by omega)
  refine X.arraylength hx (by rw [eT]; exact A.1) (State.isArrayOf_alike hZ.alike A.2.1) hg hs hd _ ?_
  rw [h2]; exact k
theorem own_lrem (X : Stand p l e R s m args below meth c T locs cells slots) (hx : p.tables.exec = Jvm.exec) {g : JFrame} (hg : g.method = m) {x y : Int64} {rest : List Value} (hd : decode c.code g.pc = .ok (.lrem, 1)) (hs : g.stack = .long y :: .long x :: rest) (hy : y ≠ 0) {t : State}
    (k : Steps p.tables e below (T.setTop { g with pc := g.pc + 1, stack := .long (x % y) :: rest }) t) : Steps p.tables e below (T.setTop g) t := XS.lrem X.here hx hg hd hs hy (by rw [lrem_mod]; exact k)
end OwnA
theorem own_Sta.keep {Z : State} {h h' : Heap} {ws : List Addr} {C n d : String} {v : Value} (F : Sta Z h C n d v) (K : Keep h h' ws) (q : ∀ st ∈ ws, ∀ cell : Cell, h[st]? = some cell → cell.vm.isStatics = false) : Sta Z h' C n d v := by
  obtain ⟨cf, i, k, f, st, cell, h1, h2, h3, h4, h5, h6, h7⟩ := F
  refine ⟨cf, i, k, f, st, cell, h1, h2, h3, h4, K.2.1 st cell h5 fun hm => ?_, h6, h7⟩
  rw [q st hm cell h5] at h6
  cases h6
theorem own_z_eq_t {c : Prop} [Decidable c] (h : ¬ c) : ifCond.holds .eq (if c then (1 : Int32) else 0) = true := by rw [if_neg h]; rfl
theorem own_z_eq_f {c : Prop} [Decidable c] (h : c) : ifCond.holds .eq (if c then (1 : Int32) else 0) = false := by rw [if_pos h]; rfl
theorem own_z_ne_t {c : Prop} [Decidable c] (h : c) : ifCond.holds .ne (if c then (1 : Int32) else 0) = true := by rw [if_pos h]; rfl
theorem own_z_ne_f {c : Prop} [Decidable c] (h : ¬ c) : ifCond.holds .ne (if c then (1 : Int32) else 0) = false := by rw [if_neg h]; rfl
theorem own_z_nar {c : Prop} [Decidable c] : nar .boolean (if c then (1 : Int32) else 0) = if c then (1 : Int32) else 0 := by split <;> rfl
/-- two slots that hold nothing or a long, whose value nobody reads again -/
def own_Two (a b : Slot) : Prop := (a = .unset ∧ b = .unset) ∨ ∃ z, a = .val (.long z) ∧ b = .second
theorem own_plainE {Z : State} {h : Heap} {a : Addr} {C : String} (F : Exa Z h a C) : ∀ cell : Cell, h[a]? = some cell → cell.vm.isStatics = false := fun cell hc => by
  obtain ⟨c, k, h1, -, -, h4, -⟩ := F
  cases h1.symm.trans hc
  exact h4
theorem own_plainA {Z : State} {h : Heap} {a : Addr} {ty : FieldType} {vs : List Value} (F : own_A Z h a ty vs) : ∀ cell : Cell, h[a]? = some cell → cell.vm.isStatics = false := fun cell hc => by
  obtain ⟨c, A, -⟩ := F
  cases A.1.symm.trans hc
  exact A.plain
theorem own_pop2 {tb : Tables} [Ours tb] {e : Env} {below : List Frame} {T target : State} {m : MethodId} {c : Code} {g : JFrame} (h : At T m c below) (hx : tb.exec = Jvm.exec) (hg : g.method = m) {x : Int64} {rest : List Value} (hd : decode c.code g.pc = .ok (.pop2, 1)) (hs : g.stack = .long x :: rest)
    (hr : Steps tb e below (T.setTop { g with pc := g.pc + 1, stack := rest }) target) : Steps tb e below (T.setTop g) target := by
  subst hg
  jvm_step h [h.top, hx, hd, hs, Value.category]
  exact hr
theorem own_min1 {i : Int32} {n : Nat} (h0 : 0 ≤ i.toInt) (h1 : i.toInt < (n : Int)) (hn : n < 1000) : (i + 1).toInt.toNat = i.toInt.toNat + 1 ∧ (i + 1).toInt = i.toInt + 1 := by
  have h2 := c_iadd i 1
  have h3 := rng32 (i + 1)
  have h4 : (1 : Int32).toInt = 1 := rfl
  omega
theorem own_ltN {i : Int32} {n : Nat} (hn : n < 1000) : i < n.toInt32 ↔ i.toInt < (n : Int) := by
  rw [Int32.lt_iff_toInt_lt, len_toInt (by omega)]
theorem own_getI {bs : List Int32} {i : Nat} (h : i < bs.length) : (bs.map Value.int)[i]? = some (.int (bs.getD i 0)) := by
  simp [List.getElem?_map, h]
theorem own_nat {i : Int32} (h : 0 ≤ i.toInt) : i.toInt = ((i.toInt.toNat : Nat) : Int) := by omega
theorem w_0 {a0 : Array Value} {Z : State} (hw : ∀ d ∈ tables_1, d.before a0 Z = true) : (Jvm.Cond.constant "com/example/stockwright/stockwright/model/PageRequestOffsetPinLaw" (7 : Nat) (2147483647 : Int32)).before a0 Z = true := hw _ (List.mem_of_getElem? (i := 0) rfl)
theorem w_1 {a0 : Array Value} {Z : State} (hw : ∀ d ∈ tables_1, d.before a0 Z = true) : (Jvm.Cond.constant "com/example/stockwright/stockwright/model/PageRequestOffsetPinLaw" (8 : Nat) (2147483646 : Int32)).before a0 Z = true := hw _ (List.mem_of_getElem? (i := 1) rfl)
theorem w_2 {a0 : Array Value} {Z : State} (hw : ∀ d ∈ tables_1, d.before a0 Z = true) : (Jvm.Cond.classLink "com/example/stockwright/stockwright/model/PageRequestOffsetPinLaw" (9 : Nat) "com/example/stockwright/stockwright/model/PageRequest").before a0 Z = true := hw _ (List.mem_of_getElem? (i := 2) rfl)
theorem w_3 {a0 : Array Value} {Z : State} (hw : ∀ d ∈ tables_1, d.before a0 Z = true) : (Jvm.Cond.instantiable "com/example/stockwright/stockwright/model/PageRequest" (2 : Nat)).before a0 Z = true := hw _ (List.mem_of_getElem? (i := 3) rfl)
theorem w_4 {a0 : Array Value} {Z : State} (hw : ∀ d ∈ tables_1, d.before a0 Z = true) : (Jvm.Cond.initialized "com/example/stockwright/stockwright/model/PageRequest").before a0 Z = true := hw _ (List.mem_of_getElem? (i := 4) rfl)
theorem w_5 {a0 : Array Value} {Z : State} (hw : ∀ d ∈ tables_1, d.before a0 Z = true) : (Jvm.Cond.methodLink "com/example/stockwright/stockwright/model/PageRequestOffsetPinLaw" (11 : Nat) ({ cls := "com/example/stockwright/stockwright/model/PageRequest", name := "<init>", desc := "(II)V" } : Jvm.MethodName)).before a0 Z = true := hw _ (List.mem_of_getElem? (i := 5) rfl)
theorem w_6 {a0 : Array Value} {Z : State} (hw : ∀ d ∈ tables_1, d.before a0 Z = true) : (Jvm.Cond.instanceMethod ({ cls := "com/example/stockwright/stockwright/model/PageRequest", name := "<init>", desc := "(II)V" } : Jvm.MethodName)).before a0 Z = true := hw _ (List.mem_of_getElem? (i := 6) rfl)
theorem w_7 {a0 : Array Value} {Z : State} (hw : ∀ d ∈ tables_1, d.before a0 Z = true) : (Jvm.Cond.code ({ cls := "com/example/stockwright/stockwright/model/PageRequest", name := "<init>", desc := "(II)V" } : Jvm.MethodName) prog_8_method_1_code (3 : Nat) (Option.none : Option Jvm.ClassFile.FieldType)).before a0 Z = true := hw _ (List.mem_of_getElem? (i := 7) rfl)
theorem w_8 {a0 : Array Value} {Z : State} (hw : ∀ d ∈ tables_1, d.before a0 Z = true) : (Jvm.Cond.methodLink "com/example/stockwright/stockwright/model/PageRequest" (1 : Nat) ({ cls := "java/lang/Record", name := "<init>", desc := "()V" } : Jvm.MethodName)).before a0 Z = true := hw _ (List.mem_of_getElem? (i := 8) rfl)
theorem w_9 {a0 : Array Value} {Z : State} (hw : ∀ d ∈ tables_1, d.before a0 Z = true) : (Jvm.Cond.instanceMethod ({ cls := "java/lang/Record", name := "<init>", desc := "()V" } : Jvm.MethodName)).before a0 Z = true := hw _ (List.mem_of_getElem? (i := 9) rfl)
theorem w_11 {a0 : Array Value} {Z : State} (hw : ∀ d ∈ tables_1, d.before a0 Z = true) : (Jvm.Cond.initialized "java/lang/Record").before a0 Z = true := hw _ (List.mem_of_getElem? (i := 11) rfl)
theorem w_12 {a0 : Array Value} {Z : State} (hw : ∀ d ∈ tables_1, d.before a0 Z = true) : (Jvm.Cond.code ({ cls := "java/lang/Record", name := "<init>", desc := "()V" } : Jvm.MethodName) jdk_30_method_1_code (1 : Nat) (Option.none : Option Jvm.ClassFile.FieldType)).before a0 Z = true := hw _ (List.mem_of_getElem? (i := 12) rfl)
theorem w_13 {a0 : Array Value} {Z : State} (hw : ∀ d ∈ tables_1, d.before a0 Z = true) : (Jvm.Cond.methodLink "java/lang/Record" (1 : Nat) ({ cls := "java/lang/Object", name := "<init>", desc := "()V" } : Jvm.MethodName)).before a0 Z = true := hw _ (List.mem_of_getElem? (i := 13) rfl)
theorem w_14 {a0 : Array Value} {Z : State} (hw : ∀ d ∈ tables_1, d.before a0 Z = true) : (Jvm.Cond.instanceMethod ({ cls := "java/lang/Object", name := "<init>", desc := "()V" } : Jvm.MethodName)).before a0 Z = true := hw _ (List.mem_of_getElem? (i := 14) rfl)
theorem w_15 {a0 : Array Value} {Z : State} (hw : ∀ d ∈ tables_1, d.before a0 Z = true) : (Jvm.Cond.code ({ cls := "java/lang/Object", name := "<init>", desc := "()V" } : Jvm.MethodName) object_method_1_code (1 : Nat) (Option.none : Option Jvm.ClassFile.FieldType)).before a0 Z = true := hw _ (List.mem_of_getElem? (i := 15) rfl)
theorem w_16 {a0 : Array Value} {Z : State} (hw : ∀ d ∈ tables_1, d.before a0 Z = true) : (Jvm.Cond.fieldLink "com/example/stockwright/stockwright/model/PageRequest" (7 : Nat) "com/example/stockwright/stockwright/model/PageRequest" "page" "I").before a0 Z = true := hw _ (List.mem_of_getElem? (i := 16) rfl)
theorem w_17 {a0 : Array Value} {Z : State} (hw : ∀ d ∈ tables_1, d.before a0 Z = true) : (Jvm.Cond.laysFinal "com/example/stockwright/stockwright/model/PageRequest" "com/example/stockwright/stockwright/model/PageRequest" "page" "I").before a0 Z = true := hw _ (List.mem_of_getElem? (i := 17) rfl)
theorem w_18 {a0 : Array Value} {Z : State} (hw : ∀ d ∈ tables_1, d.before a0 Z = true) : (Jvm.Cond.fieldLink "com/example/stockwright/stockwright/model/PageRequest" (13 : Nat) "com/example/stockwright/stockwright/model/PageRequest" "pageSize" "I").before a0 Z = true := hw _ (List.mem_of_getElem? (i := 18) rfl)
theorem w_19 {a0 : Array Value} {Z : State} (hw : ∀ d ∈ tables_1, d.before a0 Z = true) : (Jvm.Cond.laysFinal "com/example/stockwright/stockwright/model/PageRequest" "com/example/stockwright/stockwright/model/PageRequest" "pageSize" "I").before a0 Z = true := hw _ (List.mem_of_getElem? (i := 19) rfl)
theorem w_20 {a0 : Array Value} {Z : State} (hw : ∀ d ∈ tables_1, d.before a0 Z = true) : (Jvm.Cond.methodLink "com/example/stockwright/stockwright/model/PageRequestOffsetPinLaw" (14 : Nat) ({ cls := "com/example/stockwright/stockwright/model/PageRequest", name := "offset", desc := "()J" } : Jvm.MethodName)).before a0 Z = true := hw _ (List.mem_of_getElem? (i := 20) rfl)
theorem w_21 {a0 : Array Value} {Z : State} (hw : ∀ d ∈ tables_1, d.before a0 Z = true) : (Jvm.Cond.declares ({ cls := "com/example/stockwright/stockwright/model/PageRequest", name := "offset", desc := "()J" } : Jvm.MethodName)).before a0 Z = true := hw _ (List.mem_of_getElem? (i := 21) rfl)
theorem w_22 {a0 : Array Value} {Z : State} (hw : ∀ d ∈ tables_1, d.before a0 Z = true) : (Jvm.Cond.instanceMethod ({ cls := "com/example/stockwright/stockwright/model/PageRequest", name := "offset", desc := "()J" } : Jvm.MethodName)).before a0 Z = true := hw _ (List.mem_of_getElem? (i := 22) rfl)
theorem w_23 {a0 : Array Value} {Z : State} (hw : ∀ d ∈ tables_1, d.before a0 Z = true) : (Jvm.Cond.selects "com/example/stockwright/stockwright/model/PageRequest" ({ cls := "com/example/stockwright/stockwright/model/PageRequest", name := "offset", desc := "()J" } : Jvm.MethodName) ({ cls := "com/example/stockwright/stockwright/model/PageRequest", name := "offset", desc := "()J" } : Jvm.MethodName)).before a0 Z = true := hw _ (List.mem_of_getElem? (i := 23) rfl)
theorem w_24 {a0 : Array Value} {Z : State} (hw : ∀ d ∈ tables_1, d.before a0 Z = true) : (Jvm.Cond.code ({ cls := "com/example/stockwright/stockwright/model/PageRequest", name := "offset", desc := "()J" } : Jvm.MethodName) prog_8_method_2_code (1 : Nat) (Option.some Jvm.ClassFile.FieldType.long)).before a0 Z = true := hw _ (List.mem_of_getElem? (i := 24) rfl)
theorem own_pn1 : plainName "java/lang/Record" = true := by first | (simp [plainName, overriddenIn]; done) | decide +kernel
theorem d2_0 : decode jdk_30_method_1_code 0 = .ok (.aload_n 0, 1) := by decide +kernel
theorem d2_1 : decode jdk_30_method_1_code 1 = .ok (.invokespecial 1, 3) := by decide +kernel
theorem d2_4 : decode jdk_30_method_1_code 4 = .ok (.return_, 1) := by decide +kernel
theorem ef_2 (m : MethodId) (x0 : Addr) : entryFrame m #[(.ref x0)] 1 = mkF m 0 #[.val (.ref x0)] [] := by first | (simp [entryFrame, mkF, argsToLocals, Value.category]; done) | rfl
def Q2 (Z : State) (a1 : Addr) (h0 : Heap) (n0 : Nat) (v : Option Value) (h : Heap) (L : List Loc) : Prop := v = none ∧ Fr n0 L ∧ h = h0
set_option maxHeartbeats 40000000 in
theorem rm2 (l : Launch) (Z : State) (a0 : Array Value) (hw : ∀ d ∈ tables_1, d.before a0 Z = true) (ws : List Jvm.Cond) (a1 : Addr) (h0 : Heap) (n0 : Nat) (Z0 : n0 ≤ h0.size) :
    MetFree l (⟨"java/lang/Record", "<init>", "()V"⟩ : MethodName) (head1 (Jvm.Cond.code (⟨"java/lang/Record", "<init>", "()V"⟩ : MethodName) jdk_30_method_1_code 1 none :: ws) ({ frames := 1, cells := 0, slots := 0, locals := 12 } : Room)) (fun a U => a = #[(.ref a1)] ∧ Z.Warmed39 U.vm ∧ U.heap = h0) (fun _ _ _ _ _ => True) (fun _ U o U' => ∃ v L, o = .returned v ∧ Q2 Z a1 h0 n0 v U'.heap L ∧ FrameEnd U o U' L ({ frames := 1, cells := 0, slots := 0, locals := 12 } : Room).cells ({ frames := 1, cells := 0, slots := 0, locals := 12 } : Room).slots) := by
  refine MetFree.of_bodySF (plainFor_of_name own_pn1) hisR ?_
  intro p e s m args below meth c s₁ Bd hml0 hP hK
  obtain ⟨rfl, hZ, hh⟩ := hP
  have hx := Bd.exec
  have hby := Bd.bytes
  have hml : c.maxLocals = 1 := hml0
  have hlk : meth.locks = false := BodyLoose.notSynchronized Bd
  have hown : s.vm.findClass "java/lang/Record" = some m.cls := findClass_of_methodNamed Bd.named
  have hnm := (name_of_methodNamed Bd.named Bd.method).1
  have X0 : Stand p l e ({ frames := 1, cells := 0, slots := 0, locals := 12 } : Room) s m #[(.ref a1)] below meth c s₁ [] 0 0 := Stand.of_body Bd
  have e0 : s₁.heap = h0 := by rw [← hh, Bd.state]; rfl
  have N0 := Fr.nil n0
  show own_Go p e below s (Q2 Z a1 h0 n0) ({ frames := 1, cells := 0, slots := 0, locals := 12 } : Room).cells ({ frames := 1, cells := 0, slots := 0, locals := 12 } : Room).slots _
  refine own_st (B := s₁.setTop (mkF m 0 #[.val (.ref a1)] [])) (fun t k => castTop (ef_2 m (a1)) k) ?_
  refine own_st (B := s₁.setTop (mkF m 1 #[.val (.ref a1)] [(.ref a1)])) (fun t k => XS.aloadN X0.here hx rfl (hb hby d2_0) rfl rfl k) ?_
  obtain ⟨T1, X1, e1, st1⟩ := initO X0 hx hZ hown (w_13 hw) (w_14 hw) (w_15 hw) e0 (g := (mkF m 1 #[.val (.ref a1)] [(.ref a1)])) rfl (by rw [hml]; rfl) rfl (hb hby d2_1) (by decide) (W := 0) (by show 2 * 0 + _ ≤ _; exact Nat.le_of_eq rfl) (by decide)
  refine own_st (B := T1.setTop (mkF m 4 #[.val (.ref a1)] [])) (fun t k => st1 t k) ?_
  refine own_retV X1 hx hlk Bd.returns (hb hby d2_4) (by decide) (by decide) ?_
  show Q2 Z a1 h0 n0 _ T1.heap _
  rw [e1]
  exact ⟨rfl, N0, rfl⟩
theorem own_pd1 : parseMethodDescriptor "()V" = some ⟨[], none⟩ := by decide +kernel
theorem own_pn2 : plainName "com/example/stockwright/stockwright/model/PageRequest" = true := by first | (simp [plainName, overriddenIn]; done) | decide +kernel
theorem d1_0 : decode prog_8_method_1_code 0 = .ok (.aload_n 0, 1) := by decide +kernel
theorem d1_1 : decode prog_8_method_1_code 1 = .ok (.invokespecial 1, 3) := by decide +kernel
theorem d1_4 : decode prog_8_method_1_code 4 = .ok (.aload_n 0, 1) := by decide +kernel
theorem d1_5 : decode prog_8_method_1_code 5 = .ok (.iload_n 1, 1) := by decide +kernel
theorem d1_6 : decode prog_8_method_1_code 6 = .ok (.putfield 7, 3) := by decide +kernel
theorem d1_9 : decode prog_8_method_1_code 9 = .ok (.aload_n 0, 1) := by decide +kernel
theorem d1_10 : decode prog_8_method_1_code 10 = .ok (.iload_n 2, 1) := by decide +kernel
theorem d1_11 : decode prog_8_method_1_code 11 = .ok (.putfield 13, 3) := by decide +kernel
theorem d1_14 : decode prog_8_method_1_code 14 = .ok (.return_, 1) := by decide +kernel
theorem ef_1 (m : MethodId) (x0 : Addr) (x1 : Int32) (x2 : Int32) : entryFrame m #[(.ref x0), (.int x1), (.int x2)] 3 = mkF m 0 #[.val (.ref x0), .val (.int x1), .val (.int x2)] [] := by first | (simp [entryFrame, mkF, argsToLocals, Value.category]; done) | rfl
def Q1 (Z : State) (a1 : Addr) (p1 : Int32) (p2 : Int32) (h0 : Heap) (n0 : Nat) (v : Option Value) (h : Heap) (L : List Loc) : Prop := v = none ∧ Fr n0 L ∧ Keep h0 h [a1] ∧ Exa Z h a1 "com/example/stockwright/stockwright/model/PageRequest" ∧ Fld Z h a1 "com/example/stockwright/stockwright/model/PageRequest" "page" "I" (.int p1) ∧ Fld Z h a1 "com/example/stockwright/stockwright/model/PageRequest" "pageSize" "I" (.int p2)
set_option maxHeartbeats 40000000 in
theorem rm1 (l : Launch) (Z : State) (a0 : Array Value) (hw : ∀ d ∈ tables_1, d.before a0 Z = true) (ws : List Jvm.Cond) (a1 : Addr) (p1 : Int32) (p2 : Int32) (h0 : Heap) (n0 : Nat) (Z0 : n0 ≤ h0.size) (F0 : Exa Z h0 a1 "com/example/stockwright/stockwright/model/PageRequest") (F1 : Fld Z h0 a1 "com/example/stockwright/stockwright/model/PageRequest" "page" "I" (.int (0 : Int32))) (F2 : Fld Z h0 a1 "com/example/stockwright/stockwright/model/PageRequest" "pageSize" "I" (.int (0 : Int32))) (ga : n0 ≤ a1) :
    MetFree l (⟨"com/example/stockwright/stockwright/model/PageRequest", "<init>", "(II)V"⟩ : MethodName) (head1 (Jvm.Cond.code (⟨"com/example/stockwright/stockwright/model/PageRequest", "<init>", "(II)V"⟩ : MethodName) prog_8_method_1_code 3 none :: ws) ({ frames := 2, cells := 0, slots := 0, locals := 24 } : Room)) (fun a U => a = #[(.ref a1), (.int p1), (.int p2)] ∧ Z.Warmed39 U.vm ∧ U.heap = h0) (fun _ _ _ _ _ => True) (fun _ U o U' => ∃ v L, o = .returned v ∧ Q1 Z a1 p1 p2 h0 n0 v U'.heap L ∧ FrameEnd U o U' L ({ frames := 2, cells := 0, slots := 0, locals := 24 } : Room).cells ({ frames := 2, cells := 0, slots := 0, locals := 24 } : Room).slots) := by
  refine MetFree.of_bodySF (plainFor_of_name own_pn2) hisR ?_
  intro p e s m args below meth c s₁ Bd hml0 hP hK
  obtain ⟨rfl, hZ, hh⟩ := hP
  have hx := Bd.exec
  have hby := Bd.bytes
  have hml : c.maxLocals = 3 := hml0
  have hlk : meth.locks = false := BodyLoose.notSynchronized Bd
  have hown : s.vm.findClass "com/example/stockwright/stockwright/model/PageRequest" = some m.cls := findClass_of_methodNamed Bd.named
  have hnm := (name_of_methodNamed Bd.named Bd.method).1
  have X0 : Stand p l e ({ frames := 2, cells := 0, slots := 0, locals := 24 } : Room) s m #[(.ref a1), (.int p1), (.int p2)] below meth c s₁ [] 0 0 := Stand.of_body Bd
  have e0 : s₁.heap = h0 := by rw [← hh, Bd.state]; rfl
  have N0 := Fr.nil n0
  show own_Go p e below s (Q1 Z a1 p1 p2 h0 n0) ({ frames := 2, cells := 0, slots := 0, locals := 24 } : Room).cells ({ frames := 2, cells := 0, slots := 0, locals := 24 } : Room).slots _
  refine own_st (B := s₁.setTop (mkF m 0 #[.val (.ref a1), .val (.int p1), .val (.int p2)] [])) (fun t k => castTop (ef_1 m (a1) (p1) (p2)) k) ?_
  refine own_st (B := s₁.setTop (mkF m 1 #[.val (.ref a1), .val (.int p1), .val (.int p2)] [(.ref a1)])) (fun t k => XS.aloadN X0.here hx rfl (hb hby d1_0) rfl rfl k) ?_
  obtain ⟨_, _, ⟨T1, L1, k1, j1⟩, -, X1, ⟨Lc1, hQ1, l1, y1_, z1_⟩, st1⟩ := X0.specialBack hx (y := (⟨"java/lang/Record", "<init>", "()V"⟩ : MethodName)) rfl hown (mvT hZ (w_8 hw)) (mvT hZ (w_9 hw)) (mvT hZ (w_12 hw)) (by decide) (backOf (W := 0) (rm2 l Z a0 hw [] a1 h0 n0 Z0 ) hZ (w_12 hw) (w_11 hw) (by decide) (by decide)) (g := (mkF m 1 #[.val (.ref a1), .val (.int p1), .val (.int p2)] [(.ref a1)])) rfl (by rw [hml]; rfl) (Steps.refl _) (a := a1) (argsL := []) (rest := []) (lenOf own_pd1 rfl) rfl (by show 2 * 0 + _ ≤ _; exact Nat.le_of_eq rfl) (hb hby d1_1) (fun _ _ => ⟨rfl, e0, (by decide : 0 + 0 ≤ _), (by decide : 0 + 0 ≤ _)⟩)
  dsimp only [Pt.U, Pt.locs, Pt.cells, Pt.slots] at X1 l1 y1_ z1_ st1 hQ1
  subst l1 y1_ z1_
  obtain ⟨rfl, N1q, e1q⟩ := hQ1
  have N1 := Fr.app N0 N1q
  refine own_ss (B := T1.setTop (mkF m 4 #[.val (.ref a1), .val (.int p1), .val (.int p2)] [])) st1 ?_
  refine own_st (B := T1.setTop (mkF m 5 #[.val (.ref a1), .val (.int p1), .val (.int p2)] [(.ref a1)])) (fun t k => XS.aloadN X1.here hx rfl (hb hby d1_4) rfl rfl k) ?_
  refine own_st (B := T1.setTop (mkF m 6 #[.val (.ref a1), .val (.int p1), .val (.int p2)] [(.int p1), (.ref a1)])) (fun t k => XS.iloadN X1.here hx rfl (hb hby d1_5) rfl k) ?_
  obtain ⟨T2, h2, X2, e2, W2, st2⟩ := putF X1 hx hZ hown (host := "") (Or.inl (w_16 hw)) Via.refl e1q F1 F0 (Or.inr ⟨(w_17 hw), rfl, hnm⟩) (w_3 hw) (ty := .int) (by decide) rfl rfl (g := (mkF m 6 #[.val (.ref a1), .val (.int p1), .val (.int p2)] [(.int p1), (.ref a1)])) rfl rfl (hb hby d1_6)
  have f2_ : Fld Z h2 a1 "com/example/stockwright/stockwright/model/PageRequest" "page" "I" (.int p1) := F1.same W2
  have z3 : n0 ≤ h2.size := Nat.le_trans Z0 (Keep.of_wr W2).1
  have kp3 : Keep h0 h2 [a1] := (Keep.refl h0 [a1]).wr W2 (Or.inl (List.mem_of_getElem? (i := 0) rfl))
  have n4 := Fr.snoc X2 N1 ga
  refine own_st (B := T2.setTop (mkF m 9 #[.val (.ref a1), .val (.int p1), .val (.int p2)] [])) (fun t k => st2 t k) ?_
  refine own_st (B := T2.setTop (mkF m 10 #[.val (.ref a1), .val (.int p1), .val (.int p2)] [(.ref a1)])) (fun t k => XS.aloadN X2.here hx rfl (hb hby d1_9) rfl rfl k) ?_
  refine own_st (B := T2.setTop (mkF m 11 #[.val (.ref a1), .val (.int p1), .val (.int p2)] [(.int p2), (.ref a1)])) (fun t k => XS.iloadN X2.here hx rfl (hb hby d1_10) rfl k) ?_
  have f5 : Exa Z h2 a1 "com/example/stockwright/stockwright/model/PageRequest" := (F0.wr W2)
  have f6 : Fld Z h2 a1 "com/example/stockwright/stockwright/model/PageRequest" "pageSize" "I" (.int (0 : Int32)) := (F2.other W2 (Or.inr (slot_ne (Or.inr (w_19 hw)) (Or.inr (w_17 hw)) (by decide) (t := .int) (t' := .int) (by decide) (by decide))))
  obtain ⟨T7, h7, X7, e7, W7, st7⟩ := putF X2 hx hZ hown (host := "") (Or.inl (w_18 hw)) Via.refl e2 f6 f5 (Or.inr ⟨(w_19 hw), rfl, hnm⟩) (w_3 hw) (ty := .int) (by decide) rfl rfl (g := (mkF m 11 #[.val (.ref a1), .val (.int p1), .val (.int p2)] [(.int p2), (.ref a1)])) rfl rfl (hb hby d1_11)
  have f7_ : Fld Z h7 a1 "com/example/stockwright/stockwright/model/PageRequest" "pageSize" "I" (.int p2) := f6.same W7
  have z8 : n0 ≤ h7.size := Nat.le_trans z3 (Keep.of_wr W7).1
  have kp8 : Keep h0 h7 [a1] := kp3.wr W7 (Or.inl (List.mem_of_getElem? (i := 0) rfl))
  have n9 := Fr.snoc X7 n4 ga
  refine own_st (B := T7.setTop (mkF m 14 #[.val (.ref a1), .val (.int p1), .val (.int p2)] [])) (fun t k => st7 t k) ?_
  refine own_retV X7 hx hlk Bd.returns (hb hby d1_14) (by decide) (by decide) ?_
  show Q1 Z a1 p1 p2 h0 n0 _ T7.heap _
  rw [e7]
  have f10 : Exa Z h7 a1 "com/example/stockwright/stockwright/model/PageRequest" := (f5.wr W7)
  have f11 : Fld Z h7 a1 "com/example/stockwright/stockwright/model/PageRequest" "page" "I" (.int p1) := (f2_.other W7 (Or.inr (slot_ne (Or.inr (w_17 hw)) (Or.inr (w_19 hw)) (by decide) (t := .int) (t' := .int) (by decide) (by decide))))
  exact ⟨rfl, n9, kp8, f10, f11, f7_⟩
theorem d4_0 : decode prog_8_method_2_code 0 = .ok (.aload_n 0, 1) := by decide +kernel
theorem d4_1 : decode prog_8_method_2_code 1 = .ok (.getfield 7, 3) := by decide +kernel
theorem d4_4 : decode prog_8_method_2_code 4 = .ok (.iconst 1, 1) := by decide +kernel
theorem d4_5 : decode prog_8_method_2_code 5 = .ok (.isub, 1) := by decide +kernel
theorem d4_6 : decode prog_8_method_2_code 6 = .ok (.i2l, 1) := by decide +kernel
theorem d4_7 : decode prog_8_method_2_code 7 = .ok (.aload_n 0, 1) := by decide +kernel
theorem d4_8 : decode prog_8_method_2_code 8 = .ok (.getfield 13, 3) := by decide +kernel
theorem d4_11 : decode prog_8_method_2_code 11 = .ok (.i2l, 1) := by decide +kernel
theorem d4_12 : decode prog_8_method_2_code 12 = .ok (.lmul, 1) := by decide +kernel
theorem d4_13 : decode prog_8_method_2_code 13 = .ok (.lreturn, 1) := by decide +kernel
theorem ef_4 (m : MethodId) (x0 : Addr) : entryFrame m #[(.ref x0)] 1 = mkF m 0 #[.val (.ref x0)] [] := by first | (simp [entryFrame, mkF, argsToLocals, Value.category]; done) | rfl
def Q4 (Z : State) (a1 : Addr) (p1 : Int32) (p2 : Int32) (h0 : Heap) (n0 : Nat) (v : Option Value) (h : Heap) (L : List Loc) : Prop := v = some (.long ((p1 - (1 : Int32)).toInt64 * (p2.toInt64))) ∧ Fr n0 L ∧ h = h0
set_option maxHeartbeats 40000000 in
theorem rm4 (l : Launch) (Z : State) (a0 : Array Value) (hw : ∀ d ∈ tables_1, d.before a0 Z = true) (ws : List Jvm.Cond) (a1 : Addr) (p1 : Int32) (p2 : Int32) (h0 : Heap) (n0 : Nat) (Z0 : n0 ≤ h0.size) (F0 : Fld Z h0 a1 "com/example/stockwright/stockwright/model/PageRequest" "page" "I" (.int p1)) (F1 : Fld Z h0 a1 "com/example/stockwright/stockwright/model/PageRequest" "pageSize" "I" (.int p2)) :
    MetFree l (⟨"com/example/stockwright/stockwright/model/PageRequest", "offset", "()J"⟩ : MethodName) (head1 (Jvm.Cond.code (⟨"com/example/stockwright/stockwright/model/PageRequest", "offset", "()J"⟩ : MethodName) prog_8_method_2_code 1 (some .long) :: ws) ({ frames := 0, cells := 0, slots := 0, locals := 0 } : Room)) (fun a U => a = #[(.ref a1)] ∧ Z.Warmed39 U.vm ∧ U.heap = h0) (fun _ _ _ _ _ => True) (fun _ U o U' => ∃ v L, o = .returned v ∧ Q4 Z a1 p1 p2 h0 n0 v U'.heap L ∧ FrameEnd U o U' L ({ frames := 0, cells := 0, slots := 0, locals := 0 } : Room).cells ({ frames := 0, cells := 0, slots := 0, locals := 0 } : Room).slots) := by
  refine MetFree.of_bodySF (plainFor_of_name own_pn2) hisR ?_
  intro p e s m args below meth c s₁ Bd hml0 hP hK
  obtain ⟨rfl, hZ, hh⟩ := hP
  have hx := Bd.exec
  have hby := Bd.bytes
  have hml : c.maxLocals = 1 := hml0
  have hlk : meth.locks = false := BodyLoose.notSynchronized Bd
  have hown : s.vm.findClass "com/example/stockwright/stockwright/model/PageRequest" = some m.cls := findClass_of_methodNamed Bd.named
  have hnm := (name_of_methodNamed Bd.named Bd.method).1
  have X0 : Stand p l e ({ frames := 0, cells := 0, slots := 0, locals := 0 } : Room) s m #[(.ref a1)] below meth c s₁ [] 0 0 := Stand.of_body Bd
  have e0 : s₁.heap = h0 := by rw [← hh, Bd.state]; rfl
  have N0 := Fr.nil n0
  show own_Go p e below s (Q4 Z a1 p1 p2 h0 n0) ({ frames := 0, cells := 0, slots := 0, locals := 0 } : Room).cells ({ frames := 0, cells := 0, slots := 0, locals := 0 } : Room).slots _
  refine own_st (B := s₁.setTop (mkF m 0 #[.val (.ref a1)] [])) (fun t k => castTop (ef_4 m (a1)) k) ?_
  refine own_st (B := s₁.setTop (mkF m 1 #[.val (.ref a1)] [(.ref a1)])) (fun t k => XS.aloadN X0.here hx rfl (hb hby d4_0) rfl rfl k) ?_
  obtain ⟨T1, X1, e1, st1⟩ := getF X0 hx hZ hown (host := "") (Or.inl (w_16 hw)) Via.refl e0 F0 (g := (mkF m 1 #[.val (.ref a1)] [(.ref a1)])) rfl rfl (hb hby d4_1)
  refine own_st (B := T1.setTop (mkF m 4 #[.val (.ref a1)] [(.int p1)])) (fun t k => st1 t k) ?_
  refine own_st (B := T1.setTop (mkF m 5 #[.val (.ref a1)] [(.int (1 : Int32)), (.int p1)])) (fun t k => XS.iconst X1.here hx rfl (hb hby d4_4) k) ?_
  refine own_st (B := T1.setTop (mkF m 6 #[.val (.ref a1)] [(.int (p1 - (1 : Int32)))])) (fun t k => XS.isub X1.here hx rfl (hb hby d4_5) rfl k) ?_
  refine own_st (B := T1.setTop (mkF m 7 #[.val (.ref a1)] [(.long ((p1 - (1 : Int32)).toInt64))])) (fun t k => XS.i2l X1.here hx rfl (hb hby d4_6) rfl k) ?_
  refine own_st (B := T1.setTop (mkF m 8 #[.val (.ref a1)] [(.ref a1), (.long ((p1 - (1 : Int32)).toInt64))])) (fun t k => XS.aloadN X1.here hx rfl (hb hby d4_7) rfl rfl k) ?_
  obtain ⟨T2, X2, e2, st2⟩ := getF X1 hx hZ hown (host := "") (Or.inl (w_18 hw)) Via.refl e1 F1 (g := (mkF m 8 #[.val (.ref a1)] [(.ref a1), (.long ((p1 - (1 : Int32)).toInt64))])) rfl rfl (hb hby d4_8)
  refine own_st (B := T2.setTop (mkF m 11 #[.val (.ref a1)] [(.int p2), (.long ((p1 - (1 : Int32)).toInt64))])) (fun t k => st2 t k) ?_
  refine own_st (B := T2.setTop (mkF m 12 #[.val (.ref a1)] [(.long (p2.toInt64)), (.long ((p1 - (1 : Int32)).toInt64))])) (fun t k => XS.i2l X2.here hx rfl (hb hby d4_11) rfl k) ?_
  refine own_st (B := T2.setTop (mkF m 13 #[.val (.ref a1)] [(.long (((p1 - (1 : Int32)).toInt64) * (p2.toInt64)))])) (fun t k => XS.lmul X2.here hx rfl (hb hby d4_12) rfl k) ?_
  refine own_retJ X2 hx hlk Bd.returns (hb hby d4_13) (by decide) (by decide) ?_
  show Q4 Z a1 p1 p2 h0 n0 _ T2.heap _
  rw [e2]
  exact ⟨rfl, N0, rfl⟩
theorem own_pg {x v : Int32} (e : v = (x &&& 2147483647) % 2147483646 + 1) : 1 ≤ v.toInt ∧ v.toInt ≤ 2147483646 := by
  have h1 := c_mask x 2147483647 31 (by decide) (by decide)
  have h2 := c_irem (x &&& 2147483647) 2147483646 2147483646 rfl
  have h3 := c_iadd ((x &&& 2147483647) % 2147483646) 1
  have h4 := rng32 ((x &&& 2147483647) % 2147483646 + 1)
  have h5 : (1 : Int32).toInt = 1 := rfl
  rw [← e] at h3 h4
  omega
theorem own_sz {x v : Int32} (e : v = (x &&& 2147483647) % 100 + 1) : 1 ≤ v.toInt ∧ v.toInt ≤ 100 := by
  have h1 := c_mask x 2147483647 31 (by decide) (by decide)
  have h2 := c_irem (x &&& 2147483647) 100 100 rfl
  have h3 := c_iadd ((x &&& 2147483647) % 100) 1
  have h4 := rng32 ((x &&& 2147483647) % 100 + 1)
  have h5 : (1 : Int32).toInt = 1 := rfl
  rw [← e] at h3 h4
  omega
theorem own_off (p q : Int32) (h : 1 ≤ p.toInt) : ((p - 1).toInt64 * q.toInt64).toInt = p.toInt * q.toInt - q.toInt := by
  have h1 := c_isub p 1
  have h2 := rng32 p
  have h3 := rng32 (p - 1)
  have h5 : (1 : Int32).toInt = 1 := rfl
  have h4 : (p - 1).toInt = p.toInt - 1 := by omega
  rw [XT.wideMul, h4, Int.sub_mul, Int.one_mul]
theorem own_bound {a b : Int} (h1 : 1 ≤ a) (h2 : a ≤ 2147483647) (h3 : 1 ≤ b) (h4 : b ≤ 100) : b ≤ a * b ∧ a * b ≤ 214748364700 := by
  refine ⟨?_, ?_⟩
  · have := Int.mul_le_mul_of_nonneg_right h1 (by omega : 0 ≤ b)
    omega
  · have h5 := Int.mul_le_mul h2 h4 (by omega) (by omega)
    omega
theorem own_A1 {q o : Int64} {s : Int32} (e : o = (1 - 1 : Int32).toInt64 * s.toInt64) : o = 0 := by
  subst e
  refine Int64.toInt_inj.mp ?_
  rw [own_off 1 s (by decide)]
  have h5 : (1 : Int32).toInt = 1 := rfl
  rw [h5, Int.one_mul, Int.sub_self]
  rfl
theorem own_A2 {p s : Int32} {o : Int64} (e : o = (p - 1).toInt64 * s.toInt64) (hp : 1 ≤ p.toInt ∧ p.toInt ≤ 2147483646) (hs : 1 ≤ s.toInt ∧ s.toInt ≤ 100) : ¬ (o < 0) := by
  rw [Int64.lt_iff_toInt_lt, e, own_off p s hp.1]
  have h := own_bound hp.1 (by omega) hs.1 hs.2
  show ¬ (_ < (0 : Int))
  omega
theorem own_A3 {p s : Int32} {o n : Int64} (e : o = (p - 1).toInt64 * s.toInt64) (e' : n = ((p + 1) - 1).toInt64 * s.toInt64) (hp : 1 ≤ p.toInt ∧ p.toInt ≤ 2147483646) (hs : 1 ≤ s.toInt ∧ s.toInt ≤ 100) : n - o = s.toInt64 := by
  have h1 := c_iadd p 1
  have h2 := rng32 (p + 1)
  have h5 : (1 : Int32).toInt = 1 := rfl
  have h3 : (p + 1).toInt = p.toInt + 1 := by omega
  have h4 := own_off p s hp.1
  have h6 := own_off (p + 1) s (by omega)
  rw [h3, Int.add_mul, Int.one_mul] at h6
  have h := own_bound hp.1 (by omega) hs.1 hs.2
  have h7 := c_lsub n o
  have h8 := rng64 (n - o)
  refine Int64.toInt_inj.mp ?_
  rw [c_i2l]
  rw [← e] at h4
  rw [← e'] at h6
  omega
theorem own_A4 {p s : Int32} {o r : Int64} (e : o = (p - 1).toInt64 * s.toInt64) (e' : r = p.toInt64 * s.toInt64 - s.toInt64) (hp : 1 ≤ p.toInt ∧ p.toInt ≤ 2147483646) (hs : 1 ≤ s.toInt ∧ s.toInt ≤ 100) : o = r := by
  have h4 := own_off p s hp.1
  have h := own_bound hp.1 (by omega) hs.1 hs.2
  have h7 := c_lsub (p.toInt64 * s.toInt64) s.toInt64
  have h8 := rng64 r
  rw [XT.wideMul, c_i2l, ← e'] at h7
  refine Int64.toInt_inj.mp ?_
  rw [← e] at h4
  omega
theorem own_pd3 : parseMethodDescriptor "(II)V" = some ⟨[.int, .int], none⟩ := by decide +kernel
theorem own_pd4 : parseMethodDescriptor "()J" = some ⟨[], some .long⟩ := by decide +kernel
theorem own_pn3 : plainName "com/example/stockwright/stockwright/model/PageRequestOffsetPinLaw" = true := by first | (simp [plainName, overriddenIn]; done) | decide +kernel
theorem ef_0 (m : MethodId) (x0 : Int32) (x1 : Int32) : entryFrame m #[(.int x0), (.int x1)] maxLocals = mkF m 0 #[.val (.int x0), .val (.int x1), .unset, .unset, .unset, .unset, .unset, .unset, .unset, .unset, .unset, .unset, .unset, .unset, .unset] [] := by first | (simp [entryFrame, mkF, argsToLocals, Value.category, maxLocals]; done) | rfl
def Q0 (Z : State) (arg0 : Int32) (arg1 : Int32) (h0 : Heap) (n0 : Nat) (v : Option Value) (h : Heap) (L : List Loc) : Prop := v = some (.int 1) ∧ Fr n0 L
set_option maxHeartbeats 40000000 in
theorem rm0 (l : Launch) (Z : State) (a0 : Array Value) (hw : ∀ d ∈ tables_1, d.before a0 Z = true) (ws : List Jvm.Cond) (arg0 : Int32) (arg1 : Int32) (h0 : Heap) (n0 : Nat) (Z0 : n0 ≤ h0.size) :
    MetFree l x (head1 (Jvm.Cond.code x code maxLocals ret :: ws) room_1) (fun a U => a = #[(.int arg0), (.int arg1)] ∧ Z.Warmed39 U.vm ∧ U.heap = h0) (fun _ _ _ _ _ => True) (fun _ U o U' => ∃ v L, o = .returned v ∧ Q0 Z arg0 arg1 h0 n0 v U'.heap L ∧ FrameEnd U o U' L 16 128) := by
  refine MetFree.of_bodySF (plainFor_of_name own_pn3) hisR ?_
  intro p e s m args below meth c s₁ Bd hml0 hP hK
  obtain ⟨rfl, hZ, hh⟩ := hP
  have hx := Bd.exec
  have hby := Bd.bytes
  have hml : c.maxLocals = 15 := hml0
  have hlk : meth.locks = false := BodyLoose.notSynchronized Bd
  have hown : s.vm.findClass "com/example/stockwright/stockwright/model/PageRequestOffsetPinLaw" = some m.cls := findClass_of_methodNamed Bd.named
  have hnm := (name_of_methodNamed Bd.named Bd.method).1
  have X0 : Stand p l e room_1 s m #[(.int arg0), (.int arg1)] below meth c s₁ [] 0 0 := Stand.of_body Bd
  have e0 : s₁.heap = h0 := by rw [← hh, Bd.state]; rfl
  have N0 := Fr.nil n0
  show own_Go p e below s (Q0 Z arg0 arg1 h0 n0) 16 128 _
  refine own_st (B := s₁.setTop (mkF m 0 #[.val (.int arg0), .val (.int arg1), .unset, .unset, .unset, .unset, .unset, .unset, .unset, .unset, .unset, .unset, .unset, .unset, .unset] [])) (fun t k => castTop (ef_0 m (arg0) (arg1)) k) ?_
  refine own_st (B := s₁.setTop (mkF m 1 #[.val (.int arg0), .val (.int arg1), .unset, .unset, .unset, .unset, .unset, .unset, .unset, .unset, .unset, .unset, .unset, .unset, .unset] [(.int arg0)])) (fun t k => XS.iloadN X0.here hx rfl (hb hby at_0) rfl k) ?_
  refine own_st (B := s₁.setTop (mkF m 3 #[.val (.int arg0), .val (.int arg1), .unset, .unset, .unset, .unset, .unset, .unset, .unset, .unset, .unset, .unset, .unset, .unset, .unset] [(.int (2147483647 : Int32)), (.int arg0)])) (fun t k => X0.ldcInt hx hown (mvT hZ (w_0 hw)) (g := (mkF m 1 #[.val (.int arg0), .val (.int arg1), .unset, .unset, .unset, .unset, .unset, .unset, .unset, .unset, .unset, .unset, .unset, .unset, .unset] [(.int arg0)])) rfl (hb hby at_1) _ k) ?_
  refine own_st (B := s₁.setTop (mkF m 4 #[.val (.int arg0), .val (.int arg1), .unset, .unset, .unset, .unset, .unset, .unset, .unset, .unset, .unset, .unset, .unset, .unset, .unset] [(.int (arg0 &&& (2147483647 : Int32)))])) (fun t k => XS.iand X0.here hx rfl (hb hby at_3) rfl k) ?_
  refine own_st (B := s₁.setTop (mkF m 6 #[.val (.int arg0), .val (.int arg1), .unset, .unset, .unset, .unset, .unset, .unset, .unset, .unset, .unset, .unset, .unset, .unset, .unset] [(.int (2147483646 : Int32)), (.int (arg0 &&& (2147483647 : Int32)))])) (fun t k => X0.ldcInt hx hown (mvT hZ (w_1 hw)) (g := (mkF m 4 #[.val (.int arg0), .val (.int arg1), .unset, .unset, .unset, .unset, .unset, .unset, .unset, .unset, .unset, .unset, .unset, .unset, .unset] [(.int (arg0 &&& (2147483647 : Int32)))])) rfl (hb hby at_4) _ k) ?_
  refine own_st (B := s₁.setTop (mkF m 7 #[.val (.int arg0), .val (.int arg1), .unset, .unset, .unset, .unset, .unset, .unset, .unset, .unset, .unset, .unset, .unset, .unset, .unset] [(.int ((arg0 &&& (2147483647 : Int32)) % (2147483646 : Int32)))])) (fun t k => iremM X0 hx rfl (hb hby at_6) rfl (by decide) k) ?_
  refine own_st (B := s₁.setTop (mkF m 8 #[.val (.int arg0), .val (.int arg1), .unset, .unset, .unset, .unset, .unset, .unset, .unset, .unset, .unset, .unset, .unset, .unset, .unset] [(.int (1 : Int32)), (.int ((arg0 &&& (2147483647 : Int32)) % (2147483646 : Int32)))])) (fun t k => XS.iconst X0.here hx rfl (hb hby at_7) k) ?_
  refine own_st (B := s₁.setTop (mkF m 9 #[.val (.int arg0), .val (.int arg1), .unset, .unset, .unset, .unset, .unset, .unset, .unset, .unset, .unset, .unset, .unset, .unset, .unset] [(.int (((arg0 &&& (2147483647 : Int32)) % (2147483646 : Int32)) + (1 : Int32)))])) (fun t k => XS.iadd X0.here hx rfl (hb hby at_8) rfl k) ?_
  obtain ⟨v1, ev1⟩ : ∃ z : Int32, z = (((arg0 &&& (2147483647 : Int32)) % (2147483646 : Int32)) + (1 : Int32)) := ⟨_, rfl⟩
  rw [← ev1]
  refine own_st (B := s₁.setTop (mkF m 10 #[.val (.int arg0), .val (.int arg1), .val (.int v1), .unset, .unset, .unset, .unset, .unset, .unset, .unset, .unset, .unset, .unset, .unset, .unset] [])) (fun t k => XS.istoreN X0.here hx rfl (hb hby at_9) rfl (l' := #[.val (.int arg0), .val (.int arg1), .val (.int v1), .unset, .unset, .unset, .unset, .unset, .unset, .unset, .unset, .unset, .unset, .unset, .unset]) rfl k) ?_
  refine own_st (B := s₁.setTop (mkF m 11 #[.val (.int arg0), .val (.int arg1), .val (.int v1), .unset, .unset, .unset, .unset, .unset, .unset, .unset, .unset, .unset, .unset, .unset, .unset] [(.int arg1)])) (fun t k => XS.iloadN X0.here hx rfl (hb hby at_10) rfl k) ?_
  refine own_st (B := s₁.setTop (mkF m 13 #[.val (.int arg0), .val (.int arg1), .val (.int v1), .unset, .unset, .unset, .unset, .unset, .unset, .unset, .unset, .unset, .unset, .unset, .unset] [(.int (2147483647 : Int32)), (.int arg1)])) (fun t k => X0.ldcInt hx hown (mvT hZ (w_0 hw)) (g := (mkF m 11 #[.val (.int arg0), .val (.int arg1), .val (.int v1), .unset, .unset, .unset, .unset, .unset, .unset, .unset, .unset, .unset, .unset, .unset, .unset] [(.int arg1)])) rfl (hb hby at_11) _ k) ?_
  refine own_st (B := s₁.setTop (mkF m 14 #[.val (.int arg0), .val (.int arg1), .val (.int v1), .unset, .unset, .unset, .unset, .unset, .unset, .unset, .unset, .unset, .unset, .unset, .unset] [(.int (arg1 &&& (2147483647 : Int32)))])) (fun t k => XS.iand X0.here hx rfl (hb hby at_13) rfl k) ?_
  refine own_st (B := s₁.setTop (mkF m 16 #[.val (.int arg0), .val (.int arg1), .val (.int v1), .unset, .unset, .unset, .unset, .unset, .unset, .unset, .unset, .unset, .unset, .unset, .unset] [(.int (100 : Int32)), (.int (arg1 &&& (2147483647 : Int32)))])) (fun t k => XS.bipush X0.here hx rfl (hb hby at_14) k) ?_
  refine own_st (B := s₁.setTop (mkF m 17 #[.val (.int arg0), .val (.int arg1), .val (.int v1), .unset, .unset, .unset, .unset, .unset, .unset, .unset, .unset, .unset, .unset, .unset, .unset] [(.int ((arg1 &&& (2147483647 : Int32)) % (100 : Int32)))])) (fun t k => iremM X0 hx rfl (hb hby at_16) rfl (by decide) k) ?_
  refine own_st (B := s₁.setTop (mkF m 18 #[.val (.int arg0), .val (.int arg1), .val (.int v1), .unset, .unset, .unset, .unset, .unset, .unset, .unset, .unset, .unset, .unset, .unset, .unset] [(.int (1 : Int32)), (.int ((arg1 &&& (2147483647 : Int32)) % (100 : Int32)))])) (fun t k => XS.iconst X0.here hx rfl (hb hby at_17) k) ?_
  refine own_st (B := s₁.setTop (mkF m 19 #[.val (.int arg0), .val (.int arg1), .val (.int v1), .unset, .unset, .unset, .unset, .unset, .unset, .unset, .unset, .unset, .unset, .unset, .unset] [(.int (((arg1 &&& (2147483647 : Int32)) % (100 : Int32)) + (1 : Int32)))])) (fun t k => XS.iadd X0.here hx rfl (hb hby at_18) rfl k) ?_
  obtain ⟨v2, ev2⟩ : ∃ z : Int32, z = (((arg1 &&& (2147483647 : Int32)) % (100 : Int32)) + (1 : Int32)) := ⟨_, rfl⟩
  rw [← ev2]
  refine own_st (B := s₁.setTop (mkF m 20 #[.val (.int arg0), .val (.int arg1), .val (.int v1), .val (.int v2), .unset, .unset, .unset, .unset, .unset, .unset, .unset, .unset, .unset, .unset, .unset] [])) (fun t k => XS.istoreN X0.here hx rfl (hb hby at_19) rfl (l' := #[.val (.int arg0), .val (.int arg1), .val (.int v1), .val (.int v2), .unset, .unset, .unset, .unset, .unset, .unset, .unset, .unset, .unset, .unset, .unset]) rfl k) ?_
  obtain ⟨T3, h3, X3, e3, E3, A3, D3, -, st3⟩ := newO X0 hx hZ hown (w_2 hw) (w_3 hw) (w_4 hw) e0 (g := (mkF m 20 #[.val (.int arg0), .val (.int arg1), .val (.int v1), .val (.int v2), .unset, .unset, .unset, .unset, .unset, .unset, .unset, .unset, .unset, .unset, .unset] [])) rfl (hb hby at_20) (by decide) (by decide)
  obtain ⟨b3, g3⟩ : ∃ z, z = h0.size := ⟨_, rfl⟩
  rw [← g3] at A3 D3 st3
  have u3 : n0 ≤ b3 := Nat.le_trans Z0 (Nat.le_of_eq g3.symm)
  have z4 : n0 ≤ h3.size := Nat.le_trans Z0 E3.1
  have f5 : Fld Z h3 b3 "com/example/stockwright/stockwright/model/PageRequest" "page" "I" (.int (0 : Int32)) := D3 (Or.inr (w_17 hw)) (ty := .int) (by decide)
  have f6 : Fld Z h3 b3 "com/example/stockwright/stockwright/model/PageRequest" "pageSize" "I" (.int (0 : Int32)) := D3 (Or.inr (w_19 hw)) (ty := .int) (by decide)
  refine own_st (B := T3.setTop (mkF m 23 #[.val (.int arg0), .val (.int arg1), .val (.int v1), .val (.int v2), .unset, .unset, .unset, .unset, .unset, .unset, .unset, .unset, .unset, .unset, .unset] [(.ref b3)])) (fun t k => st3 t k) ?_
  refine own_st (B := T3.setTop (mkF m 24 #[.val (.int arg0), .val (.int arg1), .val (.int v1), .val (.int v2), .unset, .unset, .unset, .unset, .unset, .unset, .unset, .unset, .unset, .unset, .unset] [(.ref b3), (.ref b3)])) (fun t k => XS.dup X3.here hx rfl (hb hby at_23) rfl rfl k) ?_
  refine own_st (B := T3.setTop (mkF m 25 #[.val (.int arg0), .val (.int arg1), .val (.int v1), .val (.int v2), .unset, .unset, .unset, .unset, .unset, .unset, .unset, .unset, .unset, .unset, .unset] [(.int (1 : Int32)), (.ref b3), (.ref b3)])) (fun t k => XS.iconst X3.here hx rfl (hb hby at_24) k) ?_
  refine own_st (B := T3.setTop (mkF m 26 #[.val (.int arg0), .val (.int arg1), .val (.int v1), .val (.int v2), .unset, .unset, .unset, .unset, .unset, .unset, .unset, .unset, .unset, .unset, .unset] [(.int v2), (.int (1 : Int32)), (.ref b3), (.ref b3)])) (fun t k => XS.iloadN X3.here hx rfl (hb hby at_25) rfl k) ?_
  obtain ⟨_, _, ⟨T7, L7, k7, j7⟩, -, X7, ⟨Lc7, hQ7, l7, y7_, z7_⟩, st7⟩ := X3.specialBack hx (y := (⟨"com/example/stockwright/stockwright/model/PageRequest", "<init>", "(II)V"⟩ : MethodName)) rfl hown (mvT hZ (w_5 hw)) (mvT hZ (w_6 hw)) (mvT hZ (w_7 hw)) (by decide) (backOf (W := 1) (rm1 l Z a0 hw [] b3 (1 : Int32) v2 h3 n0 z4 A3 f5 f6 u3) hZ (w_7 hw) (w_4 hw) (by decide) (by decide)) (g := (mkF m 26 #[.val (.int arg0), .val (.int arg1), .val (.int v1), .val (.int v2), .unset, .unset, .unset, .unset, .unset, .unset, .unset, .unset, .unset, .unset, .unset] [(.int v2), (.int (1 : Int32)), (.ref b3), (.ref b3)])) rfl (by rw [hml]; rfl) (Steps.refl _) (a := b3) (argsL := [(.int (1 : Int32)), (.int v2)]) (rest := [(.ref b3)]) (lenOf own_pd3 rfl) rfl (by show 2 * 0 + _ ≤ _; exact Nat.le_of_eq rfl) (hb hby at_26) (fun _ _ => ⟨rfl, e3, (by decide : 1 + 0 ≤ _), (by decide : 2 + 0 ≤ _)⟩)
  dsimp only [Pt.U, Pt.locs, Pt.cells, Pt.slots] at X7 l7 y7_ z7_ st7 hQ7
  subst l7 y7_ z7_
  obtain ⟨rfl, N7q, K7, p7_0, p7_1, p7_2⟩ := hQ7
  have N7 := Fr.app N0 N7q
  have z8 : n0 ≤ T7.heap.size := Nat.le_trans z4 K7.1
  refine own_ss (B := T7.setTop (mkF m 29 #[.val (.int arg0), .val (.int arg1), .val (.int v1), .val (.int v2), .unset, .unset, .unset, .unset, .unset, .unset, .unset, .unset, .unset, .unset, .unset] [(.ref b3)])) st7 ?_
  refine own_st (B := T7.setTop (mkF m 31 #[.val (.int arg0), .val (.int arg1), .val (.int v1), .val (.int v2), .val (.ref b3), .unset, .unset, .unset, .unset, .unset, .unset, .unset, .unset, .unset, .unset] [])) (fun t k => XS.astore X7.here hx rfl (hb hby at_29) rfl rfl (l' := #[.val (.int arg0), .val (.int arg1), .val (.int v1), .val (.int v2), .val (.ref b3), .unset, .unset, .unset, .unset, .unset, .unset, .unset, .unset, .unset, .unset]) rfl k) ?_
  obtain ⟨T9, h9, X9, e9, E9, A9, D9, -, st9⟩ := newO X7 hx hZ hown (w_2 hw) (w_3 hw) (w_4 hw) rfl (g := (mkF m 31 #[.val (.int arg0), .val (.int arg1), .val (.int v1), .val (.int v2), .val (.ref b3), .unset, .unset, .unset, .unset, .unset, .unset, .unset, .unset, .unset, .unset] [])) rfl (hb hby at_31) (by decide) (by decide)
  obtain ⟨b9, g9⟩ : ∃ z, z = T7.heap.size := ⟨_, rfl⟩
  rw [← g9] at A9 D9 st9
  have q9_b3 : b3 ≠ b9 := Nat.ne_of_lt (Nat.lt_of_lt_of_le p7_0.lt (Nat.le_of_eq g9.symm))
  have u9 : n0 ≤ b9 := Nat.le_trans z8 (Nat.le_of_eq g9.symm)
  have z10 : n0 ≤ h9.size := Nat.le_trans z8 E9.1
  have f11 : Fld Z h9 b9 "com/example/stockwright/stockwright/model/PageRequest" "page" "I" (.int (0 : Int32)) := D9 (Or.inr (w_17 hw)) (ty := .int) (by decide)
  have f12 : Fld Z h9 b9 "com/example/stockwright/stockwright/model/PageRequest" "pageSize" "I" (.int (0 : Int32)) := D9 (Or.inr (w_19 hw)) (ty := .int) (by decide)
  refine own_st (B := T9.setTop (mkF m 34 #[.val (.int arg0), .val (.int arg1), .val (.int v1), .val (.int v2), .val (.ref b3), .unset, .unset, .unset, .unset, .unset, .unset, .unset, .unset, .unset, .unset] [(.ref b9)])) (fun t k => st9 t k) ?_
  refine own_st (B := T9.setTop (mkF m 35 #[.val (.int arg0), .val (.int arg1), .val (.int v1), .val (.int v2), .val (.ref b3), .unset, .unset, .unset, .unset, .unset, .unset, .unset, .unset, .unset, .unset] [(.ref b9), (.ref b9)])) (fun t k => XS.dup X9.here hx rfl (hb hby at_34) rfl rfl k) ?_
  refine own_st (B := T9.setTop (mkF m 36 #[.val (.int arg0), .val (.int arg1), .val (.int v1), .val (.int v2), .val (.ref b3), .unset, .unset, .unset, .unset, .unset, .unset, .unset, .unset, .unset, .unset] [(.int v1), (.ref b9), (.ref b9)])) (fun t k => XS.iloadN X9.here hx rfl (hb hby at_35) rfl k) ?_
  refine own_st (B := T9.setTop (mkF m 37 #[.val (.int arg0), .val (.int arg1), .val (.int v1), .val (.int v2), .val (.ref b3), .unset, .unset, .unset, .unset, .unset, .unset, .unset, .unset, .unset, .unset] [(.int v2), (.int v1), (.ref b9), (.ref b9)])) (fun t k => XS.iloadN X9.here hx rfl (hb hby at_36) rfl k) ?_
  obtain ⟨_, _, ⟨T13, L13, k13, j13⟩, -, X13, ⟨Lc13, hQ13, l13, y13_, z13_⟩, st13⟩ := X9.specialBack hx (y := (⟨"com/example/stockwright/stockwright/model/PageRequest", "<init>", "(II)V"⟩ : MethodName)) rfl hown (mvT hZ (w_5 hw)) (mvT hZ (w_6 hw)) (mvT hZ (w_7 hw)) (by decide) (backOf (W := 1) (rm1 l Z a0 hw [] b9 v1 v2 h9 n0 z10 A9 f11 f12 u9) hZ (w_7 hw) (w_4 hw) (by decide) (by decide)) (g := (mkF m 37 #[.val (.int arg0), .val (.int arg1), .val (.int v1), .val (.int v2), .val (.ref b3), .unset, .unset, .unset, .unset, .unset, .unset, .unset, .unset, .unset, .unset] [(.int v2), (.int v1), (.ref b9), (.ref b9)])) rfl (by rw [hml]; rfl) (Steps.refl _) (a := b9) (argsL := [(.int v1), (.int v2)]) (rest := [(.ref b9)]) (lenOf own_pd3 rfl) rfl (by show 2 * 0 + _ ≤ _; exact Nat.le_of_eq rfl) (hb hby at_37) (fun _ _ => ⟨rfl, e9, (by decide : 2 + 0 ≤ _), (by decide : 4 + 0 ≤ _)⟩)
  dsimp only [Pt.U, Pt.locs, Pt.cells, Pt.slots] at X13 l13 y13_ z13_ st13 hQ13
  subst l13 y13_ z13_
  obtain ⟨rfl, N13q, K13, p13_0, p13_1, p13_2⟩ := hQ13
  have N13 := Fr.app N7 N13q
  have z14 : n0 ≤ T13.heap.size := Nat.le_trans z10 K13.1
  refine own_ss (B := T13.setTop (mkF m 40 #[.val (.int arg0), .val (.int arg1), .val (.int v1), .val (.int v2), .val (.ref b3), .unset, .unset, .unset, .unset, .unset, .unset, .unset, .unset, .unset, .unset] [(.ref b9)])) st13 ?_
  refine own_st (B := T13.setTop (mkF m 42 #[.val (.int arg0), .val (.int arg1), .val (.int v1), .val (.int v2), .val (.ref b3), .val (.ref b9), .unset, .unset, .unset, .unset, .unset, .unset, .unset, .unset, .unset] [])) (fun t k => XS.astore X13.here hx rfl (hb hby at_40) rfl rfl (l' := #[.val (.int arg0), .val (.int arg1), .val (.int v1), .val (.int v2), .val (.ref b3), .val (.ref b9), .unset, .unset, .unset, .unset, .unset, .unset, .unset, .unset, .unset]) rfl k) ?_
  obtain ⟨T15, h15, X15, e15, E15, A15, D15, -, st15⟩ := newO X13 hx hZ hown (w_2 hw) (w_3 hw) (w_4 hw) rfl (g := (mkF m 42 #[.val (.int arg0), .val (.int arg1), .val (.int v1), .val (.int v2), .val (.ref b3), .val (.ref b9), .unset, .unset, .unset, .unset, .unset, .unset, .unset, .unset, .unset] [])) rfl (hb hby at_42) (by decide) (by decide)
  obtain ⟨b15, g15⟩ : ∃ z, z = T13.heap.size := ⟨_, rfl⟩
  rw [← g15] at A15 D15 st15
  have f16 : Exa Z T13.heap b3 "com/example/stockwright/stockwright/model/PageRequest" := ((p7_0.ext E9).keep K13)
  have q15_b3 : b3 ≠ b15 := Nat.ne_of_lt (Nat.lt_of_lt_of_le f16.lt (Nat.le_of_eq g15.symm))
  have q15_b9 : b9 ≠ b15 := Nat.ne_of_lt (Nat.lt_of_lt_of_le p13_0.lt (Nat.le_of_eq g15.symm))
  have u15 : n0 ≤ b15 := Nat.le_trans z14 (Nat.le_of_eq g15.symm)
  have z17 : n0 ≤ h15.size := Nat.le_trans z14 E15.1
  have f18 : Fld Z h15 b15 "com/example/stockwright/stockwright/model/PageRequest" "page" "I" (.int (0 : Int32)) := D15 (Or.inr (w_17 hw)) (ty := .int) (by decide)
  have f19 : Fld Z h15 b15 "com/example/stockwright/stockwright/model/PageRequest" "pageSize" "I" (.int (0 : Int32)) := D15 (Or.inr (w_19 hw)) (ty := .int) (by decide)
  refine own_st (B := T15.setTop (mkF m 45 #[.val (.int arg0), .val (.int arg1), .val (.int v1), .val (.int v2), .val (.ref b3), .val (.ref b9), .unset, .unset, .unset, .unset, .unset, .unset, .unset, .unset, .unset] [(.ref b15)])) (fun t k => st15 t k) ?_
  refine own_st (B := T15.setTop (mkF m 46 #[.val (.int arg0), .val (.int arg1), .val (.int v1), .val (.int v2), .val (.ref b3), .val (.ref b9), .unset, .unset, .unset, .unset, .unset, .unset, .unset, .unset, .unset] [(.ref b15), (.ref b15)])) (fun t k => XS.dup X15.here hx rfl (hb hby at_45) rfl rfl k) ?_
  refine own_st (B := T15.setTop (mkF m 47 #[.val (.int arg0), .val (.int arg1), .val (.int v1), .val (.int v2), .val (.ref b3), .val (.ref b9), .unset, .unset, .unset, .unset, .unset, .unset, .unset, .unset, .unset] [(.int v1), (.ref b15), (.ref b15)])) (fun t k => XS.iloadN X15.here hx rfl (hb hby at_46) rfl k) ?_
  refine own_st (B := T15.setTop (mkF m 48 #[.val (.int arg0), .val (.int arg1), .val (.int v1), .val (.int v2), .val (.ref b3), .val (.ref b9), .unset, .unset, .unset, .unset, .unset, .unset, .unset, .unset, .unset] [(.int (1 : Int32)), (.int v1), (.ref b15), (.ref b15)])) (fun t k => XS.iconst X15.here hx rfl (hb hby at_47) k) ?_
  refine own_st (B := T15.setTop (mkF m 49 #[.val (.int arg0), .val (.int arg1), .val (.int v1), .val (.int v2), .val (.ref b3), .val (.ref b9), .unset, .unset, .unset, .unset, .unset, .unset, .unset, .unset, .unset] [(.int (v1 + (1 : Int32))), (.ref b15), (.ref b15)])) (fun t k => XS.iadd X15.here hx rfl (hb hby at_48) rfl k) ?_
  refine own_st (B := T15.setTop (mkF m 50 #[.val (.int arg0), .val (.int arg1), .val (.int v1), .val (.int v2), .val (.ref b3), .val (.ref b9), .unset, .unset, .unset, .unset, .unset, .unset, .unset, .unset, .unset] [(.int v2), (.int (v1 + (1 : Int32))), (.ref b15), (.ref b15)])) (fun t k => XS.iloadN X15.here hx rfl (hb hby at_49) rfl k) ?_
  obtain ⟨_, _, ⟨T20, L20, k20, j20⟩, -, X20, ⟨Lc20, hQ20, l20, y20_, z20_⟩, st20⟩ := X15.specialBack hx (y := (⟨"com/example/stockwright/stockwright/model/PageRequest", "<init>", "(II)V"⟩ : MethodName)) rfl hown (mvT hZ (w_5 hw)) (mvT hZ (w_6 hw)) (mvT hZ (w_7 hw)) (by decide) (backOf (W := 1) (rm1 l Z a0 hw [] b15 (v1 + (1 : Int32)) v2 h15 n0 z17 A15 f18 f19 u15) hZ (w_7 hw) (w_4 hw) (by decide) (by decide)) (g := (mkF m 50 #[.val (.int arg0), .val (.int arg1), .val (.int v1), .val (.int v2), .val (.ref b3), .val (.ref b9), .unset, .unset, .unset, .unset, .unset, .unset, .unset, .unset, .unset] [(.int v2), (.int (v1 + (1 : Int32))), (.ref b15), (.ref b15)])) rfl (by rw [hml]; rfl) (Steps.refl _) (a := b15) (argsL := [(.int (v1 + (1 : Int32))), (.int v2)]) (rest := [(.ref b15)]) (lenOf own_pd3 rfl) rfl (by show 2 * 0 + _ ≤ _; exact Nat.le_of_eq rfl) (hb hby at_50) (fun _ _ => ⟨rfl, e15, (by decide : 3 + 0 ≤ _), (by decide : 6 + 0 ≤ _)⟩)
  dsimp only [Pt.U, Pt.locs, Pt.cells, Pt.slots] at X20 l20 y20_ z20_ st20 hQ20
  subst l20 y20_ z20_
  obtain ⟨rfl, N20q, K20, p20_0, p20_1, p20_2⟩ := hQ20
  have N20 := Fr.app N13 N20q
  have z21 : n0 ≤ T20.heap.size := Nat.le_trans z17 K20.1
  refine own_ss (B := T20.setTop (mkF m 53 #[.val (.int arg0), .val (.int arg1), .val (.int v1), .val (.int v2), .val (.ref b3), .val (.ref b9), .unset, .unset, .unset, .unset, .unset, .unset, .unset, .unset, .unset] [(.ref b15)])) st20 ?_
  refine own_st (B := T20.setTop (mkF m 55 #[.val (.int arg0), .val (.int arg1), .val (.int v1), .val (.int v2), .val (.ref b3), .val (.ref b9), .val (.ref b15), .unset, .unset, .unset, .unset, .unset, .unset, .unset, .unset] [])) (fun t k => XS.astore X20.here hx rfl (hb hby at_53) rfl rfl (l' := #[.val (.int arg0), .val (.int arg1), .val (.int v1), .val (.int v2), .val (.ref b3), .val (.ref b9), .val (.ref b15), .unset, .unset, .unset, .unset, .unset, .unset, .unset, .unset]) rfl k) ?_
  refine own_st (B := T20.setTop (mkF m 57 #[.val (.int arg0), .val (.int arg1), .val (.int v1), .val (.int v2), .val (.ref b3), .val (.ref b9), .val (.ref b15), .unset, .unset, .unset, .unset, .unset, .unset, .unset, .unset] [(.ref b3)])) (fun t k => XS.aload X20.here hx rfl (hb hby at_55) rfl rfl k) ?_
  have f22 : Fld Z T20.heap b3 "com/example/stockwright/stockwright/model/PageRequest" "page" "I" (.int (1 : Int32)) := ((((p7_1.ext E9).keep K13 (ninS q9_b3 nin0)).ext E15).keep K20 (ninS q15_b3 nin0))
  have f23 : Fld Z T20.heap b3 "com/example/stockwright/stockwright/model/PageRequest" "pageSize" "I" (.int v2) := ((((p7_2.ext E9).keep K13 (ninS q9_b3 nin0)).ext E15).keep K20 (ninS q15_b3 nin0))
  have f25 : Exa Z T20.heap b3 "com/example/stockwright/stockwright/model/PageRequest" := ((f16.ext E15).keep K20)
  obtain ⟨cq24, kq24, q24a, q24b, q24c⟩ := isOf hZ rfl f25
  obtain ⟨_, _, ⟨T24, L24, k24, j24⟩, -, X24, ⟨Lc24, hQ24, l24, y24_, z24_⟩, st24⟩ := X20.virtualBack hx (y := (⟨"com/example/stockwright/stockwright/model/PageRequest", "offset", "()J"⟩ : MethodName)) (z := (⟨"com/example/stockwright/stockwright/model/PageRequest", "offset", "()J"⟩ : MethodName)) hown (mvT hZ (w_20 hw)) (mvT hZ (w_21 hw)) (notFace_of_selects (args := #[]) (mvT hZ (w_23 hw))) (mvT hZ (w_23 hw)) (mvT hZ (w_22 hw)) (by decide) (backOf (W := 0) (rm4 l Z a0 hw [] b3 (1 : Int32) v2 T20.heap n0 z21 f22 f23) hZ (w_24 hw) (w_4 hw) (by decide) (by decide)) q24a q24c (g := (mkF m 57 #[.val (.int arg0), .val (.int arg1), .val (.int v1), .val (.int v2), .val (.ref b3), .val (.ref b9), .val (.ref b15), .unset, .unset, .unset, .unset, .unset, .unset, .unset, .unset] [(.ref b3)])) rfl (by rw [hml]; rfl) (Steps.refl _) (argsL := []) (rest := []) (lenOf own_pd4 rfl) rfl (by show 2 * 0 + _ ≤ _; exact Nat.le_of_eq rfl) (hb hby at_57) (fun _ _ => ⟨rfl, rfl, (by decide : 3 + 0 ≤ _), (by decide : 6 + 0 ≤ _)⟩)
  dsimp only [Pt.U, Pt.locs, Pt.cells, Pt.slots] at X24 l24 y24_ z24_ st24 hQ24
  subst l24 y24_ z24_
  obtain ⟨rfl, N24q, e24q⟩ := hQ24
  have N24 := Fr.app N20 N24q
  refine own_ss (B := T24.setTop (mkF m 60 #[.val (.int arg0), .val (.int arg1), .val (.int v1), .val (.int v2), .val (.ref b3), .val (.ref b9), .val (.ref b15), .unset, .unset, .unset, .unset, .unset, .unset, .unset, .unset] [(.long (((1 : Int32) - (1 : Int32)).toInt64 * (v2.toInt64)))])) st24 ?_
  obtain ⟨v26, ev26⟩ : ∃ z : Int64, z = (((1 : Int32) - (1 : Int32)).toInt64 * (v2.toInt64)) := ⟨_, rfl⟩
  rw [← ev26]
  refine own_st (B := T24.setTop (mkF m 62 #[.val (.int arg0), .val (.int arg1), .val (.int v1), .val (.int v2), .val (.ref b3), .val (.ref b9), .val (.ref b15), .val (.long v26), .second, .unset, .unset, .unset, .unset, .unset, .unset] [])) (fun t k => XS.lstore X24.here hx rfl (hb hby at_60) rfl (l' := #[.val (.int arg0), .val (.int arg1), .val (.int v1), .val (.int v2), .val (.ref b3), .val (.ref b9), .val (.ref b15), .val (.long v26), .second, .unset, .unset, .unset, .unset, .unset, .unset]) rfl k) ?_
  refine own_st (B := T24.setTop (mkF m 64 #[.val (.int arg0), .val (.int arg1), .val (.int v1), .val (.int v2), .val (.ref b3), .val (.ref b9), .val (.ref b15), .val (.long v26), .second, .unset, .unset, .unset, .unset, .unset, .unset] [(.ref b9)])) (fun t k => XS.aload X24.here hx rfl (hb hby at_62) rfl rfl k) ?_
  have f27 : Fld Z T20.heap b9 "com/example/stockwright/stockwright/model/PageRequest" "page" "I" (.int v1) := ((p13_1.ext E15).keep K20 (ninS q15_b9 nin0))
  have f28 : Fld Z T20.heap b9 "com/example/stockwright/stockwright/model/PageRequest" "pageSize" "I" (.int v2) := ((p13_2.ext E15).keep K20 (ninS q15_b9 nin0))
  have f30 : Exa Z T20.heap b9 "com/example/stockwright/stockwright/model/PageRequest" := ((p13_0.ext E15).keep K20)
  obtain ⟨cq29, kq29, q29a, q29b, q29c⟩ := isOf hZ e24q f30
  obtain ⟨_, _, ⟨T29, L29, k29, j29⟩, -, X29, ⟨Lc29, hQ29, l29, y29_, z29_⟩, st29⟩ := X24.virtualBack hx (y := (⟨"com/example/stockwright/stockwright/model/PageRequest", "offset", "()J"⟩ : MethodName)) (z := (⟨"com/example/stockwright/stockwright/model/PageRequest", "offset", "()J"⟩ : MethodName)) hown (mvT hZ (w_20 hw)) (mvT hZ (w_21 hw)) (notFace_of_selects (args := #[]) (mvT hZ (w_23 hw))) (mvT hZ (w_23 hw)) (mvT hZ (w_22 hw)) (by decide) (backOf (W := 0) (rm4 l Z a0 hw [] b9 v1 v2 T20.heap n0 z21 f27 f28) hZ (w_24 hw) (w_4 hw) (by decide) (by decide)) q29a q29c (g := (mkF m 64 #[.val (.int arg0), .val (.int arg1), .val (.int v1), .val (.int v2), .val (.ref b3), .val (.ref b9), .val (.ref b15), .val (.long v26), .second, .unset, .unset, .unset, .unset, .unset, .unset] [(.ref b9)])) rfl (by rw [hml]; rfl) (Steps.refl _) (argsL := []) (rest := []) (lenOf own_pd4 rfl) rfl (by show 2 * 0 + _ ≤ _; exact Nat.le_of_eq rfl) (hb hby at_64) (fun _ _ => ⟨rfl, e24q, (by decide : 3 + 0 ≤ _), (by decide : 6 + 0 ≤ _)⟩)
  dsimp only [Pt.U, Pt.locs, Pt.cells, Pt.slots] at X29 l29 y29_ z29_ st29 hQ29
  subst l29 y29_ z29_
  obtain ⟨rfl, N29q, e29q⟩ := hQ29
  have N29 := Fr.app N24 N29q
  refine own_ss (B := T29.setTop (mkF m 67 #[.val (.int arg0), .val (.int arg1), .val (.int v1), .val (.int v2), .val (.ref b3), .val (.ref b9), .val (.ref b15), .val (.long v26), .second, .unset, .unset, .unset, .unset, .unset, .unset] [(.long ((v1 - (1 : Int32)).toInt64 * (v2.toInt64)))])) st29 ?_
  obtain ⟨v31, ev31⟩ : ∃ z : Int64, z = ((v1 - (1 : Int32)).toInt64 * (v2.toInt64)) := ⟨_, rfl⟩
  rw [← ev31]
  refine own_st (B := T29.setTop (mkF m 69 #[.val (.int arg0), .val (.int arg1), .val (.int v1), .val (.int v2), .val (.ref b3), .val (.ref b9), .val (.ref b15), .val (.long v26), .second, .val (.long v31), .second, .unset, .unset, .unset, .unset] [])) (fun t k => XS.lstore X29.here hx rfl (hb hby at_67) rfl (l' := #[.val (.int arg0), .val (.int arg1), .val (.int v1), .val (.int v2), .val (.ref b3), .val (.ref b9), .val (.ref b15), .val (.long v26), .second, .val (.long v31), .second, .unset, .unset, .unset, .unset]) rfl k) ?_
  refine own_st (B := T29.setTop (mkF m 71 #[.val (.int arg0), .val (.int arg1), .val (.int v1), .val (.int v2), .val (.ref b3), .val (.ref b9), .val (.ref b15), .val (.long v26), .second, .val (.long v31), .second, .unset, .unset, .unset, .unset] [(.ref b15)])) (fun t k => XS.aload X29.here hx rfl (hb hby at_69) rfl rfl k) ?_
  obtain ⟨cq32, kq32, q32a, q32b, q32c⟩ := isOf hZ e29q p20_0
  obtain ⟨_, _, ⟨T32, L32, k32, j32⟩, -, X32, ⟨Lc32, hQ32, l32, y32_, z32_⟩, st32⟩ := X29.virtualBack hx (y := (⟨"com/example/stockwright/stockwright/model/PageRequest", "offset", "()J"⟩ : MethodName)) (z := (⟨"com/example/stockwright/stockwright/model/PageRequest", "offset", "()J"⟩ : MethodName)) hown (mvT hZ (w_20 hw)) (mvT hZ (w_21 hw)) (notFace_of_selects (args := #[]) (mvT hZ (w_23 hw))) (mvT hZ (w_23 hw)) (mvT hZ (w_22 hw)) (by decide) (backOf (W := 0) (rm4 l Z a0 hw [] b15 (v1 + (1 : Int32)) v2 T20.heap n0 z21 p20_1 p20_2) hZ (w_24 hw) (w_4 hw) (by decide) (by decide)) q32a q32c (g := (mkF m 71 #[.val (.int arg0), .val (.int arg1), .val (.int v1), .val (.int v2), .val (.ref b3), .val (.ref b9), .val (.ref b15), .val (.long v26), .second, .val (.long v31), .second, .unset, .unset, .unset, .unset] [(.ref b15)])) rfl (by rw [hml]; rfl) (Steps.refl _) (argsL := []) (rest := []) (lenOf own_pd4 rfl) rfl (by show 2 * 0 + _ ≤ _; exact Nat.le_of_eq rfl) (hb hby at_71) (fun _ _ => ⟨rfl, e29q, (by decide : 3 + 0 ≤ _), (by decide : 6 + 0 ≤ _)⟩)
  dsimp only [Pt.U, Pt.locs, Pt.cells, Pt.slots] at X32 l32 y32_ z32_ st32 hQ32
  subst l32 y32_ z32_
  obtain ⟨rfl, N32q, e32q⟩ := hQ32
  have N32 := Fr.app N29 N32q
  refine own_ss (B := T32.setTop (mkF m 74 #[.val (.int arg0), .val (.int arg1), .val (.int v1), .val (.int v2), .val (.ref b3), .val (.ref b9), .val (.ref b15), .val (.long v26), .second, .val (.long v31), .second, .unset, .unset, .unset, .unset] [(.long (((v1 + (1 : Int32)) - (1 : Int32)).toInt64 * (v2.toInt64)))])) st32 ?_
  obtain ⟨v33, ev33⟩ : ∃ z : Int64, z = (((v1 + (1 : Int32)) - (1 : Int32)).toInt64 * (v2.toInt64)) := ⟨_, rfl⟩
  rw [← ev33]
  refine own_st (B := T32.setTop (mkF m 76 #[.val (.int arg0), .val (.int arg1), .val (.int v1), .val (.int v2), .val (.ref b3), .val (.ref b9), .val (.ref b15), .val (.long v26), .second, .val (.long v31), .second, .val (.long v33), .second, .unset, .unset] [])) (fun t k => XS.lstore X32.here hx rfl (hb hby at_74) rfl (l' := #[.val (.int arg0), .val (.int arg1), .val (.int v1), .val (.int v2), .val (.ref b3), .val (.ref b9), .val (.ref b15), .val (.long v26), .second, .val (.long v31), .second, .val (.long v33), .second, .unset, .unset]) rfl k) ?_
  refine own_st (B := T32.setTop (mkF m 78 #[.val (.int arg0), .val (.int arg1), .val (.int v1), .val (.int v2), .val (.ref b3), .val (.ref b9), .val (.ref b15), .val (.long v26), .second, .val (.long v31), .second, .val (.long v33), .second, .unset, .unset] [(.long v26)])) (fun t k => XS.lload X32.here hx rfl (hb hby at_76) rfl k) ?_
  refine own_st (B := T32.setTop (mkF m 79 #[.val (.int arg0), .val (.int arg1), .val (.int v1), .val (.int v2), .val (.ref b3), .val (.ref b9), .val (.ref b15), .val (.long v26), .second, .val (.long v31), .second, .val (.long v33), .second, .unset, .unset] [(.long (0 : Int64)), (.long v26)])) (fun t k => XS.lconst X32.here hx rfl (hb hby at_78) k) ?_
  refine own_st (B := T32.setTop (mkF m 80 #[.val (.int arg0), .val (.int arg1), .val (.int v1), .val (.int v2), .val (.ref b3), .val (.ref b9), .val (.ref b15), .val (.long v26), .second, .val (.long v31), .second, .val (.long v33), .second, .unset, .unset] [(.int (XT.cmpL v26 (0 : Int64)))])) (fun t k => XS.lcmp X32.here hx rfl (hb hby at_79) rfl k) ?_
  have hc34 : v26 = (0 : Int64) := by
    exact own_A1 (q := 0) ev26
  refine own_st (B := T32.setTop (mkF m 85 #[.val (.int arg0), .val (.int arg1), .val (.int v1), .val (.int v2), .val (.ref b3), .val (.ref b9), .val (.ref b15), .val (.long v26), .second, .val (.long v31), .second, .val (.long v33), .second, .unset, .unset] [])) (fun t k => XS.ifYes X32.here hx rfl (pc0 := 80) (pc' := 85) rfl (hb hby at_80) rfl (XT.ll_eq_t hc34) (by decide) (by decide) k) ?_
  refine own_st (B := T32.setTop (mkF m 87 #[.val (.int arg0), .val (.int arg1), .val (.int v1), .val (.int v2), .val (.ref b3), .val (.ref b9), .val (.ref b15), .val (.long v26), .second, .val (.long v31), .second, .val (.long v33), .second, .unset, .unset] [(.long v31)])) (fun t k => XS.lload X32.here hx rfl (hb hby at_85) rfl k) ?_
  refine own_st (B := T32.setTop (mkF m 88 #[.val (.int arg0), .val (.int arg1), .val (.int v1), .val (.int v2), .val (.ref b3), .val (.ref b9), .val (.ref b15), .val (.long v26), .second, .val (.long v31), .second, .val (.long v33), .second, .unset, .unset] [(.long (0 : Int64)), (.long v31)])) (fun t k => XS.lconst X32.here hx rfl (hb hby at_87) k) ?_
  refine own_st (B := T32.setTop (mkF m 89 #[.val (.int arg0), .val (.int arg1), .val (.int v1), .val (.int v2), .val (.ref b3), .val (.ref b9), .val (.ref b15), .val (.long v26), .second, .val (.long v31), .second, .val (.long v33), .second, .unset, .unset] [(.int (XT.cmpL v31 (0 : Int64)))])) (fun t k => XS.lcmp X32.here hx rfl (hb hby at_88) rfl k) ?_
  have hc35 : ¬ (v31 < (0 : Int64)) := by
    exact own_A2 ev31 (own_pg ev1) (own_sz ev2)
  refine own_st (B := T32.setTop (mkF m 94 #[.val (.int arg0), .val (.int arg1), .val (.int v1), .val (.int v2), .val (.ref b3), .val (.ref b9), .val (.ref b15), .val (.long v26), .second, .val (.long v31), .second, .val (.long v33), .second, .unset, .unset] [])) (fun t k => XS.ifYes X32.here hx rfl (pc0 := 89) (pc' := 94) rfl (hb hby at_89) rfl (XT.ll_ge_t hc35) (by decide) (by decide) k) ?_
  refine own_st (B := T32.setTop (mkF m 96 #[.val (.int arg0), .val (.int arg1), .val (.int v1), .val (.int v2), .val (.ref b3), .val (.ref b9), .val (.ref b15), .val (.long v26), .second, .val (.long v31), .second, .val (.long v33), .second, .unset, .unset] [(.long v33)])) (fun t k => XS.lload X32.here hx rfl (hb hby at_94) rfl k) ?_
  refine own_st (B := T32.setTop (mkF m 98 #[.val (.int arg0), .val (.int arg1), .val (.int v1), .val (.int v2), .val (.ref b3), .val (.ref b9), .val (.ref b15), .val (.long v26), .second, .val (.long v31), .second, .val (.long v33), .second, .unset, .unset] [(.long v31), (.long v33)])) (fun t k => XS.lload X32.here hx rfl (hb hby at_96) rfl k) ?_
  refine own_st (B := T32.setTop (mkF m 99 #[.val (.int arg0), .val (.int arg1), .val (.int v1), .val (.int v2), .val (.ref b3), .val (.ref b9), .val (.ref b15), .val (.long v26), .second, .val (.long v31), .second, .val (.long v33), .second, .unset, .unset] [(.long (v33 - v31))])) (fun t k => XS.lsub X32.here hx rfl (hb hby at_98) rfl k) ?_
  refine own_st (B := T32.setTop (mkF m 100 #[.val (.int arg0), .val (.int arg1), .val (.int v1), .val (.int v2), .val (.ref b3), .val (.ref b9), .val (.ref b15), .val (.long v26), .second, .val (.long v31), .second, .val (.long v33), .second, .unset, .unset] [(.int v2), (.long (v33 - v31))])) (fun t k => XS.iloadN X32.here hx rfl (hb hby at_99) rfl k) ?_
  refine own_st (B := T32.setTop (mkF m 101 #[.val (.int arg0), .val (.int arg1), .val (.int v1), .val (.int v2), .val (.ref b3), .val (.ref b9), .val (.ref b15), .val (.long v26), .second, .val (.long v31), .second, .val (.long v33), .second, .unset, .unset] [(.long (v2.toInt64)), (.long (v33 - v31))])) (fun t k => XS.i2l X32.here hx rfl (hb hby at_100) rfl k) ?_
  refine own_st (B := T32.setTop (mkF m 102 #[.val (.int arg0), .val (.int arg1), .val (.int v1), .val (.int v2), .val (.ref b3), .val (.ref b9), .val (.ref b15), .val (.long v26), .second, .val (.long v31), .second, .val (.long v33), .second, .unset, .unset] [(.int (XT.cmpL (v33 - v31) (v2.toInt64)))])) (fun t k => XS.lcmp X32.here hx rfl (hb hby at_101) rfl k) ?_
  have hc36 : (v33 - v31) = (v2.toInt64) := by
    exact own_A3 ev31 ev33 (own_pg ev1) (own_sz ev2)
  refine own_st (B := T32.setTop (mkF m 107 #[.val (.int arg0), .val (.int arg1), .val (.int v1), .val (.int v2), .val (.ref b3), .val (.ref b9), .val (.ref b15), .val (.long v26), .second, .val (.long v31), .second, .val (.long v33), .second, .unset, .unset] [])) (fun t k => XS.ifYes X32.here hx rfl (pc0 := 102) (pc' := 107) rfl (hb hby at_102) rfl (XT.ll_eq_t hc36) (by decide) (by decide) k) ?_
  refine own_st (B := T32.setTop (mkF m 108 #[.val (.int arg0), .val (.int arg1), .val (.int v1), .val (.int v2), .val (.ref b3), .val (.ref b9), .val (.ref b15), .val (.long v26), .second, .val (.long v31), .second, .val (.long v33), .second, .unset, .unset] [(.int v1)])) (fun t k => XS.iloadN X32.here hx rfl (hb hby at_107) rfl k) ?_
  refine own_st (B := T32.setTop (mkF m 109 #[.val (.int arg0), .val (.int arg1), .val (.int v1), .val (.int v2), .val (.ref b3), .val (.ref b9), .val (.ref b15), .val (.long v26), .second, .val (.long v31), .second, .val (.long v33), .second, .unset, .unset] [(.long (v1.toInt64))])) (fun t k => XS.i2l X32.here hx rfl (hb hby at_108) rfl k) ?_
  refine own_st (B := T32.setTop (mkF m 110 #[.val (.int arg0), .val (.int arg1), .val (.int v1), .val (.int v2), .val (.ref b3), .val (.ref b9), .val (.ref b15), .val (.long v26), .second, .val (.long v31), .second, .val (.long v33), .second, .unset, .unset] [(.int v2), (.long (v1.toInt64))])) (fun t k => XS.iloadN X32.here hx rfl (hb hby at_109) rfl k) ?_
  refine own_st (B := T32.setTop (mkF m 111 #[.val (.int arg0), .val (.int arg1), .val (.int v1), .val (.int v2), .val (.ref b3), .val (.ref b9), .val (.ref b15), .val (.long v26), .second, .val (.long v31), .second, .val (.long v33), .second, .unset, .unset] [(.long (v2.toInt64)), (.long (v1.toInt64))])) (fun t k => XS.i2l X32.here hx rfl (hb hby at_110) rfl k) ?_
  refine own_st (B := T32.setTop (mkF m 112 #[.val (.int arg0), .val (.int arg1), .val (.int v1), .val (.int v2), .val (.ref b3), .val (.ref b9), .val (.ref b15), .val (.long v26), .second, .val (.long v31), .second, .val (.long v33), .second, .unset, .unset] [(.long ((v1.toInt64) * (v2.toInt64)))])) (fun t k => XS.lmul X32.here hx rfl (hb hby at_111) rfl k) ?_
  refine own_st (B := T32.setTop (mkF m 113 #[.val (.int arg0), .val (.int arg1), .val (.int v1), .val (.int v2), .val (.ref b3), .val (.ref b9), .val (.ref b15), .val (.long v26), .second, .val (.long v31), .second, .val (.long v33), .second, .unset, .unset] [(.int v2), (.long ((v1.toInt64) * (v2.toInt64)))])) (fun t k => XS.iloadN X32.here hx rfl (hb hby at_112) rfl k) ?_
  refine own_st (B := T32.setTop (mkF m 114 #[.val (.int arg0), .val (.int arg1), .val (.int v1), .val (.int v2), .val (.ref b3), .val (.ref b9), .val (.ref b15), .val (.long v26), .second, .val (.long v31), .second, .val (.long v33), .second, .unset, .unset] [(.long (v2.toInt64)), (.long ((v1.toInt64) * (v2.toInt64)))])) (fun t k => XS.i2l X32.here hx rfl (hb hby at_113) rfl k) ?_
  refine own_st (B := T32.setTop (mkF m 115 #[.val (.int arg0), .val (.int arg1), .val (.int v1), .val (.int v2), .val (.ref b3), .val (.ref b9), .val (.ref b15), .val (.long v26), .second, .val (.long v31), .second, .val (.long v33), .second, .unset, .unset] [(.long (((v1.toInt64) * (v2.toInt64)) - (v2.toInt64)))])) (fun t k => XS.lsub X32.here hx rfl (hb hby at_114) rfl k) ?_
  obtain ⟨v37, ev37⟩ : ∃ z : Int64, z = (((v1.toInt64) * (v2.toInt64)) - (v2.toInt64)) := ⟨_, rfl⟩
  rw [← ev37]
  refine own_st (B := T32.setTop (mkF m 117 #[.val (.int arg0), .val (.int arg1), .val (.int v1), .val (.int v2), .val (.ref b3), .val (.ref b9), .val (.ref b15), .val (.long v26), .second, .val (.long v31), .second, .val (.long v33), .second, .val (.long v37), .second] [])) (fun t k => XS.lstore X32.here hx rfl (hb hby at_115) rfl (l' := #[.val (.int arg0), .val (.int arg1), .val (.int v1), .val (.int v2), .val (.ref b3), .val (.ref b9), .val (.ref b15), .val (.long v26), .second, .val (.long v31), .second, .val (.long v33), .second, .val (.long v37), .second]) rfl k) ?_
  refine own_st (B := T32.setTop (mkF m 119 #[.val (.int arg0), .val (.int arg1), .val (.int v1), .val (.int v2), .val (.ref b3), .val (.ref b9), .val (.ref b15), .val (.long v26), .second, .val (.long v31), .second, .val (.long v33), .second, .val (.long v37), .second] [(.long v31)])) (fun t k => XS.lload X32.here hx rfl (hb hby at_117) rfl k) ?_
  refine own_st (B := T32.setTop (mkF m 121 #[.val (.int arg0), .val (.int arg1), .val (.int v1), .val (.int v2), .val (.ref b3), .val (.ref b9), .val (.ref b15), .val (.long v26), .second, .val (.long v31), .second, .val (.long v33), .second, .val (.long v37), .second] [(.long v37), (.long v31)])) (fun t k => XS.lload X32.here hx rfl (hb hby at_119) rfl k) ?_
  refine own_st (B := T32.setTop (mkF m 122 #[.val (.int arg0), .val (.int arg1), .val (.int v1), .val (.int v2), .val (.ref b3), .val (.ref b9), .val (.ref b15), .val (.long v26), .second, .val (.long v31), .second, .val (.long v33), .second, .val (.long v37), .second] [(.int (XT.cmpL v31 v37))])) (fun t k => XS.lcmp X32.here hx rfl (hb hby at_121) rfl k) ?_
  have hc38 : v31 = v37 := by
    exact own_A4 ev31 ev37 (own_pg ev1) (own_sz ev2)
  refine own_st (B := T32.setTop (mkF m 125 #[.val (.int arg0), .val (.int arg1), .val (.int v1), .val (.int v2), .val (.ref b3), .val (.ref b9), .val (.ref b15), .val (.long v26), .second, .val (.long v31), .second, .val (.long v33), .second, .val (.long v37), .second] [])) (fun t k => XS.ifNo X32.here hx rfl (hb hby at_122) rfl (XT.ll_ne_f hc38) k) ?_
  refine own_st (B := T32.setTop (mkF m 126 #[.val (.int arg0), .val (.int arg1), .val (.int v1), .val (.int v2), .val (.ref b3), .val (.ref b9), .val (.ref b15), .val (.long v26), .second, .val (.long v31), .second, .val (.long v33), .second, .val (.long v37), .second] [(.int (1 : Int32))])) (fun t k => XS.iconst X32.here hx rfl (hb hby at_125) k) ?_
  refine own_st (B := T32.setTop (mkF m 130 #[.val (.int arg0), .val (.int arg1), .val (.int v1), .val (.int v2), .val (.ref b3), .val (.ref b9), .val (.ref b15), .val (.long v26), .second, .val (.long v31), .second, .val (.long v33), .second, .val (.long v37), .second] [(.int (1 : Int32))])) (fun t k => XS.goto X32.here hx rfl (pc0 := 126) (pc' := 130) rfl (hb hby at_126) (by decide) (by decide) k) ?_
  refine own_retN X32 hx hlk (t := .boolean) Bd.returns (by simp) rfl (hb hby at_130) (by decide) (by decide) ?_
  show Q0 Z arg0 arg1 h0 n0 _ T32.heap _
  rw [e32q]
  exact ⟨rfl, N32⟩
set_option maxHeartbeats 40000000 in
theorem comes_1 {Post : Tables → Env → Array Value → State → Outcome → State → Prop} (hpost : ∀ tb e args s v u, (limb_1_1.after args s (.returned v) u = true ∧ limb_1_2.after args s (.returned v) u = true ∧ True) → FrameEnd s (.returned v) u (Jvm.fieldLocs frame_1_writes args s ++ Jvm.arrayLocs frame_1_arrays args s ++ Jvm.staticLocs frame_1_statics s) 16 128 → Post tb e args s (.returned v) u) :
    ArmFor flags0 classFile x code maxLocals ret World_1 tables_1 room_1 Calls_1 rest_1 Pre_1 Post := by
  intro l hfl _ _ p e ha hc hk s m args below hf hA hF happ hP
  obtain ⟨hcalls, hrest, hpre⟩ := hP
  obtain ⟨-, -, -, hnamed, -, -, -, hat⟩ := (Spec.applies_iff hf).mp happ
  obtain ⟨hg, hn⟩ := and_e (Cond.before_iff.mp (show (Jvm.Cond.and given_1 narrow_1).before args s = true from hpre))
  obtain ⟨g1a, g1b⟩ := and_e hg
  obtain ⟨g2a, g2b⟩ := and_e g1b
  obtain ⟨w0, w1, rfl⟩ : ∃ w0 w1 : Value, args = #[w0, w1] := by
    have hs : args.size = 2 := by simpa [Cond.value, given_1] using g1a
    obtain ⟨L⟩ := args
    match L, hs with
    | [w0, w1], _ => exact ⟨w0, w1, rfl⟩
  have hw := fun d (hd : d ∈ tables_1) => atoms_spec (ws := Jvm.Cond.code x code maxLocals ret :: tables_1) hat d (List.mem_cons_of_mem _ hd)
  have hfit : Fit s := fun {y c} hc i hi => by
    obtain ⟨ha, rfl⟩ := Array.getElem?_eq_some_iff.mp hc
    have q := List.all_eq_true.mp ((Array.all_eq_true_iff_forall_mem.mp hF) _ (Array.getElem_mem ha)) i (List.mem_range.mpr hi)
    simpa [Array.getElem?_eq_getElem hi] using q
  obtain ⟨i0, ei0⟩ := is_v g2a
  obtain rfl : w0 = (.int i0) := Option.some.inj ei0
  obtain ⟨i1, ei1⟩ := is_v g2b
  obtain rfl : w1 = (.int i1) := Option.some.inj ei1
  obtain ⟨n, o, h1, h2, h3, _, L, rfl, ⟨rfl, N⟩, hq⟩ := rm0 l s _ hw tables_1 i0 i1 s.heap s.heap.size (Nat.le_refl _)  p e ha hc hk s m _ below hf ((Spec.applies_iff_loose hf).mp happ).1 ⟨rfl, State.Warmed39.refl s, rfl⟩ trivial
  refine ⟨n, _, h1, h2, h3, hpost _ _ _ _ _ _ ⟨Cond.after_iff.mpr rfl, Cond.after_iff.mpr (eq_i res_at (Term.int_eval (1)) rfl), trivial⟩ ⟨hq.1, hq.2.1, (hq.2.2.sift fun y hy => Or.inr (N y hy)).mono (by decide) (by decide)⟩⟩
theorem main_1_1 : Claimed_1_1 := comes_1 fun _ _ _ _ _ _ h hF => ⟨h.1, hF⟩
theorem main_1_2 : Claimed_1_2 := comes_1 fun _ _ _ _ _ _ h hF => ⟨h.2.1, hF⟩
end Jvm.Pilot.@@N@@
namespace Jvm.Pilot.@@N@@
open Jvm Jvm.ClassFile Sem Op Lib Jvm.Free Jvm.Stand Jvm.Pilot.@@N@@.Jvm.D
/-! MADE BY PROGRAM (witnessworld.py) out of the Statement's table words and the real class files: 10 classes; the members and pool entries that the words name. The judged class is class 1, her method 1. -/
namespace start1
open Jvm.ClassFile
def u (s : String) : CpInfo := .utf8 (stringToUtf16 s)
/-- a pool by its gaps: so many unusable entries, then the entry; so many at the end -/
def gap : Nat → List CpInfo → List CpInfo
  | 0, r => r
  | n + 1, r => .unusable :: gap n r
def poolList (es : List (Nat × CpInfo)) (last : Nat) : List CpInfo := es.foldr (fun e r => gap e.1 (e.2 :: r)) (gap last [])
def pool (es : List (Nat × CpInfo)) (last : Nat) : Array CpInfo := ⟨poolList es last⟩
def fileOf (pool : Array CpInfo) (this : Nat) (attrs : Array Attribute := #[]) (ms : Array MethodInfo := #[]) (fl : Nat := 33) (sup : Nat := 0) (ifs : Array Nat := #[]) (fds : Array FieldInfo := #[]) : ClassFile where
  minorVersion := 0
  majorVersion := 65
  constantPool := pool
  accessFlags := fl
  thisClass := this
  superClass := sup
  interfaces := ifs
  fields := fds
  methods := ms
  attributes := attrs
def plain (name : String) (sup : Option ClassId) : Class where
  name := name
  kind := .ordinary
  loader := none
  accessFlags := 33
  super := sup
  interfaces := #[]
  cf := none
  fields := #[]
  methods := #[]
  instanceTypes := #[]
  staticTypes := #[]
  resolved := #[]
  callSites := []
  init := .initialized
  statics := none
  mirror := none

def pool0 : Array CpInfo := pool [(5, u "<init>"), (0, u "()V"), (1, .class_ 10), (1, u "java/lang/Object")] 113

def k0c0 : Code := { maxStack := 0, maxLocals := 1, code := object_method_1_code, exceptionTable := #[], attributes := #[] }
def k0m0 : Method := { name := "<init>", desc := "()V", sig := { parameters := [], returnType := none }, accessFlags := 1, code := some k0c0 }
/-- java/lang/Object -/
def k0 : Class := { plain "java/lang/Object" none with
  accessFlags := 33
  interfaces := #[]
  cf := some (fileOf pool0 8 #[] #[{ accessFlags := 1, nameIndex := 5, descriptorIndex := 6, attributes := #[] }] 33 0 #[] #[])
  fields := #[]
  methods := #[k0m0]
  instanceTypes := #[]
  staticTypes := #[]
  resolved := Array.replicate 124 none
  statics := none }

def pool1 : Array CpInfo := pool [(2, .class_ 4), (1, u "java/lang/Object"), (0, u "<init>"), (0, u "()V"), (0, .integer 2147483647), (0, .integer 2147483646), (0, .class_ 10), (0, u "com/example/stockwright/stockwright/model/PageRequest"), (0, .methodref 9 12), (0, .nameAndType 5 13), (0, u "(II)V"), (0, .methodref 9 15), (0, .nameAndType 16 17), (0, u "offset"), (0, u "()J"), (0, .class_ 19), (0, u "com/example/stockwright/stockwright/model/PageRequestOffsetPinLaw"), (2, u "law"), (0, u "(II)Z")] 3

def k1m0 : Method := { name := "<init>", desc := "()V", sig := { parameters := [], returnType := none }, accessFlags := 1, code := none }
def k1c1 : Code := { maxStack := 4, maxLocals := 15, code := code, exceptionTable := #[], attributes := #[] }
def k1m1 : Method := { name := "law", desc := "(II)Z", sig := { parameters := [.int, .int], returnType := some .boolean }, accessFlags := 9, code := some k1c1 }
/-- com/example/stockwright/stockwright/model/PageRequestOffsetPinLaw -/
def k1 : Class := { plain "com/example/stockwright/stockwright/model/PageRequestOffsetPinLaw" (some 0) with
  accessFlags := 49
  interfaces := #[]
  cf := some (fileOf pool1 18 #[] #[{ accessFlags := 1, nameIndex := 5, descriptorIndex := 6, attributes := #[] }, { accessFlags := 9, nameIndex := 22, descriptorIndex := 23, attributes := #[] }] 49 2 #[] #[])
  fields := #[]
  methods := #[k1m0, k1m1]
  instanceTypes := #[]
  staticTypes := #[]
  resolved := Array.replicate 27 none
  statics := none }

def pool2 : Array CpInfo := pool [(1, .methodref 2 3), (0, .class_ 4), (0, .nameAndType 5 6), (0, u "java/lang/Object"), (0, u "<init>"), (0, u "()V"), (0, .class_ 8), (0, u "java/lang/Record")] 13

def k2c0 : Code := { maxStack := 1, maxLocals := 1, code := jdk_30_method_1_code, exceptionTable := #[], attributes := #[] }
def k2m0 : Method := { name := "<init>", desc := "()V", sig := { parameters := [], returnType := none }, accessFlags := 4, code := some k2c0 }
/-- java/lang/Record -/
def k2 : Class := { plain "java/lang/Record" (some 0) with
  accessFlags := 1057
  interfaces := #[]
  cf := some (fileOf pool2 7 #[] #[{ accessFlags := 4, nameIndex := 5, descriptorIndex := 6, attributes := #[] }] 1057 2 #[] #[])
  fields := #[]
  methods := #[k2m0]
  instanceTypes := #[]
  staticTypes := #[]
  resolved := Array.replicate 22 none
  statics := none }

def pool3 : Array CpInfo := pool [(1, .methodref 2 3), (0, .class_ 4), (0, .nameAndType 5 6), (0, u "java/lang/Record"), (0, u "<init>"), (0, u "()V"), (0, .fieldref 8 9), (0, .class_ 10), (0, .nameAndType 11 12), (0, u "com/example/stockwright/stockwright/model/PageRequest"), (0, u "page"), (0, u "I"), (0, .fieldref 8 14), (0, .nameAndType 15 12), (0, u "pageSize"), (12, u "FIRST_PAGE"), (2, u "DEFAULT_PAGE_SIZE"), (1, u "MAX_PAGE_SIZE"), (1, u "(II)V"), (3, u "offset"), (0, u "()J")] 24

def k3c0 : Code := { maxStack := 2, maxLocals := 3, code := prog_8_method_1_code, exceptionTable := #[], attributes := #[] }
def k3m0 : Method := { name := "<init>", desc := "(II)V", sig := { parameters := [.int, .int], returnType := none }, accessFlags := 1, code := some k3c0 }
def k3c1 : Code := { maxStack := 4, maxLocals := 1, code := prog_8_method_2_code, exceptionTable := #[], attributes := #[] }
def k3m1 : Method := { name := "offset", desc := "()J", sig := { parameters := [], returnType := some .long }, accessFlags := 1, code := some k3c1 }
/-- com/example/stockwright/stockwright/model/PageRequest -/
def k3 : Class := { plain "com/example/stockwright/stockwright/model/PageRequest" (some 2) with
  accessFlags := 49
  interfaces := #[]
  cf := some (fileOf pool3 8 #[] #[{ accessFlags := 1, nameIndex := 5, descriptorIndex := 35, attributes := #[] }, { accessFlags := 1, nameIndex := 39, descriptorIndex := 40, attributes := #[] }] 49 2 #[] #[{ accessFlags := 18, nameIndex := 11, descriptorIndex := 12, attributes := #[] }, { accessFlags := 18, nameIndex := 15, descriptorIndex := 12, attributes := #[] }, { accessFlags := 25, nameIndex := 28, descriptorIndex := 12, attributes := #[] }, { accessFlags := 25, nameIndex := 31, descriptorIndex := 12, attributes := #[] }, { accessFlags := 25, nameIndex := 33, descriptorIndex := 12, attributes := #[] }])
  fields := #[{ name := "page", type := .int, accessFlags := 18, slot := 0, constantValue := 0 }, { name := "pageSize", type := .int, accessFlags := 18, slot := 1, constantValue := 0 }, { name := "FIRST_PAGE", type := .int, accessFlags := 25, slot := 0, constantValue := 0 }, { name := "DEFAULT_PAGE_SIZE", type := .int, accessFlags := 25, slot := 1, constantValue := 0 }, { name := "MAX_PAGE_SIZE", type := .int, accessFlags := 25, slot := 2, constantValue := 0 }]
  methods := #[k3m0, k3m1]
  instanceTypes := #[.int, .int]
  staticTypes := #[.int, .int, .int]
  resolved := Array.replicate 65 none
  statics := none }

def pool4 : Array CpInfo := pool [(1, u "java/lang/Cloneable"), (0, .class_ 1), (0, u "java/lang/Object"), (0, .class_ 3)] 3

/-- java/lang/Cloneable -/
def k4 : Class := { plain "java/lang/Cloneable" (some 0) with
  accessFlags := 1537
  interfaces := #[]
  cf := some (fileOf pool4 2 #[] #[] 1537 4 #[] #[])
  fields := #[]
  methods := #[]
  instanceTypes := #[]
  staticTypes := #[]
  resolved := Array.replicate 8 none
  statics := none }

def pool5 : Array CpInfo := pool [(1, u "java/io/Serializable"), (0, .class_ 1), (0, u "java/lang/Object"), (0, .class_ 3)] 3

/-- java/io/Serializable -/
def k5 : Class := { plain "java/io/Serializable" (some 0) with
  accessFlags := 1537
  interfaces := #[]
  cf := some (fileOf pool5 2 #[] #[] 1537 4 #[] #[])
  fields := #[]
  methods := #[]
  instanceTypes := #[]
  staticTypes := #[]
  resolved := Array.replicate 8 none
  statics := none }

/-- the primitive byte -/
def k6 : Class := { plain "byte" none with kind := .primitive 'B', accessFlags := 0x411 }
/-- [B -/
def k7 : Class := { plain "[B" (some 0) with kind := .array 6 .byte, interfaces := #[4, 5], accessFlags := 1041 }

/-- the primitive int -/
def k8 : Class := { plain "int" none with kind := .primitive 'I', accessFlags := 0x411 }
/-- [I -/
def k9 : Class := { plain "[I" (some 0) with kind := .array 8 .int, interfaces := #[4, 5], accessFlags := 1041 }

def heap : Heap := #[]
def classes : Array Class := #[k0, k1, k2, k3, k4, k5, k6, k7, k8, k9]
def interned : List (Array UInt16 × Addr) := []
def slotsUsed : Nat := 0
def theMethod : MethodId := ⟨1, 1⟩
def args0 : Array Value := #[.int 5, .int 7]
def aboutOver (below : List Frame) : State where
  vm := { classes := classes, interned := interned.toArray }
  heap := heap
  slotsUsed := slotsUsed
  threads := #[{ frames := .invoking theMethod args0 :: below }]
def below0 : List Frame := [.native { method := ⟨0, 0⟩, args := #[] }]
def about1 : State := aboutOver below0
def p0 : Program := .bare "" "" ""
def e0 : Env := launch0.env 0 0 0
theorem w_frames : about1.frames = Frame.invoking theMethod args0 :: below0 := rfl
set_option maxRecDepth 65536 in
theorem w_args : argsFit about1.vm theMethod args0 = true := by decide +kernel
set_option maxRecDepth 65536 in
theorem w_heap : heapFits about1 = true := by decide +kernel
set_option maxRecDepth 65536 in
theorem w_runnable : about1.curStatus? = some .runnable := by decide +kernel
set_option maxRecDepth 65536 in
theorem w_alone : about1.alone = true := by decide +kernel
set_option maxRecDepth 65536 in
theorem w_named : about1.methodNamed? x = some theMethod := by decide +kernel
set_option maxRecDepth 65536 in
theorem w_hears : about1.hears theMethod below0 = true := by decide +kernel
set_option maxRecDepth 65536 in
theorem w_ripe : about1.ripe theMethod args0 below0 = true := by decide +kernel
theorem w_running : about1.status = .running := rfl
set_option maxRecDepth 65536 in
theorem w_room : about1.hasRoom e0.platform room_1 = true :=
  launch0.hasRoom_least _ room_1 (by decide +kernel) (by decide +kernel) (by decide +kernel) (by decide +kernel) (by decide +kernel) (by decide +kernel)
theorem allAtoms_all (ts : List Jvm.Cond) (a : Array Jvm.Value) (st : Jvm.State) : (allAtoms ts).before a st = ts.all (fun c => c.before a st) := by
  induction ts with
  | nil => rfl
  | cons c t ih =>
    show (Jvm.Cond.and c (allAtoms t)).before a st = _
    rw [Jvm.Cond.before_and, ih, List.all_cons]
def words1 : List Jvm.Cond := Jvm.Cond.code x code maxLocals ret :: tables_1
/-- a 'code' word, met by the world's own term for the bytes: nothing is compared byte by byte -/
theorem code_word {y : MethodName} {bytes : ByteArray} {mx : Nat} {rt : Option FieldType} {a : Array Value} {s : State} {m : MethodId} {meth : Method} {c : Code} (h1 : s.methodNamed? y = some m) (h2 : s.vm.method? m = some meth) (h3 : meth.code = some c) (h4 : c.code = bytes)
    (h5 : (c.maxLocals == mx && c.exceptionTable.isEmpty && decide (c.maxStack ≤ mostOperands) && decide (meth.sig.returnType = rt) && !meth.locks && decide (parseMethodDescriptor y.desc = some meth.sig)) = true) : (Jvm.Cond.code y bytes mx rt).before a s = true := by
  simp only [Bool.and_eq_true, beq_iff_eq, Bool.not_eq_true', decide_eq_true_eq] at h5
  obtain ⟨⟨⟨⟨⟨g1, g2⟩, g3⟩, g4⟩, g5⟩, g6⟩ := h5
  simp [Cond.before, Cond.holds, Cond.value, h1, h2, h3, h4, g1, g2, g3, g4, g5, g6]
def isCode : Jvm.Cond → Bool
  | .code _ _ _ _ => true
  | _ => false
theorem all_split {L : List Jvm.Cond} {P : Jvm.Cond → Bool} (h1 : L.all (fun c => isCode c || P c) = true) (h2 : ∀ c ∈ L.filter isCode, P c = true) : L.all P = true := by
  refine List.all_eq_true.mpr fun c hc => ?_
  have h := List.all_eq_true.mp h1 c hc
  rcases Bool.eq_false_or_eq_true (isCode c) with hi | hi
  · exact h2 c (List.mem_filter.mpr ⟨hc, hi⟩)
  · simpa [hi] using h
set_option maxRecDepth 65536 in
theorem w_c0 : (Jvm.Cond.code x code maxLocals ret).before args0 about1 = true := code_word (m := ⟨1, 1⟩) (meth := k1m1) (c := k1c1) (by decide +kernel) rfl rfl rfl (by decide +kernel)
set_option maxRecDepth 65536 in
theorem w_c1 : (Jvm.Cond.code ({ cls := "com/example/stockwright/stockwright/model/PageRequest", name := "<init>", desc := "(II)V" } : Jvm.MethodName) prog_8_method_1_code (3 : Nat) (Option.none : Option Jvm.ClassFile.FieldType)).before args0 about1 = true := code_word (m := ⟨3, 0⟩) (meth := k3m0) (c := k3c0) (by decide +kernel) rfl rfl rfl (by decide +kernel)
set_option maxRecDepth 65536 in
theorem w_c2 : (Jvm.Cond.code ({ cls := "java/lang/Record", name := "<init>", desc := "()V" } : Jvm.MethodName) jdk_30_method_1_code (1 : Nat) (Option.none : Option Jvm.ClassFile.FieldType)).before args0 about1 = true := code_word (m := ⟨2, 0⟩) (meth := k2m0) (c := k2c0) (by decide +kernel) rfl rfl rfl (by decide +kernel)
set_option maxRecDepth 65536 in
theorem w_c3 : (Jvm.Cond.code ({ cls := "java/lang/Object", name := "<init>", desc := "()V" } : Jvm.MethodName) object_method_1_code (1 : Nat) (Option.none : Option Jvm.ClassFile.FieldType)).before args0 about1 = true := code_word (m := ⟨0, 0⟩) (meth := k0m0) (c := k0c0) (by decide +kernel) rfl rfl rfl (by decide +kernel)
set_option maxRecDepth 65536 in
theorem w_c4 : (Jvm.Cond.code ({ cls := "com/example/stockwright/stockwright/model/PageRequest", name := "offset", desc := "()J" } : Jvm.MethodName) prog_8_method_2_code (1 : Nat) (Option.some Jvm.ClassFile.FieldType.long)).before args0 about1 = true := code_word (m := ⟨3, 1⟩) (meth := k3m1) (c := k3c1) (by decide +kernel) rfl rfl rfl (by decide +kernel)
def codes1 : List Jvm.Cond := [Jvm.Cond.code x code maxLocals ret, Jvm.Cond.code ({ cls := "com/example/stockwright/stockwright/model/PageRequest", name := "<init>", desc := "(II)V" } : Jvm.MethodName) prog_8_method_1_code (3 : Nat) (Option.none : Option Jvm.ClassFile.FieldType), Jvm.Cond.code ({ cls := "java/lang/Record", name := "<init>", desc := "()V" } : Jvm.MethodName) jdk_30_method_1_code (1 : Nat) (Option.none : Option Jvm.ClassFile.FieldType), Jvm.Cond.code ({ cls := "java/lang/Object", name := "<init>", desc := "()V" } : Jvm.MethodName) object_method_1_code (1 : Nat) (Option.none : Option Jvm.ClassFile.FieldType), Jvm.Cond.code ({ cls := "com/example/stockwright/stockwright/model/PageRequest", name := "offset", desc := "()J" } : Jvm.MethodName) prog_8_method_2_code (1 : Nat) (Option.some Jvm.ClassFile.FieldType.long)]
set_option maxRecDepth 65536 in
theorem codes_eq : words1.filter isCode = codes1 := rfl
theorem w_codes : ∀ c ∈ words1.filter isCode, c.before args0 about1 = true := by
  rw [codes_eq]
  intro c hc
  simp only [codes1, List.mem_cons, List.not_mem_nil, or_false] at hc
  rcases hc with rfl | rfl | rfl | rfl | rfl
  · exact w_c0
  · exact w_c1
  · exact w_c2
  · exact w_c3
  · exact w_c4
set_option maxRecDepth 65536 in
theorem w_t1 : (words1.take 24).all (fun c => isCode c || c.before args0 about1) = true := by decide +kernel
set_option maxRecDepth 65536 in
theorem w_t2 : (words1.drop 24).all (fun c => isCode c || c.before args0 about1) = true := by decide +kernel
theorem w_tables : (allAtoms (Jvm.Cond.code x code maxLocals ret :: tables_1)).before args0 about1 = true := by
  rw [allAtoms_all]
  show words1.all (fun c => c.before args0 about1) = true
  refine all_split ?_ w_codes
  rw [← List.take_append_drop 24 words1, List.all_append, w_t1, w_t2]
  rfl
set_option maxRecDepth 65536 in
theorem w_case : (Jvm.Cond.and given_1 narrow_1).before args0 about1 = true := by decide +kernel
theorem w_applies : (headSpec (Jvm.Cond.code x code maxLocals ret :: tables_1) room_1).applies x e0.platform about1 = true :=
  (Spec.applies_iff w_frames).mpr ⟨w_running, w_runnable, w_alone, w_named, w_hears, w_ripe, w_room, w_tables⟩
theorem atStart : AtStart classFile x code maxLocals ret World_1 tables_1 room_1 Calls_1 rest_1 Pre_1 launch0 p0 e0 about1 theMethod args0 below0 :=
  ⟨lists_1, trivial, launch0.admits_env _ _ _, launch0.least_env, fairChoices_fair.cas, fairChoices_fair.clock, w_frames, w_args, w_heap, w_applies, trivial, trivial, w_case⟩
end start1
theorem witness_1 : WitnessClaimed_1 := ⟨start1.p0, start1.e0, start1.about1, start1.theMethod, start1.args0, start1.below0, start1.atStart⟩
end Jvm.Pilot.@@N@@
