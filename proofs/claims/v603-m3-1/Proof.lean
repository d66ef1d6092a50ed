import JvmDerived
import JvmDerived.Pilot.@@N@@Statement
import JvmDerived.Pilot.@@N@@Code
set_option linter.unusedVariables false
set_option linter.unusedSimpArgs false
namespace Jvm.Pilot.@@N@@
open Jvm Jvm.ClassFile Sem Op Lib Jvm.Free Jvm.Stand Jvm.LawKit Jvm.RoadKit Bundle Jvm.Pilot.@@N@@.Jvm.D
set_option maxRecDepth 65536
/-! the run still has to be led to its end from A: the goal of a walk, taken step by step -/
def own_Go (p : Program) (e : Env) (below : List Frame) (s : State) (Q : Option Value → Heap → List Loc → Prop) (C S : Nat) (A : State) : Prop :=
  ∃ s₂ o, Steps p.tables e below A s₂ ∧ s₂.status = .running ∧ Ended s₂ below o ∧ ∃ v L, o = .returned v ∧ Q v s₂.heap L ∧ FrameEnd s o s₂ L C S
section OwnA
variable {p : Program} {l : Launch} {e : Env} {R : Room} {s : State} {m : MethodId} {args : Array Value} {below : List Frame} {meth : Method} {c : Code} {T : State} {locs : List Loc} {cells slots : Nat} {Q : Option Value → Heap → List Loc → Prop} {C S : Nat}
theorem own_st {A B : State} (h : ∀ t, Steps p.tables e below B t → Steps p.tables e below A t) (g : own_Go p e below s Q C S B) : own_Go p e below s Q C S A := by
  obtain ⟨s₂, o, h1, r⟩ := g
  exact ⟨s₂, o, h _ h1, r⟩
theorem own_ss {A B : State} (h : Steps p.tables e below A B) (g : own_Go p e below s Q C S B) : own_Go p e below s Q C S A := own_st (fun _ k => h.trans k) g
theorem own_cut {P G : Prop} (a : P → G) (b : P) : G := a b
theorem own_leave (X : Stand p l e R s m args below meth c T locs cells slots) {v : Option Value} (hv : meth.sig.returnType = none → v = none) (hlk : meth.locks = false) (hQ : Q v T.heap locs) (hc : cells ≤ C) (hs : slots ≤ S) {A : State}
    (hr : ∀ fs, (∀ (f : JFrame) (acts : List Action), f.method = m → f.locked = none → f.entered = [] → (doReturn e (T.setTop f) acts v).1 = T.setFrames fs) → Steps p.tables e below A (T.setFrames fs)) : own_Go p e below s Q C S A := by
  obtain ⟨fs, hr', hrun, hended, hW, hsame⟩ := X.leave (v := v) hv hlk
  exact ⟨_, _, hr fs hr', hrun, hended, _, _, rfl, hQ, ⟨_, rfl⟩, hW, hsame.mono hc hs⟩
theorem own_retV (X : Stand p l e R s m args below meth c T locs cells slots) (hx : p.tables.exec = Jvm.exec) (hlk : meth.locks = false) (hret : meth.sig.returnType = none) {pc : Nat} {Ls : Array Slot} (hd : decode c.code pc = .ok (.return_, 1)) (hc : cells ≤ C) (hs : slots ≤ S) (hQ : Q none T.heap locs) :
    own_Go p e below s Q C S (T.setTop (mkF m pc Ls [])) := own_leave X (fun _ => rfl) hlk hQ hc hs fun _ hr => X.returnOut hx hret hd hr
theorem own_retI (X : Stand p l e R s m args below meth c T locs cells slots) (hx : p.tables.exec = Jvm.exec) (hlk : meth.locks = false) (hret : meth.sig.returnType = some .int) {pc : Nat} {Ls : Array Slot} {z : Int32} {rest : List Value} (hd : decode c.code pc = .ok (.ireturn, 1)) (hc : cells ≤ C) (hs : slots ≤ S) (hQ : Q (some (.int z)) T.heap locs) :
    own_Go p e below s Q C S (T.setTop (mkF m pc Ls (.int z :: rest))) := own_leave X (fun h => by rw [hret] at h; cases h) hlk hQ hc hs fun _ hr => retOut X hx hret rfl (Or.inl ⟨rfl, Or.inl rfl, _, rfl⟩) hd hr
theorem own_retJ (X : Stand p l e R s m args below meth c T locs cells slots) (hx : p.tables.exec = Jvm.exec) (hlk : meth.locks = false) (hret : meth.sig.returnType = some .long) {pc : Nat} {Ls : Array Slot} {z : Int64} {rest : List Value} (hd : decode c.code pc = .ok (.lreturn, 1)) (hc : cells ≤ C) (hs : slots ≤ S) (hQ : Q (some (.long z)) T.heap locs) :
    own_Go p e below s Q C S (T.setTop (mkF m pc Ls (.long z :: rest))) := own_leave X (fun h => by rw [hret] at h; cases h) hlk hQ hc hs fun _ hr => retOut X hx hret rfl (Or.inr (Or.inl ⟨rfl, rfl, _, rfl⟩)) hd hr
theorem own_retR (X : Stand p l e R s m args below meth c T locs cells slots) (hx : p.tables.exec = Jvm.exec) (hlk : meth.locks = false) {t : FieldType} (hret : meth.sig.returnType = some t) (ht : t.isReference = true) {pc : Nat} {Ls : Array Slot} {w : Value} {rest : List Value} (hn : narrow t w = w) (hw : w.isRef = true) (hd : decode c.code pc = .ok (.areturn, 1)) (hc : cells ≤ C) (hs : slots ≤ S) (hQ : Q (some w) T.heap locs) :
    own_Go p e below s Q C S (T.setTop (mkF m pc Ls (w :: rest))) := own_leave X (fun h => by rw [hret] at h; cases h) hlk hQ hc hs fun _ hr => retOut X hx hret hn (Or.inr (Or.inr (Or.inr (Or.inr ⟨rfl, ht, hw⟩)))) hd hr
theorem own_retN (X : Stand p l e R s m args below meth c T locs cells slots) (hx : p.tables.exec = Jvm.exec) (hlk : meth.locks = false) {t : FieldType} (hret : meth.sig.returnType = some t) (ht : t = .boolean ∨ t = .byte ∨ t = .char ∨ t = .short) {pc : Nat} {Ls : Array Slot} {z z' : Int32} {rest : List Value} (hz : nar t z = z') (hd : decode c.code pc = .ok (.ireturn, 1)) (hc : cells ≤ C) (hs : slots ≤ S) (hQ : Q (some (.int z')) T.heap locs) :
    own_Go p e below s Q C S (T.setTop (mkF m pc Ls (.int z :: rest))) := by
  subst hz
  exact own_leave X (fun h => by rw [hret] at h; cases h) hlk hQ hc hs fun _ hr => retN X hx hret ht hd hr
/-! arrays by the whole list of what they hold -/
variable {Z : State} {h h' : Heap} {a b : Addr} {ty : FieldType} {vs : List Value}
def own_A (Z : State) (h : Heap) (a : Addr) (ty : FieldType) (vs : List Value) : Prop := ∃ c : Cell, Arr Z h a c ty ∧ c.slots.toList = vs
theorem own_A.lt (F : own_A Z h a ty vs) : a < h.size := by obtain ⟨c, A, -⟩ := F; exact A.lt
theorem own_A.ext (F : own_A Z h a ty vs) (E : Ext h h') : own_A Z h' a ty vs := by obtain ⟨c, A, q⟩ := F; exact ⟨c, A.ext E, q⟩
theorem own_A.other {sl : Nat} {v : Value} (F : own_A Z h a ty vs) (W : Wr h h' b sl v) (q : a ≠ b) : own_A Z h' a ty vs := by obtain ⟨c, A, r⟩ := F; exact ⟨c, A.other W q, r⟩
theorem own_A.keep {ws : List Addr} (F : own_A Z h a ty vs) (K : Keep h h' ws) (q : a ∉ ws) : own_A Z h' a ty vs := by obtain ⟨c, A, r⟩ := F; exact ⟨c, ⟨K.2.1 a c A.1 q, A.2⟩, r⟩
theorem own_A.set {i : Nat} {v : Value} (F : own_A Z h a ty vs) (W : Wr h h' a i v) : own_A Z h' a ty (vs.set i v) := by
  obtain ⟨c, A, rfl⟩ := F
  exact ⟨_, A.same W, by simp [Cell.setSlot]⟩
theorem own_ix {j : Int32} {i : Nat} (hj : j.toInt = (i : Int)) : ¬ j < 0 ∧ j.toNatClampNeg = i := by
  refine ⟨?_, ?_⟩
  · rw [Int32.lt_iff_toInt_lt, hj]
    show ¬ ((i : Int) < 0)
    omega
  · have h1 : j.toNatClampNeg = j.toInt.toNat := rfl
    rw [h1, hj]; rfl
theorem own_in {cl : Cell} {j : Int32} {i : Nat} {v : Value} (hj : j.toInt = (i : Int)) (hv : cl.slots.toList[i]? = some v) : ¬ (j < 0 ∨ cl.slots.size ≤ j.toNatClampNeg) ∧ cl.slots[j.toNatClampNeg]? = some v := by
  obtain ⟨n0, n1⟩ := own_ix hj
  rw [n1]
  rw [Array.getElem?_toList] at hv
  refine ⟨?_, hv⟩
  have h2 := (Array.getElem?_eq_some_iff.mp hv).1
  rintro (q | q)
  · exact n0 q
  · omega
theorem own_ldI (X : Stand p l e R s m args below meth c T locs cells slots) (hx : p.tables.exec = Jvm.exec) (hZ : Z.Warmed39 s.vm) (eT : T.heap = h) (A : own_A Z h a .int vs) {j : Int32} {i : Nat} {v : Value} (hj : j.toInt = (i : Int)) (hv : vs[i]? = some v) {g : JFrame} (hg : g.method = m) {rest : List Value} (hs : g.stack = .int j :: .ref a :: rest) (hd : decode c.code g.pc = .ok (.iaload, 1)) {t : State}
    (k : Steps p.tables e below (T.setTop { g with pc := g.pc + 1, stack := v :: rest }) t) : Steps p.tables e below (T.setTop g) t := by
  obtain ⟨cl, A, rfl⟩ := A
  exact X.iaload hx (by rw [eT]; exact A.1) (State.isArrayOf_alike hZ.alike A.2.1) A.2.2 (own_in hj hv).1 (own_in hj hv).2 hg hs hd _ k
theorem own_ldJ (X : Stand p l e R s m args below meth c T locs cells slots) (hx : p.tables.exec = Jvm.exec) (hZ : Z.Warmed39 s.vm) (eT : T.heap = h) (A : own_A Z h a .long vs) {j : Int32} {i : Nat} {v : Value} (hj : j.toInt = (i : Int)) (hv : vs[i]? = some v) {g : JFrame} (hg : g.method = m) {rest : List Value} (hs : g.stack = .int j :: .ref a :: rest) (hd : decode c.code g.pc = .ok (.laload, 1)) {t : State}
    (k : Steps p.tables e below (T.setTop { g with pc := g.pc + 1, stack := v :: rest }) t) : Steps p.tables e below (T.setTop g) t := by
  obtain ⟨cl, A, rfl⟩ := A
  exact X.laload hx (by rw [eT]; exact A.1) (State.isArrayOf_alike hZ.alike A.2.1) A.2.2 (own_in hj hv).1 (own_in hj hv).2 hg hs hd _ k
theorem own_ldB (X : Stand p l e R s m args below meth c T locs cells slots) (hx : p.tables.exec = Jvm.exec) (hZ : Z.Warmed39 s.vm) (eT : T.heap = h) (A : own_A Z h a .byte vs) {j : Int32} {i : Nat} {v : Value} (hj : j.toInt = (i : Int)) (hv : vs[i]? = some v) {g : JFrame} (hg : g.method = m) {rest : List Value} (hs : g.stack = .int j :: .ref a :: rest) (hd : decode c.code g.pc = .ok (.baload, 1)) {t : State}
    (k : Steps p.tables e below (T.setTop { g with pc := g.pc + 1, stack := v :: rest }) t) : Steps p.tables e below (T.setTop g) t := by
  obtain ⟨cl, A, rfl⟩ := A
  exact X.baloadBytes hx (by rw [eT]; exact A.1) (State.isArrayOf_alike hZ.alike A.2.1) A.2.2 (own_in hj hv).1 (own_in hj hv).2 hg hs hd _ k
theorem own_ldZ (X : Stand p l e R s m args below meth c T locs cells slots) (hx : p.tables.exec = Jvm.exec) (hZ : Z.Warmed39 s.vm) (eT : T.heap = h) (A : own_A Z h a .boolean vs) {j : Int32} {i : Nat} {v : Value} (hj : j.toInt = (i : Int)) (hv : vs[i]? = some v) {g : JFrame} (hg : g.method = m) {rest : List Value} (hs : g.stack = .int j :: .ref a :: rest) (hd : decode c.code g.pc = .ok (.baload, 1)) {t : State}
    (k : Steps p.tables e below (T.setTop { g with pc := g.pc + 1, stack := v :: rest }) t) : Steps p.tables e below (T.setTop g) t := by
  obtain ⟨cl, A, rfl⟩ := A
  exact X.baloadBooleans hx (by rw [eT]; exact A.1) (State.isArrayOf_alike hZ.alike A.2.1) A.2.2 (own_in hj hv).1 (own_in hj hv).2 hg hs hd _ k
theorem own_ldS (X : Stand p l e R s m args below meth c T locs cells slots) (hx : p.tables.exec = Jvm.exec) (hZ : Z.Warmed39 s.vm) (eT : T.heap = h) (A : own_A Z h a .short vs) {j : Int32} {i : Nat} {v : Value} (hj : j.toInt = (i : Int)) (hv : vs[i]? = some v) {g : JFrame} (hg : g.method = m) {rest : List Value} (hs : g.stack = .int j :: .ref a :: rest) (hd : decode c.code g.pc = .ok (.saload, 1)) {t : State}
    (k : Steps p.tables e below (T.setTop { g with pc := g.pc + 1, stack := v :: rest }) t) : Steps p.tables e below (T.setTop g) t := by
  obtain ⟨cl, A, rfl⟩ := A
  exact X.saload hx (by rw [eT]; exact A.1) (State.isArrayOf_alike hZ.alike A.2.1) A.2.2 (own_in hj hv).1 (own_in hj hv).2 hg hs hd _ k
theorem own_ldC (X : Stand p l e R s m args below meth c T locs cells slots) (hx : p.tables.exec = Jvm.exec) (hZ : Z.Warmed39 s.vm) (eT : T.heap = h) (A : own_A Z h a .char vs) {j : Int32} {i : Nat} {v : Value} (hj : j.toInt = (i : Int)) (hv : vs[i]? = some v) {g : JFrame} (hg : g.method = m) {rest : List Value} (hs : g.stack = .int j :: .ref a :: rest) (hd : decode c.code g.pc = .ok (.caload, 1)) {t : State}
    (k : Steps p.tables e below (T.setTop { g with pc := g.pc + 1, stack := v :: rest }) t) : Steps p.tables e below (T.setTop g) t := by
  obtain ⟨cl, A, rfl⟩ := A
  exact X.caload hx (by rw [eT]; exact A.1) (State.isArrayOf_alike hZ.alike A.2.1) A.2.2 (own_in hj hv).1 (own_in hj hv).2 hg hs hd _ k
theorem own_ldR (X : Stand p l e R s m args below meth c T locs cells slots) (hx : p.tables.exec = Jvm.exec) (hZ : Z.Warmed39 s.vm) (eT : T.heap = h) (A : own_A Z h a ty vs) (hty : ty.isReference = true) {j : Int32} {i : Nat} {v : Value} (hj : j.toInt = (i : Int)) (hv : vs[i]? = some v) {g : JFrame} (hg : g.method = m) {rest : List Value} (hs : g.stack = .int j :: .ref a :: rest) (hd : decode c.code g.pc = .ok (.aaload, 1)) {t : State}
    (k : Steps p.tables e below (T.setTop { g with pc := g.pc + 1, stack := v :: rest }) t) : Steps p.tables e below (T.setTop g) t := by
  obtain ⟨cl, A, rfl⟩ := A
  exact X.aaload hx (by rw [eT]; exact A.1) (State.isArrayOf_alike hZ.alike A.2.1) hty A.2.2 (own_in hj hv).1 (own_in hj hv).2 hg hs hd _ k
theorem own_stI (X : Stand p l e R s m args below meth c T locs cells slots) (hx : p.tables.exec = Jvm.exec) (hZ : Z.Warmed39 s.vm) (eT : T.heap = h) (A : own_A Z h a .int vs) {j x : Int32} {i : Nat} (hj : j.toInt = (i : Int)) (hi : i < vs.length) {g : JFrame} (hg : g.method = m) {rest : List Value} (hs : g.stack = .int x :: .int j :: .ref a :: rest) (hd : decode c.code g.pc = .ok (.iastore, 1)) :
    ∃ T' h', Stand p l e R s m args below meth c T' (locs ++ [⟨a, i⟩]) cells slots ∧ T'.heap = h' ∧ Wr h h' a i (.int x) ∧ own_A Z h' a .int (vs.set i (.int x)) ∧ ∀ target, Steps p.tables e below (T'.setTop { g with pc := g.pc + 1, stack := rest }) target → Steps p.tables e below (T.setTop g) target := by
  obtain ⟨cl, A, rfl⟩ := A
  have hin := (own_in (cl := cl) (v := cl.slots.toList[i]) hj (List.getElem?_eq_getElem hi)).1
  obtain ⟨T', h', X', e', W', st⟩ := stI X hx hZ eT A (j := j) (x := x) hin hg hs hd
  rw [(own_ix hj).2] at X' W'
  exact ⟨T', h', X', e', W', own_A.set ⟨cl, A, rfl⟩ W', st⟩
theorem own_stJ (X : Stand p l e R s m args below meth c T locs cells slots) (hx : p.tables.exec = Jvm.exec) (hZ : Z.Warmed39 s.vm) (eT : T.heap = h) (A : own_A Z h a .long vs) {j : Int32} {x : Int64} {i : Nat} (hj : j.toInt = (i : Int)) (hi : i < vs.length) {g : JFrame} (hg : g.method = m) {rest : List Value} (hs : g.stack = .long x :: .int j :: .ref a :: rest) (hd : decode c.code g.pc = .ok (.lastore, 1)) :
    ∃ T' h', Stand p l e R s m args below meth c T' (locs ++ [⟨a, i⟩]) cells slots ∧ T'.heap = h' ∧ Wr h h' a i (.long x) ∧ own_A Z h' a .long (vs.set i (.long x)) ∧ ∀ target, Steps p.tables e below (T'.setTop { g with pc := g.pc + 1, stack := rest }) target → Steps p.tables e below (T.setTop g) target := by
  obtain ⟨cl, A, rfl⟩ := A
  have hin := (own_in (cl := cl) (v := cl.slots.toList[i]) hj (List.getElem?_eq_getElem hi)).1
  obtain ⟨T', h', X', e', W', st⟩ := stJ X hx hZ eT A (j := j) (x := x) hin hg hs hd
  rw [(own_ix hj).2] at X' W'
  exact ⟨T', h', X', e', W', own_A.set ⟨cl, A, rfl⟩ W', st⟩
theorem own_stB (X : Stand p l e R s m args below meth c T locs cells slots) (hx : p.tables.exec = Jvm.exec) (hZ : Z.Warmed39 s.vm) (eT : T.heap = h) (A : own_A Z h a .byte vs) {j x : Int32} {i : Nat} (hj : j.toInt = (i : Int)) (hi : i < vs.length) {g : JFrame} (hg : g.method = m) {rest : List Value} (hs : g.stack = .int x :: .int j :: .ref a :: rest) (hd : decode c.code g.pc = .ok (.bastore, 1)) :
    ∃ T' h', Stand p l e R s m args below meth c T' (locs ++ [⟨a, i⟩]) cells slots ∧ T'.heap = h' ∧ Wr h h' a i (.int x.toInt8.toInt32) ∧ own_A Z h' a .byte (vs.set i (.int x.toInt8.toInt32)) ∧ ∀ target, Steps p.tables e below (T'.setTop { g with pc := g.pc + 1, stack := rest }) target → Steps p.tables e below (T.setTop g) target := by
  obtain ⟨cl, A, rfl⟩ := A
  have hin := (own_in (cl := cl) (v := cl.slots.toList[i]) hj (List.getElem?_eq_getElem hi)).1
  obtain ⟨T', h', X', e', W', st⟩ := stB X hx hZ eT A (j := j) (x := x) hin hg hs hd
  rw [(own_ix hj).2] at X' W'
  exact ⟨T', h', X', e', W', own_A.set ⟨cl, A, rfl⟩ W', st⟩
theorem own_stS (X : Stand p l e R s m args below meth c T locs cells slots) (hx : p.tables.exec = Jvm.exec) (hZ : Z.Warmed39 s.vm) (eT : T.heap = h) (A : own_A Z h a .short vs) {j x : Int32} {i : Nat} (hj : j.toInt = (i : Int)) (hi : i < vs.length) {g : JFrame} (hg : g.method = m) {rest : List Value} (hs : g.stack = .int x :: .int j :: .ref a :: rest) (hd : decode c.code g.pc = .ok (.sastore, 1)) :
    ∃ T' h', Stand p l e R s m args below meth c T' (locs ++ [⟨a, i⟩]) cells slots ∧ T'.heap = h' ∧ Wr h h' a i (.int x.toInt16.toInt32) ∧ own_A Z h' a .short (vs.set i (.int x.toInt16.toInt32)) ∧ ∀ target, Steps p.tables e below (T'.setTop { g with pc := g.pc + 1, stack := rest }) target → Steps p.tables e below (T.setTop g) target := by
  obtain ⟨cl, A, rfl⟩ := A
  have hin := (own_in (cl := cl) (v := cl.slots.toList[i]) hj (List.getElem?_eq_getElem hi)).1
  obtain ⟨T', h', X', e', W', st⟩ := stS X hx hZ eT A (j := j) (x := x) hin hg hs hd
  rw [(own_ix hj).2] at X' W'
  exact ⟨T', h', X', e', W', own_A.set ⟨cl, A, rfl⟩ W', st⟩
theorem own_stC (X : Stand p l e R s m args below meth c T locs cells slots) (hx : p.tables.exec = Jvm.exec) (hZ : Z.Warmed39 s.vm) (eT : T.heap = h) (A : own_A Z h a .char vs) {j x : Int32} {i : Nat} (hj : j.toInt = (i : Int)) (hi : i < vs.length) {g : JFrame} (hg : g.method = m) {rest : List Value} (hs : g.stack = .int x :: .int j :: .ref a :: rest) (hd : decode c.code g.pc = .ok (.castore, 1)) :
    ∃ T' h', Stand p l e R s m args below meth c T' (locs ++ [⟨a, i⟩]) cells slots ∧ T'.heap = h' ∧ Wr h h' a i (.int x.toUInt32.toUInt16.toUInt32.toInt32) ∧ own_A Z h' a .char (vs.set i (.int x.toUInt32.toUInt16.toUInt32.toInt32)) ∧ ∀ target, Steps p.tables e below (T'.setTop { g with pc := g.pc + 1, stack := rest }) target → Steps p.tables e below (T.setTop g) target := by
  obtain ⟨cl, A, rfl⟩ := A
  have hin := (own_in (cl := cl) (v := cl.slots.toList[i]) hj (List.getElem?_eq_getElem hi)).1
  obtain ⟨T', h', X', e', W', st⟩ := stC X hx hZ eT A (j := j) (x := x) hin hg hs hd
  rw [(own_ix hj).2] at X' W'
  exact ⟨T', h', X', e', W', own_A.set ⟨cl, A, rfl⟩ W', st⟩
theorem own_newP {a0 : Array Value} (X : Stand p l e R s m args below meth c T locs cells slots) (hx : p.tables.exec = Jvm.exec) (hZ : Z.Warmed39 s.vm) {aty : ArrayType} (w : (Cond.arrayClass (newarray.typeOf aty)).before a0 Z = true) (eT : T.heap = h) {g : JFrame} (hg : g.method = m) (hd : decode c.code g.pc = .ok (.newarray aty, 2)) {n : Int32} {rest : List Value} (hs : g.stack = .int n :: rest)
    {k cap : Nat} (hk : n.toInt = (k : Int)) (hcap : k ≤ cap) (hb : cap * 8 ≤ 536870912) (hc : cells + 1 ≤ R.cells) (hl : slots + cap ≤ R.slots) {ad : String} (had : "[" ++ (newarray.typeOf aty).toString = ad) :
    ∃ T' h', Stand p l e R s m args below meth c T' locs (cells + 1) (slots + cap) ∧ T'.heap = h' ∧ Ext h h' ∧ own_A Z h' h.size (newarray.typeOf aty) (List.replicate k (defaultValue (newarray.typeOf aty))) ∧ Exa Z h' h.size ad ∧
      ∀ target, Steps p.tables e below (T'.setTop { g with pc := g.pc + 2, stack := .ref h.size :: rest }) target → Steps p.tables e below (T.setTop g) target := by
  obtain ⟨n0, n1⟩ := own_ix hk
  obtain ⟨T', h', cA, X', e', E', A', x', st⟩ := newPE X hx hZ w eT hg hd hs n0 (cap := cap) (by rw [n1]; exact hcap) hb hc hl had
  exact ⟨T', h', X', e', E', ⟨_, A', by simp [newA, n1]⟩, x', st⟩
theorem own_clone {a0 : Array Value} (X : Stand p l e R s m args below meth c T locs cells slots) (hx : p.tables.exec = Jvm.exec) (hZ : Z.Warmed39 s.vm) {own ad : String} {index : Nat} (hown : s.vm.findClass own = some m.cls)
    (w1 : (Cond.methodLink own index ⟨ad, "clone", "()Ljava/lang/Object;"⟩).before a0 Z = true) (w2 : (Cond.sameMethod ad "java/lang/Object" "clone" "()Ljava/lang/Object;").before a0 Z = true) (w3 : (Cond.native ⟨"java/lang/Object", "clone", "()Ljava/lang/Object;"⟩).before a0 Z = true)
    (w4 : (Cond.instanceMethod ⟨"java/lang/Object", "clone", "()Ljava/lang/Object;"⟩).before a0 Z = true) (w5 : (Cond.selects ad ⟨ad, "clone", "()Ljava/lang/Object;"⟩ ⟨"java/lang/Object", "clone", "()Ljava/lang/Object;"⟩).before a0 Z = true) (w6 : (Cond.castable ad "java/lang/Cloneable").before a0 Z = true)
    (eT : T.heap = h) (A : own_A Z h a ty vs) (E : Exa Z h a ad) (hf : ∀ v ∈ vs, fits ty v = true) {g : JFrame} (hg : g.method = m) (hsize : g.locals.size = c.maxLocals) {rest : List Value} (hst : g.stack = .ref a :: rest) (hd : decode c.code g.pc = .ok (.invokevirtual index, 3))
    (hfr : 1 ≤ R.frames) {W cap : Nat} (hW : 2 * g.monitorRoom + (rest.map fun v => v.category).sum ≤ W) (hl : W + 14 ≤ R.locals) (hcap : vs.length ≤ cap) (hc : cells + 1 ≤ R.cells) (hsl : slots + cap ≤ R.slots) :
    ∃ T' h', Stand p l e R s m args below meth c T' locs (cells + 1) (slots + cap) ∧ T'.heap = h' ∧ Ext h h' ∧ own_A Z h' h.size ty vs ∧ Exa Z h' h.size ad ∧
      ∀ target, Steps p.tables e below (T'.setTop { g with pc := g.pc + 3, stack := .ref h.size :: rest }) target → Steps p.tables e below (T.setTop g) target := by
  obtain ⟨cl, A, rfl⟩ := A
  have FC : FitC Z cl := fitC_of A fun i hi v hv => hf v (by
    rw [← Array.getElem?_toList] at hv
    exact List.mem_of_getElem? hv)
  obtain ⟨T', h', X', e', ex, A', E', st⟩ := cloneA X hx hZ hown w1 w2 w3 w4 w5 w6 eT A E FC hg hsize hst hd hfr hW hl (by simpa using hcap) hc hsl
  exact ⟨T', h', X', e', ex, ⟨_, A', rfl⟩, E', st⟩
def own_Ov (C : String) (Z : State) (h : Heap) (a : Addr) : Prop := ∃ c : Cell, h[a]? = some c ∧ Ovr Z c.cls C
theorem own_Ov.lt {C : String} (F : own_Ov C Z h a) : a < h.size := by obtain ⟨c, q, -⟩ := F; exact (Array.getElem?_eq_some_iff.mp q).1
theorem own_Ov.ext {C : String} (F : own_Ov C Z h a) (E : Ext h h') : own_Ov C Z h' a := by obtain ⟨c, q, r⟩ := F; exact ⟨c, E.2 _ _ q, r⟩
theorem own_Ov.other {C : String} {sl : Nat} {v : Value} (F : own_Ov C Z h a) (W : Wr h h' b sl v) (ne : a ≠ b) : own_Ov C Z h' a := by
  obtain ⟨c, q, r⟩ := F
  obtain ⟨c', q', -, -, -, e, -⟩ := wr_at W q
  exact ⟨c', q', by rw [e ne]; exact r⟩
theorem own_Ov.keep {C : String} {ws : List Addr} (F : own_Ov C Z h a) (K : Keep h h' ws) (ne : a ∉ ws) : own_Ov C Z h' a := by obtain ⟨c, q, r⟩ := F; exact ⟨c, K.2.1 _ _ q ne, r⟩
theorem own_newR {a0 : Array Value} (X : Stand p l e R s m args below meth c T locs cells slots) (hx : p.tables.exec = Jvm.exec) (hZ : Z.Warmed39 s.vm) {own C : String} {index : Nat} (hown : s.vm.findClass own = some m.cls) (w1 : (Cond.classLink own index C).before a0 Z = true) (w2 : (Cond.arrayOver (.object C)).before a0 Z = true) (eT : T.heap = h) {g : JFrame} (hg : g.method = m) (hd : decode c.code g.pc = .ok (.anewarray index, 3)) {n : Int32} {rest : List Value} (hs : g.stack = .int n :: rest)
    {k cap : Nat} (hk : n.toInt = (k : Int)) (hcap : k ≤ cap) (hb : cap * 8 ≤ 536870912) (hc : cells + 1 ≤ R.cells) (hl : slots + cap ≤ R.slots) {ad : String} (had : "[" ++ (FieldType.object C).toString = ad) :
    ∃ T' h', Stand p l e R s m args below meth c T' locs (cells + 1) (slots + cap) ∧ T'.heap = h' ∧ Ext h h' ∧ own_A Z h' h.size (.object C) (List.replicate k .null) ∧ Exa Z h' h.size ad ∧ own_Ov C Z h' h.size ∧
      ∀ target, Steps p.tables e below (T'.setTop { g with pc := g.pc + 3, stack := .ref h.size :: rest }) target → Steps p.tables e below (T.setTop g) target := by
  obtain ⟨n0, n1⟩ := own_ix hk
  obtain ⟨T', h', cA, X', e', E', A', x', O', st⟩ := newRE X hx hZ hown w1 w2 eT hg hd hs n0 (cap := cap) (by rw [n1]; exact hcap) hb hc hl had
  exact ⟨T', h', X', e', E', ⟨_, A', by simp [newA, n1, defaultValue]⟩, x', ⟨_, A'.1, O'⟩, st⟩
theorem own_stR {C : String} (X : Stand p l e R s m args below meth c T locs cells slots) (hx : p.tables.exec = Jvm.exec) (hZ : Z.Warmed39 s.vm) (eT : T.heap = h) (A : own_A Z h a (.object C) vs) (O : own_Ov C Z h a) {y : Addr} (I : Ins Z h y C true) {j : Int32} {i : Nat} (hj : j.toInt = (i : Int)) (hi : i < vs.length) {g : JFrame} (hg : g.method = m) {rest : List Value} (hs : g.stack = .ref y :: .int j :: .ref a :: rest) (hd : decode c.code g.pc = .ok (.aastore, 1)) :
    ∃ T' h', Stand p l e R s m args below meth c T' (locs ++ [⟨a, i⟩]) cells slots ∧ T'.heap = h' ∧ Wr h h' a i (.ref y) ∧ own_A Z h' a (.object C) (vs.set i (.ref y)) ∧ ∀ target, Steps p.tables e below (T'.setTop { g with pc := g.pc + 1, stack := rest }) target → Steps p.tables e below (T.setTop g) target := by
  obtain ⟨cl, A, rfl⟩ := A
  obtain ⟨c2, q, r⟩ := O
  cases A.1.symm.trans q
  have hin := (own_in (cl := cl) (v := cl.slots.toList[i]) hj (List.getElem?_eq_getElem hi)).1
  obtain ⟨T', h', X', e', W', st⟩ := stR X hx hZ eT A (j := j) (v := .ref y) hin rfl (Sto.of A r I) hg hs hd
  rw [(own_ix hj).2] at X' W'
  exact ⟨T', h', X', e', W', own_A.set ⟨cl, A, rfl⟩ W', st⟩
theorem own_len (X : Stand p l e R s m args below meth c T locs cells slots) (hx : p.tables.exec = Jvm.exec) (hZ : Z.Warmed39 s.vm) (eT : T.heap = h) (A : own_A Z h a ty vs) {n : Int32} (hn : n.toInt = (vs.length : Int)) {g : JFrame} (hg : g.method = m) {rest : List Value} (hs : g.stack = .ref a :: rest) (hd : decode c.code g.pc = .ok (.arraylength, 1)) {t : State}
    (k : Steps p.tables e below (T.setTop { g with pc := g.pc + 1, stack := .int n :: rest }) t) : Steps p.tables e below (T.setTop g) t := by
  obtain ⟨cl, A, rfl⟩ := A
  have h1 := n.toInt_lt
  have h2 : cl.slots.size.toInt32 = n := by
    refine Int32.toInt_inj.mp ?_
    rw [hn]
    have h3 : cl.slots.toList.length = cl.slots.size := by simp
    rw [h3] at hn ⊢
    exact len_toInt (by omega)
  refine X.arraylength hx (by rw [eT]; exact A.1) (State.isArrayOf_alike hZ.alike A.2.1) hg hs hd _ ?_
  rw [h2]; exact k
theorem own_lrem (X : Stand p l e R s m args below meth c T locs cells slots) (hx : p.tables.exec = Jvm.exec) {g : JFrame} (hg : g.method = m) {x y : Int64} {rest : List Value} (hd : decode c.code g.pc = .ok (.lrem, 1)) (hs : g.stack = .long y :: .long x :: rest) (hy : y ≠ 0) {t : State}
    (k : Steps p.tables e below (T.setTop { g with pc := g.pc + 1, stack := .long (x % y) :: rest }) t) : Steps p.tables e below (T.setTop g) t := XS.lrem X.here hx hg hd hs hy (by rw [lrem_mod]; exact k)
end OwnA
theorem own_Sta.keep {Z : State} {h h' : Heap} {ws : List Addr} {C n d : String} {v : Value} (F : Sta Z h C n d v) (K : Keep h h' ws) (q : ∀ st ∈ ws, ∀ cell : Cell, h[st]? = some cell → cell.vm.isStatics = false) : Sta Z h' C n d v := by
  obtain ⟨cf, i, k, f, st, cell, h1, h2, h3, h4, h5, h6, h7⟩ := F
  refine ⟨cf, i, k, f, st, cell, h1, h2, h3, h4, K.2.1 st cell h5 fun hm => ?_, h6, h7⟩
  rw [q st hm cell h5] at h6
  cases h6
theorem own_z_eq_t {c : Prop} [Decidable c] (h : ¬ c) : ifCond.holds .eq (if c then (1 : Int32) else 0) = true := by rw [if_neg h]; rfl
theorem own_z_eq_f {c : Prop} [Decidable c] (h : c) : ifCond.holds .eq (if c then (1 : Int32) else 0) = false := by rw [if_pos h]; rfl
theorem own_z_ne_t {c : Prop} [Decidable c] (h : c) : ifCond.holds .ne (if c then (1 : Int32) else 0) = true := by rw [if_pos h]; rfl
theorem own_z_ne_f {c : Prop} [Decidable c] (h : ¬ c) : ifCond.holds .ne (if c then (1 : Int32) else 0) = false := by rw [if_neg h]; rfl
theorem own_z_nar {c : Prop} [Decidable c] : nar .boolean (if c then (1 : Int32) else 0) = if c then (1 : Int32) else 0 := by split <;> rfl
/-- two slots that hold nothing or a long, whose value nobody reads again -/
def own_Two (a b : Slot) : Prop := (a = .unset ∧ b = .unset) ∨ ∃ z, a = .val (.long z) ∧ b = .second
theorem own_plainE {Z : State} {h : Heap} {a : Addr} {C : String} (F : Exa Z h a C) : ∀ cell : Cell, h[a]? = some cell → cell.vm.isStatics = false := fun cell hc => by
  obtain ⟨c, k, h1, -, -, h4, -⟩ := F
  cases h1.symm.trans hc
  exact h4
theorem own_plainA {Z : State} {h : Heap} {a : Addr} {ty : FieldType} {vs : List Value} (F : own_A Z h a ty vs) : ∀ cell : Cell, h[a]? = some cell → cell.vm.isStatics = false := fun cell hc => by
  obtain ⟨c, A, -⟩ := F
  cases A.1.symm.trans hc
  exact A.plain
theorem own_pop2 {tb : Tables} [Ours tb] {e : Env} {below : List Frame} {T target : State} {m : MethodId} {c : Code} {g : JFrame} (h : At T m c below) (hx : tb.exec = Jvm.exec) (hg : g.method = m) {x : Int64} {rest : List Value} (hd : decode c.code g.pc = .ok (.pop2, 1)) (hs : g.stack = .long x :: rest)
    (hr : Steps tb e below (T.setTop { g with pc := g.pc + 1, stack := rest }) target) : Steps tb e below (T.setTop g) target := by
  subst hg
  jvm_step h [h.top, hx, hd, hs, Value.category]
  exact hr
theorem own_min1 {i : Int32} {n : Nat} (h0 : 0 ≤ i.toInt) (h1 : i.toInt < (n : Int)) (hn : n < 1000) : (i + 1).toInt.toNat = i.toInt.toNat + 1 ∧ (i + 1).toInt = i.toInt + 1 := by
  have h2 := c_iadd i 1
  have h3 := rng32 (i + 1)
  have h4 : (1 : Int32).toInt = 1 := rfl
  omega
theorem own_ltN {i : Int32} {n : Nat} (hn : n < 1000) : i < n.toInt32 ↔ i.toInt < (n : Int) := by
  rw [Int32.lt_iff_toInt_lt, len_toInt (by omega)]
theorem own_getI {bs : List Int32} {i : Nat} (h : i < bs.length) : (bs.map Value.int)[i]? = some (.int (bs.getD i 0)) := by
  simp [List.getElem?_map, h]
theorem own_nat {i : Int32} (h : 0 ≤ i.toInt) : i.toInt = ((i.toInt.toNat : Nat) : Int) := by omega
theorem w_0 {a0 : Array Value} {Z : State} (hw : ∀ d ∈ tables_1, d.before a0 Z = true) : (Jvm.Cond.constant "com/example/stockwright/stockwright/model/PageOfPinLaw" (7 : Nat) (2147483647 : Int32)).before a0 Z = true := hw _ (List.mem_of_getElem? (i := 0) rfl)
theorem w_1 {a0 : Array Value} {Z : State} (hw : ∀ d ∈ tables_1, d.before a0 Z = true) : (Jvm.Cond.methodLink "com/example/stockwright/stockwright/model/PageOfPinLaw" (10 : Nat) ({ cls := "java/lang/Math", name := "max", desc := "(II)I" } : Jvm.MethodName)).before a0 Z = true := hw _ (List.mem_of_getElem? (i := 1) rfl)
theorem w_2 {a0 : Array Value} {Z : State} (hw : ∀ d ∈ tables_1, d.before a0 Z = true) : (Jvm.Cond.static ({ cls := "java/lang/Math", name := "max", desc := "(II)I" } : Jvm.MethodName)).before a0 Z = true := hw _ (List.mem_of_getElem? (i := 2) rfl)
theorem w_3 {a0 : Array Value} {Z : State} (hw : ∀ d ∈ tables_1, d.before a0 Z = true) : (Jvm.Cond.initialized "java/lang/Math").before a0 Z = true := hw _ (List.mem_of_getElem? (i := 3) rfl)
theorem w_4 {a0 : Array Value} {Z : State} (hw : ∀ d ∈ tables_1, d.before a0 Z = true) : (Jvm.Cond.code ({ cls := "java/lang/Math", name := "max", desc := "(II)I" } : Jvm.MethodName) jdk_29_method_65_code (2 : Nat) (Option.some Jvm.ClassFile.FieldType.int)).before a0 Z = true := hw _ (List.mem_of_getElem? (i := 4) rfl)
theorem w_5 {a0 : Array Value} {Z : State} (hw : ∀ d ∈ tables_1, d.before a0 Z = true) : (Jvm.Cond.constantLong "com/example/stockwright/stockwright/model/PageOfPinLaw" (16 : Nat) (511 : Int64)).before a0 Z = true := hw _ (List.mem_of_getElem? (i := 5) rfl)
theorem w_6 {a0 : Array Value} {Z : State} (hw : ∀ d ∈ tables_1, d.before a0 Z = true) : (Jvm.Cond.classLink "com/example/stockwright/stockwright/model/PageOfPinLaw" (20 : Nat) "java/util/ArrayList").before a0 Z = true := hw _ (List.mem_of_getElem? (i := 6) rfl)
theorem w_7 {a0 : Array Value} {Z : State} (hw : ∀ d ∈ tables_1, d.before a0 Z = true) : (Jvm.Cond.instantiable "java/util/ArrayList" (3 : Nat)).before a0 Z = true := hw _ (List.mem_of_getElem? (i := 7) rfl)
theorem w_8 {a0 : Array Value} {Z : State} (hw : ∀ d ∈ tables_1, d.before a0 Z = true) : (Jvm.Cond.initialized "java/util/ArrayList").before a0 Z = true := hw _ (List.mem_of_getElem? (i := 8) rfl)
theorem w_9 {a0 : Array Value} {Z : State} (hw : ∀ d ∈ tables_1, d.before a0 Z = true) : (Jvm.Cond.methodLink "com/example/stockwright/stockwright/model/PageOfPinLaw" (22 : Nat) ({ cls := "java/util/ArrayList", name := "<init>", desc := "()V" } : Jvm.MethodName)).before a0 Z = true := hw _ (List.mem_of_getElem? (i := 9) rfl)
theorem w_10 {a0 : Array Value} {Z : State} (hw : ∀ d ∈ tables_1, d.before a0 Z = true) : (Jvm.Cond.instanceMethod ({ cls := "java/util/ArrayList", name := "<init>", desc := "()V" } : Jvm.MethodName)).before a0 Z = true := hw _ (List.mem_of_getElem? (i := 10) rfl)
theorem w_11 {a0 : Array Value} {Z : State} (hw : ∀ d ∈ tables_1, d.before a0 Z = true) : (Jvm.Cond.code ({ cls := "java/util/ArrayList", name := "<init>", desc := "()V" } : Jvm.MethodName) jdk_38_method_2_code (1 : Nat) (Option.none : Option Jvm.ClassFile.FieldType)).before a0 Z = true := hw _ (List.mem_of_getElem? (i := 11) rfl)
theorem w_12 {a0 : Array Value} {Z : State} (hw : ∀ d ∈ tables_1, d.before a0 Z = true) : (Jvm.Cond.methodLink "java/util/ArrayList" (1 : Nat) ({ cls := "java/util/AbstractList", name := "<init>", desc := "()V" } : Jvm.MethodName)).before a0 Z = true := hw _ (List.mem_of_getElem? (i := 12) rfl)
theorem w_13 {a0 : Array Value} {Z : State} (hw : ∀ d ∈ tables_1, d.before a0 Z = true) : (Jvm.Cond.instanceMethod ({ cls := "java/util/AbstractList", name := "<init>", desc := "()V" } : Jvm.MethodName)).before a0 Z = true := hw _ (List.mem_of_getElem? (i := 13) rfl)
theorem w_16 {a0 : Array Value} {Z : State} (hw : ∀ d ∈ tables_1, d.before a0 Z = true) : (Jvm.Cond.initialized "java/util/AbstractList").before a0 Z = true := hw _ (List.mem_of_getElem? (i := 16) rfl)
theorem w_17 {a0 : Array Value} {Z : State} (hw : ∀ d ∈ tables_1, d.before a0 Z = true) : (Jvm.Cond.code ({ cls := "java/util/AbstractList", name := "<init>", desc := "()V" } : Jvm.MethodName) jdk_39_method_1_code (1 : Nat) (Option.none : Option Jvm.ClassFile.FieldType)).before a0 Z = true := hw _ (List.mem_of_getElem? (i := 17) rfl)
theorem w_18 {a0 : Array Value} {Z : State} (hw : ∀ d ∈ tables_1, d.before a0 Z = true) : (Jvm.Cond.methodLink "java/util/AbstractList" (1 : Nat) ({ cls := "java/util/AbstractCollection", name := "<init>", desc := "()V" } : Jvm.MethodName)).before a0 Z = true := hw _ (List.mem_of_getElem? (i := 18) rfl)
theorem w_19 {a0 : Array Value} {Z : State} (hw : ∀ d ∈ tables_1, d.before a0 Z = true) : (Jvm.Cond.instanceMethod ({ cls := "java/util/AbstractCollection", name := "<init>", desc := "()V" } : Jvm.MethodName)).before a0 Z = true := hw _ (List.mem_of_getElem? (i := 19) rfl)
theorem w_22 {a0 : Array Value} {Z : State} (hw : ∀ d ∈ tables_1, d.before a0 Z = true) : (Jvm.Cond.initialized "java/util/AbstractCollection").before a0 Z = true := hw _ (List.mem_of_getElem? (i := 22) rfl)
theorem w_23 {a0 : Array Value} {Z : State} (hw : ∀ d ∈ tables_1, d.before a0 Z = true) : (Jvm.Cond.code ({ cls := "java/util/AbstractCollection", name := "<init>", desc := "()V" } : Jvm.MethodName) jdk_22_method_1_code (1 : Nat) (Option.none : Option Jvm.ClassFile.FieldType)).before a0 Z = true := hw _ (List.mem_of_getElem? (i := 23) rfl)
theorem w_24 {a0 : Array Value} {Z : State} (hw : ∀ d ∈ tables_1, d.before a0 Z = true) : (Jvm.Cond.methodLink "java/util/AbstractCollection" (1 : Nat) ({ cls := "java/lang/Object", name := "<init>", desc := "()V" } : Jvm.MethodName)).before a0 Z = true := hw _ (List.mem_of_getElem? (i := 24) rfl)
theorem w_25 {a0 : Array Value} {Z : State} (hw : ∀ d ∈ tables_1, d.before a0 Z = true) : (Jvm.Cond.instanceMethod ({ cls := "java/lang/Object", name := "<init>", desc := "()V" } : Jvm.MethodName)).before a0 Z = true := hw _ (List.mem_of_getElem? (i := 25) rfl)
theorem w_26 {a0 : Array Value} {Z : State} (hw : ∀ d ∈ tables_1, d.before a0 Z = true) : (Jvm.Cond.code ({ cls := "java/lang/Object", name := "<init>", desc := "()V" } : Jvm.MethodName) object_method_1_code (1 : Nat) (Option.none : Option Jvm.ClassFile.FieldType)).before a0 Z = true := hw _ (List.mem_of_getElem? (i := 26) rfl)
theorem w_27 {a0 : Array Value} {Z : State} (hw : ∀ d ∈ tables_1, d.before a0 Z = true) : (Jvm.Cond.fieldLink "java/util/AbstractList" (7 : Nat) "java/util/AbstractList" "modCount" "I").before a0 Z = true := hw _ (List.mem_of_getElem? (i := 27) rfl)
theorem w_28 {a0 : Array Value} {Z : State} (hw : ∀ d ∈ tables_1, d.before a0 Z = true) : (Jvm.Cond.lays "java/util/ArrayList" "java/util/AbstractList" "modCount" "I").before a0 Z = true := hw _ (List.mem_of_getElem? (i := 28) rfl)
theorem w_29 {a0 : Array Value} {Z : State} (hw : ∀ d ∈ tables_1, d.before a0 Z = true) : (Jvm.Cond.fieldLink "java/util/ArrayList" (39 : Nat) "java/util/ArrayList" "DEFAULTCAPACITY_EMPTY_ELEMENTDATA" "[Ljava/lang/Object;").before a0 Z = true := hw _ (List.mem_of_getElem? (i := 29) rfl)
theorem w_30 {a0 : Array Value} {Z : State} (hw : ∀ d ∈ tables_1, d.before a0 Z = true) : (Jvm.Cond.fieldLink "java/util/ArrayList" (9 : Nat) "java/util/ArrayList" "elementData" "[Ljava/lang/Object;").before a0 Z = true := hw _ (List.mem_of_getElem? (i := 30) rfl)
theorem w_31 {a0 : Array Value} {Z : State} (hw : ∀ d ∈ tables_1, d.before a0 Z = true) : (Jvm.Cond.lays "java/util/ArrayList" "java/util/ArrayList" "elementData" "[Ljava/lang/Object;").before a0 Z = true := hw _ (List.mem_of_getElem? (i := 31) rfl)
theorem w_32 {a0 : Array Value} {Z : State} (hw : ∀ d ∈ tables_1, d.before a0 Z = true) : (Jvm.Cond.methodLink "com/example/stockwright/stockwright/model/PageOfPinLaw" (23 : Nat) ({ cls := "java/lang/Integer", name := "valueOf", desc := "(I)Ljava/lang/Integer;" } : Jvm.MethodName)).before a0 Z = true := hw _ (List.mem_of_getElem? (i := 32) rfl)
theorem w_33 {a0 : Array Value} {Z : State} (hw : ∀ d ∈ tables_1, d.before a0 Z = true) : (Jvm.Cond.static ({ cls := "java/lang/Integer", name := "valueOf", desc := "(I)Ljava/lang/Integer;" } : Jvm.MethodName)).before a0 Z = true := hw _ (List.mem_of_getElem? (i := 33) rfl)
theorem w_34 {a0 : Array Value} {Z : State} (hw : ∀ d ∈ tables_1, d.before a0 Z = true) : (Jvm.Cond.initialized "java/lang/Integer").before a0 Z = true := hw _ (List.mem_of_getElem? (i := 34) rfl)
theorem w_35 {a0 : Array Value} {Z : State} (hw : ∀ d ∈ tables_1, d.before a0 Z = true) : (Jvm.Cond.code ({ cls := "java/lang/Integer", name := "valueOf", desc := "(I)Ljava/lang/Integer;" } : Jvm.MethodName) jdk_33_method_22_code (1 : Nat) (Option.some (Jvm.ClassFile.FieldType.object "java/lang/Integer"))).before a0 Z = true := hw _ (List.mem_of_getElem? (i := 35) rfl)
theorem w_36 {a0 : Array Value} {Z : State} (hw : ∀ d ∈ tables_1, d.before a0 Z = true) : (Jvm.Cond.fieldLink "java/lang/Integer" (191 : Nat) "java/lang/Integer$IntegerCache" "high" "I").before a0 Z = true := hw _ (List.mem_of_getElem? (i := 36) rfl)
theorem w_37 {a0 : Array Value} {Z : State} (hw : ∀ d ∈ tables_1, d.before a0 Z = true) : (Jvm.Cond.initialized "java/lang/Integer$IntegerCache").before a0 Z = true := hw _ (List.mem_of_getElem? (i := 37) rfl)
theorem w_38 {a0 : Array Value} {Z : State} (hw : ∀ d ∈ tables_1, d.before a0 Z = true) : (Jvm.Cond.fieldLink "java/lang/Integer" (195 : Nat) "java/lang/Integer$IntegerCache" "cache" "[Ljava/lang/Integer;").before a0 Z = true := hw _ (List.mem_of_getElem? (i := 38) rfl)
theorem w_39 {a0 : Array Value} {Z : State} (hw : ∀ d ∈ tables_1, d.before a0 Z = true) : (Jvm.Cond.methodLink "com/example/stockwright/stockwright/model/PageOfPinLaw" (29 : Nat) ({ cls := "java/util/ArrayList", name := "add", desc := "(Ljava/lang/Object;)Z" } : Jvm.MethodName)).before a0 Z = true := hw _ (List.mem_of_getElem? (i := 39) rfl)
theorem w_40 {a0 : Array Value} {Z : State} (hw : ∀ d ∈ tables_1, d.before a0 Z = true) : (Jvm.Cond.declares ({ cls := "java/util/ArrayList", name := "add", desc := "(Ljava/lang/Object;)Z" } : Jvm.MethodName)).before a0 Z = true := hw _ (List.mem_of_getElem? (i := 40) rfl)
theorem w_41 {a0 : Array Value} {Z : State} (hw : ∀ d ∈ tables_1, d.before a0 Z = true) : (Jvm.Cond.instanceMethod ({ cls := "java/util/ArrayList", name := "add", desc := "(Ljava/lang/Object;)Z" } : Jvm.MethodName)).before a0 Z = true := hw _ (List.mem_of_getElem? (i := 41) rfl)
theorem w_42 {a0 : Array Value} {Z : State} (hw : ∀ d ∈ tables_1, d.before a0 Z = true) : (Jvm.Cond.selects "java/util/ArrayList" ({ cls := "java/util/ArrayList", name := "add", desc := "(Ljava/lang/Object;)Z" } : Jvm.MethodName) ({ cls := "java/util/ArrayList", name := "add", desc := "(Ljava/lang/Object;)Z" } : Jvm.MethodName)).before a0 Z = true := hw _ (List.mem_of_getElem? (i := 42) rfl)
theorem w_43 {a0 : Array Value} {Z : State} (hw : ∀ d ∈ tables_1, d.before a0 Z = true) : (Jvm.Cond.code ({ cls := "java/util/ArrayList", name := "add", desc := "(Ljava/lang/Object;)Z" } : Jvm.MethodName) jdk_38_method_25_code (2 : Nat) (Option.some Jvm.ClassFile.FieldType.boolean)).before a0 Z = true := hw _ (List.mem_of_getElem? (i := 43) rfl)
theorem w_44 {a0 : Array Value} {Z : State} (hw : ∀ d ∈ tables_1, d.before a0 Z = true) : (Jvm.Cond.fieldLink "java/util/ArrayList" (63 : Nat) "java/util/ArrayList" "modCount" "I").before a0 Z = true := hw _ (List.mem_of_getElem? (i := 44) rfl)
theorem w_45 {a0 : Array Value} {Z : State} (hw : ∀ d ∈ tables_1, d.before a0 Z = true) : (Jvm.Cond.sameField "java/util/ArrayList" "java/util/AbstractList" "modCount" "I").before a0 Z = true := hw _ (List.mem_of_getElem? (i := 45) rfl)
theorem w_46 {a0 : Array Value} {Z : State} (hw : ∀ d ∈ tables_1, d.before a0 Z = true) : (Jvm.Cond.fieldLink "java/util/ArrayList" (48 : Nat) "java/util/ArrayList" "size" "I").before a0 Z = true := hw _ (List.mem_of_getElem? (i := 46) rfl)
theorem w_47 {a0 : Array Value} {Z : State} (hw : ∀ d ∈ tables_1, d.before a0 Z = true) : (Jvm.Cond.lays "java/util/ArrayList" "java/util/ArrayList" "size" "I").before a0 Z = true := hw _ (List.mem_of_getElem? (i := 47) rfl)
theorem w_48 {a0 : Array Value} {Z : State} (hw : ∀ d ∈ tables_1, d.before a0 Z = true) : (Jvm.Cond.methodLink "java/util/ArrayList" (131 : Nat) ({ cls := "java/util/ArrayList", name := "add", desc := "(Ljava/lang/Object;[Ljava/lang/Object;I)V" } : Jvm.MethodName)).before a0 Z = true := hw _ (List.mem_of_getElem? (i := 48) rfl)
theorem w_49 {a0 : Array Value} {Z : State} (hw : ∀ d ∈ tables_1, d.before a0 Z = true) : (Jvm.Cond.instanceMethod ({ cls := "java/util/ArrayList", name := "add", desc := "(Ljava/lang/Object;[Ljava/lang/Object;I)V" } : Jvm.MethodName)).before a0 Z = true := hw _ (List.mem_of_getElem? (i := 49) rfl)
theorem w_50 {a0 : Array Value} {Z : State} (hw : ∀ d ∈ tables_1, d.before a0 Z = true) : (Jvm.Cond.privateMethod ({ cls := "java/util/ArrayList", name := "add", desc := "(Ljava/lang/Object;[Ljava/lang/Object;I)V" } : Jvm.MethodName)).before a0 Z = true := hw _ (List.mem_of_getElem? (i := 50) rfl)
theorem w_51 {a0 : Array Value} {Z : State} (hw : ∀ d ∈ tables_1, d.before a0 Z = true) : (Jvm.Cond.selects "java/util/ArrayList" ({ cls := "java/util/ArrayList", name := "add", desc := "(Ljava/lang/Object;[Ljava/lang/Object;I)V" } : Jvm.MethodName) ({ cls := "java/util/ArrayList", name := "add", desc := "(Ljava/lang/Object;[Ljava/lang/Object;I)V" } : Jvm.MethodName)).before a0 Z = true := hw _ (List.mem_of_getElem? (i := 51) rfl)
theorem w_52 {a0 : Array Value} {Z : State} (hw : ∀ d ∈ tables_1, d.before a0 Z = true) : (Jvm.Cond.code ({ cls := "java/util/ArrayList", name := "add", desc := "(Ljava/lang/Object;[Ljava/lang/Object;I)V" } : Jvm.MethodName) jdk_38_method_24_code (4 : Nat) (Option.none : Option Jvm.ClassFile.FieldType)).before a0 Z = true := hw _ (List.mem_of_getElem? (i := 52) rfl)
theorem w_53 {a0 : Array Value} {Z : State} (hw : ∀ d ∈ tables_1, d.before a0 Z = true) : (Jvm.Cond.methodLink "java/util/ArrayList" (129 : Nat) ({ cls := "java/util/ArrayList", name := "grow", desc := "()[Ljava/lang/Object;" } : Jvm.MethodName)).before a0 Z = true := hw _ (List.mem_of_getElem? (i := 53) rfl)
theorem w_54 {a0 : Array Value} {Z : State} (hw : ∀ d ∈ tables_1, d.before a0 Z = true) : (Jvm.Cond.instanceMethod ({ cls := "java/util/ArrayList", name := "grow", desc := "()[Ljava/lang/Object;" } : Jvm.MethodName)).before a0 Z = true := hw _ (List.mem_of_getElem? (i := 54) rfl)
theorem w_55 {a0 : Array Value} {Z : State} (hw : ∀ d ∈ tables_1, d.before a0 Z = true) : (Jvm.Cond.privateMethod ({ cls := "java/util/ArrayList", name := "grow", desc := "()[Ljava/lang/Object;" } : Jvm.MethodName)).before a0 Z = true := hw _ (List.mem_of_getElem? (i := 55) rfl)
theorem w_56 {a0 : Array Value} {Z : State} (hw : ∀ d ∈ tables_1, d.before a0 Z = true) : (Jvm.Cond.selects "java/util/ArrayList" ({ cls := "java/util/ArrayList", name := "grow", desc := "()[Ljava/lang/Object;" } : Jvm.MethodName) ({ cls := "java/util/ArrayList", name := "grow", desc := "()[Ljava/lang/Object;" } : Jvm.MethodName)).before a0 Z = true := hw _ (List.mem_of_getElem? (i := 56) rfl)
theorem w_57 {a0 : Array Value} {Z : State} (hw : ∀ d ∈ tables_1, d.before a0 Z = true) : (Jvm.Cond.code ({ cls := "java/util/ArrayList", name := "grow", desc := "()[Ljava/lang/Object;" } : Jvm.MethodName) jdk_38_method_7_code (1 : Nat) (Option.some (Jvm.ClassFile.FieldType.array (Jvm.ClassFile.FieldType.object "java/lang/Object")))).before a0 Z = true := hw _ (List.mem_of_getElem? (i := 57) rfl)
theorem w_58 {a0 : Array Value} {Z : State} (hw : ∀ d ∈ tables_1, d.before a0 Z = true) : (Jvm.Cond.methodLink "java/util/ArrayList" (69 : Nat) ({ cls := "java/util/ArrayList", name := "grow", desc := "(I)[Ljava/lang/Object;" } : Jvm.MethodName)).before a0 Z = true := hw _ (List.mem_of_getElem? (i := 58) rfl)
theorem w_59 {a0 : Array Value} {Z : State} (hw : ∀ d ∈ tables_1, d.before a0 Z = true) : (Jvm.Cond.instanceMethod ({ cls := "java/util/ArrayList", name := "grow", desc := "(I)[Ljava/lang/Object;" } : Jvm.MethodName)).before a0 Z = true := hw _ (List.mem_of_getElem? (i := 59) rfl)
theorem w_60 {a0 : Array Value} {Z : State} (hw : ∀ d ∈ tables_1, d.before a0 Z = true) : (Jvm.Cond.privateMethod ({ cls := "java/util/ArrayList", name := "grow", desc := "(I)[Ljava/lang/Object;" } : Jvm.MethodName)).before a0 Z = true := hw _ (List.mem_of_getElem? (i := 60) rfl)
theorem w_61 {a0 : Array Value} {Z : State} (hw : ∀ d ∈ tables_1, d.before a0 Z = true) : (Jvm.Cond.selects "java/util/ArrayList" ({ cls := "java/util/ArrayList", name := "grow", desc := "(I)[Ljava/lang/Object;" } : Jvm.MethodName) ({ cls := "java/util/ArrayList", name := "grow", desc := "(I)[Ljava/lang/Object;" } : Jvm.MethodName)).before a0 Z = true := hw _ (List.mem_of_getElem? (i := 61) rfl)
theorem w_62 {a0 : Array Value} {Z : State} (hw : ∀ d ∈ tables_1, d.before a0 Z = true) : (Jvm.Cond.code ({ cls := "java/util/ArrayList", name := "grow", desc := "(I)[Ljava/lang/Object;" } : Jvm.MethodName) jdk_38_method_6_code (4 : Nat) (Option.some (Jvm.ClassFile.FieldType.array (Jvm.ClassFile.FieldType.object "java/lang/Object")))).before a0 Z = true := hw _ (List.mem_of_getElem? (i := 62) rfl)
theorem w_63 {a0 : Array Value} {Z : State} (hw : ∀ d ∈ tables_1, d.before a0 Z = true) : (Jvm.Cond.methodLink "java/util/ArrayList" (79 : Nat) ({ cls := "java/lang/Math", name := "max", desc := "(II)I" } : Jvm.MethodName)).before a0 Z = true := hw _ (List.mem_of_getElem? (i := 63) rfl)
theorem w_64 {a0 : Array Value} {Z : State} (hw : ∀ d ∈ tables_1, d.before a0 Z = true) : (Jvm.Cond.classLink "java/util/ArrayList" (7 : Nat) "java/lang/Object").before a0 Z = true := hw _ (List.mem_of_getElem? (i := 64) rfl)
theorem w_65 {a0 : Array Value} {Z : State} (hw : ∀ d ∈ tables_1, d.before a0 Z = true) : (Jvm.Cond.arrayOver (Jvm.ClassFile.FieldType.object "java/lang/Object")).before a0 Z = true := hw _ (List.mem_of_getElem? (i := 65) rfl)
theorem w_66 {a0 : Array Value} {Z : State} (hw : ∀ d ∈ tables_1, d.before a0 Z = true) : (Jvm.Cond.castable "java/lang/Integer" "java/lang/Object").before a0 Z = true := hw _ (List.mem_of_getElem? (i := 66) rfl)
theorem w_67 {a0 : Array Value} {Z : State} (hw : ∀ d ∈ tables_1, d.before a0 Z = true) : (Jvm.Cond.classLink "com/example/stockwright/stockwright/model/PageOfPinLaw" (8 : Nat) "com/example/stockwright/stockwright/model/PageRequest").before a0 Z = true := hw _ (List.mem_of_getElem? (i := 67) rfl)
theorem w_68 {a0 : Array Value} {Z : State} (hw : ∀ d ∈ tables_1, d.before a0 Z = true) : (Jvm.Cond.instantiable "com/example/stockwright/stockwright/model/PageRequest" (2 : Nat)).before a0 Z = true := hw _ (List.mem_of_getElem? (i := 68) rfl)
theorem w_69 {a0 : Array Value} {Z : State} (hw : ∀ d ∈ tables_1, d.before a0 Z = true) : (Jvm.Cond.initialized "com/example/stockwright/stockwright/model/PageRequest").before a0 Z = true := hw _ (List.mem_of_getElem? (i := 69) rfl)
theorem w_70 {a0 : Array Value} {Z : State} (hw : ∀ d ∈ tables_1, d.before a0 Z = true) : (Jvm.Cond.methodLink "com/example/stockwright/stockwright/model/PageOfPinLaw" (33 : Nat) ({ cls := "com/example/stockwright/stockwright/model/PageRequest", name := "<init>", desc := "(II)V" } : Jvm.MethodName)).before a0 Z = true := hw _ (List.mem_of_getElem? (i := 70) rfl)
theorem w_71 {a0 : Array Value} {Z : State} (hw : ∀ d ∈ tables_1, d.before a0 Z = true) : (Jvm.Cond.instanceMethod ({ cls := "com/example/stockwright/stockwright/model/PageRequest", name := "<init>", desc := "(II)V" } : Jvm.MethodName)).before a0 Z = true := hw _ (List.mem_of_getElem? (i := 71) rfl)
theorem w_72 {a0 : Array Value} {Z : State} (hw : ∀ d ∈ tables_1, d.before a0 Z = true) : (Jvm.Cond.code ({ cls := "com/example/stockwright/stockwright/model/PageRequest", name := "<init>", desc := "(II)V" } : Jvm.MethodName) prog_9_method_1_code (3 : Nat) (Option.none : Option Jvm.ClassFile.FieldType)).before a0 Z = true := hw _ (List.mem_of_getElem? (i := 72) rfl)
theorem w_73 {a0 : Array Value} {Z : State} (hw : ∀ d ∈ tables_1, d.before a0 Z = true) : (Jvm.Cond.methodLink "com/example/stockwright/stockwright/model/PageRequest" (1 : Nat) ({ cls := "java/lang/Record", name := "<init>", desc := "()V" } : Jvm.MethodName)).before a0 Z = true := hw _ (List.mem_of_getElem? (i := 73) rfl)
theorem w_74 {a0 : Array Value} {Z : State} (hw : ∀ d ∈ tables_1, d.before a0 Z = true) : (Jvm.Cond.instanceMethod ({ cls := "java/lang/Record", name := "<init>", desc := "()V" } : Jvm.MethodName)).before a0 Z = true := hw _ (List.mem_of_getElem? (i := 74) rfl)
theorem w_76 {a0 : Array Value} {Z : State} (hw : ∀ d ∈ tables_1, d.before a0 Z = true) : (Jvm.Cond.initialized "java/lang/Record").before a0 Z = true := hw _ (List.mem_of_getElem? (i := 76) rfl)
theorem w_77 {a0 : Array Value} {Z : State} (hw : ∀ d ∈ tables_1, d.before a0 Z = true) : (Jvm.Cond.code ({ cls := "java/lang/Record", name := "<init>", desc := "()V" } : Jvm.MethodName) jdk_30_method_1_code (1 : Nat) (Option.none : Option Jvm.ClassFile.FieldType)).before a0 Z = true := hw _ (List.mem_of_getElem? (i := 77) rfl)
theorem w_78 {a0 : Array Value} {Z : State} (hw : ∀ d ∈ tables_1, d.before a0 Z = true) : (Jvm.Cond.methodLink "java/lang/Record" (1 : Nat) ({ cls := "java/lang/Object", name := "<init>", desc := "()V" } : Jvm.MethodName)).before a0 Z = true := hw _ (List.mem_of_getElem? (i := 78) rfl)
theorem w_79 {a0 : Array Value} {Z : State} (hw : ∀ d ∈ tables_1, d.before a0 Z = true) : (Jvm.Cond.fieldLink "com/example/stockwright/stockwright/model/PageRequest" (7 : Nat) "com/example/stockwright/stockwright/model/PageRequest" "page" "I").before a0 Z = true := hw _ (List.mem_of_getElem? (i := 79) rfl)
theorem w_80 {a0 : Array Value} {Z : State} (hw : ∀ d ∈ tables_1, d.before a0 Z = true) : (Jvm.Cond.laysFinal "com/example/stockwright/stockwright/model/PageRequest" "com/example/stockwright/stockwright/model/PageRequest" "page" "I").before a0 Z = true := hw _ (List.mem_of_getElem? (i := 80) rfl)
theorem w_81 {a0 : Array Value} {Z : State} (hw : ∀ d ∈ tables_1, d.before a0 Z = true) : (Jvm.Cond.fieldLink "com/example/stockwright/stockwright/model/PageRequest" (13 : Nat) "com/example/stockwright/stockwright/model/PageRequest" "pageSize" "I").before a0 Z = true := hw _ (List.mem_of_getElem? (i := 81) rfl)
theorem w_82 {a0 : Array Value} {Z : State} (hw : ∀ d ∈ tables_1, d.before a0 Z = true) : (Jvm.Cond.laysFinal "com/example/stockwright/stockwright/model/PageRequest" "com/example/stockwright/stockwright/model/PageRequest" "pageSize" "I").before a0 Z = true := hw _ (List.mem_of_getElem? (i := 82) rfl)
theorem w_83 {a0 : Array Value} {Z : State} (hw : ∀ d ∈ tables_1, d.before a0 Z = true) : (Jvm.Cond.methodLink "com/example/stockwright/stockwright/model/PageOfPinLaw" (36 : Nat) ({ cls := "com/example/stockwright/stockwright/model/Page", name := "of", desc := "(Ljava/util/List;Lcom/example/stockwright/stockwright/model/PageRequest;J)Lcom/example/stockwright/stockwright/model/Page;" } : Jvm.MethodName)).before a0 Z = true := hw _ (List.mem_of_getElem? (i := 83) rfl)
theorem w_84 {a0 : Array Value} {Z : State} (hw : ∀ d ∈ tables_1, d.before a0 Z = true) : (Jvm.Cond.static ({ cls := "com/example/stockwright/stockwright/model/Page", name := "of", desc := "(Ljava/util/List;Lcom/example/stockwright/stockwright/model/PageRequest;J)Lcom/example/stockwright/stockwright/model/Page;" } : Jvm.MethodName)).before a0 Z = true := hw _ (List.mem_of_getElem? (i := 84) rfl)
theorem w_85 {a0 : Array Value} {Z : State} (hw : ∀ d ∈ tables_1, d.before a0 Z = true) : (Jvm.Cond.initialized "com/example/stockwright/stockwright/model/Page").before a0 Z = true := hw _ (List.mem_of_getElem? (i := 85) rfl)
theorem w_86 {a0 : Array Value} {Z : State} (hw : ∀ d ∈ tables_1, d.before a0 Z = true) : (Jvm.Cond.code ({ cls := "com/example/stockwright/stockwright/model/Page", name := "of", desc := "(Ljava/util/List;Lcom/example/stockwright/stockwright/model/PageRequest;J)Lcom/example/stockwright/stockwright/model/Page;" } : Jvm.MethodName) prog_7_method_2_code (6 : Nat) (Option.some (Jvm.ClassFile.FieldType.object "com/example/stockwright/stockwright/model/Page"))).before a0 Z = true := hw _ (List.mem_of_getElem? (i := 86) rfl)
theorem w_87 {a0 : Array Value} {Z : State} (hw : ∀ d ∈ tables_1, d.before a0 Z = true) : (Jvm.Cond.methodLink "com/example/stockwright/stockwright/model/Page" (27 : Nat) ({ cls := "com/example/stockwright/stockwright/model/PageRequest", name := "pageSize", desc := "()I" } : Jvm.MethodName)).before a0 Z = true := hw _ (List.mem_of_getElem? (i := 87) rfl)
theorem w_88 {a0 : Array Value} {Z : State} (hw : ∀ d ∈ tables_1, d.before a0 Z = true) : (Jvm.Cond.declares ({ cls := "com/example/stockwright/stockwright/model/PageRequest", name := "pageSize", desc := "()I" } : Jvm.MethodName)).before a0 Z = true := hw _ (List.mem_of_getElem? (i := 88) rfl)
theorem w_89 {a0 : Array Value} {Z : State} (hw : ∀ d ∈ tables_1, d.before a0 Z = true) : (Jvm.Cond.instanceMethod ({ cls := "com/example/stockwright/stockwright/model/PageRequest", name := "pageSize", desc := "()I" } : Jvm.MethodName)).before a0 Z = true := hw _ (List.mem_of_getElem? (i := 89) rfl)
theorem w_90 {a0 : Array Value} {Z : State} (hw : ∀ d ∈ tables_1, d.before a0 Z = true) : (Jvm.Cond.selects "com/example/stockwright/stockwright/model/PageRequest" ({ cls := "com/example/stockwright/stockwright/model/PageRequest", name := "pageSize", desc := "()I" } : Jvm.MethodName) ({ cls := "com/example/stockwright/stockwright/model/PageRequest", name := "pageSize", desc := "()I" } : Jvm.MethodName)).before a0 Z = true := hw _ (List.mem_of_getElem? (i := 90) rfl)
theorem w_91 {a0 : Array Value} {Z : State} (hw : ∀ d ∈ tables_1, d.before a0 Z = true) : (Jvm.Cond.code ({ cls := "com/example/stockwright/stockwright/model/PageRequest", name := "pageSize", desc := "()I" } : Jvm.MethodName) prog_9_method_7_code (1 : Nat) (Option.some Jvm.ClassFile.FieldType.int)).before a0 Z = true := hw _ (List.mem_of_getElem? (i := 91) rfl)
theorem w_92 {a0 : Array Value} {Z : State} (hw : ∀ d ∈ tables_1, d.before a0 Z = true) : (Jvm.Cond.classLink "com/example/stockwright/stockwright/model/Page" (8 : Nat) "com/example/stockwright/stockwright/model/Page").before a0 Z = true := hw _ (List.mem_of_getElem? (i := 92) rfl)
theorem w_93 {a0 : Array Value} {Z : State} (hw : ∀ d ∈ tables_1, d.before a0 Z = true) : (Jvm.Cond.instantiable "com/example/stockwright/stockwright/model/Page" (5 : Nat)).before a0 Z = true := hw _ (List.mem_of_getElem? (i := 93) rfl)
theorem w_94 {a0 : Array Value} {Z : State} (hw : ∀ d ∈ tables_1, d.before a0 Z = true) : (Jvm.Cond.methodLink "com/example/stockwright/stockwright/model/Page" (32 : Nat) ({ cls := "com/example/stockwright/stockwright/model/PageRequest", name := "page", desc := "()I" } : Jvm.MethodName)).before a0 Z = true := hw _ (List.mem_of_getElem? (i := 94) rfl)
theorem w_95 {a0 : Array Value} {Z : State} (hw : ∀ d ∈ tables_1, d.before a0 Z = true) : (Jvm.Cond.declares ({ cls := "com/example/stockwright/stockwright/model/PageRequest", name := "page", desc := "()I" } : Jvm.MethodName)).before a0 Z = true := hw _ (List.mem_of_getElem? (i := 95) rfl)
theorem w_96 {a0 : Array Value} {Z : State} (hw : ∀ d ∈ tables_1, d.before a0 Z = true) : (Jvm.Cond.instanceMethod ({ cls := "com/example/stockwright/stockwright/model/PageRequest", name := "page", desc := "()I" } : Jvm.MethodName)).before a0 Z = true := hw _ (List.mem_of_getElem? (i := 96) rfl)
theorem w_97 {a0 : Array Value} {Z : State} (hw : ∀ d ∈ tables_1, d.before a0 Z = true) : (Jvm.Cond.selects "com/example/stockwright/stockwright/model/PageRequest" ({ cls := "com/example/stockwright/stockwright/model/PageRequest", name := "page", desc := "()I" } : Jvm.MethodName) ({ cls := "com/example/stockwright/stockwright/model/PageRequest", name := "page", desc := "()I" } : Jvm.MethodName)).before a0 Z = true := hw _ (List.mem_of_getElem? (i := 97) rfl)
theorem w_98 {a0 : Array Value} {Z : State} (hw : ∀ d ∈ tables_1, d.before a0 Z = true) : (Jvm.Cond.code ({ cls := "com/example/stockwright/stockwright/model/PageRequest", name := "page", desc := "()I" } : Jvm.MethodName) prog_9_method_6_code (1 : Nat) (Option.some Jvm.ClassFile.FieldType.int)).before a0 Z = true := hw _ (List.mem_of_getElem? (i := 98) rfl)
theorem w_99 {a0 : Array Value} {Z : State} (hw : ∀ d ∈ tables_1, d.before a0 Z = true) : (Jvm.Cond.methodLink "com/example/stockwright/stockwright/model/Page" (34 : Nat) ({ cls := "com/example/stockwright/stockwright/model/Page", name := "<init>", desc := "(Ljava/util/List;IIJJ)V" } : Jvm.MethodName)).before a0 Z = true := hw _ (List.mem_of_getElem? (i := 99) rfl)
theorem w_100 {a0 : Array Value} {Z : State} (hw : ∀ d ∈ tables_1, d.before a0 Z = true) : (Jvm.Cond.instanceMethod ({ cls := "com/example/stockwright/stockwright/model/Page", name := "<init>", desc := "(Ljava/util/List;IIJJ)V" } : Jvm.MethodName)).before a0 Z = true := hw _ (List.mem_of_getElem? (i := 100) rfl)
theorem w_101 {a0 : Array Value} {Z : State} (hw : ∀ d ∈ tables_1, d.before a0 Z = true) : (Jvm.Cond.code ({ cls := "com/example/stockwright/stockwright/model/Page", name := "<init>", desc := "(Ljava/util/List;IIJJ)V" } : Jvm.MethodName) prog_7_method_1_code (8 : Nat) (Option.none : Option Jvm.ClassFile.FieldType)).before a0 Z = true := hw _ (List.mem_of_getElem? (i := 101) rfl)
theorem w_102 {a0 : Array Value} {Z : State} (hw : ∀ d ∈ tables_1, d.before a0 Z = true) : (Jvm.Cond.methodLink "com/example/stockwright/stockwright/model/Page" (1 : Nat) ({ cls := "java/lang/Record", name := "<init>", desc := "()V" } : Jvm.MethodName)).before a0 Z = true := hw _ (List.mem_of_getElem? (i := 102) rfl)
theorem w_103 {a0 : Array Value} {Z : State} (hw : ∀ d ∈ tables_1, d.before a0 Z = true) : (Jvm.Cond.fieldLink "com/example/stockwright/stockwright/model/Page" (7 : Nat) "com/example/stockwright/stockwright/model/Page" "items" "Ljava/util/List;").before a0 Z = true := hw _ (List.mem_of_getElem? (i := 103) rfl)
theorem w_104 {a0 : Array Value} {Z : State} (hw : ∀ d ∈ tables_1, d.before a0 Z = true) : (Jvm.Cond.laysFinal "com/example/stockwright/stockwright/model/Page" "com/example/stockwright/stockwright/model/Page" "items" "Ljava/util/List;").before a0 Z = true := hw _ (List.mem_of_getElem? (i := 104) rfl)
theorem w_105 {a0 : Array Value} {Z : State} (hw : ∀ d ∈ tables_1, d.before a0 Z = true) : (Jvm.Cond.fieldLink "com/example/stockwright/stockwright/model/Page" (13 : Nat) "com/example/stockwright/stockwright/model/Page" "page" "I").before a0 Z = true := hw _ (List.mem_of_getElem? (i := 105) rfl)
theorem w_106 {a0 : Array Value} {Z : State} (hw : ∀ d ∈ tables_1, d.before a0 Z = true) : (Jvm.Cond.laysFinal "com/example/stockwright/stockwright/model/Page" "com/example/stockwright/stockwright/model/Page" "page" "I").before a0 Z = true := hw _ (List.mem_of_getElem? (i := 106) rfl)
theorem w_107 {a0 : Array Value} {Z : State} (hw : ∀ d ∈ tables_1, d.before a0 Z = true) : (Jvm.Cond.fieldLink "com/example/stockwright/stockwright/model/Page" (17 : Nat) "com/example/stockwright/stockwright/model/Page" "pageSize" "I").before a0 Z = true := hw _ (List.mem_of_getElem? (i := 107) rfl)
theorem w_108 {a0 : Array Value} {Z : State} (hw : ∀ d ∈ tables_1, d.before a0 Z = true) : (Jvm.Cond.laysFinal "com/example/stockwright/stockwright/model/Page" "com/example/stockwright/stockwright/model/Page" "pageSize" "I").before a0 Z = true := hw _ (List.mem_of_getElem? (i := 108) rfl)
theorem w_109 {a0 : Array Value} {Z : State} (hw : ∀ d ∈ tables_1, d.before a0 Z = true) : (Jvm.Cond.fieldLink "com/example/stockwright/stockwright/model/Page" (20 : Nat) "com/example/stockwright/stockwright/model/Page" "totalItems" "J").before a0 Z = true := hw _ (List.mem_of_getElem? (i := 109) rfl)
theorem w_110 {a0 : Array Value} {Z : State} (hw : ∀ d ∈ tables_1, d.before a0 Z = true) : (Jvm.Cond.laysFinal "com/example/stockwright/stockwright/model/Page" "com/example/stockwright/stockwright/model/Page" "totalItems" "J").before a0 Z = true := hw _ (List.mem_of_getElem? (i := 110) rfl)
theorem w_111 {a0 : Array Value} {Z : State} (hw : ∀ d ∈ tables_1, d.before a0 Z = true) : (Jvm.Cond.fieldLink "com/example/stockwright/stockwright/model/Page" (24 : Nat) "com/example/stockwright/stockwright/model/Page" "totalPages" "J").before a0 Z = true := hw _ (List.mem_of_getElem? (i := 111) rfl)
theorem w_112 {a0 : Array Value} {Z : State} (hw : ∀ d ∈ tables_1, d.before a0 Z = true) : (Jvm.Cond.laysFinal "com/example/stockwright/stockwright/model/Page" "com/example/stockwright/stockwright/model/Page" "totalPages" "J").before a0 Z = true := hw _ (List.mem_of_getElem? (i := 112) rfl)
theorem w_113 {a0 : Array Value} {Z : State} (hw : ∀ d ∈ tables_1, d.before a0 Z = true) : (Jvm.Cond.methodLink "com/example/stockwright/stockwright/model/PageOfPinLaw" (42 : Nat) ({ cls := "com/example/stockwright/stockwright/model/Page", name := "items", desc := "()Ljava/util/List;" } : Jvm.MethodName)).before a0 Z = true := hw _ (List.mem_of_getElem? (i := 113) rfl)
theorem w_114 {a0 : Array Value} {Z : State} (hw : ∀ d ∈ tables_1, d.before a0 Z = true) : (Jvm.Cond.declares ({ cls := "com/example/stockwright/stockwright/model/Page", name := "items", desc := "()Ljava/util/List;" } : Jvm.MethodName)).before a0 Z = true := hw _ (List.mem_of_getElem? (i := 114) rfl)
theorem w_115 {a0 : Array Value} {Z : State} (hw : ∀ d ∈ tables_1, d.before a0 Z = true) : (Jvm.Cond.instanceMethod ({ cls := "com/example/stockwright/stockwright/model/Page", name := "items", desc := "()Ljava/util/List;" } : Jvm.MethodName)).before a0 Z = true := hw _ (List.mem_of_getElem? (i := 115) rfl)
theorem w_116 {a0 : Array Value} {Z : State} (hw : ∀ d ∈ tables_1, d.before a0 Z = true) : (Jvm.Cond.selects "com/example/stockwright/stockwright/model/Page" ({ cls := "com/example/stockwright/stockwright/model/Page", name := "items", desc := "()Ljava/util/List;" } : Jvm.MethodName) ({ cls := "com/example/stockwright/stockwright/model/Page", name := "items", desc := "()Ljava/util/List;" } : Jvm.MethodName)).before a0 Z = true := hw _ (List.mem_of_getElem? (i := 116) rfl)
theorem w_117 {a0 : Array Value} {Z : State} (hw : ∀ d ∈ tables_1, d.before a0 Z = true) : (Jvm.Cond.code ({ cls := "com/example/stockwright/stockwright/model/Page", name := "items", desc := "()Ljava/util/List;" } : Jvm.MethodName) prog_7_method_6_code (1 : Nat) (Option.some (Jvm.ClassFile.FieldType.object "java/util/List"))).before a0 Z = true := hw _ (List.mem_of_getElem? (i := 117) rfl)
theorem w_118 {a0 : Array Value} {Z : State} (hw : ∀ d ∈ tables_1, d.before a0 Z = true) : (Jvm.Cond.methodLink "com/example/stockwright/stockwright/model/PageOfPinLaw" (46 : Nat) ({ cls := "com/example/stockwright/stockwright/model/Page", name := "page", desc := "()I" } : Jvm.MethodName)).before a0 Z = true := hw _ (List.mem_of_getElem? (i := 118) rfl)
theorem w_119 {a0 : Array Value} {Z : State} (hw : ∀ d ∈ tables_1, d.before a0 Z = true) : (Jvm.Cond.declares ({ cls := "com/example/stockwright/stockwright/model/Page", name := "page", desc := "()I" } : Jvm.MethodName)).before a0 Z = true := hw _ (List.mem_of_getElem? (i := 119) rfl)
theorem w_120 {a0 : Array Value} {Z : State} (hw : ∀ d ∈ tables_1, d.before a0 Z = true) : (Jvm.Cond.instanceMethod ({ cls := "com/example/stockwright/stockwright/model/Page", name := "page", desc := "()I" } : Jvm.MethodName)).before a0 Z = true := hw _ (List.mem_of_getElem? (i := 120) rfl)
theorem w_121 {a0 : Array Value} {Z : State} (hw : ∀ d ∈ tables_1, d.before a0 Z = true) : (Jvm.Cond.selects "com/example/stockwright/stockwright/model/Page" ({ cls := "com/example/stockwright/stockwright/model/Page", name := "page", desc := "()I" } : Jvm.MethodName) ({ cls := "com/example/stockwright/stockwright/model/Page", name := "page", desc := "()I" } : Jvm.MethodName)).before a0 Z = true := hw _ (List.mem_of_getElem? (i := 121) rfl)
theorem w_122 {a0 : Array Value} {Z : State} (hw : ∀ d ∈ tables_1, d.before a0 Z = true) : (Jvm.Cond.code ({ cls := "com/example/stockwright/stockwright/model/Page", name := "page", desc := "()I" } : Jvm.MethodName) prog_7_method_7_code (1 : Nat) (Option.some Jvm.ClassFile.FieldType.int)).before a0 Z = true := hw _ (List.mem_of_getElem? (i := 122) rfl)
theorem w_123 {a0 : Array Value} {Z : State} (hw : ∀ d ∈ tables_1, d.before a0 Z = true) : (Jvm.Cond.methodLink "com/example/stockwright/stockwright/model/PageOfPinLaw" (50 : Nat) ({ cls := "com/example/stockwright/stockwright/model/Page", name := "pageSize", desc := "()I" } : Jvm.MethodName)).before a0 Z = true := hw _ (List.mem_of_getElem? (i := 123) rfl)
theorem w_124 {a0 : Array Value} {Z : State} (hw : ∀ d ∈ tables_1, d.before a0 Z = true) : (Jvm.Cond.declares ({ cls := "com/example/stockwright/stockwright/model/Page", name := "pageSize", desc := "()I" } : Jvm.MethodName)).before a0 Z = true := hw _ (List.mem_of_getElem? (i := 124) rfl)
theorem w_125 {a0 : Array Value} {Z : State} (hw : ∀ d ∈ tables_1, d.before a0 Z = true) : (Jvm.Cond.instanceMethod ({ cls := "com/example/stockwright/stockwright/model/Page", name := "pageSize", desc := "()I" } : Jvm.MethodName)).before a0 Z = true := hw _ (List.mem_of_getElem? (i := 125) rfl)
theorem w_126 {a0 : Array Value} {Z : State} (hw : ∀ d ∈ tables_1, d.before a0 Z = true) : (Jvm.Cond.selects "com/example/stockwright/stockwright/model/Page" ({ cls := "com/example/stockwright/stockwright/model/Page", name := "pageSize", desc := "()I" } : Jvm.MethodName) ({ cls := "com/example/stockwright/stockwright/model/Page", name := "pageSize", desc := "()I" } : Jvm.MethodName)).before a0 Z = true := hw _ (List.mem_of_getElem? (i := 126) rfl)
theorem w_127 {a0 : Array Value} {Z : State} (hw : ∀ d ∈ tables_1, d.before a0 Z = true) : (Jvm.Cond.code ({ cls := "com/example/stockwright/stockwright/model/Page", name := "pageSize", desc := "()I" } : Jvm.MethodName) prog_7_method_8_code (1 : Nat) (Option.some Jvm.ClassFile.FieldType.int)).before a0 Z = true := hw _ (List.mem_of_getElem? (i := 127) rfl)
theorem w_128 {a0 : Array Value} {Z : State} (hw : ∀ d ∈ tables_1, d.before a0 Z = true) : (Jvm.Cond.methodLink "com/example/stockwright/stockwright/model/PageOfPinLaw" (53 : Nat) ({ cls := "com/example/stockwright/stockwright/model/Page", name := "totalItems", desc := "()J" } : Jvm.MethodName)).before a0 Z = true := hw _ (List.mem_of_getElem? (i := 128) rfl)
theorem w_129 {a0 : Array Value} {Z : State} (hw : ∀ d ∈ tables_1, d.before a0 Z = true) : (Jvm.Cond.declares ({ cls := "com/example/stockwright/stockwright/model/Page", name := "totalItems", desc := "()J" } : Jvm.MethodName)).before a0 Z = true := hw _ (List.mem_of_getElem? (i := 129) rfl)
theorem w_130 {a0 : Array Value} {Z : State} (hw : ∀ d ∈ tables_1, d.before a0 Z = true) : (Jvm.Cond.instanceMethod ({ cls := "com/example/stockwright/stockwright/model/Page", name := "totalItems", desc := "()J" } : Jvm.MethodName)).before a0 Z = true := hw _ (List.mem_of_getElem? (i := 130) rfl)
theorem w_131 {a0 : Array Value} {Z : State} (hw : ∀ d ∈ tables_1, d.before a0 Z = true) : (Jvm.Cond.selects "com/example/stockwright/stockwright/model/Page" ({ cls := "com/example/stockwright/stockwright/model/Page", name := "totalItems", desc := "()J" } : Jvm.MethodName) ({ cls := "com/example/stockwright/stockwright/model/Page", name := "totalItems", desc := "()J" } : Jvm.MethodName)).before a0 Z = true := hw _ (List.mem_of_getElem? (i := 131) rfl)
theorem w_132 {a0 : Array Value} {Z : State} (hw : ∀ d ∈ tables_1, d.before a0 Z = true) : (Jvm.Cond.code ({ cls := "com/example/stockwright/stockwright/model/Page", name := "totalItems", desc := "()J" } : Jvm.MethodName) prog_7_method_9_code (1 : Nat) (Option.some Jvm.ClassFile.FieldType.long)).before a0 Z = true := hw _ (List.mem_of_getElem? (i := 132) rfl)
theorem w_133 {a0 : Array Value} {Z : State} (hw : ∀ d ∈ tables_1, d.before a0 Z = true) : (Jvm.Cond.methodLink "com/example/stockwright/stockwright/model/PageOfPinLaw" (57 : Nat) ({ cls := "com/example/stockwright/stockwright/model/Page", name := "totalPages", desc := "()J" } : Jvm.MethodName)).before a0 Z = true := hw _ (List.mem_of_getElem? (i := 133) rfl)
theorem w_134 {a0 : Array Value} {Z : State} (hw : ∀ d ∈ tables_1, d.before a0 Z = true) : (Jvm.Cond.declares ({ cls := "com/example/stockwright/stockwright/model/Page", name := "totalPages", desc := "()J" } : Jvm.MethodName)).before a0 Z = true := hw _ (List.mem_of_getElem? (i := 134) rfl)
theorem w_135 {a0 : Array Value} {Z : State} (hw : ∀ d ∈ tables_1, d.before a0 Z = true) : (Jvm.Cond.instanceMethod ({ cls := "com/example/stockwright/stockwright/model/Page", name := "totalPages", desc := "()J" } : Jvm.MethodName)).before a0 Z = true := hw _ (List.mem_of_getElem? (i := 135) rfl)
theorem w_136 {a0 : Array Value} {Z : State} (hw : ∀ d ∈ tables_1, d.before a0 Z = true) : (Jvm.Cond.selects "com/example/stockwright/stockwright/model/Page" ({ cls := "com/example/stockwright/stockwright/model/Page", name := "totalPages", desc := "()J" } : Jvm.MethodName) ({ cls := "com/example/stockwright/stockwright/model/Page", name := "totalPages", desc := "()J" } : Jvm.MethodName)).before a0 Z = true := hw _ (List.mem_of_getElem? (i := 136) rfl)
theorem w_137 {a0 : Array Value} {Z : State} (hw : ∀ d ∈ tables_1, d.before a0 Z = true) : (Jvm.Cond.code ({ cls := "com/example/stockwright/stockwright/model/Page", name := "totalPages", desc := "()J" } : Jvm.MethodName) prog_7_method_10_code (1 : Nat) (Option.some Jvm.ClassFile.FieldType.long)).before a0 Z = true := hw _ (List.mem_of_getElem? (i := 137) rfl)
theorem w_138 {a0 : Array Value} {Z : State} (hw : ∀ d ∈ tables_1, d.before a0 Z = true) : (Jvm.Cond.constantLong "com/example/stockwright/stockwright/model/PageOfPinLaw" (18 : Nat) (4611686018427387903 : Int64)).before a0 Z = true := hw _ (List.mem_of_getElem? (i := 138) rfl)
theorem w_139 {a0 : Array Value} {Z : State} (hw : ∀ d ∈ tables_1, d.before a0 Z = true) : (Jvm.Cond.classLink "java/lang/Integer" (1 : Nat) "java/lang/Integer").before a0 Z = true := hw _ (List.mem_of_getElem? (i := 139) rfl)
theorem w_140 {a0 : Array Value} {Z : State} (hw : ∀ d ∈ tables_1, d.before a0 Z = true) : (Jvm.Cond.instantiable "java/lang/Integer" (1 : Nat)).before a0 Z = true := hw _ (List.mem_of_getElem? (i := 140) rfl)
theorem w_141 {a0 : Array Value} {Z : State} (hw : ∀ d ∈ tables_1, d.before a0 Z = true) : (Jvm.Cond.methodLink "java/lang/Integer" (199 : Nat) ({ cls := "java/lang/Integer", name := "<init>", desc := "(I)V" } : Jvm.MethodName)).before a0 Z = true := hw _ (List.mem_of_getElem? (i := 141) rfl)
theorem w_142 {a0 : Array Value} {Z : State} (hw : ∀ d ∈ tables_1, d.before a0 Z = true) : (Jvm.Cond.instanceMethod ({ cls := "java/lang/Integer", name := "<init>", desc := "(I)V" } : Jvm.MethodName)).before a0 Z = true := hw _ (List.mem_of_getElem? (i := 142) rfl)
theorem w_144 {a0 : Array Value} {Z : State} (hw : ∀ d ∈ tables_1, d.before a0 Z = true) : (Jvm.Cond.code ({ cls := "java/lang/Integer", name := "<init>", desc := "(I)V" } : Jvm.MethodName) jdk_33_method_23_code (2 : Nat) (Option.none : Option Jvm.ClassFile.FieldType)).before a0 Z = true := hw _ (List.mem_of_getElem? (i := 144) rfl)
theorem w_145 {a0 : Array Value} {Z : State} (hw : ∀ d ∈ tables_1, d.before a0 Z = true) : (Jvm.Cond.methodLink "java/lang/Integer" (202 : Nat) ({ cls := "java/lang/Number", name := "<init>", desc := "()V" } : Jvm.MethodName)).before a0 Z = true := hw _ (List.mem_of_getElem? (i := 145) rfl)
theorem w_146 {a0 : Array Value} {Z : State} (hw : ∀ d ∈ tables_1, d.before a0 Z = true) : (Jvm.Cond.instanceMethod ({ cls := "java/lang/Number", name := "<init>", desc := "()V" } : Jvm.MethodName)).before a0 Z = true := hw _ (List.mem_of_getElem? (i := 146) rfl)
theorem w_149 {a0 : Array Value} {Z : State} (hw : ∀ d ∈ tables_1, d.before a0 Z = true) : (Jvm.Cond.initialized "java/lang/Number").before a0 Z = true := hw _ (List.mem_of_getElem? (i := 149) rfl)
theorem w_150 {a0 : Array Value} {Z : State} (hw : ∀ d ∈ tables_1, d.before a0 Z = true) : (Jvm.Cond.code ({ cls := "java/lang/Number", name := "<init>", desc := "()V" } : Jvm.MethodName) jdk_18_method_1_code (1 : Nat) (Option.none : Option Jvm.ClassFile.FieldType)).before a0 Z = true := hw _ (List.mem_of_getElem? (i := 150) rfl)
theorem w_151 {a0 : Array Value} {Z : State} (hw : ∀ d ∈ tables_1, d.before a0 Z = true) : (Jvm.Cond.methodLink "java/lang/Number" (1 : Nat) ({ cls := "java/lang/Object", name := "<init>", desc := "()V" } : Jvm.MethodName)).before a0 Z = true := hw _ (List.mem_of_getElem? (i := 151) rfl)
theorem w_152 {a0 : Array Value} {Z : State} (hw : ∀ d ∈ tables_1, d.before a0 Z = true) : (Jvm.Cond.fieldLink "java/lang/Integer" (205 : Nat) "java/lang/Integer" "value" "I").before a0 Z = true := hw _ (List.mem_of_getElem? (i := 152) rfl)
theorem w_153 {a0 : Array Value} {Z : State} (hw : ∀ d ∈ tables_1, d.before a0 Z = true) : (Jvm.Cond.laysFinal "java/lang/Integer" "java/lang/Integer" "value" "I").before a0 Z = true := hw _ (List.mem_of_getElem? (i := 153) rfl)
theorem d1_0 : decode jdk_29_method_65_code 0 = .ok (.iload_n 0, 1) := by decide +kernel
theorem d1_1 : decode jdk_29_method_65_code 1 = .ok (.iload_n 1, 1) := by decide +kernel
theorem d1_2 : decode jdk_29_method_65_code 2 = .ok (.if_icmp .lt 7, 3) := by decide +kernel
theorem d1_5 : decode jdk_29_method_65_code 5 = .ok (.iload_n 0, 1) := by decide +kernel
theorem d1_6 : decode jdk_29_method_65_code 6 = .ok (.goto 4, 3) := by decide +kernel
theorem d1_9 : decode jdk_29_method_65_code 9 = .ok (.iload_n 1, 1) := by decide +kernel
theorem d1_10 : decode jdk_29_method_65_code 10 = .ok (.ireturn, 1) := by decide +kernel
theorem ef_1 (m : MethodId) (x0 : Int32) (x1 : Int32) : entryFrame m #[(.int x0), (.int x1)] 2 = mkF m 0 #[.val (.int x0), .val (.int x1)] [] := by first | (simp [entryFrame, mkF, argsToLocals, Value.category]; done) | rfl
def own_max (p1 : Int32) (p2 : Int32) : Int32 := (if p1 < p2 then p2 else p1)
def Q1 (Z : State) (p1 : Int32) (p2 : Int32) (h0 : Heap) (n0 : Nat) (v : Option Value) (h : Heap) (L : List Loc) : Prop := v = some (.int (own_max p1 p2)) ∧ Fr n0 L ∧ h = h0
set_option maxHeartbeats 40000000 in
theorem rm1 (l : Launch) (Z : State) (a0 : Array Value) (hw : ∀ d ∈ tables_1, d.before a0 Z = true) (ws : List Jvm.Cond) (p1 : Int32) (p2 : Int32) (h0 : Heap) (n0 : Nat) (Z0 : n0 ≤ h0.size) :
    MetFree l (⟨"java/lang/Math", "max", "(II)I"⟩ : MethodName) (head1 (Jvm.Cond.code (⟨"java/lang/Math", "max", "(II)I"⟩ : MethodName) jdk_29_method_65_code 2 (some .int) :: ws) ({ frames := 0, cells := 0, slots := 0, locals := 0 } : Room)) (fun a U => a = #[(.int p1), (.int p2)] ∧ Z.Warmed39 U.vm ∧ U.heap = h0) (fun _ _ _ _ _ => True) (fun _ U o U' => ∃ v L, o = .returned v ∧ Q1 Z p1 p2 h0 n0 v U'.heap L ∧ FrameEnd U o U' L ({ frames := 0, cells := 0, slots := 0, locals := 0 } : Room).cells ({ frames := 0, cells := 0, slots := 0, locals := 0 } : Room).slots) := by
  refine MetFree.of_bodySF (Jvm.Free.JP.mathPlain rfl (by decide +kernel)) hisR ?_
  intro p e s m args below meth c s₁ Bd hml0 hP hK
  obtain ⟨rfl, hZ, hh⟩ := hP
  have hx := Bd.exec
  have hby := Bd.bytes
  have hml : c.maxLocals = 2 := hml0
  have hlk : meth.locks = false := BodyLoose.notSynchronized Bd
  have hown : s.vm.findClass "java/lang/Math" = some m.cls := findClass_of_methodNamed Bd.named
  have hnm := (name_of_methodNamed Bd.named Bd.method).1
  have X0 : Stand p l e ({ frames := 0, cells := 0, slots := 0, locals := 0 } : Room) s m #[(.int p1), (.int p2)] below meth c s₁ [] 0 0 := Stand.of_body Bd
  have e0 : s₁.heap = h0 := by rw [← hh, Bd.state]; rfl
  have N0 := Fr.nil n0
  show own_Go p e below s (Q1 Z p1 p2 h0 n0) ({ frames := 0, cells := 0, slots := 0, locals := 0 } : Room).cells ({ frames := 0, cells := 0, slots := 0, locals := 0 } : Room).slots _
  refine own_st (B := s₁.setTop (mkF m 0 #[.val (.int p1), .val (.int p2)] [])) (fun t k => castTop (ef_1 m (p1) (p2)) k) ?_
  refine own_st (B := s₁.setTop (mkF m 1 #[.val (.int p1), .val (.int p2)] [(.int p1)])) (fun t k => XS.iloadN X0.here hx rfl (hb hby d1_0) rfl k) ?_
  refine own_st (B := s₁.setTop (mkF m 2 #[.val (.int p1), .val (.int p2)] [(.int p2), (.int p1)])) (fun t k => XS.iloadN X0.here hx rfl (hb hby d1_1) rfl k) ?_
  by_cases hc1 : p1 < p2
  · refine own_st (B := s₁.setTop (mkF m 9 #[.val (.int p1), .val (.int p2)] [])) (fun t k => XS.icmpYes X0.here hx rfl (pc0 := 2) (pc' := 9) rfl (hb hby d1_2) rfl (XT.ii_lt_t hc1) (by decide) (by decide) k) ?_
    refine own_st (B := s₁.setTop (mkF m 10 #[.val (.int p1), .val (.int p2)] [(.int p2)])) (fun t k => XS.iloadN X0.here hx rfl (hb hby d1_9) rfl k) ?_
    refine own_retI X0 hx hlk Bd.returns (hb hby d1_10) (by decide) (by decide) ?_
    show Q1 Z p1 p2 h0 n0 _ s₁.heap _
    rw [e0]
    exact ⟨(by unfold own_max; rw [if_pos hc1]), N0, rfl⟩
  · refine own_st (B := s₁.setTop (mkF m 5 #[.val (.int p1), .val (.int p2)] [])) (fun t k => XS.icmpNo X0.here hx rfl (hb hby d1_2) rfl (XT.ii_lt_f hc1) k) ?_
    refine own_st (B := s₁.setTop (mkF m 6 #[.val (.int p1), .val (.int p2)] [(.int p1)])) (fun t k => XS.iloadN X0.here hx rfl (hb hby d1_5) rfl k) ?_
    refine own_st (B := s₁.setTop (mkF m 10 #[.val (.int p1), .val (.int p2)] [(.int p1)])) (fun t k => XS.goto X0.here hx rfl (pc0 := 6) (pc' := 10) rfl (hb hby d1_6) (by decide) (by decide) k) ?_
    refine own_retI X0 hx hlk Bd.returns (hb hby d1_10) (by decide) (by decide) ?_
    show Q1 Z p1 p2 h0 n0 _ s₁.heap _
    rw [e0]
    exact ⟨(by unfold own_max; rw [if_neg hc1]), N0, rfl⟩
theorem own_pn1 : plainName "java/util/AbstractCollection" = true := by first | (simp [plainName, overriddenIn]; done) | decide +kernel
theorem d4_0 : decode jdk_22_method_1_code 0 = .ok (.aload_n 0, 1) := by decide +kernel
theorem d4_1 : decode jdk_22_method_1_code 1 = .ok (.invokespecial 1, 3) := by decide +kernel
theorem d4_4 : decode jdk_22_method_1_code 4 = .ok (.return_, 1) := by decide +kernel
theorem ef_4 (m : MethodId) (x0 : Addr) : entryFrame m #[(.ref x0)] 1 = mkF m 0 #[.val (.ref x0)] [] := by first | (simp [entryFrame, mkF, argsToLocals, Value.category]; done) | rfl
def Q4 (Z : State) (a1 : Addr) (h0 : Heap) (n0 : Nat) (v : Option Value) (h : Heap) (L : List Loc) : Prop := v = none ∧ Fr n0 L ∧ h = h0
set_option maxHeartbeats 40000000 in
theorem rm4 (l : Launch) (Z : State) (a0 : Array Value) (hw : ∀ d ∈ tables_1, d.before a0 Z = true) (ws : List Jvm.Cond) (a1 : Addr) (h0 : Heap) (n0 : Nat) (Z0 : n0 ≤ h0.size) :
    MetFree l (⟨"java/util/AbstractCollection", "<init>", "()V"⟩ : MethodName) (head1 (Jvm.Cond.code (⟨"java/util/AbstractCollection", "<init>", "()V"⟩ : MethodName) jdk_22_method_1_code 1 none :: ws) ({ frames := 1, cells := 0, slots := 0, locals := 12 } : Room)) (fun a U => a = #[(.ref a1)] ∧ Z.Warmed39 U.vm ∧ U.heap = h0) (fun _ _ _ _ _ => True) (fun _ U o U' => ∃ v L, o = .returned v ∧ Q4 Z a1 h0 n0 v U'.heap L ∧ FrameEnd U o U' L ({ frames := 1, cells := 0, slots := 0, locals := 12 } : Room).cells ({ frames := 1, cells := 0, slots := 0, locals := 12 } : Room).slots) := by
  refine MetFree.of_bodySF (plainFor_of_name own_pn1) hisR ?_
  intro p e s m args below meth c s₁ Bd hml0 hP hK
  obtain ⟨rfl, hZ, hh⟩ := hP
  have hx := Bd.exec
  have hby := Bd.bytes
  have hml : c.maxLocals = 1 := hml0
  have hlk : meth.locks = false := BodyLoose.notSynchronized Bd
  have hown : s.vm.findClass "java/util/AbstractCollection" = some m.cls := findClass_of_methodNamed Bd.named
  have hnm := (name_of_methodNamed Bd.named Bd.method).1
  have X0 : Stand p l e ({ frames := 1, cells := 0, slots := 0, locals := 12 } : Room) s m #[(.ref a1)] below meth c s₁ [] 0 0 := Stand.of_body Bd
  have e0 : s₁.heap = h0 := by rw [← hh, Bd.state]; rfl
  have N0 := Fr.nil n0
  show own_Go p e below s (Q4 Z a1 h0 n0) ({ frames := 1, cells := 0, slots := 0, locals := 12 } : Room).cells ({ frames := 1, cells := 0, slots := 0, locals := 12 } : Room).slots _
  refine own_st (B := s₁.setTop (mkF m 0 #[.val (.ref a1)] [])) (fun t k => castTop (ef_4 m (a1)) k) ?_
  refine own_st (B := s₁.setTop (mkF m 1 #[.val (.ref a1)] [(.ref a1)])) (fun t k => XS.aloadN X0.here hx rfl (hb hby d4_0) rfl rfl k) ?_
  obtain ⟨T1, X1, e1, st1⟩ := initO X0 hx hZ hown (w_24 hw) (w_25 hw) (w_26 hw) e0 (g := (mkF m 1 #[.val (.ref a1)] [(.ref a1)])) rfl (by rw [hml]; rfl) rfl (hb hby d4_1) (by decide) (W := 0) (by show 2 * 0 + _ ≤ _; exact Nat.le_of_eq rfl) (by decide)
  refine own_st (B := T1.setTop (mkF m 4 #[.val (.ref a1)] [])) (fun t k => st1 t k) ?_
  refine own_retV X1 hx hlk Bd.returns (hb hby d4_4) (by decide) (by decide) ?_
  show Q4 Z a1 h0 n0 _ T1.heap _
  rw [e1]
  exact ⟨rfl, N0, rfl⟩
theorem own_pd1 : parseMethodDescriptor "()V" = some ⟨[], none⟩ := by decide +kernel
theorem own_pn2 : plainName "java/util/AbstractList" = true := by first | (simp [plainName, overriddenIn]; done) | decide +kernel
theorem d3_0 : decode jdk_39_method_1_code 0 = .ok (.aload_n 0, 1) := by decide +kernel
theorem d3_1 : decode jdk_39_method_1_code 1 = .ok (.invokespecial 1, 3) := by decide +kernel
theorem d3_4 : decode jdk_39_method_1_code 4 = .ok (.aload_n 0, 1) := by decide +kernel
theorem d3_5 : decode jdk_39_method_1_code 5 = .ok (.iconst 0, 1) := by decide +kernel
theorem d3_6 : decode jdk_39_method_1_code 6 = .ok (.putfield 7, 3) := by decide +kernel
theorem d3_9 : decode jdk_39_method_1_code 9 = .ok (.return_, 1) := by decide +kernel
theorem ef_3 (m : MethodId) (x0 : Addr) : entryFrame m #[(.ref x0)] 1 = mkF m 0 #[.val (.ref x0)] [] := by first | (simp [entryFrame, mkF, argsToLocals, Value.category]; done) | rfl
def Q3 (Z : State) (a1 : Addr) (h0 : Heap) (n0 : Nat) (v : Option Value) (h : Heap) (L : List Loc) : Prop := v = none ∧ Fr n0 L ∧ Keep h0 h [a1] ∧ Exa Z h a1 "java/util/ArrayList" ∧ Fld Z h a1 "java/util/AbstractList" "modCount" "I" (.int (0 : Int32)) ∧ Fld Z h a1 "java/util/ArrayList" "elementData" "[Ljava/lang/Object;" .null ∧ Fld Z h a1 "java/util/ArrayList" "size" "I" (.int (0 : Int32))
set_option maxHeartbeats 40000000 in
theorem rm3 (l : Launch) (Z : State) (a0 : Array Value) (hw : ∀ d ∈ tables_1, d.before a0 Z = true) (ws : List Jvm.Cond) (a1 : Addr) (h0 : Heap) (n0 : Nat) (Z0 : n0 ≤ h0.size) (F0 : Exa Z h0 a1 "java/util/ArrayList") (F1 : Fld Z h0 a1 "java/util/AbstractList" "modCount" "I" (.int (0 : Int32))) (F2 : Fld Z h0 a1 "java/util/ArrayList" "elementData" "[Ljava/lang/Object;" .null) (F3 : Fld Z h0 a1 "java/util/ArrayList" "size" "I" (.int (0 : Int32))) (ga : n0 ≤ a1) :
    MetFree l (⟨"java/util/AbstractList", "<init>", "()V"⟩ : MethodName) (head1 (Jvm.Cond.code (⟨"java/util/AbstractList", "<init>", "()V"⟩ : MethodName) jdk_39_method_1_code 1 none :: ws) ({ frames := 2, cells := 0, slots := 0, locals := 24 } : Room)) (fun a U => a = #[(.ref a1)] ∧ Z.Warmed39 U.vm ∧ U.heap = h0) (fun _ _ _ _ _ => True) (fun _ U o U' => ∃ v L, o = .returned v ∧ Q3 Z a1 h0 n0 v U'.heap L ∧ FrameEnd U o U' L ({ frames := 2, cells := 0, slots := 0, locals := 24 } : Room).cells ({ frames := 2, cells := 0, slots := 0, locals := 24 } : Room).slots) := by
  refine MetFree.of_bodySF (plainFor_of_name own_pn2) hisR ?_
  intro p e s m args below meth c s₁ Bd hml0 hP hK
  obtain ⟨rfl, hZ, hh⟩ := hP
  have hx := Bd.exec
  have hby := Bd.bytes
  have hml : c.maxLocals = 1 := hml0
  have hlk : meth.locks = false := BodyLoose.notSynchronized Bd
  have hown : s.vm.findClass "java/util/AbstractList" = some m.cls := findClass_of_methodNamed Bd.named
  have hnm := (name_of_methodNamed Bd.named Bd.method).1
  have X0 : Stand p l e ({ frames := 2, cells := 0, slots := 0, locals := 24 } : Room) s m #[(.ref a1)] below meth c s₁ [] 0 0 := Stand.of_body Bd
  have e0 : s₁.heap = h0 := by rw [← hh, Bd.state]; rfl
  have N0 := Fr.nil n0
  show own_Go p e below s (Q3 Z a1 h0 n0) ({ frames := 2, cells := 0, slots := 0, locals := 24 } : Room).cells ({ frames := 2, cells := 0, slots := 0, locals := 24 } : Room).slots _
  refine own_st (B := s₁.setTop (mkF m 0 #[.val (.ref a1)] [])) (fun t k => castTop (ef_3 m (a1)) k) ?_
  refine own_st (B := s₁.setTop (mkF m 1 #[.val (.ref a1)] [(.ref a1)])) (fun t k => XS.aloadN X0.here hx rfl (hb hby d3_0) rfl rfl k) ?_
  obtain ⟨_, _, ⟨T1, L1, k1, j1⟩, -, X1, ⟨Lc1, hQ1, l1, y1_, z1_⟩, st1⟩ := X0.specialBack hx (y := (⟨"java/util/AbstractCollection", "<init>", "()V"⟩ : MethodName)) rfl hown (mvT hZ (w_18 hw)) (mvT hZ (w_19 hw)) (mvT hZ (w_23 hw)) (by decide) (backOf (W := 0) (rm4 l Z a0 hw [] a1 h0 n0 Z0 ) hZ (w_23 hw) (w_22 hw) (by decide) (by decide)) (g := (mkF m 1 #[.val (.ref a1)] [(.ref a1)])) rfl (by rw [hml]; rfl) (Steps.refl _) (a := a1) (argsL := []) (rest := []) (lenOf own_pd1 rfl) rfl (by show 2 * 0 + _ ≤ _; exact Nat.le_of_eq rfl) (hb hby d3_1) (fun _ _ => ⟨rfl, e0, (by decide : 0 + 0 ≤ _), (by decide : 0 + 0 ≤ _)⟩)
  dsimp only [Pt.U, Pt.locs, Pt.cells, Pt.slots] at X1 l1 y1_ z1_ st1 hQ1
  subst l1 y1_ z1_
  obtain ⟨rfl, N1q, e1q⟩ := hQ1
  have N1 := Fr.app N0 N1q
  refine own_ss (B := T1.setTop (mkF m 4 #[.val (.ref a1)] [])) st1 ?_
  refine own_st (B := T1.setTop (mkF m 5 #[.val (.ref a1)] [(.ref a1)])) (fun t k => XS.aloadN X1.here hx rfl (hb hby d3_4) rfl rfl k) ?_
  refine own_st (B := T1.setTop (mkF m 6 #[.val (.ref a1)] [(.int (0 : Int32)), (.ref a1)])) (fun t k => XS.iconst X1.here hx rfl (hb hby d3_5) k) ?_
  obtain ⟨T2, h2, X2, e2, W2, st2⟩ := putF X1 hx hZ hown (host := "") (Or.inl (w_27 hw)) Via.refl e1q F1 F0 (Or.inl (w_28 hw)) (w_7 hw) (ty := .int) (by decide) rfl rfl (g := (mkF m 6 #[.val (.ref a1)] [(.int (0 : Int32)), (.ref a1)])) rfl rfl (hb hby d3_6)
  have f2_ : Fld Z h2 a1 "java/util/AbstractList" "modCount" "I" (.int (0 : Int32)) := F1.same W2
  have z3 : n0 ≤ h2.size := Nat.le_trans Z0 (Keep.of_wr W2).1
  have kp3 : Keep h0 h2 [a1] := (Keep.refl h0 [a1]).wr W2 (Or.inl (List.mem_of_getElem? (i := 0) rfl))
  have n4 := Fr.snoc X2 N1 ga
  refine own_st (B := T2.setTop (mkF m 9 #[.val (.ref a1)] [])) (fun t k => st2 t k) ?_
  refine own_retV X2 hx hlk Bd.returns (hb hby d3_9) (by decide) (by decide) ?_
  show Q3 Z a1 h0 n0 _ T2.heap _
  rw [e2]
  have f5 : Exa Z h2 a1 "java/util/ArrayList" := (F0.wr W2)
  have f6 : Fld Z h2 a1 "java/util/ArrayList" "elementData" "[Ljava/lang/Object;" .null := (F2.other W2 (Or.inr (slot_ne (Or.inl (w_31 hw)) (Or.inl (w_28 hw)) (by decide) (t := (.array (.object "java/lang/Object"))) (t' := .int) (by decide) (by decide))))
  have f7 : Fld Z h2 a1 "java/util/ArrayList" "size" "I" (.int (0 : Int32)) := (F3.other W2 (Or.inr (slot_ne (Or.inl (w_47 hw)) (Or.inl (w_28 hw)) (by decide) (t := .int) (t' := .int) (by decide) (by decide))))
  exact ⟨rfl, n4, kp3, f5, f2_, f6, f7⟩
theorem own_pn3 : plainName "java/util/ArrayList" = true := by first | (simp [plainName, overriddenIn]; done) | decide +kernel
theorem d2_0 : decode jdk_38_method_2_code 0 = .ok (.aload_n 0, 1) := by decide +kernel
theorem d2_1 : decode jdk_38_method_2_code 1 = .ok (.invokespecial 1, 3) := by decide +kernel
theorem d2_4 : decode jdk_38_method_2_code 4 = .ok (.aload_n 0, 1) := by decide +kernel
theorem d2_5 : decode jdk_38_method_2_code 5 = .ok (.getstatic 39, 3) := by decide +kernel
theorem d2_8 : decode jdk_38_method_2_code 8 = .ok (.putfield 9, 3) := by decide +kernel
theorem d2_11 : decode jdk_38_method_2_code 11 = .ok (.return_, 1) := by decide +kernel
theorem ef_2 (m : MethodId) (x0 : Addr) : entryFrame m #[(.ref x0)] 1 = mkF m 0 #[.val (.ref x0)] [] := by first | (simp [entryFrame, mkF, argsToLocals, Value.category]; done) | rfl
def Q2 (Z : State) (a1 : Addr) (dca : Addr) (h0 : Heap) (n0 : Nat) (v : Option Value) (h : Heap) (L : List Loc) : Prop := v = none ∧ Fr n0 L ∧ Keep h0 h [a1] ∧ Exa Z h a1 "java/util/ArrayList" ∧ Fld Z h a1 "java/util/AbstractList" "modCount" "I" (.int (0 : Int32)) ∧ Fld Z h a1 "java/util/ArrayList" "elementData" "[Ljava/lang/Object;" (.ref dca) ∧ Fld Z h a1 "java/util/ArrayList" "size" "I" (.int (0 : Int32))
set_option maxHeartbeats 40000000 in
theorem rm2 (l : Launch) (Z : State) (a0 : Array Value) (hw : ∀ d ∈ tables_1, d.before a0 Z = true) (ws : List Jvm.Cond) (a1 : Addr) (dca : Addr) (h0 : Heap) (n0 : Nat) (Z0 : n0 ≤ h0.size) (F0 : Exa Z h0 a1 "java/util/ArrayList") (F1 : Fld Z h0 a1 "java/util/AbstractList" "modCount" "I" (.int (0 : Int32))) (F2 : Fld Z h0 a1 "java/util/ArrayList" "elementData" "[Ljava/lang/Object;" .null) (F3 : Fld Z h0 a1 "java/util/ArrayList" "size" "I" (.int (0 : Int32))) (F4 : Sta Z h0 "java/util/ArrayList" "DEFAULTCAPACITY_EMPTY_ELEMENTDATA" "[Ljava/lang/Object;" (.ref dca)) (ga : n0 ≤ a1) :
    MetFree l (⟨"java/util/ArrayList", "<init>", "()V"⟩ : MethodName) (head1 (Jvm.Cond.code (⟨"java/util/ArrayList", "<init>", "()V"⟩ : MethodName) jdk_38_method_2_code 1 none :: ws) ({ frames := 3, cells := 0, slots := 0, locals := 36 } : Room)) (fun a U => a = #[(.ref a1)] ∧ Z.Warmed39 U.vm ∧ U.heap = h0) (fun _ _ _ _ _ => True) (fun _ U o U' => ∃ v L, o = .returned v ∧ Q2 Z a1 dca h0 n0 v U'.heap L ∧ FrameEnd U o U' L ({ frames := 3, cells := 0, slots := 0, locals := 36 } : Room).cells ({ frames := 3, cells := 0, slots := 0, locals := 36 } : Room).slots) := by
  refine MetFree.of_bodySF (plainFor_of_name own_pn3) hisR ?_
  intro p e s m args below meth c s₁ Bd hml0 hP hK
  obtain ⟨rfl, hZ, hh⟩ := hP
  have hx := Bd.exec
  have hby := Bd.bytes
  have hml : c.maxLocals = 1 := hml0
  have hlk : meth.locks = false := BodyLoose.notSynchronized Bd
  have hown : s.vm.findClass "java/util/ArrayList" = some m.cls := findClass_of_methodNamed Bd.named
  have hnm := (name_of_methodNamed Bd.named Bd.method).1
  have X0 : Stand p l e ({ frames := 3, cells := 0, slots := 0, locals := 36 } : Room) s m #[(.ref a1)] below meth c s₁ [] 0 0 := Stand.of_body Bd
  have e0 : s₁.heap = h0 := by rw [← hh, Bd.state]; rfl
  have N0 := Fr.nil n0
  show own_Go p e below s (Q2 Z a1 dca h0 n0) ({ frames := 3, cells := 0, slots := 0, locals := 36 } : Room).cells ({ frames := 3, cells := 0, slots := 0, locals := 36 } : Room).slots _
  refine own_st (B := s₁.setTop (mkF m 0 #[.val (.ref a1)] [])) (fun t k => castTop (ef_2 m (a1)) k) ?_
  refine own_st (B := s₁.setTop (mkF m 1 #[.val (.ref a1)] [(.ref a1)])) (fun t k => XS.aloadN X0.here hx rfl (hb hby d2_0) rfl rfl k) ?_
  obtain ⟨_, _, ⟨T1, L1, k1, j1⟩, -, X1, ⟨Lc1, hQ1, l1, y1_, z1_⟩, st1⟩ := X0.specialBack hx (y := (⟨"java/util/AbstractList", "<init>", "()V"⟩ : MethodName)) rfl hown (mvT hZ (w_12 hw)) (mvT hZ (w_13 hw)) (mvT hZ (w_17 hw)) (by decide) (backOf (W := 0) (rm3 l Z a0 hw [] a1 h0 n0 Z0 F0 F1 F2 F3 ga) hZ (w_17 hw) (w_16 hw) (by decide) (by decide)) (g := (mkF m 1 #[.val (.ref a1)] [(.ref a1)])) rfl (by rw [hml]; rfl) (Steps.refl _) (a := a1) (argsL := []) (rest := []) (lenOf own_pd1 rfl) rfl (by show 2 * 0 + _ ≤ _; exact Nat.le_of_eq rfl) (hb hby d2_1) (fun _ _ => ⟨rfl, e0, (by decide : 0 + 0 ≤ _), (by decide : 0 + 0 ≤ _)⟩)
  dsimp only [Pt.U, Pt.locs, Pt.cells, Pt.slots] at X1 l1 y1_ z1_ st1 hQ1
  subst l1 y1_ z1_
  obtain ⟨rfl, N1q, K1, p1_0, p1_1, p1_2, p1_3⟩ := hQ1
  have N1 := Fr.app N0 N1q
  have z2 : n0 ≤ T1.heap.size := Nat.le_trans Z0 K1.1
  have kp2 : Keep h0 T1.heap [a1] := (Keep.refl h0 [a1]).trans K1 (allS (Or.inl (List.mem_of_getElem? (i := 0) rfl)) all0)
  refine own_ss (B := T1.setTop (mkF m 4 #[.val (.ref a1)] [])) st1 ?_
  refine own_st (B := T1.setTop (mkF m 5 #[.val (.ref a1)] [(.ref a1)])) (fun t k => XS.aloadN X1.here hx rfl (hb hby d2_4) rfl rfl k) ?_
  have f3 : Sta Z T1.heap "java/util/ArrayList" "DEFAULTCAPACITY_EMPTY_ELEMENTDATA" "[Ljava/lang/Object;" (.ref dca) := (own_Sta.keep F4 K1 (show ∀ st ∈ [a1], ∀ cell : Cell, h0[st]? = some cell → cell.vm.isStatics = false from (allS (own_plainE F0) all0)))
  obtain ⟨T4, X4, e4, st4⟩ := getS2 X1 hx hZ hown (host := "") (Or.inl (w_29 hw)) Via.refl rfl f3 (g := (mkF m 5 #[.val (.ref a1)] [(.ref a1)])) rfl (hb hby d2_5)
  refine own_st (B := T4.setTop (mkF m 8 #[.val (.ref a1)] [(.ref dca), (.ref a1)])) (fun t k => st4 t k) ?_
  obtain ⟨T5, h5, X5, e5, W5, st5⟩ := putF X4 hx hZ hown (host := "") (Or.inl (w_30 hw)) Via.refl e4 p1_2 p1_0 (Or.inl (w_31 hw)) (w_7 hw) (ty := (.array (.object "java/lang/Object"))) (by decide) rfl rfl (g := (mkF m 8 #[.val (.ref a1)] [(.ref dca), (.ref a1)])) rfl rfl (hb hby d2_8)
  have f5_ : Fld Z h5 a1 "java/util/ArrayList" "elementData" "[Ljava/lang/Object;" (.ref dca) := p1_2.same W5
  have z6 : n0 ≤ h5.size := Nat.le_trans z2 (Keep.of_wr W5).1
  have kp6 : Keep h0 h5 [a1] := kp2.wr W5 (Or.inl (List.mem_of_getElem? (i := 0) rfl))
  have n7 := Fr.snoc X5 N1 ga
  refine own_st (B := T5.setTop (mkF m 11 #[.val (.ref a1)] [])) (fun t k => st5 t k) ?_
  refine own_retV X5 hx hlk Bd.returns (hb hby d2_11) (by decide) (by decide) ?_
  show Q2 Z a1 dca h0 n0 _ T5.heap _
  rw [e5]
  have f8 : Exa Z h5 a1 "java/util/ArrayList" := (p1_0.wr W5)
  have f9 : Fld Z h5 a1 "java/util/AbstractList" "modCount" "I" (.int (0 : Int32)) := (p1_1.other W5 (Or.inr (slot_ne (Or.inl (w_28 hw)) (Or.inl (w_31 hw)) (by decide) (t := .int) (t' := (.array (.object "java/lang/Object"))) (by decide) (by decide))))
  have f10 : Fld Z h5 a1 "java/util/ArrayList" "size" "I" (.int (0 : Int32)) := (p1_3.other W5 (Or.inr (slot_ne (Or.inl (w_47 hw)) (Or.inl (w_31 hw)) (by decide) (t := .int) (t' := (.array (.object "java/lang/Object"))) (by decide) (by decide))))
  exact ⟨rfl, n7, kp6, f8, f9, f5_, f10⟩
/-- the table of boxed ints, somewhere in the heap: 256 Integers -/
def own_Cache (Z : State) (h : Heap) (a : Addr) : Prop := ∃ vs : List Value, own_A Z h a (.object "java/lang/Integer") vs ∧ vs.length = 256 ∧ ∀ (j : Nat) (v : Value), vs[j]? = some v → ∃ x : Addr, v = .ref x ∧ Exa Z h x "java/lang/Integer"
theorem own_Cache.lt {Z : State} {h : Heap} {a : Addr} (F : own_Cache Z h a) : a < h.size := by obtain ⟨vs, A, -⟩ := F; exact A.lt
theorem own_Cache.ext {Z : State} {h h' : Heap} {a : Addr} (F : own_Cache Z h a) (E : Ext h h') : own_Cache Z h' a := by
  obtain ⟨vs, A, n, q⟩ := F
  exact ⟨vs, A.ext E, n, fun j v hv => by obtain ⟨x, e, X⟩ := q j v hv; exact ⟨x, e, X.ext E⟩⟩
theorem own_Cache.other {Z : State} {h h' : Heap} {a b : Addr} {sl : Nat} {v : Value} (F : own_Cache Z h a) (W : Wr h h' b sl v) (ne : a ≠ b) : own_Cache Z h' a := by
  obtain ⟨vs, A, n, q⟩ := F
  exact ⟨vs, A.other W ne, n, fun j v hv => by obtain ⟨x, e, X⟩ := q j v hv; exact ⟨x, e, X.wr W⟩⟩
theorem own_Cache.keep {Z : State} {h h' : Heap} {a : Addr} {ws : List Addr} (F : own_Cache Z h a) (K : Keep h h' ws) (ne : a ∉ ws) : own_Cache Z h' a := by
  obtain ⟨vs, A, n, q⟩ := F
  exact ⟨vs, A.keep K ne, n, fun j v hv => by obtain ⟨x, e, X⟩ := q j v hv; exact ⟨x, e, X.keep K⟩⟩
theorem own_cix {p : Int32} (h1 : ¬ (p < (-128 : Int32))) (h2 : ¬ ((127 : Int32) < p)) : (p + 128).toInt = (((p + 128).toInt.toNat : Nat) : Int) ∧ (p + 128).toInt.toNat < 256 := by
  rw [Int32.lt_iff_toInt_lt] at h1 h2
  have k1 : (-128 : Int32).toInt = -128 := rfl
  have k2 : (127 : Int32).toInt = 127 := rfl
  have k3 : (128 : Int32).toInt = 128 := rfl
  have h3 := c_iadd p 128
  have h4 := rng32 (p + 128)
  omega
theorem own_len0 {Z : State} {args : Array Value} {t : Term} {x : Addr} {cl : Cell} {n : Int32} {k : Nat} (ht : t.eval args Z none [] Z = some (.ref x)) (ha : Z.arrayAt? x = some cl) (hk : n.toInt = (k : Int)) (hk2 : k < 2147483648) (h : (Term.length t).eval args Z none [] Z = some (.int n)) : cl.slots.toList.length = k := by
  by_cases hl : cl.slots.size < 2 ^ 31
  · rw [len_f ht ha hl] at h
    have h1 : cl.slots.size.toInt32 = n := Value.int.inj (Option.some.inj h)
    have h2 := len_toInt hl
    rw [h1, hk] at h2
    rw [Array.length_toList]
    omega
  · simp [Term.eval, ht, ha, hl] at h
theorem own_Cache.start {Z : State} {args : Array Value} {t F : Term} {a : Addr} {cl : Cell} (et : ∀ idx, t.eval args Z none idx Z = some (.ref a)) (A : Arr Z Z.heap a cl (.object "java/lang/Integer")) (hl : cl.slots.toList.length = 256)
    (h : (Cond.all t (.and (.exactly (.elem t (.index 0)) "java/lang/Integer") (.eq (.field (.elem t (.index 0)) "java/lang/Integer" "value" "I") F))).value args Z none Z [] = some true) : own_Cache Z Z.heap a := by
  refine ⟨_, ⟨cl, A, rfl⟩, hl, fun j v hv => ?_⟩
  rw [Array.getElem?_toList] at hv
  rw [Array.length_toList] at hl
  have hj := (Array.getElem?_eq_some_iff.mp hv).1
  have hi := idx_in hj (by omega)
  have nn : ¬ (j.toInt32 < 0) := fun q => hi (Or.inl q)
  have e1 : j.toInt32.toNatClampNeg = j := by
    have := len_toInt (n := j) (by omega)
    exact (own_ix this).2
  obtain ⟨u1, -⟩ := and_e (Cond.all_elim (et []) (A.fin (Vm.Alike.refl _)) h j hj)
  obtain ⟨box, eb⟩ := exa_v u1
  have e2 := (elem_f (et _) (idx_at nn) (A.fin (Vm.Alike.refl _)) nn).symm
  rw [e1] at e2
  have e3 := e2.trans eb
  rw [hv] at e3
  exact ⟨box, Option.some.inj e3, exa_at eb u1⟩

theorem own_pn4 : plainName "java/lang/Number" = true := by first | (simp [plainName, overriddenIn]; done) | decide +kernel
theorem d23_0 : decode jdk_18_method_1_code 0 = .ok (.aload_n 0, 1) := by decide +kernel
theorem d23_1 : decode jdk_18_method_1_code 1 = .ok (.invokespecial 1, 3) := by decide +kernel
theorem d23_4 : decode jdk_18_method_1_code 4 = .ok (.return_, 1) := by decide +kernel
theorem ef_23 (m : MethodId) (x0 : Addr) : entryFrame m #[(.ref x0)] 1 = mkF m 0 #[.val (.ref x0)] [] := by first | (simp [entryFrame, mkF, argsToLocals, Value.category]; done) | rfl
def Q23 (Z : State) (a1 : Addr) (h0 : Heap) (n0 : Nat) (v : Option Value) (h : Heap) (L : List Loc) : Prop := v = none ∧ Fr n0 L ∧ h = h0
set_option maxHeartbeats 40000000 in
theorem rm23 (l : Launch) (Z : State) (a0 : Array Value) (hw : ∀ d ∈ tables_1, d.before a0 Z = true) (ws : List Jvm.Cond) (a1 : Addr) (h0 : Heap) (n0 : Nat) (Z0 : n0 ≤ h0.size) :
    MetFree l (⟨"java/lang/Number", "<init>", "()V"⟩ : MethodName) (head1 (Jvm.Cond.code (⟨"java/lang/Number", "<init>", "()V"⟩ : MethodName) jdk_18_method_1_code 1 none :: ws) ({ frames := 1, cells := 0, slots := 0, locals := 12 } : Room)) (fun a U => a = #[(.ref a1)] ∧ Z.Warmed39 U.vm ∧ U.heap = h0) (fun _ _ _ _ _ => True) (fun _ U o U' => ∃ v L, o = .returned v ∧ Q23 Z a1 h0 n0 v U'.heap L ∧ FrameEnd U o U' L ({ frames := 1, cells := 0, slots := 0, locals := 12 } : Room).cells ({ frames := 1, cells := 0, slots := 0, locals := 12 } : Room).slots) := by
  refine MetFree.of_bodySF (plainFor_of_name own_pn4) hisR ?_
  intro p e s m args below meth c s₁ Bd hml0 hP hK
  obtain ⟨rfl, hZ, hh⟩ := hP
  have hx := Bd.exec
  have hby := Bd.bytes
  have hml : c.maxLocals = 1 := hml0
  have hlk : meth.locks = false := BodyLoose.notSynchronized Bd
  have hown : s.vm.findClass "java/lang/Number" = some m.cls := findClass_of_methodNamed Bd.named
  have hnm := (name_of_methodNamed Bd.named Bd.method).1
  have X0 : Stand p l e ({ frames := 1, cells := 0, slots := 0, locals := 12 } : Room) s m #[(.ref a1)] below meth c s₁ [] 0 0 := Stand.of_body Bd
  have e0 : s₁.heap = h0 := by rw [← hh, Bd.state]; rfl
  have N0 := Fr.nil n0
  show own_Go p e below s (Q23 Z a1 h0 n0) ({ frames := 1, cells := 0, slots := 0, locals := 12 } : Room).cells ({ frames := 1, cells := 0, slots := 0, locals := 12 } : Room).slots _
  refine own_st (B := s₁.setTop (mkF m 0 #[.val (.ref a1)] [])) (fun t k => castTop (ef_23 m (a1)) k) ?_
  refine own_st (B := s₁.setTop (mkF m 1 #[.val (.ref a1)] [(.ref a1)])) (fun t k => XS.aloadN X0.here hx rfl (hb hby d23_0) rfl rfl k) ?_
  obtain ⟨T1, X1, e1, st1⟩ := initO X0 hx hZ hown (w_151 hw) (w_25 hw) (w_26 hw) e0 (g := (mkF m 1 #[.val (.ref a1)] [(.ref a1)])) rfl (by rw [hml]; rfl) rfl (hb hby d23_1) (by decide) (W := 0) (by show 2 * 0 + _ ≤ _; exact Nat.le_of_eq rfl) (by decide)
  refine own_st (B := T1.setTop (mkF m 4 #[.val (.ref a1)] [])) (fun t k => st1 t k) ?_
  refine own_retV X1 hx hlk Bd.returns (hb hby d23_4) (by decide) (by decide) ?_
  show Q23 Z a1 h0 n0 _ T1.heap _
  rw [e1]
  exact ⟨rfl, N0, rfl⟩
theorem own_pn5 : plainName "java/lang/Integer" = true := by first | (simp [plainName, overriddenIn]; done) | decide +kernel
theorem d22_0 : decode jdk_33_method_23_code 0 = .ok (.aload_n 0, 1) := by decide +kernel
theorem d22_1 : decode jdk_33_method_23_code 1 = .ok (.invokespecial 202, 3) := by decide +kernel
theorem d22_4 : decode jdk_33_method_23_code 4 = .ok (.aload_n 0, 1) := by decide +kernel
theorem d22_5 : decode jdk_33_method_23_code 5 = .ok (.iload_n 1, 1) := by decide +kernel
theorem d22_6 : decode jdk_33_method_23_code 6 = .ok (.putfield 205, 3) := by decide +kernel
theorem d22_9 : decode jdk_33_method_23_code 9 = .ok (.return_, 1) := by decide +kernel
theorem ef_22 (m : MethodId) (x0 : Addr) (x1 : Int32) : entryFrame m #[(.ref x0), (.int x1)] 2 = mkF m 0 #[.val (.ref x0), .val (.int x1)] [] := by first | (simp [entryFrame, mkF, argsToLocals, Value.category]; done) | rfl
def Q22 (Z : State) (a1 : Addr) (p1 : Int32) (h0 : Heap) (n0 : Nat) (v : Option Value) (h : Heap) (L : List Loc) : Prop := v = none ∧ Fr n0 L ∧ Keep h0 h [a1] ∧ Exa Z h a1 "java/lang/Integer"
set_option maxHeartbeats 40000000 in
theorem rm22 (l : Launch) (Z : State) (a0 : Array Value) (hw : ∀ d ∈ tables_1, d.before a0 Z = true) (ws : List Jvm.Cond) (a1 : Addr) (p1 : Int32) (h0 : Heap) (n0 : Nat) (Z0 : n0 ≤ h0.size) (F0 : Exa Z h0 a1 "java/lang/Integer") (F1 : Fld Z h0 a1 "java/lang/Integer" "value" "I" (.int (0 : Int32))) (ga : n0 ≤ a1) :
    MetFree l (⟨"java/lang/Integer", "<init>", "(I)V"⟩ : MethodName) (head1 (Jvm.Cond.code (⟨"java/lang/Integer", "<init>", "(I)V"⟩ : MethodName) jdk_33_method_23_code 2 none :: ws) ({ frames := 2, cells := 0, slots := 0, locals := 24 } : Room)) (fun a U => a = #[(.ref a1), (.int p1)] ∧ Z.Warmed39 U.vm ∧ U.heap = h0) (fun _ _ _ _ _ => True) (fun _ U o U' => ∃ v L, o = .returned v ∧ Q22 Z a1 p1 h0 n0 v U'.heap L ∧ FrameEnd U o U' L ({ frames := 2, cells := 0, slots := 0, locals := 24 } : Room).cells ({ frames := 2, cells := 0, slots := 0, locals := 24 } : Room).slots) := by
  refine MetFree.of_bodySF (plainFor_of_name own_pn5) hisR ?_
  intro p e s m args below meth c s₁ Bd hml0 hP hK
  obtain ⟨rfl, hZ, hh⟩ := hP
  have hx := Bd.exec
  have hby := Bd.bytes
  have hml : c.maxLocals = 2 := hml0
  have hlk : meth.locks = false := BodyLoose.notSynchronized Bd
  have hown : s.vm.findClass "java/lang/Integer" = some m.cls := findClass_of_methodNamed Bd.named
  have hnm := (name_of_methodNamed Bd.named Bd.method).1
  have X0 : Stand p l e ({ frames := 2, cells := 0, slots := 0, locals := 24 } : Room) s m #[(.ref a1), (.int p1)] below meth c s₁ [] 0 0 := Stand.of_body Bd
  have e0 : s₁.heap = h0 := by rw [← hh, Bd.state]; rfl
  have N0 := Fr.nil n0
  show own_Go p e below s (Q22 Z a1 p1 h0 n0) ({ frames := 2, cells := 0, slots := 0, locals := 24 } : Room).cells ({ frames := 2, cells := 0, slots := 0, locals := 24 } : Room).slots _
  refine own_st (B := s₁.setTop (mkF m 0 #[.val (.ref a1), .val (.int p1)] [])) (fun t k => castTop (ef_22 m (a1) (p1)) k) ?_
  refine own_st (B := s₁.setTop (mkF m 1 #[.val (.ref a1), .val (.int p1)] [(.ref a1)])) (fun t k => XS.aloadN X0.here hx rfl (hb hby d22_0) rfl rfl k) ?_
  obtain ⟨_, _, ⟨T1, L1, k1, j1⟩, -, X1, ⟨Lc1, hQ1, l1, y1_, z1_⟩, st1⟩ := X0.specialBack hx (y := (⟨"java/lang/Number", "<init>", "()V"⟩ : MethodName)) rfl hown (mvT hZ (w_145 hw)) (mvT hZ (w_146 hw)) (mvT hZ (w_150 hw)) (by decide) (backOf (W := 0) (rm23 l Z a0 hw [] a1 h0 n0 Z0 ) hZ (w_150 hw) (w_149 hw) (by decide) (by decide)) (g := (mkF m 1 #[.val (.ref a1), .val (.int p1)] [(.ref a1)])) rfl (by rw [hml]; rfl) (Steps.refl _) (a := a1) (argsL := []) (rest := []) (lenOf own_pd1 rfl) rfl (by show 2 * 0 + _ ≤ _; exact Nat.le_of_eq rfl) (hb hby d22_1) (fun _ _ => ⟨rfl, e0, (by decide : 0 + 0 ≤ _), (by decide : 0 + 0 ≤ _)⟩)
  dsimp only [Pt.U, Pt.locs, Pt.cells, Pt.slots] at X1 l1 y1_ z1_ st1 hQ1
  subst l1 y1_ z1_
  obtain ⟨rfl, N1q, e1q⟩ := hQ1
  have N1 := Fr.app N0 N1q
  refine own_ss (B := T1.setTop (mkF m 4 #[.val (.ref a1), .val (.int p1)] [])) st1 ?_
  refine own_st (B := T1.setTop (mkF m 5 #[.val (.ref a1), .val (.int p1)] [(.ref a1)])) (fun t k => XS.aloadN X1.here hx rfl (hb hby d22_4) rfl rfl k) ?_
  refine own_st (B := T1.setTop (mkF m 6 #[.val (.ref a1), .val (.int p1)] [(.int p1), (.ref a1)])) (fun t k => XS.iloadN X1.here hx rfl (hb hby d22_5) rfl k) ?_
  obtain ⟨T2, h2, X2, e2, W2, st2⟩ := putF X1 hx hZ hown (host := "") (Or.inl (w_152 hw)) Via.refl e1q F1 F0 (Or.inr ⟨(w_153 hw), rfl, hnm⟩) (w_140 hw) (ty := .int) (by decide) rfl rfl (g := (mkF m 6 #[.val (.ref a1), .val (.int p1)] [(.int p1), (.ref a1)])) rfl rfl (hb hby d22_6)
  have f2_ : Fld Z h2 a1 "java/lang/Integer" "value" "I" (.int p1) := F1.same W2
  have z3 : n0 ≤ h2.size := Nat.le_trans Z0 (Keep.of_wr W2).1
  have kp3 : Keep h0 h2 [a1] := (Keep.refl h0 [a1]).wr W2 (Or.inl (List.mem_of_getElem? (i := 0) rfl))
  have n4 := Fr.snoc X2 N1 ga
  refine own_st (B := T2.setTop (mkF m 9 #[.val (.ref a1), .val (.int p1)] [])) (fun t k => st2 t k) ?_
  refine own_retV X2 hx hlk Bd.returns (hb hby d22_9) (by decide) (by decide) ?_
  show Q22 Z a1 p1 h0 n0 _ T2.heap _
  rw [e2]
  have f5 : Exa Z h2 a1 "java/lang/Integer" := (F0.wr W2)
  exact ⟨rfl, n4, kp3, f5⟩
theorem own_pd6 : parseMethodDescriptor "(I)V" = some ⟨[.int], none⟩ := by decide +kernel
theorem d6_0 : decode jdk_33_method_22_code 0 = .ok (.iload_n 0, 1) := by decide +kernel
theorem d6_1 : decode jdk_33_method_22_code 1 = .ok (.bipush (-128), 2) := by decide +kernel
theorem d6_3 : decode jdk_33_method_22_code 3 = .ok (.if_icmp .lt 20, 3) := by decide +kernel
theorem d6_6 : decode jdk_33_method_22_code 6 = .ok (.iload_n 0, 1) := by decide +kernel
theorem d6_7 : decode jdk_33_method_22_code 7 = .ok (.getstatic 191, 3) := by decide +kernel
theorem d6_10 : decode jdk_33_method_22_code 10 = .ok (.if_icmp .gt 13, 3) := by decide +kernel
theorem d6_13 : decode jdk_33_method_22_code 13 = .ok (.getstatic 195, 3) := by decide +kernel
theorem d6_16 : decode jdk_33_method_22_code 16 = .ok (.iload_n 0, 1) := by decide +kernel
theorem d6_17 : decode jdk_33_method_22_code 17 = .ok (.sipush 128, 3) := by decide +kernel
theorem d6_20 : decode jdk_33_method_22_code 20 = .ok (.iadd, 1) := by decide +kernel
theorem d6_21 : decode jdk_33_method_22_code 21 = .ok (.aaload, 1) := by decide +kernel
theorem d6_22 : decode jdk_33_method_22_code 22 = .ok (.areturn, 1) := by decide +kernel
theorem d6_23 : decode jdk_33_method_22_code 23 = .ok (.new 1, 3) := by decide +kernel
theorem d6_26 : decode jdk_33_method_22_code 26 = .ok (.dup, 1) := by decide +kernel
theorem d6_27 : decode jdk_33_method_22_code 27 = .ok (.iload_n 0, 1) := by decide +kernel
theorem d6_28 : decode jdk_33_method_22_code 28 = .ok (.invokespecial 199, 3) := by decide +kernel
theorem d6_31 : decode jdk_33_method_22_code 31 = .ok (.areturn, 1) := by decide +kernel
theorem ef_6 (m : MethodId) (x0 : Int32) : entryFrame m #[(.int x0)] 1 = mkF m 0 #[.val (.int x0)] [] := by first | (simp [entryFrame, mkF, argsToLocals, Value.category]; done) | rfl
def Q6 (Z : State) (p1 : Int32) (ca : Addr) (h0 : Heap) (n0 : Nat) (v : Option Value) (h : Heap) (L : List Loc) : Prop := ∃ (o : Addr), v = some (.ref o) ∧ Fr n0 L ∧ Keep h0 h [] ∧ Exa Z h o "java/lang/Integer"
set_option maxHeartbeats 40000000 in
theorem rm6 (l : Launch) (Z : State) (a0 : Array Value) (hw : ∀ d ∈ tables_1, d.before a0 Z = true) (ws : List Jvm.Cond) (p1 : Int32) (ca : Addr) (h0 : Heap) (n0 : Nat) (Z0 : n0 ≤ h0.size) (F0 : Sta Z h0 "java/lang/Integer$IntegerCache" "high" "I" (.int (127 : Int32))) (F1 : Sta Z h0 "java/lang/Integer$IntegerCache" "cache" "[Ljava/lang/Integer;" (.ref ca)) (F2 : own_Cache Z h0 ca) :
    MetFree l (⟨"java/lang/Integer", "valueOf", "(I)Ljava/lang/Integer;"⟩ : MethodName) (head1 (Jvm.Cond.code (⟨"java/lang/Integer", "valueOf", "(I)Ljava/lang/Integer;"⟩ : MethodName) jdk_33_method_22_code 1 (some (.object "java/lang/Integer")) :: ws) ({ frames := 3, cells := 1, slots := 1, locals := 38 } : Room)) (fun a U => a = #[(.int p1)] ∧ Z.Warmed39 U.vm ∧ U.heap = h0) (fun _ _ _ _ _ => True) (fun _ U o U' => ∃ v L, o = .returned v ∧ Q6 Z p1 ca h0 n0 v U'.heap L ∧ FrameEnd U o U' L ({ frames := 3, cells := 1, slots := 1, locals := 38 } : Room).cells ({ frames := 3, cells := 1, slots := 1, locals := 38 } : Room).slots) := by
  refine MetFree.of_bodySF (plainFor_of_name own_pn5) hisR ?_
  intro p e s m args below meth c s₁ Bd hml0 hP hK
  obtain ⟨rfl, hZ, hh⟩ := hP
  have hx := Bd.exec
  have hby := Bd.bytes
  have hml : c.maxLocals = 1 := hml0
  have hlk : meth.locks = false := BodyLoose.notSynchronized Bd
  have hown : s.vm.findClass "java/lang/Integer" = some m.cls := findClass_of_methodNamed Bd.named
  have hnm := (name_of_methodNamed Bd.named Bd.method).1
  have X0 : Stand p l e ({ frames := 3, cells := 1, slots := 1, locals := 38 } : Room) s m #[(.int p1)] below meth c s₁ [] 0 0 := Stand.of_body Bd
  have e0 : s₁.heap = h0 := by rw [← hh, Bd.state]; rfl
  have N0 := Fr.nil n0
  show own_Go p e below s (Q6 Z p1 ca h0 n0) ({ frames := 3, cells := 1, slots := 1, locals := 38 } : Room).cells ({ frames := 3, cells := 1, slots := 1, locals := 38 } : Room).slots _
  refine own_st (B := s₁.setTop (mkF m 0 #[.val (.int p1)] [])) (fun t k => castTop (ef_6 m (p1)) k) ?_
  refine own_st (B := s₁.setTop (mkF m 1 #[.val (.int p1)] [(.int p1)])) (fun t k => XS.iloadN X0.here hx rfl (hb hby d6_0) rfl k) ?_
  refine own_st (B := s₁.setTop (mkF m 3 #[.val (.int p1)] [(.int (-128 : Int32)), (.int p1)])) (fun t k => XS.bipush X0.here hx rfl (hb hby d6_1) k) ?_
  by_cases hc1 : p1 < (-128 : Int32)
  · refine own_st (B := s₁.setTop (mkF m 23 #[.val (.int p1)] [])) (fun t k => XS.icmpYes X0.here hx rfl (pc0 := 3) (pc' := 23) rfl (hb hby d6_3) rfl (XT.ii_lt_t hc1) (by decide) (by decide) k) ?_
    obtain ⟨T2, h2, X2, e2, E2, A2, D2, -, st2⟩ := newO X0 hx hZ hown (w_139 hw) (w_140 hw) (w_34 hw) e0 (g := (mkF m 23 #[.val (.int p1)] [])) rfl (hb hby d6_23) (by decide) (by decide)
    obtain ⟨b2, g2⟩ : ∃ z, z = h0.size := ⟨_, rfl⟩
    rw [← g2] at A2 D2 st2
    have q2_ca : ca ≠ b2 := Nat.ne_of_lt (Nat.lt_of_lt_of_le F2.lt (Nat.le_of_eq g2.symm))
    have u2 : n0 ≤ b2 := Nat.le_trans Z0 (Nat.le_of_eq g2.symm)
    have y2 : h0.size ≤ b2 := Nat.le_trans (Keep.refl h0 []).1 (Nat.le_of_eq g2.symm)
    have z3 : n0 ≤ h2.size := Nat.le_trans Z0 E2.1
    have kp3 : Keep h0 h2 [] := (Keep.refl h0 []).ext E2
    have f4 : Fld Z h2 b2 "java/lang/Integer" "value" "I" (.int (0 : Int32)) := D2 (Or.inr (w_153 hw)) (ty := .int) (by decide)
    refine own_st (B := T2.setTop (mkF m 26 #[.val (.int p1)] [(.ref b2)])) (fun t k => st2 t k) ?_
    refine own_st (B := T2.setTop (mkF m 27 #[.val (.int p1)] [(.ref b2), (.ref b2)])) (fun t k => XS.dup X2.here hx rfl (hb hby d6_26) rfl rfl k) ?_
    refine own_st (B := T2.setTop (mkF m 28 #[.val (.int p1)] [(.int p1), (.ref b2), (.ref b2)])) (fun t k => XS.iloadN X2.here hx rfl (hb hby d6_27) rfl k) ?_
    obtain ⟨_, _, ⟨T5, L5, k5, j5⟩, -, X5, ⟨Lc5, hQ5, l5, y5_, z5_⟩, st5⟩ := X2.specialBack hx (y := (⟨"java/lang/Integer", "<init>", "(I)V"⟩ : MethodName)) rfl hown (mvT hZ (w_141 hw)) (mvT hZ (w_142 hw)) (mvT hZ (w_144 hw)) (by decide) (backOf (W := 1) (rm22 l Z a0 hw [] b2 p1 h2 n0 z3 A2 f4 u2) hZ (w_144 hw) (w_34 hw) (by decide) (by decide)) (g := (mkF m 28 #[.val (.int p1)] [(.int p1), (.ref b2), (.ref b2)])) rfl (by rw [hml]; rfl) (Steps.refl _) (a := b2) (argsL := [(.int p1)]) (rest := [(.ref b2)]) (lenOf own_pd6 rfl) rfl (by show 2 * 0 + _ ≤ _; exact Nat.le_of_eq rfl) (hb hby d6_28) (fun _ _ => ⟨rfl, e2, (by decide : 1 + 0 ≤ _), (by decide : 1 + 0 ≤ _)⟩)
    dsimp only [Pt.U, Pt.locs, Pt.cells, Pt.slots] at X5 l5 y5_ z5_ st5 hQ5
    subst l5 y5_ z5_
    obtain ⟨rfl, N5q, K5, p5_0⟩ := hQ5
    have N5 := Fr.app N0 N5q
    have z6 : n0 ≤ T5.heap.size := Nat.le_trans z3 K5.1
    have kp6 : Keep h0 T5.heap [] := kp3.trans K5 (allS (Or.inr y2) all0)
    refine own_ss (B := T5.setTop (mkF m 31 #[.val (.int p1)] [(.ref b2)])) st5 ?_
    refine own_retR X5 hx hlk (t := (.object "java/lang/Integer")) Bd.returns rfl rfl rfl (hb hby d6_31) (by decide) (by decide) ?_
    show Q6 Z p1 ca h0 n0 _ T5.heap _
    exact ⟨b2, rfl, N5, kp6, p5_0⟩
  · refine own_st (B := s₁.setTop (mkF m 6 #[.val (.int p1)] [])) (fun t k => XS.icmpNo X0.here hx rfl (hb hby d6_3) rfl (XT.ii_lt_f hc1) k) ?_
    refine own_st (B := s₁.setTop (mkF m 7 #[.val (.int p1)] [(.int p1)])) (fun t k => XS.iloadN X0.here hx rfl (hb hby d6_6) rfl k) ?_
    obtain ⟨T7, X7, e7, st7⟩ := getS2 X0 hx hZ hown (host := "") (Or.inl (w_36 hw)) Via.refl e0 F0 (g := (mkF m 7 #[.val (.int p1)] [(.int p1)])) rfl (hb hby d6_7)
    refine own_st (B := T7.setTop (mkF m 10 #[.val (.int p1)] [(.int (127 : Int32)), (.int p1)])) (fun t k => st7 t k) ?_
    by_cases hc8 : (127 : Int32) < p1
    · refine own_st (B := T7.setTop (mkF m 23 #[.val (.int p1)] [])) (fun t k => XS.icmpYes X7.here hx rfl (pc0 := 10) (pc' := 23) rfl (hb hby d6_10) rfl (XT.ii_gt_t hc8) (by decide) (by decide) k) ?_
      obtain ⟨T9, h9, X9, e9, E9, A9, D9, -, st9⟩ := newO X7 hx hZ hown (w_139 hw) (w_140 hw) (w_34 hw) e7 (g := (mkF m 23 #[.val (.int p1)] [])) rfl (hb hby d6_23) (by decide) (by decide)
      obtain ⟨b9, g9⟩ : ∃ z, z = h0.size := ⟨_, rfl⟩
      rw [← g9] at A9 D9 st9
      have q9_ca : ca ≠ b9 := Nat.ne_of_lt (Nat.lt_of_lt_of_le F2.lt (Nat.le_of_eq g9.symm))
      have u9 : n0 ≤ b9 := Nat.le_trans Z0 (Nat.le_of_eq g9.symm)
      have y9 : h0.size ≤ b9 := Nat.le_trans (Keep.refl h0 []).1 (Nat.le_of_eq g9.symm)
      have z10 : n0 ≤ h9.size := Nat.le_trans Z0 E9.1
      have kp10 : Keep h0 h9 [] := (Keep.refl h0 []).ext E9
      have f11 : Fld Z h9 b9 "java/lang/Integer" "value" "I" (.int (0 : Int32)) := D9 (Or.inr (w_153 hw)) (ty := .int) (by decide)
      refine own_st (B := T9.setTop (mkF m 26 #[.val (.int p1)] [(.ref b9)])) (fun t k => st9 t k) ?_
      refine own_st (B := T9.setTop (mkF m 27 #[.val (.int p1)] [(.ref b9), (.ref b9)])) (fun t k => XS.dup X9.here hx rfl (hb hby d6_26) rfl rfl k) ?_
      refine own_st (B := T9.setTop (mkF m 28 #[.val (.int p1)] [(.int p1), (.ref b9), (.ref b9)])) (fun t k => XS.iloadN X9.here hx rfl (hb hby d6_27) rfl k) ?_
      obtain ⟨_, _, ⟨T12, L12, k12, j12⟩, -, X12, ⟨Lc12, hQ12, l12, y12_, z12_⟩, st12⟩ := X9.specialBack hx (y := (⟨"java/lang/Integer", "<init>", "(I)V"⟩ : MethodName)) rfl hown (mvT hZ (w_141 hw)) (mvT hZ (w_142 hw)) (mvT hZ (w_144 hw)) (by decide) (backOf (W := 1) (rm22 l Z a0 hw [] b9 p1 h9 n0 z10 A9 f11 u9) hZ (w_144 hw) (w_34 hw) (by decide) (by decide)) (g := (mkF m 28 #[.val (.int p1)] [(.int p1), (.ref b9), (.ref b9)])) rfl (by rw [hml]; rfl) (Steps.refl _) (a := b9) (argsL := [(.int p1)]) (rest := [(.ref b9)]) (lenOf own_pd6 rfl) rfl (by show 2 * 0 + _ ≤ _; exact Nat.le_of_eq rfl) (hb hby d6_28) (fun _ _ => ⟨rfl, e9, (by decide : 1 + 0 ≤ _), (by decide : 1 + 0 ≤ _)⟩)
      dsimp only [Pt.U, Pt.locs, Pt.cells, Pt.slots] at X12 l12 y12_ z12_ st12 hQ12
      subst l12 y12_ z12_
      obtain ⟨rfl, N12q, K12, p12_0⟩ := hQ12
      have N12 := Fr.app N0 N12q
      have z13 : n0 ≤ T12.heap.size := Nat.le_trans z10 K12.1
      have kp13 : Keep h0 T12.heap [] := kp10.trans K12 (allS (Or.inr y9) all0)
      refine own_ss (B := T12.setTop (mkF m 31 #[.val (.int p1)] [(.ref b9)])) st12 ?_
      refine own_retR X12 hx hlk (t := (.object "java/lang/Integer")) Bd.returns rfl rfl rfl (hb hby d6_31) (by decide) (by decide) ?_
      show Q6 Z p1 ca h0 n0 _ T12.heap _
      exact ⟨b9, rfl, N12, kp13, p12_0⟩
    · refine own_st (B := T7.setTop (mkF m 13 #[.val (.int p1)] [])) (fun t k => XS.icmpNo X7.here hx rfl (hb hby d6_10) rfl (XT.ii_gt_f hc8) k) ?_
      obtain ⟨T14, X14, e14, st14⟩ := getS2 X7 hx hZ hown (host := "") (Or.inl (w_38 hw)) Via.refl e7 F1 (g := (mkF m 13 #[.val (.int p1)] [])) rfl (hb hby d6_13)
      refine own_st (B := T14.setTop (mkF m 16 #[.val (.int p1)] [(.ref ca)])) (fun t k => st14 t k) ?_
      refine own_st (B := T14.setTop (mkF m 17 #[.val (.int p1)] [(.int p1), (.ref ca)])) (fun t k => XS.iloadN X14.here hx rfl (hb hby d6_16) rfl k) ?_
      refine own_st (B := T14.setTop (mkF m 20 #[.val (.int p1)] [(.int (128 : Int32)), (.int p1), (.ref ca)])) (fun t k => XS.sipush X14.here hx rfl (hb hby d6_17) k) ?_
      refine own_st (B := T14.setTop (mkF m 21 #[.val (.int p1)] [(.int (p1 + (128 : Int32))), (.ref ca)])) (fun t k => XS.iadd X14.here hx rfl (hb hby d6_20) rfl k) ?_
      obtain ⟨vs15, fa15, hl15, ha15⟩ := F2
      have hi16 := own_cix hc1 hc8
      obtain ⟨u16, hu16⟩ : ∃ v, vs15[(p1 + (128 : Int32)).toInt.toNat]? = some v := ⟨_, List.getElem?_eq_getElem (by omega)⟩
      obtain ⟨y16_, rfl, ye16⟩ := ha15 _ _ hu16
      refine own_st (B := T14.setTop (mkF m 22 #[.val (.int p1)] [(.ref y16_)])) (fun t k => own_ldR X14 hx hZ e14 fa15 rfl (g := (mkF m 21 #[.val (.int p1)] [(.int (p1 + (128 : Int32))), (.ref ca)])) (i := ((p1 + (128 : Int32)).toInt.toNat)) hi16.1 hu16 rfl rfl (hb hby d6_21) k) ?_
      refine own_retR X14 hx hlk (t := (.object "java/lang/Integer")) Bd.returns rfl rfl rfl (hb hby d6_22) (by decide) (by decide) ?_
      show Q6 Z p1 ca h0 n0 _ T14.heap _
      rw [e14]
      exact ⟨y16_, rfl, N0, (Keep.refl h0 []), ye16⟩
theorem own_pd7 : parseMethodDescriptor "(II)I" = some ⟨[.int, .int], some .int⟩ := by decide +kernel
theorem d10_0 : decode jdk_38_method_6_code 0 = .ok (.aload_n 0, 1) := by decide +kernel
theorem d10_1 : decode jdk_38_method_6_code 1 = .ok (.getfield 9, 3) := by decide +kernel
theorem d10_4 : decode jdk_38_method_6_code 4 = .ok (.arraylength, 1) := by decide +kernel
theorem d10_5 : decode jdk_38_method_6_code 5 = .ok (.istore_n 2, 1) := by decide +kernel
theorem d10_6 : decode jdk_38_method_6_code 6 = .ok (.iload_n 2, 1) := by decide +kernel
theorem d10_7 : decode jdk_38_method_6_code 7 = .ok (.ifCond .gt 13, 3) := by decide +kernel
theorem d10_10 : decode jdk_38_method_6_code 10 = .ok (.aload_n 0, 1) := by decide +kernel
theorem d10_11 : decode jdk_38_method_6_code 11 = .ok (.getfield 9, 3) := by decide +kernel
theorem d10_14 : decode jdk_38_method_6_code 14 = .ok (.getstatic 39, 3) := by decide +kernel
theorem d10_17 : decode jdk_38_method_6_code 17 = .ok (.if_acmp .eq 28, 3) := by decide +kernel
theorem d10_45 : decode jdk_38_method_6_code 45 = .ok (.aload_n 0, 1) := by decide +kernel
theorem d10_46 : decode jdk_38_method_6_code 46 = .ok (.bipush 10, 2) := by decide +kernel
theorem d10_48 : decode jdk_38_method_6_code 48 = .ok (.iload_n 1, 1) := by decide +kernel
theorem d10_49 : decode jdk_38_method_6_code 49 = .ok (.invokestatic 79, 3) := by decide +kernel
theorem d10_52 : decode jdk_38_method_6_code 52 = .ok (.anewarray 7, 3) := by decide +kernel
theorem d10_55 : decode jdk_38_method_6_code 55 = .ok (.dup_x1, 1) := by decide +kernel
theorem d10_56 : decode jdk_38_method_6_code 56 = .ok (.putfield 9, 3) := by decide +kernel
theorem d10_59 : decode jdk_38_method_6_code 59 = .ok (.areturn, 1) := by decide +kernel
theorem ef_10 (m : MethodId) (x0 : Addr) (x1 : Int32) : entryFrame m #[(.ref x0), (.int x1)] 4 = mkF m 0 #[.val (.ref x0), .val (.int x1), .unset, .unset] [] := by first | (simp [entryFrame, mkF, argsToLocals, Value.category]; done) | rfl
def Q10 (Z : State) (a1 : Addr) (dca : Addr) (h0 : Heap) (n0 : Nat) (v : Option Value) (h : Heap) (L : List Loc) : Prop := ∃ (b : Addr), v = some (.ref b) ∧ Fr n0 L ∧ Keep h0 h [a1] ∧ n0 ≤ b ∧ h0.size ≤ b ∧ Exa Z h a1 "java/util/ArrayList" ∧ Fld Z h a1 "java/util/ArrayList" "size" "I" (.int (0 : Int32)) ∧ own_A Z h b (.object "java/lang/Object") (List.replicate 10 .null) ∧ Exa Z h b "[Ljava/lang/Object;" ∧ own_Ov "java/lang/Object" Z h b
set_option maxHeartbeats 40000000 in
theorem rm10 (l : Launch) (Z : State) (a0 : Array Value) (hw : ∀ d ∈ tables_1, d.before a0 Z = true) (ws : List Jvm.Cond) (a1 : Addr) (dca : Addr) (h0 : Heap) (n0 : Nat) (Z0 : n0 ≤ h0.size) (F0 : Exa Z h0 a1 "java/util/ArrayList") (F1 : Fld Z h0 a1 "java/util/ArrayList" "elementData" "[Ljava/lang/Object;" (.ref dca)) (F2 : Fld Z h0 a1 "java/util/ArrayList" "size" "I" (.int (0 : Int32))) (F3 : Sta Z h0 "java/util/ArrayList" "DEFAULTCAPACITY_EMPTY_ELEMENTDATA" "[Ljava/lang/Object;" (.ref dca)) (F4 : own_A Z h0 dca (.object "java/lang/Object") ([] : List Value)) (F5 : Exa Z h0 dca "[Ljava/lang/Object;") (ga : n0 ≤ a1) :
    MetFree l (⟨"java/util/ArrayList", "grow", "(I)[Ljava/lang/Object;"⟩ : MethodName) (head1 (Jvm.Cond.code (⟨"java/util/ArrayList", "grow", "(I)[Ljava/lang/Object;"⟩ : MethodName) jdk_38_method_6_code 4 (some (.array (.object "java/lang/Object"))) :: ws) ({ frames := 1, cells := 1, slots := 10, locals := 14 } : Room)) (fun a U => a = #[(.ref a1), (.int ((0 : Int32) + (1 : Int32)))] ∧ Z.Warmed39 U.vm ∧ U.heap = h0) (fun _ _ _ _ _ => True) (fun _ U o U' => ∃ v L, o = .returned v ∧ Q10 Z a1 dca h0 n0 v U'.heap L ∧ FrameEnd U o U' L ({ frames := 1, cells := 1, slots := 10, locals := 14 } : Room).cells ({ frames := 1, cells := 1, slots := 10, locals := 14 } : Room).slots) := by
  refine MetFree.of_bodySF (plainFor_of_name own_pn3) hisR ?_
  intro p e s m args below meth c s₁ Bd hml0 hP hK
  obtain ⟨rfl, hZ, hh⟩ := hP
  have hx := Bd.exec
  have hby := Bd.bytes
  have hml : c.maxLocals = 4 := hml0
  have hlk : meth.locks = false := BodyLoose.notSynchronized Bd
  have hown : s.vm.findClass "java/util/ArrayList" = some m.cls := findClass_of_methodNamed Bd.named
  have hnm := (name_of_methodNamed Bd.named Bd.method).1
  have X0 : Stand p l e ({ frames := 1, cells := 1, slots := 10, locals := 14 } : Room) s m #[(.ref a1), (.int ((0 : Int32) + (1 : Int32)))] below meth c s₁ [] 0 0 := Stand.of_body Bd
  have e0 : s₁.heap = h0 := by rw [← hh, Bd.state]; rfl
  have N0 := Fr.nil n0
  show own_Go p e below s (Q10 Z a1 dca h0 n0) ({ frames := 1, cells := 1, slots := 10, locals := 14 } : Room).cells ({ frames := 1, cells := 1, slots := 10, locals := 14 } : Room).slots _
  refine own_st (B := s₁.setTop (mkF m 0 #[.val (.ref a1), .val (.int ((0 : Int32) + (1 : Int32))), .unset, .unset] [])) (fun t k => castTop (ef_10 m (a1) (((0 : Int32) + (1 : Int32)))) k) ?_
  refine own_st (B := s₁.setTop (mkF m 1 #[.val (.ref a1), .val (.int ((0 : Int32) + (1 : Int32))), .unset, .unset] [(.ref a1)])) (fun t k => XS.aloadN X0.here hx rfl (hb hby d10_0) rfl rfl k) ?_
  obtain ⟨T1, X1, e1, st1⟩ := getF X0 hx hZ hown (host := "") (Or.inl (w_30 hw)) Via.refl e0 F1 (g := (mkF m 1 #[.val (.ref a1), .val (.int ((0 : Int32) + (1 : Int32))), .unset, .unset] [(.ref a1)])) rfl rfl (hb hby d10_1)
  refine own_st (B := T1.setTop (mkF m 4 #[.val (.ref a1), .val (.int ((0 : Int32) + (1 : Int32))), .unset, .unset] [(.ref dca)])) (fun t k => st1 t k) ?_
  refine own_st (B := T1.setTop (mkF m 5 #[.val (.ref a1), .val (.int ((0 : Int32) + (1 : Int32))), .unset, .unset] [(.int (0 : Int32))])) (fun t k => own_len X1 hx hZ e1 F4 (g := (mkF m 4 #[.val (.ref a1), .val (.int ((0 : Int32) + (1 : Int32))), .unset, .unset] [(.ref dca)])) (n := (0 : Int32)) (by decide) rfl rfl (hb hby d10_4) k) ?_
  refine own_st (B := T1.setTop (mkF m 6 #[.val (.ref a1), .val (.int ((0 : Int32) + (1 : Int32))), .val (.int (0 : Int32)), .unset] [])) (fun t k => XS.istoreN X1.here hx rfl (hb hby d10_5) rfl (l' := #[.val (.ref a1), .val (.int ((0 : Int32) + (1 : Int32))), .val (.int (0 : Int32)), .unset]) rfl k) ?_
  refine own_st (B := T1.setTop (mkF m 7 #[.val (.ref a1), .val (.int ((0 : Int32) + (1 : Int32))), .val (.int (0 : Int32)), .unset] [(.int (0 : Int32))])) (fun t k => XS.iloadN X1.here hx rfl (hb hby d10_6) rfl k) ?_
  refine own_st (B := T1.setTop (mkF m 10 #[.val (.ref a1), .val (.int ((0 : Int32) + (1 : Int32))), .val (.int (0 : Int32)), .unset] [])) (fun t k => XS.ifNo X1.here hx rfl (hb hby d10_7) rfl (by decide) k) ?_
  refine own_st (B := T1.setTop (mkF m 11 #[.val (.ref a1), .val (.int ((0 : Int32) + (1 : Int32))), .val (.int (0 : Int32)), .unset] [(.ref a1)])) (fun t k => XS.aloadN X1.here hx rfl (hb hby d10_10) rfl rfl k) ?_
  obtain ⟨T2, X2, e2, st2⟩ := getF X1 hx hZ hown (host := "") (Or.inl (w_30 hw)) Via.refl e1 F1 (g := (mkF m 11 #[.val (.ref a1), .val (.int ((0 : Int32) + (1 : Int32))), .val (.int (0 : Int32)), .unset] [(.ref a1)])) rfl rfl (hb hby d10_11)
  refine own_st (B := T2.setTop (mkF m 14 #[.val (.ref a1), .val (.int ((0 : Int32) + (1 : Int32))), .val (.int (0 : Int32)), .unset] [(.ref dca)])) (fun t k => st2 t k) ?_
  obtain ⟨T3, X3, e3, st3⟩ := getS2 X2 hx hZ hown (host := "") (Or.inl (w_29 hw)) Via.refl e2 F3 (g := (mkF m 14 #[.val (.ref a1), .val (.int ((0 : Int32) + (1 : Int32))), .val (.int (0 : Int32)), .unset] [(.ref dca)])) rfl (hb hby d10_14)
  refine own_st (B := T3.setTop (mkF m 17 #[.val (.ref a1), .val (.int ((0 : Int32) + (1 : Int32))), .val (.int (0 : Int32)), .unset] [(.ref dca), (.ref dca)])) (fun t k => st3 t k) ?_
  refine own_st (B := T3.setTop (mkF m 45 #[.val (.ref a1), .val (.int ((0 : Int32) + (1 : Int32))), .val (.int (0 : Int32)), .unset] [])) (fun t k => Jvm.RoadKit.acmp (g := (mkF m 17 #[.val (.ref a1), .val (.int ((0 : Int32) + (1 : Int32))), .val (.int (0 : Int32)), .unset] [(.ref dca), (.ref dca)])) X3 hx rfl rfl rfl (pc0 := 17) (pc' := 45) (same := true) rfl (hb hby d10_17) rfl (decide_eq_true rfl) (by decide) (by decide) k) ?_
  refine own_st (B := T3.setTop (mkF m 46 #[.val (.ref a1), .val (.int ((0 : Int32) + (1 : Int32))), .val (.int (0 : Int32)), .unset] [(.ref a1)])) (fun t k => XS.aloadN X3.here hx rfl (hb hby d10_45) rfl rfl k) ?_
  refine own_st (B := T3.setTop (mkF m 48 #[.val (.ref a1), .val (.int ((0 : Int32) + (1 : Int32))), .val (.int (0 : Int32)), .unset] [(.int (10 : Int32)), (.ref a1)])) (fun t k => XS.bipush X3.here hx rfl (hb hby d10_46) k) ?_
  refine own_st (B := T3.setTop (mkF m 49 #[.val (.ref a1), .val (.int ((0 : Int32) + (1 : Int32))), .val (.int (0 : Int32)), .unset] [(.int ((0 : Int32) + (1 : Int32))), (.int (10 : Int32)), (.ref a1)])) (fun t k => XS.iloadN X3.here hx rfl (hb hby d10_48) rfl k) ?_
  obtain ⟨_, _, ⟨T4, L4, k4, j4⟩, -, X4, ⟨Lc4, hQ4, l4, y4_, z4_⟩, st4⟩ := Jvm.LawKit.callS X3 hx (y := (⟨"java/lang/Math", "max", "(II)I"⟩ : MethodName)) hown (mvT hZ (w_63 hw)) (mvT hZ (w_2 hw)) (mvT hZ (w_3 hw)) (mvT hZ (w_4 hw)) (by decide) (backOf (W := 1) (rm1 l Z a0 hw [] (10 : Int32) ((0 : Int32) + (1 : Int32)) h0 n0 Z0 ) hZ (w_4 hw) (w_3 hw) (by decide) (by decide)) (g := (mkF m 49 #[.val (.ref a1), .val (.int ((0 : Int32) + (1 : Int32))), .val (.int (0 : Int32)), .unset] [(.int ((0 : Int32) + (1 : Int32))), (.int (10 : Int32)), (.ref a1)])) rfl (by rw [hml]; rfl) (argsL := [(.int (10 : Int32)), (.int ((0 : Int32) + (1 : Int32)))]) (rest := [(.ref a1)]) (lenOf own_pd7 rfl) rfl (by show 2 * 0 + _ ≤ _; exact Nat.le_of_eq rfl) (hb hby d10_49) (fun _ _ => ⟨rfl, e3, (by decide : 0 + 0 ≤ _), (by decide : 0 + 0 ≤ _)⟩)
  dsimp only [Pt.U, Pt.locs, Pt.cells, Pt.slots] at X4 l4 y4_ z4_ st4 hQ4
  subst l4 y4_ z4_
  obtain ⟨rfl, N4q, e4q⟩ := hQ4
  have N4 := Fr.app N0 N4q
  refine own_st (B := T4.setTop (mkF m 52 #[.val (.ref a1), .val (.int ((0 : Int32) + (1 : Int32))), .val (.int (0 : Int32)), .unset] [(.int (own_max (10 : Int32) ((0 : Int32) + (1 : Int32)))), (.ref a1)])) (fun t k => st4 t k) ?_
  obtain ⟨T5, h5, X5, e5, E5, A5, x5, o5, st5⟩ := own_newR X4 hx hZ hown (w_64 hw) (w_65 hw) e4q (g := (mkF m 52 #[.val (.ref a1), .val (.int ((0 : Int32) + (1 : Int32))), .val (.int (0 : Int32)), .unset] [(.int (own_max (10 : Int32) ((0 : Int32) + (1 : Int32)))), (.ref a1)])) rfl (hb hby d10_52) (n := (own_max (10 : Int32) ((0 : Int32) + (1 : Int32)))) (rest := [(.ref a1)]) rfl (k := 10) (cap := 10) (by decide) (Nat.le_refl _) (by decide) (by decide) (by decide) (ad := "[Ljava/lang/Object;") rfl
  obtain ⟨b5, g5⟩ : ∃ z, z = h0.size := ⟨_, rfl⟩
  rw [← g5] at A5 x5 o5 st5
  have q5_a1 : a1 ≠ b5 := Nat.ne_of_lt (Nat.lt_of_lt_of_le F0.lt (Nat.le_of_eq g5.symm))
  have q5_dca : dca ≠ b5 := Nat.ne_of_lt (Nat.lt_of_lt_of_le F4.lt (Nat.le_of_eq g5.symm))
  have u5 : n0 ≤ b5 := Nat.le_trans Z0 (Nat.le_of_eq g5.symm)
  have y5 : h0.size ≤ b5 := Nat.le_trans (Keep.refl h0 [a1]).1 (Nat.le_of_eq g5.symm)
  have z6 : n0 ≤ h5.size := Nat.le_trans Z0 E5.1
  have kp6 : Keep h0 h5 [a1] := (Keep.refl h0 [a1]).ext E5
  have f5_ : own_A Z h5 b5 (.object "java/lang/Object") (List.replicate 10 .null) := A5
  refine own_st (B := T5.setTop (mkF m 55 #[.val (.ref a1), .val (.int ((0 : Int32) + (1 : Int32))), .val (.int (0 : Int32)), .unset] [(.ref b5), (.ref a1)])) (fun t k => st5 t k) ?_
  refine own_st (B := T5.setTop (mkF m 56 #[.val (.ref a1), .val (.int ((0 : Int32) + (1 : Int32))), .val (.int (0 : Int32)), .unset] [(.ref b5), (.ref a1), (.ref b5)])) (fun t k => XS.dupX1 X5.here hx rfl (hb hby d10_55) rfl rfl rfl k) ?_
  have f7 : Exa Z h5 a1 "java/util/ArrayList" := (F0.ext E5)
  have f8 : Fld Z h5 a1 "java/util/ArrayList" "elementData" "[Ljava/lang/Object;" (.ref dca) := (F1.ext E5)
  obtain ⟨T9, h9, X9, e9, W9, st9⟩ := putF X5 hx hZ hown (host := "") (Or.inl (w_30 hw)) Via.refl e5 f8 f7 (Or.inl (w_31 hw)) (w_7 hw) (ty := (.array (.object "java/lang/Object"))) (by decide) rfl rfl (g := (mkF m 56 #[.val (.ref a1), .val (.int ((0 : Int32) + (1 : Int32))), .val (.int (0 : Int32)), .unset] [(.ref b5), (.ref a1), (.ref b5)])) rfl rfl (hb hby d10_56)
  have f9_ : Fld Z h9 a1 "java/util/ArrayList" "elementData" "[Ljava/lang/Object;" (.ref b5) := f8.same W9
  have z10 : n0 ≤ h9.size := Nat.le_trans z6 (Keep.of_wr W9).1
  have kp10 : Keep h0 h9 [a1] := kp6.wr W9 (Or.inl (List.mem_of_getElem? (i := 0) rfl))
  have n11 := Fr.snoc X9 N4 ga
  refine own_st (B := T9.setTop (mkF m 59 #[.val (.ref a1), .val (.int ((0 : Int32) + (1 : Int32))), .val (.int (0 : Int32)), .unset] [(.ref b5)])) (fun t k => st9 t k) ?_
  refine own_retR X9 hx hlk (t := (.array (.object "java/lang/Object"))) Bd.returns rfl rfl rfl (hb hby d10_59) (by decide) (by decide) ?_
  show Q10 Z a1 dca h0 n0 _ T9.heap _
  rw [e9]
  have f12 : Exa Z h9 a1 "java/util/ArrayList" := (f7.wr W9)
  have f13 : Fld Z h9 a1 "java/util/ArrayList" "size" "I" (.int (0 : Int32)) := ((F2.ext E5).other W9 (Or.inr (slot_ne (Or.inl (w_47 hw)) (Or.inl (w_31 hw)) (by decide) (t := .int) (t' := (.array (.object "java/lang/Object"))) (by decide) (by decide))))
  have f14 : own_A Z h9 b5 (.object "java/lang/Object") (List.replicate 10 .null) := (f5_.other W9 (Ne.symm q5_a1))
  have f15 : Exa Z h9 b5 "[Ljava/lang/Object;" := (x5.wr W9)
  have f16 : own_Ov "java/lang/Object" Z h9 b5 := (o5.other W9 (Ne.symm q5_a1))
  exact ⟨b5, rfl, n11, kp10, u5, y5, f12, f13, f14, f15, f16⟩
theorem own_pd8 : parseMethodDescriptor "(I)[Ljava/lang/Object;" = some ⟨[.int], some (.array (.object "java/lang/Object"))⟩ := by decide +kernel
theorem d9_0 : decode jdk_38_method_7_code 0 = .ok (.aload_n 0, 1) := by decide +kernel
theorem d9_1 : decode jdk_38_method_7_code 1 = .ok (.aload_n 0, 1) := by decide +kernel
theorem d9_2 : decode jdk_38_method_7_code 2 = .ok (.getfield 48, 3) := by decide +kernel
theorem d9_5 : decode jdk_38_method_7_code 5 = .ok (.iconst 1, 1) := by decide +kernel
theorem d9_6 : decode jdk_38_method_7_code 6 = .ok (.iadd, 1) := by decide +kernel
theorem d9_7 : decode jdk_38_method_7_code 7 = .ok (.invokevirtual 69, 3) := by decide +kernel
theorem d9_10 : decode jdk_38_method_7_code 10 = .ok (.areturn, 1) := by decide +kernel
theorem ef_9 (m : MethodId) (x0 : Addr) : entryFrame m #[(.ref x0)] 1 = mkF m 0 #[.val (.ref x0)] [] := by first | (simp [entryFrame, mkF, argsToLocals, Value.category]; done) | rfl
def Q9 (Z : State) (a1 : Addr) (dca : Addr) (h0 : Heap) (n0 : Nat) (v : Option Value) (h : Heap) (L : List Loc) : Prop := ∃ (b : Addr), v = some (.ref b) ∧ Fr n0 L ∧ Keep h0 h [a1] ∧ n0 ≤ b ∧ h0.size ≤ b ∧ Exa Z h a1 "java/util/ArrayList" ∧ Fld Z h a1 "java/util/ArrayList" "size" "I" (.int (0 : Int32)) ∧ own_A Z h b (.object "java/lang/Object") (List.replicate 10 .null) ∧ Exa Z h b "[Ljava/lang/Object;" ∧ own_Ov "java/lang/Object" Z h b
set_option maxHeartbeats 40000000 in
theorem rm9 (l : Launch) (Z : State) (a0 : Array Value) (hw : ∀ d ∈ tables_1, d.before a0 Z = true) (ws : List Jvm.Cond) (a1 : Addr) (dca : Addr) (h0 : Heap) (n0 : Nat) (Z0 : n0 ≤ h0.size) (F0 : Exa Z h0 a1 "java/util/ArrayList") (F1 : Fld Z h0 a1 "java/util/ArrayList" "elementData" "[Ljava/lang/Object;" (.ref dca)) (F2 : Fld Z h0 a1 "java/util/ArrayList" "size" "I" (.int (0 : Int32))) (F3 : Sta Z h0 "java/util/ArrayList" "DEFAULTCAPACITY_EMPTY_ELEMENTDATA" "[Ljava/lang/Object;" (.ref dca)) (F4 : own_A Z h0 dca (.object "java/lang/Object") ([] : List Value)) (F5 : Exa Z h0 dca "[Ljava/lang/Object;") (ga : n0 ≤ a1) :
    MetFree l (⟨"java/util/ArrayList", "grow", "()[Ljava/lang/Object;"⟩ : MethodName) (head1 (Jvm.Cond.code (⟨"java/util/ArrayList", "grow", "()[Ljava/lang/Object;"⟩ : MethodName) jdk_38_method_7_code 1 (some (.array (.object "java/lang/Object"))) :: ws) ({ frames := 2, cells := 1, slots := 10, locals := 29 } : Room)) (fun a U => a = #[(.ref a1)] ∧ Z.Warmed39 U.vm ∧ U.heap = h0) (fun _ _ _ _ _ => True) (fun _ U o U' => ∃ v L, o = .returned v ∧ Q9 Z a1 dca h0 n0 v U'.heap L ∧ FrameEnd U o U' L ({ frames := 2, cells := 1, slots := 10, locals := 29 } : Room).cells ({ frames := 2, cells := 1, slots := 10, locals := 29 } : Room).slots) := by
  refine MetFree.of_bodySF (plainFor_of_name own_pn3) hisR ?_
  intro p e s m args below meth c s₁ Bd hml0 hP hK
  obtain ⟨rfl, hZ, hh⟩ := hP
  have hx := Bd.exec
  have hby := Bd.bytes
  have hml : c.maxLocals = 1 := hml0
  have hlk : meth.locks = false := BodyLoose.notSynchronized Bd
  have hown : s.vm.findClass "java/util/ArrayList" = some m.cls := findClass_of_methodNamed Bd.named
  have hnm := (name_of_methodNamed Bd.named Bd.method).1
  have X0 : Stand p l e ({ frames := 2, cells := 1, slots := 10, locals := 29 } : Room) s m #[(.ref a1)] below meth c s₁ [] 0 0 := Stand.of_body Bd
  have e0 : s₁.heap = h0 := by rw [← hh, Bd.state]; rfl
  have N0 := Fr.nil n0
  show own_Go p e below s (Q9 Z a1 dca h0 n0) ({ frames := 2, cells := 1, slots := 10, locals := 29 } : Room).cells ({ frames := 2, cells := 1, slots := 10, locals := 29 } : Room).slots _
  refine own_st (B := s₁.setTop (mkF m 0 #[.val (.ref a1)] [])) (fun t k => castTop (ef_9 m (a1)) k) ?_
  refine own_st (B := s₁.setTop (mkF m 1 #[.val (.ref a1)] [(.ref a1)])) (fun t k => XS.aloadN X0.here hx rfl (hb hby d9_0) rfl rfl k) ?_
  refine own_st (B := s₁.setTop (mkF m 2 #[.val (.ref a1)] [(.ref a1), (.ref a1)])) (fun t k => XS.aloadN X0.here hx rfl (hb hby d9_1) rfl rfl k) ?_
  obtain ⟨T1, X1, e1, st1⟩ := getF X0 hx hZ hown (host := "") (Or.inl (w_46 hw)) Via.refl e0 F2 (g := (mkF m 2 #[.val (.ref a1)] [(.ref a1), (.ref a1)])) rfl rfl (hb hby d9_2)
  refine own_st (B := T1.setTop (mkF m 5 #[.val (.ref a1)] [(.int (0 : Int32)), (.ref a1)])) (fun t k => st1 t k) ?_
  refine own_st (B := T1.setTop (mkF m 6 #[.val (.ref a1)] [(.int (1 : Int32)), (.int (0 : Int32)), (.ref a1)])) (fun t k => XS.iconst X1.here hx rfl (hb hby d9_5) k) ?_
  refine own_st (B := T1.setTop (mkF m 7 #[.val (.ref a1)] [(.int ((0 : Int32) + (1 : Int32))), (.ref a1)])) (fun t k => XS.iadd X1.here hx rfl (hb hby d9_6) rfl k) ?_
  obtain ⟨cq2, q2a, q2b⟩ := F0.cell
  obtain ⟨_, _, ⟨T2, L2, k2, j2⟩, -, X2, ⟨Lc2, hQ2, l2, y2_, z2_⟩, st2⟩ := X1.privateBack hx (y := (⟨"java/util/ArrayList", "grow", "(I)[Ljava/lang/Object;"⟩ : MethodName)) hown (mvT hZ (w_58 hw)) (mvT hZ (w_59 hw)) (mvT hZ (w_61 hw)) (Cond.privateMethod_at (mvP hZ (w_60 hw) (args := #[]))) (mvT hZ (w_62 hw)) (by decide) (backOf (W := 0) (rm10 l Z a0 hw [] a1 dca h0 n0 Z0 F0 F1 F2 F3 F4 F5 ga) hZ (w_62 hw) (w_8 hw) (by decide) (by decide)) (g := (mkF m 7 #[.val (.ref a1)] [(.int ((0 : Int32) + (1 : Int32))), (.ref a1)])) rfl (by rw [hml]; rfl) (Steps.refl _) (a := a1) (by rw [e1]; exact q2a) q2b (argsL := [(.int ((0 : Int32) + (1 : Int32)))]) (rest := []) (lenOf own_pd8 rfl) rfl (by show 2 * 0 + _ ≤ _; exact Nat.le_of_eq rfl) (hb hby d9_7) (fun _ _ => ⟨rfl, e1, (by decide : 0 + 1 ≤ _), (by decide : 0 + 10 ≤ _)⟩)
  dsimp only [Pt.U, Pt.locs, Pt.cells, Pt.slots] at X2 l2 y2_ z2_ st2 hQ2
  subst l2 y2_ z2_
  obtain ⟨b_2, rfl, N2q, K2, u2_b, y2_b, p2_0, p2_1, p2_2, p2_3, p2_4⟩ := hQ2
  have N2 := Fr.app N0 N2q
  have q2_b_a1 : a1 ≠ b_2 := Nat.ne_of_lt (Nat.lt_of_lt_of_le F0.lt y2_b)
  have q2_b_dca : dca ≠ b_2 := Nat.ne_of_lt (Nat.lt_of_lt_of_le F4.lt y2_b)
  have y3 : h0.size ≤ b_2 := Nat.le_trans (Keep.refl h0 [a1]).1 y2_b
  have z4 : n0 ≤ T2.heap.size := Nat.le_trans Z0 K2.1
  have kp4 : Keep h0 T2.heap [a1] := (Keep.refl h0 [a1]).trans K2 (allS (Or.inl (List.mem_of_getElem? (i := 0) rfl)) all0)
  refine own_ss (B := T2.setTop (mkF m 10 #[.val (.ref a1)] [(.ref b_2)])) st2 ?_
  refine own_retR X2 hx hlk (t := (.array (.object "java/lang/Object"))) Bd.returns rfl rfl rfl (hb hby d9_10) (by decide) (by decide) ?_
  show Q9 Z a1 dca h0 n0 _ T2.heap _
  exact ⟨b_2, rfl, N2, kp4, u2_b, y3, p2_0, p2_1, p2_2, p2_3, p2_4⟩
theorem own_pd9 : parseMethodDescriptor "()[Ljava/lang/Object;" = some ⟨[], some (.array (.object "java/lang/Object"))⟩ := by decide +kernel
theorem d8_0 : decode jdk_38_method_24_code 0 = .ok (.iload_n 3, 1) := by decide +kernel
theorem d8_1 : decode jdk_38_method_24_code 1 = .ok (.aload_n 2, 1) := by decide +kernel
theorem d8_2 : decode jdk_38_method_24_code 2 = .ok (.arraylength, 1) := by decide +kernel
theorem d8_3 : decode jdk_38_method_24_code 3 = .ok (.if_icmp .ne 8, 3) := by decide +kernel
theorem d8_6 : decode jdk_38_method_24_code 6 = .ok (.aload_n 0, 1) := by decide +kernel
theorem d8_7 : decode jdk_38_method_24_code 7 = .ok (.invokevirtual 129, 3) := by decide +kernel
theorem d8_10 : decode jdk_38_method_24_code 10 = .ok (.astore_n 2, 1) := by decide +kernel
theorem d8_11 : decode jdk_38_method_24_code 11 = .ok (.aload_n 2, 1) := by decide +kernel
theorem d8_12 : decode jdk_38_method_24_code 12 = .ok (.iload_n 3, 1) := by decide +kernel
theorem d8_13 : decode jdk_38_method_24_code 13 = .ok (.aload_n 1, 1) := by decide +kernel
theorem d8_14 : decode jdk_38_method_24_code 14 = .ok (.aastore, 1) := by decide +kernel
theorem d8_15 : decode jdk_38_method_24_code 15 = .ok (.aload_n 0, 1) := by decide +kernel
theorem d8_16 : decode jdk_38_method_24_code 16 = .ok (.iload_n 3, 1) := by decide +kernel
theorem d8_17 : decode jdk_38_method_24_code 17 = .ok (.iconst 1, 1) := by decide +kernel
theorem d8_18 : decode jdk_38_method_24_code 18 = .ok (.iadd, 1) := by decide +kernel
theorem d8_19 : decode jdk_38_method_24_code 19 = .ok (.putfield 48, 3) := by decide +kernel
theorem d8_22 : decode jdk_38_method_24_code 22 = .ok (.return_, 1) := by decide +kernel
theorem ef_8 (m : MethodId) (x0 : Addr) (x1 : Addr) (x2 : Addr) (x3 : Int32) : entryFrame m #[(.ref x0), (.ref x1), (.ref x2), (.int x3)] 4 = mkF m 0 #[.val (.ref x0), .val (.ref x1), .val (.ref x2), .val (.int x3)] [] := by first | (simp [entryFrame, mkF, argsToLocals, Value.category]; done) | rfl
def Q8 (Z : State) (a1 : Addr) (a2 : Addr) (dca : Addr) (h0 : Heap) (n0 : Nat) (v : Option Value) (h : Heap) (L : List Loc) : Prop := v = none ∧ Fr n0 L ∧ Keep h0 h [a1] ∧ Exa Z h a1 "java/util/ArrayList"
set_option maxHeartbeats 40000000 in
theorem rm8 (l : Launch) (Z : State) (a0 : Array Value) (hw : ∀ d ∈ tables_1, d.before a0 Z = true) (ws : List Jvm.Cond) (a1 : Addr) (a2 : Addr) (dca : Addr) (h0 : Heap) (n0 : Nat) (Z0 : n0 ≤ h0.size) (F0 : Exa Z h0 a1 "java/util/ArrayList") (F1 : Fld Z h0 a1 "java/util/ArrayList" "elementData" "[Ljava/lang/Object;" (.ref dca)) (F2 : Fld Z h0 a1 "java/util/ArrayList" "size" "I" (.int (0 : Int32))) (F3 : Sta Z h0 "java/util/ArrayList" "DEFAULTCAPACITY_EMPTY_ELEMENTDATA" "[Ljava/lang/Object;" (.ref dca)) (F4 : own_A Z h0 dca (.object "java/lang/Object") ([] : List Value)) (F5 : Exa Z h0 dca "[Ljava/lang/Object;") (F6 : Exa Z h0 a2 "java/lang/Integer") (ga : n0 ≤ a1) :
    MetFree l (⟨"java/util/ArrayList", "add", "(Ljava/lang/Object;[Ljava/lang/Object;I)V"⟩ : MethodName) (head1 (Jvm.Cond.code (⟨"java/util/ArrayList", "add", "(Ljava/lang/Object;[Ljava/lang/Object;I)V"⟩ : MethodName) jdk_38_method_24_code 4 none :: ws) ({ frames := 3, cells := 1, slots := 10, locals := 41 } : Room)) (fun a U => a = #[(.ref a1), (.ref a2), (.ref dca), (.int (0 : Int32))] ∧ Z.Warmed39 U.vm ∧ U.heap = h0) (fun _ _ _ _ _ => True) (fun _ U o U' => ∃ v L, o = .returned v ∧ Q8 Z a1 a2 dca h0 n0 v U'.heap L ∧ FrameEnd U o U' L ({ frames := 3, cells := 1, slots := 10, locals := 41 } : Room).cells ({ frames := 3, cells := 1, slots := 10, locals := 41 } : Room).slots) := by
  refine MetFree.of_bodySF (plainFor_of_name own_pn3) hisR ?_
  intro p e s m args below meth c s₁ Bd hml0 hP hK
  obtain ⟨rfl, hZ, hh⟩ := hP
  have hx := Bd.exec
  have hby := Bd.bytes
  have hml : c.maxLocals = 4 := hml0
  have hlk : meth.locks = false := BodyLoose.notSynchronized Bd
  have hown : s.vm.findClass "java/util/ArrayList" = some m.cls := findClass_of_methodNamed Bd.named
  have hnm := (name_of_methodNamed Bd.named Bd.method).1
  have X0 : Stand p l e ({ frames := 3, cells := 1, slots := 10, locals := 41 } : Room) s m #[(.ref a1), (.ref a2), (.ref dca), (.int (0 : Int32))] below meth c s₁ [] 0 0 := Stand.of_body Bd
  have e0 : s₁.heap = h0 := by rw [← hh, Bd.state]; rfl
  have N0 := Fr.nil n0
  show own_Go p e below s (Q8 Z a1 a2 dca h0 n0) ({ frames := 3, cells := 1, slots := 10, locals := 41 } : Room).cells ({ frames := 3, cells := 1, slots := 10, locals := 41 } : Room).slots _
  refine own_st (B := s₁.setTop (mkF m 0 #[.val (.ref a1), .val (.ref a2), .val (.ref dca), .val (.int (0 : Int32))] [])) (fun t k => castTop (ef_8 m (a1) (a2) (dca) ((0 : Int32))) k) ?_
  refine own_st (B := s₁.setTop (mkF m 1 #[.val (.ref a1), .val (.ref a2), .val (.ref dca), .val (.int (0 : Int32))] [(.int (0 : Int32))])) (fun t k => XS.iloadN X0.here hx rfl (hb hby d8_0) rfl k) ?_
  refine own_st (B := s₁.setTop (mkF m 2 #[.val (.ref a1), .val (.ref a2), .val (.ref dca), .val (.int (0 : Int32))] [(.ref dca), (.int (0 : Int32))])) (fun t k => XS.aloadN X0.here hx rfl (hb hby d8_1) rfl rfl k) ?_
  refine own_st (B := s₁.setTop (mkF m 3 #[.val (.ref a1), .val (.ref a2), .val (.ref dca), .val (.int (0 : Int32))] [(.int (0 : Int32)), (.int (0 : Int32))])) (fun t k => own_len X0 hx hZ e0 F4 (g := (mkF m 2 #[.val (.ref a1), .val (.ref a2), .val (.ref dca), .val (.int (0 : Int32))] [(.ref dca), (.int (0 : Int32))])) (n := (0 : Int32)) (by decide) rfl rfl (hb hby d8_2) k) ?_
  refine own_st (B := s₁.setTop (mkF m 6 #[.val (.ref a1), .val (.ref a2), .val (.ref dca), .val (.int (0 : Int32))] [])) (fun t k => XS.icmpNo X0.here hx rfl (hb hby d8_3) rfl (by decide) k) ?_
  refine own_st (B := s₁.setTop (mkF m 7 #[.val (.ref a1), .val (.ref a2), .val (.ref dca), .val (.int (0 : Int32))] [(.ref a1)])) (fun t k => XS.aloadN X0.here hx rfl (hb hby d8_6) rfl rfl k) ?_
  obtain ⟨cq1, q1a, q1b⟩ := F0.cell
  obtain ⟨_, _, ⟨T1, L1, k1, j1⟩, -, X1, ⟨Lc1, hQ1, l1, y1_, z1_⟩, st1⟩ := X0.privateBack hx (y := (⟨"java/util/ArrayList", "grow", "()[Ljava/lang/Object;"⟩ : MethodName)) hown (mvT hZ (w_53 hw)) (mvT hZ (w_54 hw)) (mvT hZ (w_56 hw)) (Cond.privateMethod_at (mvP hZ (w_55 hw) (args := #[]))) (mvT hZ (w_57 hw)) (by decide) (backOf (W := 0) (rm9 l Z a0 hw [] a1 dca h0 n0 Z0 F0 F1 F2 F3 F4 F5 ga) hZ (w_57 hw) (w_8 hw) (by decide) (by decide)) (g := (mkF m 7 #[.val (.ref a1), .val (.ref a2), .val (.ref dca), .val (.int (0 : Int32))] [(.ref a1)])) rfl (by rw [hml]; rfl) (Steps.refl _) (a := a1) (by rw [e0]; exact q1a) q1b (argsL := []) (rest := []) (lenOf own_pd9 rfl) rfl (by show 2 * 0 + _ ≤ _; exact Nat.le_of_eq rfl) (hb hby d8_7) (fun _ _ => ⟨rfl, e0, (by decide : 0 + 1 ≤ _), (by decide : 0 + 10 ≤ _)⟩)
  dsimp only [Pt.U, Pt.locs, Pt.cells, Pt.slots] at X1 l1 y1_ z1_ st1 hQ1
  subst l1 y1_ z1_
  obtain ⟨b_1, rfl, N1q, K1, u1_b, y1_b, p1_0, p1_1, p1_2, p1_3, p1_4⟩ := hQ1
  have N1 := Fr.app N0 N1q
  have q1_b_a1 : a1 ≠ b_1 := Nat.ne_of_lt (Nat.lt_of_lt_of_le F0.lt y1_b)
  have q1_b_dca : dca ≠ b_1 := Nat.ne_of_lt (Nat.lt_of_lt_of_le F4.lt y1_b)
  have q1_b_a2 : a2 ≠ b_1 := Nat.ne_of_lt (Nat.lt_of_lt_of_le F6.lt y1_b)
  have y2 : h0.size ≤ b_1 := Nat.le_trans (Keep.refl h0 [a1]).1 y1_b
  have z3 : n0 ≤ T1.heap.size := Nat.le_trans Z0 K1.1
  have kp3 : Keep h0 T1.heap [a1] := (Keep.refl h0 [a1]).trans K1 (allS (Or.inl (List.mem_of_getElem? (i := 0) rfl)) all0)
  refine own_ss (B := T1.setTop (mkF m 10 #[.val (.ref a1), .val (.ref a2), .val (.ref dca), .val (.int (0 : Int32))] [(.ref b_1)])) st1 ?_
  refine own_st (B := T1.setTop (mkF m 11 #[.val (.ref a1), .val (.ref a2), .val (.ref b_1), .val (.int (0 : Int32))] [])) (fun t k => XS.astoreN X1.here hx rfl (hb hby d8_10) rfl rfl (l' := #[.val (.ref a1), .val (.ref a2), .val (.ref b_1), .val (.int (0 : Int32))]) rfl k) ?_
  refine own_st (B := T1.setTop (mkF m 12 #[.val (.ref a1), .val (.ref a2), .val (.ref b_1), .val (.int (0 : Int32))] [(.ref b_1)])) (fun t k => XS.aloadN X1.here hx rfl (hb hby d8_11) rfl rfl k) ?_
  refine own_st (B := T1.setTop (mkF m 13 #[.val (.ref a1), .val (.ref a2), .val (.ref b_1), .val (.int (0 : Int32))] [(.int (0 : Int32)), (.ref b_1)])) (fun t k => XS.iloadN X1.here hx rfl (hb hby d8_12) rfl k) ?_
  refine own_st (B := T1.setTop (mkF m 14 #[.val (.ref a1), .val (.ref a2), .val (.ref b_1), .val (.int (0 : Int32))] [(.ref a2), (.int (0 : Int32)), (.ref b_1)])) (fun t k => XS.aloadN X1.here hx rfl (hb hby d8_13) rfl rfl k) ?_
  have f4 : Exa Z T1.heap a2 "java/lang/Integer" := (F6.keep K1)
  obtain ⟨T5, h5, X5, e5, W5, A5, st5⟩ := own_stR X1 hx hZ rfl p1_2 p1_4 (Ins.of_exa f4 (w_66 hw)) (j := (0 : Int32)) (i := 0) (by decide) (by decide) (g := (mkF m 14 #[.val (.ref a1), .val (.ref a2), .val (.ref b_1), .val (.int (0 : Int32))] [(.ref a2), (.int (0 : Int32)), (.ref b_1)])) rfl rfl (hb hby d8_14)
  have f5_ : own_A Z h5 b_1 (.object "java/lang/Object") ((List.replicate 10 .null).set 0 (.ref a2)) := A5
  have z6 : n0 ≤ h5.size := Nat.le_trans z3 (Keep.of_wr W5).1
  have kp6 : Keep h0 h5 [a1] := kp3.wr W5 (Or.inr y2)
  have n7 := Fr.snoc X5 N1 u1_b
  refine own_st (B := T5.setTop (mkF m 15 #[.val (.ref a1), .val (.ref a2), .val (.ref b_1), .val (.int (0 : Int32))] [])) (fun t k => st5 t k) ?_
  refine own_st (B := T5.setTop (mkF m 16 #[.val (.ref a1), .val (.ref a2), .val (.ref b_1), .val (.int (0 : Int32))] [(.ref a1)])) (fun t k => XS.aloadN X5.here hx rfl (hb hby d8_15) rfl rfl k) ?_
  refine own_st (B := T5.setTop (mkF m 17 #[.val (.ref a1), .val (.ref a2), .val (.ref b_1), .val (.int (0 : Int32))] [(.int (0 : Int32)), (.ref a1)])) (fun t k => XS.iloadN X5.here hx rfl (hb hby d8_16) rfl k) ?_
  refine own_st (B := T5.setTop (mkF m 18 #[.val (.ref a1), .val (.ref a2), .val (.ref b_1), .val (.int (0 : Int32))] [(.int (1 : Int32)), (.int (0 : Int32)), (.ref a1)])) (fun t k => XS.iconst X5.here hx rfl (hb hby d8_17) k) ?_
  refine own_st (B := T5.setTop (mkF m 19 #[.val (.ref a1), .val (.ref a2), .val (.ref b_1), .val (.int (0 : Int32))] [(.int ((0 : Int32) + (1 : Int32))), (.ref a1)])) (fun t k => XS.iadd X5.here hx rfl (hb hby d8_18) rfl k) ?_
  have f8 : Exa Z h5 a1 "java/util/ArrayList" := (p1_0.wr W5)
  have f9 : Fld Z h5 a1 "java/util/ArrayList" "size" "I" (.int (0 : Int32)) := (p1_1.other W5 (Or.inl q1_b_a1))
  obtain ⟨T10, h10, X10, e10, W10, st10⟩ := putF X5 hx hZ hown (host := "") (Or.inl (w_46 hw)) Via.refl e5 f9 f8 (Or.inl (w_47 hw)) (w_7 hw) (ty := .int) (by decide) rfl rfl (g := (mkF m 19 #[.val (.ref a1), .val (.ref a2), .val (.ref b_1), .val (.int (0 : Int32))] [(.int ((0 : Int32) + (1 : Int32))), (.ref a1)])) rfl rfl (hb hby d8_19)
  have f10_ : Fld Z h10 a1 "java/util/ArrayList" "size" "I" (.int ((0 : Int32) + (1 : Int32))) := f9.same W10
  have z11 : n0 ≤ h10.size := Nat.le_trans z6 (Keep.of_wr W10).1
  have kp11 : Keep h0 h10 [a1] := kp6.wr W10 (Or.inl (List.mem_of_getElem? (i := 0) rfl))
  have n12 := Fr.snoc X10 n7 ga
  refine own_st (B := T10.setTop (mkF m 22 #[.val (.ref a1), .val (.ref a2), .val (.ref b_1), .val (.int (0 : Int32))] [])) (fun t k => st10 t k) ?_
  refine own_retV X10 hx hlk Bd.returns (hb hby d8_22) (by decide) (by decide) ?_
  show Q8 Z a1 a2 dca h0 n0 _ T10.heap _
  rw [e10]
  have f13 : Exa Z h10 a1 "java/util/ArrayList" := (f8.wr W10)
  exact ⟨rfl, n12, kp11, f13⟩
theorem own_pd10 : parseMethodDescriptor "(Ljava/lang/Object;[Ljava/lang/Object;I)V" = some ⟨[(.object "java/lang/Object"), (.array (.object "java/lang/Object")), .int], none⟩ := by decide +kernel
theorem d7_0 : decode jdk_38_method_25_code 0 = .ok (.aload_n 0, 1) := by decide +kernel
theorem d7_1 : decode jdk_38_method_25_code 1 = .ok (.dup, 1) := by decide +kernel
theorem d7_2 : decode jdk_38_method_25_code 2 = .ok (.getfield 63, 3) := by decide +kernel
theorem d7_5 : decode jdk_38_method_25_code 5 = .ok (.iconst 1, 1) := by decide +kernel
theorem d7_6 : decode jdk_38_method_25_code 6 = .ok (.iadd, 1) := by decide +kernel
theorem d7_7 : decode jdk_38_method_25_code 7 = .ok (.putfield 63, 3) := by decide +kernel
theorem d7_10 : decode jdk_38_method_25_code 10 = .ok (.aload_n 0, 1) := by decide +kernel
theorem d7_11 : decode jdk_38_method_25_code 11 = .ok (.aload_n 1, 1) := by decide +kernel
theorem d7_12 : decode jdk_38_method_25_code 12 = .ok (.aload_n 0, 1) := by decide +kernel
theorem d7_13 : decode jdk_38_method_25_code 13 = .ok (.getfield 9, 3) := by decide +kernel
theorem d7_16 : decode jdk_38_method_25_code 16 = .ok (.aload_n 0, 1) := by decide +kernel
theorem d7_17 : decode jdk_38_method_25_code 17 = .ok (.getfield 48, 3) := by decide +kernel
theorem d7_20 : decode jdk_38_method_25_code 20 = .ok (.invokevirtual 131, 3) := by decide +kernel
theorem d7_23 : decode jdk_38_method_25_code 23 = .ok (.iconst 1, 1) := by decide +kernel
theorem d7_24 : decode jdk_38_method_25_code 24 = .ok (.ireturn, 1) := by decide +kernel
theorem ef_7 (m : MethodId) (x0 : Addr) (x1 : Addr) : entryFrame m #[(.ref x0), (.ref x1)] 2 = mkF m 0 #[.val (.ref x0), .val (.ref x1)] [] := by first | (simp [entryFrame, mkF, argsToLocals, Value.category]; done) | rfl
def Q7 (Z : State) (a1 : Addr) (a2 : Addr) (dca : Addr) (h0 : Heap) (n0 : Nat) (v : Option Value) (h : Heap) (L : List Loc) : Prop := v = some (.int (1 : Int32)) ∧ Fr n0 L ∧ Keep h0 h [a1] ∧ Exa Z h a1 "java/util/ArrayList"
set_option maxHeartbeats 40000000 in
theorem rm7 (l : Launch) (Z : State) (a0 : Array Value) (hw : ∀ d ∈ tables_1, d.before a0 Z = true) (ws : List Jvm.Cond) (a1 : Addr) (a2 : Addr) (dca : Addr) (h0 : Heap) (n0 : Nat) (Z0 : n0 ≤ h0.size) (F0 : Exa Z h0 a1 "java/util/ArrayList") (F1 : Fld Z h0 a1 "java/util/AbstractList" "modCount" "I" (.int (0 : Int32))) (F2 : Fld Z h0 a1 "java/util/ArrayList" "elementData" "[Ljava/lang/Object;" (.ref dca)) (F3 : Fld Z h0 a1 "java/util/ArrayList" "size" "I" (.int (0 : Int32))) (F4 : Sta Z h0 "java/util/ArrayList" "DEFAULTCAPACITY_EMPTY_ELEMENTDATA" "[Ljava/lang/Object;" (.ref dca)) (F5 : own_A Z h0 dca (.object "java/lang/Object") ([] : List Value)) (F6 : Exa Z h0 dca "[Ljava/lang/Object;") (F7 : Exa Z h0 a2 "java/lang/Integer") (ga : n0 ≤ a1) :
    MetFree l (⟨"java/util/ArrayList", "add", "(Ljava/lang/Object;)Z"⟩ : MethodName) (head1 (Jvm.Cond.code (⟨"java/util/ArrayList", "add", "(Ljava/lang/Object;)Z"⟩ : MethodName) jdk_38_method_25_code 2 (some .boolean) :: ws) ({ frames := 4, cells := 1, slots := 10, locals := 56 } : Room)) (fun a U => a = #[(.ref a1), (.ref a2)] ∧ Z.Warmed39 U.vm ∧ U.heap = h0) (fun _ _ _ _ _ => True) (fun _ U o U' => ∃ v L, o = .returned v ∧ Q7 Z a1 a2 dca h0 n0 v U'.heap L ∧ FrameEnd U o U' L ({ frames := 4, cells := 1, slots := 10, locals := 56 } : Room).cells ({ frames := 4, cells := 1, slots := 10, locals := 56 } : Room).slots) := by
  refine MetFree.of_bodySF (plainFor_of_name own_pn3) hisR ?_
  intro p e s m args below meth c s₁ Bd hml0 hP hK
  obtain ⟨rfl, hZ, hh⟩ := hP
  have hx := Bd.exec
  have hby := Bd.bytes
  have hml : c.maxLocals = 2 := hml0
  have hlk : meth.locks = false := BodyLoose.notSynchronized Bd
  have hown : s.vm.findClass "java/util/ArrayList" = some m.cls := findClass_of_methodNamed Bd.named
  have hnm := (name_of_methodNamed Bd.named Bd.method).1
  have X0 : Stand p l e ({ frames := 4, cells := 1, slots := 10, locals := 56 } : Room) s m #[(.ref a1), (.ref a2)] below meth c s₁ [] 0 0 := Stand.of_body Bd
  have e0 : s₁.heap = h0 := by rw [← hh, Bd.state]; rfl
  have N0 := Fr.nil n0
  show own_Go p e below s (Q7 Z a1 a2 dca h0 n0) ({ frames := 4, cells := 1, slots := 10, locals := 56 } : Room).cells ({ frames := 4, cells := 1, slots := 10, locals := 56 } : Room).slots _
  refine own_st (B := s₁.setTop (mkF m 0 #[.val (.ref a1), .val (.ref a2)] [])) (fun t k => castTop (ef_7 m (a1) (a2)) k) ?_
  refine own_st (B := s₁.setTop (mkF m 1 #[.val (.ref a1), .val (.ref a2)] [(.ref a1)])) (fun t k => XS.aloadN X0.here hx rfl (hb hby d7_0) rfl rfl k) ?_
  refine own_st (B := s₁.setTop (mkF m 2 #[.val (.ref a1), .val (.ref a2)] [(.ref a1), (.ref a1)])) (fun t k => XS.dup X0.here hx rfl (hb hby d7_1) rfl rfl k) ?_
  obtain ⟨T1, X1, e1, st1⟩ := getF X0 hx hZ hown (host := "") (Or.inl (w_44 hw)) (Via.of (w_45 hw)) e0 F1 (g := (mkF m 2 #[.val (.ref a1), .val (.ref a2)] [(.ref a1), (.ref a1)])) rfl rfl (hb hby d7_2)
  refine own_st (B := T1.setTop (mkF m 5 #[.val (.ref a1), .val (.ref a2)] [(.int (0 : Int32)), (.ref a1)])) (fun t k => st1 t k) ?_
  refine own_st (B := T1.setTop (mkF m 6 #[.val (.ref a1), .val (.ref a2)] [(.int (1 : Int32)), (.int (0 : Int32)), (.ref a1)])) (fun t k => XS.iconst X1.here hx rfl (hb hby d7_5) k) ?_
  refine own_st (B := T1.setTop (mkF m 7 #[.val (.ref a1), .val (.ref a2)] [(.int ((0 : Int32) + (1 : Int32))), (.ref a1)])) (fun t k => XS.iadd X1.here hx rfl (hb hby d7_6) rfl k) ?_
  obtain ⟨T2, h2, X2, e2, W2, st2⟩ := putF X1 hx hZ hown (host := "") (Or.inl (w_44 hw)) (Via.of (w_45 hw)) e1 F1 F0 (Or.inl (w_28 hw)) (w_7 hw) (ty := .int) (by decide) rfl rfl (g := (mkF m 7 #[.val (.ref a1), .val (.ref a2)] [(.int ((0 : Int32) + (1 : Int32))), (.ref a1)])) rfl rfl (hb hby d7_7)
  have f2_ : Fld Z h2 a1 "java/util/AbstractList" "modCount" "I" (.int ((0 : Int32) + (1 : Int32))) := F1.same W2
  have z3 : n0 ≤ h2.size := Nat.le_trans Z0 (Keep.of_wr W2).1
  have kp3 : Keep h0 h2 [a1] := (Keep.refl h0 [a1]).wr W2 (Or.inl (List.mem_of_getElem? (i := 0) rfl))
  have n4 := Fr.snoc X2 N0 ga
  refine own_st (B := T2.setTop (mkF m 10 #[.val (.ref a1), .val (.ref a2)] [])) (fun t k => st2 t k) ?_
  refine own_st (B := T2.setTop (mkF m 11 #[.val (.ref a1), .val (.ref a2)] [(.ref a1)])) (fun t k => XS.aloadN X2.here hx rfl (hb hby d7_10) rfl rfl k) ?_
  refine own_st (B := T2.setTop (mkF m 12 #[.val (.ref a1), .val (.ref a2)] [(.ref a2), (.ref a1)])) (fun t k => XS.aloadN X2.here hx rfl (hb hby d7_11) rfl rfl k) ?_
  refine own_st (B := T2.setTop (mkF m 13 #[.val (.ref a1), .val (.ref a2)] [(.ref a1), (.ref a2), (.ref a1)])) (fun t k => XS.aloadN X2.here hx rfl (hb hby d7_12) rfl rfl k) ?_
  have f5 : Fld Z h2 a1 "java/util/ArrayList" "elementData" "[Ljava/lang/Object;" (.ref dca) := (F2.other W2 (Or.inr (slot_ne (Or.inl (w_31 hw)) (Or.inl (w_28 hw)) (by decide) (t := (.array (.object "java/lang/Object"))) (t' := .int) (by decide) (by decide))))
  obtain ⟨T6, X6, e6, st6⟩ := getF X2 hx hZ hown (host := "") (Or.inl (w_30 hw)) Via.refl e2 f5 (g := (mkF m 13 #[.val (.ref a1), .val (.ref a2)] [(.ref a1), (.ref a2), (.ref a1)])) rfl rfl (hb hby d7_13)
  refine own_st (B := T6.setTop (mkF m 16 #[.val (.ref a1), .val (.ref a2)] [(.ref dca), (.ref a2), (.ref a1)])) (fun t k => st6 t k) ?_
  refine own_st (B := T6.setTop (mkF m 17 #[.val (.ref a1), .val (.ref a2)] [(.ref a1), (.ref dca), (.ref a2), (.ref a1)])) (fun t k => XS.aloadN X6.here hx rfl (hb hby d7_16) rfl rfl k) ?_
  have f7 : Fld Z h2 a1 "java/util/ArrayList" "size" "I" (.int (0 : Int32)) := (F3.other W2 (Or.inr (slot_ne (Or.inl (w_47 hw)) (Or.inl (w_28 hw)) (by decide) (t := .int) (t' := .int) (by decide) (by decide))))
  obtain ⟨T8, X8, e8, st8⟩ := getF X6 hx hZ hown (host := "") (Or.inl (w_46 hw)) Via.refl e6 f7 (g := (mkF m 17 #[.val (.ref a1), .val (.ref a2)] [(.ref a1), (.ref dca), (.ref a2), (.ref a1)])) rfl rfl (hb hby d7_17)
  refine own_st (B := T8.setTop (mkF m 20 #[.val (.ref a1), .val (.ref a2)] [(.int (0 : Int32)), (.ref dca), (.ref a2), (.ref a1)])) (fun t k => st8 t k) ?_
  have f9 : Exa Z h2 a1 "java/util/ArrayList" := (F0.wr W2)
  have f10 : Sta Z h2 "java/util/ArrayList" "DEFAULTCAPACITY_EMPTY_ELEMENTDATA" "[Ljava/lang/Object;" (.ref dca) := (F4.wr W2)
  have f11 : Exa Z h2 dca "[Ljava/lang/Object;" := (F6.wr W2)
  have f12 : own_A Z h2 dca (.object "java/lang/Object") ([] : List Value) := (F5.other W2 (ne_exa f11 f9 (by decide)))
  have f13 : Exa Z h2 a2 "java/lang/Integer" := (F7.wr W2)
  obtain ⟨cq14, q14a, q14b⟩ := f9.cell
  obtain ⟨_, _, ⟨T14, L14, k14, j14⟩, -, X14, ⟨Lc14, hQ14, l14, y14_, z14_⟩, st14⟩ := X8.privateBack hx (y := (⟨"java/util/ArrayList", "add", "(Ljava/lang/Object;[Ljava/lang/Object;I)V"⟩ : MethodName)) hown (mvT hZ (w_48 hw)) (mvT hZ (w_49 hw)) (mvT hZ (w_51 hw)) (Cond.privateMethod_at (mvP hZ (w_50 hw) (args := #[]))) (mvT hZ (w_52 hw)) (by decide) (backOf (W := 0) (rm8 l Z a0 hw [] a1 a2 dca h2 n0 z3 f9 f5 f7 f10 f12 f11 f13 ga) hZ (w_52 hw) (w_8 hw) (by decide) (by decide)) (g := (mkF m 20 #[.val (.ref a1), .val (.ref a2)] [(.int (0 : Int32)), (.ref dca), (.ref a2), (.ref a1)])) rfl (by rw [hml]; rfl) (Steps.refl _) (a := a1) (by rw [e8]; exact q14a) q14b (argsL := [(.ref a2), (.ref dca), (.int (0 : Int32))]) (rest := []) (lenOf own_pd10 rfl) rfl (by show 2 * 0 + _ ≤ _; exact Nat.le_of_eq rfl) (hb hby d7_20) (fun _ _ => ⟨rfl, e8, (by decide : 0 + 1 ≤ _), (by decide : 0 + 10 ≤ _)⟩)
  dsimp only [Pt.U, Pt.locs, Pt.cells, Pt.slots] at X14 l14 y14_ z14_ st14 hQ14
  subst l14 y14_ z14_
  obtain ⟨rfl, N14q, K14, p14_0⟩ := hQ14
  have N14 := Fr.app n4 N14q
  have z15 : n0 ≤ T14.heap.size := Nat.le_trans z3 K14.1
  have kp15 : Keep h0 T14.heap [a1] := kp3.trans K14 (allS (Or.inl (List.mem_of_getElem? (i := 0) rfl)) all0)
  refine own_ss (B := T14.setTop (mkF m 23 #[.val (.ref a1), .val (.ref a2)] [])) st14 ?_
  refine own_st (B := T14.setTop (mkF m 24 #[.val (.ref a1), .val (.ref a2)] [(.int (1 : Int32))])) (fun t k => XS.iconst X14.here hx rfl (hb hby d7_23) k) ?_
  refine own_retN X14 hx hlk (t := .boolean) Bd.returns (by simp) (z' := (1 : Int32)) rfl (hb hby d7_24) (by decide) (by decide) ?_
  show Q7 Z a1 a2 dca h0 n0 _ T14.heap _
  exact ⟨rfl, N14, kp15, p14_0⟩
theorem own_pn6 : plainName "java/lang/Record" = true := by first | (simp [plainName, overriddenIn]; done) | decide +kernel
theorem d12_0 : decode jdk_30_method_1_code 0 = .ok (.aload_n 0, 1) := by decide +kernel
theorem d12_1 : decode jdk_30_method_1_code 1 = .ok (.invokespecial 1, 3) := by decide +kernel
theorem d12_4 : decode jdk_30_method_1_code 4 = .ok (.return_, 1) := by decide +kernel
theorem ef_12 (m : MethodId) (x0 : Addr) : entryFrame m #[(.ref x0)] 1 = mkF m 0 #[.val (.ref x0)] [] := by first | (simp [entryFrame, mkF, argsToLocals, Value.category]; done) | rfl
def Q12 (Z : State) (a1 : Addr) (h0 : Heap) (n0 : Nat) (v : Option Value) (h : Heap) (L : List Loc) : Prop := v = none ∧ Fr n0 L ∧ h = h0
set_option maxHeartbeats 40000000 in
theorem rm12 (l : Launch) (Z : State) (a0 : Array Value) (hw : ∀ d ∈ tables_1, d.before a0 Z = true) (ws : List Jvm.Cond) (a1 : Addr) (h0 : Heap) (n0 : Nat) (Z0 : n0 ≤ h0.size) :
    MetFree l (⟨"java/lang/Record", "<init>", "()V"⟩ : MethodName) (head1 (Jvm.Cond.code (⟨"java/lang/Record", "<init>", "()V"⟩ : MethodName) jdk_30_method_1_code 1 none :: ws) ({ frames := 1, cells := 0, slots := 0, locals := 12 } : Room)) (fun a U => a = #[(.ref a1)] ∧ Z.Warmed39 U.vm ∧ U.heap = h0) (fun _ _ _ _ _ => True) (fun _ U o U' => ∃ v L, o = .returned v ∧ Q12 Z a1 h0 n0 v U'.heap L ∧ FrameEnd U o U' L ({ frames := 1, cells := 0, slots := 0, locals := 12 } : Room).cells ({ frames := 1, cells := 0, slots := 0, locals := 12 } : Room).slots) := by
  refine MetFree.of_bodySF (plainFor_of_name own_pn6) hisR ?_
  intro p e s m args below meth c s₁ Bd hml0 hP hK
  obtain ⟨rfl, hZ, hh⟩ := hP
  have hx := Bd.exec
  have hby := Bd.bytes
  have hml : c.maxLocals = 1 := hml0
  have hlk : meth.locks = false := BodyLoose.notSynchronized Bd
  have hown : s.vm.findClass "java/lang/Record" = some m.cls := findClass_of_methodNamed Bd.named
  have hnm := (name_of_methodNamed Bd.named Bd.method).1
  have X0 : Stand p l e ({ frames := 1, cells := 0, slots := 0, locals := 12 } : Room) s m #[(.ref a1)] below meth c s₁ [] 0 0 := Stand.of_body Bd
  have e0 : s₁.heap = h0 := by rw [← hh, Bd.state]; rfl
  have N0 := Fr.nil n0
  show own_Go p e below s (Q12 Z a1 h0 n0) ({ frames := 1, cells := 0, slots := 0, locals := 12 } : Room).cells ({ frames := 1, cells := 0, slots := 0, locals := 12 } : Room).slots _
  refine own_st (B := s₁.setTop (mkF m 0 #[.val (.ref a1)] [])) (fun t k => castTop (ef_12 m (a1)) k) ?_
  refine own_st (B := s₁.setTop (mkF m 1 #[.val (.ref a1)] [(.ref a1)])) (fun t k => XS.aloadN X0.here hx rfl (hb hby d12_0) rfl rfl k) ?_
  obtain ⟨T1, X1, e1, st1⟩ := initO X0 hx hZ hown (w_78 hw) (w_25 hw) (w_26 hw) e0 (g := (mkF m 1 #[.val (.ref a1)] [(.ref a1)])) rfl (by rw [hml]; rfl) rfl (hb hby d12_1) (by decide) (W := 0) (by show 2 * 0 + _ ≤ _; exact Nat.le_of_eq rfl) (by decide)
  refine own_st (B := T1.setTop (mkF m 4 #[.val (.ref a1)] [])) (fun t k => st1 t k) ?_
  refine own_retV X1 hx hlk Bd.returns (hb hby d12_4) (by decide) (by decide) ?_
  show Q12 Z a1 h0 n0 _ T1.heap _
  rw [e1]
  exact ⟨rfl, N0, rfl⟩
theorem own_pn7 : plainName "com/example/stockwright/stockwright/model/PageRequest" = true := by first | (simp [plainName, overriddenIn]; done) | decide +kernel
theorem d11_0 : decode prog_9_method_1_code 0 = .ok (.aload_n 0, 1) := by decide +kernel
theorem d11_1 : decode prog_9_method_1_code 1 = .ok (.invokespecial 1, 3) := by decide +kernel
theorem d11_4 : decode prog_9_method_1_code 4 = .ok (.aload_n 0, 1) := by decide +kernel
theorem d11_5 : decode prog_9_method_1_code 5 = .ok (.iload_n 1, 1) := by decide +kernel
theorem d11_6 : decode prog_9_method_1_code 6 = .ok (.putfield 7, 3) := by decide +kernel
theorem d11_9 : decode prog_9_method_1_code 9 = .ok (.aload_n 0, 1) := by decide +kernel
theorem d11_10 : decode prog_9_method_1_code 10 = .ok (.iload_n 2, 1) := by decide +kernel
theorem d11_11 : decode prog_9_method_1_code 11 = .ok (.putfield 13, 3) := by decide +kernel
theorem d11_14 : decode prog_9_method_1_code 14 = .ok (.return_, 1) := by decide +kernel
theorem ef_11 (m : MethodId) (x0 : Addr) (x1 : Int32) (x2 : Int32) : entryFrame m #[(.ref x0), (.int x1), (.int x2)] 3 = mkF m 0 #[.val (.ref x0), .val (.int x1), .val (.int x2)] [] := by first | (simp [entryFrame, mkF, argsToLocals, Value.category]; done) | rfl
def Q11 (Z : State) (a1 : Addr) (p1 : Int32) (p2 : Int32) (h0 : Heap) (n0 : Nat) (v : Option Value) (h : Heap) (L : List Loc) : Prop := v = none ∧ Fr n0 L ∧ Keep h0 h [a1] ∧ Exa Z h a1 "com/example/stockwright/stockwright/model/PageRequest" ∧ Fld Z h a1 "com/example/stockwright/stockwright/model/PageRequest" "page" "I" (.int p1) ∧ Fld Z h a1 "com/example/stockwright/stockwright/model/PageRequest" "pageSize" "I" (.int p2)
set_option maxHeartbeats 40000000 in
theorem rm11 (l : Launch) (Z : State) (a0 : Array Value) (hw : ∀ d ∈ tables_1, d.before a0 Z = true) (ws : List Jvm.Cond) (a1 : Addr) (p1 : Int32) (p2 : Int32) (h0 : Heap) (n0 : Nat) (Z0 : n0 ≤ h0.size) (F0 : Exa Z h0 a1 "com/example/stockwright/stockwright/model/PageRequest") (F1 : Fld Z h0 a1 "com/example/stockwright/stockwright/model/PageRequest" "page" "I" (.int (0 : Int32))) (F2 : Fld Z h0 a1 "com/example/stockwright/stockwright/model/PageRequest" "pageSize" "I" (.int (0 : Int32))) (ga : n0 ≤ a1) :
    MetFree l (⟨"com/example/stockwright/stockwright/model/PageRequest", "<init>", "(II)V"⟩ : MethodName) (head1 (Jvm.Cond.code (⟨"com/example/stockwright/stockwright/model/PageRequest", "<init>", "(II)V"⟩ : MethodName) prog_9_method_1_code 3 none :: ws) ({ frames := 2, cells := 0, slots := 0, locals := 24 } : Room)) (fun a U => a = #[(.ref a1), (.int p1), (.int p2)] ∧ Z.Warmed39 U.vm ∧ U.heap = h0) (fun _ _ _ _ _ => True) (fun _ U o U' => ∃ v L, o = .returned v ∧ Q11 Z a1 p1 p2 h0 n0 v U'.heap L ∧ FrameEnd U o U' L ({ frames := 2, cells := 0, slots := 0, locals := 24 } : Room).cells ({ frames := 2, cells := 0, slots := 0, locals := 24 } : Room).slots) := by
  refine MetFree.of_bodySF (plainFor_of_name own_pn7) hisR ?_
  intro p e s m args below meth c s₁ Bd hml0 hP hK
  obtain ⟨rfl, hZ, hh⟩ := hP
  have hx := Bd.exec
  have hby := Bd.bytes
  have hml : c.maxLocals = 3 := hml0
  have hlk : meth.locks = false := BodyLoose.notSynchronized Bd
  have hown : s.vm.findClass "com/example/stockwright/stockwright/model/PageRequest" = some m.cls := findClass_of_methodNamed Bd.named
  have hnm := (name_of_methodNamed Bd.named Bd.method).1
  have X0 : Stand p l e ({ frames := 2, cells := 0, slots := 0, locals := 24 } : Room) s m #[(.ref a1), (.int p1), (.int p2)] below meth c s₁ [] 0 0 := Stand.of_body Bd
  have e0 : s₁.heap = h0 := by rw [← hh, Bd.state]; rfl
  have N0 := Fr.nil n0
  show own_Go p e below s (Q11 Z a1 p1 p2 h0 n0) ({ frames := 2, cells := 0, slots := 0, locals := 24 } : Room).cells ({ frames := 2, cells := 0, slots := 0, locals := 24 } : Room).slots _
  refine own_st (B := s₁.setTop (mkF m 0 #[.val (.ref a1), .val (.int p1), .val (.int p2)] [])) (fun t k => castTop (ef_11 m (a1) (p1) (p2)) k) ?_
  refine own_st (B := s₁.setTop (mkF m 1 #[.val (.ref a1), .val (.int p1), .val (.int p2)] [(.ref a1)])) (fun t k => XS.aloadN X0.here hx rfl (hb hby d11_0) rfl rfl k) ?_
  obtain ⟨_, _, ⟨T1, L1, k1, j1⟩, -, X1, ⟨Lc1, hQ1, l1, y1_, z1_⟩, st1⟩ := X0.specialBack hx (y := (⟨"java/lang/Record", "<init>", "()V"⟩ : MethodName)) rfl hown (mvT hZ (w_73 hw)) (mvT hZ (w_74 hw)) (mvT hZ (w_77 hw)) (by decide) (backOf (W := 0) (rm12 l Z a0 hw [] a1 h0 n0 Z0 ) hZ (w_77 hw) (w_76 hw) (by decide) (by decide)) (g := (mkF m 1 #[.val (.ref a1), .val (.int p1), .val (.int p2)] [(.ref a1)])) rfl (by rw [hml]; rfl) (Steps.refl _) (a := a1) (argsL := []) (rest := []) (lenOf own_pd1 rfl) rfl (by show 2 * 0 + _ ≤ _; exact Nat.le_of_eq rfl) (hb hby d11_1) (fun _ _ => ⟨rfl, e0, (by decide : 0 + 0 ≤ _), (by decide : 0 + 0 ≤ _)⟩)
  dsimp only [Pt.U, Pt.locs, Pt.cells, Pt.slots] at X1 l1 y1_ z1_ st1 hQ1
  subst l1 y1_ z1_
  obtain ⟨rfl, N1q, e1q⟩ := hQ1
  have N1 := Fr.app N0 N1q
  refine own_ss (B := T1.setTop (mkF m 4 #[.val (.ref a1), .val (.int p1), .val (.int p2)] [])) st1 ?_
  refine own_st (B := T1.setTop (mkF m 5 #[.val (.ref a1), .val (.int p1), .val (.int p2)] [(.ref a1)])) (fun t k => XS.aloadN X1.here hx rfl (hb hby d11_4) rfl rfl k) ?_
  refine own_st (B := T1.setTop (mkF m 6 #[.val (.ref a1), .val (.int p1), .val (.int p2)] [(.int p1), (.ref a1)])) (fun t k => XS.iloadN X1.here hx rfl (hb hby d11_5) rfl k) ?_
  obtain ⟨T2, h2, X2, e2, W2, st2⟩ := putF X1 hx hZ hown (host := "") (Or.inl (w_79 hw)) Via.refl e1q F1 F0 (Or.inr ⟨(w_80 hw), rfl, hnm⟩) (w_68 hw) (ty := .int) (by decide) rfl rfl (g := (mkF m 6 #[.val (.ref a1), .val (.int p1), .val (.int p2)] [(.int p1), (.ref a1)])) rfl rfl (hb hby d11_6)
  have f2_ : Fld Z h2 a1 "com/example/stockwright/stockwright/model/PageRequest" "page" "I" (.int p1) := F1.same W2
  have z3 : n0 ≤ h2.size := Nat.le_trans Z0 (Keep.of_wr W2).1
  have kp3 : Keep h0 h2 [a1] := (Keep.refl h0 [a1]).wr W2 (Or.inl (List.mem_of_getElem? (i := 0) rfl))
  have n4 := Fr.snoc X2 N1 ga
  refine own_st (B := T2.setTop (mkF m 9 #[.val (.ref a1), .val (.int p1), .val (.int p2)] [])) (fun t k => st2 t k) ?_
  refine own_st (B := T2.setTop (mkF m 10 #[.val (.ref a1), .val (.int p1), .val (.int p2)] [(.ref a1)])) (fun t k => XS.aloadN X2.here hx rfl (hb hby d11_9) rfl rfl k) ?_
  refine own_st (B := T2.setTop (mkF m 11 #[.val (.ref a1), .val (.int p1), .val (.int p2)] [(.int p2), (.ref a1)])) (fun t k => XS.iloadN X2.here hx rfl (hb hby d11_10) rfl k) ?_
  have f5 : Exa Z h2 a1 "com/example/stockwright/stockwright/model/PageRequest" := (F0.wr W2)
  have f6 : Fld Z h2 a1 "com/example/stockwright/stockwright/model/PageRequest" "pageSize" "I" (.int (0 : Int32)) := (F2.other W2 (Or.inr (slot_ne (Or.inr (w_82 hw)) (Or.inr (w_80 hw)) (by decide) (t := .int) (t' := .int) (by decide) (by decide))))
  obtain ⟨T7, h7, X7, e7, W7, st7⟩ := putF X2 hx hZ hown (host := "") (Or.inl (w_81 hw)) Via.refl e2 f6 f5 (Or.inr ⟨(w_82 hw), rfl, hnm⟩) (w_68 hw) (ty := .int) (by decide) rfl rfl (g := (mkF m 11 #[.val (.ref a1), .val (.int p1), .val (.int p2)] [(.int p2), (.ref a1)])) rfl rfl (hb hby d11_11)
  have f7_ : Fld Z h7 a1 "com/example/stockwright/stockwright/model/PageRequest" "pageSize" "I" (.int p2) := f6.same W7
  have z8 : n0 ≤ h7.size := Nat.le_trans z3 (Keep.of_wr W7).1
  have kp8 : Keep h0 h7 [a1] := kp3.wr W7 (Or.inl (List.mem_of_getElem? (i := 0) rfl))
  have n9 := Fr.snoc X7 n4 ga
  refine own_st (B := T7.setTop (mkF m 14 #[.val (.ref a1), .val (.int p1), .val (.int p2)] [])) (fun t k => st7 t k) ?_
  refine own_retV X7 hx hlk Bd.returns (hb hby d11_14) (by decide) (by decide) ?_
  show Q11 Z a1 p1 p2 h0 n0 _ T7.heap _
  rw [e7]
  have f10 : Exa Z h7 a1 "com/example/stockwright/stockwright/model/PageRequest" := (f5.wr W7)
  have f11 : Fld Z h7 a1 "com/example/stockwright/stockwright/model/PageRequest" "page" "I" (.int p1) := (f2_.other W7 (Or.inr (slot_ne (Or.inr (w_80 hw)) (Or.inr (w_82 hw)) (by decide) (t := .int) (t' := .int) (by decide) (by decide))))
  exact ⟨rfl, n9, kp8, f10, f11, f7_⟩
theorem d14_0 : decode prog_9_method_7_code 0 = .ok (.aload_n 0, 1) := by decide +kernel
theorem d14_1 : decode prog_9_method_7_code 1 = .ok (.getfield 13, 3) := by decide +kernel
theorem d14_4 : decode prog_9_method_7_code 4 = .ok (.ireturn, 1) := by decide +kernel
theorem ef_14 (m : MethodId) (x0 : Addr) : entryFrame m #[(.ref x0)] 1 = mkF m 0 #[.val (.ref x0)] [] := by first | (simp [entryFrame, mkF, argsToLocals, Value.category]; done) | rfl
def Q14 (Z : State) (a1 : Addr) (p1 : Int32) (h0 : Heap) (n0 : Nat) (v : Option Value) (h : Heap) (L : List Loc) : Prop := v = some (.int p1) ∧ Fr n0 L ∧ h = h0
set_option maxHeartbeats 40000000 in
theorem rm14 (l : Launch) (Z : State) (a0 : Array Value) (hw : ∀ d ∈ tables_1, d.before a0 Z = true) (ws : List Jvm.Cond) (a1 : Addr) (p1 : Int32) (h0 : Heap) (n0 : Nat) (Z0 : n0 ≤ h0.size) (F0 : Fld Z h0 a1 "com/example/stockwright/stockwright/model/PageRequest" "pageSize" "I" (.int p1)) :
    MetFree l (⟨"com/example/stockwright/stockwright/model/PageRequest", "pageSize", "()I"⟩ : MethodName) (head1 (Jvm.Cond.code (⟨"com/example/stockwright/stockwright/model/PageRequest", "pageSize", "()I"⟩ : MethodName) prog_9_method_7_code 1 (some .int) :: ws) ({ frames := 0, cells := 0, slots := 0, locals := 0 } : Room)) (fun a U => a = #[(.ref a1)] ∧ Z.Warmed39 U.vm ∧ U.heap = h0) (fun _ _ _ _ _ => True) (fun _ U o U' => ∃ v L, o = .returned v ∧ Q14 Z a1 p1 h0 n0 v U'.heap L ∧ FrameEnd U o U' L ({ frames := 0, cells := 0, slots := 0, locals := 0 } : Room).cells ({ frames := 0, cells := 0, slots := 0, locals := 0 } : Room).slots) := by
  refine MetFree.of_bodySF (plainFor_of_name own_pn7) hisR ?_
  intro p e s m args below meth c s₁ Bd hml0 hP hK
  obtain ⟨rfl, hZ, hh⟩ := hP
  have hx := Bd.exec
  have hby := Bd.bytes
  have hml : c.maxLocals = 1 := hml0
  have hlk : meth.locks = false := BodyLoose.notSynchronized Bd
  have hown : s.vm.findClass "com/example/stockwright/stockwright/model/PageRequest" = some m.cls := findClass_of_methodNamed Bd.named
  have hnm := (name_of_methodNamed Bd.named Bd.method).1
  have X0 : Stand p l e ({ frames := 0, cells := 0, slots := 0, locals := 0 } : Room) s m #[(.ref a1)] below meth c s₁ [] 0 0 := Stand.of_body Bd
  have e0 : s₁.heap = h0 := by rw [← hh, Bd.state]; rfl
  have N0 := Fr.nil n0
  show own_Go p e below s (Q14 Z a1 p1 h0 n0) ({ frames := 0, cells := 0, slots := 0, locals := 0 } : Room).cells ({ frames := 0, cells := 0, slots := 0, locals := 0 } : Room).slots _
  refine own_st (B := s₁.setTop (mkF m 0 #[.val (.ref a1)] [])) (fun t k => castTop (ef_14 m (a1)) k) ?_
  refine own_st (B := s₁.setTop (mkF m 1 #[.val (.ref a1)] [(.ref a1)])) (fun t k => XS.aloadN X0.here hx rfl (hb hby d14_0) rfl rfl k) ?_
  obtain ⟨T1, X1, e1, st1⟩ := getF X0 hx hZ hown (host := "") (Or.inl (w_81 hw)) Via.refl e0 F0 (g := (mkF m 1 #[.val (.ref a1)] [(.ref a1)])) rfl rfl (hb hby d14_1)
  refine own_st (B := T1.setTop (mkF m 4 #[.val (.ref a1)] [(.int p1)])) (fun t k => st1 t k) ?_
  refine own_retI X1 hx hlk Bd.returns (hb hby d14_4) (by decide) (by decide) ?_
  show Q14 Z a1 p1 h0 n0 _ T1.heap _
  rw [e1]
  exact ⟨rfl, N0, rfl⟩
theorem d15_0 : decode prog_9_method_6_code 0 = .ok (.aload_n 0, 1) := by decide +kernel
theorem d15_1 : decode prog_9_method_6_code 1 = .ok (.getfield 7, 3) := by decide +kernel
theorem d15_4 : decode prog_9_method_6_code 4 = .ok (.ireturn, 1) := by decide +kernel
theorem ef_15 (m : MethodId) (x0 : Addr) : entryFrame m #[(.ref x0)] 1 = mkF m 0 #[.val (.ref x0)] [] := by first | (simp [entryFrame, mkF, argsToLocals, Value.category]; done) | rfl
def Q15 (Z : State) (a1 : Addr) (p1 : Int32) (h0 : Heap) (n0 : Nat) (v : Option Value) (h : Heap) (L : List Loc) : Prop := v = some (.int p1) ∧ Fr n0 L ∧ h = h0
set_option maxHeartbeats 40000000 in
theorem rm15 (l : Launch) (Z : State) (a0 : Array Value) (hw : ∀ d ∈ tables_1, d.before a0 Z = true) (ws : List Jvm.Cond) (a1 : Addr) (p1 : Int32) (h0 : Heap) (n0 : Nat) (Z0 : n0 ≤ h0.size) (F0 : Fld Z h0 a1 "com/example/stockwright/stockwright/model/PageRequest" "page" "I" (.int p1)) :
    MetFree l (⟨"com/example/stockwright/stockwright/model/PageRequest", "page", "()I"⟩ : MethodName) (head1 (Jvm.Cond.code (⟨"com/example/stockwright/stockwright/model/PageRequest", "page", "()I"⟩ : MethodName) prog_9_method_6_code 1 (some .int) :: ws) ({ frames := 0, cells := 0, slots := 0, locals := 0 } : Room)) (fun a U => a = #[(.ref a1)] ∧ Z.Warmed39 U.vm ∧ U.heap = h0) (fun _ _ _ _ _ => True) (fun _ U o U' => ∃ v L, o = .returned v ∧ Q15 Z a1 p1 h0 n0 v U'.heap L ∧ FrameEnd U o U' L ({ frames := 0, cells := 0, slots := 0, locals := 0 } : Room).cells ({ frames := 0, cells := 0, slots := 0, locals := 0 } : Room).slots) := by
  refine MetFree.of_bodySF (plainFor_of_name own_pn7) hisR ?_
  intro p e s m args below meth c s₁ Bd hml0 hP hK
  obtain ⟨rfl, hZ, hh⟩ := hP
  have hx := Bd.exec
  have hby := Bd.bytes
  have hml : c.maxLocals = 1 := hml0
  have hlk : meth.locks = false := BodyLoose.notSynchronized Bd
  have hown : s.vm.findClass "com/example/stockwright/stockwright/model/PageRequest" = some m.cls := findClass_of_methodNamed Bd.named
  have hnm := (name_of_methodNamed Bd.named Bd.method).1
  have X0 : Stand p l e ({ frames := 0, cells := 0, slots := 0, locals := 0 } : Room) s m #[(.ref a1)] below meth c s₁ [] 0 0 := Stand.of_body Bd
  have e0 : s₁.heap = h0 := by rw [← hh, Bd.state]; rfl
  have N0 := Fr.nil n0
  show own_Go p e below s (Q15 Z a1 p1 h0 n0) ({ frames := 0, cells := 0, slots := 0, locals := 0 } : Room).cells ({ frames := 0, cells := 0, slots := 0, locals := 0 } : Room).slots _
  refine own_st (B := s₁.setTop (mkF m 0 #[.val (.ref a1)] [])) (fun t k => castTop (ef_15 m (a1)) k) ?_
  refine own_st (B := s₁.setTop (mkF m 1 #[.val (.ref a1)] [(.ref a1)])) (fun t k => XS.aloadN X0.here hx rfl (hb hby d15_0) rfl rfl k) ?_
  obtain ⟨T1, X1, e1, st1⟩ := getF X0 hx hZ hown (host := "") (Or.inl (w_79 hw)) Via.refl e0 F0 (g := (mkF m 1 #[.val (.ref a1)] [(.ref a1)])) rfl rfl (hb hby d15_1)
  refine own_st (B := T1.setTop (mkF m 4 #[.val (.ref a1)] [(.int p1)])) (fun t k => st1 t k) ?_
  refine own_retI X1 hx hlk Bd.returns (hb hby d15_4) (by decide) (by decide) ?_
  show Q15 Z a1 p1 h0 n0 _ T1.heap _
  rw [e1]
  exact ⟨rfl, N0, rfl⟩
theorem own_pn8 : plainName "com/example/stockwright/stockwright/model/Page" = true := by first | (simp [plainName, overriddenIn]; done) | decide +kernel
theorem d16_0 : decode prog_7_method_1_code 0 = .ok (.aload_n 0, 1) := by decide +kernel
theorem d16_1 : decode prog_7_method_1_code 1 = .ok (.invokespecial 1, 3) := by decide +kernel
theorem d16_4 : decode prog_7_method_1_code 4 = .ok (.aload_n 0, 1) := by decide +kernel
theorem d16_5 : decode prog_7_method_1_code 5 = .ok (.aload_n 1, 1) := by decide +kernel
theorem d16_6 : decode prog_7_method_1_code 6 = .ok (.putfield 7, 3) := by decide +kernel
theorem d16_9 : decode prog_7_method_1_code 9 = .ok (.aload_n 0, 1) := by decide +kernel
theorem d16_10 : decode prog_7_method_1_code 10 = .ok (.iload_n 2, 1) := by decide +kernel
theorem d16_11 : decode prog_7_method_1_code 11 = .ok (.putfield 13, 3) := by decide +kernel
theorem d16_14 : decode prog_7_method_1_code 14 = .ok (.aload_n 0, 1) := by decide +kernel
theorem d16_15 : decode prog_7_method_1_code 15 = .ok (.iload_n 3, 1) := by decide +kernel
theorem d16_16 : decode prog_7_method_1_code 16 = .ok (.putfield 17, 3) := by decide +kernel
theorem d16_19 : decode prog_7_method_1_code 19 = .ok (.aload_n 0, 1) := by decide +kernel
theorem d16_20 : decode prog_7_method_1_code 20 = .ok (.lload 4, 2) := by decide +kernel
theorem d16_22 : decode prog_7_method_1_code 22 = .ok (.putfield 20, 3) := by decide +kernel
theorem d16_25 : decode prog_7_method_1_code 25 = .ok (.aload_n 0, 1) := by decide +kernel
theorem d16_26 : decode prog_7_method_1_code 26 = .ok (.lload 6, 2) := by decide +kernel
theorem d16_28 : decode prog_7_method_1_code 28 = .ok (.putfield 24, 3) := by decide +kernel
theorem d16_31 : decode prog_7_method_1_code 31 = .ok (.return_, 1) := by decide +kernel
theorem ef_16 (m : MethodId) (x0 : Addr) (x1 : Addr) (x2 : Int32) (x3 : Int32) (x4 : Int64) (x5 : Int64) : entryFrame m #[(.ref x0), (.ref x1), (.int x2), (.int x3), (.long x4), (.long x5)] 8 = mkF m 0 #[.val (.ref x0), .val (.ref x1), .val (.int x2), .val (.int x3), .val (.long x4), .second, .val (.long x5), .second] [] := by first | (simp [entryFrame, mkF, argsToLocals, Value.category]; done) | rfl
def Q16 (Z : State) (a1 : Addr) (a2 : Addr) (p1 : Int32) (p2 : Int32) (q1 : Int64) (q2 : Int64) (h0 : Heap) (n0 : Nat) (v : Option Value) (h : Heap) (L : List Loc) : Prop := v = none ∧ Fr n0 L ∧ Keep h0 h [a1] ∧ Exa Z h a1 "com/example/stockwright/stockwright/model/Page" ∧ Fld Z h a1 "com/example/stockwright/stockwright/model/Page" "items" "Ljava/util/List;" (.ref a2) ∧ Fld Z h a1 "com/example/stockwright/stockwright/model/Page" "page" "I" (.int p1) ∧ Fld Z h a1 "com/example/stockwright/stockwright/model/Page" "pageSize" "I" (.int p2) ∧ Fld Z h a1 "com/example/stockwright/stockwright/model/Page" "totalItems" "J" (.long q1) ∧ Fld Z h a1 "com/example/stockwright/stockwright/model/Page" "totalPages" "J" (.long q2)
set_option maxHeartbeats 40000000 in
theorem rm16 (l : Launch) (Z : State) (a0 : Array Value) (hw : ∀ d ∈ tables_1, d.before a0 Z = true) (ws : List Jvm.Cond) (a1 : Addr) (a2 : Addr) (p1 : Int32) (p2 : Int32) (q1 : Int64) (q2 : Int64) (h0 : Heap) (n0 : Nat) (Z0 : n0 ≤ h0.size) (F0 : Exa Z h0 a1 "com/example/stockwright/stockwright/model/Page") (F1 : Fld Z h0 a1 "com/example/stockwright/stockwright/model/Page" "items" "Ljava/util/List;" .null) (F2 : Fld Z h0 a1 "com/example/stockwright/stockwright/model/Page" "page" "I" (.int (0 : Int32))) (F3 : Fld Z h0 a1 "com/example/stockwright/stockwright/model/Page" "pageSize" "I" (.int (0 : Int32))) (F4 : Fld Z h0 a1 "com/example/stockwright/stockwright/model/Page" "totalItems" "J" (.long (0 : Int64))) (F5 : Fld Z h0 a1 "com/example/stockwright/stockwright/model/Page" "totalPages" "J" (.long (0 : Int64))) (ga : n0 ≤ a1) :
    MetFree l (⟨"com/example/stockwright/stockwright/model/Page", "<init>", "(Ljava/util/List;IIJJ)V"⟩ : MethodName) (head1 (Jvm.Cond.code (⟨"com/example/stockwright/stockwright/model/Page", "<init>", "(Ljava/util/List;IIJJ)V"⟩ : MethodName) prog_7_method_1_code 8 none :: ws) ({ frames := 2, cells := 0, slots := 0, locals := 24 } : Room)) (fun a U => a = #[(.ref a1), (.ref a2), (.int p1), (.int p2), (.long q1), (.long q2)] ∧ Z.Warmed39 U.vm ∧ U.heap = h0) (fun _ _ _ _ _ => True) (fun _ U o U' => ∃ v L, o = .returned v ∧ Q16 Z a1 a2 p1 p2 q1 q2 h0 n0 v U'.heap L ∧ FrameEnd U o U' L ({ frames := 2, cells := 0, slots := 0, locals := 24 } : Room).cells ({ frames := 2, cells := 0, slots := 0, locals := 24 } : Room).slots) := by
  refine MetFree.of_bodySF (plainFor_of_name own_pn8) hisR ?_
  intro p e s m args below meth c s₁ Bd hml0 hP hK
  obtain ⟨rfl, hZ, hh⟩ := hP
  have hx := Bd.exec
  have hby := Bd.bytes
  have hml : c.maxLocals = 8 := hml0
  have hlk : meth.locks = false := BodyLoose.notSynchronized Bd
  have hown : s.vm.findClass "com/example/stockwright/stockwright/model/Page" = some m.cls := findClass_of_methodNamed Bd.named
  have hnm := (name_of_methodNamed Bd.named Bd.method).1
  have X0 : Stand p l e ({ frames := 2, cells := 0, slots := 0, locals := 24 } : Room) s m #[(.ref a1), (.ref a2), (.int p1), (.int p2), (.long q1), (.long q2)] below meth c s₁ [] 0 0 := Stand.of_body Bd
  have e0 : s₁.heap = h0 := by rw [← hh, Bd.state]; rfl
  have N0 := Fr.nil n0
  show own_Go p e below s (Q16 Z a1 a2 p1 p2 q1 q2 h0 n0) ({ frames := 2, cells := 0, slots := 0, locals := 24 } : Room).cells ({ frames := 2, cells := 0, slots := 0, locals := 24 } : Room).slots _
  refine own_st (B := s₁.setTop (mkF m 0 #[.val (.ref a1), .val (.ref a2), .val (.int p1), .val (.int p2), .val (.long q1), .second, .val (.long q2), .second] [])) (fun t k => castTop (ef_16 m (a1) (a2) (p1) (p2) (q1) (q2)) k) ?_
  refine own_st (B := s₁.setTop (mkF m 1 #[.val (.ref a1), .val (.ref a2), .val (.int p1), .val (.int p2), .val (.long q1), .second, .val (.long q2), .second] [(.ref a1)])) (fun t k => XS.aloadN X0.here hx rfl (hb hby d16_0) rfl rfl k) ?_
  obtain ⟨_, _, ⟨T1, L1, k1, j1⟩, -, X1, ⟨Lc1, hQ1, l1, y1_, z1_⟩, st1⟩ := X0.specialBack hx (y := (⟨"java/lang/Record", "<init>", "()V"⟩ : MethodName)) rfl hown (mvT hZ (w_102 hw)) (mvT hZ (w_74 hw)) (mvT hZ (w_77 hw)) (by decide) (backOf (W := 0) (rm12 l Z a0 hw [] a1 h0 n0 Z0 ) hZ (w_77 hw) (w_76 hw) (by decide) (by decide)) (g := (mkF m 1 #[.val (.ref a1), .val (.ref a2), .val (.int p1), .val (.int p2), .val (.long q1), .second, .val (.long q2), .second] [(.ref a1)])) rfl (by rw [hml]; rfl) (Steps.refl _) (a := a1) (argsL := []) (rest := []) (lenOf own_pd1 rfl) rfl (by show 2 * 0 + _ ≤ _; exact Nat.le_of_eq rfl) (hb hby d16_1) (fun _ _ => ⟨rfl, e0, (by decide : 0 + 0 ≤ _), (by decide : 0 + 0 ≤ _)⟩)
  dsimp only [Pt.U, Pt.locs, Pt.cells, Pt.slots] at X1 l1 y1_ z1_ st1 hQ1
  subst l1 y1_ z1_
  obtain ⟨rfl, N1q, e1q⟩ := hQ1
  have N1 := Fr.app N0 N1q
  refine own_ss (B := T1.setTop (mkF m 4 #[.val (.ref a1), .val (.ref a2), .val (.int p1), .val (.int p2), .val (.long q1), .second, .val (.long q2), .second] [])) st1 ?_
  refine own_st (B := T1.setTop (mkF m 5 #[.val (.ref a1), .val (.ref a2), .val (.int p1), .val (.int p2), .val (.long q1), .second, .val (.long q2), .second] [(.ref a1)])) (fun t k => XS.aloadN X1.here hx rfl (hb hby d16_4) rfl rfl k) ?_
  refine own_st (B := T1.setTop (mkF m 6 #[.val (.ref a1), .val (.ref a2), .val (.int p1), .val (.int p2), .val (.long q1), .second, .val (.long q2), .second] [(.ref a2), (.ref a1)])) (fun t k => XS.aloadN X1.here hx rfl (hb hby d16_5) rfl rfl k) ?_
  obtain ⟨T2, h2, X2, e2, W2, st2⟩ := putF X1 hx hZ hown (host := "") (Or.inl (w_103 hw)) Via.refl e1q F1 F0 (Or.inr ⟨(w_104 hw), rfl, hnm⟩) (w_93 hw) (ty := (.object "java/util/List")) (by decide) rfl rfl (g := (mkF m 6 #[.val (.ref a1), .val (.ref a2), .val (.int p1), .val (.int p2), .val (.long q1), .second, .val (.long q2), .second] [(.ref a2), (.ref a1)])) rfl rfl (hb hby d16_6)
  have f2_ : Fld Z h2 a1 "com/example/stockwright/stockwright/model/Page" "items" "Ljava/util/List;" (.ref a2) := F1.same W2
  have z3 : n0 ≤ h2.size := Nat.le_trans Z0 (Keep.of_wr W2).1
  have kp3 : Keep h0 h2 [a1] := (Keep.refl h0 [a1]).wr W2 (Or.inl (List.mem_of_getElem? (i := 0) rfl))
  have n4 := Fr.snoc X2 N1 ga
  refine own_st (B := T2.setTop (mkF m 9 #[.val (.ref a1), .val (.ref a2), .val (.int p1), .val (.int p2), .val (.long q1), .second, .val (.long q2), .second] [])) (fun t k => st2 t k) ?_
  refine own_st (B := T2.setTop (mkF m 10 #[.val (.ref a1), .val (.ref a2), .val (.int p1), .val (.int p2), .val (.long q1), .second, .val (.long q2), .second] [(.ref a1)])) (fun t k => XS.aloadN X2.here hx rfl (hb hby d16_9) rfl rfl k) ?_
  refine own_st (B := T2.setTop (mkF m 11 #[.val (.ref a1), .val (.ref a2), .val (.int p1), .val (.int p2), .val (.long q1), .second, .val (.long q2), .second] [(.int p1), (.ref a1)])) (fun t k => XS.iloadN X2.here hx rfl (hb hby d16_10) rfl k) ?_
  have f5 : Exa Z h2 a1 "com/example/stockwright/stockwright/model/Page" := (F0.wr W2)
  have f6 : Fld Z h2 a1 "com/example/stockwright/stockwright/model/Page" "page" "I" (.int (0 : Int32)) := (F2.other W2 (Or.inr (slot_ne (Or.inr (w_106 hw)) (Or.inr (w_104 hw)) (by decide) (t := .int) (t' := (.object "java/util/List")) (by decide) (by decide))))
  obtain ⟨T7, h7, X7, e7, W7, st7⟩ := putF X2 hx hZ hown (host := "") (Or.inl (w_105 hw)) Via.refl e2 f6 f5 (Or.inr ⟨(w_106 hw), rfl, hnm⟩) (w_93 hw) (ty := .int) (by decide) rfl rfl (g := (mkF m 11 #[.val (.ref a1), .val (.ref a2), .val (.int p1), .val (.int p2), .val (.long q1), .second, .val (.long q2), .second] [(.int p1), (.ref a1)])) rfl rfl (hb hby d16_11)
  have f7_ : Fld Z h7 a1 "com/example/stockwright/stockwright/model/Page" "page" "I" (.int p1) := f6.same W7
  have z8 : n0 ≤ h7.size := Nat.le_trans z3 (Keep.of_wr W7).1
  have kp8 : Keep h0 h7 [a1] := kp3.wr W7 (Or.inl (List.mem_of_getElem? (i := 0) rfl))
  have n9 := Fr.snoc X7 n4 ga
  refine own_st (B := T7.setTop (mkF m 14 #[.val (.ref a1), .val (.ref a2), .val (.int p1), .val (.int p2), .val (.long q1), .second, .val (.long q2), .second] [])) (fun t k => st7 t k) ?_
  refine own_st (B := T7.setTop (mkF m 15 #[.val (.ref a1), .val (.ref a2), .val (.int p1), .val (.int p2), .val (.long q1), .second, .val (.long q2), .second] [(.ref a1)])) (fun t k => XS.aloadN X7.here hx rfl (hb hby d16_14) rfl rfl k) ?_
  refine own_st (B := T7.setTop (mkF m 16 #[.val (.ref a1), .val (.ref a2), .val (.int p1), .val (.int p2), .val (.long q1), .second, .val (.long q2), .second] [(.int p2), (.ref a1)])) (fun t k => XS.iloadN X7.here hx rfl (hb hby d16_15) rfl k) ?_
  have f10 : Exa Z h7 a1 "com/example/stockwright/stockwright/model/Page" := (f5.wr W7)
  have f11 : Fld Z h7 a1 "com/example/stockwright/stockwright/model/Page" "pageSize" "I" (.int (0 : Int32)) := ((F3.other W2 (Or.inr (slot_ne (Or.inr (w_108 hw)) (Or.inr (w_104 hw)) (by decide) (t := .int) (t' := (.object "java/util/List")) (by decide) (by decide)))).other W7 (Or.inr (slot_ne (Or.inr (w_108 hw)) (Or.inr (w_106 hw)) (by decide) (t := .int) (t' := .int) (by decide) (by decide))))
  obtain ⟨T12, h12, X12, e12, W12, st12⟩ := putF X7 hx hZ hown (host := "") (Or.inl (w_107 hw)) Via.refl e7 f11 f10 (Or.inr ⟨(w_108 hw), rfl, hnm⟩) (w_93 hw) (ty := .int) (by decide) rfl rfl (g := (mkF m 16 #[.val (.ref a1), .val (.ref a2), .val (.int p1), .val (.int p2), .val (.long q1), .second, .val (.long q2), .second] [(.int p2), (.ref a1)])) rfl rfl (hb hby d16_16)
  have f12_ : Fld Z h12 a1 "com/example/stockwright/stockwright/model/Page" "pageSize" "I" (.int p2) := f11.same W12
  have z13 : n0 ≤ h12.size := Nat.le_trans z8 (Keep.of_wr W12).1
  have kp13 : Keep h0 h12 [a1] := kp8.wr W12 (Or.inl (List.mem_of_getElem? (i := 0) rfl))
  have n14 := Fr.snoc X12 n9 ga
  refine own_st (B := T12.setTop (mkF m 19 #[.val (.ref a1), .val (.ref a2), .val (.int p1), .val (.int p2), .val (.long q1), .second, .val (.long q2), .second] [])) (fun t k => st12 t k) ?_
  refine own_st (B := T12.setTop (mkF m 20 #[.val (.ref a1), .val (.ref a2), .val (.int p1), .val (.int p2), .val (.long q1), .second, .val (.long q2), .second] [(.ref a1)])) (fun t k => XS.aloadN X12.here hx rfl (hb hby d16_19) rfl rfl k) ?_
  refine own_st (B := T12.setTop (mkF m 22 #[.val (.ref a1), .val (.ref a2), .val (.int p1), .val (.int p2), .val (.long q1), .second, .val (.long q2), .second] [(.long q1), (.ref a1)])) (fun t k => XS.lload X12.here hx rfl (hb hby d16_20) rfl k) ?_
  have f15 : Exa Z h12 a1 "com/example/stockwright/stockwright/model/Page" := (f10.wr W12)
  have f16 : Fld Z h12 a1 "com/example/stockwright/stockwright/model/Page" "totalItems" "J" (.long (0 : Int64)) := (((F4.other W2 (Or.inr (slot_ne (Or.inr (w_110 hw)) (Or.inr (w_104 hw)) (by decide) (t := .long) (t' := (.object "java/util/List")) (by decide) (by decide)))).other W7 (Or.inr (slot_ne (Or.inr (w_110 hw)) (Or.inr (w_106 hw)) (by decide) (t := .long) (t' := .int) (by decide) (by decide)))).other W12 (Or.inr (slot_ne (Or.inr (w_110 hw)) (Or.inr (w_108 hw)) (by decide) (t := .long) (t' := .int) (by decide) (by decide))))
  obtain ⟨T17, h17, X17, e17, W17, st17⟩ := putF X12 hx hZ hown (host := "") (Or.inl (w_109 hw)) Via.refl e12 f16 f15 (Or.inr ⟨(w_110 hw), rfl, hnm⟩) (w_93 hw) (ty := .long) (by decide) rfl rfl (g := (mkF m 22 #[.val (.ref a1), .val (.ref a2), .val (.int p1), .val (.int p2), .val (.long q1), .second, .val (.long q2), .second] [(.long q1), (.ref a1)])) rfl rfl (hb hby d16_22)
  have f17_ : Fld Z h17 a1 "com/example/stockwright/stockwright/model/Page" "totalItems" "J" (.long q1) := f16.same W17
  have z18 : n0 ≤ h17.size := Nat.le_trans z13 (Keep.of_wr W17).1
  have kp18 : Keep h0 h17 [a1] := kp13.wr W17 (Or.inl (List.mem_of_getElem? (i := 0) rfl))
  have n19 := Fr.snoc X17 n14 ga
  refine own_st (B := T17.setTop (mkF m 25 #[.val (.ref a1), .val (.ref a2), .val (.int p1), .val (.int p2), .val (.long q1), .second, .val (.long q2), .second] [])) (fun t k => st17 t k) ?_
  refine own_st (B := T17.setTop (mkF m 26 #[.val (.ref a1), .val (.ref a2), .val (.int p1), .val (.int p2), .val (.long q1), .second, .val (.long q2), .second] [(.ref a1)])) (fun t k => XS.aloadN X17.here hx rfl (hb hby d16_25) rfl rfl k) ?_
  refine own_st (B := T17.setTop (mkF m 28 #[.val (.ref a1), .val (.ref a2), .val (.int p1), .val (.int p2), .val (.long q1), .second, .val (.long q2), .second] [(.long q2), (.ref a1)])) (fun t k => XS.lload X17.here hx rfl (hb hby d16_26) rfl k) ?_
  have f20 : Exa Z h17 a1 "com/example/stockwright/stockwright/model/Page" := (f15.wr W17)
  have f21 : Fld Z h17 a1 "com/example/stockwright/stockwright/model/Page" "totalPages" "J" (.long (0 : Int64)) := ((((F5.other W2 (Or.inr (slot_ne (Or.inr (w_112 hw)) (Or.inr (w_104 hw)) (by decide) (t := .long) (t' := (.object "java/util/List")) (by decide) (by decide)))).other W7 (Or.inr (slot_ne (Or.inr (w_112 hw)) (Or.inr (w_106 hw)) (by decide) (t := .long) (t' := .int) (by decide) (by decide)))).other W12 (Or.inr (slot_ne (Or.inr (w_112 hw)) (Or.inr (w_108 hw)) (by decide) (t := .long) (t' := .int) (by decide) (by decide)))).other W17 (Or.inr (slot_ne (Or.inr (w_112 hw)) (Or.inr (w_110 hw)) (by decide) (t := .long) (t' := .long) (by decide) (by decide))))
  obtain ⟨T22, h22, X22, e22, W22, st22⟩ := putF X17 hx hZ hown (host := "") (Or.inl (w_111 hw)) Via.refl e17 f21 f20 (Or.inr ⟨(w_112 hw), rfl, hnm⟩) (w_93 hw) (ty := .long) (by decide) rfl rfl (g := (mkF m 28 #[.val (.ref a1), .val (.ref a2), .val (.int p1), .val (.int p2), .val (.long q1), .second, .val (.long q2), .second] [(.long q2), (.ref a1)])) rfl rfl (hb hby d16_28)
  have f22_ : Fld Z h22 a1 "com/example/stockwright/stockwright/model/Page" "totalPages" "J" (.long q2) := f21.same W22
  have z23 : n0 ≤ h22.size := Nat.le_trans z18 (Keep.of_wr W22).1
  have kp23 : Keep h0 h22 [a1] := kp18.wr W22 (Or.inl (List.mem_of_getElem? (i := 0) rfl))
  have n24 := Fr.snoc X22 n19 ga
  refine own_st (B := T22.setTop (mkF m 31 #[.val (.ref a1), .val (.ref a2), .val (.int p1), .val (.int p2), .val (.long q1), .second, .val (.long q2), .second] [])) (fun t k => st22 t k) ?_
  refine own_retV X22 hx hlk Bd.returns (hb hby d16_31) (by decide) (by decide) ?_
  show Q16 Z a1 a2 p1 p2 q1 q2 h0 n0 _ T22.heap _
  rw [e22]
  have f25 : Exa Z h22 a1 "com/example/stockwright/stockwright/model/Page" := (f20.wr W22)
  have f26 : Fld Z h22 a1 "com/example/stockwright/stockwright/model/Page" "items" "Ljava/util/List;" (.ref a2) := ((((f2_.other W7 (Or.inr (slot_ne (Or.inr (w_104 hw)) (Or.inr (w_106 hw)) (by decide) (t := (.object "java/util/List")) (t' := .int) (by decide) (by decide)))).other W12 (Or.inr (slot_ne (Or.inr (w_104 hw)) (Or.inr (w_108 hw)) (by decide) (t := (.object "java/util/List")) (t' := .int) (by decide) (by decide)))).other W17 (Or.inr (slot_ne (Or.inr (w_104 hw)) (Or.inr (w_110 hw)) (by decide) (t := (.object "java/util/List")) (t' := .long) (by decide) (by decide)))).other W22 (Or.inr (slot_ne (Or.inr (w_104 hw)) (Or.inr (w_112 hw)) (by decide) (t := (.object "java/util/List")) (t' := .long) (by decide) (by decide))))
  have f27 : Fld Z h22 a1 "com/example/stockwright/stockwright/model/Page" "page" "I" (.int p1) := (((f7_.other W12 (Or.inr (slot_ne (Or.inr (w_106 hw)) (Or.inr (w_108 hw)) (by decide) (t := .int) (t' := .int) (by decide) (by decide)))).other W17 (Or.inr (slot_ne (Or.inr (w_106 hw)) (Or.inr (w_110 hw)) (by decide) (t := .int) (t' := .long) (by decide) (by decide)))).other W22 (Or.inr (slot_ne (Or.inr (w_106 hw)) (Or.inr (w_112 hw)) (by decide) (t := .int) (t' := .long) (by decide) (by decide))))
  have f28 : Fld Z h22 a1 "com/example/stockwright/stockwright/model/Page" "pageSize" "I" (.int p2) := ((f12_.other W17 (Or.inr (slot_ne (Or.inr (w_108 hw)) (Or.inr (w_110 hw)) (by decide) (t := .int) (t' := .long) (by decide) (by decide)))).other W22 (Or.inr (slot_ne (Or.inr (w_108 hw)) (Or.inr (w_112 hw)) (by decide) (t := .int) (t' := .long) (by decide) (by decide))))
  have f29 : Fld Z h22 a1 "com/example/stockwright/stockwright/model/Page" "totalItems" "J" (.long q1) := (f17_.other W22 (Or.inr (slot_ne (Or.inr (w_110 hw)) (Or.inr (w_112 hw)) (by decide) (t := .long) (t' := .long) (by decide) (by decide))))
  exact ⟨rfl, n24, kp23, f25, f26, f27, f28, f29, f22_⟩
theorem own_nz {p : Int32} (h : 1 ≤ p.toInt) : p.toInt64 ≠ 0 := fun q => by
  have h1 := c_i2l p
  rw [q] at h1
  have h2 : (0 : Int64).toInt = 0 := rfl
  omega
theorem own_pd14 : parseMethodDescriptor "()I" = some ⟨[], some .int⟩ := by decide +kernel
theorem own_pd15 : parseMethodDescriptor "(Ljava/util/List;IIJJ)V" = some ⟨[(.object "java/util/List"), .int, .int, .long, .long], none⟩ := by decide +kernel
theorem d13_0 : decode prog_7_method_2_code 0 = .ok (.lload_n 2, 1) := by decide +kernel
theorem d13_1 : decode prog_7_method_2_code 1 = .ok (.aload_n 1, 1) := by decide +kernel
theorem d13_2 : decode prog_7_method_2_code 2 = .ok (.invokevirtual 27, 3) := by decide +kernel
theorem d13_5 : decode prog_7_method_2_code 5 = .ok (.i2l, 1) := by decide +kernel
theorem d13_6 : decode prog_7_method_2_code 6 = .ok (.ladd, 1) := by decide +kernel
theorem d13_7 : decode prog_7_method_2_code 7 = .ok (.lconst 1, 1) := by decide +kernel
theorem d13_8 : decode prog_7_method_2_code 8 = .ok (.lsub, 1) := by decide +kernel
theorem d13_9 : decode prog_7_method_2_code 9 = .ok (.aload_n 1, 1) := by decide +kernel
theorem d13_10 : decode prog_7_method_2_code 10 = .ok (.invokevirtual 27, 3) := by decide +kernel
theorem d13_13 : decode prog_7_method_2_code 13 = .ok (.i2l, 1) := by decide +kernel
theorem d13_14 : decode prog_7_method_2_code 14 = .ok (.ldiv, 1) := by decide +kernel
theorem d13_15 : decode prog_7_method_2_code 15 = .ok (.lstore 4, 2) := by decide +kernel
theorem d13_17 : decode prog_7_method_2_code 17 = .ok (.new 8, 3) := by decide +kernel
theorem d13_20 : decode prog_7_method_2_code 20 = .ok (.dup, 1) := by decide +kernel
theorem d13_21 : decode prog_7_method_2_code 21 = .ok (.aload_n 0, 1) := by decide +kernel
theorem d13_22 : decode prog_7_method_2_code 22 = .ok (.aload_n 1, 1) := by decide +kernel
theorem d13_23 : decode prog_7_method_2_code 23 = .ok (.invokevirtual 32, 3) := by decide +kernel
theorem d13_26 : decode prog_7_method_2_code 26 = .ok (.aload_n 1, 1) := by decide +kernel
theorem d13_27 : decode prog_7_method_2_code 27 = .ok (.invokevirtual 27, 3) := by decide +kernel
theorem d13_30 : decode prog_7_method_2_code 30 = .ok (.lload_n 2, 1) := by decide +kernel
theorem d13_31 : decode prog_7_method_2_code 31 = .ok (.lload 4, 2) := by decide +kernel
theorem d13_33 : decode prog_7_method_2_code 33 = .ok (.invokespecial 34, 3) := by decide +kernel
theorem d13_36 : decode prog_7_method_2_code 36 = .ok (.areturn, 1) := by decide +kernel
theorem ef_13 (m : MethodId) (x0 : Addr) (x1 : Addr) (x2 : Int64) : entryFrame m #[(.ref x0), (.ref x1), (.long x2)] 6 = mkF m 0 #[.val (.ref x0), .val (.ref x1), .val (.long x2), .second, .unset, .unset] [] := by first | (simp [entryFrame, mkF, argsToLocals, Value.category]; done) | rfl
def Q13 (Z : State) (a1 : Addr) (a2 : Addr) (q1 : Int64) (p1 : Int32) (p2 : Int32) (h0 : Heap) (n0 : Nat) (v : Option Value) (h : Heap) (L : List Loc) : Prop := ∃ (b : Addr), v = some (.ref b) ∧ Fr n0 L ∧ Keep h0 h [] ∧ n0 ≤ b ∧ h0.size ≤ b ∧ Exa Z h b "com/example/stockwright/stockwright/model/Page" ∧ Fld Z h b "com/example/stockwright/stockwright/model/Page" "items" "Ljava/util/List;" (.ref a1) ∧ Fld Z h b "com/example/stockwright/stockwright/model/Page" "page" "I" (.int p1) ∧ Fld Z h b "com/example/stockwright/stockwright/model/Page" "pageSize" "I" (.int p2) ∧ Fld Z h b "com/example/stockwright/stockwright/model/Page" "totalItems" "J" (.long q1) ∧ Fld Z h b "com/example/stockwright/stockwright/model/Page" "totalPages" "J" (.long ((((q1 + (p2.toInt64)) - (1 : Int64)) / (p2.toInt64))))
set_option maxHeartbeats 40000000 in
theorem rm13 (l : Launch) (Z : State) (a0 : Array Value) (hw : ∀ d ∈ tables_1, d.before a0 Z = true) (ws : List Jvm.Cond) (a1 : Addr) (a2 : Addr) (q1 : Int64) (p1 : Int32) (p2 : Int32) (h0 : Heap) (n0 : Nat) (Z0 : n0 ≤ h0.size) (F0 : Exa Z h0 a2 "com/example/stockwright/stockwright/model/PageRequest") (F1 : Fld Z h0 a2 "com/example/stockwright/stockwright/model/PageRequest" "page" "I" (.int p1)) (F2 : Fld Z h0 a2 "com/example/stockwright/stockwright/model/PageRequest" "pageSize" "I" (.int p2)) (hp2 : 1 ≤ p2.toInt) :
    MetFree l (⟨"com/example/stockwright/stockwright/model/Page", "of", "(Ljava/util/List;Lcom/example/stockwright/stockwright/model/PageRequest;J)Lcom/example/stockwright/stockwright/model/Page;"⟩ : MethodName) (head1 (Jvm.Cond.code (⟨"com/example/stockwright/stockwright/model/Page", "of", "(Ljava/util/List;Lcom/example/stockwright/stockwright/model/PageRequest;J)Lcom/example/stockwright/stockwright/model/Page;"⟩ : MethodName) prog_7_method_2_code 6 (some (.object "com/example/stockwright/stockwright/model/Page")) :: ws) ({ frames := 3, cells := 1, slots := 5, locals := 44 } : Room)) (fun a U => a = #[(.ref a1), (.ref a2), (.long q1)] ∧ Z.Warmed39 U.vm ∧ U.heap = h0) (fun _ _ _ _ _ => True) (fun _ U o U' => ∃ v L, o = .returned v ∧ Q13 Z a1 a2 q1 p1 p2 h0 n0 v U'.heap L ∧ FrameEnd U o U' L ({ frames := 3, cells := 1, slots := 5, locals := 44 } : Room).cells ({ frames := 3, cells := 1, slots := 5, locals := 44 } : Room).slots) := by
  refine MetFree.of_bodySF (plainFor_of_name own_pn8) hisR ?_
  intro p e s m args below meth c s₁ Bd hml0 hP hK
  obtain ⟨rfl, hZ, hh⟩ := hP
  have hx := Bd.exec
  have hby := Bd.bytes
  have hml : c.maxLocals = 6 := hml0
  have hlk : meth.locks = false := BodyLoose.notSynchronized Bd
  have hown : s.vm.findClass "com/example/stockwright/stockwright/model/Page" = some m.cls := findClass_of_methodNamed Bd.named
  have hnm := (name_of_methodNamed Bd.named Bd.method).1
  have X0 : Stand p l e ({ frames := 3, cells := 1, slots := 5, locals := 44 } : Room) s m #[(.ref a1), (.ref a2), (.long q1)] below meth c s₁ [] 0 0 := Stand.of_body Bd
  have e0 : s₁.heap = h0 := by rw [← hh, Bd.state]; rfl
  have N0 := Fr.nil n0
  show own_Go p e below s (Q13 Z a1 a2 q1 p1 p2 h0 n0) ({ frames := 3, cells := 1, slots := 5, locals := 44 } : Room).cells ({ frames := 3, cells := 1, slots := 5, locals := 44 } : Room).slots _
  refine own_st (B := s₁.setTop (mkF m 0 #[.val (.ref a1), .val (.ref a2), .val (.long q1), .second, .unset, .unset] [])) (fun t k => castTop (ef_13 m (a1) (a2) (q1)) k) ?_
  refine own_st (B := s₁.setTop (mkF m 1 #[.val (.ref a1), .val (.ref a2), .val (.long q1), .second, .unset, .unset] [(.long q1)])) (fun t k => XS.lloadN X0.here hx rfl (hb hby d13_0) rfl k) ?_
  refine own_st (B := s₁.setTop (mkF m 2 #[.val (.ref a1), .val (.ref a2), .val (.long q1), .second, .unset, .unset] [(.ref a2), (.long q1)])) (fun t k => XS.aloadN X0.here hx rfl (hb hby d13_1) rfl rfl k) ?_
  obtain ⟨cq1, kq1, q1a, q1b, q1c⟩ := isOf hZ e0 F0
  obtain ⟨_, _, ⟨T1, L1, k1, j1⟩, -, X1, ⟨Lc1, hQ1, l1, y1_, z1_⟩, st1⟩ := X0.virtualBack hx (y := (⟨"com/example/stockwright/stockwright/model/PageRequest", "pageSize", "()I"⟩ : MethodName)) (z := (⟨"com/example/stockwright/stockwright/model/PageRequest", "pageSize", "()I"⟩ : MethodName)) hown (mvT hZ (w_87 hw)) (mvT hZ (w_88 hw)) (notFace_of_selects (args := #[]) (mvT hZ (w_90 hw))) (mvT hZ (w_90 hw)) (mvT hZ (w_89 hw)) (by decide) (backOf (W := 2) (rm14 l Z a0 hw [] a2 p2 h0 n0 Z0 F2) hZ (w_91 hw) (w_69 hw) (by decide) (by decide)) q1a q1c (g := (mkF m 2 #[.val (.ref a1), .val (.ref a2), .val (.long q1), .second, .unset, .unset] [(.ref a2), (.long q1)])) rfl (by rw [hml]; rfl) (Steps.refl _) (argsL := []) (rest := [(.long q1)]) (lenOf own_pd14 rfl) rfl (by show 2 * 0 + _ ≤ _; exact Nat.le_of_eq rfl) (hb hby d13_2) (fun _ _ => ⟨rfl, e0, (by decide : 0 + 0 ≤ _), (by decide : 0 + 0 ≤ _)⟩)
  dsimp only [Pt.U, Pt.locs, Pt.cells, Pt.slots] at X1 l1 y1_ z1_ st1 hQ1
  subst l1 y1_ z1_
  obtain ⟨rfl, N1q, e1q⟩ := hQ1
  have N1 := Fr.app N0 N1q
  refine own_ss (B := T1.setTop (mkF m 5 #[.val (.ref a1), .val (.ref a2), .val (.long q1), .second, .unset, .unset] [(.int p2), (.long q1)])) st1 ?_
  refine own_st (B := T1.setTop (mkF m 6 #[.val (.ref a1), .val (.ref a2), .val (.long q1), .second, .unset, .unset] [(.long (p2.toInt64)), (.long q1)])) (fun t k => XS.i2l X1.here hx rfl (hb hby d13_5) rfl k) ?_
  refine own_st (B := T1.setTop (mkF m 7 #[.val (.ref a1), .val (.ref a2), .val (.long q1), .second, .unset, .unset] [(.long (q1 + (p2.toInt64)))])) (fun t k => XS.ladd X1.here hx rfl (hb hby d13_6) rfl k) ?_
  refine own_st (B := T1.setTop (mkF m 8 #[.val (.ref a1), .val (.ref a2), .val (.long q1), .second, .unset, .unset] [(.long (1 : Int64)), (.long (q1 + (p2.toInt64)))])) (fun t k => XS.lconst X1.here hx rfl (hb hby d13_7) k) ?_
  refine own_st (B := T1.setTop (mkF m 9 #[.val (.ref a1), .val (.ref a2), .val (.long q1), .second, .unset, .unset] [(.long ((q1 + (p2.toInt64)) - (1 : Int64)))])) (fun t k => XS.lsub X1.here hx rfl (hb hby d13_8) rfl k) ?_
  refine own_st (B := T1.setTop (mkF m 10 #[.val (.ref a1), .val (.ref a2), .val (.long q1), .second, .unset, .unset] [(.ref a2), (.long ((q1 + (p2.toInt64)) - (1 : Int64)))])) (fun t k => XS.aloadN X1.here hx rfl (hb hby d13_9) rfl rfl k) ?_
  obtain ⟨cq2, kq2, q2a, q2b, q2c⟩ := isOf hZ e1q F0
  obtain ⟨_, _, ⟨T2, L2, k2, j2⟩, -, X2, ⟨Lc2, hQ2, l2, y2_, z2_⟩, st2⟩ := X1.virtualBack hx (y := (⟨"com/example/stockwright/stockwright/model/PageRequest", "pageSize", "()I"⟩ : MethodName)) (z := (⟨"com/example/stockwright/stockwright/model/PageRequest", "pageSize", "()I"⟩ : MethodName)) hown (mvT hZ (w_87 hw)) (mvT hZ (w_88 hw)) (notFace_of_selects (args := #[]) (mvT hZ (w_90 hw))) (mvT hZ (w_90 hw)) (mvT hZ (w_89 hw)) (by decide) (backOf (W := 2) (rm14 l Z a0 hw [] a2 p2 h0 n0 Z0 F2) hZ (w_91 hw) (w_69 hw) (by decide) (by decide)) q2a q2c (g := (mkF m 10 #[.val (.ref a1), .val (.ref a2), .val (.long q1), .second, .unset, .unset] [(.ref a2), (.long ((q1 + (p2.toInt64)) - (1 : Int64)))])) rfl (by rw [hml]; rfl) (Steps.refl _) (argsL := []) (rest := [(.long ((q1 + (p2.toInt64)) - (1 : Int64)))]) (lenOf own_pd14 rfl) rfl (by show 2 * 0 + _ ≤ _; exact Nat.le_of_eq rfl) (hb hby d13_10) (fun _ _ => ⟨rfl, e1q, (by decide : 0 + 0 ≤ _), (by decide : 0 + 0 ≤ _)⟩)
  dsimp only [Pt.U, Pt.locs, Pt.cells, Pt.slots] at X2 l2 y2_ z2_ st2 hQ2
  subst l2 y2_ z2_
  obtain ⟨rfl, N2q, e2q⟩ := hQ2
  have N2 := Fr.app N1 N2q
  refine own_ss (B := T2.setTop (mkF m 13 #[.val (.ref a1), .val (.ref a2), .val (.long q1), .second, .unset, .unset] [(.int p2), (.long ((q1 + (p2.toInt64)) - (1 : Int64)))])) st2 ?_
  refine own_st (B := T2.setTop (mkF m 14 #[.val (.ref a1), .val (.ref a2), .val (.long q1), .second, .unset, .unset] [(.long (p2.toInt64)), (.long ((q1 + (p2.toInt64)) - (1 : Int64)))])) (fun t k => XS.i2l X2.here hx rfl (hb hby d13_13) rfl k) ?_
  refine own_st (B := T2.setTop (mkF m 15 #[.val (.ref a1), .val (.ref a2), .val (.long q1), .second, .unset, .unset] [(.long (((q1 + (p2.toInt64)) - (1 : Int64)) / (p2.toInt64)))])) (fun t k => XS.ldiv X2.here hx (g := (mkF m 14 #[.val (.ref a1), .val (.ref a2), .val (.long q1), .second, .unset, .unset] [(.long (p2.toInt64)), (.long ((q1 + (p2.toInt64)) - (1 : Int64)))])) rfl (x := ((q1 + (p2.toInt64)) - (1 : Int64))) (y := (p2.toInt64)) (rest := []) (hb hby d13_14) rfl (own_nz hp2) k) ?_
  refine own_st (B := T2.setTop (mkF m 17 #[.val (.ref a1), .val (.ref a2), .val (.long q1), .second, .val (.long (((q1 + (p2.toInt64)) - (1 : Int64)) / (p2.toInt64))), .second] [])) (fun t k => XS.lstore X2.here hx rfl (hb hby d13_15) rfl (l' := #[.val (.ref a1), .val (.ref a2), .val (.long q1), .second, .val (.long (((q1 + (p2.toInt64)) - (1 : Int64)) / (p2.toInt64))), .second]) rfl k) ?_
  obtain ⟨T3, h3, X3, e3, E3, A3, D3, -, st3⟩ := newO X2 hx hZ hown (w_92 hw) (w_93 hw) (w_85 hw) e2q (g := (mkF m 17 #[.val (.ref a1), .val (.ref a2), .val (.long q1), .second, .val (.long (((q1 + (p2.toInt64)) - (1 : Int64)) / (p2.toInt64))), .second] [])) rfl (hb hby d13_17) (by decide) (by decide)
  obtain ⟨b3, g3⟩ : ∃ z, z = h0.size := ⟨_, rfl⟩
  rw [← g3] at A3 D3 st3
  have q3_a2 : a2 ≠ b3 := Nat.ne_of_lt (Nat.lt_of_lt_of_le F0.lt (Nat.le_of_eq g3.symm))
  have u3 : n0 ≤ b3 := Nat.le_trans Z0 (Nat.le_of_eq g3.symm)
  have y3 : h0.size ≤ b3 := Nat.le_trans (Keep.refl h0 []).1 (Nat.le_of_eq g3.symm)
  have z4 : n0 ≤ h3.size := Nat.le_trans Z0 E3.1
  have kp4 : Keep h0 h3 [] := (Keep.refl h0 []).ext E3
  have f5 : Fld Z h3 b3 "com/example/stockwright/stockwright/model/Page" "items" "Ljava/util/List;" .null := D3 (Or.inr (w_104 hw)) (ty := (.object "java/util/List")) (by decide)
  have f6 : Fld Z h3 b3 "com/example/stockwright/stockwright/model/Page" "page" "I" (.int (0 : Int32)) := D3 (Or.inr (w_106 hw)) (ty := .int) (by decide)
  have f7 : Fld Z h3 b3 "com/example/stockwright/stockwright/model/Page" "pageSize" "I" (.int (0 : Int32)) := D3 (Or.inr (w_108 hw)) (ty := .int) (by decide)
  have f8 : Fld Z h3 b3 "com/example/stockwright/stockwright/model/Page" "totalItems" "J" (.long (0 : Int64)) := D3 (Or.inr (w_110 hw)) (ty := .long) (by decide)
  have f9 : Fld Z h3 b3 "com/example/stockwright/stockwright/model/Page" "totalPages" "J" (.long (0 : Int64)) := D3 (Or.inr (w_112 hw)) (ty := .long) (by decide)
  refine own_st (B := T3.setTop (mkF m 20 #[.val (.ref a1), .val (.ref a2), .val (.long q1), .second, .val (.long (((q1 + (p2.toInt64)) - (1 : Int64)) / (p2.toInt64))), .second] [(.ref b3)])) (fun t k => st3 t k) ?_
  refine own_st (B := T3.setTop (mkF m 21 #[.val (.ref a1), .val (.ref a2), .val (.long q1), .second, .val (.long (((q1 + (p2.toInt64)) - (1 : Int64)) / (p2.toInt64))), .second] [(.ref b3), (.ref b3)])) (fun t k => XS.dup X3.here hx rfl (hb hby d13_20) rfl rfl k) ?_
  refine own_st (B := T3.setTop (mkF m 22 #[.val (.ref a1), .val (.ref a2), .val (.long q1), .second, .val (.long (((q1 + (p2.toInt64)) - (1 : Int64)) / (p2.toInt64))), .second] [(.ref a1), (.ref b3), (.ref b3)])) (fun t k => XS.aloadN X3.here hx rfl (hb hby d13_21) rfl rfl k) ?_
  refine own_st (B := T3.setTop (mkF m 23 #[.val (.ref a1), .val (.ref a2), .val (.long q1), .second, .val (.long (((q1 + (p2.toInt64)) - (1 : Int64)) / (p2.toInt64))), .second] [(.ref a2), (.ref a1), (.ref b3), (.ref b3)])) (fun t k => XS.aloadN X3.here hx rfl (hb hby d13_22) rfl rfl k) ?_
  have f10 : Fld Z h3 a2 "com/example/stockwright/stockwright/model/PageRequest" "page" "I" (.int p1) := (F1.ext E3)
  have f12 : Exa Z h3 a2 "com/example/stockwright/stockwright/model/PageRequest" := (F0.ext E3)
  obtain ⟨cq11, kq11, q11a, q11b, q11c⟩ := isOf hZ e3 f12
  obtain ⟨_, _, ⟨T11, L11, k11, j11⟩, -, X11, ⟨Lc11, hQ11, l11, y11_, z11_⟩, st11⟩ := X3.virtualBack hx (y := (⟨"com/example/stockwright/stockwright/model/PageRequest", "page", "()I"⟩ : MethodName)) (z := (⟨"com/example/stockwright/stockwright/model/PageRequest", "page", "()I"⟩ : MethodName)) hown (mvT hZ (w_94 hw)) (mvT hZ (w_95 hw)) (notFace_of_selects (args := #[]) (mvT hZ (w_97 hw))) (mvT hZ (w_97 hw)) (mvT hZ (w_96 hw)) (by decide) (backOf (W := 3) (rm15 l Z a0 hw [] a2 p1 h3 n0 z4 f10) hZ (w_98 hw) (w_69 hw) (by decide) (by decide)) q11a q11c (g := (mkF m 23 #[.val (.ref a1), .val (.ref a2), .val (.long q1), .second, .val (.long (((q1 + (p2.toInt64)) - (1 : Int64)) / (p2.toInt64))), .second] [(.ref a2), (.ref a1), (.ref b3), (.ref b3)])) rfl (by rw [hml]; rfl) (Steps.refl _) (argsL := []) (rest := [(.ref a1), (.ref b3), (.ref b3)]) (lenOf own_pd14 rfl) rfl (by show 2 * 0 + _ ≤ _; exact Nat.le_of_eq rfl) (hb hby d13_23) (fun _ _ => ⟨rfl, e3, (by decide : 1 + 0 ≤ _), (by decide : 5 + 0 ≤ _)⟩)
  dsimp only [Pt.U, Pt.locs, Pt.cells, Pt.slots] at X11 l11 y11_ z11_ st11 hQ11
  subst l11 y11_ z11_
  obtain ⟨rfl, N11q, e11q⟩ := hQ11
  have N11 := Fr.app N2 N11q
  refine own_ss (B := T11.setTop (mkF m 26 #[.val (.ref a1), .val (.ref a2), .val (.long q1), .second, .val (.long (((q1 + (p2.toInt64)) - (1 : Int64)) / (p2.toInt64))), .second] [(.int p1), (.ref a1), (.ref b3), (.ref b3)])) st11 ?_
  refine own_st (B := T11.setTop (mkF m 27 #[.val (.ref a1), .val (.ref a2), .val (.long q1), .second, .val (.long (((q1 + (p2.toInt64)) - (1 : Int64)) / (p2.toInt64))), .second] [(.ref a2), (.int p1), (.ref a1), (.ref b3), (.ref b3)])) (fun t k => XS.aloadN X11.here hx rfl (hb hby d13_26) rfl rfl k) ?_
  have f13 : Fld Z h3 a2 "com/example/stockwright/stockwright/model/PageRequest" "pageSize" "I" (.int p2) := (F2.ext E3)
  obtain ⟨cq14, kq14, q14a, q14b, q14c⟩ := isOf hZ e11q f12
  obtain ⟨_, _, ⟨T14, L14, k14, j14⟩, -, X14, ⟨Lc14, hQ14, l14, y14_, z14_⟩, st14⟩ := X11.virtualBack hx (y := (⟨"com/example/stockwright/stockwright/model/PageRequest", "pageSize", "()I"⟩ : MethodName)) (z := (⟨"com/example/stockwright/stockwright/model/PageRequest", "pageSize", "()I"⟩ : MethodName)) hown (mvT hZ (w_87 hw)) (mvT hZ (w_88 hw)) (notFace_of_selects (args := #[]) (mvT hZ (w_90 hw))) (mvT hZ (w_90 hw)) (mvT hZ (w_89 hw)) (by decide) (backOf (W := 4) (rm14 l Z a0 hw [] a2 p2 h3 n0 z4 f13) hZ (w_91 hw) (w_69 hw) (by decide) (by decide)) q14a q14c (g := (mkF m 27 #[.val (.ref a1), .val (.ref a2), .val (.long q1), .second, .val (.long (((q1 + (p2.toInt64)) - (1 : Int64)) / (p2.toInt64))), .second] [(.ref a2), (.int p1), (.ref a1), (.ref b3), (.ref b3)])) rfl (by rw [hml]; rfl) (Steps.refl _) (argsL := []) (rest := [(.int p1), (.ref a1), (.ref b3), (.ref b3)]) (lenOf own_pd14 rfl) rfl (by show 2 * 0 + _ ≤ _; exact Nat.le_of_eq rfl) (hb hby d13_27) (fun _ _ => ⟨rfl, e11q, (by decide : 1 + 0 ≤ _), (by decide : 5 + 0 ≤ _)⟩)
  dsimp only [Pt.U, Pt.locs, Pt.cells, Pt.slots] at X14 l14 y14_ z14_ st14 hQ14
  subst l14 y14_ z14_
  obtain ⟨rfl, N14q, e14q⟩ := hQ14
  have N14 := Fr.app N11 N14q
  refine own_ss (B := T14.setTop (mkF m 30 #[.val (.ref a1), .val (.ref a2), .val (.long q1), .second, .val (.long (((q1 + (p2.toInt64)) - (1 : Int64)) / (p2.toInt64))), .second] [(.int p2), (.int p1), (.ref a1), (.ref b3), (.ref b3)])) st14 ?_
  refine own_st (B := T14.setTop (mkF m 31 #[.val (.ref a1), .val (.ref a2), .val (.long q1), .second, .val (.long (((q1 + (p2.toInt64)) - (1 : Int64)) / (p2.toInt64))), .second] [(.long q1), (.int p2), (.int p1), (.ref a1), (.ref b3), (.ref b3)])) (fun t k => XS.lloadN X14.here hx rfl (hb hby d13_30) rfl k) ?_
  refine own_st (B := T14.setTop (mkF m 33 #[.val (.ref a1), .val (.ref a2), .val (.long q1), .second, .val (.long (((q1 + (p2.toInt64)) - (1 : Int64)) / (p2.toInt64))), .second] [(.long (((q1 + (p2.toInt64)) - (1 : Int64)) / (p2.toInt64))), (.long q1), (.int p2), (.int p1), (.ref a1), (.ref b3), (.ref b3)])) (fun t k => XS.lload X14.here hx rfl (hb hby d13_31) rfl k) ?_
  obtain ⟨_, _, ⟨T15, L15, k15, j15⟩, -, X15, ⟨Lc15, hQ15, l15, y15_, z15_⟩, st15⟩ := X14.specialBack hx (y := (⟨"com/example/stockwright/stockwright/model/Page", "<init>", "(Ljava/util/List;IIJJ)V"⟩ : MethodName)) rfl hown (mvT hZ (w_99 hw)) (mvT hZ (w_100 hw)) (mvT hZ (w_101 hw)) (by decide) (backOf (W := 1) (rm16 l Z a0 hw [] b3 a1 p1 p2 q1 (((q1 + (p2.toInt64)) - (1 : Int64)) / (p2.toInt64)) h3 n0 z4 A3 f5 f6 f7 f8 f9 u3) hZ (w_101 hw) (w_85 hw) (by decide) (by decide)) (g := (mkF m 33 #[.val (.ref a1), .val (.ref a2), .val (.long q1), .second, .val (.long (((q1 + (p2.toInt64)) - (1 : Int64)) / (p2.toInt64))), .second] [(.long (((q1 + (p2.toInt64)) - (1 : Int64)) / (p2.toInt64))), (.long q1), (.int p2), (.int p1), (.ref a1), (.ref b3), (.ref b3)])) rfl (by rw [hml]; rfl) (Steps.refl _) (a := b3) (argsL := [(.ref a1), (.int p1), (.int p2), (.long q1), (.long (((q1 + (p2.toInt64)) - (1 : Int64)) / (p2.toInt64)))]) (rest := [(.ref b3)]) (lenOf own_pd15 rfl) rfl (by show 2 * 0 + _ ≤ _; exact Nat.le_of_eq rfl) (hb hby d13_33) (fun _ _ => ⟨rfl, e14q, (by decide : 1 + 0 ≤ _), (by decide : 5 + 0 ≤ _)⟩)
  dsimp only [Pt.U, Pt.locs, Pt.cells, Pt.slots] at X15 l15 y15_ z15_ st15 hQ15
  subst l15 y15_ z15_
  obtain ⟨rfl, N15q, K15, p15_0, p15_1, p15_2, p15_3, p15_4, p15_5⟩ := hQ15
  have N15 := Fr.app N14 N15q
  have z16 : n0 ≤ T15.heap.size := Nat.le_trans z4 K15.1
  have kp16 : Keep h0 T15.heap [] := kp4.trans K15 (allS (Or.inr y3) all0)
  refine own_ss (B := T15.setTop (mkF m 36 #[.val (.ref a1), .val (.ref a2), .val (.long q1), .second, .val (.long (((q1 + (p2.toInt64)) - (1 : Int64)) / (p2.toInt64))), .second] [(.ref b3)])) st15 ?_
  refine own_retR X15 hx hlk (t := (.object "com/example/stockwright/stockwright/model/Page")) Bd.returns rfl rfl rfl (hb hby d13_36) (by decide) (by decide) ?_
  show Q13 Z a1 a2 q1 p1 p2 h0 n0 _ T15.heap _
  exact ⟨b3, rfl, N15, kp16, u3, y3, p15_0, p15_1, p15_2, p15_3, p15_4, p15_5⟩
theorem d17_0 : decode prog_7_method_6_code 0 = .ok (.aload_n 0, 1) := by decide +kernel
theorem d17_1 : decode prog_7_method_6_code 1 = .ok (.getfield 7, 3) := by decide +kernel
theorem d17_4 : decode prog_7_method_6_code 4 = .ok (.areturn, 1) := by decide +kernel
theorem ef_17 (m : MethodId) (x0 : Addr) : entryFrame m #[(.ref x0)] 1 = mkF m 0 #[.val (.ref x0)] [] := by first | (simp [entryFrame, mkF, argsToLocals, Value.category]; done) | rfl
def Q17 (Z : State) (a1 : Addr) (a2 : Addr) (h0 : Heap) (n0 : Nat) (v : Option Value) (h : Heap) (L : List Loc) : Prop := v = some (.ref a2) ∧ Fr n0 L ∧ h = h0
set_option maxHeartbeats 40000000 in
theorem rm17 (l : Launch) (Z : State) (a0 : Array Value) (hw : ∀ d ∈ tables_1, d.before a0 Z = true) (ws : List Jvm.Cond) (a1 : Addr) (a2 : Addr) (h0 : Heap) (n0 : Nat) (Z0 : n0 ≤ h0.size) (F0 : Fld Z h0 a1 "com/example/stockwright/stockwright/model/Page" "items" "Ljava/util/List;" (.ref a2)) :
    MetFree l (⟨"com/example/stockwright/stockwright/model/Page", "items", "()Ljava/util/List;"⟩ : MethodName) (head1 (Jvm.Cond.code (⟨"com/example/stockwright/stockwright/model/Page", "items", "()Ljava/util/List;"⟩ : MethodName) prog_7_method_6_code 1 (some (.object "java/util/List")) :: ws) ({ frames := 0, cells := 0, slots := 0, locals := 0 } : Room)) (fun a U => a = #[(.ref a1)] ∧ Z.Warmed39 U.vm ∧ U.heap = h0) (fun _ _ _ _ _ => True) (fun _ U o U' => ∃ v L, o = .returned v ∧ Q17 Z a1 a2 h0 n0 v U'.heap L ∧ FrameEnd U o U' L ({ frames := 0, cells := 0, slots := 0, locals := 0 } : Room).cells ({ frames := 0, cells := 0, slots := 0, locals := 0 } : Room).slots) := by
  refine MetFree.of_bodySF (plainFor_of_name own_pn8) hisR ?_
  intro p e s m args below meth c s₁ Bd hml0 hP hK
  obtain ⟨rfl, hZ, hh⟩ := hP
  have hx := Bd.exec
  have hby := Bd.bytes
  have hml : c.maxLocals = 1 := hml0
  have hlk : meth.locks = false := BodyLoose.notSynchronized Bd
  have hown : s.vm.findClass "com/example/stockwright/stockwright/model/Page" = some m.cls := findClass_of_methodNamed Bd.named
  have hnm := (name_of_methodNamed Bd.named Bd.method).1
  have X0 : Stand p l e ({ frames := 0, cells := 0, slots := 0, locals := 0 } : Room) s m #[(.ref a1)] below meth c s₁ [] 0 0 := Stand.of_body Bd
  have e0 : s₁.heap = h0 := by rw [← hh, Bd.state]; rfl
  have N0 := Fr.nil n0
  show own_Go p e below s (Q17 Z a1 a2 h0 n0) ({ frames := 0, cells := 0, slots := 0, locals := 0 } : Room).cells ({ frames := 0, cells := 0, slots := 0, locals := 0 } : Room).slots _
  refine own_st (B := s₁.setTop (mkF m 0 #[.val (.ref a1)] [])) (fun t k => castTop (ef_17 m (a1)) k) ?_
  refine own_st (B := s₁.setTop (mkF m 1 #[.val (.ref a1)] [(.ref a1)])) (fun t k => XS.aloadN X0.here hx rfl (hb hby d17_0) rfl rfl k) ?_
  obtain ⟨T1, X1, e1, st1⟩ := getF X0 hx hZ hown (host := "") (Or.inl (w_103 hw)) Via.refl e0 F0 (g := (mkF m 1 #[.val (.ref a1)] [(.ref a1)])) rfl rfl (hb hby d17_1)
  refine own_st (B := T1.setTop (mkF m 4 #[.val (.ref a1)] [(.ref a2)])) (fun t k => st1 t k) ?_
  refine own_retR X1 hx hlk (t := (.object "java/util/List")) Bd.returns rfl rfl rfl (hb hby d17_4) (by decide) (by decide) ?_
  show Q17 Z a1 a2 h0 n0 _ T1.heap _
  rw [e1]
  exact ⟨rfl, N0, rfl⟩
theorem d18_0 : decode prog_7_method_7_code 0 = .ok (.aload_n 0, 1) := by decide +kernel
theorem d18_1 : decode prog_7_method_7_code 1 = .ok (.getfield 13, 3) := by decide +kernel
theorem d18_4 : decode prog_7_method_7_code 4 = .ok (.ireturn, 1) := by decide +kernel
theorem ef_18 (m : MethodId) (x0 : Addr) : entryFrame m #[(.ref x0)] 1 = mkF m 0 #[.val (.ref x0)] [] := by first | (simp [entryFrame, mkF, argsToLocals, Value.category]; done) | rfl
def Q18 (Z : State) (a1 : Addr) (p1 : Int32) (h0 : Heap) (n0 : Nat) (v : Option Value) (h : Heap) (L : List Loc) : Prop := v = some (.int p1) ∧ Fr n0 L ∧ h = h0
set_option maxHeartbeats 40000000 in
theorem rm18 (l : Launch) (Z : State) (a0 : Array Value) (hw : ∀ d ∈ tables_1, d.before a0 Z = true) (ws : List Jvm.Cond) (a1 : Addr) (p1 : Int32) (h0 : Heap) (n0 : Nat) (Z0 : n0 ≤ h0.size) (F0 : Fld Z h0 a1 "com/example/stockwright/stockwright/model/Page" "page" "I" (.int p1)) :
    MetFree l (⟨"com/example/stockwright/stockwright/model/Page", "page", "()I"⟩ : MethodName) (head1 (Jvm.Cond.code (⟨"com/example/stockwright/stockwright/model/Page", "page", "()I"⟩ : MethodName) prog_7_method_7_code 1 (some .int) :: ws) ({ frames := 0, cells := 0, slots := 0, locals := 0 } : Room)) (fun a U => a = #[(.ref a1)] ∧ Z.Warmed39 U.vm ∧ U.heap = h0) (fun _ _ _ _ _ => True) (fun _ U o U' => ∃ v L, o = .returned v ∧ Q18 Z a1 p1 h0 n0 v U'.heap L ∧ FrameEnd U o U' L ({ frames := 0, cells := 0, slots := 0, locals := 0 } : Room).cells ({ frames := 0, cells := 0, slots := 0, locals := 0 } : Room).slots) := by
  refine MetFree.of_bodySF (plainFor_of_name own_pn8) hisR ?_
  intro p e s m args below meth c s₁ Bd hml0 hP hK
  obtain ⟨rfl, hZ, hh⟩ := hP
  have hx := Bd.exec
  have hby := Bd.bytes
  have hml : c.maxLocals = 1 := hml0
  have hlk : meth.locks = false := BodyLoose.notSynchronized Bd
  have hown : s.vm.findClass "com/example/stockwright/stockwright/model/Page" = some m.cls := findClass_of_methodNamed Bd.named
  have hnm := (name_of_methodNamed Bd.named Bd.method).1
  have X0 : Stand p l e ({ frames := 0, cells := 0, slots := 0, locals := 0 } : Room) s m #[(.ref a1)] below meth c s₁ [] 0 0 := Stand.of_body Bd
  have e0 : s₁.heap = h0 := by rw [← hh, Bd.state]; rfl
  have N0 := Fr.nil n0
  show own_Go p e below s (Q18 Z a1 p1 h0 n0) ({ frames := 0, cells := 0, slots := 0, locals := 0 } : Room).cells ({ frames := 0, cells := 0, slots := 0, locals := 0 } : Room).slots _
  refine own_st (B := s₁.setTop (mkF m 0 #[.val (.ref a1)] [])) (fun t k => castTop (ef_18 m (a1)) k) ?_
  refine own_st (B := s₁.setTop (mkF m 1 #[.val (.ref a1)] [(.ref a1)])) (fun t k => XS.aloadN X0.here hx rfl (hb hby d18_0) rfl rfl k) ?_
  obtain ⟨T1, X1, e1, st1⟩ := getF X0 hx hZ hown (host := "") (Or.inl (w_105 hw)) Via.refl e0 F0 (g := (mkF m 1 #[.val (.ref a1)] [(.ref a1)])) rfl rfl (hb hby d18_1)
  refine own_st (B := T1.setTop (mkF m 4 #[.val (.ref a1)] [(.int p1)])) (fun t k => st1 t k) ?_
  refine own_retI X1 hx hlk Bd.returns (hb hby d18_4) (by decide) (by decide) ?_
  show Q18 Z a1 p1 h0 n0 _ T1.heap _
  rw [e1]
  exact ⟨rfl, N0, rfl⟩
theorem d19_0 : decode prog_7_method_8_code 0 = .ok (.aload_n 0, 1) := by decide +kernel
theorem d19_1 : decode prog_7_method_8_code 1 = .ok (.getfield 17, 3) := by decide +kernel
theorem d19_4 : decode prog_7_method_8_code 4 = .ok (.ireturn, 1) := by decide +kernel
theorem ef_19 (m : MethodId) (x0 : Addr) : entryFrame m #[(.ref x0)] 1 = mkF m 0 #[.val (.ref x0)] [] := by first | (simp [entryFrame, mkF, argsToLocals, Value.category]; done) | rfl
def Q19 (Z : State) (a1 : Addr) (p1 : Int32) (h0 : Heap) (n0 : Nat) (v : Option Value) (h : Heap) (L : List Loc) : Prop := v = some (.int p1) ∧ Fr n0 L ∧ h = h0
set_option maxHeartbeats 40000000 in
theorem rm19 (l : Launch) (Z : State) (a0 : Array Value) (hw : ∀ d ∈ tables_1, d.before a0 Z = true) (ws : List Jvm.Cond) (a1 : Addr) (p1 : Int32) (h0 : Heap) (n0 : Nat) (Z0 : n0 ≤ h0.size) (F0 : Fld Z h0 a1 "com/example/stockwright/stockwright/model/Page" "pageSize" "I" (.int p1)) :
    MetFree l (⟨"com/example/stockwright/stockwright/model/Page", "pageSize", "()I"⟩ : MethodName) (head1 (Jvm.Cond.code (⟨"com/example/stockwright/stockwright/model/Page", "pageSize", "()I"⟩ : MethodName) prog_7_method_8_code 1 (some .int) :: ws) ({ frames := 0, cells := 0, slots := 0, locals := 0 } : Room)) (fun a U => a = #[(.ref a1)] ∧ Z.Warmed39 U.vm ∧ U.heap = h0) (fun _ _ _ _ _ => True) (fun _ U o U' => ∃ v L, o = .returned v ∧ Q19 Z a1 p1 h0 n0 v U'.heap L ∧ FrameEnd U o U' L ({ frames := 0, cells := 0, slots := 0, locals := 0 } : Room).cells ({ frames := 0, cells := 0, slots := 0, locals := 0 } : Room).slots) := by
  refine MetFree.of_bodySF (plainFor_of_name own_pn8) hisR ?_
  intro p e s m args below meth c s₁ Bd hml0 hP hK
  obtain ⟨rfl, hZ, hh⟩ := hP
  have hx := Bd.exec
  have hby := Bd.bytes
  have hml : c.maxLocals = 1 := hml0
  have hlk : meth.locks = false := BodyLoose.notSynchronized Bd
  have hown : s.vm.findClass "com/example/stockwright/stockwright/model/Page" = some m.cls := findClass_of_methodNamed Bd.named
  have hnm := (name_of_methodNamed Bd.named Bd.method).1
  have X0 : Stand p l e ({ frames := 0, cells := 0, slots := 0, locals := 0 } : Room) s m #[(.ref a1)] below meth c s₁ [] 0 0 := Stand.of_body Bd
  have e0 : s₁.heap = h0 := by rw [← hh, Bd.state]; rfl
  have N0 := Fr.nil n0
  show own_Go p e below s (Q19 Z a1 p1 h0 n0) ({ frames := 0, cells := 0, slots := 0, locals := 0 } : Room).cells ({ frames := 0, cells := 0, slots := 0, locals := 0 } : Room).slots _
  refine own_st (B := s₁.setTop (mkF m 0 #[.val (.ref a1)] [])) (fun t k => castTop (ef_19 m (a1)) k) ?_
  refine own_st (B := s₁.setTop (mkF m 1 #[.val (.ref a1)] [(.ref a1)])) (fun t k => XS.aloadN X0.here hx rfl (hb hby d19_0) rfl rfl k) ?_
  obtain ⟨T1, X1, e1, st1⟩ := getF X0 hx hZ hown (host := "") (Or.inl (w_107 hw)) Via.refl e0 F0 (g := (mkF m 1 #[.val (.ref a1)] [(.ref a1)])) rfl rfl (hb hby d19_1)
  refine own_st (B := T1.setTop (mkF m 4 #[.val (.ref a1)] [(.int p1)])) (fun t k => st1 t k) ?_
  refine own_retI X1 hx hlk Bd.returns (hb hby d19_4) (by decide) (by decide) ?_
  show Q19 Z a1 p1 h0 n0 _ T1.heap _
  rw [e1]
  exact ⟨rfl, N0, rfl⟩
theorem d20_0 : decode prog_7_method_9_code 0 = .ok (.aload_n 0, 1) := by decide +kernel
theorem d20_1 : decode prog_7_method_9_code 1 = .ok (.getfield 20, 3) := by decide +kernel
theorem d20_4 : decode prog_7_method_9_code 4 = .ok (.lreturn, 1) := by decide +kernel
theorem ef_20 (m : MethodId) (x0 : Addr) : entryFrame m #[(.ref x0)] 1 = mkF m 0 #[.val (.ref x0)] [] := by first | (simp [entryFrame, mkF, argsToLocals, Value.category]; done) | rfl
def Q20 (Z : State) (a1 : Addr) (q1 : Int64) (h0 : Heap) (n0 : Nat) (v : Option Value) (h : Heap) (L : List Loc) : Prop := v = some (.long q1) ∧ Fr n0 L ∧ h = h0
set_option maxHeartbeats 40000000 in
theorem rm20 (l : Launch) (Z : State) (a0 : Array Value) (hw : ∀ d ∈ tables_1, d.before a0 Z = true) (ws : List Jvm.Cond) (a1 : Addr) (q1 : Int64) (h0 : Heap) (n0 : Nat) (Z0 : n0 ≤ h0.size) (F0 : Fld Z h0 a1 "com/example/stockwright/stockwright/model/Page" "totalItems" "J" (.long q1)) :
    MetFree l (⟨"com/example/stockwright/stockwright/model/Page", "totalItems", "()J"⟩ : MethodName) (head1 (Jvm.Cond.code (⟨"com/example/stockwright/stockwright/model/Page", "totalItems", "()J"⟩ : MethodName) prog_7_method_9_code 1 (some .long) :: ws) ({ frames := 0, cells := 0, slots := 0, locals := 0 } : Room)) (fun a U => a = #[(.ref a1)] ∧ Z.Warmed39 U.vm ∧ U.heap = h0) (fun _ _ _ _ _ => True) (fun _ U o U' => ∃ v L, o = .returned v ∧ Q20 Z a1 q1 h0 n0 v U'.heap L ∧ FrameEnd U o U' L ({ frames := 0, cells := 0, slots := 0, locals := 0 } : Room).cells ({ frames := 0, cells := 0, slots := 0, locals := 0 } : Room).slots) := by
  refine MetFree.of_bodySF (plainFor_of_name own_pn8) hisR ?_
  intro p e s m args below meth c s₁ Bd hml0 hP hK
  obtain ⟨rfl, hZ, hh⟩ := hP
  have hx := Bd.exec
  have hby := Bd.bytes
  have hml : c.maxLocals = 1 := hml0
  have hlk : meth.locks = false := BodyLoose.notSynchronized Bd
  have hown : s.vm.findClass "com/example/stockwright/stockwright/model/Page" = some m.cls := findClass_of_methodNamed Bd.named
  have hnm := (name_of_methodNamed Bd.named Bd.method).1
  have X0 : Stand p l e ({ frames := 0, cells := 0, slots := 0, locals := 0 } : Room) s m #[(.ref a1)] below meth c s₁ [] 0 0 := Stand.of_body Bd
  have e0 : s₁.heap = h0 := by rw [← hh, Bd.state]; rfl
  have N0 := Fr.nil n0
  show own_Go p e below s (Q20 Z a1 q1 h0 n0) ({ frames := 0, cells := 0, slots := 0, locals := 0 } : Room).cells ({ frames := 0, cells := 0, slots := 0, locals := 0 } : Room).slots _
  refine own_st (B := s₁.setTop (mkF m 0 #[.val (.ref a1)] [])) (fun t k => castTop (ef_20 m (a1)) k) ?_
  refine own_st (B := s₁.setTop (mkF m 1 #[.val (.ref a1)] [(.ref a1)])) (fun t k => XS.aloadN X0.here hx rfl (hb hby d20_0) rfl rfl k) ?_
  obtain ⟨T1, X1, e1, st1⟩ := getF X0 hx hZ hown (host := "") (Or.inl (w_109 hw)) Via.refl e0 F0 (g := (mkF m 1 #[.val (.ref a1)] [(.ref a1)])) rfl rfl (hb hby d20_1)
  refine own_st (B := T1.setTop (mkF m 4 #[.val (.ref a1)] [(.long q1)])) (fun t k => st1 t k) ?_
  refine own_retJ X1 hx hlk Bd.returns (hb hby d20_4) (by decide) (by decide) ?_
  show Q20 Z a1 q1 h0 n0 _ T1.heap _
  rw [e1]
  exact ⟨rfl, N0, rfl⟩
theorem d21_0 : decode prog_7_method_10_code 0 = .ok (.aload_n 0, 1) := by decide +kernel
theorem d21_1 : decode prog_7_method_10_code 1 = .ok (.getfield 24, 3) := by decide +kernel
theorem d21_4 : decode prog_7_method_10_code 4 = .ok (.lreturn, 1) := by decide +kernel
theorem ef_21 (m : MethodId) (x0 : Addr) : entryFrame m #[(.ref x0)] 1 = mkF m 0 #[.val (.ref x0)] [] := by first | (simp [entryFrame, mkF, argsToLocals, Value.category]; done) | rfl
def Q21 (Z : State) (a1 : Addr) (q1 : Int64) (h0 : Heap) (n0 : Nat) (v : Option Value) (h : Heap) (L : List Loc) : Prop := v = some (.long q1) ∧ Fr n0 L ∧ h = h0
set_option maxHeartbeats 40000000 in
theorem rm21 (l : Launch) (Z : State) (a0 : Array Value) (hw : ∀ d ∈ tables_1, d.before a0 Z = true) (ws : List Jvm.Cond) (a1 : Addr) (q1 : Int64) (h0 : Heap) (n0 : Nat) (Z0 : n0 ≤ h0.size) (F0 : Fld Z h0 a1 "com/example/stockwright/stockwright/model/Page" "totalPages" "J" (.long q1)) :
    MetFree l (⟨"com/example/stockwright/stockwright/model/Page", "totalPages", "()J"⟩ : MethodName) (head1 (Jvm.Cond.code (⟨"com/example/stockwright/stockwright/model/Page", "totalPages", "()J"⟩ : MethodName) prog_7_method_10_code 1 (some .long) :: ws) ({ frames := 0, cells := 0, slots := 0, locals := 0 } : Room)) (fun a U => a = #[(.ref a1)] ∧ Z.Warmed39 U.vm ∧ U.heap = h0) (fun _ _ _ _ _ => True) (fun _ U o U' => ∃ v L, o = .returned v ∧ Q21 Z a1 q1 h0 n0 v U'.heap L ∧ FrameEnd U o U' L ({ frames := 0, cells := 0, slots := 0, locals := 0 } : Room).cells ({ frames := 0, cells := 0, slots := 0, locals := 0 } : Room).slots) := by
  refine MetFree.of_bodySF (plainFor_of_name own_pn8) hisR ?_
  intro p e s m args below meth c s₁ Bd hml0 hP hK
  obtain ⟨rfl, hZ, hh⟩ := hP
  have hx := Bd.exec
  have hby := Bd.bytes
  have hml : c.maxLocals = 1 := hml0
  have hlk : meth.locks = false := BodyLoose.notSynchronized Bd
  have hown : s.vm.findClass "com/example/stockwright/stockwright/model/Page" = some m.cls := findClass_of_methodNamed Bd.named
  have hnm := (name_of_methodNamed Bd.named Bd.method).1
  have X0 : Stand p l e ({ frames := 0, cells := 0, slots := 0, locals := 0 } : Room) s m #[(.ref a1)] below meth c s₁ [] 0 0 := Stand.of_body Bd
  have e0 : s₁.heap = h0 := by rw [← hh, Bd.state]; rfl
  have N0 := Fr.nil n0
  show own_Go p e below s (Q21 Z a1 q1 h0 n0) ({ frames := 0, cells := 0, slots := 0, locals := 0 } : Room).cells ({ frames := 0, cells := 0, slots := 0, locals := 0 } : Room).slots _
  refine own_st (B := s₁.setTop (mkF m 0 #[.val (.ref a1)] [])) (fun t k => castTop (ef_21 m (a1)) k) ?_
  refine own_st (B := s₁.setTop (mkF m 1 #[.val (.ref a1)] [(.ref a1)])) (fun t k => XS.aloadN X0.here hx rfl (hb hby d21_0) rfl rfl k) ?_
  obtain ⟨T1, X1, e1, st1⟩ := getF X0 hx hZ hown (host := "") (Or.inl (w_111 hw)) Via.refl e0 F0 (g := (mkF m 1 #[.val (.ref a1)] [(.ref a1)])) rfl rfl (hb hby d21_1)
  refine own_st (B := T1.setTop (mkF m 4 #[.val (.ref a1)] [(.long q1)])) (fun t k => st1 t k) ?_
  refine own_retJ X1 hx hlk Bd.returns (hb hby d21_4) (by decide) (by decide) ?_
  show Q21 Z a1 q1 h0 n0 _ T1.heap _
  rw [e1]
  exact ⟨rfl, N0, rfl⟩
theorem own_sz {x v : Int32} (e : v = 1 + ((x &&& 2147483647) % 100)) : 1 ≤ v.toInt ∧ v.toInt ≤ 100 := by
  have h1 := c_mask x 2147483647 31 (by decide) (by decide)
  have h2 := c_irem (x &&& 2147483647) 100 100 rfl
  have h3 := c_iadd 1 ((x &&& 2147483647) % 100)
  have h4 := rng32 (1 + (x &&& 2147483647) % 100)
  have h5 : (1 : Int32).toInt = 1 := rfl
  rw [← e] at h3 h4
  omega
theorem own_tot {t v : Int64} {c : Prop} [Decidable c] (e : v = if c then t &&& 4611686018427387903 else t &&& 511) : 0 ≤ v.toInt ∧ v.toInt ≤ 4611686018427387903 := by
  have h1 := c_maskL t 4611686018427387903 62 (by decide) (by decide)
  have h2 := c_maskL t 511 9 (by decide) (by decide)
  rw [e]
  split
  · rw [h1]; omega
  · rw [h2]; omega
theorem own_cei {T d : Int} (hd : 1 ≤ d) : (T % d = 0 → (T + d - 1) / d = T / d) ∧ (T % d ≠ 0 → (T + d - 1) / d = T / d + 1) := by
  have h0 : d ≠ 0 := by omega
  have h1 := Int.emod_def T d
  have h2 := Int.emod_nonneg T h0
  have h3 := Int.emod_lt_of_pos T (show 0 < d by omega)
  refine ⟨fun h => ?_, fun h => ?_⟩
  · have h4 : T + d - 1 = (d - 1) + d * (T / d) := by omega
    rw [h4, Int.add_mul_ediv_left _ _ h0, Int.ediv_eq_zero_of_lt (a := d - 1) (b := d) (by omega) (by omega)]
    omega
  · have h4 : T + d - 1 = (T % d - 1) + d * (T / d + 1) := by
      rw [Int.mul_add, Int.mul_one]
      omega
    rw [h4, Int.add_mul_ediv_left _ _ h0, Int.ediv_eq_zero_of_lt (a := T % d - 1) (b := d) (by omega) (by omega)]
    omega
theorem own_ceil {t q r x : Int64} {s : Int32} (ht : 0 ≤ t.toInt ∧ t.toInt ≤ 4611686018427387903) (hs : 1 ≤ s.toInt ∧ s.toInt ≤ 100) (eq : q = t / s.toInt64) (er : r = t % s.toInt64) (ex : x = if r = 0 then q else q + 1) :
    ((t + s.toInt64) - 1) / s.toInt64 = x ∧ (t = 0 ↔ x = 0) := by
  have e1 := c_i2l s
  generalize s.toInt64 = S at e1 eq er ⊢
  generalize s.toInt = d at e1 hs
  have z0 : (0 : Int64).toInt = 0 := rfl
  have z1 : (1 : Int64).toInt = 1 := rfl
  have hn : S ≠ -1 := fun h => by
    rw [h] at e1
    have h9 : (-1 : Int64).toInt = -1 := rfl
    omega
  have h1 := c_ladd t S
  have h2 := c_lsub (t + S) 1
  have h3 := rng64 (t + S)
  have h4 := rng64 (t + S - 1)
  have h9 : (t + S - 1).toInt = t.toInt + d - 1 := by omega
  have h6 := (c_ldiv (t + S - 1) S d e1 hn).1 (by omega)
  have h7 := (c_ldiv t S d e1 hn).1 ht.1
  have h8 := (c_lrem t S d e1).1 ht.1
  rw [lrem_mod] at h8
  obtain ⟨c1, c2⟩ := own_cei (T := t.toInt) (d := d) hs.1
  rw [h9] at h6
  have h10 : 0 ≤ t.toInt / d := Int.ediv_nonneg ht.1 (by omega)
  have h11 : t.toInt / d ≤ t.toInt := Int.ediv_le_self _ ht.1
  by_cases hr : t.toInt % d = 0
  · have hr0 : r = 0 := by
      apply Int64.toInt_inj.mp
      rw [er, h8, hr]; rfl
    rw [if_pos hr0, eq] at ex
    rw [ex]
    refine ⟨Int64.toInt_inj.mp (by rw [h6, h7, c1 hr]), ?_⟩
    have hz : t.toInt = 0 ↔ t.toInt / d = 0 := ⟨fun h => by rw [h]; exact Int.zero_ediv d, fun h => by
      have g := Int.emod_def t.toInt d
      rw [h, hr, Int.mul_zero] at g
      omega⟩
    rw [← Int64.toInt_inj (x := t) (y := 0), ← Int64.toInt_inj (x := t / S) (y := 0), h7, z0]
    exact hz
  · have hr0 : r ≠ 0 := fun h => hr (by rw [← h8, ← er, h]; rfl)
    rw [if_neg hr0, eq] at ex
    rw [ex]
    have g1 := c_ladd (t / S) 1
    have g2 := rng64 (t / S + 1)
    refine ⟨Int64.toInt_inj.mp (by rw [h6, c2 hr]; omega), fun h => absurd (by rw [h, z0]; exact Int.zero_emod d) hr, fun h => ?_⟩
    have g3 := congrArg Int64.toInt h
    omega
theorem own_pd16 : parseMethodDescriptor "(I)Ljava/lang/Integer;" = some ⟨[.int], some (.object "java/lang/Integer")⟩ := by decide +kernel
theorem own_pd17 : parseMethodDescriptor "(Ljava/lang/Object;)Z" = some ⟨[(.object "java/lang/Object")], some .boolean⟩ := by decide +kernel
theorem own_pd18 : parseMethodDescriptor "(II)V" = some ⟨[.int, .int], none⟩ := by decide +kernel
theorem own_pd19 : parseMethodDescriptor "(Ljava/util/List;Lcom/example/stockwright/stockwright/model/PageRequest;J)Lcom/example/stockwright/stockwright/model/Page;" = some ⟨[(.object "java/util/List"), (.object "com/example/stockwright/stockwright/model/PageRequest"), .long], some (.object "com/example/stockwright/stockwright/model/Page")⟩ := by decide +kernel
theorem own_pd20 : parseMethodDescriptor "()Ljava/util/List;" = some ⟨[], some (.object "java/util/List")⟩ := by decide +kernel
theorem own_pd21 : parseMethodDescriptor "()J" = some ⟨[], some .long⟩ := by decide +kernel
theorem own_pn9 : plainName "com/example/stockwright/stockwright/model/PageOfPinLaw" = true := by first | (simp [plainName, overriddenIn]; done) | decide +kernel
theorem ef_0 (m : MethodId) (x0 : Int64) (x1 : Int32) (x2 : Int32) (x3 : Int32) (x4 : Int32) : entryFrame m #[(.long x0), (.int x1), (.int x2), (.int x3), (.int x4)] maxLocals = mkF m 0 #[.val (.long x0), .second, .val (.int x1), .val (.int x2), .val (.int x3), .val (.int x4), .unset, .unset, .unset, .unset, .unset, .unset, .unset, .unset, .unset, .unset, .unset, .unset, .unset, .unset] [] := by first | (simp [entryFrame, mkF, argsToLocals, Value.category, maxLocals]; done) | rfl
def Q0 (Z : State) (arg0 : Int64) (arg1 : Int32) (arg2 : Int32) (arg3 : Int32) (arg4 : Int32) (ca : Addr) (dca : Addr) (h0 : Heap) (n0 : Nat) (v : Option Value) (h : Heap) (L : List Loc) : Prop := v = some (.int 1) ∧ Fr n0 L
set_option maxHeartbeats 40000000 in
theorem rm0 (l : Launch) (Z : State) (a0 : Array Value) (hw : ∀ d ∈ tables_1, d.before a0 Z = true) (ws : List Jvm.Cond) (arg0 : Int64) (arg1 : Int32) (arg2 : Int32) (arg3 : Int32) (arg4 : Int32) (ca : Addr) (dca : Addr) (h0 : Heap) (n0 : Nat) (Z0 : n0 ≤ h0.size) (F0 : Sta Z h0 "java/lang/Integer$IntegerCache" "high" "I" (.int (127 : Int32))) (F1 : Sta Z h0 "java/lang/Integer$IntegerCache" "cache" "[Ljava/lang/Integer;" (.ref ca)) (F2 : own_Cache Z h0 ca) (F3 : Sta Z h0 "java/util/ArrayList" "DEFAULTCAPACITY_EMPTY_ELEMENTDATA" "[Ljava/lang/Object;" (.ref dca)) (F4 : own_A Z h0 dca (.object "java/lang/Object") ([] : List Value)) (F5 : Exa Z h0 dca "[Ljava/lang/Object;") :
    MetFree l x (head1 (Jvm.Cond.code x code maxLocals ret :: ws) room_1) (fun a U => a = #[(.long arg0), (.int arg1), (.int arg2), (.int arg3), (.int arg4)] ∧ Z.Warmed39 U.vm ∧ U.heap = h0) (fun _ _ _ _ _ => True) (fun _ U o U' => ∃ v L, o = .returned v ∧ Q0 Z arg0 arg1 arg2 arg3 arg4 ca dca h0 n0 v U'.heap L ∧ FrameEnd U o U' L 24 128) := by
  refine MetFree.of_bodySF (plainFor_of_name own_pn9) hisR ?_
  intro p e s m args below meth c s₁ Bd hml0 hP hK
  obtain ⟨rfl, hZ, hh⟩ := hP
  have hx := Bd.exec
  have hby := Bd.bytes
  have hml : c.maxLocals = 20 := hml0
  have hlk : meth.locks = false := BodyLoose.notSynchronized Bd
  have hown : s.vm.findClass "com/example/stockwright/stockwright/model/PageOfPinLaw" = some m.cls := findClass_of_methodNamed Bd.named
  have hnm := (name_of_methodNamed Bd.named Bd.method).1
  have X0 : Stand p l e room_1 s m #[(.long arg0), (.int arg1), (.int arg2), (.int arg3), (.int arg4)] below meth c s₁ [] 0 0 := Stand.of_body Bd
  have e0 : s₁.heap = h0 := by rw [← hh, Bd.state]; rfl
  have N0 := Fr.nil n0
  show own_Go p e below s (Q0 Z arg0 arg1 arg2 arg3 arg4 ca dca h0 n0) 24 128 _
  refine own_st (B := s₁.setTop (mkF m 0 #[.val (.long arg0), .second, .val (.int arg1), .val (.int arg2), .val (.int arg3), .val (.int arg4), .unset, .unset, .unset, .unset, .unset, .unset, .unset, .unset, .unset, .unset, .unset, .unset, .unset, .unset] [])) (fun t k => castTop (ef_0 m (arg0) (arg1) (arg2) (arg3) (arg4)) k) ?_
  refine own_st (B := s₁.setTop (mkF m 1 #[.val (.long arg0), .second, .val (.int arg1), .val (.int arg2), .val (.int arg3), .val (.int arg4), .unset, .unset, .unset, .unset, .unset, .unset, .unset, .unset, .unset, .unset, .unset, .unset, .unset, .unset] [(.int (1 : Int32))])) (fun t k => XS.iconst X0.here hx rfl (hb hby at_0) k) ?_
  refine own_st (B := s₁.setTop (mkF m 2 #[.val (.long arg0), .second, .val (.int arg1), .val (.int arg2), .val (.int arg3), .val (.int arg4), .unset, .unset, .unset, .unset, .unset, .unset, .unset, .unset, .unset, .unset, .unset, .unset, .unset, .unset] [(.int arg1), (.int (1 : Int32))])) (fun t k => XS.iloadN X0.here hx rfl (hb hby at_1) rfl k) ?_
  refine own_st (B := s₁.setTop (mkF m 4 #[.val (.long arg0), .second, .val (.int arg1), .val (.int arg2), .val (.int arg3), .val (.int arg4), .unset, .unset, .unset, .unset, .unset, .unset, .unset, .unset, .unset, .unset, .unset, .unset, .unset, .unset] [(.int (2147483647 : Int32)), (.int arg1), (.int (1 : Int32))])) (fun t k => X0.ldcInt hx hown (mvT hZ (w_0 hw)) (g := (mkF m 2 #[.val (.long arg0), .second, .val (.int arg1), .val (.int arg2), .val (.int arg3), .val (.int arg4), .unset, .unset, .unset, .unset, .unset, .unset, .unset, .unset, .unset, .unset, .unset, .unset, .unset, .unset] [(.int arg1), (.int (1 : Int32))])) rfl (hb hby at_2) _ k) ?_
  refine own_st (B := s₁.setTop (mkF m 5 #[.val (.long arg0), .second, .val (.int arg1), .val (.int arg2), .val (.int arg3), .val (.int arg4), .unset, .unset, .unset, .unset, .unset, .unset, .unset, .unset, .unset, .unset, .unset, .unset, .unset, .unset] [(.int (arg1 &&& (2147483647 : Int32))), (.int (1 : Int32))])) (fun t k => XS.iand X0.here hx rfl (hb hby at_4) rfl k) ?_
  refine own_st (B := s₁.setTop (mkF m 7 #[.val (.long arg0), .second, .val (.int arg1), .val (.int arg2), .val (.int arg3), .val (.int arg4), .unset, .unset, .unset, .unset, .unset, .unset, .unset, .unset, .unset, .unset, .unset, .unset, .unset, .unset] [(.int (100 : Int32)), (.int (arg1 &&& (2147483647 : Int32))), (.int (1 : Int32))])) (fun t k => XS.bipush X0.here hx rfl (hb hby at_5) k) ?_
  refine own_st (B := s₁.setTop (mkF m 8 #[.val (.long arg0), .second, .val (.int arg1), .val (.int arg2), .val (.int arg3), .val (.int arg4), .unset, .unset, .unset, .unset, .unset, .unset, .unset, .unset, .unset, .unset, .unset, .unset, .unset, .unset] [(.int ((arg1 &&& (2147483647 : Int32)) % (100 : Int32))), (.int (1 : Int32))])) (fun t k => iremM X0 hx (g := (mkF m 7 #[.val (.long arg0), .second, .val (.int arg1), .val (.int arg2), .val (.int arg3), .val (.int arg4), .unset, .unset, .unset, .unset, .unset, .unset, .unset, .unset, .unset, .unset, .unset, .unset, .unset, .unset] [(.int (100 : Int32)), (.int (arg1 &&& (2147483647 : Int32))), (.int (1 : Int32))])) rfl (x := (arg1 &&& (2147483647 : Int32))) (y := (100 : Int32)) (rest := [(.int (1 : Int32))]) (hb hby at_7) rfl (by decide) k) ?_
  refine own_st (B := s₁.setTop (mkF m 9 #[.val (.long arg0), .second, .val (.int arg1), .val (.int arg2), .val (.int arg3), .val (.int arg4), .unset, .unset, .unset, .unset, .unset, .unset, .unset, .unset, .unset, .unset, .unset, .unset, .unset, .unset] [(.int ((1 : Int32) + ((arg1 &&& (2147483647 : Int32)) % (100 : Int32))))])) (fun t k => XS.iadd X0.here hx rfl (hb hby at_8) rfl k) ?_
  obtain ⟨v1, ev1⟩ : ∃ z : Int32, z = ((1 : Int32) + ((arg1 &&& (2147483647 : Int32)) % (100 : Int32))) := ⟨_, rfl⟩
  rw [← ev1]
  refine own_st (B := s₁.setTop (mkF m 11 #[.val (.long arg0), .second, .val (.int arg1), .val (.int arg2), .val (.int arg3), .val (.int arg4), .val (.int v1), .unset, .unset, .unset, .unset, .unset, .unset, .unset, .unset, .unset, .unset, .unset, .unset, .unset] [])) (fun t k => XS.istore X0.here hx rfl (hb hby at_9) rfl (l' := #[.val (.long arg0), .second, .val (.int arg1), .val (.int arg2), .val (.int arg3), .val (.int arg4), .val (.int v1), .unset, .unset, .unset, .unset, .unset, .unset, .unset, .unset, .unset, .unset, .unset, .unset, .unset]) rfl k) ?_
  refine own_st (B := s₁.setTop (mkF m 12 #[.val (.long arg0), .second, .val (.int arg1), .val (.int arg2), .val (.int arg3), .val (.int arg4), .val (.int v1), .unset, .unset, .unset, .unset, .unset, .unset, .unset, .unset, .unset, .unset, .unset, .unset, .unset] [(.int (1 : Int32))])) (fun t k => XS.iconst X0.here hx rfl (hb hby at_11) k) ?_
  refine own_st (B := s₁.setTop (mkF m 13 #[.val (.long arg0), .second, .val (.int arg1), .val (.int arg2), .val (.int arg3), .val (.int arg4), .val (.int v1), .unset, .unset, .unset, .unset, .unset, .unset, .unset, .unset, .unset, .unset, .unset, .unset, .unset] [(.int arg2), (.int (1 : Int32))])) (fun t k => XS.iloadN X0.here hx rfl (hb hby at_12) rfl k) ?_
  obtain ⟨_, _, ⟨T2, L2, k2, j2⟩, -, X2, ⟨Lc2, hQ2, l2, y2_, z2_⟩, st2⟩ := Jvm.LawKit.callS X0 hx (y := (⟨"java/lang/Math", "max", "(II)I"⟩ : MethodName)) hown (mvT hZ (w_1 hw)) (mvT hZ (w_2 hw)) (mvT hZ (w_3 hw)) (mvT hZ (w_4 hw)) (by decide) (backOf (W := 0) (rm1 l Z a0 hw [] (1 : Int32) arg2 h0 n0 Z0 ) hZ (w_4 hw) (w_3 hw) (by decide) (by decide)) (g := (mkF m 13 #[.val (.long arg0), .second, .val (.int arg1), .val (.int arg2), .val (.int arg3), .val (.int arg4), .val (.int v1), .unset, .unset, .unset, .unset, .unset, .unset, .unset, .unset, .unset, .unset, .unset, .unset, .unset] [(.int arg2), (.int (1 : Int32))])) rfl (by rw [hml]; rfl) (argsL := [(.int (1 : Int32)), (.int arg2)]) (rest := []) (lenOf own_pd7 rfl) rfl (by show 2 * 0 + _ ≤ _; exact Nat.le_of_eq rfl) (hb hby at_13) (fun _ _ => ⟨rfl, e0, (by decide : 0 + 0 ≤ _), (by decide : 0 + 0 ≤ _)⟩)
  dsimp only [Pt.U, Pt.locs, Pt.cells, Pt.slots] at X2 l2 y2_ z2_ st2 hQ2
  subst l2 y2_ z2_
  obtain ⟨rfl, N2q, e2q⟩ := hQ2
  have N2 := Fr.app N0 N2q
  refine own_st (B := T2.setTop (mkF m 16 #[.val (.long arg0), .second, .val (.int arg1), .val (.int arg2), .val (.int arg3), .val (.int arg4), .val (.int v1), .unset, .unset, .unset, .unset, .unset, .unset, .unset, .unset, .unset, .unset, .unset, .unset, .unset] [(.int (own_max (1 : Int32) arg2))])) (fun t k => st2 t k) ?_
  obtain ⟨v3, ev3⟩ : ∃ z : Int32, z = (own_max (1 : Int32) arg2) := ⟨_, rfl⟩
  rw [← ev3]
  refine own_st (B := T2.setTop (mkF m 18 #[.val (.long arg0), .second, .val (.int arg1), .val (.int arg2), .val (.int arg3), .val (.int arg4), .val (.int v1), .val (.int v3), .unset, .unset, .unset, .unset, .unset, .unset, .unset, .unset, .unset, .unset, .unset, .unset] [])) (fun t k => XS.istore X2.here hx rfl (hb hby at_16) rfl (l' := #[.val (.long arg0), .second, .val (.int arg1), .val (.int arg2), .val (.int arg3), .val (.int arg4), .val (.int v1), .val (.int v3), .unset, .unset, .unset, .unset, .unset, .unset, .unset, .unset, .unset, .unset, .unset, .unset]) rfl k) ?_
  refine own_st (B := T2.setTop (mkF m 20 #[.val (.long arg0), .second, .val (.int arg1), .val (.int arg2), .val (.int arg3), .val (.int arg4), .val (.int v1), .val (.int v3), .unset, .unset, .unset, .unset, .unset, .unset, .unset, .unset, .unset, .unset, .unset, .unset] [(.int arg4)])) (fun t k => XS.iload X2.here hx rfl (hb hby at_18) rfl k) ?_
  refine own_st (B := T2.setTop (mkF m 21 #[.val (.long arg0), .second, .val (.int arg1), .val (.int arg2), .val (.int arg3), .val (.int arg4), .val (.int v1), .val (.int v3), .unset, .unset, .unset, .unset, .unset, .unset, .unset, .unset, .unset, .unset, .unset, .unset] [(.int (1 : Int32)), (.int arg4)])) (fun t k => XS.iconst X2.here hx rfl (hb hby at_20) k) ?_
  refine own_st (B := T2.setTop (mkF m 22 #[.val (.long arg0), .second, .val (.int arg1), .val (.int arg2), .val (.int arg3), .val (.int arg4), .val (.int v1), .val (.int v3), .unset, .unset, .unset, .unset, .unset, .unset, .unset, .unset, .unset, .unset, .unset, .unset] [(.int (arg4 &&& (1 : Int32)))])) (fun t k => XS.iand X2.here hx rfl (hb hby at_21) rfl k) ?_
  refine own_cut (P := ∀ (v5 : Int64), (v5 = (if (arg4 &&& (1 : Int32)) = (0 : Int32) then (arg0 &&& (4611686018427387903 : Int64)) else (arg0 &&& (511 : Int64)))) → own_Go p e below s (Q0 Z arg0 arg1 arg2 arg3 arg4 ca dca h0 n0) 24 128 (T2.setTop (mkF m 38 #[.val (.long arg0), .second, .val (.int arg1), .val (.int arg2), .val (.int arg3), .val (.int arg4), .val (.int v1), .val (.int v3), .unset, .unset, .unset, .unset, .unset, .unset, .unset, .unset, .unset, .unset, .unset, .unset] [(.long v5)]))) (fun J6 => ?_) ?_
  · by_cases hc4 : (arg4 &&& (1 : Int32)) = (0 : Int32)
    · refine own_st (B := T2.setTop (mkF m 33 #[.val (.long arg0), .second, .val (.int arg1), .val (.int arg2), .val (.int arg3), .val (.int arg4), .val (.int v1), .val (.int v3), .unset, .unset, .unset, .unset, .unset, .unset, .unset, .unset, .unset, .unset, .unset, .unset] [])) (fun t k => XS.ifYes X2.here hx rfl (pc0 := 22) (pc' := 33) rfl (hb hby at_22) rfl (XT.i0_eq_t hc4) (by decide) (by decide) k) ?_
      refine own_st (B := T2.setTop (mkF m 34 #[.val (.long arg0), .second, .val (.int arg1), .val (.int arg2), .val (.int arg3), .val (.int arg4), .val (.int v1), .val (.int v3), .unset, .unset, .unset, .unset, .unset, .unset, .unset, .unset, .unset, .unset, .unset, .unset] [(.long arg0)])) (fun t k => XS.lloadN X2.here hx rfl (hb hby at_33) rfl k) ?_
      refine own_st (B := T2.setTop (mkF m 37 #[.val (.long arg0), .second, .val (.int arg1), .val (.int arg2), .val (.int arg3), .val (.int arg4), .val (.int v1), .val (.int v3), .unset, .unset, .unset, .unset, .unset, .unset, .unset, .unset, .unset, .unset, .unset, .unset] [(.long (4611686018427387903 : Int64)), (.long arg0)])) (fun t k => X2.ldc2Long hx hown (mvT hZ (w_138 hw)) (g := (mkF m 34 #[.val (.long arg0), .second, .val (.int arg1), .val (.int arg2), .val (.int arg3), .val (.int arg4), .val (.int v1), .val (.int v3), .unset, .unset, .unset, .unset, .unset, .unset, .unset, .unset, .unset, .unset, .unset, .unset] [(.long arg0)])) rfl (hb hby at_34) _ k) ?_
      refine own_st (B := T2.setTop (mkF m 38 #[.val (.long arg0), .second, .val (.int arg1), .val (.int arg2), .val (.int arg3), .val (.int arg4), .val (.int v1), .val (.int v3), .unset, .unset, .unset, .unset, .unset, .unset, .unset, .unset, .unset, .unset, .unset, .unset] [(.long (arg0 &&& (4611686018427387903 : Int64)))])) (fun t k => XS.land X2.here hx rfl (hb hby at_37) rfl k) ?_
      exact J6 (arg0 &&& (4611686018427387903 : Int64)) (by rw [if_pos hc4])
    · refine own_st (B := T2.setTop (mkF m 25 #[.val (.long arg0), .second, .val (.int arg1), .val (.int arg2), .val (.int arg3), .val (.int arg4), .val (.int v1), .val (.int v3), .unset, .unset, .unset, .unset, .unset, .unset, .unset, .unset, .unset, .unset, .unset, .unset] [])) (fun t k => XS.ifNo X2.here hx rfl (hb hby at_22) rfl (XT.i0_eq_f hc4) k) ?_
      refine own_st (B := T2.setTop (mkF m 26 #[.val (.long arg0), .second, .val (.int arg1), .val (.int arg2), .val (.int arg3), .val (.int arg4), .val (.int v1), .val (.int v3), .unset, .unset, .unset, .unset, .unset, .unset, .unset, .unset, .unset, .unset, .unset, .unset] [(.long arg0)])) (fun t k => XS.lloadN X2.here hx rfl (hb hby at_25) rfl k) ?_
      refine own_st (B := T2.setTop (mkF m 29 #[.val (.long arg0), .second, .val (.int arg1), .val (.int arg2), .val (.int arg3), .val (.int arg4), .val (.int v1), .val (.int v3), .unset, .unset, .unset, .unset, .unset, .unset, .unset, .unset, .unset, .unset, .unset, .unset] [(.long (511 : Int64)), (.long arg0)])) (fun t k => X2.ldc2Long hx hown (mvT hZ (w_5 hw)) (g := (mkF m 26 #[.val (.long arg0), .second, .val (.int arg1), .val (.int arg2), .val (.int arg3), .val (.int arg4), .val (.int v1), .val (.int v3), .unset, .unset, .unset, .unset, .unset, .unset, .unset, .unset, .unset, .unset, .unset, .unset] [(.long arg0)])) rfl (hb hby at_26) _ k) ?_
      refine own_st (B := T2.setTop (mkF m 30 #[.val (.long arg0), .second, .val (.int arg1), .val (.int arg2), .val (.int arg3), .val (.int arg4), .val (.int v1), .val (.int v3), .unset, .unset, .unset, .unset, .unset, .unset, .unset, .unset, .unset, .unset, .unset, .unset] [(.long (arg0 &&& (511 : Int64)))])) (fun t k => XS.land X2.here hx rfl (hb hby at_29) rfl k) ?_
      refine own_st (B := T2.setTop (mkF m 38 #[.val (.long arg0), .second, .val (.int arg1), .val (.int arg2), .val (.int arg3), .val (.int arg4), .val (.int v1), .val (.int v3), .unset, .unset, .unset, .unset, .unset, .unset, .unset, .unset, .unset, .unset, .unset, .unset] [(.long (arg0 &&& (511 : Int64)))])) (fun t k => XS.goto X2.here hx rfl (pc0 := 30) (pc' := 38) rfl (hb hby at_30) (by decide) (by decide) k) ?_
      exact J6 (arg0 &&& (511 : Int64)) (by rw [if_neg hc4])
  intro v5 hv5
  refine own_st (B := T2.setTop (mkF m 40 #[.val (.long arg0), .second, .val (.int arg1), .val (.int arg2), .val (.int arg3), .val (.int arg4), .val (.int v1), .val (.int v3), .val (.long v5), .second, .unset, .unset, .unset, .unset, .unset, .unset, .unset, .unset, .unset, .unset] [])) (fun t k => XS.lstore X2.here hx rfl (hb hby at_38) rfl (l' := #[.val (.long arg0), .second, .val (.int arg1), .val (.int arg2), .val (.int arg3), .val (.int arg4), .val (.int v1), .val (.int v3), .val (.long v5), .second, .unset, .unset, .unset, .unset, .unset, .unset, .unset, .unset, .unset, .unset]) rfl k) ?_
  obtain ⟨T7, h7, X7, e7, E7, A7, D7, -, st7⟩ := newO X2 hx hZ hown (w_6 hw) (w_7 hw) (w_8 hw) e2q (g := (mkF m 40 #[.val (.long arg0), .second, .val (.int arg1), .val (.int arg2), .val (.int arg3), .val (.int arg4), .val (.int v1), .val (.int v3), .val (.long v5), .second, .unset, .unset, .unset, .unset, .unset, .unset, .unset, .unset, .unset, .unset] [])) rfl (hb hby at_40) (by decide) (by decide)
  obtain ⟨b7, g7⟩ : ∃ z, z = h0.size := ⟨_, rfl⟩
  rw [← g7] at A7 D7 st7
  have q7_ca : ca ≠ b7 := Nat.ne_of_lt (Nat.lt_of_lt_of_le F2.lt (Nat.le_of_eq g7.symm))
  have q7_dca : dca ≠ b7 := Nat.ne_of_lt (Nat.lt_of_lt_of_le F4.lt (Nat.le_of_eq g7.symm))
  have u7 : n0 ≤ b7 := Nat.le_trans Z0 (Nat.le_of_eq g7.symm)
  have z8 : n0 ≤ h7.size := Nat.le_trans Z0 E7.1
  have f9 : Fld Z h7 b7 "java/util/AbstractList" "modCount" "I" (.int (0 : Int32)) := D7 (Or.inl (w_28 hw)) (ty := .int) (by decide)
  have f10 : Fld Z h7 b7 "java/util/ArrayList" "elementData" "[Ljava/lang/Object;" .null := D7 (Or.inl (w_31 hw)) (ty := (.array (.object "java/lang/Object"))) (by decide)
  have f11 : Fld Z h7 b7 "java/util/ArrayList" "size" "I" (.int (0 : Int32)) := D7 (Or.inl (w_47 hw)) (ty := .int) (by decide)
  refine own_st (B := T7.setTop (mkF m 43 #[.val (.long arg0), .second, .val (.int arg1), .val (.int arg2), .val (.int arg3), .val (.int arg4), .val (.int v1), .val (.int v3), .val (.long v5), .second, .unset, .unset, .unset, .unset, .unset, .unset, .unset, .unset, .unset, .unset] [(.ref b7)])) (fun t k => st7 t k) ?_
  refine own_st (B := T7.setTop (mkF m 44 #[.val (.long arg0), .second, .val (.int arg1), .val (.int arg2), .val (.int arg3), .val (.int arg4), .val (.int v1), .val (.int v3), .val (.long v5), .second, .unset, .unset, .unset, .unset, .unset, .unset, .unset, .unset, .unset, .unset] [(.ref b7), (.ref b7)])) (fun t k => XS.dup X7.here hx rfl (hb hby at_43) rfl rfl k) ?_
  have f12 : Sta Z h7 "java/util/ArrayList" "DEFAULTCAPACITY_EMPTY_ELEMENTDATA" "[Ljava/lang/Object;" (.ref dca) := (F3.ext E7)
  obtain ⟨_, _, ⟨T13, L13, k13, j13⟩, -, X13, ⟨Lc13, hQ13, l13, y13_, z13_⟩, st13⟩ := X7.specialBack hx (y := (⟨"java/util/ArrayList", "<init>", "()V"⟩ : MethodName)) rfl hown (mvT hZ (w_9 hw)) (mvT hZ (w_10 hw)) (mvT hZ (w_11 hw)) (by decide) (backOf (W := 1) (rm2 l Z a0 hw [] b7 dca h7 n0 z8 A7 f9 f10 f11 f12 u7) hZ (w_11 hw) (w_8 hw) (by decide) (by decide)) (g := (mkF m 44 #[.val (.long arg0), .second, .val (.int arg1), .val (.int arg2), .val (.int arg3), .val (.int arg4), .val (.int v1), .val (.int v3), .val (.long v5), .second, .unset, .unset, .unset, .unset, .unset, .unset, .unset, .unset, .unset, .unset] [(.ref b7), (.ref b7)])) rfl (by rw [hml]; rfl) (Steps.refl _) (a := b7) (argsL := []) (rest := [(.ref b7)]) (lenOf own_pd1 rfl) rfl (by show 2 * 0 + _ ≤ _; exact Nat.le_of_eq rfl) (hb hby at_44) (fun _ _ => ⟨rfl, e7, (by decide : 1 + 0 ≤ _), (by decide : 3 + 0 ≤ _)⟩)
  dsimp only [Pt.U, Pt.locs, Pt.cells, Pt.slots] at X13 l13 y13_ z13_ st13 hQ13
  subst l13 y13_ z13_
  obtain ⟨rfl, N13q, K13, p13_0, p13_1, p13_2, p13_3⟩ := hQ13
  have N13 := Fr.app N2 N13q
  have z14 : n0 ≤ T13.heap.size := Nat.le_trans z8 K13.1
  refine own_ss (B := T13.setTop (mkF m 47 #[.val (.long arg0), .second, .val (.int arg1), .val (.int arg2), .val (.int arg3), .val (.int arg4), .val (.int v1), .val (.int v3), .val (.long v5), .second, .unset, .unset, .unset, .unset, .unset, .unset, .unset, .unset, .unset, .unset] [(.ref b7)])) st13 ?_
  refine own_st (B := T13.setTop (mkF m 49 #[.val (.long arg0), .second, .val (.int arg1), .val (.int arg2), .val (.int arg3), .val (.int arg4), .val (.int v1), .val (.int v3), .val (.long v5), .second, .val (.ref b7), .unset, .unset, .unset, .unset, .unset, .unset, .unset, .unset, .unset] [])) (fun t k => XS.astore X13.here hx rfl (hb hby at_47) rfl rfl (l' := #[.val (.long arg0), .second, .val (.int arg1), .val (.int arg2), .val (.int arg3), .val (.int arg4), .val (.int v1), .val (.int v3), .val (.long v5), .second, .val (.ref b7), .unset, .unset, .unset, .unset, .unset, .unset, .unset, .unset, .unset]) rfl k) ?_
  refine own_st (B := T13.setTop (mkF m 51 #[.val (.long arg0), .second, .val (.int arg1), .val (.int arg2), .val (.int arg3), .val (.int arg4), .val (.int v1), .val (.int v3), .val (.long v5), .second, .val (.ref b7), .unset, .unset, .unset, .unset, .unset, .unset, .unset, .unset, .unset] [(.ref b7)])) (fun t k => XS.aload X13.here hx rfl (hb hby at_49) rfl rfl k) ?_
  refine own_st (B := T13.setTop (mkF m 53 #[.val (.long arg0), .second, .val (.int arg1), .val (.int arg2), .val (.int arg3), .val (.int arg4), .val (.int v1), .val (.int v3), .val (.long v5), .second, .val (.ref b7), .unset, .unset, .unset, .unset, .unset, .unset, .unset, .unset, .unset] [(.int arg3), (.ref b7)])) (fun t k => XS.iload X13.here hx rfl (hb hby at_51) rfl k) ?_
  have f15 : Sta Z T13.heap "java/lang/Integer$IntegerCache" "high" "I" (.int (127 : Int32)) := (own_Sta.keep (F0.ext E7) K13 (show ∀ st ∈ [b7], ∀ cell : Cell, h7[st]? = some cell → cell.vm.isStatics = false from (allS (own_plainE A7) all0)))
  have f16 : Sta Z T13.heap "java/lang/Integer$IntegerCache" "cache" "[Ljava/lang/Integer;" (.ref ca) := (own_Sta.keep (F1.ext E7) K13 (show ∀ st ∈ [b7], ∀ cell : Cell, h7[st]? = some cell → cell.vm.isStatics = false from (allS (own_plainE A7) all0)))
  have f17 : own_Cache Z T13.heap ca := ((F2.ext E7).keep K13 (ninS q7_ca nin0))
  obtain ⟨_, _, ⟨T18, L18, k18, j18⟩, -, X18, ⟨Lc18, hQ18, l18, y18_, z18_⟩, st18⟩ := Jvm.LawKit.callS X13 hx (y := (⟨"java/lang/Integer", "valueOf", "(I)Ljava/lang/Integer;"⟩ : MethodName)) hown (mvT hZ (w_32 hw)) (mvT hZ (w_33 hw)) (mvT hZ (w_34 hw)) (mvT hZ (w_35 hw)) (by decide) (backOf (W := 1) (rm6 l Z a0 hw [] arg3 ca T13.heap n0 z14 f15 f16 f17) hZ (w_35 hw) (w_34 hw) (by decide) (by decide)) (g := (mkF m 53 #[.val (.long arg0), .second, .val (.int arg1), .val (.int arg2), .val (.int arg3), .val (.int arg4), .val (.int v1), .val (.int v3), .val (.long v5), .second, .val (.ref b7), .unset, .unset, .unset, .unset, .unset, .unset, .unset, .unset, .unset] [(.int arg3), (.ref b7)])) rfl (by rw [hml]; rfl) (argsL := [(.int arg3)]) (rest := [(.ref b7)]) (lenOf own_pd16 rfl) rfl (by show 2 * 0 + _ ≤ _; exact Nat.le_of_eq rfl) (hb hby at_53) (fun _ _ => ⟨rfl, rfl, (by decide : 1 + 1 ≤ _), (by decide : 3 + 1 ≤ _)⟩)
  dsimp only [Pt.U, Pt.locs, Pt.cells, Pt.slots] at X18 l18 y18_ z18_ st18 hQ18
  subst l18 y18_ z18_
  obtain ⟨o_18, rfl, N18q, K18, p18_0⟩ := hQ18
  have N18 := Fr.app N13 N18q
  have z19 : n0 ≤ T18.heap.size := Nat.le_trans z14 K18.1
  refine own_st (B := T18.setTop (mkF m 56 #[.val (.long arg0), .second, .val (.int arg1), .val (.int arg2), .val (.int arg3), .val (.int arg4), .val (.int v1), .val (.int v3), .val (.long v5), .second, .val (.ref b7), .unset, .unset, .unset, .unset, .unset, .unset, .unset, .unset, .unset] [(.ref o_18), (.ref b7)])) (fun t k => st18 t k) ?_
  have f20 : Exa Z T18.heap b7 "java/util/ArrayList" := (p13_0.keep K18)
  have f21 : Fld Z T18.heap b7 "java/util/AbstractList" "modCount" "I" (.int (0 : Int32)) := (p13_1.keep K18 nin0)
  have f22 : Fld Z T18.heap b7 "java/util/ArrayList" "elementData" "[Ljava/lang/Object;" (.ref dca) := (p13_2.keep K18 nin0)
  have f23 : Fld Z T18.heap b7 "java/util/ArrayList" "size" "I" (.int (0 : Int32)) := (p13_3.keep K18 nin0)
  have f24 : Sta Z T18.heap "java/util/ArrayList" "DEFAULTCAPACITY_EMPTY_ELEMENTDATA" "[Ljava/lang/Object;" (.ref dca) := (own_Sta.keep (own_Sta.keep f12 K13 (show ∀ st ∈ [b7], ∀ cell : Cell, h7[st]? = some cell → cell.vm.isStatics = false from (allS (own_plainE A7) all0))) K18 (fun _ q => nomatch q))
  have f25 : own_A Z T18.heap dca (.object "java/lang/Object") ([] : List Value) := (((F4.ext E7).keep K13 (ninS q7_dca nin0)).keep K18 nin0)
  have f26 : Exa Z T18.heap dca "[Ljava/lang/Object;" := (((F5.ext E7).keep K13).keep K18)
  obtain ⟨cq27, kq27, q27a, q27b, q27c⟩ := isOf hZ rfl f20
  obtain ⟨_, _, ⟨T27, L27, k27, j27⟩, -, X27, ⟨Lc27, hQ27, l27, y27_, z27_⟩, st27⟩ := X18.virtualBack hx (y := (⟨"java/util/ArrayList", "add", "(Ljava/lang/Object;)Z"⟩ : MethodName)) (z := (⟨"java/util/ArrayList", "add", "(Ljava/lang/Object;)Z"⟩ : MethodName)) hown (mvT hZ (w_39 hw)) (mvT hZ (w_40 hw)) (notFace_of_selects (args := #[]) (mvT hZ (w_42 hw))) (mvT hZ (w_42 hw)) (mvT hZ (w_41 hw)) (by decide) (backOf (W := 0) (rm7 l Z a0 hw [] b7 o_18 dca T18.heap n0 z19 f20 f21 f22 f23 f24 f25 f26 p18_0 u7) hZ (w_43 hw) (w_8 hw) (by decide) (by decide)) q27a q27c (g := (mkF m 56 #[.val (.long arg0), .second, .val (.int arg1), .val (.int arg2), .val (.int arg3), .val (.int arg4), .val (.int v1), .val (.int v3), .val (.long v5), .second, .val (.ref b7), .unset, .unset, .unset, .unset, .unset, .unset, .unset, .unset, .unset] [(.ref o_18), (.ref b7)])) rfl (by rw [hml]; rfl) (Steps.refl _) (argsL := [(.ref o_18)]) (rest := []) (lenOf own_pd17 rfl) rfl (by show 2 * 0 + _ ≤ _; exact Nat.le_of_eq rfl) (hb hby at_56) (fun _ _ => ⟨rfl, rfl, (by decide : 2 + 1 ≤ _), (by decide : 4 + 10 ≤ _)⟩)
  dsimp only [Pt.U, Pt.locs, Pt.cells, Pt.slots] at X27 l27 y27_ z27_ st27 hQ27
  subst l27 y27_ z27_
  obtain ⟨rfl, N27q, K27, p27_0⟩ := hQ27
  have N27 := Fr.app N18 N27q
  have z28 : n0 ≤ T27.heap.size := Nat.le_trans z19 K27.1
  refine own_ss (B := T27.setTop (mkF m 59 #[.val (.long arg0), .second, .val (.int arg1), .val (.int arg2), .val (.int arg3), .val (.int arg4), .val (.int v1), .val (.int v3), .val (.long v5), .second, .val (.ref b7), .unset, .unset, .unset, .unset, .unset, .unset, .unset, .unset, .unset] [(.int (1 : Int32))])) st27 ?_
  refine own_st (B := T27.setTop (mkF m 60 #[.val (.long arg0), .second, .val (.int arg1), .val (.int arg2), .val (.int arg3), .val (.int arg4), .val (.int v1), .val (.int v3), .val (.long v5), .second, .val (.ref b7), .unset, .unset, .unset, .unset, .unset, .unset, .unset, .unset, .unset] [])) (fun t k => XS.pop X27.here hx rfl (hb hby at_59) rfl rfl k) ?_
  obtain ⟨T29, h29, X29, e29, E29, A29, D29, -, st29⟩ := newO X27 hx hZ hown (w_67 hw) (w_68 hw) (w_69 hw) rfl (g := (mkF m 60 #[.val (.long arg0), .second, .val (.int arg1), .val (.int arg2), .val (.int arg3), .val (.int arg4), .val (.int v1), .val (.int v3), .val (.long v5), .second, .val (.ref b7), .unset, .unset, .unset, .unset, .unset, .unset, .unset, .unset, .unset] [])) rfl (hb hby at_60) (by decide) (by decide)
  obtain ⟨b29, g29⟩ : ∃ z, z = T27.heap.size := ⟨_, rfl⟩
  rw [← g29] at A29 D29 st29
  have f30 : own_Cache Z T27.heap ca := ((f17.keep K18 nin0).keep K27 (ninS q7_ca nin0))
  have q29_ca : ca ≠ b29 := Nat.ne_of_lt (Nat.lt_of_lt_of_le f30.lt (Nat.le_of_eq g29.symm))
  have f31 : own_A Z T27.heap dca (.object "java/lang/Object") ([] : List Value) := (f25.keep K27 (ninS q7_dca nin0))
  have q29_dca : dca ≠ b29 := Nat.ne_of_lt (Nat.lt_of_lt_of_le f31.lt (Nat.le_of_eq g29.symm))
  have q29_b7 : b7 ≠ b29 := Nat.ne_of_lt (Nat.lt_of_lt_of_le p27_0.lt (Nat.le_of_eq g29.symm))
  have f32 : Exa Z T27.heap o_18 "java/lang/Integer" := (p18_0.keep K27)
  have q29_o_18 : o_18 ≠ b29 := Nat.ne_of_lt (Nat.lt_of_lt_of_le f32.lt (Nat.le_of_eq g29.symm))
  have u29 : n0 ≤ b29 := Nat.le_trans z28 (Nat.le_of_eq g29.symm)
  have z33 : n0 ≤ h29.size := Nat.le_trans z28 E29.1
  have f34 : Fld Z h29 b29 "com/example/stockwright/stockwright/model/PageRequest" "page" "I" (.int (0 : Int32)) := D29 (Or.inr (w_80 hw)) (ty := .int) (by decide)
  have f35 : Fld Z h29 b29 "com/example/stockwright/stockwright/model/PageRequest" "pageSize" "I" (.int (0 : Int32)) := D29 (Or.inr (w_82 hw)) (ty := .int) (by decide)
  refine own_st (B := T29.setTop (mkF m 63 #[.val (.long arg0), .second, .val (.int arg1), .val (.int arg2), .val (.int arg3), .val (.int arg4), .val (.int v1), .val (.int v3), .val (.long v5), .second, .val (.ref b7), .unset, .unset, .unset, .unset, .unset, .unset, .unset, .unset, .unset] [(.ref b29)])) (fun t k => st29 t k) ?_
  refine own_st (B := T29.setTop (mkF m 64 #[.val (.long arg0), .second, .val (.int arg1), .val (.int arg2), .val (.int arg3), .val (.int arg4), .val (.int v1), .val (.int v3), .val (.long v5), .second, .val (.ref b7), .unset, .unset, .unset, .unset, .unset, .unset, .unset, .unset, .unset] [(.ref b29), (.ref b29)])) (fun t k => XS.dup X29.here hx rfl (hb hby at_63) rfl rfl k) ?_
  refine own_st (B := T29.setTop (mkF m 66 #[.val (.long arg0), .second, .val (.int arg1), .val (.int arg2), .val (.int arg3), .val (.int arg4), .val (.int v1), .val (.int v3), .val (.long v5), .second, .val (.ref b7), .unset, .unset, .unset, .unset, .unset, .unset, .unset, .unset, .unset] [(.int v3), (.ref b29), (.ref b29)])) (fun t k => XS.iload X29.here hx rfl (hb hby at_64) rfl k) ?_
  refine own_st (B := T29.setTop (mkF m 68 #[.val (.long arg0), .second, .val (.int arg1), .val (.int arg2), .val (.int arg3), .val (.int arg4), .val (.int v1), .val (.int v3), .val (.long v5), .second, .val (.ref b7), .unset, .unset, .unset, .unset, .unset, .unset, .unset, .unset, .unset] [(.int v1), (.int v3), (.ref b29), (.ref b29)])) (fun t k => XS.iload X29.here hx rfl (hb hby at_66) rfl k) ?_
  obtain ⟨_, _, ⟨T36, L36, k36, j36⟩, -, X36, ⟨Lc36, hQ36, l36, y36_, z36_⟩, st36⟩ := X29.specialBack hx (y := (⟨"com/example/stockwright/stockwright/model/PageRequest", "<init>", "(II)V"⟩ : MethodName)) rfl hown (mvT hZ (w_70 hw)) (mvT hZ (w_71 hw)) (mvT hZ (w_72 hw)) (by decide) (backOf (W := 1) (rm11 l Z a0 hw [] b29 v3 v1 h29 n0 z33 A29 f34 f35 u29) hZ (w_72 hw) (w_69 hw) (by decide) (by decide)) (g := (mkF m 68 #[.val (.long arg0), .second, .val (.int arg1), .val (.int arg2), .val (.int arg3), .val (.int arg4), .val (.int v1), .val (.int v3), .val (.long v5), .second, .val (.ref b7), .unset, .unset, .unset, .unset, .unset, .unset, .unset, .unset, .unset] [(.int v1), (.int v3), (.ref b29), (.ref b29)])) rfl (by rw [hml]; rfl) (Steps.refl _) (a := b29) (argsL := [(.int v3), (.int v1)]) (rest := [(.ref b29)]) (lenOf own_pd18 rfl) rfl (by show 2 * 0 + _ ≤ _; exact Nat.le_of_eq rfl) (hb hby at_68) (fun _ _ => ⟨rfl, e29, (by decide : 4 + 0 ≤ _), (by decide : 16 + 0 ≤ _)⟩)
  dsimp only [Pt.U, Pt.locs, Pt.cells, Pt.slots] at X36 l36 y36_ z36_ st36 hQ36
  subst l36 y36_ z36_
  obtain ⟨rfl, N36q, K36, p36_0, p36_1, p36_2⟩ := hQ36
  have N36 := Fr.app N27 N36q
  have z37 : n0 ≤ T36.heap.size := Nat.le_trans z33 K36.1
  refine own_ss (B := T36.setTop (mkF m 71 #[.val (.long arg0), .second, .val (.int arg1), .val (.int arg2), .val (.int arg3), .val (.int arg4), .val (.int v1), .val (.int v3), .val (.long v5), .second, .val (.ref b7), .unset, .unset, .unset, .unset, .unset, .unset, .unset, .unset, .unset] [(.ref b29)])) st36 ?_
  refine own_st (B := T36.setTop (mkF m 73 #[.val (.long arg0), .second, .val (.int arg1), .val (.int arg2), .val (.int arg3), .val (.int arg4), .val (.int v1), .val (.int v3), .val (.long v5), .second, .val (.ref b7), .val (.ref b29), .unset, .unset, .unset, .unset, .unset, .unset, .unset, .unset] [])) (fun t k => XS.astore X36.here hx rfl (hb hby at_71) rfl rfl (l' := #[.val (.long arg0), .second, .val (.int arg1), .val (.int arg2), .val (.int arg3), .val (.int arg4), .val (.int v1), .val (.int v3), .val (.long v5), .second, .val (.ref b7), .val (.ref b29), .unset, .unset, .unset, .unset, .unset, .unset, .unset, .unset]) rfl k) ?_
  refine own_st (B := T36.setTop (mkF m 75 #[.val (.long arg0), .second, .val (.int arg1), .val (.int arg2), .val (.int arg3), .val (.int arg4), .val (.int v1), .val (.int v3), .val (.long v5), .second, .val (.ref b7), .val (.ref b29), .unset, .unset, .unset, .unset, .unset, .unset, .unset, .unset] [(.ref b7)])) (fun t k => XS.aload X36.here hx rfl (hb hby at_73) rfl rfl k) ?_
  refine own_st (B := T36.setTop (mkF m 77 #[.val (.long arg0), .second, .val (.int arg1), .val (.int arg2), .val (.int arg3), .val (.int arg4), .val (.int v1), .val (.int v3), .val (.long v5), .second, .val (.ref b7), .val (.ref b29), .unset, .unset, .unset, .unset, .unset, .unset, .unset, .unset] [(.ref b29), (.ref b7)])) (fun t k => XS.aload X36.here hx rfl (hb hby at_75) rfl rfl k) ?_
  refine own_st (B := T36.setTop (mkF m 79 #[.val (.long arg0), .second, .val (.int arg1), .val (.int arg2), .val (.int arg3), .val (.int arg4), .val (.int v1), .val (.int v3), .val (.long v5), .second, .val (.ref b7), .val (.ref b29), .unset, .unset, .unset, .unset, .unset, .unset, .unset, .unset] [(.long v5), (.ref b29), (.ref b7)])) (fun t k => XS.lload X36.here hx rfl (hb hby at_77) rfl k) ?_
  obtain ⟨_, _, ⟨T38, L38, k38, j38⟩, -, X38, ⟨Lc38, hQ38, l38, y38_, z38_⟩, st38⟩ := Jvm.LawKit.callS X36 hx (y := (⟨"com/example/stockwright/stockwright/model/Page", "of", "(Ljava/util/List;Lcom/example/stockwright/stockwright/model/PageRequest;J)Lcom/example/stockwright/stockwright/model/Page;"⟩ : MethodName)) hown (mvT hZ (w_83 hw)) (mvT hZ (w_84 hw)) (mvT hZ (w_85 hw)) (mvT hZ (w_86 hw)) (by decide) (backOf (W := 0) (rm13 l Z a0 hw [] b7 b29 v5 v3 v1 T36.heap n0 z37 p36_0 p36_1 p36_2 (own_sz ev1).1) hZ (w_86 hw) (w_85 hw) (by decide) (by decide)) (g := (mkF m 79 #[.val (.long arg0), .second, .val (.int arg1), .val (.int arg2), .val (.int arg3), .val (.int arg4), .val (.int v1), .val (.int v3), .val (.long v5), .second, .val (.ref b7), .val (.ref b29), .unset, .unset, .unset, .unset, .unset, .unset, .unset, .unset] [(.long v5), (.ref b29), (.ref b7)])) rfl (by rw [hml]; rfl) (argsL := [(.ref b7), (.ref b29), (.long v5)]) (rest := []) (lenOf own_pd19 rfl) rfl (by show 2 * 0 + _ ≤ _; exact Nat.le_of_eq rfl) (hb hby at_79) (fun _ _ => ⟨rfl, rfl, (by decide : 4 + 1 ≤ _), (by decide : 16 + 5 ≤ _)⟩)
  dsimp only [Pt.U, Pt.locs, Pt.cells, Pt.slots] at X38 l38 y38_ z38_ st38 hQ38
  subst l38 y38_ z38_
  obtain ⟨b_38, rfl, N38q, K38, u38_b, y38_b, p38_0, p38_1, p38_2, p38_3, p38_4, p38_5⟩ := hQ38
  have N38 := Fr.app N36 N38q
  have f39 : own_Cache Z T36.heap ca := ((f30.ext E29).keep K36 (ninS q29_ca nin0))
  have q38_b_ca : ca ≠ b_38 := Nat.ne_of_lt (Nat.lt_of_lt_of_le f39.lt y38_b)
  have f40 : own_A Z T36.heap dca (.object "java/lang/Object") ([] : List Value) := ((f31.ext E29).keep K36 (ninS q29_dca nin0))
  have q38_b_dca : dca ≠ b_38 := Nat.ne_of_lt (Nat.lt_of_lt_of_le f40.lt y38_b)
  have f41 : Exa Z T36.heap b7 "java/util/ArrayList" := ((p27_0.ext E29).keep K36)
  have q38_b_b7 : b7 ≠ b_38 := Nat.ne_of_lt (Nat.lt_of_lt_of_le f41.lt y38_b)
  have f42 : Exa Z T36.heap o_18 "java/lang/Integer" := ((f32.ext E29).keep K36)
  have q38_b_o_18 : o_18 ≠ b_38 := Nat.ne_of_lt (Nat.lt_of_lt_of_le f42.lt y38_b)
  have q38_b_b29 : b29 ≠ b_38 := Nat.ne_of_lt (Nat.lt_of_lt_of_le p36_0.lt y38_b)
  have z43 : n0 ≤ T38.heap.size := Nat.le_trans z37 K38.1
  refine own_st (B := T38.setTop (mkF m 82 #[.val (.long arg0), .second, .val (.int arg1), .val (.int arg2), .val (.int arg3), .val (.int arg4), .val (.int v1), .val (.int v3), .val (.long v5), .second, .val (.ref b7), .val (.ref b29), .unset, .unset, .unset, .unset, .unset, .unset, .unset, .unset] [(.ref b_38)])) (fun t k => st38 t k) ?_
  refine own_st (B := T38.setTop (mkF m 84 #[.val (.long arg0), .second, .val (.int arg1), .val (.int arg2), .val (.int arg3), .val (.int arg4), .val (.int v1), .val (.int v3), .val (.long v5), .second, .val (.ref b7), .val (.ref b29), .val (.ref b_38), .unset, .unset, .unset, .unset, .unset, .unset, .unset] [])) (fun t k => XS.astore X38.here hx rfl (hb hby at_82) rfl rfl (l' := #[.val (.long arg0), .second, .val (.int arg1), .val (.int arg2), .val (.int arg3), .val (.int arg4), .val (.int v1), .val (.int v3), .val (.long v5), .second, .val (.ref b7), .val (.ref b29), .val (.ref b_38), .unset, .unset, .unset, .unset, .unset, .unset, .unset]) rfl k) ?_
  refine own_st (B := T38.setTop (mkF m 86 #[.val (.long arg0), .second, .val (.int arg1), .val (.int arg2), .val (.int arg3), .val (.int arg4), .val (.int v1), .val (.int v3), .val (.long v5), .second, .val (.ref b7), .val (.ref b29), .val (.ref b_38), .unset, .unset, .unset, .unset, .unset, .unset, .unset] [(.long v5)])) (fun t k => XS.lload X38.here hx rfl (hb hby at_84) rfl k) ?_
  refine own_st (B := T38.setTop (mkF m 88 #[.val (.long arg0), .second, .val (.int arg1), .val (.int arg2), .val (.int arg3), .val (.int arg4), .val (.int v1), .val (.int v3), .val (.long v5), .second, .val (.ref b7), .val (.ref b29), .val (.ref b_38), .unset, .unset, .unset, .unset, .unset, .unset, .unset] [(.int v1), (.long v5)])) (fun t k => XS.iload X38.here hx rfl (hb hby at_86) rfl k) ?_
  refine own_st (B := T38.setTop (mkF m 89 #[.val (.long arg0), .second, .val (.int arg1), .val (.int arg2), .val (.int arg3), .val (.int arg4), .val (.int v1), .val (.int v3), .val (.long v5), .second, .val (.ref b7), .val (.ref b29), .val (.ref b_38), .unset, .unset, .unset, .unset, .unset, .unset, .unset] [(.long (v1.toInt64)), (.long v5)])) (fun t k => XS.i2l X38.here hx rfl (hb hby at_88) rfl k) ?_
  refine own_st (B := T38.setTop (mkF m 90 #[.val (.long arg0), .second, .val (.int arg1), .val (.int arg2), .val (.int arg3), .val (.int arg4), .val (.int v1), .val (.int v3), .val (.long v5), .second, .val (.ref b7), .val (.ref b29), .val (.ref b_38), .unset, .unset, .unset, .unset, .unset, .unset, .unset] [(.long (v5 / (v1.toInt64)))])) (fun t k => XS.ldiv X38.here hx (g := (mkF m 89 #[.val (.long arg0), .second, .val (.int arg1), .val (.int arg2), .val (.int arg3), .val (.int arg4), .val (.int v1), .val (.int v3), .val (.long v5), .second, .val (.ref b7), .val (.ref b29), .val (.ref b_38), .unset, .unset, .unset, .unset, .unset, .unset, .unset] [(.long (v1.toInt64)), (.long v5)])) rfl (x := v5) (y := (v1.toInt64)) (rest := []) (hb hby at_89) rfl (own_nz (own_sz ev1).1) k) ?_
  obtain ⟨v44, ev44⟩ : ∃ z : Int64, z = (v5 / (v1.toInt64)) := ⟨_, rfl⟩
  rw [← ev44]
  refine own_st (B := T38.setTop (mkF m 92 #[.val (.long arg0), .second, .val (.int arg1), .val (.int arg2), .val (.int arg3), .val (.int arg4), .val (.int v1), .val (.int v3), .val (.long v5), .second, .val (.ref b7), .val (.ref b29), .val (.ref b_38), .val (.long v44), .second, .unset, .unset, .unset, .unset, .unset] [])) (fun t k => XS.lstore X38.here hx rfl (hb hby at_90) rfl (l' := #[.val (.long arg0), .second, .val (.int arg1), .val (.int arg2), .val (.int arg3), .val (.int arg4), .val (.int v1), .val (.int v3), .val (.long v5), .second, .val (.ref b7), .val (.ref b29), .val (.ref b_38), .val (.long v44), .second, .unset, .unset, .unset, .unset, .unset]) rfl k) ?_
  refine own_st (B := T38.setTop (mkF m 94 #[.val (.long arg0), .second, .val (.int arg1), .val (.int arg2), .val (.int arg3), .val (.int arg4), .val (.int v1), .val (.int v3), .val (.long v5), .second, .val (.ref b7), .val (.ref b29), .val (.ref b_38), .val (.long v44), .second, .unset, .unset, .unset, .unset, .unset] [(.long v5)])) (fun t k => XS.lload X38.here hx rfl (hb hby at_92) rfl k) ?_
  refine own_st (B := T38.setTop (mkF m 96 #[.val (.long arg0), .second, .val (.int arg1), .val (.int arg2), .val (.int arg3), .val (.int arg4), .val (.int v1), .val (.int v3), .val (.long v5), .second, .val (.ref b7), .val (.ref b29), .val (.ref b_38), .val (.long v44), .second, .unset, .unset, .unset, .unset, .unset] [(.int v1), (.long v5)])) (fun t k => XS.iload X38.here hx rfl (hb hby at_94) rfl k) ?_
  refine own_st (B := T38.setTop (mkF m 97 #[.val (.long arg0), .second, .val (.int arg1), .val (.int arg2), .val (.int arg3), .val (.int arg4), .val (.int v1), .val (.int v3), .val (.long v5), .second, .val (.ref b7), .val (.ref b29), .val (.ref b_38), .val (.long v44), .second, .unset, .unset, .unset, .unset, .unset] [(.long (v1.toInt64)), (.long v5)])) (fun t k => XS.i2l X38.here hx rfl (hb hby at_96) rfl k) ?_
  refine own_st (B := T38.setTop (mkF m 98 #[.val (.long arg0), .second, .val (.int arg1), .val (.int arg2), .val (.int arg3), .val (.int arg4), .val (.int v1), .val (.int v3), .val (.long v5), .second, .val (.ref b7), .val (.ref b29), .val (.ref b_38), .val (.long v44), .second, .unset, .unset, .unset, .unset, .unset] [(.long (v5 % (v1.toInt64)))])) (fun t k => own_lrem X38 hx (g := (mkF m 97 #[.val (.long arg0), .second, .val (.int arg1), .val (.int arg2), .val (.int arg3), .val (.int arg4), .val (.int v1), .val (.int v3), .val (.long v5), .second, .val (.ref b7), .val (.ref b29), .val (.ref b_38), .val (.long v44), .second, .unset, .unset, .unset, .unset, .unset] [(.long (v1.toInt64)), (.long v5)])) rfl (x := v5) (y := (v1.toInt64)) (rest := []) (hb hby at_97) rfl (own_nz (own_sz ev1).1) k) ?_
  obtain ⟨v45, ev45⟩ : ∃ z : Int64, z = (v5 % (v1.toInt64)) := ⟨_, rfl⟩
  rw [← ev45]
  refine own_st (B := T38.setTop (mkF m 100 #[.val (.long arg0), .second, .val (.int arg1), .val (.int arg2), .val (.int arg3), .val (.int arg4), .val (.int v1), .val (.int v3), .val (.long v5), .second, .val (.ref b7), .val (.ref b29), .val (.ref b_38), .val (.long v44), .second, .val (.long v45), .second, .unset, .unset, .unset] [])) (fun t k => XS.lstore X38.here hx rfl (hb hby at_98) rfl (l' := #[.val (.long arg0), .second, .val (.int arg1), .val (.int arg2), .val (.int arg3), .val (.int arg4), .val (.int v1), .val (.int v3), .val (.long v5), .second, .val (.ref b7), .val (.ref b29), .val (.ref b_38), .val (.long v44), .second, .val (.long v45), .second, .unset, .unset, .unset]) rfl k) ?_
  refine own_st (B := T38.setTop (mkF m 102 #[.val (.long arg0), .second, .val (.int arg1), .val (.int arg2), .val (.int arg3), .val (.int arg4), .val (.int v1), .val (.int v3), .val (.long v5), .second, .val (.ref b7), .val (.ref b29), .val (.ref b_38), .val (.long v44), .second, .val (.long v45), .second, .unset, .unset, .unset] [(.long v45)])) (fun t k => XS.lload X38.here hx rfl (hb hby at_100) rfl k) ?_
  refine own_st (B := T38.setTop (mkF m 103 #[.val (.long arg0), .second, .val (.int arg1), .val (.int arg2), .val (.int arg3), .val (.int arg4), .val (.int v1), .val (.int v3), .val (.long v5), .second, .val (.ref b7), .val (.ref b29), .val (.ref b_38), .val (.long v44), .second, .val (.long v45), .second, .unset, .unset, .unset] [(.long (0 : Int64)), (.long v45)])) (fun t k => XS.lconst X38.here hx rfl (hb hby at_102) k) ?_
  refine own_st (B := T38.setTop (mkF m 104 #[.val (.long arg0), .second, .val (.int arg1), .val (.int arg2), .val (.int arg3), .val (.int arg4), .val (.int v1), .val (.int v3), .val (.long v5), .second, .val (.ref b7), .val (.ref b29), .val (.ref b_38), .val (.long v44), .second, .val (.long v45), .second, .unset, .unset, .unset] [(.int (XT.cmpL v45 (0 : Int64)))])) (fun t k => XS.lcmp X38.here hx rfl (hb hby at_103) rfl k) ?_
  refine own_cut (P := ∀ (v47 : Int64), (v47 = (if v45 = (0 : Int64) then v44 else (v44 + (1 : Int64)))) → own_Go p e below s (Q0 Z arg0 arg1 arg2 arg3 arg4 ca dca h0 n0) 24 128 (T38.setTop (mkF m 116 #[.val (.long arg0), .second, .val (.int arg1), .val (.int arg2), .val (.int arg3), .val (.int arg4), .val (.int v1), .val (.int v3), .val (.long v5), .second, .val (.ref b7), .val (.ref b29), .val (.ref b_38), .val (.long v44), .second, .val (.long v45), .second, .unset, .unset, .unset] [(.long v47)]))) (fun J48 => ?_) ?_
  · by_cases hc46 : v45 = (0 : Int64)
    · refine own_st (B := T38.setTop (mkF m 107 #[.val (.long arg0), .second, .val (.int arg1), .val (.int arg2), .val (.int arg3), .val (.int arg4), .val (.int v1), .val (.int v3), .val (.long v5), .second, .val (.ref b7), .val (.ref b29), .val (.ref b_38), .val (.long v44), .second, .val (.long v45), .second, .unset, .unset, .unset] [])) (fun t k => XS.ifNo X38.here hx rfl (hb hby at_104) rfl (XT.ll_ne_f hc46) k) ?_
      refine own_st (B := T38.setTop (mkF m 109 #[.val (.long arg0), .second, .val (.int arg1), .val (.int arg2), .val (.int arg3), .val (.int arg4), .val (.int v1), .val (.int v3), .val (.long v5), .second, .val (.ref b7), .val (.ref b29), .val (.ref b_38), .val (.long v44), .second, .val (.long v45), .second, .unset, .unset, .unset] [(.long v44)])) (fun t k => XS.lload X38.here hx rfl (hb hby at_107) rfl k) ?_
      refine own_st (B := T38.setTop (mkF m 116 #[.val (.long arg0), .second, .val (.int arg1), .val (.int arg2), .val (.int arg3), .val (.int arg4), .val (.int v1), .val (.int v3), .val (.long v5), .second, .val (.ref b7), .val (.ref b29), .val (.ref b_38), .val (.long v44), .second, .val (.long v45), .second, .unset, .unset, .unset] [(.long v44)])) (fun t k => XS.goto X38.here hx rfl (pc0 := 109) (pc' := 116) rfl (hb hby at_109) (by decide) (by decide) k) ?_
      exact J48 v44 (by rw [if_pos hc46])
    · refine own_st (B := T38.setTop (mkF m 112 #[.val (.long arg0), .second, .val (.int arg1), .val (.int arg2), .val (.int arg3), .val (.int arg4), .val (.int v1), .val (.int v3), .val (.long v5), .second, .val (.ref b7), .val (.ref b29), .val (.ref b_38), .val (.long v44), .second, .val (.long v45), .second, .unset, .unset, .unset] [])) (fun t k => XS.ifYes X38.here hx rfl (pc0 := 104) (pc' := 112) rfl (hb hby at_104) rfl (XT.ll_ne_t hc46) (by decide) (by decide) k) ?_
      refine own_st (B := T38.setTop (mkF m 114 #[.val (.long arg0), .second, .val (.int arg1), .val (.int arg2), .val (.int arg3), .val (.int arg4), .val (.int v1), .val (.int v3), .val (.long v5), .second, .val (.ref b7), .val (.ref b29), .val (.ref b_38), .val (.long v44), .second, .val (.long v45), .second, .unset, .unset, .unset] [(.long v44)])) (fun t k => XS.lload X38.here hx rfl (hb hby at_112) rfl k) ?_
      refine own_st (B := T38.setTop (mkF m 115 #[.val (.long arg0), .second, .val (.int arg1), .val (.int arg2), .val (.int arg3), .val (.int arg4), .val (.int v1), .val (.int v3), .val (.long v5), .second, .val (.ref b7), .val (.ref b29), .val (.ref b_38), .val (.long v44), .second, .val (.long v45), .second, .unset, .unset, .unset] [(.long (1 : Int64)), (.long v44)])) (fun t k => XS.lconst X38.here hx rfl (hb hby at_114) k) ?_
      refine own_st (B := T38.setTop (mkF m 116 #[.val (.long arg0), .second, .val (.int arg1), .val (.int arg2), .val (.int arg3), .val (.int arg4), .val (.int v1), .val (.int v3), .val (.long v5), .second, .val (.ref b7), .val (.ref b29), .val (.ref b_38), .val (.long v44), .second, .val (.long v45), .second, .unset, .unset, .unset] [(.long (v44 + (1 : Int64)))])) (fun t k => XS.ladd X38.here hx rfl (hb hby at_115) rfl k) ?_
      exact J48 (v44 + (1 : Int64)) (by rw [if_neg hc46])
  intro v47 hv47
  refine own_st (B := T38.setTop (mkF m 118 #[.val (.long arg0), .second, .val (.int arg1), .val (.int arg2), .val (.int arg3), .val (.int arg4), .val (.int v1), .val (.int v3), .val (.long v5), .second, .val (.ref b7), .val (.ref b29), .val (.ref b_38), .val (.long v44), .second, .val (.long v45), .second, .val (.long v47), .second, .unset] [])) (fun t k => XS.lstore X38.here hx rfl (hb hby at_116) rfl (l' := #[.val (.long arg0), .second, .val (.int arg1), .val (.int arg2), .val (.int arg3), .val (.int arg4), .val (.int v1), .val (.int v3), .val (.long v5), .second, .val (.ref b7), .val (.ref b29), .val (.ref b_38), .val (.long v44), .second, .val (.long v45), .second, .val (.long v47), .second, .unset]) rfl k) ?_
  refine own_st (B := T38.setTop (mkF m 120 #[.val (.long arg0), .second, .val (.int arg1), .val (.int arg2), .val (.int arg3), .val (.int arg4), .val (.int v1), .val (.int v3), .val (.long v5), .second, .val (.ref b7), .val (.ref b29), .val (.ref b_38), .val (.long v44), .second, .val (.long v45), .second, .val (.long v47), .second, .unset] [(.long v5)])) (fun t k => XS.lload X38.here hx rfl (hb hby at_118) rfl k) ?_
  refine own_st (B := T38.setTop (mkF m 121 #[.val (.long arg0), .second, .val (.int arg1), .val (.int arg2), .val (.int arg3), .val (.int arg4), .val (.int v1), .val (.int v3), .val (.long v5), .second, .val (.ref b7), .val (.ref b29), .val (.ref b_38), .val (.long v44), .second, .val (.long v45), .second, .val (.long v47), .second, .unset] [(.long (0 : Int64)), (.long v5)])) (fun t k => XS.lconst X38.here hx rfl (hb hby at_120) k) ?_
  refine own_st (B := T38.setTop (mkF m 122 #[.val (.long arg0), .second, .val (.int arg1), .val (.int arg2), .val (.int arg3), .val (.int arg4), .val (.int v1), .val (.int v3), .val (.long v5), .second, .val (.ref b7), .val (.ref b29), .val (.ref b_38), .val (.long v44), .second, .val (.long v45), .second, .val (.long v47), .second, .unset] [(.int (XT.cmpL v5 (0 : Int64)))])) (fun t k => XS.lcmp X38.here hx rfl (hb hby at_121) rfl k) ?_
  refine own_cut (P := ∀ (v50 : Int32), (v50 = (if v5 = (0 : Int64) then (1 : Int32) else (0 : Int32))) → own_Go p e below s (Q0 Z arg0 arg1 arg2 arg3 arg4 ca dca h0 n0) 24 128 (T38.setTop (mkF m 130 #[.val (.long arg0), .second, .val (.int arg1), .val (.int arg2), .val (.int arg3), .val (.int arg4), .val (.int v1), .val (.int v3), .val (.long v5), .second, .val (.ref b7), .val (.ref b29), .val (.ref b_38), .val (.long v44), .second, .val (.long v45), .second, .val (.long v47), .second, .unset] [(.int v50)]))) (fun J51 => ?_) ?_
  · by_cases hc49 : v5 = (0 : Int64)
    · refine own_st (B := T38.setTop (mkF m 125 #[.val (.long arg0), .second, .val (.int arg1), .val (.int arg2), .val (.int arg3), .val (.int arg4), .val (.int v1), .val (.int v3), .val (.long v5), .second, .val (.ref b7), .val (.ref b29), .val (.ref b_38), .val (.long v44), .second, .val (.long v45), .second, .val (.long v47), .second, .unset] [])) (fun t k => XS.ifNo X38.here hx rfl (hb hby at_122) rfl (XT.ll_ne_f hc49) k) ?_
      refine own_st (B := T38.setTop (mkF m 126 #[.val (.long arg0), .second, .val (.int arg1), .val (.int arg2), .val (.int arg3), .val (.int arg4), .val (.int v1), .val (.int v3), .val (.long v5), .second, .val (.ref b7), .val (.ref b29), .val (.ref b_38), .val (.long v44), .second, .val (.long v45), .second, .val (.long v47), .second, .unset] [(.int (1 : Int32))])) (fun t k => XS.iconst X38.here hx rfl (hb hby at_125) k) ?_
      refine own_st (B := T38.setTop (mkF m 130 #[.val (.long arg0), .second, .val (.int arg1), .val (.int arg2), .val (.int arg3), .val (.int arg4), .val (.int v1), .val (.int v3), .val (.long v5), .second, .val (.ref b7), .val (.ref b29), .val (.ref b_38), .val (.long v44), .second, .val (.long v45), .second, .val (.long v47), .second, .unset] [(.int (1 : Int32))])) (fun t k => XS.goto X38.here hx rfl (pc0 := 126) (pc' := 130) rfl (hb hby at_126) (by decide) (by decide) k) ?_
      exact J51 (1 : Int32) (by rw [if_pos hc49])
    · refine own_st (B := T38.setTop (mkF m 129 #[.val (.long arg0), .second, .val (.int arg1), .val (.int arg2), .val (.int arg3), .val (.int arg4), .val (.int v1), .val (.int v3), .val (.long v5), .second, .val (.ref b7), .val (.ref b29), .val (.ref b_38), .val (.long v44), .second, .val (.long v45), .second, .val (.long v47), .second, .unset] [])) (fun t k => XS.ifYes X38.here hx rfl (pc0 := 122) (pc' := 129) rfl (hb hby at_122) rfl (XT.ll_ne_t hc49) (by decide) (by decide) k) ?_
      refine own_st (B := T38.setTop (mkF m 130 #[.val (.long arg0), .second, .val (.int arg1), .val (.int arg2), .val (.int arg3), .val (.int arg4), .val (.int v1), .val (.int v3), .val (.long v5), .second, .val (.ref b7), .val (.ref b29), .val (.ref b_38), .val (.long v44), .second, .val (.long v45), .second, .val (.long v47), .second, .unset] [(.int (0 : Int32))])) (fun t k => XS.iconst X38.here hx rfl (hb hby at_129) k) ?_
      exact J51 (0 : Int32) (by rw [if_neg hc49])
  intro v50 hv50
  refine own_st (B := T38.setTop (mkF m 132 #[.val (.long arg0), .second, .val (.int arg1), .val (.int arg2), .val (.int arg3), .val (.int arg4), .val (.int v1), .val (.int v3), .val (.long v5), .second, .val (.ref b7), .val (.ref b29), .val (.ref b_38), .val (.long v44), .second, .val (.long v45), .second, .val (.long v47), .second, .unset] [(.long v47), (.int v50)])) (fun t k => XS.lload X38.here hx rfl (hb hby at_130) rfl k) ?_
  refine own_st (B := T38.setTop (mkF m 133 #[.val (.long arg0), .second, .val (.int arg1), .val (.int arg2), .val (.int arg3), .val (.int arg4), .val (.int v1), .val (.int v3), .val (.long v5), .second, .val (.ref b7), .val (.ref b29), .val (.ref b_38), .val (.long v44), .second, .val (.long v45), .second, .val (.long v47), .second, .unset] [(.long (0 : Int64)), (.long v47), (.int v50)])) (fun t k => XS.lconst X38.here hx rfl (hb hby at_132) k) ?_
  refine own_st (B := T38.setTop (mkF m 134 #[.val (.long arg0), .second, .val (.int arg1), .val (.int arg2), .val (.int arg3), .val (.int arg4), .val (.int v1), .val (.int v3), .val (.long v5), .second, .val (.ref b7), .val (.ref b29), .val (.ref b_38), .val (.long v44), .second, .val (.long v45), .second, .val (.long v47), .second, .unset] [(.int (XT.cmpL v47 (0 : Int64))), (.int v50)])) (fun t k => XS.lcmp X38.here hx rfl (hb hby at_133) rfl k) ?_
  refine own_cut (P := ∀ (v53 : Int32), (v53 = (if v47 = (0 : Int64) then (1 : Int32) else (0 : Int32))) → own_Go p e below s (Q0 Z arg0 arg1 arg2 arg3 arg4 ca dca h0 n0) 24 128 (T38.setTop (mkF m 142 #[.val (.long arg0), .second, .val (.int arg1), .val (.int arg2), .val (.int arg3), .val (.int arg4), .val (.int v1), .val (.int v3), .val (.long v5), .second, .val (.ref b7), .val (.ref b29), .val (.ref b_38), .val (.long v44), .second, .val (.long v45), .second, .val (.long v47), .second, .unset] [(.int v53), (.int v50)]))) (fun J54 => ?_) ?_
  · by_cases hc52 : v47 = (0 : Int64)
    · refine own_st (B := T38.setTop (mkF m 137 #[.val (.long arg0), .second, .val (.int arg1), .val (.int arg2), .val (.int arg3), .val (.int arg4), .val (.int v1), .val (.int v3), .val (.long v5), .second, .val (.ref b7), .val (.ref b29), .val (.ref b_38), .val (.long v44), .second, .val (.long v45), .second, .val (.long v47), .second, .unset] [(.int v50)])) (fun t k => XS.ifNo X38.here hx rfl (hb hby at_134) rfl (XT.ll_ne_f hc52) k) ?_
      refine own_st (B := T38.setTop (mkF m 138 #[.val (.long arg0), .second, .val (.int arg1), .val (.int arg2), .val (.int arg3), .val (.int arg4), .val (.int v1), .val (.int v3), .val (.long v5), .second, .val (.ref b7), .val (.ref b29), .val (.ref b_38), .val (.long v44), .second, .val (.long v45), .second, .val (.long v47), .second, .unset] [(.int (1 : Int32)), (.int v50)])) (fun t k => XS.iconst X38.here hx rfl (hb hby at_137) k) ?_
      refine own_st (B := T38.setTop (mkF m 142 #[.val (.long arg0), .second, .val (.int arg1), .val (.int arg2), .val (.int arg3), .val (.int arg4), .val (.int v1), .val (.int v3), .val (.long v5), .second, .val (.ref b7), .val (.ref b29), .val (.ref b_38), .val (.long v44), .second, .val (.long v45), .second, .val (.long v47), .second, .unset] [(.int (1 : Int32)), (.int v50)])) (fun t k => XS.goto X38.here hx rfl (pc0 := 138) (pc' := 142) rfl (hb hby at_138) (by decide) (by decide) k) ?_
      exact J54 (1 : Int32) (by rw [if_pos hc52])
    · refine own_st (B := T38.setTop (mkF m 141 #[.val (.long arg0), .second, .val (.int arg1), .val (.int arg2), .val (.int arg3), .val (.int arg4), .val (.int v1), .val (.int v3), .val (.long v5), .second, .val (.ref b7), .val (.ref b29), .val (.ref b_38), .val (.long v44), .second, .val (.long v45), .second, .val (.long v47), .second, .unset] [(.int v50)])) (fun t k => XS.ifYes X38.here hx rfl (pc0 := 134) (pc' := 141) rfl (hb hby at_134) rfl (XT.ll_ne_t hc52) (by decide) (by decide) k) ?_
      refine own_st (B := T38.setTop (mkF m 142 #[.val (.long arg0), .second, .val (.int arg1), .val (.int arg2), .val (.int arg3), .val (.int arg4), .val (.int v1), .val (.int v3), .val (.long v5), .second, .val (.ref b7), .val (.ref b29), .val (.ref b_38), .val (.long v44), .second, .val (.long v45), .second, .val (.long v47), .second, .unset] [(.int (0 : Int32)), (.int v50)])) (fun t k => XS.iconst X38.here hx rfl (hb hby at_141) k) ?_
      exact J54 (0 : Int32) (by rw [if_neg hc52])
  intro v53 hv53
  have hc55 : v50 = v53 := by
    rw [hv50, hv53]
    have qz := (own_ceil (own_tot hv5) (own_sz ev1) ev44 ev45 hv47).2
    by_cases g : v5 = 0
    · rw [if_pos g, if_pos (qz.mp g)]
    · rw [if_neg g, if_neg (fun h => g (qz.mpr h))]
  refine own_st (B := T38.setTop (mkF m 145 #[.val (.long arg0), .second, .val (.int arg1), .val (.int arg2), .val (.int arg3), .val (.int arg4), .val (.int v1), .val (.int v3), .val (.long v5), .second, .val (.ref b7), .val (.ref b29), .val (.ref b_38), .val (.long v44), .second, .val (.long v45), .second, .val (.long v47), .second, .unset] [])) (fun t k => XS.icmpNo X38.here hx rfl (hb hby at_142) rfl (XT.ii_ne_f hc55) k) ?_
  refine own_st (B := T38.setTop (mkF m 146 #[.val (.long arg0), .second, .val (.int arg1), .val (.int arg2), .val (.int arg3), .val (.int arg4), .val (.int v1), .val (.int v3), .val (.long v5), .second, .val (.ref b7), .val (.ref b29), .val (.ref b_38), .val (.long v44), .second, .val (.long v45), .second, .val (.long v47), .second, .unset] [(.int (1 : Int32))])) (fun t k => XS.iconst X38.here hx rfl (hb hby at_145) k) ?_
  refine own_st (B := T38.setTop (mkF m 150 #[.val (.long arg0), .second, .val (.int arg1), .val (.int arg2), .val (.int arg3), .val (.int arg4), .val (.int v1), .val (.int v3), .val (.long v5), .second, .val (.ref b7), .val (.ref b29), .val (.ref b_38), .val (.long v44), .second, .val (.long v45), .second, .val (.long v47), .second, .unset] [(.int (1 : Int32))])) (fun t k => XS.goto X38.here hx rfl (pc0 := 146) (pc' := 150) rfl (hb hby at_146) (by decide) (by decide) k) ?_
  refine own_st (B := T38.setTop (mkF m 152 #[.val (.long arg0), .second, .val (.int arg1), .val (.int arg2), .val (.int arg3), .val (.int arg4), .val (.int v1), .val (.int v3), .val (.long v5), .second, .val (.ref b7), .val (.ref b29), .val (.ref b_38), .val (.long v44), .second, .val (.long v45), .second, .val (.long v47), .second, .val (.int (1 : Int32))] [])) (fun t k => XS.istore X38.here hx rfl (hb hby at_150) rfl (l' := #[.val (.long arg0), .second, .val (.int arg1), .val (.int arg2), .val (.int arg3), .val (.int arg4), .val (.int v1), .val (.int v3), .val (.long v5), .second, .val (.ref b7), .val (.ref b29), .val (.ref b_38), .val (.long v44), .second, .val (.long v45), .second, .val (.long v47), .second, .val (.int (1 : Int32))]) rfl k) ?_
  refine own_st (B := T38.setTop (mkF m 154 #[.val (.long arg0), .second, .val (.int arg1), .val (.int arg2), .val (.int arg3), .val (.int arg4), .val (.int v1), .val (.int v3), .val (.long v5), .second, .val (.ref b7), .val (.ref b29), .val (.ref b_38), .val (.long v44), .second, .val (.long v45), .second, .val (.long v47), .second, .val (.int (1 : Int32))] [(.ref b_38)])) (fun t k => XS.aload X38.here hx rfl (hb hby at_152) rfl rfl k) ?_
  obtain ⟨cq56, kq56, q56a, q56b, q56c⟩ := isOf hZ rfl p38_0
  obtain ⟨_, _, ⟨T56, L56, k56, j56⟩, -, X56, ⟨Lc56, hQ56, l56, y56_, z56_⟩, st56⟩ := X38.virtualBack hx (y := (⟨"com/example/stockwright/stockwright/model/Page", "items", "()Ljava/util/List;"⟩ : MethodName)) (z := (⟨"com/example/stockwright/stockwright/model/Page", "items", "()Ljava/util/List;"⟩ : MethodName)) hown (mvT hZ (w_113 hw)) (mvT hZ (w_114 hw)) (notFace_of_selects (args := #[]) (mvT hZ (w_116 hw))) (mvT hZ (w_116 hw)) (mvT hZ (w_115 hw)) (by decide) (backOf (W := 0) (rm17 l Z a0 hw [] b_38 b7 T38.heap n0 z43 p38_1) hZ (w_117 hw) (w_85 hw) (by decide) (by decide)) q56a q56c (g := (mkF m 154 #[.val (.long arg0), .second, .val (.int arg1), .val (.int arg2), .val (.int arg3), .val (.int arg4), .val (.int v1), .val (.int v3), .val (.long v5), .second, .val (.ref b7), .val (.ref b29), .val (.ref b_38), .val (.long v44), .second, .val (.long v45), .second, .val (.long v47), .second, .val (.int (1 : Int32))] [(.ref b_38)])) rfl (by rw [hml]; rfl) (Steps.refl _) (argsL := []) (rest := []) (lenOf own_pd20 rfl) rfl (by show 2 * 0 + _ ≤ _; exact Nat.le_of_eq rfl) (hb hby at_154) (fun _ _ => ⟨rfl, rfl, (by decide : 5 + 0 ≤ _), (by decide : 21 + 0 ≤ _)⟩)
  dsimp only [Pt.U, Pt.locs, Pt.cells, Pt.slots] at X56 l56 y56_ z56_ st56 hQ56
  subst l56 y56_ z56_
  obtain ⟨rfl, N56q, e56q⟩ := hQ56
  have N56 := Fr.app N38 N56q
  refine own_ss (B := T56.setTop (mkF m 157 #[.val (.long arg0), .second, .val (.int arg1), .val (.int arg2), .val (.int arg3), .val (.int arg4), .val (.int v1), .val (.int v3), .val (.long v5), .second, .val (.ref b7), .val (.ref b29), .val (.ref b_38), .val (.long v44), .second, .val (.long v45), .second, .val (.long v47), .second, .val (.int (1 : Int32))] [(.ref b7)])) st56 ?_
  refine own_st (B := T56.setTop (mkF m 159 #[.val (.long arg0), .second, .val (.int arg1), .val (.int arg2), .val (.int arg3), .val (.int arg4), .val (.int v1), .val (.int v3), .val (.long v5), .second, .val (.ref b7), .val (.ref b29), .val (.ref b_38), .val (.long v44), .second, .val (.long v45), .second, .val (.long v47), .second, .val (.int (1 : Int32))] [(.ref b7), (.ref b7)])) (fun t k => XS.aload X56.here hx rfl (hb hby at_157) rfl rfl k) ?_
  refine own_st (B := T56.setTop (mkF m 162 #[.val (.long arg0), .second, .val (.int arg1), .val (.int arg2), .val (.int arg3), .val (.int arg4), .val (.int v1), .val (.int v3), .val (.long v5), .second, .val (.ref b7), .val (.ref b29), .val (.ref b_38), .val (.long v44), .second, .val (.long v45), .second, .val (.long v47), .second, .val (.int (1 : Int32))] [])) (fun t k => Jvm.RoadKit.acmp (g := (mkF m 159 #[.val (.long arg0), .second, .val (.int arg1), .val (.int arg2), .val (.int arg3), .val (.int arg4), .val (.int v1), .val (.int v3), .val (.long v5), .second, .val (.ref b7), .val (.ref b29), .val (.ref b_38), .val (.long v44), .second, .val (.long v45), .second, .val (.long v47), .second, .val (.int (1 : Int32))] [(.ref b7), (.ref b7)])) X56 hx rfl rfl rfl (pc0 := 159) (pc' := 162) (same := true) rfl (hb hby at_159) rfl (decide_eq_true rfl) (by decide) (by decide) k) ?_
  refine own_st (B := T56.setTop (mkF m 164 #[.val (.long arg0), .second, .val (.int arg1), .val (.int arg2), .val (.int arg3), .val (.int arg4), .val (.int v1), .val (.int v3), .val (.long v5), .second, .val (.ref b7), .val (.ref b29), .val (.ref b_38), .val (.long v44), .second, .val (.long v45), .second, .val (.long v47), .second, .val (.int (1 : Int32))] [(.ref b_38)])) (fun t k => XS.aload X56.here hx rfl (hb hby at_162) rfl rfl k) ?_
  obtain ⟨cq57, kq57, q57a, q57b, q57c⟩ := isOf hZ e56q p38_0
  obtain ⟨_, _, ⟨T57, L57, k57, j57⟩, -, X57, ⟨Lc57, hQ57, l57, y57_, z57_⟩, st57⟩ := X56.virtualBack hx (y := (⟨"com/example/stockwright/stockwright/model/Page", "page", "()I"⟩ : MethodName)) (z := (⟨"com/example/stockwright/stockwright/model/Page", "page", "()I"⟩ : MethodName)) hown (mvT hZ (w_118 hw)) (mvT hZ (w_119 hw)) (notFace_of_selects (args := #[]) (mvT hZ (w_121 hw))) (mvT hZ (w_121 hw)) (mvT hZ (w_120 hw)) (by decide) (backOf (W := 0) (rm18 l Z a0 hw [] b_38 v3 T38.heap n0 z43 p38_2) hZ (w_122 hw) (w_85 hw) (by decide) (by decide)) q57a q57c (g := (mkF m 164 #[.val (.long arg0), .second, .val (.int arg1), .val (.int arg2), .val (.int arg3), .val (.int arg4), .val (.int v1), .val (.int v3), .val (.long v5), .second, .val (.ref b7), .val (.ref b29), .val (.ref b_38), .val (.long v44), .second, .val (.long v45), .second, .val (.long v47), .second, .val (.int (1 : Int32))] [(.ref b_38)])) rfl (by rw [hml]; rfl) (Steps.refl _) (argsL := []) (rest := []) (lenOf own_pd14 rfl) rfl (by show 2 * 0 + _ ≤ _; exact Nat.le_of_eq rfl) (hb hby at_164) (fun _ _ => ⟨rfl, e56q, (by decide : 5 + 0 ≤ _), (by decide : 21 + 0 ≤ _)⟩)
  dsimp only [Pt.U, Pt.locs, Pt.cells, Pt.slots] at X57 l57 y57_ z57_ st57 hQ57
  subst l57 y57_ z57_
  obtain ⟨rfl, N57q, e57q⟩ := hQ57
  have N57 := Fr.app N56 N57q
  refine own_ss (B := T57.setTop (mkF m 167 #[.val (.long arg0), .second, .val (.int arg1), .val (.int arg2), .val (.int arg3), .val (.int arg4), .val (.int v1), .val (.int v3), .val (.long v5), .second, .val (.ref b7), .val (.ref b29), .val (.ref b_38), .val (.long v44), .second, .val (.long v45), .second, .val (.long v47), .second, .val (.int (1 : Int32))] [(.int v3)])) st57 ?_
  refine own_st (B := T57.setTop (mkF m 169 #[.val (.long arg0), .second, .val (.int arg1), .val (.int arg2), .val (.int arg3), .val (.int arg4), .val (.int v1), .val (.int v3), .val (.long v5), .second, .val (.ref b7), .val (.ref b29), .val (.ref b_38), .val (.long v44), .second, .val (.long v45), .second, .val (.long v47), .second, .val (.int (1 : Int32))] [(.int v3), (.int v3)])) (fun t k => XS.iload X57.here hx rfl (hb hby at_167) rfl k) ?_
  refine own_st (B := T57.setTop (mkF m 172 #[.val (.long arg0), .second, .val (.int arg1), .val (.int arg2), .val (.int arg3), .val (.int arg4), .val (.int v1), .val (.int v3), .val (.long v5), .second, .val (.ref b7), .val (.ref b29), .val (.ref b_38), .val (.long v44), .second, .val (.long v45), .second, .val (.long v47), .second, .val (.int (1 : Int32))] [])) (fun t k => XS.icmpNo X57.here hx rfl (hb hby at_169) rfl (XT.ii_ne_f rfl) k) ?_
  refine own_st (B := T57.setTop (mkF m 174 #[.val (.long arg0), .second, .val (.int arg1), .val (.int arg2), .val (.int arg3), .val (.int arg4), .val (.int v1), .val (.int v3), .val (.long v5), .second, .val (.ref b7), .val (.ref b29), .val (.ref b_38), .val (.long v44), .second, .val (.long v45), .second, .val (.long v47), .second, .val (.int (1 : Int32))] [(.ref b_38)])) (fun t k => XS.aload X57.here hx rfl (hb hby at_172) rfl rfl k) ?_
  obtain ⟨cq58, kq58, q58a, q58b, q58c⟩ := isOf hZ e57q p38_0
  obtain ⟨_, _, ⟨T58, L58, k58, j58⟩, -, X58, ⟨Lc58, hQ58, l58, y58_, z58_⟩, st58⟩ := X57.virtualBack hx (y := (⟨"com/example/stockwright/stockwright/model/Page", "pageSize", "()I"⟩ : MethodName)) (z := (⟨"com/example/stockwright/stockwright/model/Page", "pageSize", "()I"⟩ : MethodName)) hown (mvT hZ (w_123 hw)) (mvT hZ (w_124 hw)) (notFace_of_selects (args := #[]) (mvT hZ (w_126 hw))) (mvT hZ (w_126 hw)) (mvT hZ (w_125 hw)) (by decide) (backOf (W := 0) (rm19 l Z a0 hw [] b_38 v1 T38.heap n0 z43 p38_3) hZ (w_127 hw) (w_85 hw) (by decide) (by decide)) q58a q58c (g := (mkF m 174 #[.val (.long arg0), .second, .val (.int arg1), .val (.int arg2), .val (.int arg3), .val (.int arg4), .val (.int v1), .val (.int v3), .val (.long v5), .second, .val (.ref b7), .val (.ref b29), .val (.ref b_38), .val (.long v44), .second, .val (.long v45), .second, .val (.long v47), .second, .val (.int (1 : Int32))] [(.ref b_38)])) rfl (by rw [hml]; rfl) (Steps.refl _) (argsL := []) (rest := []) (lenOf own_pd14 rfl) rfl (by show 2 * 0 + _ ≤ _; exact Nat.le_of_eq rfl) (hb hby at_174) (fun _ _ => ⟨rfl, e57q, (by decide : 5 + 0 ≤ _), (by decide : 21 + 0 ≤ _)⟩)
  dsimp only [Pt.U, Pt.locs, Pt.cells, Pt.slots] at X58 l58 y58_ z58_ st58 hQ58
  subst l58 y58_ z58_
  obtain ⟨rfl, N58q, e58q⟩ := hQ58
  have N58 := Fr.app N57 N58q
  refine own_ss (B := T58.setTop (mkF m 177 #[.val (.long arg0), .second, .val (.int arg1), .val (.int arg2), .val (.int arg3), .val (.int arg4), .val (.int v1), .val (.int v3), .val (.long v5), .second, .val (.ref b7), .val (.ref b29), .val (.ref b_38), .val (.long v44), .second, .val (.long v45), .second, .val (.long v47), .second, .val (.int (1 : Int32))] [(.int v1)])) st58 ?_
  refine own_st (B := T58.setTop (mkF m 179 #[.val (.long arg0), .second, .val (.int arg1), .val (.int arg2), .val (.int arg3), .val (.int arg4), .val (.int v1), .val (.int v3), .val (.long v5), .second, .val (.ref b7), .val (.ref b29), .val (.ref b_38), .val (.long v44), .second, .val (.long v45), .second, .val (.long v47), .second, .val (.int (1 : Int32))] [(.int v1), (.int v1)])) (fun t k => XS.iload X58.here hx rfl (hb hby at_177) rfl k) ?_
  refine own_st (B := T58.setTop (mkF m 182 #[.val (.long arg0), .second, .val (.int arg1), .val (.int arg2), .val (.int arg3), .val (.int arg4), .val (.int v1), .val (.int v3), .val (.long v5), .second, .val (.ref b7), .val (.ref b29), .val (.ref b_38), .val (.long v44), .second, .val (.long v45), .second, .val (.long v47), .second, .val (.int (1 : Int32))] [])) (fun t k => XS.icmpNo X58.here hx rfl (hb hby at_179) rfl (XT.ii_ne_f rfl) k) ?_
  refine own_st (B := T58.setTop (mkF m 184 #[.val (.long arg0), .second, .val (.int arg1), .val (.int arg2), .val (.int arg3), .val (.int arg4), .val (.int v1), .val (.int v3), .val (.long v5), .second, .val (.ref b7), .val (.ref b29), .val (.ref b_38), .val (.long v44), .second, .val (.long v45), .second, .val (.long v47), .second, .val (.int (1 : Int32))] [(.ref b_38)])) (fun t k => XS.aload X58.here hx rfl (hb hby at_182) rfl rfl k) ?_
  obtain ⟨cq59, kq59, q59a, q59b, q59c⟩ := isOf hZ e58q p38_0
  obtain ⟨_, _, ⟨T59, L59, k59, j59⟩, -, X59, ⟨Lc59, hQ59, l59, y59_, z59_⟩, st59⟩ := X58.virtualBack hx (y := (⟨"com/example/stockwright/stockwright/model/Page", "totalItems", "()J"⟩ : MethodName)) (z := (⟨"com/example/stockwright/stockwright/model/Page", "totalItems", "()J"⟩ : MethodName)) hown (mvT hZ (w_128 hw)) (mvT hZ (w_129 hw)) (notFace_of_selects (args := #[]) (mvT hZ (w_131 hw))) (mvT hZ (w_131 hw)) (mvT hZ (w_130 hw)) (by decide) (backOf (W := 0) (rm20 l Z a0 hw [] b_38 v5 T38.heap n0 z43 p38_4) hZ (w_132 hw) (w_85 hw) (by decide) (by decide)) q59a q59c (g := (mkF m 184 #[.val (.long arg0), .second, .val (.int arg1), .val (.int arg2), .val (.int arg3), .val (.int arg4), .val (.int v1), .val (.int v3), .val (.long v5), .second, .val (.ref b7), .val (.ref b29), .val (.ref b_38), .val (.long v44), .second, .val (.long v45), .second, .val (.long v47), .second, .val (.int (1 : Int32))] [(.ref b_38)])) rfl (by rw [hml]; rfl) (Steps.refl _) (argsL := []) (rest := []) (lenOf own_pd21 rfl) rfl (by show 2 * 0 + _ ≤ _; exact Nat.le_of_eq rfl) (hb hby at_184) (fun _ _ => ⟨rfl, e58q, (by decide : 5 + 0 ≤ _), (by decide : 21 + 0 ≤ _)⟩)
  dsimp only [Pt.U, Pt.locs, Pt.cells, Pt.slots] at X59 l59 y59_ z59_ st59 hQ59
  subst l59 y59_ z59_
  obtain ⟨rfl, N59q, e59q⟩ := hQ59
  have N59 := Fr.app N58 N59q
  refine own_ss (B := T59.setTop (mkF m 187 #[.val (.long arg0), .second, .val (.int arg1), .val (.int arg2), .val (.int arg3), .val (.int arg4), .val (.int v1), .val (.int v3), .val (.long v5), .second, .val (.ref b7), .val (.ref b29), .val (.ref b_38), .val (.long v44), .second, .val (.long v45), .second, .val (.long v47), .second, .val (.int (1 : Int32))] [(.long v5)])) st59 ?_
  refine own_st (B := T59.setTop (mkF m 189 #[.val (.long arg0), .second, .val (.int arg1), .val (.int arg2), .val (.int arg3), .val (.int arg4), .val (.int v1), .val (.int v3), .val (.long v5), .second, .val (.ref b7), .val (.ref b29), .val (.ref b_38), .val (.long v44), .second, .val (.long v45), .second, .val (.long v47), .second, .val (.int (1 : Int32))] [(.long v5), (.long v5)])) (fun t k => XS.lload X59.here hx rfl (hb hby at_187) rfl k) ?_
  refine own_st (B := T59.setTop (mkF m 190 #[.val (.long arg0), .second, .val (.int arg1), .val (.int arg2), .val (.int arg3), .val (.int arg4), .val (.int v1), .val (.int v3), .val (.long v5), .second, .val (.ref b7), .val (.ref b29), .val (.ref b_38), .val (.long v44), .second, .val (.long v45), .second, .val (.long v47), .second, .val (.int (1 : Int32))] [(.int (XT.cmpL v5 v5))])) (fun t k => XS.lcmp X59.here hx rfl (hb hby at_189) rfl k) ?_
  refine own_st (B := T59.setTop (mkF m 193 #[.val (.long arg0), .second, .val (.int arg1), .val (.int arg2), .val (.int arg3), .val (.int arg4), .val (.int v1), .val (.int v3), .val (.long v5), .second, .val (.ref b7), .val (.ref b29), .val (.ref b_38), .val (.long v44), .second, .val (.long v45), .second, .val (.long v47), .second, .val (.int (1 : Int32))] [])) (fun t k => XS.ifNo X59.here hx rfl (hb hby at_190) rfl (XT.ll_ne_f rfl) k) ?_
  refine own_st (B := T59.setTop (mkF m 195 #[.val (.long arg0), .second, .val (.int arg1), .val (.int arg2), .val (.int arg3), .val (.int arg4), .val (.int v1), .val (.int v3), .val (.long v5), .second, .val (.ref b7), .val (.ref b29), .val (.ref b_38), .val (.long v44), .second, .val (.long v45), .second, .val (.long v47), .second, .val (.int (1 : Int32))] [(.ref b_38)])) (fun t k => XS.aload X59.here hx rfl (hb hby at_193) rfl rfl k) ?_
  obtain ⟨cq60, kq60, q60a, q60b, q60c⟩ := isOf hZ e59q p38_0
  obtain ⟨_, _, ⟨T60, L60, k60, j60⟩, -, X60, ⟨Lc60, hQ60, l60, y60_, z60_⟩, st60⟩ := X59.virtualBack hx (y := (⟨"com/example/stockwright/stockwright/model/Page", "totalPages", "()J"⟩ : MethodName)) (z := (⟨"com/example/stockwright/stockwright/model/Page", "totalPages", "()J"⟩ : MethodName)) hown (mvT hZ (w_133 hw)) (mvT hZ (w_134 hw)) (notFace_of_selects (args := #[]) (mvT hZ (w_136 hw))) (mvT hZ (w_136 hw)) (mvT hZ (w_135 hw)) (by decide) (backOf (W := 0) (rm21 l Z a0 hw [] b_38 ((((v5 + (v1.toInt64)) - (1 : Int64)) / (v1.toInt64))) T38.heap n0 z43 p38_5) hZ (w_137 hw) (w_85 hw) (by decide) (by decide)) q60a q60c (g := (mkF m 195 #[.val (.long arg0), .second, .val (.int arg1), .val (.int arg2), .val (.int arg3), .val (.int arg4), .val (.int v1), .val (.int v3), .val (.long v5), .second, .val (.ref b7), .val (.ref b29), .val (.ref b_38), .val (.long v44), .second, .val (.long v45), .second, .val (.long v47), .second, .val (.int (1 : Int32))] [(.ref b_38)])) rfl (by rw [hml]; rfl) (Steps.refl _) (argsL := []) (rest := []) (lenOf own_pd21 rfl) rfl (by show 2 * 0 + _ ≤ _; exact Nat.le_of_eq rfl) (hb hby at_195) (fun _ _ => ⟨rfl, e59q, (by decide : 5 + 0 ≤ _), (by decide : 21 + 0 ≤ _)⟩)
  dsimp only [Pt.U, Pt.locs, Pt.cells, Pt.slots] at X60 l60 y60_ z60_ st60 hQ60
  subst l60 y60_ z60_
  obtain ⟨rfl, N60q, e60q⟩ := hQ60
  have N60 := Fr.app N59 N60q
  refine own_ss (B := T60.setTop (mkF m 198 #[.val (.long arg0), .second, .val (.int arg1), .val (.int arg2), .val (.int arg3), .val (.int arg4), .val (.int v1), .val (.int v3), .val (.long v5), .second, .val (.ref b7), .val (.ref b29), .val (.ref b_38), .val (.long v44), .second, .val (.long v45), .second, .val (.long v47), .second, .val (.int (1 : Int32))] [(.long ((((v5 + (v1.toInt64)) - (1 : Int64)) / (v1.toInt64))))])) st60 ?_
  refine own_st (B := T60.setTop (mkF m 200 #[.val (.long arg0), .second, .val (.int arg1), .val (.int arg2), .val (.int arg3), .val (.int arg4), .val (.int v1), .val (.int v3), .val (.long v5), .second, .val (.ref b7), .val (.ref b29), .val (.ref b_38), .val (.long v44), .second, .val (.long v45), .second, .val (.long v47), .second, .val (.int (1 : Int32))] [(.long v47), (.long ((((v5 + (v1.toInt64)) - (1 : Int64)) / (v1.toInt64))))])) (fun t k => XS.lload X60.here hx rfl (hb hby at_198) rfl k) ?_
  refine own_st (B := T60.setTop (mkF m 201 #[.val (.long arg0), .second, .val (.int arg1), .val (.int arg2), .val (.int arg3), .val (.int arg4), .val (.int v1), .val (.int v3), .val (.long v5), .second, .val (.ref b7), .val (.ref b29), .val (.ref b_38), .val (.long v44), .second, .val (.long v45), .second, .val (.long v47), .second, .val (.int (1 : Int32))] [(.int (XT.cmpL ((((v5 + (v1.toInt64)) - (1 : Int64)) / (v1.toInt64))) v47))])) (fun t k => XS.lcmp X60.here hx rfl (hb hby at_200) rfl k) ?_
  have hc61 : ((((v5 + (v1.toInt64)) - (1 : Int64)) / (v1.toInt64))) = v47 := by
    exact (own_ceil (own_tot hv5) (own_sz ev1) ev44 ev45 hv47).1
  refine own_st (B := T60.setTop (mkF m 204 #[.val (.long arg0), .second, .val (.int arg1), .val (.int arg2), .val (.int arg3), .val (.int arg4), .val (.int v1), .val (.int v3), .val (.long v5), .second, .val (.ref b7), .val (.ref b29), .val (.ref b_38), .val (.long v44), .second, .val (.long v45), .second, .val (.long v47), .second, .val (.int (1 : Int32))] [])) (fun t k => XS.ifNo X60.here hx rfl (hb hby at_201) rfl (XT.ll_ne_f hc61) k) ?_
  refine own_st (B := T60.setTop (mkF m 206 #[.val (.long arg0), .second, .val (.int arg1), .val (.int arg2), .val (.int arg3), .val (.int arg4), .val (.int v1), .val (.int v3), .val (.long v5), .second, .val (.ref b7), .val (.ref b29), .val (.ref b_38), .val (.long v44), .second, .val (.long v45), .second, .val (.long v47), .second, .val (.int (1 : Int32))] [(.int (1 : Int32))])) (fun t k => XS.iload X60.here hx rfl (hb hby at_204) rfl k) ?_
  refine own_st (B := T60.setTop (mkF m 209 #[.val (.long arg0), .second, .val (.int arg1), .val (.int arg2), .val (.int arg3), .val (.int arg4), .val (.int v1), .val (.int v3), .val (.long v5), .second, .val (.ref b7), .val (.ref b29), .val (.ref b_38), .val (.long v44), .second, .val (.long v45), .second, .val (.long v47), .second, .val (.int (1 : Int32))] [])) (fun t k => XS.ifNo X60.here hx rfl (hb hby at_206) rfl (by decide) k) ?_
  refine own_st (B := T60.setTop (mkF m 210 #[.val (.long arg0), .second, .val (.int arg1), .val (.int arg2), .val (.int arg3), .val (.int arg4), .val (.int v1), .val (.int v3), .val (.long v5), .second, .val (.ref b7), .val (.ref b29), .val (.ref b_38), .val (.long v44), .second, .val (.long v45), .second, .val (.long v47), .second, .val (.int (1 : Int32))] [(.int (1 : Int32))])) (fun t k => XS.iconst X60.here hx rfl (hb hby at_209) k) ?_
  refine own_st (B := T60.setTop (mkF m 214 #[.val (.long arg0), .second, .val (.int arg1), .val (.int arg2), .val (.int arg3), .val (.int arg4), .val (.int v1), .val (.int v3), .val (.long v5), .second, .val (.ref b7), .val (.ref b29), .val (.ref b_38), .val (.long v44), .second, .val (.long v45), .second, .val (.long v47), .second, .val (.int (1 : Int32))] [(.int (1 : Int32))])) (fun t k => XS.goto X60.here hx rfl (pc0 := 210) (pc' := 214) rfl (hb hby at_210) (by decide) (by decide) k) ?_
  refine own_retN X60 hx hlk (t := .boolean) Bd.returns (by simp) (z' := (1 : Int32)) rfl (hb hby at_214) (by decide) (by decide) ?_
  show Q0 Z arg0 arg1 arg2 arg3 arg4 ca dca h0 n0 _ T60.heap _
  rw [e60q]
  exact ⟨rfl, N60⟩
set_option maxHeartbeats 40000000 in
theorem comes_1 {Post : Tables → Env → Array Value → State → Outcome → State → Prop} (hpost : ∀ tb e args s v u, (limb_1_1.after args s (.returned v) u = true ∧ limb_1_2.after args s (.returned v) u = true ∧ True) → FrameEnd s (.returned v) u (Jvm.fieldLocs frame_1_writes args s ++ Jvm.arrayLocs frame_1_arrays args s ++ Jvm.staticLocs frame_1_statics s) 24 128 → Post tb e args s (.returned v) u) :
    ArmFor flags0 classFile x code maxLocals ret World_1 tables_1 room_1 Calls_1 rest_1 Pre_1 Post := by
  intro l hfl _ _ p e ha hc hk s m args below hf hA hF happ hP
  obtain ⟨hcalls, hrest, hpre⟩ := hP
  obtain ⟨-, -, -, hnamed, -, -, -, hat⟩ := (Spec.applies_iff hf).mp happ
  obtain ⟨hg, hn⟩ := and_e (Cond.before_iff.mp (show (Jvm.Cond.and given_1 narrow_1).before args s = true from hpre))
  obtain ⟨g1a, g1b⟩ := and_e hg
  obtain ⟨g2a, g2b⟩ := and_e g1b
  obtain ⟨g3a, g3b⟩ := and_e g2b
  obtain ⟨g4a, g4b⟩ := and_e g3b
  obtain ⟨g5a, g5b⟩ := and_e g4b
  obtain ⟨w0, w1, w2, w3, w4, rfl⟩ : ∃ w0 w1 w2 w3 w4 : Value, args = #[w0, w1, w2, w3, w4] := by
    have hs : args.size = 5 := by simpa [Cond.value, given_1] using g1a
    obtain ⟨L⟩ := args
    match L, hs with
    | [w0, w1, w2, w3, w4], _ => exact ⟨w0, w1, w2, w3, w4, rfl⟩
  have hw := fun d (hd : d ∈ tables_1) => atoms_spec (ws := Jvm.Cond.code x code maxLocals ret :: tables_1) hat d (List.mem_cons_of_mem _ hd)
  have hfit : Fit s := fun {y c} hc i hi => by
    obtain ⟨ha, rfl⟩ := Array.getElem?_eq_some_iff.mp hc
    have q := List.all_eq_true.mp ((Array.all_eq_true_iff_forall_mem.mp hF) _ (Array.getElem_mem ha)) i (List.mem_range.mpr hi)
    simpa [Array.getElem?_eq_getElem hi] using q
  obtain ⟨hsets, hown0⟩ := atoms_of _ (rest_1_c_eq ▸ (show rest_1_c.before _ s = true from hrest))
  have hr0 := Cond.before_iff.mp hown0
  obtain ⟨i0, ei0⟩ := isL_v g2a
  obtain rfl : w0 = (.long i0) := Option.some.inj ei0
  obtain ⟨i1, ei1⟩ := is_v g3a
  obtain rfl : w1 = (.int i1) := Option.some.inj ei1
  obtain ⟨i2, ei2⟩ := is_v g4a
  obtain rfl : w2 = (.int i2) := Option.some.inj ei2
  obtain ⟨i3, ei3⟩ := is_v g5a
  obtain rfl : w3 = (.int i3) := Option.some.inj ei3
  obtain ⟨i4, ei4⟩ := is_v g5b
  obtain rfl : w4 = (.int i4) := Option.some.inj ei4
  have S_high : Sta s s.heap "java/lang/Integer$IntegerCache" "high" "I" (.int (127 : Int32)) := Sta.start (eqv_i (Term.int_eval (127)) (Cond.before_iff.mp (hsets _ (List.mem_of_getElem? (i := 12) rfl)))) (Or.inl (hsets _ (List.mem_of_getElem? (i := 10) rfl)))
  obtain ⟨ca, eca⟩ := exa_v (Cond.before_iff.mp (hsets _ (List.mem_of_getElem? (i := 14) rfl)))
  have S_cache : Sta s s.heap "java/lang/Integer$IntegerCache" "cache" "[Ljava/lang/Integer;" (.ref ca) := Sta.start eca (Or.inr ⟨(w_37 hw), (hsets _ (List.mem_of_getElem? (i := 11) rfl))⟩)
  obtain ⟨clc, Ac⟩ := Arr.start eca (Cond.before_iff.mp (hsets _ (List.mem_of_getElem? (i := 13) rfl)))
  have hlc : clc.slots.toList.length = 256 := own_len0 (k := 256) eca (Ac.fin (Vm.Alike.refl _)) (by decide) (by decide) (eqv_i (Term.int_eval (256)) (Cond.before_iff.mp (hsets _ (List.mem_of_getElem? (i := 15) rfl))))
  have C_cache : own_Cache s s.heap ca := own_Cache.start (fun idx => eca) Ac hlc (Cond.before_iff.mp (hsets _ (List.mem_of_getElem? (i := 16) rfl)))
  obtain ⟨dca, edc⟩ := exa_v (Cond.before_iff.mp (hsets _ (List.mem_of_getElem? (i := 7) rfl)))
  have S_dc : Sta s s.heap "java/util/ArrayList" "DEFAULTCAPACITY_EMPTY_ELEMENTDATA" "[Ljava/lang/Object;" (.ref dca) := Sta.start edc (Or.inr ⟨(w_8 hw), (hsets _ (List.mem_of_getElem? (i := 2) rfl))⟩)
  obtain ⟨cld, Ad⟩ := Arr.start edc (Cond.before_iff.mp (hsets _ (List.mem_of_getElem? (i := 6) rfl)))
  have hld : cld.slots.toList.length = 0 := own_len0 (k := 0) edc (Ad.fin (Vm.Alike.refl _)) (by decide) (by decide) (eqv_i (Term.int_eval (0)) (Cond.before_iff.mp (hsets _ (List.mem_of_getElem? (i := 8) rfl))))
  have A_dc : own_A s s.heap dca (.object "java/lang/Object") ([] : List Value) := ⟨cld, Ad, List.eq_nil_of_length_eq_zero hld⟩
  have E_dc : Exa s s.heap dca "[Ljava/lang/Object;" := Exa.start edc (Cond.before_iff.mp (hsets _ (List.mem_of_getElem? (i := 7) rfl)))
  obtain ⟨n, o, h1, h2, h3, _, L, rfl, ⟨rfl, N⟩, hq⟩ := rm0 l s _ hw tables_1 i0 i1 i2 i3 i4 ca dca s.heap s.heap.size (Nat.le_refl _) S_high S_cache C_cache S_dc A_dc E_dc p e ha hc hk s m _ below hf ((Spec.applies_iff_loose hf).mp happ).1 ⟨rfl, State.Warmed39.refl s, rfl⟩ trivial
  refine ⟨n, _, h1, h2, h3, hpost _ _ _ _ _ _ ⟨Cond.after_iff.mpr rfl, Cond.after_iff.mpr (eq_i res_at (Term.int_eval (1)) rfl), trivial⟩ ⟨hq.1, hq.2.1, (hq.2.2.sift fun y hy => Or.inr (N y hy)).mono (by decide) (by decide)⟩⟩
theorem main_1_1 : Claimed_1_1 := comes_1 fun _ _ _ _ _ _ h hF => ⟨h.1, hF⟩
theorem main_1_2 : Claimed_1_2 := comes_1 fun _ _ _ _ _ _ h hF => ⟨h.2.1, hF⟩
end Jvm.Pilot.@@N@@
namespace Jvm.Pilot.@@N@@
open Jvm Jvm.ClassFile Sem Op Lib Jvm.Free Jvm.Stand Jvm.Pilot.@@N@@.Jvm.D
/-! MADE BY PROGRAM (witnessworld.py) out of the Statement's table words and the real class files: 28 classes; the members and pool entries that the words name. The judged class is class 1, her method 1. -/
namespace start1
open Jvm.ClassFile
def u (s : String) : CpInfo := .utf8 (stringToUtf16 s)
/-- a pool by its gaps: so many unusable entries, then the entry; so many at the end -/
def gap : Nat → List CpInfo → List CpInfo
  | 0, r => r
  | n + 1, r => .unusable :: gap n r
def poolList (es : List (Nat × CpInfo)) (last : Nat) : List CpInfo := es.foldr (fun e r => gap e.1 (e.2 :: r)) (gap last [])
def pool (es : List (Nat × CpInfo)) (last : Nat) : Array CpInfo := ⟨poolList es last⟩
def fileOf (pool : Array CpInfo) (this : Nat) (attrs : Array Attribute := #[]) (ms : Array MethodInfo := #[]) (fl : Nat := 33) (sup : Nat := 0) (ifs : Array Nat := #[]) (fds : Array FieldInfo := #[]) : ClassFile where
  minorVersion := 0
  majorVersion := 65
  constantPool := pool
  accessFlags := fl
  thisClass := this
  superClass := sup
  interfaces := ifs
  fields := fds
  methods := ms
  attributes := attrs
def plain (name : String) (sup : Option ClassId) : Class where
  name := name
  kind := .ordinary
  loader := none
  accessFlags := 33
  super := sup
  interfaces := #[]
  cf := none
  fields := #[]
  methods := #[]
  instanceTypes := #[]
  staticTypes := #[]
  resolved := #[]
  callSites := []
  init := .initialized
  statics := none
  mirror := none

def pool0 : Array CpInfo := pool [(5, u "<init>"), (0, u "()V"), (1, .class_ 10), (1, u "java/lang/Object")] 113

def k0c0 : Code := { maxStack := 0, maxLocals := 1, code := object_method_1_code, exceptionTable := #[], attributes := #[] }
def k0m0 : Method := { name := "<init>", desc := "()V", sig := { parameters := [], returnType := none }, accessFlags := 1, code := some k0c0 }
/-- java/lang/Object -/
def k0 : Class := { plain "java/lang/Object" none with
  accessFlags := 33
  interfaces := #[]
  cf := some (fileOf pool0 8 #[] #[{ accessFlags := 1, nameIndex := 5, descriptorIndex := 6, attributes := #[] }] 33 0 #[] #[])
  fields := #[]
  methods := #[k0m0]
  instanceTypes := #[]
  staticTypes := #[]
  resolved := Array.replicate 124 none
  statics := none }

def pool1 : Array CpInfo := pool [(2, .class_ 4), (0, .nameAndType 5 6), (0, u "java/lang/Object"), (0, u "<init>"), (0, u "()V"), (0, .integer 2147483647), (0, .class_ 9), (0, u "com/example/stockwright/stockwright/model/PageRequest"), (0, .methodref 11 12), (0, .class_ 13), (0, .nameAndType 14 15), (0, u "java/lang/Math"), (0, u "max"), (0, u "(II)I"), (0, .long 511), (1, .long 4611686018427387903), (1, .class_ 21), (0, u "java/util/ArrayList"), (0, .methodref 20 3), (0, .methodref 24 25), (0, .class_ 26), (0, .nameAndType 27 28), (0, u "java/lang/Integer"), (0, u "valueOf"), (0, u "(I)Ljava/lang/Integer;"), (0, .methodref 20 30), (0, .nameAndType 31 32), (0, u "add"), (0, u "(Ljava/lang/Object;)Z"), (0, .methodref 8 34), (0, .nameAndType 5 35), (0, u "(II)V"), (0, .methodref 37 38), (0, .class_ 39), (0, .nameAndType 40 41), (0, u "com/example/stockwright/stockwright/model/Page"), (0, u "of"), (0, u "(Ljava/util/List;Lcom/example/stockwright/stockwright/model/PageRequest;J)Lcom/example/stockwright/stockwright/model/Page;"), (0, .methodref 37 43), (0, .nameAndType 44 45), (0, u "items"), (0, u "()Ljava/util/List;"), (0, .methodref 37 47), (0, .nameAndType 48 49), (0, u "page"), (0, u "()I"), (0, .methodref 37 51), (0, .nameAndType 52 49), (0, u "pageSize"), (0, .methodref 37 54), (0, .nameAndType 55 56), (0, u "totalItems"), (0, u "()J"), (0, .methodref 37 58), (0, .nameAndType 59 56), (0, u "totalPages"), (0, .class_ 61), (0, u "com/example/stockwright/stockwright/model/PageOfPinLaw"), (2, u "law"), (0, u "(JIIII)Z")] 3

def k1m0 : Method := { name := "<init>", desc := "()V", sig := { parameters := [], returnType := none }, accessFlags := 1, code := none }
def k1c1 : Code := { maxStack := 5, maxLocals := 20, code := code, exceptionTable := #[], attributes := #[] }
def k1m1 : Method := { name := "law", desc := "(JIIII)Z", sig := { parameters := [.long, .int, .int, .int, .int], returnType := some .boolean }, accessFlags := 9, code := some k1c1 }
/-- com/example/stockwright/stockwright/model/PageOfPinLaw -/
def k1 : Class := { plain "com/example/stockwright/stockwright/model/PageOfPinLaw" (some 0) with
  accessFlags := 49
  interfaces := #[]
  cf := some (fileOf pool1 60 #[] #[{ accessFlags := 1, nameIndex := 5, descriptorIndex := 6, attributes := #[] }, { accessFlags := 9, nameIndex := 64, descriptorIndex := 65, attributes := #[] }] 49 2 #[] #[])
  fields := #[]
  methods := #[k1m0, k1m1]
  instanceTypes := #[]
  staticTypes := #[]
  resolved := Array.replicate 69 none
  statics := none }

def pool2 : Array CpInfo := pool [(1, .class_ 2), (0, u "java/lang/Math"), (1, .class_ 6), (1, u "java/lang/Object"), (0, u "<init>"), (0, u "()V"), (89, .class_ 100), (1, u "java/lang/Math$RandomNumberGeneratorHolder"), (71, u "negativeZeroFloatBits"), (0, u "J"), (2, u "negativeZeroDoubleBits"), (21, u "max"), (46, u "$assertionsDisabled"), (0, u "Z"), (88, u "(II)I"), (2, u "twoToTheDoubleScaleDown"), (0, u "D"), (4, u "twoToTheDoubleScaleUp"), (9, u "E"), (3, u "PI"), (2, u "TAU"), (2, u "DEGREES_TO_RADIANS"), (0, u "RADIANS_TO_DEGREES")] 94

def k2m0 : Method := { name := "<init>", desc := "()V", sig := { parameters := [], returnType := none }, accessFlags := 2, code := none }
def k2c1 : Code := { maxStack := 2, maxLocals := 2, code := jdk_29_method_65_code, exceptionTable := #[], attributes := #[] }
def k2m1 : Method := { name := "max", desc := "(II)I", sig := { parameters := [.int, .int], returnType := some .int }, accessFlags := 9, code := some k2c1 }
/-- java/lang/Math -/
def k2 : Class := { plain "java/lang/Math" (some 0) with
  accessFlags := 49
  interfaces := #[]
  cf := some (fileOf pool2 1 #[.nestMembers #[98]] #[{ accessFlags := 2, nameIndex := 7, descriptorIndex := 8, attributes := #[] }, { accessFlags := 9, nameIndex := 198, descriptorIndex := 335, attributes := #[] }] 49 4 #[] #[{ accessFlags := 25, nameIndex := 354, descriptorIndex := 339, attributes := #[] }, { accessFlags := 25, nameIndex := 358, descriptorIndex := 339, attributes := #[] }, { accessFlags := 25, nameIndex := 361, descriptorIndex := 339, attributes := #[] }, { accessFlags := 26, nameIndex := 364, descriptorIndex := 339, attributes := #[] }, { accessFlags := 26, nameIndex := 365, descriptorIndex := 339, attributes := #[] }, { accessFlags := 26, nameIndex := 172, descriptorIndex := 173, attributes := #[] }, { accessFlags := 26, nameIndex := 176, descriptorIndex := 173, attributes := #[] }, { accessFlags := 8, nameIndex := 344, descriptorIndex := 339, attributes := #[] }, { accessFlags := 8, nameIndex := 338, descriptorIndex := 339, attributes := #[] }, { accessFlags := 4120, nameIndex := 245, descriptorIndex := 246, attributes := #[] }])
  fields := #[{ name := "E", type := .double, accessFlags := 25, slot := 0, constantValue := 0 }, { name := "PI", type := .double, accessFlags := 25, slot := 1, constantValue := 0 }, { name := "TAU", type := .double, accessFlags := 25, slot := 2, constantValue := 0 }, { name := "DEGREES_TO_RADIANS", type := .double, accessFlags := 26, slot := 3, constantValue := 0 }, { name := "RADIANS_TO_DEGREES", type := .double, accessFlags := 26, slot := 4, constantValue := 0 }, { name := "negativeZeroFloatBits", type := .long, accessFlags := 26, slot := 5, constantValue := 0 }, { name := "negativeZeroDoubleBits", type := .long, accessFlags := 26, slot := 6, constantValue := 0 }, { name := "twoToTheDoubleScaleUp", type := .double, accessFlags := 8, slot := 7, constantValue := 0 }, { name := "twoToTheDoubleScaleDown", type := .double, accessFlags := 8, slot := 8, constantValue := 0 }, { name := "$assertionsDisabled", type := .boolean, accessFlags := 4120, slot := 9, constantValue := 0 }]
  methods := #[k2m0, k2m1]
  instanceTypes := #[]
  staticTypes := #[.double, .double, .double, .double, .double, .long, .long, .double, .double, .boolean]
  resolved := Array.replicate 460 none
  statics := none }

def pool3 : Array CpInfo := pool [(8, .class_ 10), (1, u "java/lang/Iterable"), (24, .class_ 36), (0, u "java/lang/Object")] 25

/-- java/lang/Iterable -/
def k3 : Class := { plain "java/lang/Iterable" (some 0) with
  accessFlags := 1537
  interfaces := #[]
  cf := some (fileOf pool3 8 #[] #[] 1537 35 #[] #[])
  fields := #[]
  methods := #[]
  instanceTypes := #[]
  staticTypes := #[]
  resolved := Array.replicate 62 none
  statics := none }

def pool4 : Array CpInfo := pool [(10, .class_ 12), (1, u "java/util/Collection"), (47, .class_ 61), (0, u "java/lang/Object"), (0, .class_ 63), (0, u "java/lang/Iterable")] 51

/-- java/util/Collection -/
def k4 : Class := { plain "java/util/Collection" (some 0) with
  accessFlags := 1537
  interfaces := #[3]
  cf := some (fileOf pool4 10 #[] #[] 1537 60 #[62] #[])
  fields := #[]
  methods := #[]
  instanceTypes := #[]
  staticTypes := #[]
  resolved := Array.replicate 115 none
  statics := none }

def pool5 : Array CpInfo := pool [(1, .methodref 2 3), (0, .class_ 4), (0, .nameAndType 5 6), (0, u "java/lang/Object"), (0, u "<init>"), (0, u "()V"), (1, .class_ 10), (1, u "java/util/AbstractCollection"), (66, .class_ 78), (0, u "java/util/Collection")] 81

def k5c0 : Code := { maxStack := 1, maxLocals := 1, code := jdk_22_method_1_code, exceptionTable := #[], attributes := #[] }
def k5m0 : Method := { name := "<init>", desc := "()V", sig := { parameters := [], returnType := none }, accessFlags := 4, code := some k5c0 }
/-- java/util/AbstractCollection -/
def k5 : Class := { plain "java/util/AbstractCollection" (some 0) with
  accessFlags := 1057
  interfaces := #[4]
  cf := some (fileOf pool5 8 #[] #[{ accessFlags := 4, nameIndex := 5, descriptorIndex := 6, attributes := #[] }] 1057 2 #[77] #[])
  fields := #[]
  methods := #[k5m0]
  instanceTypes := #[]
  staticTypes := #[]
  resolved := Array.replicate 160 none
  statics := none }

def pool6 : Array CpInfo := pool [(8, .class_ 10), (1, u "java/util/SequencedCollection"), (15, .class_ 27), (0, u "java/lang/Object"), (0, .class_ 29), (0, u "java/util/Collection")] 27

/-- java/util/SequencedCollection -/
def k6 : Class := { plain "java/util/SequencedCollection" (some 0) with
  accessFlags := 1537
  interfaces := #[4]
  cf := some (fileOf pool6 8 #[] #[] 1537 26 #[28] #[])
  fields := #[]
  methods := #[]
  instanceTypes := #[]
  staticTypes := #[]
  resolved := Array.replicate 57 none
  statics := none }

def pool7 : Array CpInfo := pool [(8, .class_ 10), (1, u "java/util/List"), (92, .class_ 104), (0, u "java/lang/Object"), (15, .class_ 121), (0, u "java/util/SequencedCollection")] 129

/-- java/util/List -/
def k7 : Class := { plain "java/util/List" (some 0) with
  accessFlags := 1537
  interfaces := #[6]
  cf := some (fileOf pool7 8 #[] #[] 1537 103 #[120] #[])
  fields := #[]
  methods := #[]
  instanceTypes := #[]
  staticTypes := #[]
  resolved := Array.replicate 251 none
  statics := none }

def pool8 : Array CpInfo := pool [(1, .methodref 2 3), (0, .class_ 4), (0, .nameAndType 5 6), (0, u "java/util/AbstractCollection"), (0, u "<init>"), (0, u "()V"), (0, .fieldref 8 9), (0, .class_ 10), (0, .nameAndType 11 12), (0, u "java/util/AbstractList"), (0, u "modCount"), (0, u "I"), (64, .class_ 78), (0, u "java/util/AbstractList$Itr"), (3, .class_ 83), (0, u "java/util/AbstractList$ListItr"), (9, .class_ 94), (0, u "java/util/AbstractList$RandomAccessSubList"), (3, .class_ 99), (0, u "java/util/AbstractList$SubList"), (33, .class_ 134), (0, u "java/util/List"), (73, .class_ 209), (0, u "java/util/AbstractList$SubList$1"), (0, .class_ 211), (0, u "java/util/AbstractList$RandomAccessSpliterator")] 6

def k8c0 : Code := { maxStack := 2, maxLocals := 1, code := jdk_39_method_1_code, exceptionTable := #[], attributes := #[] }
def k8m0 : Method := { name := "<init>", desc := "()V", sig := { parameters := [], returnType := none }, accessFlags := 4, code := some k8c0 }
/-- java/util/AbstractList -/
def k8 : Class := { plain "java/util/AbstractList" (some 5) with
  accessFlags := 1057
  interfaces := #[7]
  cf := some (fileOf pool8 8 #[.nestMembers #[93, 98, 208, 210, 82, 77]] #[{ accessFlags := 4, nameIndex := 5, descriptorIndex := 6, attributes := #[] }] 1057 2 #[133] #[{ accessFlags := 132, nameIndex := 11, descriptorIndex := 12, attributes := #[] }])
  fields := #[{ name := "modCount", type := .int, accessFlags := 132, slot := 0, constantValue := 0 }]
  methods := #[k8m0]
  instanceTypes := #[.int]
  staticTypes := #[]
  resolved := Array.replicate 218 none
  statics := none }

def pool9 : Array CpInfo := pool [(1, .class_ 2), (0, u "java/util/RandomAccess"), (0, .class_ 4), (0, u "java/lang/Object")] 2

/-- java/util/RandomAccess -/
def k9 : Class := { plain "java/util/RandomAccess" (some 0) with
  accessFlags := 1537
  interfaces := #[]
  cf := some (fileOf pool9 1 #[] #[] 1537 3 #[] #[])
  fields := #[]
  methods := #[]
  instanceTypes := #[]
  staticTypes := #[]
  resolved := Array.replicate 7 none
  statics := none }

def pool10 : Array CpInfo := pool [(1, .class_ 2), (0, u "java/lang/Cloneable"), (0, .class_ 4), (0, u "java/lang/Object")] 2

/-- java/lang/Cloneable -/
def k10 : Class := { plain "java/lang/Cloneable" (some 0) with
  accessFlags := 1537
  interfaces := #[]
  cf := some (fileOf pool10 1 #[] #[] 1537 3 #[] #[])
  fields := #[]
  methods := #[]
  instanceTypes := #[]
  staticTypes := #[]
  resolved := Array.replicate 7 none
  statics := none }

def pool11 : Array CpInfo := pool [(1, .class_ 2), (0, u "java/io/Serializable"), (0, .class_ 4), (0, u "java/lang/Object")] 2

/-- java/io/Serializable -/
def k11 : Class := { plain "java/io/Serializable" (some 0) with
  accessFlags := 1537
  interfaces := #[]
  cf := some (fileOf pool11 1 #[] #[] 1537 3 #[] #[])
  fields := #[]
  methods := #[]
  instanceTypes := #[]
  staticTypes := #[]
  resolved := Array.replicate 7 none
  statics := none }

def pool12 : Array CpInfo := pool [(1, .methodref 2 3), (0, .class_ 4), (0, .nameAndType 5 6), (0, u "java/util/AbstractList"), (0, u "<init>"), (0, u "()V"), (0, .class_ 8), (0, u "java/lang/Object"), (0, .fieldref 10 11), (0, .class_ 12), (0, .nameAndType 13 14), (0, u "java/util/ArrayList"), (0, u "elementData"), (0, u "[Ljava/lang/Object;"), (2, u "EMPTY_ELEMENTDATA"), (21, .fieldref 10 40), (0, .nameAndType 41 14), (0, u "DEFAULTCAPACITY_EMPTY_ELEMENTDATA"), (5, u "()[Ljava/lang/Object;"), (0, .fieldref 10 49), (0, .nameAndType 50 51), (0, u "size"), (0, u "I"), (11, .fieldref 10 64), (0, .nameAndType 65 51), (0, u "modCount"), (3, .methodref 10 70), (0, .nameAndType 71 72), (0, u "grow"), (0, u "(I)[Ljava/lang/Object;"), (6, .methodref 80 81), (0, .class_ 82), (0, .nameAndType 83 84), (0, u "java/lang/Math"), (0, u "max"), (0, u "(II)I"), (11, u "(Ljava/lang/Object;)Z"), (32, .methodref 10 130), (0, .nameAndType 71 47), (0, .methodref 10 132), (0, .nameAndType 133 134), (0, u "add"), (0, u "(Ljava/lang/Object;[Ljava/lang/Object;I)V"), (13, .class_ 149), (0, u "java/util/List"), (112, .class_ 263), (0, u "java/util/ArrayList$ListItr"), (3, .class_ 268), (0, u "java/util/ArrayList$Itr"), (7, .class_ 277), (0, u "java/util/ArrayList$SubList"), (12, .class_ 291), (0, u "java/util/ArrayList$ArrayListSpliterator"), (37, .class_ 330), (0, u "java/util/RandomAccess"), (0, .class_ 332), (0, u "java/lang/Cloneable"), (0, .class_ 334), (0, u "java/io/Serializable"), (0, u "serialVersionUID"), (0, u "J"), (3, u "DEFAULT_CAPACITY"), (159, .class_ 501), (0, u "java/util/ArrayList$SubList$2"), (0, .class_ 503), (0, u "java/util/ArrayList$SubList$1")] 5

def k12c0 : Code := { maxStack := 2, maxLocals := 1, code := jdk_38_method_2_code, exceptionTable := #[], attributes := #[] }
def k12m0 : Method := { name := "<init>", desc := "()V", sig := { parameters := [], returnType := none }, accessFlags := 1, code := some k12c0 }
def k12c1 : Code := { maxStack := 4, maxLocals := 4, code := jdk_38_method_6_code, exceptionTable := #[], attributes := #[] }
def k12m1 : Method := { name := "grow", desc := "(I)[Ljava/lang/Object;", sig := { parameters := [.int], returnType := some (.array (.object "java/lang/Object")) }, accessFlags := 2, code := some k12c1 }
def k12c2 : Code := { maxStack := 3, maxLocals := 1, code := jdk_38_method_7_code, exceptionTable := #[], attributes := #[] }
def k12m2 : Method := { name := "grow", desc := "()[Ljava/lang/Object;", sig := { parameters := [], returnType := some (.array (.object "java/lang/Object")) }, accessFlags := 2, code := some k12c2 }
def k12c3 : Code := { maxStack := 3, maxLocals := 4, code := jdk_38_method_24_code, exceptionTable := #[], attributes := #[] }
def k12m3 : Method := { name := "add", desc := "(Ljava/lang/Object;[Ljava/lang/Object;I)V", sig := { parameters := [(.object "java/lang/Object"), (.array (.object "java/lang/Object")), .int], returnType := none }, accessFlags := 2, code := some k12c3 }
def k12c4 : Code := { maxStack := 4, maxLocals := 2, code := jdk_38_method_25_code, exceptionTable := #[], attributes := #[] }
def k12m4 : Method := { name := "add", desc := "(Ljava/lang/Object;)Z", sig := { parameters := [(.object "java/lang/Object")], returnType := some .boolean }, accessFlags := 1, code := some k12c4 }
/-- java/util/ArrayList -/
def k12 : Class := { plain "java/util/ArrayList" (some 8) with
  accessFlags := 33
  interfaces := #[7, 9, 10, 11]
  cf := some (fileOf pool12 10 #[.nestMembers #[290, 276, 500, 502, 262, 267]] #[{ accessFlags := 1, nameIndex := 5, descriptorIndex := 6, attributes := #[] }, { accessFlags := 2, nameIndex := 71, descriptorIndex := 72, attributes := #[] }, { accessFlags := 2, nameIndex := 71, descriptorIndex := 47, attributes := #[] }, { accessFlags := 2, nameIndex := 133, descriptorIndex := 134, attributes := #[] }, { accessFlags := 1, nameIndex := 133, descriptorIndex := 96, attributes := #[] }] 33 2 #[148, 329, 331, 333] #[{ accessFlags := 26, nameIndex := 335, descriptorIndex := 336, attributes := #[] }, { accessFlags := 26, nameIndex := 340, descriptorIndex := 51, attributes := #[] }, { accessFlags := 26, nameIndex := 17, descriptorIndex := 14, attributes := #[] }, { accessFlags := 26, nameIndex := 41, descriptorIndex := 14, attributes := #[] }, { accessFlags := 128, nameIndex := 13, descriptorIndex := 14, attributes := #[] }, { accessFlags := 2, nameIndex := 50, descriptorIndex := 51, attributes := #[] }])
  fields := #[{ name := "serialVersionUID", type := .long, accessFlags := 26, slot := 0, constantValue := 0 }, { name := "DEFAULT_CAPACITY", type := .int, accessFlags := 26, slot := 1, constantValue := 0 }, { name := "EMPTY_ELEMENTDATA", type := (.array (.object "java/lang/Object")), accessFlags := 26, slot := 2, constantValue := 0 }, { name := "DEFAULTCAPACITY_EMPTY_ELEMENTDATA", type := (.array (.object "java/lang/Object")), accessFlags := 26, slot := 3, constantValue := 0 }, { name := "elementData", type := (.array (.object "java/lang/Object")), accessFlags := 128, slot := 1, constantValue := 0 }, { name := "size", type := .int, accessFlags := 2, slot := 2, constantValue := 0 }]
  methods := #[k12m0, k12m1, k12m2, k12m3, k12m4]
  instanceTypes := #[.int, (.array (.object "java/lang/Object")), .int]
  staticTypes := #[.long, .int, (.array (.object "java/lang/Object")), (.array (.object "java/lang/Object"))]
  resolved := Array.replicate 509 none
  statics := some 0 }

def pool13 : Array CpInfo := pool [(1, .methodref 2 3), (0, .class_ 4), (0, .nameAndType 5 6), (0, u "java/lang/Object"), (0, u "<init>"), (0, u "()V"), (1, .class_ 10), (1, u "java/lang/Number"), (2, .class_ 14), (0, u "java/io/Serializable"), (0, u "serialVersionUID"), (0, u "J")] 20

def k13c0 : Code := { maxStack := 1, maxLocals := 1, code := jdk_18_method_1_code, exceptionTable := #[], attributes := #[] }
def k13m0 : Method := { name := "<init>", desc := "()V", sig := { parameters := [], returnType := none }, accessFlags := 1, code := some k13c0 }
/-- java/lang/Number -/
def k13 : Class := { plain "java/lang/Number" (some 0) with
  accessFlags := 1057
  interfaces := #[11]
  cf := some (fileOf pool13 8 #[] #[{ accessFlags := 1, nameIndex := 5, descriptorIndex := 6, attributes := #[] }] 1057 2 #[13] #[{ accessFlags := 26, nameIndex := 15, descriptorIndex := 16, attributes := #[] }])
  fields := #[{ name := "serialVersionUID", type := .long, accessFlags := 26, slot := 0, constantValue := 0 }]
  methods := #[k13m0]
  instanceTypes := #[]
  staticTypes := #[.long]
  resolved := Array.replicate 37 none
  statics := none }

def pool14 : Array CpInfo := pool [(1, .class_ 2), (0, u "java/lang/Comparable"), (0, .class_ 4), (0, u "java/lang/Object")] 7

/-- java/lang/Comparable -/
def k14 : Class := { plain "java/lang/Comparable" (some 0) with
  accessFlags := 1537
  interfaces := #[]
  cf := some (fileOf pool14 1 #[] #[] 1537 3 #[] #[])
  fields := #[]
  methods := #[]
  instanceTypes := #[]
  staticTypes := #[]
  resolved := Array.replicate 12 none
  statics := none }

def pool15 : Array CpInfo := pool [(1, .class_ 2), (0, u "java/lang/constant/Constable"), (0, .class_ 4), (0, u "java/lang/Object")] 6

/-- java/lang/constant/Constable -/
def k15 : Class := { plain "java/lang/constant/Constable" (some 0) with
  accessFlags := 1537
  interfaces := #[]
  cf := some (fileOf pool15 1 #[] #[] 1537 3 #[] #[])
  fields := #[]
  methods := #[]
  instanceTypes := #[]
  staticTypes := #[]
  resolved := Array.replicate 11 none
  statics := none }

def pool16 : Array CpInfo := pool [(1, .class_ 2), (0, u "java/lang/constant/ConstantDesc"), (0, .class_ 4), (0, u "java/lang/Object")] 32

/-- java/lang/constant/ConstantDesc -/
def k16 : Class := { plain "java/lang/constant/ConstantDesc" (some 0) with
  accessFlags := 1537
  interfaces := #[]
  cf := some (fileOf pool16 1 #[] #[] 1537 3 #[] #[])
  fields := #[]
  methods := #[]
  instanceTypes := #[]
  staticTypes := #[]
  resolved := Array.replicate 37 none
  statics := none }

def pool17 : Array CpInfo := pool [(1, .class_ 2), (0, u "java/lang/Integer"), (16, u "digits"), (0, u "[C"), (46, u "<init>"), (17, u "DigitOnes"), (0, u "[B"), (2, u "DigitTens"), (10, .nameAndType 67 101), (0, u "()V"), (85, u "valueOf"), (0, u "(I)Ljava/lang/Integer;"), (0, .class_ 190), (0, u "java/lang/Integer$IntegerCache"), (0, .fieldref 189 192), (0, .nameAndType 193 194), (0, u "high"), (0, u "I"), (0, .fieldref 189 196), (0, .nameAndType 197 198), (0, u "cache"), (0, u "[Ljava/lang/Integer;"), (0, .methodref 1 200), (0, .nameAndType 67 201), (0, u "(I)V"), (0, .methodref 203 100), (0, .class_ 204), (0, u "java/lang/Number"), (0, .fieldref 1 206), (0, .nameAndType 207 194), (0, u "value"), (94, u "TYPE"), (0, u "Ljava/lang/Class;"), (0, .class_ 305), (0, u "java/lang/Comparable"), (0, .class_ 307), (0, u "java/lang/constant/Constable"), (0, .class_ 309), (0, u "java/lang/constant/ConstantDesc"), (0, u "MIN_VALUE"), (1, u "MAX_VALUE"), (3, u "SIZE"), (1, u "BYTES"), (1, u "serialVersionUID"), (0, u "J")] 131

def k17c0 : Code := { maxStack := 3, maxLocals := 1, code := jdk_33_method_22_code, exceptionTable := #[], attributes := #[] }
def k17m0 : Method := { name := "valueOf", desc := "(I)Ljava/lang/Integer;", sig := { parameters := [.int], returnType := some (.object "java/lang/Integer") }, accessFlags := 9, code := some k17c0 }
def k17c1 : Code := { maxStack := 2, maxLocals := 2, code := jdk_33_method_23_code, exceptionTable := #[], attributes := #[] }
def k17m1 : Method := { name := "<init>", desc := "(I)V", sig := { parameters := [.int], returnType := none }, accessFlags := 1, code := some k17c1 }
/-- java/lang/Integer -/
def k17 : Class := { plain "java/lang/Integer" (some 13) with
  accessFlags := 49
  interfaces := #[14, 15, 16]
  cf := some (fileOf pool17 1 #[.nestMembers #[189]] #[{ accessFlags := 9, nameIndex := 187, descriptorIndex := 188, attributes := #[] }, { accessFlags := 1, nameIndex := 67, descriptorIndex := 201, attributes := #[] }] 49 203 #[304, 306, 308] #[{ accessFlags := 25, nameIndex := 310, descriptorIndex := 194, attributes := #[] }, { accessFlags := 25, nameIndex := 312, descriptorIndex := 194, attributes := #[] }, { accessFlags := 25, nameIndex := 302, descriptorIndex := 303, attributes := #[] }, { accessFlags := 24, nameIndex := 19, descriptorIndex := 20, attributes := #[] }, { accessFlags := 24, nameIndex := 89, descriptorIndex := 86, attributes := #[] }, { accessFlags := 24, nameIndex := 85, descriptorIndex := 86, attributes := #[] }, { accessFlags := 18, nameIndex := 207, descriptorIndex := 194, attributes := #[] }, { accessFlags := 25, nameIndex := 316, descriptorIndex := 194, attributes := #[] }, { accessFlags := 25, nameIndex := 318, descriptorIndex := 194, attributes := #[] }, { accessFlags := 26, nameIndex := 320, descriptorIndex := 321, attributes := #[] }])
  fields := #[{ name := "MIN_VALUE", type := .int, accessFlags := 25, slot := 0, constantValue := 0 }, { name := "MAX_VALUE", type := .int, accessFlags := 25, slot := 1, constantValue := 0 }, { name := "TYPE", type := (.object "java/lang/Class"), accessFlags := 25, slot := 2, constantValue := 0 }, { name := "digits", type := (.array .char), accessFlags := 24, slot := 3, constantValue := 0 }, { name := "DigitTens", type := (.array .byte), accessFlags := 24, slot := 4, constantValue := 0 }, { name := "DigitOnes", type := (.array .byte), accessFlags := 24, slot := 5, constantValue := 0 }, { name := "value", type := .int, accessFlags := 18, slot := 0, constantValue := 0 }, { name := "SIZE", type := .int, accessFlags := 25, slot := 6, constantValue := 0 }, { name := "BYTES", type := .int, accessFlags := 25, slot := 7, constantValue := 0 }, { name := "serialVersionUID", type := .long, accessFlags := 26, slot := 8, constantValue := 0 }]
  methods := #[k17m0, k17m1]
  instanceTypes := #[.int]
  staticTypes := #[.int, .int, (.object "java/lang/Class"), (.array .char), (.array .byte), (.array .byte), .int, .int, .long]
  resolved := Array.replicate 453 none
  statics := none }

def pool18 : Array CpInfo := pool [(2, .class_ 4), (1, u "java/lang/Object"), (0, u "<init>"), (0, u "()V"), (0, .class_ 8), (0, u "java/lang/Integer"), (7, .class_ 18), (1, u "java/lang/Integer$IntegerCache"), (0, u "$assertionsDisabled"), (0, u "Z"), (26, u "high"), (0, u "I"), (8, u "archivedCache"), (0, u "[Ljava/lang/Integer;"), (12, u "cache"), (0, u "low")] 27

def k18m0 : Method := { name := "<init>", desc := "()V", sig := { parameters := [], returnType := none }, accessFlags := 2, code := none }
/-- java/lang/Integer$IntegerCache -/
def k18 : Class := { plain "java/lang/Integer$IntegerCache" (some 0) with
  accessFlags := 48
  interfaces := #[]
  cf := some (fileOf pool18 16 #[.nestHost 7] #[{ accessFlags := 2, nameIndex := 5, descriptorIndex := 6, attributes := #[] }] 48 2 #[] #[{ accessFlags := 24, nameIndex := 72, descriptorIndex := 48, attributes := #[] }, { accessFlags := 24, nameIndex := 47, descriptorIndex := 48, attributes := #[] }, { accessFlags := 24, nameIndex := 71, descriptorIndex := 58, attributes := #[] }, { accessFlags := 8, nameIndex := 57, descriptorIndex := 58, attributes := #[] }, { accessFlags := 4120, nameIndex := 19, descriptorIndex := 20, attributes := #[] }])
  fields := #[{ name := "low", type := .int, accessFlags := 24, slot := 0, constantValue := 0 }, { name := "high", type := .int, accessFlags := 24, slot := 1, constantValue := 0 }, { name := "cache", type := (.array (.object "java/lang/Integer")), accessFlags := 24, slot := 2, constantValue := 0 }, { name := "archivedCache", type := (.array (.object "java/lang/Integer")), accessFlags := 8, slot := 3, constantValue := 0 }, { name := "$assertionsDisabled", type := .boolean, accessFlags := 4120, slot := 4, constantValue := 0 }]
  methods := #[k18m0]
  instanceTypes := #[]
  staticTypes := #[.int, .int, (.array (.object "java/lang/Integer")), (.array (.object "java/lang/Integer")), .boolean]
  resolved := Array.replicate 100 none
  statics := some 1 }

def pool19 : Array CpInfo := pool [(1, .methodref 2 3), (0, .class_ 4), (0, .nameAndType 5 6), (0, u "java/lang/Object"), (0, u "<init>"), (0, u "()V"), (0, .class_ 8), (0, u "java/lang/Record")] 13

def k19c0 : Code := { maxStack := 1, maxLocals := 1, code := jdk_30_method_1_code, exceptionTable := #[], attributes := #[] }
def k19m0 : Method := { name := "<init>", desc := "()V", sig := { parameters := [], returnType := none }, accessFlags := 4, code := some k19c0 }
/-- java/lang/Record -/
def k19 : Class := { plain "java/lang/Record" (some 0) with
  accessFlags := 1057
  interfaces := #[]
  cf := some (fileOf pool19 7 #[] #[{ accessFlags := 4, nameIndex := 5, descriptorIndex := 6, attributes := #[] }] 1057 2 #[] #[])
  fields := #[]
  methods := #[k19m0]
  instanceTypes := #[]
  staticTypes := #[]
  resolved := Array.replicate 22 none
  statics := none }

def pool20 : Array CpInfo := pool [(1, .methodref 2 3), (0, .class_ 4), (0, .nameAndType 5 6), (0, u "java/lang/Record"), (0, u "<init>"), (0, u "()V"), (0, .fieldref 8 9), (0, .class_ 10), (0, .nameAndType 11 12), (0, u "com/example/stockwright/stockwright/model/PageRequest"), (0, u "page"), (0, u "I"), (0, .fieldref 8 14), (0, .nameAndType 15 12), (0, u "pageSize"), (12, u "FIRST_PAGE"), (2, u "DEFAULT_PAGE_SIZE"), (1, u "MAX_PAGE_SIZE"), (1, u "(II)V"), (6, u "()I")] 22

def k20c0 : Code := { maxStack := 2, maxLocals := 3, code := prog_9_method_1_code, exceptionTable := #[], attributes := #[] }
def k20m0 : Method := { name := "<init>", desc := "(II)V", sig := { parameters := [.int, .int], returnType := none }, accessFlags := 1, code := some k20c0 }
def k20c1 : Code := { maxStack := 1, maxLocals := 1, code := prog_9_method_6_code, exceptionTable := #[], attributes := #[] }
def k20m1 : Method := { name := "page", desc := "()I", sig := { parameters := [], returnType := some .int }, accessFlags := 1, code := some k20c1 }
def k20c2 : Code := { maxStack := 1, maxLocals := 1, code := prog_9_method_7_code, exceptionTable := #[], attributes := #[] }
def k20m2 : Method := { name := "pageSize", desc := "()I", sig := { parameters := [], returnType := some .int }, accessFlags := 1, code := some k20c2 }
/-- com/example/stockwright/stockwright/model/PageRequest -/
def k20 : Class := { plain "com/example/stockwright/stockwright/model/PageRequest" (some 19) with
  accessFlags := 49
  interfaces := #[]
  cf := some (fileOf pool20 8 #[] #[{ accessFlags := 1, nameIndex := 5, descriptorIndex := 35, attributes := #[] }, { accessFlags := 1, nameIndex := 11, descriptorIndex := 42, attributes := #[] }, { accessFlags := 1, nameIndex := 15, descriptorIndex := 42, attributes := #[] }] 49 2 #[] #[{ accessFlags := 18, nameIndex := 11, descriptorIndex := 12, attributes := #[] }, { accessFlags := 18, nameIndex := 15, descriptorIndex := 12, attributes := #[] }, { accessFlags := 25, nameIndex := 28, descriptorIndex := 12, attributes := #[] }, { accessFlags := 25, nameIndex := 31, descriptorIndex := 12, attributes := #[] }, { accessFlags := 25, nameIndex := 33, descriptorIndex := 12, attributes := #[] }])
  fields := #[{ name := "page", type := .int, accessFlags := 18, slot := 0, constantValue := 0 }, { name := "pageSize", type := .int, accessFlags := 18, slot := 1, constantValue := 0 }, { name := "FIRST_PAGE", type := .int, accessFlags := 25, slot := 0, constantValue := 0 }, { name := "DEFAULT_PAGE_SIZE", type := .int, accessFlags := 25, slot := 1, constantValue := 0 }, { name := "MAX_PAGE_SIZE", type := .int, accessFlags := 25, slot := 2, constantValue := 0 }]
  methods := #[k20m0, k20m1, k20m2]
  instanceTypes := #[.int, .int]
  staticTypes := #[.int, .int, .int]
  resolved := Array.replicate 65 none
  statics := none }

def pool21 : Array CpInfo := pool [(1, .methodref 2 3), (0, .class_ 4), (0, .nameAndType 5 6), (0, u "java/lang/Record"), (0, u "<init>"), (0, u "()V"), (0, .fieldref 8 9), (0, .class_ 10), (0, .nameAndType 11 12), (0, u "com/example/stockwright/stockwright/model/Page"), (0, u "items"), (0, u "Ljava/util/List;"), (0, .fieldref 8 14), (0, .nameAndType 15 16), (0, u "page"), (0, u "I"), (0, .fieldref 8 18), (0, .nameAndType 19 16), (0, u "pageSize"), (0, .fieldref 8 21), (0, .nameAndType 22 23), (0, u "totalItems"), (0, u "J"), (0, .fieldref 8 25), (0, .nameAndType 26 23), (0, u "totalPages"), (0, .methodref 28 29), (0, .class_ 30), (0, .nameAndType 19 31), (0, u "com/example/stockwright/stockwright/model/PageRequest"), (0, u "()I"), (0, .methodref 28 33), (0, .nameAndType 15 31), (0, .methodref 8 35), (0, .nameAndType 5 36), (0, u "(Ljava/util/List;IIJJ)V"), (18, u "of"), (0, u "(Ljava/util/List;Lcom/example/stockwright/stockwright/model/PageRequest;J)Lcom/example/stockwright/stockwright/model/Page;"), (3, u "()Ljava/util/List;"), (1, u "()J")] 25

def k21c0 : Code := { maxStack := 3, maxLocals := 8, code := prog_7_method_1_code, exceptionTable := #[], attributes := #[] }
def k21m0 : Method := { name := "<init>", desc := "(Ljava/util/List;IIJJ)V", sig := { parameters := [(.object "java/util/List"), .int, .int, .long, .long], returnType := none }, accessFlags := 1, code := some k21c0 }
def k21c1 : Code := { maxStack := 9, maxLocals := 6, code := prog_7_method_2_code, exceptionTable := #[], attributes := #[] }
def k21m1 : Method := { name := "of", desc := "(Ljava/util/List;Lcom/example/stockwright/stockwright/model/PageRequest;J)Lcom/example/stockwright/stockwright/model/Page;", sig := { parameters := [(.object "java/util/List"), (.object "com/example/stockwright/stockwright/model/PageRequest"), .long], returnType := some (.object "com/example/stockwright/stockwright/model/Page") }, accessFlags := 9, code := some k21c1 }
def k21c2 : Code := { maxStack := 1, maxLocals := 1, code := prog_7_method_6_code, exceptionTable := #[], attributes := #[] }
def k21m2 : Method := { name := "items", desc := "()Ljava/util/List;", sig := { parameters := [], returnType := some (.object "java/util/List") }, accessFlags := 1, code := some k21c2 }
def k21c3 : Code := { maxStack := 1, maxLocals := 1, code := prog_7_method_7_code, exceptionTable := #[], attributes := #[] }
def k21m3 : Method := { name := "page", desc := "()I", sig := { parameters := [], returnType := some .int }, accessFlags := 1, code := some k21c3 }
def k21c4 : Code := { maxStack := 1, maxLocals := 1, code := prog_7_method_8_code, exceptionTable := #[], attributes := #[] }
def k21m4 : Method := { name := "pageSize", desc := "()I", sig := { parameters := [], returnType := some .int }, accessFlags := 1, code := some k21c4 }
def k21c5 : Code := { maxStack := 2, maxLocals := 1, code := prog_7_method_9_code, exceptionTable := #[], attributes := #[] }
def k21m5 : Method := { name := "totalItems", desc := "()J", sig := { parameters := [], returnType := some .long }, accessFlags := 1, code := some k21c5 }
def k21c6 : Code := { maxStack := 2, maxLocals := 1, code := prog_7_method_10_code, exceptionTable := #[], attributes := #[] }
def k21m6 : Method := { name := "totalPages", desc := "()J", sig := { parameters := [], returnType := some .long }, accessFlags := 1, code := some k21c6 }
/-- com/example/stockwright/stockwright/model/Page -/
def k21 : Class := { plain "com/example/stockwright/stockwright/model/Page" (some 19) with
  accessFlags := 49
  interfaces := #[]
  cf := some (fileOf pool21 8 #[] #[{ accessFlags := 1, nameIndex := 5, descriptorIndex := 36, attributes := #[] }, { accessFlags := 9, nameIndex := 55, descriptorIndex := 56, attributes := #[] }, { accessFlags := 1, nameIndex := 11, descriptorIndex := 60, attributes := #[] }, { accessFlags := 1, nameIndex := 15, descriptorIndex := 31, attributes := #[] }, { accessFlags := 1, nameIndex := 19, descriptorIndex := 31, attributes := #[] }, { accessFlags := 1, nameIndex := 22, descriptorIndex := 62, attributes := #[] }, { accessFlags := 1, nameIndex := 26, descriptorIndex := 62, attributes := #[] }] 49 2 #[] #[{ accessFlags := 18, nameIndex := 11, descriptorIndex := 12, attributes := #[] }, { accessFlags := 18, nameIndex := 15, descriptorIndex := 16, attributes := #[] }, { accessFlags := 18, nameIndex := 19, descriptorIndex := 16, attributes := #[] }, { accessFlags := 18, nameIndex := 22, descriptorIndex := 23, attributes := #[] }, { accessFlags := 18, nameIndex := 26, descriptorIndex := 23, attributes := #[] }])
  fields := #[{ name := "items", type := (.object "java/util/List"), accessFlags := 18, slot := 0, constantValue := 0 }, { name := "page", type := .int, accessFlags := 18, slot := 1, constantValue := 0 }, { name := "pageSize", type := .int, accessFlags := 18, slot := 2, constantValue := 0 }, { name := "totalItems", type := .long, accessFlags := 18, slot := 3, constantValue := 0 }, { name := "totalPages", type := .long, accessFlags := 18, slot := 4, constantValue := 0 }]
  methods := #[k21m0, k21m1, k21m2, k21m3, k21m4, k21m5, k21m6]
  instanceTypes := #[(.object "java/util/List"), .int, .int, .long, .long]
  staticTypes := #[]
  resolved := Array.replicate 88 none
  statics := none }

/-- the primitive byte -/
def k22 : Class := { plain "byte" none with kind := .primitive 'B', accessFlags := 0x411 }
/-- [B -/
def k23 : Class := { plain "[B" (some 0) with kind := .array 22 .byte, interfaces := #[10, 11], accessFlags := 1041 }

/-- the primitive int -/
def k24 : Class := { plain "int" none with kind := .primitive 'I', accessFlags := 0x411 }
/-- [I -/
def k25 : Class := { plain "[I" (some 0) with kind := .array 24 .int, interfaces := #[10, 11], accessFlags := 1041 }

/-- [Ljava/lang/Integer; -/
def k26 : Class := { plain "[Ljava/lang/Integer;" (some 0) with kind := .array 17 (.object "java/lang/Integer"), interfaces := #[10, 11], accessFlags := 1041 }

/-- [Ljava/lang/Object; -/
def k27 : Class := { plain "[Ljava/lang/Object;" (some 0) with kind := .array 0 (.object "java/lang/Object"), interfaces := #[10, 11], accessFlags := 1041 }

def heap : Heap := #[{ cls := 12, slots := #[.long 0, .int 0, .ref 259, .ref 260], vm := .statics 12 },
  { cls := 18, slots := #[.int 0, .int 127, .ref 2, .null, .int 0], vm := .statics 18 },
  { cls := 26, slots := #[.ref 3, .ref 4, .ref 5, .ref 6, .ref 7, .ref 8, .ref 9, .ref 10, .ref 11, .ref 12, .ref 13, .ref 14, .ref 15, .ref 16, .ref 17, .ref 18, .ref 19, .ref 20, .ref 21, .ref 22, .ref 23, .ref 24, .ref 25, .ref 26, .ref 27, .ref 28, .ref 29, .ref 30, .ref 31, .ref 32, .ref 33, .ref 34, .ref 35, .ref 36, .ref 37, .ref 38, .ref 39, .ref 40, .ref 41, .ref 42, .ref 43, .ref 44, .ref 45, .ref 46, .ref 47, .ref 48, .ref 49, .ref 50, .ref 51, .ref 52, .ref 53, .ref 54, .ref 55, .ref 56, .ref 57, .ref 58, .ref 59, .ref 60, .ref 61, .ref 62, .ref 63, .ref 64, .ref 65, .ref 66, .ref 67, .ref 68, .ref 69, .ref 70, .ref 71, .ref 72, .ref 73, .ref 74, .ref 75, .ref 76, .ref 77, .ref 78, .ref 79, .ref 80, .ref 81, .ref 82, .ref 83, .ref 84, .ref 85, .ref 86, .ref 87, .ref 88, .ref 89, .ref 90, .ref 91, .ref 92, .ref 93, .ref 94, .ref 95, .ref 96, .ref 97, .ref 98, .ref 99, .ref 100, .ref 101, .ref 102, .ref 103, .ref 104, .ref 105, .ref 106, .ref 107, .ref 108, .ref 109, .ref 110, .ref 111, .ref 112, .ref 113, .ref 114, .ref 115, .ref 116, .ref 117, .ref 118, .ref 119, .ref 120, .ref 121, .ref 122, .ref 123, .ref 124, .ref 125, .ref 126, .ref 127, .ref 128, .ref 129, .ref 130, .ref 131, .ref 132, .ref 133, .ref 134, .ref 135, .ref 136, .ref 137, .ref 138, .ref 139, .ref 140, .ref 141, .ref 142, .ref 143, .ref 144, .ref 145, .ref 146, .ref 147, .ref 148, .ref 149, .ref 150, .ref 151, .ref 152, .ref 153, .ref 154, .ref 155, .ref 156, .ref 157, .ref 158, .ref 159, .ref 160, .ref 161, .ref 162, .ref 163, .ref 164, .ref 165, .ref 166, .ref 167, .ref 168, .ref 169, .ref 170, .ref 171, .ref 172, .ref 173, .ref 174, .ref 175, .ref 176, .ref 177, .ref 178, .ref 179, .ref 180, .ref 181, .ref 182, .ref 183, .ref 184, .ref 185, .ref 186, .ref 187, .ref 188, .ref 189, .ref 190, .ref 191, .ref 192, .ref 193, .ref 194, .ref 195, .ref 196, .ref 197, .ref 198, .ref 199, .ref 200, .ref 201, .ref 202, .ref 203, .ref 204, .ref 205, .ref 206, .ref 207, .ref 208, .ref 209, .ref 210, .ref 211, .ref 212, .ref 213, .ref 214, .ref 215, .ref 216, .ref 217, .ref 218, .ref 219, .ref 220, .ref 221, .ref 222, .ref 223, .ref 224, .ref 225, .ref 226, .ref 227, .ref 228, .ref 229, .ref 230, .ref 231, .ref 232, .ref 233, .ref 234, .ref 235, .ref 236, .ref 237, .ref 238, .ref 239, .ref 240, .ref 241, .ref 242, .ref 243, .ref 244, .ref 245, .ref 246, .ref 247, .ref 248, .ref 249, .ref 250, .ref 251, .ref 252, .ref 253, .ref 254, .ref 255, .ref 256, .ref 257, .ref 258], vm := .none },
  { cls := 17, slots := #[.int (-128)], vm := .none },
  { cls := 17, slots := #[.int (-127)], vm := .none },
  { cls := 17, slots := #[.int (-126)], vm := .none },
  { cls := 17, slots := #[.int (-125)], vm := .none },
  { cls := 17, slots := #[.int (-124)], vm := .none },
  { cls := 17, slots := #[.int (-123)], vm := .none },
  { cls := 17, slots := #[.int (-122)], vm := .none },
  { cls := 17, slots := #[.int (-121)], vm := .none },
  { cls := 17, slots := #[.int (-120)], vm := .none },
  { cls := 17, slots := #[.int (-119)], vm := .none },
  { cls := 17, slots := #[.int (-118)], vm := .none },
  { cls := 17, slots := #[.int (-117)], vm := .none },
  { cls := 17, slots := #[.int (-116)], vm := .none },
  { cls := 17, slots := #[.int (-115)], vm := .none },
  { cls := 17, slots := #[.int (-114)], vm := .none },
  { cls := 17, slots := #[.int (-113)], vm := .none },
  { cls := 17, slots := #[.int (-112)], vm := .none },
  { cls := 17, slots := #[.int (-111)], vm := .none },
  { cls := 17, slots := #[.int (-110)], vm := .none },
  { cls := 17, slots := #[.int (-109)], vm := .none },
  { cls := 17, slots := #[.int (-108)], vm := .none },
  { cls := 17, slots := #[.int (-107)], vm := .none },
  { cls := 17, slots := #[.int (-106)], vm := .none },
  { cls := 17, slots := #[.int (-105)], vm := .none },
  { cls := 17, slots := #[.int (-104)], vm := .none },
  { cls := 17, slots := #[.int (-103)], vm := .none },
  { cls := 17, slots := #[.int (-102)], vm := .none },
  { cls := 17, slots := #[.int (-101)], vm := .none },
  { cls := 17, slots := #[.int (-100)], vm := .none },
  { cls := 17, slots := #[.int (-99)], vm := .none },
  { cls := 17, slots := #[.int (-98)], vm := .none },
  { cls := 17, slots := #[.int (-97)], vm := .none },
  { cls := 17, slots := #[.int (-96)], vm := .none },
  { cls := 17, slots := #[.int (-95)], vm := .none },
  { cls := 17, slots := #[.int (-94)], vm := .none },
  { cls := 17, slots := #[.int (-93)], vm := .none },
  { cls := 17, slots := #[.int (-92)], vm := .none },
  { cls := 17, slots := #[.int (-91)], vm := .none },
  { cls := 17, slots := #[.int (-90)], vm := .none },
  { cls := 17, slots := #[.int (-89)], vm := .none },
  { cls := 17, slots := #[.int (-88)], vm := .none },
  { cls := 17, slots := #[.int (-87)], vm := .none },
  { cls := 17, slots := #[.int (-86)], vm := .none },
  { cls := 17, slots := #[.int (-85)], vm := .none },
  { cls := 17, slots := #[.int (-84)], vm := .none },
  { cls := 17, slots := #[.int (-83)], vm := .none },
  { cls := 17, slots := #[.int (-82)], vm := .none },
  { cls := 17, slots := #[.int (-81)], vm := .none },
  { cls := 17, slots := #[.int (-80)], vm := .none },
  { cls := 17, slots := #[.int (-79)], vm := .none },
  { cls := 17, slots := #[.int (-78)], vm := .none },
  { cls := 17, slots := #[.int (-77)], vm := .none },
  { cls := 17, slots := #[.int (-76)], vm := .none },
  { cls := 17, slots := #[.int (-75)], vm := .none },
  { cls := 17, slots := #[.int (-74)], vm := .none },
  { cls := 17, slots := #[.int (-73)], vm := .none },
  { cls := 17, slots := #[.int (-72)], vm := .none },
  { cls := 17, slots := #[.int (-71)], vm := .none },
  { cls := 17, slots := #[.int (-70)], vm := .none },
  { cls := 17, slots := #[.int (-69)], vm := .none },
  { cls := 17, slots := #[.int (-68)], vm := .none },
  { cls := 17, slots := #[.int (-67)], vm := .none },
  { cls := 17, slots := #[.int (-66)], vm := .none },
  { cls := 17, slots := #[.int (-65)], vm := .none },
  { cls := 17, slots := #[.int (-64)], vm := .none },
  { cls := 17, slots := #[.int (-63)], vm := .none },
  { cls := 17, slots := #[.int (-62)], vm := .none },
  { cls := 17, slots := #[.int (-61)], vm := .none },
  { cls := 17, slots := #[.int (-60)], vm := .none },
  { cls := 17, slots := #[.int (-59)], vm := .none },
  { cls := 17, slots := #[.int (-58)], vm := .none },
  { cls := 17, slots := #[.int (-57)], vm := .none },
  { cls := 17, slots := #[.int (-56)], vm := .none },
  { cls := 17, slots := #[.int (-55)], vm := .none },
  { cls := 17, slots := #[.int (-54)], vm := .none },
  { cls := 17, slots := #[.int (-53)], vm := .none },
  { cls := 17, slots := #[.int (-52)], vm := .none },
  { cls := 17, slots := #[.int (-51)], vm := .none },
  { cls := 17, slots := #[.int (-50)], vm := .none },
  { cls := 17, slots := #[.int (-49)], vm := .none },
  { cls := 17, slots := #[.int (-48)], vm := .none },
  { cls := 17, slots := #[.int (-47)], vm := .none },
  { cls := 17, slots := #[.int (-46)], vm := .none },
  { cls := 17, slots := #[.int (-45)], vm := .none },
  { cls := 17, slots := #[.int (-44)], vm := .none },
  { cls := 17, slots := #[.int (-43)], vm := .none },
  { cls := 17, slots := #[.int (-42)], vm := .none },
  { cls := 17, slots := #[.int (-41)], vm := .none },
  { cls := 17, slots := #[.int (-40)], vm := .none },
  { cls := 17, slots := #[.int (-39)], vm := .none },
  { cls := 17, slots := #[.int (-38)], vm := .none },
  { cls := 17, slots := #[.int (-37)], vm := .none },
  { cls := 17, slots := #[.int (-36)], vm := .none },
  { cls := 17, slots := #[.int (-35)], vm := .none },
  { cls := 17, slots := #[.int (-34)], vm := .none },
  { cls := 17, slots := #[.int (-33)], vm := .none },
  { cls := 17, slots := #[.int (-32)], vm := .none },
  { cls := 17, slots := #[.int (-31)], vm := .none },
  { cls := 17, slots := #[.int (-30)], vm := .none },
  { cls := 17, slots := #[.int (-29)], vm := .none },
  { cls := 17, slots := #[.int (-28)], vm := .none },
  { cls := 17, slots := #[.int (-27)], vm := .none },
  { cls := 17, slots := #[.int (-26)], vm := .none },
  { cls := 17, slots := #[.int (-25)], vm := .none },
  { cls := 17, slots := #[.int (-24)], vm := .none },
  { cls := 17, slots := #[.int (-23)], vm := .none },
  { cls := 17, slots := #[.int (-22)], vm := .none },
  { cls := 17, slots := #[.int (-21)], vm := .none },
  { cls := 17, slots := #[.int (-20)], vm := .none },
  { cls := 17, slots := #[.int (-19)], vm := .none },
  { cls := 17, slots := #[.int (-18)], vm := .none },
  { cls := 17, slots := #[.int (-17)], vm := .none },
  { cls := 17, slots := #[.int (-16)], vm := .none },
  { cls := 17, slots := #[.int (-15)], vm := .none },
  { cls := 17, slots := #[.int (-14)], vm := .none },
  { cls := 17, slots := #[.int (-13)], vm := .none },
  { cls := 17, slots := #[.int (-12)], vm := .none },
  { cls := 17, slots := #[.int (-11)], vm := .none },
  { cls := 17, slots := #[.int (-10)], vm := .none },
  { cls := 17, slots := #[.int (-9)], vm := .none },
  { cls := 17, slots := #[.int (-8)], vm := .none },
  { cls := 17, slots := #[.int (-7)], vm := .none },
  { cls := 17, slots := #[.int (-6)], vm := .none },
  { cls := 17, slots := #[.int (-5)], vm := .none },
  { cls := 17, slots := #[.int (-4)], vm := .none },
  { cls := 17, slots := #[.int (-3)], vm := .none },
  { cls := 17, slots := #[.int (-2)], vm := .none },
  { cls := 17, slots := #[.int (-1)], vm := .none },
  { cls := 17, slots := #[.int 0], vm := .none },
  { cls := 17, slots := #[.int 1], vm := .none },
  { cls := 17, slots := #[.int 2], vm := .none },
  { cls := 17, slots := #[.int 3], vm := .none },
  { cls := 17, slots := #[.int 4], vm := .none },
  { cls := 17, slots := #[.int 5], vm := .none },
  { cls := 17, slots := #[.int 6], vm := .none },
  { cls := 17, slots := #[.int 7], vm := .none },
  { cls := 17, slots := #[.int 8], vm := .none },
  { cls := 17, slots := #[.int 9], vm := .none },
  { cls := 17, slots := #[.int 10], vm := .none },
  { cls := 17, slots := #[.int 11], vm := .none },
  { cls := 17, slots := #[.int 12], vm := .none },
  { cls := 17, slots := #[.int 13], vm := .none },
  { cls := 17, slots := #[.int 14], vm := .none },
  { cls := 17, slots := #[.int 15], vm := .none },
  { cls := 17, slots := #[.int 16], vm := .none },
  { cls := 17, slots := #[.int 17], vm := .none },
  { cls := 17, slots := #[.int 18], vm := .none },
  { cls := 17, slots := #[.int 19], vm := .none },
  { cls := 17, slots := #[.int 20], vm := .none },
  { cls := 17, slots := #[.int 21], vm := .none },
  { cls := 17, slots := #[.int 22], vm := .none },
  { cls := 17, slots := #[.int 23], vm := .none },
  { cls := 17, slots := #[.int 24], vm := .none },
  { cls := 17, slots := #[.int 25], vm := .none },
  { cls := 17, slots := #[.int 26], vm := .none },
  { cls := 17, slots := #[.int 27], vm := .none },
  { cls := 17, slots := #[.int 28], vm := .none },
  { cls := 17, slots := #[.int 29], vm := .none },
  { cls := 17, slots := #[.int 30], vm := .none },
  { cls := 17, slots := #[.int 31], vm := .none },
  { cls := 17, slots := #[.int 32], vm := .none },
  { cls := 17, slots := #[.int 33], vm := .none },
  { cls := 17, slots := #[.int 34], vm := .none },
  { cls := 17, slots := #[.int 35], vm := .none },
  { cls := 17, slots := #[.int 36], vm := .none },
  { cls := 17, slots := #[.int 37], vm := .none },
  { cls := 17, slots := #[.int 38], vm := .none },
  { cls := 17, slots := #[.int 39], vm := .none },
  { cls := 17, slots := #[.int 40], vm := .none },
  { cls := 17, slots := #[.int 41], vm := .none },
  { cls := 17, slots := #[.int 42], vm := .none },
  { cls := 17, slots := #[.int 43], vm := .none },
  { cls := 17, slots := #[.int 44], vm := .none },
  { cls := 17, slots := #[.int 45], vm := .none },
  { cls := 17, slots := #[.int 46], vm := .none },
  { cls := 17, slots := #[.int 47], vm := .none },
  { cls := 17, slots := #[.int 48], vm := .none },
  { cls := 17, slots := #[.int 49], vm := .none },
  { cls := 17, slots := #[.int 50], vm := .none },
  { cls := 17, slots := #[.int 51], vm := .none },
  { cls := 17, slots := #[.int 52], vm := .none },
  { cls := 17, slots := #[.int 53], vm := .none },
  { cls := 17, slots := #[.int 54], vm := .none },
  { cls := 17, slots := #[.int 55], vm := .none },
  { cls := 17, slots := #[.int 56], vm := .none },
  { cls := 17, slots := #[.int 57], vm := .none },
  { cls := 17, slots := #[.int 58], vm := .none },
  { cls := 17, slots := #[.int 59], vm := .none },
  { cls := 17, slots := #[.int 60], vm := .none },
  { cls := 17, slots := #[.int 61], vm := .none },
  { cls := 17, slots := #[.int 62], vm := .none },
  { cls := 17, slots := #[.int 63], vm := .none },
  { cls := 17, slots := #[.int 64], vm := .none },
  { cls := 17, slots := #[.int 65], vm := .none },
  { cls := 17, slots := #[.int 66], vm := .none },
  { cls := 17, slots := #[.int 67], vm := .none },
  { cls := 17, slots := #[.int 68], vm := .none },
  { cls := 17, slots := #[.int 69], vm := .none },
  { cls := 17, slots := #[.int 70], vm := .none },
  { cls := 17, slots := #[.int 71], vm := .none },
  { cls := 17, slots := #[.int 72], vm := .none },
  { cls := 17, slots := #[.int 73], vm := .none },
  { cls := 17, slots := #[.int 74], vm := .none },
  { cls := 17, slots := #[.int 75], vm := .none },
  { cls := 17, slots := #[.int 76], vm := .none },
  { cls := 17, slots := #[.int 77], vm := .none },
  { cls := 17, slots := #[.int 78], vm := .none },
  { cls := 17, slots := #[.int 79], vm := .none },
  { cls := 17, slots := #[.int 80], vm := .none },
  { cls := 17, slots := #[.int 81], vm := .none },
  { cls := 17, slots := #[.int 82], vm := .none },
  { cls := 17, slots := #[.int 83], vm := .none },
  { cls := 17, slots := #[.int 84], vm := .none },
  { cls := 17, slots := #[.int 85], vm := .none },
  { cls := 17, slots := #[.int 86], vm := .none },
  { cls := 17, slots := #[.int 87], vm := .none },
  { cls := 17, slots := #[.int 88], vm := .none },
  { cls := 17, slots := #[.int 89], vm := .none },
  { cls := 17, slots := #[.int 90], vm := .none },
  { cls := 17, slots := #[.int 91], vm := .none },
  { cls := 17, slots := #[.int 92], vm := .none },
  { cls := 17, slots := #[.int 93], vm := .none },
  { cls := 17, slots := #[.int 94], vm := .none },
  { cls := 17, slots := #[.int 95], vm := .none },
  { cls := 17, slots := #[.int 96], vm := .none },
  { cls := 17, slots := #[.int 97], vm := .none },
  { cls := 17, slots := #[.int 98], vm := .none },
  { cls := 17, slots := #[.int 99], vm := .none },
  { cls := 17, slots := #[.int 100], vm := .none },
  { cls := 17, slots := #[.int 101], vm := .none },
  { cls := 17, slots := #[.int 102], vm := .none },
  { cls := 17, slots := #[.int 103], vm := .none },
  { cls := 17, slots := #[.int 104], vm := .none },
  { cls := 17, slots := #[.int 105], vm := .none },
  { cls := 17, slots := #[.int 106], vm := .none },
  { cls := 17, slots := #[.int 107], vm := .none },
  { cls := 17, slots := #[.int 108], vm := .none },
  { cls := 17, slots := #[.int 109], vm := .none },
  { cls := 17, slots := #[.int 110], vm := .none },
  { cls := 17, slots := #[.int 111], vm := .none },
  { cls := 17, slots := #[.int 112], vm := .none },
  { cls := 17, slots := #[.int 113], vm := .none },
  { cls := 17, slots := #[.int 114], vm := .none },
  { cls := 17, slots := #[.int 115], vm := .none },
  { cls := 17, slots := #[.int 116], vm := .none },
  { cls := 17, slots := #[.int 117], vm := .none },
  { cls := 17, slots := #[.int 118], vm := .none },
  { cls := 17, slots := #[.int 119], vm := .none },
  { cls := 17, slots := #[.int 120], vm := .none },
  { cls := 17, slots := #[.int 121], vm := .none },
  { cls := 17, slots := #[.int 122], vm := .none },
  { cls := 17, slots := #[.int 123], vm := .none },
  { cls := 17, slots := #[.int 124], vm := .none },
  { cls := 17, slots := #[.int 125], vm := .none },
  { cls := 17, slots := #[.int 126], vm := .none },
  { cls := 17, slots := #[.int 127], vm := .none },
  { cls := 27, slots := #[], vm := .none },
  { cls := 27, slots := #[], vm := .none }]
def classes : Array Class := #[k0, k1, k2, k3, k4, k5, k6, k7, k8, k9, k10, k11, k12, k13, k14, k15, k16, k17, k18, k19, k20, k21, k22, k23, k24, k25, k26, k27]
def interned : List (Array UInt16 × Addr) := []
def slotsUsed : Nat := 521
def theMethod : MethodId := ⟨1, 1⟩
def args0 : Array Value := #[.long 5, .int 5, .int 5, .int 5, .int 5]
def aboutOver (below : List Frame) : State where
  vm := { classes := classes, interned := interned.toArray }
  heap := heap
  slotsUsed := slotsUsed
  threads := #[{ frames := .invoking theMethod args0 :: below }]
def below0 : List Frame := [.native { method := ⟨0, 0⟩, args := #[] }]
def about1 : State := aboutOver below0
def p0 : Program := .bare "" "" ""
def e0 : Env := launch0.env 0 0 0
theorem w_frames : about1.frames = Frame.invoking theMethod args0 :: below0 := rfl
set_option maxRecDepth 65536 in
theorem w_args : argsFit about1.vm theMethod args0 = true := by decide +kernel
set_option maxRecDepth 65536 in
theorem w_heap : heapFits about1 = true := by decide +kernel
set_option maxRecDepth 65536 in
theorem w_runnable : about1.curStatus? = some .runnable := by decide +kernel
set_option maxRecDepth 65536 in
theorem w_alone : about1.alone = true := by decide +kernel
set_option maxRecDepth 65536 in
theorem w_named : about1.methodNamed? x = some theMethod := by decide +kernel
set_option maxRecDepth 65536 in
theorem w_hears : about1.hears theMethod below0 = true := by decide +kernel
set_option maxRecDepth 65536 in
theorem w_ripe : about1.ripe theMethod args0 below0 = true := by decide +kernel
theorem w_running : about1.status = .running := rfl
set_option maxRecDepth 65536 in
theorem w_room : about1.hasRoom e0.platform room_1 = true :=
  launch0.hasRoom_least _ room_1 (by decide +kernel) (by decide +kernel) (by decide +kernel) (by decide +kernel) (by decide +kernel) (by decide +kernel)
theorem allAtoms_all (ts : List Jvm.Cond) (a : Array Jvm.Value) (st : Jvm.State) : (allAtoms ts).before a st = ts.all (fun c => c.before a st) := by
  induction ts with
  | nil => rfl
  | cons c t ih =>
    show (Jvm.Cond.and c (allAtoms t)).before a st = _
    rw [Jvm.Cond.before_and, ih, List.all_cons]
def words1 : List Jvm.Cond := Jvm.Cond.code x code maxLocals ret :: tables_1
/-- a 'code' word, met by the world's own term for the bytes: nothing is compared byte by byte -/
theorem code_word {y : MethodName} {bytes : ByteArray} {mx : Nat} {rt : Option FieldType} {a : Array Value} {s : State} {m : MethodId} {meth : Method} {c : Code} (h1 : s.methodNamed? y = some m) (h2 : s.vm.method? m = some meth) (h3 : meth.code = some c) (h4 : c.code = bytes)
    (h5 : (c.maxLocals == mx && c.exceptionTable.isEmpty && decide (c.maxStack ≤ mostOperands) && decide (meth.sig.returnType = rt) && !meth.locks && decide (parseMethodDescriptor y.desc = some meth.sig)) = true) : (Jvm.Cond.code y bytes mx rt).before a s = true := by
  simp only [Bool.and_eq_true, beq_iff_eq, Bool.not_eq_true', decide_eq_true_eq] at h5
  obtain ⟨⟨⟨⟨⟨g1, g2⟩, g3⟩, g4⟩, g5⟩, g6⟩ := h5
  simp [Cond.before, Cond.holds, Cond.value, h1, h2, h3, h4, g1, g2, g3, g4, g5, g6]
def isCode : Jvm.Cond → Bool
  | .code _ _ _ _ => true
  | _ => false
theorem all_split {L : List Jvm.Cond} {P : Jvm.Cond → Bool} (h1 : L.all (fun c => isCode c || P c) = true) (h2 : ∀ c ∈ L.filter isCode, P c = true) : L.all P = true := by
  refine List.all_eq_true.mpr fun c hc => ?_
  have h := List.all_eq_true.mp h1 c hc
  rcases Bool.eq_false_or_eq_true (isCode c) with hi | hi
  · exact h2 c (List.mem_filter.mpr ⟨hc, hi⟩)
  · simpa [hi] using h
set_option maxRecDepth 65536 in
theorem w_c0 : (Jvm.Cond.code x code maxLocals ret).before args0 about1 = true := code_word (m := ⟨1, 1⟩) (meth := k1m1) (c := k1c1) (by decide +kernel) rfl rfl rfl (by decide +kernel)
set_option maxRecDepth 65536 in
theorem w_c1 : (Jvm.Cond.code ({ cls := "java/lang/Math", name := "max", desc := "(II)I" } : Jvm.MethodName) jdk_29_method_65_code (2 : Nat) (Option.some Jvm.ClassFile.FieldType.int)).before args0 about1 = true := code_word (m := ⟨2, 1⟩) (meth := k2m1) (c := k2c1) (by decide +kernel) rfl rfl rfl (by decide +kernel)
set_option maxRecDepth 65536 in
theorem w_c2 : (Jvm.Cond.code ({ cls := "java/util/ArrayList", name := "<init>", desc := "()V" } : Jvm.MethodName) jdk_38_method_2_code (1 : Nat) (Option.none : Option Jvm.ClassFile.FieldType)).before args0 about1 = true := code_word (m := ⟨12, 0⟩) (meth := k12m0) (c := k12c0) (by decide +kernel) rfl rfl rfl (by decide +kernel)
set_option maxRecDepth 65536 in
theorem w_c3 : (Jvm.Cond.code ({ cls := "java/util/AbstractList", name := "<init>", desc := "()V" } : Jvm.MethodName) jdk_39_method_1_code (1 : Nat) (Option.none : Option Jvm.ClassFile.FieldType)).before args0 about1 = true := code_word (m := ⟨8, 0⟩) (meth := k8m0) (c := k8c0) (by decide +kernel) rfl rfl rfl (by decide +kernel)
set_option maxRecDepth 65536 in
theorem w_c4 : (Jvm.Cond.code ({ cls := "java/util/AbstractCollection", name := "<init>", desc := "()V" } : Jvm.MethodName) jdk_22_method_1_code (1 : Nat) (Option.none : Option Jvm.ClassFile.FieldType)).before args0 about1 = true := code_word (m := ⟨5, 0⟩) (meth := k5m0) (c := k5c0) (by decide +kernel) rfl rfl rfl (by decide +kernel)
set_option maxRecDepth 65536 in
theorem w_c5 : (Jvm.Cond.code ({ cls := "java/lang/Object", name := "<init>", desc := "()V" } : Jvm.MethodName) object_method_1_code (1 : Nat) (Option.none : Option Jvm.ClassFile.FieldType)).before args0 about1 = true := code_word (m := ⟨0, 0⟩) (meth := k0m0) (c := k0c0) (by decide +kernel) rfl rfl rfl (by decide +kernel)
set_option maxRecDepth 65536 in
theorem w_c6 : (Jvm.Cond.code ({ cls := "java/lang/Integer", name := "valueOf", desc := "(I)Ljava/lang/Integer;" } : Jvm.MethodName) jdk_33_method_22_code (1 : Nat) (Option.some (Jvm.ClassFile.FieldType.object "java/lang/Integer"))).before args0 about1 = true := code_word (m := ⟨17, 0⟩) (meth := k17m0) (c := k17c0) (by decide +kernel) rfl rfl rfl (by decide +kernel)
set_option maxRecDepth 65536 in
theorem w_c7 : (Jvm.Cond.code ({ cls := "java/util/ArrayList", name := "add", desc := "(Ljava/lang/Object;)Z" } : Jvm.MethodName) jdk_38_method_25_code (2 : Nat) (Option.some Jvm.ClassFile.FieldType.boolean)).before args0 about1 = true := code_word (m := ⟨12, 4⟩) (meth := k12m4) (c := k12c4) (by decide +kernel) rfl rfl rfl (by decide +kernel)
set_option maxRecDepth 65536 in
theorem w_c8 : (Jvm.Cond.code ({ cls := "java/util/ArrayList", name := "add", desc := "(Ljava/lang/Object;[Ljava/lang/Object;I)V" } : Jvm.MethodName) jdk_38_method_24_code (4 : Nat) (Option.none : Option Jvm.ClassFile.FieldType)).before args0 about1 = true := code_word (m := ⟨12, 3⟩) (meth := k12m3) (c := k12c3) (by decide +kernel) rfl rfl rfl (by decide +kernel)
set_option maxRecDepth 65536 in
theorem w_c9 : (Jvm.Cond.code ({ cls := "java/util/ArrayList", name := "grow", desc := "()[Ljava/lang/Object;" } : Jvm.MethodName) jdk_38_method_7_code (1 : Nat) (Option.some (Jvm.ClassFile.FieldType.array (Jvm.ClassFile.FieldType.object "java/lang/Object")))).before args0 about1 = true := code_word (m := ⟨12, 2⟩) (meth := k12m2) (c := k12c2) (by decide +kernel) rfl rfl rfl (by decide +kernel)
set_option maxRecDepth 65536 in
theorem w_c10 : (Jvm.Cond.code ({ cls := "java/util/ArrayList", name := "grow", desc := "(I)[Ljava/lang/Object;" } : Jvm.MethodName) jdk_38_method_6_code (4 : Nat) (Option.some (Jvm.ClassFile.FieldType.array (Jvm.ClassFile.FieldType.object "java/lang/Object")))).before args0 about1 = true := code_word (m := ⟨12, 1⟩) (meth := k12m1) (c := k12c1) (by decide +kernel) rfl rfl rfl (by decide +kernel)
set_option maxRecDepth 65536 in
theorem w_c11 : (Jvm.Cond.code ({ cls := "com/example/stockwright/stockwright/model/PageRequest", name := "<init>", desc := "(II)V" } : Jvm.MethodName) prog_9_method_1_code (3 : Nat) (Option.none : Option Jvm.ClassFile.FieldType)).before args0 about1 = true := code_word (m := ⟨20, 0⟩) (meth := k20m0) (c := k20c0) (by decide +kernel) rfl rfl rfl (by decide +kernel)
set_option maxRecDepth 65536 in
theorem w_c12 : (Jvm.Cond.code ({ cls := "java/lang/Record", name := "<init>", desc := "()V" } : Jvm.MethodName) jdk_30_method_1_code (1 : Nat) (Option.none : Option Jvm.ClassFile.FieldType)).before args0 about1 = true := code_word (m := ⟨19, 0⟩) (meth := k19m0) (c := k19c0) (by decide +kernel) rfl rfl rfl (by decide +kernel)
set_option maxRecDepth 65536 in
theorem w_c13 : (Jvm.Cond.code ({ cls := "com/example/stockwright/stockwright/model/Page", name := "of", desc := "(Ljava/util/List;Lcom/example/stockwright/stockwright/model/PageRequest;J)Lcom/example/stockwright/stockwright/model/Page;" } : Jvm.MethodName) prog_7_method_2_code (6 : Nat) (Option.some (Jvm.ClassFile.FieldType.object "com/example/stockwright/stockwright/model/Page"))).before args0 about1 = true := code_word (m := ⟨21, 1⟩) (meth := k21m1) (c := k21c1) (by decide +kernel) rfl rfl rfl (by decide +kernel)
set_option maxRecDepth 65536 in
theorem w_c14 : (Jvm.Cond.code ({ cls := "com/example/stockwright/stockwright/model/PageRequest", name := "pageSize", desc := "()I" } : Jvm.MethodName) prog_9_method_7_code (1 : Nat) (Option.some Jvm.ClassFile.FieldType.int)).before args0 about1 = true := code_word (m := ⟨20, 2⟩) (meth := k20m2) (c := k20c2) (by decide +kernel) rfl rfl rfl (by decide +kernel)
set_option maxRecDepth 65536 in
theorem w_c15 : (Jvm.Cond.code ({ cls := "com/example/stockwright/stockwright/model/PageRequest", name := "page", desc := "()I" } : Jvm.MethodName) prog_9_method_6_code (1 : Nat) (Option.some Jvm.ClassFile.FieldType.int)).before args0 about1 = true := code_word (m := ⟨20, 1⟩) (meth := k20m1) (c := k20c1) (by decide +kernel) rfl rfl rfl (by decide +kernel)
set_option maxRecDepth 65536 in
theorem w_c16 : (Jvm.Cond.code ({ cls := "com/example/stockwright/stockwright/model/Page", name := "<init>", desc := "(Ljava/util/List;IIJJ)V" } : Jvm.MethodName) prog_7_method_1_code (8 : Nat) (Option.none : Option Jvm.ClassFile.FieldType)).before args0 about1 = true := code_word (m := ⟨21, 0⟩) (meth := k21m0) (c := k21c0) (by decide +kernel) rfl rfl rfl (by decide +kernel)
set_option maxRecDepth 65536 in
theorem w_c17 : (Jvm.Cond.code ({ cls := "com/example/stockwright/stockwright/model/Page", name := "items", desc := "()Ljava/util/List;" } : Jvm.MethodName) prog_7_method_6_code (1 : Nat) (Option.some (Jvm.ClassFile.FieldType.object "java/util/List"))).before args0 about1 = true := code_word (m := ⟨21, 2⟩) (meth := k21m2) (c := k21c2) (by decide +kernel) rfl rfl rfl (by decide +kernel)
set_option maxRecDepth 65536 in
theorem w_c18 : (Jvm.Cond.code ({ cls := "com/example/stockwright/stockwright/model/Page", name := "page", desc := "()I" } : Jvm.MethodName) prog_7_method_7_code (1 : Nat) (Option.some Jvm.ClassFile.FieldType.int)).before args0 about1 = true := code_word (m := ⟨21, 3⟩) (meth := k21m3) (c := k21c3) (by decide +kernel) rfl rfl rfl (by decide +kernel)
set_option maxRecDepth 65536 in
theorem w_c19 : (Jvm.Cond.code ({ cls := "com/example/stockwright/stockwright/model/Page", name := "pageSize", desc := "()I" } : Jvm.MethodName) prog_7_method_8_code (1 : Nat) (Option.some Jvm.ClassFile.FieldType.int)).before args0 about1 = true := code_word (m := ⟨21, 4⟩) (meth := k21m4) (c := k21c4) (by decide +kernel) rfl rfl rfl (by decide +kernel)
set_option maxRecDepth 65536 in
theorem w_c20 : (Jvm.Cond.code ({ cls := "com/example/stockwright/stockwright/model/Page", name := "totalItems", desc := "()J" } : Jvm.MethodName) prog_7_method_9_code (1 : Nat) (Option.some Jvm.ClassFile.FieldType.long)).before args0 about1 = true := code_word (m := ⟨21, 5⟩) (meth := k21m5) (c := k21c5) (by decide +kernel) rfl rfl rfl (by decide +kernel)
set_option maxRecDepth 65536 in
theorem w_c21 : (Jvm.Cond.code ({ cls := "com/example/stockwright/stockwright/model/Page", name := "totalPages", desc := "()J" } : Jvm.MethodName) prog_7_method_10_code (1 : Nat) (Option.some Jvm.ClassFile.FieldType.long)).before args0 about1 = true := code_word (m := ⟨21, 6⟩) (meth := k21m6) (c := k21c6) (by decide +kernel) rfl rfl rfl (by decide +kernel)
set_option maxRecDepth 65536 in
theorem w_c22 : (Jvm.Cond.code ({ cls := "java/lang/Integer", name := "<init>", desc := "(I)V" } : Jvm.MethodName) jdk_33_method_23_code (2 : Nat) (Option.none : Option Jvm.ClassFile.FieldType)).before args0 about1 = true := code_word (m := ⟨17, 1⟩) (meth := k17m1) (c := k17c1) (by decide +kernel) rfl rfl rfl (by decide +kernel)
set_option maxRecDepth 65536 in
theorem w_c23 : (Jvm.Cond.code ({ cls := "java/lang/Number", name := "<init>", desc := "()V" } : Jvm.MethodName) jdk_18_method_1_code (1 : Nat) (Option.none : Option Jvm.ClassFile.FieldType)).before args0 about1 = true := code_word (m := ⟨13, 0⟩) (meth := k13m0) (c := k13c0) (by decide +kernel) rfl rfl rfl (by decide +kernel)
def codes1 : List Jvm.Cond := [Jvm.Cond.code x code maxLocals ret, Jvm.Cond.code ({ cls := "java/lang/Math", name := "max", desc := "(II)I" } : Jvm.MethodName) jdk_29_method_65_code (2 : Nat) (Option.some Jvm.ClassFile.FieldType.int), Jvm.Cond.code ({ cls := "java/util/ArrayList", name := "<init>", desc := "()V" } : Jvm.MethodName) jdk_38_method_2_code (1 : Nat) (Option.none : Option Jvm.ClassFile.FieldType), Jvm.Cond.code ({ cls := "java/util/AbstractList", name := "<init>", desc := "()V" } : Jvm.MethodName) jdk_39_method_1_code (1 : Nat) (Option.none : Option Jvm.ClassFile.FieldType), Jvm.Cond.code ({ cls := "java/util/AbstractCollection", name := "<init>", desc := "()V" } : Jvm.MethodName) jdk_22_method_1_code (1 : Nat) (Option.none : Option Jvm.ClassFile.FieldType), Jvm.Cond.code ({ cls := "java/lang/Object", name := "<init>", desc := "()V" } : Jvm.MethodName) object_method_1_code (1 : Nat) (Option.none : Option Jvm.ClassFile.FieldType), Jvm.Cond.code ({ cls := "java/lang/Integer", name := "valueOf", desc := "(I)Ljava/lang/Integer;" } : Jvm.MethodName) jdk_33_method_22_code (1 : Nat) (Option.some (Jvm.ClassFile.FieldType.object "java/lang/Integer")), Jvm.Cond.code ({ cls := "java/util/ArrayList", name := "add", desc := "(Ljava/lang/Object;)Z" } : Jvm.MethodName) jdk_38_method_25_code (2 : Nat) (Option.some Jvm.ClassFile.FieldType.boolean), Jvm.Cond.code ({ cls := "java/util/ArrayList", name := "add", desc := "(Ljava/lang/Object;[Ljava/lang/Object;I)V" } : Jvm.MethodName) jdk_38_method_24_code (4 : Nat) (Option.none : Option Jvm.ClassFile.FieldType), Jvm.Cond.code ({ cls := "java/util/ArrayList", name := "grow", desc := "()[Ljava/lang/Object;" } : Jvm.MethodName) jdk_38_method_7_code (1 : Nat) (Option.some (Jvm.ClassFile.FieldType.array (Jvm.ClassFile.FieldType.object "java/lang/Object"))), Jvm.Cond.code ({ cls := "java/util/ArrayList", name := "grow", desc := "(I)[Ljava/lang/Object;" } : Jvm.MethodName) jdk_38_method_6_code (4 : Nat) (Option.some (Jvm.ClassFile.FieldType.array (Jvm.ClassFile.FieldType.object "java/lang/Object"))), Jvm.Cond.code ({ cls := "com/example/stockwright/stockwright/model/PageRequest", name := "<init>", desc := "(II)V" } : Jvm.MethodName) prog_9_method_1_code (3 : Nat) (Option.none : Option Jvm.ClassFile.FieldType), Jvm.Cond.code ({ cls := "java/lang/Record", name := "<init>", desc := "()V" } : Jvm.MethodName) jdk_30_method_1_code (1 : Nat) (Option.none : Option Jvm.ClassFile.FieldType), Jvm.Cond.code ({ cls := "com/example/stockwright/stockwright/model/Page", name := "of", desc := "(Ljava/util/List;Lcom/example/stockwright/stockwright/model/PageRequest;J)Lcom/example/stockwright/stockwright/model/Page;" } : Jvm.MethodName) prog_7_method_2_code (6 : Nat) (Option.some (Jvm.ClassFile.FieldType.object "com/example/stockwright/stockwright/model/Page")), Jvm.Cond.code ({ cls := "com/example/stockwright/stockwright/model/PageRequest", name := "pageSize", desc := "()I" } : Jvm.MethodName) prog_9_method_7_code (1 : Nat) (Option.some Jvm.ClassFile.FieldType.int), Jvm.Cond.code ({ cls := "com/example/stockwright/stockwright/model/PageRequest", name := "page", desc := "()I" } : Jvm.MethodName) prog_9_method_6_code (1 : Nat) (Option.some Jvm.ClassFile.FieldType.int), Jvm.Cond.code ({ cls := "com/example/stockwright/stockwright/model/Page", name := "<init>", desc := "(Ljava/util/List;IIJJ)V" } : Jvm.MethodName) prog_7_method_1_code (8 : Nat) (Option.none : Option Jvm.ClassFile.FieldType), Jvm.Cond.code ({ cls := "com/example/stockwright/stockwright/model/Page", name := "items", desc := "()Ljava/util/List;" } : Jvm.MethodName) prog_7_method_6_code (1 : Nat) (Option.some (Jvm.ClassFile.FieldType.object "java/util/List")), Jvm.Cond.code ({ cls := "com/example/stockwright/stockwright/model/Page", name := "page", desc := "()I" } : Jvm.MethodName) prog_7_method_7_code (1 : Nat) (Option.some Jvm.ClassFile.FieldType.int), Jvm.Cond.code ({ cls := "com/example/stockwright/stockwright/model/Page", name := "pageSize", desc := "()I" } : Jvm.MethodName) prog_7_method_8_code (1 : Nat) (Option.some Jvm.ClassFile.FieldType.int), Jvm.Cond.code ({ cls := "com/example/stockwright/stockwright/model/Page", name := "totalItems", desc := "()J" } : Jvm.MethodName) prog_7_method_9_code (1 : Nat) (Option.some Jvm.ClassFile.FieldType.long), Jvm.Cond.code ({ cls := "com/example/stockwright/stockwright/model/Page", name := "totalPages", desc := "()J" } : Jvm.MethodName) prog_7_method_10_code (1 : Nat) (Option.some Jvm.ClassFile.FieldType.long), Jvm.Cond.code ({ cls := "java/lang/Integer", name := "<init>", desc := "(I)V" } : Jvm.MethodName) jdk_33_method_23_code (2 : Nat) (Option.none : Option Jvm.ClassFile.FieldType), Jvm.Cond.code ({ cls := "java/lang/Number", name := "<init>", desc := "()V" } : Jvm.MethodName) jdk_18_method_1_code (1 : Nat) (Option.none : Option Jvm.ClassFile.FieldType)]
set_option maxRecDepth 65536 in
theorem codes_eq : words1.filter isCode = codes1 := rfl
theorem w_codes : ∀ c ∈ words1.filter isCode, c.before args0 about1 = true := by
  rw [codes_eq]
  intro c hc
  simp only [codes1, List.mem_cons, List.not_mem_nil, or_false] at hc
  rcases hc with rfl | rfl | rfl | rfl | rfl | rfl | rfl | rfl | rfl | rfl | rfl | rfl | rfl | rfl | rfl | rfl | rfl | rfl | rfl | rfl | rfl | rfl | rfl | rfl
  · exact w_c0
  · exact w_c1
  · exact w_c2
  · exact w_c3
  · exact w_c4
  · exact w_c5
  · exact w_c6
  · exact w_c7
  · exact w_c8
  · exact w_c9
  · exact w_c10
  · exact w_c11
  · exact w_c12
  · exact w_c13
  · exact w_c14
  · exact w_c15
  · exact w_c16
  · exact w_c17
  · exact w_c18
  · exact w_c19
  · exact w_c20
  · exact w_c21
  · exact w_c22
  · exact w_c23
set_option maxRecDepth 65536 in
theorem w_t1 : (words1.take 24).all (fun c => isCode c || c.before args0 about1) = true := by decide +kernel
set_option maxRecDepth 65536 in
theorem w_t2 : ((words1.drop 24).take 24).all (fun c => isCode c || c.before args0 about1) = true := by decide +kernel
set_option maxRecDepth 65536 in
theorem w_t3 : (((words1.drop 24).drop 24).take 24).all (fun c => isCode c || c.before args0 about1) = true := by decide +kernel
set_option maxRecDepth 65536 in
theorem w_t4 : ((((words1.drop 24).drop 24).drop 24).take 24).all (fun c => isCode c || c.before args0 about1) = true := by decide +kernel
set_option maxRecDepth 65536 in
theorem w_t5 : (((((words1.drop 24).drop 24).drop 24).drop 24).take 24).all (fun c => isCode c || c.before args0 about1) = true := by decide +kernel
set_option maxRecDepth 65536 in
theorem w_t6 : ((((((words1.drop 24).drop 24).drop 24).drop 24).drop 24).take 24).all (fun c => isCode c || c.before args0 about1) = true := by decide +kernel
set_option maxRecDepth 65536 in
theorem w_t7 : ((((((words1.drop 24).drop 24).drop 24).drop 24).drop 24).drop 24).all (fun c => isCode c || c.before args0 about1) = true := by decide +kernel
theorem w_tables : (allAtoms (Jvm.Cond.code x code maxLocals ret :: tables_1)).before args0 about1 = true := by
  rw [allAtoms_all]
  show words1.all (fun c => c.before args0 about1) = true
  refine all_split ?_ w_codes
  rw [← List.take_append_drop 24 words1, List.all_append, w_t1, ← List.take_append_drop 24 (words1.drop 24), List.all_append, w_t2, ← List.take_append_drop 24 ((words1.drop 24).drop 24), List.all_append, w_t3, ← List.take_append_drop 24 (((words1.drop 24).drop 24).drop 24), List.all_append, w_t4, ← List.take_append_drop 24 ((((words1.drop 24).drop 24).drop 24).drop 24), List.all_append, w_t5, ← List.take_append_drop 24 (((((words1.drop 24).drop 24).drop 24).drop 24).drop 24), List.all_append, w_t6, w_t7]
  rfl
set_option maxRecDepth 65536 in
theorem w_rest : rest_1_c.before args0 about1 = true := by decide +kernel
set_option maxRecDepth 65536 in
theorem w_case : (Jvm.Cond.and given_1 narrow_1).before args0 about1 = true := by decide +kernel
theorem w_applies : (headSpec (Jvm.Cond.code x code maxLocals ret :: tables_1) room_1).applies x e0.platform about1 = true :=
  (Spec.applies_iff w_frames).mpr ⟨w_running, w_runnable, w_alone, w_named, w_hears, w_ripe, w_room, w_tables⟩
theorem atStart : AtStart classFile x code maxLocals ret World_1 tables_1 room_1 Calls_1 rest_1 Pre_1 launch0 p0 e0 about1 theMethod args0 below0 :=
  ⟨lists_1, trivial, launch0.admits_env _ _ _, launch0.least_env, fairChoices_fair.cas, fairChoices_fair.clock, w_frames, w_args, w_heap, w_applies, trivial, w_rest, w_case⟩
end start1
theorem witness_1 : WitnessClaimed_1 := ⟨start1.p0, start1.e0, start1.about1, start1.theMethod, start1.args0, start1.below0, start1.atStart⟩
end Jvm.Pilot.@@N@@
