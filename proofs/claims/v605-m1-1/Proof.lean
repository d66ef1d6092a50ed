import JvmDerived
import JvmDerived.Pilot.@@N@@Statement
import JvmDerived.Pilot.@@N@@Code
set_option linter.unusedVariables false
set_option linter.unusedSimpArgs false
namespace Jvm.Pilot.@@N@@
open Jvm Jvm.ClassFile Sem Op Lib Jvm.Free Jvm.Stand Jvm.LawKit Jvm.RoadKit Bundle Jvm.Pilot.@@N@@.Jvm.D
set_option maxRecDepth 65536
/-! the run still has to be led to its end from A: the goal of a walk, taken step by step -/
def own_Go (p : Program) (e : Env) (below : List Frame) (s : State) (Q : Option Value → Heap → List Loc → Prop) (C S : Nat) (A : State) : Prop :=
  ∃ s₂ o, Steps p.tables e below A s₂ ∧ s₂.status = .running ∧ Ended s₂ below o ∧ ∃ v L, o = .returned v ∧ Q v s₂.heap L ∧ FrameEnd s o s₂ L C S
section OwnA
variable {p : Program} {l : Launch} {e : Env} {R : Room} {s : State} {m : MethodId} {args : Array Value} {below : List Frame} {meth : Method} {c : Code} {T : State} {locs : List Loc} {cells slots : Nat} {Q : Option Value → Heap → List Loc → Prop} {C S : Nat}
theorem own_st {A B : State} (h : ∀ t, Steps p.tables e below B t → Steps p.tables e below A t) (g : own_Go p e below s Q C S B) : own_Go p e below s Q C S A := by
  obtain ⟨s₂, o, h1, r⟩ := g
  exact ⟨s₂, o, h _ h1, r⟩
theorem own_ss {A B : State} (h : Steps p.tables e below A B) (g : own_Go p e below s Q C S B) : own_Go p e below s Q C S A := own_st (fun _ k => h.trans k) g
theorem own_cut {P G : Prop} (a : P → G) (b : P) : G := a b
theorem own_leave (X : Stand p l e R s m args below meth c T locs cells slots) {v : Option Value} (hv : meth.sig.returnType = none → v = none) (hlk : meth.locks = false) (hQ : Q v T.heap locs) (hc : cells ≤ C) (hs : slots ≤ S) {A : State}
    (hr : ∀ fs, (∀ (f : JFrame) (acts : List Action), f.method = m → f.locked = none → f.entered = [] → (doReturn e (T.setTop f) acts v).1 = T.setFrames fs) → Steps p.tables e below A (T.setFrames fs)) : own_Go p e below s Q C S A := by
  obtain ⟨fs, hr', hrun, hended, hW, hsame⟩ := X.leave (v := v) hv hlk
  exact ⟨_, _, hr fs hr', hrun, hended, _, _, rfl, hQ, ⟨_, rfl⟩, hW, hsame.mono hc hs⟩
theorem own_retV (X : Stand p l e R s m args below meth c T locs cells slots) (hx : p.tables.exec = Jvm.exec) (hlk : meth.locks = false) (hret : meth.sig.returnType = none) {pc : Nat} {Ls : Array Slot} (hd : decode c.code pc = .ok (.return_, 1)) (hc : cells ≤ C) (hs : slots ≤ S) (hQ : Q none T.heap locs) :
    own_Go p e below s Q C S (T.setTop (mkF m pc Ls [])) := own_leave X (fun _ => rfl) hlk hQ hc hs fun _ hr => X.returnOut hx hret hd hr
theorem own_retI (X : Stand p l e R s m args below meth c T locs cells slots) (hx : p.tables.exec = Jvm.exec) (hlk : meth.locks = false) (hret : meth.sig.returnType = some .int) {pc : Nat} {Ls : Array Slot} {z : Int32} {rest : List Value} (hd : decode c.code pc = .ok (.ireturn, 1)) (hc : cells ≤ C) (hs : slots ≤ S) (hQ : Q (some (.int z)) T.heap locs) :
    own_Go p e below s Q C S (T.setTop (mkF m pc Ls (.int z :: rest))) := own_leave X (fun h => by rw [hret] at h; cases h) hlk hQ hc hs fun _ hr => retOut X hx hret rfl (Or.inl ⟨rfl, Or.inl rfl, _, rfl⟩) hd hr
theorem own_retJ (X : Stand p l e R s m args below meth c T locs cells slots) (hx : p.tables.exec = Jvm.exec) (hlk : meth.locks = false) (hret : meth.sig.returnType = some .long) {pc : Nat} {Ls : Array Slot} {z : Int64} {rest : List Value} (hd : decode c.code pc = .ok (.lreturn, 1)) (hc : cells ≤ C) (hs : slots ≤ S) (hQ : Q (some (.long z)) T.heap locs) :
    own_Go p e below s Q C S (T.setTop (mkF m pc Ls (.long z :: rest))) := own_leave X (fun h => by rw [hret] at h; cases h) hlk hQ hc hs fun _ hr => retOut X hx hret rfl (Or.inr (Or.inl ⟨rfl, rfl, _, rfl⟩)) hd hr
theorem own_retR (X : Stand p l e R s m args below meth c T locs cells slots) (hx : p.tables.exec = Jvm.exec) (hlk : meth.locks = false) {t : FieldType} (hret : meth.sig.returnType = some t) (ht : t.isReference = true) {pc : Nat} {Ls : Array Slot} {w : Value} {rest : List Value} (hn : narrow t w = w) (hw : w.isRef = true) (hd : decode c.code pc = .ok (.areturn, 1)) (hc : cells ≤ C) (hs : slots ≤ S) (hQ : Q (some w) T.heap locs) :
    own_Go p e below s Q C S (T.setTop (mkF m pc Ls (w :: rest))) := own_leave X (fun h => by rw [hret] at h; cases h) hlk hQ hc hs fun _ hr => retOut X hx hret hn (Or.inr (Or.inr (Or.inr (Or.inr ⟨rfl, ht, hw⟩)))) hd hr
theorem own_retN (X : Stand p l e R s m args below meth c T locs cells slots) (hx : p.tables.exec = Jvm.exec) (hlk : meth.locks = false) {t : FieldType} (hret : meth.sig.returnType = some t) (ht : t = .boolean ∨ t = .byte ∨ t = .char ∨ t = .short) {pc : Nat} {Ls : Array Slot} {z z' : Int32} {rest : List Value} (hz : nar t z = z') (hd : decode c.code pc = .ok (.ireturn, 1)) (hc : cells ≤ C) (hs : slots ≤ S) (hQ : Q (some (.int z')) T.heap locs) :
    own_Go p e below s Q C S (T.setTop (mkF m pc Ls (.int z :: rest))) := by
  subst hz
  exact own_leave X (fun h => by rw [hret] at h; cases h) hlk hQ hc hs fun _ hr => retN X hx hret ht hd hr
/-! arrays by the whole list of what they hold -/
variable {Z : State} {h h' : Heap} {a b : Addr} {ty : FieldType} {vs : List Value}
def own_A (Z : State) (h : Heap) (a : Addr) (ty : FieldType) (vs : List Value) : Prop := ∃ c : Cell, Arr Z h a c ty ∧ c.slots.toList = vs
theorem own_A.lt (F : own_A Z h a ty vs) : a < h.size := by obtain ⟨c, A, -⟩ := F; exact A.lt
theorem own_A.ext (F : own_A Z h a ty vs) (E : Ext h h') : own_A Z h' a ty vs := by obtain ⟨c, A, q⟩ := F; exact ⟨c, A.ext E, q⟩
theorem own_A.other {sl : Nat} {v : Value} (F : own_A Z h a ty vs) (W : Wr h h' b sl v) (q : a ≠ b) : own_A Z h' a ty vs := by obtain ⟨c, A, r⟩ := F; exact ⟨c, A.other W q, r⟩
theorem own_A.keep {ws : List Addr} (F : own_A Z h a ty vs) (K : Keep h h' ws) (q : a ∉ ws) : own_A Z h' a ty vs := by obtain ⟨c, A, r⟩ := F; exact ⟨c, ⟨K.2.1 a c A.1 q, A.2⟩, r⟩
theorem own_A.set {i : Nat} {v : Value} (F : own_A Z h a ty vs) (W : Wr h h' a i v) : own_A Z h' a ty (vs.set i v) := by
  obtain ⟨c, A, rfl⟩ := F
  exact ⟨_, A.same W, by simp [Cell.setSlot]⟩
theorem own_ix {j : Int32} {i : Nat} (hj : j.toInt = (i : Int)) : ¬ j < 0 ∧ j.toNatClampNeg = i := by
  refine ⟨?_, ?_⟩
  · rw [Int32.lt_iff_toInt_lt, hj]
    show ¬ ((i : Int) < 0)
    omega
  · have h1 : j.toNatClampNeg = j.toInt.toNat := rfl
    rw [h1, hj]; rfl
theorem own_in {cl : Cell} {j : Int32} {i : Nat} {v : Value} (hj : j.toInt = (i : Int)) (hv : cl.slots.toList[i]? = some v) : ¬ (j < 0 ∨ cl.slots.size ≤ j.toNatClampNeg) ∧ cl.slots[j.toNatClampNeg]? = some v := by
  obtain ⟨n0, n1⟩ := own_ix hj
  rw [n1]
  rw [Array.getElem?_toList] at hv
  refine ⟨?_, hv⟩
  have h2 := (Array.getElem?_eq_some_iff.mp hv).1
  rintro (q | q)
  · exact n0 q
  · omega
theorem own_ldI (X : Stand p l e R s m args below meth c T locs cells slots) (hx : p.tables.exec = Jvm.exec) (hZ : Z.Warmed39 s.vm) (eT : T.heap = h) (A : own_A Z h a .int vs) {j : Int32} {i : Nat} {v : Value} (hj : j.toInt = (i : Int)) (hv : vs[i]? = some v) {g : JFrame} (hg : g.method = m) {rest : List Value} (hs : g.stack = .int j :: .ref a :: rest) (hd : decode c.code g.pc = .ok (.iaload, 1)) {t : State}
    (k : Steps p.tables e below (T.setTop { g with pc := g.pc + 1, stack := v :: rest }) t) : Steps p.tables e below (T.setTop g) t := by
  obtain ⟨cl, A, rfl⟩ := A
  exact X.iaload hx (by rw [eT]; exact A.1) (State.isArrayOf_alike hZ.alike A.2.1) A.2.2 (own_in hj hv).1 (own_in hj hv).2 hg hs hd _ k
theorem own_ldJ (X : Stand p l e R s m args below meth c T locs cells slots) (hx : p.tables.exec = Jvm.exec) (hZ : Z.Warmed39 s.vm) (eT : T.heap = h) (A : own_A Z h a .long vs) {j : Int32} {i : Nat} {v : Value} (hj : j.toInt = (i : Int)) (hv : vs[i]? = some v) {g : JFrame} (hg : g.method = m) {rest : List Value} (hs : g.stack = .int j :: .ref a :: rest) (hd : decode c.code g.pc = .ok (.laload, 1)) {t : State}
    (k : Steps p.tables e below (T.setTop { g with pc := g.pc + 1, stack := v :: rest }) t) : Steps p.tables e below (T.setTop g) t := by
  obtain ⟨cl, A, rfl⟩ := A
  exact X.laload hx (by rw [eT]; exact A.1) (State.isArrayOf_alike hZ.alike A.2.1) A.2.2 (own_in hj hv).1 (own_in hj hv).2 hg hs hd _ k
theorem own_ldB (X : Stand p l e R s m args below meth c T locs cells slots) (hx : p.tables.exec = Jvm.exec) (hZ : Z.Warmed39 s.vm) (eT : T.heap = h) (A : own_A Z h a .byte vs) {j : Int32} {i : Nat} {v : Value} (hj : j.toInt = (i : Int)) (hv : vs[i]? = some v) {g : JFrame} (hg : g.method = m) {rest : List Value} (hs : g.stack = .int j :: .ref a :: rest) (hd : decode c.code g.pc = .ok (.baload, 1)) {t : State}
    (k : Steps p.tables e below (T.setTop { g with pc := g.pc + 1, stack := v :: rest }) t) : Steps p.tables e below (T.setTop g) t := by
  obtain ⟨cl, A, rfl⟩ := A
  exact X.baloadBytes hx (by rw [eT]; exact A.1) (State.isArrayOf_alike hZ.alike A.2.1) A.2.2 (own_in hj hv).1 (own_in hj hv).2 hg hs hd _ k
theorem own_ldZ (X : Stand p l e R s m args below meth c T locs cells slots) (hx : p.tables.exec = Jvm.exec) (hZ : Z.Warmed39 s.vm) (eT : T.heap = h) (A : own_A Z h a .boolean vs) {j : Int32} {i : Nat} {v : Value} (hj : j.toInt = (i : Int)) (hv : vs[i]? = some v) {g : JFrame} (hg : g.method = m) {rest : List Value} (hs : g.stack = .int j :: .ref a :: rest) (hd : decode c.code g.pc = .ok (.baload, 1)) {t : State}
    (k : Steps p.tables e below (T.setTop { g with pc := g.pc + 1, stack := v :: rest }) t) : Steps p.tables e below (T.setTop g) t := by
  obtain ⟨cl, A, rfl⟩ := A
  exact X.baloadBooleans hx (by rw [eT]; exact A.1) (State.isArrayOf_alike hZ.alike A.2.1) A.2.2 (own_in hj hv).1 (own_in hj hv).2 hg hs hd _ k
theorem own_ldS (X : Stand p l e R s m args below meth c T locs cells slots) (hx : p.tables.exec = Jvm.exec) (hZ : Z.Warmed39 s.vm) (eT : T.heap = h) (A : own_A Z h a .short vs) {j : Int32} {i : Nat} {v : Value} (hj : j.toInt = (i : Int)) (hv : vs[i]? = some v) {g : JFrame} (hg : g.method = m) {rest : List Value} (hs : g.stack = .int j :: .ref a :: rest) (hd : decode c.code g.pc = .ok (.saload, 1)) {t : State}
    (k : Steps p.tables e below (T.setTop { g with pc := g.pc + 1, stack := v :: rest }) t) : Steps p.tables e below (T.setTop g) t := by
  obtain ⟨cl, A, rfl⟩ := A
  exact X.saload hx (by rw [eT]; exact A.1) (State.isArrayOf_alike hZ.alike A.2.1) A.2.2 (own_in hj hv).1 (own_in hj hv).2 hg hs hd _ k
theorem own_ldC (X : Stand p l e R s m args below meth c T locs cells slots) (hx : p.tables.exec = Jvm.exec) (hZ : Z.Warmed39 s.vm) (eT : T.heap = h) (A : own_A Z h a .char vs) {j : Int32} {i : Nat} {v : Value} (hj : j.toInt = (i : Int)) (hv : vs[i]? = some v) {g : JFrame} (hg : g.method = m) {rest : List Value} (hs : g.stack = .int j :: .ref a :: rest) (hd : decode c.code g.pc = .ok (.caload, 1)) {t : State}
    (k : Steps p.tables e below (T.setTop { g with pc := g.pc + 1, stack := v :: rest }) t) : Steps p.tables e below (T.setTop g) t := by
  obtain ⟨cl, A, rfl⟩ := A
  exact X.caload hx (by rw [eT]; exact A.1) (State.isArrayOf_alike hZ.alike A.2.1) A.2.2 (own_in hj hv).1 (own_in hj hv).2 hg hs hd _ k
theorem own_ldR (X : Stand p l e R s m args below meth c T locs cells slots) (hx : p.tables.exec = Jvm.exec) (hZ : Z.Warmed39 s.vm) (eT : T.heap = h) (A : own_A Z h a ty vs) (hty : ty.isReference = true) {j : Int32} {i : Nat} {v : Value} (hj : j.toInt = (i : Int)) (hv : vs[i]? = some v) {g : JFrame} (hg : g.method = m) {rest : List Value} (hs : g.stack = .int j :: .ref a :: rest) (hd : decode c.code g.pc = .ok (.aaload, 1)) {t : State}
    (k : Steps p.tables e below (T.setTop { g with pc := g.pc + 1, stack := v :: rest }) t) : Steps p.tables e below (T.setTop g) t := by
  obtain ⟨cl, A, rfl⟩ := A
  exact X.aaload hx (by rw [eT]; exact A.1) (State.isArrayOf_alike hZ.alike A.2.1) hty A.2.2 (own_in hj hv).1 (own_in hj hv).2 hg hs hd _ k
theorem own_stI (X : Stand p l e R s m args below meth c T locs cells slots) (hx : p.tables.exec = Jvm.exec) (hZ : Z.Warmed39 s.vm) (eT : T.heap = h) (A : own_A Z h a .int vs) {j x : Int32} {i : Nat} (hj : j.toInt = (i : Int)) (hi : i < vs.length) {g : JFrame} (hg : g.method = m) {rest : List Value} (hs : g.stack = .int x :: .int j :: .ref a :: rest) (hd : decode c.code g.pc = .ok (.iastore, 1)) :
    ∃ T' h', Stand p l e R s m args below meth c T' (locs ++ [⟨a, i⟩]) cells slots ∧ T'.heap = h' ∧ Wr h h' a i (.int x) ∧ own_A Z h' a .int (vs.set i (.int x)) ∧ ∀ target, Steps p.tables e below (T'.setTop { g with pc := g.pc + 1, stack := rest }) target → Steps p.tables e below (T.setTop g) target := by
  obtain ⟨cl, A, rfl⟩ := A
  have hin := (own_in (cl := cl) (v := cl.slots.toList[i]) hj (List.getElem?_eq_getElem hi)).1
  obtain ⟨T', h', X', e', W', st⟩ := stI X hx hZ eT A (j := j) (x := x) hin hg hs hd
  rw [(own_ix hj).2] at X' W'
  exact ⟨T', h', X', e', W', own_A.set ⟨cl, A, rfl⟩ W', st⟩
theorem own_stJ (X : Stand p l e R s m args below meth c T locs cells slots) (hx : p.tables.exec = Jvm.exec) (hZ : Z.Warmed39 s.vm) (eT : T.heap = h) (A : own_A Z h a .long vs) {j : Int32} {x : Int64} {i : Nat} (hj : j.toInt = (i : Int)) (hi : i < vs.length) {g : JFrame} (hg : g.method = m) {rest : List Value} (hs : g.stack = .long x :: .int j :: .ref a :: rest) (hd : decode c.code g.pc = .ok (.lastore, 1)) :
    ∃ T' h', Stand p l e R s m args below meth c T' (locs ++ [⟨a, i⟩]) cells slots ∧ T'.heap = h' ∧ Wr h h' a i (.long x) ∧ own_A Z h' a .long (vs.set i (.long x)) ∧ ∀ target, Steps p.tables e below (T'.setTop { g with pc := g.pc + 1, stack := rest }) target → Steps p.tables e below (T.setTop g) target := by
  obtain ⟨cl, A, rfl⟩ := A
  have hin := (own_in (cl := cl) (v := cl.slots.toList[i]) hj (List.getElem?_eq_getElem hi)).1
  obtain ⟨T', h', X', e', W', st⟩ := stJ X hx hZ eT A (j := j) (x := x) hin hg hs hd
  rw [(own_ix hj).2] at X' W'
  exact ⟨T', h', X', e', W', own_A.set ⟨cl, A, rfl⟩ W', st⟩
theorem own_stB (X : Stand p l e R s m args below meth c T locs cells slots) (hx : p.tables.exec = Jvm.exec) (hZ : Z.Warmed39 s.vm) (eT : T.heap = h) (A : own_A Z h a .byte vs) {j x : Int32} {i : Nat} (hj : j.toInt = (i : Int)) (hi : i < vs.length) {g : JFrame} (hg : g.method = m) {rest : List Value} (hs : g.stack = .int x :: .int j :: .ref a :: rest) (hd : decode c.code g.pc = .ok (.bastore, 1)) :
    ∃ T' h', Stand p l e R s m args below meth c T' (locs ++ [⟨a, i⟩]) cells slots ∧ T'.heap = h' ∧ Wr h h' a i (.int x.toInt8.toInt32) ∧ own_A Z h' a .byte (vs.set i (.int x.toInt8.toInt32)) ∧ ∀ target, Steps p.tables e below (T'.setTop { g with pc := g.pc + 1, stack := rest }) target → Steps p.tables e below (T.setTop g) target := by
  obtain ⟨cl, A, rfl⟩ := A
  have hin := (own_in (cl := cl) (v := cl.slots.toList[i]) hj (List.getElem?_eq_getElem hi)).1
  obtain ⟨T', h', X', e', W', st⟩ := stB X hx hZ eT A (j := j) (x := x) hin hg hs hd
  rw [(own_ix hj).2] at X' W'
  exact ⟨T', h', X', e', W', own_A.set ⟨cl, A, rfl⟩ W', st⟩
theorem own_stS (X : Stand p l e R s m args below meth c T locs cells slots) (hx : p.tables.exec = Jvm.exec) (hZ : Z.Warmed39 s.vm) (eT : T.heap = h) (A : own_A Z h a .short vs) {j x : Int32} {i : Nat} (hj : j.toInt = (i : Int)) (hi : i < vs.length) {g : JFrame} (hg : g.method = m) {rest : List Value} (hs : g.stack = .int x :: .int j :: .ref a :: rest) (hd : decode c.code g.pc = .ok (.sastore, 1)) :
    ∃ T' h', Stand p l e R s m args below meth c T' (locs ++ [⟨a, i⟩]) cells slots ∧ T'.heap = h' ∧ Wr h h' a i (.int x.toInt16.toInt32) ∧ own_A Z h' a .short (vs.set i (.int x.toInt16.toInt32)) ∧ ∀ target, Steps p.tables e below (T'.setTop { g with pc := g.pc + 1, stack := rest }) target → Steps p.tables e below (T.setTop g) target := by
  obtain ⟨cl, A, rfl⟩ := A
  have hin := (own_in (cl := cl) (v := cl.slots.toList[i]) hj (List.getElem?_eq_getElem hi)).1
  obtain ⟨T', h', X', e', W', st⟩ := stS X hx hZ eT A (j := j) (x := x) hin hg hs hd
  rw [(own_ix hj).2] at X' W'
  exact ⟨T', h', X', e', W', own_A.set ⟨cl, A, rfl⟩ W', st⟩
theorem own_stC (X : Stand p l e R s m args below meth c T locs cells slots) (hx : p.tables.exec = Jvm.exec) (hZ : Z.Warmed39 s.vm) (eT : T.heap = h) (A : own_A Z h a .char vs) {j x : Int32} {i : Nat} (hj : j.toInt = (i : Int)) (hi : i < vs.length) {g : JFrame} (hg : g.method = m) {rest : List Value} (hs : g.stack = .int x :: .int j :: .ref a :: rest) (hd : decode c.code g.pc = .ok (.castore, 1)) :
    ∃ T' h', Stand p l e R s m args below meth c T' (locs ++ [⟨a, i⟩]) cells slots ∧ T'.heap = h' ∧ Wr h h' a i (.int x.toUInt32.toUInt16.toUInt32.toInt32) ∧ own_A Z h' a .char (vs.set i (.int x.toUInt32.toUInt16.toUInt32.toInt32)) ∧ ∀ target, Steps p.tables e below (T'.setTop { g with pc := g.pc + 1, stack := rest }) target → Steps p.tables e below (T.setTop g) target := by
  obtain ⟨cl, A, rfl⟩ := A
  have hin := (own_in (cl := cl) (v := cl.slots.toList[i]) hj (List.getElem?_eq_getElem hi)).1
  obtain ⟨T', h', X', e', W', st⟩ := stC X hx hZ eT A (j := j) (x := x) hin hg hs hd
  rw [(own_ix hj).2] at X' W'
  exact ⟨T', h', X', e', W', own_A.set ⟨cl, A, rfl⟩ W', st⟩
theorem own_newP {a0 : Array Value} (X : Stand p l e R s m args below meth c T locs cells slots) (hx : p.tables.exec = Jvm.exec) (hZ : Z.Warmed39 s.vm) {aty : ArrayType} (w : (Cond.arrayClass (newarray.typeOf aty)).before a0 Z = true) (eT : T.heap = h) {g : JFrame} (hg : g.method = m) (hd : decode c.code g.pc = .ok (.newarray aty, 2)) {n : Int32} {rest : List Value} (hs : g.stack = .int n :: rest)
    {k cap : Nat} (hk : n.toInt = (k : Int)) (hcap : k ≤ cap) (hb : cap * 8 ≤ 536870912) (hc : cells + 1 ≤ R.cells) (hl : slots + cap ≤ R.slots) {ad : String} (had : "[" ++ (newarray.typeOf aty).toString = ad) :
    ∃ T' h', Stand p l e R s m args below meth c T' locs (cells + 1) (slots + cap) ∧ T'.heap = h' ∧ Ext h h' ∧ own_A Z h' h.size (newarray.typeOf aty) (List.replicate k (defaultValue (newarray.typeOf aty))) ∧ Exa Z h' h.size ad ∧
      ∀ target, Steps p.tables e below (T'.setTop { g with pc := g.pc + 2, stack := .ref h.size :: rest }) target → Steps p.tables e below (T.setTop g) target := by
  obtain ⟨n0, n1⟩ := own_ix hk
  obtain ⟨T', h', cA, X', e', E', A', x', st⟩ := newPE X hx hZ w eT hg hd hs n0 (cap := cap) (by rw [n1]; exact hcap) hb hc hl had
  exact ⟨T', h', X', e', E', ⟨_, A', by simp [newA, n1]⟩, x', st⟩
theorem own_clone {a0 : Array Value} (X : Stand p l e R s m args below meth c T locs cells slots) (hx : p.tables.exec = Jvm.exec) (hZ : Z.Warmed39 s.vm) {own ad : String} {index : Nat} (hown : s.vm.findClass own = some m.cls)
    (w1 : (Cond.methodLink own index ⟨ad, "clone", "()Ljava/lang/Object;"⟩).before a0 Z = true) (w2 : (Cond.sameMethod ad "java/lang/Object" "clone" "()Ljava/lang/Object;").before a0 Z = true) (w3 : (Cond.native ⟨"java/lang/Object", "clone", "()Ljava/lang/Object;"⟩).before a0 Z = true)
    (w4 : (Cond.instanceMethod ⟨"java/lang/Object", "clone", "()Ljava/lang/Object;"⟩).before a0 Z = true) (w5 : (Cond.selects ad ⟨ad, "clone", "()Ljava/lang/Object;"⟩ ⟨"java/lang/Object", "clone", "()Ljava/lang/Object;"⟩).before a0 Z = true) (w6 : (Cond.castable ad "java/lang/Cloneable").before a0 Z = true)
    (eT : T.heap = h) (A : own_A Z h a ty vs) (E : Exa Z h a ad) (hf : ∀ v ∈ vs, fits ty v = true) {g : JFrame} (hg : g.method = m) (hsize : g.locals.size = c.maxLocals) {rest : List Value} (hst : g.stack = .ref a :: rest) (hd : decode c.code g.pc = .ok (.invokevirtual index, 3))
    (hfr : 1 ≤ R.frames) {W cap : Nat} (hW : 2 * g.monitorRoom + (rest.map fun v => v.category).sum ≤ W) (hl : W + 14 ≤ R.locals) (hcap : vs.length ≤ cap) (hc : cells + 1 ≤ R.cells) (hsl : slots + cap ≤ R.slots) :
    ∃ T' h', Stand p l e R s m args below meth c T' locs (cells + 1) (slots + cap) ∧ T'.heap = h' ∧ Ext h h' ∧ own_A Z h' h.size ty vs ∧ Exa Z h' h.size ad ∧
      ∀ target, Steps p.tables e below (T'.setTop { g with pc := g.pc + 3, stack := .ref h.size :: rest }) target → Steps p.tables e below (T.setTop g) target := by
  obtain ⟨cl, A, rfl⟩ := A
  have FC : FitC Z cl := fitC_of A fun i hi v hv => hf v (by
    rw [← Array.getElem?_toList] at hv
    exact List.mem_of_getElem? hv)
  obtain ⟨T', h', X', e', ex, A', E', st⟩ := cloneA X hx hZ hown w1 w2 w3 w4 w5 w6 eT A E FC hg hsize hst hd hfr hW hl (by simpa using hcap) hc hsl
  exact ⟨T', h', X', e', ex, ⟨_, A', rfl⟩, E', st⟩
def own_Ov (C : String) (Z : State) (h : Heap) (a : Addr) : Prop := ∃ c : Cell, h[a]? = some c ∧ Ovr Z c.cls C
theorem own_Ov.lt {C : String} (F : own_Ov C Z h a) : a < h.size := by obtain ⟨c, q, -⟩ := F; exact (Array.getElem?_eq_some_iff.mp q).1
theorem own_Ov.ext {C : String} (F : own_Ov C Z h a) (E : Ext h h') : own_Ov C Z h' a := by obtain ⟨c, q, r⟩ := F; exact ⟨c, E.2 _ _ q, r⟩
theorem own_Ov.other {C : String} {sl : Nat} {v : Value} (F : own_Ov C Z h a) (W : Wr h h' b sl v) (ne : a ≠ b) : own_Ov C Z h' a := by
  obtain ⟨c, q, r⟩ := F
  obtain ⟨c', q', -, -, -, e, -⟩ := wr_at W q
  exact ⟨c', q', by rw [e ne]; exact r⟩
theorem own_Ov.keep {C : String} {ws : List Addr} (F : own_Ov C Z h a) (K : Keep h h' ws) (ne : a ∉ ws) : own_Ov C Z h' a := by obtain ⟨c, q, r⟩ := F; exact ⟨c, K.2.1 _ _ q ne, r⟩
theorem own_newR {a0 : Array Value} (X : Stand p l e R s m args below meth c T locs cells slots) (hx : p.tables.exec = Jvm.exec) (hZ : Z.Warmed39 s.vm) {own C : String} {index : Nat} (hown : s.vm.findClass own = some m.cls) (w1 : (Cond.classLink own index C).before a0 Z = true) (w2 : (Cond.arrayOver (.object C)).before a0 Z = true) (eT : T.heap = h) {g : JFrame} (hg : g.method = m) (hd : decode c.code g.pc = .ok (.anewarray index, 3)) {n : Int32} {rest : List Value} (hs : g.stack = .int n :: rest)
    {k cap : Nat} (hk : n.toInt = (k : Int)) (hcap : k ≤ cap) (hb : cap * 8 ≤ 536870912) (hc : cells + 1 ≤ R.cells) (hl : slots + cap ≤ R.slots) {ad : String} (had : "[" ++ (FieldType.object C).toString = ad) :
    ∃ T' h', Stand p l e R s m args below meth c T' locs (cells + 1) (slots + cap) ∧ T'.heap = h' ∧ Ext h h' ∧ own_A Z h' h.size (.object C) (List.replicate k .null) ∧ Exa Z h' h.size ad ∧ own_Ov C Z h' h.size ∧
      ∀ target, Steps p.tables e below (T'.setTop { g with pc := g.pc + 3, stack := .ref h.size :: rest }) target → Steps p.tables e below (T.setTop g) target := by
  obtain ⟨n0, n1⟩ := own_ix hk
  obtain ⟨T', h', cA, X', e', E', A', x', O', st⟩ := newRE X hx hZ hown w1 w2 eT hg hd hs n0 (cap := cap) (by rw [n1]; exact hcap) hb hc hl had
  exact ⟨T', h', X', e', E', ⟨_, A', by simp [newA, n1, defaultValue]⟩, x', ⟨_, A'.1, O'⟩, st⟩
theorem own_stR {C : String} (X : Stand p l e R s m args below meth c T locs cells slots) (hx : p.tables.exec = Jvm.exec) (hZ : Z.Warmed39 s.vm) (eT : T.heap = h) (A : own_A Z h a (.object C) vs) (O : own_Ov C Z h a) {y : Addr} (I : Ins Z h y C true) {j : Int32} {i : Nat} (hj : j.toInt = (i : Int)) (hi : i < vs.length) {g : JFrame} (hg : g.method = m) {rest : List Value} (hs : g.stack = .ref y :: .int j :: .ref a :: rest) (hd : decode c.code g.pc = .ok (.aastore, 1)) :
    ∃ T' h', Stand p l e R s m args below meth c T' (locs ++ [⟨a, i⟩]) cells slots ∧ T'.heap = h' ∧ Wr h h' a i (.ref y) ∧ own_A Z h' a (.object C) (vs.set i (.ref y)) ∧ ∀ target, Steps p.tables e below (T'.setTop { g with pc := g.pc + 1, stack := rest }) target → Steps p.tables e below (T.setTop g) target := by
  obtain ⟨cl, A, rfl⟩ := A
  obtain ⟨c2, q, r⟩ := O
  cases A.1.symm.trans q
  have hin := (own_in (cl := cl) (v := cl.slots.toList[i]) hj (List.getElem?_eq_getElem hi)).1
  obtain ⟨T', h', X', e', W', st⟩ := stR X hx hZ eT A (j := j) (v := .ref y) hin rfl (Sto.of A r I) hg hs hd
  rw [(own_ix hj).2] at X' W'
  exact ⟨T', h', X', e', W', own_A.set ⟨cl, A, rfl⟩ W', st⟩
theorem own_len (X : Stand p l e R s m args below meth c T locs cells slots) (hx : p.tables.exec = Jvm.exec) (hZ : Z.Warmed39 s.vm) (eT : T.heap = h) (A : own_A Z h a ty vs) {n : Int32} (hn : n.toInt = (vs.length : Int)) {g : JFrame} (hg : g.method = m) {rest : List Value} (hs : g.stack = .ref a :: rest) (hd : decode c.code g.pc = .ok (.arraylength, 1)) {t : State}
    (k : Steps p.tables e below (T.setTop { g with pc := g.pc + 1, stack := .int n :: rest }) t) : Steps p.tables e below (T.setTop g) t := by
  obtain ⟨cl, A, rfl⟩ := A
  have h1 := n.toInt_lt
  have h2 : cl.slots.size.toInt32 = n := by
    refine Int32.toInt_inj.mp ?_
    rw [hn]
    have h3 : cl.slots.toList.length = cl.slots.size := by simp
    rw [h3] at hn ⊢
    exact len_toInt (by omega)
  refine X.arraylength hx (by rw [eT]; exact A.1) (State.isArrayOf_alike hZ.alike A.2.1) hg hs hd _ ?_
  rw [h2]; exact k
theorem own_lrem (X : Stand p l e R s m args below meth c T locs cells slots) (hx : p.tables.exec = Jvm.exec) {g : JFrame} (hg : g.method = m) {x y : Int64} {rest : List Value} (hd : decode c.code g.pc = .ok (.lrem, 1)) (hs : g.stack = .long y :: .long x :: rest) (hy : y ≠ 0) {t : State}
    (k : Steps p.tables e below (T.setTop { g with pc := g.pc + 1, stack := .long (x % y) :: rest }) t) : Steps p.tables e below (T.setTop g) t := XS.lrem X.here hx hg hd hs hy (by rw [lrem_mod]; exact k)
end OwnA
theorem own_Sta.keep {Z : State} {h h' : Heap} {ws : List Addr} {C n d : String} {v : Value} (F : Sta Z h C n d v) (K : Keep h h' ws) (q : ∀ st ∈ ws, ∀ cell : Cell, h[st]? = some cell → cell.vm.isStatics = false) : Sta Z h' C n d v := by
  obtain ⟨cf, i, k, f, st, cell, h1, h2, h3, h4, h5, h6, h7⟩ := F
  refine ⟨cf, i, k, f, st, cell, h1, h2, h3, h4, K.2.1 st cell h5 fun hm => ?_, h6, h7⟩
  rw [q st hm cell h5] at h6
  cases h6
theorem own_z_eq_t {c : Prop} [Decidable c] (h : ¬ c) : ifCond.holds .eq (if c then (1 : Int32) else 0) = true := by rw [if_neg h]; rfl
theorem own_z_eq_f {c : Prop} [Decidable c] (h : c) : ifCond.holds .eq (if c then (1 : Int32) else 0) = false := by rw [if_pos h]; rfl
theorem own_z_ne_t {c : Prop} [Decidable c] (h : c) : ifCond.holds .ne (if c then (1 : Int32) else 0) = true := by rw [if_pos h]; rfl
theorem own_z_ne_f {c : Prop} [Decidable c] (h : ¬ c) : ifCond.holds .ne (if c then (1 : Int32) else 0) = false := by rw [if_neg h]; rfl
theorem own_z_nar {c : Prop} [Decidable c] : nar .boolean (if c then (1 : Int32) else 0) = if c then (1 : Int32) else 0 := by split <;> rfl
/-- two slots that hold nothing or a long, whose value nobody reads again -/
def own_Two (a b : Slot) : Prop := (a = .unset ∧ b = .unset) ∨ ∃ z, a = .val (.long z) ∧ b = .second
theorem own_plainE {Z : State} {h : Heap} {a : Addr} {C : String} (F : Exa Z h a C) : ∀ cell : Cell, h[a]? = some cell → cell.vm.isStatics = false := fun cell hc => by
  obtain ⟨c, k, h1, -, -, h4, -⟩ := F
  cases h1.symm.trans hc
  exact h4
theorem own_plainA {Z : State} {h : Heap} {a : Addr} {ty : FieldType} {vs : List Value} (F : own_A Z h a ty vs) : ∀ cell : Cell, h[a]? = some cell → cell.vm.isStatics = false := fun cell hc => by
  obtain ⟨c, A, -⟩ := F
  cases A.1.symm.trans hc
  exact A.plain
theorem own_pop2 {tb : Tables} [Ours tb] {e : Env} {below : List Frame} {T target : State} {m : MethodId} {c : Code} {g : JFrame} (h : At T m c below) (hx : tb.exec = Jvm.exec) (hg : g.method = m) {x : Int64} {rest : List Value} (hd : decode c.code g.pc = .ok (.pop2, 1)) (hs : g.stack = .long x :: rest)
    (hr : Steps tb e below (T.setTop { g with pc := g.pc + 1, stack := rest }) target) : Steps tb e below (T.setTop g) target := by
  subst hg
  jvm_step h [h.top, hx, hd, hs, Value.category]
  exact hr
theorem own_min1 {i : Int32} {n : Nat} (h0 : 0 ≤ i.toInt) (h1 : i.toInt < (n : Int)) (hn : n < 1000) : (i + 1).toInt.toNat = i.toInt.toNat + 1 ∧ (i + 1).toInt = i.toInt + 1 := by
  have h2 := c_iadd i 1
  have h3 := rng32 (i + 1)
  have h4 : (1 : Int32).toInt = 1 := rfl
  omega
theorem own_ltN {i : Int32} {n : Nat} (hn : n < 1000) : i < n.toInt32 ↔ i.toInt < (n : Int) := by
  rw [Int32.lt_iff_toInt_lt, len_toInt (by omega)]
theorem own_getI {bs : List Int32} {i : Nat} (h : i < bs.length) : (bs.map Value.int)[i]? = some (.int (bs.getD i 0)) := by
  simp [List.getElem?_map, h]
theorem own_nat {i : Int32} (h : 0 ≤ i.toInt) : i.toInt = ((i.toInt.toNat : Nat) : Int) := by omega
theorem w_0 {a0 : Array Value} {Z : State} (hw : ∀ d ∈ tables_1, d.before a0 Z = true) : (Jvm.Cond.constant "com/example/goodput/goodput/PublisherTallyGetSentInWindowPinLaw" (13 : Nat) (2147483647 : Int32)).before a0 Z = true := hw _ (List.mem_of_getElem? (i := 0) rfl)
theorem w_1 {a0 : Array Value} {Z : State} (hw : ∀ d ∈ tables_1, d.before a0 Z = true) : (Jvm.Cond.methodLink "com/example/goodput/goodput/PublisherTallyGetSentInWindowPinLaw" (14 : Nat) ({ cls := "com/example/goodput/goodput/PublisherTallyGetSentInWindowPinLaw", name := "offset", desc := "(J)J" } : Jvm.MethodName)).before a0 Z = true := hw _ (List.mem_of_getElem? (i := 1) rfl)
theorem w_2 {a0 : Array Value} {Z : State} (hw : ∀ d ∈ tables_1, d.before a0 Z = true) : (Jvm.Cond.static ({ cls := "com/example/goodput/goodput/PublisherTallyGetSentInWindowPinLaw", name := "offset", desc := "(J)J" } : Jvm.MethodName)).before a0 Z = true := hw _ (List.mem_of_getElem? (i := 2) rfl)
theorem w_3 {a0 : Array Value} {Z : State} (hw : ∀ d ∈ tables_1, d.before a0 Z = true) : (Jvm.Cond.initialized "com/example/goodput/goodput/PublisherTallyGetSentInWindowPinLaw").before a0 Z = true := hw _ (List.mem_of_getElem? (i := 3) rfl)
theorem w_4 {a0 : Array Value} {Z : State} (hw : ∀ d ∈ tables_1, d.before a0 Z = true) : (Jvm.Cond.code ({ cls := "com/example/goodput/goodput/PublisherTallyGetSentInWindowPinLaw", name := "offset", desc := "(J)J" } : Jvm.MethodName) method_2_code (2 : Nat) (Option.some Jvm.ClassFile.FieldType.long)).before a0 Z = true := hw _ (List.mem_of_getElem? (i := 4) rfl)
theorem w_5 {a0 : Array Value} {Z : State} (hw : ∀ d ∈ tables_1, d.before a0 Z = true) : (Jvm.Cond.constantLong "com/example/goodput/goodput/PublisherTallyGetSentInWindowPinLaw" (9 : Nat) (9223372036854775807 : Int64)).before a0 Z = true := hw _ (List.mem_of_getElem? (i := 5) rfl)
theorem w_6 {a0 : Array Value} {Z : State} (hw : ∀ d ∈ tables_1, d.before a0 Z = true) : (Jvm.Cond.constantLong "com/example/goodput/goodput/PublisherTallyGetSentInWindowPinLaw" (11 : Nat) (6000000000 : Int64)).before a0 Z = true := hw _ (List.mem_of_getElem? (i := 6) rfl)
theorem w_7 {a0 : Array Value} {Z : State} (hw : ∀ d ∈ tables_1, d.before a0 Z = true) : (Jvm.Cond.constantLong "com/example/goodput/goodput/PublisherTallyGetSentInWindowPinLaw" (20 : Nat) (1000000000 : Int64)).before a0 Z = true := hw _ (List.mem_of_getElem? (i := 7) rfl)
theorem w_8 {a0 : Array Value} {Z : State} (hw : ∀ d ∈ tables_1, d.before a0 Z = true) : (Jvm.Cond.classLink "com/example/goodput/goodput/PublisherTallyGetSentInWindowPinLaw" (22 : Nat) "com/example/goodput/goodput/PublisherTally").before a0 Z = true := hw _ (List.mem_of_getElem? (i := 8) rfl)
theorem w_9 {a0 : Array Value} {Z : State} (hw : ∀ d ∈ tables_1, d.before a0 Z = true) : (Jvm.Cond.instantiable "com/example/goodput/goodput/PublisherTally" (5 : Nat)).before a0 Z = true := hw _ (List.mem_of_getElem? (i := 9) rfl)
theorem w_10 {a0 : Array Value} {Z : State} (hw : ∀ d ∈ tables_1, d.before a0 Z = true) : (Jvm.Cond.initialized "com/example/goodput/goodput/PublisherTally").before a0 Z = true := hw _ (List.mem_of_getElem? (i := 10) rfl)
theorem w_11 {a0 : Array Value} {Z : State} (hw : ∀ d ∈ tables_1, d.before a0 Z = true) : (Jvm.Cond.methodLink "com/example/goodput/goodput/PublisherTallyGetSentInWindowPinLaw" (24 : Nat) ({ cls := "com/example/goodput/goodput/PublisherTally", name := "<init>", desc := "(JI)V" } : Jvm.MethodName)).before a0 Z = true := hw _ (List.mem_of_getElem? (i := 11) rfl)
theorem w_12 {a0 : Array Value} {Z : State} (hw : ∀ d ∈ tables_1, d.before a0 Z = true) : (Jvm.Cond.instanceMethod ({ cls := "com/example/goodput/goodput/PublisherTally", name := "<init>", desc := "(JI)V" } : Jvm.MethodName)).before a0 Z = true := hw _ (List.mem_of_getElem? (i := 12) rfl)
theorem w_13 {a0 : Array Value} {Z : State} (hw : ∀ d ∈ tables_1, d.before a0 Z = true) : (Jvm.Cond.code ({ cls := "com/example/goodput/goodput/PublisherTally", name := "<init>", desc := "(JI)V" } : Jvm.MethodName) prog_28_method_1_code (4 : Nat) (Option.none : Option Jvm.ClassFile.FieldType)).before a0 Z = true := hw _ (List.mem_of_getElem? (i := 13) rfl)
theorem w_14 {a0 : Array Value} {Z : State} (hw : ∀ d ∈ tables_1, d.before a0 Z = true) : (Jvm.Cond.methodLink "com/example/goodput/goodput/PublisherTally" (1 : Nat) ({ cls := "java/lang/Object", name := "<init>", desc := "()V" } : Jvm.MethodName)).before a0 Z = true := hw _ (List.mem_of_getElem? (i := 14) rfl)
theorem w_15 {a0 : Array Value} {Z : State} (hw : ∀ d ∈ tables_1, d.before a0 Z = true) : (Jvm.Cond.instanceMethod ({ cls := "java/lang/Object", name := "<init>", desc := "()V" } : Jvm.MethodName)).before a0 Z = true := hw _ (List.mem_of_getElem? (i := 15) rfl)
theorem w_16 {a0 : Array Value} {Z : State} (hw : ∀ d ∈ tables_1, d.before a0 Z = true) : (Jvm.Cond.code ({ cls := "java/lang/Object", name := "<init>", desc := "()V" } : Jvm.MethodName) object_method_1_code (1 : Nat) (Option.none : Option Jvm.ClassFile.FieldType)).before a0 Z = true := hw _ (List.mem_of_getElem? (i := 16) rfl)
theorem w_17 {a0 : Array Value} {Z : State} (hw : ∀ d ∈ tables_1, d.before a0 Z = true) : (Jvm.Cond.classLink "com/example/goodput/goodput/PublisherTally" (7 : Nat) "java/util/BitSet").before a0 Z = true := hw _ (List.mem_of_getElem? (i := 17) rfl)
theorem w_18 {a0 : Array Value} {Z : State} (hw : ∀ d ∈ tables_1, d.before a0 Z = true) : (Jvm.Cond.instantiable "java/util/BitSet" (3 : Nat)).before a0 Z = true := hw _ (List.mem_of_getElem? (i := 18) rfl)
theorem w_19 {a0 : Array Value} {Z : State} (hw : ∀ d ∈ tables_1, d.before a0 Z = true) : (Jvm.Cond.initialized "java/util/BitSet").before a0 Z = true := hw _ (List.mem_of_getElem? (i := 19) rfl)
theorem w_20 {a0 : Array Value} {Z : State} (hw : ∀ d ∈ tables_1, d.before a0 Z = true) : (Jvm.Cond.methodLink "com/example/goodput/goodput/PublisherTally" (9 : Nat) ({ cls := "java/util/BitSet", name := "<init>", desc := "()V" } : Jvm.MethodName)).before a0 Z = true := hw _ (List.mem_of_getElem? (i := 20) rfl)
theorem w_21 {a0 : Array Value} {Z : State} (hw : ∀ d ∈ tables_1, d.before a0 Z = true) : (Jvm.Cond.instanceMethod ({ cls := "java/util/BitSet", name := "<init>", desc := "()V" } : Jvm.MethodName)).before a0 Z = true := hw _ (List.mem_of_getElem? (i := 21) rfl)
theorem w_22 {a0 : Array Value} {Z : State} (hw : ∀ d ∈ tables_1, d.before a0 Z = true) : (Jvm.Cond.code ({ cls := "java/util/BitSet", name := "<init>", desc := "()V" } : Jvm.MethodName) jdk_92_method_4_code (1 : Nat) (Option.none : Option Jvm.ClassFile.FieldType)).before a0 Z = true := hw _ (List.mem_of_getElem? (i := 22) rfl)
theorem w_23 {a0 : Array Value} {Z : State} (hw : ∀ d ∈ tables_1, d.before a0 Z = true) : (Jvm.Cond.methodLink "java/util/BitSet" (21 : Nat) ({ cls := "java/lang/Object", name := "<init>", desc := "()V" } : Jvm.MethodName)).before a0 Z = true := hw _ (List.mem_of_getElem? (i := 23) rfl)
theorem w_24 {a0 : Array Value} {Z : State} (hw : ∀ d ∈ tables_1, d.before a0 Z = true) : (Jvm.Cond.fieldLink "java/util/BitSet" (7 : Nat) "java/util/BitSet" "wordsInUse" "I").before a0 Z = true := hw _ (List.mem_of_getElem? (i := 24) rfl)
theorem w_25 {a0 : Array Value} {Z : State} (hw : ∀ d ∈ tables_1, d.before a0 Z = true) : (Jvm.Cond.lays "java/util/BitSet" "java/util/BitSet" "wordsInUse" "I").before a0 Z = true := hw _ (List.mem_of_getElem? (i := 25) rfl)
theorem w_26 {a0 : Array Value} {Z : State} (hw : ∀ d ∈ tables_1, d.before a0 Z = true) : (Jvm.Cond.fieldLink "java/util/BitSet" (24 : Nat) "java/util/BitSet" "sizeIsSticky" "Z").before a0 Z = true := hw _ (List.mem_of_getElem? (i := 26) rfl)
theorem w_27 {a0 : Array Value} {Z : State} (hw : ∀ d ∈ tables_1, d.before a0 Z = true) : (Jvm.Cond.lays "java/util/BitSet" "java/util/BitSet" "sizeIsSticky" "Z").before a0 Z = true := hw _ (List.mem_of_getElem? (i := 27) rfl)
theorem w_28 {a0 : Array Value} {Z : State} (hw : ∀ d ∈ tables_1, d.before a0 Z = true) : (Jvm.Cond.methodLink "java/util/BitSet" (27 : Nat) ({ cls := "java/util/BitSet", name := "initWords", desc := "(I)V" } : Jvm.MethodName)).before a0 Z = true := hw _ (List.mem_of_getElem? (i := 28) rfl)
theorem w_29 {a0 : Array Value} {Z : State} (hw : ∀ d ∈ tables_1, d.before a0 Z = true) : (Jvm.Cond.instanceMethod ({ cls := "java/util/BitSet", name := "initWords", desc := "(I)V" } : Jvm.MethodName)).before a0 Z = true := hw _ (List.mem_of_getElem? (i := 29) rfl)
theorem w_30 {a0 : Array Value} {Z : State} (hw : ∀ d ∈ tables_1, d.before a0 Z = true) : (Jvm.Cond.privateMethod ({ cls := "java/util/BitSet", name := "initWords", desc := "(I)V" } : Jvm.MethodName)).before a0 Z = true := hw _ (List.mem_of_getElem? (i := 30) rfl)
theorem w_31 {a0 : Array Value} {Z : State} (hw : ∀ d ∈ tables_1, d.before a0 Z = true) : (Jvm.Cond.selects "java/util/BitSet" ({ cls := "java/util/BitSet", name := "initWords", desc := "(I)V" } : Jvm.MethodName) ({ cls := "java/util/BitSet", name := "initWords", desc := "(I)V" } : Jvm.MethodName)).before a0 Z = true := hw _ (List.mem_of_getElem? (i := 31) rfl)
theorem w_32 {a0 : Array Value} {Z : State} (hw : ∀ d ∈ tables_1, d.before a0 Z = true) : (Jvm.Cond.code ({ cls := "java/util/BitSet", name := "initWords", desc := "(I)V" } : Jvm.MethodName) jdk_92_method_6_code (2 : Nat) (Option.none : Option Jvm.ClassFile.FieldType)).before a0 Z = true := hw _ (List.mem_of_getElem? (i := 32) rfl)
theorem w_33 {a0 : Array Value} {Z : State} (hw : ∀ d ∈ tables_1, d.before a0 Z = true) : (Jvm.Cond.methodLink "java/util/BitSet" (52 : Nat) ({ cls := "java/util/BitSet", name := "wordIndex", desc := "(I)I" } : Jvm.MethodName)).before a0 Z = true := hw _ (List.mem_of_getElem? (i := 33) rfl)
theorem w_34 {a0 : Array Value} {Z : State} (hw : ∀ d ∈ tables_1, d.before a0 Z = true) : (Jvm.Cond.static ({ cls := "java/util/BitSet", name := "wordIndex", desc := "(I)I" } : Jvm.MethodName)).before a0 Z = true := hw _ (List.mem_of_getElem? (i := 34) rfl)
theorem w_35 {a0 : Array Value} {Z : State} (hw : ∀ d ∈ tables_1, d.before a0 Z = true) : (Jvm.Cond.code ({ cls := "java/util/BitSet", name := "wordIndex", desc := "(I)I" } : Jvm.MethodName) jdk_92_method_1_code (1 : Nat) (Option.some Jvm.ClassFile.FieldType.int)).before a0 Z = true := hw _ (List.mem_of_getElem? (i := 35) rfl)
theorem w_36 {a0 : Array Value} {Z : State} (hw : ∀ d ∈ tables_1, d.before a0 Z = true) : (Jvm.Cond.arrayClass Jvm.ClassFile.FieldType.long).before a0 Z = true := hw _ (List.mem_of_getElem? (i := 36) rfl)
theorem w_37 {a0 : Array Value} {Z : State} (hw : ∀ d ∈ tables_1, d.before a0 Z = true) : (Jvm.Cond.fieldLink "java/util/BitSet" (11 : Nat) "java/util/BitSet" "words" "[J").before a0 Z = true := hw _ (List.mem_of_getElem? (i := 37) rfl)
theorem w_38 {a0 : Array Value} {Z : State} (hw : ∀ d ∈ tables_1, d.before a0 Z = true) : (Jvm.Cond.lays "java/util/BitSet" "java/util/BitSet" "words" "[J").before a0 Z = true := hw _ (List.mem_of_getElem? (i := 38) rfl)
theorem w_39 {a0 : Array Value} {Z : State} (hw : ∀ d ∈ tables_1, d.before a0 Z = true) : (Jvm.Cond.fieldLink "com/example/goodput/goodput/PublisherTally" (10 : Nat) "com/example/goodput/goodput/PublisherTally" "confirmed" "Ljava/util/BitSet;").before a0 Z = true := hw _ (List.mem_of_getElem? (i := 39) rfl)
theorem w_40 {a0 : Array Value} {Z : State} (hw : ∀ d ∈ tables_1, d.before a0 Z = true) : (Jvm.Cond.lays "com/example/goodput/goodput/PublisherTally" "com/example/goodput/goodput/PublisherTally" "confirmed" "Ljava/util/BitSet;").before a0 Z = true := hw _ (List.mem_of_getElem? (i := 40) rfl)
theorem w_41 {a0 : Array Value} {Z : State} (hw : ∀ d ∈ tables_1, d.before a0 Z = true) : (Jvm.Cond.fieldLink "com/example/goodput/goodput/PublisherTally" (16 : Nat) "com/example/goodput/goodput/PublisherTally" "windowStart" "J").before a0 Z = true := hw _ (List.mem_of_getElem? (i := 41) rfl)
theorem w_42 {a0 : Array Value} {Z : State} (hw : ∀ d ∈ tables_1, d.before a0 Z = true) : (Jvm.Cond.laysFinal "com/example/goodput/goodput/PublisherTally" "com/example/goodput/goodput/PublisherTally" "windowStart" "J").before a0 Z = true := hw _ (List.mem_of_getElem? (i := 42) rfl)
theorem w_43 {a0 : Array Value} {Z : State} (hw : ∀ d ∈ tables_1, d.before a0 Z = true) : (Jvm.Cond.fieldLink "com/example/goodput/goodput/PublisherTally" (20 : Nat) "com/example/goodput/goodput/PublisherTally" "sentPerSecond" "[J").before a0 Z = true := hw _ (List.mem_of_getElem? (i := 43) rfl)
theorem w_44 {a0 : Array Value} {Z : State} (hw : ∀ d ∈ tables_1, d.before a0 Z = true) : (Jvm.Cond.laysFinal "com/example/goodput/goodput/PublisherTally" "com/example/goodput/goodput/PublisherTally" "sentPerSecond" "[J").before a0 Z = true := hw _ (List.mem_of_getElem? (i := 44) rfl)
theorem w_45 {a0 : Array Value} {Z : State} (hw : ∀ d ∈ tables_1, d.before a0 Z = true) : (Jvm.Cond.methodLink "com/example/goodput/goodput/PublisherTallyGetSentInWindowPinLaw" (27 : Nat) ({ cls := "com/example/goodput/goodput/PublisherTally", name := "handedOver", desc := "(JJ)V" } : Jvm.MethodName)).before a0 Z = true := hw _ (List.mem_of_getElem? (i := 45) rfl)
theorem w_46 {a0 : Array Value} {Z : State} (hw : ∀ d ∈ tables_1, d.before a0 Z = true) : (Jvm.Cond.declares ({ cls := "com/example/goodput/goodput/PublisherTally", name := "handedOver", desc := "(JJ)V" } : Jvm.MethodName)).before a0 Z = true := hw _ (List.mem_of_getElem? (i := 46) rfl)
theorem w_47 {a0 : Array Value} {Z : State} (hw : ∀ d ∈ tables_1, d.before a0 Z = true) : (Jvm.Cond.instanceMethod ({ cls := "com/example/goodput/goodput/PublisherTally", name := "handedOver", desc := "(JJ)V" } : Jvm.MethodName)).before a0 Z = true := hw _ (List.mem_of_getElem? (i := 47) rfl)
theorem w_48 {a0 : Array Value} {Z : State} (hw : ∀ d ∈ tables_1, d.before a0 Z = true) : (Jvm.Cond.selects "com/example/goodput/goodput/PublisherTally" ({ cls := "com/example/goodput/goodput/PublisherTally", name := "handedOver", desc := "(JJ)V" } : Jvm.MethodName) ({ cls := "com/example/goodput/goodput/PublisherTally", name := "handedOver", desc := "(JJ)V" } : Jvm.MethodName)).before a0 Z = true := hw _ (List.mem_of_getElem? (i := 48) rfl)
theorem w_49 {a0 : Array Value} {Z : State} (hw : ∀ d ∈ tables_1, d.before a0 Z = true) : (Jvm.Cond.code ({ cls := "com/example/goodput/goodput/PublisherTally", name := "handedOver", desc := "(JJ)V" } : Jvm.MethodName) prog_28_method_2_code (7 : Nat) (Option.none : Option Jvm.ClassFile.FieldType)).before a0 Z = true := hw _ (List.mem_of_getElem? (i := 49) rfl)
theorem w_50 {a0 : Array Value} {Z : State} (hw : ∀ d ∈ tables_1, d.before a0 Z = true) : (Jvm.Cond.fieldLink "com/example/goodput/goodput/PublisherTally" (24 : Nat) "com/example/goodput/goodput/PublisherTally" "sent" "J").before a0 Z = true := hw _ (List.mem_of_getElem? (i := 50) rfl)
theorem w_51 {a0 : Array Value} {Z : State} (hw : ∀ d ∈ tables_1, d.before a0 Z = true) : (Jvm.Cond.lays "com/example/goodput/goodput/PublisherTally" "com/example/goodput/goodput/PublisherTally" "sent" "J").before a0 Z = true := hw _ (List.mem_of_getElem? (i := 51) rfl)
theorem w_52 {a0 : Array Value} {Z : State} (hw : ∀ d ∈ tables_1, d.before a0 Z = true) : (Jvm.Cond.fieldLink "com/example/goodput/goodput/PublisherTally" (27 : Nat) "com/example/goodput/goodput/PublisherTally" "publishDelayMax" "J").before a0 Z = true := hw _ (List.mem_of_getElem? (i := 52) rfl)
theorem w_53 {a0 : Array Value} {Z : State} (hw : ∀ d ∈ tables_1, d.before a0 Z = true) : (Jvm.Cond.lays "com/example/goodput/goodput/PublisherTally" "com/example/goodput/goodput/PublisherTally" "publishDelayMax" "J").before a0 Z = true := hw _ (List.mem_of_getElem? (i := 53) rfl)
theorem w_54 {a0 : Array Value} {Z : State} (hw : ∀ d ∈ tables_1, d.before a0 Z = true) : (Jvm.Cond.methodLink "com/example/goodput/goodput/PublisherTally" (30 : Nat) ({ cls := "java/lang/Math", name := "max", desc := "(JJ)J" } : Jvm.MethodName)).before a0 Z = true := hw _ (List.mem_of_getElem? (i := 54) rfl)
theorem w_55 {a0 : Array Value} {Z : State} (hw : ∀ d ∈ tables_1, d.before a0 Z = true) : (Jvm.Cond.static ({ cls := "java/lang/Math", name := "max", desc := "(JJ)J" } : Jvm.MethodName)).before a0 Z = true := hw _ (List.mem_of_getElem? (i := 55) rfl)
theorem w_56 {a0 : Array Value} {Z : State} (hw : ∀ d ∈ tables_1, d.before a0 Z = true) : (Jvm.Cond.initialized "java/lang/Math").before a0 Z = true := hw _ (List.mem_of_getElem? (i := 56) rfl)
theorem w_57 {a0 : Array Value} {Z : State} (hw : ∀ d ∈ tables_1, d.before a0 Z = true) : (Jvm.Cond.code ({ cls := "java/lang/Math", name := "max", desc := "(JJ)J" } : Jvm.MethodName) jdk_29_method_66_code (4 : Nat) (Option.some Jvm.ClassFile.FieldType.long)).before a0 Z = true := hw _ (List.mem_of_getElem? (i := 57) rfl)
theorem w_58 {a0 : Array Value} {Z : State} (hw : ∀ d ∈ tables_1, d.before a0 Z = true) : (Jvm.Cond.constantLong "com/example/goodput/goodput/PublisherTally" (36 : Nat) (1000000000 : Int64)).before a0 Z = true := hw _ (List.mem_of_getElem? (i := 58) rfl)
theorem w_59 {a0 : Array Value} {Z : State} (hw : ∀ d ∈ tables_1, d.before a0 Z = true) : (Jvm.Cond.methodLink "com/example/goodput/goodput/PublisherTallyGetSentInWindowPinLaw" (31 : Nat) ({ cls := "com/example/goodput/goodput/PublisherTally", name := "getSentInWindow", desc := "()J" } : Jvm.MethodName)).before a0 Z = true := hw _ (List.mem_of_getElem? (i := 59) rfl)
theorem w_60 {a0 : Array Value} {Z : State} (hw : ∀ d ∈ tables_1, d.before a0 Z = true) : (Jvm.Cond.declares ({ cls := "com/example/goodput/goodput/PublisherTally", name := "getSentInWindow", desc := "()J" } : Jvm.MethodName)).before a0 Z = true := hw _ (List.mem_of_getElem? (i := 60) rfl)
theorem w_61 {a0 : Array Value} {Z : State} (hw : ∀ d ∈ tables_1, d.before a0 Z = true) : (Jvm.Cond.instanceMethod ({ cls := "com/example/goodput/goodput/PublisherTally", name := "getSentInWindow", desc := "()J" } : Jvm.MethodName)).before a0 Z = true := hw _ (List.mem_of_getElem? (i := 61) rfl)
theorem w_62 {a0 : Array Value} {Z : State} (hw : ∀ d ∈ tables_1, d.before a0 Z = true) : (Jvm.Cond.selects "com/example/goodput/goodput/PublisherTally" ({ cls := "com/example/goodput/goodput/PublisherTally", name := "getSentInWindow", desc := "()J" } : Jvm.MethodName) ({ cls := "com/example/goodput/goodput/PublisherTally", name := "getSentInWindow", desc := "()J" } : Jvm.MethodName)).before a0 Z = true := hw _ (List.mem_of_getElem? (i := 62) rfl)
theorem w_63 {a0 : Array Value} {Z : State} (hw : ∀ d ∈ tables_1, d.before a0 Z = true) : (Jvm.Cond.code ({ cls := "com/example/goodput/goodput/PublisherTally", name := "getSentInWindow", desc := "()J" } : Jvm.MethodName) prog_28_method_4_code (8 : Nat) (Option.some Jvm.ClassFile.FieldType.long)).before a0 Z = true := hw _ (List.mem_of_getElem? (i := 63) rfl)
theorem own_pn1 : plainName "com/example/goodput/goodput/PublisherTallyGetSentInWindowPinLaw" = true := by first | (simp [plainName, overriddenIn]; done) | decide +kernel
theorem d1_0 : decode method_2_code 0 = .ok (.lload_n 0, 1) := by decide +kernel
theorem d1_1 : decode method_2_code 1 = .ok (.ldc2_w 9, 3) := by decide +kernel
theorem d1_4 : decode method_2_code 4 = .ok (.land, 1) := by decide +kernel
theorem d1_5 : decode method_2_code 5 = .ok (.ldc2_w 11, 3) := by decide +kernel
theorem d1_8 : decode method_2_code 8 = .ok (.lrem, 1) := by decide +kernel
theorem d1_9 : decode method_2_code 9 = .ok (.lreturn, 1) := by decide +kernel
theorem ef_1 (m : MethodId) (x0 : Int64) : entryFrame m #[(.long x0)] 2 = mkF m 0 #[.val (.long x0), .second] [] := by first | (simp [entryFrame, mkF, argsToLocals, Value.category]; done) | rfl
def Q1 (Z : State) (q1 : Int64) (h0 : Heap) (n0 : Nat) (v : Option Value) (h : Heap) (L : List Loc) : Prop := v = some (.long ((q1 &&& (9223372036854775807 : Int64)) % (6000000000 : Int64))) ∧ Fr n0 L ∧ h = h0
set_option maxHeartbeats 40000000 in
theorem rm1 (l : Launch) (Z : State) (a0 : Array Value) (hw : ∀ d ∈ tables_1, d.before a0 Z = true) (ws : List Jvm.Cond) (q1 : Int64) (h0 : Heap) (n0 : Nat) (Z0 : n0 ≤ h0.size) :
    MetFree l (⟨"com/example/goodput/goodput/PublisherTallyGetSentInWindowPinLaw", "offset", "(J)J"⟩ : MethodName) (head1 (Jvm.Cond.code (⟨"com/example/goodput/goodput/PublisherTallyGetSentInWindowPinLaw", "offset", "(J)J"⟩ : MethodName) method_2_code 2 (some .long) :: ws) ({ frames := 0, cells := 0, slots := 0, locals := 0 } : Room)) (fun a U => a = #[(.long q1)] ∧ Z.Warmed39 U.vm ∧ U.heap = h0) (fun _ _ _ _ _ => True) (fun _ U o U' => ∃ v L, o = .returned v ∧ Q1 Z q1 h0 n0 v U'.heap L ∧ FrameEnd U o U' L ({ frames := 0, cells := 0, slots := 0, locals := 0 } : Room).cells ({ frames := 0, cells := 0, slots := 0, locals := 0 } : Room).slots) := by
  refine MetFree.of_bodySF (plainFor_of_name own_pn1) hisR ?_
  intro p e s m args below meth c s₁ Bd hml0 hP hK
  obtain ⟨rfl, hZ, hh⟩ := hP
  have hx := Bd.exec
  have hby := Bd.bytes
  have hml : c.maxLocals = 2 := hml0
  have hlk : meth.locks = false := BodyLoose.notSynchronized Bd
  have hown : s.vm.findClass "com/example/goodput/goodput/PublisherTallyGetSentInWindowPinLaw" = some m.cls := findClass_of_methodNamed Bd.named
  have hnm := (name_of_methodNamed Bd.named Bd.method).1
  have X0 : Stand p l e ({ frames := 0, cells := 0, slots := 0, locals := 0 } : Room) s m #[(.long q1)] below meth c s₁ [] 0 0 := Stand.of_body Bd
  have e0 : s₁.heap = h0 := by rw [← hh, Bd.state]; rfl
  have N0 := Fr.nil n0
  show own_Go p e below s (Q1 Z q1 h0 n0) ({ frames := 0, cells := 0, slots := 0, locals := 0 } : Room).cells ({ frames := 0, cells := 0, slots := 0, locals := 0 } : Room).slots _
  refine own_st (B := s₁.setTop (mkF m 0 #[.val (.long q1), .second] [])) (fun t k => castTop (ef_1 m (q1)) k) ?_
  refine own_st (B := s₁.setTop (mkF m 1 #[.val (.long q1), .second] [(.long q1)])) (fun t k => XS.lloadN X0.here hx rfl (hb hby d1_0) rfl k) ?_
  refine own_st (B := s₁.setTop (mkF m 4 #[.val (.long q1), .second] [(.long (9223372036854775807 : Int64)), (.long q1)])) (fun t k => X0.ldc2Long hx hown (mvT hZ (w_5 hw)) (g := (mkF m 1 #[.val (.long q1), .second] [(.long q1)])) rfl (hb hby d1_1) _ k) ?_
  refine own_st (B := s₁.setTop (mkF m 5 #[.val (.long q1), .second] [(.long (q1 &&& (9223372036854775807 : Int64)))])) (fun t k => XS.land X0.here hx rfl (hb hby d1_4) rfl k) ?_
  refine own_st (B := s₁.setTop (mkF m 8 #[.val (.long q1), .second] [(.long (6000000000 : Int64)), (.long (q1 &&& (9223372036854775807 : Int64)))])) (fun t k => X0.ldc2Long hx hown (mvT hZ (w_6 hw)) (g := (mkF m 5 #[.val (.long q1), .second] [(.long (q1 &&& (9223372036854775807 : Int64)))])) rfl (hb hby d1_5) _ k) ?_
  refine own_st (B := s₁.setTop (mkF m 9 #[.val (.long q1), .second] [(.long ((q1 &&& (9223372036854775807 : Int64)) % (6000000000 : Int64)))])) (fun t k => own_lrem X0 hx (g := (mkF m 8 #[.val (.long q1), .second] [(.long (6000000000 : Int64)), (.long (q1 &&& (9223372036854775807 : Int64)))])) rfl (x := (q1 &&& (9223372036854775807 : Int64))) (y := (6000000000 : Int64)) (rest := []) (hb hby d1_8) rfl (by decide) k) ?_
  refine own_retJ X0 hx hlk Bd.returns (hb hby d1_9) (by decide) (by decide) ?_
  show Q1 Z q1 h0 n0 _ s₁.heap _
  rw [e0]
  exact ⟨rfl, N0, rfl⟩
def own_sum : List Int64 → Int64
  | [] => 0
  | x :: xs => x + own_sum xs
def own_upd (xs : List Int64) (i : Nat) : List Int64 := if i < xs.length then xs.set i (xs.getD i 0 + 1) else xs
theorem own_upd_len (xs : List Int64) (i : Nat) : (own_upd xs i).length = xs.length := by
  unfold own_upd
  split
  · simp
  · rfl
theorem own_ix5 {v : Int64} {n : Nat} (h0 : 0 ≤ v.toInt) (h1 : v.toInt < (n : Int)) (hn : n < 1000) : (v.toInt32).toInt = ((v.toInt.toNat : Nat) : Int) := by
  have h2 := c_l2i v
  have h3 := rng32 v.toInt32
  omega
theorem own_get {xs : List Int64} {i : Nat} (h : i < xs.length) : (xs.map Value.long)[i]? = some (.long (xs.getD i 0)) := by
  simp [List.getElem?_map, h]
theorem own_sa (s a : Int64) : (s + a) - s = a := by
  have h1 := c_ladd s a
  have h2 := c_lsub (s + a) s
  have h3 := rng64 a
  have h4 := rng64 ((s + a) - s)
  refine Int64.toInt_inj.mp ?_
  omega
theorem own_sec {d w : Int64} (h : 0 ≤ (d - w).toInt) : 0 ≤ ((d - w) / 1000000000).toInt ∧ ((d - w) / 1000000000).toInt = (d - w).toInt / 1000000000 := by
  have h1 := (c_ldiv (d - w) 1000000000 1000000000 rfl (by decide)).1 h
  omega
theorem own_ltL {v : Int64} {n : Nat} (hn : n < 1000) : v < (n.toInt32).toInt64 ↔ v.toInt < (n : Int) := by
  rw [Int64.lt_iff_toInt_lt, c_i2l, len_toInt (by omega)]

theorem own_pn2 : plainName "java/util/BitSet" = true := by first | (simp [plainName, overriddenIn]; done) | decide +kernel
theorem d6_0 : decode jdk_92_method_1_code 0 = .ok (.iload_n 0, 1) := by decide +kernel
theorem d6_1 : decode jdk_92_method_1_code 1 = .ok (.bipush 6, 2) := by decide +kernel
theorem d6_3 : decode jdk_92_method_1_code 3 = .ok (.ishr, 1) := by decide +kernel
theorem d6_4 : decode jdk_92_method_1_code 4 = .ok (.ireturn, 1) := by decide +kernel
theorem ef_6 (m : MethodId) (x0 : Int32) : entryFrame m #[(.int x0)] 1 = mkF m 0 #[.val (.int x0)] [] := by first | (simp [entryFrame, mkF, argsToLocals, Value.category]; done) | rfl
def Q6 (Z : State) (p1 : Int32) (h0 : Heap) (n0 : Nat) (v : Option Value) (h : Heap) (L : List Loc) : Prop := v = some (.int (p1 >>> ((6 : Int32) &&& 31))) ∧ Fr n0 L ∧ h = h0
set_option maxHeartbeats 40000000 in
theorem rm6 (l : Launch) (Z : State) (a0 : Array Value) (hw : ∀ d ∈ tables_1, d.before a0 Z = true) (ws : List Jvm.Cond) (p1 : Int32) (h0 : Heap) (n0 : Nat) (Z0 : n0 ≤ h0.size) :
    MetFree l (⟨"java/util/BitSet", "wordIndex", "(I)I"⟩ : MethodName) (head1 (Jvm.Cond.code (⟨"java/util/BitSet", "wordIndex", "(I)I"⟩ : MethodName) jdk_92_method_1_code 1 (some .int) :: ws) ({ frames := 0, cells := 0, slots := 0, locals := 0 } : Room)) (fun a U => a = #[(.int p1)] ∧ Z.Warmed39 U.vm ∧ U.heap = h0) (fun _ _ _ _ _ => True) (fun _ U o U' => ∃ v L, o = .returned v ∧ Q6 Z p1 h0 n0 v U'.heap L ∧ FrameEnd U o U' L ({ frames := 0, cells := 0, slots := 0, locals := 0 } : Room).cells ({ frames := 0, cells := 0, slots := 0, locals := 0 } : Room).slots) := by
  refine MetFree.of_bodySF (plainFor_of_name own_pn2) hisR ?_
  intro p e s m args below meth c s₁ Bd hml0 hP hK
  obtain ⟨rfl, hZ, hh⟩ := hP
  have hx := Bd.exec
  have hby := Bd.bytes
  have hml : c.maxLocals = 1 := hml0
  have hlk : meth.locks = false := BodyLoose.notSynchronized Bd
  have hown : s.vm.findClass "java/util/BitSet" = some m.cls := findClass_of_methodNamed Bd.named
  have hnm := (name_of_methodNamed Bd.named Bd.method).1
  have X0 : Stand p l e ({ frames := 0, cells := 0, slots := 0, locals := 0 } : Room) s m #[(.int p1)] below meth c s₁ [] 0 0 := Stand.of_body Bd
  have e0 : s₁.heap = h0 := by rw [← hh, Bd.state]; rfl
  have N0 := Fr.nil n0
  show own_Go p e below s (Q6 Z p1 h0 n0) ({ frames := 0, cells := 0, slots := 0, locals := 0 } : Room).cells ({ frames := 0, cells := 0, slots := 0, locals := 0 } : Room).slots _
  refine own_st (B := s₁.setTop (mkF m 0 #[.val (.int p1)] [])) (fun t k => castTop (ef_6 m (p1)) k) ?_
  refine own_st (B := s₁.setTop (mkF m 1 #[.val (.int p1)] [(.int p1)])) (fun t k => XS.iloadN X0.here hx rfl (hb hby d6_0) rfl k) ?_
  refine own_st (B := s₁.setTop (mkF m 3 #[.val (.int p1)] [(.int (6 : Int32)), (.int p1)])) (fun t k => XS.bipush X0.here hx rfl (hb hby d6_1) k) ?_
  refine own_st (B := s₁.setTop (mkF m 4 #[.val (.int p1)] [(.int (p1 >>> ((6 : Int32) &&& 31)))])) (fun t k => XS.ishr X0.here hx rfl (hb hby d6_3) rfl k) ?_
  refine own_retI X0 hx hlk Bd.returns (hb hby d6_4) (by decide) (by decide) ?_
  show Q6 Z p1 h0 n0 _ s₁.heap _
  rw [e0]
  exact ⟨rfl, N0, rfl⟩
theorem own_pd2 : parseMethodDescriptor "(I)I" = some ⟨[.int], some .int⟩ := by decide +kernel
theorem d5_0 : decode jdk_92_method_6_code 0 = .ok (.aload_n 0, 1) := by decide +kernel
theorem d5_1 : decode jdk_92_method_6_code 1 = .ok (.iload_n 1, 1) := by decide +kernel
theorem d5_2 : decode jdk_92_method_6_code 2 = .ok (.iconst 1, 1) := by decide +kernel
theorem d5_3 : decode jdk_92_method_6_code 3 = .ok (.isub, 1) := by decide +kernel
theorem d5_4 : decode jdk_92_method_6_code 4 = .ok (.invokestatic 52, 3) := by decide +kernel
theorem d5_7 : decode jdk_92_method_6_code 7 = .ok (.iconst 1, 1) := by decide +kernel
theorem d5_8 : decode jdk_92_method_6_code 8 = .ok (.iadd, 1) := by decide +kernel
theorem d5_9 : decode jdk_92_method_6_code 9 = .ok (.newarray .long, 2) := by decide +kernel
theorem d5_11 : decode jdk_92_method_6_code 11 = .ok (.putfield 11, 3) := by decide +kernel
theorem d5_14 : decode jdk_92_method_6_code 14 = .ok (.return_, 1) := by decide +kernel
theorem ef_5 (m : MethodId) (x0 : Addr) (x1 : Int32) : entryFrame m #[(.ref x0), (.int x1)] 2 = mkF m 0 #[.val (.ref x0), .val (.int x1)] [] := by first | (simp [entryFrame, mkF, argsToLocals, Value.category]; done) | rfl
def Q5 (Z : State) (a1 : Addr) (u1 : Value) (h0 : Heap) (n0 : Nat) (v : Option Value) (h : Heap) (L : List Loc) : Prop := v = none ∧ Fr n0 L ∧ Keep h0 h [a1] ∧ Exa Z h a1 "java/util/BitSet" ∧ Fld Z h a1 "java/util/BitSet" "sizeIsSticky" "Z" u1
set_option maxHeartbeats 40000000 in
theorem rm5 (l : Launch) (Z : State) (a0 : Array Value) (hw : ∀ d ∈ tables_1, d.before a0 Z = true) (ws : List Jvm.Cond) (a1 : Addr) (u1 : Value) (h0 : Heap) (n0 : Nat) (Z0 : n0 ≤ h0.size) (F0 : Exa Z h0 a1 "java/util/BitSet") (F1 : Fld Z h0 a1 "java/util/BitSet" "words" "[J" .null) (F2 : Fld Z h0 a1 "java/util/BitSet" "sizeIsSticky" "Z" u1) (ga : n0 ≤ a1) :
    MetFree l (⟨"java/util/BitSet", "initWords", "(I)V"⟩ : MethodName) (head1 (Jvm.Cond.code (⟨"java/util/BitSet", "initWords", "(I)V"⟩ : MethodName) jdk_92_method_6_code 2 none :: ws) ({ frames := 1, cells := 1, slots := 1, locals := 13 } : Room)) (fun a U => a = #[(.ref a1), (.int (64 : Int32))] ∧ Z.Warmed39 U.vm ∧ U.heap = h0) (fun _ _ _ _ _ => True) (fun _ U o U' => ∃ v L, o = .returned v ∧ Q5 Z a1 u1 h0 n0 v U'.heap L ∧ FrameEnd U o U' L ({ frames := 1, cells := 1, slots := 1, locals := 13 } : Room).cells ({ frames := 1, cells := 1, slots := 1, locals := 13 } : Room).slots) := by
  refine MetFree.of_bodySF (plainFor_of_name own_pn2) hisR ?_
  intro p e s m args below meth c s₁ Bd hml0 hP hK
  obtain ⟨rfl, hZ, hh⟩ := hP
  have hx := Bd.exec
  have hby := Bd.bytes
  have hml : c.maxLocals = 2 := hml0
  have hlk : meth.locks = false := BodyLoose.notSynchronized Bd
  have hown : s.vm.findClass "java/util/BitSet" = some m.cls := findClass_of_methodNamed Bd.named
  have hnm := (name_of_methodNamed Bd.named Bd.method).1
  have X0 : Stand p l e ({ frames := 1, cells := 1, slots := 1, locals := 13 } : Room) s m #[(.ref a1), (.int (64 : Int32))] below meth c s₁ [] 0 0 := Stand.of_body Bd
  have e0 : s₁.heap = h0 := by rw [← hh, Bd.state]; rfl
  have N0 := Fr.nil n0
  show own_Go p e below s (Q5 Z a1 u1 h0 n0) ({ frames := 1, cells := 1, slots := 1, locals := 13 } : Room).cells ({ frames := 1, cells := 1, slots := 1, locals := 13 } : Room).slots _
  refine own_st (B := s₁.setTop (mkF m 0 #[.val (.ref a1), .val (.int (64 : Int32))] [])) (fun t k => castTop (ef_5 m (a1) ((64 : Int32))) k) ?_
  refine own_st (B := s₁.setTop (mkF m 1 #[.val (.ref a1), .val (.int (64 : Int32))] [(.ref a1)])) (fun t k => XS.aloadN X0.here hx rfl (hb hby d5_0) rfl rfl k) ?_
  refine own_st (B := s₁.setTop (mkF m 2 #[.val (.ref a1), .val (.int (64 : Int32))] [(.int (64 : Int32)), (.ref a1)])) (fun t k => XS.iloadN X0.here hx rfl (hb hby d5_1) rfl k) ?_
  refine own_st (B := s₁.setTop (mkF m 3 #[.val (.ref a1), .val (.int (64 : Int32))] [(.int (1 : Int32)), (.int (64 : Int32)), (.ref a1)])) (fun t k => XS.iconst X0.here hx rfl (hb hby d5_2) k) ?_
  refine own_st (B := s₁.setTop (mkF m 4 #[.val (.ref a1), .val (.int (64 : Int32))] [(.int ((64 : Int32) - (1 : Int32))), (.ref a1)])) (fun t k => XS.isub X0.here hx rfl (hb hby d5_3) rfl k) ?_
  obtain ⟨_, _, ⟨T1, L1, k1, j1⟩, -, X1, ⟨Lc1, hQ1, l1, y1_, z1_⟩, st1⟩ := Jvm.LawKit.callS X0 hx (y := (⟨"java/util/BitSet", "wordIndex", "(I)I"⟩ : MethodName)) hown (mvT hZ (w_33 hw)) (mvT hZ (w_34 hw)) (mvT hZ (w_19 hw)) (mvT hZ (w_35 hw)) (by decide) (backOf (W := 1) (rm6 l Z a0 hw [] ((64 : Int32) - (1 : Int32)) h0 n0 Z0 ) hZ (w_35 hw) (w_19 hw) (by decide) (by decide)) (g := (mkF m 4 #[.val (.ref a1), .val (.int (64 : Int32))] [(.int ((64 : Int32) - (1 : Int32))), (.ref a1)])) rfl (by rw [hml]; rfl) (argsL := [(.int ((64 : Int32) - (1 : Int32)))]) (rest := [(.ref a1)]) (lenOf own_pd2 rfl) rfl (by show 2 * 0 + _ ≤ _; exact Nat.le_of_eq rfl) (hb hby d5_4) (fun _ _ => ⟨rfl, e0, (by decide : 0 + 0 ≤ _), (by decide : 0 + 0 ≤ _)⟩)
  dsimp only [Pt.U, Pt.locs, Pt.cells, Pt.slots] at X1 l1 y1_ z1_ st1 hQ1
  subst l1 y1_ z1_
  obtain ⟨rfl, N1q, e1q⟩ := hQ1
  have N1 := Fr.app N0 N1q
  refine own_st (B := T1.setTop (mkF m 7 #[.val (.ref a1), .val (.int (64 : Int32))] [(.int (((64 : Int32) - (1 : Int32)) >>> ((6 : Int32) &&& 31))), (.ref a1)])) (fun t k => st1 t k) ?_
  refine own_st (B := T1.setTop (mkF m 8 #[.val (.ref a1), .val (.int (64 : Int32))] [(.int (1 : Int32)), (.int (((64 : Int32) - (1 : Int32)) >>> ((6 : Int32) &&& 31))), (.ref a1)])) (fun t k => XS.iconst X1.here hx rfl (hb hby d5_7) k) ?_
  refine own_st (B := T1.setTop (mkF m 9 #[.val (.ref a1), .val (.int (64 : Int32))] [(.int ((((64 : Int32) - (1 : Int32)) >>> ((6 : Int32) &&& 31)) + (1 : Int32))), (.ref a1)])) (fun t k => XS.iadd X1.here hx rfl (hb hby d5_8) rfl k) ?_
  obtain ⟨T2, h2, X2, e2, E2, A2, x2, st2⟩ := own_newP X1 hx hZ (aty := .long) (w_36 hw) e1q (g := (mkF m 9 #[.val (.ref a1), .val (.int (64 : Int32))] [(.int ((((64 : Int32) - (1 : Int32)) >>> ((6 : Int32) &&& 31)) + (1 : Int32))), (.ref a1)])) rfl (hb hby d5_9) (n := ((((64 : Int32) - (1 : Int32)) >>> ((6 : Int32) &&& 31)) + (1 : Int32))) (rest := [(.ref a1)]) rfl (k := 1) (cap := 1) (by decide) (Nat.le_refl _) (by decide) (by decide) (by decide) (ad := "[J") rfl
  obtain ⟨b2, g2⟩ : ∃ z, z = h0.size := ⟨_, rfl⟩
  rw [← g2] at A2 x2 st2
  have q2_a1 : a1 ≠ b2 := Nat.ne_of_lt (Nat.lt_of_lt_of_le F0.lt (Nat.le_of_eq g2.symm))
  have u2 : n0 ≤ b2 := Nat.le_trans Z0 (Nat.le_of_eq g2.symm)
  have y2 : h0.size ≤ b2 := Nat.le_trans (Keep.refl h0 [a1]).1 (Nat.le_of_eq g2.symm)
  have z3 : n0 ≤ h2.size := Nat.le_trans Z0 E2.1
  have kp3 : Keep h0 h2 [a1] := (Keep.refl h0 [a1]).ext E2
  have f2_ : own_A Z h2 b2 .long (List.replicate 1 (Value.long (0 : Int64))) := A2
  refine own_st (B := T2.setTop (mkF m 11 #[.val (.ref a1), .val (.int (64 : Int32))] [(.ref b2), (.ref a1)])) (fun t k => st2 t k) ?_
  have f4 : Exa Z h2 a1 "java/util/BitSet" := (F0.ext E2)
  have f5 : Fld Z h2 a1 "java/util/BitSet" "words" "[J" .null := (F1.ext E2)
  obtain ⟨T6, h6, X6, e6, W6, st6⟩ := putF X2 hx hZ hown (host := "") (Or.inl (w_37 hw)) Via.refl e2 f5 f4 (Or.inl (w_38 hw)) (w_18 hw) (ty := (.array .long)) (by decide) rfl rfl (g := (mkF m 11 #[.val (.ref a1), .val (.int (64 : Int32))] [(.ref b2), (.ref a1)])) rfl rfl (hb hby d5_11)
  have f6_ : Fld Z h6 a1 "java/util/BitSet" "words" "[J" (.ref b2) := f5.same W6
  have z7 : n0 ≤ h6.size := Nat.le_trans z3 (Keep.of_wr W6).1
  have kp7 : Keep h0 h6 [a1] := kp3.wr W6 (Or.inl (List.mem_of_getElem? (i := 0) rfl))
  have n8 := Fr.snoc X6 N1 ga
  refine own_st (B := T6.setTop (mkF m 14 #[.val (.ref a1), .val (.int (64 : Int32))] [])) (fun t k => st6 t k) ?_
  refine own_retV X6 hx hlk Bd.returns (hb hby d5_14) (by decide) (by decide) ?_
  show Q5 Z a1 u1 h0 n0 _ T6.heap _
  rw [e6]
  have f9 : Exa Z h6 a1 "java/util/BitSet" := (f4.wr W6)
  have f10 : Fld Z h6 a1 "java/util/BitSet" "sizeIsSticky" "Z" u1 := ((F2.ext E2).other W6 (Or.inr (slot_ne (Or.inl (w_27 hw)) (Or.inl (w_38 hw)) (by decide) (t := .boolean) (t' := (.array .long)) (by decide) (by decide))))
  exact ⟨rfl, n8, kp7, f9, f10⟩
theorem own_pd3 : parseMethodDescriptor "(I)V" = some ⟨[.int], none⟩ := by decide +kernel
theorem d4_0 : decode jdk_92_method_4_code 0 = .ok (.aload_n 0, 1) := by decide +kernel
theorem d4_1 : decode jdk_92_method_4_code 1 = .ok (.invokespecial 21, 3) := by decide +kernel
theorem d4_4 : decode jdk_92_method_4_code 4 = .ok (.aload_n 0, 1) := by decide +kernel
theorem d4_5 : decode jdk_92_method_4_code 5 = .ok (.iconst 0, 1) := by decide +kernel
theorem d4_6 : decode jdk_92_method_4_code 6 = .ok (.putfield 7, 3) := by decide +kernel
theorem d4_9 : decode jdk_92_method_4_code 9 = .ok (.aload_n 0, 1) := by decide +kernel
theorem d4_10 : decode jdk_92_method_4_code 10 = .ok (.iconst 0, 1) := by decide +kernel
theorem d4_11 : decode jdk_92_method_4_code 11 = .ok (.putfield 24, 3) := by decide +kernel
theorem d4_14 : decode jdk_92_method_4_code 14 = .ok (.aload_n 0, 1) := by decide +kernel
theorem d4_15 : decode jdk_92_method_4_code 15 = .ok (.bipush 64, 2) := by decide +kernel
theorem d4_17 : decode jdk_92_method_4_code 17 = .ok (.invokevirtual 27, 3) := by decide +kernel
theorem d4_20 : decode jdk_92_method_4_code 20 = .ok (.aload_n 0, 1) := by decide +kernel
theorem d4_21 : decode jdk_92_method_4_code 21 = .ok (.iconst 0, 1) := by decide +kernel
theorem d4_22 : decode jdk_92_method_4_code 22 = .ok (.putfield 24, 3) := by decide +kernel
theorem d4_25 : decode jdk_92_method_4_code 25 = .ok (.return_, 1) := by decide +kernel
theorem ef_4 (m : MethodId) (x0 : Addr) : entryFrame m #[(.ref x0)] 1 = mkF m 0 #[.val (.ref x0)] [] := by first | (simp [entryFrame, mkF, argsToLocals, Value.category]; done) | rfl
def Q4 (Z : State) (a1 : Addr) (h0 : Heap) (n0 : Nat) (v : Option Value) (h : Heap) (L : List Loc) : Prop := v = none ∧ Fr n0 L ∧ Keep h0 h [a1] ∧ Exa Z h a1 "java/util/BitSet"
set_option maxHeartbeats 40000000 in
theorem rm4 (l : Launch) (Z : State) (a0 : Array Value) (hw : ∀ d ∈ tables_1, d.before a0 Z = true) (ws : List Jvm.Cond) (a1 : Addr) (h0 : Heap) (n0 : Nat) (Z0 : n0 ≤ h0.size) (F0 : Exa Z h0 a1 "java/util/BitSet") (F1 : Fld Z h0 a1 "java/util/BitSet" "wordsInUse" "I" (.int (0 : Int32))) (F2 : Fld Z h0 a1 "java/util/BitSet" "sizeIsSticky" "Z" (.int (0 : Int32))) (F3 : Fld Z h0 a1 "java/util/BitSet" "words" "[J" .null) (ga : n0 ≤ a1) :
    MetFree l (⟨"java/util/BitSet", "<init>", "()V"⟩ : MethodName) (head1 (Jvm.Cond.code (⟨"java/util/BitSet", "<init>", "()V"⟩ : MethodName) jdk_92_method_4_code 1 none :: ws) ({ frames := 2, cells := 1, slots := 1, locals := 26 } : Room)) (fun a U => a = #[(.ref a1)] ∧ Z.Warmed39 U.vm ∧ U.heap = h0) (fun _ _ _ _ _ => True) (fun _ U o U' => ∃ v L, o = .returned v ∧ Q4 Z a1 h0 n0 v U'.heap L ∧ FrameEnd U o U' L ({ frames := 2, cells := 1, slots := 1, locals := 26 } : Room).cells ({ frames := 2, cells := 1, slots := 1, locals := 26 } : Room).slots) := by
  refine MetFree.of_bodySF (plainFor_of_name own_pn2) hisR ?_
  intro p e s m args below meth c s₁ Bd hml0 hP hK
  obtain ⟨rfl, hZ, hh⟩ := hP
  have hx := Bd.exec
  have hby := Bd.bytes
  have hml : c.maxLocals = 1 := hml0
  have hlk : meth.locks = false := BodyLoose.notSynchronized Bd
  have hown : s.vm.findClass "java/util/BitSet" = some m.cls := findClass_of_methodNamed Bd.named
  have hnm := (name_of_methodNamed Bd.named Bd.method).1
  have X0 : Stand p l e ({ frames := 2, cells := 1, slots := 1, locals := 26 } : Room) s m #[(.ref a1)] below meth c s₁ [] 0 0 := Stand.of_body Bd
  have e0 : s₁.heap = h0 := by rw [← hh, Bd.state]; rfl
  have N0 := Fr.nil n0
  show own_Go p e below s (Q4 Z a1 h0 n0) ({ frames := 2, cells := 1, slots := 1, locals := 26 } : Room).cells ({ frames := 2, cells := 1, slots := 1, locals := 26 } : Room).slots _
  refine own_st (B := s₁.setTop (mkF m 0 #[.val (.ref a1)] [])) (fun t k => castTop (ef_4 m (a1)) k) ?_
  refine own_st (B := s₁.setTop (mkF m 1 #[.val (.ref a1)] [(.ref a1)])) (fun t k => XS.aloadN X0.here hx rfl (hb hby d4_0) rfl rfl k) ?_
  obtain ⟨T1, X1, e1, st1⟩ := initO X0 hx hZ hown (w_23 hw) (w_15 hw) (w_16 hw) e0 (g := (mkF m 1 #[.val (.ref a1)] [(.ref a1)])) rfl (by rw [hml]; rfl) rfl (hb hby d4_1) (by decide) (W := 0) (by show 2 * 0 + _ ≤ _; exact Nat.le_of_eq rfl) (by decide)
  refine own_st (B := T1.setTop (mkF m 4 #[.val (.ref a1)] [])) (fun t k => st1 t k) ?_
  refine own_st (B := T1.setTop (mkF m 5 #[.val (.ref a1)] [(.ref a1)])) (fun t k => XS.aloadN X1.here hx rfl (hb hby d4_4) rfl rfl k) ?_
  refine own_st (B := T1.setTop (mkF m 6 #[.val (.ref a1)] [(.int (0 : Int32)), (.ref a1)])) (fun t k => XS.iconst X1.here hx rfl (hb hby d4_5) k) ?_
  obtain ⟨T2, h2, X2, e2, W2, st2⟩ := putF X1 hx hZ hown (host := "") (Or.inl (w_24 hw)) Via.refl e1 F1 F0 (Or.inl (w_25 hw)) (w_18 hw) (ty := .int) (by decide) rfl rfl (g := (mkF m 6 #[.val (.ref a1)] [(.int (0 : Int32)), (.ref a1)])) rfl rfl (hb hby d4_6)
  have f2_ : Fld Z h2 a1 "java/util/BitSet" "wordsInUse" "I" (.int (0 : Int32)) := F1.same W2
  have z3 : n0 ≤ h2.size := Nat.le_trans Z0 (Keep.of_wr W2).1
  have kp3 : Keep h0 h2 [a1] := (Keep.refl h0 [a1]).wr W2 (Or.inl (List.mem_of_getElem? (i := 0) rfl))
  have n4 := Fr.snoc X2 N0 ga
  refine own_st (B := T2.setTop (mkF m 9 #[.val (.ref a1)] [])) (fun t k => st2 t k) ?_
  refine own_st (B := T2.setTop (mkF m 10 #[.val (.ref a1)] [(.ref a1)])) (fun t k => XS.aloadN X2.here hx rfl (hb hby d4_9) rfl rfl k) ?_
  refine own_st (B := T2.setTop (mkF m 11 #[.val (.ref a1)] [(.int (0 : Int32)), (.ref a1)])) (fun t k => XS.iconst X2.here hx rfl (hb hby d4_10) k) ?_
  have f5 : Exa Z h2 a1 "java/util/BitSet" := (F0.wr W2)
  have f6 : Fld Z h2 a1 "java/util/BitSet" "sizeIsSticky" "Z" (.int (0 : Int32)) := (F2.other W2 (Or.inr (slot_ne (Or.inl (w_27 hw)) (Or.inl (w_25 hw)) (by decide) (t := .boolean) (t' := .int) (by decide) (by decide))))
  obtain ⟨T7, h7, X7, e7, W7, st7⟩ := putFN X2 hx hZ hown (w_26 hw) Via.refl e2 f6 f5 (Or.inl (w_27 hw)) (w_18 hw) (ty := .boolean) (v' := .int (nar .boolean (0 : Int32))) (by decide) rfl (fits_nar_bool _) (g := (mkF m 11 #[.val (.ref a1)] [(.int (0 : Int32)), (.ref a1)])) rfl rfl (hb hby d4_11)
  have f7_ : Fld Z h7 a1 "java/util/BitSet" "sizeIsSticky" "Z" (.int (nar .boolean (0 : Int32))) := f6.same W7
  have z8 : n0 ≤ h7.size := Nat.le_trans z3 (Keep.of_wr W7).1
  have kp8 : Keep h0 h7 [a1] := kp3.wr W7 (Or.inl (List.mem_of_getElem? (i := 0) rfl))
  have n9 := Fr.snoc X7 n4 ga
  refine own_st (B := T7.setTop (mkF m 14 #[.val (.ref a1)] [])) (fun t k => st7 t k) ?_
  refine own_st (B := T7.setTop (mkF m 15 #[.val (.ref a1)] [(.ref a1)])) (fun t k => XS.aloadN X7.here hx rfl (hb hby d4_14) rfl rfl k) ?_
  refine own_st (B := T7.setTop (mkF m 17 #[.val (.ref a1)] [(.int (64 : Int32)), (.ref a1)])) (fun t k => XS.bipush X7.here hx rfl (hb hby d4_15) k) ?_
  have f10 : Exa Z h7 a1 "java/util/BitSet" := (f5.wr W7)
  have f11 : Fld Z h7 a1 "java/util/BitSet" "words" "[J" .null := ((F3.other W2 (Or.inr (slot_ne (Or.inl (w_38 hw)) (Or.inl (w_25 hw)) (by decide) (t := (.array .long)) (t' := .int) (by decide) (by decide)))).other W7 (Or.inr (slot_ne (Or.inl (w_38 hw)) (Or.inl (w_27 hw)) (by decide) (t := (.array .long)) (t' := .boolean) (by decide) (by decide))))
  obtain ⟨cq12, q12a, q12b⟩ := f10.cell
  obtain ⟨_, _, ⟨T12, L12, k12, j12⟩, -, X12, ⟨Lc12, hQ12, l12, y12_, z12_⟩, st12⟩ := X7.privateBack hx (y := (⟨"java/util/BitSet", "initWords", "(I)V"⟩ : MethodName)) hown (mvT hZ (w_28 hw)) (mvT hZ (w_29 hw)) (mvT hZ (w_31 hw)) (Cond.privateMethod_at (mvP hZ (w_30 hw) (args := #[]))) (mvT hZ (w_32 hw)) (by decide) (backOf (W := 0) (rm5 l Z a0 hw [] a1 (.int (nar .boolean (0 : Int32))) h7 n0 z8 f10 f11 f7_ ga) hZ (w_32 hw) (w_19 hw) (by decide) (by decide)) (g := (mkF m 17 #[.val (.ref a1)] [(.int (64 : Int32)), (.ref a1)])) rfl (by rw [hml]; rfl) (Steps.refl _) (a := a1) (by rw [e7]; exact q12a) q12b (argsL := [(.int (64 : Int32))]) (rest := []) (lenOf own_pd3 rfl) rfl (by show 2 * 0 + _ ≤ _; exact Nat.le_of_eq rfl) (hb hby d4_17) (fun _ _ => ⟨rfl, e7, (by decide : 0 + 1 ≤ _), (by decide : 0 + 1 ≤ _)⟩)
  dsimp only [Pt.U, Pt.locs, Pt.cells, Pt.slots] at X12 l12 y12_ z12_ st12 hQ12
  subst l12 y12_ z12_
  obtain ⟨rfl, N12q, K12, p12_0, p12_1⟩ := hQ12
  have N12 := Fr.app n9 N12q
  have z13 : n0 ≤ T12.heap.size := Nat.le_trans z8 K12.1
  have kp13 : Keep h0 T12.heap [a1] := kp8.trans K12 (allS (Or.inl (List.mem_of_getElem? (i := 0) rfl)) all0)
  refine own_ss (B := T12.setTop (mkF m 20 #[.val (.ref a1)] [])) st12 ?_
  refine own_st (B := T12.setTop (mkF m 21 #[.val (.ref a1)] [(.ref a1)])) (fun t k => XS.aloadN X12.here hx rfl (hb hby d4_20) rfl rfl k) ?_
  refine own_st (B := T12.setTop (mkF m 22 #[.val (.ref a1)] [(.int (0 : Int32)), (.ref a1)])) (fun t k => XS.iconst X12.here hx rfl (hb hby d4_21) k) ?_
  obtain ⟨T14, h14, X14, e14, W14, st14⟩ := putFN X12 hx hZ hown (w_26 hw) Via.refl rfl p12_1 p12_0 (Or.inl (w_27 hw)) (w_18 hw) (ty := .boolean) (v' := .int (nar .boolean (0 : Int32))) (by decide) rfl (fits_nar_bool _) (g := (mkF m 22 #[.val (.ref a1)] [(.int (0 : Int32)), (.ref a1)])) rfl rfl (hb hby d4_22)
  have f14_ : Fld Z h14 a1 "java/util/BitSet" "sizeIsSticky" "Z" (.int (nar .boolean (0 : Int32))) := p12_1.same W14
  have z15 : n0 ≤ h14.size := Nat.le_trans z13 (Keep.of_wr W14).1
  have kp15 : Keep h0 h14 [a1] := kp13.wr W14 (Or.inl (List.mem_of_getElem? (i := 0) rfl))
  have n16 := Fr.snoc X14 N12 ga
  refine own_st (B := T14.setTop (mkF m 25 #[.val (.ref a1)] [])) (fun t k => st14 t k) ?_
  refine own_retV X14 hx hlk Bd.returns (hb hby d4_25) (by decide) (by decide) ?_
  show Q4 Z a1 h0 n0 _ T14.heap _
  rw [e14]
  have f17 : Exa Z h14 a1 "java/util/BitSet" := (p12_0.wr W14)
  exact ⟨rfl, n16, kp15, f17⟩
theorem own_pd4 : parseMethodDescriptor "()V" = some ⟨[], none⟩ := by decide +kernel
theorem own_pn3 : plainName "com/example/goodput/goodput/PublisherTally" = true := by first | (simp [plainName, overriddenIn]; done) | decide +kernel
theorem d2_0 : decode prog_28_method_1_code 0 = .ok (.aload_n 0, 1) := by decide +kernel
theorem d2_1 : decode prog_28_method_1_code 1 = .ok (.invokespecial 1, 3) := by decide +kernel
theorem d2_4 : decode prog_28_method_1_code 4 = .ok (.aload_n 0, 1) := by decide +kernel
theorem d2_5 : decode prog_28_method_1_code 5 = .ok (.new 7, 3) := by decide +kernel
theorem d2_8 : decode prog_28_method_1_code 8 = .ok (.dup, 1) := by decide +kernel
theorem d2_9 : decode prog_28_method_1_code 9 = .ok (.invokespecial 9, 3) := by decide +kernel
theorem d2_12 : decode prog_28_method_1_code 12 = .ok (.putfield 10, 3) := by decide +kernel
theorem d2_15 : decode prog_28_method_1_code 15 = .ok (.aload_n 0, 1) := by decide +kernel
theorem d2_16 : decode prog_28_method_1_code 16 = .ok (.lload_n 1, 1) := by decide +kernel
theorem d2_17 : decode prog_28_method_1_code 17 = .ok (.putfield 16, 3) := by decide +kernel
theorem d2_20 : decode prog_28_method_1_code 20 = .ok (.aload_n 0, 1) := by decide +kernel
theorem d2_21 : decode prog_28_method_1_code 21 = .ok (.iload_n 3, 1) := by decide +kernel
theorem d2_22 : decode prog_28_method_1_code 22 = .ok (.newarray .long, 2) := by decide +kernel
theorem d2_24 : decode prog_28_method_1_code 24 = .ok (.putfield 20, 3) := by decide +kernel
theorem d2_27 : decode prog_28_method_1_code 27 = .ok (.return_, 1) := by decide +kernel
theorem ef_2 (m : MethodId) (x0 : Addr) (x1 : Int64) (x2 : Int32) : entryFrame m #[(.ref x0), (.long x1), (.int x2)] 4 = mkF m 0 #[.val (.ref x0), .val (.long x1), .second, .val (.int x2)] [] := by first | (simp [entryFrame, mkF, argsToLocals, Value.category]; done) | rfl
def Q2 (Z : State) (a1 : Addr) (q1 : Int64) (p1 : Int32) (kk : Nat) (h0 : Heap) (n0 : Nat) (v : Option Value) (h : Heap) (L : List Loc) : Prop := ∃ (b : Addr), v = none ∧ Fr n0 L ∧ Keep h0 h [a1] ∧ n0 ≤ b ∧ h0.size ≤ b ∧ Exa Z h a1 "com/example/goodput/goodput/PublisherTally" ∧ Fld Z h a1 "com/example/goodput/goodput/PublisherTally" "windowStart" "J" (.long q1) ∧ Fld Z h a1 "com/example/goodput/goodput/PublisherTally" "sentPerSecond" "[J" (.ref b) ∧ Fld Z h a1 "com/example/goodput/goodput/PublisherTally" "sent" "J" (.long (0 : Int64)) ∧ Fld Z h a1 "com/example/goodput/goodput/PublisherTally" "publishDelayMax" "J" (.long (0 : Int64)) ∧ own_A Z h b .long ((List.replicate kk (0 : Int64)).map Value.long) ∧ Exa Z h b "[J"
set_option maxHeartbeats 40000000 in
theorem rm2 (l : Launch) (Z : State) (a0 : Array Value) (hw : ∀ d ∈ tables_1, d.before a0 Z = true) (ws : List Jvm.Cond) (a1 : Addr) (q1 : Int64) (p1 : Int32) (kk : Nat) (h0 : Heap) (n0 : Nat) (Z0 : n0 ≤ h0.size) (F0 : Exa Z h0 a1 "com/example/goodput/goodput/PublisherTally") (F1 : Fld Z h0 a1 "com/example/goodput/goodput/PublisherTally" "confirmed" "Ljava/util/BitSet;" .null) (F2 : Fld Z h0 a1 "com/example/goodput/goodput/PublisherTally" "windowStart" "J" (.long (0 : Int64))) (F3 : Fld Z h0 a1 "com/example/goodput/goodput/PublisherTally" "sentPerSecond" "[J" .null) (F4 : Fld Z h0 a1 "com/example/goodput/goodput/PublisherTally" "sent" "J" (.long (0 : Int64))) (F5 : Fld Z h0 a1 "com/example/goodput/goodput/PublisherTally" "publishDelayMax" "J" (.long (0 : Int64))) (ga : n0 ≤ a1) (hk : p1.toInt = (kk : Int)) (hcap : kk ≤ 4) :
    MetFree l (⟨"com/example/goodput/goodput/PublisherTally", "<init>", "(JI)V"⟩ : MethodName) (head1 (Jvm.Cond.code (⟨"com/example/goodput/goodput/PublisherTally", "<init>", "(JI)V"⟩ : MethodName) prog_28_method_1_code 4 none :: ws) ({ frames := 3, cells := 3, slots := 8, locals := 40 } : Room)) (fun a U => a = #[(.ref a1), (.long q1), (.int p1)] ∧ Z.Warmed39 U.vm ∧ U.heap = h0) (fun _ _ _ _ _ => True) (fun _ U o U' => ∃ v L, o = .returned v ∧ Q2 Z a1 q1 p1 kk h0 n0 v U'.heap L ∧ FrameEnd U o U' L ({ frames := 3, cells := 3, slots := 8, locals := 40 } : Room).cells ({ frames := 3, cells := 3, slots := 8, locals := 40 } : Room).slots) := by
  refine MetFree.of_bodySF (plainFor_of_name own_pn3) hisR ?_
  intro p e s m args below meth c s₁ Bd hml0 hP hK
  obtain ⟨rfl, hZ, hh⟩ := hP
  have hx := Bd.exec
  have hby := Bd.bytes
  have hml : c.maxLocals = 4 := hml0
  have hlk : meth.locks = false := BodyLoose.notSynchronized Bd
  have hown : s.vm.findClass "com/example/goodput/goodput/PublisherTally" = some m.cls := findClass_of_methodNamed Bd.named
  have hnm := (name_of_methodNamed Bd.named Bd.method).1
  have X0 : Stand p l e ({ frames := 3, cells := 3, slots := 8, locals := 40 } : Room) s m #[(.ref a1), (.long q1), (.int p1)] below meth c s₁ [] 0 0 := Stand.of_body Bd
  have e0 : s₁.heap = h0 := by rw [← hh, Bd.state]; rfl
  have N0 := Fr.nil n0
  show own_Go p e below s (Q2 Z a1 q1 p1 kk h0 n0) ({ frames := 3, cells := 3, slots := 8, locals := 40 } : Room).cells ({ frames := 3, cells := 3, slots := 8, locals := 40 } : Room).slots _
  refine own_st (B := s₁.setTop (mkF m 0 #[.val (.ref a1), .val (.long q1), .second, .val (.int p1)] [])) (fun t k => castTop (ef_2 m (a1) (q1) (p1)) k) ?_
  refine own_st (B := s₁.setTop (mkF m 1 #[.val (.ref a1), .val (.long q1), .second, .val (.int p1)] [(.ref a1)])) (fun t k => XS.aloadN X0.here hx rfl (hb hby d2_0) rfl rfl k) ?_
  obtain ⟨T1, X1, e1, st1⟩ := initO X0 hx hZ hown (w_14 hw) (w_15 hw) (w_16 hw) e0 (g := (mkF m 1 #[.val (.ref a1), .val (.long q1), .second, .val (.int p1)] [(.ref a1)])) rfl (by rw [hml]; rfl) rfl (hb hby d2_1) (by decide) (W := 0) (by show 2 * 0 + _ ≤ _; exact Nat.le_of_eq rfl) (by decide)
  refine own_st (B := T1.setTop (mkF m 4 #[.val (.ref a1), .val (.long q1), .second, .val (.int p1)] [])) (fun t k => st1 t k) ?_
  refine own_st (B := T1.setTop (mkF m 5 #[.val (.ref a1), .val (.long q1), .second, .val (.int p1)] [(.ref a1)])) (fun t k => XS.aloadN X1.here hx rfl (hb hby d2_4) rfl rfl k) ?_
  obtain ⟨T2, h2, X2, e2, E2, A2, D2, -, st2⟩ := newO X1 hx hZ hown (w_17 hw) (w_18 hw) (w_19 hw) e1 (g := (mkF m 5 #[.val (.ref a1), .val (.long q1), .second, .val (.int p1)] [(.ref a1)])) rfl (hb hby d2_5) (by decide) (by decide)
  obtain ⟨b2, g2⟩ : ∃ z, z = h0.size := ⟨_, rfl⟩
  rw [← g2] at A2 D2 st2
  have q2_a1 : a1 ≠ b2 := Nat.ne_of_lt (Nat.lt_of_lt_of_le F0.lt (Nat.le_of_eq g2.symm))
  have u2 : n0 ≤ b2 := Nat.le_trans Z0 (Nat.le_of_eq g2.symm)
  have y2 : h0.size ≤ b2 := Nat.le_trans (Keep.refl h0 [a1]).1 (Nat.le_of_eq g2.symm)
  have z3 : n0 ≤ h2.size := Nat.le_trans Z0 E2.1
  have kp3 : Keep h0 h2 [a1] := (Keep.refl h0 [a1]).ext E2
  have f4 : Fld Z h2 b2 "java/util/BitSet" "wordsInUse" "I" (.int (0 : Int32)) := D2 (Or.inl (w_25 hw)) (ty := .int) (by decide)
  have f5 : Fld Z h2 b2 "java/util/BitSet" "sizeIsSticky" "Z" (.int (0 : Int32)) := D2 (Or.inl (w_27 hw)) (ty := .boolean) (by decide)
  have f6 : Fld Z h2 b2 "java/util/BitSet" "words" "[J" .null := D2 (Or.inl (w_38 hw)) (ty := (.array .long)) (by decide)
  refine own_st (B := T2.setTop (mkF m 8 #[.val (.ref a1), .val (.long q1), .second, .val (.int p1)] [(.ref b2), (.ref a1)])) (fun t k => st2 t k) ?_
  refine own_st (B := T2.setTop (mkF m 9 #[.val (.ref a1), .val (.long q1), .second, .val (.int p1)] [(.ref b2), (.ref b2), (.ref a1)])) (fun t k => XS.dup X2.here hx rfl (hb hby d2_8) rfl rfl k) ?_
  obtain ⟨_, _, ⟨T7, L7, k7, j7⟩, -, X7, ⟨Lc7, hQ7, l7, y7_, z7_⟩, st7⟩ := X2.specialBack hx (y := (⟨"java/util/BitSet", "<init>", "()V"⟩ : MethodName)) rfl hown (mvT hZ (w_20 hw)) (mvT hZ (w_21 hw)) (mvT hZ (w_22 hw)) (by decide) (backOf (W := 2) (rm4 l Z a0 hw [] b2 h2 n0 z3 A2 f4 f5 f6 u2) hZ (w_22 hw) (w_19 hw) (by decide) (by decide)) (g := (mkF m 9 #[.val (.ref a1), .val (.long q1), .second, .val (.int p1)] [(.ref b2), (.ref b2), (.ref a1)])) rfl (by rw [hml]; rfl) (Steps.refl _) (a := b2) (argsL := []) (rest := [(.ref b2), (.ref a1)]) (lenOf own_pd4 rfl) rfl (by show 2 * 0 + _ ≤ _; exact Nat.le_of_eq rfl) (hb hby d2_9) (fun _ _ => ⟨rfl, e2, (by decide : 1 + 1 ≤ _), (by decide : 3 + 1 ≤ _)⟩)
  dsimp only [Pt.U, Pt.locs, Pt.cells, Pt.slots] at X7 l7 y7_ z7_ st7 hQ7
  subst l7 y7_ z7_
  obtain ⟨rfl, N7q, K7, p7_0⟩ := hQ7
  have N7 := Fr.app N0 N7q
  have z8 : n0 ≤ T7.heap.size := Nat.le_trans z3 K7.1
  have kp8 : Keep h0 T7.heap [a1] := kp3.trans K7 (allS (Or.inr y2) all0)
  refine own_ss (B := T7.setTop (mkF m 12 #[.val (.ref a1), .val (.long q1), .second, .val (.int p1)] [(.ref b2), (.ref a1)])) st7 ?_
  have f9 : Exa Z T7.heap a1 "com/example/goodput/goodput/PublisherTally" := ((F0.ext E2).keep K7)
  have f10 : Fld Z T7.heap a1 "com/example/goodput/goodput/PublisherTally" "confirmed" "Ljava/util/BitSet;" .null := ((F1.ext E2).keep K7 (ninS q2_a1 nin0))
  obtain ⟨T11, h11, X11, e11, W11, st11⟩ := putF X7 hx hZ hown (host := "") (Or.inl (w_39 hw)) Via.refl rfl f10 f9 (Or.inl (w_40 hw)) (w_9 hw) (ty := (.object "java/util/BitSet")) (by decide) rfl rfl (g := (mkF m 12 #[.val (.ref a1), .val (.long q1), .second, .val (.int p1)] [(.ref b2), (.ref a1)])) rfl rfl (hb hby d2_12)
  have f11_ : Fld Z h11 a1 "com/example/goodput/goodput/PublisherTally" "confirmed" "Ljava/util/BitSet;" (.ref b2) := f10.same W11
  have z12 : n0 ≤ h11.size := Nat.le_trans z8 (Keep.of_wr W11).1
  have kp12 : Keep h0 h11 [a1] := kp8.wr W11 (Or.inl (List.mem_of_getElem? (i := 0) rfl))
  have n13 := Fr.snoc X11 N7 ga
  refine own_st (B := T11.setTop (mkF m 15 #[.val (.ref a1), .val (.long q1), .second, .val (.int p1)] [])) (fun t k => st11 t k) ?_
  refine own_st (B := T11.setTop (mkF m 16 #[.val (.ref a1), .val (.long q1), .second, .val (.int p1)] [(.ref a1)])) (fun t k => XS.aloadN X11.here hx rfl (hb hby d2_15) rfl rfl k) ?_
  refine own_st (B := T11.setTop (mkF m 17 #[.val (.ref a1), .val (.long q1), .second, .val (.int p1)] [(.long q1), (.ref a1)])) (fun t k => XS.lloadN X11.here hx rfl (hb hby d2_16) rfl k) ?_
  have f14 : Exa Z h11 a1 "com/example/goodput/goodput/PublisherTally" := (f9.wr W11)
  have f15 : Fld Z h11 a1 "com/example/goodput/goodput/PublisherTally" "windowStart" "J" (.long (0 : Int64)) := (((F2.ext E2).keep K7 (ninS q2_a1 nin0)).other W11 (Or.inr (slot_ne (Or.inr (w_42 hw)) (Or.inl (w_40 hw)) (by decide) (t := .long) (t' := (.object "java/util/BitSet")) (by decide) (by decide))))
  obtain ⟨T16, h16, X16, e16, W16, st16⟩ := putF X11 hx hZ hown (host := "") (Or.inl (w_41 hw)) Via.refl e11 f15 f14 (Or.inr ⟨(w_42 hw), rfl, hnm⟩) (w_9 hw) (ty := .long) (by decide) rfl rfl (g := (mkF m 17 #[.val (.ref a1), .val (.long q1), .second, .val (.int p1)] [(.long q1), (.ref a1)])) rfl rfl (hb hby d2_17)
  have f16_ : Fld Z h16 a1 "com/example/goodput/goodput/PublisherTally" "windowStart" "J" (.long q1) := f15.same W16
  have z17 : n0 ≤ h16.size := Nat.le_trans z12 (Keep.of_wr W16).1
  have kp17 : Keep h0 h16 [a1] := kp12.wr W16 (Or.inl (List.mem_of_getElem? (i := 0) rfl))
  have n18 := Fr.snoc X16 n13 ga
  refine own_st (B := T16.setTop (mkF m 20 #[.val (.ref a1), .val (.long q1), .second, .val (.int p1)] [])) (fun t k => st16 t k) ?_
  refine own_st (B := T16.setTop (mkF m 21 #[.val (.ref a1), .val (.long q1), .second, .val (.int p1)] [(.ref a1)])) (fun t k => XS.aloadN X16.here hx rfl (hb hby d2_20) rfl rfl k) ?_
  refine own_st (B := T16.setTop (mkF m 22 #[.val (.ref a1), .val (.long q1), .second, .val (.int p1)] [(.int p1), (.ref a1)])) (fun t k => XS.iloadN X16.here hx rfl (hb hby d2_21) rfl k) ?_
  obtain ⟨T19, h19, X19, e19, E19, A19, x19, st19⟩ := own_newP X16 hx hZ (aty := .long) (w_36 hw) e16 (g := (mkF m 22 #[.val (.ref a1), .val (.long q1), .second, .val (.int p1)] [(.int p1), (.ref a1)])) rfl (hb hby d2_22) (n := p1) (rest := [(.ref a1)]) rfl (k := kk) (cap := 4) hk hcap (by decide) (by decide) (by decide) (ad := "[J") rfl
  obtain ⟨b19, g19⟩ : ∃ z, z = h16.size := ⟨_, rfl⟩
  rw [← g19] at A19 x19 st19
  have f20 : Exa Z h16 a1 "com/example/goodput/goodput/PublisherTally" := (f14.wr W16)
  have q19_a1 : a1 ≠ b19 := Nat.ne_of_lt (Nat.lt_of_lt_of_le f20.lt (Nat.le_of_eq g19.symm))
  have f21 : Exa Z h16 b2 "java/util/BitSet" := ((p7_0.wr W11).wr W16)
  have q19_b2 : b2 ≠ b19 := Nat.ne_of_lt (Nat.lt_of_lt_of_le f21.lt (Nat.le_of_eq g19.symm))
  have u19 : n0 ≤ b19 := Nat.le_trans z17 (Nat.le_of_eq g19.symm)
  have y19 : h0.size ≤ b19 := Nat.le_trans kp17.1 (Nat.le_of_eq g19.symm)
  have z22 : n0 ≤ h19.size := Nat.le_trans z17 E19.1
  have kp22 : Keep h0 h19 [a1] := kp17.ext E19
  have f19_ : own_A Z h19 b19 .long (List.replicate kk (Value.long (0 : Int64))) := A19
  refine own_st (B := T19.setTop (mkF m 24 #[.val (.ref a1), .val (.long q1), .second, .val (.int p1)] [(.ref b19), (.ref a1)])) (fun t k => st19 t k) ?_
  have f23 : Exa Z h19 a1 "com/example/goodput/goodput/PublisherTally" := (f20.ext E19)
  have f24 : Fld Z h19 a1 "com/example/goodput/goodput/PublisherTally" "sentPerSecond" "[J" .null := (((((F3.ext E2).keep K7 (ninS q2_a1 nin0)).other W11 (Or.inr (slot_ne (Or.inr (w_44 hw)) (Or.inl (w_40 hw)) (by decide) (t := (.array .long)) (t' := (.object "java/util/BitSet")) (by decide) (by decide)))).other W16 (Or.inr (slot_ne (Or.inr (w_44 hw)) (Or.inr (w_42 hw)) (by decide) (t := (.array .long)) (t' := .long) (by decide) (by decide)))).ext E19)
  obtain ⟨T25, h25, X25, e25, W25, st25⟩ := putF X19 hx hZ hown (host := "") (Or.inl (w_43 hw)) Via.refl e19 f24 f23 (Or.inr ⟨(w_44 hw), rfl, hnm⟩) (w_9 hw) (ty := (.array .long)) (by decide) rfl rfl (g := (mkF m 24 #[.val (.ref a1), .val (.long q1), .second, .val (.int p1)] [(.ref b19), (.ref a1)])) rfl rfl (hb hby d2_24)
  have f25_ : Fld Z h25 a1 "com/example/goodput/goodput/PublisherTally" "sentPerSecond" "[J" (.ref b19) := f24.same W25
  have z26 : n0 ≤ h25.size := Nat.le_trans z22 (Keep.of_wr W25).1
  have kp26 : Keep h0 h25 [a1] := kp22.wr W25 (Or.inl (List.mem_of_getElem? (i := 0) rfl))
  have n27 := Fr.snoc X25 n18 ga
  refine own_st (B := T25.setTop (mkF m 27 #[.val (.ref a1), .val (.long q1), .second, .val (.int p1)] [])) (fun t k => st25 t k) ?_
  refine own_retV X25 hx hlk Bd.returns (hb hby d2_27) (by decide) (by decide) ?_
  show Q2 Z a1 q1 p1 kk h0 n0 _ T25.heap _
  rw [e25]
  have f28 : Exa Z h25 a1 "com/example/goodput/goodput/PublisherTally" := (f23.wr W25)
  have f29 : Fld Z h25 a1 "com/example/goodput/goodput/PublisherTally" "windowStart" "J" (.long q1) := ((f16_.ext E19).other W25 (Or.inr (slot_ne (Or.inr (w_42 hw)) (Or.inr (w_44 hw)) (by decide) (t := .long) (t' := (.array .long)) (by decide) (by decide))))
  have f30 : Fld Z h25 a1 "com/example/goodput/goodput/PublisherTally" "sent" "J" (.long (0 : Int64)) := ((((((F4.ext E2).keep K7 (ninS q2_a1 nin0)).other W11 (Or.inr (slot_ne (Or.inl (w_51 hw)) (Or.inl (w_40 hw)) (by decide) (t := .long) (t' := (.object "java/util/BitSet")) (by decide) (by decide)))).other W16 (Or.inr (slot_ne (Or.inl (w_51 hw)) (Or.inr (w_42 hw)) (by decide) (t := .long) (t' := .long) (by decide) (by decide)))).ext E19).other W25 (Or.inr (slot_ne (Or.inl (w_51 hw)) (Or.inr (w_44 hw)) (by decide) (t := .long) (t' := (.array .long)) (by decide) (by decide))))
  have f31 : Fld Z h25 a1 "com/example/goodput/goodput/PublisherTally" "publishDelayMax" "J" (.long (0 : Int64)) := ((((((F5.ext E2).keep K7 (ninS q2_a1 nin0)).other W11 (Or.inr (slot_ne (Or.inl (w_53 hw)) (Or.inl (w_40 hw)) (by decide) (t := .long) (t' := (.object "java/util/BitSet")) (by decide) (by decide)))).other W16 (Or.inr (slot_ne (Or.inl (w_53 hw)) (Or.inr (w_42 hw)) (by decide) (t := .long) (t' := .long) (by decide) (by decide)))).ext E19).other W25 (Or.inr (slot_ne (Or.inl (w_53 hw)) (Or.inr (w_44 hw)) (by decide) (t := .long) (t' := (.array .long)) (by decide) (by decide))))
  have f32 : own_A Z h25 b19 .long (List.replicate kk (Value.long (0 : Int64))) := (f19_.other W25 (Ne.symm q19_a1))
  have f33 : Exa Z h25 b19 "[J" := (x19.wr W25)
  exact ⟨b19, rfl, n27, kp26, u19, y19, f28, f29, f25_, f30, f31, (by rw [List.map_replicate]; exact f32), f33⟩
theorem d8_0 : decode jdk_29_method_66_code 0 = .ok (.lload_n 0, 1) := by decide +kernel
theorem d8_1 : decode jdk_29_method_66_code 1 = .ok (.lload_n 2, 1) := by decide +kernel
theorem d8_2 : decode jdk_29_method_66_code 2 = .ok (.lcmp, 1) := by decide +kernel
theorem d8_3 : decode jdk_29_method_66_code 3 = .ok (.ifCond .lt 7, 3) := by decide +kernel
theorem d8_6 : decode jdk_29_method_66_code 6 = .ok (.lload_n 0, 1) := by decide +kernel
theorem d8_7 : decode jdk_29_method_66_code 7 = .ok (.goto 4, 3) := by decide +kernel
theorem d8_10 : decode jdk_29_method_66_code 10 = .ok (.lload_n 2, 1) := by decide +kernel
theorem d8_11 : decode jdk_29_method_66_code 11 = .ok (.lreturn, 1) := by decide +kernel
theorem ef_8 (m : MethodId) (x0 : Int64) (x1 : Int64) : entryFrame m #[(.long x0), (.long x1)] 4 = mkF m 0 #[.val (.long x0), .second, .val (.long x1), .second] [] := by first | (simp [entryFrame, mkF, argsToLocals, Value.category]; done) | rfl
def own_max (q1 : Int64) (q2 : Int64) : Int64 := (if q1 < q2 then q2 else q1)
def Q8 (Z : State) (q1 : Int64) (q2 : Int64) (h0 : Heap) (n0 : Nat) (v : Option Value) (h : Heap) (L : List Loc) : Prop := v = some (.long (own_max q1 q2)) ∧ Fr n0 L ∧ h = h0
set_option maxHeartbeats 40000000 in
theorem rm8 (l : Launch) (Z : State) (a0 : Array Value) (hw : ∀ d ∈ tables_1, d.before a0 Z = true) (ws : List Jvm.Cond) (q1 : Int64) (q2 : Int64) (h0 : Heap) (n0 : Nat) (Z0 : n0 ≤ h0.size) :
    MetFree l (⟨"java/lang/Math", "max", "(JJ)J"⟩ : MethodName) (head1 (Jvm.Cond.code (⟨"java/lang/Math", "max", "(JJ)J"⟩ : MethodName) jdk_29_method_66_code 4 (some .long) :: ws) ({ frames := 0, cells := 0, slots := 0, locals := 0 } : Room)) (fun a U => a = #[(.long q1), (.long q2)] ∧ Z.Warmed39 U.vm ∧ U.heap = h0) (fun _ _ _ _ _ => True) (fun _ U o U' => ∃ v L, o = .returned v ∧ Q8 Z q1 q2 h0 n0 v U'.heap L ∧ FrameEnd U o U' L ({ frames := 0, cells := 0, slots := 0, locals := 0 } : Room).cells ({ frames := 0, cells := 0, slots := 0, locals := 0 } : Room).slots) := by
  refine MetFree.of_bodySF (Jvm.Free.JP.mathPlain rfl (by decide +kernel)) hisR ?_
  intro p e s m args below meth c s₁ Bd hml0 hP hK
  obtain ⟨rfl, hZ, hh⟩ := hP
  have hx := Bd.exec
  have hby := Bd.bytes
  have hml : c.maxLocals = 4 := hml0
  have hlk : meth.locks = false := BodyLoose.notSynchronized Bd
  have hown : s.vm.findClass "java/lang/Math" = some m.cls := findClass_of_methodNamed Bd.named
  have hnm := (name_of_methodNamed Bd.named Bd.method).1
  have X0 : Stand p l e ({ frames := 0, cells := 0, slots := 0, locals := 0 } : Room) s m #[(.long q1), (.long q2)] below meth c s₁ [] 0 0 := Stand.of_body Bd
  have e0 : s₁.heap = h0 := by rw [← hh, Bd.state]; rfl
  have N0 := Fr.nil n0
  show own_Go p e below s (Q8 Z q1 q2 h0 n0) ({ frames := 0, cells := 0, slots := 0, locals := 0 } : Room).cells ({ frames := 0, cells := 0, slots := 0, locals := 0 } : Room).slots _
  refine own_st (B := s₁.setTop (mkF m 0 #[.val (.long q1), .second, .val (.long q2), .second] [])) (fun t k => castTop (ef_8 m (q1) (q2)) k) ?_
  refine own_st (B := s₁.setTop (mkF m 1 #[.val (.long q1), .second, .val (.long q2), .second] [(.long q1)])) (fun t k => XS.lloadN X0.here hx rfl (hb hby d8_0) rfl k) ?_
  refine own_st (B := s₁.setTop (mkF m 2 #[.val (.long q1), .second, .val (.long q2), .second] [(.long q2), (.long q1)])) (fun t k => XS.lloadN X0.here hx rfl (hb hby d8_1) rfl k) ?_
  refine own_st (B := s₁.setTop (mkF m 3 #[.val (.long q1), .second, .val (.long q2), .second] [(.int (XT.cmpL q1 q2))])) (fun t k => XS.lcmp X0.here hx rfl (hb hby d8_2) rfl k) ?_
  by_cases hc1 : q1 < q2
  · refine own_st (B := s₁.setTop (mkF m 10 #[.val (.long q1), .second, .val (.long q2), .second] [])) (fun t k => XS.ifYes X0.here hx rfl (pc0 := 3) (pc' := 10) rfl (hb hby d8_3) rfl (XT.ll_lt_t hc1) (by decide) (by decide) k) ?_
    refine own_st (B := s₁.setTop (mkF m 11 #[.val (.long q1), .second, .val (.long q2), .second] [(.long q2)])) (fun t k => XS.lloadN X0.here hx rfl (hb hby d8_10) rfl k) ?_
    refine own_retJ X0 hx hlk Bd.returns (hb hby d8_11) (by decide) (by decide) ?_
    show Q8 Z q1 q2 h0 n0 _ s₁.heap _
    rw [e0]
    exact ⟨(by unfold own_max; rw [if_pos hc1]), N0, rfl⟩
  · refine own_st (B := s₁.setTop (mkF m 6 #[.val (.long q1), .second, .val (.long q2), .second] [])) (fun t k => XS.ifNo X0.here hx rfl (hb hby d8_3) rfl (XT.ll_lt_f hc1) k) ?_
    refine own_st (B := s₁.setTop (mkF m 7 #[.val (.long q1), .second, .val (.long q2), .second] [(.long q1)])) (fun t k => XS.lloadN X0.here hx rfl (hb hby d8_6) rfl k) ?_
    refine own_st (B := s₁.setTop (mkF m 11 #[.val (.long q1), .second, .val (.long q2), .second] [(.long q1)])) (fun t k => XS.goto X0.here hx rfl (pc0 := 7) (pc' := 11) rfl (hb hby d8_7) (by decide) (by decide) k) ?_
    refine own_retJ X0 hx hlk Bd.returns (hb hby d8_11) (by decide) (by decide) ?_
    show Q8 Z q1 q2 h0 n0 _ s₁.heap _
    rw [e0]
    exact ⟨(by unfold own_max; rw [if_neg hc1]), N0, rfl⟩
theorem own_v0 {q2 w0 v : Int64} (e : v = (q2 - w0) / 1000000000) (h : 0 ≤ (q2 - w0).toInt) : 0 ≤ v.toInt := by
  rw [e]; exact (own_sec h).1
theorem own_lt5 {v : Int64} {n : Nat} (h0 : 0 ≤ v.toInt) (h1 : v.toInt < (n : Int)) : v.toInt.toNat < n := by omega
theorem own_set_map (xs : List Int64) (i : Nat) (y : Int64) : (xs.map Value.long).set i (.long y) = (xs.set i y).map Value.long := by
  rw [List.map_set]
theorem own_pd6 : parseMethodDescriptor "(JJ)J" = some ⟨[.long, .long], some .long⟩ := by decide +kernel
theorem d7_0 : decode prog_28_method_2_code 0 = .ok (.aload_n 0, 1) := by decide +kernel
theorem d7_1 : decode prog_28_method_2_code 1 = .ok (.dup, 1) := by decide +kernel
theorem d7_2 : decode prog_28_method_2_code 2 = .ok (.getfield 24, 3) := by decide +kernel
theorem d7_5 : decode prog_28_method_2_code 5 = .ok (.lconst 1, 1) := by decide +kernel
theorem d7_6 : decode prog_28_method_2_code 6 = .ok (.ladd, 1) := by decide +kernel
theorem d7_7 : decode prog_28_method_2_code 7 = .ok (.putfield 24, 3) := by decide +kernel
theorem d7_10 : decode prog_28_method_2_code 10 = .ok (.aload_n 0, 1) := by decide +kernel
theorem d7_11 : decode prog_28_method_2_code 11 = .ok (.aload_n 0, 1) := by decide +kernel
theorem d7_12 : decode prog_28_method_2_code 12 = .ok (.getfield 27, 3) := by decide +kernel
theorem d7_15 : decode prog_28_method_2_code 15 = .ok (.lload_n 3, 1) := by decide +kernel
theorem d7_16 : decode prog_28_method_2_code 16 = .ok (.lload_n 1, 1) := by decide +kernel
theorem d7_17 : decode prog_28_method_2_code 17 = .ok (.lsub, 1) := by decide +kernel
theorem d7_18 : decode prog_28_method_2_code 18 = .ok (.invokestatic 30, 3) := by decide +kernel
theorem d7_21 : decode prog_28_method_2_code 21 = .ok (.putfield 27, 3) := by decide +kernel
theorem d7_24 : decode prog_28_method_2_code 24 = .ok (.lload_n 3, 1) := by decide +kernel
theorem d7_25 : decode prog_28_method_2_code 25 = .ok (.aload_n 0, 1) := by decide +kernel
theorem d7_26 : decode prog_28_method_2_code 26 = .ok (.getfield 16, 3) := by decide +kernel
theorem d7_29 : decode prog_28_method_2_code 29 = .ok (.lsub, 1) := by decide +kernel
theorem d7_30 : decode prog_28_method_2_code 30 = .ok (.ldc2_w 36, 3) := by decide +kernel
theorem d7_33 : decode prog_28_method_2_code 33 = .ok (.ldiv, 1) := by decide +kernel
theorem d7_34 : decode prog_28_method_2_code 34 = .ok (.lstore 5, 2) := by decide +kernel
theorem d7_36 : decode prog_28_method_2_code 36 = .ok (.lload 5, 2) := by decide +kernel
theorem d7_38 : decode prog_28_method_2_code 38 = .ok (.aload_n 0, 1) := by decide +kernel
theorem d7_39 : decode prog_28_method_2_code 39 = .ok (.getfield 20, 3) := by decide +kernel
theorem d7_42 : decode prog_28_method_2_code 42 = .ok (.arraylength, 1) := by decide +kernel
theorem d7_43 : decode prog_28_method_2_code 43 = .ok (.i2l, 1) := by decide +kernel
theorem d7_44 : decode prog_28_method_2_code 44 = .ok (.lcmp, 1) := by decide +kernel
theorem d7_45 : decode prog_28_method_2_code 45 = .ok (.ifCond .ge 15, 3) := by decide +kernel
theorem d7_48 : decode prog_28_method_2_code 48 = .ok (.aload_n 0, 1) := by decide +kernel
theorem d7_49 : decode prog_28_method_2_code 49 = .ok (.getfield 20, 3) := by decide +kernel
theorem d7_52 : decode prog_28_method_2_code 52 = .ok (.lload 5, 2) := by decide +kernel
theorem d7_54 : decode prog_28_method_2_code 54 = .ok (.l2i, 1) := by decide +kernel
theorem d7_55 : decode prog_28_method_2_code 55 = .ok (.dup2, 1) := by decide +kernel
theorem d7_56 : decode prog_28_method_2_code 56 = .ok (.laload, 1) := by decide +kernel
theorem d7_57 : decode prog_28_method_2_code 57 = .ok (.lconst 1, 1) := by decide +kernel
theorem d7_58 : decode prog_28_method_2_code 58 = .ok (.ladd, 1) := by decide +kernel
theorem d7_59 : decode prog_28_method_2_code 59 = .ok (.lastore, 1) := by decide +kernel
theorem d7_60 : decode prog_28_method_2_code 60 = .ok (.return_, 1) := by decide +kernel
theorem ef_7 (m : MethodId) (x0 : Addr) (x1 : Int64) (x2 : Int64) : entryFrame m #[(.ref x0), (.long x1), (.long x2)] 7 = mkF m 0 #[.val (.ref x0), .val (.long x1), .second, .val (.long x2), .second, .unset, .unset] [] := by first | (simp [entryFrame, mkF, argsToLocals, Value.category]; done) | rfl
def Q7 (Z : State) (a1 : Addr) (q1 : Int64) (q2 : Int64) (b : Addr) (w0 : Int64) (s0 : Int64) (m0 : Int64) (xs : List Int64) (h0 : Heap) (n0 : Nat) (v : Option Value) (h : Heap) (L : List Loc) : Prop := v = none ∧ Fr n0 L ∧ Keep h0 h [a1, b] ∧ Exa Z h a1 "com/example/goodput/goodput/PublisherTally" ∧ Fld Z h a1 "com/example/goodput/goodput/PublisherTally" "windowStart" "J" (.long w0) ∧ Fld Z h a1 "com/example/goodput/goodput/PublisherTally" "sentPerSecond" "[J" (.ref b) ∧ Fld Z h a1 "com/example/goodput/goodput/PublisherTally" "sent" "J" (.long (s0 + (1 : Int64))) ∧ Fld Z h a1 "com/example/goodput/goodput/PublisherTally" "publishDelayMax" "J" (.long (own_max m0 (q2 - q1))) ∧ own_A Z h b .long ((own_upd xs (((q2 - w0) / (1000000000 : Int64)).toInt.toNat)).map Value.long)
set_option maxHeartbeats 40000000 in
theorem rm7 (l : Launch) (Z : State) (a0 : Array Value) (hw : ∀ d ∈ tables_1, d.before a0 Z = true) (ws : List Jvm.Cond) (a1 : Addr) (q1 : Int64) (q2 : Int64) (b : Addr) (w0 : Int64) (s0 : Int64) (m0 : Int64) (xs : List Int64) (h0 : Heap) (n0 : Nat) (Z0 : n0 ≤ h0.size) (F0 : Exa Z h0 a1 "com/example/goodput/goodput/PublisherTally") (F1 : Fld Z h0 a1 "com/example/goodput/goodput/PublisherTally" "windowStart" "J" (.long w0)) (F2 : Fld Z h0 a1 "com/example/goodput/goodput/PublisherTally" "sentPerSecond" "[J" (.ref b)) (F3 : Fld Z h0 a1 "com/example/goodput/goodput/PublisherTally" "sent" "J" (.long s0)) (F4 : Fld Z h0 a1 "com/example/goodput/goodput/PublisherTally" "publishDelayMax" "J" (.long m0)) (F5 : own_A Z h0 b .long (xs.map Value.long)) (ga : n0 ≤ a1) (gb : n0 ≤ b) (nab : b ≠ a1) (hq : 0 ≤ (q2 - w0).toInt) (hl : xs.length < 1000) :
    MetFree l (⟨"com/example/goodput/goodput/PublisherTally", "handedOver", "(JJ)V"⟩ : MethodName) (head1 (Jvm.Cond.code (⟨"com/example/goodput/goodput/PublisherTally", "handedOver", "(JJ)V"⟩ : MethodName) prog_28_method_2_code 7 none :: ws) ({ frames := 1, cells := 0, slots := 0, locals := 16 } : Room)) (fun a U => a = #[(.ref a1), (.long q1), (.long q2)] ∧ Z.Warmed39 U.vm ∧ U.heap = h0) (fun _ _ _ _ _ => True) (fun _ U o U' => ∃ v L, o = .returned v ∧ Q7 Z a1 q1 q2 b w0 s0 m0 xs h0 n0 v U'.heap L ∧ FrameEnd U o U' L ({ frames := 1, cells := 0, slots := 0, locals := 16 } : Room).cells ({ frames := 1, cells := 0, slots := 0, locals := 16 } : Room).slots) := by
  refine MetFree.of_bodySF (plainFor_of_name own_pn3) hisR ?_
  intro p e s m args below meth c s₁ Bd hml0 hP hK
  obtain ⟨rfl, hZ, hh⟩ := hP
  have hx := Bd.exec
  have hby := Bd.bytes
  have hml : c.maxLocals = 7 := hml0
  have hlk : meth.locks = false := BodyLoose.notSynchronized Bd
  have hown : s.vm.findClass "com/example/goodput/goodput/PublisherTally" = some m.cls := findClass_of_methodNamed Bd.named
  have hnm := (name_of_methodNamed Bd.named Bd.method).1
  have X0 : Stand p l e ({ frames := 1, cells := 0, slots := 0, locals := 16 } : Room) s m #[(.ref a1), (.long q1), (.long q2)] below meth c s₁ [] 0 0 := Stand.of_body Bd
  have e0 : s₁.heap = h0 := by rw [← hh, Bd.state]; rfl
  have N0 := Fr.nil n0
  show own_Go p e below s (Q7 Z a1 q1 q2 b w0 s0 m0 xs h0 n0) ({ frames := 1, cells := 0, slots := 0, locals := 16 } : Room).cells ({ frames := 1, cells := 0, slots := 0, locals := 16 } : Room).slots _
  refine own_st (B := s₁.setTop (mkF m 0 #[.val (.ref a1), .val (.long q1), .second, .val (.long q2), .second, .unset, .unset] [])) (fun t k => castTop (ef_7 m (a1) (q1) (q2)) k) ?_
  refine own_st (B := s₁.setTop (mkF m 1 #[.val (.ref a1), .val (.long q1), .second, .val (.long q2), .second, .unset, .unset] [(.ref a1)])) (fun t k => XS.aloadN X0.here hx rfl (hb hby d7_0) rfl rfl k) ?_
  refine own_st (B := s₁.setTop (mkF m 2 #[.val (.ref a1), .val (.long q1), .second, .val (.long q2), .second, .unset, .unset] [(.ref a1), (.ref a1)])) (fun t k => XS.dup X0.here hx rfl (hb hby d7_1) rfl rfl k) ?_
  obtain ⟨T1, X1, e1, st1⟩ := getF X0 hx hZ hown (host := "") (Or.inl (w_50 hw)) Via.refl e0 F3 (g := (mkF m 2 #[.val (.ref a1), .val (.long q1), .second, .val (.long q2), .second, .unset, .unset] [(.ref a1), (.ref a1)])) rfl rfl (hb hby d7_2)
  refine own_st (B := T1.setTop (mkF m 5 #[.val (.ref a1), .val (.long q1), .second, .val (.long q2), .second, .unset, .unset] [(.long s0), (.ref a1)])) (fun t k => st1 t k) ?_
  refine own_st (B := T1.setTop (mkF m 6 #[.val (.ref a1), .val (.long q1), .second, .val (.long q2), .second, .unset, .unset] [(.long (1 : Int64)), (.long s0), (.ref a1)])) (fun t k => XS.lconst X1.here hx rfl (hb hby d7_5) k) ?_
  refine own_st (B := T1.setTop (mkF m 7 #[.val (.ref a1), .val (.long q1), .second, .val (.long q2), .second, .unset, .unset] [(.long (s0 + (1 : Int64))), (.ref a1)])) (fun t k => XS.ladd X1.here hx rfl (hb hby d7_6) rfl k) ?_
  obtain ⟨T2, h2, X2, e2, W2, st2⟩ := putF X1 hx hZ hown (host := "") (Or.inl (w_50 hw)) Via.refl e1 F3 F0 (Or.inl (w_51 hw)) (w_9 hw) (ty := .long) (by decide) rfl rfl (g := (mkF m 7 #[.val (.ref a1), .val (.long q1), .second, .val (.long q2), .second, .unset, .unset] [(.long (s0 + (1 : Int64))), (.ref a1)])) rfl rfl (hb hby d7_7)
  have f2_ : Fld Z h2 a1 "com/example/goodput/goodput/PublisherTally" "sent" "J" (.long (s0 + (1 : Int64))) := F3.same W2
  have z3 : n0 ≤ h2.size := Nat.le_trans Z0 (Keep.of_wr W2).1
  have kp3 : Keep h0 h2 [a1, b] := (Keep.refl h0 [a1, b]).wr W2 (Or.inl (List.mem_of_getElem? (i := 0) rfl))
  have n4 := Fr.snoc X2 N0 ga
  refine own_st (B := T2.setTop (mkF m 10 #[.val (.ref a1), .val (.long q1), .second, .val (.long q2), .second, .unset, .unset] [])) (fun t k => st2 t k) ?_
  refine own_st (B := T2.setTop (mkF m 11 #[.val (.ref a1), .val (.long q1), .second, .val (.long q2), .second, .unset, .unset] [(.ref a1)])) (fun t k => XS.aloadN X2.here hx rfl (hb hby d7_10) rfl rfl k) ?_
  refine own_st (B := T2.setTop (mkF m 12 #[.val (.ref a1), .val (.long q1), .second, .val (.long q2), .second, .unset, .unset] [(.ref a1), (.ref a1)])) (fun t k => XS.aloadN X2.here hx rfl (hb hby d7_11) rfl rfl k) ?_
  have f5 : Fld Z h2 a1 "com/example/goodput/goodput/PublisherTally" "publishDelayMax" "J" (.long m0) := (F4.other W2 (Or.inr (slot_ne (Or.inl (w_53 hw)) (Or.inl (w_51 hw)) (by decide) (t := .long) (t' := .long) (by decide) (by decide))))
  obtain ⟨T6, X6, e6, st6⟩ := getF X2 hx hZ hown (host := "") (Or.inl (w_52 hw)) Via.refl e2 f5 (g := (mkF m 12 #[.val (.ref a1), .val (.long q1), .second, .val (.long q2), .second, .unset, .unset] [(.ref a1), (.ref a1)])) rfl rfl (hb hby d7_12)
  refine own_st (B := T6.setTop (mkF m 15 #[.val (.ref a1), .val (.long q1), .second, .val (.long q2), .second, .unset, .unset] [(.long m0), (.ref a1)])) (fun t k => st6 t k) ?_
  refine own_st (B := T6.setTop (mkF m 16 #[.val (.ref a1), .val (.long q1), .second, .val (.long q2), .second, .unset, .unset] [(.long q2), (.long m0), (.ref a1)])) (fun t k => XS.lloadN X6.here hx rfl (hb hby d7_15) rfl k) ?_
  refine own_st (B := T6.setTop (mkF m 17 #[.val (.ref a1), .val (.long q1), .second, .val (.long q2), .second, .unset, .unset] [(.long q1), (.long q2), (.long m0), (.ref a1)])) (fun t k => XS.lloadN X6.here hx rfl (hb hby d7_16) rfl k) ?_
  refine own_st (B := T6.setTop (mkF m 18 #[.val (.ref a1), .val (.long q1), .second, .val (.long q2), .second, .unset, .unset] [(.long (q2 - q1)), (.long m0), (.ref a1)])) (fun t k => XS.lsub X6.here hx rfl (hb hby d7_17) rfl k) ?_
  obtain ⟨_, _, ⟨T7, L7, k7, j7⟩, -, X7, ⟨Lc7, hQ7, l7, y7_, z7_⟩, st7⟩ := Jvm.LawKit.callS X6 hx (y := (⟨"java/lang/Math", "max", "(JJ)J"⟩ : MethodName)) hown (mvT hZ (w_54 hw)) (mvT hZ (w_55 hw)) (mvT hZ (w_56 hw)) (mvT hZ (w_57 hw)) (by decide) (backOf (W := 1) (rm8 l Z a0 hw [] m0 (q2 - q1) h2 n0 z3 ) hZ (w_57 hw) (w_56 hw) (by decide) (by decide)) (g := (mkF m 18 #[.val (.ref a1), .val (.long q1), .second, .val (.long q2), .second, .unset, .unset] [(.long (q2 - q1)), (.long m0), (.ref a1)])) rfl (by rw [hml]; rfl) (argsL := [(.long m0), (.long (q2 - q1))]) (rest := [(.ref a1)]) (lenOf own_pd6 rfl) rfl (by show 2 * 0 + _ ≤ _; exact Nat.le_of_eq rfl) (hb hby d7_18) (fun _ _ => ⟨rfl, e6, (by decide : 0 + 0 ≤ _), (by decide : 0 + 0 ≤ _)⟩)
  dsimp only [Pt.U, Pt.locs, Pt.cells, Pt.slots] at X7 l7 y7_ z7_ st7 hQ7
  subst l7 y7_ z7_
  obtain ⟨rfl, N7q, e7q⟩ := hQ7
  have N7 := Fr.app n4 N7q
  refine own_st (B := T7.setTop (mkF m 21 #[.val (.ref a1), .val (.long q1), .second, .val (.long q2), .second, .unset, .unset] [(.long (own_max m0 (q2 - q1))), (.ref a1)])) (fun t k => st7 t k) ?_
  have f8 : Exa Z h2 a1 "com/example/goodput/goodput/PublisherTally" := (F0.wr W2)
  obtain ⟨T9, h9, X9, e9, W9, st9⟩ := putF X7 hx hZ hown (host := "") (Or.inl (w_52 hw)) Via.refl e7q f5 f8 (Or.inl (w_53 hw)) (w_9 hw) (ty := .long) (by decide) rfl rfl (g := (mkF m 21 #[.val (.ref a1), .val (.long q1), .second, .val (.long q2), .second, .unset, .unset] [(.long (own_max m0 (q2 - q1))), (.ref a1)])) rfl rfl (hb hby d7_21)
  have f9_ : Fld Z h9 a1 "com/example/goodput/goodput/PublisherTally" "publishDelayMax" "J" (.long (own_max m0 (q2 - q1))) := f5.same W9
  have z10 : n0 ≤ h9.size := Nat.le_trans z3 (Keep.of_wr W9).1
  have kp10 : Keep h0 h9 [a1, b] := kp3.wr W9 (Or.inl (List.mem_of_getElem? (i := 0) rfl))
  have n11 := Fr.snoc X9 N7 ga
  refine own_st (B := T9.setTop (mkF m 24 #[.val (.ref a1), .val (.long q1), .second, .val (.long q2), .second, .unset, .unset] [])) (fun t k => st9 t k) ?_
  refine own_st (B := T9.setTop (mkF m 25 #[.val (.ref a1), .val (.long q1), .second, .val (.long q2), .second, .unset, .unset] [(.long q2)])) (fun t k => XS.lloadN X9.here hx rfl (hb hby d7_24) rfl k) ?_
  refine own_st (B := T9.setTop (mkF m 26 #[.val (.ref a1), .val (.long q1), .second, .val (.long q2), .second, .unset, .unset] [(.ref a1), (.long q2)])) (fun t k => XS.aloadN X9.here hx rfl (hb hby d7_25) rfl rfl k) ?_
  have f12 : Fld Z h9 a1 "com/example/goodput/goodput/PublisherTally" "windowStart" "J" (.long w0) := ((F1.other W2 (Or.inr (slot_ne (Or.inr (w_42 hw)) (Or.inl (w_51 hw)) (by decide) (t := .long) (t' := .long) (by decide) (by decide)))).other W9 (Or.inr (slot_ne (Or.inr (w_42 hw)) (Or.inl (w_53 hw)) (by decide) (t := .long) (t' := .long) (by decide) (by decide))))
  obtain ⟨T13, X13, e13, st13⟩ := getF X9 hx hZ hown (host := "") (Or.inl (w_41 hw)) Via.refl e9 f12 (g := (mkF m 26 #[.val (.ref a1), .val (.long q1), .second, .val (.long q2), .second, .unset, .unset] [(.ref a1), (.long q2)])) rfl rfl (hb hby d7_26)
  refine own_st (B := T13.setTop (mkF m 29 #[.val (.ref a1), .val (.long q1), .second, .val (.long q2), .second, .unset, .unset] [(.long w0), (.long q2)])) (fun t k => st13 t k) ?_
  refine own_st (B := T13.setTop (mkF m 30 #[.val (.ref a1), .val (.long q1), .second, .val (.long q2), .second, .unset, .unset] [(.long (q2 - w0))])) (fun t k => XS.lsub X13.here hx rfl (hb hby d7_29) rfl k) ?_
  refine own_st (B := T13.setTop (mkF m 33 #[.val (.ref a1), .val (.long q1), .second, .val (.long q2), .second, .unset, .unset] [(.long (1000000000 : Int64)), (.long (q2 - w0))])) (fun t k => X13.ldc2Long hx hown (mvT hZ (w_58 hw)) (g := (mkF m 30 #[.val (.ref a1), .val (.long q1), .second, .val (.long q2), .second, .unset, .unset] [(.long (q2 - w0))])) rfl (hb hby d7_30) _ k) ?_
  refine own_st (B := T13.setTop (mkF m 34 #[.val (.ref a1), .val (.long q1), .second, .val (.long q2), .second, .unset, .unset] [(.long ((q2 - w0) / (1000000000 : Int64)))])) (fun t k => XS.ldiv X13.here hx (g := (mkF m 33 #[.val (.ref a1), .val (.long q1), .second, .val (.long q2), .second, .unset, .unset] [(.long (1000000000 : Int64)), (.long (q2 - w0))])) rfl (x := (q2 - w0)) (y := (1000000000 : Int64)) (rest := []) (hb hby d7_33) rfl (by decide) k) ?_
  obtain ⟨v14, ev14⟩ : ∃ z : Int64, z = ((q2 - w0) / (1000000000 : Int64)) := ⟨_, rfl⟩
  rw [← ev14]
  refine own_st (B := T13.setTop (mkF m 36 #[.val (.ref a1), .val (.long q1), .second, .val (.long q2), .second, .val (.long v14), .second] [])) (fun t k => XS.lstore X13.here hx rfl (hb hby d7_34) rfl (l' := #[.val (.ref a1), .val (.long q1), .second, .val (.long q2), .second, .val (.long v14), .second]) rfl k) ?_
  refine own_st (B := T13.setTop (mkF m 38 #[.val (.ref a1), .val (.long q1), .second, .val (.long q2), .second, .val (.long v14), .second] [(.long v14)])) (fun t k => XS.lload X13.here hx rfl (hb hby d7_36) rfl k) ?_
  refine own_st (B := T13.setTop (mkF m 39 #[.val (.ref a1), .val (.long q1), .second, .val (.long q2), .second, .val (.long v14), .second] [(.ref a1), (.long v14)])) (fun t k => XS.aloadN X13.here hx rfl (hb hby d7_38) rfl rfl k) ?_
  have f15 : Fld Z h9 a1 "com/example/goodput/goodput/PublisherTally" "sentPerSecond" "[J" (.ref b) := ((F2.other W2 (Or.inr (slot_ne (Or.inr (w_44 hw)) (Or.inl (w_51 hw)) (by decide) (t := (.array .long)) (t' := .long) (by decide) (by decide)))).other W9 (Or.inr (slot_ne (Or.inr (w_44 hw)) (Or.inl (w_53 hw)) (by decide) (t := (.array .long)) (t' := .long) (by decide) (by decide))))
  obtain ⟨T16, X16, e16, st16⟩ := getF X13 hx hZ hown (host := "") (Or.inl (w_43 hw)) Via.refl e13 f15 (g := (mkF m 39 #[.val (.ref a1), .val (.long q1), .second, .val (.long q2), .second, .val (.long v14), .second] [(.ref a1), (.long v14)])) rfl rfl (hb hby d7_39)
  refine own_st (B := T16.setTop (mkF m 42 #[.val (.ref a1), .val (.long q1), .second, .val (.long q2), .second, .val (.long v14), .second] [(.ref b), (.long v14)])) (fun t k => st16 t k) ?_
  have f17 : own_A Z h9 b .long (xs.map Value.long) := ((F5.other W2 nab).other W9 nab)
  refine own_st (B := T16.setTop (mkF m 43 #[.val (.ref a1), .val (.long q1), .second, .val (.long q2), .second, .val (.long v14), .second] [(.int (xs.length.toInt32)), (.long v14)])) (fun t k => own_len X16 hx hZ e16 f17 (g := (mkF m 42 #[.val (.ref a1), .val (.long q1), .second, .val (.long q2), .second, .val (.long v14), .second] [(.ref b), (.long v14)])) (n := (xs.length.toInt32)) (by rw [List.length_map]; exact len_toInt (by omega)) rfl rfl (hb hby d7_42) k) ?_
  refine own_st (B := T16.setTop (mkF m 44 #[.val (.ref a1), .val (.long q1), .second, .val (.long q2), .second, .val (.long v14), .second] [(.long ((xs.length.toInt32).toInt64)), (.long v14)])) (fun t k => XS.i2l X16.here hx rfl (hb hby d7_43) rfl k) ?_
  refine own_st (B := T16.setTop (mkF m 45 #[.val (.ref a1), .val (.long q1), .second, .val (.long q2), .second, .val (.long v14), .second] [(.int (XT.cmpL v14 ((xs.length.toInt32).toInt64)))])) (fun t k => XS.lcmp X16.here hx rfl (hb hby d7_44) rfl k) ?_
  by_cases hc18 : v14 < ((xs.length.toInt32).toInt64)
  · refine own_st (B := T16.setTop (mkF m 48 #[.val (.ref a1), .val (.long q1), .second, .val (.long q2), .second, .val (.long v14), .second] [])) (fun t k => XS.ifNo X16.here hx rfl (hb hby d7_45) rfl (XT.ll_ge_f hc18) k) ?_
    refine own_st (B := T16.setTop (mkF m 49 #[.val (.ref a1), .val (.long q1), .second, .val (.long q2), .second, .val (.long v14), .second] [(.ref a1)])) (fun t k => XS.aloadN X16.here hx rfl (hb hby d7_48) rfl rfl k) ?_
    obtain ⟨T19, X19, e19, st19⟩ := getF X16 hx hZ hown (host := "") (Or.inl (w_43 hw)) Via.refl e16 f15 (g := (mkF m 49 #[.val (.ref a1), .val (.long q1), .second, .val (.long q2), .second, .val (.long v14), .second] [(.ref a1)])) rfl rfl (hb hby d7_49)
    refine own_st (B := T19.setTop (mkF m 52 #[.val (.ref a1), .val (.long q1), .second, .val (.long q2), .second, .val (.long v14), .second] [(.ref b)])) (fun t k => st19 t k) ?_
    refine own_st (B := T19.setTop (mkF m 54 #[.val (.ref a1), .val (.long q1), .second, .val (.long q2), .second, .val (.long v14), .second] [(.long v14), (.ref b)])) (fun t k => XS.lload X19.here hx rfl (hb hby d7_52) rfl k) ?_
    refine own_st (B := T19.setTop (mkF m 55 #[.val (.ref a1), .val (.long q1), .second, .val (.long q2), .second, .val (.long v14), .second] [(.int (v14.toInt32)), (.ref b)])) (fun t k => XS.l2i X19.here hx rfl (hb hby d7_54) rfl k) ?_
    refine own_st (B := T19.setTop (mkF m 56 #[.val (.ref a1), .val (.long q1), .second, .val (.long q2), .second, .val (.long v14), .second] [(.int (v14.toInt32)), (.ref b), (.int (v14.toInt32)), (.ref b)])) (fun t k => XT.dup2 X19.here hx rfl (hb hby d7_55) rfl rfl rfl k) ?_
    refine own_st (B := T19.setTop (mkF m 57 #[.val (.ref a1), .val (.long q1), .second, .val (.long q2), .second, .val (.long v14), .second] [(.long (xs.getD v14.toInt.toNat 0)), (.int (v14.toInt32)), (.ref b)])) (fun t k => own_ldJ X19 hx hZ e19 f17 (g := (mkF m 56 #[.val (.ref a1), .val (.long q1), .second, .val (.long q2), .second, .val (.long v14), .second] [(.int (v14.toInt32)), (.ref b), (.int (v14.toInt32)), (.ref b)])) (i := (v14.toInt.toNat)) (own_ix5 (own_v0 ev14 hq) ((own_ltL hl).mp hc18) hl) (own_get (own_lt5 (own_v0 ev14 hq) ((own_ltL hl).mp hc18))) rfl rfl (hb hby d7_56) k) ?_
    refine own_st (B := T19.setTop (mkF m 58 #[.val (.ref a1), .val (.long q1), .second, .val (.long q2), .second, .val (.long v14), .second] [(.long (1 : Int64)), (.long (xs.getD v14.toInt.toNat 0)), (.int (v14.toInt32)), (.ref b)])) (fun t k => XS.lconst X19.here hx rfl (hb hby d7_57) k) ?_
    refine own_st (B := T19.setTop (mkF m 59 #[.val (.ref a1), .val (.long q1), .second, .val (.long q2), .second, .val (.long v14), .second] [(.long ((xs.getD v14.toInt.toNat 0) + (1 : Int64))), (.int (v14.toInt32)), (.ref b)])) (fun t k => XS.ladd X19.here hx rfl (hb hby d7_58) rfl k) ?_
    obtain ⟨T20, h20, X20, e20, W20, A20, st20⟩ := own_stJ X19 hx hZ e19 f17 (j := (v14.toInt32)) (x := ((xs.getD v14.toInt.toNat 0) + (1 : Int64))) (i := (v14.toInt.toNat)) (own_ix5 (own_v0 ev14 hq) ((own_ltL hl).mp hc18) hl) (by rw [List.length_map]; exact own_lt5 (own_v0 ev14 hq) ((own_ltL hl).mp hc18)) (g := (mkF m 59 #[.val (.ref a1), .val (.long q1), .second, .val (.long q2), .second, .val (.long v14), .second] [(.long ((xs.getD v14.toInt.toNat 0) + (1 : Int64))), (.int (v14.toInt32)), (.ref b)])) rfl rfl (hb hby d7_59)
    have f20_ : own_A Z h20 b .long ((xs.map Value.long).set (v14.toInt.toNat) (.long ((xs.getD v14.toInt.toNat 0) + (1 : Int64)))) := A20
    have z21 : n0 ≤ h20.size := Nat.le_trans z10 (Keep.of_wr W20).1
    have kp21 : Keep h0 h20 [a1, b] := kp10.wr W20 (Or.inl (List.mem_of_getElem? (i := 1) rfl))
    have n22 := Fr.snoc X20 n11 gb
    refine own_st (B := T20.setTop (mkF m 60 #[.val (.ref a1), .val (.long q1), .second, .val (.long q2), .second, .val (.long v14), .second] [])) (fun t k => st20 t k) ?_
    refine own_retV X20 hx hlk Bd.returns (hb hby d7_60) (by decide) (by decide) ?_
    show Q7 Z a1 q1 q2 b w0 s0 m0 xs h0 n0 _ T20.heap _
    rw [e20]
    have f23 : Exa Z h20 a1 "com/example/goodput/goodput/PublisherTally" := ((f8.wr W9).wr W20)
    have f24 : Fld Z h20 a1 "com/example/goodput/goodput/PublisherTally" "windowStart" "J" (.long w0) := (f12.other W20 (Or.inl (Ne.symm nab)))
    have f25 : Fld Z h20 a1 "com/example/goodput/goodput/PublisherTally" "sentPerSecond" "[J" (.ref b) := (f15.other W20 (Or.inl (Ne.symm nab)))
    have f26 : Fld Z h20 a1 "com/example/goodput/goodput/PublisherTally" "sent" "J" (.long (s0 + (1 : Int64))) := ((f2_.other W9 (Or.inr (slot_ne (Or.inl (w_51 hw)) (Or.inl (w_53 hw)) (by decide) (t := .long) (t' := .long) (by decide) (by decide)))).other W20 (Or.inl (Ne.symm nab)))
    have f27 : Fld Z h20 a1 "com/example/goodput/goodput/PublisherTally" "publishDelayMax" "J" (.long (own_max m0 (q2 - q1))) := (f9_.other W20 (Or.inl (Ne.symm nab)))
    exact ⟨rfl, n22, kp21, f23, f24, f25, f26, f27, (by rw [← ev14]; unfold own_upd; rw [if_pos (own_lt5 (own_v0 ev14 hq) ((own_ltL hl).mp hc18)), ← own_set_map]; exact f20_)⟩
  · refine own_st (B := T16.setTop (mkF m 60 #[.val (.ref a1), .val (.long q1), .second, .val (.long q2), .second, .val (.long v14), .second] [])) (fun t k => XS.ifYes X16.here hx rfl (pc0 := 45) (pc' := 60) rfl (hb hby d7_45) rfl (XT.ll_ge_t hc18) (by decide) (by decide) k) ?_
    refine own_retV X16 hx hlk Bd.returns (hb hby d7_60) (by decide) (by decide) ?_
    show Q7 Z a1 q1 q2 b w0 s0 m0 xs h0 n0 _ T16.heap _
    rw [e16]
    have f28 : Exa Z h9 a1 "com/example/goodput/goodput/PublisherTally" := (f8.wr W9)
    have f29 : Fld Z h9 a1 "com/example/goodput/goodput/PublisherTally" "sent" "J" (.long (s0 + (1 : Int64))) := (f2_.other W9 (Or.inr (slot_ne (Or.inl (w_51 hw)) (Or.inl (w_53 hw)) (by decide) (t := .long) (t' := .long) (by decide) (by decide))))
    exact ⟨rfl, n11, kp10, f28, f12, f15, f29, f9_, (by rw [← ev14]; unfold own_upd; rw [if_neg (fun q => hc18 ((own_ltL hl).mpr (by have := own_v0 ev14 hq; omega)))]; exact f17)⟩
theorem own_drop {xs : List Int64} {i : Nat} (h : i < xs.length) : own_sum (xs.drop i) = xs.getD i 0 + own_sum (xs.drop (i + 1)) := by
  rw [List.drop_eq_getElem_cons h]
  show _ + _ = _
  simp [List.getD, h]

theorem own_ip {i : Int32} {n : Nat} (h0 : 0 ≤ i.toInt) (h1 : i.toInt < (n : Int)) (hn : n < 1000) : (i + 1).toInt.toNat = i.toInt.toNat + 1 := by
  have h2 := c_iadd i 1
  have h3 := rng32 (i + 1)
  have h4 : (1 : Int32).toInt = 1 := rfl
  omega
theorem d9_0 : decode prog_28_method_4_code 0 = .ok (.lconst 0, 1) := by decide +kernel
theorem d9_1 : decode prog_28_method_4_code 1 = .ok (.lstore_n 1, 1) := by decide +kernel
theorem d9_2 : decode prog_28_method_4_code 2 = .ok (.aload_n 0, 1) := by decide +kernel
theorem d9_3 : decode prog_28_method_4_code 3 = .ok (.getfield 20, 3) := by decide +kernel
theorem d9_6 : decode prog_28_method_4_code 6 = .ok (.astore_n 3, 1) := by decide +kernel
theorem d9_7 : decode prog_28_method_4_code 7 = .ok (.aload_n 3, 1) := by decide +kernel
theorem d9_8 : decode prog_28_method_4_code 8 = .ok (.arraylength, 1) := by decide +kernel
theorem d9_9 : decode prog_28_method_4_code 9 = .ok (.istore 4, 2) := by decide +kernel
theorem d9_11 : decode prog_28_method_4_code 11 = .ok (.iconst 0, 1) := by decide +kernel
theorem d9_12 : decode prog_28_method_4_code 12 = .ok (.istore 5, 2) := by decide +kernel
theorem d9_14 : decode prog_28_method_4_code 14 = .ok (.iload 5, 2) := by decide +kernel
theorem d9_16 : decode prog_28_method_4_code 16 = .ok (.iload 4, 2) := by decide +kernel
theorem d9_18 : decode prog_28_method_4_code 18 = .ok (.if_icmp .ge 20, 3) := by decide +kernel
theorem d9_21 : decode prog_28_method_4_code 21 = .ok (.aload_n 3, 1) := by decide +kernel
theorem d9_22 : decode prog_28_method_4_code 22 = .ok (.iload 5, 2) := by decide +kernel
theorem d9_24 : decode prog_28_method_4_code 24 = .ok (.laload, 1) := by decide +kernel
theorem d9_25 : decode prog_28_method_4_code 25 = .ok (.lstore 6, 2) := by decide +kernel
theorem d9_27 : decode prog_28_method_4_code 27 = .ok (.lload_n 1, 1) := by decide +kernel
theorem d9_28 : decode prog_28_method_4_code 28 = .ok (.lload 6, 2) := by decide +kernel
theorem d9_30 : decode prog_28_method_4_code 30 = .ok (.ladd, 1) := by decide +kernel
theorem d9_31 : decode prog_28_method_4_code 31 = .ok (.lstore_n 1, 1) := by decide +kernel
theorem d9_32 : decode prog_28_method_4_code 32 = .ok (.iinc 5 1, 3) := by decide +kernel
theorem d9_35 : decode prog_28_method_4_code 35 = .ok (.goto (-21), 3) := by decide +kernel
theorem d9_38 : decode prog_28_method_4_code 38 = .ok (.lload_n 1, 1) := by decide +kernel
theorem d9_39 : decode prog_28_method_4_code 39 = .ok (.lreturn, 1) := by decide +kernel
theorem ef_9 (m : MethodId) (x0 : Addr) : entryFrame m #[(.ref x0)] 8 = mkF m 0 #[.val (.ref x0), .unset, .unset, .unset, .unset, .unset, .unset, .unset] [] := by first | (simp [entryFrame, mkF, argsToLocals, Value.category]; done) | rfl
def Q9 (Z : State) (a1 : Addr) (b : Addr) (xs : List Int64) (h0 : Heap) (n0 : Nat) (v : Option Value) (h : Heap) (L : List Loc) : Prop := v = some (.long (own_sum xs)) ∧ Fr n0 L ∧ h = h0
set_option maxHeartbeats 40000000 in
theorem rm9 (l : Launch) (Z : State) (a0 : Array Value) (hw : ∀ d ∈ tables_1, d.before a0 Z = true) (ws : List Jvm.Cond) (a1 : Addr) (b : Addr) (xs : List Int64) (h0 : Heap) (n0 : Nat) (Z0 : n0 ≤ h0.size) (F0 : Fld Z h0 a1 "com/example/goodput/goodput/PublisherTally" "sentPerSecond" "[J" (.ref b)) (F1 : own_A Z h0 b .long (xs.map Value.long)) (hl : xs.length < 1000) :
    MetFree l (⟨"com/example/goodput/goodput/PublisherTally", "getSentInWindow", "()J"⟩ : MethodName) (head1 (Jvm.Cond.code (⟨"com/example/goodput/goodput/PublisherTally", "getSentInWindow", "()J"⟩ : MethodName) prog_28_method_4_code 8 (some .long) :: ws) ({ frames := 0, cells := 0, slots := 0, locals := 0 } : Room)) (fun a U => a = #[(.ref a1)] ∧ Z.Warmed39 U.vm ∧ U.heap = h0) (fun _ _ _ _ _ => True) (fun _ U o U' => ∃ v L, o = .returned v ∧ Q9 Z a1 b xs h0 n0 v U'.heap L ∧ FrameEnd U o U' L ({ frames := 0, cells := 0, slots := 0, locals := 0 } : Room).cells ({ frames := 0, cells := 0, slots := 0, locals := 0 } : Room).slots) := by
  refine MetFree.of_bodySF (plainFor_of_name own_pn3) hisR ?_
  intro p e s m args below meth c s₁ Bd hml0 hP hK
  obtain ⟨rfl, hZ, hh⟩ := hP
  have hx := Bd.exec
  have hby := Bd.bytes
  have hml : c.maxLocals = 8 := hml0
  have hlk : meth.locks = false := BodyLoose.notSynchronized Bd
  have hown : s.vm.findClass "com/example/goodput/goodput/PublisherTally" = some m.cls := findClass_of_methodNamed Bd.named
  have hnm := (name_of_methodNamed Bd.named Bd.method).1
  have X0 : Stand p l e ({ frames := 0, cells := 0, slots := 0, locals := 0 } : Room) s m #[(.ref a1)] below meth c s₁ [] 0 0 := Stand.of_body Bd
  have e0 : s₁.heap = h0 := by rw [← hh, Bd.state]; rfl
  have N0 := Fr.nil n0
  show own_Go p e below s (Q9 Z a1 b xs h0 n0) ({ frames := 0, cells := 0, slots := 0, locals := 0 } : Room).cells ({ frames := 0, cells := 0, slots := 0, locals := 0 } : Room).slots _
  refine own_st (B := s₁.setTop (mkF m 0 #[.val (.ref a1), .unset, .unset, .unset, .unset, .unset, .unset, .unset] [])) (fun t k => castTop (ef_9 m (a1)) k) ?_
  refine own_st (B := s₁.setTop (mkF m 1 #[.val (.ref a1), .unset, .unset, .unset, .unset, .unset, .unset, .unset] [(.long (0 : Int64))])) (fun t k => XS.lconst X0.here hx rfl (hb hby d9_0) k) ?_
  refine own_st (B := s₁.setTop (mkF m 2 #[.val (.ref a1), .val (.long (0 : Int64)), .second, .unset, .unset, .unset, .unset, .unset] [])) (fun t k => XS.lstoreN X0.here hx rfl (hb hby d9_1) rfl (l' := #[.val (.ref a1), .val (.long (0 : Int64)), .second, .unset, .unset, .unset, .unset, .unset]) rfl k) ?_
  refine own_st (B := s₁.setTop (mkF m 3 #[.val (.ref a1), .val (.long (0 : Int64)), .second, .unset, .unset, .unset, .unset, .unset] [(.ref a1)])) (fun t k => XS.aloadN X0.here hx rfl (hb hby d9_2) rfl rfl k) ?_
  obtain ⟨T1, X1, e1, st1⟩ := getF X0 hx hZ hown (host := "") (Or.inl (w_43 hw)) Via.refl e0 F0 (g := (mkF m 3 #[.val (.ref a1), .val (.long (0 : Int64)), .second, .unset, .unset, .unset, .unset, .unset] [(.ref a1)])) rfl rfl (hb hby d9_3)
  refine own_st (B := T1.setTop (mkF m 6 #[.val (.ref a1), .val (.long (0 : Int64)), .second, .unset, .unset, .unset, .unset, .unset] [(.ref b)])) (fun t k => st1 t k) ?_
  refine own_st (B := T1.setTop (mkF m 7 #[.val (.ref a1), .val (.long (0 : Int64)), .second, .val (.ref b), .unset, .unset, .unset, .unset] [])) (fun t k => XS.astoreN X1.here hx rfl (hb hby d9_6) rfl rfl (l' := #[.val (.ref a1), .val (.long (0 : Int64)), .second, .val (.ref b), .unset, .unset, .unset, .unset]) rfl k) ?_
  refine own_st (B := T1.setTop (mkF m 8 #[.val (.ref a1), .val (.long (0 : Int64)), .second, .val (.ref b), .unset, .unset, .unset, .unset] [(.ref b)])) (fun t k => XS.aloadN X1.here hx rfl (hb hby d9_7) rfl rfl k) ?_
  refine own_st (B := T1.setTop (mkF m 9 #[.val (.ref a1), .val (.long (0 : Int64)), .second, .val (.ref b), .unset, .unset, .unset, .unset] [(.int (xs.length.toInt32))])) (fun t k => own_len X1 hx hZ e1 F1 (g := (mkF m 8 #[.val (.ref a1), .val (.long (0 : Int64)), .second, .val (.ref b), .unset, .unset, .unset, .unset] [(.ref b)])) (n := (xs.length.toInt32)) (by rw [List.length_map]; exact len_toInt (by omega)) rfl rfl (hb hby d9_8) k) ?_
  refine own_st (B := T1.setTop (mkF m 11 #[.val (.ref a1), .val (.long (0 : Int64)), .second, .val (.ref b), .val (.int (xs.length.toInt32)), .unset, .unset, .unset] [])) (fun t k => XS.istore X1.here hx rfl (hb hby d9_9) rfl (l' := #[.val (.ref a1), .val (.long (0 : Int64)), .second, .val (.ref b), .val (.int (xs.length.toInt32)), .unset, .unset, .unset]) rfl k) ?_
  refine own_st (B := T1.setTop (mkF m 12 #[.val (.ref a1), .val (.long (0 : Int64)), .second, .val (.ref b), .val (.int (xs.length.toInt32)), .unset, .unset, .unset] [(.int (0 : Int32))])) (fun t k => XS.iconst X1.here hx rfl (hb hby d9_11) k) ?_
  refine own_st (B := T1.setTop (mkF m 14 #[.val (.ref a1), .val (.long (0 : Int64)), .second, .val (.ref b), .val (.int (xs.length.toInt32)), .val (.int (0 : Int32)), .unset, .unset] [])) (fun t k => XS.istore X1.here hx rfl (hb hby d9_12) rfl (l' := #[.val (.ref a1), .val (.long (0 : Int64)), .second, .val (.ref b), .val (.int (xs.length.toInt32)), .val (.int (0 : Int32)), .unset, .unset]) rfl k) ?_
  refine own_cut (P := ∀ (mu2 : Nat) (T2 : State) (lo2 : List Loc) (S : Int64) (i : Int32) (s6_14 : Slot) (s7_14 : Slot), Stand p l e ({ frames := 0, cells := 0, slots := 0, locals := 0 } : Room) s m #[(.ref a1)] below meth c T2 lo2 0 0 → T2.heap = h0 → Fr n0 lo2 → own_Two s6_14 s7_14 → mu2 = (xs.length - i.toInt.toNat) → (0 ≤ i.toInt ∧ i.toInt ≤ (xs.length : Int)) → (S + own_sum (xs.drop i.toInt.toNat) = own_sum xs) → own_Go p e below s (Q9 Z a1 b xs h0 n0) ({ frames := 0, cells := 0, slots := 0, locals := 0 } : Room).cells ({ frames := 0, cells := 0, slots := 0, locals := 0 } : Room).slots (T2.setTop (mkF m 14 #[.val (.ref a1), .val (.long S), .second, .val (.ref b), .val (.int (xs.length.toInt32)), .val (.int i), s6_14, s7_14] []))) (fun J2 => ?_) ?_
  · exact J2 _ T1 _ (0 : Int64) (0 : Int32) .unset .unset X1 e1 N0 (Or.inl ⟨rfl, rfl⟩) rfl (show 0 ≤ (0 : Int32).toInt ∧ (0 : Int32).toInt ≤ (xs.length : Int) by have h0 : (0 : Int32).toInt = 0 := rfl; omega) (show (0 : Int64) + own_sum (xs.drop (0 : Int32).toInt.toNat) = own_sum xs by show (0 : Int64) + own_sum (xs.drop 0) = _; rw [Int64.zero_add, List.drop_zero])
  intro mu2
  induction mu2 using Nat.strongRecOn with
  | ind mu2 ih2 =>
    intro T2 lo2 S i s6_14 s7_14 X2 e2 N2 hs6_14 hmu2 hi hS
    refine own_st (B := T2.setTop (mkF m 16 #[.val (.ref a1), .val (.long S), .second, .val (.ref b), .val (.int (xs.length.toInt32)), .val (.int i), s6_14, s7_14] [(.int i)])) (fun t k => XS.iload X2.here hx rfl (hb hby d9_14) rfl k) ?_
    refine own_st (B := T2.setTop (mkF m 18 #[.val (.ref a1), .val (.long S), .second, .val (.ref b), .val (.int (xs.length.toInt32)), .val (.int i), s6_14, s7_14] [(.int (xs.length.toInt32)), (.int i)])) (fun t k => XS.iload X2.here hx rfl (hb hby d9_16) rfl k) ?_
    by_cases hc3 : i < (xs.length.toInt32)
    · refine own_st (B := T2.setTop (mkF m 21 #[.val (.ref a1), .val (.long S), .second, .val (.ref b), .val (.int (xs.length.toInt32)), .val (.int i), s6_14, s7_14] [])) (fun t k => XS.icmpNo X2.here hx rfl (hb hby d9_18) rfl (XT.ii_ge_f hc3) k) ?_
      refine own_st (B := T2.setTop (mkF m 22 #[.val (.ref a1), .val (.long S), .second, .val (.ref b), .val (.int (xs.length.toInt32)), .val (.int i), s6_14, s7_14] [(.ref b)])) (fun t k => XS.aloadN X2.here hx rfl (hb hby d9_21) rfl rfl k) ?_
      refine own_st (B := T2.setTop (mkF m 24 #[.val (.ref a1), .val (.long S), .second, .val (.ref b), .val (.int (xs.length.toInt32)), .val (.int i), s6_14, s7_14] [(.int i), (.ref b)])) (fun t k => XS.iload X2.here hx rfl (hb hby d9_22) rfl k) ?_
      refine own_st (B := T2.setTop (mkF m 25 #[.val (.ref a1), .val (.long S), .second, .val (.ref b), .val (.int (xs.length.toInt32)), .val (.int i), s6_14, s7_14] [(.long (xs.getD i.toInt.toNat 0))])) (fun t k => own_ldJ X2 hx hZ e2 F1 (g := (mkF m 24 #[.val (.ref a1), .val (.long S), .second, .val (.ref b), .val (.int (xs.length.toInt32)), .val (.int i), s6_14, s7_14] [(.int i), (.ref b)])) (i := (i.toInt.toNat)) (show i.toInt = ((i.toInt.toNat : Nat) : Int) by omega) (own_get (show i.toInt.toNat < xs.length by have := (own_ltN hl).mp hc3; omega)) rfl rfl (hb hby d9_24) k) ?_
      refine own_st (B := T2.setTop (mkF m 27 #[.val (.ref a1), .val (.long S), .second, .val (.ref b), .val (.int (xs.length.toInt32)), .val (.int i), .val (.long (xs.getD i.toInt.toNat 0)), .second] [])) (fun t k => XS.lstore X2.here hx rfl (hb hby d9_25) rfl (l' := #[.val (.ref a1), .val (.long S), .second, .val (.ref b), .val (.int (xs.length.toInt32)), .val (.int i), .val (.long (xs.getD i.toInt.toNat 0)), .second]) (by rcases hs6_14 with ⟨rfl, rfl⟩ | ⟨z, rfl, rfl⟩ <;> rfl) k) ?_
      refine own_st (B := T2.setTop (mkF m 28 #[.val (.ref a1), .val (.long S), .second, .val (.ref b), .val (.int (xs.length.toInt32)), .val (.int i), .val (.long (xs.getD i.toInt.toNat 0)), .second] [(.long S)])) (fun t k => XS.lloadN X2.here hx rfl (hb hby d9_27) rfl k) ?_
      refine own_st (B := T2.setTop (mkF m 30 #[.val (.ref a1), .val (.long S), .second, .val (.ref b), .val (.int (xs.length.toInt32)), .val (.int i), .val (.long (xs.getD i.toInt.toNat 0)), .second] [(.long (xs.getD i.toInt.toNat 0)), (.long S)])) (fun t k => XS.lload X2.here hx rfl (hb hby d9_28) rfl k) ?_
      refine own_st (B := T2.setTop (mkF m 31 #[.val (.ref a1), .val (.long S), .second, .val (.ref b), .val (.int (xs.length.toInt32)), .val (.int i), .val (.long (xs.getD i.toInt.toNat 0)), .second] [(.long (S + (xs.getD i.toInt.toNat 0)))])) (fun t k => XS.ladd X2.here hx rfl (hb hby d9_30) rfl k) ?_
      refine own_st (B := T2.setTop (mkF m 32 #[.val (.ref a1), .val (.long (S + (xs.getD i.toInt.toNat 0))), .second, .val (.ref b), .val (.int (xs.length.toInt32)), .val (.int i), .val (.long (xs.getD i.toInt.toNat 0)), .second] [])) (fun t k => XS.lstoreN X2.here hx rfl (hb hby d9_31) rfl (l' := #[.val (.ref a1), .val (.long (S + (xs.getD i.toInt.toNat 0))), .second, .val (.ref b), .val (.int (xs.length.toInt32)), .val (.int i), .val (.long (xs.getD i.toInt.toNat 0)), .second]) rfl k) ?_
      refine own_st (B := T2.setTop (mkF m 35 #[.val (.ref a1), .val (.long (S + (xs.getD i.toInt.toNat 0))), .second, .val (.ref b), .val (.int (xs.length.toInt32)), .val (.int (i + (1 : Int32))), .val (.long (xs.getD i.toInt.toNat 0)), .second] [])) (fun t k => XS.iinc X2.here hx rfl (hb hby d9_32) rfl (l' := #[.val (.ref a1), .val (.long (S + (xs.getD i.toInt.toNat 0))), .second, .val (.ref b), .val (.int (xs.length.toInt32)), .val (.int (i + (1 : Int32))), .val (.long (xs.getD i.toInt.toNat 0)), .second]) rfl k) ?_
      refine own_st (B := T2.setTop (mkF m 14 #[.val (.ref a1), .val (.long (S + (xs.getD i.toInt.toNat 0))), .second, .val (.ref b), .val (.int (xs.length.toInt32)), .val (.int (i + (1 : Int32))), .val (.long (xs.getD i.toInt.toNat 0)), .second] [])) (fun t k => XS.goto X2.here hx rfl (pc0 := 35) (pc' := 14) rfl (hb hby d9_35) (by decide) (by decide) k) ?_
      exact ih2 _ (by have h1 := (own_ltN hl).mp hc3; have h2 := c_iadd i 1; have h3 := rng32 (i + 1); have h4 : (1 : Int32).toInt = 1 := rfl; omega) T2 _ ((S + (xs.getD i.toInt.toNat 0))) ((i + (1 : Int32))) (.val (.long (xs.getD i.toInt.toNat 0))) .second X2 e2 N2 (Or.inr ⟨_, rfl, rfl⟩) rfl (show 0 ≤ (i + (1 : Int32)).toInt ∧ (i + (1 : Int32)).toInt ≤ (xs.length : Int) by have h1 := (own_ltN hl).mp hc3; have h2 := c_iadd i 1; have h3 := rng32 (i + 1); have h4 : (1 : Int32).toInt = 1 := rfl; omega) (show (S + (xs.getD i.toInt.toNat 0)) + own_sum (xs.drop (i + (1 : Int32)).toInt.toNat) = own_sum xs by rw [own_ip hi.1 ((own_ltN hl).mp hc3) hl, ← hS, own_drop (i := i.toInt.toNat) (by have := (own_ltN hl).mp hc3; omega), Int64.add_assoc])
    · refine own_st (B := T2.setTop (mkF m 38 #[.val (.ref a1), .val (.long S), .second, .val (.ref b), .val (.int (xs.length.toInt32)), .val (.int i), s6_14, s7_14] [])) (fun t k => XS.icmpYes X2.here hx rfl (pc0 := 18) (pc' := 38) rfl (hb hby d9_18) rfl (XT.ii_ge_t hc3) (by decide) (by decide) k) ?_
      refine own_st (B := T2.setTop (mkF m 39 #[.val (.ref a1), .val (.long S), .second, .val (.ref b), .val (.int (xs.length.toInt32)), .val (.int i), s6_14, s7_14] [(.long S)])) (fun t k => XS.lloadN X2.here hx rfl (hb hby d9_38) rfl k) ?_
      refine own_retJ X2 hx hlk Bd.returns (hb hby d9_39) (by decide) (by decide) ?_
      show Q9 Z a1 b xs h0 n0 _ T2.heap _
      rw [e2]
      exact ⟨(by have h1 : ¬ (i.toInt < (xs.length : Int)) := fun q => hc3 ((own_ltN hl).mpr q); have h2 : xs.length ≤ i.toInt.toNat := (by omega); rw [← hS, List.drop_of_length_le h2]; show some (Value.long S) = some (Value.long (S + 0)); rw [Int64.add_zero]), N2, rfl⟩
theorem own_offs {x a : Int64} (e : a = (x &&& 9223372036854775807) % 6000000000) : 0 ≤ a.toInt ∧ a.toInt < 6000000000 := by
  have h1 := c_maskL x 9223372036854775807 63 (by decide) (by decide)
  have h2 := c_lrem (x &&& 9223372036854775807) 6000000000 6000000000 rfl
  rw [lrem_mod, ← e] at h2
  omega
theorem own_dur {x d : Int32} (e : d = (x &&& 2147483647) % 5) : 0 ≤ d.toInt ∧ d.toInt ≤ 4 := by
  have h1 := c_mask x 2147483647 31 (by decide) (by decide)
  have h2 := c_irem (x &&& 2147483647) 5 5 rfl
  rw [← e] at h2
  omega
theorem own_sum_set : ∀ (xs : List Int64) (i : Nat), i < xs.length → own_sum (xs.set i (xs.getD i 0 + 1)) = own_sum xs + 1
  | [], i, h => absurd h (Nat.not_lt_zero i)
  | x :: xs, 0, _ => by
    show (x + 1) + own_sum xs = (x + own_sum xs) + 1
    rw [Int64.add_assoc, Int64.add_comm 1, ← Int64.add_assoc]
  | x :: xs, i + 1, h => by
    show x + own_sum (xs.set i (xs.getD i 0 + 1)) = (x + own_sum xs) + 1
    rw [own_sum_set xs i (Nat.lt_of_succ_lt_succ h), Int64.add_assoc]
theorem own_sum_zero : ∀ k, own_sum (List.replicate k 0) = 0
  | 0 => rfl
  | k + 1 => by
    show 0 + own_sum (List.replicate k 0) = 0
    rw [own_sum_zero k]; rfl
theorem own_step {xs : List Int64} {d : Int32} {s a lim E E' : Int64} (hk : xs.length = d.toInt.toNat) (hd : 0 ≤ d.toInt ∧ d.toInt ≤ 4) (hl : lim = d.toInt64 * 1000000000) (ha : 0 ≤ a.toInt ∧ a.toInt < 6000000000) (hE : own_sum xs = E) (hE' : E' = if a < lim then E + 1 else E) :
    own_sum (own_upd xs (((s + a) - s) / 1000000000).toInt.toNat) = E' := by
  rw [own_sa]
  have h1 := (c_ldiv a 1000000000 1000000000 rfl (by decide)).1 ha.1
  have h2 := c_lmul d.toInt64 1000000000
  have h3 := rng64 lim
  have h4 : (1000000000 : Int64).toInt = 1000000000 := rfl
  rw [← hl, c_i2l, h4] at h2
  have h5 : lim.toInt = d.toInt * 1000000000 := by omega
  have h6 : a < lim ↔ (a / 1000000000).toInt.toNat < xs.length := by
    rw [Int64.lt_iff_toInt_lt, hk]; omega
  unfold own_upd
  by_cases h : a < lim
  · rw [if_pos (h6.mp h), own_sum_set _ _ (h6.mp h), hE, hE', if_pos h]
  · rw [if_neg (fun q => h (h6.mpr q)), hE, hE', if_neg h]
theorem own_pd7 : parseMethodDescriptor "(J)J" = some ⟨[.long], some .long⟩ := by decide +kernel
theorem own_pd8 : parseMethodDescriptor "(JI)V" = some ⟨[.long, .int], none⟩ := by decide +kernel
theorem own_pd9 : parseMethodDescriptor "()J" = some ⟨[], some .long⟩ := by decide +kernel
theorem own_pd10 : parseMethodDescriptor "(JJ)V" = some ⟨[.long, .long], none⟩ := by decide +kernel
theorem ef_0 (m : MethodId) (x0 : Int64) (x1 : Int32) (x2 : Int32) (x3 : Int64) (x4 : Int64) (x5 : Int64) : entryFrame m #[(.long x0), (.int x1), (.int x2), (.long x3), (.long x4), (.long x5)] maxLocals = mkF m 0 #[.val (.long x0), .second, .val (.int x1), .val (.int x2), .val (.long x3), .second, .val (.long x4), .second, .val (.long x5), .second, .unset, .unset, .unset, .unset, .unset, .unset, .unset, .unset, .unset, .unset, .unset, .unset, .unset] [] := by first | (simp [entryFrame, mkF, argsToLocals, Value.category, maxLocals]; done) | rfl
def Q0 (Z : State) (arg0 : Int64) (arg1 : Int32) (arg2 : Int32) (arg3 : Int64) (arg4 : Int64) (arg5 : Int64) (h0 : Heap) (n0 : Nat) (v : Option Value) (h : Heap) (L : List Loc) : Prop := v = some (.int 1) ∧ Fr n0 L
set_option maxHeartbeats 40000000 in
theorem rm0 (l : Launch) (Z : State) (a0 : Array Value) (hw : ∀ d ∈ tables_1, d.before a0 Z = true) (ws : List Jvm.Cond) (arg0 : Int64) (arg1 : Int32) (arg2 : Int32) (arg3 : Int64) (arg4 : Int64) (arg5 : Int64) (h0 : Heap) (n0 : Nat) (Z0 : n0 ≤ h0.size) :
    MetFree l x (head1 (Jvm.Cond.code x code maxLocals ret :: ws) room_1) (fun a U => a = #[(.long arg0), (.int arg1), (.int arg2), (.long arg3), (.long arg4), (.long arg5)] ∧ Z.Warmed39 U.vm ∧ U.heap = h0) (fun _ _ _ _ _ => True) (fun _ U o U' => ∃ v L, o = .returned v ∧ Q0 Z arg0 arg1 arg2 arg3 arg4 arg5 h0 n0 v U'.heap L ∧ FrameEnd U o U' L 16 128) := by
  refine MetFree.of_bodySF (plainFor_of_name own_pn1) hisR ?_
  intro p e s m args below meth c s₁ Bd hml0 hP hK
  obtain ⟨rfl, hZ, hh⟩ := hP
  have hx := Bd.exec
  have hby := Bd.bytes
  have hml : c.maxLocals = 23 := hml0
  have hlk : meth.locks = false := BodyLoose.notSynchronized Bd
  have hown : s.vm.findClass "com/example/goodput/goodput/PublisherTallyGetSentInWindowPinLaw" = some m.cls := findClass_of_methodNamed Bd.named
  have hnm := (name_of_methodNamed Bd.named Bd.method).1
  have X0 : Stand p l e room_1 s m #[(.long arg0), (.int arg1), (.int arg2), (.long arg3), (.long arg4), (.long arg5)] below meth c s₁ [] 0 0 := Stand.of_body Bd
  have e0 : s₁.heap = h0 := by rw [← hh, Bd.state]; rfl
  have N0 := Fr.nil n0
  show own_Go p e below s (Q0 Z arg0 arg1 arg2 arg3 arg4 arg5 h0 n0) 16 128 _
  refine own_st (B := s₁.setTop (mkF m 0 #[.val (.long arg0), .second, .val (.int arg1), .val (.int arg2), .val (.long arg3), .second, .val (.long arg4), .second, .val (.long arg5), .second, .unset, .unset, .unset, .unset, .unset, .unset, .unset, .unset, .unset, .unset, .unset, .unset, .unset] [])) (fun t k => castTop (ef_0 m (arg0) (arg1) (arg2) (arg3) (arg4) (arg5)) k) ?_
  refine own_st (B := s₁.setTop (mkF m 1 #[.val (.long arg0), .second, .val (.int arg1), .val (.int arg2), .val (.long arg3), .second, .val (.long arg4), .second, .val (.long arg5), .second, .unset, .unset, .unset, .unset, .unset, .unset, .unset, .unset, .unset, .unset, .unset, .unset, .unset] [(.int arg1)])) (fun t k => XS.iloadN X0.here hx rfl (hb hby at_0) rfl k) ?_
  refine own_st (B := s₁.setTop (mkF m 3 #[.val (.long arg0), .second, .val (.int arg1), .val (.int arg2), .val (.long arg3), .second, .val (.long arg4), .second, .val (.long arg5), .second, .unset, .unset, .unset, .unset, .unset, .unset, .unset, .unset, .unset, .unset, .unset, .unset, .unset] [(.int (2147483647 : Int32)), (.int arg1)])) (fun t k => X0.ldcInt hx hown (mvT hZ (w_0 hw)) (g := (mkF m 1 #[.val (.long arg0), .second, .val (.int arg1), .val (.int arg2), .val (.long arg3), .second, .val (.long arg4), .second, .val (.long arg5), .second, .unset, .unset, .unset, .unset, .unset, .unset, .unset, .unset, .unset, .unset, .unset, .unset, .unset] [(.int arg1)])) rfl (hb hby at_1) _ k) ?_
  refine own_st (B := s₁.setTop (mkF m 4 #[.val (.long arg0), .second, .val (.int arg1), .val (.int arg2), .val (.long arg3), .second, .val (.long arg4), .second, .val (.long arg5), .second, .unset, .unset, .unset, .unset, .unset, .unset, .unset, .unset, .unset, .unset, .unset, .unset, .unset] [(.int (arg1 &&& (2147483647 : Int32)))])) (fun t k => XS.iand X0.here hx rfl (hb hby at_3) rfl k) ?_
  refine own_st (B := s₁.setTop (mkF m 5 #[.val (.long arg0), .second, .val (.int arg1), .val (.int arg2), .val (.long arg3), .second, .val (.long arg4), .second, .val (.long arg5), .second, .unset, .unset, .unset, .unset, .unset, .unset, .unset, .unset, .unset, .unset, .unset, .unset, .unset] [(.int (5 : Int32)), (.int (arg1 &&& (2147483647 : Int32)))])) (fun t k => XS.iconst X0.here hx rfl (hb hby at_4) k) ?_
  refine own_st (B := s₁.setTop (mkF m 6 #[.val (.long arg0), .second, .val (.int arg1), .val (.int arg2), .val (.long arg3), .second, .val (.long arg4), .second, .val (.long arg5), .second, .unset, .unset, .unset, .unset, .unset, .unset, .unset, .unset, .unset, .unset, .unset, .unset, .unset] [(.int ((arg1 &&& (2147483647 : Int32)) % (5 : Int32)))])) (fun t k => iremM X0 hx (g := (mkF m 5 #[.val (.long arg0), .second, .val (.int arg1), .val (.int arg2), .val (.long arg3), .second, .val (.long arg4), .second, .val (.long arg5), .second, .unset, .unset, .unset, .unset, .unset, .unset, .unset, .unset, .unset, .unset, .unset, .unset, .unset] [(.int (5 : Int32)), (.int (arg1 &&& (2147483647 : Int32)))])) rfl (x := (arg1 &&& (2147483647 : Int32))) (y := (5 : Int32)) (rest := []) (hb hby at_5) rfl (by decide) k) ?_
  obtain ⟨v1, ev1⟩ : ∃ z : Int32, z = ((arg1 &&& (2147483647 : Int32)) % (5 : Int32)) := ⟨_, rfl⟩
  rw [← ev1]
  refine own_st (B := s₁.setTop (mkF m 8 #[.val (.long arg0), .second, .val (.int arg1), .val (.int arg2), .val (.long arg3), .second, .val (.long arg4), .second, .val (.long arg5), .second, .val (.int v1), .unset, .unset, .unset, .unset, .unset, .unset, .unset, .unset, .unset, .unset, .unset, .unset] [])) (fun t k => XS.istore X0.here hx rfl (hb hby at_6) rfl (l' := #[.val (.long arg0), .second, .val (.int arg1), .val (.int arg2), .val (.long arg3), .second, .val (.long arg4), .second, .val (.long arg5), .second, .val (.int v1), .unset, .unset, .unset, .unset, .unset, .unset, .unset, .unset, .unset, .unset, .unset, .unset]) rfl k) ?_
  refine own_st (B := s₁.setTop (mkF m 9 #[.val (.long arg0), .second, .val (.int arg1), .val (.int arg2), .val (.long arg3), .second, .val (.long arg4), .second, .val (.long arg5), .second, .val (.int v1), .unset, .unset, .unset, .unset, .unset, .unset, .unset, .unset, .unset, .unset, .unset, .unset] [(.int arg2)])) (fun t k => XS.iloadN X0.here hx rfl (hb hby at_8) rfl k) ?_
  refine own_st (B := s₁.setTop (mkF m 10 #[.val (.long arg0), .second, .val (.int arg1), .val (.int arg2), .val (.long arg3), .second, .val (.long arg4), .second, .val (.long arg5), .second, .val (.int v1), .unset, .unset, .unset, .unset, .unset, .unset, .unset, .unset, .unset, .unset, .unset, .unset] [(.int (3 : Int32)), (.int arg2)])) (fun t k => XS.iconst X0.here hx rfl (hb hby at_9) k) ?_
  refine own_st (B := s₁.setTop (mkF m 11 #[.val (.long arg0), .second, .val (.int arg1), .val (.int arg2), .val (.long arg3), .second, .val (.long arg4), .second, .val (.long arg5), .second, .val (.int v1), .unset, .unset, .unset, .unset, .unset, .unset, .unset, .unset, .unset, .unset, .unset, .unset] [(.int (arg2 &&& (3 : Int32)))])) (fun t k => XS.iand X0.here hx rfl (hb hby at_10) rfl k) ?_
  obtain ⟨v2, ev2⟩ : ∃ z : Int32, z = (arg2 &&& (3 : Int32)) := ⟨_, rfl⟩
  rw [← ev2]
  refine own_st (B := s₁.setTop (mkF m 13 #[.val (.long arg0), .second, .val (.int arg1), .val (.int arg2), .val (.long arg3), .second, .val (.long arg4), .second, .val (.long arg5), .second, .val (.int v1), .val (.int v2), .unset, .unset, .unset, .unset, .unset, .unset, .unset, .unset, .unset, .unset, .unset] [])) (fun t k => XS.istore X0.here hx rfl (hb hby at_11) rfl (l' := #[.val (.long arg0), .second, .val (.int arg1), .val (.int arg2), .val (.long arg3), .second, .val (.long arg4), .second, .val (.long arg5), .second, .val (.int v1), .val (.int v2), .unset, .unset, .unset, .unset, .unset, .unset, .unset, .unset, .unset, .unset, .unset]) rfl k) ?_
  refine own_st (B := s₁.setTop (mkF m 15 #[.val (.long arg0), .second, .val (.int arg1), .val (.int arg2), .val (.long arg3), .second, .val (.long arg4), .second, .val (.long arg5), .second, .val (.int v1), .val (.int v2), .unset, .unset, .unset, .unset, .unset, .unset, .unset, .unset, .unset, .unset, .unset] [(.long arg3)])) (fun t k => XS.lload X0.here hx rfl (hb hby at_13) rfl k) ?_
  obtain ⟨_, _, ⟨T3, L3, k3, j3⟩, -, X3, ⟨Lc3, hQ3, l3, y3_, z3_⟩, st3⟩ := Jvm.LawKit.callS X0 hx (y := (⟨"com/example/goodput/goodput/PublisherTallyGetSentInWindowPinLaw", "offset", "(J)J"⟩ : MethodName)) hown (mvT hZ (w_1 hw)) (mvT hZ (w_2 hw)) (mvT hZ (w_3 hw)) (mvT hZ (w_4 hw)) (by decide) (backOf (W := 0) (rm1 l Z a0 hw [] arg3 h0 n0 Z0 ) hZ (w_4 hw) (w_3 hw) (by decide) (by decide)) (g := (mkF m 15 #[.val (.long arg0), .second, .val (.int arg1), .val (.int arg2), .val (.long arg3), .second, .val (.long arg4), .second, .val (.long arg5), .second, .val (.int v1), .val (.int v2), .unset, .unset, .unset, .unset, .unset, .unset, .unset, .unset, .unset, .unset, .unset] [(.long arg3)])) rfl (by rw [hml]; rfl) (argsL := [(.long arg3)]) (rest := []) (lenOf own_pd7 rfl) rfl (by show 2 * 0 + _ ≤ _; exact Nat.le_of_eq rfl) (hb hby at_15) (fun _ _ => ⟨rfl, e0, (by decide : 0 + 0 ≤ _), (by decide : 0 + 0 ≤ _)⟩)
  dsimp only [Pt.U, Pt.locs, Pt.cells, Pt.slots] at X3 l3 y3_ z3_ st3 hQ3
  subst l3 y3_ z3_
  obtain ⟨rfl, N3q, e3q⟩ := hQ3
  have N3 := Fr.app N0 N3q
  refine own_st (B := T3.setTop (mkF m 18 #[.val (.long arg0), .second, .val (.int arg1), .val (.int arg2), .val (.long arg3), .second, .val (.long arg4), .second, .val (.long arg5), .second, .val (.int v1), .val (.int v2), .unset, .unset, .unset, .unset, .unset, .unset, .unset, .unset, .unset, .unset, .unset] [(.long ((arg3 &&& (9223372036854775807 : Int64)) % (6000000000 : Int64)))])) (fun t k => st3 t k) ?_
  obtain ⟨v4, ev4⟩ : ∃ z : Int64, z = ((arg3 &&& (9223372036854775807 : Int64)) % (6000000000 : Int64)) := ⟨_, rfl⟩
  rw [← ev4]
  refine own_st (B := T3.setTop (mkF m 20 #[.val (.long arg0), .second, .val (.int arg1), .val (.int arg2), .val (.long arg3), .second, .val (.long arg4), .second, .val (.long arg5), .second, .val (.int v1), .val (.int v2), .val (.long v4), .second, .unset, .unset, .unset, .unset, .unset, .unset, .unset, .unset, .unset] [])) (fun t k => XS.lstore X3.here hx rfl (hb hby at_18) rfl (l' := #[.val (.long arg0), .second, .val (.int arg1), .val (.int arg2), .val (.long arg3), .second, .val (.long arg4), .second, .val (.long arg5), .second, .val (.int v1), .val (.int v2), .val (.long v4), .second, .unset, .unset, .unset, .unset, .unset, .unset, .unset, .unset, .unset]) rfl k) ?_
  refine own_st (B := T3.setTop (mkF m 22 #[.val (.long arg0), .second, .val (.int arg1), .val (.int arg2), .val (.long arg3), .second, .val (.long arg4), .second, .val (.long arg5), .second, .val (.int v1), .val (.int v2), .val (.long v4), .second, .unset, .unset, .unset, .unset, .unset, .unset, .unset, .unset, .unset] [(.long arg4)])) (fun t k => XS.lload X3.here hx rfl (hb hby at_20) rfl k) ?_
  obtain ⟨_, _, ⟨T5, L5, k5, j5⟩, -, X5, ⟨Lc5, hQ5, l5, y5_, z5_⟩, st5⟩ := Jvm.LawKit.callS X3 hx (y := (⟨"com/example/goodput/goodput/PublisherTallyGetSentInWindowPinLaw", "offset", "(J)J"⟩ : MethodName)) hown (mvT hZ (w_1 hw)) (mvT hZ (w_2 hw)) (mvT hZ (w_3 hw)) (mvT hZ (w_4 hw)) (by decide) (backOf (W := 0) (rm1 l Z a0 hw [] arg4 h0 n0 Z0 ) hZ (w_4 hw) (w_3 hw) (by decide) (by decide)) (g := (mkF m 22 #[.val (.long arg0), .second, .val (.int arg1), .val (.int arg2), .val (.long arg3), .second, .val (.long arg4), .second, .val (.long arg5), .second, .val (.int v1), .val (.int v2), .val (.long v4), .second, .unset, .unset, .unset, .unset, .unset, .unset, .unset, .unset, .unset] [(.long arg4)])) rfl (by rw [hml]; rfl) (argsL := [(.long arg4)]) (rest := []) (lenOf own_pd7 rfl) rfl (by show 2 * 0 + _ ≤ _; exact Nat.le_of_eq rfl) (hb hby at_22) (fun _ _ => ⟨rfl, e3q, (by decide : 0 + 0 ≤ _), (by decide : 0 + 0 ≤ _)⟩)
  dsimp only [Pt.U, Pt.locs, Pt.cells, Pt.slots] at X5 l5 y5_ z5_ st5 hQ5
  subst l5 y5_ z5_
  obtain ⟨rfl, N5q, e5q⟩ := hQ5
  have N5 := Fr.app N3 N5q
  refine own_st (B := T5.setTop (mkF m 25 #[.val (.long arg0), .second, .val (.int arg1), .val (.int arg2), .val (.long arg3), .second, .val (.long arg4), .second, .val (.long arg5), .second, .val (.int v1), .val (.int v2), .val (.long v4), .second, .unset, .unset, .unset, .unset, .unset, .unset, .unset, .unset, .unset] [(.long ((arg4 &&& (9223372036854775807 : Int64)) % (6000000000 : Int64)))])) (fun t k => st5 t k) ?_
  obtain ⟨v6, ev6⟩ : ∃ z : Int64, z = ((arg4 &&& (9223372036854775807 : Int64)) % (6000000000 : Int64)) := ⟨_, rfl⟩
  rw [← ev6]
  refine own_st (B := T5.setTop (mkF m 27 #[.val (.long arg0), .second, .val (.int arg1), .val (.int arg2), .val (.long arg3), .second, .val (.long arg4), .second, .val (.long arg5), .second, .val (.int v1), .val (.int v2), .val (.long v4), .second, .val (.long v6), .second, .unset, .unset, .unset, .unset, .unset, .unset, .unset] [])) (fun t k => XS.lstore X5.here hx rfl (hb hby at_25) rfl (l' := #[.val (.long arg0), .second, .val (.int arg1), .val (.int arg2), .val (.long arg3), .second, .val (.long arg4), .second, .val (.long arg5), .second, .val (.int v1), .val (.int v2), .val (.long v4), .second, .val (.long v6), .second, .unset, .unset, .unset, .unset, .unset, .unset, .unset]) rfl k) ?_
  refine own_st (B := T5.setTop (mkF m 29 #[.val (.long arg0), .second, .val (.int arg1), .val (.int arg2), .val (.long arg3), .second, .val (.long arg4), .second, .val (.long arg5), .second, .val (.int v1), .val (.int v2), .val (.long v4), .second, .val (.long v6), .second, .unset, .unset, .unset, .unset, .unset, .unset, .unset] [(.long arg5)])) (fun t k => XS.lload X5.here hx rfl (hb hby at_27) rfl k) ?_
  obtain ⟨_, _, ⟨T7, L7, k7, j7⟩, -, X7, ⟨Lc7, hQ7, l7, y7_, z7_⟩, st7⟩ := Jvm.LawKit.callS X5 hx (y := (⟨"com/example/goodput/goodput/PublisherTallyGetSentInWindowPinLaw", "offset", "(J)J"⟩ : MethodName)) hown (mvT hZ (w_1 hw)) (mvT hZ (w_2 hw)) (mvT hZ (w_3 hw)) (mvT hZ (w_4 hw)) (by decide) (backOf (W := 0) (rm1 l Z a0 hw [] arg5 h0 n0 Z0 ) hZ (w_4 hw) (w_3 hw) (by decide) (by decide)) (g := (mkF m 29 #[.val (.long arg0), .second, .val (.int arg1), .val (.int arg2), .val (.long arg3), .second, .val (.long arg4), .second, .val (.long arg5), .second, .val (.int v1), .val (.int v2), .val (.long v4), .second, .val (.long v6), .second, .unset, .unset, .unset, .unset, .unset, .unset, .unset] [(.long arg5)])) rfl (by rw [hml]; rfl) (argsL := [(.long arg5)]) (rest := []) (lenOf own_pd7 rfl) rfl (by show 2 * 0 + _ ≤ _; exact Nat.le_of_eq rfl) (hb hby at_29) (fun _ _ => ⟨rfl, e5q, (by decide : 0 + 0 ≤ _), (by decide : 0 + 0 ≤ _)⟩)
  dsimp only [Pt.U, Pt.locs, Pt.cells, Pt.slots] at X7 l7 y7_ z7_ st7 hQ7
  subst l7 y7_ z7_
  obtain ⟨rfl, N7q, e7q⟩ := hQ7
  have N7 := Fr.app N5 N7q
  refine own_st (B := T7.setTop (mkF m 32 #[.val (.long arg0), .second, .val (.int arg1), .val (.int arg2), .val (.long arg3), .second, .val (.long arg4), .second, .val (.long arg5), .second, .val (.int v1), .val (.int v2), .val (.long v4), .second, .val (.long v6), .second, .unset, .unset, .unset, .unset, .unset, .unset, .unset] [(.long ((arg5 &&& (9223372036854775807 : Int64)) % (6000000000 : Int64)))])) (fun t k => st7 t k) ?_
  obtain ⟨v8, ev8⟩ : ∃ z : Int64, z = ((arg5 &&& (9223372036854775807 : Int64)) % (6000000000 : Int64)) := ⟨_, rfl⟩
  rw [← ev8]
  refine own_st (B := T7.setTop (mkF m 34 #[.val (.long arg0), .second, .val (.int arg1), .val (.int arg2), .val (.long arg3), .second, .val (.long arg4), .second, .val (.long arg5), .second, .val (.int v1), .val (.int v2), .val (.long v4), .second, .val (.long v6), .second, .val (.long v8), .second, .unset, .unset, .unset, .unset, .unset] [])) (fun t k => XS.lstore X7.here hx rfl (hb hby at_32) rfl (l' := #[.val (.long arg0), .second, .val (.int arg1), .val (.int arg2), .val (.long arg3), .second, .val (.long arg4), .second, .val (.long arg5), .second, .val (.int v1), .val (.int v2), .val (.long v4), .second, .val (.long v6), .second, .val (.long v8), .second, .unset, .unset, .unset, .unset, .unset]) rfl k) ?_
  refine own_st (B := T7.setTop (mkF m 36 #[.val (.long arg0), .second, .val (.int arg1), .val (.int arg2), .val (.long arg3), .second, .val (.long arg4), .second, .val (.long arg5), .second, .val (.int v1), .val (.int v2), .val (.long v4), .second, .val (.long v6), .second, .val (.long v8), .second, .unset, .unset, .unset, .unset, .unset] [(.int v1)])) (fun t k => XS.iload X7.here hx rfl (hb hby at_34) rfl k) ?_
  refine own_st (B := T7.setTop (mkF m 37 #[.val (.long arg0), .second, .val (.int arg1), .val (.int arg2), .val (.long arg3), .second, .val (.long arg4), .second, .val (.long arg5), .second, .val (.int v1), .val (.int v2), .val (.long v4), .second, .val (.long v6), .second, .val (.long v8), .second, .unset, .unset, .unset, .unset, .unset] [(.long (v1.toInt64))])) (fun t k => XS.i2l X7.here hx rfl (hb hby at_36) rfl k) ?_
  refine own_st (B := T7.setTop (mkF m 40 #[.val (.long arg0), .second, .val (.int arg1), .val (.int arg2), .val (.long arg3), .second, .val (.long arg4), .second, .val (.long arg5), .second, .val (.int v1), .val (.int v2), .val (.long v4), .second, .val (.long v6), .second, .val (.long v8), .second, .unset, .unset, .unset, .unset, .unset] [(.long (1000000000 : Int64)), (.long (v1.toInt64))])) (fun t k => X7.ldc2Long hx hown (mvT hZ (w_7 hw)) (g := (mkF m 37 #[.val (.long arg0), .second, .val (.int arg1), .val (.int arg2), .val (.long arg3), .second, .val (.long arg4), .second, .val (.long arg5), .second, .val (.int v1), .val (.int v2), .val (.long v4), .second, .val (.long v6), .second, .val (.long v8), .second, .unset, .unset, .unset, .unset, .unset] [(.long (v1.toInt64))])) rfl (hb hby at_37) _ k) ?_
  refine own_st (B := T7.setTop (mkF m 41 #[.val (.long arg0), .second, .val (.int arg1), .val (.int arg2), .val (.long arg3), .second, .val (.long arg4), .second, .val (.long arg5), .second, .val (.int v1), .val (.int v2), .val (.long v4), .second, .val (.long v6), .second, .val (.long v8), .second, .unset, .unset, .unset, .unset, .unset] [(.long ((v1.toInt64) * (1000000000 : Int64)))])) (fun t k => XS.lmul X7.here hx rfl (hb hby at_40) rfl k) ?_
  obtain ⟨v9, ev9⟩ : ∃ z : Int64, z = ((v1.toInt64) * (1000000000 : Int64)) := ⟨_, rfl⟩
  rw [← ev9]
  refine own_st (B := T7.setTop (mkF m 43 #[.val (.long arg0), .second, .val (.int arg1), .val (.int arg2), .val (.long arg3), .second, .val (.long arg4), .second, .val (.long arg5), .second, .val (.int v1), .val (.int v2), .val (.long v4), .second, .val (.long v6), .second, .val (.long v8), .second, .val (.long v9), .second, .unset, .unset, .unset] [])) (fun t k => XS.lstore X7.here hx rfl (hb hby at_41) rfl (l' := #[.val (.long arg0), .second, .val (.int arg1), .val (.int arg2), .val (.long arg3), .second, .val (.long arg4), .second, .val (.long arg5), .second, .val (.int v1), .val (.int v2), .val (.long v4), .second, .val (.long v6), .second, .val (.long v8), .second, .val (.long v9), .second, .unset, .unset, .unset]) rfl k) ?_
  obtain ⟨T10, h10, X10, e10, E10, A10, D10, -, st10⟩ := newO X7 hx hZ hown (w_8 hw) (w_9 hw) (w_10 hw) e7q (g := (mkF m 43 #[.val (.long arg0), .second, .val (.int arg1), .val (.int arg2), .val (.long arg3), .second, .val (.long arg4), .second, .val (.long arg5), .second, .val (.int v1), .val (.int v2), .val (.long v4), .second, .val (.long v6), .second, .val (.long v8), .second, .val (.long v9), .second, .unset, .unset, .unset] [])) rfl (hb hby at_43) (by decide) (by decide)
  obtain ⟨b10, g10⟩ : ∃ z, z = h0.size := ⟨_, rfl⟩
  rw [← g10] at A10 D10 st10
  have u10 : n0 ≤ b10 := Nat.le_trans Z0 (Nat.le_of_eq g10.symm)
  have z11 : n0 ≤ h10.size := Nat.le_trans Z0 E10.1
  have f12 : Fld Z h10 b10 "com/example/goodput/goodput/PublisherTally" "confirmed" "Ljava/util/BitSet;" .null := D10 (Or.inl (w_40 hw)) (ty := (.object "java/util/BitSet")) (by decide)
  have f13 : Fld Z h10 b10 "com/example/goodput/goodput/PublisherTally" "windowStart" "J" (.long (0 : Int64)) := D10 (Or.inr (w_42 hw)) (ty := .long) (by decide)
  have f14 : Fld Z h10 b10 "com/example/goodput/goodput/PublisherTally" "sentPerSecond" "[J" .null := D10 (Or.inr (w_44 hw)) (ty := (.array .long)) (by decide)
  have f15 : Fld Z h10 b10 "com/example/goodput/goodput/PublisherTally" "sent" "J" (.long (0 : Int64)) := D10 (Or.inl (w_51 hw)) (ty := .long) (by decide)
  have f16 : Fld Z h10 b10 "com/example/goodput/goodput/PublisherTally" "publishDelayMax" "J" (.long (0 : Int64)) := D10 (Or.inl (w_53 hw)) (ty := .long) (by decide)
  refine own_st (B := T10.setTop (mkF m 46 #[.val (.long arg0), .second, .val (.int arg1), .val (.int arg2), .val (.long arg3), .second, .val (.long arg4), .second, .val (.long arg5), .second, .val (.int v1), .val (.int v2), .val (.long v4), .second, .val (.long v6), .second, .val (.long v8), .second, .val (.long v9), .second, .unset, .unset, .unset] [(.ref b10)])) (fun t k => st10 t k) ?_
  refine own_st (B := T10.setTop (mkF m 47 #[.val (.long arg0), .second, .val (.int arg1), .val (.int arg2), .val (.long arg3), .second, .val (.long arg4), .second, .val (.long arg5), .second, .val (.int v1), .val (.int v2), .val (.long v4), .second, .val (.long v6), .second, .val (.long v8), .second, .val (.long v9), .second, .unset, .unset, .unset] [(.ref b10), (.ref b10)])) (fun t k => XS.dup X10.here hx rfl (hb hby at_46) rfl rfl k) ?_
  refine own_st (B := T10.setTop (mkF m 48 #[.val (.long arg0), .second, .val (.int arg1), .val (.int arg2), .val (.long arg3), .second, .val (.long arg4), .second, .val (.long arg5), .second, .val (.int v1), .val (.int v2), .val (.long v4), .second, .val (.long v6), .second, .val (.long v8), .second, .val (.long v9), .second, .unset, .unset, .unset] [(.long arg0), (.ref b10), (.ref b10)])) (fun t k => XS.lloadN X10.here hx rfl (hb hby at_47) rfl k) ?_
  refine own_st (B := T10.setTop (mkF m 50 #[.val (.long arg0), .second, .val (.int arg1), .val (.int arg2), .val (.long arg3), .second, .val (.long arg4), .second, .val (.long arg5), .second, .val (.int v1), .val (.int v2), .val (.long v4), .second, .val (.long v6), .second, .val (.long v8), .second, .val (.long v9), .second, .unset, .unset, .unset] [(.int v1), (.long arg0), (.ref b10), (.ref b10)])) (fun t k => XS.iload X10.here hx rfl (hb hby at_48) rfl k) ?_
  obtain ⟨_, _, ⟨T17, L17, k17, j17⟩, -, X17, ⟨Lc17, hQ17, l17, y17_, z17_⟩, st17⟩ := X10.specialBack hx (y := (⟨"com/example/goodput/goodput/PublisherTally", "<init>", "(JI)V"⟩ : MethodName)) rfl hown (mvT hZ (w_11 hw)) (mvT hZ (w_12 hw)) (mvT hZ (w_13 hw)) (by decide) (backOf (W := 1) (rm2 l Z a0 hw [] b10 arg0 v1 (v1.toInt.toNat) h10 n0 z11 A10 f12 f13 f14 f15 f16 u10 (show v1.toInt = ((v1.toInt.toNat) : Int) by have := own_dur ev1; omega) (show (v1.toInt.toNat) ≤ 4 by have := own_dur ev1; omega)) hZ (w_13 hw) (w_10 hw) (by decide) (by decide)) (g := (mkF m 50 #[.val (.long arg0), .second, .val (.int arg1), .val (.int arg2), .val (.long arg3), .second, .val (.long arg4), .second, .val (.long arg5), .second, .val (.int v1), .val (.int v2), .val (.long v4), .second, .val (.long v6), .second, .val (.long v8), .second, .val (.long v9), .second, .unset, .unset, .unset] [(.int v1), (.long arg0), (.ref b10), (.ref b10)])) rfl (by rw [hml]; rfl) (Steps.refl _) (a := b10) (argsL := [(.long arg0), (.int v1)]) (rest := [(.ref b10)]) (lenOf own_pd8 rfl) rfl (by show 2 * 0 + _ ≤ _; exact Nat.le_of_eq rfl) (hb hby at_50) (fun _ _ => ⟨rfl, e10, (by decide : 1 + 3 ≤ _), (by decide : 5 + 8 ≤ _)⟩)
  dsimp only [Pt.U, Pt.locs, Pt.cells, Pt.slots] at X17 l17 y17_ z17_ st17 hQ17
  subst l17 y17_ z17_
  obtain ⟨b_17, rfl, N17q, K17, u17_b, y17_b, p17_0, p17_1, p17_2, p17_3, p17_4, p17_5, p17_6⟩ := hQ17
  have N17 := Fr.app N7 N17q
  have q17_b_b10 : b10 ≠ b_17 := Nat.ne_of_lt (Nat.lt_of_lt_of_le A10.lt y17_b)
  have z18 : n0 ≤ T17.heap.size := Nat.le_trans z11 K17.1
  refine own_ss (B := T17.setTop (mkF m 53 #[.val (.long arg0), .second, .val (.int arg1), .val (.int arg2), .val (.long arg3), .second, .val (.long arg4), .second, .val (.long arg5), .second, .val (.int v1), .val (.int v2), .val (.long v4), .second, .val (.long v6), .second, .val (.long v8), .second, .val (.long v9), .second, .unset, .unset, .unset] [(.ref b10)])) st17 ?_
  refine own_st (B := T17.setTop (mkF m 55 #[.val (.long arg0), .second, .val (.int arg1), .val (.int arg2), .val (.long arg3), .second, .val (.long arg4), .second, .val (.long arg5), .second, .val (.int v1), .val (.int v2), .val (.long v4), .second, .val (.long v6), .second, .val (.long v8), .second, .val (.long v9), .second, .val (.ref b10), .unset, .unset] [])) (fun t k => XS.astore X17.here hx rfl (hb hby at_53) rfl rfl (l' := #[.val (.long arg0), .second, .val (.int arg1), .val (.int arg2), .val (.long arg3), .second, .val (.long arg4), .second, .val (.long arg5), .second, .val (.int v1), .val (.int v2), .val (.long v4), .second, .val (.long v6), .second, .val (.long v8), .second, .val (.long v9), .second, .val (.ref b10), .unset, .unset]) rfl k) ?_
  refine own_st (B := T17.setTop (mkF m 56 #[.val (.long arg0), .second, .val (.int arg1), .val (.int arg2), .val (.long arg3), .second, .val (.long arg4), .second, .val (.long arg5), .second, .val (.int v1), .val (.int v2), .val (.long v4), .second, .val (.long v6), .second, .val (.long v8), .second, .val (.long v9), .second, .val (.ref b10), .unset, .unset] [(.long (0 : Int64))])) (fun t k => XS.lconst X17.here hx rfl (hb hby at_55) k) ?_
  refine own_st (B := T17.setTop (mkF m 58 #[.val (.long arg0), .second, .val (.int arg1), .val (.int arg2), .val (.long arg3), .second, .val (.long arg4), .second, .val (.long arg5), .second, .val (.int v1), .val (.int v2), .val (.long v4), .second, .val (.long v6), .second, .val (.long v8), .second, .val (.long v9), .second, .val (.ref b10), .val (.long (0 : Int64)), .second] [])) (fun t k => XS.lstore X17.here hx rfl (hb hby at_56) rfl (l' := #[.val (.long arg0), .second, .val (.int arg1), .val (.int arg2), .val (.long arg3), .second, .val (.long arg4), .second, .val (.long arg5), .second, .val (.int v1), .val (.int v2), .val (.long v4), .second, .val (.long v6), .second, .val (.long v8), .second, .val (.long v9), .second, .val (.ref b10), .val (.long (0 : Int64)), .second]) rfl k) ?_
  refine own_st (B := T17.setTop (mkF m 60 #[.val (.long arg0), .second, .val (.int arg1), .val (.int arg2), .val (.long arg3), .second, .val (.long arg4), .second, .val (.long arg5), .second, .val (.int v1), .val (.int v2), .val (.long v4), .second, .val (.long v6), .second, .val (.long v8), .second, .val (.long v9), .second, .val (.ref b10), .val (.long (0 : Int64)), .second] [(.int v2)])) (fun t k => XS.iload X17.here hx rfl (hb hby at_58) rfl k) ?_
  refine own_st (B := T17.setTop (mkF m 61 #[.val (.long arg0), .second, .val (.int arg1), .val (.int arg2), .val (.long arg3), .second, .val (.long arg4), .second, .val (.long arg5), .second, .val (.int v1), .val (.int v2), .val (.long v4), .second, .val (.long v6), .second, .val (.long v8), .second, .val (.long v9), .second, .val (.ref b10), .val (.long (0 : Int64)), .second] [(.int (1 : Int32)), (.int v2)])) (fun t k => XS.iconst X17.here hx rfl (hb hby at_60) k) ?_
  by_cases hc19 : v2 < (1 : Int32)
  · refine own_st (B := T17.setTop (mkF m 88 #[.val (.long arg0), .second, .val (.int arg1), .val (.int arg2), .val (.long arg3), .second, .val (.long arg4), .second, .val (.long arg5), .second, .val (.int v1), .val (.int v2), .val (.long v4), .second, .val (.long v6), .second, .val (.long v8), .second, .val (.long v9), .second, .val (.ref b10), .val (.long (0 : Int64)), .second] [])) (fun t k => XS.icmpYes X17.here hx rfl (pc0 := 61) (pc' := 88) rfl (hb hby at_61) rfl (XT.ii_lt_t hc19) (by decide) (by decide) k) ?_
    refine own_st (B := T17.setTop (mkF m 90 #[.val (.long arg0), .second, .val (.int arg1), .val (.int arg2), .val (.long arg3), .second, .val (.long arg4), .second, .val (.long arg5), .second, .val (.int v1), .val (.int v2), .val (.long v4), .second, .val (.long v6), .second, .val (.long v8), .second, .val (.long v9), .second, .val (.ref b10), .val (.long (0 : Int64)), .second] [(.int v2)])) (fun t k => XS.iload X17.here hx rfl (hb hby at_88) rfl k) ?_
    refine own_st (B := T17.setTop (mkF m 91 #[.val (.long arg0), .second, .val (.int arg1), .val (.int arg2), .val (.long arg3), .second, .val (.long arg4), .second, .val (.long arg5), .second, .val (.int v1), .val (.int v2), .val (.long v4), .second, .val (.long v6), .second, .val (.long v8), .second, .val (.long v9), .second, .val (.ref b10), .val (.long (0 : Int64)), .second] [(.int (2 : Int32)), (.int v2)])) (fun t k => XS.iconst X17.here hx rfl (hb hby at_90) k) ?_
    have hc20 : v2 < (2 : Int32) := by
      rw [Int32.lt_iff_toInt_lt] at hc19 ⊢
      have h1 : (2 : Int32).toInt = 2 := rfl
      have h2 : (1 : Int32).toInt = 1 := rfl
      omega
    refine own_st (B := T17.setTop (mkF m 118 #[.val (.long arg0), .second, .val (.int arg1), .val (.int arg2), .val (.long arg3), .second, .val (.long arg4), .second, .val (.long arg5), .second, .val (.int v1), .val (.int v2), .val (.long v4), .second, .val (.long v6), .second, .val (.long v8), .second, .val (.long v9), .second, .val (.ref b10), .val (.long (0 : Int64)), .second] [])) (fun t k => XS.icmpYes X17.here hx rfl (pc0 := 91) (pc' := 118) rfl (hb hby at_91) rfl (XT.ii_lt_t hc20) (by decide) (by decide) k) ?_
    refine own_st (B := T17.setTop (mkF m 120 #[.val (.long arg0), .second, .val (.int arg1), .val (.int arg2), .val (.long arg3), .second, .val (.long arg4), .second, .val (.long arg5), .second, .val (.int v1), .val (.int v2), .val (.long v4), .second, .val (.long v6), .second, .val (.long v8), .second, .val (.long v9), .second, .val (.ref b10), .val (.long (0 : Int64)), .second] [(.int v2)])) (fun t k => XS.iload X17.here hx rfl (hb hby at_118) rfl k) ?_
    refine own_st (B := T17.setTop (mkF m 121 #[.val (.long arg0), .second, .val (.int arg1), .val (.int arg2), .val (.long arg3), .second, .val (.long arg4), .second, .val (.long arg5), .second, .val (.int v1), .val (.int v2), .val (.long v4), .second, .val (.long v6), .second, .val (.long v8), .second, .val (.long v9), .second, .val (.ref b10), .val (.long (0 : Int64)), .second] [(.int (3 : Int32)), (.int v2)])) (fun t k => XS.iconst X17.here hx rfl (hb hby at_120) k) ?_
    have hc21 : v2 < (3 : Int32) := by
      rw [Int32.lt_iff_toInt_lt] at hc19 ⊢
      have h1 : (3 : Int32).toInt = 3 := rfl
      have h2 : (1 : Int32).toInt = 1 := rfl
      have h3 : (2 : Int32).toInt = 2 := rfl
      omega
    refine own_st (B := T17.setTop (mkF m 148 #[.val (.long arg0), .second, .val (.int arg1), .val (.int arg2), .val (.long arg3), .second, .val (.long arg4), .second, .val (.long arg5), .second, .val (.int v1), .val (.int v2), .val (.long v4), .second, .val (.long v6), .second, .val (.long v8), .second, .val (.long v9), .second, .val (.ref b10), .val (.long (0 : Int64)), .second] [])) (fun t k => XS.icmpYes X17.here hx rfl (pc0 := 121) (pc' := 148) rfl (hb hby at_121) rfl (XT.ii_lt_t hc21) (by decide) (by decide) k) ?_
    refine own_st (B := T17.setTop (mkF m 150 #[.val (.long arg0), .second, .val (.int arg1), .val (.int arg2), .val (.long arg3), .second, .val (.long arg4), .second, .val (.long arg5), .second, .val (.int v1), .val (.int v2), .val (.long v4), .second, .val (.long v6), .second, .val (.long v8), .second, .val (.long v9), .second, .val (.ref b10), .val (.long (0 : Int64)), .second] [(.ref b10)])) (fun t k => XS.aload X17.here hx rfl (hb hby at_148) rfl rfl k) ?_
    obtain ⟨cq22, kq22, q22a, q22b, q22c⟩ := isOf hZ rfl p17_0
    obtain ⟨_, _, ⟨T22, L22, k22, j22⟩, -, X22, ⟨Lc22, hQ22, l22, y22_, z22_⟩, st22⟩ := X17.virtualBack hx (y := (⟨"com/example/goodput/goodput/PublisherTally", "getSentInWindow", "()J"⟩ : MethodName)) (z := (⟨"com/example/goodput/goodput/PublisherTally", "getSentInWindow", "()J"⟩ : MethodName)) hown (mvT hZ (w_59 hw)) (mvT hZ (w_60 hw)) (notFace_of_selects (args := #[]) (mvT hZ (w_62 hw))) (mvT hZ (w_62 hw)) (mvT hZ (w_61 hw)) (by decide) (backOf (W := 0) (rm9 l Z a0 hw [] b10 b_17 (List.replicate (v1.toInt.toNat) (0 : Int64)) T17.heap n0 z18 p17_2 p17_5 (show (List.replicate (v1.toInt.toNat) (0 : Int64)).length < 1000 by simp only [own_upd_len, List.length_replicate]; have := own_dur ev1; omega)) hZ (w_63 hw) (w_10 hw) (by decide) (by decide)) q22a q22c (g := (mkF m 150 #[.val (.long arg0), .second, .val (.int arg1), .val (.int arg2), .val (.long arg3), .second, .val (.long arg4), .second, .val (.long arg5), .second, .val (.int v1), .val (.int v2), .val (.long v4), .second, .val (.long v6), .second, .val (.long v8), .second, .val (.long v9), .second, .val (.ref b10), .val (.long (0 : Int64)), .second] [(.ref b10)])) rfl (by rw [hml]; rfl) (Steps.refl _) (argsL := []) (rest := []) (lenOf own_pd9 rfl) rfl (by show 2 * 0 + _ ≤ _; exact Nat.le_of_eq rfl) (hb hby at_150) (fun _ _ => ⟨rfl, rfl, (by decide : 4 + 0 ≤ _), (by decide : 13 + 0 ≤ _)⟩)
    dsimp only [Pt.U, Pt.locs, Pt.cells, Pt.slots] at X22 l22 y22_ z22_ st22 hQ22
    subst l22 y22_ z22_
    obtain ⟨rfl, N22q, e22q⟩ := hQ22
    have N22 := Fr.app N17 N22q
    refine own_ss (B := T22.setTop (mkF m 153 #[.val (.long arg0), .second, .val (.int arg1), .val (.int arg2), .val (.long arg3), .second, .val (.long arg4), .second, .val (.long arg5), .second, .val (.int v1), .val (.int v2), .val (.long v4), .second, .val (.long v6), .second, .val (.long v8), .second, .val (.long v9), .second, .val (.ref b10), .val (.long (0 : Int64)), .second] [(.long (own_sum (List.replicate (v1.toInt.toNat) (0 : Int64))))])) st22 ?_
    refine own_st (B := T22.setTop (mkF m 155 #[.val (.long arg0), .second, .val (.int arg1), .val (.int arg2), .val (.long arg3), .second, .val (.long arg4), .second, .val (.long arg5), .second, .val (.int v1), .val (.int v2), .val (.long v4), .second, .val (.long v6), .second, .val (.long v8), .second, .val (.long v9), .second, .val (.ref b10), .val (.long (0 : Int64)), .second] [(.long (0 : Int64)), (.long (own_sum (List.replicate (v1.toInt.toNat) (0 : Int64))))])) (fun t k => XS.lload X22.here hx rfl (hb hby at_153) rfl k) ?_
    refine own_st (B := T22.setTop (mkF m 156 #[.val (.long arg0), .second, .val (.int arg1), .val (.int arg2), .val (.long arg3), .second, .val (.long arg4), .second, .val (.long arg5), .second, .val (.int v1), .val (.int v2), .val (.long v4), .second, .val (.long v6), .second, .val (.long v8), .second, .val (.long v9), .second, .val (.ref b10), .val (.long (0 : Int64)), .second] [(.int (XT.cmpL (own_sum (List.replicate (v1.toInt.toNat) (0 : Int64))) (0 : Int64)))])) (fun t k => XS.lcmp X22.here hx rfl (hb hby at_155) rfl k) ?_
    have hc23 : (own_sum (List.replicate (v1.toInt.toNat) (0 : Int64))) = (0 : Int64) := by
      exact (own_sum_zero _)
    refine own_st (B := T22.setTop (mkF m 159 #[.val (.long arg0), .second, .val (.int arg1), .val (.int arg2), .val (.long arg3), .second, .val (.long arg4), .second, .val (.long arg5), .second, .val (.int v1), .val (.int v2), .val (.long v4), .second, .val (.long v6), .second, .val (.long v8), .second, .val (.long v9), .second, .val (.ref b10), .val (.long (0 : Int64)), .second] [])) (fun t k => XS.ifNo X22.here hx rfl (hb hby at_156) rfl (XT.ll_ne_f hc23) k) ?_
    refine own_st (B := T22.setTop (mkF m 160 #[.val (.long arg0), .second, .val (.int arg1), .val (.int arg2), .val (.long arg3), .second, .val (.long arg4), .second, .val (.long arg5), .second, .val (.int v1), .val (.int v2), .val (.long v4), .second, .val (.long v6), .second, .val (.long v8), .second, .val (.long v9), .second, .val (.ref b10), .val (.long (0 : Int64)), .second] [(.int (1 : Int32))])) (fun t k => XS.iconst X22.here hx rfl (hb hby at_159) k) ?_
    refine own_st (B := T22.setTop (mkF m 164 #[.val (.long arg0), .second, .val (.int arg1), .val (.int arg2), .val (.long arg3), .second, .val (.long arg4), .second, .val (.long arg5), .second, .val (.int v1), .val (.int v2), .val (.long v4), .second, .val (.long v6), .second, .val (.long v8), .second, .val (.long v9), .second, .val (.ref b10), .val (.long (0 : Int64)), .second] [(.int (1 : Int32))])) (fun t k => XS.goto X22.here hx rfl (pc0 := 160) (pc' := 164) rfl (hb hby at_160) (by decide) (by decide) k) ?_
    refine own_retN X22 hx hlk (t := .boolean) Bd.returns (by simp) (z' := (1 : Int32)) rfl (hb hby at_164) (by decide) (by decide) ?_
    show Q0 Z arg0 arg1 arg2 arg3 arg4 arg5 h0 n0 _ T22.heap _
    rw [e22q]
    exact ⟨rfl, N22⟩
  · refine own_st (B := T17.setTop (mkF m 64 #[.val (.long arg0), .second, .val (.int arg1), .val (.int arg2), .val (.long arg3), .second, .val (.long arg4), .second, .val (.long arg5), .second, .val (.int v1), .val (.int v2), .val (.long v4), .second, .val (.long v6), .second, .val (.long v8), .second, .val (.long v9), .second, .val (.ref b10), .val (.long (0 : Int64)), .second] [])) (fun t k => XS.icmpNo X17.here hx rfl (hb hby at_61) rfl (XT.ii_lt_f hc19) k) ?_
    refine own_st (B := T17.setTop (mkF m 66 #[.val (.long arg0), .second, .val (.int arg1), .val (.int arg2), .val (.long arg3), .second, .val (.long arg4), .second, .val (.long arg5), .second, .val (.int v1), .val (.int v2), .val (.long v4), .second, .val (.long v6), .second, .val (.long v8), .second, .val (.long v9), .second, .val (.ref b10), .val (.long (0 : Int64)), .second] [(.ref b10)])) (fun t k => XS.aload X17.here hx rfl (hb hby at_64) rfl rfl k) ?_
    refine own_st (B := T17.setTop (mkF m 67 #[.val (.long arg0), .second, .val (.int arg1), .val (.int arg2), .val (.long arg3), .second, .val (.long arg4), .second, .val (.long arg5), .second, .val (.int v1), .val (.int v2), .val (.long v4), .second, .val (.long v6), .second, .val (.long v8), .second, .val (.long v9), .second, .val (.ref b10), .val (.long (0 : Int64)), .second] [(.long arg0), (.ref b10)])) (fun t k => XS.lloadN X17.here hx rfl (hb hby at_66) rfl k) ?_
    refine own_st (B := T17.setTop (mkF m 68 #[.val (.long arg0), .second, .val (.int arg1), .val (.int arg2), .val (.long arg3), .second, .val (.long arg4), .second, .val (.long arg5), .second, .val (.int v1), .val (.int v2), .val (.long v4), .second, .val (.long v6), .second, .val (.long v8), .second, .val (.long v9), .second, .val (.ref b10), .val (.long (0 : Int64)), .second] [(.long arg0), (.long arg0), (.ref b10)])) (fun t k => XS.lloadN X17.here hx rfl (hb hby at_67) rfl k) ?_
    refine own_st (B := T17.setTop (mkF m 70 #[.val (.long arg0), .second, .val (.int arg1), .val (.int arg2), .val (.long arg3), .second, .val (.long arg4), .second, .val (.long arg5), .second, .val (.int v1), .val (.int v2), .val (.long v4), .second, .val (.long v6), .second, .val (.long v8), .second, .val (.long v9), .second, .val (.ref b10), .val (.long (0 : Int64)), .second] [(.long v4), (.long arg0), (.long arg0), (.ref b10)])) (fun t k => XS.lload X17.here hx rfl (hb hby at_68) rfl k) ?_
    refine own_st (B := T17.setTop (mkF m 71 #[.val (.long arg0), .second, .val (.int arg1), .val (.int arg2), .val (.long arg3), .second, .val (.long arg4), .second, .val (.long arg5), .second, .val (.int v1), .val (.int v2), .val (.long v4), .second, .val (.long v6), .second, .val (.long v8), .second, .val (.long v9), .second, .val (.ref b10), .val (.long (0 : Int64)), .second] [(.long (arg0 + v4)), (.long arg0), (.ref b10)])) (fun t k => XS.ladd X17.here hx rfl (hb hby at_70) rfl k) ?_
    obtain ⟨cq24, kq24, q24a, q24b, q24c⟩ := isOf hZ rfl p17_0
    obtain ⟨_, _, ⟨T24, L24, k24, j24⟩, -, X24, ⟨Lc24, hQ24, l24, y24_, z24_⟩, st24⟩ := X17.virtualBack hx (y := (⟨"com/example/goodput/goodput/PublisherTally", "handedOver", "(JJ)V"⟩ : MethodName)) (z := (⟨"com/example/goodput/goodput/PublisherTally", "handedOver", "(JJ)V"⟩ : MethodName)) hown (mvT hZ (w_45 hw)) (mvT hZ (w_46 hw)) (notFace_of_selects (args := #[]) (mvT hZ (w_48 hw))) (mvT hZ (w_48 hw)) (mvT hZ (w_47 hw)) (by decide) (backOf (W := 0) (rm7 l Z a0 hw [] b10 arg0 (arg0 + v4) b_17 arg0 (0 : Int64) (0 : Int64) (List.replicate (v1.toInt.toNat) (0 : Int64)) T17.heap n0 z18 p17_0 p17_1 p17_2 p17_3 p17_4 p17_5 u10 u17_b (Ne.symm q17_b_b10) (show 0 ≤ ((arg0 + v4) - arg0).toInt by rw [own_sa]; exact (own_offs ev4).1) (show (List.replicate (v1.toInt.toNat) (0 : Int64)).length < 1000 by simp only [own_upd_len, List.length_replicate]; have := own_dur ev1; omega)) hZ (w_49 hw) (w_10 hw) (by decide) (by decide)) q24a q24c (g := (mkF m 71 #[.val (.long arg0), .second, .val (.int arg1), .val (.int arg2), .val (.long arg3), .second, .val (.long arg4), .second, .val (.long arg5), .second, .val (.int v1), .val (.int v2), .val (.long v4), .second, .val (.long v6), .second, .val (.long v8), .second, .val (.long v9), .second, .val (.ref b10), .val (.long (0 : Int64)), .second] [(.long (arg0 + v4)), (.long arg0), (.ref b10)])) rfl (by rw [hml]; rfl) (Steps.refl _) (argsL := [(.long arg0), (.long (arg0 + v4))]) (rest := []) (lenOf own_pd10 rfl) rfl (by show 2 * 0 + _ ≤ _; exact Nat.le_of_eq rfl) (hb hby at_71) (fun _ _ => ⟨rfl, rfl, (by decide : 4 + 0 ≤ _), (by decide : 13 + 0 ≤ _)⟩)
    dsimp only [Pt.U, Pt.locs, Pt.cells, Pt.slots] at X24 l24 y24_ z24_ st24 hQ24
    subst l24 y24_ z24_
    obtain ⟨rfl, N24q, K24, p24_0, p24_1, p24_2, p24_3, p24_4, p24_5⟩ := hQ24
    have N24 := Fr.app N17 N24q
    have z25 : n0 ≤ T24.heap.size := Nat.le_trans z18 K24.1
    refine own_ss (B := T24.setTop (mkF m 74 #[.val (.long arg0), .second, .val (.int arg1), .val (.int arg2), .val (.long arg3), .second, .val (.long arg4), .second, .val (.long arg5), .second, .val (.int v1), .val (.int v2), .val (.long v4), .second, .val (.long v6), .second, .val (.long v8), .second, .val (.long v9), .second, .val (.ref b10), .val (.long (0 : Int64)), .second] [])) st24 ?_
    refine own_st (B := T24.setTop (mkF m 76 #[.val (.long arg0), .second, .val (.int arg1), .val (.int arg2), .val (.long arg3), .second, .val (.long arg4), .second, .val (.long arg5), .second, .val (.int v1), .val (.int v2), .val (.long v4), .second, .val (.long v6), .second, .val (.long v8), .second, .val (.long v9), .second, .val (.ref b10), .val (.long (0 : Int64)), .second] [(.long v4)])) (fun t k => XS.lload X24.here hx rfl (hb hby at_74) rfl k) ?_
    refine own_st (B := T24.setTop (mkF m 78 #[.val (.long arg0), .second, .val (.int arg1), .val (.int arg2), .val (.long arg3), .second, .val (.long arg4), .second, .val (.long arg5), .second, .val (.int v1), .val (.int v2), .val (.long v4), .second, .val (.long v6), .second, .val (.long v8), .second, .val (.long v9), .second, .val (.ref b10), .val (.long (0 : Int64)), .second] [(.long v9), (.long v4)])) (fun t k => XS.lload X24.here hx rfl (hb hby at_76) rfl k) ?_
    refine own_st (B := T24.setTop (mkF m 79 #[.val (.long arg0), .second, .val (.int arg1), .val (.int arg2), .val (.long arg3), .second, .val (.long arg4), .second, .val (.long arg5), .second, .val (.int v1), .val (.int v2), .val (.long v4), .second, .val (.long v6), .second, .val (.long v8), .second, .val (.long v9), .second, .val (.ref b10), .val (.long (0 : Int64)), .second] [(.int (XT.cmpL v4 v9))])) (fun t k => XS.lcmp X24.here hx rfl (hb hby at_78) rfl k) ?_
    refine own_cut (P := ∀ (v28 : Int64), (v28 = (if v4 < v9 then ((0 : Int64) + (1 : Int64)) else (0 : Int64))) → own_Go p e below s (Q0 Z arg0 arg1 arg2 arg3 arg4 arg5 h0 n0) 16 128 (T24.setTop (mkF m 88 #[.val (.long arg0), .second, .val (.int arg1), .val (.int arg2), .val (.long arg3), .second, .val (.long arg4), .second, .val (.long arg5), .second, .val (.int v1), .val (.int v2), .val (.long v4), .second, .val (.long v6), .second, .val (.long v8), .second, .val (.long v9), .second, .val (.ref b10), .val (.long v28), .second] []))) (fun J29 => ?_) ?_
    · by_cases hc26 : v4 < v9
      · refine own_st (B := T24.setTop (mkF m 82 #[.val (.long arg0), .second, .val (.int arg1), .val (.int arg2), .val (.long arg3), .second, .val (.long arg4), .second, .val (.long arg5), .second, .val (.int v1), .val (.int v2), .val (.long v4), .second, .val (.long v6), .second, .val (.long v8), .second, .val (.long v9), .second, .val (.ref b10), .val (.long (0 : Int64)), .second] [])) (fun t k => XS.ifNo X24.here hx rfl (hb hby at_79) rfl (XT.ll_ge_f hc26) k) ?_
        refine own_st (B := T24.setTop (mkF m 84 #[.val (.long arg0), .second, .val (.int arg1), .val (.int arg2), .val (.long arg3), .second, .val (.long arg4), .second, .val (.long arg5), .second, .val (.int v1), .val (.int v2), .val (.long v4), .second, .val (.long v6), .second, .val (.long v8), .second, .val (.long v9), .second, .val (.ref b10), .val (.long (0 : Int64)), .second] [(.long (0 : Int64))])) (fun t k => XS.lload X24.here hx rfl (hb hby at_82) rfl k) ?_
        refine own_st (B := T24.setTop (mkF m 85 #[.val (.long arg0), .second, .val (.int arg1), .val (.int arg2), .val (.long arg3), .second, .val (.long arg4), .second, .val (.long arg5), .second, .val (.int v1), .val (.int v2), .val (.long v4), .second, .val (.long v6), .second, .val (.long v8), .second, .val (.long v9), .second, .val (.ref b10), .val (.long (0 : Int64)), .second] [(.long (1 : Int64)), (.long (0 : Int64))])) (fun t k => XS.lconst X24.here hx rfl (hb hby at_84) k) ?_
        refine own_st (B := T24.setTop (mkF m 86 #[.val (.long arg0), .second, .val (.int arg1), .val (.int arg2), .val (.long arg3), .second, .val (.long arg4), .second, .val (.long arg5), .second, .val (.int v1), .val (.int v2), .val (.long v4), .second, .val (.long v6), .second, .val (.long v8), .second, .val (.long v9), .second, .val (.ref b10), .val (.long (0 : Int64)), .second] [(.long ((0 : Int64) + (1 : Int64)))])) (fun t k => XS.ladd X24.here hx rfl (hb hby at_85) rfl k) ?_
        obtain ⟨v27, ev27⟩ : ∃ z : Int64, z = ((0 : Int64) + (1 : Int64)) := ⟨_, rfl⟩
        rw [← ev27]
        refine own_st (B := T24.setTop (mkF m 88 #[.val (.long arg0), .second, .val (.int arg1), .val (.int arg2), .val (.long arg3), .second, .val (.long arg4), .second, .val (.long arg5), .second, .val (.int v1), .val (.int v2), .val (.long v4), .second, .val (.long v6), .second, .val (.long v8), .second, .val (.long v9), .second, .val (.ref b10), .val (.long v27), .second] [])) (fun t k => XS.lstore X24.here hx rfl (hb hby at_86) rfl (l' := #[.val (.long arg0), .second, .val (.int arg1), .val (.int arg2), .val (.long arg3), .second, .val (.long arg4), .second, .val (.long arg5), .second, .val (.int v1), .val (.int v2), .val (.long v4), .second, .val (.long v6), .second, .val (.long v8), .second, .val (.long v9), .second, .val (.ref b10), .val (.long v27), .second]) rfl k) ?_
        exact J29 v27 (by subst v27; rw [if_pos hc26])
      · refine own_st (B := T24.setTop (mkF m 88 #[.val (.long arg0), .second, .val (.int arg1), .val (.int arg2), .val (.long arg3), .second, .val (.long arg4), .second, .val (.long arg5), .second, .val (.int v1), .val (.int v2), .val (.long v4), .second, .val (.long v6), .second, .val (.long v8), .second, .val (.long v9), .second, .val (.ref b10), .val (.long (0 : Int64)), .second] [])) (fun t k => XS.ifYes X24.here hx rfl (pc0 := 79) (pc' := 88) rfl (hb hby at_79) rfl (XT.ll_ge_t hc26) (by decide) (by decide) k) ?_
        exact J29 (0 : Int64) (by rw [if_neg hc26])
    intro v28 hv28
    refine own_st (B := T24.setTop (mkF m 90 #[.val (.long arg0), .second, .val (.int arg1), .val (.int arg2), .val (.long arg3), .second, .val (.long arg4), .second, .val (.long arg5), .second, .val (.int v1), .val (.int v2), .val (.long v4), .second, .val (.long v6), .second, .val (.long v8), .second, .val (.long v9), .second, .val (.ref b10), .val (.long v28), .second] [(.int v2)])) (fun t k => XS.iload X24.here hx rfl (hb hby at_88) rfl k) ?_
    refine own_st (B := T24.setTop (mkF m 91 #[.val (.long arg0), .second, .val (.int arg1), .val (.int arg2), .val (.long arg3), .second, .val (.long arg4), .second, .val (.long arg5), .second, .val (.int v1), .val (.int v2), .val (.long v4), .second, .val (.long v6), .second, .val (.long v8), .second, .val (.long v9), .second, .val (.ref b10), .val (.long v28), .second] [(.int (2 : Int32)), (.int v2)])) (fun t k => XS.iconst X24.here hx rfl (hb hby at_90) k) ?_
    by_cases hc30 : v2 < (2 : Int32)
    · refine own_st (B := T24.setTop (mkF m 118 #[.val (.long arg0), .second, .val (.int arg1), .val (.int arg2), .val (.long arg3), .second, .val (.long arg4), .second, .val (.long arg5), .second, .val (.int v1), .val (.int v2), .val (.long v4), .second, .val (.long v6), .second, .val (.long v8), .second, .val (.long v9), .second, .val (.ref b10), .val (.long v28), .second] [])) (fun t k => XS.icmpYes X24.here hx rfl (pc0 := 91) (pc' := 118) rfl (hb hby at_91) rfl (XT.ii_lt_t hc30) (by decide) (by decide) k) ?_
      refine own_st (B := T24.setTop (mkF m 120 #[.val (.long arg0), .second, .val (.int arg1), .val (.int arg2), .val (.long arg3), .second, .val (.long arg4), .second, .val (.long arg5), .second, .val (.int v1), .val (.int v2), .val (.long v4), .second, .val (.long v6), .second, .val (.long v8), .second, .val (.long v9), .second, .val (.ref b10), .val (.long v28), .second] [(.int v2)])) (fun t k => XS.iload X24.here hx rfl (hb hby at_118) rfl k) ?_
      refine own_st (B := T24.setTop (mkF m 121 #[.val (.long arg0), .second, .val (.int arg1), .val (.int arg2), .val (.long arg3), .second, .val (.long arg4), .second, .val (.long arg5), .second, .val (.int v1), .val (.int v2), .val (.long v4), .second, .val (.long v6), .second, .val (.long v8), .second, .val (.long v9), .second, .val (.ref b10), .val (.long v28), .second] [(.int (3 : Int32)), (.int v2)])) (fun t k => XS.iconst X24.here hx rfl (hb hby at_120) k) ?_
      have hc31 : v2 < (3 : Int32) := by
        rw [Int32.lt_iff_toInt_lt] at hc30 ⊢
        have h1 : (3 : Int32).toInt = 3 := rfl
        have h2 : (1 : Int32).toInt = 1 := rfl
        have h3 : (2 : Int32).toInt = 2 := rfl
        omega
      refine own_st (B := T24.setTop (mkF m 148 #[.val (.long arg0), .second, .val (.int arg1), .val (.int arg2), .val (.long arg3), .second, .val (.long arg4), .second, .val (.long arg5), .second, .val (.int v1), .val (.int v2), .val (.long v4), .second, .val (.long v6), .second, .val (.long v8), .second, .val (.long v9), .second, .val (.ref b10), .val (.long v28), .second] [])) (fun t k => XS.icmpYes X24.here hx rfl (pc0 := 121) (pc' := 148) rfl (hb hby at_121) rfl (XT.ii_lt_t hc31) (by decide) (by decide) k) ?_
      refine own_st (B := T24.setTop (mkF m 150 #[.val (.long arg0), .second, .val (.int arg1), .val (.int arg2), .val (.long arg3), .second, .val (.long arg4), .second, .val (.long arg5), .second, .val (.int v1), .val (.int v2), .val (.long v4), .second, .val (.long v6), .second, .val (.long v8), .second, .val (.long v9), .second, .val (.ref b10), .val (.long v28), .second] [(.ref b10)])) (fun t k => XS.aload X24.here hx rfl (hb hby at_148) rfl rfl k) ?_
      obtain ⟨cq32, kq32, q32a, q32b, q32c⟩ := isOf hZ rfl p24_0
      obtain ⟨_, _, ⟨T32, L32, k32, j32⟩, -, X32, ⟨Lc32, hQ32, l32, y32_, z32_⟩, st32⟩ := X24.virtualBack hx (y := (⟨"com/example/goodput/goodput/PublisherTally", "getSentInWindow", "()J"⟩ : MethodName)) (z := (⟨"com/example/goodput/goodput/PublisherTally", "getSentInWindow", "()J"⟩ : MethodName)) hown (mvT hZ (w_59 hw)) (mvT hZ (w_60 hw)) (notFace_of_selects (args := #[]) (mvT hZ (w_62 hw))) (mvT hZ (w_62 hw)) (mvT hZ (w_61 hw)) (by decide) (backOf (W := 0) (rm9 l Z a0 hw [] b10 b_17 (own_upd (List.replicate (v1.toInt.toNat) (0 : Int64)) ((((arg0 + v4) - arg0) / (1000000000 : Int64)).toInt.toNat)) T24.heap n0 z25 p24_2 p24_5 (show (own_upd (List.replicate (v1.toInt.toNat) (0 : Int64)) ((((arg0 + v4) - arg0) / (1000000000 : Int64)).toInt.toNat)).length < 1000 by simp only [own_upd_len, List.length_replicate]; have := own_dur ev1; omega)) hZ (w_63 hw) (w_10 hw) (by decide) (by decide)) q32a q32c (g := (mkF m 150 #[.val (.long arg0), .second, .val (.int arg1), .val (.int arg2), .val (.long arg3), .second, .val (.long arg4), .second, .val (.long arg5), .second, .val (.int v1), .val (.int v2), .val (.long v4), .second, .val (.long v6), .second, .val (.long v8), .second, .val (.long v9), .second, .val (.ref b10), .val (.long v28), .second] [(.ref b10)])) rfl (by rw [hml]; rfl) (Steps.refl _) (argsL := []) (rest := []) (lenOf own_pd9 rfl) rfl (by show 2 * 0 + _ ≤ _; exact Nat.le_of_eq rfl) (hb hby at_150) (fun _ _ => ⟨rfl, rfl, (by decide : 4 + 0 ≤ _), (by decide : 13 + 0 ≤ _)⟩)
      dsimp only [Pt.U, Pt.locs, Pt.cells, Pt.slots] at X32 l32 y32_ z32_ st32 hQ32
      subst l32 y32_ z32_
      obtain ⟨rfl, N32q, e32q⟩ := hQ32
      have N32 := Fr.app N24 N32q
      refine own_ss (B := T32.setTop (mkF m 153 #[.val (.long arg0), .second, .val (.int arg1), .val (.int arg2), .val (.long arg3), .second, .val (.long arg4), .second, .val (.long arg5), .second, .val (.int v1), .val (.int v2), .val (.long v4), .second, .val (.long v6), .second, .val (.long v8), .second, .val (.long v9), .second, .val (.ref b10), .val (.long v28), .second] [(.long (own_sum (own_upd (List.replicate (v1.toInt.toNat) (0 : Int64)) ((((arg0 + v4) - arg0) / (1000000000 : Int64)).toInt.toNat))))])) st32 ?_
      refine own_st (B := T32.setTop (mkF m 155 #[.val (.long arg0), .second, .val (.int arg1), .val (.int arg2), .val (.long arg3), .second, .val (.long arg4), .second, .val (.long arg5), .second, .val (.int v1), .val (.int v2), .val (.long v4), .second, .val (.long v6), .second, .val (.long v8), .second, .val (.long v9), .second, .val (.ref b10), .val (.long v28), .second] [(.long v28), (.long (own_sum (own_upd (List.replicate (v1.toInt.toNat) (0 : Int64)) ((((arg0 + v4) - arg0) / (1000000000 : Int64)).toInt.toNat))))])) (fun t k => XS.lload X32.here hx rfl (hb hby at_153) rfl k) ?_
      refine own_st (B := T32.setTop (mkF m 156 #[.val (.long arg0), .second, .val (.int arg1), .val (.int arg2), .val (.long arg3), .second, .val (.long arg4), .second, .val (.long arg5), .second, .val (.int v1), .val (.int v2), .val (.long v4), .second, .val (.long v6), .second, .val (.long v8), .second, .val (.long v9), .second, .val (.ref b10), .val (.long v28), .second] [(.int (XT.cmpL (own_sum (own_upd (List.replicate (v1.toInt.toNat) (0 : Int64)) ((((arg0 + v4) - arg0) / (1000000000 : Int64)).toInt.toNat))) v28))])) (fun t k => XS.lcmp X32.here hx rfl (hb hby at_155) rfl k) ?_
      have hc33 : (own_sum (own_upd (List.replicate (v1.toInt.toNat) (0 : Int64)) ((((arg0 + v4) - arg0) / (1000000000 : Int64)).toInt.toNat))) = v28 := by
        exact (own_step (by simp only [own_upd_len, List.length_replicate]) (own_dur ev1) ev9 (own_offs ev4) (own_sum_zero _) hv28)
      refine own_st (B := T32.setTop (mkF m 159 #[.val (.long arg0), .second, .val (.int arg1), .val (.int arg2), .val (.long arg3), .second, .val (.long arg4), .second, .val (.long arg5), .second, .val (.int v1), .val (.int v2), .val (.long v4), .second, .val (.long v6), .second, .val (.long v8), .second, .val (.long v9), .second, .val (.ref b10), .val (.long v28), .second] [])) (fun t k => XS.ifNo X32.here hx rfl (hb hby at_156) rfl (XT.ll_ne_f hc33) k) ?_
      refine own_st (B := T32.setTop (mkF m 160 #[.val (.long arg0), .second, .val (.int arg1), .val (.int arg2), .val (.long arg3), .second, .val (.long arg4), .second, .val (.long arg5), .second, .val (.int v1), .val (.int v2), .val (.long v4), .second, .val (.long v6), .second, .val (.long v8), .second, .val (.long v9), .second, .val (.ref b10), .val (.long v28), .second] [(.int (1 : Int32))])) (fun t k => XS.iconst X32.here hx rfl (hb hby at_159) k) ?_
      refine own_st (B := T32.setTop (mkF m 164 #[.val (.long arg0), .second, .val (.int arg1), .val (.int arg2), .val (.long arg3), .second, .val (.long arg4), .second, .val (.long arg5), .second, .val (.int v1), .val (.int v2), .val (.long v4), .second, .val (.long v6), .second, .val (.long v8), .second, .val (.long v9), .second, .val (.ref b10), .val (.long v28), .second] [(.int (1 : Int32))])) (fun t k => XS.goto X32.here hx rfl (pc0 := 160) (pc' := 164) rfl (hb hby at_160) (by decide) (by decide) k) ?_
      refine own_retN X32 hx hlk (t := .boolean) Bd.returns (by simp) (z' := (1 : Int32)) rfl (hb hby at_164) (by decide) (by decide) ?_
      show Q0 Z arg0 arg1 arg2 arg3 arg4 arg5 h0 n0 _ T32.heap _
      rw [e32q]
      exact ⟨rfl, N32⟩
    · refine own_st (B := T24.setTop (mkF m 94 #[.val (.long arg0), .second, .val (.int arg1), .val (.int arg2), .val (.long arg3), .second, .val (.long arg4), .second, .val (.long arg5), .second, .val (.int v1), .val (.int v2), .val (.long v4), .second, .val (.long v6), .second, .val (.long v8), .second, .val (.long v9), .second, .val (.ref b10), .val (.long v28), .second] [])) (fun t k => XS.icmpNo X24.here hx rfl (hb hby at_91) rfl (XT.ii_lt_f hc30) k) ?_
      refine own_st (B := T24.setTop (mkF m 96 #[.val (.long arg0), .second, .val (.int arg1), .val (.int arg2), .val (.long arg3), .second, .val (.long arg4), .second, .val (.long arg5), .second, .val (.int v1), .val (.int v2), .val (.long v4), .second, .val (.long v6), .second, .val (.long v8), .second, .val (.long v9), .second, .val (.ref b10), .val (.long v28), .second] [(.ref b10)])) (fun t k => XS.aload X24.here hx rfl (hb hby at_94) rfl rfl k) ?_
      refine own_st (B := T24.setTop (mkF m 97 #[.val (.long arg0), .second, .val (.int arg1), .val (.int arg2), .val (.long arg3), .second, .val (.long arg4), .second, .val (.long arg5), .second, .val (.int v1), .val (.int v2), .val (.long v4), .second, .val (.long v6), .second, .val (.long v8), .second, .val (.long v9), .second, .val (.ref b10), .val (.long v28), .second] [(.long arg0), (.ref b10)])) (fun t k => XS.lloadN X24.here hx rfl (hb hby at_96) rfl k) ?_
      refine own_st (B := T24.setTop (mkF m 98 #[.val (.long arg0), .second, .val (.int arg1), .val (.int arg2), .val (.long arg3), .second, .val (.long arg4), .second, .val (.long arg5), .second, .val (.int v1), .val (.int v2), .val (.long v4), .second, .val (.long v6), .second, .val (.long v8), .second, .val (.long v9), .second, .val (.ref b10), .val (.long v28), .second] [(.long arg0), (.long arg0), (.ref b10)])) (fun t k => XS.lloadN X24.here hx rfl (hb hby at_97) rfl k) ?_
      refine own_st (B := T24.setTop (mkF m 100 #[.val (.long arg0), .second, .val (.int arg1), .val (.int arg2), .val (.long arg3), .second, .val (.long arg4), .second, .val (.long arg5), .second, .val (.int v1), .val (.int v2), .val (.long v4), .second, .val (.long v6), .second, .val (.long v8), .second, .val (.long v9), .second, .val (.ref b10), .val (.long v28), .second] [(.long v6), (.long arg0), (.long arg0), (.ref b10)])) (fun t k => XS.lload X24.here hx rfl (hb hby at_98) rfl k) ?_
      refine own_st (B := T24.setTop (mkF m 101 #[.val (.long arg0), .second, .val (.int arg1), .val (.int arg2), .val (.long arg3), .second, .val (.long arg4), .second, .val (.long arg5), .second, .val (.int v1), .val (.int v2), .val (.long v4), .second, .val (.long v6), .second, .val (.long v8), .second, .val (.long v9), .second, .val (.ref b10), .val (.long v28), .second] [(.long (arg0 + v6)), (.long arg0), (.ref b10)])) (fun t k => XS.ladd X24.here hx rfl (hb hby at_100) rfl k) ?_
      obtain ⟨cq34, kq34, q34a, q34b, q34c⟩ := isOf hZ rfl p24_0
      obtain ⟨_, _, ⟨T34, L34, k34, j34⟩, -, X34, ⟨Lc34, hQ34, l34, y34_, z34_⟩, st34⟩ := X24.virtualBack hx (y := (⟨"com/example/goodput/goodput/PublisherTally", "handedOver", "(JJ)V"⟩ : MethodName)) (z := (⟨"com/example/goodput/goodput/PublisherTally", "handedOver", "(JJ)V"⟩ : MethodName)) hown (mvT hZ (w_45 hw)) (mvT hZ (w_46 hw)) (notFace_of_selects (args := #[]) (mvT hZ (w_48 hw))) (mvT hZ (w_48 hw)) (mvT hZ (w_47 hw)) (by decide) (backOf (W := 0) (rm7 l Z a0 hw [] b10 arg0 (arg0 + v6) b_17 arg0 ((0 : Int64) + (1 : Int64)) (own_max (0 : Int64) ((arg0 + v4) - arg0)) (own_upd (List.replicate (v1.toInt.toNat) (0 : Int64)) ((((arg0 + v4) - arg0) / (1000000000 : Int64)).toInt.toNat)) T24.heap n0 z25 p24_0 p24_1 p24_2 p24_3 p24_4 p24_5 u10 u17_b (Ne.symm q17_b_b10) (show 0 ≤ ((arg0 + v6) - arg0).toInt by rw [own_sa]; exact (own_offs ev6).1) (show (own_upd (List.replicate (v1.toInt.toNat) (0 : Int64)) ((((arg0 + v4) - arg0) / (1000000000 : Int64)).toInt.toNat)).length < 1000 by simp only [own_upd_len, List.length_replicate]; have := own_dur ev1; omega)) hZ (w_49 hw) (w_10 hw) (by decide) (by decide)) q34a q34c (g := (mkF m 101 #[.val (.long arg0), .second, .val (.int arg1), .val (.int arg2), .val (.long arg3), .second, .val (.long arg4), .second, .val (.long arg5), .second, .val (.int v1), .val (.int v2), .val (.long v4), .second, .val (.long v6), .second, .val (.long v8), .second, .val (.long v9), .second, .val (.ref b10), .val (.long v28), .second] [(.long (arg0 + v6)), (.long arg0), (.ref b10)])) rfl (by rw [hml]; rfl) (Steps.refl _) (argsL := [(.long arg0), (.long (arg0 + v6))]) (rest := []) (lenOf own_pd10 rfl) rfl (by show 2 * 0 + _ ≤ _; exact Nat.le_of_eq rfl) (hb hby at_101) (fun _ _ => ⟨rfl, rfl, (by decide : 4 + 0 ≤ _), (by decide : 13 + 0 ≤ _)⟩)
      dsimp only [Pt.U, Pt.locs, Pt.cells, Pt.slots] at X34 l34 y34_ z34_ st34 hQ34
      subst l34 y34_ z34_
      obtain ⟨rfl, N34q, K34, p34_0, p34_1, p34_2, p34_3, p34_4, p34_5⟩ := hQ34
      have N34 := Fr.app N24 N34q
      have z35 : n0 ≤ T34.heap.size := Nat.le_trans z25 K34.1
      refine own_ss (B := T34.setTop (mkF m 104 #[.val (.long arg0), .second, .val (.int arg1), .val (.int arg2), .val (.long arg3), .second, .val (.long arg4), .second, .val (.long arg5), .second, .val (.int v1), .val (.int v2), .val (.long v4), .second, .val (.long v6), .second, .val (.long v8), .second, .val (.long v9), .second, .val (.ref b10), .val (.long v28), .second] [])) st34 ?_
      refine own_st (B := T34.setTop (mkF m 106 #[.val (.long arg0), .second, .val (.int arg1), .val (.int arg2), .val (.long arg3), .second, .val (.long arg4), .second, .val (.long arg5), .second, .val (.int v1), .val (.int v2), .val (.long v4), .second, .val (.long v6), .second, .val (.long v8), .second, .val (.long v9), .second, .val (.ref b10), .val (.long v28), .second] [(.long v6)])) (fun t k => XS.lload X34.here hx rfl (hb hby at_104) rfl k) ?_
      refine own_st (B := T34.setTop (mkF m 108 #[.val (.long arg0), .second, .val (.int arg1), .val (.int arg2), .val (.long arg3), .second, .val (.long arg4), .second, .val (.long arg5), .second, .val (.int v1), .val (.int v2), .val (.long v4), .second, .val (.long v6), .second, .val (.long v8), .second, .val (.long v9), .second, .val (.ref b10), .val (.long v28), .second] [(.long v9), (.long v6)])) (fun t k => XS.lload X34.here hx rfl (hb hby at_106) rfl k) ?_
      refine own_st (B := T34.setTop (mkF m 109 #[.val (.long arg0), .second, .val (.int arg1), .val (.int arg2), .val (.long arg3), .second, .val (.long arg4), .second, .val (.long arg5), .second, .val (.int v1), .val (.int v2), .val (.long v4), .second, .val (.long v6), .second, .val (.long v8), .second, .val (.long v9), .second, .val (.ref b10), .val (.long v28), .second] [(.int (XT.cmpL v6 v9))])) (fun t k => XS.lcmp X34.here hx rfl (hb hby at_108) rfl k) ?_
      refine own_cut (P := ∀ (v38 : Int64), (v38 = (if v6 < v9 then (v28 + (1 : Int64)) else v28)) → own_Go p e below s (Q0 Z arg0 arg1 arg2 arg3 arg4 arg5 h0 n0) 16 128 (T34.setTop (mkF m 118 #[.val (.long arg0), .second, .val (.int arg1), .val (.int arg2), .val (.long arg3), .second, .val (.long arg4), .second, .val (.long arg5), .second, .val (.int v1), .val (.int v2), .val (.long v4), .second, .val (.long v6), .second, .val (.long v8), .second, .val (.long v9), .second, .val (.ref b10), .val (.long v38), .second] []))) (fun J39 => ?_) ?_
      · by_cases hc36 : v6 < v9
        · refine own_st (B := T34.setTop (mkF m 112 #[.val (.long arg0), .second, .val (.int arg1), .val (.int arg2), .val (.long arg3), .second, .val (.long arg4), .second, .val (.long arg5), .second, .val (.int v1), .val (.int v2), .val (.long v4), .second, .val (.long v6), .second, .val (.long v8), .second, .val (.long v9), .second, .val (.ref b10), .val (.long v28), .second] [])) (fun t k => XS.ifNo X34.here hx rfl (hb hby at_109) rfl (XT.ll_ge_f hc36) k) ?_
          refine own_st (B := T34.setTop (mkF m 114 #[.val (.long arg0), .second, .val (.int arg1), .val (.int arg2), .val (.long arg3), .second, .val (.long arg4), .second, .val (.long arg5), .second, .val (.int v1), .val (.int v2), .val (.long v4), .second, .val (.long v6), .second, .val (.long v8), .second, .val (.long v9), .second, .val (.ref b10), .val (.long v28), .second] [(.long v28)])) (fun t k => XS.lload X34.here hx rfl (hb hby at_112) rfl k) ?_
          refine own_st (B := T34.setTop (mkF m 115 #[.val (.long arg0), .second, .val (.int arg1), .val (.int arg2), .val (.long arg3), .second, .val (.long arg4), .second, .val (.long arg5), .second, .val (.int v1), .val (.int v2), .val (.long v4), .second, .val (.long v6), .second, .val (.long v8), .second, .val (.long v9), .second, .val (.ref b10), .val (.long v28), .second] [(.long (1 : Int64)), (.long v28)])) (fun t k => XS.lconst X34.here hx rfl (hb hby at_114) k) ?_
          refine own_st (B := T34.setTop (mkF m 116 #[.val (.long arg0), .second, .val (.int arg1), .val (.int arg2), .val (.long arg3), .second, .val (.long arg4), .second, .val (.long arg5), .second, .val (.int v1), .val (.int v2), .val (.long v4), .second, .val (.long v6), .second, .val (.long v8), .second, .val (.long v9), .second, .val (.ref b10), .val (.long v28), .second] [(.long (v28 + (1 : Int64)))])) (fun t k => XS.ladd X34.here hx rfl (hb hby at_115) rfl k) ?_
          obtain ⟨v37, ev37⟩ : ∃ z : Int64, z = (v28 + (1 : Int64)) := ⟨_, rfl⟩
          rw [← ev37]
          refine own_st (B := T34.setTop (mkF m 118 #[.val (.long arg0), .second, .val (.int arg1), .val (.int arg2), .val (.long arg3), .second, .val (.long arg4), .second, .val (.long arg5), .second, .val (.int v1), .val (.int v2), .val (.long v4), .second, .val (.long v6), .second, .val (.long v8), .second, .val (.long v9), .second, .val (.ref b10), .val (.long v37), .second] [])) (fun t k => XS.lstore X34.here hx rfl (hb hby at_116) rfl (l' := #[.val (.long arg0), .second, .val (.int arg1), .val (.int arg2), .val (.long arg3), .second, .val (.long arg4), .second, .val (.long arg5), .second, .val (.int v1), .val (.int v2), .val (.long v4), .second, .val (.long v6), .second, .val (.long v8), .second, .val (.long v9), .second, .val (.ref b10), .val (.long v37), .second]) rfl k) ?_
          exact J39 v37 (by subst v37; rw [if_pos hc36])
        · refine own_st (B := T34.setTop (mkF m 118 #[.val (.long arg0), .second, .val (.int arg1), .val (.int arg2), .val (.long arg3), .second, .val (.long arg4), .second, .val (.long arg5), .second, .val (.int v1), .val (.int v2), .val (.long v4), .second, .val (.long v6), .second, .val (.long v8), .second, .val (.long v9), .second, .val (.ref b10), .val (.long v28), .second] [])) (fun t k => XS.ifYes X34.here hx rfl (pc0 := 109) (pc' := 118) rfl (hb hby at_109) rfl (XT.ll_ge_t hc36) (by decide) (by decide) k) ?_
          exact J39 v28 (by rw [if_neg hc36])
      intro v38 hv38
      refine own_st (B := T34.setTop (mkF m 120 #[.val (.long arg0), .second, .val (.int arg1), .val (.int arg2), .val (.long arg3), .second, .val (.long arg4), .second, .val (.long arg5), .second, .val (.int v1), .val (.int v2), .val (.long v4), .second, .val (.long v6), .second, .val (.long v8), .second, .val (.long v9), .second, .val (.ref b10), .val (.long v38), .second] [(.int v2)])) (fun t k => XS.iload X34.here hx rfl (hb hby at_118) rfl k) ?_
      refine own_st (B := T34.setTop (mkF m 121 #[.val (.long arg0), .second, .val (.int arg1), .val (.int arg2), .val (.long arg3), .second, .val (.long arg4), .second, .val (.long arg5), .second, .val (.int v1), .val (.int v2), .val (.long v4), .second, .val (.long v6), .second, .val (.long v8), .second, .val (.long v9), .second, .val (.ref b10), .val (.long v38), .second] [(.int (3 : Int32)), (.int v2)])) (fun t k => XS.iconst X34.here hx rfl (hb hby at_120) k) ?_
      by_cases hc40 : v2 < (3 : Int32)
      · refine own_st (B := T34.setTop (mkF m 148 #[.val (.long arg0), .second, .val (.int arg1), .val (.int arg2), .val (.long arg3), .second, .val (.long arg4), .second, .val (.long arg5), .second, .val (.int v1), .val (.int v2), .val (.long v4), .second, .val (.long v6), .second, .val (.long v8), .second, .val (.long v9), .second, .val (.ref b10), .val (.long v38), .second] [])) (fun t k => XS.icmpYes X34.here hx rfl (pc0 := 121) (pc' := 148) rfl (hb hby at_121) rfl (XT.ii_lt_t hc40) (by decide) (by decide) k) ?_
        refine own_st (B := T34.setTop (mkF m 150 #[.val (.long arg0), .second, .val (.int arg1), .val (.int arg2), .val (.long arg3), .second, .val (.long arg4), .second, .val (.long arg5), .second, .val (.int v1), .val (.int v2), .val (.long v4), .second, .val (.long v6), .second, .val (.long v8), .second, .val (.long v9), .second, .val (.ref b10), .val (.long v38), .second] [(.ref b10)])) (fun t k => XS.aload X34.here hx rfl (hb hby at_148) rfl rfl k) ?_
        obtain ⟨cq41, kq41, q41a, q41b, q41c⟩ := isOf hZ rfl p34_0
        obtain ⟨_, _, ⟨T41, L41, k41, j41⟩, -, X41, ⟨Lc41, hQ41, l41, y41_, z41_⟩, st41⟩ := X34.virtualBack hx (y := (⟨"com/example/goodput/goodput/PublisherTally", "getSentInWindow", "()J"⟩ : MethodName)) (z := (⟨"com/example/goodput/goodput/PublisherTally", "getSentInWindow", "()J"⟩ : MethodName)) hown (mvT hZ (w_59 hw)) (mvT hZ (w_60 hw)) (notFace_of_selects (args := #[]) (mvT hZ (w_62 hw))) (mvT hZ (w_62 hw)) (mvT hZ (w_61 hw)) (by decide) (backOf (W := 0) (rm9 l Z a0 hw [] b10 b_17 (own_upd (own_upd (List.replicate (v1.toInt.toNat) (0 : Int64)) ((((arg0 + v4) - arg0) / (1000000000 : Int64)).toInt.toNat)) ((((arg0 + v6) - arg0) / (1000000000 : Int64)).toInt.toNat)) T34.heap n0 z35 p34_2 p34_5 (show (own_upd (own_upd (List.replicate (v1.toInt.toNat) (0 : Int64)) ((((arg0 + v4) - arg0) / (1000000000 : Int64)).toInt.toNat)) ((((arg0 + v6) - arg0) / (1000000000 : Int64)).toInt.toNat)).length < 1000 by simp only [own_upd_len, List.length_replicate]; have := own_dur ev1; omega)) hZ (w_63 hw) (w_10 hw) (by decide) (by decide)) q41a q41c (g := (mkF m 150 #[.val (.long arg0), .second, .val (.int arg1), .val (.int arg2), .val (.long arg3), .second, .val (.long arg4), .second, .val (.long arg5), .second, .val (.int v1), .val (.int v2), .val (.long v4), .second, .val (.long v6), .second, .val (.long v8), .second, .val (.long v9), .second, .val (.ref b10), .val (.long v38), .second] [(.ref b10)])) rfl (by rw [hml]; rfl) (Steps.refl _) (argsL := []) (rest := []) (lenOf own_pd9 rfl) rfl (by show 2 * 0 + _ ≤ _; exact Nat.le_of_eq rfl) (hb hby at_150) (fun _ _ => ⟨rfl, rfl, (by decide : 4 + 0 ≤ _), (by decide : 13 + 0 ≤ _)⟩)
        dsimp only [Pt.U, Pt.locs, Pt.cells, Pt.slots] at X41 l41 y41_ z41_ st41 hQ41
        subst l41 y41_ z41_
        obtain ⟨rfl, N41q, e41q⟩ := hQ41
        have N41 := Fr.app N34 N41q
        refine own_ss (B := T41.setTop (mkF m 153 #[.val (.long arg0), .second, .val (.int arg1), .val (.int arg2), .val (.long arg3), .second, .val (.long arg4), .second, .val (.long arg5), .second, .val (.int v1), .val (.int v2), .val (.long v4), .second, .val (.long v6), .second, .val (.long v8), .second, .val (.long v9), .second, .val (.ref b10), .val (.long v38), .second] [(.long (own_sum (own_upd (own_upd (List.replicate (v1.toInt.toNat) (0 : Int64)) ((((arg0 + v4) - arg0) / (1000000000 : Int64)).toInt.toNat)) ((((arg0 + v6) - arg0) / (1000000000 : Int64)).toInt.toNat))))])) st41 ?_
        refine own_st (B := T41.setTop (mkF m 155 #[.val (.long arg0), .second, .val (.int arg1), .val (.int arg2), .val (.long arg3), .second, .val (.long arg4), .second, .val (.long arg5), .second, .val (.int v1), .val (.int v2), .val (.long v4), .second, .val (.long v6), .second, .val (.long v8), .second, .val (.long v9), .second, .val (.ref b10), .val (.long v38), .second] [(.long v38), (.long (own_sum (own_upd (own_upd (List.replicate (v1.toInt.toNat) (0 : Int64)) ((((arg0 + v4) - arg0) / (1000000000 : Int64)).toInt.toNat)) ((((arg0 + v6) - arg0) / (1000000000 : Int64)).toInt.toNat))))])) (fun t k => XS.lload X41.here hx rfl (hb hby at_153) rfl k) ?_
        refine own_st (B := T41.setTop (mkF m 156 #[.val (.long arg0), .second, .val (.int arg1), .val (.int arg2), .val (.long arg3), .second, .val (.long arg4), .second, .val (.long arg5), .second, .val (.int v1), .val (.int v2), .val (.long v4), .second, .val (.long v6), .second, .val (.long v8), .second, .val (.long v9), .second, .val (.ref b10), .val (.long v38), .second] [(.int (XT.cmpL (own_sum (own_upd (own_upd (List.replicate (v1.toInt.toNat) (0 : Int64)) ((((arg0 + v4) - arg0) / (1000000000 : Int64)).toInt.toNat)) ((((arg0 + v6) - arg0) / (1000000000 : Int64)).toInt.toNat))) v38))])) (fun t k => XS.lcmp X41.here hx rfl (hb hby at_155) rfl k) ?_
        have hc42 : (own_sum (own_upd (own_upd (List.replicate (v1.toInt.toNat) (0 : Int64)) ((((arg0 + v4) - arg0) / (1000000000 : Int64)).toInt.toNat)) ((((arg0 + v6) - arg0) / (1000000000 : Int64)).toInt.toNat))) = v38 := by
          exact (own_step (by simp only [own_upd_len, List.length_replicate]) (own_dur ev1) ev9 (own_offs ev6) (own_step (by simp only [own_upd_len, List.length_replicate]) (own_dur ev1) ev9 (own_offs ev4) (own_sum_zero _) hv28) hv38)
        refine own_st (B := T41.setTop (mkF m 159 #[.val (.long arg0), .second, .val (.int arg1), .val (.int arg2), .val (.long arg3), .second, .val (.long arg4), .second, .val (.long arg5), .second, .val (.int v1), .val (.int v2), .val (.long v4), .second, .val (.long v6), .second, .val (.long v8), .second, .val (.long v9), .second, .val (.ref b10), .val (.long v38), .second] [])) (fun t k => XS.ifNo X41.here hx rfl (hb hby at_156) rfl (XT.ll_ne_f hc42) k) ?_
        refine own_st (B := T41.setTop (mkF m 160 #[.val (.long arg0), .second, .val (.int arg1), .val (.int arg2), .val (.long arg3), .second, .val (.long arg4), .second, .val (.long arg5), .second, .val (.int v1), .val (.int v2), .val (.long v4), .second, .val (.long v6), .second, .val (.long v8), .second, .val (.long v9), .second, .val (.ref b10), .val (.long v38), .second] [(.int (1 : Int32))])) (fun t k => XS.iconst X41.here hx rfl (hb hby at_159) k) ?_
        refine own_st (B := T41.setTop (mkF m 164 #[.val (.long arg0), .second, .val (.int arg1), .val (.int arg2), .val (.long arg3), .second, .val (.long arg4), .second, .val (.long arg5), .second, .val (.int v1), .val (.int v2), .val (.long v4), .second, .val (.long v6), .second, .val (.long v8), .second, .val (.long v9), .second, .val (.ref b10), .val (.long v38), .second] [(.int (1 : Int32))])) (fun t k => XS.goto X41.here hx rfl (pc0 := 160) (pc' := 164) rfl (hb hby at_160) (by decide) (by decide) k) ?_
        refine own_retN X41 hx hlk (t := .boolean) Bd.returns (by simp) (z' := (1 : Int32)) rfl (hb hby at_164) (by decide) (by decide) ?_
        show Q0 Z arg0 arg1 arg2 arg3 arg4 arg5 h0 n0 _ T41.heap _
        rw [e41q]
        exact ⟨rfl, N41⟩
      · refine own_st (B := T34.setTop (mkF m 124 #[.val (.long arg0), .second, .val (.int arg1), .val (.int arg2), .val (.long arg3), .second, .val (.long arg4), .second, .val (.long arg5), .second, .val (.int v1), .val (.int v2), .val (.long v4), .second, .val (.long v6), .second, .val (.long v8), .second, .val (.long v9), .second, .val (.ref b10), .val (.long v38), .second] [])) (fun t k => XS.icmpNo X34.here hx rfl (hb hby at_121) rfl (XT.ii_lt_f hc40) k) ?_
        refine own_st (B := T34.setTop (mkF m 126 #[.val (.long arg0), .second, .val (.int arg1), .val (.int arg2), .val (.long arg3), .second, .val (.long arg4), .second, .val (.long arg5), .second, .val (.int v1), .val (.int v2), .val (.long v4), .second, .val (.long v6), .second, .val (.long v8), .second, .val (.long v9), .second, .val (.ref b10), .val (.long v38), .second] [(.ref b10)])) (fun t k => XS.aload X34.here hx rfl (hb hby at_124) rfl rfl k) ?_
        refine own_st (B := T34.setTop (mkF m 127 #[.val (.long arg0), .second, .val (.int arg1), .val (.int arg2), .val (.long arg3), .second, .val (.long arg4), .second, .val (.long arg5), .second, .val (.int v1), .val (.int v2), .val (.long v4), .second, .val (.long v6), .second, .val (.long v8), .second, .val (.long v9), .second, .val (.ref b10), .val (.long v38), .second] [(.long arg0), (.ref b10)])) (fun t k => XS.lloadN X34.here hx rfl (hb hby at_126) rfl k) ?_
        refine own_st (B := T34.setTop (mkF m 128 #[.val (.long arg0), .second, .val (.int arg1), .val (.int arg2), .val (.long arg3), .second, .val (.long arg4), .second, .val (.long arg5), .second, .val (.int v1), .val (.int v2), .val (.long v4), .second, .val (.long v6), .second, .val (.long v8), .second, .val (.long v9), .second, .val (.ref b10), .val (.long v38), .second] [(.long arg0), (.long arg0), (.ref b10)])) (fun t k => XS.lloadN X34.here hx rfl (hb hby at_127) rfl k) ?_
        refine own_st (B := T34.setTop (mkF m 130 #[.val (.long arg0), .second, .val (.int arg1), .val (.int arg2), .val (.long arg3), .second, .val (.long arg4), .second, .val (.long arg5), .second, .val (.int v1), .val (.int v2), .val (.long v4), .second, .val (.long v6), .second, .val (.long v8), .second, .val (.long v9), .second, .val (.ref b10), .val (.long v38), .second] [(.long v8), (.long arg0), (.long arg0), (.ref b10)])) (fun t k => XS.lload X34.here hx rfl (hb hby at_128) rfl k) ?_
        refine own_st (B := T34.setTop (mkF m 131 #[.val (.long arg0), .second, .val (.int arg1), .val (.int arg2), .val (.long arg3), .second, .val (.long arg4), .second, .val (.long arg5), .second, .val (.int v1), .val (.int v2), .val (.long v4), .second, .val (.long v6), .second, .val (.long v8), .second, .val (.long v9), .second, .val (.ref b10), .val (.long v38), .second] [(.long (arg0 + v8)), (.long arg0), (.ref b10)])) (fun t k => XS.ladd X34.here hx rfl (hb hby at_130) rfl k) ?_
        obtain ⟨cq43, kq43, q43a, q43b, q43c⟩ := isOf hZ rfl p34_0
        obtain ⟨_, _, ⟨T43, L43, k43, j43⟩, -, X43, ⟨Lc43, hQ43, l43, y43_, z43_⟩, st43⟩ := X34.virtualBack hx (y := (⟨"com/example/goodput/goodput/PublisherTally", "handedOver", "(JJ)V"⟩ : MethodName)) (z := (⟨"com/example/goodput/goodput/PublisherTally", "handedOver", "(JJ)V"⟩ : MethodName)) hown (mvT hZ (w_45 hw)) (mvT hZ (w_46 hw)) (notFace_of_selects (args := #[]) (mvT hZ (w_48 hw))) (mvT hZ (w_48 hw)) (mvT hZ (w_47 hw)) (by decide) (backOf (W := 0) (rm7 l Z a0 hw [] b10 arg0 (arg0 + v8) b_17 arg0 (((0 : Int64) + (1 : Int64)) + (1 : Int64)) (own_max (own_max (0 : Int64) ((arg0 + v4) - arg0)) ((arg0 + v6) - arg0)) (own_upd (own_upd (List.replicate (v1.toInt.toNat) (0 : Int64)) ((((arg0 + v4) - arg0) / (1000000000 : Int64)).toInt.toNat)) ((((arg0 + v6) - arg0) / (1000000000 : Int64)).toInt.toNat)) T34.heap n0 z35 p34_0 p34_1 p34_2 p34_3 p34_4 p34_5 u10 u17_b (Ne.symm q17_b_b10) (show 0 ≤ ((arg0 + v8) - arg0).toInt by rw [own_sa]; exact (own_offs ev8).1) (show (own_upd (own_upd (List.replicate (v1.toInt.toNat) (0 : Int64)) ((((arg0 + v4) - arg0) / (1000000000 : Int64)).toInt.toNat)) ((((arg0 + v6) - arg0) / (1000000000 : Int64)).toInt.toNat)).length < 1000 by simp only [own_upd_len, List.length_replicate]; have := own_dur ev1; omega)) hZ (w_49 hw) (w_10 hw) (by decide) (by decide)) q43a q43c (g := (mkF m 131 #[.val (.long arg0), .second, .val (.int arg1), .val (.int arg2), .val (.long arg3), .second, .val (.long arg4), .second, .val (.long arg5), .second, .val (.int v1), .val (.int v2), .val (.long v4), .second, .val (.long v6), .second, .val (.long v8), .second, .val (.long v9), .second, .val (.ref b10), .val (.long v38), .second] [(.long (arg0 + v8)), (.long arg0), (.ref b10)])) rfl (by rw [hml]; rfl) (Steps.refl _) (argsL := [(.long arg0), (.long (arg0 + v8))]) (rest := []) (lenOf own_pd10 rfl) rfl (by show 2 * 0 + _ ≤ _; exact Nat.le_of_eq rfl) (hb hby at_131) (fun _ _ => ⟨rfl, rfl, (by decide : 4 + 0 ≤ _), (by decide : 13 + 0 ≤ _)⟩)
        dsimp only [Pt.U, Pt.locs, Pt.cells, Pt.slots] at X43 l43 y43_ z43_ st43 hQ43
        subst l43 y43_ z43_
        obtain ⟨rfl, N43q, K43, p43_0, p43_1, p43_2, p43_3, p43_4, p43_5⟩ := hQ43
        have N43 := Fr.app N34 N43q
        have z44 : n0 ≤ T43.heap.size := Nat.le_trans z35 K43.1
        refine own_ss (B := T43.setTop (mkF m 134 #[.val (.long arg0), .second, .val (.int arg1), .val (.int arg2), .val (.long arg3), .second, .val (.long arg4), .second, .val (.long arg5), .second, .val (.int v1), .val (.int v2), .val (.long v4), .second, .val (.long v6), .second, .val (.long v8), .second, .val (.long v9), .second, .val (.ref b10), .val (.long v38), .second] [])) st43 ?_
        refine own_st (B := T43.setTop (mkF m 136 #[.val (.long arg0), .second, .val (.int arg1), .val (.int arg2), .val (.long arg3), .second, .val (.long arg4), .second, .val (.long arg5), .second, .val (.int v1), .val (.int v2), .val (.long v4), .second, .val (.long v6), .second, .val (.long v8), .second, .val (.long v9), .second, .val (.ref b10), .val (.long v38), .second] [(.long v8)])) (fun t k => XS.lload X43.here hx rfl (hb hby at_134) rfl k) ?_
        refine own_st (B := T43.setTop (mkF m 138 #[.val (.long arg0), .second, .val (.int arg1), .val (.int arg2), .val (.long arg3), .second, .val (.long arg4), .second, .val (.long arg5), .second, .val (.int v1), .val (.int v2), .val (.long v4), .second, .val (.long v6), .second, .val (.long v8), .second, .val (.long v9), .second, .val (.ref b10), .val (.long v38), .second] [(.long v9), (.long v8)])) (fun t k => XS.lload X43.here hx rfl (hb hby at_136) rfl k) ?_
        refine own_st (B := T43.setTop (mkF m 139 #[.val (.long arg0), .second, .val (.int arg1), .val (.int arg2), .val (.long arg3), .second, .val (.long arg4), .second, .val (.long arg5), .second, .val (.int v1), .val (.int v2), .val (.long v4), .second, .val (.long v6), .second, .val (.long v8), .second, .val (.long v9), .second, .val (.ref b10), .val (.long v38), .second] [(.int (XT.cmpL v8 v9))])) (fun t k => XS.lcmp X43.here hx rfl (hb hby at_138) rfl k) ?_
        refine own_cut (P := ∀ (v47 : Int64), (v47 = (if v8 < v9 then (v38 + (1 : Int64)) else v38)) → own_Go p e below s (Q0 Z arg0 arg1 arg2 arg3 arg4 arg5 h0 n0) 16 128 (T43.setTop (mkF m 148 #[.val (.long arg0), .second, .val (.int arg1), .val (.int arg2), .val (.long arg3), .second, .val (.long arg4), .second, .val (.long arg5), .second, .val (.int v1), .val (.int v2), .val (.long v4), .second, .val (.long v6), .second, .val (.long v8), .second, .val (.long v9), .second, .val (.ref b10), .val (.long v47), .second] []))) (fun J48 => ?_) ?_
        · by_cases hc45 : v8 < v9
          · refine own_st (B := T43.setTop (mkF m 142 #[.val (.long arg0), .second, .val (.int arg1), .val (.int arg2), .val (.long arg3), .second, .val (.long arg4), .second, .val (.long arg5), .second, .val (.int v1), .val (.int v2), .val (.long v4), .second, .val (.long v6), .second, .val (.long v8), .second, .val (.long v9), .second, .val (.ref b10), .val (.long v38), .second] [])) (fun t k => XS.ifNo X43.here hx rfl (hb hby at_139) rfl (XT.ll_ge_f hc45) k) ?_
            refine own_st (B := T43.setTop (mkF m 144 #[.val (.long arg0), .second, .val (.int arg1), .val (.int arg2), .val (.long arg3), .second, .val (.long arg4), .second, .val (.long arg5), .second, .val (.int v1), .val (.int v2), .val (.long v4), .second, .val (.long v6), .second, .val (.long v8), .second, .val (.long v9), .second, .val (.ref b10), .val (.long v38), .second] [(.long v38)])) (fun t k => XS.lload X43.here hx rfl (hb hby at_142) rfl k) ?_
            refine own_st (B := T43.setTop (mkF m 145 #[.val (.long arg0), .second, .val (.int arg1), .val (.int arg2), .val (.long arg3), .second, .val (.long arg4), .second, .val (.long arg5), .second, .val (.int v1), .val (.int v2), .val (.long v4), .second, .val (.long v6), .second, .val (.long v8), .second, .val (.long v9), .second, .val (.ref b10), .val (.long v38), .second] [(.long (1 : Int64)), (.long v38)])) (fun t k => XS.lconst X43.here hx rfl (hb hby at_144) k) ?_
            refine own_st (B := T43.setTop (mkF m 146 #[.val (.long arg0), .second, .val (.int arg1), .val (.int arg2), .val (.long arg3), .second, .val (.long arg4), .second, .val (.long arg5), .second, .val (.int v1), .val (.int v2), .val (.long v4), .second, .val (.long v6), .second, .val (.long v8), .second, .val (.long v9), .second, .val (.ref b10), .val (.long v38), .second] [(.long (v38 + (1 : Int64)))])) (fun t k => XS.ladd X43.here hx rfl (hb hby at_145) rfl k) ?_
            obtain ⟨v46, ev46⟩ : ∃ z : Int64, z = (v38 + (1 : Int64)) := ⟨_, rfl⟩
            rw [← ev46]
            refine own_st (B := T43.setTop (mkF m 148 #[.val (.long arg0), .second, .val (.int arg1), .val (.int arg2), .val (.long arg3), .second, .val (.long arg4), .second, .val (.long arg5), .second, .val (.int v1), .val (.int v2), .val (.long v4), .second, .val (.long v6), .second, .val (.long v8), .second, .val (.long v9), .second, .val (.ref b10), .val (.long v46), .second] [])) (fun t k => XS.lstore X43.here hx rfl (hb hby at_146) rfl (l' := #[.val (.long arg0), .second, .val (.int arg1), .val (.int arg2), .val (.long arg3), .second, .val (.long arg4), .second, .val (.long arg5), .second, .val (.int v1), .val (.int v2), .val (.long v4), .second, .val (.long v6), .second, .val (.long v8), .second, .val (.long v9), .second, .val (.ref b10), .val (.long v46), .second]) rfl k) ?_
            exact J48 v46 (by subst v46; rw [if_pos hc45])
          · refine own_st (B := T43.setTop (mkF m 148 #[.val (.long arg0), .second, .val (.int arg1), .val (.int arg2), .val (.long arg3), .second, .val (.long arg4), .second, .val (.long arg5), .second, .val (.int v1), .val (.int v2), .val (.long v4), .second, .val (.long v6), .second, .val (.long v8), .second, .val (.long v9), .second, .val (.ref b10), .val (.long v38), .second] [])) (fun t k => XS.ifYes X43.here hx rfl (pc0 := 139) (pc' := 148) rfl (hb hby at_139) rfl (XT.ll_ge_t hc45) (by decide) (by decide) k) ?_
            exact J48 v38 (by rw [if_neg hc45])
        intro v47 hv47
        refine own_st (B := T43.setTop (mkF m 150 #[.val (.long arg0), .second, .val (.int arg1), .val (.int arg2), .val (.long arg3), .second, .val (.long arg4), .second, .val (.long arg5), .second, .val (.int v1), .val (.int v2), .val (.long v4), .second, .val (.long v6), .second, .val (.long v8), .second, .val (.long v9), .second, .val (.ref b10), .val (.long v47), .second] [(.ref b10)])) (fun t k => XS.aload X43.here hx rfl (hb hby at_148) rfl rfl k) ?_
        obtain ⟨cq49, kq49, q49a, q49b, q49c⟩ := isOf hZ rfl p43_0
        obtain ⟨_, _, ⟨T49, L49, k49, j49⟩, -, X49, ⟨Lc49, hQ49, l49, y49_, z49_⟩, st49⟩ := X43.virtualBack hx (y := (⟨"com/example/goodput/goodput/PublisherTally", "getSentInWindow", "()J"⟩ : MethodName)) (z := (⟨"com/example/goodput/goodput/PublisherTally", "getSentInWindow", "()J"⟩ : MethodName)) hown (mvT hZ (w_59 hw)) (mvT hZ (w_60 hw)) (notFace_of_selects (args := #[]) (mvT hZ (w_62 hw))) (mvT hZ (w_62 hw)) (mvT hZ (w_61 hw)) (by decide) (backOf (W := 0) (rm9 l Z a0 hw [] b10 b_17 (own_upd (own_upd (own_upd (List.replicate (v1.toInt.toNat) (0 : Int64)) ((((arg0 + v4) - arg0) / (1000000000 : Int64)).toInt.toNat)) ((((arg0 + v6) - arg0) / (1000000000 : Int64)).toInt.toNat)) ((((arg0 + v8) - arg0) / (1000000000 : Int64)).toInt.toNat)) T43.heap n0 z44 p43_2 p43_5 (show (own_upd (own_upd (own_upd (List.replicate (v1.toInt.toNat) (0 : Int64)) ((((arg0 + v4) - arg0) / (1000000000 : Int64)).toInt.toNat)) ((((arg0 + v6) - arg0) / (1000000000 : Int64)).toInt.toNat)) ((((arg0 + v8) - arg0) / (1000000000 : Int64)).toInt.toNat)).length < 1000 by simp only [own_upd_len, List.length_replicate]; have := own_dur ev1; omega)) hZ (w_63 hw) (w_10 hw) (by decide) (by decide)) q49a q49c (g := (mkF m 150 #[.val (.long arg0), .second, .val (.int arg1), .val (.int arg2), .val (.long arg3), .second, .val (.long arg4), .second, .val (.long arg5), .second, .val (.int v1), .val (.int v2), .val (.long v4), .second, .val (.long v6), .second, .val (.long v8), .second, .val (.long v9), .second, .val (.ref b10), .val (.long v47), .second] [(.ref b10)])) rfl (by rw [hml]; rfl) (Steps.refl _) (argsL := []) (rest := []) (lenOf own_pd9 rfl) rfl (by show 2 * 0 + _ ≤ _; exact Nat.le_of_eq rfl) (hb hby at_150) (fun _ _ => ⟨rfl, rfl, (by decide : 4 + 0 ≤ _), (by decide : 13 + 0 ≤ _)⟩)
        dsimp only [Pt.U, Pt.locs, Pt.cells, Pt.slots] at X49 l49 y49_ z49_ st49 hQ49
        subst l49 y49_ z49_
        obtain ⟨rfl, N49q, e49q⟩ := hQ49
        have N49 := Fr.app N43 N49q
        refine own_ss (B := T49.setTop (mkF m 153 #[.val (.long arg0), .second, .val (.int arg1), .val (.int arg2), .val (.long arg3), .second, .val (.long arg4), .second, .val (.long arg5), .second, .val (.int v1), .val (.int v2), .val (.long v4), .second, .val (.long v6), .second, .val (.long v8), .second, .val (.long v9), .second, .val (.ref b10), .val (.long v47), .second] [(.long (own_sum (own_upd (own_upd (own_upd (List.replicate (v1.toInt.toNat) (0 : Int64)) ((((arg0 + v4) - arg0) / (1000000000 : Int64)).toInt.toNat)) ((((arg0 + v6) - arg0) / (1000000000 : Int64)).toInt.toNat)) ((((arg0 + v8) - arg0) / (1000000000 : Int64)).toInt.toNat))))])) st49 ?_
        refine own_st (B := T49.setTop (mkF m 155 #[.val (.long arg0), .second, .val (.int arg1), .val (.int arg2), .val (.long arg3), .second, .val (.long arg4), .second, .val (.long arg5), .second, .val (.int v1), .val (.int v2), .val (.long v4), .second, .val (.long v6), .second, .val (.long v8), .second, .val (.long v9), .second, .val (.ref b10), .val (.long v47), .second] [(.long v47), (.long (own_sum (own_upd (own_upd (own_upd (List.replicate (v1.toInt.toNat) (0 : Int64)) ((((arg0 + v4) - arg0) / (1000000000 : Int64)).toInt.toNat)) ((((arg0 + v6) - arg0) / (1000000000 : Int64)).toInt.toNat)) ((((arg0 + v8) - arg0) / (1000000000 : Int64)).toInt.toNat))))])) (fun t k => XS.lload X49.here hx rfl (hb hby at_153) rfl k) ?_
        refine own_st (B := T49.setTop (mkF m 156 #[.val (.long arg0), .second, .val (.int arg1), .val (.int arg2), .val (.long arg3), .second, .val (.long arg4), .second, .val (.long arg5), .second, .val (.int v1), .val (.int v2), .val (.long v4), .second, .val (.long v6), .second, .val (.long v8), .second, .val (.long v9), .second, .val (.ref b10), .val (.long v47), .second] [(.int (XT.cmpL (own_sum (own_upd (own_upd (own_upd (List.replicate (v1.toInt.toNat) (0 : Int64)) ((((arg0 + v4) - arg0) / (1000000000 : Int64)).toInt.toNat)) ((((arg0 + v6) - arg0) / (1000000000 : Int64)).toInt.toNat)) ((((arg0 + v8) - arg0) / (1000000000 : Int64)).toInt.toNat))) v47))])) (fun t k => XS.lcmp X49.here hx rfl (hb hby at_155) rfl k) ?_
        have hc50 : (own_sum (own_upd (own_upd (own_upd (List.replicate (v1.toInt.toNat) (0 : Int64)) ((((arg0 + v4) - arg0) / (1000000000 : Int64)).toInt.toNat)) ((((arg0 + v6) - arg0) / (1000000000 : Int64)).toInt.toNat)) ((((arg0 + v8) - arg0) / (1000000000 : Int64)).toInt.toNat))) = v47 := by
          exact (own_step (by simp only [own_upd_len, List.length_replicate]) (own_dur ev1) ev9 (own_offs ev8) (own_step (by simp only [own_upd_len, List.length_replicate]) (own_dur ev1) ev9 (own_offs ev6) (own_step (by simp only [own_upd_len, List.length_replicate]) (own_dur ev1) ev9 (own_offs ev4) (own_sum_zero _) hv28) hv38) hv47)
        refine own_st (B := T49.setTop (mkF m 159 #[.val (.long arg0), .second, .val (.int arg1), .val (.int arg2), .val (.long arg3), .second, .val (.long arg4), .second, .val (.long arg5), .second, .val (.int v1), .val (.int v2), .val (.long v4), .second, .val (.long v6), .second, .val (.long v8), .second, .val (.long v9), .second, .val (.ref b10), .val (.long v47), .second] [])) (fun t k => XS.ifNo X49.here hx rfl (hb hby at_156) rfl (XT.ll_ne_f hc50) k) ?_
        refine own_st (B := T49.setTop (mkF m 160 #[.val (.long arg0), .second, .val (.int arg1), .val (.int arg2), .val (.long arg3), .second, .val (.long arg4), .second, .val (.long arg5), .second, .val (.int v1), .val (.int v2), .val (.long v4), .second, .val (.long v6), .second, .val (.long v8), .second, .val (.long v9), .second, .val (.ref b10), .val (.long v47), .second] [(.int (1 : Int32))])) (fun t k => XS.iconst X49.here hx rfl (hb hby at_159) k) ?_
        refine own_st (B := T49.setTop (mkF m 164 #[.val (.long arg0), .second, .val (.int arg1), .val (.int arg2), .val (.long arg3), .second, .val (.long arg4), .second, .val (.long arg5), .second, .val (.int v1), .val (.int v2), .val (.long v4), .second, .val (.long v6), .second, .val (.long v8), .second, .val (.long v9), .second, .val (.ref b10), .val (.long v47), .second] [(.int (1 : Int32))])) (fun t k => XS.goto X49.here hx rfl (pc0 := 160) (pc' := 164) rfl (hb hby at_160) (by decide) (by decide) k) ?_
        refine own_retN X49 hx hlk (t := .boolean) Bd.returns (by simp) (z' := (1 : Int32)) rfl (hb hby at_164) (by decide) (by decide) ?_
        show Q0 Z arg0 arg1 arg2 arg3 arg4 arg5 h0 n0 _ T49.heap _
        rw [e49q]
        exact ⟨rfl, N49⟩
set_option maxHeartbeats 40000000 in
theorem comes_1 {Post : Tables → Env → Array Value → State → Outcome → State → Prop} (hpost : ∀ tb e args s v u, (limb_1_1.after args s (.returned v) u = true ∧ limb_1_2.after args s (.returned v) u = true ∧ True) → FrameEnd s (.returned v) u (Jvm.fieldLocs frame_1_writes args s ++ Jvm.arrayLocs frame_1_arrays args s ++ Jvm.staticLocs frame_1_statics s) 16 128 → Post tb e args s (.returned v) u) :
    ArmFor flags0 classFile x code maxLocals ret World_1 tables_1 room_1 Calls_1 rest_1 Pre_1 Post := by
  intro l hfl _ _ p e ha hc hk s m args below hf hA hF happ hP
  obtain ⟨hcalls, hrest, hpre⟩ := hP
  obtain ⟨-, -, -, hnamed, -, -, -, hat⟩ := (Spec.applies_iff hf).mp happ
  obtain ⟨hg, hn⟩ := and_e (Cond.before_iff.mp (show (Jvm.Cond.and given_1 narrow_1).before args s = true from hpre))
  obtain ⟨g1a, g1b⟩ := and_e hg
  obtain ⟨g2a, g2b⟩ := and_e g1b
  obtain ⟨g3a, g3b⟩ := and_e g2b
  obtain ⟨g4a, g4b⟩ := and_e g3b
  obtain ⟨g5a, g5b⟩ := and_e g4b
  obtain ⟨g6a, g6b⟩ := and_e g5b
  obtain ⟨w0, w1, w2, w3, w4, w5, rfl⟩ : ∃ w0 w1 w2 w3 w4 w5 : Value, args = #[w0, w1, w2, w3, w4, w5] := by
    have hs : args.size = 6 := by simpa [Cond.value, given_1] using g1a
    obtain ⟨L⟩ := args
    match L, hs with
    | [w0, w1, w2, w3, w4, w5], _ => exact ⟨w0, w1, w2, w3, w4, w5, rfl⟩
  have hw := fun d (hd : d ∈ tables_1) => atoms_spec (ws := Jvm.Cond.code x code maxLocals ret :: tables_1) hat d (List.mem_cons_of_mem _ hd)
  have hfit : Fit s := fun {y c} hc i hi => by
    obtain ⟨ha, rfl⟩ := Array.getElem?_eq_some_iff.mp hc
    have q := List.all_eq_true.mp ((Array.all_eq_true_iff_forall_mem.mp hF) _ (Array.getElem_mem ha)) i (List.mem_range.mpr hi)
    simpa [Array.getElem?_eq_getElem hi] using q
  obtain ⟨i0, ei0⟩ := isL_v g2a
  obtain rfl : w0 = (.long i0) := Option.some.inj ei0
  obtain ⟨i1, ei1⟩ := is_v g3a
  obtain rfl : w1 = (.int i1) := Option.some.inj ei1
  obtain ⟨i2, ei2⟩ := is_v g4a
  obtain rfl : w2 = (.int i2) := Option.some.inj ei2
  obtain ⟨i3, ei3⟩ := isL_v g5a
  obtain rfl : w3 = (.long i3) := Option.some.inj ei3
  obtain ⟨i4, ei4⟩ := isL_v g6a
  obtain rfl : w4 = (.long i4) := Option.some.inj ei4
  obtain ⟨i5, ei5⟩ := isL_v g6b
  obtain rfl : w5 = (.long i5) := Option.some.inj ei5
  obtain ⟨n, o, h1, h2, h3, _, L, rfl, ⟨rfl, N⟩, hq⟩ := rm0 l s _ hw tables_1 i0 i1 i2 i3 i4 i5 s.heap s.heap.size (Nat.le_refl _)  p e ha hc hk s m _ below hf ((Spec.applies_iff_loose hf).mp happ).1 ⟨rfl, State.Warmed39.refl s, rfl⟩ trivial
  refine ⟨n, _, h1, h2, h3, hpost _ _ _ _ _ _ ⟨Cond.after_iff.mpr rfl, Cond.after_iff.mpr (eq_i res_at (Term.int_eval (1)) rfl), trivial⟩ ⟨hq.1, hq.2.1, (hq.2.2.sift fun y hy => Or.inr (N y hy)).mono (by decide) (by decide)⟩⟩
theorem main_1_1 : Claimed_1_1 := comes_1 fun _ _ _ _ _ _ h hF => ⟨h.1, hF⟩
theorem main_1_2 : Claimed_1_2 := comes_1 fun _ _ _ _ _ _ h hF => ⟨h.2.1, hF⟩
end Jvm.Pilot.@@N@@
namespace Jvm.Pilot.@@N@@
open Jvm Jvm.ClassFile Sem Op Lib Jvm.Free Jvm.Stand Jvm.Pilot.@@N@@.Jvm.D
/-! MADE BY PROGRAM (witnessworld.py) out of the Statement's table words and the real class files: 13 classes; the members and pool entries that the words name. The judged class is class 1, her method 2. -/
namespace start1
open Jvm.ClassFile
def u (s : String) : CpInfo := .utf8 (stringToUtf16 s)
/-- a pool by its gaps: so many unusable entries, then the entry; so many at the end -/
def gap : Nat → List CpInfo → List CpInfo
  | 0, r => r
  | n + 1, r => .unusable :: gap n r
def poolList (es : List (Nat × CpInfo)) (last : Nat) : List CpInfo := es.foldr (fun e r => gap e.1 (e.2 :: r)) (gap last [])
def pool (es : List (Nat × CpInfo)) (last : Nat) : Array CpInfo := ⟨poolList es last⟩
def fileOf (pool : Array CpInfo) (this : Nat) (attrs : Array Attribute := #[]) (ms : Array MethodInfo := #[]) (fl : Nat := 33) (sup : Nat := 0) (ifs : Array Nat := #[]) (fds : Array FieldInfo := #[]) : ClassFile where
  minorVersion := 0
  majorVersion := 65
  constantPool := pool
  accessFlags := fl
  thisClass := this
  superClass := sup
  interfaces := ifs
  fields := fds
  methods := ms
  attributes := attrs
def plain (name : String) (sup : Option ClassId) : Class where
  name := name
  kind := .ordinary
  loader := none
  accessFlags := 33
  super := sup
  interfaces := #[]
  cf := none
  fields := #[]
  methods := #[]
  instanceTypes := #[]
  staticTypes := #[]
  resolved := #[]
  callSites := []
  init := .initialized
  statics := none
  mirror := none

def pool0 : Array CpInfo := pool [(5, u "<init>"), (0, u "()V"), (1, .class_ 10), (1, u "java/lang/Object")] 113

def k0c0 : Code := { maxStack := 0, maxLocals := 1, code := object_method_1_code, exceptionTable := #[], attributes := #[] }
def k0m0 : Method := { name := "<init>", desc := "()V", sig := { parameters := [], returnType := none }, accessFlags := 1, code := some k0c0 }
/-- java/lang/Object -/
def k0 : Class := { plain "java/lang/Object" none with
  accessFlags := 33
  interfaces := #[]
  cf := some (fileOf pool0 8 #[] #[{ accessFlags := 1, nameIndex := 5, descriptorIndex := 6, attributes := #[] }] 33 0 #[] #[])
  fields := #[]
  methods := #[k0m0]
  instanceTypes := #[]
  staticTypes := #[]
  resolved := Array.replicate 124 none
  statics := none }

def pool1 : Array CpInfo := pool [(2, .class_ 4), (1, u "java/lang/Object"), (0, u "<init>"), (0, u "()V"), (2, .long 9223372036854775807), (1, .long 6000000000), (1, .integer 2147483647), (0, .methodref 15 16), (0, .class_ 17), (0, .nameAndType 18 19), (0, u "com/example/goodput/goodput/PublisherTallyGetSentInWindowPinLaw"), (0, u "offset"), (0, u "(J)J"), (0, .long 1000000000), (1, .class_ 23), (0, u "com/example/goodput/goodput/PublisherTally"), (0, .methodref 22 25), (0, .nameAndType 5 26), (0, u "(JI)V"), (0, .methodref 22 28), (0, .nameAndType 29 30), (0, u "handedOver"), (0, u "(JJ)V"), (0, .methodref 22 32), (0, .nameAndType 33 34), (0, u "getSentInWindow"), (0, u "()J"), (2, u "law"), (0, u "(JIIJJJ)Z")] 3

def k1m0 : Method := { name := "<init>", desc := "()V", sig := { parameters := [], returnType := none }, accessFlags := 1, code := none }
def k1c1 : Code := { maxStack := 4, maxLocals := 2, code := method_2_code, exceptionTable := #[], attributes := #[] }
def k1m1 : Method := { name := "offset", desc := "(J)J", sig := { parameters := [.long], returnType := some .long }, accessFlags := 10, code := some k1c1 }
def k1c2 : Code := { maxStack := 7, maxLocals := 23, code := code, exceptionTable := #[], attributes := #[] }
def k1m2 : Method := { name := "law", desc := "(JIIJJJ)Z", sig := { parameters := [.long, .int, .int, .long, .long, .long], returnType := some .boolean }, accessFlags := 9, code := some k1c2 }
/-- com/example/goodput/goodput/PublisherTallyGetSentInWindowPinLaw -/
def k1 : Class := { plain "com/example/goodput/goodput/PublisherTallyGetSentInWindowPinLaw" (some 0) with
  accessFlags := 49
  interfaces := #[]
  cf := some (fileOf pool1 15 #[] #[{ accessFlags := 1, nameIndex := 5, descriptorIndex := 6, attributes := #[] }, { accessFlags := 10, nameIndex := 18, descriptorIndex := 19, attributes := #[] }, { accessFlags := 9, nameIndex := 37, descriptorIndex := 38, attributes := #[] }] 49 2 #[] #[])
  fields := #[]
  methods := #[k1m0, k1m1, k1m2]
  instanceTypes := #[]
  staticTypes := #[]
  resolved := Array.replicate 42 none
  statics := none }

def pool2 : Array CpInfo := pool [(1, .methodref 2 3), (0, .class_ 4), (0, .nameAndType 5 6), (0, u "java/lang/Object"), (0, u "<init>"), (0, u "()V"), (0, .class_ 8), (0, u "java/util/BitSet"), (0, .methodref 7 3), (0, .fieldref 11 12), (0, .class_ 13), (0, .nameAndType 14 15), (0, u "com/example/goodput/goodput/PublisherTally"), (0, u "confirmed"), (0, u "Ljava/util/BitSet;"), (0, .fieldref 11 17), (0, .nameAndType 18 19), (0, u "windowStart"), (0, u "J"), (0, .fieldref 11 21), (0, .nameAndType 22 23), (0, u "sentPerSecond"), (0, u "[J"), (0, .fieldref 11 25), (0, .nameAndType 26 19), (0, u "sent"), (0, .fieldref 11 28), (0, .nameAndType 29 19), (0, u "publishDelayMax"), (0, .methodref 31 32), (0, .class_ 33), (0, .nameAndType 34 35), (0, u "java/lang/Math"), (0, u "max"), (0, u "(JJ)J"), (0, .long 1000000000), (11, u "NANOS_PER_SECOND"), (1, u "(JI)V"), (2, u "handedOver"), (0, u "(JJ)V"), (2, u "()J"), (0, u "getSentInWindow")] 9

def k2c0 : Code := { maxStack := 3, maxLocals := 4, code := prog_28_method_1_code, exceptionTable := #[], attributes := #[] }
def k2m0 : Method := { name := "<init>", desc := "(JI)V", sig := { parameters := [.long, .int], returnType := none }, accessFlags := 1, code := some k2c0 }
def k2c1 : Code := { maxStack := 7, maxLocals := 7, code := prog_28_method_2_code, exceptionTable := #[], attributes := #[] }
def k2m1 : Method := { name := "handedOver", desc := "(JJ)V", sig := { parameters := [.long, .long], returnType := none }, accessFlags := 1, code := some k2c1 }
def k2c2 : Code := { maxStack := 4, maxLocals := 8, code := prog_28_method_4_code, exceptionTable := #[], attributes := #[] }
def k2m2 : Method := { name := "getSentInWindow", desc := "()J", sig := { parameters := [], returnType := some .long }, accessFlags := 1, code := some k2c2 }
/-- com/example/goodput/goodput/PublisherTally -/
def k2 : Class := { plain "com/example/goodput/goodput/PublisherTally" (some 0) with
  accessFlags := 33
  interfaces := #[]
  cf := some (fileOf pool2 11 #[] #[{ accessFlags := 1, nameIndex := 5, descriptorIndex := 50, attributes := #[] }, { accessFlags := 1, nameIndex := 53, descriptorIndex := 54, attributes := #[] }, { accessFlags := 1, nameIndex := 58, descriptorIndex := 57, attributes := #[] }] 33 2 #[] #[{ accessFlags := 26, nameIndex := 48, descriptorIndex := 19, attributes := #[] }, { accessFlags := 18, nameIndex := 18, descriptorIndex := 19, attributes := #[] }, { accessFlags := 18, nameIndex := 22, descriptorIndex := 23, attributes := #[] }, { accessFlags := 2, nameIndex := 26, descriptorIndex := 19, attributes := #[] }, { accessFlags := 2, nameIndex := 29, descriptorIndex := 19, attributes := #[] }, { accessFlags := 2, nameIndex := 14, descriptorIndex := 15, attributes := #[] }])
  fields := #[{ name := "NANOS_PER_SECOND", type := .long, accessFlags := 26, slot := 0, constantValue := 0 }, { name := "windowStart", type := .long, accessFlags := 18, slot := 0, constantValue := 0 }, { name := "sentPerSecond", type := (.array .long), accessFlags := 18, slot := 1, constantValue := 0 }, { name := "sent", type := .long, accessFlags := 2, slot := 2, constantValue := 0 }, { name := "publishDelayMax", type := .long, accessFlags := 2, slot := 3, constantValue := 0 }, { name := "confirmed", type := (.object "java/util/BitSet"), accessFlags := 2, slot := 4, constantValue := 0 }]
  methods := #[k2m0, k2m1, k2m2]
  instanceTypes := #[.long, (.array .long), .long, .long, (.object "java/util/BitSet")]
  staticTypes := #[.long]
  resolved := Array.replicate 68 none
  statics := none }

def pool3 : Array CpInfo := pool [(1, .class_ 2), (0, u "java/lang/Cloneable"), (0, .class_ 4), (0, u "java/lang/Object")] 2

/-- java/lang/Cloneable -/
def k3 : Class := { plain "java/lang/Cloneable" (some 0) with
  accessFlags := 1537
  interfaces := #[]
  cf := some (fileOf pool3 1 #[] #[] 1537 3 #[] #[])
  fields := #[]
  methods := #[]
  instanceTypes := #[]
  staticTypes := #[]
  resolved := Array.replicate 7 none
  statics := none }

def pool4 : Array CpInfo := pool [(1, .class_ 2), (0, u "java/io/Serializable"), (0, .class_ 4), (0, u "java/lang/Object")] 2

/-- java/io/Serializable -/
def k4 : Class := { plain "java/io/Serializable" (some 0) with
  accessFlags := 1537
  interfaces := #[]
  cf := some (fileOf pool4 1 #[] #[] 1537 3 #[] #[])
  fields := #[]
  methods := #[]
  instanceTypes := #[]
  staticTypes := #[]
  resolved := Array.replicate 7 none
  statics := none }

def pool5 : Array CpInfo := pool [(1, .class_ 2), (0, u "java/util/BitSet"), (2, u "$assertionsDisabled"), (0, u "Z"), (0, .fieldref 1 8), (0, .nameAndType 9 10), (0, u "wordsInUse"), (0, u "I"), (0, .fieldref 1 12), (0, .nameAndType 13 14), (0, u "words"), (0, u "[J"), (3, .nameAndType 19 20), (0, u "<init>"), (0, u "()V"), (0, .methodref 22 18), (0, .class_ 23), (0, u "java/lang/Object"), (0, .fieldref 1 25), (0, .nameAndType 26 6), (0, u "sizeIsSticky"), (0, .methodref 1 28), (0, .nameAndType 29 30), (0, u "initWords"), (0, u "(I)V"), (21, .methodref 1 53), (0, .nameAndType 54 55), (0, u "wordIndex"), (0, u "(I)I"), (213, .class_ 270), (0, u "java/util/BitSet$1BitSetSpliterator"), (22, u "serialPersistentFields"), (0, u "[Ljava/io/ObjectStreamField;"), (0, .class_ 296), (0, u "java/lang/Cloneable"), (0, .class_ 298), (0, u "java/io/Serializable"), (0, u "ADDRESS_BITS_PER_WORD"), (2, u "BITS_PER_WORD"), (1, u "BIT_INDEX_MASK"), (1, u "WORD_MASK"), (0, u "J"), (0, u "serialVersionUID")] 108

def k5c0 : Code := { maxStack := 2, maxLocals := 1, code := jdk_92_method_1_code, exceptionTable := #[], attributes := #[] }
def k5m0 : Method := { name := "wordIndex", desc := "(I)I", sig := { parameters := [.int], returnType := some .int }, accessFlags := 10, code := some k5c0 }
def k5c1 : Code := { maxStack := 2, maxLocals := 1, code := jdk_92_method_4_code, exceptionTable := #[], attributes := #[] }
def k5m1 : Method := { name := "<init>", desc := "()V", sig := { parameters := [], returnType := none }, accessFlags := 1, code := some k5c1 }
def k5c2 : Code := { maxStack := 3, maxLocals := 2, code := jdk_92_method_6_code, exceptionTable := #[], attributes := #[] }
def k5m2 : Method := { name := "initWords", desc := "(I)V", sig := { parameters := [.int], returnType := none }, accessFlags := 2, code := some k5c2 }
/-- java/util/BitSet -/
def k5 : Class := { plain "java/util/BitSet" (some 0) with
  accessFlags := 33
  interfaces := #[3, 4]
  cf := some (fileOf pool5 1 #[.nestMembers #[269]] #[{ accessFlags := 10, nameIndex := 54, descriptorIndex := 55, attributes := #[] }, { accessFlags := 1, nameIndex := 19, descriptorIndex := 20, attributes := #[] }, { accessFlags := 2, nameIndex := 29, descriptorIndex := 30, attributes := #[] }] 33 22 #[295, 297] #[{ accessFlags := 26, nameIndex := 299, descriptorIndex := 10, attributes := #[] }, { accessFlags := 26, nameIndex := 302, descriptorIndex := 10, attributes := #[] }, { accessFlags := 26, nameIndex := 304, descriptorIndex := 10, attributes := #[] }, { accessFlags := 26, nameIndex := 306, descriptorIndex := 307, attributes := #[] }, { accessFlags := 26, nameIndex := 293, descriptorIndex := 294, attributes := #[] }, { accessFlags := 2, nameIndex := 13, descriptorIndex := 14, attributes := #[] }, { accessFlags := 130, nameIndex := 9, descriptorIndex := 10, attributes := #[] }, { accessFlags := 130, nameIndex := 26, descriptorIndex := 6, attributes := #[] }, { accessFlags := 26, nameIndex := 308, descriptorIndex := 307, attributes := #[] }, { accessFlags := 4120, nameIndex := 5, descriptorIndex := 6, attributes := #[] }])
  fields := #[{ name := "ADDRESS_BITS_PER_WORD", type := .int, accessFlags := 26, slot := 0, constantValue := 0 }, { name := "BITS_PER_WORD", type := .int, accessFlags := 26, slot := 1, constantValue := 0 }, { name := "BIT_INDEX_MASK", type := .int, accessFlags := 26, slot := 2, constantValue := 0 }, { name := "WORD_MASK", type := .long, accessFlags := 26, slot := 3, constantValue := 0 }, { name := "serialPersistentFields", type := (.array (.object "java/io/ObjectStreamField")), accessFlags := 26, slot := 4, constantValue := 0 }, { name := "words", type := (.array .long), accessFlags := 2, slot := 0, constantValue := 0 }, { name := "wordsInUse", type := .int, accessFlags := 130, slot := 1, constantValue := 0 }, { name := "sizeIsSticky", type := .boolean, accessFlags := 130, slot := 2, constantValue := 0 }, { name := "serialVersionUID", type := .long, accessFlags := 26, slot := 5, constantValue := 0 }, { name := "$assertionsDisabled", type := .boolean, accessFlags := 4120, slot := 6, constantValue := 0 }]
  methods := #[k5m0, k5m1, k5m2]
  instanceTypes := #[(.array .long), .int, .boolean]
  staticTypes := #[.int, .int, .int, .long, (.array (.object "java/io/ObjectStreamField")), .long, .boolean]
  resolved := Array.replicate 417 none
  statics := none }

def pool6 : Array CpInfo := pool [(1, .class_ 2), (0, u "java/lang/Math"), (1, .class_ 6), (1, u "java/lang/Object"), (0, u "<init>"), (0, u "()V"), (89, .class_ 100), (1, u "java/lang/Math$RandomNumberGeneratorHolder"), (20, u "(JJ)J"), (50, u "negativeZeroFloatBits"), (0, u "J"), (2, u "negativeZeroDoubleBits"), (21, u "max"), (46, u "$assertionsDisabled"), (0, u "Z"), (91, u "twoToTheDoubleScaleDown"), (0, u "D"), (4, u "twoToTheDoubleScaleUp"), (9, u "E"), (3, u "PI"), (2, u "TAU"), (2, u "DEGREES_TO_RADIANS"), (0, u "RADIANS_TO_DEGREES")] 94

def k6m0 : Method := { name := "<init>", desc := "()V", sig := { parameters := [], returnType := none }, accessFlags := 2, code := none }
def k6c1 : Code := { maxStack := 4, maxLocals := 4, code := jdk_29_method_66_code, exceptionTable := #[], attributes := #[] }
def k6m1 : Method := { name := "max", desc := "(JJ)J", sig := { parameters := [.long, .long], returnType := some .long }, accessFlags := 9, code := some k6c1 }
/-- java/lang/Math -/
def k6 : Class := { plain "java/lang/Math" (some 0) with
  accessFlags := 49
  interfaces := #[]
  cf := some (fileOf pool6 1 #[.nestMembers #[98]] #[{ accessFlags := 2, nameIndex := 7, descriptorIndex := 8, attributes := #[] }, { accessFlags := 9, nameIndex := 198, descriptorIndex := 121, attributes := #[] }] 49 4 #[] #[{ accessFlags := 25, nameIndex := 354, descriptorIndex := 339, attributes := #[] }, { accessFlags := 25, nameIndex := 358, descriptorIndex := 339, attributes := #[] }, { accessFlags := 25, nameIndex := 361, descriptorIndex := 339, attributes := #[] }, { accessFlags := 26, nameIndex := 364, descriptorIndex := 339, attributes := #[] }, { accessFlags := 26, nameIndex := 365, descriptorIndex := 339, attributes := #[] }, { accessFlags := 26, nameIndex := 172, descriptorIndex := 173, attributes := #[] }, { accessFlags := 26, nameIndex := 176, descriptorIndex := 173, attributes := #[] }, { accessFlags := 8, nameIndex := 344, descriptorIndex := 339, attributes := #[] }, { accessFlags := 8, nameIndex := 338, descriptorIndex := 339, attributes := #[] }, { accessFlags := 4120, nameIndex := 245, descriptorIndex := 246, attributes := #[] }])
  fields := #[{ name := "E", type := .double, accessFlags := 25, slot := 0, constantValue := 0 }, { name := "PI", type := .double, accessFlags := 25, slot := 1, constantValue := 0 }, { name := "TAU", type := .double, accessFlags := 25, slot := 2, constantValue := 0 }, { name := "DEGREES_TO_RADIANS", type := .double, accessFlags := 26, slot := 3, constantValue := 0 }, { name := "RADIANS_TO_DEGREES", type := .double, accessFlags := 26, slot := 4, constantValue := 0 }, { name := "negativeZeroFloatBits", type := .long, accessFlags := 26, slot := 5, constantValue := 0 }, { name := "negativeZeroDoubleBits", type := .long, accessFlags := 26, slot := 6, constantValue := 0 }, { name := "twoToTheDoubleScaleUp", type := .double, accessFlags := 8, slot := 7, constantValue := 0 }, { name := "twoToTheDoubleScaleDown", type := .double, accessFlags := 8, slot := 8, constantValue := 0 }, { name := "$assertionsDisabled", type := .boolean, accessFlags := 4120, slot := 9, constantValue := 0 }]
  methods := #[k6m0, k6m1]
  instanceTypes := #[]
  staticTypes := #[.double, .double, .double, .double, .double, .long, .long, .double, .double, .boolean]
  resolved := Array.replicate 460 none
  statics := none }

/-- the primitive byte -/
def k7 : Class := { plain "byte" none with kind := .primitive 'B', accessFlags := 0x411 }
/-- [B -/
def k8 : Class := { plain "[B" (some 0) with kind := .array 7 .byte, interfaces := #[3, 4], accessFlags := 1041 }

/-- the primitive int -/
def k9 : Class := { plain "int" none with kind := .primitive 'I', accessFlags := 0x411 }
/-- [I -/
def k10 : Class := { plain "[I" (some 0) with kind := .array 9 .int, interfaces := #[3, 4], accessFlags := 1041 }

/-- the primitive long -/
def k11 : Class := { plain "long" none with kind := .primitive 'J', accessFlags := 0x411 }
/-- [J -/
def k12 : Class := { plain "[J" (some 0) with kind := .array 11 .long, interfaces := #[3, 4], accessFlags := 1041 }

def heap : Heap := #[]
def classes : Array Class := #[k0, k1, k2, k3, k4, k5, k6, k7, k8, k9, k10, k11, k12]
def interned : List (Array UInt16 × Addr) := []
def slotsUsed : Nat := 0
def theMethod : MethodId := ⟨1, 2⟩
def args0 : Array Value := #[.long 5, .int 5, .int 5, .long 5, .long 5, .long 5]
def aboutOver (below : List Frame) : State where
  vm := { classes := classes, interned := interned.toArray }
  heap := heap
  slotsUsed := slotsUsed
  threads := #[{ frames := .invoking theMethod args0 :: below }]
def below0 : List Frame := [.native { method := ⟨0, 0⟩, args := #[] }]
def about1 : State := aboutOver below0
def p0 : Program := .bare "" "" ""
def e0 : Env := launch0.env 0 0 0
theorem w_frames : about1.frames = Frame.invoking theMethod args0 :: below0 := rfl
set_option maxRecDepth 65536 in
theorem w_args : argsFit about1.vm theMethod args0 = true := by decide +kernel
set_option maxRecDepth 65536 in
theorem w_heap : heapFits about1 = true := by decide +kernel
set_option maxRecDepth 65536 in
theorem w_runnable : about1.curStatus? = some .runnable := by decide +kernel
set_option maxRecDepth 65536 in
theorem w_alone : about1.alone = true := by decide +kernel
set_option maxRecDepth 65536 in
theorem w_named : about1.methodNamed? x = some theMethod := by decide +kernel
set_option maxRecDepth 65536 in
theorem w_hears : about1.hears theMethod below0 = true := by decide +kernel
set_option maxRecDepth 65536 in
theorem w_ripe : about1.ripe theMethod args0 below0 = true := by decide +kernel
theorem w_running : about1.status = .running := rfl
set_option maxRecDepth 65536 in
theorem w_room : about1.hasRoom e0.platform room_1 = true :=
  launch0.hasRoom_least _ room_1 (by decide +kernel) (by decide +kernel) (by decide +kernel) (by decide +kernel) (by decide +kernel) (by decide +kernel)
theorem allAtoms_all (ts : List Jvm.Cond) (a : Array Jvm.Value) (st : Jvm.State) : (allAtoms ts).before a st = ts.all (fun c => c.before a st) := by
  induction ts with
  | nil => rfl
  | cons c t ih =>
    show (Jvm.Cond.and c (allAtoms t)).before a st = _
    rw [Jvm.Cond.before_and, ih, List.all_cons]
def words1 : List Jvm.Cond := Jvm.Cond.code x code maxLocals ret :: tables_1
/-- a 'code' word, met by the world's own term for the bytes: nothing is compared byte by byte -/
theorem code_word {y : MethodName} {bytes : ByteArray} {mx : Nat} {rt : Option FieldType} {a : Array Value} {s : State} {m : MethodId} {meth : Method} {c : Code} (h1 : s.methodNamed? y = some m) (h2 : s.vm.method? m = some meth) (h3 : meth.code = some c) (h4 : c.code = bytes)
    (h5 : (c.maxLocals == mx && c.exceptionTable.isEmpty && decide (c.maxStack ≤ mostOperands) && decide (meth.sig.returnType = rt) && !meth.locks && decide (parseMethodDescriptor y.desc = some meth.sig)) = true) : (Jvm.Cond.code y bytes mx rt).before a s = true := by
  simp only [Bool.and_eq_true, beq_iff_eq, Bool.not_eq_true', decide_eq_true_eq] at h5
  obtain ⟨⟨⟨⟨⟨g1, g2⟩, g3⟩, g4⟩, g5⟩, g6⟩ := h5
  simp [Cond.before, Cond.holds, Cond.value, h1, h2, h3, h4, g1, g2, g3, g4, g5, g6]
def isCode : Jvm.Cond → Bool
  | .code _ _ _ _ => true
  | _ => false
theorem all_split {L : List Jvm.Cond} {P : Jvm.Cond → Bool} (h1 : L.all (fun c => isCode c || P c) = true) (h2 : ∀ c ∈ L.filter isCode, P c = true) : L.all P = true := by
  refine List.all_eq_true.mpr fun c hc => ?_
  have h := List.all_eq_true.mp h1 c hc
  rcases Bool.eq_false_or_eq_true (isCode c) with hi | hi
  · exact h2 c (List.mem_filter.mpr ⟨hc, hi⟩)
  · simpa [hi] using h
set_option maxRecDepth 65536 in
theorem w_c0 : (Jvm.Cond.code x code maxLocals ret).before args0 about1 = true := code_word (m := ⟨1, 2⟩) (meth := k1m2) (c := k1c2) (by decide +kernel) rfl rfl rfl (by decide +kernel)
set_option maxRecDepth 65536 in
theorem w_c1 : (Jvm.Cond.code ({ cls := "com/example/goodput/goodput/PublisherTallyGetSentInWindowPinLaw", name := "offset", desc := "(J)J" } : Jvm.MethodName) method_2_code (2 : Nat) (Option.some Jvm.ClassFile.FieldType.long)).before args0 about1 = true := code_word (m := ⟨1, 1⟩) (meth := k1m1) (c := k1c1) (by decide +kernel) rfl rfl rfl (by decide +kernel)
set_option maxRecDepth 65536 in
theorem w_c2 : (Jvm.Cond.code ({ cls := "com/example/goodput/goodput/PublisherTally", name := "<init>", desc := "(JI)V" } : Jvm.MethodName) prog_28_method_1_code (4 : Nat) (Option.none : Option Jvm.ClassFile.FieldType)).before args0 about1 = true := code_word (m := ⟨2, 0⟩) (meth := k2m0) (c := k2c0) (by decide +kernel) rfl rfl rfl (by decide +kernel)
set_option maxRecDepth 65536 in
theorem w_c3 : (Jvm.Cond.code ({ cls := "java/lang/Object", name := "<init>", desc := "()V" } : Jvm.MethodName) object_method_1_code (1 : Nat) (Option.none : Option Jvm.ClassFile.FieldType)).before args0 about1 = true := code_word (m := ⟨0, 0⟩) (meth := k0m0) (c := k0c0) (by decide +kernel) rfl rfl rfl (by decide +kernel)
set_option maxRecDepth 65536 in
theorem w_c4 : (Jvm.Cond.code ({ cls := "java/util/BitSet", name := "<init>", desc := "()V" } : Jvm.MethodName) jdk_92_method_4_code (1 : Nat) (Option.none : Option Jvm.ClassFile.FieldType)).before args0 about1 = true := code_word (m := ⟨5, 1⟩) (meth := k5m1) (c := k5c1) (by decide +kernel) rfl rfl rfl (by decide +kernel)
set_option maxRecDepth 65536 in
theorem w_c5 : (Jvm.Cond.code ({ cls := "java/util/BitSet", name := "initWords", desc := "(I)V" } : Jvm.MethodName) jdk_92_method_6_code (2 : Nat) (Option.none : Option Jvm.ClassFile.FieldType)).before args0 about1 = true := code_word (m := ⟨5, 2⟩) (meth := k5m2) (c := k5c2) (by decide +kernel) rfl rfl rfl (by decide +kernel)
set_option maxRecDepth 65536 in
theorem w_c6 : (Jvm.Cond.code ({ cls := "java/util/BitSet", name := "wordIndex", desc := "(I)I" } : Jvm.MethodName) jdk_92_method_1_code (1 : Nat) (Option.some Jvm.ClassFile.FieldType.int)).before args0 about1 = true := code_word (m := ⟨5, 0⟩) (meth := k5m0) (c := k5c0) (by decide +kernel) rfl rfl rfl (by decide +kernel)
set_option maxRecDepth 65536 in
theorem w_c7 : (Jvm.Cond.code ({ cls := "com/example/goodput/goodput/PublisherTally", name := "handedOver", desc := "(JJ)V" } : Jvm.MethodName) prog_28_method_2_code (7 : Nat) (Option.none : Option Jvm.ClassFile.FieldType)).before args0 about1 = true := code_word (m := ⟨2, 1⟩) (meth := k2m1) (c := k2c1) (by decide +kernel) rfl rfl rfl (by decide +kernel)
set_option maxRecDepth 65536 in
theorem w_c8 : (Jvm.Cond.code ({ cls := "java/lang/Math", name := "max", desc := "(JJ)J" } : Jvm.MethodName) jdk_29_method_66_code (4 : Nat) (Option.some Jvm.ClassFile.FieldType.long)).before args0 about1 = true := code_word (m := ⟨6, 1⟩) (meth := k6m1) (c := k6c1) (by decide +kernel) rfl rfl rfl (by decide +kernel)
set_option maxRecDepth 65536 in
theorem w_c9 : (Jvm.Cond.code ({ cls := "com/example/goodput/goodput/PublisherTally", name := "getSentInWindow", desc := "()J" } : Jvm.MethodName) prog_28_method_4_code (8 : Nat) (Option.some Jvm.ClassFile.FieldType.long)).before args0 about1 = true := code_word (m := ⟨2, 2⟩) (meth := k2m2) (c := k2c2) (by decide +kernel) rfl rfl rfl (by decide +kernel)
def codes1 : List Jvm.Cond := [Jvm.Cond.code x code maxLocals ret, Jvm.Cond.code ({ cls := "com/example/goodput/goodput/PublisherTallyGetSentInWindowPinLaw", name := "offset", desc := "(J)J" } : Jvm.MethodName) method_2_code (2 : Nat) (Option.some Jvm.ClassFile.FieldType.long), Jvm.Cond.code ({ cls := "com/example/goodput/goodput/PublisherTally", name := "<init>", desc := "(JI)V" } : Jvm.MethodName) prog_28_method_1_code (4 : Nat) (Option.none : Option Jvm.ClassFile.FieldType), Jvm.Cond.code ({ cls := "java/lang/Object", name := "<init>", desc := "()V" } : Jvm.MethodName) object_method_1_code (1 : Nat) (Option.none : Option Jvm.ClassFile.FieldType), Jvm.Cond.code ({ cls := "java/util/BitSet", name := "<init>", desc := "()V" } : Jvm.MethodName) jdk_92_method_4_code (1 : Nat) (Option.none : Option Jvm.ClassFile.FieldType), Jvm.Cond.code ({ cls := "java/util/BitSet", name := "initWords", desc := "(I)V" } : Jvm.MethodName) jdk_92_method_6_code (2 : Nat) (Option.none : Option Jvm.ClassFile.FieldType), Jvm.Cond.code ({ cls := "java/util/BitSet", name := "wordIndex", desc := "(I)I" } : Jvm.MethodName) jdk_92_method_1_code (1 : Nat) (Option.some Jvm.ClassFile.FieldType.int), Jvm.Cond.code ({ cls := "com/example/goodput/goodput/PublisherTally", name := "handedOver", desc := "(JJ)V" } : Jvm.MethodName) prog_28_method_2_code (7 : Nat) (Option.none : Option Jvm.ClassFile.FieldType), Jvm.Cond.code ({ cls := "java/lang/Math", name := "max", desc := "(JJ)J" } : Jvm.MethodName) jdk_29_method_66_code (4 : Nat) (Option.some Jvm.ClassFile.FieldType.long), Jvm.Cond.code ({ cls := "com/example/goodput/goodput/PublisherTally", name := "getSentInWindow", desc := "()J" } : Jvm.MethodName) prog_28_method_4_code (8 : Nat) (Option.some Jvm.ClassFile.FieldType.long)]
set_option maxRecDepth 65536 in
theorem codes_eq : words1.filter isCode = codes1 := rfl
theorem w_codes : ∀ c ∈ words1.filter isCode, c.before args0 about1 = true := by
  rw [codes_eq]
  intro c hc
  simp only [codes1, List.mem_cons, List.not_mem_nil, or_false] at hc
  rcases hc with rfl | rfl | rfl | rfl | rfl | rfl | rfl | rfl | rfl | rfl
  · exact w_c0
  · exact w_c1
  · exact w_c2
  · exact w_c3
  · exact w_c4
  · exact w_c5
  · exact w_c6
  · exact w_c7
  · exact w_c8
  · exact w_c9
set_option maxRecDepth 65536 in
theorem w_t1 : (words1.take 24).all (fun c => isCode c || c.before args0 about1) = true := by decide +kernel
set_option maxRecDepth 65536 in
theorem w_t2 : ((words1.drop 24).take 24).all (fun c => isCode c || c.before args0 about1) = true := by decide +kernel
set_option maxRecDepth 65536 in
theorem w_t3 : ((words1.drop 24).drop 24).all (fun c => isCode c || c.before args0 about1) = true := by decide +kernel
theorem w_tables : (allAtoms (Jvm.Cond.code x code maxLocals ret :: tables_1)).before args0 about1 = true := by
  rw [allAtoms_all]
  show words1.all (fun c => c.before args0 about1) = true
  refine all_split ?_ w_codes
  rw [← List.take_append_drop 24 words1, List.all_append, w_t1, ← List.take_append_drop 24 (words1.drop 24), List.all_append, w_t2, w_t3]
  rfl
set_option maxRecDepth 65536 in
theorem w_case : (Jvm.Cond.and given_1 narrow_1).before args0 about1 = true := by decide +kernel
theorem w_applies : (headSpec (Jvm.Cond.code x code maxLocals ret :: tables_1) room_1).applies x e0.platform about1 = true :=
  (Spec.applies_iff w_frames).mpr ⟨w_running, w_runnable, w_alone, w_named, w_hears, w_ripe, w_room, w_tables⟩
theorem atStart : AtStart classFile x code maxLocals ret World_1 tables_1 room_1 Calls_1 rest_1 Pre_1 launch0 p0 e0 about1 theMethod args0 below0 :=
  ⟨lists_1, trivial, launch0.admits_env _ _ _, launch0.least_env, fairChoices_fair.cas, fairChoices_fair.clock, w_frames, w_args, w_heap, w_applies, trivial, trivial, w_case⟩
end start1
theorem witness_1 : WitnessClaimed_1 := ⟨start1.p0, start1.e0, start1.about1, start1.theMethod, start1.args0, start1.below0, start1.atStart⟩
end Jvm.Pilot.@@N@@
