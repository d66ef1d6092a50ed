import JvmDerived
import JvmDerived.Pilot.@@N@@Statement
import JvmDerived.Pilot.@@N@@Code
set_option linter.unusedVariables false
set_option linter.unusedSimpArgs false
namespace Jvm.Pilot.@@N@@
open Jvm Jvm.ClassFile Sem Op Lib Jvm.Free Jvm.Stand Jvm.LawKit Jvm.RoadKit Bundle Jvm.Pilot.@@N@@.Jvm.D
set_option maxRecDepth 65536
/-! the run still has to be led to its end from A: the goal of a walk, taken step by step -/
def own_Go (p : Program) (e : Env) (below : List Frame) (s : State) (Q : Option Value → Heap → List Loc → Prop) (C S : Nat) (A : State) : Prop :=
  ∃ s₂ o, Steps p.tables e below A s₂ ∧ s₂.status = .running ∧ Ended s₂ below o ∧ ∃ v L, o = .returned v ∧ Q v s₂.heap L ∧ FrameEnd s o s₂ L C S
section OwnA
variable {p : Program} {l : Launch} {e : Env} {R : Room} {s : State} {m : MethodId} {args : Array Value} {below : List Frame} {meth : Method} {c : Code} {T : State} {locs : List Loc} {cells slots : Nat} {Q : Option Value → Heap → List Loc → Prop} {C S : Nat}
theorem own_st {A B : State} (h : ∀ t, Steps p.tables e below B t → Steps p.tables e below A t) (g : own_Go p e below s Q C S B) : own_Go p e below s Q C S A := by
  obtain ⟨s₂, o, h1, r⟩ := g
  exact ⟨s₂, o, h _ h1, r⟩
theorem own_ss {A B : State} (h : Steps p.tables e below A B) (g : own_Go p e below s Q C S B) : own_Go p e below s Q C S A := own_st (fun _ k => h.trans k) g
theorem own_cut {P G : Prop} (a : P → G) (b : P) : G := a b
theorem own_leave (X : Stand p l e R s m args below meth c T locs cells slots) {v : Option Value} (hv : meth.sig.returnType = none → v = none) (hlk : meth.locks = false) (hQ : Q v T.heap locs) (hc : cells ≤ C) (hs : slots ≤ S) {A : State}
    (hr : ∀ fs, (∀ (f : JFrame) (acts : List Action), f.method = m → f.locked = none → f.entered = [] → (doReturn e (T.setTop f) acts v).1 = T.setFrames fs) → Steps p.tables e below A (T.setFrames fs)) : own_Go p e below s Q C S A := by
  obtain ⟨fs, hr', hrun, hended, hW, hsame⟩ := X.leave (v := v) hv hlk
  exact ⟨_, _, hr fs hr', hrun, hended, _, _, rfl, hQ, ⟨_, rfl⟩, hW, hsame.mono hc hs⟩
theorem own_retV (X : Stand p l e R s m args below meth c T locs cells slots) (hx : p.tables.exec = Jvm.exec) (hlk : meth.locks = false) (hret : meth.sig.returnType = none) {pc : Nat} {Ls : Array Slot} (hd : decode c.code pc = .ok (.return_, 1)) (hc : cells ≤ C) (hs : slots ≤ S) (hQ : Q none T.heap locs) :
    own_Go p e below s Q C S (T.setTop (mkF m pc Ls [])) := own_leave X (fun _ => rfl) hlk hQ hc hs fun _ hr => X.returnOut hx hret hd hr
theorem own_retI (X : Stand p l e R s m args below meth c T locs cells slots) (hx : p.tables.exec = Jvm.exec) (hlk : meth.locks = false) (hret : meth.sig.returnType = some .int) {pc : Nat} {Ls : Array Slot} {z : Int32} {rest : List Value} (hd : decode c.code pc = .ok (.ireturn, 1)) (hc : cells ≤ C) (hs : slots ≤ S) (hQ : Q (some (.int z)) T.heap locs) :
    own_Go p e below s Q C S (T.setTop (mkF m pc Ls (.int z :: rest))) := own_leave X (fun h => by rw [hret] at h; cases h) hlk hQ hc hs fun _ hr => retOut X hx hret rfl (Or.inl ⟨rfl, Or.inl rfl, _, rfl⟩) hd hr
theorem own_retJ (X : Stand p l e R s m args below meth c T locs cells slots) (hx : p.tables.exec = Jvm.exec) (hlk : meth.locks = false) (hret : meth.sig.returnType = some .long) {pc : Nat} {Ls : Array Slot} {z : Int64} {rest : List Value} (hd : decode c.code pc = .ok (.lreturn, 1)) (hc : cells ≤ C) (hs : slots ≤ S) (hQ : Q (some (.long z)) T.heap locs) :
    own_Go p e below s Q C S (T.setTop (mkF m pc Ls (.long z :: rest))) := own_leave X (fun h => by rw [hret] at h; cases h) hlk hQ hc hs fun _ hr => retOut X hx hret rfl (Or.inr (Or.inl ⟨rfl, rfl, _, rfl⟩)) hd hr
theorem own_retR (X : Stand p l e R s m args below meth c T locs cells slots) (hx : p.tables.exec = Jvm.exec) (hlk : meth.locks = false) {t : FieldType} (hret : meth.sig.returnType = some t) (ht : t.isReference = true) {pc : Nat} {Ls : Array Slot} {w : Value} {rest : List Value} (hn : narrow t w = w) (hw : w.isRef = true) (hd : decode c.code pc = .ok (.areturn, 1)) (hc : cells ≤ C) (hs : slots ≤ S) (hQ : Q (some w) T.heap locs) :
    own_Go p e below s Q C S (T.setTop (mkF m pc Ls (w :: rest))) := own_leave X (fun h => by rw [hret] at h; cases h) hlk hQ hc hs fun _ hr => retOut X hx hret hn (Or.inr (Or.inr (Or.inr (Or.inr ⟨rfl, ht, hw⟩)))) hd hr
theorem own_retN (X : Stand p l e R s m args below meth c T locs cells slots) (hx : p.tables.exec = Jvm.exec) (hlk : meth.locks = false) {t : FieldType} (hret : meth.sig.returnType = some t) (ht : t = .boolean ∨ t = .byte ∨ t = .char ∨ t = .short) {pc : Nat} {Ls : Array Slot} {z z' : Int32} {rest : List Value} (hz : nar t z = z') (hd : decode c.code pc = .ok (.ireturn, 1)) (hc : cells ≤ C) (hs : slots ≤ S) (hQ : Q (some (.int z')) T.heap locs) :
    own_Go p e below s Q C S (T.setTop (mkF m pc Ls (.int z :: rest))) := by
  subst hz
  exact own_leave X (fun h => by rw [hret] at h; cases h) hlk hQ hc hs fun _ hr => retN X hx hret ht hd hr
/-! arrays by the whole list of what they hold -/
variable {Z : State} {h h' : Heap} {a b : Addr} {ty : FieldType} {vs : List Value}
def own_A (Z : State) (h : Heap) (a : Addr) (ty : FieldType) (vs : List Value) : Prop := ∃ c : Cell, Arr Z h a c ty ∧ c.slots.toList = vs
theorem own_A.lt (F : own_A Z h a ty vs) : a < h.size := by obtain ⟨c, A, -⟩ := F; exact A.lt
theorem own_A.ext (F : own_A Z h a ty vs) (E : Ext h h') : own_A Z h' a ty vs := by obtain ⟨c, A, q⟩ := F; exact ⟨c, A.ext E, q⟩
theorem own_A.other {sl : Nat} {v : Value} (F : own_A Z h a ty vs) (W : Wr h h' b sl v) (q : a ≠ b) : own_A Z h' a ty vs := by obtain ⟨c, A, r⟩ := F; exact ⟨c, A.other W q, r⟩
theorem own_A.keep {ws : List Addr} (F : own_A Z h a ty vs) (K : Keep h h' ws) (q : a ∉ ws) : own_A Z h' a ty vs := by obtain ⟨c, A, r⟩ := F; exact ⟨c, ⟨K.2.1 a c A.1 q, A.2⟩, r⟩
theorem own_A.set {i : Nat} {v : Value} (F : own_A Z h a ty vs) (W : Wr h h' a i v) : own_A Z h' a ty (vs.set i v) := by
  obtain ⟨c, A, rfl⟩ := F
  exact ⟨_, A.same W, by simp [Cell.setSlot]⟩
theorem own_ix {j : Int32} {i : Nat} (hj : j.toInt = (i : Int)) : ¬ j < 0 ∧ j.toNatClampNeg = i := by
  refine ⟨?_, ?_⟩
  · rw [Int32.lt_iff_toInt_lt, hj]
    show ¬ ((i : Int) < 0)
    omega
  · have h1 : j.toNatClampNeg = j.toInt.toNat := rfl
    rw [h1, hj]; rfl
theorem own_in {cl : Cell} {j : Int32} {i : Nat} {v : Value} (hj : j.toInt = (i : Int)) (hv : cl.slots.toList[i]? = some v) : ¬ (j < 0 ∨ cl.slots.size ≤ j.toNatClampNeg) ∧ cl.slots[j.toNatClampNeg]? = some v := by
  obtain ⟨n0, n1⟩ := own_ix hj
  rw [n1]
  rw [Array.getElem?_toList] at hv
  refine ⟨?_, hv⟩
  have h2 := (Array.getElem?_eq_some_iff.mp hv).1
  rintro (q | q)
  · exact n0 q
  · omega
theorem own_ldI (X : Stand p l e R s m args below meth c T locs cells slots) (hx : p.tables.exec = Jvm.exec) (hZ : Z.Warmed39 s.vm) (eT : T.heap = h) (A : own_A Z h a .int vs) {j : Int32} {i : Nat} {v : Value} (hj : j.toInt = (i : Int)) (hv : vs[i]? = some v) {g : JFrame} (hg : g.method = m) {rest : List Value} (hs : g.stack = .int j :: .ref a :: rest) (hd : decode c.code g.pc = .ok (.iaload, 1)) {t : State}
    (k : Steps p.tables e below (T.setTop { g with pc := g.pc + 1, stack := v :: rest }) t) : Steps p.tables e below (T.setTop g) t := by
  obtain ⟨cl, A, rfl⟩ := A
  exact X.iaload hx (by rw [eT]; exact A.1) (State.isArrayOf_alike hZ.alike A.2.1) A.2.2 (own_in hj hv).1 (own_in hj hv).2 hg hs hd _ k
theorem own_ldJ (X : Stand p l e R s m args below meth c T locs cells slots) (hx : p.tables.exec = Jvm.exec) (hZ : Z.Warmed39 s.vm) (eT : T.heap = h) (A : own_A Z h a .long vs) {j : Int32} {i : Nat} {v : Value} (hj : j.toInt = (i : Int)) (hv : vs[i]? = some v) {g : JFrame} (hg : g.method = m) {rest : List Value} (hs : g.stack = .int j :: .ref a :: rest) (hd : decode c.code g.pc = .ok (.laload, 1)) {t : State}
    (k : Steps p.tables e below (T.setTop { g with pc := g.pc + 1, stack := v :: rest }) t) : Steps p.tables e below (T.setTop g) t := by
  obtain ⟨cl, A, rfl⟩ := A
  exact X.laload hx (by rw [eT]; exact A.1) (State.isArrayOf_alike hZ.alike A.2.1) A.2.2 (own_in hj hv).1 (own_in hj hv).2 hg hs hd _ k
theorem own_ldB (X : Stand p l e R s m args below meth c T locs cells slots) (hx : p.tables.exec = Jvm.exec) (hZ : Z.Warmed39 s.vm) (eT : T.heap = h) (A : own_A Z h a .byte vs) {j : Int32} {i : Nat} {v : Value} (hj : j.toInt = (i : Int)) (hv : vs[i]? = some v) {g : JFrame} (hg : g.method = m) {rest : List Value} (hs : g.stack = .int j :: .ref a :: rest) (hd : decode c.code g.pc = .ok (.baload, 1)) {t : State}
    (k : Steps p.tables e below (T.setTop { g with pc := g.pc + 1, stack := v :: rest }) t) : Steps p.tables e below (T.setTop g) t := by
  obtain ⟨cl, A, rfl⟩ := A
  exact X.baloadBytes hx (by rw [eT]; exact A.1) (State.isArrayOf_alike hZ.alike A.2.1) A.2.2 (own_in hj hv).1 (own_in hj hv).2 hg hs hd _ k
theorem own_ldZ (X : Stand p l e R s m args below meth c T locs cells slots) (hx : p.tables.exec = Jvm.exec) (hZ : Z.Warmed39 s.vm) (eT : T.heap = h) (A : own_A Z h a .boolean vs) {j : Int32} {i : Nat} {v : Value} (hj : j.toInt = (i : Int)) (hv : vs[i]? = some v) {g : JFrame} (hg : g.method = m) {rest : List Value} (hs : g.stack = .int j :: .ref a :: rest) (hd : decode c.code g.pc = .ok (.baload, 1)) {t : State}
    (k : Steps p.tables e below (T.setTop { g with pc := g.pc + 1, stack := v :: rest }) t) : Steps p.tables e below (T.setTop g) t := by
  obtain ⟨cl, A, rfl⟩ := A
  exact X.baloadBooleans hx (by rw [eT]; exact A.1) (State.isArrayOf_alike hZ.alike A.2.1) A.2.2 (own_in hj hv).1 (own_in hj hv).2 hg hs hd _ k
theorem own_ldS (X : Stand p l e R s m args below meth c T locs cells slots) (hx : p.tables.exec = Jvm.exec) (hZ : Z.Warmed39 s.vm) (eT : T.heap = h) (A : own_A Z h a .short vs) {j : Int32} {i : Nat} {v : Value} (hj : j.toInt = (i : Int)) (hv : vs[i]? = some v) {g : JFrame} (hg : g.method = m) {rest : List Value} (hs : g.stack = .int j :: .ref a :: rest) (hd : decode c.code g.pc = .ok (.saload, 1)) {t : State}
    (k : Steps p.tables e below (T.setTop { g with pc := g.pc + 1, stack := v :: rest }) t) : Steps p.tables e below (T.setTop g) t := by
  obtain ⟨cl, A, rfl⟩ := A
  exact X.saload hx (by rw [eT]; exact A.1) (State.isArrayOf_alike hZ.alike A.2.1) A.2.2 (own_in hj hv).1 (own_in hj hv).2 hg hs hd _ k
theorem own_ldC (X : Stand p l e R s m args below meth c T locs cells slots) (hx : p.tables.exec = Jvm.exec) (hZ : Z.Warmed39 s.vm) (eT : T.heap = h) (A : own_A Z h a .char vs) {j : Int32} {i : Nat} {v : Value} (hj : j.toInt = (i : Int)) (hv : vs[i]? = some v) {g : JFrame} (hg : g.method = m) {rest : List Value} (hs : g.stack = .int j :: .ref a :: rest) (hd : decode c.code g.pc = .ok (.caload, 1)) {t : State}
    (k : Steps p.tables e below (T.setTop { g with pc := g.pc + 1, stack := v :: rest }) t) : Steps p.tables e below (T.setTop g) t := by
  obtain ⟨cl, A, rfl⟩ := A
  exact X.caload hx (by rw [eT]; exact A.1) (State.isArrayOf_alike hZ.alike A.2.1) A.2.2 (own_in hj hv).1 (own_in hj hv).2 hg hs hd _ k
theorem own_ldR (X : Stand p l e R s m args below meth c T locs cells slots) (hx : p.tables.exec = Jvm.exec) (hZ : Z.Warmed39 s.vm) (eT : T.heap = h) (A : own_A Z h a ty vs) (hty : ty.isReference = true) {j : Int32} {i : Nat} {v : Value} (hj : j.toInt = (i : Int)) (hv : vs[i]? = some v) {g : JFrame} (hg : g.method = m) {rest : List Value} (hs : g.stack = .int j :: .ref a :: rest) (hd : decode c.code g.pc = .ok (.aaload, 1)) {t : State}
    (k : Steps p.tables e below (T.setTop { g with pc := g.pc + 1, stack := v :: rest }) t) : Steps p.tables e below (T.setTop g) t := by
  obtain ⟨cl, A, rfl⟩ := A
  exact X.aaload hx (by rw [eT]; exact A.1) (State.isArrayOf_alike hZ.alike A.2.1) hty A.2.2 (own_in hj hv).1 (own_in hj hv).2 hg hs hd _ k
theorem own_stI (X : Stand p l e R s m args below meth c T locs cells slots) (hx : p.tables.exec = Jvm.exec) (hZ : Z.Warmed39 s.vm) (eT : T.heap = h) (A : own_A Z h a .int vs) {j x : Int32} {i : Nat} (hj : j.toInt = (i : Int)) (hi : i < vs.length) {g : JFrame} (hg : g.method = m) {rest : List Value} (hs : g.stack = .int x :: .int j :: .ref a :: rest) (hd : decode c.code g.pc = .ok (.iastore, 1)) :
    ∃ T' h', Stand p l e R s m args below meth c T' (locs ++ [⟨a, i⟩]) cells slots ∧ T'.heap = h' ∧ Wr h h' a i (.int x) ∧ own_A Z h' a .int (vs.set i (.int x)) ∧ ∀ target, Steps p.tables e below (T'.setTop { g with pc := g.pc + 1, stack := rest }) target → Steps p.tables e below (T.setTop g) target := by
  obtain ⟨cl, A, rfl⟩ := A
  have hin := (own_in (cl := cl) (v := cl.slots.toList[i]) hj (List.getElem?_eq_getElem hi)).1
  obtain ⟨T', h', X', e', W', st⟩ := stI X hx hZ eT A (j := j) (x := x) hin hg hs hd
  rw [(own_ix hj).2] at X' W'
  exact ⟨T', h', X', e', W', own_A.set ⟨cl, A, rfl⟩ W', st⟩
theorem own_stJ (X : Stand p l e R s m args below meth c T locs cells slots) (hx : p.tables.exec = Jvm.exec) (hZ : Z.Warmed39 s.vm) (eT : T.heap = h) (A : own_A Z h a .long vs) {j : Int32} {x : Int64} {i : Nat} (hj : j.toInt = (i : Int)) (hi : i < vs.length) {g : JFrame} (hg : g.method = m) {rest : List Value} (hs : g.stack = .long x :: .int j :: .ref a :: rest) (hd : decode c.code g.pc = .ok (.lastore, 1)) :
    ∃ T' h', Stand p l e R s m args below meth c T' (locs ++ [⟨a, i⟩]) cells slots ∧ T'.heap = h' ∧ Wr h h' a i (.long x) ∧ own_A Z h' a .long (vs.set i (.long x)) ∧ ∀ target, Steps p.tables e below (T'.setTop { g with pc := g.pc + 1, stack := rest }) target → Steps p.tables e below (T.setTop g) target := by
  obtain ⟨cl, A, rfl⟩ := A
  have hin := (own_in (cl := cl) (v := cl.slots.toList[i]) hj (List.getElem?_eq_getElem hi)).1
  obtain ⟨T', h', X', e', W', st⟩ := stJ X hx hZ eT A (j := j) (x := x) hin hg hs hd
  rw [(own_ix hj).2] at X' W'
  exact ⟨T', h', X', e', W', own_A.set ⟨cl, A, rfl⟩ W', st⟩
theorem own_stB (X : Stand p l e R s m args below meth c T locs cells slots) (hx : p.tables.exec = Jvm.exec) (hZ : Z.Warmed39 s.vm) (eT : T.heap = h) (A : own_A Z h a .byte vs) {j x : Int32} {i : Nat} (hj : j.toInt = (i : Int)) (hi : i < vs.length) {g : JFrame} (hg : g.method = m) {rest : List Value} (hs : g.stack = .int x :: .int j :: .ref a :: rest) (hd : decode c.code g.pc = .ok (.bastore, 1)) :
    ∃ T' h', Stand p l e R s m args below meth c T' (locs ++ [⟨a, i⟩]) cells slots ∧ T'.heap = h' ∧ Wr h h' a i (.int x.toInt8.toInt32) ∧ own_A Z h' a .byte (vs.set i (.int x.toInt8.toInt32)) ∧ ∀ target, Steps p.tables e below (T'.setTop { g with pc := g.pc + 1, stack := rest }) target → Steps p.tables e below (T.setTop g) target := by
  obtain ⟨cl, A, rfl⟩ := A
  have hin := (own_in (cl := cl) (v := cl.slots.toList[i]) hj (List.getElem?_eq_getElem hi)).1
  obtain ⟨T', h', X', e', W', st⟩ := stB X hx hZ eT A (j := j) (x := x) hin hg hs hd
  rw [(own_ix hj).2] at X' W'
  exact ⟨T', h', X', e', W', own_A.set ⟨cl, A, rfl⟩ W', st⟩
theorem own_stS (X : Stand p l e R s m args below meth c T locs cells slots) (hx : p.tables.exec = Jvm.exec) (hZ : Z.Warmed39 s.vm) (eT : T.heap = h) (A : own_A Z h a .short vs) {j x : Int32} {i : Nat} (hj : j.toInt = (i : Int)) (hi : i < vs.length) {g : JFrame} (hg : g.method = m) {rest : List Value} (hs : g.stack = .int x :: .int j :: .ref a :: rest) (hd : decode c.code g.pc = .ok (.sastore, 1)) :
    ∃ T' h', Stand p l e R s m args below meth c T' (locs ++ [⟨a, i⟩]) cells slots ∧ T'.heap = h' ∧ Wr h h' a i (.int x.toInt16.toInt32) ∧ own_A Z h' a .short (vs.set i (.int x.toInt16.toInt32)) ∧ ∀ target, Steps p.tables e below (T'.setTop { g with pc := g.pc + 1, stack := rest }) target → Steps p.tables e below (T.setTop g) target := by
  obtain ⟨cl, A, rfl⟩ := A
  have hin := (own_in (cl := cl) (v := cl.slots.toList[i]) hj (List.getElem?_eq_getElem hi)).1
  obtain ⟨T', h', X', e', W', st⟩ := stS X hx hZ eT A (j := j) (x := x) hin hg hs hd
  rw [(own_ix hj).2] at X' W'
  exact ⟨T', h', X', e', W', own_A.set ⟨cl, A, rfl⟩ W', st⟩
theorem own_stC (X : Stand p l e R s m args below meth c T locs cells slots) (hx : p.tables.exec = Jvm.exec) (hZ : Z.Warmed39 s.vm) (eT : T.heap = h) (A : own_A Z h a .char vs) {j x : Int32} {i : Nat} (hj : j.toInt = (i : Int)) (hi : i < vs.length) {g : JFrame} (hg : g.method = m) {rest : List Value} (hs : g.stack = .int x :: .int j :: .ref a :: rest) (hd : decode c.code g.pc = .ok (.castore, 1)) :
    ∃ T' h', Stand p l e R s m args below meth c T' (locs ++ [⟨a, i⟩]) cells slots ∧ T'.heap = h' ∧ Wr h h' a i (.int x.toUInt32.toUInt16.toUInt32.toInt32) ∧ own_A Z h' a .char (vs.set i (.int x.toUInt32.toUInt16.toUInt32.toInt32)) ∧ ∀ target, Steps p.tables e below (T'.setTop { g with pc := g.pc + 1, stack := rest }) target → Steps p.tables e below (T.setTop g) target := by
  obtain ⟨cl, A, rfl⟩ := A
  have hin := (own_in (cl := cl) (v := cl.slots.toList[i]) hj (List.getElem?_eq_getElem hi)).1
  obtain ⟨T', h', X', e', W', st⟩ := stC X hx hZ eT A (j := j) (x := x) hin hg hs hd
  rw [(own_ix hj).2] at X' W'
  exact ⟨T', h', X', e', W', own_A.set ⟨cl, A, rfl⟩ W', st⟩
theorem own_newP {a0 : Array Value} (X : Stand p l e R s m args below meth c T locs cells slots) (hx : p.tables.exec = Jvm.exec) (hZ : Z.Warmed39 s.vm) {aty : ArrayType} (w : (Cond.arrayClass (newarray.typeOf aty)).before a0 Z = true) (eT : T.heap = h) {g : JFrame} (hg : g.method = m) (hd : decode c.code g.pc = .ok (.newarray aty, 2)) {n : Int32} {rest : List Value} (hs : g.stack = .int n :: rest)
    {k cap : Nat} (hk : n.toInt = (k : Int)) (hcap : k ≤ cap) (hb : cap * 8 ≤ 536870912) (hc : cells + 1 ≤ R.cells) (hl : slots + cap ≤ R.slots) {ad : String} (had : "[" ++ (newarray.typeOf aty).toString = ad) :
    ∃ T' h', Stand p l e R s m args below meth c T' locs (cells + 1) (slots + cap) ∧ T'.heap = h' ∧ Ext h h' ∧ own_A Z h' h.size (newarray.typeOf aty) (List.replicate k (defaultValue (newarray.typeOf aty))) ∧ Exa Z h' h.size ad ∧
      ∀ target, Steps p.tables e below (T'.setTop { g with pc := g.pc + 2, stack := .ref h.size :: rest }) target → Steps p.tables e below (T.setTop g) target := by
  obtain ⟨n0, n1⟩ := own_ix hk
  obtain ⟨T', h', cA, X', e', E', A', x', st⟩ := newPE X hx hZ w eT hg hd hs n0 (cap := cap) (by rw [n1]; exact hcap) hb hc hl had
  exact ⟨T', h', X', e', E', ⟨_, A', by simp [newA, n1]⟩, x', st⟩
theorem own_clone {a0 : Array Value} (X : Stand p l e R s m args below meth c T locs cells slots) (hx : p.tables.exec = Jvm.exec) (hZ : Z.Warmed39 s.vm) {own ad : String} {index : Nat} (hown : s.vm.findClass own = some m.cls)
    (w1 : (Cond.methodLink own index ⟨ad, "clone", "()Ljava/lang/Object;"⟩).before a0 Z = true) (w2 : (Cond.sameMethod ad "java/lang/Object" "clone" "()Ljava/lang/Object;").before a0 Z = true) (w3 : (Cond.native ⟨"java/lang/Object", "clone", "()Ljava/lang/Object;"⟩).before a0 Z = true)
    (w4 : (Cond.instanceMethod ⟨"java/lang/Object", "clone", "()Ljava/lang/Object;"⟩).before a0 Z = true) (w5 : (Cond.selects ad ⟨ad, "clone", "()Ljava/lang/Object;"⟩ ⟨"java/lang/Object", "clone", "()Ljava/lang/Object;"⟩).before a0 Z = true) (w6 : (Cond.castable ad "java/lang/Cloneable").before a0 Z = true)
    (eT : T.heap = h) (A : own_A Z h a ty vs) (E : Exa Z h a ad) (hf : ∀ v ∈ vs, fits ty v = true) {g : JFrame} (hg : g.method = m) (hsize : g.locals.size = c.maxLocals) {rest : List Value} (hst : g.stack = .ref a :: rest) (hd : decode c.code g.pc = .ok (.invokevirtual index, 3))
    (hfr : 1 ≤ R.frames) {W cap : Nat} (hW : 2 * g.monitorRoom + (rest.map fun v => v.category).sum ≤ W) (hl : W + 14 ≤ R.locals) (hcap : vs.length ≤ cap) (hc : cells + 1 ≤ R.cells) (hsl : slots + cap ≤ R.slots) :
    ∃ T' h', Stand p l e R s m args below meth c T' locs (cells + 1) (slots + cap) ∧ T'.heap = h' ∧ Ext h h' ∧ own_A Z h' h.size ty vs ∧ Exa Z h' h.size ad ∧
      ∀ target, Steps p.tables e below (T'.setTop { g with pc := g.pc + 3, stack := .ref h.size :: rest }) target → Steps p.tables e below (T.setTop g) target := by
  obtain ⟨cl, A, rfl⟩ := A
  have FC : FitC Z cl := fitC_of A fun i hi v hv => hf v (by
    rw [← Array.getElem?_toList] at hv
    exact List.mem_of_getElem? hv)
  obtain ⟨T', h', X', e', ex, A', E', st⟩ := cloneA X hx hZ hown w1 w2 w3 w4 w5 w6 eT A E FC hg hsize hst hd hfr hW hl (by simpa using hcap) hc hsl
  exact ⟨T', h', X', e', ex, ⟨_, A', rfl⟩, E', st⟩
def own_Ov (C : String) (Z : State) (h : Heap) (a : Addr) : Prop := ∃ c : Cell, h[a]? = some c ∧ Ovr Z c.cls C
theorem own_Ov.lt {C : String} (F : own_Ov C Z h a) : a < h.size := by obtain ⟨c, q, -⟩ := F; exact (Array.getElem?_eq_some_iff.mp q).1
theorem own_Ov.ext {C : String} (F : own_Ov C Z h a) (E : Ext h h') : own_Ov C Z h' a := by obtain ⟨c, q, r⟩ := F; exact ⟨c, E.2 _ _ q, r⟩
theorem own_Ov.other {C : String} {sl : Nat} {v : Value} (F : own_Ov C Z h a) (W : Wr h h' b sl v) (ne : a ≠ b) : own_Ov C Z h' a := by
  obtain ⟨c, q, r⟩ := F
  obtain ⟨c', q', -, -, -, e, -⟩ := wr_at W q
  exact ⟨c', q', by rw [e ne]; exact r⟩
theorem own_Ov.keep {C : String} {ws : List Addr} (F : own_Ov C Z h a) (K : Keep h h' ws) (ne : a ∉ ws) : own_Ov C Z h' a := by obtain ⟨c, q, r⟩ := F; exact ⟨c, K.2.1 _ _ q ne, r⟩
theorem own_newR {a0 : Array Value} (X : Stand p l e R s m args below meth c T locs cells slots) (hx : p.tables.exec = Jvm.exec) (hZ : Z.Warmed39 s.vm) {own C : String} {index : Nat} (hown : s.vm.findClass own = some m.cls) (w1 : (Cond.classLink own index C).before a0 Z = true) (w2 : (Cond.arrayOver (.object C)).before a0 Z = true) (eT : T.heap = h) {g : JFrame} (hg : g.method = m) (hd : decode c.code g.pc = .ok (.anewarray index, 3)) {n : Int32} {rest : List Value} (hs : g.stack = .int n :: rest)
    {k cap : Nat} (hk : n.toInt = (k : Int)) (hcap : k ≤ cap) (hb : cap * 8 ≤ 536870912) (hc : cells + 1 ≤ R.cells) (hl : slots + cap ≤ R.slots) {ad : String} (had : "[" ++ (FieldType.object C).toString = ad) :
    ∃ T' h', Stand p l e R s m args below meth c T' locs (cells + 1) (slots + cap) ∧ T'.heap = h' ∧ Ext h h' ∧ own_A Z h' h.size (.object C) (List.replicate k .null) ∧ Exa Z h' h.size ad ∧ own_Ov C Z h' h.size ∧
      ∀ target, Steps p.tables e below (T'.setTop { g with pc := g.pc + 3, stack := .ref h.size :: rest }) target → Steps p.tables e below (T.setTop g) target := by
  obtain ⟨n0, n1⟩ := own_ix hk
  obtain ⟨T', h', cA, X', e', E', A', x', O', st⟩ := newRE X hx hZ hown w1 w2 eT hg hd hs n0 (cap := cap) (by rw [n1]; exact hcap) hb hc hl had
  exact ⟨T', h', X', e', E', ⟨_, A', by simp [newA, n1, defaultValue]⟩, x', ⟨_, A'.1, O'⟩, st⟩
theorem own_stR {C : String} (X : Stand p l e R s m args below meth c T locs cells slots) (hx : p.tables.exec = Jvm.exec) (hZ : Z.Warmed39 s.vm) (eT : T.heap = h) (A : own_A Z h a (.object C) vs) (O : own_Ov C Z h a) {y : Addr} (I : Ins Z h y C true) {j : Int32} {i : Nat} (hj : j.toInt = (i : Int)) (hi : i < vs.length) {g : JFrame} (hg : g.method = m) {rest : List Value} (hs : g.stack = .ref y :: .int j :: .ref a :: rest) (hd : decode c.code g.pc = .ok (.aastore, 1)) :
    ∃ T' h', Stand p l e R s m args below meth c T' (locs ++ [⟨a, i⟩]) cells slots ∧ T'.heap = h' ∧ Wr h h' a i (.ref y) ∧ own_A Z h' a (.object C) (vs.set i (.ref y)) ∧ ∀ target, Steps p.tables e below (T'.setTop { g with pc := g.pc + 1, stack := rest }) target → Steps p.tables e below (T.setTop g) target := by
  obtain ⟨cl, A, rfl⟩ := A
  obtain ⟨c2, q, r⟩ := O
  cases A.1.symm.trans q
  have hin := (own_in (cl := cl) (v := cl.slots.toList[i]) hj (List.getElem?_eq_getElem hi)).1
  obtain ⟨T', h', X', e', W', st⟩ := stR X hx hZ eT A (j := j) (v := .ref y) hin rfl (Sto.of A r I) hg hs hd
  rw [(own_ix hj).2] at X' W'
  exact ⟨T', h', X', e', W', own_A.set ⟨cl, A, rfl⟩ W', st⟩
theorem own_len (X : Stand p l e R s m args below meth c T locs cells slots) (hx : p.tables.exec = Jvm.exec) (hZ : Z.Warmed39 s.vm) (eT : T.heap = h) (A : own_A Z h a ty vs) {n : Int32} (hn : n.toInt = (vs.length : Int)) {g : JFrame} (hg : g.method = m) {rest : List Value} (hs : g.stack = .ref a :: rest) (hd : decode c.code g.pc = .ok (.arraylength, 1)) {t : State}
    (k : Steps p.tables e below (T.setTop { g with pc := g.pc + 1, stack := .int n :: rest }) t) : Steps p.tables e below (T.setTop g) t := by
  obtain ⟨cl, A, rfl⟩ := A
  have h1 := n.toInt_lt
  have h2 : cl.slots.size.toInt32 = n := by
    refine Int32.toInt_inj.mp ?_
    rw [hn]
    have h3 : cl.slots.toList.length = cl.slots.size := by simp
    rw [h3] at hn ⊢
    exact len_toInt (by omega)
  refine X.arraylength hx (by rw [eT]; exact A.1) (State.isArrayOf_alike hZ.alike A.2.1) hg hs hd _ ?_
  rw [h2]; exact k
theorem own_lrem (X : Stand p l e R s m args below meth c T locs cells slots) (hx : p.tables.exec = Jvm.exec) {g : JFrame} (hg : g.method = m) {x y : Int64} {rest : List Value} (hd : decode c.code g.pc = .ok (.lrem, 1)) (hs : g.stack = .long y :: .long x :: rest) (hy : y ≠ 0) {t : State}
    (k : Steps p.tables e below (T.setTop { g with pc := g.pc + 1, stack := .long (x % y) :: rest }) t) : Steps p.tables e below (T.setTop g) t := XS.lrem X.here hx hg hd hs hy (by rw [lrem_mod]; exact k)
end OwnA
theorem own_Sta.keep {Z : State} {h h' : Heap} {ws : List Addr} {C n d : String} {v : Value} (F : Sta Z h C n d v) (K : Keep h h' ws) (q : ∀ st ∈ ws, ∀ cell : Cell, h[st]? = some cell → cell.vm.isStatics = false) : Sta Z h' C n d v := by
  obtain ⟨cf, i, k, f, st, cell, h1, h2, h3, h4, h5, h6, h7⟩ := F
  refine ⟨cf, i, k, f, st, cell, h1, h2, h3, h4, K.2.1 st cell h5 fun hm => ?_, h6, h7⟩
  rw [q st hm cell h5] at h6
  cases h6
theorem own_z_eq_t {c : Prop} [Decidable c] (h : ¬ c) : ifCond.holds .eq (if c then (1 : Int32) else 0) = true := by rw [if_neg h]; rfl
theorem own_z_eq_f {c : Prop} [Decidable c] (h : c) : ifCond.holds .eq (if c then (1 : Int32) else 0) = false := by rw [if_pos h]; rfl
theorem own_z_ne_t {c : Prop} [Decidable c] (h : c) : ifCond.holds .ne (if c then (1 : Int32) else 0) = true := by rw [if_pos h]; rfl
theorem own_z_ne_f {c : Prop} [Decidable c] (h : ¬ c) : ifCond.holds .ne (if c then (1 : Int32) else 0) = false := by rw [if_neg h]; rfl
theorem own_z_nar {c : Prop} [Decidable c] : nar .boolean (if c then (1 : Int32) else 0) = if c then (1 : Int32) else 0 := by split <;> rfl
/-- two slots that hold nothing or a long, whose value nobody reads again -/
def own_Two (a b : Slot) : Prop := (a = .unset ∧ b = .unset) ∨ ∃ z, a = .val (.long z) ∧ b = .second
theorem own_plainE {Z : State} {h : Heap} {a : Addr} {C : String} (F : Exa Z h a C) : ∀ cell : Cell, h[a]? = some cell → cell.vm.isStatics = false := fun cell hc => by
  obtain ⟨c, k, h1, -, -, h4, -⟩ := F
  cases h1.symm.trans hc
  exact h4
theorem own_plainA {Z : State} {h : Heap} {a : Addr} {ty : FieldType} {vs : List Value} (F : own_A Z h a ty vs) : ∀ cell : Cell, h[a]? = some cell → cell.vm.isStatics = false := fun cell hc => by
  obtain ⟨c, A, -⟩ := F
  cases A.1.symm.trans hc
  exact A.plain
theorem own_pop2 {tb : Tables} [Ours tb] {e : Env} {below : List Frame} {T target : State} {m : MethodId} {c : Code} {g : JFrame} (h : At T m c below) (hx : tb.exec = Jvm.exec) (hg : g.method = m) {x : Int64} {rest : List Value} (hd : decode c.code g.pc = .ok (.pop2, 1)) (hs : g.stack = .long x :: rest)
    (hr : Steps tb e below (T.setTop { g with pc := g.pc + 1, stack := rest }) target) : Steps tb e below (T.setTop g) target := by
  subst hg
  jvm_step h [h.top, hx, hd, hs, Value.category]
  exact hr
theorem own_min1 {i : Int32} {n : Nat} (h0 : 0 ≤ i.toInt) (h1 : i.toInt < (n : Int)) (hn : n < 1000) : (i + 1).toInt.toNat = i.toInt.toNat + 1 ∧ (i + 1).toInt = i.toInt + 1 := by
  have h2 := c_iadd i 1
  have h3 := rng32 (i + 1)
  have h4 : (1 : Int32).toInt = 1 := rfl
  omega
theorem own_ltN {i : Int32} {n : Nat} (hn : n < 1000) : i < n.toInt32 ↔ i.toInt < (n : Int) := by
  rw [Int32.lt_iff_toInt_lt, len_toInt (by omega)]
theorem own_getI {bs : List Int32} {i : Nat} (h : i < bs.length) : (bs.map Value.int)[i]? = some (.int (bs.getD i 0)) := by
  simp [List.getElem?_map, h]
theorem own_nat {i : Int32} (h : 0 ≤ i.toInt) : i.toInt = ((i.toInt.toNat : Nat) : Int) := by omega
/-! the same for a walk that may load String constants: it may leave the table of interned texts longer -/
def own_GoW (p : Program) (e : Env) (below : List Frame) (s : State) (Q : Option Value → Heap → List Loc → Prop) (V : Vm → Heap → Prop) (C S : Nat) (A : State) : Prop :=
  ∃ s₂ o, Steps p.tables e below A s₂ ∧ s₂.status = .running ∧ Ended s₂ below o ∧ ∃ v L, o = .returned v ∧ Q v s₂.heap L ∧ V s₂.vm s₂.heap ∧ ReturnedEndW s o s₂ L C S
section OwnW
variable {p : Program} {l : Launch} {e : Env} {R : Room} {s : State} {vm₁ : Vm} {m : MethodId} {args : Array Value} {below : List Frame} {meth : Method} {c : Code} {T : State} {locs : List Loc} {cells slots : Nat} {Q : Option Value → Heap → List Loc → Prop} {V : Vm → Heap → Prop} {C S : Nat}
theorem own_stW {A B : State} (h : ∀ t, Steps p.tables e below B t → Steps p.tables e below A t) (g : own_GoW p e below s Q V C S B) : own_GoW p e below s Q V C S A := by
  obtain ⟨s₂, o, h1, r⟩ := g
  exact ⟨s₂, o, h _ h1, r⟩
theorem own_ssW {A B : State} (h : Steps p.tables e below A B) (g : own_GoW p e below s Q V C S B) : own_GoW p e below s Q V C S A := own_stW (fun _ k => h.trans k) g
theorem own_leaveW (X : Stand p l e R (s.setVm vm₁) m args below meth c T locs cells slots) {n : Nat} (hS : s.Since vm₁ n) (hn : n ≤ T.heap.size) {v : Option Value} (hv : meth.sig.returnType = none → v = none) (hlk : meth.locks = false) (hQ : Q v T.heap locs) (hV : V T.vm T.heap) (hc : cells ≤ C) (hs : slots ≤ S) {A : State}
    (hr : ∀ fs, (∀ (f : JFrame) (acts : List Action), f.method = m → f.locked = none → f.entered = [] → (doReturn e (T.setTop f) acts v).1 = T.setFrames fs) → Steps p.tables e below A (T.setFrames fs)) : own_GoW p e below s Q V C S A := by
  obtain ⟨fs, hr', hrun, hended, h1, h2, h3, h4⟩ := X.leaveW hS hn (v := v) hv hlk
  exact ⟨_, _, hr fs hr', hrun, hended, _, _, rfl, hQ, hV, h1, h2, h3, h4.mono hc hs⟩
theorem own_retVW (X : Stand p l e R (s.setVm vm₁) m args below meth c T locs cells slots) {n : Nat} (hS : s.Since vm₁ n) (hn : n ≤ T.heap.size) (hx : p.tables.exec = Jvm.exec) (hlk : meth.locks = false) (hret : meth.sig.returnType = none) {pc : Nat} {Ls : Array Slot} (hd : decode c.code pc = .ok (.return_, 1)) (hc : cells ≤ C) (hs : slots ≤ S) (hV : V T.vm T.heap) (hQ : Q none T.heap locs) :
    own_GoW p e below s Q V C S (T.setTop (mkF m pc Ls [])) := own_leaveW X hS hn (fun _ => rfl) hlk hQ hV hc hs fun _ hr => X.returnOut hx hret hd hr
theorem own_retRW (X : Stand p l e R (s.setVm vm₁) m args below meth c T locs cells slots) {n : Nat} (hS : s.Since vm₁ n) (hn : n ≤ T.heap.size) (hx : p.tables.exec = Jvm.exec) (hlk : meth.locks = false) {t : FieldType} (hret : meth.sig.returnType = some t) (ht : t.isReference = true) {pc : Nat} {Ls : Array Slot} {w : Value} {rest : List Value} (hnr : narrow t w = w) (hw : w.isRef = true) (hd : decode c.code pc = .ok (.areturn, 1)) (hc : cells ≤ C) (hs : slots ≤ S) (hV : V T.vm T.heap) (hQ : Q (some w) T.heap locs) :
    own_GoW p e below s Q V C S (T.setTop (mkF m pc Ls (w :: rest))) := own_leaveW X hS hn (fun h => by rw [hret] at h; cases h) hlk hQ hV hc hs fun _ hr => retOut X hx hret hnr (Or.inr (Or.inr (Or.inr (Or.inr ⟨rfl, ht, hw⟩)))) hd hr
theorem own_retNW (X : Stand p l e R (s.setVm vm₁) m args below meth c T locs cells slots) {n : Nat} (hS : s.Since vm₁ n) (hn : n ≤ T.heap.size) (hx : p.tables.exec = Jvm.exec) (hlk : meth.locks = false) {t : FieldType} (hret : meth.sig.returnType = some t) (ht : t = .boolean ∨ t = .byte ∨ t = .char ∨ t = .short) {pc : Nat} {Ls : Array Slot} {z z' : Int32} {rest : List Value} (hz : nar t z = z') (hd : decode c.code pc = .ok (.ireturn, 1)) (hc : cells ≤ C) (hs : slots ≤ S) (hV : V T.vm T.heap) (hQ : Q (some (.int z')) T.heap locs) :
    own_GoW p e below s Q V C S (T.setTop (mkF m pc Ls (.int z :: rest))) := by
  subst hz
  exact own_leaveW X hS hn (fun h => by rw [hret] at h; cases h) hlk hQ hV hc hs fun _ hr => retN X hx hret ht hd hr
variable {Z : State} {a0 : Array Value} {h : Heap} {vm0 : Vm} {EL : List (String × Nat)}
theorem own_sfA {x : Addr} {ty : FieldType} {vs : List Value} (hal : Z.vm.Alike vm0) (A : own_A Z h x ty vs) (ht : ty ≠ .byte) : Safe Z EL vm0 h x := by
  obtain ⟨c, A, -⟩ := A
  exact Safe.arr hal A ht
theorem own_ofArv {x : Addr} {k : ClassId} {ty : FieldType} {d : Value} (A : Arv Z h x k ty 0 [] d) : own_A Z h x ty [] := by
  obtain ⟨c, A, -, h1, -⟩ := A
  refine ⟨c, A, List.eq_nil_of_length_eq_zero ?_⟩
  rw [Array.length_toList, h1]; rfl
theorem own_ofArvN {x : Addr} {k : ClassId} {ty : FieldType} {z : Int32} {vs : List Value} {d : Value} (A : Arv Z h x k ty z vs d) (hl : z.toNatClampNeg = vs.length) : own_A Z h x ty vs := by
  obtain ⟨c, A, -, h1, -, H, -⟩ := A
  refine ⟨c, A, List.ext_getElem? fun i => ?_⟩
  rw [Array.getElem?_toList]
  by_cases q : i < c.slots.size
  · have q2 : i < vs.length := by rw [← hl, ← h1]; exact q
    rw [H i q, List.getD_eq_getElem?_getD, List.getElem?_eq_getElem q2]; rfl
  · have q2 : vs.length ≤ i := by rw [← hl, ← h1]; exact Nat.le_of_not_lt q
    rw [Array.getElem?_eq_none (Nat.le_of_not_lt q), List.getElem?_eq_none q2]
theorem own_neA {x b : Addr} {C : String} {n : Nat} {ty : FieldType} {vs : List Value} (E : Exa Z h x C) (F : own_A Z h b ty vs) (w : (Cond.instantiable C n).before a0 Z = true) : x ≠ b := fun q => by
  subst q
  obtain ⟨c, k, e1, e2, e3, -⟩ := E
  obtain ⟨c2, ⟨a1, ⟨-, k2, a2, comp, a3⟩, -⟩, -⟩ := F
  cases e1.symm.trans a1
  cases e3.symm.trans a2
  obtain ⟨t, kt, g1, g2, g3, -⟩ := Cond.instantiable_spec w
  cases e2.symm.trans g1
  cases e3.symm.trans g2
  rw [a3] at g3; cases g3
/-- a callee that may load constants, some of its objects being told apart from theirs -/
theorem own_backSH {y : MethodName} {bytes : ByteArray} {maxL : Nat} {ret : Option FieldType} {rm : Room} {len W : Nat} {as' : Array Value} {SF : List Addr} {Qc : Option Value → Heap → List Loc → Prop}
    (hM : MetFree l y (head1 [Cond.code y bytes maxL ret] rm) (fun a U => a = as' ∧ Z.Warmed39 U.vm ∧ U.heap = h ∧ CHv Z EL U.vm h ∧ ∀ x ∈ SF, Safe Z EL U.vm h x) (fun _ _ _ _ _ => True) (fun _ U o U' => ∃ v L, o = .returned v ∧ Qc v U'.heap L ∧ CHr Z EL U.vm h U'.vm U'.heap ∧ ReturnedEndW U o U' L rm.cells rm.slots))
    (hZ : Z.Warmed39 vm0) (wc : (Cond.code y bytes maxL ret).before a0 Z = true) (wz : (Cond.initialized y.cls).before a0 Z = true) (hf : rm.frames + 1 ≤ R.frames) (hl : W + (maxL + 11) + rm.locals ≤ R.locals) (hEL : EW Z a0 EL) (H : CHv Z EL vm0 h) (hSF : ∀ x ∈ SF, x < h.size ∧ Safe Z EL vm0 h x) :
    BackS l R p e below (s.setVm vm0) args y len W (fun A a => a = as' ∧ A.U.heap = h ∧ A.cells + rm.cells ≤ R.cells ∧ A.slots + rm.slots ≤ R.slots)
      (fun A _ v B => ∃ L, Qc v B.U.heap L ∧ B.locs = A.locs ++ L ∧ B.cells = A.cells + rm.cells ∧ B.slots = A.slots + rm.slots ∧ CHr Z EL vm0 h B.U.vm B.U.heap) :=
  BackS.of_freeW (bytes := bytes) (maxL := maxL) (ret := ret) (E := fun _ first o t L k n => k = rm.cells ∧ n = rm.slots ∧ (∃ v, o = .returned v ∧ Qc v t.heap L) ∧ CHr Z EL first.vm h t.vm t.heap) hM hf hl
    (fun m meth c A a Y hp => have hU : Z.Warmed39 A.U.vm := wtrans (s := s.setVm vm0) hZ Y.warmed
      ⟨by show (Cond.and _ .tt).before a A.U = true; rw [Cond.before_and, mv hU wc]; rfl, mv hU wc, mv hU wz, hp.2.2.1, hp.2.2.2⟩)
    (fun m meth c A a g mk Y hp => ⟨hp.1, wtrans (s := s.setVm vm0) hZ Y.warmed, hp.2.1, (CHv.at Y hZ hEL H).1, fun x hx => (CHv.at Y hZ hEL H).safe (hSF x hx).1 (hSF x hx).2⟩) (fun _ _ _ _ _ _ _ _ _ => trivial)
    (fun _ _ _ _ ⟨v, L, h1, h2, h3, h4⟩ => ⟨L, _, _, h4, rfl, rfl, ⟨v, h1, h2⟩, h3⟩)
    (fun m meth c A a g mk v t L k n Y hp _ _ ⟨e1, e2, ⟨v', e3, e4⟩, e5⟩ => by
      cases e3; subst e1 e2
      exact ⟨L, e4, rfl, rfl, rfl, (CHv.at Y hZ hEL H).trans e5⟩)
end OwnW
theorem w_0 {a0 : Array Value} {Z : State} (hw : ∀ d ∈ tables_1, d.before a0 Z = true) : (Jvm.Cond.stringLink "com/example/goodput/goodput/DeliveryModeNamedPinLaw" (17 : Nat) "direct").before a0 Z = true := hw _ (List.mem_of_getElem? (i := 0) rfl)
theorem w_1 {a0 : Array Value} {Z : State} (hw : ∀ d ∈ tables_1, d.before a0 Z = true) : (Jvm.Cond.initialized "java/lang/String").before a0 Z = true := hw _ (List.mem_of_getElem? (i := 1) rfl)
theorem w_2 {a0 : Array Value} {Z : State} (hw : ∀ d ∈ tables_1, d.before a0 Z = true) : (Jvm.Cond.instantiable "java/lang/String" (4 : Nat)).before a0 Z = true := hw _ (List.mem_of_getElem? (i := 2) rfl)
theorem w_3 {a0 : Array Value} {Z : State} (hw : ∀ d ∈ tables_1, d.before a0 Z = true) : (Jvm.Cond.arrayClass Jvm.ClassFile.FieldType.byte).before a0 Z = true := hw _ (List.mem_of_getElem? (i := 3) rfl)
theorem w_4 {a0 : Array Value} {Z : State} (hw : ∀ d ∈ tables_1, d.before a0 Z = true) : (Jvm.Cond.laysFinal "java/lang/String" "java/lang/String" "value" "[B").before a0 Z = true := hw _ (List.mem_of_getElem? (i := 4) rfl)
theorem w_5 {a0 : Array Value} {Z : State} (hw : ∀ d ∈ tables_1, d.before a0 Z = true) : (Jvm.Cond.laysFinal "java/lang/String" "java/lang/String" "coder" "B").before a0 Z = true := hw _ (List.mem_of_getElem? (i := 5) rfl)
theorem w_6 {a0 : Array Value} {Z : State} (hw : ∀ d ∈ tables_1, d.before a0 Z = true) : (Jvm.Cond.soleField "java/lang/String" "value").before a0 Z = true := hw _ (List.mem_of_getElem? (i := 6) rfl)
theorem w_7 {a0 : Array Value} {Z : State} (hw : ∀ d ∈ tables_1, d.before a0 Z = true) : (Jvm.Cond.soleField "java/lang/String" "coder").before a0 Z = true := hw _ (List.mem_of_getElem? (i := 7) rfl)
theorem w_8 {a0 : Array Value} {Z : State} (hw : ∀ d ∈ tables_1, d.before a0 Z = true) : (Jvm.Cond.stringLink "com/example/goodput/goodput/DeliveryModeNamedPinLaw" (19 : Nat) "persistent").before a0 Z = true := hw _ (List.mem_of_getElem? (i := 8) rfl)
theorem w_9 {a0 : Array Value} {Z : State} (hw : ∀ d ∈ tables_1, d.before a0 Z = true) : (Jvm.Cond.classLink "com/example/goodput/goodput/DeliveryModeNamedPinLaw" (8 : Nat) "java/lang/String").before a0 Z = true := hw _ (List.mem_of_getElem? (i := 9) rfl)
theorem w_10 {a0 : Array Value} {Z : State} (hw : ∀ d ∈ tables_1, d.before a0 Z = true) : (Jvm.Cond.arrayClass Jvm.ClassFile.FieldType.char).before a0 Z = true := hw _ (List.mem_of_getElem? (i := 10) rfl)
theorem w_11 {a0 : Array Value} {Z : State} (hw : ∀ d ∈ tables_1, d.before a0 Z = true) : (Jvm.Cond.methodLink "com/example/goodput/goodput/DeliveryModeNamedPinLaw" (21 : Nat) ({ cls := "com/example/goodput/goodput/DeliveryModeNamedPinLaw", name := "at", desc := "(Ljava/lang/String;IIC)C" } : Jvm.MethodName)).before a0 Z = true := hw _ (List.mem_of_getElem? (i := 11) rfl)
theorem w_12 {a0 : Array Value} {Z : State} (hw : ∀ d ∈ tables_1, d.before a0 Z = true) : (Jvm.Cond.static ({ cls := "com/example/goodput/goodput/DeliveryModeNamedPinLaw", name := "at", desc := "(Ljava/lang/String;IIC)C" } : Jvm.MethodName)).before a0 Z = true := hw _ (List.mem_of_getElem? (i := 12) rfl)
theorem w_13 {a0 : Array Value} {Z : State} (hw : ∀ d ∈ tables_1, d.before a0 Z = true) : (Jvm.Cond.initialized "com/example/goodput/goodput/DeliveryModeNamedPinLaw").before a0 Z = true := hw _ (List.mem_of_getElem? (i := 13) rfl)
theorem w_14 {a0 : Array Value} {Z : State} (hw : ∀ d ∈ tables_1, d.before a0 Z = true) : (Jvm.Cond.code ({ cls := "com/example/goodput/goodput/DeliveryModeNamedPinLaw", name := "at", desc := "(Ljava/lang/String;IIC)C" } : Jvm.MethodName) method_2_code (4 : Nat) (Option.some Jvm.ClassFile.FieldType.char)).before a0 Z = true := hw _ (List.mem_of_getElem? (i := 14) rfl)
theorem w_15 {a0 : Array Value} {Z : State} (hw : ∀ d ∈ tables_1, d.before a0 Z = true) : (Jvm.Cond.methodLink "com/example/goodput/goodput/DeliveryModeNamedPinLaw" (7 : Nat) ({ cls := "java/lang/String", name := "length", desc := "()I" } : Jvm.MethodName)).before a0 Z = true := hw _ (List.mem_of_getElem? (i := 15) rfl)
theorem w_16 {a0 : Array Value} {Z : State} (hw : ∀ d ∈ tables_1, d.before a0 Z = true) : (Jvm.Cond.declares ({ cls := "java/lang/String", name := "length", desc := "()I" } : Jvm.MethodName)).before a0 Z = true := hw _ (List.mem_of_getElem? (i := 16) rfl)
theorem w_17 {a0 : Array Value} {Z : State} (hw : ∀ d ∈ tables_1, d.before a0 Z = true) : (Jvm.Cond.instanceMethod ({ cls := "java/lang/String", name := "length", desc := "()I" } : Jvm.MethodName)).before a0 Z = true := hw _ (List.mem_of_getElem? (i := 17) rfl)
theorem w_18 {a0 : Array Value} {Z : State} (hw : ∀ d ∈ tables_1, d.before a0 Z = true) : (Jvm.Cond.selects "java/lang/String" ({ cls := "java/lang/String", name := "length", desc := "()I" } : Jvm.MethodName) ({ cls := "java/lang/String", name := "length", desc := "()I" } : Jvm.MethodName)).before a0 Z = true := hw _ (List.mem_of_getElem? (i := 18) rfl)
theorem w_19 {a0 : Array Value} {Z : State} (hw : ∀ d ∈ tables_1, d.before a0 Z = true) : (Jvm.Cond.code ({ cls := "java/lang/String", name := "length", desc := "()I" } : Jvm.MethodName) jdk_42_method_54_code (1 : Nat) (Option.some Jvm.ClassFile.FieldType.int)).before a0 Z = true := hw _ (List.mem_of_getElem? (i := 19) rfl)
theorem w_20 {a0 : Array Value} {Z : State} (hw : ∀ d ∈ tables_1, d.before a0 Z = true) : (Jvm.Cond.fieldLink "java/lang/String" (9 : Nat) "java/lang/String" "value" "[B").before a0 Z = true := hw _ (List.mem_of_getElem? (i := 20) rfl)
theorem w_21 {a0 : Array Value} {Z : State} (hw : ∀ d ∈ tables_1, d.before a0 Z = true) : (Jvm.Cond.methodLink "java/lang/String" (335 : Nat) ({ cls := "java/lang/String", name := "coder", desc := "()B" } : Jvm.MethodName)).before a0 Z = true := hw _ (List.mem_of_getElem? (i := 21) rfl)
theorem w_22 {a0 : Array Value} {Z : State} (hw : ∀ d ∈ tables_1, d.before a0 Z = true) : (Jvm.Cond.declares ({ cls := "java/lang/String", name := "coder", desc := "()B" } : Jvm.MethodName)).before a0 Z = true := hw _ (List.mem_of_getElem? (i := 22) rfl)
theorem w_23 {a0 : Array Value} {Z : State} (hw : ∀ d ∈ tables_1, d.before a0 Z = true) : (Jvm.Cond.instanceMethod ({ cls := "java/lang/String", name := "coder", desc := "()B" } : Jvm.MethodName)).before a0 Z = true := hw _ (List.mem_of_getElem? (i := 23) rfl)
theorem w_24 {a0 : Array Value} {Z : State} (hw : ∀ d ∈ tables_1, d.before a0 Z = true) : (Jvm.Cond.selects "java/lang/String" ({ cls := "java/lang/String", name := "coder", desc := "()B" } : Jvm.MethodName) ({ cls := "java/lang/String", name := "coder", desc := "()B" } : Jvm.MethodName)).before a0 Z = true := hw _ (List.mem_of_getElem? (i := 24) rfl)
theorem w_25 {a0 : Array Value} {Z : State} (hw : ∀ d ∈ tables_1, d.before a0 Z = true) : (Jvm.Cond.code ({ cls := "java/lang/String", name := "coder", desc := "()B" } : Jvm.MethodName) jdk_42_method_152_code (1 : Nat) (Option.some Jvm.ClassFile.FieldType.byte)).before a0 Z = true := hw _ (List.mem_of_getElem? (i := 25) rfl)
theorem w_26 {a0 : Array Value} {Z : State} (hw : ∀ d ∈ tables_1, d.before a0 Z = true) : (Jvm.Cond.fieldLink "java/lang/String" (38 : Nat) "java/lang/String" "COMPACT_STRINGS" "Z").before a0 Z = true := hw _ (List.mem_of_getElem? (i := 26) rfl)
theorem w_27 {a0 : Array Value} {Z : State} (hw : ∀ d ∈ tables_1, d.before a0 Z = true) : (Jvm.Cond.fieldLink "java/lang/String" (15 : Nat) "java/lang/String" "coder" "B").before a0 Z = true := hw _ (List.mem_of_getElem? (i := 27) rfl)
theorem w_28 {a0 : Array Value} {Z : State} (hw : ∀ d ∈ tables_1, d.before a0 Z = true) : (Jvm.Cond.methodLink "com/example/goodput/goodput/DeliveryModeNamedPinLaw" (13 : Nat) ({ cls := "java/lang/String", name := "charAt", desc := "(I)C" } : Jvm.MethodName)).before a0 Z = true := hw _ (List.mem_of_getElem? (i := 28) rfl)
theorem w_29 {a0 : Array Value} {Z : State} (hw : ∀ d ∈ tables_1, d.before a0 Z = true) : (Jvm.Cond.declares ({ cls := "java/lang/String", name := "charAt", desc := "(I)C" } : Jvm.MethodName)).before a0 Z = true := hw _ (List.mem_of_getElem? (i := 29) rfl)
theorem w_30 {a0 : Array Value} {Z : State} (hw : ∀ d ∈ tables_1, d.before a0 Z = true) : (Jvm.Cond.instanceMethod ({ cls := "java/lang/String", name := "charAt", desc := "(I)C" } : Jvm.MethodName)).before a0 Z = true := hw _ (List.mem_of_getElem? (i := 30) rfl)
theorem w_31 {a0 : Array Value} {Z : State} (hw : ∀ d ∈ tables_1, d.before a0 Z = true) : (Jvm.Cond.selects "java/lang/String" ({ cls := "java/lang/String", name := "charAt", desc := "(I)C" } : Jvm.MethodName) ({ cls := "java/lang/String", name := "charAt", desc := "(I)C" } : Jvm.MethodName)).before a0 Z = true := hw _ (List.mem_of_getElem? (i := 31) rfl)
theorem w_32 {a0 : Array Value} {Z : State} (hw : ∀ d ∈ tables_1, d.before a0 Z = true) : (Jvm.Cond.code ({ cls := "java/lang/String", name := "charAt", desc := "(I)C" } : Jvm.MethodName) jdk_42_method_56_code (2 : Nat) (Option.some Jvm.ClassFile.FieldType.char)).before a0 Z = true := hw _ (List.mem_of_getElem? (i := 32) rfl)
theorem w_33 {a0 : Array Value} {Z : State} (hw : ∀ d ∈ tables_1, d.before a0 Z = true) : (Jvm.Cond.methodLink "java/lang/String" (492 : Nat) ({ cls := "java/lang/String", name := "isLatin1", desc := "()Z" } : Jvm.MethodName)).before a0 Z = true := hw _ (List.mem_of_getElem? (i := 33) rfl)
theorem w_34 {a0 : Array Value} {Z : State} (hw : ∀ d ∈ tables_1, d.before a0 Z = true) : (Jvm.Cond.declares ({ cls := "java/lang/String", name := "isLatin1", desc := "()Z" } : Jvm.MethodName)).before a0 Z = true := hw _ (List.mem_of_getElem? (i := 34) rfl)
theorem w_35 {a0 : Array Value} {Z : State} (hw : ∀ d ∈ tables_1, d.before a0 Z = true) : (Jvm.Cond.instanceMethod ({ cls := "java/lang/String", name := "isLatin1", desc := "()Z" } : Jvm.MethodName)).before a0 Z = true := hw _ (List.mem_of_getElem? (i := 35) rfl)
theorem w_36 {a0 : Array Value} {Z : State} (hw : ∀ d ∈ tables_1, d.before a0 Z = true) : (Jvm.Cond.selects "java/lang/String" ({ cls := "java/lang/String", name := "isLatin1", desc := "()Z" } : Jvm.MethodName) ({ cls := "java/lang/String", name := "isLatin1", desc := "()Z" } : Jvm.MethodName)).before a0 Z = true := hw _ (List.mem_of_getElem? (i := 36) rfl)
theorem w_37 {a0 : Array Value} {Z : State} (hw : ∀ d ∈ tables_1, d.before a0 Z = true) : (Jvm.Cond.code ({ cls := "java/lang/String", name := "isLatin1", desc := "()Z" } : Jvm.MethodName) jdk_42_method_154_code (1 : Nat) (Option.some Jvm.ClassFile.FieldType.boolean)).before a0 Z = true := hw _ (List.mem_of_getElem? (i := 37) rfl)
theorem w_38 {a0 : Array Value} {Z : State} (hw : ∀ d ∈ tables_1, d.before a0 Z = true) : (Jvm.Cond.methodLink "java/lang/String" (495 : Nat) ({ cls := "java/lang/StringLatin1", name := "charAt", desc := "([BI)C" } : Jvm.MethodName)).before a0 Z = true := hw _ (List.mem_of_getElem? (i := 38) rfl)
theorem w_39 {a0 : Array Value} {Z : State} (hw : ∀ d ∈ tables_1, d.before a0 Z = true) : (Jvm.Cond.static ({ cls := "java/lang/StringLatin1", name := "charAt", desc := "([BI)C" } : Jvm.MethodName)).before a0 Z = true := hw _ (List.mem_of_getElem? (i := 39) rfl)
theorem w_40 {a0 : Array Value} {Z : State} (hw : ∀ d ∈ tables_1, d.before a0 Z = true) : (Jvm.Cond.initialized "java/lang/StringLatin1").before a0 Z = true := hw _ (List.mem_of_getElem? (i := 40) rfl)
theorem w_41 {a0 : Array Value} {Z : State} (hw : ∀ d ∈ tables_1, d.before a0 Z = true) : (Jvm.Cond.code ({ cls := "java/lang/StringLatin1", name := "charAt", desc := "([BI)C" } : Jvm.MethodName) jdk_43_method_2_code (2 : Nat) (Option.some Jvm.ClassFile.FieldType.char)).before a0 Z = true := hw _ (List.mem_of_getElem? (i := 41) rfl)
theorem w_42 {a0 : Array Value} {Z : State} (hw : ∀ d ∈ tables_1, d.before a0 Z = true) : (Jvm.Cond.methodLink "java/lang/StringLatin1" (9 : Nat) ({ cls := "java/lang/String", name := "checkIndex", desc := "(II)V" } : Jvm.MethodName)).before a0 Z = true := hw _ (List.mem_of_getElem? (i := 42) rfl)
theorem w_43 {a0 : Array Value} {Z : State} (hw : ∀ d ∈ tables_1, d.before a0 Z = true) : (Jvm.Cond.static ({ cls := "java/lang/String", name := "checkIndex", desc := "(II)V" } : Jvm.MethodName)).before a0 Z = true := hw _ (List.mem_of_getElem? (i := 43) rfl)
theorem w_44 {a0 : Array Value} {Z : State} (hw : ∀ d ∈ tables_1, d.before a0 Z = true) : (Jvm.Cond.code ({ cls := "java/lang/String", name := "checkIndex", desc := "(II)V" } : Jvm.MethodName) jdk_42_method_155_code (2 : Nat) (Option.none : Option Jvm.ClassFile.FieldType)).before a0 Z = true := hw _ (List.mem_of_getElem? (i := 44) rfl)
theorem w_45 {a0 : Array Value} {Z : State} (hw : ∀ d ∈ tables_1, d.before a0 Z = true) : (Jvm.Cond.fieldLink "java/lang/String" (1053 : Nat) "jdk/internal/util/Preconditions" "SIOOBE_FORMATTER" "Ljava/util/function/BiFunction;").before a0 Z = true := hw _ (List.mem_of_getElem? (i := 45) rfl)
theorem w_46 {a0 : Array Value} {Z : State} (hw : ∀ d ∈ tables_1, d.before a0 Z = true) : (Jvm.Cond.initialized "jdk/internal/util/Preconditions").before a0 Z = true := hw _ (List.mem_of_getElem? (i := 46) rfl)
theorem w_47 {a0 : Array Value} {Z : State} (hw : ∀ d ∈ tables_1, d.before a0 Z = true) : (Jvm.Cond.methodLink "java/lang/String" (1059 : Nat) ({ cls := "jdk/internal/util/Preconditions", name := "checkIndex", desc := "(IILjava/util/function/BiFunction;)I" } : Jvm.MethodName)).before a0 Z = true := hw _ (List.mem_of_getElem? (i := 47) rfl)
theorem w_48 {a0 : Array Value} {Z : State} (hw : ∀ d ∈ tables_1, d.before a0 Z = true) : (Jvm.Cond.static ({ cls := "jdk/internal/util/Preconditions", name := "checkIndex", desc := "(IILjava/util/function/BiFunction;)I" } : Jvm.MethodName)).before a0 Z = true := hw _ (List.mem_of_getElem? (i := 48) rfl)
theorem w_49 {a0 : Array Value} {Z : State} (hw : ∀ d ∈ tables_1, d.before a0 Z = true) : (Jvm.Cond.code ({ cls := "jdk/internal/util/Preconditions", name := "checkIndex", desc := "(IILjava/util/function/BiFunction;)I" } : Jvm.MethodName) jdk_41_method_11_code (3 : Nat) (Option.some Jvm.ClassFile.FieldType.int)).before a0 Z = true := hw _ (List.mem_of_getElem? (i := 49) rfl)
theorem w_50 {a0 : Array Value} {Z : State} (hw : ∀ d ∈ tables_1, d.before a0 Z = true) : (Jvm.Cond.methodLink "com/example/goodput/goodput/DeliveryModeNamedPinLaw" (27 : Nat) ({ cls := "java/lang/String", name := "<init>", desc := "([C)V" } : Jvm.MethodName)).before a0 Z = true := hw _ (List.mem_of_getElem? (i := 50) rfl)
theorem w_51 {a0 : Array Value} {Z : State} (hw : ∀ d ∈ tables_1, d.before a0 Z = true) : (Jvm.Cond.instanceMethod ({ cls := "java/lang/String", name := "<init>", desc := "([C)V" } : Jvm.MethodName)).before a0 Z = true := hw _ (List.mem_of_getElem? (i := 51) rfl)
theorem w_52 {a0 : Array Value} {Z : State} (hw : ∀ d ∈ tables_1, d.before a0 Z = true) : (Jvm.Cond.code ({ cls := "java/lang/String", name := "<init>", desc := "([C)V" } : Jvm.MethodName) jdk_42_method_3_code (2 : Nat) (Option.none : Option Jvm.ClassFile.FieldType)).before a0 Z = true := hw _ (List.mem_of_getElem? (i := 52) rfl)
theorem w_53 {a0 : Array Value} {Z : State} (hw : ∀ d ∈ tables_1, d.before a0 Z = true) : (Jvm.Cond.methodLink "java/lang/String" (27 : Nat) ({ cls := "java/lang/String", name := "<init>", desc := "([CIILjava/lang/Void;)V" } : Jvm.MethodName)).before a0 Z = true := hw _ (List.mem_of_getElem? (i := 53) rfl)
theorem w_54 {a0 : Array Value} {Z : State} (hw : ∀ d ∈ tables_1, d.before a0 Z = true) : (Jvm.Cond.instanceMethod ({ cls := "java/lang/String", name := "<init>", desc := "([CIILjava/lang/Void;)V" } : Jvm.MethodName)).before a0 Z = true := hw _ (List.mem_of_getElem? (i := 54) rfl)
theorem w_56 {a0 : Array Value} {Z : State} (hw : ∀ d ∈ tables_1, d.before a0 Z = true) : (Jvm.Cond.code ({ cls := "java/lang/String", name := "<init>", desc := "([CIILjava/lang/Void;)V" } : Jvm.MethodName) jdk_42_method_149_code (6 : Nat) (Option.none : Option Jvm.ClassFile.FieldType)).before a0 Z = true := hw _ (List.mem_of_getElem? (i := 56) rfl)
theorem w_57 {a0 : Array Value} {Z : State} (hw : ∀ d ∈ tables_1, d.before a0 Z = true) : (Jvm.Cond.methodLink "java/lang/String" (1 : Nat) ({ cls := "java/lang/Object", name := "<init>", desc := "()V" } : Jvm.MethodName)).before a0 Z = true := hw _ (List.mem_of_getElem? (i := 57) rfl)
theorem w_58 {a0 : Array Value} {Z : State} (hw : ∀ d ∈ tables_1, d.before a0 Z = true) : (Jvm.Cond.instanceMethod ({ cls := "java/lang/Object", name := "<init>", desc := "()V" } : Jvm.MethodName)).before a0 Z = true := hw _ (List.mem_of_getElem? (i := 58) rfl)
theorem w_59 {a0 : Array Value} {Z : State} (hw : ∀ d ∈ tables_1, d.before a0 Z = true) : (Jvm.Cond.code ({ cls := "java/lang/Object", name := "<init>", desc := "()V" } : Jvm.MethodName) object_method_1_code (1 : Nat) (Option.none : Option Jvm.ClassFile.FieldType)).before a0 Z = true := hw _ (List.mem_of_getElem? (i := 59) rfl)
theorem w_60 {a0 : Array Value} {Z : State} (hw : ∀ d ∈ tables_1, d.before a0 Z = true) : (Jvm.Cond.methodLink "java/lang/String" (177 : Nat) ({ cls := "java/lang/StringUTF16", name := "compress", desc := "([CII)[B" } : Jvm.MethodName)).before a0 Z = true := hw _ (List.mem_of_getElem? (i := 60) rfl)
theorem w_61 {a0 : Array Value} {Z : State} (hw : ∀ d ∈ tables_1, d.before a0 Z = true) : (Jvm.Cond.static ({ cls := "java/lang/StringUTF16", name := "compress", desc := "([CII)[B" } : Jvm.MethodName)).before a0 Z = true := hw _ (List.mem_of_getElem? (i := 61) rfl)
theorem w_62 {a0 : Array Value} {Z : State} (hw : ∀ d ∈ tables_1, d.before a0 Z = true) : (Jvm.Cond.initialized "java/lang/StringUTF16").before a0 Z = true := hw _ (List.mem_of_getElem? (i := 62) rfl)
theorem w_63 {a0 : Array Value} {Z : State} (hw : ∀ d ∈ tables_1, d.before a0 Z = true) : (Jvm.Cond.code ({ cls := "java/lang/StringUTF16", name := "compress", desc := "([CII)[B" } : Jvm.MethodName) jdk_52_method_16_code (6 : Nat) (Option.some (Jvm.ClassFile.FieldType.array Jvm.ClassFile.FieldType.byte))).before a0 Z = true := hw _ (List.mem_of_getElem? (i := 63) rfl)
theorem w_64 {a0 : Array Value} {Z : State} (hw : ∀ d ∈ tables_1, d.before a0 Z = true) : (Jvm.Cond.methodLink "java/lang/StringUTF16" (115 : Nat) ({ cls := "java/lang/StringUTF16", name := "compress", desc := "([CI[BII)I" } : Jvm.MethodName)).before a0 Z = true := hw _ (List.mem_of_getElem? (i := 64) rfl)
theorem w_65 {a0 : Array Value} {Z : State} (hw : ∀ d ∈ tables_1, d.before a0 Z = true) : (Jvm.Cond.static ({ cls := "java/lang/StringUTF16", name := "compress", desc := "([CI[BII)I" } : Jvm.MethodName)).before a0 Z = true := hw _ (List.mem_of_getElem? (i := 65) rfl)
theorem w_66 {a0 : Array Value} {Z : State} (hw : ∀ d ∈ tables_1, d.before a0 Z = true) : (Jvm.Cond.code ({ cls := "java/lang/StringUTF16", name := "compress", desc := "([CI[BII)I" } : Jvm.MethodName) jdk_52_method_21_code (7 : Nat) (Option.some Jvm.ClassFile.FieldType.int)).before a0 Z = true := hw _ (List.mem_of_getElem? (i := 66) rfl)
theorem w_67 {a0 : Array Value} {Z : State} (hw : ∀ d ∈ tables_1, d.before a0 Z = true) : (Jvm.Cond.methodLink "java/lang/String" (47 : Nat) ({ cls := "java/lang/StringUTF16", name := "coderFromArrayLen", desc := "([BI)B" } : Jvm.MethodName)).before a0 Z = true := hw _ (List.mem_of_getElem? (i := 67) rfl)
theorem w_68 {a0 : Array Value} {Z : State} (hw : ∀ d ∈ tables_1, d.before a0 Z = true) : (Jvm.Cond.static ({ cls := "java/lang/StringUTF16", name := "coderFromArrayLen", desc := "([BI)B" } : Jvm.MethodName)).before a0 Z = true := hw _ (List.mem_of_getElem? (i := 68) rfl)
theorem w_69 {a0 : Array Value} {Z : State} (hw : ∀ d ∈ tables_1, d.before a0 Z = true) : (Jvm.Cond.code ({ cls := "java/lang/StringUTF16", name := "coderFromArrayLen", desc := "([BI)B" } : Jvm.MethodName) jdk_52_method_15_code (2 : Nat) (Option.some Jvm.ClassFile.FieldType.byte)).before a0 Z = true := hw _ (List.mem_of_getElem? (i := 69) rfl)
theorem w_70 {a0 : Array Value} {Z : State} (hw : ∀ d ∈ tables_1, d.before a0 Z = true) : (Jvm.Cond.methodLink "com/example/goodput/goodput/DeliveryModeNamedPinLaw" (30 : Nat) ({ cls := "java/lang/String", name := "equals", desc := "(Ljava/lang/Object;)Z" } : Jvm.MethodName)).before a0 Z = true := hw _ (List.mem_of_getElem? (i := 70) rfl)
theorem w_71 {a0 : Array Value} {Z : State} (hw : ∀ d ∈ tables_1, d.before a0 Z = true) : (Jvm.Cond.declares ({ cls := "java/lang/String", name := "equals", desc := "(Ljava/lang/Object;)Z" } : Jvm.MethodName)).before a0 Z = true := hw _ (List.mem_of_getElem? (i := 71) rfl)
theorem w_72 {a0 : Array Value} {Z : State} (hw : ∀ d ∈ tables_1, d.before a0 Z = true) : (Jvm.Cond.instanceMethod ({ cls := "java/lang/String", name := "equals", desc := "(Ljava/lang/Object;)Z" } : Jvm.MethodName)).before a0 Z = true := hw _ (List.mem_of_getElem? (i := 72) rfl)
theorem w_73 {a0 : Array Value} {Z : State} (hw : ∀ d ∈ tables_1, d.before a0 Z = true) : (Jvm.Cond.selects "java/lang/String" ({ cls := "java/lang/String", name := "equals", desc := "(Ljava/lang/Object;)Z" } : Jvm.MethodName) ({ cls := "java/lang/String", name := "equals", desc := "(Ljava/lang/Object;)Z" } : Jvm.MethodName)).before a0 Z = true := hw _ (List.mem_of_getElem? (i := 73) rfl)
theorem w_74 {a0 : Array Value} {Z : State} (hw : ∀ d ∈ tables_1, d.before a0 Z = true) : (Jvm.Cond.code ({ cls := "java/lang/String", name := "equals", desc := "(Ljava/lang/Object;)Z" } : Jvm.MethodName) jdk_42_method_66_code (3 : Nat) (Option.some Jvm.ClassFile.FieldType.boolean)).before a0 Z = true := hw _ (List.mem_of_getElem? (i := 74) rfl)
theorem w_75 {a0 : Array Value} {Z : State} (hw : ∀ d ∈ tables_1, d.before a0 Z = true) : (Jvm.Cond.classLink "java/lang/String" (10 : Nat) "java/lang/String").before a0 Z = true := hw _ (List.mem_of_getElem? (i := 75) rfl)
theorem w_76 {a0 : Array Value} {Z : State} (hw : ∀ d ∈ tables_1, d.before a0 Z = true) : (Jvm.Cond.methodLink "java/lang/String" (541 : Nat) ({ cls := "java/lang/StringLatin1", name := "equals", desc := "([B[B)Z" } : Jvm.MethodName)).before a0 Z = true := hw _ (List.mem_of_getElem? (i := 76) rfl)
theorem w_77 {a0 : Array Value} {Z : State} (hw : ∀ d ∈ tables_1, d.before a0 Z = true) : (Jvm.Cond.static ({ cls := "java/lang/StringLatin1", name := "equals", desc := "([B[B)Z" } : Jvm.MethodName)).before a0 Z = true := hw _ (List.mem_of_getElem? (i := 77) rfl)
theorem w_78 {a0 : Array Value} {Z : State} (hw : ∀ d ∈ tables_1, d.before a0 Z = true) : (Jvm.Cond.code ({ cls := "java/lang/StringLatin1", name := "equals", desc := "([B[B)Z" } : Jvm.MethodName) jdk_43_method_13_code (3 : Nat) (Option.some Jvm.ClassFile.FieldType.boolean)).before a0 Z = true := hw _ (List.mem_of_getElem? (i := 78) rfl)
theorem w_79 {a0 : Array Value} {Z : State} (hw : ∀ d ∈ tables_1, d.before a0 Z = true) : (Jvm.Cond.methodLink "com/example/goodput/goodput/DeliveryModeNamedPinLaw" (43 : Nat) ({ cls := "com/example/goodput/goodput/DeliveryMode", name := "named", desc := "(Ljava/lang/String;)Lcom/example/goodput/goodput/DeliveryMode;" } : Jvm.MethodName)).before a0 Z = true := hw _ (List.mem_of_getElem? (i := 79) rfl)
theorem w_80 {a0 : Array Value} {Z : State} (hw : ∀ d ∈ tables_1, d.before a0 Z = true) : (Jvm.Cond.static ({ cls := "com/example/goodput/goodput/DeliveryMode", name := "named", desc := "(Ljava/lang/String;)Lcom/example/goodput/goodput/DeliveryMode;" } : Jvm.MethodName)).before a0 Z = true := hw _ (List.mem_of_getElem? (i := 80) rfl)
theorem w_81 {a0 : Array Value} {Z : State} (hw : ∀ d ∈ tables_1, d.before a0 Z = true) : (Jvm.Cond.initialized "com/example/goodput/goodput/DeliveryMode").before a0 Z = true := hw _ (List.mem_of_getElem? (i := 81) rfl)
theorem w_82 {a0 : Array Value} {Z : State} (hw : ∀ d ∈ tables_1, d.before a0 Z = true) : (Jvm.Cond.code ({ cls := "com/example/goodput/goodput/DeliveryMode", name := "named", desc := "(Ljava/lang/String;)Lcom/example/goodput/goodput/DeliveryMode;" } : Jvm.MethodName) prog_10_method_4_code (5 : Nat) (Option.some (Jvm.ClassFile.FieldType.object "com/example/goodput/goodput/DeliveryMode"))).before a0 Z = true := hw _ (List.mem_of_getElem? (i := 82) rfl)
theorem w_83 {a0 : Array Value} {Z : State} (hw : ∀ d ∈ tables_1, d.before a0 Z = true) : (Jvm.Cond.methodLink "com/example/goodput/goodput/DeliveryMode" (33 : Nat) ({ cls := "com/example/goodput/goodput/DeliveryMode", name := "values", desc := "()[Lcom/example/goodput/goodput/DeliveryMode;" } : Jvm.MethodName)).before a0 Z = true := hw _ (List.mem_of_getElem? (i := 83) rfl)
theorem w_84 {a0 : Array Value} {Z : State} (hw : ∀ d ∈ tables_1, d.before a0 Z = true) : (Jvm.Cond.static ({ cls := "com/example/goodput/goodput/DeliveryMode", name := "values", desc := "()[Lcom/example/goodput/goodput/DeliveryMode;" } : Jvm.MethodName)).before a0 Z = true := hw _ (List.mem_of_getElem? (i := 84) rfl)
theorem w_85 {a0 : Array Value} {Z : State} (hw : ∀ d ∈ tables_1, d.before a0 Z = true) : (Jvm.Cond.code ({ cls := "com/example/goodput/goodput/DeliveryMode", name := "values", desc := "()[Lcom/example/goodput/goodput/DeliveryMode;" } : Jvm.MethodName) prog_10_method_1_code (0 : Nat) (Option.some (Jvm.ClassFile.FieldType.array (Jvm.ClassFile.FieldType.object "com/example/goodput/goodput/DeliveryMode")))).before a0 Z = true := hw _ (List.mem_of_getElem? (i := 85) rfl)
theorem w_86 {a0 : Array Value} {Z : State} (hw : ∀ d ∈ tables_1, d.before a0 Z = true) : (Jvm.Cond.fieldLink "com/example/goodput/goodput/DeliveryMode" (10 : Nat) "com/example/goodput/goodput/DeliveryMode" "$VALUES" "[Lcom/example/goodput/goodput/DeliveryMode;").before a0 Z = true := hw _ (List.mem_of_getElem? (i := 86) rfl)
theorem w_88 {a0 : Array Value} {Z : State} (hw : ∀ d ∈ tables_1, d.before a0 Z = true) : (Jvm.Cond.methodLink "com/example/goodput/goodput/DeliveryMode" (14 : Nat) ({ cls := "[Lcom/example/goodput/goodput/DeliveryMode;", name := "clone", desc := "()Ljava/lang/Object;" } : Jvm.MethodName)).before a0 Z = true := hw _ (List.mem_of_getElem? (i := 88) rfl)
theorem w_89 {a0 : Array Value} {Z : State} (hw : ∀ d ∈ tables_1, d.before a0 Z = true) : (Jvm.Cond.sameMethod "[Lcom/example/goodput/goodput/DeliveryMode;" "java/lang/Object" "clone" "()Ljava/lang/Object;").before a0 Z = true := hw _ (List.mem_of_getElem? (i := 89) rfl)
theorem w_91 {a0 : Array Value} {Z : State} (hw : ∀ d ∈ tables_1, d.before a0 Z = true) : (Jvm.Cond.instanceMethod ({ cls := "java/lang/Object", name := "clone", desc := "()Ljava/lang/Object;" } : Jvm.MethodName)).before a0 Z = true := hw _ (List.mem_of_getElem? (i := 91) rfl)
theorem w_92 {a0 : Array Value} {Z : State} (hw : ∀ d ∈ tables_1, d.before a0 Z = true) : (Jvm.Cond.selects "[Lcom/example/goodput/goodput/DeliveryMode;" ({ cls := "[Lcom/example/goodput/goodput/DeliveryMode;", name := "clone", desc := "()Ljava/lang/Object;" } : Jvm.MethodName) ({ cls := "java/lang/Object", name := "clone", desc := "()Ljava/lang/Object;" } : Jvm.MethodName)).before a0 Z = true := hw _ (List.mem_of_getElem? (i := 92) rfl)
theorem w_93 {a0 : Array Value} {Z : State} (hw : ∀ d ∈ tables_1, d.before a0 Z = true) : (Jvm.Cond.native ({ cls := "java/lang/Object", name := "clone", desc := "()Ljava/lang/Object;" } : Jvm.MethodName)).before a0 Z = true := hw _ (List.mem_of_getElem? (i := 93) rfl)
theorem w_94 {a0 : Array Value} {Z : State} (hw : ∀ d ∈ tables_1, d.before a0 Z = true) : (Jvm.Cond.castable "[Lcom/example/goodput/goodput/DeliveryMode;" "java/lang/Cloneable").before a0 Z = true := hw _ (List.mem_of_getElem? (i := 94) rfl)
theorem w_95 {a0 : Array Value} {Z : State} (hw : ∀ d ∈ tables_1, d.before a0 Z = true) : (Jvm.Cond.laysStatic "com/example/goodput/goodput/DeliveryMode" "DIRECT" "Lcom/example/goodput/goodput/DeliveryMode;").before a0 Z = true := hw _ (List.mem_of_getElem? (i := 95) rfl)
theorem w_96 {a0 : Array Value} {Z : State} (hw : ∀ d ∈ tables_1, d.before a0 Z = true) : (Jvm.Cond.laysStatic "com/example/goodput/goodput/DeliveryMode" "PERSISTENT" "Lcom/example/goodput/goodput/DeliveryMode;").before a0 Z = true := hw _ (List.mem_of_getElem? (i := 96) rfl)
theorem w_97 {a0 : Array Value} {Z : State} (hw : ∀ d ∈ tables_1, d.before a0 Z = true) : (Jvm.Cond.initializedFor "com/example/goodput/goodput/DeliveryMode" "$VALUES" "[Lcom/example/goodput/goodput/DeliveryMode;").before a0 Z = true := hw _ (List.mem_of_getElem? (i := 97) rfl)
theorem w_98 {a0 : Array Value} {Z : State} (hw : ∀ d ∈ tables_1, d.before a0 Z = true) : (Jvm.Cond.classLink "com/example/goodput/goodput/DeliveryMode" (15 : Nat) "[Lcom/example/goodput/goodput/DeliveryMode;").before a0 Z = true := hw _ (List.mem_of_getElem? (i := 98) rfl)
theorem w_100 {a0 : Array Value} {Z : State} (hw : ∀ d ∈ tables_1, d.before a0 Z = true) : (Jvm.Cond.fieldLink "com/example/goodput/goodput/DeliveryMode" (29 : Nat) "com/example/goodput/goodput/DeliveryMode" "name" "Ljava/lang/String;").before a0 Z = true := hw _ (List.mem_of_getElem? (i := 100) rfl)
theorem w_102 {a0 : Array Value} {Z : State} (hw : ∀ d ∈ tables_1, d.before a0 Z = true) : (Jvm.Cond.methodLink "com/example/goodput/goodput/DeliveryMode" (37 : Nat) ({ cls := "java/lang/String", name := "equals", desc := "(Ljava/lang/Object;)Z" } : Jvm.MethodName)).before a0 Z = true := hw _ (List.mem_of_getElem? (i := 102) rfl)
theorem w_103 {a0 : Array Value} {Z : State} (hw : ∀ d ∈ tables_1, d.before a0 Z = true) : (Jvm.Cond.fieldLink "com/example/goodput/goodput/DeliveryModeNamedPinLaw" (34 : Nat) "com/example/goodput/goodput/DeliveryMode" "DIRECT" "Lcom/example/goodput/goodput/DeliveryMode;").before a0 Z = true := hw _ (List.mem_of_getElem? (i := 103) rfl)
theorem w_104 {a0 : Array Value} {Z : State} (hw : ∀ d ∈ tables_1, d.before a0 Z = true) : (Jvm.Cond.fieldLink "com/example/goodput/goodput/DeliveryModeNamedPinLaw" (40 : Nat) "com/example/goodput/goodput/DeliveryMode" "PERSISTENT" "Lcom/example/goodput/goodput/DeliveryMode;").before a0 Z = true := hw _ (List.mem_of_getElem? (i := 104) rfl)
theorem w_105 {a0 : Array Value} {Z : State} (hw : ∀ d ∈ tables_1, d.before a0 Z = true) : (Jvm.Cond.stringLink "java/lang/String" (7 : Nat) "").before a0 Z = true := hw _ (List.mem_of_getElem? (i := 105) rfl)
def own_d : List Int32 := [100, 105, 114, 101, 99, 116]
def own_q : List Int32 := [112, 101, 114, 115, 105, 115, 116, 101, 110, 116]
theorem own_txd : (∀ c ∈ "direct".toList, c.toNat < 256) ∧ "direct".toList.map (fun c => Value.int (Jvm.Lit.byteI c.toNat.toUInt16)) = (own_d.map Value.int) := ⟨by decide +kernel, by decide +kernel⟩
theorem own_txq : (∀ c ∈ "persistent".toList, c.toNat < 256) ∧ "persistent".toList.map (fun c => Value.int (Jvm.Lit.byteI c.toNat.toUInt16)) = (own_q.map Value.int) := ⟨by decide +kernel, by decide +kernel⟩
theorem own_tld : 4 * "direct".toList.length ≤ 24 := by decide +kernel
theorem own_tlq : 4 * "persistent".toList.length ≤ 40 := by decide +kernel
abbrev own_EL : List (String × Nat) := [("com/example/goodput/goodput/DeliveryModeNamedPinLaw", 17), ("com/example/goodput/goodput/DeliveryModeNamedPinLaw", 19), ("java/lang/String", 7)]
theorem own_ew {a0 : Array Value} {Z : State} (hw : ∀ d ∈ tables_1, d.before a0 Z = true) : EW Z a0 own_EL := EW.cons (text := "direct") (w_0 hw) own_txd.1 (EW.cons (text := "persistent") (w_8 hw) own_txq.1 (EW.cons (text := "") (w_105 hw) (by decide) EW.nil))
theorem own_sA {a0 : Array Value} {Z : State} (hw : ∀ d ∈ tables_1, d.before a0 Z = true) : ∀ a ∈ Bundle.stringAtoms, a.before a0 Z = true := by
  intro a ha
  simp only [Bundle.stringAtoms, List.mem_cons, List.not_mem_nil, or_false] at ha
  rcases ha with rfl | rfl | rfl | rfl | rfl | rfl | rfl
  · exact (w_1 hw)
  · exact (w_2 hw)
  · exact (w_3 hw)
  · exact (w_4 hw)
  · exact (w_5 hw)
  · exact (w_6 hw)
  · exact (w_7 hw)
theorem own_isR {v : Value} (h : v.isRef = true) : v = .null ∨ ∃ a, v = .ref a := by
  cases v <;> first | exact Or.inl rfl | exact Or.inr ⟨_, rfl⟩ | (simp [Value.isRef] at h)
theorem own_ch (x : Int32) : 0 ≤ ((x &&& (255 : Int32)).toUInt32.toUInt16.toUInt32.toInt32).toInt ∧ ((x &&& (255 : Int32)).toUInt32.toUInt16.toUInt32.toInt32).toInt ≤ 255 := by
  have h1 := c_mask x 255 8 (by decide) (by decide)
  have h2 := c_i2c (x &&& 255)
  omega
theorem own_narC {z : Int32} (h : 0 ≤ z.toInt ∧ z.toInt ≤ 255) : nar .char z = z := by
  show z.toUInt32.toUInt16.toUInt32.toInt32 = z
  have h2 := c_i2c z
  exact Int32.toInt_inj.mp (by omega)
theorem own_z255 {z : Int32} (h : 0 ≤ z.toInt ∧ z.toInt ≤ 255) : ¬ ((255 : Int32) < (z.toUInt32.toUInt16.toUInt32.toInt32)) := by
  have e : z.toUInt32.toUInt16.toUInt32.toInt32 = z := own_narC h
  rw [e, Int32.lt_iff_toInt_lt]
  have z2 : (255 : Int32).toInt = 255 := rfl
  omega
theorem own_shr0 (x : Int32) : (x >>> ((0 : Int32) &&& 31)) = x := by
  rw [show ((0 : Int32) &&& 31) = 0 from by decide]
  simp [Int32.shiftRight_zero]
def own_bnd (vs : List Int32) : Prop := ∀ j, j < vs.length → ¬ ((255 : Int32) < vs.getD j 0)
theorem own_bnd0 : own_bnd [] := fun j h => absurd h (Nat.not_lt_zero j)
theorem own_bndS {x : Int32} {vs : List Int32} (h : ¬ ((255 : Int32) < x)) (t : own_bnd vs) : own_bnd (x :: vs) := fun j => match j with
  | 0 => fun _ => h
  | j + 1 => fun g => t j (Nat.lt_of_succ_lt_succ g)
theorem own_nz {n : Nat} (h : n ≤ 16) (h0 : ¬ (n = 0)) : ¬ (n.toInt32 = (0 : Int32)) := fun q => by
  have h1 := len_toInt (n := n) (by omega)
  rw [q] at h1
  have z0 : (0 : Int32).toInt = 0 := rfl
  omega
theorem own_set_map (xs : List Int32) (i : Nat) (y : Int32) : (xs.map Value.int).set i (.int y) = (xs.set i y).map Value.int := by
  rw [List.map_set]
theorem own_cod (x : Int32) : ((((x - x).toUInt32 >>> ((31 : Int32) &&& 31).toUInt32).toInt32).toInt8.toInt32) = 0 := by
  rw [Int32.sub_self]; decide
theorem own_codn (x : Int32) : nar .byte ((((x - x).toUInt32 >>> ((31 : Int32) &&& 31).toUInt32).toInt32).toInt8.toInt32) = ((((x - x).toUInt32 >>> ((31 : Int32) &&& 31).toUInt32).toInt32).toInt8.toInt32) :=
  (congrArg (nar .byte) (own_cod x)).trans ((show nar .byte (0 : Int32) = 0 from by decide).trans (own_cod x).symm)
theorem own_pn1 : plainName "jdk/internal/util/Preconditions" = true := by first | (simp [plainName, overriddenIn]; done) | decide +kernel
theorem d8_0 : decode jdk_41_method_11_code 0 = .ok (.iload_n 0, 1) := by decide +kernel
theorem d8_1 : decode jdk_41_method_11_code 1 = .ok (.ifCond .lt 8, 3) := by decide +kernel
theorem d8_4 : decode jdk_41_method_11_code 4 = .ok (.iload_n 0, 1) := by decide +kernel
theorem d8_5 : decode jdk_41_method_11_code 5 = .ok (.iload_n 1, 1) := by decide +kernel
theorem d8_6 : decode jdk_41_method_11_code 6 = .ok (.if_icmp .lt 10, 3) := by decide +kernel
theorem d8_16 : decode jdk_41_method_11_code 16 = .ok (.iload_n 0, 1) := by decide +kernel
theorem d8_17 : decode jdk_41_method_11_code 17 = .ok (.ireturn, 1) := by decide +kernel
theorem ef_8n (m : MethodId) (x0 : Int32) (x1 : Int32) : entryFrame m #[(.int x0), (.int x1), .null] 3 = mkF m 0 #[.val (.int x0), .val (.int x1), .val .null] [] := by first | (simp [entryFrame, mkF, argsToLocals, Value.category]; done) | rfl
def Q8n (Z : State) (p1 : Int32) (p2 : Int32) (h0 : Heap) (n0 : Nat) (v : Option Value) (h : Heap) (L : List Loc) : Prop := v = some (.int p1) ∧ Fr n0 L ∧ h = h0
set_option maxHeartbeats 40000000 in
theorem rm8n (l : Launch) (Z : State) (a0 : Array Value) (hw : ∀ d ∈ tables_1, d.before a0 Z = true) (ws : List Jvm.Cond) (p1 : Int32) (p2 : Int32) (h0 : Heap) (n0 : Nat) (Z0 : n0 ≤ h0.size) (hp : 0 ≤ p1.toInt ∧ p1.toInt < p2.toInt) :
    MetFree l (⟨"jdk/internal/util/Preconditions", "checkIndex", "(IILjava/util/function/BiFunction;)I"⟩ : MethodName) (head1 (Jvm.Cond.code (⟨"jdk/internal/util/Preconditions", "checkIndex", "(IILjava/util/function/BiFunction;)I"⟩ : MethodName) jdk_41_method_11_code 3 (some .int) :: ws) ({ frames := 0, cells := 0, slots := 0, locals := 0 } : Room)) (fun a U => a = #[(.int p1), (.int p2), .null] ∧ Z.Warmed39 U.vm ∧ U.heap = h0) (fun _ _ _ _ _ => True) (fun _ U o U' => ∃ v L, o = .returned v ∧ Q8n Z p1 p2 h0 n0 v U'.heap L ∧ FrameEnd U o U' L ({ frames := 0, cells := 0, slots := 0, locals := 0 } : Room).cells ({ frames := 0, cells := 0, slots := 0, locals := 0 } : Room).slots) := by
  refine MetFree.of_bodySF (plainFor_of_name own_pn1) hisR ?_
  intro p e s m args below meth c s₁ Bd hml0 hP hK
  obtain ⟨rfl, hZ, hh⟩ := hP
  have hx := Bd.exec
  have hby := Bd.bytes
  have hml : c.maxLocals = 3 := hml0
  have hlk : meth.locks = false := BodyLoose.notSynchronized Bd
  have hown : s.vm.findClass "jdk/internal/util/Preconditions" = some m.cls := findClass_of_methodNamed Bd.named
  have hnm := (name_of_methodNamed Bd.named Bd.method).1
  have X0 : Stand p l e ({ frames := 0, cells := 0, slots := 0, locals := 0 } : Room) s m #[(.int p1), (.int p2), .null] below meth c s₁ [] 0 0 := Stand.of_body Bd
  have e0 : s₁.heap = h0 := by rw [← hh, Bd.state]; rfl
  have N0 := Fr.nil n0
  show own_Go p e below s (Q8n Z p1 p2 h0 n0) ({ frames := 0, cells := 0, slots := 0, locals := 0 } : Room).cells ({ frames := 0, cells := 0, slots := 0, locals := 0 } : Room).slots _
  refine own_st (B := s₁.setTop (mkF m 0 #[.val (.int p1), .val (.int p2), .val .null] [])) (fun t k => castTop (ef_8n m (p1) (p2)) k) ?_
  refine own_st (B := s₁.setTop (mkF m 1 #[.val (.int p1), .val (.int p2), .val .null] [(.int p1)])) (fun t k => XS.iloadN X0.here hx rfl (hb hby d8_0) rfl k) ?_
  have hc1 : ¬ (p1 < (0 : Int32)) := by
    rw [Int32.lt_iff_toInt_lt]
    have z0 : (0 : Int32).toInt = 0 := rfl
    omega
  refine own_st (B := s₁.setTop (mkF m 4 #[.val (.int p1), .val (.int p2), .val .null] [])) (fun t k => XS.ifNo X0.here hx rfl (hb hby d8_1) rfl (XT.i0_lt_f hc1) k) ?_
  refine own_st (B := s₁.setTop (mkF m 5 #[.val (.int p1), .val (.int p2), .val .null] [(.int p1)])) (fun t k => XS.iloadN X0.here hx rfl (hb hby d8_4) rfl k) ?_
  refine own_st (B := s₁.setTop (mkF m 6 #[.val (.int p1), .val (.int p2), .val .null] [(.int p2), (.int p1)])) (fun t k => XS.iloadN X0.here hx rfl (hb hby d8_5) rfl k) ?_
  have hc2 : p1 < p2 := by
    exact Int32.lt_iff_toInt_lt.mpr hp.2
  refine own_st (B := s₁.setTop (mkF m 16 #[.val (.int p1), .val (.int p2), .val .null] [])) (fun t k => XS.icmpYes X0.here hx rfl (pc0 := 6) (pc' := 16) rfl (hb hby d8_6) rfl (XT.ii_lt_t hc2) (by decide) (by decide) k) ?_
  refine own_st (B := s₁.setTop (mkF m 17 #[.val (.int p1), .val (.int p2), .val .null] [(.int p1)])) (fun t k => XS.iloadN X0.here hx rfl (hb hby d8_16) rfl k) ?_
  refine own_retI X0 hx hlk Bd.returns (hb hby d8_17) (by decide) (by decide) ?_
  show Q8n Z p1 p2 h0 n0 _ s₁.heap _
  rw [e0]
  exact ⟨rfl, N0, rfl⟩
theorem ef_8r (m : MethodId) (x0 : Int32) (x1 : Int32) (x2 : Addr) : entryFrame m #[(.int x0), (.int x1), (.ref x2)] 3 = mkF m 0 #[.val (.int x0), .val (.int x1), .val (.ref x2)] [] := by first | (simp [entryFrame, mkF, argsToLocals, Value.category]; done) | rfl
def Q8r (Z : State) (p1 : Int32) (p2 : Int32) (a3 : Addr) (h0 : Heap) (n0 : Nat) (v : Option Value) (h : Heap) (L : List Loc) : Prop := v = some (.int p1) ∧ Fr n0 L ∧ h = h0
set_option maxHeartbeats 40000000 in
theorem rm8r (l : Launch) (Z : State) (a0 : Array Value) (hw : ∀ d ∈ tables_1, d.before a0 Z = true) (ws : List Jvm.Cond) (p1 : Int32) (p2 : Int32) (a3 : Addr) (h0 : Heap) (n0 : Nat) (Z0 : n0 ≤ h0.size) (hp : 0 ≤ p1.toInt ∧ p1.toInt < p2.toInt) :
    MetFree l (⟨"jdk/internal/util/Preconditions", "checkIndex", "(IILjava/util/function/BiFunction;)I"⟩ : MethodName) (head1 (Jvm.Cond.code (⟨"jdk/internal/util/Preconditions", "checkIndex", "(IILjava/util/function/BiFunction;)I"⟩ : MethodName) jdk_41_method_11_code 3 (some .int) :: ws) ({ frames := 0, cells := 0, slots := 0, locals := 0 } : Room)) (fun a U => a = #[(.int p1), (.int p2), (.ref a3)] ∧ Z.Warmed39 U.vm ∧ U.heap = h0) (fun _ _ _ _ _ => True) (fun _ U o U' => ∃ v L, o = .returned v ∧ Q8r Z p1 p2 a3 h0 n0 v U'.heap L ∧ FrameEnd U o U' L ({ frames := 0, cells := 0, slots := 0, locals := 0 } : Room).cells ({ frames := 0, cells := 0, slots := 0, locals := 0 } : Room).slots) := by
  refine MetFree.of_bodySF (plainFor_of_name own_pn1) hisR ?_
  intro p e s m args below meth c s₁ Bd hml0 hP hK
  obtain ⟨rfl, hZ, hh⟩ := hP
  have hx := Bd.exec
  have hby := Bd.bytes
  have hml : c.maxLocals = 3 := hml0
  have hlk : meth.locks = false := BodyLoose.notSynchronized Bd
  have hown : s.vm.findClass "jdk/internal/util/Preconditions" = some m.cls := findClass_of_methodNamed Bd.named
  have hnm := (name_of_methodNamed Bd.named Bd.method).1
  have X0 : Stand p l e ({ frames := 0, cells := 0, slots := 0, locals := 0 } : Room) s m #[(.int p1), (.int p2), (.ref a3)] below meth c s₁ [] 0 0 := Stand.of_body Bd
  have e0 : s₁.heap = h0 := by rw [← hh, Bd.state]; rfl
  have N0 := Fr.nil n0
  show own_Go p e below s (Q8r Z p1 p2 a3 h0 n0) ({ frames := 0, cells := 0, slots := 0, locals := 0 } : Room).cells ({ frames := 0, cells := 0, slots := 0, locals := 0 } : Room).slots _
  refine own_st (B := s₁.setTop (mkF m 0 #[.val (.int p1), .val (.int p2), .val (.ref a3)] [])) (fun t k => castTop (ef_8r m (p1) (p2) (a3)) k) ?_
  refine own_st (B := s₁.setTop (mkF m 1 #[.val (.int p1), .val (.int p2), .val (.ref a3)] [(.int p1)])) (fun t k => XS.iloadN X0.here hx rfl (hb hby d8_0) rfl k) ?_
  have hc1 : ¬ (p1 < (0 : Int32)) := by
    rw [Int32.lt_iff_toInt_lt]
    have z0 : (0 : Int32).toInt = 0 := rfl
    omega
  refine own_st (B := s₁.setTop (mkF m 4 #[.val (.int p1), .val (.int p2), .val (.ref a3)] [])) (fun t k => XS.ifNo X0.here hx rfl (hb hby d8_1) rfl (XT.i0_lt_f hc1) k) ?_
  refine own_st (B := s₁.setTop (mkF m 5 #[.val (.int p1), .val (.int p2), .val (.ref a3)] [(.int p1)])) (fun t k => XS.iloadN X0.here hx rfl (hb hby d8_4) rfl k) ?_
  refine own_st (B := s₁.setTop (mkF m 6 #[.val (.int p1), .val (.int p2), .val (.ref a3)] [(.int p2), (.int p1)])) (fun t k => XS.iloadN X0.here hx rfl (hb hby d8_5) rfl k) ?_
  have hc2 : p1 < p2 := by
    exact Int32.lt_iff_toInt_lt.mpr hp.2
  refine own_st (B := s₁.setTop (mkF m 16 #[.val (.int p1), .val (.int p2), .val (.ref a3)] [])) (fun t k => XS.icmpYes X0.here hx rfl (pc0 := 6) (pc' := 16) rfl (hb hby d8_6) rfl (XT.ii_lt_t hc2) (by decide) (by decide) k) ?_
  refine own_st (B := s₁.setTop (mkF m 17 #[.val (.int p1), .val (.int p2), .val (.ref a3)] [(.int p1)])) (fun t k => XS.iloadN X0.here hx rfl (hb hby d8_16) rfl k) ?_
  refine own_retI X0 hx hlk Bd.returns (hb hby d8_17) (by decide) (by decide) ?_
  show Q8r Z p1 p2 a3 h0 n0 _ s₁.heap _
  rw [e0]
  exact ⟨rfl, N0, rfl⟩
theorem own_pd1 : parseMethodDescriptor "(IILjava/util/function/BiFunction;)I" = some ⟨[.int, .int, (.object "java/util/function/BiFunction")], some .int⟩ := by decide +kernel
theorem own_pn2 : plainName "java/lang/String" = true := by first | (simp [plainName, overriddenIn]; done) | decide +kernel
theorem d7_0 : decode jdk_42_method_155_code 0 = .ok (.iload_n 0, 1) := by decide +kernel
theorem d7_1 : decode jdk_42_method_155_code 1 = .ok (.iload_n 1, 1) := by decide +kernel
theorem d7_2 : decode jdk_42_method_155_code 2 = .ok (.getstatic 1053, 3) := by decide +kernel
theorem d7_5 : decode jdk_42_method_155_code 5 = .ok (.invokestatic 1059, 3) := by decide +kernel
theorem d7_8 : decode jdk_42_method_155_code 8 = .ok (.pop, 1) := by decide +kernel
theorem d7_9 : decode jdk_42_method_155_code 9 = .ok (.return_, 1) := by decide +kernel
theorem ef_7 (m : MethodId) (x0 : Int32) (x1 : Int32) : entryFrame m #[(.int x0), (.int x1)] 2 = mkF m 0 #[.val (.int x0), .val (.int x1)] [] := by first | (simp [entryFrame, mkF, argsToLocals, Value.category]; done) | rfl
def Q7 (Z : State) (p1 : Int32) (p2 : Int32) (u1 : Value) (h0 : Heap) (n0 : Nat) (v : Option Value) (h : Heap) (L : List Loc) : Prop := v = none ∧ Fr n0 L ∧ h = h0
set_option maxHeartbeats 40000000 in
theorem rm7 (l : Launch) (Z : State) (a0 : Array Value) (hw : ∀ d ∈ tables_1, d.before a0 Z = true) (ws : List Jvm.Cond) (p1 : Int32) (p2 : Int32) (u1 : Value) (h0 : Heap) (n0 : Nat) (Z0 : n0 ≤ h0.size) (F0 : Sta Z h0 "jdk/internal/util/Preconditions" "SIOOBE_FORMATTER" "Ljava/util/function/BiFunction;" u1) (hp : 0 ≤ p1.toInt ∧ p1.toInt < p2.toInt) (hu : u1 = .null ∨ ∃ a, u1 = .ref a) :
    MetFree l (⟨"java/lang/String", "checkIndex", "(II)V"⟩ : MethodName) (head1 (Jvm.Cond.code (⟨"java/lang/String", "checkIndex", "(II)V"⟩ : MethodName) jdk_42_method_155_code 2 none :: ws) ({ frames := 1, cells := 0, slots := 0, locals := 14 } : Room)) (fun a U => a = #[(.int p1), (.int p2)] ∧ Z.Warmed39 U.vm ∧ U.heap = h0) (fun _ _ _ _ _ => True) (fun _ U o U' => ∃ v L, o = .returned v ∧ Q7 Z p1 p2 u1 h0 n0 v U'.heap L ∧ FrameEnd U o U' L ({ frames := 1, cells := 0, slots := 0, locals := 14 } : Room).cells ({ frames := 1, cells := 0, slots := 0, locals := 14 } : Room).slots) := by
  refine MetFree.of_bodySF (plainFor_of_name own_pn2) hisR ?_
  intro p e s m args below meth c s₁ Bd hml0 hP hK
  obtain ⟨rfl, hZ, hh⟩ := hP
  have hx := Bd.exec
  have hby := Bd.bytes
  have hml : c.maxLocals = 2 := hml0
  have hlk : meth.locks = false := BodyLoose.notSynchronized Bd
  have hown : s.vm.findClass "java/lang/String" = some m.cls := findClass_of_methodNamed Bd.named
  have hnm := (name_of_methodNamed Bd.named Bd.method).1
  have X0 : Stand p l e ({ frames := 1, cells := 0, slots := 0, locals := 14 } : Room) s m #[(.int p1), (.int p2)] below meth c s₁ [] 0 0 := Stand.of_body Bd
  have e0 : s₁.heap = h0 := by rw [← hh, Bd.state]; rfl
  have N0 := Fr.nil n0
  show own_Go p e below s (Q7 Z p1 p2 u1 h0 n0) ({ frames := 1, cells := 0, slots := 0, locals := 14 } : Room).cells ({ frames := 1, cells := 0, slots := 0, locals := 14 } : Room).slots _
  refine own_st (B := s₁.setTop (mkF m 0 #[.val (.int p1), .val (.int p2)] [])) (fun t k => castTop (ef_7 m (p1) (p2)) k) ?_
  rcases hu with hun | ⟨ua, hur⟩
  · have fsn : Sta Z h0 "jdk/internal/util/Preconditions" "SIOOBE_FORMATTER" "Ljava/util/function/BiFunction;" .null := by rw [← hun]; exact F0
    refine own_st (B := s₁.setTop (mkF m 1 #[.val (.int p1), .val (.int p2)] [(.int p1)])) (fun t k => XS.iloadN X0.here hx rfl (hb hby d7_0) rfl k) ?_
    refine own_st (B := s₁.setTop (mkF m 2 #[.val (.int p1), .val (.int p2)] [(.int p2), (.int p1)])) (fun t k => XS.iloadN X0.here hx rfl (hb hby d7_1) rfl k) ?_
    obtain ⟨T1, X1, e1, st1⟩ := getS2 X0 hx hZ hown (host := "") (Or.inl (w_45 hw)) Via.refl e0 fsn (g := (mkF m 2 #[.val (.int p1), .val (.int p2)] [(.int p2), (.int p1)])) rfl (hb hby d7_2)
    refine own_st (B := T1.setTop (mkF m 5 #[.val (.int p1), .val (.int p2)] [.null, (.int p2), (.int p1)])) (fun t k => st1 t k) ?_
    obtain ⟨_, _, ⟨T2, L2, k2, j2⟩, -, X2, ⟨Lc2, hQ2, l2, y2_, z2_⟩, st2⟩ := Jvm.LawKit.callS X1 hx (y := (⟨"jdk/internal/util/Preconditions", "checkIndex", "(IILjava/util/function/BiFunction;)I"⟩ : MethodName)) hown (mvT hZ (w_47 hw)) (mvT hZ (w_48 hw)) (mvT hZ (w_46 hw)) (mvT hZ (w_49 hw)) (by decide) (backOf (W := 0) (rm8n l Z a0 hw [] p1 p2 h0 n0 Z0 hp) hZ (w_49 hw) (w_46 hw) (by decide) (by decide)) (g := (mkF m 5 #[.val (.int p1), .val (.int p2)] [.null, (.int p2), (.int p1)])) rfl (by rw [hml]; rfl) (argsL := [(.int p1), (.int p2), .null]) (rest := []) (lenOf own_pd1 rfl) rfl (by show 2 * 0 + _ ≤ _; exact Nat.le_of_eq rfl) (hb hby d7_5) (fun _ _ => ⟨rfl, e1, (by decide : 0 + 0 ≤ _), (by decide : 0 + 0 ≤ _)⟩)
    dsimp only [Pt.U, Pt.locs, Pt.cells, Pt.slots] at X2 l2 y2_ z2_ st2 hQ2
    subst l2 y2_ z2_
    obtain ⟨rfl, N2q, e2q⟩ := hQ2
    have N2 := Fr.app N0 N2q
    refine own_st (B := T2.setTop (mkF m 8 #[.val (.int p1), .val (.int p2)] [(.int p1)])) (fun t k => st2 t k) ?_
    refine own_st (B := T2.setTop (mkF m 9 #[.val (.int p1), .val (.int p2)] [])) (fun t k => XS.pop X2.here hx rfl (hb hby d7_8) rfl rfl k) ?_
    refine own_retV X2 hx hlk Bd.returns (hb hby d7_9) (by decide) (by decide) ?_
    show Q7 Z p1 p2 u1 h0 n0 _ T2.heap _
    rw [e2q]
    exact ⟨rfl, N2, rfl⟩
  · have fsr : Sta Z h0 "jdk/internal/util/Preconditions" "SIOOBE_FORMATTER" "Ljava/util/function/BiFunction;" (.ref ua) := by rw [← hur]; exact F0
    refine own_st (B := s₁.setTop (mkF m 1 #[.val (.int p1), .val (.int p2)] [(.int p1)])) (fun t k => XS.iloadN X0.here hx rfl (hb hby d7_0) rfl k) ?_
    refine own_st (B := s₁.setTop (mkF m 2 #[.val (.int p1), .val (.int p2)] [(.int p2), (.int p1)])) (fun t k => XS.iloadN X0.here hx rfl (hb hby d7_1) rfl k) ?_
    obtain ⟨T3, X3, e3, st3⟩ := getS2 X0 hx hZ hown (host := "") (Or.inl (w_45 hw)) Via.refl e0 fsr (g := (mkF m 2 #[.val (.int p1), .val (.int p2)] [(.int p2), (.int p1)])) rfl (hb hby d7_2)
    refine own_st (B := T3.setTop (mkF m 5 #[.val (.int p1), .val (.int p2)] [(.ref ua), (.int p2), (.int p1)])) (fun t k => st3 t k) ?_
    obtain ⟨_, _, ⟨T4, L4, k4, j4⟩, -, X4, ⟨Lc4, hQ4, l4, y4_, z4_⟩, st4⟩ := Jvm.LawKit.callS X3 hx (y := (⟨"jdk/internal/util/Preconditions", "checkIndex", "(IILjava/util/function/BiFunction;)I"⟩ : MethodName)) hown (mvT hZ (w_47 hw)) (mvT hZ (w_48 hw)) (mvT hZ (w_46 hw)) (mvT hZ (w_49 hw)) (by decide) (backOf (W := 0) (rm8r l Z a0 hw [] p1 p2 ua h0 n0 Z0 hp) hZ (w_49 hw) (w_46 hw) (by decide) (by decide)) (g := (mkF m 5 #[.val (.int p1), .val (.int p2)] [(.ref ua), (.int p2), (.int p1)])) rfl (by rw [hml]; rfl) (argsL := [(.int p1), (.int p2), (.ref ua)]) (rest := []) (lenOf own_pd1 rfl) rfl (by show 2 * 0 + _ ≤ _; exact Nat.le_of_eq rfl) (hb hby d7_5) (fun _ _ => ⟨rfl, e3, (by decide : 0 + 0 ≤ _), (by decide : 0 + 0 ≤ _)⟩)
    dsimp only [Pt.U, Pt.locs, Pt.cells, Pt.slots] at X4 l4 y4_ z4_ st4 hQ4
    subst l4 y4_ z4_
    obtain ⟨rfl, N4q, e4q⟩ := hQ4
    have N4 := Fr.app N0 N4q
    refine own_st (B := T4.setTop (mkF m 8 #[.val (.int p1), .val (.int p2)] [(.int p1)])) (fun t k => st4 t k) ?_
    refine own_st (B := T4.setTop (mkF m 9 #[.val (.int p1), .val (.int p2)] [])) (fun t k => XS.pop X4.here hx rfl (hb hby d7_8) rfl rfl k) ?_
    refine own_retV X4 hx hlk Bd.returns (hb hby d7_9) (by decide) (by decide) ?_
    show Q7 Z p1 p2 u1 h0 n0 _ T4.heap _
    rw [e4q]
    exact ⟨rfl, N4, rfl⟩
theorem own_pd3 : parseMethodDescriptor "(II)V" = some ⟨[.int, .int], none⟩ := by decide +kernel
theorem own_pn3 : plainName "java/lang/StringLatin1" = true := by first | (simp [plainName, overriddenIn]; done) | decide +kernel
theorem d6_0 : decode jdk_43_method_2_code 0 = .ok (.iload_n 1, 1) := by decide +kernel
theorem d6_1 : decode jdk_43_method_2_code 1 = .ok (.aload_n 0, 1) := by decide +kernel
theorem d6_2 : decode jdk_43_method_2_code 2 = .ok (.arraylength, 1) := by decide +kernel
theorem d6_3 : decode jdk_43_method_2_code 3 = .ok (.invokestatic 9, 3) := by decide +kernel
theorem d6_6 : decode jdk_43_method_2_code 6 = .ok (.aload_n 0, 1) := by decide +kernel
theorem d6_7 : decode jdk_43_method_2_code 7 = .ok (.iload_n 1, 1) := by decide +kernel
theorem d6_8 : decode jdk_43_method_2_code 8 = .ok (.baload, 1) := by decide +kernel
theorem d6_9 : decode jdk_43_method_2_code 9 = .ok (.sipush 255, 3) := by decide +kernel
theorem d6_12 : decode jdk_43_method_2_code 12 = .ok (.iand, 1) := by decide +kernel
theorem d6_13 : decode jdk_43_method_2_code 13 = .ok (.i2c, 1) := by decide +kernel
theorem d6_14 : decode jdk_43_method_2_code 14 = .ok (.ireturn, 1) := by decide +kernel
theorem ef_6 (m : MethodId) (x0 : Addr) (x1 : Int32) : entryFrame m #[(.ref x0), (.int x1)] 2 = mkF m 0 #[.val (.ref x0), .val (.int x1)] [] := by first | (simp [entryFrame, mkF, argsToLocals, Value.category]; done) | rfl
def Q6 (Z : State) (a1 : Addr) (p1 : Int32) (bs : List Int32) (u1 : Value) (h0 : Heap) (n0 : Nat) (v : Option Value) (h : Heap) (L : List Loc) : Prop := ∃ (zc : Int32), v = some (.int zc) ∧ Fr n0 L ∧ h = h0 ∧ (0 ≤ zc.toInt ∧ zc.toInt ≤ 255)
set_option maxHeartbeats 40000000 in
theorem rm6 (l : Launch) (Z : State) (a0 : Array Value) (hw : ∀ d ∈ tables_1, d.before a0 Z = true) (ws : List Jvm.Cond) (a1 : Addr) (p1 : Int32) (bs : List Int32) (u1 : Value) (h0 : Heap) (n0 : Nat) (Z0 : n0 ≤ h0.size) (F0 : own_A Z h0 a1 .byte (bs.map Value.int)) (F1 : Sta Z h0 "jdk/internal/util/Preconditions" "SIOOBE_FORMATTER" "Ljava/util/function/BiFunction;" u1) (hp : 0 ≤ p1.toInt ∧ p1.toInt < (bs.length : Int)) (hbn : bs.length < 1000) (hu : u1 = .null ∨ ∃ a, u1 = .ref a) :
    MetFree l (⟨"java/lang/StringLatin1", "charAt", "([BI)C"⟩ : MethodName) (head1 (Jvm.Cond.code (⟨"java/lang/StringLatin1", "charAt", "([BI)C"⟩ : MethodName) jdk_43_method_2_code 2 (some .char) :: ws) ({ frames := 2, cells := 0, slots := 0, locals := 27 } : Room)) (fun a U => a = #[(.ref a1), (.int p1)] ∧ Z.Warmed39 U.vm ∧ U.heap = h0) (fun _ _ _ _ _ => True) (fun _ U o U' => ∃ v L, o = .returned v ∧ Q6 Z a1 p1 bs u1 h0 n0 v U'.heap L ∧ FrameEnd U o U' L ({ frames := 2, cells := 0, slots := 0, locals := 27 } : Room).cells ({ frames := 2, cells := 0, slots := 0, locals := 27 } : Room).slots) := by
  refine MetFree.of_bodySF (plainFor_of_name own_pn3) hisR ?_
  intro p e s m args below meth c s₁ Bd hml0 hP hK
  obtain ⟨rfl, hZ, hh⟩ := hP
  have hx := Bd.exec
  have hby := Bd.bytes
  have hml : c.maxLocals = 2 := hml0
  have hlk : meth.locks = false := BodyLoose.notSynchronized Bd
  have hown : s.vm.findClass "java/lang/StringLatin1" = some m.cls := findClass_of_methodNamed Bd.named
  have hnm := (name_of_methodNamed Bd.named Bd.method).1
  have X0 : Stand p l e ({ frames := 2, cells := 0, slots := 0, locals := 27 } : Room) s m #[(.ref a1), (.int p1)] below meth c s₁ [] 0 0 := Stand.of_body Bd
  have e0 : s₁.heap = h0 := by rw [← hh, Bd.state]; rfl
  have N0 := Fr.nil n0
  show own_Go p e below s (Q6 Z a1 p1 bs u1 h0 n0) ({ frames := 2, cells := 0, slots := 0, locals := 27 } : Room).cells ({ frames := 2, cells := 0, slots := 0, locals := 27 } : Room).slots _
  refine own_st (B := s₁.setTop (mkF m 0 #[.val (.ref a1), .val (.int p1)] [])) (fun t k => castTop (ef_6 m (a1) (p1)) k) ?_
  refine own_st (B := s₁.setTop (mkF m 1 #[.val (.ref a1), .val (.int p1)] [(.int p1)])) (fun t k => XS.iloadN X0.here hx rfl (hb hby d6_0) rfl k) ?_
  refine own_st (B := s₁.setTop (mkF m 2 #[.val (.ref a1), .val (.int p1)] [(.ref a1), (.int p1)])) (fun t k => XS.aloadN X0.here hx rfl (hb hby d6_1) rfl rfl k) ?_
  refine own_st (B := s₁.setTop (mkF m 3 #[.val (.ref a1), .val (.int p1)] [(.int (bs.length.toInt32)), (.int p1)])) (fun t k => own_len X0 hx hZ e0 F0 (g := (mkF m 2 #[.val (.ref a1), .val (.int p1)] [(.ref a1), (.int p1)])) (n := (bs.length.toInt32)) (by rw [List.length_map, len_toInt (by omega)]) rfl rfl (hb hby d6_2) k) ?_
  obtain ⟨_, _, ⟨T1, L1, k1, j1⟩, -, X1, ⟨Lc1, hQ1, l1, y1_, z1_⟩, st1⟩ := Jvm.LawKit.callS X0 hx (y := (⟨"java/lang/String", "checkIndex", "(II)V"⟩ : MethodName)) hown (mvT hZ (w_42 hw)) (mvT hZ (w_43 hw)) (mvT hZ (w_1 hw)) (mvT hZ (w_44 hw)) (by decide) (backOf (W := 0) (rm7 l Z a0 hw [] p1 (bs.length.toInt32) u1 h0 n0 Z0 F1 (by rw [len_toInt (by omega)]; exact hp) hu) hZ (w_44 hw) (w_1 hw) (by decide) (by decide)) (g := (mkF m 3 #[.val (.ref a1), .val (.int p1)] [(.int (bs.length.toInt32)), (.int p1)])) rfl (by rw [hml]; rfl) (argsL := [(.int p1), (.int (bs.length.toInt32))]) (rest := []) (lenOf own_pd3 rfl) rfl (by show 2 * 0 + _ ≤ _; exact Nat.le_of_eq rfl) (hb hby d6_3) (fun _ _ => ⟨rfl, e0, (by decide : 0 + 0 ≤ _), (by decide : 0 + 0 ≤ _)⟩)
  dsimp only [Pt.U, Pt.locs, Pt.cells, Pt.slots] at X1 l1 y1_ z1_ st1 hQ1
  subst l1 y1_ z1_
  obtain ⟨rfl, N1q, e1q⟩ := hQ1
  have N1 := Fr.app N0 N1q
  refine own_st (B := T1.setTop (mkF m 6 #[.val (.ref a1), .val (.int p1)] [])) (fun t k => st1 t k) ?_
  refine own_st (B := T1.setTop (mkF m 7 #[.val (.ref a1), .val (.int p1)] [(.ref a1)])) (fun t k => XS.aloadN X1.here hx rfl (hb hby d6_6) rfl rfl k) ?_
  refine own_st (B := T1.setTop (mkF m 8 #[.val (.ref a1), .val (.int p1)] [(.int p1), (.ref a1)])) (fun t k => XS.iloadN X1.here hx rfl (hb hby d6_7) rfl k) ?_
  refine own_st (B := T1.setTop (mkF m 9 #[.val (.ref a1), .val (.int p1)] [(.int (bs.getD p1.toInt.toNat 0))])) (fun t k => own_ldB X1 hx hZ e1q F0 (g := (mkF m 8 #[.val (.ref a1), .val (.int p1)] [(.int p1), (.ref a1)])) (i := (p1.toInt.toNat)) (own_nat hp.1) (own_getI (by omega)) rfl rfl (hb hby d6_8) k) ?_
  refine own_st (B := T1.setTop (mkF m 12 #[.val (.ref a1), .val (.int p1)] [(.int (255 : Int32)), (.int (bs.getD p1.toInt.toNat 0))])) (fun t k => XS.sipush X1.here hx rfl (hb hby d6_9) k) ?_
  refine own_st (B := T1.setTop (mkF m 13 #[.val (.ref a1), .val (.int p1)] [(.int ((bs.getD p1.toInt.toNat 0) &&& (255 : Int32)))])) (fun t k => XS.iand X1.here hx rfl (hb hby d6_12) rfl k) ?_
  refine own_st (B := T1.setTop (mkF m 14 #[.val (.ref a1), .val (.int p1)] [(.int (((bs.getD p1.toInt.toNat 0) &&& (255 : Int32)).toUInt32.toUInt16.toUInt32.toInt32))])) (fun t k => XS.i2c X1.here hx rfl (hb hby d6_13) rfl k) ?_
  refine own_retN X1 hx hlk (t := .char) Bd.returns (by simp) (z' := (((bs.getD p1.toInt.toNat 0) &&& (255 : Int32)).toUInt32.toUInt16.toUInt32.toInt32)) (own_narC (own_ch _)) (hb hby d6_14) (by decide) (by decide) ?_
  show Q6 Z a1 p1 bs u1 h0 n0 _ T1.heap _
  rw [e1q]
  exact ⟨(((bs.getD p1.toInt.toNat 0) &&& (255 : Int32)).toUInt32.toUInt16.toUInt32.toInt32), rfl, N1, rfl, (own_ch _)⟩
theorem d5_0 : decode jdk_42_method_154_code 0 = .ok (.getstatic 38, 3) := by decide +kernel
theorem d5_3 : decode jdk_42_method_154_code 3 = .ok (.ifCond .eq 14, 3) := by decide +kernel
theorem d5_6 : decode jdk_42_method_154_code 6 = .ok (.aload_n 0, 1) := by decide +kernel
theorem d5_7 : decode jdk_42_method_154_code 7 = .ok (.getfield 15, 3) := by decide +kernel
theorem d5_10 : decode jdk_42_method_154_code 10 = .ok (.ifCond .ne 7, 3) := by decide +kernel
theorem d5_13 : decode jdk_42_method_154_code 13 = .ok (.iconst 1, 1) := by decide +kernel
theorem d5_14 : decode jdk_42_method_154_code 14 = .ok (.goto 4, 3) := by decide +kernel
theorem d5_18 : decode jdk_42_method_154_code 18 = .ok (.ireturn, 1) := by decide +kernel
theorem ef_5 (m : MethodId) (x0 : Addr) : entryFrame m #[(.ref x0)] 1 = mkF m 0 #[.val (.ref x0)] [] := by first | (simp [entryFrame, mkF, argsToLocals, Value.category]; done) | rfl
def Q5 (Z : State) (a1 : Addr) (cs : Int32) (h0 : Heap) (n0 : Nat) (v : Option Value) (h : Heap) (L : List Loc) : Prop := v = some (.int (1 : Int32)) ∧ Fr n0 L ∧ h = h0
set_option maxHeartbeats 40000000 in
theorem rm5 (l : Launch) (Z : State) (a0 : Array Value) (hw : ∀ d ∈ tables_1, d.before a0 Z = true) (ws : List Jvm.Cond) (a1 : Addr) (cs : Int32) (h0 : Heap) (n0 : Nat) (Z0 : n0 ≤ h0.size) (F0 : Fld Z h0 a1 "java/lang/String" "coder" "B" (.int (0 : Int32))) (F1 : Sta Z h0 "java/lang/String" "COMPACT_STRINGS" "Z" (.int cs)) (hcs : ¬ (cs = (0 : Int32))) :
    MetFree l (⟨"java/lang/String", "isLatin1", "()Z"⟩ : MethodName) (head1 (Jvm.Cond.code (⟨"java/lang/String", "isLatin1", "()Z"⟩ : MethodName) jdk_42_method_154_code 1 (some .boolean) :: ws) ({ frames := 0, cells := 0, slots := 0, locals := 0 } : Room)) (fun a U => a = #[(.ref a1)] ∧ Z.Warmed39 U.vm ∧ U.heap = h0) (fun _ _ _ _ _ => True) (fun _ U o U' => ∃ v L, o = .returned v ∧ Q5 Z a1 cs h0 n0 v U'.heap L ∧ FrameEnd U o U' L ({ frames := 0, cells := 0, slots := 0, locals := 0 } : Room).cells ({ frames := 0, cells := 0, slots := 0, locals := 0 } : Room).slots) := by
  refine MetFree.of_bodySF (plainFor_of_name own_pn2) hisR ?_
  intro p e s m args below meth c s₁ Bd hml0 hP hK
  obtain ⟨rfl, hZ, hh⟩ := hP
  have hx := Bd.exec
  have hby := Bd.bytes
  have hml : c.maxLocals = 1 := hml0
  have hlk : meth.locks = false := BodyLoose.notSynchronized Bd
  have hown : s.vm.findClass "java/lang/String" = some m.cls := findClass_of_methodNamed Bd.named
  have hnm := (name_of_methodNamed Bd.named Bd.method).1
  have X0 : Stand p l e ({ frames := 0, cells := 0, slots := 0, locals := 0 } : Room) s m #[(.ref a1)] below meth c s₁ [] 0 0 := Stand.of_body Bd
  have e0 : s₁.heap = h0 := by rw [← hh, Bd.state]; rfl
  have N0 := Fr.nil n0
  show own_Go p e below s (Q5 Z a1 cs h0 n0) ({ frames := 0, cells := 0, slots := 0, locals := 0 } : Room).cells ({ frames := 0, cells := 0, slots := 0, locals := 0 } : Room).slots _
  refine own_st (B := s₁.setTop (mkF m 0 #[.val (.ref a1)] [])) (fun t k => castTop (ef_5 m (a1)) k) ?_
  obtain ⟨T1, X1, e1, st1⟩ := getS2 X0 hx hZ hown (host := "") (Or.inl (w_26 hw)) Via.refl e0 F1 (g := (mkF m 0 #[.val (.ref a1)] [])) rfl (hb hby d5_0)
  refine own_st (B := T1.setTop (mkF m 3 #[.val (.ref a1)] [(.int cs)])) (fun t k => st1 t k) ?_
  refine own_st (B := T1.setTop (mkF m 6 #[.val (.ref a1)] [])) (fun t k => XS.ifNo X1.here hx rfl (hb hby d5_3) rfl (XT.i0_eq_f hcs) k) ?_
  refine own_st (B := T1.setTop (mkF m 7 #[.val (.ref a1)] [(.ref a1)])) (fun t k => XS.aloadN X1.here hx rfl (hb hby d5_6) rfl rfl k) ?_
  obtain ⟨T2, X2, e2, st2⟩ := getF X1 hx hZ hown (host := "") (Or.inl (w_27 hw)) Via.refl e1 F0 (g := (mkF m 7 #[.val (.ref a1)] [(.ref a1)])) rfl rfl (hb hby d5_7)
  refine own_st (B := T2.setTop (mkF m 10 #[.val (.ref a1)] [(.int (0 : Int32))])) (fun t k => st2 t k) ?_
  refine own_st (B := T2.setTop (mkF m 13 #[.val (.ref a1)] [])) (fun t k => XS.ifNo X2.here hx rfl (hb hby d5_10) rfl (by decide) k) ?_
  refine own_st (B := T2.setTop (mkF m 14 #[.val (.ref a1)] [(.int (1 : Int32))])) (fun t k => XS.iconst X2.here hx rfl (hb hby d5_13) k) ?_
  refine own_st (B := T2.setTop (mkF m 18 #[.val (.ref a1)] [(.int (1 : Int32))])) (fun t k => XS.goto X2.here hx rfl (pc0 := 14) (pc' := 18) rfl (hb hby d5_14) (by decide) (by decide) k) ?_
  refine own_retN X2 hx hlk (t := .boolean) Bd.returns (by simp) (z' := (1 : Int32)) rfl (hb hby d5_18) (by decide) (by decide) ?_
  show Q5 Z a1 cs h0 n0 _ T2.heap _
  rw [e2]
  exact ⟨rfl, N0, rfl⟩
theorem own_pd5 : parseMethodDescriptor "()Z" = some ⟨[], some .boolean⟩ := by decide +kernel
theorem own_pd6 : parseMethodDescriptor "([BI)C" = some ⟨[(.array .byte), .int], some .char⟩ := by decide +kernel
theorem d4_0 : decode jdk_42_method_56_code 0 = .ok (.aload_n 0, 1) := by decide +kernel
theorem d4_1 : decode jdk_42_method_56_code 1 = .ok (.invokevirtual 492, 3) := by decide +kernel
theorem d4_4 : decode jdk_42_method_56_code 4 = .ok (.ifCond .eq 12, 3) := by decide +kernel
theorem d4_7 : decode jdk_42_method_56_code 7 = .ok (.aload_n 0, 1) := by decide +kernel
theorem d4_8 : decode jdk_42_method_56_code 8 = .ok (.getfield 9, 3) := by decide +kernel
theorem d4_11 : decode jdk_42_method_56_code 11 = .ok (.iload_n 1, 1) := by decide +kernel
theorem d4_12 : decode jdk_42_method_56_code 12 = .ok (.invokestatic 495, 3) := by decide +kernel
theorem d4_15 : decode jdk_42_method_56_code 15 = .ok (.ireturn, 1) := by decide +kernel
theorem ef_4 (m : MethodId) (x0 : Addr) (x1 : Int32) : entryFrame m #[(.ref x0), (.int x1)] 2 = mkF m 0 #[.val (.ref x0), .val (.int x1)] [] := by first | (simp [entryFrame, mkF, argsToLocals, Value.category]; done) | rfl
def Q4 (Z : State) (a1 : Addr) (p1 : Int32) (b1 : Addr) (bs : List Int32) (cs : Int32) (u1 : Value) (h0 : Heap) (n0 : Nat) (v : Option Value) (h : Heap) (L : List Loc) : Prop := ∃ (zc : Int32), v = some (.int zc) ∧ Fr n0 L ∧ h = h0 ∧ (0 ≤ zc.toInt ∧ zc.toInt ≤ 255)
set_option maxHeartbeats 40000000 in
theorem rm4 (l : Launch) (Z : State) (a0 : Array Value) (hw : ∀ d ∈ tables_1, d.before a0 Z = true) (ws : List Jvm.Cond) (a1 : Addr) (p1 : Int32) (b1 : Addr) (bs : List Int32) (cs : Int32) (u1 : Value) (h0 : Heap) (n0 : Nat) (Z0 : n0 ≤ h0.size) (F0 : Exa Z h0 a1 "java/lang/String") (F1 : Fld Z h0 a1 "java/lang/String" "coder" "B" (.int (0 : Int32))) (F2 : Fld Z h0 a1 "java/lang/String" "value" "[B" (.ref b1)) (F3 : own_A Z h0 b1 .byte (bs.map Value.int)) (F4 : Sta Z h0 "java/lang/String" "COMPACT_STRINGS" "Z" (.int cs)) (F5 : Sta Z h0 "jdk/internal/util/Preconditions" "SIOOBE_FORMATTER" "Ljava/util/function/BiFunction;" u1) (hp : 0 ≤ p1.toInt ∧ p1.toInt < (bs.length : Int)) (hbn : bs.length < 1000) (hcs : ¬ (cs = (0 : Int32))) (hu : u1 = .null ∨ ∃ a, u1 = .ref a) :
    MetFree l (⟨"java/lang/String", "charAt", "(I)C"⟩ : MethodName) (head1 (Jvm.Cond.code (⟨"java/lang/String", "charAt", "(I)C"⟩ : MethodName) jdk_42_method_56_code 2 (some .char) :: ws) ({ frames := 3, cells := 0, slots := 0, locals := 40 } : Room)) (fun a U => a = #[(.ref a1), (.int p1)] ∧ Z.Warmed39 U.vm ∧ U.heap = h0) (fun _ _ _ _ _ => True) (fun _ U o U' => ∃ v L, o = .returned v ∧ Q4 Z a1 p1 b1 bs cs u1 h0 n0 v U'.heap L ∧ FrameEnd U o U' L ({ frames := 3, cells := 0, slots := 0, locals := 40 } : Room).cells ({ frames := 3, cells := 0, slots := 0, locals := 40 } : Room).slots) := by
  refine MetFree.of_bodySF (plainFor_of_name own_pn2) hisR ?_
  intro p e s m args below meth c s₁ Bd hml0 hP hK
  obtain ⟨rfl, hZ, hh⟩ := hP
  have hx := Bd.exec
  have hby := Bd.bytes
  have hml : c.maxLocals = 2 := hml0
  have hlk : meth.locks = false := BodyLoose.notSynchronized Bd
  have hown : s.vm.findClass "java/lang/String" = some m.cls := findClass_of_methodNamed Bd.named
  have hnm := (name_of_methodNamed Bd.named Bd.method).1
  have X0 : Stand p l e ({ frames := 3, cells := 0, slots := 0, locals := 40 } : Room) s m #[(.ref a1), (.int p1)] below meth c s₁ [] 0 0 := Stand.of_body Bd
  have e0 : s₁.heap = h0 := by rw [← hh, Bd.state]; rfl
  have N0 := Fr.nil n0
  show own_Go p e below s (Q4 Z a1 p1 b1 bs cs u1 h0 n0) ({ frames := 3, cells := 0, slots := 0, locals := 40 } : Room).cells ({ frames := 3, cells := 0, slots := 0, locals := 40 } : Room).slots _
  refine own_st (B := s₁.setTop (mkF m 0 #[.val (.ref a1), .val (.int p1)] [])) (fun t k => castTop (ef_4 m (a1) (p1)) k) ?_
  refine own_st (B := s₁.setTop (mkF m 1 #[.val (.ref a1), .val (.int p1)] [(.ref a1)])) (fun t k => XS.aloadN X0.here hx rfl (hb hby d4_0) rfl rfl k) ?_
  obtain ⟨cq1, kq1, q1a, q1b, q1c⟩ := isOf hZ e0 F0
  obtain ⟨_, _, ⟨T1, L1, k1, j1⟩, -, X1, ⟨Lc1, hQ1, l1, y1_, z1_⟩, st1⟩ := X0.virtualBack hx (y := (⟨"java/lang/String", "isLatin1", "()Z"⟩ : MethodName)) (z := (⟨"java/lang/String", "isLatin1", "()Z"⟩ : MethodName)) hown (mvT hZ (w_33 hw)) (mvT hZ (w_34 hw)) (notFace_of_selects (args := #[]) (mvT hZ (w_36 hw))) (mvT hZ (w_36 hw)) (mvT hZ (w_35 hw)) (by decide) (backOf (W := 0) (rm5 l Z a0 hw [] a1 cs h0 n0 Z0 F1 F4 hcs) hZ (w_37 hw) (w_1 hw) (by decide) (by decide)) q1a q1c (g := (mkF m 1 #[.val (.ref a1), .val (.int p1)] [(.ref a1)])) rfl (by rw [hml]; rfl) (Steps.refl _) (argsL := []) (rest := []) (lenOf own_pd5 rfl) rfl (by show 2 * 0 + _ ≤ _; exact Nat.le_of_eq rfl) (hb hby d4_1) (fun _ _ => ⟨rfl, e0, (by decide : 0 + 0 ≤ _), (by decide : 0 + 0 ≤ _)⟩)
  dsimp only [Pt.U, Pt.locs, Pt.cells, Pt.slots] at X1 l1 y1_ z1_ st1 hQ1
  subst l1 y1_ z1_
  obtain ⟨rfl, N1q, e1q⟩ := hQ1
  have N1 := Fr.app N0 N1q
  refine own_ss (B := T1.setTop (mkF m 4 #[.val (.ref a1), .val (.int p1)] [(.int (1 : Int32))])) st1 ?_
  refine own_st (B := T1.setTop (mkF m 7 #[.val (.ref a1), .val (.int p1)] [])) (fun t k => XS.ifNo X1.here hx rfl (hb hby d4_4) rfl (by decide) k) ?_
  refine own_st (B := T1.setTop (mkF m 8 #[.val (.ref a1), .val (.int p1)] [(.ref a1)])) (fun t k => XS.aloadN X1.here hx rfl (hb hby d4_7) rfl rfl k) ?_
  obtain ⟨T2, X2, e2, st2⟩ := getF X1 hx hZ hown (host := "") (Or.inl (w_20 hw)) Via.refl e1q F2 (g := (mkF m 8 #[.val (.ref a1), .val (.int p1)] [(.ref a1)])) rfl rfl (hb hby d4_8)
  refine own_st (B := T2.setTop (mkF m 11 #[.val (.ref a1), .val (.int p1)] [(.ref b1)])) (fun t k => st2 t k) ?_
  refine own_st (B := T2.setTop (mkF m 12 #[.val (.ref a1), .val (.int p1)] [(.int p1), (.ref b1)])) (fun t k => XS.iloadN X2.here hx rfl (hb hby d4_11) rfl k) ?_
  obtain ⟨_, _, ⟨T3, L3, k3, j3⟩, -, X3, ⟨Lc3, hQ3, l3, y3_, z3_⟩, st3⟩ := Jvm.LawKit.callS X2 hx (y := (⟨"java/lang/StringLatin1", "charAt", "([BI)C"⟩ : MethodName)) hown (mvT hZ (w_38 hw)) (mvT hZ (w_39 hw)) (mvT hZ (w_40 hw)) (mvT hZ (w_41 hw)) (by decide) (backOf (W := 0) (rm6 l Z a0 hw [] b1 p1 bs u1 h0 n0 Z0 F3 F5 hp hbn hu) hZ (w_41 hw) (w_40 hw) (by decide) (by decide)) (g := (mkF m 12 #[.val (.ref a1), .val (.int p1)] [(.int p1), (.ref b1)])) rfl (by rw [hml]; rfl) (argsL := [(.ref b1), (.int p1)]) (rest := []) (lenOf own_pd6 rfl) rfl (by show 2 * 0 + _ ≤ _; exact Nat.le_of_eq rfl) (hb hby d4_12) (fun _ _ => ⟨rfl, e2, (by decide : 0 + 0 ≤ _), (by decide : 0 + 0 ≤ _)⟩)
  dsimp only [Pt.U, Pt.locs, Pt.cells, Pt.slots] at X3 l3 y3_ z3_ st3 hQ3
  subst l3 y3_ z3_
  obtain ⟨zc_3, rfl, N3q, e3q, r3_0⟩ := hQ3
  have N3 := Fr.app N1 N3q
  refine own_st (B := T3.setTop (mkF m 15 #[.val (.ref a1), .val (.int p1)] [(.int zc_3)])) (fun t k => st3 t k) ?_
  refine own_retN X3 hx hlk (t := .char) Bd.returns (by simp) (z' := zc_3) (own_narC r3_0) (hb hby d4_15) (by decide) (by decide) ?_
  show Q4 Z a1 p1 b1 bs cs u1 h0 n0 _ T3.heap _
  rw [e3q]
  exact ⟨zc_3, rfl, N3, rfl, r3_0⟩
theorem d3_0 : decode jdk_42_method_152_code 0 = .ok (.getstatic 38, 3) := by decide +kernel
theorem d3_3 : decode jdk_42_method_152_code 3 = .ok (.ifCond .eq 10, 3) := by decide +kernel
theorem d3_6 : decode jdk_42_method_152_code 6 = .ok (.aload_n 0, 1) := by decide +kernel
theorem d3_7 : decode jdk_42_method_152_code 7 = .ok (.getfield 15, 3) := by decide +kernel
theorem d3_10 : decode jdk_42_method_152_code 10 = .ok (.goto 4, 3) := by decide +kernel
theorem d3_14 : decode jdk_42_method_152_code 14 = .ok (.ireturn, 1) := by decide +kernel
theorem ef_3 (m : MethodId) (x0 : Addr) : entryFrame m #[(.ref x0)] 1 = mkF m 0 #[.val (.ref x0)] [] := by first | (simp [entryFrame, mkF, argsToLocals, Value.category]; done) | rfl
def Q3 (Z : State) (a1 : Addr) (cs : Int32) (h0 : Heap) (n0 : Nat) (v : Option Value) (h : Heap) (L : List Loc) : Prop := v = some (.int (0 : Int32)) ∧ Fr n0 L ∧ h = h0
set_option maxHeartbeats 40000000 in
theorem rm3 (l : Launch) (Z : State) (a0 : Array Value) (hw : ∀ d ∈ tables_1, d.before a0 Z = true) (ws : List Jvm.Cond) (a1 : Addr) (cs : Int32) (h0 : Heap) (n0 : Nat) (Z0 : n0 ≤ h0.size) (F0 : Fld Z h0 a1 "java/lang/String" "coder" "B" (.int (0 : Int32))) (F1 : Sta Z h0 "java/lang/String" "COMPACT_STRINGS" "Z" (.int cs)) (hcs : ¬ (cs = (0 : Int32))) :
    MetFree l (⟨"java/lang/String", "coder", "()B"⟩ : MethodName) (head1 (Jvm.Cond.code (⟨"java/lang/String", "coder", "()B"⟩ : MethodName) jdk_42_method_152_code 1 (some .byte) :: ws) ({ frames := 0, cells := 0, slots := 0, locals := 0 } : Room)) (fun a U => a = #[(.ref a1)] ∧ Z.Warmed39 U.vm ∧ U.heap = h0) (fun _ _ _ _ _ => True) (fun _ U o U' => ∃ v L, o = .returned v ∧ Q3 Z a1 cs h0 n0 v U'.heap L ∧ FrameEnd U o U' L ({ frames := 0, cells := 0, slots := 0, locals := 0 } : Room).cells ({ frames := 0, cells := 0, slots := 0, locals := 0 } : Room).slots) := by
  refine MetFree.of_bodySF (plainFor_of_name own_pn2) hisR ?_
  intro p e s m args below meth c s₁ Bd hml0 hP hK
  obtain ⟨rfl, hZ, hh⟩ := hP
  have hx := Bd.exec
  have hby := Bd.bytes
  have hml : c.maxLocals = 1 := hml0
  have hlk : meth.locks = false := BodyLoose.notSynchronized Bd
  have hown : s.vm.findClass "java/lang/String" = some m.cls := findClass_of_methodNamed Bd.named
  have hnm := (name_of_methodNamed Bd.named Bd.method).1
  have X0 : Stand p l e ({ frames := 0, cells := 0, slots := 0, locals := 0 } : Room) s m #[(.ref a1)] below meth c s₁ [] 0 0 := Stand.of_body Bd
  have e0 : s₁.heap = h0 := by rw [← hh, Bd.state]; rfl
  have N0 := Fr.nil n0
  show own_Go p e below s (Q3 Z a1 cs h0 n0) ({ frames := 0, cells := 0, slots := 0, locals := 0 } : Room).cells ({ frames := 0, cells := 0, slots := 0, locals := 0 } : Room).slots _
  refine own_st (B := s₁.setTop (mkF m 0 #[.val (.ref a1)] [])) (fun t k => castTop (ef_3 m (a1)) k) ?_
  obtain ⟨T1, X1, e1, st1⟩ := getS2 X0 hx hZ hown (host := "") (Or.inl (w_26 hw)) Via.refl e0 F1 (g := (mkF m 0 #[.val (.ref a1)] [])) rfl (hb hby d3_0)
  refine own_st (B := T1.setTop (mkF m 3 #[.val (.ref a1)] [(.int cs)])) (fun t k => st1 t k) ?_
  refine own_st (B := T1.setTop (mkF m 6 #[.val (.ref a1)] [])) (fun t k => XS.ifNo X1.here hx rfl (hb hby d3_3) rfl (XT.i0_eq_f hcs) k) ?_
  refine own_st (B := T1.setTop (mkF m 7 #[.val (.ref a1)] [(.ref a1)])) (fun t k => XS.aloadN X1.here hx rfl (hb hby d3_6) rfl rfl k) ?_
  obtain ⟨T2, X2, e2, st2⟩ := getF X1 hx hZ hown (host := "") (Or.inl (w_27 hw)) Via.refl e1 F0 (g := (mkF m 7 #[.val (.ref a1)] [(.ref a1)])) rfl rfl (hb hby d3_7)
  refine own_st (B := T2.setTop (mkF m 10 #[.val (.ref a1)] [(.int (0 : Int32))])) (fun t k => st2 t k) ?_
  refine own_st (B := T2.setTop (mkF m 14 #[.val (.ref a1)] [(.int (0 : Int32))])) (fun t k => XS.goto X2.here hx rfl (pc0 := 10) (pc' := 14) rfl (hb hby d3_10) (by decide) (by decide) k) ?_
  refine own_retN X2 hx hlk (t := .byte) Bd.returns (by simp) (z' := (0 : Int32)) rfl (hb hby d3_14) (by decide) (by decide) ?_
  show Q3 Z a1 cs h0 n0 _ T2.heap _
  rw [e2]
  exact ⟨rfl, N0, rfl⟩
theorem own_pd7 : parseMethodDescriptor "()B" = some ⟨[], some .byte⟩ := by decide +kernel
theorem d2_0 : decode jdk_42_method_54_code 0 = .ok (.aload_n 0, 1) := by decide +kernel
theorem d2_1 : decode jdk_42_method_54_code 1 = .ok (.getfield 9, 3) := by decide +kernel
theorem d2_4 : decode jdk_42_method_54_code 4 = .ok (.arraylength, 1) := by decide +kernel
theorem d2_5 : decode jdk_42_method_54_code 5 = .ok (.aload_n 0, 1) := by decide +kernel
theorem d2_6 : decode jdk_42_method_54_code 6 = .ok (.invokevirtual 335, 3) := by decide +kernel
theorem d2_9 : decode jdk_42_method_54_code 9 = .ok (.ishr, 1) := by decide +kernel
theorem d2_10 : decode jdk_42_method_54_code 10 = .ok (.ireturn, 1) := by decide +kernel
theorem ef_2 (m : MethodId) (x0 : Addr) : entryFrame m #[(.ref x0)] 1 = mkF m 0 #[.val (.ref x0)] [] := by first | (simp [entryFrame, mkF, argsToLocals, Value.category]; done) | rfl
def Q2 (Z : State) (a1 : Addr) (b1 : Addr) (bs : List Int32) (cs : Int32) (h0 : Heap) (n0 : Nat) (v : Option Value) (h : Heap) (L : List Loc) : Prop := v = some (.int (bs.length.toInt32)) ∧ Fr n0 L ∧ h = h0
set_option maxHeartbeats 40000000 in
theorem rm2 (l : Launch) (Z : State) (a0 : Array Value) (hw : ∀ d ∈ tables_1, d.before a0 Z = true) (ws : List Jvm.Cond) (a1 : Addr) (b1 : Addr) (bs : List Int32) (cs : Int32) (h0 : Heap) (n0 : Nat) (Z0 : n0 ≤ h0.size) (F0 : Exa Z h0 a1 "java/lang/String") (F1 : Fld Z h0 a1 "java/lang/String" "coder" "B" (.int (0 : Int32))) (F2 : Fld Z h0 a1 "java/lang/String" "value" "[B" (.ref b1)) (F3 : own_A Z h0 b1 .byte (bs.map Value.int)) (F4 : Sta Z h0 "java/lang/String" "COMPACT_STRINGS" "Z" (.int cs)) (hbn : bs.length < 1000) (hcs : ¬ (cs = (0 : Int32))) :
    MetFree l (⟨"java/lang/String", "length", "()I"⟩ : MethodName) (head1 (Jvm.Cond.code (⟨"java/lang/String", "length", "()I"⟩ : MethodName) jdk_42_method_54_code 1 (some .int) :: ws) ({ frames := 1, cells := 0, slots := 0, locals := 13 } : Room)) (fun a U => a = #[(.ref a1)] ∧ Z.Warmed39 U.vm ∧ U.heap = h0) (fun _ _ _ _ _ => True) (fun _ U o U' => ∃ v L, o = .returned v ∧ Q2 Z a1 b1 bs cs h0 n0 v U'.heap L ∧ FrameEnd U o U' L ({ frames := 1, cells := 0, slots := 0, locals := 13 } : Room).cells ({ frames := 1, cells := 0, slots := 0, locals := 13 } : Room).slots) := by
  refine MetFree.of_bodySF (plainFor_of_name own_pn2) hisR ?_
  intro p e s m args below meth c s₁ Bd hml0 hP hK
  obtain ⟨rfl, hZ, hh⟩ := hP
  have hx := Bd.exec
  have hby := Bd.bytes
  have hml : c.maxLocals = 1 := hml0
  have hlk : meth.locks = false := BodyLoose.notSynchronized Bd
  have hown : s.vm.findClass "java/lang/String" = some m.cls := findClass_of_methodNamed Bd.named
  have hnm := (name_of_methodNamed Bd.named Bd.method).1
  have X0 : Stand p l e ({ frames := 1, cells := 0, slots := 0, locals := 13 } : Room) s m #[(.ref a1)] below meth c s₁ [] 0 0 := Stand.of_body Bd
  have e0 : s₁.heap = h0 := by rw [← hh, Bd.state]; rfl
  have N0 := Fr.nil n0
  show own_Go p e below s (Q2 Z a1 b1 bs cs h0 n0) ({ frames := 1, cells := 0, slots := 0, locals := 13 } : Room).cells ({ frames := 1, cells := 0, slots := 0, locals := 13 } : Room).slots _
  refine own_st (B := s₁.setTop (mkF m 0 #[.val (.ref a1)] [])) (fun t k => castTop (ef_2 m (a1)) k) ?_
  refine own_st (B := s₁.setTop (mkF m 1 #[.val (.ref a1)] [(.ref a1)])) (fun t k => XS.aloadN X0.here hx rfl (hb hby d2_0) rfl rfl k) ?_
  obtain ⟨T1, X1, e1, st1⟩ := getF X0 hx hZ hown (host := "") (Or.inl (w_20 hw)) Via.refl e0 F2 (g := (mkF m 1 #[.val (.ref a1)] [(.ref a1)])) rfl rfl (hb hby d2_1)
  refine own_st (B := T1.setTop (mkF m 4 #[.val (.ref a1)] [(.ref b1)])) (fun t k => st1 t k) ?_
  refine own_st (B := T1.setTop (mkF m 5 #[.val (.ref a1)] [(.int (bs.length.toInt32))])) (fun t k => own_len X1 hx hZ e1 F3 (g := (mkF m 4 #[.val (.ref a1)] [(.ref b1)])) (n := (bs.length.toInt32)) (by rw [List.length_map, len_toInt (by omega)]) rfl rfl (hb hby d2_4) k) ?_
  refine own_st (B := T1.setTop (mkF m 6 #[.val (.ref a1)] [(.ref a1), (.int (bs.length.toInt32))])) (fun t k => XS.aloadN X1.here hx rfl (hb hby d2_5) rfl rfl k) ?_
  obtain ⟨cq2, kq2, q2a, q2b, q2c⟩ := isOf hZ e1 F0
  obtain ⟨_, _, ⟨T2, L2, k2, j2⟩, -, X2, ⟨Lc2, hQ2, l2, y2_, z2_⟩, st2⟩ := X1.virtualBack hx (y := (⟨"java/lang/String", "coder", "()B"⟩ : MethodName)) (z := (⟨"java/lang/String", "coder", "()B"⟩ : MethodName)) hown (mvT hZ (w_21 hw)) (mvT hZ (w_22 hw)) (notFace_of_selects (args := #[]) (mvT hZ (w_24 hw))) (mvT hZ (w_24 hw)) (mvT hZ (w_23 hw)) (by decide) (backOf (W := 1) (rm3 l Z a0 hw [] a1 cs h0 n0 Z0 F1 F4 hcs) hZ (w_25 hw) (w_1 hw) (by decide) (by decide)) q2a q2c (g := (mkF m 6 #[.val (.ref a1)] [(.ref a1), (.int (bs.length.toInt32))])) rfl (by rw [hml]; rfl) (Steps.refl _) (argsL := []) (rest := [(.int (bs.length.toInt32))]) (lenOf own_pd7 rfl) rfl (by show 2 * 0 + _ ≤ _; exact Nat.le_of_eq rfl) (hb hby d2_6) (fun _ _ => ⟨rfl, e1, (by decide : 0 + 0 ≤ _), (by decide : 0 + 0 ≤ _)⟩)
  dsimp only [Pt.U, Pt.locs, Pt.cells, Pt.slots] at X2 l2 y2_ z2_ st2 hQ2
  subst l2 y2_ z2_
  obtain ⟨rfl, N2q, e2q⟩ := hQ2
  have N2 := Fr.app N0 N2q
  refine own_ss (B := T2.setTop (mkF m 9 #[.val (.ref a1)] [(.int (0 : Int32)), (.int (bs.length.toInt32))])) st2 ?_
  refine own_st (B := T2.setTop (mkF m 10 #[.val (.ref a1)] [(.int ((bs.length.toInt32) >>> ((0 : Int32) &&& 31)))])) (fun t k => XS.ishr X2.here hx rfl (hb hby d2_9) rfl k) ?_
  refine own_retI X2 hx hlk Bd.returns (hb hby d2_10) (by decide) (by decide) ?_
  show Q2 Z a1 b1 bs cs h0 n0 _ T2.heap _
  rw [e2q]
  exact ⟨(congrArg (fun q => some (Value.int q)) (own_shr0 _)), N2, rfl⟩
theorem own_pd8 : parseMethodDescriptor "()I" = some ⟨[], some .int⟩ := by decide +kernel
theorem own_pd9 : parseMethodDescriptor "(I)C" = some ⟨[.int], some .char⟩ := by decide +kernel
theorem own_pn4 : plainName "com/example/goodput/goodput/DeliveryModeNamedPinLaw" = true := by first | (simp [plainName, overriddenIn]; done) | decide +kernel
theorem d1_0 : decode method_2_code 0 = .ok (.iload_n 1, 1) := by decide +kernel
theorem d1_1 : decode method_2_code 1 = .ok (.iload_n 2, 1) := by decide +kernel
theorem d1_2 : decode method_2_code 2 = .ok (.if_icmp .ne 5, 3) := by decide +kernel
theorem d1_5 : decode method_2_code 5 = .ok (.iload_n 3, 1) := by decide +kernel
theorem d1_6 : decode method_2_code 6 = .ok (.ireturn, 1) := by decide +kernel
theorem d1_7 : decode method_2_code 7 = .ok (.iload_n 1, 1) := by decide +kernel
theorem d1_8 : decode method_2_code 8 = .ok (.aload_n 0, 1) := by decide +kernel
theorem d1_9 : decode method_2_code 9 = .ok (.invokevirtual 7, 3) := by decide +kernel
theorem d1_12 : decode method_2_code 12 = .ok (.if_icmp .ge 9, 3) := by decide +kernel
theorem d1_15 : decode method_2_code 15 = .ok (.aload_n 0, 1) := by decide +kernel
theorem d1_16 : decode method_2_code 16 = .ok (.iload_n 1, 1) := by decide +kernel
theorem d1_17 : decode method_2_code 17 = .ok (.invokevirtual 13, 3) := by decide +kernel
theorem d1_20 : decode method_2_code 20 = .ok (.ireturn, 1) := by decide +kernel
theorem d1_21 : decode method_2_code 21 = .ok (.iload_n 3, 1) := by decide +kernel
theorem d1_22 : decode method_2_code 22 = .ok (.ireturn, 1) := by decide +kernel
theorem ef_1 (m : MethodId) (x0 : Addr) (x1 : Int32) (x2 : Int32) (x3 : Int32) : entryFrame m #[(.ref x0), (.int x1), (.int x2), (.int x3)] 4 = mkF m 0 #[.val (.ref x0), .val (.int x1), .val (.int x2), .val (.int x3)] [] := by first | (simp [entryFrame, mkF, argsToLocals, Value.category]; done) | rfl
def Q1 (Z : State) (a1 : Addr) (p1 : Int32) (p2 : Int32) (p3 : Int32) (b1 : Addr) (bs : List Int32) (cs : Int32) (u1 : Value) (h0 : Heap) (n0 : Nat) (v : Option Value) (h : Heap) (L : List Loc) : Prop := ∃ (zc : Int32), v = some (.int zc) ∧ Fr n0 L ∧ h = h0 ∧ (0 ≤ zc.toInt ∧ zc.toInt ≤ 255)
set_option maxHeartbeats 40000000 in
theorem rm1 (l : Launch) (Z : State) (a0 : Array Value) (hw : ∀ d ∈ tables_1, d.before a0 Z = true) (ws : List Jvm.Cond) (a1 : Addr) (p1 : Int32) (p2 : Int32) (p3 : Int32) (b1 : Addr) (bs : List Int32) (cs : Int32) (u1 : Value) (h0 : Heap) (n0 : Nat) (Z0 : n0 ≤ h0.size) (F0 : Exa Z h0 a1 "java/lang/String") (F1 : Fld Z h0 a1 "java/lang/String" "coder" "B" (.int (0 : Int32))) (F2 : Fld Z h0 a1 "java/lang/String" "value" "[B" (.ref b1)) (F3 : own_A Z h0 b1 .byte (bs.map Value.int)) (F4 : Sta Z h0 "java/lang/String" "COMPACT_STRINGS" "Z" (.int cs)) (F5 : Sta Z h0 "jdk/internal/util/Preconditions" "SIOOBE_FORMATTER" "Ljava/util/function/BiFunction;" u1) (hge : 0 ≤ p1.toInt) (hch : 0 ≤ p3.toInt ∧ p3.toInt ≤ 255) (hbn : bs.length < 1000) (hcs : ¬ (cs = (0 : Int32))) (hu : u1 = .null ∨ ∃ a, u1 = .ref a) :
    MetFree l (⟨"com/example/goodput/goodput/DeliveryModeNamedPinLaw", "at", "(Ljava/lang/String;IIC)C"⟩ : MethodName) (head1 (Jvm.Cond.code (⟨"com/example/goodput/goodput/DeliveryModeNamedPinLaw", "at", "(Ljava/lang/String;IIC)C"⟩ : MethodName) method_2_code 4 (some .char) :: ws) ({ frames := 4, cells := 0, slots := 0, locals := 53 } : Room)) (fun a U => a = #[(.ref a1), (.int p1), (.int p2), (.int p3)] ∧ Z.Warmed39 U.vm ∧ U.heap = h0) (fun _ _ _ _ _ => True) (fun _ U o U' => ∃ v L, o = .returned v ∧ Q1 Z a1 p1 p2 p3 b1 bs cs u1 h0 n0 v U'.heap L ∧ FrameEnd U o U' L ({ frames := 4, cells := 0, slots := 0, locals := 53 } : Room).cells ({ frames := 4, cells := 0, slots := 0, locals := 53 } : Room).slots) := by
  refine MetFree.of_bodySF (plainFor_of_name own_pn4) hisR ?_
  intro p e s m args below meth c s₁ Bd hml0 hP hK
  obtain ⟨rfl, hZ, hh⟩ := hP
  have hx := Bd.exec
  have hby := Bd.bytes
  have hml : c.maxLocals = 4 := hml0
  have hlk : meth.locks = false := BodyLoose.notSynchronized Bd
  have hown : s.vm.findClass "com/example/goodput/goodput/DeliveryModeNamedPinLaw" = some m.cls := findClass_of_methodNamed Bd.named
  have hnm := (name_of_methodNamed Bd.named Bd.method).1
  have X0 : Stand p l e ({ frames := 4, cells := 0, slots := 0, locals := 53 } : Room) s m #[(.ref a1), (.int p1), (.int p2), (.int p3)] below meth c s₁ [] 0 0 := Stand.of_body Bd
  have e0 : s₁.heap = h0 := by rw [← hh, Bd.state]; rfl
  have N0 := Fr.nil n0
  show own_Go p e below s (Q1 Z a1 p1 p2 p3 b1 bs cs u1 h0 n0) ({ frames := 4, cells := 0, slots := 0, locals := 53 } : Room).cells ({ frames := 4, cells := 0, slots := 0, locals := 53 } : Room).slots _
  refine own_st (B := s₁.setTop (mkF m 0 #[.val (.ref a1), .val (.int p1), .val (.int p2), .val (.int p3)] [])) (fun t k => castTop (ef_1 m (a1) (p1) (p2) (p3)) k) ?_
  refine own_st (B := s₁.setTop (mkF m 1 #[.val (.ref a1), .val (.int p1), .val (.int p2), .val (.int p3)] [(.int p1)])) (fun t k => XS.iloadN X0.here hx rfl (hb hby d1_0) rfl k) ?_
  refine own_st (B := s₁.setTop (mkF m 2 #[.val (.ref a1), .val (.int p1), .val (.int p2), .val (.int p3)] [(.int p2), (.int p1)])) (fun t k => XS.iloadN X0.here hx rfl (hb hby d1_1) rfl k) ?_
  by_cases hc1 : p1 = p2
  · refine own_st (B := s₁.setTop (mkF m 5 #[.val (.ref a1), .val (.int p1), .val (.int p2), .val (.int p3)] [])) (fun t k => XS.icmpNo X0.here hx rfl (hb hby d1_2) rfl (XT.ii_ne_f hc1) k) ?_
    refine own_st (B := s₁.setTop (mkF m 6 #[.val (.ref a1), .val (.int p1), .val (.int p2), .val (.int p3)] [(.int p3)])) (fun t k => XS.iloadN X0.here hx rfl (hb hby d1_5) rfl k) ?_
    refine own_retN X0 hx hlk (t := .char) Bd.returns (by simp) (z' := p3) (own_narC hch) (hb hby d1_6) (by decide) (by decide) ?_
    show Q1 Z a1 p1 p2 p3 b1 bs cs u1 h0 n0 _ s₁.heap _
    rw [e0]
    exact ⟨p3, rfl, N0, rfl, hch⟩
  · refine own_st (B := s₁.setTop (mkF m 7 #[.val (.ref a1), .val (.int p1), .val (.int p2), .val (.int p3)] [])) (fun t k => XS.icmpYes X0.here hx rfl (pc0 := 2) (pc' := 7) rfl (hb hby d1_2) rfl (XT.ii_ne_t hc1) (by decide) (by decide) k) ?_
    refine own_st (B := s₁.setTop (mkF m 8 #[.val (.ref a1), .val (.int p1), .val (.int p2), .val (.int p3)] [(.int p1)])) (fun t k => XS.iloadN X0.here hx rfl (hb hby d1_7) rfl k) ?_
    refine own_st (B := s₁.setTop (mkF m 9 #[.val (.ref a1), .val (.int p1), .val (.int p2), .val (.int p3)] [(.ref a1), (.int p1)])) (fun t k => XS.aloadN X0.here hx rfl (hb hby d1_8) rfl rfl k) ?_
    obtain ⟨cq2, kq2, q2a, q2b, q2c⟩ := isOf hZ e0 F0
    obtain ⟨_, _, ⟨T2, L2, k2, j2⟩, -, X2, ⟨Lc2, hQ2, l2, y2_, z2_⟩, st2⟩ := X0.virtualBack hx (y := (⟨"java/lang/String", "length", "()I"⟩ : MethodName)) (z := (⟨"java/lang/String", "length", "()I"⟩ : MethodName)) hown (mvT hZ (w_15 hw)) (mvT hZ (w_16 hw)) (notFace_of_selects (args := #[]) (mvT hZ (w_18 hw))) (mvT hZ (w_18 hw)) (mvT hZ (w_17 hw)) (by decide) (backOf (W := 1) (rm2 l Z a0 hw [] a1 b1 bs cs h0 n0 Z0 F0 F1 F2 F3 F4 hbn hcs) hZ (w_19 hw) (w_1 hw) (by decide) (by decide)) q2a q2c (g := (mkF m 9 #[.val (.ref a1), .val (.int p1), .val (.int p2), .val (.int p3)] [(.ref a1), (.int p1)])) rfl (by rw [hml]; rfl) (Steps.refl _) (argsL := []) (rest := [(.int p1)]) (lenOf own_pd8 rfl) rfl (by show 2 * 0 + _ ≤ _; exact Nat.le_of_eq rfl) (hb hby d1_9) (fun _ _ => ⟨rfl, e0, (by decide : 0 + 0 ≤ _), (by decide : 0 + 0 ≤ _)⟩)
    dsimp only [Pt.U, Pt.locs, Pt.cells, Pt.slots] at X2 l2 y2_ z2_ st2 hQ2
    subst l2 y2_ z2_
    obtain ⟨rfl, N2q, e2q⟩ := hQ2
    have N2 := Fr.app N0 N2q
    refine own_ss (B := T2.setTop (mkF m 12 #[.val (.ref a1), .val (.int p1), .val (.int p2), .val (.int p3)] [(.int (bs.length.toInt32)), (.int p1)])) st2 ?_
    by_cases hc3 : p1 < (bs.length.toInt32)
    · refine own_st (B := T2.setTop (mkF m 15 #[.val (.ref a1), .val (.int p1), .val (.int p2), .val (.int p3)] [])) (fun t k => XS.icmpNo X2.here hx rfl (hb hby d1_12) rfl (XT.ii_ge_f hc3) k) ?_
      refine own_st (B := T2.setTop (mkF m 16 #[.val (.ref a1), .val (.int p1), .val (.int p2), .val (.int p3)] [(.ref a1)])) (fun t k => XS.aloadN X2.here hx rfl (hb hby d1_15) rfl rfl k) ?_
      refine own_st (B := T2.setTop (mkF m 17 #[.val (.ref a1), .val (.int p1), .val (.int p2), .val (.int p3)] [(.int p1), (.ref a1)])) (fun t k => XS.iloadN X2.here hx rfl (hb hby d1_16) rfl k) ?_
      obtain ⟨cq4, kq4, q4a, q4b, q4c⟩ := isOf hZ e2q F0
      obtain ⟨_, _, ⟨T4, L4, k4, j4⟩, -, X4, ⟨Lc4, hQ4, l4, y4_, z4_⟩, st4⟩ := X2.virtualBack hx (y := (⟨"java/lang/String", "charAt", "(I)C"⟩ : MethodName)) (z := (⟨"java/lang/String", "charAt", "(I)C"⟩ : MethodName)) hown (mvT hZ (w_28 hw)) (mvT hZ (w_29 hw)) (notFace_of_selects (args := #[]) (mvT hZ (w_31 hw))) (mvT hZ (w_31 hw)) (mvT hZ (w_30 hw)) (by decide) (backOf (W := 0) (rm4 l Z a0 hw [] a1 p1 b1 bs cs u1 h0 n0 Z0 F0 F1 F2 F3 F4 F5 ⟨hge, by have h9 := Int32.lt_iff_toInt_lt.mp hc3; rw [len_toInt (by omega)] at h9; exact h9⟩ hbn hcs hu) hZ (w_32 hw) (w_1 hw) (by decide) (by decide)) q4a q4c (g := (mkF m 17 #[.val (.ref a1), .val (.int p1), .val (.int p2), .val (.int p3)] [(.int p1), (.ref a1)])) rfl (by rw [hml]; rfl) (Steps.refl _) (argsL := [(.int p1)]) (rest := []) (lenOf own_pd9 rfl) rfl (by show 2 * 0 + _ ≤ _; exact Nat.le_of_eq rfl) (hb hby d1_17) (fun _ _ => ⟨rfl, e2q, (by decide : 0 + 0 ≤ _), (by decide : 0 + 0 ≤ _)⟩)
      dsimp only [Pt.U, Pt.locs, Pt.cells, Pt.slots] at X4 l4 y4_ z4_ st4 hQ4
      subst l4 y4_ z4_
      obtain ⟨zc_4, rfl, N4q, e4q, r4_0⟩ := hQ4
      have N4 := Fr.app N2 N4q
      refine own_ss (B := T4.setTop (mkF m 20 #[.val (.ref a1), .val (.int p1), .val (.int p2), .val (.int p3)] [(.int zc_4)])) st4 ?_
      refine own_retN X4 hx hlk (t := .char) Bd.returns (by simp) (z' := zc_4) (own_narC r4_0) (hb hby d1_20) (by decide) (by decide) ?_
      show Q1 Z a1 p1 p2 p3 b1 bs cs u1 h0 n0 _ T4.heap _
      rw [e4q]
      exact ⟨zc_4, rfl, N4, rfl, r4_0⟩
    · refine own_st (B := T2.setTop (mkF m 21 #[.val (.ref a1), .val (.int p1), .val (.int p2), .val (.int p3)] [])) (fun t k => XS.icmpYes X2.here hx rfl (pc0 := 12) (pc' := 21) rfl (hb hby d1_12) rfl (XT.ii_ge_t hc3) (by decide) (by decide) k) ?_
      refine own_st (B := T2.setTop (mkF m 22 #[.val (.ref a1), .val (.int p1), .val (.int p2), .val (.int p3)] [(.int p3)])) (fun t k => XS.iloadN X2.here hx rfl (hb hby d1_21) rfl k) ?_
      refine own_retN X2 hx hlk (t := .char) Bd.returns (by simp) (z' := p3) (own_narC hch) (hb hby d1_22) (by decide) (by decide) ?_
      show Q1 Z a1 p1 p2 p3 b1 bs cs u1 h0 n0 _ T2.heap _
      rw [e2q]
      exact ⟨p3, rfl, N2, rfl, hch⟩
theorem own_pn5 : plainName "java/lang/StringUTF16" = true := by first | (simp [plainName, overriddenIn]; done) | decide +kernel
theorem d14_0 : decode jdk_52_method_15_code 0 = .ok (.iload_n 1, 1) := by decide +kernel
theorem d14_1 : decode jdk_52_method_15_code 1 = .ok (.aload_n 0, 1) := by decide +kernel
theorem d14_2 : decode jdk_52_method_15_code 2 = .ok (.arraylength, 1) := by decide +kernel
theorem d14_3 : decode jdk_52_method_15_code 3 = .ok (.isub, 1) := by decide +kernel
theorem d14_4 : decode jdk_52_method_15_code 4 = .ok (.bipush 31, 2) := by decide +kernel
theorem d14_6 : decode jdk_52_method_15_code 6 = .ok (.iushr, 1) := by decide +kernel
theorem d14_7 : decode jdk_52_method_15_code 7 = .ok (.i2b, 1) := by decide +kernel
theorem d14_8 : decode jdk_52_method_15_code 8 = .ok (.ireturn, 1) := by decide +kernel
theorem ef_14 (m : MethodId) (x0 : Addr) (x1 : Int32) : entryFrame m #[(.ref x0), (.int x1)] 2 = mkF m 0 #[.val (.ref x0), .val (.int x1)] [] := by first | (simp [entryFrame, mkF, argsToLocals, Value.category]; done) | rfl
def Q14 (Z : State) (a1 : Addr) (p1 : Int32) (bs : List Int32) (h0 : Heap) (n0 : Nat) (v : Option Value) (h : Heap) (L : List Loc) : Prop := v = some (.int (0 : Int32)) ∧ Fr n0 L ∧ h = h0
set_option maxHeartbeats 40000000 in
theorem rm14 (l : Launch) (Z : State) (a0 : Array Value) (hw : ∀ d ∈ tables_1, d.before a0 Z = true) (ws : List Jvm.Cond) (a1 : Addr) (p1 : Int32) (bs : List Int32) (h0 : Heap) (n0 : Nat) (Z0 : n0 ≤ h0.size) (F0 : own_A Z h0 a1 .byte (bs.map Value.int)) (hl : p1.toInt = (bs.length : Int)) :
    MetFree l (⟨"java/lang/StringUTF16", "coderFromArrayLen", "([BI)B"⟩ : MethodName) (head1 (Jvm.Cond.code (⟨"java/lang/StringUTF16", "coderFromArrayLen", "([BI)B"⟩ : MethodName) jdk_52_method_15_code 2 (some .byte) :: ws) ({ frames := 0, cells := 0, slots := 0, locals := 0 } : Room)) (fun a U => a = #[(.ref a1), (.int p1)] ∧ Z.Warmed39 U.vm ∧ U.heap = h0) (fun _ _ _ _ _ => True) (fun _ U o U' => ∃ v L, o = .returned v ∧ Q14 Z a1 p1 bs h0 n0 v U'.heap L ∧ FrameEnd U o U' L ({ frames := 0, cells := 0, slots := 0, locals := 0 } : Room).cells ({ frames := 0, cells := 0, slots := 0, locals := 0 } : Room).slots) := by
  refine MetFree.of_bodySF (plainFor_of_name own_pn5) hisR ?_
  intro p e s m args below meth c s₁ Bd hml0 hP hK
  obtain ⟨rfl, hZ, hh⟩ := hP
  have hx := Bd.exec
  have hby := Bd.bytes
  have hml : c.maxLocals = 2 := hml0
  have hlk : meth.locks = false := BodyLoose.notSynchronized Bd
  have hown : s.vm.findClass "java/lang/StringUTF16" = some m.cls := findClass_of_methodNamed Bd.named
  have hnm := (name_of_methodNamed Bd.named Bd.method).1
  have X0 : Stand p l e ({ frames := 0, cells := 0, slots := 0, locals := 0 } : Room) s m #[(.ref a1), (.int p1)] below meth c s₁ [] 0 0 := Stand.of_body Bd
  have e0 : s₁.heap = h0 := by rw [← hh, Bd.state]; rfl
  have N0 := Fr.nil n0
  show own_Go p e below s (Q14 Z a1 p1 bs h0 n0) ({ frames := 0, cells := 0, slots := 0, locals := 0 } : Room).cells ({ frames := 0, cells := 0, slots := 0, locals := 0 } : Room).slots _
  refine own_st (B := s₁.setTop (mkF m 0 #[.val (.ref a1), .val (.int p1)] [])) (fun t k => castTop (ef_14 m (a1) (p1)) k) ?_
  refine own_st (B := s₁.setTop (mkF m 1 #[.val (.ref a1), .val (.int p1)] [(.int p1)])) (fun t k => XS.iloadN X0.here hx rfl (hb hby d14_0) rfl k) ?_
  refine own_st (B := s₁.setTop (mkF m 2 #[.val (.ref a1), .val (.int p1)] [(.ref a1), (.int p1)])) (fun t k => XS.aloadN X0.here hx rfl (hb hby d14_1) rfl rfl k) ?_
  refine own_st (B := s₁.setTop (mkF m 3 #[.val (.ref a1), .val (.int p1)] [(.int p1), (.int p1)])) (fun t k => own_len X0 hx hZ e0 F0 (g := (mkF m 2 #[.val (.ref a1), .val (.int p1)] [(.ref a1), (.int p1)])) (n := p1) (by rw [List.length_map]; exact hl) rfl rfl (hb hby d14_2) k) ?_
  refine own_st (B := s₁.setTop (mkF m 4 #[.val (.ref a1), .val (.int p1)] [(.int (p1 - p1))])) (fun t k => XS.isub X0.here hx rfl (hb hby d14_3) rfl k) ?_
  refine own_st (B := s₁.setTop (mkF m 6 #[.val (.ref a1), .val (.int p1)] [(.int (31 : Int32)), (.int (p1 - p1))])) (fun t k => XS.bipush X0.here hx rfl (hb hby d14_4) k) ?_
  refine own_st (B := s₁.setTop (mkF m 7 #[.val (.ref a1), .val (.int p1)] [(.int (((p1 - p1).toUInt32 >>> ((31 : Int32) &&& 31).toUInt32).toInt32))])) (fun t k => XS.iushr X0.here hx rfl (hb hby d14_6) rfl k) ?_
  refine own_st (B := s₁.setTop (mkF m 8 #[.val (.ref a1), .val (.int p1)] [(.int ((((p1 - p1).toUInt32 >>> ((31 : Int32) &&& 31).toUInt32).toInt32).toInt8.toInt32))])) (fun t k => XS.i2b X0.here hx rfl (hb hby d14_7) rfl k) ?_
  refine own_retN X0 hx hlk (t := .byte) Bd.returns (by simp) (z' := ((((p1 - p1).toUInt32 >>> ((31 : Int32) &&& 31).toUInt32).toInt32).toInt8.toInt32)) (own_codn _) (hb hby d14_8) (by decide) (by decide) ?_
  show Q14 Z a1 p1 bs h0 n0 _ s₁.heap _
  rw [e0]
  exact ⟨(congrArg (fun q => some (Value.int q)) (own_cod _)), N0, rfl⟩
theorem d13_0 : decode jdk_52_method_21_code 0 = .ok (.iconst 0, 1) := by decide +kernel
theorem d13_1 : decode jdk_52_method_21_code 1 = .ok (.istore 5, 2) := by decide +kernel
theorem d13_3 : decode jdk_52_method_21_code 3 = .ok (.iload 5, 2) := by decide +kernel
theorem d13_5 : decode jdk_52_method_21_code 5 = .ok (.iload 4, 2) := by decide +kernel
theorem d13_7 : decode jdk_52_method_21_code 7 = .ok (.if_icmp .ge 37, 3) := by decide +kernel
theorem d13_10 : decode jdk_52_method_21_code 10 = .ok (.aload_n 0, 1) := by decide +kernel
theorem d13_11 : decode jdk_52_method_21_code 11 = .ok (.iload_n 1, 1) := by decide +kernel
theorem d13_12 : decode jdk_52_method_21_code 12 = .ok (.caload, 1) := by decide +kernel
theorem d13_13 : decode jdk_52_method_21_code 13 = .ok (.istore 6, 2) := by decide +kernel
theorem d13_15 : decode jdk_52_method_21_code 15 = .ok (.iload 6, 2) := by decide +kernel
theorem d13_17 : decode jdk_52_method_21_code 17 = .ok (.sipush 255, 3) := by decide +kernel
theorem d13_20 : decode jdk_52_method_21_code 20 = .ok (.if_icmp .le 6, 3) := by decide +kernel
theorem d13_26 : decode jdk_52_method_21_code 26 = .ok (.aload_n 2, 1) := by decide +kernel
theorem d13_27 : decode jdk_52_method_21_code 27 = .ok (.iload_n 3, 1) := by decide +kernel
theorem d13_28 : decode jdk_52_method_21_code 28 = .ok (.iload 6, 2) := by decide +kernel
theorem d13_30 : decode jdk_52_method_21_code 30 = .ok (.i2b, 1) := by decide +kernel
theorem d13_31 : decode jdk_52_method_21_code 31 = .ok (.bastore, 1) := by decide +kernel
theorem d13_32 : decode jdk_52_method_21_code 32 = .ok (.iinc 1 1, 3) := by decide +kernel
theorem d13_35 : decode jdk_52_method_21_code 35 = .ok (.iinc 3 1, 3) := by decide +kernel
theorem d13_38 : decode jdk_52_method_21_code 38 = .ok (.iinc 5 1, 3) := by decide +kernel
theorem d13_41 : decode jdk_52_method_21_code 41 = .ok (.goto (-38), 3) := by decide +kernel
theorem d13_44 : decode jdk_52_method_21_code 44 = .ok (.iload 4, 2) := by decide +kernel
theorem d13_46 : decode jdk_52_method_21_code 46 = .ok (.ireturn, 1) := by decide +kernel
theorem ef_13 (m : MethodId) (x0 : Addr) (x1 : Int32) (x2 : Addr) (x3 : Int32) (x4 : Int32) : entryFrame m #[(.ref x0), (.int x1), (.ref x2), (.int x3), (.int x4)] 7 = mkF m 0 #[.val (.ref x0), .val (.int x1), .val (.ref x2), .val (.int x3), .val (.int x4), .unset, .unset] [] := by first | (simp [entryFrame, mkF, argsToLocals, Value.category]; done) | rfl
def Q13 (Z : State) (a1 : Addr) (a2 : Addr) (p1 : Int32) (vs : List Int32) (ys : List Int32) (h0 : Heap) (n0 : Nat) (v : Option Value) (h : Heap) (L : List Loc) : Prop := ∃ (bs : List Int32), v = some (.int p1) ∧ Fr n0 L ∧ Keep h0 h [a2] ∧ own_A Z h a2 .byte (bs.map Value.int) ∧ (bs.length = vs.length)
set_option maxHeartbeats 40000000 in
theorem rm13 (l : Launch) (Z : State) (a0 : Array Value) (hw : ∀ d ∈ tables_1, d.before a0 Z = true) (ws : List Jvm.Cond) (a1 : Addr) (a2 : Addr) (p1 : Int32) (vs : List Int32) (ys : List Int32) (h0 : Heap) (n0 : Nat) (Z0 : n0 ≤ h0.size) (F0 : own_A Z h0 a1 .char (vs.map Value.int)) (F1 : own_A Z h0 a2 .byte (ys.map Value.int)) (na : a1 ≠ a2) (ga : n0 ≤ a2) (hp : p1.toInt = (vs.length : Int)) (hvl : vs.length ≤ 16) (hvb : own_bnd vs) (hys : ys.length = vs.length) :
    MetFree l (⟨"java/lang/StringUTF16", "compress", "([CI[BII)I"⟩ : MethodName) (head1 (Jvm.Cond.code (⟨"java/lang/StringUTF16", "compress", "([CI[BII)I"⟩ : MethodName) jdk_52_method_21_code 7 (some .int) :: ws) ({ frames := 0, cells := 0, slots := 0, locals := 0 } : Room)) (fun a U => a = #[(.ref a1), (.int (0 : Int32)), (.ref a2), (.int (0 : Int32)), (.int p1)] ∧ Z.Warmed39 U.vm ∧ U.heap = h0) (fun _ _ _ _ _ => True) (fun _ U o U' => ∃ v L, o = .returned v ∧ Q13 Z a1 a2 p1 vs ys h0 n0 v U'.heap L ∧ FrameEnd U o U' L ({ frames := 0, cells := 0, slots := 0, locals := 0 } : Room).cells ({ frames := 0, cells := 0, slots := 0, locals := 0 } : Room).slots) := by
  refine MetFree.of_bodySF (plainFor_of_name own_pn5) hisR ?_
  intro p e s m args below meth c s₁ Bd hml0 hP hK
  obtain ⟨rfl, hZ, hh⟩ := hP
  have hx := Bd.exec
  have hby := Bd.bytes
  have hml : c.maxLocals = 7 := hml0
  have hlk : meth.locks = false := BodyLoose.notSynchronized Bd
  have hown : s.vm.findClass "java/lang/StringUTF16" = some m.cls := findClass_of_methodNamed Bd.named
  have hnm := (name_of_methodNamed Bd.named Bd.method).1
  have X0 : Stand p l e ({ frames := 0, cells := 0, slots := 0, locals := 0 } : Room) s m #[(.ref a1), (.int (0 : Int32)), (.ref a2), (.int (0 : Int32)), (.int p1)] below meth c s₁ [] 0 0 := Stand.of_body Bd
  have e0 : s₁.heap = h0 := by rw [← hh, Bd.state]; rfl
  have N0 := Fr.nil n0
  show own_Go p e below s (Q13 Z a1 a2 p1 vs ys h0 n0) ({ frames := 0, cells := 0, slots := 0, locals := 0 } : Room).cells ({ frames := 0, cells := 0, slots := 0, locals := 0 } : Room).slots _
  refine own_st (B := s₁.setTop (mkF m 0 #[.val (.ref a1), .val (.int (0 : Int32)), .val (.ref a2), .val (.int (0 : Int32)), .val (.int p1), .unset, .unset] [])) (fun t k => castTop (ef_13 m (a1) ((0 : Int32)) (a2) ((0 : Int32)) (p1)) k) ?_
  refine own_st (B := s₁.setTop (mkF m 1 #[.val (.ref a1), .val (.int (0 : Int32)), .val (.ref a2), .val (.int (0 : Int32)), .val (.int p1), .unset, .unset] [(.int (0 : Int32))])) (fun t k => XS.iconst X0.here hx rfl (hb hby d13_0) k) ?_
  refine own_st (B := s₁.setTop (mkF m 3 #[.val (.ref a1), .val (.int (0 : Int32)), .val (.ref a2), .val (.int (0 : Int32)), .val (.int p1), .val (.int (0 : Int32)), .unset] [])) (fun t k => XS.istore X0.here hx rfl (hb hby d13_1) rfl (l' := #[.val (.ref a1), .val (.int (0 : Int32)), .val (.ref a2), .val (.int (0 : Int32)), .val (.int p1), .val (.int (0 : Int32)), .unset]) rfl k) ?_
  refine own_cut (P := ∀ (mu1 : Nat) (T1 : State) (lo1 : List Loc) (h1 : Heap) (ia : Int32) (ib : Int32) (i : Int32) (s6_3 : Slot) (zs : List Int32), Stand p l e ({ frames := 0, cells := 0, slots := 0, locals := 0 } : Room) s m #[(.ref a1), (.int (0 : Int32)), (.ref a2), (.int (0 : Int32)), (.int p1)] below meth c T1 lo1 0 0 → T1.heap = h1 → Fr n0 lo1 → n0 ≤ h1.size → Keep h0 h1 [a2] → own_A Z h1 a1 .char (vs.map Value.int) → own_A Z h1 a2 .byte (zs.map Value.int) → One s6_3 → mu1 = ((vs.length : Int) - i.toInt).toNat → (0 ≤ i.toInt ∧ i.toInt ≤ (vs.length : Int)) → (ia = i) → (ib = i) → (zs.length = vs.length) → own_Go p e below s (Q13 Z a1 a2 p1 vs ys h0 n0) ({ frames := 0, cells := 0, slots := 0, locals := 0 } : Room).cells ({ frames := 0, cells := 0, slots := 0, locals := 0 } : Room).slots (T1.setTop (mkF m 3 #[.val (.ref a1), .val (.int ia), .val (.ref a2), .val (.int ib), .val (.int p1), .val (.int i), s6_3] []))) (fun J1 => ?_) ?_
  · exact J1 _ s₁ _ _ (0 : Int32) (0 : Int32) (0 : Int32) .unset ys X0 e0 N0 Z0 (Keep.refl h0 [a2]) F0 F1 One.u rfl (show 0 ≤ (0 : Int32).toInt ∧ (0 : Int32).toInt ≤ (vs.length : Int) by have h9 : (0 : Int32).toInt = 0 := rfl; omega) (show (0 : Int32) = (0 : Int32) by rfl) (show (0 : Int32) = (0 : Int32) by rfl) (show ys.length = vs.length by exact hys)
  intro mu1
  induction mu1 using Nat.strongRecOn with
  | ind mu1 ih1 =>
    intro T1 lo1 h1 ia ib i s6_3 zs X1 e1 N1 z1 kp1 lf1_0 lf1_1 hs6_3 hmu1 hi hia hib hzs
    refine own_st (B := T1.setTop (mkF m 5 #[.val (.ref a1), .val (.int ia), .val (.ref a2), .val (.int ib), .val (.int p1), .val (.int i), s6_3] [(.int i)])) (fun t k => XS.iload X1.here hx rfl (hb hby d13_3) rfl k) ?_
    refine own_st (B := T1.setTop (mkF m 7 #[.val (.ref a1), .val (.int ia), .val (.ref a2), .val (.int ib), .val (.int p1), .val (.int i), s6_3] [(.int p1), (.int i)])) (fun t k => XS.iload X1.here hx rfl (hb hby d13_5) rfl k) ?_
    by_cases hc2 : i < p1
    · refine own_st (B := T1.setTop (mkF m 10 #[.val (.ref a1), .val (.int ia), .val (.ref a2), .val (.int ib), .val (.int p1), .val (.int i), s6_3] [])) (fun t k => XS.icmpNo X1.here hx rfl (hb hby d13_7) rfl (XT.ii_ge_f hc2) k) ?_
      refine own_st (B := T1.setTop (mkF m 11 #[.val (.ref a1), .val (.int ia), .val (.ref a2), .val (.int ib), .val (.int p1), .val (.int i), s6_3] [(.ref a1)])) (fun t k => XS.aloadN X1.here hx rfl (hb hby d13_10) rfl rfl k) ?_
      refine own_st (B := T1.setTop (mkF m 12 #[.val (.ref a1), .val (.int ia), .val (.ref a2), .val (.int ib), .val (.int p1), .val (.int i), s6_3] [(.int ia), (.ref a1)])) (fun t k => XS.iloadN X1.here hx rfl (hb hby d13_11) rfl k) ?_
      refine own_st (B := T1.setTop (mkF m 13 #[.val (.ref a1), .val (.int ia), .val (.ref a2), .val (.int ib), .val (.int p1), .val (.int i), s6_3] [(.int (vs.getD i.toInt.toNat 0))])) (fun t k => own_ldC X1 hx hZ e1 lf1_0 (g := (mkF m 12 #[.val (.ref a1), .val (.int ia), .val (.ref a2), .val (.int ib), .val (.int p1), .val (.int i), s6_3] [(.int ia), (.ref a1)])) (i := (i.toInt.toNat)) (by rw [hia]; exact own_nat (by omega)) (own_getI (by have h9 := Int32.lt_iff_toInt_lt.mp hc2; omega)) rfl rfl (hb hby d13_12) k) ?_
      refine own_st (B := T1.setTop (mkF m 15 #[.val (.ref a1), .val (.int ia), .val (.ref a2), .val (.int ib), .val (.int p1), .val (.int i), .val (.int (vs.getD i.toInt.toNat 0))] [])) (fun t k => XS.istoreS X1.here hx rfl (hb hby d13_13) rfl rfl hs6_3 k) ?_
      refine own_st (B := T1.setTop (mkF m 17 #[.val (.ref a1), .val (.int ia), .val (.ref a2), .val (.int ib), .val (.int p1), .val (.int i), .val (.int (vs.getD i.toInt.toNat 0))] [(.int (vs.getD i.toInt.toNat 0))])) (fun t k => XS.iload X1.here hx rfl (hb hby d13_15) rfl k) ?_
      refine own_st (B := T1.setTop (mkF m 20 #[.val (.ref a1), .val (.int ia), .val (.ref a2), .val (.int ib), .val (.int p1), .val (.int i), .val (.int (vs.getD i.toInt.toNat 0))] [(.int (255 : Int32)), (.int (vs.getD i.toInt.toNat 0))])) (fun t k => XS.sipush X1.here hx rfl (hb hby d13_17) k) ?_
      have hc3 : ¬ ((255 : Int32) < (vs.getD i.toInt.toNat 0)) := by
        exact hvb _ (by have h9 := Int32.lt_iff_toInt_lt.mp hc2; omega)
      refine own_st (B := T1.setTop (mkF m 26 #[.val (.ref a1), .val (.int ia), .val (.ref a2), .val (.int ib), .val (.int p1), .val (.int i), .val (.int (vs.getD i.toInt.toNat 0))] [])) (fun t k => XS.icmpYes X1.here hx rfl (pc0 := 20) (pc' := 26) rfl (hb hby d13_20) rfl (XT.ii_le_t hc3) (by decide) (by decide) k) ?_
      refine own_st (B := T1.setTop (mkF m 27 #[.val (.ref a1), .val (.int ia), .val (.ref a2), .val (.int ib), .val (.int p1), .val (.int i), .val (.int (vs.getD i.toInt.toNat 0))] [(.ref a2)])) (fun t k => XS.aloadN X1.here hx rfl (hb hby d13_26) rfl rfl k) ?_
      refine own_st (B := T1.setTop (mkF m 28 #[.val (.ref a1), .val (.int ia), .val (.ref a2), .val (.int ib), .val (.int p1), .val (.int i), .val (.int (vs.getD i.toInt.toNat 0))] [(.int ib), (.ref a2)])) (fun t k => XS.iloadN X1.here hx rfl (hb hby d13_27) rfl k) ?_
      refine own_st (B := T1.setTop (mkF m 30 #[.val (.ref a1), .val (.int ia), .val (.ref a2), .val (.int ib), .val (.int p1), .val (.int i), .val (.int (vs.getD i.toInt.toNat 0))] [(.int (vs.getD i.toInt.toNat 0)), (.int ib), (.ref a2)])) (fun t k => XS.iload X1.here hx rfl (hb hby d13_28) rfl k) ?_
      refine own_st (B := T1.setTop (mkF m 31 #[.val (.ref a1), .val (.int ia), .val (.ref a2), .val (.int ib), .val (.int p1), .val (.int i), .val (.int (vs.getD i.toInt.toNat 0))] [(.int ((vs.getD i.toInt.toNat 0).toInt8.toInt32)), (.int ib), (.ref a2)])) (fun t k => XS.i2b X1.here hx rfl (hb hby d13_30) rfl k) ?_
      obtain ⟨T4, h4, X4, e4, W4, A4, st4⟩ := own_stB X1 hx hZ e1 lf1_1 (j := ib) (x := ((vs.getD i.toInt.toNat 0).toInt8.toInt32)) (i := (i.toInt.toNat)) (by rw [hib]; exact own_nat (by omega)) (by rw [List.length_map]; have h9 := Int32.lt_iff_toInt_lt.mp hc2; omega) (g := (mkF m 31 #[.val (.ref a1), .val (.int ia), .val (.ref a2), .val (.int ib), .val (.int p1), .val (.int i), .val (.int (vs.getD i.toInt.toNat 0))] [(.int ((vs.getD i.toInt.toNat 0).toInt8.toInt32)), (.int ib), (.ref a2)])) rfl rfl (hb hby d13_31)
      have f4_ : own_A Z h4 a2 .byte ((zs.map Value.int).set (i.toInt.toNat) (.int (((vs.getD i.toInt.toNat 0).toInt8.toInt32).toInt8.toInt32))) := A4
      have z5 : n0 ≤ h4.size := Nat.le_trans z1 (Keep.of_wr W4).1
      have kp5 : Keep h0 h4 [a2] := kp1.wr W4 (Or.inl (List.mem_of_getElem? (i := 0) rfl))
      have n6 := Fr.snoc X4 N1 ga
      refine own_st (B := T4.setTop (mkF m 32 #[.val (.ref a1), .val (.int ia), .val (.ref a2), .val (.int ib), .val (.int p1), .val (.int i), .val (.int (vs.getD i.toInt.toNat 0))] [])) (fun t k => st4 t k) ?_
      refine own_st (B := T4.setTop (mkF m 35 #[.val (.ref a1), .val (.int (ia + (1 : Int32))), .val (.ref a2), .val (.int ib), .val (.int p1), .val (.int i), .val (.int (vs.getD i.toInt.toNat 0))] [])) (fun t k => XS.iinc X4.here hx rfl (hb hby d13_32) rfl (l' := #[.val (.ref a1), .val (.int (ia + (1 : Int32))), .val (.ref a2), .val (.int ib), .val (.int p1), .val (.int i), .val (.int (vs.getD i.toInt.toNat 0))]) rfl k) ?_
      refine own_st (B := T4.setTop (mkF m 38 #[.val (.ref a1), .val (.int (ia + (1 : Int32))), .val (.ref a2), .val (.int (ib + (1 : Int32))), .val (.int p1), .val (.int i), .val (.int (vs.getD i.toInt.toNat 0))] [])) (fun t k => XS.iinc X4.here hx rfl (hb hby d13_35) rfl (l' := #[.val (.ref a1), .val (.int (ia + (1 : Int32))), .val (.ref a2), .val (.int (ib + (1 : Int32))), .val (.int p1), .val (.int i), .val (.int (vs.getD i.toInt.toNat 0))]) rfl k) ?_
      refine own_st (B := T4.setTop (mkF m 41 #[.val (.ref a1), .val (.int (ia + (1 : Int32))), .val (.ref a2), .val (.int (ib + (1 : Int32))), .val (.int p1), .val (.int (i + (1 : Int32))), .val (.int (vs.getD i.toInt.toNat 0))] [])) (fun t k => XS.iinc X4.here hx rfl (hb hby d13_38) rfl (l' := #[.val (.ref a1), .val (.int (ia + (1 : Int32))), .val (.ref a2), .val (.int (ib + (1 : Int32))), .val (.int p1), .val (.int (i + (1 : Int32))), .val (.int (vs.getD i.toInt.toNat 0))]) rfl k) ?_
      refine own_st (B := T4.setTop (mkF m 3 #[.val (.ref a1), .val (.int (ia + (1 : Int32))), .val (.ref a2), .val (.int (ib + (1 : Int32))), .val (.int p1), .val (.int (i + (1 : Int32))), .val (.int (vs.getD i.toInt.toNat 0))] [])) (fun t k => XS.goto X4.here hx rfl (pc0 := 41) (pc' := 3) rfl (hb hby d13_41) (by decide) (by decide) k) ?_
      have hlt := Int32.lt_iff_toInt_lt.mp hc2
      have hi1 : (i + (1 : Int32)).toInt = i.toInt + 1 := by have h1 := c_iadd i 1; have h2 := rng32 (i + 1); have h3 : (1 : Int32).toInt = 1 := rfl; omega
      have f7 : own_A Z h4 a1 .char (vs.map Value.int) := (lf1_0.other W4 na)
      exact ih1 _ (by rw [hi1]; omega) T4 _ _ ((ia + (1 : Int32))) ((ib + (1 : Int32))) ((i + (1 : Int32))) (.val (.int (vs.getD i.toInt.toNat 0))) ((zs.set (i.toInt.toNat) (((vs.getD i.toInt.toNat 0).toInt8.toInt32).toInt8.toInt32))) X4 e4 n6 z5 kp5 f7 (by rw [← own_set_map]; exact f4_) (One.val rfl) rfl (show 0 ≤ (i + (1 : Int32)).toInt ∧ (i + (1 : Int32)).toInt ≤ (vs.length : Int) by rw [hi1]; omega) (show (ia + (1 : Int32)) = (i + (1 : Int32)) by rw [hia]) (show (ib + (1 : Int32)) = (i + (1 : Int32)) by rw [hib]) (show (zs.set (i.toInt.toNat) (((vs.getD i.toInt.toNat 0).toInt8.toInt32).toInt8.toInt32)).length = vs.length by rw [List.length_set]; exact hzs)
    · refine own_st (B := T1.setTop (mkF m 44 #[.val (.ref a1), .val (.int ia), .val (.ref a2), .val (.int ib), .val (.int p1), .val (.int i), s6_3] [])) (fun t k => XS.icmpYes X1.here hx rfl (pc0 := 7) (pc' := 44) rfl (hb hby d13_7) rfl (XT.ii_ge_t hc2) (by decide) (by decide) k) ?_
      refine own_st (B := T1.setTop (mkF m 46 #[.val (.ref a1), .val (.int ia), .val (.ref a2), .val (.int ib), .val (.int p1), .val (.int i), s6_3] [(.int p1)])) (fun t k => XS.iload X1.here hx rfl (hb hby d13_44) rfl k) ?_
      refine own_retI X1 hx hlk Bd.returns (hb hby d13_46) (by decide) (by decide) ?_
      show Q13 Z a1 a2 p1 vs ys h0 n0 _ T1.heap _
      rw [e1]
      exact ⟨zs, rfl, N1, kp1, lf1_1, hzs⟩
theorem own_pd12 : parseMethodDescriptor "([CI[BII)I" = some ⟨[(.array .char), .int, (.array .byte), .int, .int], some .int⟩ := by decide +kernel
theorem d12_0 : decode jdk_52_method_16_code 0 = .ok (.iload_n 2, 1) := by decide +kernel
theorem d12_1 : decode jdk_52_method_16_code 1 = .ok (.newarray .byte, 2) := by decide +kernel
theorem d12_3 : decode jdk_52_method_16_code 3 = .ok (.astore_n 3, 1) := by decide +kernel
theorem d12_4 : decode jdk_52_method_16_code 4 = .ok (.aload_n 0, 1) := by decide +kernel
theorem d12_5 : decode jdk_52_method_16_code 5 = .ok (.iload_n 1, 1) := by decide +kernel
theorem d12_6 : decode jdk_52_method_16_code 6 = .ok (.aload_n 3, 1) := by decide +kernel
theorem d12_7 : decode jdk_52_method_16_code 7 = .ok (.iconst 0, 1) := by decide +kernel
theorem d12_8 : decode jdk_52_method_16_code 8 = .ok (.iload_n 2, 1) := by decide +kernel
theorem d12_9 : decode jdk_52_method_16_code 9 = .ok (.invokestatic 115, 3) := by decide +kernel
theorem d12_12 : decode jdk_52_method_16_code 12 = .ok (.istore 4, 2) := by decide +kernel
theorem d12_14 : decode jdk_52_method_16_code 14 = .ok (.iload 4, 2) := by decide +kernel
theorem d12_16 : decode jdk_52_method_16_code 16 = .ok (.iload_n 2, 1) := by decide +kernel
theorem d12_17 : decode jdk_52_method_16_code 17 = .ok (.if_icmp .eq 40, 3) := by decide +kernel
theorem d12_57 : decode jdk_52_method_16_code 57 = .ok (.aload_n 3, 1) := by decide +kernel
theorem d12_58 : decode jdk_52_method_16_code 58 = .ok (.areturn, 1) := by decide +kernel
theorem ef_12 (m : MethodId) (x0 : Addr) (x1 : Int32) (x2 : Int32) : entryFrame m #[(.ref x0), (.int x1), (.int x2)] 6 = mkF m 0 #[.val (.ref x0), .val (.int x1), .val (.int x2), .unset, .unset, .unset] [] := by first | (simp [entryFrame, mkF, argsToLocals, Value.category]; done) | rfl
def Q12 (Z : State) (a1 : Addr) (p1 : Int32) (vs : List Int32) (h0 : Heap) (n0 : Nat) (v : Option Value) (h : Heap) (L : List Loc) : Prop := ∃ (b : Addr) (bs : List Int32), v = some (.ref b) ∧ Fr n0 L ∧ Keep h0 h [] ∧ n0 ≤ b ∧ h0.size ≤ b ∧ own_A Z h b .byte (bs.map Value.int) ∧ (bs.length = vs.length)
set_option maxHeartbeats 40000000 in
theorem rm12 (l : Launch) (Z : State) (a0 : Array Value) (hw : ∀ d ∈ tables_1, d.before a0 Z = true) (ws : List Jvm.Cond) (a1 : Addr) (p1 : Int32) (vs : List Int32) (h0 : Heap) (n0 : Nat) (Z0 : n0 ≤ h0.size) (F0 : own_A Z h0 a1 .char (vs.map Value.int)) (hp : p1.toInt = (vs.length : Int)) (hvl : vs.length ≤ 16) (hvb : own_bnd vs) :
    MetFree l (⟨"java/lang/StringUTF16", "compress", "([CII)[B"⟩ : MethodName) (head1 (Jvm.Cond.code (⟨"java/lang/StringUTF16", "compress", "([CII)[B"⟩ : MethodName) jdk_52_method_16_code 6 (some (.array .byte)) :: ws) ({ frames := 1, cells := 1, slots := 16, locals := 18 } : Room)) (fun a U => a = #[(.ref a1), (.int (0 : Int32)), (.int p1)] ∧ Z.Warmed39 U.vm ∧ U.heap = h0) (fun _ _ _ _ _ => True) (fun _ U o U' => ∃ v L, o = .returned v ∧ Q12 Z a1 p1 vs h0 n0 v U'.heap L ∧ FrameEnd U o U' L ({ frames := 1, cells := 1, slots := 16, locals := 18 } : Room).cells ({ frames := 1, cells := 1, slots := 16, locals := 18 } : Room).slots) := by
  refine MetFree.of_bodySF (plainFor_of_name own_pn5) hisR ?_
  intro p e s m args below meth c s₁ Bd hml0 hP hK
  obtain ⟨rfl, hZ, hh⟩ := hP
  have hx := Bd.exec
  have hby := Bd.bytes
  have hml : c.maxLocals = 6 := hml0
  have hlk : meth.locks = false := BodyLoose.notSynchronized Bd
  have hown : s.vm.findClass "java/lang/StringUTF16" = some m.cls := findClass_of_methodNamed Bd.named
  have hnm := (name_of_methodNamed Bd.named Bd.method).1
  have X0 : Stand p l e ({ frames := 1, cells := 1, slots := 16, locals := 18 } : Room) s m #[(.ref a1), (.int (0 : Int32)), (.int p1)] below meth c s₁ [] 0 0 := Stand.of_body Bd
  have e0 : s₁.heap = h0 := by rw [← hh, Bd.state]; rfl
  have N0 := Fr.nil n0
  show own_Go p e below s (Q12 Z a1 p1 vs h0 n0) ({ frames := 1, cells := 1, slots := 16, locals := 18 } : Room).cells ({ frames := 1, cells := 1, slots := 16, locals := 18 } : Room).slots _
  refine own_st (B := s₁.setTop (mkF m 0 #[.val (.ref a1), .val (.int (0 : Int32)), .val (.int p1), .unset, .unset, .unset] [])) (fun t k => castTop (ef_12 m (a1) ((0 : Int32)) (p1)) k) ?_
  refine own_st (B := s₁.setTop (mkF m 1 #[.val (.ref a1), .val (.int (0 : Int32)), .val (.int p1), .unset, .unset, .unset] [(.int p1)])) (fun t k => XS.iloadN X0.here hx rfl (hb hby d12_0) rfl k) ?_
  obtain ⟨T1, h1, X1, e1, E1, A1, x1, st1⟩ := own_newP X0 hx hZ (aty := .byte) (w_3 hw) e0 (g := (mkF m 1 #[.val (.ref a1), .val (.int (0 : Int32)), .val (.int p1), .unset, .unset, .unset] [(.int p1)])) rfl (hb hby d12_1) (n := p1) (rest := []) rfl (k := vs.length) (cap := 16) hp hvl (by decide) (by decide) (by decide) (ad := "[B") rfl
  obtain ⟨b1, g1⟩ : ∃ z, z = h0.size := ⟨_, rfl⟩
  rw [← g1] at A1 x1 st1
  have q1_a1 : a1 ≠ b1 := Nat.ne_of_lt (Nat.lt_of_lt_of_le F0.lt (Nat.le_of_eq g1.symm))
  have u1 : n0 ≤ b1 := Nat.le_trans Z0 (Nat.le_of_eq g1.symm)
  have y1 : h0.size ≤ b1 := Nat.le_trans (Keep.refl h0 []).1 (Nat.le_of_eq g1.symm)
  have z2 : n0 ≤ h1.size := Nat.le_trans Z0 E1.1
  have kp2 : Keep h0 h1 [] := (Keep.refl h0 []).ext E1
  have f1_ : own_A Z h1 b1 .byte (List.replicate vs.length (Value.int (0 : Int32))) := A1
  refine own_st (B := T1.setTop (mkF m 3 #[.val (.ref a1), .val (.int (0 : Int32)), .val (.int p1), .unset, .unset, .unset] [(.ref b1)])) (fun t k => st1 t k) ?_
  refine own_st (B := T1.setTop (mkF m 4 #[.val (.ref a1), .val (.int (0 : Int32)), .val (.int p1), .val (.ref b1), .unset, .unset] [])) (fun t k => XS.astoreN X1.here hx rfl (hb hby d12_3) rfl rfl (l' := #[.val (.ref a1), .val (.int (0 : Int32)), .val (.int p1), .val (.ref b1), .unset, .unset]) rfl k) ?_
  refine own_st (B := T1.setTop (mkF m 5 #[.val (.ref a1), .val (.int (0 : Int32)), .val (.int p1), .val (.ref b1), .unset, .unset] [(.ref a1)])) (fun t k => XS.aloadN X1.here hx rfl (hb hby d12_4) rfl rfl k) ?_
  refine own_st (B := T1.setTop (mkF m 6 #[.val (.ref a1), .val (.int (0 : Int32)), .val (.int p1), .val (.ref b1), .unset, .unset] [(.int (0 : Int32)), (.ref a1)])) (fun t k => XS.iloadN X1.here hx rfl (hb hby d12_5) rfl k) ?_
  refine own_st (B := T1.setTop (mkF m 7 #[.val (.ref a1), .val (.int (0 : Int32)), .val (.int p1), .val (.ref b1), .unset, .unset] [(.ref b1), (.int (0 : Int32)), (.ref a1)])) (fun t k => XS.aloadN X1.here hx rfl (hb hby d12_6) rfl rfl k) ?_
  refine own_st (B := T1.setTop (mkF m 8 #[.val (.ref a1), .val (.int (0 : Int32)), .val (.int p1), .val (.ref b1), .unset, .unset] [(.int (0 : Int32)), (.ref b1), (.int (0 : Int32)), (.ref a1)])) (fun t k => XS.iconst X1.here hx rfl (hb hby d12_7) k) ?_
  refine own_st (B := T1.setTop (mkF m 9 #[.val (.ref a1), .val (.int (0 : Int32)), .val (.int p1), .val (.ref b1), .unset, .unset] [(.int p1), (.int (0 : Int32)), (.ref b1), (.int (0 : Int32)), (.ref a1)])) (fun t k => XS.iloadN X1.here hx rfl (hb hby d12_8) rfl k) ?_
  have fr3 : own_A Z h1 b1 .byte ((List.replicate vs.length (0 : Int32)).map Value.int) := by rw [List.map_replicate]; exact f1_
  have f4 : own_A Z h1 a1 .char (vs.map Value.int) := (F0.ext E1)
  obtain ⟨_, _, ⟨T5, L5, k5, j5⟩, -, X5, ⟨Lc5, hQ5, l5, y5_, z5_⟩, st5⟩ := Jvm.LawKit.callS X1 hx (y := (⟨"java/lang/StringUTF16", "compress", "([CI[BII)I"⟩ : MethodName)) hown (mvT hZ (w_64 hw)) (mvT hZ (w_65 hw)) (mvT hZ (w_62 hw)) (mvT hZ (w_66 hw)) (by decide) (backOf (W := 0) (rm13 l Z a0 hw [] a1 b1 p1 vs (List.replicate vs.length (0 : Int32)) h1 n0 z2 f4 fr3 q1_a1 u1 hp hvl hvb (List.length_replicate ..)) hZ (w_66 hw) (w_62 hw) (by decide) (by decide)) (g := (mkF m 9 #[.val (.ref a1), .val (.int (0 : Int32)), .val (.int p1), .val (.ref b1), .unset, .unset] [(.int p1), (.int (0 : Int32)), (.ref b1), (.int (0 : Int32)), (.ref a1)])) rfl (by rw [hml]; rfl) (argsL := [(.ref a1), (.int (0 : Int32)), (.ref b1), (.int (0 : Int32)), (.int p1)]) (rest := []) (lenOf own_pd12 rfl) rfl (by show 2 * 0 + _ ≤ _; exact Nat.le_of_eq rfl) (hb hby d12_9) (fun _ _ => ⟨rfl, e1, (by decide : 1 + 0 ≤ _), (by decide : 16 + 0 ≤ _)⟩)
  dsimp only [Pt.U, Pt.locs, Pt.cells, Pt.slots] at X5 l5 y5_ z5_ st5 hQ5
  subst l5 y5_ z5_
  obtain ⟨bs_5, rfl, N5q, K5, p5_0, r5_0⟩ := hQ5
  have N5 := Fr.app N0 N5q
  have z6 : n0 ≤ T5.heap.size := Nat.le_trans z2 K5.1
  have kp6 : Keep h0 T5.heap [] := kp2.trans K5 (allS (Or.inr y1) all0)
  refine own_st (B := T5.setTop (mkF m 12 #[.val (.ref a1), .val (.int (0 : Int32)), .val (.int p1), .val (.ref b1), .unset, .unset] [(.int p1)])) (fun t k => st5 t k) ?_
  refine own_st (B := T5.setTop (mkF m 14 #[.val (.ref a1), .val (.int (0 : Int32)), .val (.int p1), .val (.ref b1), .val (.int p1), .unset] [])) (fun t k => XS.istore X5.here hx rfl (hb hby d12_12) rfl (l' := #[.val (.ref a1), .val (.int (0 : Int32)), .val (.int p1), .val (.ref b1), .val (.int p1), .unset]) rfl k) ?_
  refine own_st (B := T5.setTop (mkF m 16 #[.val (.ref a1), .val (.int (0 : Int32)), .val (.int p1), .val (.ref b1), .val (.int p1), .unset] [(.int p1)])) (fun t k => XS.iload X5.here hx rfl (hb hby d12_14) rfl k) ?_
  refine own_st (B := T5.setTop (mkF m 17 #[.val (.ref a1), .val (.int (0 : Int32)), .val (.int p1), .val (.ref b1), .val (.int p1), .unset] [(.int p1), (.int p1)])) (fun t k => XS.iloadN X5.here hx rfl (hb hby d12_16) rfl k) ?_
  refine own_st (B := T5.setTop (mkF m 57 #[.val (.ref a1), .val (.int (0 : Int32)), .val (.int p1), .val (.ref b1), .val (.int p1), .unset] [])) (fun t k => XS.icmpYes X5.here hx rfl (pc0 := 17) (pc' := 57) rfl (hb hby d12_17) rfl (XT.ii_eq_t rfl) (by decide) (by decide) k) ?_
  refine own_st (B := T5.setTop (mkF m 58 #[.val (.ref a1), .val (.int (0 : Int32)), .val (.int p1), .val (.ref b1), .val (.int p1), .unset] [(.ref b1)])) (fun t k => XS.aloadN X5.here hx rfl (hb hby d12_57) rfl rfl k) ?_
  refine own_retR X5 hx hlk (t := (.array .byte)) Bd.returns rfl rfl rfl (hb hby d12_58) (by decide) (by decide) ?_
  show Q12 Z a1 p1 vs h0 n0 _ T5.heap _
  exact ⟨b1, bs_5, rfl, N5, kp6, u1, y1, p5_0, r5_0⟩
theorem own_pd13 : parseMethodDescriptor "([CII)[B" = some ⟨[(.array .char), .int, .int], some (.array .byte)⟩ := by decide +kernel
theorem own_pd14 : parseMethodDescriptor "([BI)B" = some ⟨[(.array .byte), .int], some .byte⟩ := by decide +kernel
theorem d10_0 : decode jdk_42_method_149_code 0 = .ok (.aload_n 0, 1) := by decide +kernel
theorem d10_1 : decode jdk_42_method_149_code 1 = .ok (.invokespecial 1, 3) := by decide +kernel
theorem d10_4 : decode jdk_42_method_149_code 4 = .ok (.iload_n 3, 1) := by decide +kernel
theorem d10_5 : decode jdk_42_method_149_code 5 = .ok (.ifCond .ne 22, 3) := by decide +kernel
theorem d10_27 : decode jdk_42_method_149_code 27 = .ok (.getstatic 38, 3) := by decide +kernel
theorem d10_30 : decode jdk_42_method_149_code 30 = .ok (.ifCond .eq 28, 3) := by decide +kernel
theorem d10_33 : decode jdk_42_method_149_code 33 = .ok (.aload_n 1, 1) := by decide +kernel
theorem d10_34 : decode jdk_42_method_149_code 34 = .ok (.iload_n 2, 1) := by decide +kernel
theorem d10_35 : decode jdk_42_method_149_code 35 = .ok (.iload_n 3, 1) := by decide +kernel
theorem d10_36 : decode jdk_42_method_149_code 36 = .ok (.invokestatic 177, 3) := by decide +kernel
theorem d10_39 : decode jdk_42_method_149_code 39 = .ok (.astore 5, 2) := by decide +kernel
theorem d10_41 : decode jdk_42_method_149_code 41 = .ok (.aload_n 0, 1) := by decide +kernel
theorem d10_42 : decode jdk_42_method_149_code 42 = .ok (.aload 5, 2) := by decide +kernel
theorem d10_44 : decode jdk_42_method_149_code 44 = .ok (.iload_n 3, 1) := by decide +kernel
theorem d10_45 : decode jdk_42_method_149_code 45 = .ok (.invokestatic 47, 3) := by decide +kernel
theorem d10_48 : decode jdk_42_method_149_code 48 = .ok (.putfield 15, 3) := by decide +kernel
theorem d10_51 : decode jdk_42_method_149_code 51 = .ok (.aload_n 0, 1) := by decide +kernel
theorem d10_52 : decode jdk_42_method_149_code 52 = .ok (.aload 5, 2) := by decide +kernel
theorem d10_54 : decode jdk_42_method_149_code 54 = .ok (.putfield 9, 3) := by decide +kernel
theorem d10_57 : decode jdk_42_method_149_code 57 = .ok (.return_, 1) := by decide +kernel
theorem ef_10 (m : MethodId) (x0 : Addr) (x1 : Addr) (x2 : Int32) (x3 : Int32) : entryFrame m #[(.ref x0), (.ref x1), (.int x2), (.int x3), .null] 6 = mkF m 0 #[.val (.ref x0), .val (.ref x1), .val (.int x2), .val (.int x3), .val .null, .unset] [] := by first | (simp [entryFrame, mkF, argsToLocals, Value.category]; done) | rfl
def Q10 (Z : State) (a1 : Addr) (a2 : Addr) (p1 : Int32) (cs : Int32) (vs : List Int32) (h0 : Heap) (n0 : Nat) (v : Option Value) (h : Heap) (L : List Loc) : Prop := ∃ (b : Addr) (bs : List Int32), v = none ∧ Fr n0 L ∧ Keep h0 h [a1] ∧ n0 ≤ b ∧ h0.size ≤ b ∧ Exa Z h a1 "java/lang/String" ∧ Fld Z h a1 "java/lang/String" "value" "[B" (.ref b) ∧ Fld Z h a1 "java/lang/String" "coder" "B" (.int (0 : Int32)) ∧ own_A Z h b .byte (bs.map Value.int) ∧ (bs.length = vs.length)
set_option maxHeartbeats 40000000 in
theorem rm10 (l : Launch) (Z : State) (a0 : Array Value) (hw : ∀ d ∈ tables_1, d.before a0 Z = true) (ws : List Jvm.Cond) (a1 : Addr) (a2 : Addr) (p1 : Int32) (cs : Int32) (vs : List Int32) (h0 : Heap) (n0 : Nat) (Z0 : n0 ≤ h0.size) (F0 : Exa Z h0 a1 "java/lang/String") (F1 : Fld Z h0 a1 "java/lang/String" "value" "[B" .null) (F2 : Fld Z h0 a1 "java/lang/String" "coder" "B" (.int (0 : Int32))) (F3 : own_A Z h0 a2 .char (vs.map Value.int)) (F4 : Sta Z h0 "java/lang/String" "COMPACT_STRINGS" "Z" (.int cs)) (ga : n0 ≤ a1) (hcs : ¬ (cs = (0 : Int32))) (hnz : ¬ (p1 = (0 : Int32))) (hp : p1.toInt = (vs.length : Int)) (hvl : vs.length ≤ 16) (hvb : own_bnd vs) :
    MetFree l (⟨"java/lang/String", "<init>", "([CIILjava/lang/Void;)V"⟩ : MethodName) (head1 (Jvm.Cond.code (⟨"java/lang/String", "<init>", "([CIILjava/lang/Void;)V"⟩ : MethodName) jdk_42_method_149_code 6 none :: ws) ({ frames := 2, cells := 1, slots := 16, locals := 35 } : Room)) (fun a U => a = #[(.ref a1), (.ref a2), (.int (0 : Int32)), (.int p1), .null] ∧ Z.Warmed39 U.vm ∧ U.heap = h0) (fun _ _ _ _ _ => True) (fun _ U o U' => ∃ v L, o = .returned v ∧ Q10 Z a1 a2 p1 cs vs h0 n0 v U'.heap L ∧ FrameEnd U o U' L ({ frames := 2, cells := 1, slots := 16, locals := 35 } : Room).cells ({ frames := 2, cells := 1, slots := 16, locals := 35 } : Room).slots) := by
  refine MetFree.of_bodySF (plainFor_of_name own_pn2) hisR ?_
  intro p e s m args below meth c s₁ Bd hml0 hP hK
  obtain ⟨rfl, hZ, hh⟩ := hP
  have hx := Bd.exec
  have hby := Bd.bytes
  have hml : c.maxLocals = 6 := hml0
  have hlk : meth.locks = false := BodyLoose.notSynchronized Bd
  have hown : s.vm.findClass "java/lang/String" = some m.cls := findClass_of_methodNamed Bd.named
  have hnm := (name_of_methodNamed Bd.named Bd.method).1
  have X0 : Stand p l e ({ frames := 2, cells := 1, slots := 16, locals := 35 } : Room) s m #[(.ref a1), (.ref a2), (.int (0 : Int32)), (.int p1), .null] below meth c s₁ [] 0 0 := Stand.of_body Bd
  have e0 : s₁.heap = h0 := by rw [← hh, Bd.state]; rfl
  have N0 := Fr.nil n0
  show own_Go p e below s (Q10 Z a1 a2 p1 cs vs h0 n0) ({ frames := 2, cells := 1, slots := 16, locals := 35 } : Room).cells ({ frames := 2, cells := 1, slots := 16, locals := 35 } : Room).slots _
  refine own_st (B := s₁.setTop (mkF m 0 #[.val (.ref a1), .val (.ref a2), .val (.int (0 : Int32)), .val (.int p1), .val .null, .unset] [])) (fun t k => castTop (ef_10 m (a1) (a2) ((0 : Int32)) (p1)) k) ?_
  refine own_st (B := s₁.setTop (mkF m 1 #[.val (.ref a1), .val (.ref a2), .val (.int (0 : Int32)), .val (.int p1), .val .null, .unset] [(.ref a1)])) (fun t k => XS.aloadN X0.here hx rfl (hb hby d10_0) rfl rfl k) ?_
  obtain ⟨T1, X1, e1, st1⟩ := initO X0 hx hZ hown (w_57 hw) (w_58 hw) (w_59 hw) e0 (g := (mkF m 1 #[.val (.ref a1), .val (.ref a2), .val (.int (0 : Int32)), .val (.int p1), .val .null, .unset] [(.ref a1)])) rfl (by rw [hml]; rfl) rfl (hb hby d10_1) (by decide) (W := 0) (by show 2 * 0 + _ ≤ _; exact Nat.le_of_eq rfl) (by decide)
  refine own_st (B := T1.setTop (mkF m 4 #[.val (.ref a1), .val (.ref a2), .val (.int (0 : Int32)), .val (.int p1), .val .null, .unset] [])) (fun t k => st1 t k) ?_
  refine own_st (B := T1.setTop (mkF m 5 #[.val (.ref a1), .val (.ref a2), .val (.int (0 : Int32)), .val (.int p1), .val .null, .unset] [(.int p1)])) (fun t k => XS.iloadN X1.here hx rfl (hb hby d10_4) rfl k) ?_
  refine own_st (B := T1.setTop (mkF m 27 #[.val (.ref a1), .val (.ref a2), .val (.int (0 : Int32)), .val (.int p1), .val .null, .unset] [])) (fun t k => XS.ifYes X1.here hx rfl (pc0 := 5) (pc' := 27) rfl (hb hby d10_5) rfl (XT.i0_ne_t hnz) (by decide) (by decide) k) ?_
  obtain ⟨T2, X2, e2, st2⟩ := getS2 X1 hx hZ hown (host := "") (Or.inl (w_26 hw)) Via.refl e1 F4 (g := (mkF m 27 #[.val (.ref a1), .val (.ref a2), .val (.int (0 : Int32)), .val (.int p1), .val .null, .unset] [])) rfl (hb hby d10_27)
  refine own_st (B := T2.setTop (mkF m 30 #[.val (.ref a1), .val (.ref a2), .val (.int (0 : Int32)), .val (.int p1), .val .null, .unset] [(.int cs)])) (fun t k => st2 t k) ?_
  refine own_st (B := T2.setTop (mkF m 33 #[.val (.ref a1), .val (.ref a2), .val (.int (0 : Int32)), .val (.int p1), .val .null, .unset] [])) (fun t k => XS.ifNo X2.here hx rfl (hb hby d10_30) rfl (XT.i0_eq_f hcs) k) ?_
  refine own_st (B := T2.setTop (mkF m 34 #[.val (.ref a1), .val (.ref a2), .val (.int (0 : Int32)), .val (.int p1), .val .null, .unset] [(.ref a2)])) (fun t k => XS.aloadN X2.here hx rfl (hb hby d10_33) rfl rfl k) ?_
  refine own_st (B := T2.setTop (mkF m 35 #[.val (.ref a1), .val (.ref a2), .val (.int (0 : Int32)), .val (.int p1), .val .null, .unset] [(.int (0 : Int32)), (.ref a2)])) (fun t k => XS.iloadN X2.here hx rfl (hb hby d10_34) rfl k) ?_
  refine own_st (B := T2.setTop (mkF m 36 #[.val (.ref a1), .val (.ref a2), .val (.int (0 : Int32)), .val (.int p1), .val .null, .unset] [(.int p1), (.int (0 : Int32)), (.ref a2)])) (fun t k => XS.iloadN X2.here hx rfl (hb hby d10_35) rfl k) ?_
  obtain ⟨_, _, ⟨T3, L3, k3, j3⟩, -, X3, ⟨Lc3, hQ3, l3, y3_, z3_⟩, st3⟩ := Jvm.LawKit.callS X2 hx (y := (⟨"java/lang/StringUTF16", "compress", "([CII)[B"⟩ : MethodName)) hown (mvT hZ (w_60 hw)) (mvT hZ (w_61 hw)) (mvT hZ (w_62 hw)) (mvT hZ (w_63 hw)) (by decide) (backOf (W := 0) (rm12 l Z a0 hw [] a2 p1 vs h0 n0 Z0 F3 hp hvl hvb) hZ (w_63 hw) (w_62 hw) (by decide) (by decide)) (g := (mkF m 36 #[.val (.ref a1), .val (.ref a2), .val (.int (0 : Int32)), .val (.int p1), .val .null, .unset] [(.int p1), (.int (0 : Int32)), (.ref a2)])) rfl (by rw [hml]; rfl) (argsL := [(.ref a2), (.int (0 : Int32)), (.int p1)]) (rest := []) (lenOf own_pd13 rfl) rfl (by show 2 * 0 + _ ≤ _; exact Nat.le_of_eq rfl) (hb hby d10_36) (fun _ _ => ⟨rfl, e2, (by decide : 0 + 1 ≤ _), (by decide : 0 + 16 ≤ _)⟩)
  dsimp only [Pt.U, Pt.locs, Pt.cells, Pt.slots] at X3 l3 y3_ z3_ st3 hQ3
  subst l3 y3_ z3_
  obtain ⟨b_3, bs_3, rfl, N3q, K3, u3_b, y3_b, p3_0, r3_0⟩ := hQ3
  have N3 := Fr.app N0 N3q
  have q3_b_a1 : a1 ≠ b_3 := Nat.ne_of_lt (Nat.lt_of_lt_of_le F0.lt y3_b)
  have q3_b_a2 : a2 ≠ b_3 := Nat.ne_of_lt (Nat.lt_of_lt_of_le F3.lt y3_b)
  have y4 : h0.size ≤ b_3 := Nat.le_trans (Keep.refl h0 [a1]).1 y3_b
  have z5 : n0 ≤ T3.heap.size := Nat.le_trans Z0 K3.1
  have kp5 : Keep h0 T3.heap [a1] := (Keep.refl h0 [a1]).trans K3 all0
  refine own_st (B := T3.setTop (mkF m 39 #[.val (.ref a1), .val (.ref a2), .val (.int (0 : Int32)), .val (.int p1), .val .null, .unset] [(.ref b_3)])) (fun t k => st3 t k) ?_
  refine own_st (B := T3.setTop (mkF m 41 #[.val (.ref a1), .val (.ref a2), .val (.int (0 : Int32)), .val (.int p1), .val .null, .val (.ref b_3)] [])) (fun t k => XS.astore X3.here hx rfl (hb hby d10_39) rfl rfl (l' := #[.val (.ref a1), .val (.ref a2), .val (.int (0 : Int32)), .val (.int p1), .val .null, .val (.ref b_3)]) rfl k) ?_
  refine own_st (B := T3.setTop (mkF m 42 #[.val (.ref a1), .val (.ref a2), .val (.int (0 : Int32)), .val (.int p1), .val .null, .val (.ref b_3)] [(.ref a1)])) (fun t k => XS.aloadN X3.here hx rfl (hb hby d10_41) rfl rfl k) ?_
  refine own_st (B := T3.setTop (mkF m 44 #[.val (.ref a1), .val (.ref a2), .val (.int (0 : Int32)), .val (.int p1), .val .null, .val (.ref b_3)] [(.ref b_3), (.ref a1)])) (fun t k => XS.aload X3.here hx rfl (hb hby d10_42) rfl rfl k) ?_
  refine own_st (B := T3.setTop (mkF m 45 #[.val (.ref a1), .val (.ref a2), .val (.int (0 : Int32)), .val (.int p1), .val .null, .val (.ref b_3)] [(.int p1), (.ref b_3), (.ref a1)])) (fun t k => XS.iloadN X3.here hx rfl (hb hby d10_44) rfl k) ?_
  obtain ⟨_, _, ⟨T6, L6, k6, j6⟩, -, X6, ⟨Lc6, hQ6, l6, y6_, z6_⟩, st6⟩ := Jvm.LawKit.callS X3 hx (y := (⟨"java/lang/StringUTF16", "coderFromArrayLen", "([BI)B"⟩ : MethodName)) hown (mvT hZ (w_67 hw)) (mvT hZ (w_68 hw)) (mvT hZ (w_62 hw)) (mvT hZ (w_69 hw)) (by decide) (backOf (W := 1) (rm14 l Z a0 hw [] b_3 p1 bs_3 T3.heap n0 z5 p3_0 (show p1.toInt = (bs_3.length : Int) by have h9 := r3_0; omega)) hZ (w_69 hw) (w_62 hw) (by decide) (by decide)) (g := (mkF m 45 #[.val (.ref a1), .val (.ref a2), .val (.int (0 : Int32)), .val (.int p1), .val .null, .val (.ref b_3)] [(.int p1), (.ref b_3), (.ref a1)])) rfl (by rw [hml]; rfl) (argsL := [(.ref b_3), (.int p1)]) (rest := [(.ref a1)]) (lenOf own_pd14 rfl) rfl (by show 2 * 0 + _ ≤ _; exact Nat.le_of_eq rfl) (hb hby d10_45) (fun _ _ => ⟨rfl, rfl, (by decide : 1 + 0 ≤ _), (by decide : 16 + 0 ≤ _)⟩)
  dsimp only [Pt.U, Pt.locs, Pt.cells, Pt.slots] at X6 l6 y6_ z6_ st6 hQ6
  subst l6 y6_ z6_
  obtain ⟨rfl, N6q, e6q⟩ := hQ6
  have N6 := Fr.app N3 N6q
  refine own_st (B := T6.setTop (mkF m 48 #[.val (.ref a1), .val (.ref a2), .val (.int (0 : Int32)), .val (.int p1), .val .null, .val (.ref b_3)] [(.int (0 : Int32)), (.ref a1)])) (fun t k => st6 t k) ?_
  have f7 : Exa Z T3.heap a1 "java/lang/String" := (F0.keep K3)
  have f8 : Fld Z T3.heap a1 "java/lang/String" "coder" "B" (.int (0 : Int32)) := (F2.keep K3 nin0)
  obtain ⟨T9, h9, X9, e9, W9, st9⟩ := putFN X6 hx hZ hown (w_27 hw) Via.refl e6q f8 f7 (Or.inr ⟨(w_5 hw), rfl, hnm⟩) (w_2 hw) (ty := .byte) (v' := .int (nar .byte (0 : Int32))) (by decide) rfl (fits_nar_byte _) (g := (mkF m 48 #[.val (.ref a1), .val (.ref a2), .val (.int (0 : Int32)), .val (.int p1), .val .null, .val (.ref b_3)] [(.int (0 : Int32)), (.ref a1)])) rfl rfl (hb hby d10_48)
  have f9_ : Fld Z h9 a1 "java/lang/String" "coder" "B" (.int (nar .byte (0 : Int32))) := f8.same W9
  have z10 : n0 ≤ h9.size := Nat.le_trans z5 (Keep.of_wr W9).1
  have kp10 : Keep h0 h9 [a1] := kp5.wr W9 (Or.inl (List.mem_of_getElem? (i := 0) rfl))
  have n11 := Fr.snoc X9 N6 ga
  refine own_st (B := T9.setTop (mkF m 51 #[.val (.ref a1), .val (.ref a2), .val (.int (0 : Int32)), .val (.int p1), .val .null, .val (.ref b_3)] [])) (fun t k => st9 t k) ?_
  have f12 : Fld Z h9 a1 "java/lang/String" "coder" "B" (.int (0 : Int32)) := by have q : nar .byte (0 : Int32) = (0 : Int32) := (by decide); rw [q] at f9_; exact f9_
  refine own_st (B := T9.setTop (mkF m 52 #[.val (.ref a1), .val (.ref a2), .val (.int (0 : Int32)), .val (.int p1), .val .null, .val (.ref b_3)] [(.ref a1)])) (fun t k => XS.aloadN X9.here hx rfl (hb hby d10_51) rfl rfl k) ?_
  refine own_st (B := T9.setTop (mkF m 54 #[.val (.ref a1), .val (.ref a2), .val (.int (0 : Int32)), .val (.int p1), .val .null, .val (.ref b_3)] [(.ref b_3), (.ref a1)])) (fun t k => XS.aload X9.here hx rfl (hb hby d10_52) rfl rfl k) ?_
  have f13 : Exa Z h9 a1 "java/lang/String" := (f7.wr W9)
  have f14 : Fld Z h9 a1 "java/lang/String" "value" "[B" .null := ((F1.keep K3 nin0).other W9 (Or.inr (slot_ne (Or.inr (w_4 hw)) (Or.inr (w_5 hw)) (by decide) (t := (.array .byte)) (t' := .byte) (by decide) (by decide))))
  obtain ⟨T15, h15, X15, e15, W15, st15⟩ := putF X9 hx hZ hown (host := "") (Or.inl (w_20 hw)) Via.refl e9 f14 f13 (Or.inr ⟨(w_4 hw), rfl, hnm⟩) (w_2 hw) (ty := (.array .byte)) (by decide) rfl rfl (g := (mkF m 54 #[.val (.ref a1), .val (.ref a2), .val (.int (0 : Int32)), .val (.int p1), .val .null, .val (.ref b_3)] [(.ref b_3), (.ref a1)])) rfl rfl (hb hby d10_54)
  have f15_ : Fld Z h15 a1 "java/lang/String" "value" "[B" (.ref b_3) := f14.same W15
  have z16 : n0 ≤ h15.size := Nat.le_trans z10 (Keep.of_wr W15).1
  have kp16 : Keep h0 h15 [a1] := kp10.wr W15 (Or.inl (List.mem_of_getElem? (i := 0) rfl))
  have n17 := Fr.snoc X15 n11 ga
  refine own_st (B := T15.setTop (mkF m 57 #[.val (.ref a1), .val (.ref a2), .val (.int (0 : Int32)), .val (.int p1), .val .null, .val (.ref b_3)] [])) (fun t k => st15 t k) ?_
  refine own_retV X15 hx hlk Bd.returns (hb hby d10_57) (by decide) (by decide) ?_
  show Q10 Z a1 a2 p1 cs vs h0 n0 _ T15.heap _
  rw [e15]
  have f18 : Exa Z h15 a1 "java/lang/String" := (f13.wr W15)
  have f19 : Fld Z h15 a1 "java/lang/String" "coder" "B" (.int (0 : Int32)) := (f12.other W15 (Or.inr (slot_ne (Or.inr (w_5 hw)) (Or.inr (w_4 hw)) (by decide) (t := .byte) (t' := (.array .byte)) (by decide) (by decide))))
  have f20 : own_A Z h15 b_3 .byte (bs_3.map Value.int) := ((p3_0.other W9 (Ne.symm q3_b_a1)).other W15 (Ne.symm q3_b_a1))
  exact ⟨b_3, bs_3, rfl, n17, kp16, u3_b, y4, f18, f15_, f19, f20, r3_0⟩
theorem own_pd15 : parseMethodDescriptor "([CIILjava/lang/Void;)V" = some ⟨[(.array .char), .int, .int, (.object "java/lang/Void")], none⟩ := by decide +kernel
theorem d9_0 : decode jdk_42_method_3_code 0 = .ok (.aload_n 0, 1) := by decide +kernel
theorem d9_1 : decode jdk_42_method_3_code 1 = .ok (.aload_n 1, 1) := by decide +kernel
theorem d9_2 : decode jdk_42_method_3_code 2 = .ok (.iconst 0, 1) := by decide +kernel
theorem d9_3 : decode jdk_42_method_3_code 3 = .ok (.aload_n 1, 1) := by decide +kernel
theorem d9_4 : decode jdk_42_method_3_code 4 = .ok (.arraylength, 1) := by decide +kernel
theorem d9_5 : decode jdk_42_method_3_code 5 = .ok (.aconst_null, 1) := by decide +kernel
theorem d9_6 : decode jdk_42_method_3_code 6 = .ok (.invokespecial 27, 3) := by decide +kernel
theorem d9_9 : decode jdk_42_method_3_code 9 = .ok (.return_, 1) := by decide +kernel
theorem ef_9 (m : MethodId) (x0 : Addr) (x1 : Addr) : entryFrame m #[(.ref x0), (.ref x1)] 2 = mkF m 0 #[.val (.ref x0), .val (.ref x1)] [] := by first | (simp [entryFrame, mkF, argsToLocals, Value.category]; done) | rfl
def Q9 (Z : State) (a1 : Addr) (a2 : Addr) (cs : Int32) (vs : List Int32) (h0 : Heap) (n0 : Nat) (v : Option Value) (h : Heap) (L : List Loc) : Prop := ∃ (b : Addr) (bs : List Int32), v = none ∧ Fr n0 L ∧ Keep h0 h [a1] ∧ n0 ≤ b ∧ h0.size ≤ b ∧ Exa Z h a1 "java/lang/String" ∧ Fld Z h a1 "java/lang/String" "value" "[B" (.ref b) ∧ Fld Z h a1 "java/lang/String" "coder" "B" (.int (0 : Int32)) ∧ own_A Z h b .byte (bs.map Value.int) ∧ (bs.length = vs.length)
set_option maxHeartbeats 40000000 in
theorem rm9 (l : Launch) (Z : State) (a0 : Array Value) (hw : ∀ d ∈ tables_1, d.before a0 Z = true) (ws : List Jvm.Cond) (a1 : Addr) (a2 : Addr) (cs : Int32) (vs : List Int32) (h0 : Heap) (n0 : Nat) (Z0 : n0 ≤ h0.size) (F0 : Exa Z h0 a1 "java/lang/String") (F1 : Fld Z h0 a1 "java/lang/String" "value" "[B" .null) (F2 : Fld Z h0 a1 "java/lang/String" "coder" "B" (.int (0 : Int32))) (F3 : own_A Z h0 a2 .char (vs.map Value.int)) (F4 : Sta Z h0 "java/lang/String" "COMPACT_STRINGS" "Z" (.int cs)) (ga : n0 ≤ a1) (hcs : ¬ (cs = (0 : Int32))) (hv0 : ¬ (vs.length = 0)) (hvl : vs.length ≤ 16) (hvb : own_bnd vs) :
    MetFree l (⟨"java/lang/String", "<init>", "([C)V"⟩ : MethodName) (head1 (Jvm.Cond.code (⟨"java/lang/String", "<init>", "([C)V"⟩ : MethodName) jdk_42_method_3_code 2 none :: ws) ({ frames := 3, cells := 1, slots := 16, locals := 52 } : Room)) (fun a U => a = #[(.ref a1), (.ref a2)] ∧ Z.Warmed39 U.vm ∧ U.heap = h0) (fun _ _ _ _ _ => True) (fun _ U o U' => ∃ v L, o = .returned v ∧ Q9 Z a1 a2 cs vs h0 n0 v U'.heap L ∧ FrameEnd U o U' L ({ frames := 3, cells := 1, slots := 16, locals := 52 } : Room).cells ({ frames := 3, cells := 1, slots := 16, locals := 52 } : Room).slots) := by
  refine MetFree.of_bodySF (plainFor_of_name own_pn2) hisR ?_
  intro p e s m args below meth c s₁ Bd hml0 hP hK
  obtain ⟨rfl, hZ, hh⟩ := hP
  have hx := Bd.exec
  have hby := Bd.bytes
  have hml : c.maxLocals = 2 := hml0
  have hlk : meth.locks = false := BodyLoose.notSynchronized Bd
  have hown : s.vm.findClass "java/lang/String" = some m.cls := findClass_of_methodNamed Bd.named
  have hnm := (name_of_methodNamed Bd.named Bd.method).1
  have X0 : Stand p l e ({ frames := 3, cells := 1, slots := 16, locals := 52 } : Room) s m #[(.ref a1), (.ref a2)] below meth c s₁ [] 0 0 := Stand.of_body Bd
  have e0 : s₁.heap = h0 := by rw [← hh, Bd.state]; rfl
  have N0 := Fr.nil n0
  show own_Go p e below s (Q9 Z a1 a2 cs vs h0 n0) ({ frames := 3, cells := 1, slots := 16, locals := 52 } : Room).cells ({ frames := 3, cells := 1, slots := 16, locals := 52 } : Room).slots _
  refine own_st (B := s₁.setTop (mkF m 0 #[.val (.ref a1), .val (.ref a2)] [])) (fun t k => castTop (ef_9 m (a1) (a2)) k) ?_
  refine own_st (B := s₁.setTop (mkF m 1 #[.val (.ref a1), .val (.ref a2)] [(.ref a1)])) (fun t k => XS.aloadN X0.here hx rfl (hb hby d9_0) rfl rfl k) ?_
  refine own_st (B := s₁.setTop (mkF m 2 #[.val (.ref a1), .val (.ref a2)] [(.ref a2), (.ref a1)])) (fun t k => XS.aloadN X0.here hx rfl (hb hby d9_1) rfl rfl k) ?_
  refine own_st (B := s₁.setTop (mkF m 3 #[.val (.ref a1), .val (.ref a2)] [(.int (0 : Int32)), (.ref a2), (.ref a1)])) (fun t k => XS.iconst X0.here hx rfl (hb hby d9_2) k) ?_
  refine own_st (B := s₁.setTop (mkF m 4 #[.val (.ref a1), .val (.ref a2)] [(.ref a2), (.int (0 : Int32)), (.ref a2), (.ref a1)])) (fun t k => XS.aloadN X0.here hx rfl (hb hby d9_3) rfl rfl k) ?_
  refine own_st (B := s₁.setTop (mkF m 5 #[.val (.ref a1), .val (.ref a2)] [(.int (vs.length.toInt32)), (.int (0 : Int32)), (.ref a2), (.ref a1)])) (fun t k => own_len X0 hx hZ e0 F3 (g := (mkF m 4 #[.val (.ref a1), .val (.ref a2)] [(.ref a2), (.int (0 : Int32)), (.ref a2), (.ref a1)])) (n := (vs.length.toInt32)) (by rw [List.length_map, len_toInt (by omega)]) rfl rfl (hb hby d9_4) k) ?_
  refine own_st (B := s₁.setTop (mkF m 6 #[.val (.ref a1), .val (.ref a2)] [.null, (.int (vs.length.toInt32)), (.int (0 : Int32)), (.ref a2), (.ref a1)])) (fun t k => XS.aconstNull X0.here hx rfl (hb hby d9_5) k) ?_
  obtain ⟨_, _, ⟨T1, L1, k1, j1⟩, -, X1, ⟨Lc1, hQ1, l1, y1_, z1_⟩, st1⟩ := X0.specialBack hx (y := (⟨"java/lang/String", "<init>", "([CIILjava/lang/Void;)V"⟩ : MethodName)) rfl hown (mvT hZ (w_53 hw)) (mvT hZ (w_54 hw)) (mvT hZ (w_56 hw)) (by decide) (backOf (W := 0) (rm10 l Z a0 hw [] a1 a2 (vs.length.toInt32) cs vs h0 n0 Z0 F0 F1 F2 F3 F4 ga hcs (own_nz hvl hv0) (len_toInt (by omega)) hvl hvb) hZ (w_56 hw) (w_1 hw) (by decide) (by decide)) (g := (mkF m 6 #[.val (.ref a1), .val (.ref a2)] [.null, (.int (vs.length.toInt32)), (.int (0 : Int32)), (.ref a2), (.ref a1)])) rfl (by rw [hml]; rfl) (Steps.refl _) (a := a1) (argsL := [(.ref a2), (.int (0 : Int32)), (.int (vs.length.toInt32)), .null]) (rest := []) (lenOf own_pd15 rfl) rfl (by show 2 * 0 + _ ≤ _; exact Nat.le_of_eq rfl) (hb hby d9_6) (fun _ _ => ⟨rfl, e0, (by decide : 0 + 1 ≤ _), (by decide : 0 + 16 ≤ _)⟩)
  dsimp only [Pt.U, Pt.locs, Pt.cells, Pt.slots] at X1 l1 y1_ z1_ st1 hQ1
  subst l1 y1_ z1_
  obtain ⟨b_1, bs_1, rfl, N1q, K1, u1_b, y1_b, p1_0, p1_1, p1_2, p1_3, r1_0⟩ := hQ1
  have N1 := Fr.app N0 N1q
  have q1_b_a1 : a1 ≠ b_1 := Nat.ne_of_lt (Nat.lt_of_lt_of_le F0.lt y1_b)
  have q1_b_a2 : a2 ≠ b_1 := Nat.ne_of_lt (Nat.lt_of_lt_of_le F3.lt y1_b)
  have y2 : h0.size ≤ b_1 := Nat.le_trans (Keep.refl h0 [a1]).1 y1_b
  have z3 : n0 ≤ T1.heap.size := Nat.le_trans Z0 K1.1
  have kp3 : Keep h0 T1.heap [a1] := (Keep.refl h0 [a1]).trans K1 (allS (Or.inl (List.mem_of_getElem? (i := 0) rfl)) all0)
  refine own_ss (B := T1.setTop (mkF m 9 #[.val (.ref a1), .val (.ref a2)] [])) st1 ?_
  refine own_retV X1 hx hlk Bd.returns (hb hby d9_9) (by decide) (by decide) ?_
  show Q9 Z a1 a2 cs vs h0 n0 _ T1.heap _
  exact ⟨b_1, bs_1, rfl, N1, kp3, u1_b, y2, p1_0, p1_1, p1_2, p1_3, r1_0⟩
theorem d10_8 : decode jdk_42_method_149_code 8 = .ok (.aload_n 0, 1) := by decide +kernel
theorem d10_9 : decode jdk_42_method_149_code 9 = .ok (.ldc 7, 2) := by decide +kernel
theorem d10_11 : decode jdk_42_method_149_code 11 = .ok (.getfield 9, 3) := by decide +kernel
theorem d10_14 : decode jdk_42_method_149_code 14 = .ok (.putfield 9, 3) := by decide +kernel
theorem d10_17 : decode jdk_42_method_149_code 17 = .ok (.aload_n 0, 1) := by decide +kernel
theorem d10_18 : decode jdk_42_method_149_code 18 = .ok (.ldc 7, 2) := by decide +kernel
theorem d10_20 : decode jdk_42_method_149_code 20 = .ok (.getfield 15, 3) := by decide +kernel
theorem d10_23 : decode jdk_42_method_149_code 23 = .ok (.putfield 15, 3) := by decide +kernel
theorem d10_26 : decode jdk_42_method_149_code 26 = .ok (.return_, 1) := by decide +kernel
theorem ef_10n0 (m : MethodId) (x0 : Addr) (x1 : Addr) (x2 : Int32) (x3 : Int32) : entryFrame m #[(.ref x0), (.ref x1), (.int x2), (.int x3), .null] 6 = mkF m 0 #[.val (.ref x0), .val (.ref x1), .val (.int x2), .val (.int x3), .val .null, .unset] [] := by first | (simp [entryFrame, mkF, argsToLocals, Value.category]; done) | rfl
def Q10n0 (Z : State) (a1 : Addr) (a2 : Addr) (h0 : Heap) (n0 : Nat) (v : Option Value) (h : Heap) (L : List Loc) : Prop := ∃ (b : Addr), v = none ∧ Fr n0 L ∧ Keep h0 h [a1] ∧ Exa Z h a1 "java/lang/String" ∧ Fld Z h a1 "java/lang/String" "value" "[B" (.ref b) ∧ Fld Z h a1 "java/lang/String" "coder" "B" (.int (0 : Int32)) ∧ own_A Z h b .byte ([] : List Value)
set_option maxHeartbeats 40000000 in
theorem rm10n0 (l : Launch) (Z : State) (a0 : Array Value) (hw : ∀ d ∈ tables_1, d.before a0 Z = true) (ws : List Jvm.Cond) (a1 : Addr) (a2 : Addr) (h0 : Heap) (n0 : Nat) (Z0 : n0 ≤ h0.size) (F0 : Exa Z h0 a1 "java/lang/String") (F1 : Fld Z h0 a1 "java/lang/String" "value" "[B" .null) (F2 : Fld Z h0 a1 "java/lang/String" "coder" "B" (.int (0 : Int32))) (ga : n0 ≤ a1) :
    MetFree l (⟨"java/lang/String", "<init>", "([CIILjava/lang/Void;)V"⟩ : MethodName) (head1 (Jvm.Cond.code (⟨"java/lang/String", "<init>", "([CIILjava/lang/Void;)V"⟩ : MethodName) jdk_42_method_149_code 6 none :: ws) ({ frames := 1, cells := 4, slots := 8, locals := 12 } : Room)) (fun a U => a = #[(.ref a1), (.ref a2), (.int (0 : Int32)), (.int (0 : Int32)), .null] ∧ Z.Warmed39 U.vm ∧ U.heap = h0 ∧ CHv Z own_EL U.vm h0 ∧ ∀ x ∈ ([a1] : List Addr), Safe Z own_EL U.vm h0 x) (fun _ _ _ _ _ => True) (fun _ U o U' => ∃ v L, o = .returned v ∧ Q10n0 Z a1 a2 h0 n0 v U'.heap L ∧ CHr Z own_EL U.vm h0 U'.vm U'.heap ∧ ReturnedEndW U o U' L ({ frames := 1, cells := 4, slots := 8, locals := 12 } : Room).cells ({ frames := 1, cells := 4, slots := 8, locals := 12 } : Room).slots) := by
  refine MetFree.of_bodySF (plainFor_of_name own_pn2) hisR ?_
  intro p e s m args below meth c s₁ Bd hml0 hP hK
  obtain ⟨rfl, hZ, hh, hCH, hSF⟩ := hP
  have hx := Bd.exec
  have hby := Bd.bytes
  have hml : c.maxLocals = 6 := hml0
  have hlk : meth.locks = false := BodyLoose.notSynchronized Bd
  have hown : s.vm.findClass "java/lang/String" = some m.cls := findClass_of_methodNamed Bd.named
  have hnm := (name_of_methodNamed Bd.named Bd.method).1
  have X0 : Stand p l e ({ frames := 1, cells := 4, slots := 8, locals := 12 } : Room) (s.setVm s.vm) m #[(.ref a1), (.ref a2), (.int (0 : Int32)), (.int (0 : Int32)), .null] below meth c s₁ [] 0 0 := Stand.of_body Bd
  have e0 : s₁.heap = h0 := by rw [← hh, Bd.state]; rfl
  have N0 := Fr.nil n0
  have hS0 : s.Since s.vm s.heap.size := (State.WarmedH.refl s).since _
  have hk0 : s.heap.size ≤ h0.size := Nat.le_of_eq (congrArg Array.size hh)
  have ch0 : CHr Z own_EL s.vm h0 s.vm h0 := CHr.refl hCH
  show own_GoW p e below s (Q10n0 Z a1 a2 h0 n0) (fun vm h => CHr Z own_EL s.vm h0 vm h) ({ frames := 1, cells := 4, slots := 8, locals := 12 } : Room).cells ({ frames := 1, cells := 4, slots := 8, locals := 12 } : Room).slots _
  refine own_stW (B := s₁.setTop (mkF m 0 #[.val (.ref a1), .val (.ref a2), .val (.int (0 : Int32)), .val (.int (0 : Int32)), .val .null, .unset] [])) (fun t k => castTop (ef_10n0 m (a1) (a2) ((0 : Int32)) ((0 : Int32))) k) ?_
  refine own_stW (B := s₁.setTop (mkF m 1 #[.val (.ref a1), .val (.ref a2), .val (.int (0 : Int32)), .val (.int (0 : Int32)), .val .null, .unset] [(.ref a1)])) (fun t k => XS.aloadN X0.here hx rfl (hb hby d10_0) rfl rfl k) ?_
  obtain ⟨T1, X1, e1, st1⟩ := initO X0 hx hZ hown (w_57 hw) (w_58 hw) (w_59 hw) e0 (g := (mkF m 1 #[.val (.ref a1), .val (.ref a2), .val (.int (0 : Int32)), .val (.int (0 : Int32)), .val .null, .unset] [(.ref a1)])) rfl (by rw [hml]; rfl) rfl (hb hby d10_1) (by decide) (W := 0) (by show 2 * 0 + _ ≤ _; exact Nat.le_of_eq rfl) (by decide)
  refine own_stW (B := T1.setTop (mkF m 4 #[.val (.ref a1), .val (.ref a2), .val (.int (0 : Int32)), .val (.int (0 : Int32)), .val .null, .unset] [])) (fun t k => st1 t k) ?_
  refine own_stW (B := T1.setTop (mkF m 5 #[.val (.ref a1), .val (.ref a2), .val (.int (0 : Int32)), .val (.int (0 : Int32)), .val .null, .unset] [(.int (0 : Int32))])) (fun t k => XS.iloadN X1.here hx rfl (hb hby d10_4) rfl k) ?_
  refine own_stW (B := T1.setTop (mkF m 8 #[.val (.ref a1), .val (.ref a2), .val (.int (0 : Int32)), .val (.int (0 : Int32)), .val .null, .unset] [])) (fun t k => XS.ifNo X1.here hx rfl (hb hby d10_5) rfl (by decide) k) ?_
  refine own_stW (B := T1.setTop (mkF m 9 #[.val (.ref a1), .val (.ref a2), .val (.int (0 : Int32)), .val (.int (0 : Int32)), .val .null, .unset] [(.ref a1)])) (fun t k => XS.aloadN X1.here hx rfl (hb hby d10_8) rfl rfl k) ?_
  obtain ⟨b2, T2, h2, kk2, bb2, kc2, X2, e2, E2, hS2, hk2, hZ, hown, A2, C2, V2, R2, -, -, ch2_, -, hne2, st2⟩ := ldcCH (EL := own_EL) (a0 := a0) X1 hx hZ hown (w_105 hw) (own_sA hw) e1 hS0 hk0 (own_ew hw) (List.mem_of_getElem? (i := 2) rfl) ch0.1 (vs := []) (z := (0 : Int32)) ⟨by decide, rfl⟩ (by decide) rfl (g := (mkF m 9 #[.val (.ref a1), .val (.ref a2), .val (.int (0 : Int32)), .val (.int (0 : Int32)), .val .null, .unset] [(.ref a1)])) rfl (hb hby d10_9) (n := 0) (by decide) (by decide) (by decide) (by decide)
  have ch3 := ch0.trans ch2_
  have sf4 := CHr.safe ch2_ F0.lt (hSF a1 (List.mem_of_getElem? (i := 0) rfl))
  have z5 : n0 ≤ h2.size := Nat.le_trans Z0 E2.1
  have kp5 : Keep h0 h2 [a1] := (Keep.refl h0 [a1]).ext E2
  have fa2 : own_A Z h2 bb2 .byte ([] : List Value) := own_ofArv R2
  refine own_stW (B := T2.setTop (mkF m 11 #[.val (.ref a1), .val (.ref a2), .val (.int (0 : Int32)), .val (.int (0 : Int32)), .val .null, .unset] [(.ref b2), (.ref a1)])) (fun t k => st2 t k) ?_
  obtain ⟨T6, X6, e6, st6⟩ := getF X2 hx hZ hown (host := "") (Or.inl (w_20 hw)) Via.refl e2 V2 (g := (mkF m 11 #[.val (.ref a1), .val (.ref a2), .val (.int (0 : Int32)), .val (.int (0 : Int32)), .val .null, .unset] [(.ref b2), (.ref a1)])) rfl rfl (hb hby d10_11)
  refine own_stW (B := T6.setTop (mkF m 14 #[.val (.ref a1), .val (.ref a2), .val (.int (0 : Int32)), .val (.int (0 : Int32)), .val .null, .unset] [(.ref bb2), (.ref a1)])) (fun t k => st6 t k) ?_
  have f7 : Exa Z h2 a1 "java/lang/String" := (F0.ext E2)
  have f8 : Fld Z h2 a1 "java/lang/String" "value" "[B" .null := (F1.ext E2)
  obtain ⟨T9, h9, X9, e9, W9, st9⟩ := putF X6 hx hZ hown (host := "") (Or.inl (w_20 hw)) Via.refl e6 f8 f7 (Or.inr ⟨(w_4 hw), rfl, hnm⟩) (w_2 hw) (ty := (.array .byte)) (by decide) rfl rfl (g := (mkF m 14 #[.val (.ref a1), .val (.ref a2), .val (.int (0 : Int32)), .val (.int (0 : Int32)), .val .null, .unset] [(.ref bb2), (.ref a1)])) rfl rfl (hb hby d10_14)
  have f9_ : Fld Z h9 a1 "java/lang/String" "value" "[B" (.ref bb2) := f8.same W9
  have ch10 := ch3.trans (CHr.wr W9 sf4 ch3.1)
  have sf11 := Safe.wr W9 sf4 ch3.1 sf4
  have hk10 := Nat.le_trans hk2 (Keep.of_wr W9).1
  have z12 : n0 ≤ h9.size := Nat.le_trans z5 (Keep.of_wr W9).1
  have kp12 : Keep h0 h9 [a1] := kp5.wr W9 (Or.inl (List.mem_of_getElem? (i := 0) rfl))
  have n13 := Fr.snoc X9 N0 ga
  refine own_stW (B := T9.setTop (mkF m 17 #[.val (.ref a1), .val (.ref a2), .val (.int (0 : Int32)), .val (.int (0 : Int32)), .val .null, .unset] [])) (fun t k => st9 t k) ?_
  refine own_stW (B := T9.setTop (mkF m 18 #[.val (.ref a1), .val (.ref a2), .val (.int (0 : Int32)), .val (.int (0 : Int32)), .val .null, .unset] [(.ref a1)])) (fun t k => XS.aloadN X9.here hx rfl (hb hby d10_17) rfl rfl k) ?_
  obtain ⟨b14, T14, h14, kk14, bb14, kc14, X14, e14, E14, hS14, hk14, hZ, hown, A14, C14, V14, R14, -, -, ch14_, -, hne14, st14⟩ := ldcCH (EL := own_EL) (a0 := a0) X9 hx hZ hown (w_105 hw) (own_sA hw) e9 hS2 hk10 (own_ew hw) (List.mem_of_getElem? (i := 2) rfl) ch10.1 (vs := []) (z := (0 : Int32)) ⟨by decide, rfl⟩ (by decide) rfl (g := (mkF m 18 #[.val (.ref a1), .val (.ref a2), .val (.int (0 : Int32)), .val (.int (0 : Int32)), .val .null, .unset] [(.ref a1)])) rfl (hb hby d10_18) (n := 0) (by decide) (by decide) (by decide) (by decide)
  have f16 : Exa Z h9 a1 "java/lang/String" := (f7.wr W9)
  have ch15 := ch10.trans ch14_
  have sf17 := CHr.safe ch14_ f16.lt sf11
  have z18 : n0 ≤ h14.size := Nat.le_trans z12 E14.1
  have kp18 : Keep h0 h14 [a1] := kp12.ext E14
  have fa14 : own_A Z h14 bb14 .byte ([] : List Value) := own_ofArv R14
  refine own_stW (B := T14.setTop (mkF m 20 #[.val (.ref a1), .val (.ref a2), .val (.int (0 : Int32)), .val (.int (0 : Int32)), .val .null, .unset] [(.ref b14), (.ref a1)])) (fun t k => st14 t k) ?_
  obtain ⟨T19, X19, e19, st19⟩ := getF X14 hx hZ hown (host := "") (Or.inl (w_27 hw)) Via.refl e14 C14 (g := (mkF m 20 #[.val (.ref a1), .val (.ref a2), .val (.int (0 : Int32)), .val (.int (0 : Int32)), .val .null, .unset] [(.ref b14), (.ref a1)])) rfl rfl (hb hby d10_20)
  refine own_stW (B := T19.setTop (mkF m 23 #[.val (.ref a1), .val (.ref a2), .val (.int (0 : Int32)), .val (.int (0 : Int32)), .val .null, .unset] [(.int (0 : Int32)), (.ref a1)])) (fun t k => st19 t k) ?_
  have f20 : Exa Z h14 a1 "java/lang/String" := (f16.ext E14)
  have f21 : Fld Z h14 a1 "java/lang/String" "coder" "B" (.int (0 : Int32)) := (((F2.ext E2).other W9 (Or.inr (slot_ne (Or.inr (w_5 hw)) (Or.inr (w_4 hw)) (by decide) (t := .byte) (t' := (.array .byte)) (by decide) (by decide)))).ext E14)
  obtain ⟨T22, h22, X22, e22, W22, st22⟩ := putFN X19 hx hZ hown (w_27 hw) Via.refl e19 f21 f20 (Or.inr ⟨(w_5 hw), rfl, hnm⟩) (w_2 hw) (ty := .byte) (v' := .int (nar .byte (0 : Int32))) (by decide) rfl (fits_nar_byte _) (g := (mkF m 23 #[.val (.ref a1), .val (.ref a2), .val (.int (0 : Int32)), .val (.int (0 : Int32)), .val .null, .unset] [(.int (0 : Int32)), (.ref a1)])) rfl rfl (hb hby d10_23)
  have f22_ : Fld Z h22 a1 "java/lang/String" "coder" "B" (.int (nar .byte (0 : Int32))) := f21.same W22
  have ch23 := ch15.trans (CHr.wr W22 sf17 ch15.1)
  have sf24 := Safe.wr W22 sf17 ch15.1 sf17
  have hk23 := Nat.le_trans hk14 (Keep.of_wr W22).1
  have z25 : n0 ≤ h22.size := Nat.le_trans z18 (Keep.of_wr W22).1
  have kp25 : Keep h0 h22 [a1] := kp18.wr W22 (Or.inl (List.mem_of_getElem? (i := 0) rfl))
  have n26 := Fr.snoc X22 n13 ga
  refine own_stW (B := T22.setTop (mkF m 26 #[.val (.ref a1), .val (.ref a2), .val (.int (0 : Int32)), .val (.int (0 : Int32)), .val .null, .unset] [])) (fun t k => st22 t k) ?_
  have f27 : Fld Z h22 a1 "java/lang/String" "coder" "B" (.int (0 : Int32)) := by have q : nar .byte (0 : Int32) = (0 : Int32) := (by decide); rw [q] at f22_; exact f22_
  refine own_retVW X22 hS14 (show _ ≤ T22.heap.size by rw [e22]; exact hk23) hx hlk Bd.returns (hb hby d10_26) (by decide) (by decide) (show CHr Z own_EL s.vm h0 T22.vm T22.heap by rw [e22]; exact ch23.trans (CHv.at X22 hZ (own_ew hw) ch23.1)) ?_
  show Q10n0 Z a1 a2 h0 n0 _ T22.heap _
  rw [e22]
  have f28 : Exa Z h22 a1 "java/lang/String" := (f20.wr W22)
  have f29 : Fld Z h22 a1 "java/lang/String" "value" "[B" (.ref bb2) := ((f9_.ext E14).other W22 (Or.inr (slot_ne (Or.inr (w_4 hw)) (Or.inr (w_5 hw)) (by decide) (t := (.array .byte)) (t' := .byte) (by decide) (by decide))))
  have f30 : own_A Z h22 bb2 .byte ([] : List Value) := (((fa2.other W9 (Ne.symm (hne2 a1 sf4).2)).ext E14).other W22 (Ne.symm (hne2 a1 sf4).2))
  exact ⟨bb2, rfl, n26, kp25, f28, f29, f27, f30⟩
theorem ef_9n0 (m : MethodId) (x0 : Addr) (x1 : Addr) : entryFrame m #[(.ref x0), (.ref x1)] 2 = mkF m 0 #[.val (.ref x0), .val (.ref x1)] [] := by first | (simp [entryFrame, mkF, argsToLocals, Value.category]; done) | rfl
def Q9n0 (Z : State) (a1 : Addr) (a2 : Addr) (h0 : Heap) (n0 : Nat) (v : Option Value) (h : Heap) (L : List Loc) : Prop := ∃ (b : Addr), v = none ∧ Fr n0 L ∧ Keep h0 h [a1] ∧ Exa Z h a1 "java/lang/String" ∧ Fld Z h a1 "java/lang/String" "value" "[B" (.ref b) ∧ Fld Z h a1 "java/lang/String" "coder" "B" (.int (0 : Int32)) ∧ own_A Z h b .byte ([] : List Value)
set_option maxHeartbeats 40000000 in
theorem rm9n0 (l : Launch) (Z : State) (a0 : Array Value) (hw : ∀ d ∈ tables_1, d.before a0 Z = true) (ws : List Jvm.Cond) (a1 : Addr) (a2 : Addr) (h0 : Heap) (n0 : Nat) (Z0 : n0 ≤ h0.size) (F0 : Exa Z h0 a1 "java/lang/String") (F1 : Fld Z h0 a1 "java/lang/String" "value" "[B" .null) (F2 : Fld Z h0 a1 "java/lang/String" "coder" "B" (.int (0 : Int32))) (F3 : own_A Z h0 a2 .char []) (ga : n0 ≤ a1) :
    MetFree l (⟨"java/lang/String", "<init>", "([C)V"⟩ : MethodName) (head1 (Jvm.Cond.code (⟨"java/lang/String", "<init>", "([C)V"⟩ : MethodName) jdk_42_method_3_code 2 none :: ws) ({ frames := 2, cells := 4, slots := 8, locals := 29 } : Room)) (fun a U => a = #[(.ref a1), (.ref a2)] ∧ Z.Warmed39 U.vm ∧ U.heap = h0 ∧ CHv Z own_EL U.vm h0 ∧ ∀ x ∈ ([a1] : List Addr), Safe Z own_EL U.vm h0 x) (fun _ _ _ _ _ => True) (fun _ U o U' => ∃ v L, o = .returned v ∧ Q9n0 Z a1 a2 h0 n0 v U'.heap L ∧ CHr Z own_EL U.vm h0 U'.vm U'.heap ∧ ReturnedEndW U o U' L ({ frames := 2, cells := 4, slots := 8, locals := 29 } : Room).cells ({ frames := 2, cells := 4, slots := 8, locals := 29 } : Room).slots) := by
  refine MetFree.of_bodySF (plainFor_of_name own_pn2) hisR ?_
  intro p e s m args below meth c s₁ Bd hml0 hP hK
  obtain ⟨rfl, hZ, hh, hCH, hSF⟩ := hP
  have hx := Bd.exec
  have hby := Bd.bytes
  have hml : c.maxLocals = 2 := hml0
  have hlk : meth.locks = false := BodyLoose.notSynchronized Bd
  have hown : s.vm.findClass "java/lang/String" = some m.cls := findClass_of_methodNamed Bd.named
  have hnm := (name_of_methodNamed Bd.named Bd.method).1
  have X0 : Stand p l e ({ frames := 2, cells := 4, slots := 8, locals := 29 } : Room) (s.setVm s.vm) m #[(.ref a1), (.ref a2)] below meth c s₁ [] 0 0 := Stand.of_body Bd
  have e0 : s₁.heap = h0 := by rw [← hh, Bd.state]; rfl
  have N0 := Fr.nil n0
  have hS0 : s.Since s.vm s.heap.size := (State.WarmedH.refl s).since _
  have hk0 : s.heap.size ≤ h0.size := Nat.le_of_eq (congrArg Array.size hh)
  have ch0 : CHr Z own_EL s.vm h0 s.vm h0 := CHr.refl hCH
  show own_GoW p e below s (Q9n0 Z a1 a2 h0 n0) (fun vm h => CHr Z own_EL s.vm h0 vm h) ({ frames := 2, cells := 4, slots := 8, locals := 29 } : Room).cells ({ frames := 2, cells := 4, slots := 8, locals := 29 } : Room).slots _
  refine own_stW (B := s₁.setTop (mkF m 0 #[.val (.ref a1), .val (.ref a2)] [])) (fun t k => castTop (ef_9n0 m (a1) (a2)) k) ?_
  refine own_stW (B := s₁.setTop (mkF m 1 #[.val (.ref a1), .val (.ref a2)] [(.ref a1)])) (fun t k => XS.aloadN X0.here hx rfl (hb hby d9_0) rfl rfl k) ?_
  refine own_stW (B := s₁.setTop (mkF m 2 #[.val (.ref a1), .val (.ref a2)] [(.ref a2), (.ref a1)])) (fun t k => XS.aloadN X0.here hx rfl (hb hby d9_1) rfl rfl k) ?_
  refine own_stW (B := s₁.setTop (mkF m 3 #[.val (.ref a1), .val (.ref a2)] [(.int (0 : Int32)), (.ref a2), (.ref a1)])) (fun t k => XS.iconst X0.here hx rfl (hb hby d9_2) k) ?_
  refine own_stW (B := s₁.setTop (mkF m 4 #[.val (.ref a1), .val (.ref a2)] [(.ref a2), (.int (0 : Int32)), (.ref a2), (.ref a1)])) (fun t k => XS.aloadN X0.here hx rfl (hb hby d9_3) rfl rfl k) ?_
  refine own_stW (B := s₁.setTop (mkF m 5 #[.val (.ref a1), .val (.ref a2)] [(.int (0 : Int32)), (.int (0 : Int32)), (.ref a2), (.ref a1)])) (fun t k => own_len X0 hx hZ e0 F3 (g := (mkF m 4 #[.val (.ref a1), .val (.ref a2)] [(.ref a2), (.int (0 : Int32)), (.ref a2), (.ref a1)])) (n := (0 : Int32)) (show (0 : Int32).toInt = ((0 : Nat) : Int) from by decide) rfl rfl (hb hby d9_4) k) ?_
  refine own_stW (B := s₁.setTop (mkF m 6 #[.val (.ref a1), .val (.ref a2)] [.null, (.int (0 : Int32)), (.int (0 : Int32)), (.ref a2), (.ref a1)])) (fun t k => XS.aconstNull X0.here hx rfl (hb hby d9_5) k) ?_
  obtain ⟨_, _, ⟨T1, L1, k1, j1⟩, -, X1, hs1, hg1, ⟨Lc1, hQ1, l1, y1_, z1_, ch1_⟩, st1⟩ := X0.specialBackS hx (y := (⟨"java/lang/String", "<init>", "([CIILjava/lang/Void;)V"⟩ : MethodName)) rfl hown (mvT hZ (w_53 hw)) (mvT hZ (w_54 hw)) (mvT hZ (w_56 hw)) (by decide) (own_backSH (EL := own_EL) (W := 0) (rm10n0 l Z a0 hw [] a1 a2 h0 n0 Z0 F0 F1 F2 ga) hZ (w_56 hw) (w_1 hw) (by decide) (by decide) (own_ew hw) ch0.1 (allS ⟨F0.lt, (hSF a1 (List.mem_of_getElem? (i := 0) rfl))⟩ all0)) (g := (mkF m 6 #[.val (.ref a1), .val (.ref a2)] [.null, (.int (0 : Int32)), (.int (0 : Int32)), (.ref a2), (.ref a1)])) rfl (by rw [hml]; rfl) (Steps.refl _) (a := a1) (argsL := [(.ref a2), (.int (0 : Int32)), (.int (0 : Int32)), .null]) (rest := []) (lenOf own_pd15 rfl) rfl (by show 2 * 0 + _ ≤ _; exact Nat.le_of_eq rfl) (hb hby d9_6) (fun _ _ => ⟨rfl, e0, (by decide : 0 + 4 ≤ _), (by decide : 0 + 8 ≤ _)⟩)
  dsimp only [Pt.U, Pt.locs, Pt.cells, Pt.slots] at X1 hs1 hg1 ch1_ l1 y1_ z1_ st1 hQ1
  subst l1 y1_ z1_
  obtain ⟨X1, hS1, hZ, hown⟩ := rebS hS0 (show _ ≤ s₁.heap.size by rw [e0]; exact hk0) X1 hs1 hg1 hZ hown
  obtain ⟨b_1, rfl, N1q, K1, p1_0, p1_1, p1_2, p1_3⟩ := hQ1
  have N1 := Fr.app N0 N1q
  have ch2 := ch0.trans ch1_
  have sf3 := CHr.safe ch1_ F0.lt (hSF a1 (List.mem_of_getElem? (i := 0) rfl))
  have z4 : n0 ≤ T1.heap.size := Nat.le_trans Z0 K1.1
  have kp4 : Keep h0 T1.heap [a1] := (Keep.refl h0 [a1]).trans K1 (allS (Or.inl (List.mem_of_getElem? (i := 0) rfl)) all0)
  have q5_ : a1 ≠ b_1 := own_neA p1_0 p1_3 (w_2 hw)
  refine own_ssW (B := T1.setTop (mkF m 9 #[.val (.ref a1), .val (.ref a2)] [])) st1 ?_
  refine own_retVW X1 hS1 (show _ ≤ T1.heap.size by exact (Nat.le_refl _)) hx hlk Bd.returns (hb hby d9_9) (by decide) (by decide) (show CHr Z own_EL s.vm h0 T1.vm T1.heap by exact ch2.trans (CHv.at X1 hZ (own_ew hw) ch2.1)) ?_
  show Q9n0 Z a1 a2 h0 n0 _ T1.heap _
  exact ⟨b_1, rfl, N1, kp4, p1_0, p1_1, p1_2, p1_3⟩
def own_leq (bs ds : List Int32) : Int32 := if bs = ds then 1 else 0
theorem own_leq1 {bs ds : List Int32} (h : ¬ (own_leq bs ds = (0 : Int32))) : own_leq bs ds = 1 := by
  unfold own_leq at h ⊢
  by_cases g : bs = ds
  · rw [if_pos g]
  · rw [if_neg g] at h; exact absurd rfl h
theorem own_ll {bs ds : List Int32} (h : bs.length < 1000) (h' : ds.length < 1000) : (bs.length.toInt32) = (ds.length.toInt32) ↔ bs.length = ds.length := by
  rw [← Int32.toInt_inj, len_toInt (by omega), len_toInt (by omega)]
  omega
theorem own_ext {bs ds : List Int32} (hl : bs.length = ds.length) (h : ∀ j, j < bs.length → bs.getD j 0 = ds.getD j 0) : bs = ds := by
  refine List.ext_getElem hl fun i h1 h2 => ?_
  have q := h i h1
  rw [List.getD_eq_getElem?_getD, List.getD_eq_getElem?_getD, List.getElem?_eq_getElem h1, List.getElem?_eq_getElem h2] at q
  exact q
theorem d16_0 : decode jdk_43_method_13_code 0 = .ok (.aload_n 0, 1) := by decide +kernel
theorem d16_1 : decode jdk_43_method_13_code 1 = .ok (.arraylength, 1) := by decide +kernel
theorem d16_2 : decode jdk_43_method_13_code 2 = .ok (.aload_n 1, 1) := by decide +kernel
theorem d16_3 : decode jdk_43_method_13_code 3 = .ok (.arraylength, 1) := by decide +kernel
theorem d16_4 : decode jdk_43_method_13_code 4 = .ok (.if_icmp .ne 30, 3) := by decide +kernel
theorem d16_7 : decode jdk_43_method_13_code 7 = .ok (.iconst 0, 1) := by decide +kernel
theorem d16_8 : decode jdk_43_method_13_code 8 = .ok (.istore_n 2, 1) := by decide +kernel
theorem d16_9 : decode jdk_43_method_13_code 9 = .ok (.iload_n 2, 1) := by decide +kernel
theorem d16_10 : decode jdk_43_method_13_code 10 = .ok (.aload_n 0, 1) := by decide +kernel
theorem d16_11 : decode jdk_43_method_13_code 11 = .ok (.arraylength, 1) := by decide +kernel
theorem d16_12 : decode jdk_43_method_13_code 12 = .ok (.if_icmp .ge 20, 3) := by decide +kernel
theorem d16_15 : decode jdk_43_method_13_code 15 = .ok (.aload_n 0, 1) := by decide +kernel
theorem d16_16 : decode jdk_43_method_13_code 16 = .ok (.iload_n 2, 1) := by decide +kernel
theorem d16_17 : decode jdk_43_method_13_code 17 = .ok (.baload, 1) := by decide +kernel
theorem d16_18 : decode jdk_43_method_13_code 18 = .ok (.aload_n 1, 1) := by decide +kernel
theorem d16_19 : decode jdk_43_method_13_code 19 = .ok (.iload_n 2, 1) := by decide +kernel
theorem d16_20 : decode jdk_43_method_13_code 20 = .ok (.baload, 1) := by decide +kernel
theorem d16_21 : decode jdk_43_method_13_code 21 = .ok (.if_icmp .eq 5, 3) := by decide +kernel
theorem d16_24 : decode jdk_43_method_13_code 24 = .ok (.iconst 0, 1) := by decide +kernel
theorem d16_25 : decode jdk_43_method_13_code 25 = .ok (.ireturn, 1) := by decide +kernel
theorem d16_26 : decode jdk_43_method_13_code 26 = .ok (.iinc 2 1, 3) := by decide +kernel
theorem d16_29 : decode jdk_43_method_13_code 29 = .ok (.goto (-20), 3) := by decide +kernel
theorem d16_32 : decode jdk_43_method_13_code 32 = .ok (.iconst 1, 1) := by decide +kernel
theorem d16_33 : decode jdk_43_method_13_code 33 = .ok (.ireturn, 1) := by decide +kernel
theorem d16_34 : decode jdk_43_method_13_code 34 = .ok (.iconst 0, 1) := by decide +kernel
theorem d16_35 : decode jdk_43_method_13_code 35 = .ok (.ireturn, 1) := by decide +kernel
theorem ef_16 (m : MethodId) (x0 : Addr) (x1 : Addr) : entryFrame m #[(.ref x0), (.ref x1)] 3 = mkF m 0 #[.val (.ref x0), .val (.ref x1), .unset] [] := by first | (simp [entryFrame, mkF, argsToLocals, Value.category]; done) | rfl
def Q16 (Z : State) (a1 : Addr) (a2 : Addr) (bs : List Int32) (ds : List Int32) (h0 : Heap) (n0 : Nat) (v : Option Value) (h : Heap) (L : List Loc) : Prop := v = some (.int (own_leq bs ds)) ∧ Fr n0 L ∧ h = h0
set_option maxHeartbeats 40000000 in
theorem rm16 (l : Launch) (Z : State) (a0 : Array Value) (hw : ∀ d ∈ tables_1, d.before a0 Z = true) (ws : List Jvm.Cond) (a1 : Addr) (a2 : Addr) (bs : List Int32) (ds : List Int32) (h0 : Heap) (n0 : Nat) (Z0 : n0 ≤ h0.size) (F0 : own_A Z h0 a1 .byte (bs.map Value.int)) (F1 : own_A Z h0 a2 .byte (ds.map Value.int)) (hb1 : bs.length < 1000) (hb2 : ds.length < 1000) :
    MetFree l (⟨"java/lang/StringLatin1", "equals", "([B[B)Z"⟩ : MethodName) (head1 (Jvm.Cond.code (⟨"java/lang/StringLatin1", "equals", "([B[B)Z"⟩ : MethodName) jdk_43_method_13_code 3 (some .boolean) :: ws) ({ frames := 0, cells := 0, slots := 0, locals := 0 } : Room)) (fun a U => a = #[(.ref a1), (.ref a2)] ∧ Z.Warmed39 U.vm ∧ U.heap = h0) (fun _ _ _ _ _ => True) (fun _ U o U' => ∃ v L, o = .returned v ∧ Q16 Z a1 a2 bs ds h0 n0 v U'.heap L ∧ FrameEnd U o U' L ({ frames := 0, cells := 0, slots := 0, locals := 0 } : Room).cells ({ frames := 0, cells := 0, slots := 0, locals := 0 } : Room).slots) := by
  refine MetFree.of_bodySF (plainFor_of_name own_pn3) hisR ?_
  intro p e s m args below meth c s₁ Bd hml0 hP hK
  obtain ⟨rfl, hZ, hh⟩ := hP
  have hx := Bd.exec
  have hby := Bd.bytes
  have hml : c.maxLocals = 3 := hml0
  have hlk : meth.locks = false := BodyLoose.notSynchronized Bd
  have hown : s.vm.findClass "java/lang/StringLatin1" = some m.cls := findClass_of_methodNamed Bd.named
  have hnm := (name_of_methodNamed Bd.named Bd.method).1
  have X0 : Stand p l e ({ frames := 0, cells := 0, slots := 0, locals := 0 } : Room) s m #[(.ref a1), (.ref a2)] below meth c s₁ [] 0 0 := Stand.of_body Bd
  have e0 : s₁.heap = h0 := by rw [← hh, Bd.state]; rfl
  have N0 := Fr.nil n0
  show own_Go p e below s (Q16 Z a1 a2 bs ds h0 n0) ({ frames := 0, cells := 0, slots := 0, locals := 0 } : Room).cells ({ frames := 0, cells := 0, slots := 0, locals := 0 } : Room).slots _
  refine own_st (B := s₁.setTop (mkF m 0 #[.val (.ref a1), .val (.ref a2), .unset] [])) (fun t k => castTop (ef_16 m (a1) (a2)) k) ?_
  refine own_st (B := s₁.setTop (mkF m 1 #[.val (.ref a1), .val (.ref a2), .unset] [(.ref a1)])) (fun t k => XS.aloadN X0.here hx rfl (hb hby d16_0) rfl rfl k) ?_
  refine own_st (B := s₁.setTop (mkF m 2 #[.val (.ref a1), .val (.ref a2), .unset] [(.int (bs.length.toInt32))])) (fun t k => own_len X0 hx hZ e0 F0 (g := (mkF m 1 #[.val (.ref a1), .val (.ref a2), .unset] [(.ref a1)])) (n := (bs.length.toInt32)) (by rw [List.length_map, len_toInt (by omega)]) rfl rfl (hb hby d16_1) k) ?_
  refine own_st (B := s₁.setTop (mkF m 3 #[.val (.ref a1), .val (.ref a2), .unset] [(.ref a2), (.int (bs.length.toInt32))])) (fun t k => XS.aloadN X0.here hx rfl (hb hby d16_2) rfl rfl k) ?_
  refine own_st (B := s₁.setTop (mkF m 4 #[.val (.ref a1), .val (.ref a2), .unset] [(.int (ds.length.toInt32)), (.int (bs.length.toInt32))])) (fun t k => own_len X0 hx hZ e0 F1 (g := (mkF m 3 #[.val (.ref a1), .val (.ref a2), .unset] [(.ref a2), (.int (bs.length.toInt32))])) (n := (ds.length.toInt32)) (by rw [List.length_map, len_toInt (by omega)]) rfl rfl (hb hby d16_3) k) ?_
  by_cases hc1 : (bs.length.toInt32) = (ds.length.toInt32)
  · refine own_st (B := s₁.setTop (mkF m 7 #[.val (.ref a1), .val (.ref a2), .unset] [])) (fun t k => XS.icmpNo X0.here hx rfl (hb hby d16_4) rfl (XT.ii_ne_f hc1) k) ?_
    refine own_st (B := s₁.setTop (mkF m 8 #[.val (.ref a1), .val (.ref a2), .unset] [(.int (0 : Int32))])) (fun t k => XS.iconst X0.here hx rfl (hb hby d16_7) k) ?_
    refine own_st (B := s₁.setTop (mkF m 9 #[.val (.ref a1), .val (.ref a2), .val (.int (0 : Int32))] [])) (fun t k => XS.istoreN X0.here hx rfl (hb hby d16_8) rfl (l' := #[.val (.ref a1), .val (.ref a2), .val (.int (0 : Int32))]) rfl k) ?_
    have hle := (own_ll hb1 hb2).mp hc1
    refine own_cut (P := ∀ (mu2 : Nat) (T2 : State) (lo2 : List Loc) (i : Int32), Stand p l e ({ frames := 0, cells := 0, slots := 0, locals := 0 } : Room) s m #[(.ref a1), (.ref a2)] below meth c T2 lo2 0 0 → T2.heap = h0 → Fr n0 lo2 → mu2 = ((bs.length : Int) - i.toInt).toNat → (0 ≤ i.toInt ∧ i.toInt ≤ (bs.length : Int)) → (∀ j, j < i.toInt.toNat → bs.getD j 0 = ds.getD j 0) → own_Go p e below s (Q16 Z a1 a2 bs ds h0 n0) ({ frames := 0, cells := 0, slots := 0, locals := 0 } : Room).cells ({ frames := 0, cells := 0, slots := 0, locals := 0 } : Room).slots (T2.setTop (mkF m 9 #[.val (.ref a1), .val (.ref a2), .val (.int i)] []))) (fun J2 => ?_) ?_
    · exact J2 _ s₁ _ (0 : Int32) X0 e0 N0 rfl (show 0 ≤ (0 : Int32).toInt ∧ (0 : Int32).toInt ≤ (bs.length : Int) by have h0 : (0 : Int32).toInt = 0 := rfl; omega) (show ∀ j, j < (0 : Int32).toInt.toNat → bs.getD j 0 = ds.getD j 0 by intro j hj; exact absurd hj (Nat.not_lt_zero j))
    intro mu2
    induction mu2 using Nat.strongRecOn with
    | ind mu2 ih2 =>
      intro T2 lo2 i X2 e2 N2 hmu2 hi hp
      refine own_st (B := T2.setTop (mkF m 10 #[.val (.ref a1), .val (.ref a2), .val (.int i)] [(.int i)])) (fun t k => XS.iloadN X2.here hx rfl (hb hby d16_9) rfl k) ?_
      refine own_st (B := T2.setTop (mkF m 11 #[.val (.ref a1), .val (.ref a2), .val (.int i)] [(.ref a1), (.int i)])) (fun t k => XS.aloadN X2.here hx rfl (hb hby d16_10) rfl rfl k) ?_
      refine own_st (B := T2.setTop (mkF m 12 #[.val (.ref a1), .val (.ref a2), .val (.int i)] [(.int (bs.length.toInt32)), (.int i)])) (fun t k => own_len X2 hx hZ e2 F0 (g := (mkF m 11 #[.val (.ref a1), .val (.ref a2), .val (.int i)] [(.ref a1), (.int i)])) (n := (bs.length.toInt32)) (by rw [List.length_map, len_toInt (by omega)]) rfl rfl (hb hby d16_11) k) ?_
      by_cases hc3 : i < (bs.length.toInt32)
      · refine own_st (B := T2.setTop (mkF m 15 #[.val (.ref a1), .val (.ref a2), .val (.int i)] [])) (fun t k => XS.icmpNo X2.here hx rfl (hb hby d16_12) rfl (XT.ii_ge_f hc3) k) ?_
        refine own_st (B := T2.setTop (mkF m 16 #[.val (.ref a1), .val (.ref a2), .val (.int i)] [(.ref a1)])) (fun t k => XS.aloadN X2.here hx rfl (hb hby d16_15) rfl rfl k) ?_
        refine own_st (B := T2.setTop (mkF m 17 #[.val (.ref a1), .val (.ref a2), .val (.int i)] [(.int i), (.ref a1)])) (fun t k => XS.iloadN X2.here hx rfl (hb hby d16_16) rfl k) ?_
        refine own_st (B := T2.setTop (mkF m 18 #[.val (.ref a1), .val (.ref a2), .val (.int i)] [(.int (bs.getD i.toInt.toNat 0))])) (fun t k => own_ldB X2 hx hZ e2 F0 (g := (mkF m 17 #[.val (.ref a1), .val (.ref a2), .val (.int i)] [(.int i), (.ref a1)])) (i := (i.toInt.toNat)) (own_nat (by omega)) (own_getI (by have h9 := Int32.lt_iff_toInt_lt.mp hc3; rw [len_toInt (by omega)] at h9; omega)) rfl rfl (hb hby d16_17) k) ?_
        refine own_st (B := T2.setTop (mkF m 19 #[.val (.ref a1), .val (.ref a2), .val (.int i)] [(.ref a2), (.int (bs.getD i.toInt.toNat 0))])) (fun t k => XS.aloadN X2.here hx rfl (hb hby d16_18) rfl rfl k) ?_
        refine own_st (B := T2.setTop (mkF m 20 #[.val (.ref a1), .val (.ref a2), .val (.int i)] [(.int i), (.ref a2), (.int (bs.getD i.toInt.toNat 0))])) (fun t k => XS.iloadN X2.here hx rfl (hb hby d16_19) rfl k) ?_
        refine own_st (B := T2.setTop (mkF m 21 #[.val (.ref a1), .val (.ref a2), .val (.int i)] [(.int (ds.getD i.toInt.toNat 0)), (.int (bs.getD i.toInt.toNat 0))])) (fun t k => own_ldB X2 hx hZ e2 F1 (g := (mkF m 20 #[.val (.ref a1), .val (.ref a2), .val (.int i)] [(.int i), (.ref a2), (.int (bs.getD i.toInt.toNat 0))])) (i := (i.toInt.toNat)) (own_nat (by omega)) (own_getI (by have h9 := Int32.lt_iff_toInt_lt.mp hc3; rw [len_toInt (by omega)] at h9; omega)) rfl rfl (hb hby d16_20) k) ?_
        by_cases hc4 : (bs.getD i.toInt.toNat 0) = (ds.getD i.toInt.toNat 0)
        · refine own_st (B := T2.setTop (mkF m 26 #[.val (.ref a1), .val (.ref a2), .val (.int i)] [])) (fun t k => XS.icmpYes X2.here hx rfl (pc0 := 21) (pc' := 26) rfl (hb hby d16_21) rfl (XT.ii_eq_t hc4) (by decide) (by decide) k) ?_
          refine own_st (B := T2.setTop (mkF m 29 #[.val (.ref a1), .val (.ref a2), .val (.int (i + (1 : Int32)))] [])) (fun t k => XS.iinc X2.here hx rfl (hb hby d16_26) rfl (l' := #[.val (.ref a1), .val (.ref a2), .val (.int (i + (1 : Int32)))]) rfl k) ?_
          refine own_st (B := T2.setTop (mkF m 9 #[.val (.ref a1), .val (.ref a2), .val (.int (i + (1 : Int32)))] [])) (fun t k => XS.goto X2.here hx rfl (pc0 := 29) (pc' := 9) rfl (hb hby d16_29) (by decide) (by decide) k) ?_
          have hlt : i.toInt < (bs.length : Int) := by have h9 := Int32.lt_iff_toInt_lt.mp hc3; rw [len_toInt (by omega)] at h9; exact h9
          have hi1 : (i + (1 : Int32)).toInt = i.toInt + 1 := by have h1 := c_iadd i 1; have h2 := rng32 (i + 1); have h3 : (1 : Int32).toInt = 1 := rfl; omega
          exact ih2 _ (by rw [hi1]; omega) T2 _ ((i + (1 : Int32))) X2 e2 N2 rfl (show 0 ≤ (i + (1 : Int32)).toInt ∧ (i + (1 : Int32)).toInt ≤ (bs.length : Int) by rw [hi1]; omega) (show ∀ j, j < (i + (1 : Int32)).toInt.toNat → bs.getD j 0 = ds.getD j 0 by intro j hj; exact (Nat.lt_or_ge j i.toInt.toNat).elim (fun g => hp j g) (fun g => by have e9 : j = i.toInt.toNat := (by rw [hi1] at hj; omega); rw [e9]; exact hc4))
        · refine own_st (B := T2.setTop (mkF m 24 #[.val (.ref a1), .val (.ref a2), .val (.int i)] [])) (fun t k => XS.icmpNo X2.here hx rfl (hb hby d16_21) rfl (XT.ii_eq_f hc4) k) ?_
          refine own_st (B := T2.setTop (mkF m 25 #[.val (.ref a1), .val (.ref a2), .val (.int i)] [(.int (0 : Int32))])) (fun t k => XS.iconst X2.here hx rfl (hb hby d16_24) k) ?_
          refine own_retN X2 hx hlk (t := .boolean) Bd.returns (by simp) (z' := (0 : Int32)) rfl (hb hby d16_25) (by decide) (by decide) ?_
          show Q16 Z a1 a2 bs ds h0 n0 _ T2.heap _
          rw [e2]
          exact ⟨(by have hn : ¬ (bs = ds) := fun q => hc4 (by rw [q]); unfold own_leq; rw [if_neg hn]), N2, rfl⟩
      · refine own_st (B := T2.setTop (mkF m 32 #[.val (.ref a1), .val (.ref a2), .val (.int i)] [])) (fun t k => XS.icmpYes X2.here hx rfl (pc0 := 12) (pc' := 32) rfl (hb hby d16_12) rfl (XT.ii_ge_t hc3) (by decide) (by decide) k) ?_
        refine own_st (B := T2.setTop (mkF m 33 #[.val (.ref a1), .val (.ref a2), .val (.int i)] [(.int (1 : Int32))])) (fun t k => XS.iconst X2.here hx rfl (hb hby d16_32) k) ?_
        refine own_retN X2 hx hlk (t := .boolean) Bd.returns (by simp) (z' := (1 : Int32)) rfl (hb hby d16_33) (by decide) (by decide) ?_
        show Q16 Z a1 a2 bs ds h0 n0 _ T2.heap _
        rw [e2]
        exact ⟨(by have hn : bs = ds := own_ext hle fun j hj => hp j (by have h9 : ¬ _ := fun q => hc3 (Int32.lt_iff_toInt_lt.mpr q); rw [len_toInt (by omega)] at h9; omega); unfold own_leq; rw [if_pos hn]), N2, rfl⟩
  · refine own_st (B := s₁.setTop (mkF m 34 #[.val (.ref a1), .val (.ref a2), .unset] [])) (fun t k => XS.icmpYes X0.here hx rfl (pc0 := 4) (pc' := 34) rfl (hb hby d16_4) rfl (XT.ii_ne_t hc1) (by decide) (by decide) k) ?_
    refine own_st (B := s₁.setTop (mkF m 35 #[.val (.ref a1), .val (.ref a2), .unset] [(.int (0 : Int32))])) (fun t k => XS.iconst X0.here hx rfl (hb hby d16_34) k) ?_
    refine own_retN X0 hx hlk (t := .boolean) Bd.returns (by simp) (z' := (0 : Int32)) rfl (hb hby d16_35) (by decide) (by decide) ?_
    show Q16 Z a1 a2 bs ds h0 n0 _ s₁.heap _
    rw [e0]
    exact ⟨(by have hn : ¬ (bs = ds) := fun q => hc1 ((own_ll hb1 hb2).mpr (by rw [q])); unfold own_leq; rw [if_neg hn]), N0, rfl⟩
theorem d15_0 : decode jdk_42_method_66_code 0 = .ok (.aload_n 0, 1) := by decide +kernel
theorem d15_1 : decode jdk_42_method_66_code 1 = .ok (.aload_n 1, 1) := by decide +kernel
theorem d15_2 : decode jdk_42_method_66_code 2 = .ok (.if_acmp .ne 5, 3) := by decide +kernel
theorem d15_7 : decode jdk_42_method_66_code 7 = .ok (.aload_n 1, 1) := by decide +kernel
theorem d15_8 : decode jdk_42_method_66_code 8 = .ok (.instanceof 10, 3) := by decide +kernel
theorem d15_11 : decode jdk_42_method_66_code 11 = .ok (.ifCond .eq 43, 3) := by decide +kernel
theorem d15_54 : decode jdk_42_method_66_code 54 = .ok (.iconst 0, 1) := by decide +kernel
theorem d15_55 : decode jdk_42_method_66_code 55 = .ok (.ireturn, 1) := by decide +kernel
theorem ef_15n (m : MethodId) (x0 : Addr) : entryFrame m #[(.ref x0), .null] 3 = mkF m 0 #[.val (.ref x0), .val .null, .unset] [] := by first | (simp [entryFrame, mkF, argsToLocals, Value.category]; done) | rfl
def Q15n (Z : State) (a1 : Addr) (h0 : Heap) (n0 : Nat) (v : Option Value) (h : Heap) (L : List Loc) : Prop := v = some (.int (0 : Int32)) ∧ Fr n0 L ∧ h = h0
set_option maxHeartbeats 40000000 in
theorem rm15n (l : Launch) (Z : State) (a0 : Array Value) (hw : ∀ d ∈ tables_1, d.before a0 Z = true) (ws : List Jvm.Cond) (a1 : Addr) (h0 : Heap) (n0 : Nat) (Z0 : n0 ≤ h0.size) :
    MetFree l (⟨"java/lang/String", "equals", "(Ljava/lang/Object;)Z"⟩ : MethodName) (head1 (Jvm.Cond.code (⟨"java/lang/String", "equals", "(Ljava/lang/Object;)Z"⟩ : MethodName) jdk_42_method_66_code 3 (some .boolean) :: ws) ({ frames := 0, cells := 0, slots := 0, locals := 0 } : Room)) (fun a U => a = #[(.ref a1), .null] ∧ Z.Warmed39 U.vm ∧ U.heap = h0) (fun _ _ _ _ _ => True) (fun _ U o U' => ∃ v L, o = .returned v ∧ Q15n Z a1 h0 n0 v U'.heap L ∧ FrameEnd U o U' L ({ frames := 0, cells := 0, slots := 0, locals := 0 } : Room).cells ({ frames := 0, cells := 0, slots := 0, locals := 0 } : Room).slots) := by
  refine MetFree.of_bodySF (plainFor_of_name own_pn2) hisR ?_
  intro p e s m args below meth c s₁ Bd hml0 hP hK
  obtain ⟨rfl, hZ, hh⟩ := hP
  have hx := Bd.exec
  have hby := Bd.bytes
  have hml : c.maxLocals = 3 := hml0
  have hlk : meth.locks = false := BodyLoose.notSynchronized Bd
  have hown : s.vm.findClass "java/lang/String" = some m.cls := findClass_of_methodNamed Bd.named
  have hnm := (name_of_methodNamed Bd.named Bd.method).1
  have X0 : Stand p l e ({ frames := 0, cells := 0, slots := 0, locals := 0 } : Room) s m #[(.ref a1), .null] below meth c s₁ [] 0 0 := Stand.of_body Bd
  have e0 : s₁.heap = h0 := by rw [← hh, Bd.state]; rfl
  have N0 := Fr.nil n0
  show own_Go p e below s (Q15n Z a1 h0 n0) ({ frames := 0, cells := 0, slots := 0, locals := 0 } : Room).cells ({ frames := 0, cells := 0, slots := 0, locals := 0 } : Room).slots _
  refine own_st (B := s₁.setTop (mkF m 0 #[.val (.ref a1), .val .null, .unset] [])) (fun t k => castTop (ef_15n m (a1)) k) ?_
  refine own_st (B := s₁.setTop (mkF m 1 #[.val (.ref a1), .val .null, .unset] [(.ref a1)])) (fun t k => XS.aloadN X0.here hx rfl (hb hby d15_0) rfl rfl k) ?_
  refine own_st (B := s₁.setTop (mkF m 2 #[.val (.ref a1), .val .null, .unset] [.null, (.ref a1)])) (fun t k => XS.aloadN X0.here hx rfl (hb hby d15_1) rfl rfl k) ?_
  refine own_st (B := s₁.setTop (mkF m 7 #[.val (.ref a1), .val .null, .unset] [])) (fun t k => Jvm.RoadKit.acmp (g := (mkF m 2 #[.val (.ref a1), .val .null, .unset] [.null, (.ref a1)])) X0 hx rfl rfl rfl (pc0 := 2) (pc' := 7) (same := false) rfl (hb hby d15_2) rfl (decide_eq_false nofun) (by decide) (by decide) k) ?_
  refine own_st (B := s₁.setTop (mkF m 8 #[.val (.ref a1), .val .null, .unset] [.null])) (fun t k => XS.aloadN X0.here hx rfl (hb hby d15_7) rfl rfl k) ?_
  refine own_st (B := s₁.setTop (mkF m 11 #[.val (.ref a1), .val .null, .unset] [(.int (0 : Int32))])) (fun t k => X0.instanceofNull hx (g := (mkF m 8 #[.val (.ref a1), .val .null, .unset] [.null])) rfl rfl (hb hby d15_8) _ k) ?_
  refine own_st (B := s₁.setTop (mkF m 54 #[.val (.ref a1), .val .null, .unset] [])) (fun t k => XS.ifYes X0.here hx rfl (pc0 := 11) (pc' := 54) rfl (hb hby d15_11) rfl (by decide) (by decide) (by decide) k) ?_
  refine own_st (B := s₁.setTop (mkF m 55 #[.val (.ref a1), .val .null, .unset] [(.int (0 : Int32))])) (fun t k => XS.iconst X0.here hx rfl (hb hby d15_54) k) ?_
  refine own_retN X0 hx hlk (t := .boolean) Bd.returns (by simp) (z' := (0 : Int32)) rfl (hb hby d15_55) (by decide) (by decide) ?_
  show Q15n Z a1 h0 n0 _ s₁.heap _
  rw [e0]
  exact ⟨rfl, N0, rfl⟩
theorem own_pd16 : parseMethodDescriptor "([B[B)Z" = some ⟨[(.array .byte), (.array .byte)], some .boolean⟩ := by decide +kernel
theorem d15_14 : decode jdk_42_method_66_code 14 = .ok (.aload_n 1, 1) := by decide +kernel
theorem d15_15 : decode jdk_42_method_66_code 15 = .ok (.checkcast 10, 3) := by decide +kernel
theorem d15_18 : decode jdk_42_method_66_code 18 = .ok (.astore_n 2, 1) := by decide +kernel
theorem d15_19 : decode jdk_42_method_66_code 19 = .ok (.getstatic 38, 3) := by decide +kernel
theorem d15_22 : decode jdk_42_method_66_code 22 = .ok (.ifCond .eq 14, 3) := by decide +kernel
theorem d15_25 : decode jdk_42_method_66_code 25 = .ok (.aload_n 0, 1) := by decide +kernel
theorem d15_26 : decode jdk_42_method_66_code 26 = .ok (.getfield 15, 3) := by decide +kernel
theorem d15_29 : decode jdk_42_method_66_code 29 = .ok (.aload_n 2, 1) := by decide +kernel
theorem d15_30 : decode jdk_42_method_66_code 30 = .ok (.getfield 15, 3) := by decide +kernel
theorem d15_33 : decode jdk_42_method_66_code 33 = .ok (.if_icmp .ne 21, 3) := by decide +kernel
theorem d15_36 : decode jdk_42_method_66_code 36 = .ok (.aload_n 0, 1) := by decide +kernel
theorem d15_37 : decode jdk_42_method_66_code 37 = .ok (.getfield 9, 3) := by decide +kernel
theorem d15_40 : decode jdk_42_method_66_code 40 = .ok (.aload_n 2, 1) := by decide +kernel
theorem d15_41 : decode jdk_42_method_66_code 41 = .ok (.getfield 9, 3) := by decide +kernel
theorem d15_44 : decode jdk_42_method_66_code 44 = .ok (.invokestatic 541, 3) := by decide +kernel
theorem d15_47 : decode jdk_42_method_66_code 47 = .ok (.ifCond .eq 7, 3) := by decide +kernel
theorem d15_50 : decode jdk_42_method_66_code 50 = .ok (.iconst 1, 1) := by decide +kernel
theorem d15_51 : decode jdk_42_method_66_code 51 = .ok (.goto 4, 3) := by decide +kernel
theorem ef_15d (m : MethodId) (x0 : Addr) (x1 : Addr) : entryFrame m #[(.ref x0), (.ref x1)] 3 = mkF m 0 #[.val (.ref x0), .val (.ref x1), .unset] [] := by first | (simp [entryFrame, mkF, argsToLocals, Value.category]; done) | rfl
def Q15d (Z : State) (a1 : Addr) (a2 : Addr) (b1 : Addr) (b2 : Addr) (bs : List Int32) (ds : List Int32) (cs : Int32) (h0 : Heap) (n0 : Nat) (v : Option Value) (h : Heap) (L : List Loc) : Prop := v = some (.int (own_leq bs ds)) ∧ Fr n0 L ∧ h = h0
set_option maxHeartbeats 40000000 in
theorem rm15d (l : Launch) (Z : State) (a0 : Array Value) (hw : ∀ d ∈ tables_1, d.before a0 Z = true) (ws : List Jvm.Cond) (a1 : Addr) (a2 : Addr) (b1 : Addr) (b2 : Addr) (bs : List Int32) (ds : List Int32) (cs : Int32) (h0 : Heap) (n0 : Nat) (Z0 : n0 ≤ h0.size) (F0 : Exa Z h0 a1 "java/lang/String") (F1 : Exa Z h0 a2 "java/lang/String") (F2 : Fld Z h0 a1 "java/lang/String" "coder" "B" (.int (0 : Int32))) (F3 : Fld Z h0 a1 "java/lang/String" "value" "[B" (.ref b1)) (F4 : Fld Z h0 a2 "java/lang/String" "coder" "B" (.int (0 : Int32))) (F5 : Fld Z h0 a2 "java/lang/String" "value" "[B" (.ref b2)) (F6 : own_A Z h0 b1 .byte (bs.map Value.int)) (F7 : own_A Z h0 b2 .byte (ds.map Value.int)) (F8 : Sta Z h0 "java/lang/String" "COMPACT_STRINGS" "Z" (.int cs)) (nn : a1 ≠ a2) (hcs : ¬ (cs = (0 : Int32))) (hb1 : bs.length < 1000) (hb2 : ds.length < 1000) :
    MetFree l (⟨"java/lang/String", "equals", "(Ljava/lang/Object;)Z"⟩ : MethodName) (head1 (Jvm.Cond.code (⟨"java/lang/String", "equals", "(Ljava/lang/Object;)Z"⟩ : MethodName) jdk_42_method_66_code 3 (some .boolean) :: ws) ({ frames := 1, cells := 0, slots := 0, locals := 14 } : Room)) (fun a U => a = #[(.ref a1), (.ref a2)] ∧ Z.Warmed39 U.vm ∧ U.heap = h0) (fun _ _ _ _ _ => True) (fun _ U o U' => ∃ v L, o = .returned v ∧ Q15d Z a1 a2 b1 b2 bs ds cs h0 n0 v U'.heap L ∧ FrameEnd U o U' L ({ frames := 1, cells := 0, slots := 0, locals := 14 } : Room).cells ({ frames := 1, cells := 0, slots := 0, locals := 14 } : Room).slots) := by
  refine MetFree.of_bodySF (plainFor_of_name own_pn2) hisR ?_
  intro p e s m args below meth c s₁ Bd hml0 hP hK
  obtain ⟨rfl, hZ, hh⟩ := hP
  have hx := Bd.exec
  have hby := Bd.bytes
  have hml : c.maxLocals = 3 := hml0
  have hlk : meth.locks = false := BodyLoose.notSynchronized Bd
  have hown : s.vm.findClass "java/lang/String" = some m.cls := findClass_of_methodNamed Bd.named
  have hnm := (name_of_methodNamed Bd.named Bd.method).1
  have X0 : Stand p l e ({ frames := 1, cells := 0, slots := 0, locals := 14 } : Room) s m #[(.ref a1), (.ref a2)] below meth c s₁ [] 0 0 := Stand.of_body Bd
  have e0 : s₁.heap = h0 := by rw [← hh, Bd.state]; rfl
  have N0 := Fr.nil n0
  show own_Go p e below s (Q15d Z a1 a2 b1 b2 bs ds cs h0 n0) ({ frames := 1, cells := 0, slots := 0, locals := 14 } : Room).cells ({ frames := 1, cells := 0, slots := 0, locals := 14 } : Room).slots _
  refine own_st (B := s₁.setTop (mkF m 0 #[.val (.ref a1), .val (.ref a2), .unset] [])) (fun t k => castTop (ef_15d m (a1) (a2)) k) ?_
  refine own_st (B := s₁.setTop (mkF m 1 #[.val (.ref a1), .val (.ref a2), .unset] [(.ref a1)])) (fun t k => XS.aloadN X0.here hx rfl (hb hby d15_0) rfl rfl k) ?_
  refine own_st (B := s₁.setTop (mkF m 2 #[.val (.ref a1), .val (.ref a2), .unset] [(.ref a2), (.ref a1)])) (fun t k => XS.aloadN X0.here hx rfl (hb hby d15_1) rfl rfl k) ?_
  refine own_st (B := s₁.setTop (mkF m 7 #[.val (.ref a1), .val (.ref a2), .unset] [])) (fun t k => Jvm.RoadKit.acmp (g := (mkF m 2 #[.val (.ref a1), .val (.ref a2), .unset] [(.ref a2), (.ref a1)])) X0 hx rfl rfl rfl (pc0 := 2) (pc' := 7) (same := false) rfl (hb hby d15_2) rfl (decide_eq_false fun q => nn (Value.ref.inj q)) (by decide) (by decide) k) ?_
  refine own_st (B := s₁.setTop (mkF m 8 #[.val (.ref a1), .val (.ref a2), .unset] [(.ref a2)])) (fun t k => XS.aloadN X0.here hx rfl (hb hby d15_7) rfl rfl k) ?_
  obtain ⟨T1, X1, e1, st1⟩ := instY X0 hx hZ hown (w_75 hw) e0 (Ins.self F1) (g := (mkF m 8 #[.val (.ref a1), .val (.ref a2), .unset] [(.ref a2)])) rfl rfl (hb hby d15_8)
  refine own_st (B := T1.setTop (mkF m 11 #[.val (.ref a1), .val (.ref a2), .unset] [(.int (1 : Int32))])) (fun t k => st1 t k) ?_
  refine own_st (B := T1.setTop (mkF m 14 #[.val (.ref a1), .val (.ref a2), .unset] [])) (fun t k => XS.ifNo X1.here hx rfl (hb hby d15_11) rfl (by decide) k) ?_
  refine own_st (B := T1.setTop (mkF m 15 #[.val (.ref a1), .val (.ref a2), .unset] [(.ref a2)])) (fun t k => XS.aloadN X1.here hx rfl (hb hby d15_14) rfl rfl k) ?_
  obtain ⟨T2, X2, e2, st2⟩ := castY X1 hx hZ hown (w_75 hw) e1 (Ins.self F1) (g := (mkF m 15 #[.val (.ref a1), .val (.ref a2), .unset] [(.ref a2)])) rfl rfl (hb hby d15_15)
  refine own_st (B := T2.setTop (mkF m 18 #[.val (.ref a1), .val (.ref a2), .unset] [(.ref a2)])) (fun t k => st2 t k) ?_
  refine own_st (B := T2.setTop (mkF m 19 #[.val (.ref a1), .val (.ref a2), .val (.ref a2)] [])) (fun t k => XS.astoreN X2.here hx rfl (hb hby d15_18) rfl rfl (l' := #[.val (.ref a1), .val (.ref a2), .val (.ref a2)]) rfl k) ?_
  obtain ⟨T3, X3, e3, st3⟩ := getS2 X2 hx hZ hown (host := "") (Or.inl (w_26 hw)) Via.refl e2 F8 (g := (mkF m 19 #[.val (.ref a1), .val (.ref a2), .val (.ref a2)] [])) rfl (hb hby d15_19)
  refine own_st (B := T3.setTop (mkF m 22 #[.val (.ref a1), .val (.ref a2), .val (.ref a2)] [(.int cs)])) (fun t k => st3 t k) ?_
  refine own_st (B := T3.setTop (mkF m 25 #[.val (.ref a1), .val (.ref a2), .val (.ref a2)] [])) (fun t k => XS.ifNo X3.here hx rfl (hb hby d15_22) rfl (XT.i0_eq_f hcs) k) ?_
  refine own_st (B := T3.setTop (mkF m 26 #[.val (.ref a1), .val (.ref a2), .val (.ref a2)] [(.ref a1)])) (fun t k => XS.aloadN X3.here hx rfl (hb hby d15_25) rfl rfl k) ?_
  obtain ⟨T4, X4, e4, st4⟩ := getF X3 hx hZ hown (host := "") (Or.inl (w_27 hw)) Via.refl e3 F2 (g := (mkF m 26 #[.val (.ref a1), .val (.ref a2), .val (.ref a2)] [(.ref a1)])) rfl rfl (hb hby d15_26)
  refine own_st (B := T4.setTop (mkF m 29 #[.val (.ref a1), .val (.ref a2), .val (.ref a2)] [(.int (0 : Int32))])) (fun t k => st4 t k) ?_
  refine own_st (B := T4.setTop (mkF m 30 #[.val (.ref a1), .val (.ref a2), .val (.ref a2)] [(.ref a2), (.int (0 : Int32))])) (fun t k => XS.aloadN X4.here hx rfl (hb hby d15_29) rfl rfl k) ?_
  obtain ⟨T5, X5, e5, st5⟩ := getF X4 hx hZ hown (host := "") (Or.inl (w_27 hw)) Via.refl e4 F4 (g := (mkF m 30 #[.val (.ref a1), .val (.ref a2), .val (.ref a2)] [(.ref a2), (.int (0 : Int32))])) rfl rfl (hb hby d15_30)
  refine own_st (B := T5.setTop (mkF m 33 #[.val (.ref a1), .val (.ref a2), .val (.ref a2)] [(.int (0 : Int32)), (.int (0 : Int32))])) (fun t k => st5 t k) ?_
  refine own_st (B := T5.setTop (mkF m 36 #[.val (.ref a1), .val (.ref a2), .val (.ref a2)] [])) (fun t k => XS.icmpNo X5.here hx rfl (hb hby d15_33) rfl (by decide) k) ?_
  refine own_st (B := T5.setTop (mkF m 37 #[.val (.ref a1), .val (.ref a2), .val (.ref a2)] [(.ref a1)])) (fun t k => XS.aloadN X5.here hx rfl (hb hby d15_36) rfl rfl k) ?_
  obtain ⟨T6, X6, e6, st6⟩ := getF X5 hx hZ hown (host := "") (Or.inl (w_20 hw)) Via.refl e5 F3 (g := (mkF m 37 #[.val (.ref a1), .val (.ref a2), .val (.ref a2)] [(.ref a1)])) rfl rfl (hb hby d15_37)
  refine own_st (B := T6.setTop (mkF m 40 #[.val (.ref a1), .val (.ref a2), .val (.ref a2)] [(.ref b1)])) (fun t k => st6 t k) ?_
  refine own_st (B := T6.setTop (mkF m 41 #[.val (.ref a1), .val (.ref a2), .val (.ref a2)] [(.ref a2), (.ref b1)])) (fun t k => XS.aloadN X6.here hx rfl (hb hby d15_40) rfl rfl k) ?_
  obtain ⟨T7, X7, e7, st7⟩ := getF X6 hx hZ hown (host := "") (Or.inl (w_20 hw)) Via.refl e6 F5 (g := (mkF m 41 #[.val (.ref a1), .val (.ref a2), .val (.ref a2)] [(.ref a2), (.ref b1)])) rfl rfl (hb hby d15_41)
  refine own_st (B := T7.setTop (mkF m 44 #[.val (.ref a1), .val (.ref a2), .val (.ref a2)] [(.ref b2), (.ref b1)])) (fun t k => st7 t k) ?_
  obtain ⟨_, _, ⟨T8, L8, k8, j8⟩, -, X8, ⟨Lc8, hQ8, l8, y8_, z8_⟩, st8⟩ := Jvm.LawKit.callS X7 hx (y := (⟨"java/lang/StringLatin1", "equals", "([B[B)Z"⟩ : MethodName)) hown (mvT hZ (w_76 hw)) (mvT hZ (w_77 hw)) (mvT hZ (w_40 hw)) (mvT hZ (w_78 hw)) (by decide) (backOf (W := 0) (rm16 l Z a0 hw [] b1 b2 bs ds h0 n0 Z0 F6 F7 hb1 hb2) hZ (w_78 hw) (w_40 hw) (by decide) (by decide)) (g := (mkF m 44 #[.val (.ref a1), .val (.ref a2), .val (.ref a2)] [(.ref b2), (.ref b1)])) rfl (by rw [hml]; rfl) (argsL := [(.ref b1), (.ref b2)]) (rest := []) (lenOf own_pd16 rfl) rfl (by show 2 * 0 + _ ≤ _; exact Nat.le_of_eq rfl) (hb hby d15_44) (fun _ _ => ⟨rfl, e7, (by decide : 0 + 0 ≤ _), (by decide : 0 + 0 ≤ _)⟩)
  dsimp only [Pt.U, Pt.locs, Pt.cells, Pt.slots] at X8 l8 y8_ z8_ st8 hQ8
  subst l8 y8_ z8_
  obtain ⟨rfl, N8q, e8q⟩ := hQ8
  have N8 := Fr.app N0 N8q
  refine own_st (B := T8.setTop (mkF m 47 #[.val (.ref a1), .val (.ref a2), .val (.ref a2)] [(.int (own_leq bs ds))])) (fun t k => st8 t k) ?_
  by_cases hc9 : (own_leq bs ds) = (0 : Int32)
  · refine own_st (B := T8.setTop (mkF m 54 #[.val (.ref a1), .val (.ref a2), .val (.ref a2)] [])) (fun t k => XS.ifYes X8.here hx rfl (pc0 := 47) (pc' := 54) rfl (hb hby d15_47) rfl (XT.i0_eq_t hc9) (by decide) (by decide) k) ?_
    refine own_st (B := T8.setTop (mkF m 55 #[.val (.ref a1), .val (.ref a2), .val (.ref a2)] [(.int (0 : Int32))])) (fun t k => XS.iconst X8.here hx rfl (hb hby d15_54) k) ?_
    refine own_retN X8 hx hlk (t := .boolean) Bd.returns (by simp) (z' := (0 : Int32)) rfl (hb hby d15_55) (by decide) (by decide) ?_
    show Q15d Z a1 a2 b1 b2 bs ds cs h0 n0 _ T8.heap _
    rw [e8q]
    exact ⟨(by rw [hc9]), N8, rfl⟩
  · refine own_st (B := T8.setTop (mkF m 50 #[.val (.ref a1), .val (.ref a2), .val (.ref a2)] [])) (fun t k => XS.ifNo X8.here hx rfl (hb hby d15_47) rfl (XT.i0_eq_f hc9) k) ?_
    refine own_st (B := T8.setTop (mkF m 51 #[.val (.ref a1), .val (.ref a2), .val (.ref a2)] [(.int (1 : Int32))])) (fun t k => XS.iconst X8.here hx rfl (hb hby d15_50) k) ?_
    refine own_st (B := T8.setTop (mkF m 55 #[.val (.ref a1), .val (.ref a2), .val (.ref a2)] [(.int (1 : Int32))])) (fun t k => XS.goto X8.here hx rfl (pc0 := 51) (pc' := 55) rfl (hb hby d15_51) (by decide) (by decide) k) ?_
    refine own_retN X8 hx hlk (t := .boolean) Bd.returns (by simp) (z' := (1 : Int32)) rfl (hb hby d15_55) (by decide) (by decide) ?_
    show Q15d Z a1 a2 b1 b2 bs ds cs h0 n0 _ T8.heap _
    rw [e8q]
    exact ⟨(by rw [own_leq1 hc9]), N8, rfl⟩
theorem own_pn6 : plainName "com/example/goodput/goodput/DeliveryMode" = true := by first | (simp [plainName, overriddenIn]; done) | decide +kernel
theorem d18_0 : decode prog_10_method_1_code 0 = .ok (.getstatic 10, 3) := by decide +kernel
theorem d18_3 : decode prog_10_method_1_code 3 = .ok (.invokevirtual 14, 3) := by decide +kernel
theorem d18_6 : decode prog_10_method_1_code 6 = .ok (.checkcast 15, 3) := by decide +kernel
theorem d18_9 : decode prog_10_method_1_code 9 = .ok (.areturn, 1) := by decide +kernel
theorem ef_18 (m : MethodId)  : entryFrame m #[] 0 = mkF m 0 #[] [] := by first | (simp [entryFrame, mkF, argsToLocals, Value.category]; done) | rfl
def Q18 (Z : State) (va : Addr) (r1 : Addr) (r2 : Addr) (h0 : Heap) (n0 : Nat) (v : Option Value) (h : Heap) (L : List Loc) : Prop := ∃ (b : Addr), v = some (.ref b) ∧ Fr n0 L ∧ Keep h0 h [] ∧ n0 ≤ b ∧ h0.size ≤ b ∧ own_A Z h b (.object "com/example/goodput/goodput/DeliveryMode") [(.ref r1), (.ref r2)]
set_option maxHeartbeats 40000000 in
theorem rm18 (l : Launch) (Z : State) (a0 : Array Value) (hw : ∀ d ∈ tables_1, d.before a0 Z = true) (ws : List Jvm.Cond) (va : Addr) (r1 : Addr) (r2 : Addr) (h0 : Heap) (n0 : Nat) (Z0 : n0 ≤ h0.size) (F0 : Sta Z h0 "com/example/goodput/goodput/DeliveryMode" "$VALUES" "[Lcom/example/goodput/goodput/DeliveryMode;" (.ref va)) (F1 : Exa Z h0 va "[Lcom/example/goodput/goodput/DeliveryMode;") (F2 : own_A Z h0 va (.object "com/example/goodput/goodput/DeliveryMode") [(.ref r1), (.ref r2)]) :
    MetFree l (⟨"com/example/goodput/goodput/DeliveryMode", "values", "()[Lcom/example/goodput/goodput/DeliveryMode;"⟩ : MethodName) (head1 (Jvm.Cond.code (⟨"com/example/goodput/goodput/DeliveryMode", "values", "()[Lcom/example/goodput/goodput/DeliveryMode;"⟩ : MethodName) prog_10_method_1_code 0 (some (.array (.object "com/example/goodput/goodput/DeliveryMode"))) :: ws) ({ frames := 1, cells := 1, slots := 2, locals := 14 } : Room)) (fun a U => a = #[] ∧ Z.Warmed39 U.vm ∧ U.heap = h0) (fun _ _ _ _ _ => True) (fun _ U o U' => ∃ v L, o = .returned v ∧ Q18 Z va r1 r2 h0 n0 v U'.heap L ∧ FrameEnd U o U' L ({ frames := 1, cells := 1, slots := 2, locals := 14 } : Room).cells ({ frames := 1, cells := 1, slots := 2, locals := 14 } : Room).slots) := by
  refine MetFree.of_bodySF (plainFor_of_name own_pn6) hisR ?_
  intro p e s m args below meth c s₁ Bd hml0 hP hK
  obtain ⟨rfl, hZ, hh⟩ := hP
  have hx := Bd.exec
  have hby := Bd.bytes
  have hml : c.maxLocals = 0 := hml0
  have hlk : meth.locks = false := BodyLoose.notSynchronized Bd
  have hown : s.vm.findClass "com/example/goodput/goodput/DeliveryMode" = some m.cls := findClass_of_methodNamed Bd.named
  have hnm := (name_of_methodNamed Bd.named Bd.method).1
  have X0 : Stand p l e ({ frames := 1, cells := 1, slots := 2, locals := 14 } : Room) s m #[] below meth c s₁ [] 0 0 := Stand.of_body Bd
  have e0 : s₁.heap = h0 := by rw [← hh, Bd.state]; rfl
  have N0 := Fr.nil n0
  show own_Go p e below s (Q18 Z va r1 r2 h0 n0) ({ frames := 1, cells := 1, slots := 2, locals := 14 } : Room).cells ({ frames := 1, cells := 1, slots := 2, locals := 14 } : Room).slots _
  refine own_st (B := s₁.setTop (mkF m 0 #[] [])) (fun t k => castTop (ef_18 m ) k) ?_
  obtain ⟨T1, X1, e1, st1⟩ := getS2 X0 hx hZ hown (host := "") (Or.inl (w_86 hw)) Via.refl e0 F0 (g := (mkF m 0 #[] [])) rfl (hb hby d18_0)
  refine own_st (B := T1.setTop (mkF m 3 #[] [(.ref va)])) (fun t k => st1 t k) ?_
  obtain ⟨T2, h2, X2, e2, E2, A2, x2, st2⟩ := own_clone X1 hx hZ hown (w_88 hw) (w_89 hw) (w_93 hw) (w_91 hw) (w_92 hw) (w_94 hw) e1 F2 F1 (fun v hv => by simp only [List.mem_cons, List.not_mem_nil, or_false] at hv; rcases hv with rfl | rfl <;> rfl) (g := (mkF m 3 #[] [(.ref va)])) rfl (by rw [hml]; rfl) rfl (hb hby d18_3) (by decide) (W := 0) (by show 2 * 0 + _ ≤ _; exact Nat.le_of_eq rfl) (by decide) (cap := 2) (show (2 : Nat) ≤ 2 from Nat.le_refl _) (by decide) (by decide)
  obtain ⟨b2, g2⟩ : ∃ z, z = h0.size := ⟨_, rfl⟩
  rw [← g2] at A2 x2 st2
  have q2_va : va ≠ b2 := Nat.ne_of_lt (Nat.lt_of_lt_of_le F1.lt (Nat.le_of_eq g2.symm))
  have u2 : n0 ≤ b2 := Nat.le_trans Z0 (Nat.le_of_eq g2.symm)
  have y2 : h0.size ≤ b2 := Nat.le_trans (Keep.refl h0 []).1 (Nat.le_of_eq g2.symm)
  have z3 : n0 ≤ h2.size := Nat.le_trans Z0 E2.1
  have kp3 : Keep h0 h2 [] := (Keep.refl h0 []).ext E2
  refine own_st (B := T2.setTop (mkF m 6 #[] [(.ref b2)])) (fun t k => st2 t k) ?_
  obtain ⟨T4, X4, e4, st4⟩ := castY X2 hx hZ hown (w_98 hw) e2 (Ins.self x2) (g := (mkF m 6 #[] [(.ref b2)])) rfl rfl (hb hby d18_6)
  refine own_st (B := T4.setTop (mkF m 9 #[] [(.ref b2)])) (fun t k => st4 t k) ?_
  refine own_retR X4 hx hlk (t := (.array (.object "com/example/goodput/goodput/DeliveryMode"))) Bd.returns rfl rfl rfl (hb hby d18_9) (by decide) (by decide) ?_
  show Q18 Z va r1 r2 h0 n0 _ T4.heap _
  rw [e4]
  exact ⟨b2, rfl, N0, kp3, u2, y2, A2⟩
theorem own_pd18 : parseMethodDescriptor "()[Lcom/example/goodput/goodput/DeliveryMode;" = some ⟨[], some (.array (.object "com/example/goodput/goodput/DeliveryMode"))⟩ := by decide +kernel
theorem own_pd19 : parseMethodDescriptor "(Ljava/lang/Object;)Z" = some ⟨[(.object "java/lang/Object")], some .boolean⟩ := by decide +kernel
theorem d17_0 : decode prog_10_method_4_code 0 = .ok (.invokestatic 33, 3) := by decide +kernel
theorem d17_3 : decode prog_10_method_4_code 3 = .ok (.astore_n 1, 1) := by decide +kernel
theorem d17_4 : decode prog_10_method_4_code 4 = .ok (.aload_n 1, 1) := by decide +kernel
theorem d17_5 : decode prog_10_method_4_code 5 = .ok (.arraylength, 1) := by decide +kernel
theorem d17_6 : decode prog_10_method_4_code 6 = .ok (.istore_n 2, 1) := by decide +kernel
theorem d17_7 : decode prog_10_method_4_code 7 = .ok (.iconst 0, 1) := by decide +kernel
theorem d17_8 : decode prog_10_method_4_code 8 = .ok (.istore_n 3, 1) := by decide +kernel
theorem d17_9 : decode prog_10_method_4_code 9 = .ok (.iload_n 3, 1) := by decide +kernel
theorem d17_10 : decode prog_10_method_4_code 10 = .ok (.iload_n 2, 1) := by decide +kernel
theorem d17_11 : decode prog_10_method_4_code 11 = .ok (.if_icmp .ge 29, 3) := by decide +kernel
theorem d17_14 : decode prog_10_method_4_code 14 = .ok (.aload_n 1, 1) := by decide +kernel
theorem d17_15 : decode prog_10_method_4_code 15 = .ok (.iload_n 3, 1) := by decide +kernel
theorem d17_16 : decode prog_10_method_4_code 16 = .ok (.aaload, 1) := by decide +kernel
theorem d17_17 : decode prog_10_method_4_code 17 = .ok (.astore 4, 2) := by decide +kernel
theorem d17_19 : decode prog_10_method_4_code 19 = .ok (.aload 4, 2) := by decide +kernel
theorem d17_21 : decode prog_10_method_4_code 21 = .ok (.getfield 29, 3) := by decide +kernel
theorem d17_24 : decode prog_10_method_4_code 24 = .ok (.aload_n 0, 1) := by decide +kernel
theorem d17_25 : decode prog_10_method_4_code 25 = .ok (.invokevirtual 37, 3) := by decide +kernel
theorem d17_28 : decode prog_10_method_4_code 28 = .ok (.ifCond .eq 6, 3) := by decide +kernel
theorem d17_34 : decode prog_10_method_4_code 34 = .ok (.iinc 3 1, 3) := by decide +kernel
theorem d17_37 : decode prog_10_method_4_code 37 = .ok (.goto (-28), 3) := by decide +kernel
theorem d17_40 : decode prog_10_method_4_code 40 = .ok (.aconst_null, 1) := by decide +kernel
theorem d17_41 : decode prog_10_method_4_code 41 = .ok (.areturn, 1) := by decide +kernel
theorem ef_17z (m : MethodId)  : entryFrame m #[.null] 5 = mkF m 0 #[.val .null, .unset, .unset, .unset, .unset] [] := by first | (simp [entryFrame, mkF, argsToLocals, Value.category]; done) | rfl
def Q17z (Z : State) (va : Addr) (r1 : Addr) (r2 : Addr) (s1 : Addr) (s2 : Addr) (d1 : Addr) (d2 : Addr) (h0 : Heap) (n0 : Nat) (v : Option Value) (h : Heap) (L : List Loc) : Prop := v = some .null ∧ Fr n0 L ∧ Keep h0 h []
set_option maxHeartbeats 40000000 in
theorem rm17z (l : Launch) (Z : State) (a0 : Array Value) (hw : ∀ d ∈ tables_1, d.before a0 Z = true) (ws : List Jvm.Cond) (va : Addr) (r1 : Addr) (r2 : Addr) (s1 : Addr) (s2 : Addr) (d1 : Addr) (d2 : Addr) (h0 : Heap) (n0 : Nat) (Z0 : n0 ≤ h0.size) (F0 : Sta Z h0 "com/example/goodput/goodput/DeliveryMode" "$VALUES" "[Lcom/example/goodput/goodput/DeliveryMode;" (.ref va)) (F1 : Exa Z h0 va "[Lcom/example/goodput/goodput/DeliveryMode;") (F2 : own_A Z h0 va (.object "com/example/goodput/goodput/DeliveryMode") [(.ref r1), (.ref r2)]) (F3 : Fld Z h0 r1 "com/example/goodput/goodput/DeliveryMode" "name" "Ljava/lang/String;" (.ref s1)) (F4 : Fld Z h0 r2 "com/example/goodput/goodput/DeliveryMode" "name" "Ljava/lang/String;" (.ref s2)) (F5 : Exa Z h0 s1 "java/lang/String") (F6 : Exa Z h0 s2 "java/lang/String") (F7 : Fld Z h0 s1 "java/lang/String" "coder" "B" (.int (0 : Int32))) (F8 : Fld Z h0 s1 "java/lang/String" "value" "[B" (.ref d1)) (F9 : Fld Z h0 s2 "java/lang/String" "coder" "B" (.int (0 : Int32))) (F10 : Fld Z h0 s2 "java/lang/String" "value" "[B" (.ref d2)) (F11 : own_A Z h0 d1 .byte (own_d.map Value.int)) (F12 : own_A Z h0 d2 .byte (own_q.map Value.int)) :
    MetFree l (⟨"com/example/goodput/goodput/DeliveryMode", "named", "(Ljava/lang/String;)Lcom/example/goodput/goodput/DeliveryMode;"⟩ : MethodName) (head1 (Jvm.Cond.code (⟨"com/example/goodput/goodput/DeliveryMode", "named", "(Ljava/lang/String;)Lcom/example/goodput/goodput/DeliveryMode;"⟩ : MethodName) prog_10_method_4_code 5 (some (.object "com/example/goodput/goodput/DeliveryMode")) :: ws) ({ frames := 2, cells := 1, slots := 2, locals := 25 } : Room)) (fun a U => a = #[.null] ∧ Z.Warmed39 U.vm ∧ U.heap = h0) (fun _ _ _ _ _ => True) (fun _ U o U' => ∃ v L, o = .returned v ∧ Q17z Z va r1 r2 s1 s2 d1 d2 h0 n0 v U'.heap L ∧ FrameEnd U o U' L ({ frames := 2, cells := 1, slots := 2, locals := 25 } : Room).cells ({ frames := 2, cells := 1, slots := 2, locals := 25 } : Room).slots) := by
  refine MetFree.of_bodySF (plainFor_of_name own_pn6) hisR ?_
  intro p e s m args below meth c s₁ Bd hml0 hP hK
  obtain ⟨rfl, hZ, hh⟩ := hP
  have hx := Bd.exec
  have hby := Bd.bytes
  have hml : c.maxLocals = 5 := hml0
  have hlk : meth.locks = false := BodyLoose.notSynchronized Bd
  have hown : s.vm.findClass "com/example/goodput/goodput/DeliveryMode" = some m.cls := findClass_of_methodNamed Bd.named
  have hnm := (name_of_methodNamed Bd.named Bd.method).1
  have X0 : Stand p l e ({ frames := 2, cells := 1, slots := 2, locals := 25 } : Room) s m #[.null] below meth c s₁ [] 0 0 := Stand.of_body Bd
  have e0 : s₁.heap = h0 := by rw [← hh, Bd.state]; rfl
  have N0 := Fr.nil n0
  show own_Go p e below s (Q17z Z va r1 r2 s1 s2 d1 d2 h0 n0) ({ frames := 2, cells := 1, slots := 2, locals := 25 } : Room).cells ({ frames := 2, cells := 1, slots := 2, locals := 25 } : Room).slots _
  refine own_st (B := s₁.setTop (mkF m 0 #[.val .null, .unset, .unset, .unset, .unset] [])) (fun t k => castTop (ef_17z m ) k) ?_
  obtain ⟨_, _, ⟨T1, L1, k1, j1⟩, -, X1, ⟨Lc1, hQ1, l1, y1_, z1_⟩, st1⟩ := Jvm.LawKit.callS X0 hx (y := (⟨"com/example/goodput/goodput/DeliveryMode", "values", "()[Lcom/example/goodput/goodput/DeliveryMode;"⟩ : MethodName)) hown (mvT hZ (w_83 hw)) (mvT hZ (w_84 hw)) (mvT hZ (w_81 hw)) (mvT hZ (w_85 hw)) (by decide) (backOf (W := 0) (rm18 l Z a0 hw [] va r1 r2 h0 n0 Z0 F0 F1 F2) hZ (w_85 hw) (w_81 hw) (by decide) (by decide)) (g := (mkF m 0 #[.val .null, .unset, .unset, .unset, .unset] [])) rfl (by rw [hml]; rfl) (argsL := []) (rest := []) (lenOf own_pd18 rfl) rfl (by show 2 * 0 + _ ≤ _; exact Nat.le_of_eq rfl) (hb hby d17_0) (fun _ _ => ⟨rfl, e0, (by decide : 0 + 1 ≤ _), (by decide : 0 + 2 ≤ _)⟩)
  dsimp only [Pt.U, Pt.locs, Pt.cells, Pt.slots] at X1 l1 y1_ z1_ st1 hQ1
  subst l1 y1_ z1_
  obtain ⟨b_1, rfl, N1q, K1, u1_b, y1_b, p1_0⟩ := hQ1
  have N1 := Fr.app N0 N1q
  have q1_b_va : va ≠ b_1 := Nat.ne_of_lt (Nat.lt_of_lt_of_le F1.lt y1_b)
  have q1_b_r1 : r1 ≠ b_1 := Nat.ne_of_lt (Nat.lt_of_lt_of_le F3.lt y1_b)
  have q1_b_r2 : r2 ≠ b_1 := Nat.ne_of_lt (Nat.lt_of_lt_of_le F4.lt y1_b)
  have q1_b_s1 : s1 ≠ b_1 := Nat.ne_of_lt (Nat.lt_of_lt_of_le F5.lt y1_b)
  have q1_b_s2 : s2 ≠ b_1 := Nat.ne_of_lt (Nat.lt_of_lt_of_le F6.lt y1_b)
  have q1_b_d1 : d1 ≠ b_1 := Nat.ne_of_lt (Nat.lt_of_lt_of_le F11.lt y1_b)
  have q1_b_d2 : d2 ≠ b_1 := Nat.ne_of_lt (Nat.lt_of_lt_of_le F12.lt y1_b)
  have y2 : h0.size ≤ b_1 := Nat.le_trans (Keep.refl h0 []).1 y1_b
  have z3 : n0 ≤ T1.heap.size := Nat.le_trans Z0 K1.1
  have kp3 : Keep h0 T1.heap [] := (Keep.refl h0 []).trans K1 all0
  refine own_st (B := T1.setTop (mkF m 3 #[.val .null, .unset, .unset, .unset, .unset] [(.ref b_1)])) (fun t k => st1 t k) ?_
  refine own_st (B := T1.setTop (mkF m 4 #[.val .null, .val (.ref b_1), .unset, .unset, .unset] [])) (fun t k => XS.astoreN X1.here hx rfl (hb hby d17_3) rfl rfl (l' := #[.val .null, .val (.ref b_1), .unset, .unset, .unset]) rfl k) ?_
  refine own_st (B := T1.setTop (mkF m 5 #[.val .null, .val (.ref b_1), .unset, .unset, .unset] [(.ref b_1)])) (fun t k => XS.aloadN X1.here hx rfl (hb hby d17_4) rfl rfl k) ?_
  refine own_st (B := T1.setTop (mkF m 6 #[.val .null, .val (.ref b_1), .unset, .unset, .unset] [(.int (2 : Int32))])) (fun t k => own_len X1 hx hZ rfl p1_0 (g := (mkF m 5 #[.val .null, .val (.ref b_1), .unset, .unset, .unset] [(.ref b_1)])) (n := (2 : Int32)) (show (2 : Int32).toInt = ((2 : Nat) : Int) from by decide) rfl rfl (hb hby d17_5) k) ?_
  refine own_st (B := T1.setTop (mkF m 7 #[.val .null, .val (.ref b_1), .val (.int (2 : Int32)), .unset, .unset] [])) (fun t k => XS.istoreN X1.here hx rfl (hb hby d17_6) rfl (l' := #[.val .null, .val (.ref b_1), .val (.int (2 : Int32)), .unset, .unset]) rfl k) ?_
  refine own_st (B := T1.setTop (mkF m 8 #[.val .null, .val (.ref b_1), .val (.int (2 : Int32)), .unset, .unset] [(.int (0 : Int32))])) (fun t k => XS.iconst X1.here hx rfl (hb hby d17_7) k) ?_
  refine own_st (B := T1.setTop (mkF m 9 #[.val .null, .val (.ref b_1), .val (.int (2 : Int32)), .val (.int (0 : Int32)), .unset] [])) (fun t k => XS.istoreN X1.here hx rfl (hb hby d17_8) rfl (l' := #[.val .null, .val (.ref b_1), .val (.int (2 : Int32)), .val (.int (0 : Int32)), .unset]) rfl k) ?_
  refine own_st (B := T1.setTop (mkF m 10 #[.val .null, .val (.ref b_1), .val (.int (2 : Int32)), .val (.int (0 : Int32)), .unset] [(.int (0 : Int32))])) (fun t k => XS.iloadN X1.here hx rfl (hb hby d17_9) rfl k) ?_
  refine own_st (B := T1.setTop (mkF m 11 #[.val .null, .val (.ref b_1), .val (.int (2 : Int32)), .val (.int (0 : Int32)), .unset] [(.int (2 : Int32)), (.int (0 : Int32))])) (fun t k => XS.iloadN X1.here hx rfl (hb hby d17_10) rfl k) ?_
  refine own_st (B := T1.setTop (mkF m 14 #[.val .null, .val (.ref b_1), .val (.int (2 : Int32)), .val (.int (0 : Int32)), .unset] [])) (fun t k => XS.icmpNo X1.here hx rfl (hb hby d17_11) rfl (by decide) k) ?_
  refine own_st (B := T1.setTop (mkF m 15 #[.val .null, .val (.ref b_1), .val (.int (2 : Int32)), .val (.int (0 : Int32)), .unset] [(.ref b_1)])) (fun t k => XS.aloadN X1.here hx rfl (hb hby d17_14) rfl rfl k) ?_
  refine own_st (B := T1.setTop (mkF m 16 #[.val .null, .val (.ref b_1), .val (.int (2 : Int32)), .val (.int (0 : Int32)), .unset] [(.int (0 : Int32)), (.ref b_1)])) (fun t k => XS.iloadN X1.here hx rfl (hb hby d17_15) rfl k) ?_
  refine own_st (B := T1.setTop (mkF m 17 #[.val .null, .val (.ref b_1), .val (.int (2 : Int32)), .val (.int (0 : Int32)), .unset] [(.ref r1)])) (fun t k => own_ldR X1 hx hZ rfl p1_0 rfl (g := (mkF m 16 #[.val .null, .val (.ref b_1), .val (.int (2 : Int32)), .val (.int (0 : Int32)), .unset] [(.int (0 : Int32)), (.ref b_1)])) (i := 0) (by decide) rfl rfl rfl (hb hby d17_16) k) ?_
  refine own_st (B := T1.setTop (mkF m 19 #[.val .null, .val (.ref b_1), .val (.int (2 : Int32)), .val (.int (0 : Int32)), .val (.ref r1)] [])) (fun t k => XS.astore X1.here hx rfl (hb hby d17_17) rfl rfl (l' := #[.val .null, .val (.ref b_1), .val (.int (2 : Int32)), .val (.int (0 : Int32)), .val (.ref r1)]) rfl k) ?_
  refine own_st (B := T1.setTop (mkF m 21 #[.val .null, .val (.ref b_1), .val (.int (2 : Int32)), .val (.int (0 : Int32)), .val (.ref r1)] [(.ref r1)])) (fun t k => XS.aload X1.here hx rfl (hb hby d17_19) rfl rfl k) ?_
  have f4 : Fld Z T1.heap r1 "com/example/goodput/goodput/DeliveryMode" "name" "Ljava/lang/String;" (.ref s1) := (F3.keep K1 nin0)
  obtain ⟨T5, X5, e5, st5⟩ := getF X1 hx hZ hown (host := "") (Or.inl (w_100 hw)) Via.refl rfl f4 (g := (mkF m 21 #[.val .null, .val (.ref b_1), .val (.int (2 : Int32)), .val (.int (0 : Int32)), .val (.ref r1)] [(.ref r1)])) rfl rfl (hb hby d17_21)
  refine own_st (B := T5.setTop (mkF m 24 #[.val .null, .val (.ref b_1), .val (.int (2 : Int32)), .val (.int (0 : Int32)), .val (.ref r1)] [(.ref s1)])) (fun t k => st5 t k) ?_
  refine own_st (B := T5.setTop (mkF m 25 #[.val .null, .val (.ref b_1), .val (.int (2 : Int32)), .val (.int (0 : Int32)), .val (.ref r1)] [.null, (.ref s1)])) (fun t k => XS.aloadN X5.here hx rfl (hb hby d17_24) rfl rfl k) ?_
  have f7 : Exa Z T1.heap s1 "java/lang/String" := (F5.keep K1)
  obtain ⟨cq6, kq6, q6a, q6b, q6c⟩ := isOf hZ e5 f7
  obtain ⟨_, _, ⟨T6, L6, k6, j6⟩, -, X6, ⟨Lc6, hQ6, l6, y6_, z6_⟩, st6⟩ := X5.virtualBack hx (y := (⟨"java/lang/String", "equals", "(Ljava/lang/Object;)Z"⟩ : MethodName)) (z := (⟨"java/lang/String", "equals", "(Ljava/lang/Object;)Z"⟩ : MethodName)) hown (mvT hZ (w_102 hw)) (mvT hZ (w_71 hw)) (notFace_of_selects (args := #[]) (mvT hZ (w_73 hw))) (mvT hZ (w_73 hw)) (mvT hZ (w_72 hw)) (by decide) (backOf (W := 0) (rm15n l Z a0 hw [] s1 T1.heap n0 z3 ) hZ (w_74 hw) (w_1 hw) (by decide) (by decide)) q6a q6c (g := (mkF m 25 #[.val .null, .val (.ref b_1), .val (.int (2 : Int32)), .val (.int (0 : Int32)), .val (.ref r1)] [.null, (.ref s1)])) rfl (by rw [hml]; rfl) (Steps.refl _) (argsL := [.null]) (rest := []) (lenOf own_pd19 rfl) rfl (by show 2 * 0 + _ ≤ _; exact Nat.le_of_eq rfl) (hb hby d17_25) (fun _ _ => ⟨rfl, e5, (by decide : 1 + 0 ≤ _), (by decide : 2 + 0 ≤ _)⟩)
  dsimp only [Pt.U, Pt.locs, Pt.cells, Pt.slots] at X6 l6 y6_ z6_ st6 hQ6
  subst l6 y6_ z6_
  obtain ⟨rfl, N6q, e6q⟩ := hQ6
  have N6 := Fr.app N1 N6q
  refine own_ss (B := T6.setTop (mkF m 28 #[.val .null, .val (.ref b_1), .val (.int (2 : Int32)), .val (.int (0 : Int32)), .val (.ref r1)] [(.int (0 : Int32))])) st6 ?_
  refine own_st (B := T6.setTop (mkF m 34 #[.val .null, .val (.ref b_1), .val (.int (2 : Int32)), .val (.int (0 : Int32)), .val (.ref r1)] [])) (fun t k => XS.ifYes X6.here hx rfl (pc0 := 28) (pc' := 34) rfl (hb hby d17_28) rfl (by decide) (by decide) (by decide) k) ?_
  refine own_st (B := T6.setTop (mkF m 37 #[.val .null, .val (.ref b_1), .val (.int (2 : Int32)), .val (.int ((0 : Int32) + (1 : Int32))), .val (.ref r1)] [])) (fun t k => XS.iinc X6.here hx rfl (hb hby d17_34) rfl (l' := #[.val .null, .val (.ref b_1), .val (.int (2 : Int32)), .val (.int ((0 : Int32) + (1 : Int32))), .val (.ref r1)]) rfl k) ?_
  refine own_st (B := T6.setTop (mkF m 9 #[.val .null, .val (.ref b_1), .val (.int (2 : Int32)), .val (.int ((0 : Int32) + (1 : Int32))), .val (.ref r1)] [])) (fun t k => XS.goto X6.here hx rfl (pc0 := 37) (pc' := 9) rfl (hb hby d17_37) (by decide) (by decide) k) ?_
  refine own_st (B := T6.setTop (mkF m 10 #[.val .null, .val (.ref b_1), .val (.int (2 : Int32)), .val (.int ((0 : Int32) + (1 : Int32))), .val (.ref r1)] [(.int ((0 : Int32) + (1 : Int32)))])) (fun t k => XS.iloadN X6.here hx rfl (hb hby d17_9) rfl k) ?_
  refine own_st (B := T6.setTop (mkF m 11 #[.val .null, .val (.ref b_1), .val (.int (2 : Int32)), .val (.int ((0 : Int32) + (1 : Int32))), .val (.ref r1)] [(.int (2 : Int32)), (.int ((0 : Int32) + (1 : Int32)))])) (fun t k => XS.iloadN X6.here hx rfl (hb hby d17_10) rfl k) ?_
  refine own_st (B := T6.setTop (mkF m 14 #[.val .null, .val (.ref b_1), .val (.int (2 : Int32)), .val (.int ((0 : Int32) + (1 : Int32))), .val (.ref r1)] [])) (fun t k => XS.icmpNo X6.here hx rfl (hb hby d17_11) rfl (by decide) k) ?_
  refine own_st (B := T6.setTop (mkF m 15 #[.val .null, .val (.ref b_1), .val (.int (2 : Int32)), .val (.int ((0 : Int32) + (1 : Int32))), .val (.ref r1)] [(.ref b_1)])) (fun t k => XS.aloadN X6.here hx rfl (hb hby d17_14) rfl rfl k) ?_
  refine own_st (B := T6.setTop (mkF m 16 #[.val .null, .val (.ref b_1), .val (.int (2 : Int32)), .val (.int ((0 : Int32) + (1 : Int32))), .val (.ref r1)] [(.int ((0 : Int32) + (1 : Int32))), (.ref b_1)])) (fun t k => XS.iloadN X6.here hx rfl (hb hby d17_15) rfl k) ?_
  refine own_st (B := T6.setTop (mkF m 17 #[.val .null, .val (.ref b_1), .val (.int (2 : Int32)), .val (.int ((0 : Int32) + (1 : Int32))), .val (.ref r1)] [(.ref r2)])) (fun t k => own_ldR X6 hx hZ e6q p1_0 rfl (g := (mkF m 16 #[.val .null, .val (.ref b_1), .val (.int (2 : Int32)), .val (.int ((0 : Int32) + (1 : Int32))), .val (.ref r1)] [(.int ((0 : Int32) + (1 : Int32))), (.ref b_1)])) (i := 1) (by decide) rfl rfl rfl (hb hby d17_16) k) ?_
  refine own_st (B := T6.setTop (mkF m 19 #[.val .null, .val (.ref b_1), .val (.int (2 : Int32)), .val (.int ((0 : Int32) + (1 : Int32))), .val (.ref r2)] [])) (fun t k => XS.astore X6.here hx rfl (hb hby d17_17) rfl rfl (l' := #[.val .null, .val (.ref b_1), .val (.int (2 : Int32)), .val (.int ((0 : Int32) + (1 : Int32))), .val (.ref r2)]) rfl k) ?_
  refine own_st (B := T6.setTop (mkF m 21 #[.val .null, .val (.ref b_1), .val (.int (2 : Int32)), .val (.int ((0 : Int32) + (1 : Int32))), .val (.ref r2)] [(.ref r2)])) (fun t k => XS.aload X6.here hx rfl (hb hby d17_19) rfl rfl k) ?_
  have f8 : Fld Z T1.heap r2 "com/example/goodput/goodput/DeliveryMode" "name" "Ljava/lang/String;" (.ref s2) := (F4.keep K1 nin0)
  obtain ⟨T9, X9, e9, st9⟩ := getF X6 hx hZ hown (host := "") (Or.inl (w_100 hw)) Via.refl e6q f8 (g := (mkF m 21 #[.val .null, .val (.ref b_1), .val (.int (2 : Int32)), .val (.int ((0 : Int32) + (1 : Int32))), .val (.ref r2)] [(.ref r2)])) rfl rfl (hb hby d17_21)
  refine own_st (B := T9.setTop (mkF m 24 #[.val .null, .val (.ref b_1), .val (.int (2 : Int32)), .val (.int ((0 : Int32) + (1 : Int32))), .val (.ref r2)] [(.ref s2)])) (fun t k => st9 t k) ?_
  refine own_st (B := T9.setTop (mkF m 25 #[.val .null, .val (.ref b_1), .val (.int (2 : Int32)), .val (.int ((0 : Int32) + (1 : Int32))), .val (.ref r2)] [.null, (.ref s2)])) (fun t k => XS.aloadN X9.here hx rfl (hb hby d17_24) rfl rfl k) ?_
  have f11 : Exa Z T1.heap s2 "java/lang/String" := (F6.keep K1)
  obtain ⟨cq10, kq10, q10a, q10b, q10c⟩ := isOf hZ e9 f11
  obtain ⟨_, _, ⟨T10, L10, k10, j10⟩, -, X10, ⟨Lc10, hQ10, l10, y10_, z10_⟩, st10⟩ := X9.virtualBack hx (y := (⟨"java/lang/String", "equals", "(Ljava/lang/Object;)Z"⟩ : MethodName)) (z := (⟨"java/lang/String", "equals", "(Ljava/lang/Object;)Z"⟩ : MethodName)) hown (mvT hZ (w_102 hw)) (mvT hZ (w_71 hw)) (notFace_of_selects (args := #[]) (mvT hZ (w_73 hw))) (mvT hZ (w_73 hw)) (mvT hZ (w_72 hw)) (by decide) (backOf (W := 0) (rm15n l Z a0 hw [] s2 T1.heap n0 z3 ) hZ (w_74 hw) (w_1 hw) (by decide) (by decide)) q10a q10c (g := (mkF m 25 #[.val .null, .val (.ref b_1), .val (.int (2 : Int32)), .val (.int ((0 : Int32) + (1 : Int32))), .val (.ref r2)] [.null, (.ref s2)])) rfl (by rw [hml]; rfl) (Steps.refl _) (argsL := [.null]) (rest := []) (lenOf own_pd19 rfl) rfl (by show 2 * 0 + _ ≤ _; exact Nat.le_of_eq rfl) (hb hby d17_25) (fun _ _ => ⟨rfl, e9, (by decide : 1 + 0 ≤ _), (by decide : 2 + 0 ≤ _)⟩)
  dsimp only [Pt.U, Pt.locs, Pt.cells, Pt.slots] at X10 l10 y10_ z10_ st10 hQ10
  subst l10 y10_ z10_
  obtain ⟨rfl, N10q, e10q⟩ := hQ10
  have N10 := Fr.app N6 N10q
  refine own_ss (B := T10.setTop (mkF m 28 #[.val .null, .val (.ref b_1), .val (.int (2 : Int32)), .val (.int ((0 : Int32) + (1 : Int32))), .val (.ref r2)] [(.int (0 : Int32))])) st10 ?_
  refine own_st (B := T10.setTop (mkF m 34 #[.val .null, .val (.ref b_1), .val (.int (2 : Int32)), .val (.int ((0 : Int32) + (1 : Int32))), .val (.ref r2)] [])) (fun t k => XS.ifYes X10.here hx rfl (pc0 := 28) (pc' := 34) rfl (hb hby d17_28) rfl (by decide) (by decide) (by decide) k) ?_
  refine own_st (B := T10.setTop (mkF m 37 #[.val .null, .val (.ref b_1), .val (.int (2 : Int32)), .val (.int (((0 : Int32) + (1 : Int32)) + (1 : Int32))), .val (.ref r2)] [])) (fun t k => XS.iinc X10.here hx rfl (hb hby d17_34) rfl (l' := #[.val .null, .val (.ref b_1), .val (.int (2 : Int32)), .val (.int (((0 : Int32) + (1 : Int32)) + (1 : Int32))), .val (.ref r2)]) rfl k) ?_
  refine own_st (B := T10.setTop (mkF m 9 #[.val .null, .val (.ref b_1), .val (.int (2 : Int32)), .val (.int (((0 : Int32) + (1 : Int32)) + (1 : Int32))), .val (.ref r2)] [])) (fun t k => XS.goto X10.here hx rfl (pc0 := 37) (pc' := 9) rfl (hb hby d17_37) (by decide) (by decide) k) ?_
  refine own_st (B := T10.setTop (mkF m 10 #[.val .null, .val (.ref b_1), .val (.int (2 : Int32)), .val (.int (((0 : Int32) + (1 : Int32)) + (1 : Int32))), .val (.ref r2)] [(.int (((0 : Int32) + (1 : Int32)) + (1 : Int32)))])) (fun t k => XS.iloadN X10.here hx rfl (hb hby d17_9) rfl k) ?_
  refine own_st (B := T10.setTop (mkF m 11 #[.val .null, .val (.ref b_1), .val (.int (2 : Int32)), .val (.int (((0 : Int32) + (1 : Int32)) + (1 : Int32))), .val (.ref r2)] [(.int (2 : Int32)), (.int (((0 : Int32) + (1 : Int32)) + (1 : Int32)))])) (fun t k => XS.iloadN X10.here hx rfl (hb hby d17_10) rfl k) ?_
  refine own_st (B := T10.setTop (mkF m 40 #[.val .null, .val (.ref b_1), .val (.int (2 : Int32)), .val (.int (((0 : Int32) + (1 : Int32)) + (1 : Int32))), .val (.ref r2)] [])) (fun t k => XS.icmpYes X10.here hx rfl (pc0 := 11) (pc' := 40) rfl (hb hby d17_11) rfl (by decide) (by decide) (by decide) k) ?_
  refine own_st (B := T10.setTop (mkF m 41 #[.val .null, .val (.ref b_1), .val (.int (2 : Int32)), .val (.int (((0 : Int32) + (1 : Int32)) + (1 : Int32))), .val (.ref r2)] [.null])) (fun t k => XS.aconstNull X10.here hx rfl (hb hby d17_40) k) ?_
  refine own_retR X10 hx hlk (t := (.object "com/example/goodput/goodput/DeliveryMode")) Bd.returns rfl rfl rfl (hb hby d17_41) (by decide) (by decide) ?_
  show Q17z Z va r1 r2 s1 s2 d1 d2 h0 n0 _ T10.heap _
  rw [e10q]
  exact ⟨rfl, N10, kp3⟩
theorem d17_31 : decode prog_10_method_4_code 31 = .ok (.aload 4, 2) := by decide +kernel
theorem d17_33 : decode prog_10_method_4_code 33 = .ok (.areturn, 1) := by decide +kernel
theorem ef_17d (m : MethodId) (x0 : Addr) : entryFrame m #[(.ref x0)] 5 = mkF m 0 #[.val (.ref x0), .unset, .unset, .unset, .unset] [] := by first | (simp [entryFrame, mkF, argsToLocals, Value.category]; done) | rfl
def Q17d (Z : State) (a1 : Addr) (ab : Addr) (bs : List Int32) (va : Addr) (r1 : Addr) (r2 : Addr) (s1 : Addr) (s2 : Addr) (d1 : Addr) (d2 : Addr) (cs : Int32) (h0 : Heap) (n0 : Nat) (v : Option Value) (h : Heap) (L : List Loc) : Prop := v = some (.ref r1) ∧ Fr n0 L ∧ Keep h0 h []
set_option maxHeartbeats 40000000 in
theorem rm17d (l : Launch) (Z : State) (a0 : Array Value) (hw : ∀ d ∈ tables_1, d.before a0 Z = true) (ws : List Jvm.Cond) (a1 : Addr) (ab : Addr) (bs : List Int32) (va : Addr) (r1 : Addr) (r2 : Addr) (s1 : Addr) (s2 : Addr) (d1 : Addr) (d2 : Addr) (cs : Int32) (h0 : Heap) (n0 : Nat) (Z0 : n0 ≤ h0.size) (F0 : Exa Z h0 a1 "java/lang/String") (F1 : Fld Z h0 a1 "java/lang/String" "coder" "B" (.int (0 : Int32))) (F2 : Fld Z h0 a1 "java/lang/String" "value" "[B" (.ref ab)) (F3 : own_A Z h0 ab .byte (bs.map Value.int)) (F4 : Sta Z h0 "com/example/goodput/goodput/DeliveryMode" "$VALUES" "[Lcom/example/goodput/goodput/DeliveryMode;" (.ref va)) (F5 : Exa Z h0 va "[Lcom/example/goodput/goodput/DeliveryMode;") (F6 : own_A Z h0 va (.object "com/example/goodput/goodput/DeliveryMode") [(.ref r1), (.ref r2)]) (F7 : Fld Z h0 r1 "com/example/goodput/goodput/DeliveryMode" "name" "Ljava/lang/String;" (.ref s1)) (F8 : Fld Z h0 r2 "com/example/goodput/goodput/DeliveryMode" "name" "Ljava/lang/String;" (.ref s2)) (F9 : Exa Z h0 s1 "java/lang/String") (F10 : Exa Z h0 s2 "java/lang/String") (F11 : Fld Z h0 s1 "java/lang/String" "coder" "B" (.int (0 : Int32))) (F12 : Fld Z h0 s1 "java/lang/String" "value" "[B" (.ref d1)) (F13 : Fld Z h0 s2 "java/lang/String" "coder" "B" (.int (0 : Int32))) (F14 : Fld Z h0 s2 "java/lang/String" "value" "[B" (.ref d2)) (F15 : own_A Z h0 d1 .byte (own_d.map Value.int)) (F16 : own_A Z h0 d2 .byte (own_q.map Value.int)) (F17 : Sta Z h0 "java/lang/String" "COMPACT_STRINGS" "Z" (.int cs)) (hcs : ¬ (cs = (0 : Int32))) (n1 : s1 ≠ a1) (n2 : s2 ≠ a1) (hbn : bs.length < 1000) (hD : ¬ ((own_leq own_d bs) = (0 : Int32))) :
    MetFree l (⟨"com/example/goodput/goodput/DeliveryMode", "named", "(Ljava/lang/String;)Lcom/example/goodput/goodput/DeliveryMode;"⟩ : MethodName) (head1 (Jvm.Cond.code (⟨"com/example/goodput/goodput/DeliveryMode", "named", "(Ljava/lang/String;)Lcom/example/goodput/goodput/DeliveryMode;"⟩ : MethodName) prog_10_method_4_code 5 (some (.object "com/example/goodput/goodput/DeliveryMode")) :: ws) ({ frames := 2, cells := 1, slots := 2, locals := 28 } : Room)) (fun a U => a = #[(.ref a1)] ∧ Z.Warmed39 U.vm ∧ U.heap = h0) (fun _ _ _ _ _ => True) (fun _ U o U' => ∃ v L, o = .returned v ∧ Q17d Z a1 ab bs va r1 r2 s1 s2 d1 d2 cs h0 n0 v U'.heap L ∧ FrameEnd U o U' L ({ frames := 2, cells := 1, slots := 2, locals := 28 } : Room).cells ({ frames := 2, cells := 1, slots := 2, locals := 28 } : Room).slots) := by
  refine MetFree.of_bodySF (plainFor_of_name own_pn6) hisR ?_
  intro p e s m args below meth c s₁ Bd hml0 hP hK
  obtain ⟨rfl, hZ, hh⟩ := hP
  have hx := Bd.exec
  have hby := Bd.bytes
  have hml : c.maxLocals = 5 := hml0
  have hlk : meth.locks = false := BodyLoose.notSynchronized Bd
  have hown : s.vm.findClass "com/example/goodput/goodput/DeliveryMode" = some m.cls := findClass_of_methodNamed Bd.named
  have hnm := (name_of_methodNamed Bd.named Bd.method).1
  have X0 : Stand p l e ({ frames := 2, cells := 1, slots := 2, locals := 28 } : Room) s m #[(.ref a1)] below meth c s₁ [] 0 0 := Stand.of_body Bd
  have e0 : s₁.heap = h0 := by rw [← hh, Bd.state]; rfl
  have N0 := Fr.nil n0
  show own_Go p e below s (Q17d Z a1 ab bs va r1 r2 s1 s2 d1 d2 cs h0 n0) ({ frames := 2, cells := 1, slots := 2, locals := 28 } : Room).cells ({ frames := 2, cells := 1, slots := 2, locals := 28 } : Room).slots _
  refine own_st (B := s₁.setTop (mkF m 0 #[.val (.ref a1), .unset, .unset, .unset, .unset] [])) (fun t k => castTop (ef_17d m (a1)) k) ?_
  obtain ⟨_, _, ⟨T1, L1, k1, j1⟩, -, X1, ⟨Lc1, hQ1, l1, y1_, z1_⟩, st1⟩ := Jvm.LawKit.callS X0 hx (y := (⟨"com/example/goodput/goodput/DeliveryMode", "values", "()[Lcom/example/goodput/goodput/DeliveryMode;"⟩ : MethodName)) hown (mvT hZ (w_83 hw)) (mvT hZ (w_84 hw)) (mvT hZ (w_81 hw)) (mvT hZ (w_85 hw)) (by decide) (backOf (W := 0) (rm18 l Z a0 hw [] va r1 r2 h0 n0 Z0 F4 F5 F6) hZ (w_85 hw) (w_81 hw) (by decide) (by decide)) (g := (mkF m 0 #[.val (.ref a1), .unset, .unset, .unset, .unset] [])) rfl (by rw [hml]; rfl) (argsL := []) (rest := []) (lenOf own_pd18 rfl) rfl (by show 2 * 0 + _ ≤ _; exact Nat.le_of_eq rfl) (hb hby d17_0) (fun _ _ => ⟨rfl, e0, (by decide : 0 + 1 ≤ _), (by decide : 0 + 2 ≤ _)⟩)
  dsimp only [Pt.U, Pt.locs, Pt.cells, Pt.slots] at X1 l1 y1_ z1_ st1 hQ1
  subst l1 y1_ z1_
  obtain ⟨b_1, rfl, N1q, K1, u1_b, y1_b, p1_0⟩ := hQ1
  have N1 := Fr.app N0 N1q
  have q1_b_a1 : a1 ≠ b_1 := Nat.ne_of_lt (Nat.lt_of_lt_of_le F0.lt y1_b)
  have q1_b_ab : ab ≠ b_1 := Nat.ne_of_lt (Nat.lt_of_lt_of_le F3.lt y1_b)
  have q1_b_va : va ≠ b_1 := Nat.ne_of_lt (Nat.lt_of_lt_of_le F5.lt y1_b)
  have q1_b_r1 : r1 ≠ b_1 := Nat.ne_of_lt (Nat.lt_of_lt_of_le F7.lt y1_b)
  have q1_b_r2 : r2 ≠ b_1 := Nat.ne_of_lt (Nat.lt_of_lt_of_le F8.lt y1_b)
  have q1_b_s1 : s1 ≠ b_1 := Nat.ne_of_lt (Nat.lt_of_lt_of_le F9.lt y1_b)
  have q1_b_s2 : s2 ≠ b_1 := Nat.ne_of_lt (Nat.lt_of_lt_of_le F10.lt y1_b)
  have q1_b_d1 : d1 ≠ b_1 := Nat.ne_of_lt (Nat.lt_of_lt_of_le F15.lt y1_b)
  have q1_b_d2 : d2 ≠ b_1 := Nat.ne_of_lt (Nat.lt_of_lt_of_le F16.lt y1_b)
  have y2 : h0.size ≤ b_1 := Nat.le_trans (Keep.refl h0 []).1 y1_b
  have z3 : n0 ≤ T1.heap.size := Nat.le_trans Z0 K1.1
  have kp3 : Keep h0 T1.heap [] := (Keep.refl h0 []).trans K1 all0
  refine own_st (B := T1.setTop (mkF m 3 #[.val (.ref a1), .unset, .unset, .unset, .unset] [(.ref b_1)])) (fun t k => st1 t k) ?_
  refine own_st (B := T1.setTop (mkF m 4 #[.val (.ref a1), .val (.ref b_1), .unset, .unset, .unset] [])) (fun t k => XS.astoreN X1.here hx rfl (hb hby d17_3) rfl rfl (l' := #[.val (.ref a1), .val (.ref b_1), .unset, .unset, .unset]) rfl k) ?_
  refine own_st (B := T1.setTop (mkF m 5 #[.val (.ref a1), .val (.ref b_1), .unset, .unset, .unset] [(.ref b_1)])) (fun t k => XS.aloadN X1.here hx rfl (hb hby d17_4) rfl rfl k) ?_
  refine own_st (B := T1.setTop (mkF m 6 #[.val (.ref a1), .val (.ref b_1), .unset, .unset, .unset] [(.int (2 : Int32))])) (fun t k => own_len X1 hx hZ rfl p1_0 (g := (mkF m 5 #[.val (.ref a1), .val (.ref b_1), .unset, .unset, .unset] [(.ref b_1)])) (n := (2 : Int32)) (show (2 : Int32).toInt = ((2 : Nat) : Int) from by decide) rfl rfl (hb hby d17_5) k) ?_
  refine own_st (B := T1.setTop (mkF m 7 #[.val (.ref a1), .val (.ref b_1), .val (.int (2 : Int32)), .unset, .unset] [])) (fun t k => XS.istoreN X1.here hx rfl (hb hby d17_6) rfl (l' := #[.val (.ref a1), .val (.ref b_1), .val (.int (2 : Int32)), .unset, .unset]) rfl k) ?_
  refine own_st (B := T1.setTop (mkF m 8 #[.val (.ref a1), .val (.ref b_1), .val (.int (2 : Int32)), .unset, .unset] [(.int (0 : Int32))])) (fun t k => XS.iconst X1.here hx rfl (hb hby d17_7) k) ?_
  refine own_st (B := T1.setTop (mkF m 9 #[.val (.ref a1), .val (.ref b_1), .val (.int (2 : Int32)), .val (.int (0 : Int32)), .unset] [])) (fun t k => XS.istoreN X1.here hx rfl (hb hby d17_8) rfl (l' := #[.val (.ref a1), .val (.ref b_1), .val (.int (2 : Int32)), .val (.int (0 : Int32)), .unset]) rfl k) ?_
  refine own_st (B := T1.setTop (mkF m 10 #[.val (.ref a1), .val (.ref b_1), .val (.int (2 : Int32)), .val (.int (0 : Int32)), .unset] [(.int (0 : Int32))])) (fun t k => XS.iloadN X1.here hx rfl (hb hby d17_9) rfl k) ?_
  refine own_st (B := T1.setTop (mkF m 11 #[.val (.ref a1), .val (.ref b_1), .val (.int (2 : Int32)), .val (.int (0 : Int32)), .unset] [(.int (2 : Int32)), (.int (0 : Int32))])) (fun t k => XS.iloadN X1.here hx rfl (hb hby d17_10) rfl k) ?_
  refine own_st (B := T1.setTop (mkF m 14 #[.val (.ref a1), .val (.ref b_1), .val (.int (2 : Int32)), .val (.int (0 : Int32)), .unset] [])) (fun t k => XS.icmpNo X1.here hx rfl (hb hby d17_11) rfl (by decide) k) ?_
  refine own_st (B := T1.setTop (mkF m 15 #[.val (.ref a1), .val (.ref b_1), .val (.int (2 : Int32)), .val (.int (0 : Int32)), .unset] [(.ref b_1)])) (fun t k => XS.aloadN X1.here hx rfl (hb hby d17_14) rfl rfl k) ?_
  refine own_st (B := T1.setTop (mkF m 16 #[.val (.ref a1), .val (.ref b_1), .val (.int (2 : Int32)), .val (.int (0 : Int32)), .unset] [(.int (0 : Int32)), (.ref b_1)])) (fun t k => XS.iloadN X1.here hx rfl (hb hby d17_15) rfl k) ?_
  refine own_st (B := T1.setTop (mkF m 17 #[.val (.ref a1), .val (.ref b_1), .val (.int (2 : Int32)), .val (.int (0 : Int32)), .unset] [(.ref r1)])) (fun t k => own_ldR X1 hx hZ rfl p1_0 rfl (g := (mkF m 16 #[.val (.ref a1), .val (.ref b_1), .val (.int (2 : Int32)), .val (.int (0 : Int32)), .unset] [(.int (0 : Int32)), (.ref b_1)])) (i := 0) (by decide) rfl rfl rfl (hb hby d17_16) k) ?_
  refine own_st (B := T1.setTop (mkF m 19 #[.val (.ref a1), .val (.ref b_1), .val (.int (2 : Int32)), .val (.int (0 : Int32)), .val (.ref r1)] [])) (fun t k => XS.astore X1.here hx rfl (hb hby d17_17) rfl rfl (l' := #[.val (.ref a1), .val (.ref b_1), .val (.int (2 : Int32)), .val (.int (0 : Int32)), .val (.ref r1)]) rfl k) ?_
  refine own_st (B := T1.setTop (mkF m 21 #[.val (.ref a1), .val (.ref b_1), .val (.int (2 : Int32)), .val (.int (0 : Int32)), .val (.ref r1)] [(.ref r1)])) (fun t k => XS.aload X1.here hx rfl (hb hby d17_19) rfl rfl k) ?_
  have f4 : Fld Z T1.heap r1 "com/example/goodput/goodput/DeliveryMode" "name" "Ljava/lang/String;" (.ref s1) := (F7.keep K1 nin0)
  obtain ⟨T5, X5, e5, st5⟩ := getF X1 hx hZ hown (host := "") (Or.inl (w_100 hw)) Via.refl rfl f4 (g := (mkF m 21 #[.val (.ref a1), .val (.ref b_1), .val (.int (2 : Int32)), .val (.int (0 : Int32)), .val (.ref r1)] [(.ref r1)])) rfl rfl (hb hby d17_21)
  refine own_st (B := T5.setTop (mkF m 24 #[.val (.ref a1), .val (.ref b_1), .val (.int (2 : Int32)), .val (.int (0 : Int32)), .val (.ref r1)] [(.ref s1)])) (fun t k => st5 t k) ?_
  refine own_st (B := T5.setTop (mkF m 25 #[.val (.ref a1), .val (.ref b_1), .val (.int (2 : Int32)), .val (.int (0 : Int32)), .val (.ref r1)] [(.ref a1), (.ref s1)])) (fun t k => XS.aloadN X5.here hx rfl (hb hby d17_24) rfl rfl k) ?_
  have f6 : Exa Z T1.heap s1 "java/lang/String" := (F9.keep K1)
  have f7 : Exa Z T1.heap a1 "java/lang/String" := (F0.keep K1)
  have f8 : Fld Z T1.heap s1 "java/lang/String" "coder" "B" (.int (0 : Int32)) := (F11.keep K1 nin0)
  have f9 : Fld Z T1.heap s1 "java/lang/String" "value" "[B" (.ref d1) := (F12.keep K1 nin0)
  have f10 : Fld Z T1.heap a1 "java/lang/String" "coder" "B" (.int (0 : Int32)) := (F1.keep K1 nin0)
  have f11 : Fld Z T1.heap a1 "java/lang/String" "value" "[B" (.ref ab) := (F2.keep K1 nin0)
  have f12 : own_A Z T1.heap d1 .byte (own_d.map Value.int) := (F15.keep K1 nin0)
  have f13 : own_A Z T1.heap ab .byte (bs.map Value.int) := (F3.keep K1 nin0)
  have f14 : Sta Z T1.heap "java/lang/String" "COMPACT_STRINGS" "Z" (.int cs) := (own_Sta.keep F17 K1 (fun _ q => nomatch q))
  obtain ⟨cq15, kq15, q15a, q15b, q15c⟩ := isOf hZ e5 f6
  obtain ⟨_, _, ⟨T15, L15, k15, j15⟩, -, X15, ⟨Lc15, hQ15, l15, y15_, z15_⟩, st15⟩ := X5.virtualBack hx (y := (⟨"java/lang/String", "equals", "(Ljava/lang/Object;)Z"⟩ : MethodName)) (z := (⟨"java/lang/String", "equals", "(Ljava/lang/Object;)Z"⟩ : MethodName)) hown (mvT hZ (w_102 hw)) (mvT hZ (w_71 hw)) (notFace_of_selects (args := #[]) (mvT hZ (w_73 hw))) (mvT hZ (w_73 hw)) (mvT hZ (w_72 hw)) (by decide) (backOf (W := 0) (rm15d l Z a0 hw [] s1 a1 d1 ab own_d bs cs T1.heap n0 z3 f6 f7 f8 f9 f10 f11 f12 f13 f14 n1 hcs (show own_d.length < 1000 by decide) hbn) hZ (w_74 hw) (w_1 hw) (by decide) (by decide)) q15a q15c (g := (mkF m 25 #[.val (.ref a1), .val (.ref b_1), .val (.int (2 : Int32)), .val (.int (0 : Int32)), .val (.ref r1)] [(.ref a1), (.ref s1)])) rfl (by rw [hml]; rfl) (Steps.refl _) (argsL := [(.ref a1)]) (rest := []) (lenOf own_pd19 rfl) rfl (by show 2 * 0 + _ ≤ _; exact Nat.le_of_eq rfl) (hb hby d17_25) (fun _ _ => ⟨rfl, e5, (by decide : 1 + 0 ≤ _), (by decide : 2 + 0 ≤ _)⟩)
  dsimp only [Pt.U, Pt.locs, Pt.cells, Pt.slots] at X15 l15 y15_ z15_ st15 hQ15
  subst l15 y15_ z15_
  obtain ⟨rfl, N15q, e15q⟩ := hQ15
  have N15 := Fr.app N1 N15q
  refine own_ss (B := T15.setTop (mkF m 28 #[.val (.ref a1), .val (.ref b_1), .val (.int (2 : Int32)), .val (.int (0 : Int32)), .val (.ref r1)] [(.int (own_leq own_d bs))])) st15 ?_
  refine own_st (B := T15.setTop (mkF m 31 #[.val (.ref a1), .val (.ref b_1), .val (.int (2 : Int32)), .val (.int (0 : Int32)), .val (.ref r1)] [])) (fun t k => XS.ifNo X15.here hx rfl (hb hby d17_28) rfl (XT.i0_eq_f hD) k) ?_
  refine own_st (B := T15.setTop (mkF m 33 #[.val (.ref a1), .val (.ref b_1), .val (.int (2 : Int32)), .val (.int (0 : Int32)), .val (.ref r1)] [(.ref r1)])) (fun t k => XS.aload X15.here hx rfl (hb hby d17_31) rfl rfl k) ?_
  refine own_retR X15 hx hlk (t := (.object "com/example/goodput/goodput/DeliveryMode")) Bd.returns rfl rfl rfl (hb hby d17_33) (by decide) (by decide) ?_
  show Q17d Z a1 ab bs va r1 r2 s1 s2 d1 d2 cs h0 n0 _ T15.heap _
  rw [e15q]
  exact ⟨rfl, N15, kp3⟩
theorem ef_17p (m : MethodId) (x0 : Addr) : entryFrame m #[(.ref x0)] 5 = mkF m 0 #[.val (.ref x0), .unset, .unset, .unset, .unset] [] := by first | (simp [entryFrame, mkF, argsToLocals, Value.category]; done) | rfl
def Q17p (Z : State) (a1 : Addr) (ab : Addr) (bs : List Int32) (va : Addr) (r1 : Addr) (r2 : Addr) (s1 : Addr) (s2 : Addr) (d1 : Addr) (d2 : Addr) (cs : Int32) (h0 : Heap) (n0 : Nat) (v : Option Value) (h : Heap) (L : List Loc) : Prop := v = some (.ref r2) ∧ Fr n0 L ∧ Keep h0 h []
set_option maxHeartbeats 40000000 in
theorem rm17p (l : Launch) (Z : State) (a0 : Array Value) (hw : ∀ d ∈ tables_1, d.before a0 Z = true) (ws : List Jvm.Cond) (a1 : Addr) (ab : Addr) (bs : List Int32) (va : Addr) (r1 : Addr) (r2 : Addr) (s1 : Addr) (s2 : Addr) (d1 : Addr) (d2 : Addr) (cs : Int32) (h0 : Heap) (n0 : Nat) (Z0 : n0 ≤ h0.size) (F0 : Exa Z h0 a1 "java/lang/String") (F1 : Fld Z h0 a1 "java/lang/String" "coder" "B" (.int (0 : Int32))) (F2 : Fld Z h0 a1 "java/lang/String" "value" "[B" (.ref ab)) (F3 : own_A Z h0 ab .byte (bs.map Value.int)) (F4 : Sta Z h0 "com/example/goodput/goodput/DeliveryMode" "$VALUES" "[Lcom/example/goodput/goodput/DeliveryMode;" (.ref va)) (F5 : Exa Z h0 va "[Lcom/example/goodput/goodput/DeliveryMode;") (F6 : own_A Z h0 va (.object "com/example/goodput/goodput/DeliveryMode") [(.ref r1), (.ref r2)]) (F7 : Fld Z h0 r1 "com/example/goodput/goodput/DeliveryMode" "name" "Ljava/lang/String;" (.ref s1)) (F8 : Fld Z h0 r2 "com/example/goodput/goodput/DeliveryMode" "name" "Ljava/lang/String;" (.ref s2)) (F9 : Exa Z h0 s1 "java/lang/String") (F10 : Exa Z h0 s2 "java/lang/String") (F11 : Fld Z h0 s1 "java/lang/String" "coder" "B" (.int (0 : Int32))) (F12 : Fld Z h0 s1 "java/lang/String" "value" "[B" (.ref d1)) (F13 : Fld Z h0 s2 "java/lang/String" "coder" "B" (.int (0 : Int32))) (F14 : Fld Z h0 s2 "java/lang/String" "value" "[B" (.ref d2)) (F15 : own_A Z h0 d1 .byte (own_d.map Value.int)) (F16 : own_A Z h0 d2 .byte (own_q.map Value.int)) (F17 : Sta Z h0 "java/lang/String" "COMPACT_STRINGS" "Z" (.int cs)) (hcs : ¬ (cs = (0 : Int32))) (n1 : s1 ≠ a1) (n2 : s2 ≠ a1) (hbn : bs.length < 1000) (hD : (own_leq own_d bs) = (0 : Int32)) (hP : ¬ ((own_leq own_q bs) = (0 : Int32))) :
    MetFree l (⟨"com/example/goodput/goodput/DeliveryMode", "named", "(Ljava/lang/String;)Lcom/example/goodput/goodput/DeliveryMode;"⟩ : MethodName) (head1 (Jvm.Cond.code (⟨"com/example/goodput/goodput/DeliveryMode", "named", "(Ljava/lang/String;)Lcom/example/goodput/goodput/DeliveryMode;"⟩ : MethodName) prog_10_method_4_code 5 (some (.object "com/example/goodput/goodput/DeliveryMode")) :: ws) ({ frames := 2, cells := 1, slots := 2, locals := 28 } : Room)) (fun a U => a = #[(.ref a1)] ∧ Z.Warmed39 U.vm ∧ U.heap = h0) (fun _ _ _ _ _ => True) (fun _ U o U' => ∃ v L, o = .returned v ∧ Q17p Z a1 ab bs va r1 r2 s1 s2 d1 d2 cs h0 n0 v U'.heap L ∧ FrameEnd U o U' L ({ frames := 2, cells := 1, slots := 2, locals := 28 } : Room).cells ({ frames := 2, cells := 1, slots := 2, locals := 28 } : Room).slots) := by
  refine MetFree.of_bodySF (plainFor_of_name own_pn6) hisR ?_
  intro p e s m args below meth c s₁ Bd hml0 hP hK
  obtain ⟨rfl, hZ, hh⟩ := hP
  have hx := Bd.exec
  have hby := Bd.bytes
  have hml : c.maxLocals = 5 := hml0
  have hlk : meth.locks = false := BodyLoose.notSynchronized Bd
  have hown : s.vm.findClass "com/example/goodput/goodput/DeliveryMode" = some m.cls := findClass_of_methodNamed Bd.named
  have hnm := (name_of_methodNamed Bd.named Bd.method).1
  have X0 : Stand p l e ({ frames := 2, cells := 1, slots := 2, locals := 28 } : Room) s m #[(.ref a1)] below meth c s₁ [] 0 0 := Stand.of_body Bd
  have e0 : s₁.heap = h0 := by rw [← hh, Bd.state]; rfl
  have N0 := Fr.nil n0
  show own_Go p e below s (Q17p Z a1 ab bs va r1 r2 s1 s2 d1 d2 cs h0 n0) ({ frames := 2, cells := 1, slots := 2, locals := 28 } : Room).cells ({ frames := 2, cells := 1, slots := 2, locals := 28 } : Room).slots _
  refine own_st (B := s₁.setTop (mkF m 0 #[.val (.ref a1), .unset, .unset, .unset, .unset] [])) (fun t k => castTop (ef_17p m (a1)) k) ?_
  obtain ⟨_, _, ⟨T1, L1, k1, j1⟩, -, X1, ⟨Lc1, hQ1, l1, y1_, z1_⟩, st1⟩ := Jvm.LawKit.callS X0 hx (y := (⟨"com/example/goodput/goodput/DeliveryMode", "values", "()[Lcom/example/goodput/goodput/DeliveryMode;"⟩ : MethodName)) hown (mvT hZ (w_83 hw)) (mvT hZ (w_84 hw)) (mvT hZ (w_81 hw)) (mvT hZ (w_85 hw)) (by decide) (backOf (W := 0) (rm18 l Z a0 hw [] va r1 r2 h0 n0 Z0 F4 F5 F6) hZ (w_85 hw) (w_81 hw) (by decide) (by decide)) (g := (mkF m 0 #[.val (.ref a1), .unset, .unset, .unset, .unset] [])) rfl (by rw [hml]; rfl) (argsL := []) (rest := []) (lenOf own_pd18 rfl) rfl (by show 2 * 0 + _ ≤ _; exact Nat.le_of_eq rfl) (hb hby d17_0) (fun _ _ => ⟨rfl, e0, (by decide : 0 + 1 ≤ _), (by decide : 0 + 2 ≤ _)⟩)
  dsimp only [Pt.U, Pt.locs, Pt.cells, Pt.slots] at X1 l1 y1_ z1_ st1 hQ1
  subst l1 y1_ z1_
  obtain ⟨b_1, rfl, N1q, K1, u1_b, y1_b, p1_0⟩ := hQ1
  have N1 := Fr.app N0 N1q
  have q1_b_a1 : a1 ≠ b_1 := Nat.ne_of_lt (Nat.lt_of_lt_of_le F0.lt y1_b)
  have q1_b_ab : ab ≠ b_1 := Nat.ne_of_lt (Nat.lt_of_lt_of_le F3.lt y1_b)
  have q1_b_va : va ≠ b_1 := Nat.ne_of_lt (Nat.lt_of_lt_of_le F5.lt y1_b)
  have q1_b_r1 : r1 ≠ b_1 := Nat.ne_of_lt (Nat.lt_of_lt_of_le F7.lt y1_b)
  have q1_b_r2 : r2 ≠ b_1 := Nat.ne_of_lt (Nat.lt_of_lt_of_le F8.lt y1_b)
  have q1_b_s1 : s1 ≠ b_1 := Nat.ne_of_lt (Nat.lt_of_lt_of_le F9.lt y1_b)
  have q1_b_s2 : s2 ≠ b_1 := Nat.ne_of_lt (Nat.lt_of_lt_of_le F10.lt y1_b)
  have q1_b_d1 : d1 ≠ b_1 := Nat.ne_of_lt (Nat.lt_of_lt_of_le F15.lt y1_b)
  have q1_b_d2 : d2 ≠ b_1 := Nat.ne_of_lt (Nat.lt_of_lt_of_le F16.lt y1_b)
  have y2 : h0.size ≤ b_1 := Nat.le_trans (Keep.refl h0 []).1 y1_b
  have z3 : n0 ≤ T1.heap.size := Nat.le_trans Z0 K1.1
  have kp3 : Keep h0 T1.heap [] := (Keep.refl h0 []).trans K1 all0
  refine own_st (B := T1.setTop (mkF m 3 #[.val (.ref a1), .unset, .unset, .unset, .unset] [(.ref b_1)])) (fun t k => st1 t k) ?_
  refine own_st (B := T1.setTop (mkF m 4 #[.val (.ref a1), .val (.ref b_1), .unset, .unset, .unset] [])) (fun t k => XS.astoreN X1.here hx rfl (hb hby d17_3) rfl rfl (l' := #[.val (.ref a1), .val (.ref b_1), .unset, .unset, .unset]) rfl k) ?_
  refine own_st (B := T1.setTop (mkF m 5 #[.val (.ref a1), .val (.ref b_1), .unset, .unset, .unset] [(.ref b_1)])) (fun t k => XS.aloadN X1.here hx rfl (hb hby d17_4) rfl rfl k) ?_
  refine own_st (B := T1.setTop (mkF m 6 #[.val (.ref a1), .val (.ref b_1), .unset, .unset, .unset] [(.int (2 : Int32))])) (fun t k => own_len X1 hx hZ rfl p1_0 (g := (mkF m 5 #[.val (.ref a1), .val (.ref b_1), .unset, .unset, .unset] [(.ref b_1)])) (n := (2 : Int32)) (show (2 : Int32).toInt = ((2 : Nat) : Int) from by decide) rfl rfl (hb hby d17_5) k) ?_
  refine own_st (B := T1.setTop (mkF m 7 #[.val (.ref a1), .val (.ref b_1), .val (.int (2 : Int32)), .unset, .unset] [])) (fun t k => XS.istoreN X1.here hx rfl (hb hby d17_6) rfl (l' := #[.val (.ref a1), .val (.ref b_1), .val (.int (2 : Int32)), .unset, .unset]) rfl k) ?_
  refine own_st (B := T1.setTop (mkF m 8 #[.val (.ref a1), .val (.ref b_1), .val (.int (2 : Int32)), .unset, .unset] [(.int (0 : Int32))])) (fun t k => XS.iconst X1.here hx rfl (hb hby d17_7) k) ?_
  refine own_st (B := T1.setTop (mkF m 9 #[.val (.ref a1), .val (.ref b_1), .val (.int (2 : Int32)), .val (.int (0 : Int32)), .unset] [])) (fun t k => XS.istoreN X1.here hx rfl (hb hby d17_8) rfl (l' := #[.val (.ref a1), .val (.ref b_1), .val (.int (2 : Int32)), .val (.int (0 : Int32)), .unset]) rfl k) ?_
  refine own_st (B := T1.setTop (mkF m 10 #[.val (.ref a1), .val (.ref b_1), .val (.int (2 : Int32)), .val (.int (0 : Int32)), .unset] [(.int (0 : Int32))])) (fun t k => XS.iloadN X1.here hx rfl (hb hby d17_9) rfl k) ?_
  refine own_st (B := T1.setTop (mkF m 11 #[.val (.ref a1), .val (.ref b_1), .val (.int (2 : Int32)), .val (.int (0 : Int32)), .unset] [(.int (2 : Int32)), (.int (0 : Int32))])) (fun t k => XS.iloadN X1.here hx rfl (hb hby d17_10) rfl k) ?_
  refine own_st (B := T1.setTop (mkF m 14 #[.val (.ref a1), .val (.ref b_1), .val (.int (2 : Int32)), .val (.int (0 : Int32)), .unset] [])) (fun t k => XS.icmpNo X1.here hx rfl (hb hby d17_11) rfl (by decide) k) ?_
  refine own_st (B := T1.setTop (mkF m 15 #[.val (.ref a1), .val (.ref b_1), .val (.int (2 : Int32)), .val (.int (0 : Int32)), .unset] [(.ref b_1)])) (fun t k => XS.aloadN X1.here hx rfl (hb hby d17_14) rfl rfl k) ?_
  refine own_st (B := T1.setTop (mkF m 16 #[.val (.ref a1), .val (.ref b_1), .val (.int (2 : Int32)), .val (.int (0 : Int32)), .unset] [(.int (0 : Int32)), (.ref b_1)])) (fun t k => XS.iloadN X1.here hx rfl (hb hby d17_15) rfl k) ?_
  refine own_st (B := T1.setTop (mkF m 17 #[.val (.ref a1), .val (.ref b_1), .val (.int (2 : Int32)), .val (.int (0 : Int32)), .unset] [(.ref r1)])) (fun t k => own_ldR X1 hx hZ rfl p1_0 rfl (g := (mkF m 16 #[.val (.ref a1), .val (.ref b_1), .val (.int (2 : Int32)), .val (.int (0 : Int32)), .unset] [(.int (0 : Int32)), (.ref b_1)])) (i := 0) (by decide) rfl rfl rfl (hb hby d17_16) k) ?_
  refine own_st (B := T1.setTop (mkF m 19 #[.val (.ref a1), .val (.ref b_1), .val (.int (2 : Int32)), .val (.int (0 : Int32)), .val (.ref r1)] [])) (fun t k => XS.astore X1.here hx rfl (hb hby d17_17) rfl rfl (l' := #[.val (.ref a1), .val (.ref b_1), .val (.int (2 : Int32)), .val (.int (0 : Int32)), .val (.ref r1)]) rfl k) ?_
  refine own_st (B := T1.setTop (mkF m 21 #[.val (.ref a1), .val (.ref b_1), .val (.int (2 : Int32)), .val (.int (0 : Int32)), .val (.ref r1)] [(.ref r1)])) (fun t k => XS.aload X1.here hx rfl (hb hby d17_19) rfl rfl k) ?_
  have f4 : Fld Z T1.heap r1 "com/example/goodput/goodput/DeliveryMode" "name" "Ljava/lang/String;" (.ref s1) := (F7.keep K1 nin0)
  obtain ⟨T5, X5, e5, st5⟩ := getF X1 hx hZ hown (host := "") (Or.inl (w_100 hw)) Via.refl rfl f4 (g := (mkF m 21 #[.val (.ref a1), .val (.ref b_1), .val (.int (2 : Int32)), .val (.int (0 : Int32)), .val (.ref r1)] [(.ref r1)])) rfl rfl (hb hby d17_21)
  refine own_st (B := T5.setTop (mkF m 24 #[.val (.ref a1), .val (.ref b_1), .val (.int (2 : Int32)), .val (.int (0 : Int32)), .val (.ref r1)] [(.ref s1)])) (fun t k => st5 t k) ?_
  refine own_st (B := T5.setTop (mkF m 25 #[.val (.ref a1), .val (.ref b_1), .val (.int (2 : Int32)), .val (.int (0 : Int32)), .val (.ref r1)] [(.ref a1), (.ref s1)])) (fun t k => XS.aloadN X5.here hx rfl (hb hby d17_24) rfl rfl k) ?_
  have f6 : Exa Z T1.heap s1 "java/lang/String" := (F9.keep K1)
  have f7 : Exa Z T1.heap a1 "java/lang/String" := (F0.keep K1)
  have f8 : Fld Z T1.heap s1 "java/lang/String" "coder" "B" (.int (0 : Int32)) := (F11.keep K1 nin0)
  have f9 : Fld Z T1.heap s1 "java/lang/String" "value" "[B" (.ref d1) := (F12.keep K1 nin0)
  have f10 : Fld Z T1.heap a1 "java/lang/String" "coder" "B" (.int (0 : Int32)) := (F1.keep K1 nin0)
  have f11 : Fld Z T1.heap a1 "java/lang/String" "value" "[B" (.ref ab) := (F2.keep K1 nin0)
  have f12 : own_A Z T1.heap d1 .byte (own_d.map Value.int) := (F15.keep K1 nin0)
  have f13 : own_A Z T1.heap ab .byte (bs.map Value.int) := (F3.keep K1 nin0)
  have f14 : Sta Z T1.heap "java/lang/String" "COMPACT_STRINGS" "Z" (.int cs) := (own_Sta.keep F17 K1 (fun _ q => nomatch q))
  obtain ⟨cq15, kq15, q15a, q15b, q15c⟩ := isOf hZ e5 f6
  obtain ⟨_, _, ⟨T15, L15, k15, j15⟩, -, X15, ⟨Lc15, hQ15, l15, y15_, z15_⟩, st15⟩ := X5.virtualBack hx (y := (⟨"java/lang/String", "equals", "(Ljava/lang/Object;)Z"⟩ : MethodName)) (z := (⟨"java/lang/String", "equals", "(Ljava/lang/Object;)Z"⟩ : MethodName)) hown (mvT hZ (w_102 hw)) (mvT hZ (w_71 hw)) (notFace_of_selects (args := #[]) (mvT hZ (w_73 hw))) (mvT hZ (w_73 hw)) (mvT hZ (w_72 hw)) (by decide) (backOf (W := 0) (rm15d l Z a0 hw [] s1 a1 d1 ab own_d bs cs T1.heap n0 z3 f6 f7 f8 f9 f10 f11 f12 f13 f14 n1 hcs (show own_d.length < 1000 by decide) hbn) hZ (w_74 hw) (w_1 hw) (by decide) (by decide)) q15a q15c (g := (mkF m 25 #[.val (.ref a1), .val (.ref b_1), .val (.int (2 : Int32)), .val (.int (0 : Int32)), .val (.ref r1)] [(.ref a1), (.ref s1)])) rfl (by rw [hml]; rfl) (Steps.refl _) (argsL := [(.ref a1)]) (rest := []) (lenOf own_pd19 rfl) rfl (by show 2 * 0 + _ ≤ _; exact Nat.le_of_eq rfl) (hb hby d17_25) (fun _ _ => ⟨rfl, e5, (by decide : 1 + 0 ≤ _), (by decide : 2 + 0 ≤ _)⟩)
  dsimp only [Pt.U, Pt.locs, Pt.cells, Pt.slots] at X15 l15 y15_ z15_ st15 hQ15
  subst l15 y15_ z15_
  obtain ⟨rfl, N15q, e15q⟩ := hQ15
  have N15 := Fr.app N1 N15q
  refine own_ss (B := T15.setTop (mkF m 28 #[.val (.ref a1), .val (.ref b_1), .val (.int (2 : Int32)), .val (.int (0 : Int32)), .val (.ref r1)] [(.int (own_leq own_d bs))])) st15 ?_
  refine own_st (B := T15.setTop (mkF m 34 #[.val (.ref a1), .val (.ref b_1), .val (.int (2 : Int32)), .val (.int (0 : Int32)), .val (.ref r1)] [])) (fun t k => XS.ifYes X15.here hx rfl (pc0 := 28) (pc' := 34) rfl (hb hby d17_28) rfl (XT.i0_eq_t hD) (by decide) (by decide) k) ?_
  refine own_st (B := T15.setTop (mkF m 37 #[.val (.ref a1), .val (.ref b_1), .val (.int (2 : Int32)), .val (.int ((0 : Int32) + (1 : Int32))), .val (.ref r1)] [])) (fun t k => XS.iinc X15.here hx rfl (hb hby d17_34) rfl (l' := #[.val (.ref a1), .val (.ref b_1), .val (.int (2 : Int32)), .val (.int ((0 : Int32) + (1 : Int32))), .val (.ref r1)]) rfl k) ?_
  refine own_st (B := T15.setTop (mkF m 9 #[.val (.ref a1), .val (.ref b_1), .val (.int (2 : Int32)), .val (.int ((0 : Int32) + (1 : Int32))), .val (.ref r1)] [])) (fun t k => XS.goto X15.here hx rfl (pc0 := 37) (pc' := 9) rfl (hb hby d17_37) (by decide) (by decide) k) ?_
  refine own_st (B := T15.setTop (mkF m 10 #[.val (.ref a1), .val (.ref b_1), .val (.int (2 : Int32)), .val (.int ((0 : Int32) + (1 : Int32))), .val (.ref r1)] [(.int ((0 : Int32) + (1 : Int32)))])) (fun t k => XS.iloadN X15.here hx rfl (hb hby d17_9) rfl k) ?_
  refine own_st (B := T15.setTop (mkF m 11 #[.val (.ref a1), .val (.ref b_1), .val (.int (2 : Int32)), .val (.int ((0 : Int32) + (1 : Int32))), .val (.ref r1)] [(.int (2 : Int32)), (.int ((0 : Int32) + (1 : Int32)))])) (fun t k => XS.iloadN X15.here hx rfl (hb hby d17_10) rfl k) ?_
  refine own_st (B := T15.setTop (mkF m 14 #[.val (.ref a1), .val (.ref b_1), .val (.int (2 : Int32)), .val (.int ((0 : Int32) + (1 : Int32))), .val (.ref r1)] [])) (fun t k => XS.icmpNo X15.here hx rfl (hb hby d17_11) rfl (by decide) k) ?_
  refine own_st (B := T15.setTop (mkF m 15 #[.val (.ref a1), .val (.ref b_1), .val (.int (2 : Int32)), .val (.int ((0 : Int32) + (1 : Int32))), .val (.ref r1)] [(.ref b_1)])) (fun t k => XS.aloadN X15.here hx rfl (hb hby d17_14) rfl rfl k) ?_
  refine own_st (B := T15.setTop (mkF m 16 #[.val (.ref a1), .val (.ref b_1), .val (.int (2 : Int32)), .val (.int ((0 : Int32) + (1 : Int32))), .val (.ref r1)] [(.int ((0 : Int32) + (1 : Int32))), (.ref b_1)])) (fun t k => XS.iloadN X15.here hx rfl (hb hby d17_15) rfl k) ?_
  refine own_st (B := T15.setTop (mkF m 17 #[.val (.ref a1), .val (.ref b_1), .val (.int (2 : Int32)), .val (.int ((0 : Int32) + (1 : Int32))), .val (.ref r1)] [(.ref r2)])) (fun t k => own_ldR X15 hx hZ e15q p1_0 rfl (g := (mkF m 16 #[.val (.ref a1), .val (.ref b_1), .val (.int (2 : Int32)), .val (.int ((0 : Int32) + (1 : Int32))), .val (.ref r1)] [(.int ((0 : Int32) + (1 : Int32))), (.ref b_1)])) (i := 1) (by decide) rfl rfl rfl (hb hby d17_16) k) ?_
  refine own_st (B := T15.setTop (mkF m 19 #[.val (.ref a1), .val (.ref b_1), .val (.int (2 : Int32)), .val (.int ((0 : Int32) + (1 : Int32))), .val (.ref r2)] [])) (fun t k => XS.astore X15.here hx rfl (hb hby d17_17) rfl rfl (l' := #[.val (.ref a1), .val (.ref b_1), .val (.int (2 : Int32)), .val (.int ((0 : Int32) + (1 : Int32))), .val (.ref r2)]) rfl k) ?_
  refine own_st (B := T15.setTop (mkF m 21 #[.val (.ref a1), .val (.ref b_1), .val (.int (2 : Int32)), .val (.int ((0 : Int32) + (1 : Int32))), .val (.ref r2)] [(.ref r2)])) (fun t k => XS.aload X15.here hx rfl (hb hby d17_19) rfl rfl k) ?_
  have f16 : Fld Z T1.heap r2 "com/example/goodput/goodput/DeliveryMode" "name" "Ljava/lang/String;" (.ref s2) := (F8.keep K1 nin0)
  obtain ⟨T17, X17, e17, st17⟩ := getF X15 hx hZ hown (host := "") (Or.inl (w_100 hw)) Via.refl e15q f16 (g := (mkF m 21 #[.val (.ref a1), .val (.ref b_1), .val (.int (2 : Int32)), .val (.int ((0 : Int32) + (1 : Int32))), .val (.ref r2)] [(.ref r2)])) rfl rfl (hb hby d17_21)
  refine own_st (B := T17.setTop (mkF m 24 #[.val (.ref a1), .val (.ref b_1), .val (.int (2 : Int32)), .val (.int ((0 : Int32) + (1 : Int32))), .val (.ref r2)] [(.ref s2)])) (fun t k => st17 t k) ?_
  refine own_st (B := T17.setTop (mkF m 25 #[.val (.ref a1), .val (.ref b_1), .val (.int (2 : Int32)), .val (.int ((0 : Int32) + (1 : Int32))), .val (.ref r2)] [(.ref a1), (.ref s2)])) (fun t k => XS.aloadN X17.here hx rfl (hb hby d17_24) rfl rfl k) ?_
  have f18 : Exa Z T1.heap s2 "java/lang/String" := (F10.keep K1)
  have f19 : Fld Z T1.heap s2 "java/lang/String" "coder" "B" (.int (0 : Int32)) := (F13.keep K1 nin0)
  have f20 : Fld Z T1.heap s2 "java/lang/String" "value" "[B" (.ref d2) := (F14.keep K1 nin0)
  have f21 : own_A Z T1.heap d2 .byte (own_q.map Value.int) := (F16.keep K1 nin0)
  obtain ⟨cq22, kq22, q22a, q22b, q22c⟩ := isOf hZ e17 f18
  obtain ⟨_, _, ⟨T22, L22, k22, j22⟩, -, X22, ⟨Lc22, hQ22, l22, y22_, z22_⟩, st22⟩ := X17.virtualBack hx (y := (⟨"java/lang/String", "equals", "(Ljava/lang/Object;)Z"⟩ : MethodName)) (z := (⟨"java/lang/String", "equals", "(Ljava/lang/Object;)Z"⟩ : MethodName)) hown (mvT hZ (w_102 hw)) (mvT hZ (w_71 hw)) (notFace_of_selects (args := #[]) (mvT hZ (w_73 hw))) (mvT hZ (w_73 hw)) (mvT hZ (w_72 hw)) (by decide) (backOf (W := 0) (rm15d l Z a0 hw [] s2 a1 d2 ab own_q bs cs T1.heap n0 z3 f18 f7 f19 f20 f10 f11 f21 f13 f14 n2 hcs (show own_q.length < 1000 by decide) hbn) hZ (w_74 hw) (w_1 hw) (by decide) (by decide)) q22a q22c (g := (mkF m 25 #[.val (.ref a1), .val (.ref b_1), .val (.int (2 : Int32)), .val (.int ((0 : Int32) + (1 : Int32))), .val (.ref r2)] [(.ref a1), (.ref s2)])) rfl (by rw [hml]; rfl) (Steps.refl _) (argsL := [(.ref a1)]) (rest := []) (lenOf own_pd19 rfl) rfl (by show 2 * 0 + _ ≤ _; exact Nat.le_of_eq rfl) (hb hby d17_25) (fun _ _ => ⟨rfl, e17, (by decide : 1 + 0 ≤ _), (by decide : 2 + 0 ≤ _)⟩)
  dsimp only [Pt.U, Pt.locs, Pt.cells, Pt.slots] at X22 l22 y22_ z22_ st22 hQ22
  subst l22 y22_ z22_
  obtain ⟨rfl, N22q, e22q⟩ := hQ22
  have N22 := Fr.app N15 N22q
  refine own_ss (B := T22.setTop (mkF m 28 #[.val (.ref a1), .val (.ref b_1), .val (.int (2 : Int32)), .val (.int ((0 : Int32) + (1 : Int32))), .val (.ref r2)] [(.int (own_leq own_q bs))])) st22 ?_
  refine own_st (B := T22.setTop (mkF m 31 #[.val (.ref a1), .val (.ref b_1), .val (.int (2 : Int32)), .val (.int ((0 : Int32) + (1 : Int32))), .val (.ref r2)] [])) (fun t k => XS.ifNo X22.here hx rfl (hb hby d17_28) rfl (XT.i0_eq_f hP) k) ?_
  refine own_st (B := T22.setTop (mkF m 33 #[.val (.ref a1), .val (.ref b_1), .val (.int (2 : Int32)), .val (.int ((0 : Int32) + (1 : Int32))), .val (.ref r2)] [(.ref r2)])) (fun t k => XS.aload X22.here hx rfl (hb hby d17_31) rfl rfl k) ?_
  refine own_retR X22 hx hlk (t := (.object "com/example/goodput/goodput/DeliveryMode")) Bd.returns rfl rfl rfl (hb hby d17_33) (by decide) (by decide) ?_
  show Q17p Z a1 ab bs va r1 r2 s1 s2 d1 d2 cs h0 n0 _ T22.heap _
  rw [e22q]
  exact ⟨rfl, N22, kp3⟩
theorem ef_17n (m : MethodId) (x0 : Addr) : entryFrame m #[(.ref x0)] 5 = mkF m 0 #[.val (.ref x0), .unset, .unset, .unset, .unset] [] := by first | (simp [entryFrame, mkF, argsToLocals, Value.category]; done) | rfl
def Q17n (Z : State) (a1 : Addr) (ab : Addr) (bs : List Int32) (va : Addr) (r1 : Addr) (r2 : Addr) (s1 : Addr) (s2 : Addr) (d1 : Addr) (d2 : Addr) (cs : Int32) (h0 : Heap) (n0 : Nat) (v : Option Value) (h : Heap) (L : List Loc) : Prop := v = some .null ∧ Fr n0 L ∧ Keep h0 h []
set_option maxHeartbeats 40000000 in
theorem rm17n (l : Launch) (Z : State) (a0 : Array Value) (hw : ∀ d ∈ tables_1, d.before a0 Z = true) (ws : List Jvm.Cond) (a1 : Addr) (ab : Addr) (bs : List Int32) (va : Addr) (r1 : Addr) (r2 : Addr) (s1 : Addr) (s2 : Addr) (d1 : Addr) (d2 : Addr) (cs : Int32) (h0 : Heap) (n0 : Nat) (Z0 : n0 ≤ h0.size) (F0 : Exa Z h0 a1 "java/lang/String") (F1 : Fld Z h0 a1 "java/lang/String" "coder" "B" (.int (0 : Int32))) (F2 : Fld Z h0 a1 "java/lang/String" "value" "[B" (.ref ab)) (F3 : own_A Z h0 ab .byte (bs.map Value.int)) (F4 : Sta Z h0 "com/example/goodput/goodput/DeliveryMode" "$VALUES" "[Lcom/example/goodput/goodput/DeliveryMode;" (.ref va)) (F5 : Exa Z h0 va "[Lcom/example/goodput/goodput/DeliveryMode;") (F6 : own_A Z h0 va (.object "com/example/goodput/goodput/DeliveryMode") [(.ref r1), (.ref r2)]) (F7 : Fld Z h0 r1 "com/example/goodput/goodput/DeliveryMode" "name" "Ljava/lang/String;" (.ref s1)) (F8 : Fld Z h0 r2 "com/example/goodput/goodput/DeliveryMode" "name" "Ljava/lang/String;" (.ref s2)) (F9 : Exa Z h0 s1 "java/lang/String") (F10 : Exa Z h0 s2 "java/lang/String") (F11 : Fld Z h0 s1 "java/lang/String" "coder" "B" (.int (0 : Int32))) (F12 : Fld Z h0 s1 "java/lang/String" "value" "[B" (.ref d1)) (F13 : Fld Z h0 s2 "java/lang/String" "coder" "B" (.int (0 : Int32))) (F14 : Fld Z h0 s2 "java/lang/String" "value" "[B" (.ref d2)) (F15 : own_A Z h0 d1 .byte (own_d.map Value.int)) (F16 : own_A Z h0 d2 .byte (own_q.map Value.int)) (F17 : Sta Z h0 "java/lang/String" "COMPACT_STRINGS" "Z" (.int cs)) (hcs : ¬ (cs = (0 : Int32))) (n1 : s1 ≠ a1) (n2 : s2 ≠ a1) (hbn : bs.length < 1000) (hD : (own_leq own_d bs) = (0 : Int32)) (hP : (own_leq own_q bs) = (0 : Int32)) :
    MetFree l (⟨"com/example/goodput/goodput/DeliveryMode", "named", "(Ljava/lang/String;)Lcom/example/goodput/goodput/DeliveryMode;"⟩ : MethodName) (head1 (Jvm.Cond.code (⟨"com/example/goodput/goodput/DeliveryMode", "named", "(Ljava/lang/String;)Lcom/example/goodput/goodput/DeliveryMode;"⟩ : MethodName) prog_10_method_4_code 5 (some (.object "com/example/goodput/goodput/DeliveryMode")) :: ws) ({ frames := 2, cells := 1, slots := 2, locals := 28 } : Room)) (fun a U => a = #[(.ref a1)] ∧ Z.Warmed39 U.vm ∧ U.heap = h0) (fun _ _ _ _ _ => True) (fun _ U o U' => ∃ v L, o = .returned v ∧ Q17n Z a1 ab bs va r1 r2 s1 s2 d1 d2 cs h0 n0 v U'.heap L ∧ FrameEnd U o U' L ({ frames := 2, cells := 1, slots := 2, locals := 28 } : Room).cells ({ frames := 2, cells := 1, slots := 2, locals := 28 } : Room).slots) := by
  refine MetFree.of_bodySF (plainFor_of_name own_pn6) hisR ?_
  intro p e s m args below meth c s₁ Bd hml0 hP hK
  obtain ⟨rfl, hZ, hh⟩ := hP
  have hx := Bd.exec
  have hby := Bd.bytes
  have hml : c.maxLocals = 5 := hml0
  have hlk : meth.locks = false := BodyLoose.notSynchronized Bd
  have hown : s.vm.findClass "com/example/goodput/goodput/DeliveryMode" = some m.cls := findClass_of_methodNamed Bd.named
  have hnm := (name_of_methodNamed Bd.named Bd.method).1
  have X0 : Stand p l e ({ frames := 2, cells := 1, slots := 2, locals := 28 } : Room) s m #[(.ref a1)] below meth c s₁ [] 0 0 := Stand.of_body Bd
  have e0 : s₁.heap = h0 := by rw [← hh, Bd.state]; rfl
  have N0 := Fr.nil n0
  show own_Go p e below s (Q17n Z a1 ab bs va r1 r2 s1 s2 d1 d2 cs h0 n0) ({ frames := 2, cells := 1, slots := 2, locals := 28 } : Room).cells ({ frames := 2, cells := 1, slots := 2, locals := 28 } : Room).slots _
  refine own_st (B := s₁.setTop (mkF m 0 #[.val (.ref a1), .unset, .unset, .unset, .unset] [])) (fun t k => castTop (ef_17n m (a1)) k) ?_
  obtain ⟨_, _, ⟨T1, L1, k1, j1⟩, -, X1, ⟨Lc1, hQ1, l1, y1_, z1_⟩, st1⟩ := Jvm.LawKit.callS X0 hx (y := (⟨"com/example/goodput/goodput/DeliveryMode", "values", "()[Lcom/example/goodput/goodput/DeliveryMode;"⟩ : MethodName)) hown (mvT hZ (w_83 hw)) (mvT hZ (w_84 hw)) (mvT hZ (w_81 hw)) (mvT hZ (w_85 hw)) (by decide) (backOf (W := 0) (rm18 l Z a0 hw [] va r1 r2 h0 n0 Z0 F4 F5 F6) hZ (w_85 hw) (w_81 hw) (by decide) (by decide)) (g := (mkF m 0 #[.val (.ref a1), .unset, .unset, .unset, .unset] [])) rfl (by rw [hml]; rfl) (argsL := []) (rest := []) (lenOf own_pd18 rfl) rfl (by show 2 * 0 + _ ≤ _; exact Nat.le_of_eq rfl) (hb hby d17_0) (fun _ _ => ⟨rfl, e0, (by decide : 0 + 1 ≤ _), (by decide : 0 + 2 ≤ _)⟩)
  dsimp only [Pt.U, Pt.locs, Pt.cells, Pt.slots] at X1 l1 y1_ z1_ st1 hQ1
  subst l1 y1_ z1_
  obtain ⟨b_1, rfl, N1q, K1, u1_b, y1_b, p1_0⟩ := hQ1
  have N1 := Fr.app N0 N1q
  have q1_b_a1 : a1 ≠ b_1 := Nat.ne_of_lt (Nat.lt_of_lt_of_le F0.lt y1_b)
  have q1_b_ab : ab ≠ b_1 := Nat.ne_of_lt (Nat.lt_of_lt_of_le F3.lt y1_b)
  have q1_b_va : va ≠ b_1 := Nat.ne_of_lt (Nat.lt_of_lt_of_le F5.lt y1_b)
  have q1_b_r1 : r1 ≠ b_1 := Nat.ne_of_lt (Nat.lt_of_lt_of_le F7.lt y1_b)
  have q1_b_r2 : r2 ≠ b_1 := Nat.ne_of_lt (Nat.lt_of_lt_of_le F8.lt y1_b)
  have q1_b_s1 : s1 ≠ b_1 := Nat.ne_of_lt (Nat.lt_of_lt_of_le F9.lt y1_b)
  have q1_b_s2 : s2 ≠ b_1 := Nat.ne_of_lt (Nat.lt_of_lt_of_le F10.lt y1_b)
  have q1_b_d1 : d1 ≠ b_1 := Nat.ne_of_lt (Nat.lt_of_lt_of_le F15.lt y1_b)
  have q1_b_d2 : d2 ≠ b_1 := Nat.ne_of_lt (Nat.lt_of_lt_of_le F16.lt y1_b)
  have y2 : h0.size ≤ b_1 := Nat.le_trans (Keep.refl h0 []).1 y1_b
  have z3 : n0 ≤ T1.heap.size := Nat.le_trans Z0 K1.1
  have kp3 : Keep h0 T1.heap [] := (Keep.refl h0 []).trans K1 all0
  refine own_st (B := T1.setTop (mkF m 3 #[.val (.ref a1), .unset, .unset, .unset, .unset] [(.ref b_1)])) (fun t k => st1 t k) ?_
  refine own_st (B := T1.setTop (mkF m 4 #[.val (.ref a1), .val (.ref b_1), .unset, .unset, .unset] [])) (fun t k => XS.astoreN X1.here hx rfl (hb hby d17_3) rfl rfl (l' := #[.val (.ref a1), .val (.ref b_1), .unset, .unset, .unset]) rfl k) ?_
  refine own_st (B := T1.setTop (mkF m 5 #[.val (.ref a1), .val (.ref b_1), .unset, .unset, .unset] [(.ref b_1)])) (fun t k => XS.aloadN X1.here hx rfl (hb hby d17_4) rfl rfl k) ?_
  refine own_st (B := T1.setTop (mkF m 6 #[.val (.ref a1), .val (.ref b_1), .unset, .unset, .unset] [(.int (2 : Int32))])) (fun t k => own_len X1 hx hZ rfl p1_0 (g := (mkF m 5 #[.val (.ref a1), .val (.ref b_1), .unset, .unset, .unset] [(.ref b_1)])) (n := (2 : Int32)) (show (2 : Int32).toInt = ((2 : Nat) : Int) from by decide) rfl rfl (hb hby d17_5) k) ?_
  refine own_st (B := T1.setTop (mkF m 7 #[.val (.ref a1), .val (.ref b_1), .val (.int (2 : Int32)), .unset, .unset] [])) (fun t k => XS.istoreN X1.here hx rfl (hb hby d17_6) rfl (l' := #[.val (.ref a1), .val (.ref b_1), .val (.int (2 : Int32)), .unset, .unset]) rfl k) ?_
  refine own_st (B := T1.setTop (mkF m 8 #[.val (.ref a1), .val (.ref b_1), .val (.int (2 : Int32)), .unset, .unset] [(.int (0 : Int32))])) (fun t k => XS.iconst X1.here hx rfl (hb hby d17_7) k) ?_
  refine own_st (B := T1.setTop (mkF m 9 #[.val (.ref a1), .val (.ref b_1), .val (.int (2 : Int32)), .val (.int (0 : Int32)), .unset] [])) (fun t k => XS.istoreN X1.here hx rfl (hb hby d17_8) rfl (l' := #[.val (.ref a1), .val (.ref b_1), .val (.int (2 : Int32)), .val (.int (0 : Int32)), .unset]) rfl k) ?_
  refine own_st (B := T1.setTop (mkF m 10 #[.val (.ref a1), .val (.ref b_1), .val (.int (2 : Int32)), .val (.int (0 : Int32)), .unset] [(.int (0 : Int32))])) (fun t k => XS.iloadN X1.here hx rfl (hb hby d17_9) rfl k) ?_
  refine own_st (B := T1.setTop (mkF m 11 #[.val (.ref a1), .val (.ref b_1), .val (.int (2 : Int32)), .val (.int (0 : Int32)), .unset] [(.int (2 : Int32)), (.int (0 : Int32))])) (fun t k => XS.iloadN X1.here hx rfl (hb hby d17_10) rfl k) ?_
  refine own_st (B := T1.setTop (mkF m 14 #[.val (.ref a1), .val (.ref b_1), .val (.int (2 : Int32)), .val (.int (0 : Int32)), .unset] [])) (fun t k => XS.icmpNo X1.here hx rfl (hb hby d17_11) rfl (by decide) k) ?_
  refine own_st (B := T1.setTop (mkF m 15 #[.val (.ref a1), .val (.ref b_1), .val (.int (2 : Int32)), .val (.int (0 : Int32)), .unset] [(.ref b_1)])) (fun t k => XS.aloadN X1.here hx rfl (hb hby d17_14) rfl rfl k) ?_
  refine own_st (B := T1.setTop (mkF m 16 #[.val (.ref a1), .val (.ref b_1), .val (.int (2 : Int32)), .val (.int (0 : Int32)), .unset] [(.int (0 : Int32)), (.ref b_1)])) (fun t k => XS.iloadN X1.here hx rfl (hb hby d17_15) rfl k) ?_
  refine own_st (B := T1.setTop (mkF m 17 #[.val (.ref a1), .val (.ref b_1), .val (.int (2 : Int32)), .val (.int (0 : Int32)), .unset] [(.ref r1)])) (fun t k => own_ldR X1 hx hZ rfl p1_0 rfl (g := (mkF m 16 #[.val (.ref a1), .val (.ref b_1), .val (.int (2 : Int32)), .val (.int (0 : Int32)), .unset] [(.int (0 : Int32)), (.ref b_1)])) (i := 0) (by decide) rfl rfl rfl (hb hby d17_16) k) ?_
  refine own_st (B := T1.setTop (mkF m 19 #[.val (.ref a1), .val (.ref b_1), .val (.int (2 : Int32)), .val (.int (0 : Int32)), .val (.ref r1)] [])) (fun t k => XS.astore X1.here hx rfl (hb hby d17_17) rfl rfl (l' := #[.val (.ref a1), .val (.ref b_1), .val (.int (2 : Int32)), .val (.int (0 : Int32)), .val (.ref r1)]) rfl k) ?_
  refine own_st (B := T1.setTop (mkF m 21 #[.val (.ref a1), .val (.ref b_1), .val (.int (2 : Int32)), .val (.int (0 : Int32)), .val (.ref r1)] [(.ref r1)])) (fun t k => XS.aload X1.here hx rfl (hb hby d17_19) rfl rfl k) ?_
  have f4 : Fld Z T1.heap r1 "com/example/goodput/goodput/DeliveryMode" "name" "Ljava/lang/String;" (.ref s1) := (F7.keep K1 nin0)
  obtain ⟨T5, X5, e5, st5⟩ := getF X1 hx hZ hown (host := "") (Or.inl (w_100 hw)) Via.refl rfl f4 (g := (mkF m 21 #[.val (.ref a1), .val (.ref b_1), .val (.int (2 : Int32)), .val (.int (0 : Int32)), .val (.ref r1)] [(.ref r1)])) rfl rfl (hb hby d17_21)
  refine own_st (B := T5.setTop (mkF m 24 #[.val (.ref a1), .val (.ref b_1), .val (.int (2 : Int32)), .val (.int (0 : Int32)), .val (.ref r1)] [(.ref s1)])) (fun t k => st5 t k) ?_
  refine own_st (B := T5.setTop (mkF m 25 #[.val (.ref a1), .val (.ref b_1), .val (.int (2 : Int32)), .val (.int (0 : Int32)), .val (.ref r1)] [(.ref a1), (.ref s1)])) (fun t k => XS.aloadN X5.here hx rfl (hb hby d17_24) rfl rfl k) ?_
  have f6 : Exa Z T1.heap s1 "java/lang/String" := (F9.keep K1)
  have f7 : Exa Z T1.heap a1 "java/lang/String" := (F0.keep K1)
  have f8 : Fld Z T1.heap s1 "java/lang/String" "coder" "B" (.int (0 : Int32)) := (F11.keep K1 nin0)
  have f9 : Fld Z T1.heap s1 "java/lang/String" "value" "[B" (.ref d1) := (F12.keep K1 nin0)
  have f10 : Fld Z T1.heap a1 "java/lang/String" "coder" "B" (.int (0 : Int32)) := (F1.keep K1 nin0)
  have f11 : Fld Z T1.heap a1 "java/lang/String" "value" "[B" (.ref ab) := (F2.keep K1 nin0)
  have f12 : own_A Z T1.heap d1 .byte (own_d.map Value.int) := (F15.keep K1 nin0)
  have f13 : own_A Z T1.heap ab .byte (bs.map Value.int) := (F3.keep K1 nin0)
  have f14 : Sta Z T1.heap "java/lang/String" "COMPACT_STRINGS" "Z" (.int cs) := (own_Sta.keep F17 K1 (fun _ q => nomatch q))
  obtain ⟨cq15, kq15, q15a, q15b, q15c⟩ := isOf hZ e5 f6
  obtain ⟨_, _, ⟨T15, L15, k15, j15⟩, -, X15, ⟨Lc15, hQ15, l15, y15_, z15_⟩, st15⟩ := X5.virtualBack hx (y := (⟨"java/lang/String", "equals", "(Ljava/lang/Object;)Z"⟩ : MethodName)) (z := (⟨"java/lang/String", "equals", "(Ljava/lang/Object;)Z"⟩ : MethodName)) hown (mvT hZ (w_102 hw)) (mvT hZ (w_71 hw)) (notFace_of_selects (args := #[]) (mvT hZ (w_73 hw))) (mvT hZ (w_73 hw)) (mvT hZ (w_72 hw)) (by decide) (backOf (W := 0) (rm15d l Z a0 hw [] s1 a1 d1 ab own_d bs cs T1.heap n0 z3 f6 f7 f8 f9 f10 f11 f12 f13 f14 n1 hcs (show own_d.length < 1000 by decide) hbn) hZ (w_74 hw) (w_1 hw) (by decide) (by decide)) q15a q15c (g := (mkF m 25 #[.val (.ref a1), .val (.ref b_1), .val (.int (2 : Int32)), .val (.int (0 : Int32)), .val (.ref r1)] [(.ref a1), (.ref s1)])) rfl (by rw [hml]; rfl) (Steps.refl _) (argsL := [(.ref a1)]) (rest := []) (lenOf own_pd19 rfl) rfl (by show 2 * 0 + _ ≤ _; exact Nat.le_of_eq rfl) (hb hby d17_25) (fun _ _ => ⟨rfl, e5, (by decide : 1 + 0 ≤ _), (by decide : 2 + 0 ≤ _)⟩)
  dsimp only [Pt.U, Pt.locs, Pt.cells, Pt.slots] at X15 l15 y15_ z15_ st15 hQ15
  subst l15 y15_ z15_
  obtain ⟨rfl, N15q, e15q⟩ := hQ15
  have N15 := Fr.app N1 N15q
  refine own_ss (B := T15.setTop (mkF m 28 #[.val (.ref a1), .val (.ref b_1), .val (.int (2 : Int32)), .val (.int (0 : Int32)), .val (.ref r1)] [(.int (own_leq own_d bs))])) st15 ?_
  refine own_st (B := T15.setTop (mkF m 34 #[.val (.ref a1), .val (.ref b_1), .val (.int (2 : Int32)), .val (.int (0 : Int32)), .val (.ref r1)] [])) (fun t k => XS.ifYes X15.here hx rfl (pc0 := 28) (pc' := 34) rfl (hb hby d17_28) rfl (XT.i0_eq_t hD) (by decide) (by decide) k) ?_
  refine own_st (B := T15.setTop (mkF m 37 #[.val (.ref a1), .val (.ref b_1), .val (.int (2 : Int32)), .val (.int ((0 : Int32) + (1 : Int32))), .val (.ref r1)] [])) (fun t k => XS.iinc X15.here hx rfl (hb hby d17_34) rfl (l' := #[.val (.ref a1), .val (.ref b_1), .val (.int (2 : Int32)), .val (.int ((0 : Int32) + (1 : Int32))), .val (.ref r1)]) rfl k) ?_
  refine own_st (B := T15.setTop (mkF m 9 #[.val (.ref a1), .val (.ref b_1), .val (.int (2 : Int32)), .val (.int ((0 : Int32) + (1 : Int32))), .val (.ref r1)] [])) (fun t k => XS.goto X15.here hx rfl (pc0 := 37) (pc' := 9) rfl (hb hby d17_37) (by decide) (by decide) k) ?_
  refine own_st (B := T15.setTop (mkF m 10 #[.val (.ref a1), .val (.ref b_1), .val (.int (2 : Int32)), .val (.int ((0 : Int32) + (1 : Int32))), .val (.ref r1)] [(.int ((0 : Int32) + (1 : Int32)))])) (fun t k => XS.iloadN X15.here hx rfl (hb hby d17_9) rfl k) ?_
  refine own_st (B := T15.setTop (mkF m 11 #[.val (.ref a1), .val (.ref b_1), .val (.int (2 : Int32)), .val (.int ((0 : Int32) + (1 : Int32))), .val (.ref r1)] [(.int (2 : Int32)), (.int ((0 : Int32) + (1 : Int32)))])) (fun t k => XS.iloadN X15.here hx rfl (hb hby d17_10) rfl k) ?_
  refine own_st (B := T15.setTop (mkF m 14 #[.val (.ref a1), .val (.ref b_1), .val (.int (2 : Int32)), .val (.int ((0 : Int32) + (1 : Int32))), .val (.ref r1)] [])) (fun t k => XS.icmpNo X15.here hx rfl (hb hby d17_11) rfl (by decide) k) ?_
  refine own_st (B := T15.setTop (mkF m 15 #[.val (.ref a1), .val (.ref b_1), .val (.int (2 : Int32)), .val (.int ((0 : Int32) + (1 : Int32))), .val (.ref r1)] [(.ref b_1)])) (fun t k => XS.aloadN X15.here hx rfl (hb hby d17_14) rfl rfl k) ?_
  refine own_st (B := T15.setTop (mkF m 16 #[.val (.ref a1), .val (.ref b_1), .val (.int (2 : Int32)), .val (.int ((0 : Int32) + (1 : Int32))), .val (.ref r1)] [(.int ((0 : Int32) + (1 : Int32))), (.ref b_1)])) (fun t k => XS.iloadN X15.here hx rfl (hb hby d17_15) rfl k) ?_
  refine own_st (B := T15.setTop (mkF m 17 #[.val (.ref a1), .val (.ref b_1), .val (.int (2 : Int32)), .val (.int ((0 : Int32) + (1 : Int32))), .val (.ref r1)] [(.ref r2)])) (fun t k => own_ldR X15 hx hZ e15q p1_0 rfl (g := (mkF m 16 #[.val (.ref a1), .val (.ref b_1), .val (.int (2 : Int32)), .val (.int ((0 : Int32) + (1 : Int32))), .val (.ref r1)] [(.int ((0 : Int32) + (1 : Int32))), (.ref b_1)])) (i := 1) (by decide) rfl rfl rfl (hb hby d17_16) k) ?_
  refine own_st (B := T15.setTop (mkF m 19 #[.val (.ref a1), .val (.ref b_1), .val (.int (2 : Int32)), .val (.int ((0 : Int32) + (1 : Int32))), .val (.ref r2)] [])) (fun t k => XS.astore X15.here hx rfl (hb hby d17_17) rfl rfl (l' := #[.val (.ref a1), .val (.ref b_1), .val (.int (2 : Int32)), .val (.int ((0 : Int32) + (1 : Int32))), .val (.ref r2)]) rfl k) ?_
  refine own_st (B := T15.setTop (mkF m 21 #[.val (.ref a1), .val (.ref b_1), .val (.int (2 : Int32)), .val (.int ((0 : Int32) + (1 : Int32))), .val (.ref r2)] [(.ref r2)])) (fun t k => XS.aload X15.here hx rfl (hb hby d17_19) rfl rfl k) ?_
  have f16 : Fld Z T1.heap r2 "com/example/goodput/goodput/DeliveryMode" "name" "Ljava/lang/String;" (.ref s2) := (F8.keep K1 nin0)
  obtain ⟨T17, X17, e17, st17⟩ := getF X15 hx hZ hown (host := "") (Or.inl (w_100 hw)) Via.refl e15q f16 (g := (mkF m 21 #[.val (.ref a1), .val (.ref b_1), .val (.int (2 : Int32)), .val (.int ((0 : Int32) + (1 : Int32))), .val (.ref r2)] [(.ref r2)])) rfl rfl (hb hby d17_21)
  refine own_st (B := T17.setTop (mkF m 24 #[.val (.ref a1), .val (.ref b_1), .val (.int (2 : Int32)), .val (.int ((0 : Int32) + (1 : Int32))), .val (.ref r2)] [(.ref s2)])) (fun t k => st17 t k) ?_
  refine own_st (B := T17.setTop (mkF m 25 #[.val (.ref a1), .val (.ref b_1), .val (.int (2 : Int32)), .val (.int ((0 : Int32) + (1 : Int32))), .val (.ref r2)] [(.ref a1), (.ref s2)])) (fun t k => XS.aloadN X17.here hx rfl (hb hby d17_24) rfl rfl k) ?_
  have f18 : Exa Z T1.heap s2 "java/lang/String" := (F10.keep K1)
  have f19 : Fld Z T1.heap s2 "java/lang/String" "coder" "B" (.int (0 : Int32)) := (F13.keep K1 nin0)
  have f20 : Fld Z T1.heap s2 "java/lang/String" "value" "[B" (.ref d2) := (F14.keep K1 nin0)
  have f21 : own_A Z T1.heap d2 .byte (own_q.map Value.int) := (F16.keep K1 nin0)
  obtain ⟨cq22, kq22, q22a, q22b, q22c⟩ := isOf hZ e17 f18
  obtain ⟨_, _, ⟨T22, L22, k22, j22⟩, -, X22, ⟨Lc22, hQ22, l22, y22_, z22_⟩, st22⟩ := X17.virtualBack hx (y := (⟨"java/lang/String", "equals", "(Ljava/lang/Object;)Z"⟩ : MethodName)) (z := (⟨"java/lang/String", "equals", "(Ljava/lang/Object;)Z"⟩ : MethodName)) hown (mvT hZ (w_102 hw)) (mvT hZ (w_71 hw)) (notFace_of_selects (args := #[]) (mvT hZ (w_73 hw))) (mvT hZ (w_73 hw)) (mvT hZ (w_72 hw)) (by decide) (backOf (W := 0) (rm15d l Z a0 hw [] s2 a1 d2 ab own_q bs cs T1.heap n0 z3 f18 f7 f19 f20 f10 f11 f21 f13 f14 n2 hcs (show own_q.length < 1000 by decide) hbn) hZ (w_74 hw) (w_1 hw) (by decide) (by decide)) q22a q22c (g := (mkF m 25 #[.val (.ref a1), .val (.ref b_1), .val (.int (2 : Int32)), .val (.int ((0 : Int32) + (1 : Int32))), .val (.ref r2)] [(.ref a1), (.ref s2)])) rfl (by rw [hml]; rfl) (Steps.refl _) (argsL := [(.ref a1)]) (rest := []) (lenOf own_pd19 rfl) rfl (by show 2 * 0 + _ ≤ _; exact Nat.le_of_eq rfl) (hb hby d17_25) (fun _ _ => ⟨rfl, e17, (by decide : 1 + 0 ≤ _), (by decide : 2 + 0 ≤ _)⟩)
  dsimp only [Pt.U, Pt.locs, Pt.cells, Pt.slots] at X22 l22 y22_ z22_ st22 hQ22
  subst l22 y22_ z22_
  obtain ⟨rfl, N22q, e22q⟩ := hQ22
  have N22 := Fr.app N15 N22q
  refine own_ss (B := T22.setTop (mkF m 28 #[.val (.ref a1), .val (.ref b_1), .val (.int (2 : Int32)), .val (.int ((0 : Int32) + (1 : Int32))), .val (.ref r2)] [(.int (own_leq own_q bs))])) st22 ?_
  refine own_st (B := T22.setTop (mkF m 34 #[.val (.ref a1), .val (.ref b_1), .val (.int (2 : Int32)), .val (.int ((0 : Int32) + (1 : Int32))), .val (.ref r2)] [])) (fun t k => XS.ifYes X22.here hx rfl (pc0 := 28) (pc' := 34) rfl (hb hby d17_28) rfl (XT.i0_eq_t hP) (by decide) (by decide) k) ?_
  refine own_st (B := T22.setTop (mkF m 37 #[.val (.ref a1), .val (.ref b_1), .val (.int (2 : Int32)), .val (.int (((0 : Int32) + (1 : Int32)) + (1 : Int32))), .val (.ref r2)] [])) (fun t k => XS.iinc X22.here hx rfl (hb hby d17_34) rfl (l' := #[.val (.ref a1), .val (.ref b_1), .val (.int (2 : Int32)), .val (.int (((0 : Int32) + (1 : Int32)) + (1 : Int32))), .val (.ref r2)]) rfl k) ?_
  refine own_st (B := T22.setTop (mkF m 9 #[.val (.ref a1), .val (.ref b_1), .val (.int (2 : Int32)), .val (.int (((0 : Int32) + (1 : Int32)) + (1 : Int32))), .val (.ref r2)] [])) (fun t k => XS.goto X22.here hx rfl (pc0 := 37) (pc' := 9) rfl (hb hby d17_37) (by decide) (by decide) k) ?_
  refine own_st (B := T22.setTop (mkF m 10 #[.val (.ref a1), .val (.ref b_1), .val (.int (2 : Int32)), .val (.int (((0 : Int32) + (1 : Int32)) + (1 : Int32))), .val (.ref r2)] [(.int (((0 : Int32) + (1 : Int32)) + (1 : Int32)))])) (fun t k => XS.iloadN X22.here hx rfl (hb hby d17_9) rfl k) ?_
  refine own_st (B := T22.setTop (mkF m 11 #[.val (.ref a1), .val (.ref b_1), .val (.int (2 : Int32)), .val (.int (((0 : Int32) + (1 : Int32)) + (1 : Int32))), .val (.ref r2)] [(.int (2 : Int32)), (.int (((0 : Int32) + (1 : Int32)) + (1 : Int32)))])) (fun t k => XS.iloadN X22.here hx rfl (hb hby d17_10) rfl k) ?_
  refine own_st (B := T22.setTop (mkF m 40 #[.val (.ref a1), .val (.ref b_1), .val (.int (2 : Int32)), .val (.int (((0 : Int32) + (1 : Int32)) + (1 : Int32))), .val (.ref r2)] [])) (fun t k => XS.icmpYes X22.here hx rfl (pc0 := 11) (pc' := 40) rfl (hb hby d17_11) rfl (by decide) (by decide) (by decide) k) ?_
  refine own_st (B := T22.setTop (mkF m 41 #[.val (.ref a1), .val (.ref b_1), .val (.int (2 : Int32)), .val (.int (((0 : Int32) + (1 : Int32)) + (1 : Int32))), .val (.ref r2)] [.null])) (fun t k => XS.aconstNull X22.here hx rfl (hb hby d17_40) k) ?_
  refine own_retR X22 hx hlk (t := (.object "com/example/goodput/goodput/DeliveryMode")) Bd.returns rfl rfl rfl (hb hby d17_41) (by decide) (by decide) ?_
  show Q17n Z a1 ab bs va r1 r2 s1 s2 d1 d2 cs h0 n0 _ T22.heap _
  rw [e22q]
  exact ⟨rfl, N22, kp3⟩
theorem own_pd20 : parseMethodDescriptor "(Ljava/lang/String;IIC)C" = some ⟨[(.object "java/lang/String"), .int, .int, .char], some .char⟩ := by decide +kernel
theorem own_pd21 : parseMethodDescriptor "([C)V" = some ⟨[(.array .char)], none⟩ := by decide +kernel
theorem own_pd22 : parseMethodDescriptor "(Ljava/lang/String;)Lcom/example/goodput/goodput/DeliveryMode;" = some ⟨[(.object "java/lang/String")], some (.object "com/example/goodput/goodput/DeliveryMode")⟩ := by decide +kernel
theorem ef_0 (m : MethodId) (x0 : Int32) (x1 : Int32) (x2 : Int32) : entryFrame m #[(.int x0), (.int x1), (.int x2)] maxLocals = mkF m 0 #[.val (.int x0), .val (.int x1), .val (.int x2), .unset, .unset, .unset, .unset, .unset, .unset, .unset, .unset] [] := by first | (simp [entryFrame, mkF, argsToLocals, Value.category, maxLocals]; done) | rfl
def Q0 (Z : State) (arg0 : Int32) (arg1 : Int32) (arg2 : Int32) (va : Addr) (r1 : Addr) (r2 : Addr) (s1 : Addr) (s2 : Addr) (d1 : Addr) (d2 : Addr) (cs : Int32) (u1 : Value) (h0 : Heap) (n0 : Nat) (v : Option Value) (h : Heap) (L : List Loc) : Prop := v = some (.int 1) ∧ Fr n0 L
set_option maxHeartbeats 40000000 in
theorem rm0 (l : Launch) (Z : State) (a0 : Array Value) (hw : ∀ d ∈ tables_1, d.before a0 Z = true) (ws : List Jvm.Cond) (arg0 : Int32) (arg1 : Int32) (arg2 : Int32) (va : Addr) (r1 : Addr) (r2 : Addr) (s1 : Addr) (s2 : Addr) (d1 : Addr) (d2 : Addr) (cs : Int32) (u1 : Value) (h0 : Heap) (n0 : Nat) (Z0 : n0 ≤ h0.size) (F0 : Sta Z h0 "com/example/goodput/goodput/DeliveryMode" "$VALUES" "[Lcom/example/goodput/goodput/DeliveryMode;" (.ref va)) (F1 : Exa Z h0 va "[Lcom/example/goodput/goodput/DeliveryMode;") (F2 : own_A Z h0 va (.object "com/example/goodput/goodput/DeliveryMode") [(.ref r1), (.ref r2)]) (F3 : Fld Z h0 r1 "com/example/goodput/goodput/DeliveryMode" "name" "Ljava/lang/String;" (.ref s1)) (F4 : Fld Z h0 r2 "com/example/goodput/goodput/DeliveryMode" "name" "Ljava/lang/String;" (.ref s2)) (F5 : Exa Z h0 s1 "java/lang/String") (F6 : Exa Z h0 s2 "java/lang/String") (F7 : Fld Z h0 s1 "java/lang/String" "coder" "B" (.int (0 : Int32))) (F8 : Fld Z h0 s1 "java/lang/String" "value" "[B" (.ref d1)) (F9 : Fld Z h0 s2 "java/lang/String" "coder" "B" (.int (0 : Int32))) (F10 : Fld Z h0 s2 "java/lang/String" "value" "[B" (.ref d2)) (F11 : own_A Z h0 d1 .byte (own_d.map Value.int)) (F12 : own_A Z h0 d2 .byte (own_q.map Value.int)) (F13 : Sta Z h0 "com/example/goodput/goodput/DeliveryMode" "DIRECT" "Lcom/example/goodput/goodput/DeliveryMode;" (.ref r1)) (F14 : Sta Z h0 "com/example/goodput/goodput/DeliveryMode" "PERSISTENT" "Lcom/example/goodput/goodput/DeliveryMode;" (.ref r2)) (F15 : Sta Z h0 "java/lang/String" "COMPACT_STRINGS" "Z" (.int cs)) (F16 : Sta Z h0 "jdk/internal/util/Preconditions" "SIOOBE_FORMATTER" "Ljava/util/function/BiFunction;" u1) (hcs : ¬ (cs = (0 : Int32))) (hu : u1 = .null ∨ ∃ a, u1 = .ref a) :
    MetFree l x (head1 (Jvm.Cond.code x code maxLocals ret :: ws) room_1) (fun a U => a = #[(.int arg0), (.int arg1), (.int arg2)] ∧ Z.Warmed39 U.vm ∧ U.heap = h0 ∧ CHv Z own_EL U.vm h0 ∧ ∀ x ∈ ([] : List Addr), Safe Z own_EL U.vm h0 x) (fun _ _ _ _ _ => True) (fun _ U o U' => ∃ v L, o = .returned v ∧ Q0 Z arg0 arg1 arg2 va r1 r2 s1 s2 d1 d2 cs u1 h0 n0 v U'.heap L ∧ CHr Z own_EL U.vm h0 U'.vm U'.heap ∧ ReturnedEndW U o U' L 24 3264) := by
  refine MetFree.of_bodySF (plainFor_of_name own_pn4) hisR ?_
  intro p e s m args below meth c s₁ Bd hml0 hP hK
  obtain ⟨rfl, hZ, hh, hCH, hSF⟩ := hP
  have hx := Bd.exec
  have hby := Bd.bytes
  have hml : c.maxLocals = 11 := hml0
  have hlk : meth.locks = false := BodyLoose.notSynchronized Bd
  have hown : s.vm.findClass "com/example/goodput/goodput/DeliveryModeNamedPinLaw" = some m.cls := findClass_of_methodNamed Bd.named
  have hnm := (name_of_methodNamed Bd.named Bd.method).1
  have X0 : Stand p l e room_1 (s.setVm s.vm) m #[(.int arg0), (.int arg1), (.int arg2)] below meth c s₁ [] 0 0 := Stand.of_body Bd
  have e0 : s₁.heap = h0 := by rw [← hh, Bd.state]; rfl
  have N0 := Fr.nil n0
  have hS0 : s.Since s.vm s.heap.size := (State.WarmedH.refl s).since _
  have hk0 : s.heap.size ≤ h0.size := Nat.le_of_eq (congrArg Array.size hh)
  have ch0 : CHr Z own_EL s.vm h0 s.vm h0 := CHr.refl hCH
  show own_GoW p e below s (Q0 Z arg0 arg1 arg2 va r1 r2 s1 s2 d1 d2 cs u1 h0 n0) (fun vm h => CHr Z own_EL s.vm h0 vm h) 24 3264 _
  refine own_stW (B := s₁.setTop (mkF m 0 #[.val (.int arg0), .val (.int arg1), .val (.int arg2), .unset, .unset, .unset, .unset, .unset, .unset, .unset, .unset] [])) (fun t k => castTop (ef_0 m (arg0) (arg1) (arg2)) k) ?_
  refine own_stW (B := s₁.setTop (mkF m 1 #[.val (.int arg0), .val (.int arg1), .val (.int arg2), .unset, .unset, .unset, .unset, .unset, .unset, .unset, .unset] [(.int arg0)])) (fun t k => XS.iloadN X0.here hx rfl (hb hby at_0) rfl k) ?_
  refine own_stW (B := s₁.setTop (mkF m 3 #[.val (.int arg0), .val (.int arg1), .val (.int arg2), .unset, .unset, .unset, .unset, .unset, .unset, .unset, .unset] [(.int (7 : Int32)), (.int arg0)])) (fun t k => XS.bipush X0.here hx rfl (hb hby at_1) k) ?_
  refine own_stW (B := s₁.setTop (mkF m 4 #[.val (.int arg0), .val (.int arg1), .val (.int arg2), .unset, .unset, .unset, .unset, .unset, .unset, .unset, .unset] [(.int (arg0 &&& (7 : Int32)))])) (fun t k => XS.iand X0.here hx rfl (hb hby at_3) rfl k) ?_
  obtain ⟨v1, ev1⟩ : ∃ z : Int32, z = (arg0 &&& (7 : Int32)) := ⟨_, rfl⟩
  rw [← ev1]
  refine own_stW (B := s₁.setTop (mkF m 5 #[.val (.int arg0), .val (.int arg1), .val (.int arg2), .val (.int v1), .unset, .unset, .unset, .unset, .unset, .unset, .unset] [])) (fun t k => XS.istoreN X0.here hx rfl (hb hby at_4) rfl (l' := #[.val (.int arg0), .val (.int arg1), .val (.int arg2), .val (.int v1), .unset, .unset, .unset, .unset, .unset, .unset, .unset]) rfl k) ?_
  refine own_stW (B := s₁.setTop (mkF m 6 #[.val (.int arg0), .val (.int arg1), .val (.int arg2), .val (.int v1), .unset, .unset, .unset, .unset, .unset, .unset, .unset] [(.int arg1)])) (fun t k => XS.iloadN X0.here hx rfl (hb hby at_5) rfl k) ?_
  refine own_stW (B := s₁.setTop (mkF m 8 #[.val (.int arg0), .val (.int arg1), .val (.int arg2), .val (.int v1), .unset, .unset, .unset, .unset, .unset, .unset, .unset] [(.int (15 : Int32)), (.int arg1)])) (fun t k => XS.bipush X0.here hx rfl (hb hby at_6) k) ?_
  refine own_stW (B := s₁.setTop (mkF m 9 #[.val (.int arg0), .val (.int arg1), .val (.int arg2), .val (.int v1), .unset, .unset, .unset, .unset, .unset, .unset, .unset] [(.int (arg1 &&& (15 : Int32)))])) (fun t k => XS.iand X0.here hx rfl (hb hby at_8) rfl k) ?_
  obtain ⟨v2, ev2⟩ : ∃ z : Int32, z = (arg1 &&& (15 : Int32)) := ⟨_, rfl⟩
  rw [← ev2]
  refine own_stW (B := s₁.setTop (mkF m 11 #[.val (.int arg0), .val (.int arg1), .val (.int arg2), .val (.int v1), .val (.int v2), .unset, .unset, .unset, .unset, .unset, .unset] [])) (fun t k => XS.istore X0.here hx rfl (hb hby at_9) rfl (l' := #[.val (.int arg0), .val (.int arg1), .val (.int arg2), .val (.int v1), .val (.int v2), .unset, .unset, .unset, .unset, .unset, .unset]) rfl k) ?_
  refine own_stW (B := s₁.setTop (mkF m 12 #[.val (.int arg0), .val (.int arg1), .val (.int arg2), .val (.int v1), .val (.int v2), .unset, .unset, .unset, .unset, .unset, .unset] [(.int arg2)])) (fun t k => XS.iloadN X0.here hx rfl (hb hby at_11) rfl k) ?_
  refine own_stW (B := s₁.setTop (mkF m 15 #[.val (.int arg0), .val (.int arg1), .val (.int arg2), .val (.int v1), .val (.int v2), .unset, .unset, .unset, .unset, .unset, .unset] [(.int (255 : Int32)), (.int arg2)])) (fun t k => XS.sipush X0.here hx rfl (hb hby at_12) k) ?_
  refine own_stW (B := s₁.setTop (mkF m 16 #[.val (.int arg0), .val (.int arg1), .val (.int arg2), .val (.int v1), .val (.int v2), .unset, .unset, .unset, .unset, .unset, .unset] [(.int (arg2 &&& (255 : Int32)))])) (fun t k => XS.iand X0.here hx rfl (hb hby at_15) rfl k) ?_
  refine own_stW (B := s₁.setTop (mkF m 17 #[.val (.int arg0), .val (.int arg1), .val (.int arg2), .val (.int v1), .val (.int v2), .unset, .unset, .unset, .unset, .unset, .unset] [(.int ((arg2 &&& (255 : Int32)).toUInt32.toUInt16.toUInt32.toInt32))])) (fun t k => XS.i2c X0.here hx rfl (hb hby at_16) rfl k) ?_
  obtain ⟨v3, ev3⟩ : ∃ z : Int32, z = ((arg2 &&& (255 : Int32)).toUInt32.toUInt16.toUInt32.toInt32) := ⟨_, rfl⟩
  rw [← ev3]
  refine own_stW (B := s₁.setTop (mkF m 19 #[.val (.int arg0), .val (.int arg1), .val (.int arg2), .val (.int v1), .val (.int v2), .val (.int v3), .unset, .unset, .unset, .unset, .unset] [])) (fun t k => XS.istore X0.here hx rfl (hb hby at_17) rfl (l' := #[.val (.int arg0), .val (.int arg1), .val (.int arg2), .val (.int v1), .val (.int v2), .val (.int v3), .unset, .unset, .unset, .unset, .unset]) rfl k) ?_
  have hcc : 0 ≤ v3.toInt ∧ v3.toInt ≤ 255 := by rw [ev3]; exact own_ch _
  obtain ⟨b4, T4, h4, kk4, bb4, kc4, X4, e4, E4, hS4, hk4, hZ, hown, A4, C4, V4, R4, -, -, ch4_, -, hne4, st4⟩ := ldcCH (EL := own_EL) (a0 := a0) X0 hx hZ hown (w_0 hw) (own_sA hw) e0 hS0 hk0 (own_ew hw) (List.mem_of_getElem? (i := 0) rfl) ch0.1 (vs := (own_d.map Value.int)) (z := (6 : Int32)) own_txd (by decide) (by decide) (g := (mkF m 19 #[.val (.int arg0), .val (.int arg1), .val (.int arg2), .val (.int v1), .val (.int v2), .val (.int v3), .unset, .unset, .unset, .unset, .unset] [])) rfl (hb hby at_19) (n := 24) own_tld (by decide) (by decide) (by decide)
  have ch5 := ch0.trans ch4_
  have z6 : n0 ≤ h4.size := Nat.le_trans Z0 E4.1
  have fa4 : own_A Z h4 bb4 .byte (own_d.map Value.int) := own_ofArvN R4 (by decide)
  refine own_stW (B := T4.setTop (mkF m 21 #[.val (.int arg0), .val (.int arg1), .val (.int arg2), .val (.int v1), .val (.int v2), .val (.int v3), .unset, .unset, .unset, .unset, .unset] [(.ref b4)])) (fun t k => st4 t k) ?_
  refine own_stW (B := T4.setTop (mkF m 23 #[.val (.int arg0), .val (.int arg1), .val (.int arg2), .val (.int v1), .val (.int v2), .val (.int v3), .val (.ref b4), .unset, .unset, .unset, .unset] [])) (fun t k => XS.astore X4.here hx rfl (hb hby at_21) rfl rfl (l' := #[.val (.int arg0), .val (.int arg1), .val (.int arg2), .val (.int v1), .val (.int v2), .val (.int v3), .val (.ref b4), .unset, .unset, .unset, .unset]) rfl k) ?_
  obtain ⟨b7, T7, h7, kk7, bb7, kc7, X7, e7, E7, hS7, hk7, hZ, hown, A7, C7, V7, R7, -, -, ch7_, -, hne7, st7⟩ := ldcCH (EL := own_EL) (a0 := a0) X4 hx hZ hown (w_8 hw) (own_sA hw) e4 hS4 hk4 (own_ew hw) (List.mem_of_getElem? (i := 1) rfl) ch5.1 (vs := (own_q.map Value.int)) (z := (10 : Int32)) own_txq (by decide) (by decide) (g := (mkF m 23 #[.val (.int arg0), .val (.int arg1), .val (.int arg2), .val (.int v1), .val (.int v2), .val (.int v3), .val (.ref b4), .unset, .unset, .unset, .unset] [])) rfl (hb hby at_23) (n := 40) own_tlq (by decide) (by decide) (by decide)
  have ch8 := ch5.trans ch7_
  have z9 : n0 ≤ h7.size := Nat.le_trans z6 E7.1
  have fa7 : own_A Z h7 bb7 .byte (own_q.map Value.int) := own_ofArvN R7 (by decide)
  refine own_stW (B := T7.setTop (mkF m 25 #[.val (.int arg0), .val (.int arg1), .val (.int arg2), .val (.int v1), .val (.int v2), .val (.int v3), .val (.ref b4), .unset, .unset, .unset, .unset] [(.ref b7)])) (fun t k => st7 t k) ?_
  refine own_stW (B := T7.setTop (mkF m 27 #[.val (.int arg0), .val (.int arg1), .val (.int arg2), .val (.int v1), .val (.int v2), .val (.int v3), .val (.ref b4), .val (.ref b7), .unset, .unset, .unset] [])) (fun t k => XS.astore X7.here hx rfl (hb hby at_25) rfl rfl (l' := #[.val (.int arg0), .val (.int arg1), .val (.int arg2), .val (.int v1), .val (.int v2), .val (.int v3), .val (.ref b4), .val (.ref b7), .unset, .unset, .unset]) rfl k) ?_
  refine own_cut (P := ∀ (vm10 : Vm) (kk10 : Nat) (T10 : State) (lo10 : List Loc) (h10 : Heap) (so : Addr) (sb : Addr) (bs : List Int32), Stand p l e room_1 (s.setVm vm10) m #[(.int arg0), (.int arg1), (.int arg2)] below meth c T10 lo10 10 103 → T10.heap = h10 → Fr n0 lo10 → n0 ≤ h10.size → s.Since vm10 kk10 → kk10 ≤ h10.size → Z.Warmed39 (s.setVm vm10).vm → (s.setVm vm10).vm.findClass "com/example/goodput/goodput/DeliveryModeNamedPinLaw" = some m.cls → CHr Z own_EL s.vm h0 vm10 h10 → Exa Z h10 so "java/lang/String" → Fld Z h10 so "java/lang/String" "coder" "B" (.int (0 : Int32)) → Fld Z h10 so "java/lang/String" "value" "[B" (.ref sb) → own_A Z h10 sb .byte (bs.map Value.int) → Sta Z h10 "com/example/goodput/goodput/DeliveryMode" "$VALUES" "[Lcom/example/goodput/goodput/DeliveryMode;" (.ref va) → Exa Z h10 va "[Lcom/example/goodput/goodput/DeliveryMode;" → own_A Z h10 va (.object "com/example/goodput/goodput/DeliveryMode") [(.ref r1), (.ref r2)] → Fld Z h10 r1 "com/example/goodput/goodput/DeliveryMode" "name" "Ljava/lang/String;" (.ref s1) → Fld Z h10 r2 "com/example/goodput/goodput/DeliveryMode" "name" "Ljava/lang/String;" (.ref s2) → Exa Z h10 s1 "java/lang/String" → Exa Z h10 s2 "java/lang/String" → Fld Z h10 s1 "java/lang/String" "coder" "B" (.int (0 : Int32)) → Fld Z h10 s1 "java/lang/String" "value" "[B" (.ref d1) → Fld Z h10 s2 "java/lang/String" "coder" "B" (.int (0 : Int32)) → Fld Z h10 s2 "java/lang/String" "value" "[B" (.ref d2) → own_A Z h10 d1 .byte (own_d.map Value.int) → own_A Z h10 d2 .byte (own_q.map Value.int) → Sta Z h10 "com/example/goodput/goodput/DeliveryMode" "DIRECT" "Lcom/example/goodput/goodput/DeliveryMode;" (.ref r1) → Sta Z h10 "com/example/goodput/goodput/DeliveryMode" "PERSISTENT" "Lcom/example/goodput/goodput/DeliveryMode;" (.ref r2) → Sta Z h10 "java/lang/String" "COMPACT_STRINGS" "Z" (.int cs) → Exa Z h10 b4 "java/lang/String" → Fld Z h10 b4 "java/lang/String" "coder" "B" (.int (0 : Int32)) → Fld Z h10 b4 "java/lang/String" "value" "[B" (.ref bb4) → own_A Z h10 bb4 .byte (own_d.map Value.int) → Exa Z h10 b7 "java/lang/String" → Fld Z h10 b7 "java/lang/String" "coder" "B" (.int (0 : Int32)) → Fld Z h10 b7 "java/lang/String" "value" "[B" (.ref bb7) → own_A Z h10 bb7 .byte (own_q.map Value.int) → (bs.length < 1000) → (s1 ≠ so) → (s2 ≠ so) → (b4 ≠ so) → (b7 ≠ so) → own_GoW p e below s (Q0 Z arg0 arg1 arg2 va r1 r2 s1 s2 d1 d2 cs u1 h0 n0) (fun vm h => CHr Z own_EL s.vm h0 vm h) 24 3264 (T10.setTop (mkF m 825 #[.val (.int arg0), .val (.int arg1), .val (.int arg2), .val (.int v1), .val (.int v2), .val (.int v3), .val (.ref b4), .val (.ref b7), .val (.ref so), .unset, .unset] []))) (fun J10 => ?_) ?_
  · refine own_stW (B := T7.setTop (mkF m 28 #[.val (.int arg0), .val (.int arg1), .val (.int arg2), .val (.int v1), .val (.int v2), .val (.int v3), .val (.ref b4), .val (.ref b7), .unset, .unset, .unset] [(.int v1)])) (fun t k => XS.iloadN X7.here hx rfl (hb hby at_27) rfl k) ?_
    by_cases hc11 : v1 = (0 : Int32)
    · refine own_stW (B := T7.setTop (mkF m 31 #[.val (.int arg0), .val (.int arg1), .val (.int arg2), .val (.int v1), .val (.int v2), .val (.int v3), .val (.ref b4), .val (.ref b7), .unset, .unset, .unset] [])) (fun t k => XS.ifNo X7.here hx rfl (hb hby at_28) rfl (XT.i0_ne_f hc11) k) ?_
      obtain ⟨T12, h12, X12, e12, E12, A12, D12, -, st12⟩ := newO X7 hx hZ hown (w_9 hw) (w_2 hw) (w_1 hw) e7 (g := (mkF m 31 #[.val (.int arg0), .val (.int arg1), .val (.int arg2), .val (.int v1), .val (.int v2), .val (.int v3), .val (.ref b4), .val (.ref b7), .unset, .unset, .unset] [])) rfl (hb hby at_31) (by decide) (by decide)
      obtain ⟨b12, g12⟩ : ∃ z, z = h7.size := ⟨_, rfl⟩
      rw [← g12] at A12 D12 st12
      have f13 : Exa Z h7 va "[Lcom/example/goodput/goodput/DeliveryMode;" := ((F1.ext E4).ext E7)
      have q12_va : va ≠ b12 := Nat.ne_of_lt (Nat.lt_of_lt_of_le f13.lt (Nat.le_of_eq g12.symm))
      have f14 : Fld Z h7 r1 "com/example/goodput/goodput/DeliveryMode" "name" "Ljava/lang/String;" (.ref s1) := ((F3.ext E4).ext E7)
      have q12_r1 : r1 ≠ b12 := Nat.ne_of_lt (Nat.lt_of_lt_of_le f14.lt (Nat.le_of_eq g12.symm))
      have f15 : Fld Z h7 r2 "com/example/goodput/goodput/DeliveryMode" "name" "Ljava/lang/String;" (.ref s2) := ((F4.ext E4).ext E7)
      have q12_r2 : r2 ≠ b12 := Nat.ne_of_lt (Nat.lt_of_lt_of_le f15.lt (Nat.le_of_eq g12.symm))
      have f16 : Exa Z h7 s1 "java/lang/String" := ((F5.ext E4).ext E7)
      have q12_s1 : s1 ≠ b12 := Nat.ne_of_lt (Nat.lt_of_lt_of_le f16.lt (Nat.le_of_eq g12.symm))
      have f17 : Exa Z h7 s2 "java/lang/String" := ((F6.ext E4).ext E7)
      have q12_s2 : s2 ≠ b12 := Nat.ne_of_lt (Nat.lt_of_lt_of_le f17.lt (Nat.le_of_eq g12.symm))
      have f18 : own_A Z h7 d1 .byte (own_d.map Value.int) := ((F11.ext E4).ext E7)
      have q12_d1 : d1 ≠ b12 := Nat.ne_of_lt (Nat.lt_of_lt_of_le f18.lt (Nat.le_of_eq g12.symm))
      have f19 : own_A Z h7 d2 .byte (own_q.map Value.int) := ((F12.ext E4).ext E7)
      have q12_d2 : d2 ≠ b12 := Nat.ne_of_lt (Nat.lt_of_lt_of_le f19.lt (Nat.le_of_eq g12.symm))
      have f20 : Exa Z h7 b4 "java/lang/String" := (A4.ext E7)
      have q12_b4 : b4 ≠ b12 := Nat.ne_of_lt (Nat.lt_of_lt_of_le f20.lt (Nat.le_of_eq g12.symm))
      have f21 : own_A Z h7 bb4 .byte (own_d.map Value.int) := (fa4.ext E7)
      have q12_bb4 : bb4 ≠ b12 := Nat.ne_of_lt (Nat.lt_of_lt_of_le f21.lt (Nat.le_of_eq g12.symm))
      have q12_b7 : b7 ≠ b12 := Nat.ne_of_lt (Nat.lt_of_lt_of_le A7.lt (Nat.le_of_eq g12.symm))
      have q12_bb7 : bb7 ≠ b12 := Nat.ne_of_lt (Nat.lt_of_lt_of_le fa7.lt (Nat.le_of_eq g12.symm))
      have u12 : n0 ≤ b12 := Nat.le_trans z9 (Nat.le_of_eq g12.symm)
      have ch22 := ch8.trans (CHr.ext E12 ch8.1)
      have sf23 := Safe.ext E12 ch8.1 (Safe.new (Nat.le_of_eq g12.symm))
      have hk22 := Nat.le_trans hk7 E12.1
      have z24 : n0 ≤ h12.size := Nat.le_trans z9 E12.1
      have f25 : Fld Z h12 b12 "java/lang/String" "value" "[B" .null := D12 (Or.inr (w_4 hw)) (ty := (.array .byte)) (by decide)
      have f26 : Fld Z h12 b12 "java/lang/String" "coder" "B" (.int (0 : Int32)) := D12 (Or.inr (w_5 hw)) (ty := .byte) (by decide)
      refine own_stW (B := T12.setTop (mkF m 34 #[.val (.int arg0), .val (.int arg1), .val (.int arg2), .val (.int v1), .val (.int v2), .val (.int v3), .val (.ref b4), .val (.ref b7), .unset, .unset, .unset] [(.ref b12)])) (fun t k => st12 t k) ?_
      refine own_stW (B := T12.setTop (mkF m 35 #[.val (.int arg0), .val (.int arg1), .val (.int arg2), .val (.int v1), .val (.int v2), .val (.int v3), .val (.ref b4), .val (.ref b7), .unset, .unset, .unset] [(.ref b12), (.ref b12)])) (fun t k => XS.dup X12.here hx rfl (hb hby at_34) rfl rfl k) ?_
      refine own_stW (B := T12.setTop (mkF m 36 #[.val (.int arg0), .val (.int arg1), .val (.int arg2), .val (.int v1), .val (.int v2), .val (.int v3), .val (.ref b4), .val (.ref b7), .unset, .unset, .unset] [(.int (5 : Int32)), (.ref b12), (.ref b12)])) (fun t k => XS.iconst X12.here hx rfl (hb hby at_35) k) ?_
      obtain ⟨T27, h27, X27, e27, E27, A27, x27, st27⟩ := own_newP X12 hx hZ (aty := .char) (w_10 hw) e12 (g := (mkF m 36 #[.val (.int arg0), .val (.int arg1), .val (.int arg2), .val (.int v1), .val (.int v2), .val (.int v3), .val (.ref b4), .val (.ref b7), .unset, .unset, .unset] [(.int (5 : Int32)), (.ref b12), (.ref b12)])) rfl (hb hby at_36) (n := (5 : Int32)) (rest := [(.ref b12), (.ref b12)]) rfl (k := 5) (cap := 5) (by decide) (Nat.le_refl _) (by decide) (by decide) (by decide) (ad := "[C") rfl
      obtain ⟨b27, g27⟩ : ∃ z, z = h12.size := ⟨_, rfl⟩
      rw [← g27] at A27 x27 st27
      have f28 : Exa Z h12 va "[Lcom/example/goodput/goodput/DeliveryMode;" := (f13.ext E12)
      have q27_va : va ≠ b27 := Nat.ne_of_lt (Nat.lt_of_lt_of_le f28.lt (Nat.le_of_eq g27.symm))
      have f29 : Fld Z h12 r1 "com/example/goodput/goodput/DeliveryMode" "name" "Ljava/lang/String;" (.ref s1) := (f14.ext E12)
      have q27_r1 : r1 ≠ b27 := Nat.ne_of_lt (Nat.lt_of_lt_of_le f29.lt (Nat.le_of_eq g27.symm))
      have f30 : Fld Z h12 r2 "com/example/goodput/goodput/DeliveryMode" "name" "Ljava/lang/String;" (.ref s2) := (f15.ext E12)
      have q27_r2 : r2 ≠ b27 := Nat.ne_of_lt (Nat.lt_of_lt_of_le f30.lt (Nat.le_of_eq g27.symm))
      have f31 : Exa Z h12 s1 "java/lang/String" := (f16.ext E12)
      have q27_s1 : s1 ≠ b27 := Nat.ne_of_lt (Nat.lt_of_lt_of_le f31.lt (Nat.le_of_eq g27.symm))
      have f32 : Exa Z h12 s2 "java/lang/String" := (f17.ext E12)
      have q27_s2 : s2 ≠ b27 := Nat.ne_of_lt (Nat.lt_of_lt_of_le f32.lt (Nat.le_of_eq g27.symm))
      have f33 : own_A Z h12 d1 .byte (own_d.map Value.int) := (f18.ext E12)
      have q27_d1 : d1 ≠ b27 := Nat.ne_of_lt (Nat.lt_of_lt_of_le f33.lt (Nat.le_of_eq g27.symm))
      have f34 : own_A Z h12 d2 .byte (own_q.map Value.int) := (f19.ext E12)
      have q27_d2 : d2 ≠ b27 := Nat.ne_of_lt (Nat.lt_of_lt_of_le f34.lt (Nat.le_of_eq g27.symm))
      have f35 : Exa Z h12 b4 "java/lang/String" := (f20.ext E12)
      have q27_b4 : b4 ≠ b27 := Nat.ne_of_lt (Nat.lt_of_lt_of_le f35.lt (Nat.le_of_eq g27.symm))
      have f36 : own_A Z h12 bb4 .byte (own_d.map Value.int) := (f21.ext E12)
      have q27_bb4 : bb4 ≠ b27 := Nat.ne_of_lt (Nat.lt_of_lt_of_le f36.lt (Nat.le_of_eq g27.symm))
      have f37 : Exa Z h12 b7 "java/lang/String" := (A7.ext E12)
      have q27_b7 : b7 ≠ b27 := Nat.ne_of_lt (Nat.lt_of_lt_of_le f37.lt (Nat.le_of_eq g27.symm))
      have f38 : own_A Z h12 bb7 .byte (own_q.map Value.int) := (fa7.ext E12)
      have q27_bb7 : bb7 ≠ b27 := Nat.ne_of_lt (Nat.lt_of_lt_of_le f38.lt (Nat.le_of_eq g27.symm))
      have q27_b12 : b12 ≠ b27 := Nat.ne_of_lt (Nat.lt_of_lt_of_le A12.lt (Nat.le_of_eq g27.symm))
      have u27 : n0 ≤ b27 := Nat.le_trans z24 (Nat.le_of_eq g27.symm)
      have ch39 := ch22.trans (CHr.ext E27 ch22.1)
      have sf40 := Safe.ext E27 ch22.1 sf23
      have hk39 := Nat.le_trans hk22 E27.1
      have z41 : n0 ≤ h27.size := Nat.le_trans z24 E27.1
      have f27_ : own_A Z h27 b27 .char [(.int (0 : Int32)), (.int (0 : Int32)), (.int (0 : Int32)), (.int (0 : Int32)), (.int (0 : Int32))] := A27
      refine own_stW (B := T27.setTop (mkF m 38 #[.val (.int arg0), .val (.int arg1), .val (.int arg2), .val (.int v1), .val (.int v2), .val (.int v3), .val (.ref b4), .val (.ref b7), .unset, .unset, .unset] [(.ref b27), (.ref b12), (.ref b12)])) (fun t k => st27 t k) ?_
      refine own_stW (B := T27.setTop (mkF m 39 #[.val (.int arg0), .val (.int arg1), .val (.int arg2), .val (.int v1), .val (.int v2), .val (.int v3), .val (.ref b4), .val (.ref b7), .unset, .unset, .unset] [(.ref b27), (.ref b27), (.ref b12), (.ref b12)])) (fun t k => XS.dup X27.here hx rfl (hb hby at_38) rfl rfl k) ?_
      refine own_stW (B := T27.setTop (mkF m 40 #[.val (.int arg0), .val (.int arg1), .val (.int arg2), .val (.int v1), .val (.int v2), .val (.int v3), .val (.ref b4), .val (.ref b7), .unset, .unset, .unset] [(.int (0 : Int32)), (.ref b27), (.ref b27), (.ref b12), (.ref b12)])) (fun t k => XS.iconst X27.here hx rfl (hb hby at_39) k) ?_
      refine own_stW (B := T27.setTop (mkF m 42 #[.val (.int arg0), .val (.int arg1), .val (.int arg2), .val (.int v1), .val (.int v2), .val (.int v3), .val (.ref b4), .val (.ref b7), .unset, .unset, .unset] [(.ref b4), (.int (0 : Int32)), (.ref b27), (.ref b27), (.ref b12), (.ref b12)])) (fun t k => XS.aload X27.here hx rfl (hb hby at_40) rfl rfl k) ?_
      refine own_stW (B := T27.setTop (mkF m 43 #[.val (.int arg0), .val (.int arg1), .val (.int arg2), .val (.int v1), .val (.int v2), .val (.int v3), .val (.ref b4), .val (.ref b7), .unset, .unset, .unset] [(.int (0 : Int32)), (.ref b4), (.int (0 : Int32)), (.ref b27), (.ref b27), (.ref b12), (.ref b12)])) (fun t k => XS.iconst X27.here hx rfl (hb hby at_42) k) ?_
      refine own_stW (B := T27.setTop (mkF m 45 #[.val (.int arg0), .val (.int arg1), .val (.int arg2), .val (.int v1), .val (.int v2), .val (.int v3), .val (.ref b4), .val (.ref b7), .unset, .unset, .unset] [(.int v2), (.int (0 : Int32)), (.ref b4), (.int (0 : Int32)), (.ref b27), (.ref b27), (.ref b12), (.ref b12)])) (fun t k => XS.iload X27.here hx rfl (hb hby at_43) rfl k) ?_
      refine own_stW (B := T27.setTop (mkF m 47 #[.val (.int arg0), .val (.int arg1), .val (.int arg2), .val (.int v1), .val (.int v2), .val (.int v3), .val (.ref b4), .val (.ref b7), .unset, .unset, .unset] [(.int v3), (.int v2), (.int (0 : Int32)), (.ref b4), (.int (0 : Int32)), (.ref b27), (.ref b27), (.ref b12), (.ref b12)])) (fun t k => XS.iload X27.here hx rfl (hb hby at_45) rfl k) ?_
      have f42 : Exa Z h27 b4 "java/lang/String" := (f35.ext E27)
      have f43 : Fld Z h27 b4 "java/lang/String" "coder" "B" (.int (0 : Int32)) := (((C4.ext E7).ext E12).ext E27)
      have f44 : Fld Z h27 b4 "java/lang/String" "value" "[B" (.ref bb4) := (((V4.ext E7).ext E12).ext E27)
      have f45 : own_A Z h27 bb4 .byte (own_d.map Value.int) := (f36.ext E27)
      have f46 : Sta Z h27 "java/lang/String" "COMPACT_STRINGS" "Z" (.int cs) := ((((F15.ext E4).ext E7).ext E12).ext E27)
      have f47 : Sta Z h27 "jdk/internal/util/Preconditions" "SIOOBE_FORMATTER" "Ljava/util/function/BiFunction;" u1 := ((((F16.ext E4).ext E7).ext E12).ext E27)
      obtain ⟨_, _, ⟨T48, L48, k48, j48⟩, -, X48, ⟨Lc48, hQ48, l48, y48_, z48_⟩, st48⟩ := Jvm.LawKit.callS X27 hx (y := (⟨"com/example/goodput/goodput/DeliveryModeNamedPinLaw", "at", "(Ljava/lang/String;IIC)C"⟩ : MethodName)) hown (mvT hZ (w_11 hw)) (mvT hZ (w_12 hw)) (mvT hZ (w_13 hw)) (mvT hZ (w_14 hw)) (by decide) (backOf (W := 5) (rm1 l Z a0 hw [] b4 (0 : Int32) v2 v3 bb4 own_d cs u1 h27 n0 z41 f42 f43 f44 f45 f46 f47 (show 0 ≤ (0 : Int32).toInt by decide) hcc (show own_d.length < 1000 by decide) hcs hu) hZ (w_14 hw) (w_13 hw) (by decide) (by decide)) (g := (mkF m 47 #[.val (.int arg0), .val (.int arg1), .val (.int arg2), .val (.int v1), .val (.int v2), .val (.int v3), .val (.ref b4), .val (.ref b7), .unset, .unset, .unset] [(.int v3), (.int v2), (.int (0 : Int32)), (.ref b4), (.int (0 : Int32)), (.ref b27), (.ref b27), (.ref b12), (.ref b12)])) rfl (by rw [hml]; rfl) (argsL := [(.ref b4), (.int (0 : Int32)), (.int v2), (.int v3)]) (rest := [(.int (0 : Int32)), (.ref b27), (.ref b27), (.ref b12), (.ref b12)]) (lenOf own_pd20 rfl) rfl (by show 2 * 0 + _ ≤ _; exact Nat.le_of_eq rfl) (hb hby at_47) (fun _ _ => ⟨rfl, e27, (by decide : 6 + 0 ≤ _), (by decide : 81 + 0 ≤ _)⟩)
      dsimp only [Pt.U, Pt.locs, Pt.cells, Pt.slots] at X48 l48 y48_ z48_ st48 hQ48
      subst l48 y48_ z48_
      obtain ⟨zc_48, rfl, N48q, e48q, r48_0⟩ := hQ48
      have N48 := Fr.app N0 N48q
      refine own_stW (B := T48.setTop (mkF m 50 #[.val (.int arg0), .val (.int arg1), .val (.int arg2), .val (.int v1), .val (.int v2), .val (.int v3), .val (.ref b4), .val (.ref b7), .unset, .unset, .unset] [(.int zc_48), (.int (0 : Int32)), (.ref b27), (.ref b27), (.ref b12), (.ref b12)])) (fun t k => st48 t k) ?_
      obtain ⟨T49, h49, X49, e49, W49, A49, st49⟩ := own_stC X48 hx hZ e48q f27_ (j := (0 : Int32)) (x := zc_48) (i := 0) (by decide) (show 0 < 5 from by decide) (g := (mkF m 50 #[.val (.int arg0), .val (.int arg1), .val (.int arg2), .val (.int v1), .val (.int v2), .val (.int v3), .val (.ref b4), .val (.ref b7), .unset, .unset, .unset] [(.int zc_48), (.int (0 : Int32)), (.ref b27), (.ref b27), (.ref b12), (.ref b12)])) rfl rfl (hb hby at_50)
      have f49_ : own_A Z h49 b27 .char [(.int (zc_48.toUInt32.toUInt16.toUInt32.toInt32)), (.int (0 : Int32)), (.int (0 : Int32)), (.int (0 : Int32)), (.int (0 : Int32))] := A49
      have ch50 := ch39.trans (CHr.wr W49 (Safe.exa hZ.alike x27 (by decide) (by decide)) ch39.1)
      have sf51 := Safe.wr W49 (Safe.exa hZ.alike x27 (by decide) (by decide)) ch39.1 sf40
      have hk50 := Nat.le_trans hk39 (Keep.of_wr W49).1
      have z52 : n0 ≤ h49.size := Nat.le_trans z41 (Keep.of_wr W49).1
      have n53 := Fr.snoc X49 N48 u27
      refine own_stW (B := T49.setTop (mkF m 51 #[.val (.int arg0), .val (.int arg1), .val (.int arg2), .val (.int v1), .val (.int v2), .val (.int v3), .val (.ref b4), .val (.ref b7), .unset, .unset, .unset] [(.ref b27), (.ref b12), (.ref b12)])) (fun t k => st49 t k) ?_
      refine own_stW (B := T49.setTop (mkF m 52 #[.val (.int arg0), .val (.int arg1), .val (.int arg2), .val (.int v1), .val (.int v2), .val (.int v3), .val (.ref b4), .val (.ref b7), .unset, .unset, .unset] [(.ref b27), (.ref b27), (.ref b12), (.ref b12)])) (fun t k => XS.dup X49.here hx rfl (hb hby at_51) rfl rfl k) ?_
      refine own_stW (B := T49.setTop (mkF m 53 #[.val (.int arg0), .val (.int arg1), .val (.int arg2), .val (.int v1), .val (.int v2), .val (.int v3), .val (.ref b4), .val (.ref b7), .unset, .unset, .unset] [(.int (1 : Int32)), (.ref b27), (.ref b27), (.ref b12), (.ref b12)])) (fun t k => XS.iconst X49.here hx rfl (hb hby at_52) k) ?_
      refine own_stW (B := T49.setTop (mkF m 55 #[.val (.int arg0), .val (.int arg1), .val (.int arg2), .val (.int v1), .val (.int v2), .val (.int v3), .val (.ref b4), .val (.ref b7), .unset, .unset, .unset] [(.ref b4), (.int (1 : Int32)), (.ref b27), (.ref b27), (.ref b12), (.ref b12)])) (fun t k => XS.aload X49.here hx rfl (hb hby at_53) rfl rfl k) ?_
      refine own_stW (B := T49.setTop (mkF m 56 #[.val (.int arg0), .val (.int arg1), .val (.int arg2), .val (.int v1), .val (.int v2), .val (.int v3), .val (.ref b4), .val (.ref b7), .unset, .unset, .unset] [(.int (1 : Int32)), (.ref b4), (.int (1 : Int32)), (.ref b27), (.ref b27), (.ref b12), (.ref b12)])) (fun t k => XS.iconst X49.here hx rfl (hb hby at_55) k) ?_
      refine own_stW (B := T49.setTop (mkF m 58 #[.val (.int arg0), .val (.int arg1), .val (.int arg2), .val (.int v1), .val (.int v2), .val (.int v3), .val (.ref b4), .val (.ref b7), .unset, .unset, .unset] [(.int v2), (.int (1 : Int32)), (.ref b4), (.int (1 : Int32)), (.ref b27), (.ref b27), (.ref b12), (.ref b12)])) (fun t k => XS.iload X49.here hx rfl (hb hby at_56) rfl k) ?_
      refine own_stW (B := T49.setTop (mkF m 60 #[.val (.int arg0), .val (.int arg1), .val (.int arg2), .val (.int v1), .val (.int v2), .val (.int v3), .val (.ref b4), .val (.ref b7), .unset, .unset, .unset] [(.int v3), (.int v2), (.int (1 : Int32)), (.ref b4), (.int (1 : Int32)), (.ref b27), (.ref b27), (.ref b12), (.ref b12)])) (fun t k => XS.iload X49.here hx rfl (hb hby at_58) rfl k) ?_
      have f54 : Exa Z h49 b4 "java/lang/String" := (f42.wr W49)
      have f55 : Fld Z h49 b4 "java/lang/String" "coder" "B" (.int (0 : Int32)) := (f43.other W49 (Or.inl q27_b4))
      have f56 : Fld Z h49 b4 "java/lang/String" "value" "[B" (.ref bb4) := (f44.other W49 (Or.inl q27_b4))
      have f57 : own_A Z h49 bb4 .byte (own_d.map Value.int) := (f45.other W49 q27_bb4)
      have f58 : Sta Z h49 "java/lang/String" "COMPACT_STRINGS" "Z" (.int cs) := (f46.wr W49)
      have f59 : Sta Z h49 "jdk/internal/util/Preconditions" "SIOOBE_FORMATTER" "Ljava/util/function/BiFunction;" u1 := (f47.wr W49)
      obtain ⟨_, _, ⟨T60, L60, k60, j60⟩, -, X60, ⟨Lc60, hQ60, l60, y60_, z60_⟩, st60⟩ := Jvm.LawKit.callS X49 hx (y := (⟨"com/example/goodput/goodput/DeliveryModeNamedPinLaw", "at", "(Ljava/lang/String;IIC)C"⟩ : MethodName)) hown (mvT hZ (w_11 hw)) (mvT hZ (w_12 hw)) (mvT hZ (w_13 hw)) (mvT hZ (w_14 hw)) (by decide) (backOf (W := 5) (rm1 l Z a0 hw [] b4 (1 : Int32) v2 v3 bb4 own_d cs u1 h49 n0 z52 f54 f55 f56 f57 f58 f59 (show 0 ≤ (1 : Int32).toInt by decide) hcc (show own_d.length < 1000 by decide) hcs hu) hZ (w_14 hw) (w_13 hw) (by decide) (by decide)) (g := (mkF m 60 #[.val (.int arg0), .val (.int arg1), .val (.int arg2), .val (.int v1), .val (.int v2), .val (.int v3), .val (.ref b4), .val (.ref b7), .unset, .unset, .unset] [(.int v3), (.int v2), (.int (1 : Int32)), (.ref b4), (.int (1 : Int32)), (.ref b27), (.ref b27), (.ref b12), (.ref b12)])) rfl (by rw [hml]; rfl) (argsL := [(.ref b4), (.int (1 : Int32)), (.int v2), (.int v3)]) (rest := [(.int (1 : Int32)), (.ref b27), (.ref b27), (.ref b12), (.ref b12)]) (lenOf own_pd20 rfl) rfl (by show 2 * 0 + _ ≤ _; exact Nat.le_of_eq rfl) (hb hby at_60) (fun _ _ => ⟨rfl, e49, (by decide : 6 + 0 ≤ _), (by decide : 81 + 0 ≤ _)⟩)
      dsimp only [Pt.U, Pt.locs, Pt.cells, Pt.slots] at X60 l60 y60_ z60_ st60 hQ60
      subst l60 y60_ z60_
      obtain ⟨zc_60, rfl, N60q, e60q, r60_0⟩ := hQ60
      have N60 := Fr.app n53 N60q
      refine own_stW (B := T60.setTop (mkF m 63 #[.val (.int arg0), .val (.int arg1), .val (.int arg2), .val (.int v1), .val (.int v2), .val (.int v3), .val (.ref b4), .val (.ref b7), .unset, .unset, .unset] [(.int zc_60), (.int (1 : Int32)), (.ref b27), (.ref b27), (.ref b12), (.ref b12)])) (fun t k => st60 t k) ?_
      obtain ⟨T61, h61, X61, e61, W61, A61, st61⟩ := own_stC X60 hx hZ e60q f49_ (j := (1 : Int32)) (x := zc_60) (i := 1) (by decide) (show 1 < 5 from by decide) (g := (mkF m 63 #[.val (.int arg0), .val (.int arg1), .val (.int arg2), .val (.int v1), .val (.int v2), .val (.int v3), .val (.ref b4), .val (.ref b7), .unset, .unset, .unset] [(.int zc_60), (.int (1 : Int32)), (.ref b27), (.ref b27), (.ref b12), (.ref b12)])) rfl rfl (hb hby at_63)
      have f61_ : own_A Z h61 b27 .char [(.int (zc_48.toUInt32.toUInt16.toUInt32.toInt32)), (.int (zc_60.toUInt32.toUInt16.toUInt32.toInt32)), (.int (0 : Int32)), (.int (0 : Int32)), (.int (0 : Int32))] := A61
      have f63 : Exa Z h49 b27 "[C" := (x27.wr W49)
      have ch62 := ch50.trans (CHr.wr W61 (Safe.exa hZ.alike f63 (by decide) (by decide)) ch50.1)
      have sf64 := Safe.wr W61 (Safe.exa hZ.alike f63 (by decide) (by decide)) ch50.1 sf51
      have hk62 := Nat.le_trans hk50 (Keep.of_wr W61).1
      have z65 : n0 ≤ h61.size := Nat.le_trans z52 (Keep.of_wr W61).1
      have n66 := Fr.snoc X61 N60 u27
      refine own_stW (B := T61.setTop (mkF m 64 #[.val (.int arg0), .val (.int arg1), .val (.int arg2), .val (.int v1), .val (.int v2), .val (.int v3), .val (.ref b4), .val (.ref b7), .unset, .unset, .unset] [(.ref b27), (.ref b12), (.ref b12)])) (fun t k => st61 t k) ?_
      refine own_stW (B := T61.setTop (mkF m 65 #[.val (.int arg0), .val (.int arg1), .val (.int arg2), .val (.int v1), .val (.int v2), .val (.int v3), .val (.ref b4), .val (.ref b7), .unset, .unset, .unset] [(.ref b27), (.ref b27), (.ref b12), (.ref b12)])) (fun t k => XS.dup X61.here hx rfl (hb hby at_64) rfl rfl k) ?_
      refine own_stW (B := T61.setTop (mkF m 66 #[.val (.int arg0), .val (.int arg1), .val (.int arg2), .val (.int v1), .val (.int v2), .val (.int v3), .val (.ref b4), .val (.ref b7), .unset, .unset, .unset] [(.int (2 : Int32)), (.ref b27), (.ref b27), (.ref b12), (.ref b12)])) (fun t k => XS.iconst X61.here hx rfl (hb hby at_65) k) ?_
      refine own_stW (B := T61.setTop (mkF m 68 #[.val (.int arg0), .val (.int arg1), .val (.int arg2), .val (.int v1), .val (.int v2), .val (.int v3), .val (.ref b4), .val (.ref b7), .unset, .unset, .unset] [(.ref b4), (.int (2 : Int32)), (.ref b27), (.ref b27), (.ref b12), (.ref b12)])) (fun t k => XS.aload X61.here hx rfl (hb hby at_66) rfl rfl k) ?_
      refine own_stW (B := T61.setTop (mkF m 69 #[.val (.int arg0), .val (.int arg1), .val (.int arg2), .val (.int v1), .val (.int v2), .val (.int v3), .val (.ref b4), .val (.ref b7), .unset, .unset, .unset] [(.int (2 : Int32)), (.ref b4), (.int (2 : Int32)), (.ref b27), (.ref b27), (.ref b12), (.ref b12)])) (fun t k => XS.iconst X61.here hx rfl (hb hby at_68) k) ?_
      refine own_stW (B := T61.setTop (mkF m 71 #[.val (.int arg0), .val (.int arg1), .val (.int arg2), .val (.int v1), .val (.int v2), .val (.int v3), .val (.ref b4), .val (.ref b7), .unset, .unset, .unset] [(.int v2), (.int (2 : Int32)), (.ref b4), (.int (2 : Int32)), (.ref b27), (.ref b27), (.ref b12), (.ref b12)])) (fun t k => XS.iload X61.here hx rfl (hb hby at_69) rfl k) ?_
      refine own_stW (B := T61.setTop (mkF m 73 #[.val (.int arg0), .val (.int arg1), .val (.int arg2), .val (.int v1), .val (.int v2), .val (.int v3), .val (.ref b4), .val (.ref b7), .unset, .unset, .unset] [(.int v3), (.int v2), (.int (2 : Int32)), (.ref b4), (.int (2 : Int32)), (.ref b27), (.ref b27), (.ref b12), (.ref b12)])) (fun t k => XS.iload X61.here hx rfl (hb hby at_71) rfl k) ?_
      have f67 : Exa Z h61 b4 "java/lang/String" := (f54.wr W61)
      have f68 : Fld Z h61 b4 "java/lang/String" "coder" "B" (.int (0 : Int32)) := (f55.other W61 (Or.inl q27_b4))
      have f69 : Fld Z h61 b4 "java/lang/String" "value" "[B" (.ref bb4) := (f56.other W61 (Or.inl q27_b4))
      have f70 : own_A Z h61 bb4 .byte (own_d.map Value.int) := (f57.other W61 q27_bb4)
      have f71 : Sta Z h61 "java/lang/String" "COMPACT_STRINGS" "Z" (.int cs) := (f58.wr W61)
      have f72 : Sta Z h61 "jdk/internal/util/Preconditions" "SIOOBE_FORMATTER" "Ljava/util/function/BiFunction;" u1 := (f59.wr W61)
      obtain ⟨_, _, ⟨T73, L73, k73, j73⟩, -, X73, ⟨Lc73, hQ73, l73, y73_, z73_⟩, st73⟩ := Jvm.LawKit.callS X61 hx (y := (⟨"com/example/goodput/goodput/DeliveryModeNamedPinLaw", "at", "(Ljava/lang/String;IIC)C"⟩ : MethodName)) hown (mvT hZ (w_11 hw)) (mvT hZ (w_12 hw)) (mvT hZ (w_13 hw)) (mvT hZ (w_14 hw)) (by decide) (backOf (W := 5) (rm1 l Z a0 hw [] b4 (2 : Int32) v2 v3 bb4 own_d cs u1 h61 n0 z65 f67 f68 f69 f70 f71 f72 (show 0 ≤ (2 : Int32).toInt by decide) hcc (show own_d.length < 1000 by decide) hcs hu) hZ (w_14 hw) (w_13 hw) (by decide) (by decide)) (g := (mkF m 73 #[.val (.int arg0), .val (.int arg1), .val (.int arg2), .val (.int v1), .val (.int v2), .val (.int v3), .val (.ref b4), .val (.ref b7), .unset, .unset, .unset] [(.int v3), (.int v2), (.int (2 : Int32)), (.ref b4), (.int (2 : Int32)), (.ref b27), (.ref b27), (.ref b12), (.ref b12)])) rfl (by rw [hml]; rfl) (argsL := [(.ref b4), (.int (2 : Int32)), (.int v2), (.int v3)]) (rest := [(.int (2 : Int32)), (.ref b27), (.ref b27), (.ref b12), (.ref b12)]) (lenOf own_pd20 rfl) rfl (by show 2 * 0 + _ ≤ _; exact Nat.le_of_eq rfl) (hb hby at_73) (fun _ _ => ⟨rfl, e61, (by decide : 6 + 0 ≤ _), (by decide : 81 + 0 ≤ _)⟩)
      dsimp only [Pt.U, Pt.locs, Pt.cells, Pt.slots] at X73 l73 y73_ z73_ st73 hQ73
      subst l73 y73_ z73_
      obtain ⟨zc_73, rfl, N73q, e73q, r73_0⟩ := hQ73
      have N73 := Fr.app n66 N73q
      refine own_stW (B := T73.setTop (mkF m 76 #[.val (.int arg0), .val (.int arg1), .val (.int arg2), .val (.int v1), .val (.int v2), .val (.int v3), .val (.ref b4), .val (.ref b7), .unset, .unset, .unset] [(.int zc_73), (.int (2 : Int32)), (.ref b27), (.ref b27), (.ref b12), (.ref b12)])) (fun t k => st73 t k) ?_
      obtain ⟨T74, h74, X74, e74, W74, A74, st74⟩ := own_stC X73 hx hZ e73q f61_ (j := (2 : Int32)) (x := zc_73) (i := 2) (by decide) (show 2 < 5 from by decide) (g := (mkF m 76 #[.val (.int arg0), .val (.int arg1), .val (.int arg2), .val (.int v1), .val (.int v2), .val (.int v3), .val (.ref b4), .val (.ref b7), .unset, .unset, .unset] [(.int zc_73), (.int (2 : Int32)), (.ref b27), (.ref b27), (.ref b12), (.ref b12)])) rfl rfl (hb hby at_76)
      have f74_ : own_A Z h74 b27 .char [(.int (zc_48.toUInt32.toUInt16.toUInt32.toInt32)), (.int (zc_60.toUInt32.toUInt16.toUInt32.toInt32)), (.int (zc_73.toUInt32.toUInt16.toUInt32.toInt32)), (.int (0 : Int32)), (.int (0 : Int32))] := A74
      have f76 : Exa Z h61 b27 "[C" := (f63.wr W61)
      have ch75 := ch62.trans (CHr.wr W74 (Safe.exa hZ.alike f76 (by decide) (by decide)) ch62.1)
      have sf77 := Safe.wr W74 (Safe.exa hZ.alike f76 (by decide) (by decide)) ch62.1 sf64
      have hk75 := Nat.le_trans hk62 (Keep.of_wr W74).1
      have z78 : n0 ≤ h74.size := Nat.le_trans z65 (Keep.of_wr W74).1
      have n79 := Fr.snoc X74 N73 u27
      refine own_stW (B := T74.setTop (mkF m 77 #[.val (.int arg0), .val (.int arg1), .val (.int arg2), .val (.int v1), .val (.int v2), .val (.int v3), .val (.ref b4), .val (.ref b7), .unset, .unset, .unset] [(.ref b27), (.ref b12), (.ref b12)])) (fun t k => st74 t k) ?_
      refine own_stW (B := T74.setTop (mkF m 78 #[.val (.int arg0), .val (.int arg1), .val (.int arg2), .val (.int v1), .val (.int v2), .val (.int v3), .val (.ref b4), .val (.ref b7), .unset, .unset, .unset] [(.ref b27), (.ref b27), (.ref b12), (.ref b12)])) (fun t k => XS.dup X74.here hx rfl (hb hby at_77) rfl rfl k) ?_
      refine own_stW (B := T74.setTop (mkF m 79 #[.val (.int arg0), .val (.int arg1), .val (.int arg2), .val (.int v1), .val (.int v2), .val (.int v3), .val (.ref b4), .val (.ref b7), .unset, .unset, .unset] [(.int (3 : Int32)), (.ref b27), (.ref b27), (.ref b12), (.ref b12)])) (fun t k => XS.iconst X74.here hx rfl (hb hby at_78) k) ?_
      refine own_stW (B := T74.setTop (mkF m 81 #[.val (.int arg0), .val (.int arg1), .val (.int arg2), .val (.int v1), .val (.int v2), .val (.int v3), .val (.ref b4), .val (.ref b7), .unset, .unset, .unset] [(.ref b4), (.int (3 : Int32)), (.ref b27), (.ref b27), (.ref b12), (.ref b12)])) (fun t k => XS.aload X74.here hx rfl (hb hby at_79) rfl rfl k) ?_
      refine own_stW (B := T74.setTop (mkF m 82 #[.val (.int arg0), .val (.int arg1), .val (.int arg2), .val (.int v1), .val (.int v2), .val (.int v3), .val (.ref b4), .val (.ref b7), .unset, .unset, .unset] [(.int (3 : Int32)), (.ref b4), (.int (3 : Int32)), (.ref b27), (.ref b27), (.ref b12), (.ref b12)])) (fun t k => XS.iconst X74.here hx rfl (hb hby at_81) k) ?_
      refine own_stW (B := T74.setTop (mkF m 84 #[.val (.int arg0), .val (.int arg1), .val (.int arg2), .val (.int v1), .val (.int v2), .val (.int v3), .val (.ref b4), .val (.ref b7), .unset, .unset, .unset] [(.int v2), (.int (3 : Int32)), (.ref b4), (.int (3 : Int32)), (.ref b27), (.ref b27), (.ref b12), (.ref b12)])) (fun t k => XS.iload X74.here hx rfl (hb hby at_82) rfl k) ?_
      refine own_stW (B := T74.setTop (mkF m 86 #[.val (.int arg0), .val (.int arg1), .val (.int arg2), .val (.int v1), .val (.int v2), .val (.int v3), .val (.ref b4), .val (.ref b7), .unset, .unset, .unset] [(.int v3), (.int v2), (.int (3 : Int32)), (.ref b4), (.int (3 : Int32)), (.ref b27), (.ref b27), (.ref b12), (.ref b12)])) (fun t k => XS.iload X74.here hx rfl (hb hby at_84) rfl k) ?_
      have f80 : Exa Z h74 b4 "java/lang/String" := (f67.wr W74)
      have f81 : Fld Z h74 b4 "java/lang/String" "coder" "B" (.int (0 : Int32)) := (f68.other W74 (Or.inl q27_b4))
      have f82 : Fld Z h74 b4 "java/lang/String" "value" "[B" (.ref bb4) := (f69.other W74 (Or.inl q27_b4))
      have f83 : own_A Z h74 bb4 .byte (own_d.map Value.int) := (f70.other W74 q27_bb4)
      have f84 : Sta Z h74 "java/lang/String" "COMPACT_STRINGS" "Z" (.int cs) := (f71.wr W74)
      have f85 : Sta Z h74 "jdk/internal/util/Preconditions" "SIOOBE_FORMATTER" "Ljava/util/function/BiFunction;" u1 := (f72.wr W74)
      obtain ⟨_, _, ⟨T86, L86, k86, j86⟩, -, X86, ⟨Lc86, hQ86, l86, y86_, z86_⟩, st86⟩ := Jvm.LawKit.callS X74 hx (y := (⟨"com/example/goodput/goodput/DeliveryModeNamedPinLaw", "at", "(Ljava/lang/String;IIC)C"⟩ : MethodName)) hown (mvT hZ (w_11 hw)) (mvT hZ (w_12 hw)) (mvT hZ (w_13 hw)) (mvT hZ (w_14 hw)) (by decide) (backOf (W := 5) (rm1 l Z a0 hw [] b4 (3 : Int32) v2 v3 bb4 own_d cs u1 h74 n0 z78 f80 f81 f82 f83 f84 f85 (show 0 ≤ (3 : Int32).toInt by decide) hcc (show own_d.length < 1000 by decide) hcs hu) hZ (w_14 hw) (w_13 hw) (by decide) (by decide)) (g := (mkF m 86 #[.val (.int arg0), .val (.int arg1), .val (.int arg2), .val (.int v1), .val (.int v2), .val (.int v3), .val (.ref b4), .val (.ref b7), .unset, .unset, .unset] [(.int v3), (.int v2), (.int (3 : Int32)), (.ref b4), (.int (3 : Int32)), (.ref b27), (.ref b27), (.ref b12), (.ref b12)])) rfl (by rw [hml]; rfl) (argsL := [(.ref b4), (.int (3 : Int32)), (.int v2), (.int v3)]) (rest := [(.int (3 : Int32)), (.ref b27), (.ref b27), (.ref b12), (.ref b12)]) (lenOf own_pd20 rfl) rfl (by show 2 * 0 + _ ≤ _; exact Nat.le_of_eq rfl) (hb hby at_86) (fun _ _ => ⟨rfl, e74, (by decide : 6 + 0 ≤ _), (by decide : 81 + 0 ≤ _)⟩)
      dsimp only [Pt.U, Pt.locs, Pt.cells, Pt.slots] at X86 l86 y86_ z86_ st86 hQ86
      subst l86 y86_ z86_
      obtain ⟨zc_86, rfl, N86q, e86q, r86_0⟩ := hQ86
      have N86 := Fr.app n79 N86q
      refine own_stW (B := T86.setTop (mkF m 89 #[.val (.int arg0), .val (.int arg1), .val (.int arg2), .val (.int v1), .val (.int v2), .val (.int v3), .val (.ref b4), .val (.ref b7), .unset, .unset, .unset] [(.int zc_86), (.int (3 : Int32)), (.ref b27), (.ref b27), (.ref b12), (.ref b12)])) (fun t k => st86 t k) ?_
      obtain ⟨T87, h87, X87, e87, W87, A87, st87⟩ := own_stC X86 hx hZ e86q f74_ (j := (3 : Int32)) (x := zc_86) (i := 3) (by decide) (show 3 < 5 from by decide) (g := (mkF m 89 #[.val (.int arg0), .val (.int arg1), .val (.int arg2), .val (.int v1), .val (.int v2), .val (.int v3), .val (.ref b4), .val (.ref b7), .unset, .unset, .unset] [(.int zc_86), (.int (3 : Int32)), (.ref b27), (.ref b27), (.ref b12), (.ref b12)])) rfl rfl (hb hby at_89)
      have f87_ : own_A Z h87 b27 .char [(.int (zc_48.toUInt32.toUInt16.toUInt32.toInt32)), (.int (zc_60.toUInt32.toUInt16.toUInt32.toInt32)), (.int (zc_73.toUInt32.toUInt16.toUInt32.toInt32)), (.int (zc_86.toUInt32.toUInt16.toUInt32.toInt32)), (.int (0 : Int32))] := A87
      have f89 : Exa Z h74 b27 "[C" := (f76.wr W74)
      have ch88 := ch75.trans (CHr.wr W87 (Safe.exa hZ.alike f89 (by decide) (by decide)) ch75.1)
      have sf90 := Safe.wr W87 (Safe.exa hZ.alike f89 (by decide) (by decide)) ch75.1 sf77
      have hk88 := Nat.le_trans hk75 (Keep.of_wr W87).1
      have z91 : n0 ≤ h87.size := Nat.le_trans z78 (Keep.of_wr W87).1
      have n92 := Fr.snoc X87 N86 u27
      refine own_stW (B := T87.setTop (mkF m 90 #[.val (.int arg0), .val (.int arg1), .val (.int arg2), .val (.int v1), .val (.int v2), .val (.int v3), .val (.ref b4), .val (.ref b7), .unset, .unset, .unset] [(.ref b27), (.ref b12), (.ref b12)])) (fun t k => st87 t k) ?_
      refine own_stW (B := T87.setTop (mkF m 91 #[.val (.int arg0), .val (.int arg1), .val (.int arg2), .val (.int v1), .val (.int v2), .val (.int v3), .val (.ref b4), .val (.ref b7), .unset, .unset, .unset] [(.ref b27), (.ref b27), (.ref b12), (.ref b12)])) (fun t k => XS.dup X87.here hx rfl (hb hby at_90) rfl rfl k) ?_
      refine own_stW (B := T87.setTop (mkF m 92 #[.val (.int arg0), .val (.int arg1), .val (.int arg2), .val (.int v1), .val (.int v2), .val (.int v3), .val (.ref b4), .val (.ref b7), .unset, .unset, .unset] [(.int (4 : Int32)), (.ref b27), (.ref b27), (.ref b12), (.ref b12)])) (fun t k => XS.iconst X87.here hx rfl (hb hby at_91) k) ?_
      refine own_stW (B := T87.setTop (mkF m 94 #[.val (.int arg0), .val (.int arg1), .val (.int arg2), .val (.int v1), .val (.int v2), .val (.int v3), .val (.ref b4), .val (.ref b7), .unset, .unset, .unset] [(.ref b4), (.int (4 : Int32)), (.ref b27), (.ref b27), (.ref b12), (.ref b12)])) (fun t k => XS.aload X87.here hx rfl (hb hby at_92) rfl rfl k) ?_
      refine own_stW (B := T87.setTop (mkF m 95 #[.val (.int arg0), .val (.int arg1), .val (.int arg2), .val (.int v1), .val (.int v2), .val (.int v3), .val (.ref b4), .val (.ref b7), .unset, .unset, .unset] [(.int (4 : Int32)), (.ref b4), (.int (4 : Int32)), (.ref b27), (.ref b27), (.ref b12), (.ref b12)])) (fun t k => XS.iconst X87.here hx rfl (hb hby at_94) k) ?_
      refine own_stW (B := T87.setTop (mkF m 97 #[.val (.int arg0), .val (.int arg1), .val (.int arg2), .val (.int v1), .val (.int v2), .val (.int v3), .val (.ref b4), .val (.ref b7), .unset, .unset, .unset] [(.int v2), (.int (4 : Int32)), (.ref b4), (.int (4 : Int32)), (.ref b27), (.ref b27), (.ref b12), (.ref b12)])) (fun t k => XS.iload X87.here hx rfl (hb hby at_95) rfl k) ?_
      refine own_stW (B := T87.setTop (mkF m 99 #[.val (.int arg0), .val (.int arg1), .val (.int arg2), .val (.int v1), .val (.int v2), .val (.int v3), .val (.ref b4), .val (.ref b7), .unset, .unset, .unset] [(.int v3), (.int v2), (.int (4 : Int32)), (.ref b4), (.int (4 : Int32)), (.ref b27), (.ref b27), (.ref b12), (.ref b12)])) (fun t k => XS.iload X87.here hx rfl (hb hby at_97) rfl k) ?_
      have f93 : Exa Z h87 b4 "java/lang/String" := (f80.wr W87)
      have f94 : Fld Z h87 b4 "java/lang/String" "coder" "B" (.int (0 : Int32)) := (f81.other W87 (Or.inl q27_b4))
      have f95 : Fld Z h87 b4 "java/lang/String" "value" "[B" (.ref bb4) := (f82.other W87 (Or.inl q27_b4))
      have f96 : own_A Z h87 bb4 .byte (own_d.map Value.int) := (f83.other W87 q27_bb4)
      have f97 : Sta Z h87 "java/lang/String" "COMPACT_STRINGS" "Z" (.int cs) := (f84.wr W87)
      have f98 : Sta Z h87 "jdk/internal/util/Preconditions" "SIOOBE_FORMATTER" "Ljava/util/function/BiFunction;" u1 := (f85.wr W87)
      obtain ⟨_, _, ⟨T99, L99, k99, j99⟩, -, X99, ⟨Lc99, hQ99, l99, y99_, z99_⟩, st99⟩ := Jvm.LawKit.callS X87 hx (y := (⟨"com/example/goodput/goodput/DeliveryModeNamedPinLaw", "at", "(Ljava/lang/String;IIC)C"⟩ : MethodName)) hown (mvT hZ (w_11 hw)) (mvT hZ (w_12 hw)) (mvT hZ (w_13 hw)) (mvT hZ (w_14 hw)) (by decide) (backOf (W := 5) (rm1 l Z a0 hw [] b4 (4 : Int32) v2 v3 bb4 own_d cs u1 h87 n0 z91 f93 f94 f95 f96 f97 f98 (show 0 ≤ (4 : Int32).toInt by decide) hcc (show own_d.length < 1000 by decide) hcs hu) hZ (w_14 hw) (w_13 hw) (by decide) (by decide)) (g := (mkF m 99 #[.val (.int arg0), .val (.int arg1), .val (.int arg2), .val (.int v1), .val (.int v2), .val (.int v3), .val (.ref b4), .val (.ref b7), .unset, .unset, .unset] [(.int v3), (.int v2), (.int (4 : Int32)), (.ref b4), (.int (4 : Int32)), (.ref b27), (.ref b27), (.ref b12), (.ref b12)])) rfl (by rw [hml]; rfl) (argsL := [(.ref b4), (.int (4 : Int32)), (.int v2), (.int v3)]) (rest := [(.int (4 : Int32)), (.ref b27), (.ref b27), (.ref b12), (.ref b12)]) (lenOf own_pd20 rfl) rfl (by show 2 * 0 + _ ≤ _; exact Nat.le_of_eq rfl) (hb hby at_99) (fun _ _ => ⟨rfl, e87, (by decide : 6 + 0 ≤ _), (by decide : 81 + 0 ≤ _)⟩)
      dsimp only [Pt.U, Pt.locs, Pt.cells, Pt.slots] at X99 l99 y99_ z99_ st99 hQ99
      subst l99 y99_ z99_
      obtain ⟨zc_99, rfl, N99q, e99q, r99_0⟩ := hQ99
      have N99 := Fr.app n92 N99q
      refine own_stW (B := T99.setTop (mkF m 102 #[.val (.int arg0), .val (.int arg1), .val (.int arg2), .val (.int v1), .val (.int v2), .val (.int v3), .val (.ref b4), .val (.ref b7), .unset, .unset, .unset] [(.int zc_99), (.int (4 : Int32)), (.ref b27), (.ref b27), (.ref b12), (.ref b12)])) (fun t k => st99 t k) ?_
      obtain ⟨T100, h100, X100, e100, W100, A100, st100⟩ := own_stC X99 hx hZ e99q f87_ (j := (4 : Int32)) (x := zc_99) (i := 4) (by decide) (show 4 < 5 from by decide) (g := (mkF m 102 #[.val (.int arg0), .val (.int arg1), .val (.int arg2), .val (.int v1), .val (.int v2), .val (.int v3), .val (.ref b4), .val (.ref b7), .unset, .unset, .unset] [(.int zc_99), (.int (4 : Int32)), (.ref b27), (.ref b27), (.ref b12), (.ref b12)])) rfl rfl (hb hby at_102)
      have f100_ : own_A Z h100 b27 .char [(.int (zc_48.toUInt32.toUInt16.toUInt32.toInt32)), (.int (zc_60.toUInt32.toUInt16.toUInt32.toInt32)), (.int (zc_73.toUInt32.toUInt16.toUInt32.toInt32)), (.int (zc_86.toUInt32.toUInt16.toUInt32.toInt32)), (.int (zc_99.toUInt32.toUInt16.toUInt32.toInt32))] := A100
      have f102 : Exa Z h87 b27 "[C" := (f89.wr W87)
      have ch101 := ch88.trans (CHr.wr W100 (Safe.exa hZ.alike f102 (by decide) (by decide)) ch88.1)
      have sf103 := Safe.wr W100 (Safe.exa hZ.alike f102 (by decide) (by decide)) ch88.1 sf90
      have hk101 := Nat.le_trans hk88 (Keep.of_wr W100).1
      have z104 : n0 ≤ h100.size := Nat.le_trans z91 (Keep.of_wr W100).1
      have n105 := Fr.snoc X100 N99 u27
      refine own_stW (B := T100.setTop (mkF m 103 #[.val (.int arg0), .val (.int arg1), .val (.int arg2), .val (.int v1), .val (.int v2), .val (.int v3), .val (.ref b4), .val (.ref b7), .unset, .unset, .unset] [(.ref b27), (.ref b12), (.ref b12)])) (fun t k => st100 t k) ?_
      have hvb106 : own_bnd ([(zc_48.toUInt32.toUInt16.toUInt32.toInt32), (zc_60.toUInt32.toUInt16.toUInt32.toInt32), (zc_73.toUInt32.toUInt16.toUInt32.toInt32), (zc_86.toUInt32.toUInt16.toUInt32.toInt32), (zc_99.toUInt32.toUInt16.toUInt32.toInt32)] : List Int32) := (own_bndS (own_z255 r48_0) (own_bndS (own_z255 r60_0) (own_bndS (own_z255 r73_0) (own_bndS (own_z255 r86_0) (own_bndS (own_z255 r99_0) own_bnd0)))))
      have fv106 : own_A Z h100 b27 .char (([(zc_48.toUInt32.toUInt16.toUInt32.toInt32), (zc_60.toUInt32.toUInt16.toUInt32.toInt32), (zc_73.toUInt32.toUInt16.toUInt32.toInt32), (zc_86.toUInt32.toUInt16.toUInt32.toInt32), (zc_99.toUInt32.toUInt16.toUInt32.toInt32)] : List Int32).map Value.int) := f100_
      have f107 : Exa Z h100 b12 "java/lang/String" := ((((((A12.ext E27).wr W49).wr W61).wr W74).wr W87).wr W100)
      have f108 : Fld Z h100 b12 "java/lang/String" "value" "[B" .null := ((((((f25.ext E27).other W49 (Or.inl q27_b12)).other W61 (Or.inl q27_b12)).other W74 (Or.inl q27_b12)).other W87 (Or.inl q27_b12)).other W100 (Or.inl q27_b12))
      have f109 : Fld Z h100 b12 "java/lang/String" "coder" "B" (.int (0 : Int32)) := ((((((f26.ext E27).other W49 (Or.inl q27_b12)).other W61 (Or.inl q27_b12)).other W74 (Or.inl q27_b12)).other W87 (Or.inl q27_b12)).other W100 (Or.inl q27_b12))
      have f110 : Sta Z h100 "java/lang/String" "COMPACT_STRINGS" "Z" (.int cs) := (f97.wr W100)
      obtain ⟨_, _, ⟨T111, L111, k111, j111⟩, -, X111, ⟨Lc111, hQ111, l111, y111_, z111_⟩, st111⟩ := X100.specialBack hx (y := (⟨"java/lang/String", "<init>", "([C)V"⟩ : MethodName)) rfl hown (mvT hZ (w_50 hw)) (mvT hZ (w_51 hw)) (mvT hZ (w_52 hw)) (by decide) (backOf (W := 1) (rm9 l Z a0 hw [] b12 b27 cs ([(zc_48.toUInt32.toUInt16.toUInt32.toInt32), (zc_60.toUInt32.toUInt16.toUInt32.toInt32), (zc_73.toUInt32.toUInt16.toUInt32.toInt32), (zc_86.toUInt32.toUInt16.toUInt32.toInt32), (zc_99.toUInt32.toUInt16.toUInt32.toInt32)] : List Int32) h100 n0 z104 f107 f108 f109 fv106 f110 u12 hcs (show ¬ ((5 : Nat) = 0) from (by decide)) (show (5 : Nat) ≤ 16 from (by decide)) hvb106) hZ (w_52 hw) (w_1 hw) (by decide) (by decide)) (g := (mkF m 103 #[.val (.int arg0), .val (.int arg1), .val (.int arg2), .val (.int v1), .val (.int v2), .val (.int v3), .val (.ref b4), .val (.ref b7), .unset, .unset, .unset] [(.ref b27), (.ref b12), (.ref b12)])) rfl (by rw [hml]; rfl) (Steps.refl _) (a := b12) (argsL := [(.ref b27)]) (rest := [(.ref b12)]) (lenOf own_pd21 rfl) rfl (by show 2 * 0 + _ ≤ _; exact Nat.le_of_eq rfl) (hb hby at_103) (fun _ _ => ⟨rfl, e100, (by decide : 6 + 1 ≤ _), (by decide : 81 + 16 ≤ _)⟩)
      dsimp only [Pt.U, Pt.locs, Pt.cells, Pt.slots] at X111 l111 y111_ z111_ st111 hQ111
      subst l111 y111_ z111_
      obtain ⟨b_111, bs_111, rfl, N111q, K111, u111_b, y111_b, p111_0, p111_1, p111_2, p111_3, r111_0⟩ := hQ111
      have N111 := Fr.app n105 N111q
      have f112 : Exa Z h100 va "[Lcom/example/goodput/goodput/DeliveryMode;" := ((((((f28.ext E27).wr W49).wr W61).wr W74).wr W87).wr W100)
      have q111_b_va : va ≠ b_111 := Nat.ne_of_lt (Nat.lt_of_lt_of_le f112.lt y111_b)
      have f113 : Fld Z h100 r1 "com/example/goodput/goodput/DeliveryMode" "name" "Ljava/lang/String;" (.ref s1) := ((((((f29.ext E27).other W49 (Or.inl q27_r1)).other W61 (Or.inl q27_r1)).other W74 (Or.inl q27_r1)).other W87 (Or.inl q27_r1)).other W100 (Or.inl q27_r1))
      have q111_b_r1 : r1 ≠ b_111 := Nat.ne_of_lt (Nat.lt_of_lt_of_le f113.lt y111_b)
      have f114 : Fld Z h100 r2 "com/example/goodput/goodput/DeliveryMode" "name" "Ljava/lang/String;" (.ref s2) := ((((((f30.ext E27).other W49 (Or.inl q27_r2)).other W61 (Or.inl q27_r2)).other W74 (Or.inl q27_r2)).other W87 (Or.inl q27_r2)).other W100 (Or.inl q27_r2))
      have q111_b_r2 : r2 ≠ b_111 := Nat.ne_of_lt (Nat.lt_of_lt_of_le f114.lt y111_b)
      have f115 : Exa Z h100 s1 "java/lang/String" := ((((((f31.ext E27).wr W49).wr W61).wr W74).wr W87).wr W100)
      have q111_b_s1 : s1 ≠ b_111 := Nat.ne_of_lt (Nat.lt_of_lt_of_le f115.lt y111_b)
      have f116 : Exa Z h100 s2 "java/lang/String" := ((((((f32.ext E27).wr W49).wr W61).wr W74).wr W87).wr W100)
      have q111_b_s2 : s2 ≠ b_111 := Nat.ne_of_lt (Nat.lt_of_lt_of_le f116.lt y111_b)
      have f117 : own_A Z h100 d1 .byte (own_d.map Value.int) := ((((((f33.ext E27).other W49 q27_d1).other W61 q27_d1).other W74 q27_d1).other W87 q27_d1).other W100 q27_d1)
      have q111_b_d1 : d1 ≠ b_111 := Nat.ne_of_lt (Nat.lt_of_lt_of_le f117.lt y111_b)
      have f118 : own_A Z h100 d2 .byte (own_q.map Value.int) := ((((((f34.ext E27).other W49 q27_d2).other W61 q27_d2).other W74 q27_d2).other W87 q27_d2).other W100 q27_d2)
      have q111_b_d2 : d2 ≠ b_111 := Nat.ne_of_lt (Nat.lt_of_lt_of_le f118.lt y111_b)
      have f119 : Exa Z h100 b4 "java/lang/String" := (f93.wr W100)
      have q111_b_b4 : b4 ≠ b_111 := Nat.ne_of_lt (Nat.lt_of_lt_of_le f119.lt y111_b)
      have f120 : own_A Z h100 bb4 .byte (own_d.map Value.int) := (f96.other W100 q27_bb4)
      have q111_b_bb4 : bb4 ≠ b_111 := Nat.ne_of_lt (Nat.lt_of_lt_of_le f120.lt y111_b)
      have f121 : Exa Z h100 b7 "java/lang/String" := ((((((f37.ext E27).wr W49).wr W61).wr W74).wr W87).wr W100)
      have q111_b_b7 : b7 ≠ b_111 := Nat.ne_of_lt (Nat.lt_of_lt_of_le f121.lt y111_b)
      have f122 : own_A Z h100 bb7 .byte (own_q.map Value.int) := ((((((f38.ext E27).other W49 q27_bb7).other W61 q27_bb7).other W74 q27_bb7).other W87 q27_bb7).other W100 q27_bb7)
      have q111_b_bb7 : bb7 ≠ b_111 := Nat.ne_of_lt (Nat.lt_of_lt_of_le f122.lt y111_b)
      have q111_b_b12 : b12 ≠ b_111 := Nat.ne_of_lt (Nat.lt_of_lt_of_le f107.lt y111_b)
      have q111_b_b27 : b27 ≠ b_111 := Nat.ne_of_lt (Nat.lt_of_lt_of_le fv106.lt y111_b)
      have ch123 := ch101.trans (CHr.keep K111 (allS sf103 all0) ch101.1)
      have sf124 := Safe.keep K111 (allS sf103 all0) ch101.1 sf103
      have hk123 := Nat.le_trans hk101 K111.1
      have z125 : n0 ≤ T111.heap.size := Nat.le_trans z104 K111.1
      refine own_ssW (B := T111.setTop (mkF m 106 #[.val (.int arg0), .val (.int arg1), .val (.int arg2), .val (.int v1), .val (.int v2), .val (.int v3), .val (.ref b4), .val (.ref b7), .unset, .unset, .unset] [(.ref b12)])) st111 ?_
      have hbl111 : bs_111.length < 1000 := by have h9 : bs_111.length = 5 := r111_0; omega
      refine own_stW (B := T111.setTop (mkF m 108 #[.val (.int arg0), .val (.int arg1), .val (.int arg2), .val (.int v1), .val (.int v2), .val (.int v3), .val (.ref b4), .val (.ref b7), .val (.ref b12), .unset, .unset] [])) (fun t k => XS.astore X111.here hx rfl (hb hby at_106) rfl rfl (l' := #[.val (.int arg0), .val (.int arg1), .val (.int arg2), .val (.int v1), .val (.int v2), .val (.int v3), .val (.ref b4), .val (.ref b7), .val (.ref b12), .unset, .unset]) rfl k) ?_
      refine own_stW (B := T111.setTop (mkF m 825 #[.val (.int arg0), .val (.int arg1), .val (.int arg2), .val (.int v1), .val (.int v2), .val (.int v3), .val (.ref b4), .val (.ref b7), .val (.ref b12), .unset, .unset] [])) (fun t k => XS.goto X111.here hx rfl (pc0 := 108) (pc' := 825) rfl (hb hby at_108) (by decide) (by decide) k) ?_
      have x10_ := X111.more (cells' := 10) (slots' := 103) (by decide) (by decide)
      have f126 : Sta Z T111.heap "com/example/goodput/goodput/DeliveryMode" "$VALUES" "[Lcom/example/goodput/goodput/DeliveryMode;" (.ref va) := (own_Sta.keep (((((((((F0.ext E4).ext E7).ext E12).ext E27).wr W49).wr W61).wr W74).wr W87).wr W100) K111 (show ∀ st ∈ [b12], ∀ cell : Cell, h100[st]? = some cell → cell.vm.isStatics = false from (allS (own_plainE f107) all0)))
      have f127 : Exa Z T111.heap va "[Lcom/example/goodput/goodput/DeliveryMode;" := (f112.keep K111)
      have f128 : own_A Z T111.heap va (.object "com/example/goodput/goodput/DeliveryMode") [(.ref r1), (.ref r2)] := ((((((((((F2.ext E4).ext E7).ext E12).ext E27).other W49 q27_va).other W61 q27_va).other W74 q27_va).other W87 q27_va).other W100 q27_va).keep K111 (ninS q12_va nin0))
      have f129 : Fld Z T111.heap r1 "com/example/goodput/goodput/DeliveryMode" "name" "Ljava/lang/String;" (.ref s1) := (f113.keep K111 (ninS q12_r1 nin0))
      have f130 : Fld Z T111.heap r2 "com/example/goodput/goodput/DeliveryMode" "name" "Ljava/lang/String;" (.ref s2) := (f114.keep K111 (ninS q12_r2 nin0))
      have f131 : Exa Z T111.heap s1 "java/lang/String" := (f115.keep K111)
      have f132 : Exa Z T111.heap s2 "java/lang/String" := (f116.keep K111)
      have f133 : Fld Z T111.heap s1 "java/lang/String" "coder" "B" (.int (0 : Int32)) := ((((((((((F7.ext E4).ext E7).ext E12).ext E27).other W49 (Or.inl q27_s1)).other W61 (Or.inl q27_s1)).other W74 (Or.inl q27_s1)).other W87 (Or.inl q27_s1)).other W100 (Or.inl q27_s1)).keep K111 (ninS q12_s1 nin0))
      have f134 : Fld Z T111.heap s1 "java/lang/String" "value" "[B" (.ref d1) := ((((((((((F8.ext E4).ext E7).ext E12).ext E27).other W49 (Or.inl q27_s1)).other W61 (Or.inl q27_s1)).other W74 (Or.inl q27_s1)).other W87 (Or.inl q27_s1)).other W100 (Or.inl q27_s1)).keep K111 (ninS q12_s1 nin0))
      have f135 : Fld Z T111.heap s2 "java/lang/String" "coder" "B" (.int (0 : Int32)) := ((((((((((F9.ext E4).ext E7).ext E12).ext E27).other W49 (Or.inl q27_s2)).other W61 (Or.inl q27_s2)).other W74 (Or.inl q27_s2)).other W87 (Or.inl q27_s2)).other W100 (Or.inl q27_s2)).keep K111 (ninS q12_s2 nin0))
      have f136 : Fld Z T111.heap s2 "java/lang/String" "value" "[B" (.ref d2) := ((((((((((F10.ext E4).ext E7).ext E12).ext E27).other W49 (Or.inl q27_s2)).other W61 (Or.inl q27_s2)).other W74 (Or.inl q27_s2)).other W87 (Or.inl q27_s2)).other W100 (Or.inl q27_s2)).keep K111 (ninS q12_s2 nin0))
      have f137 : own_A Z T111.heap d1 .byte (own_d.map Value.int) := (f117.keep K111 (ninS q12_d1 nin0))
      have f138 : own_A Z T111.heap d2 .byte (own_q.map Value.int) := (f118.keep K111 (ninS q12_d2 nin0))
      have f139 : Sta Z T111.heap "com/example/goodput/goodput/DeliveryMode" "DIRECT" "Lcom/example/goodput/goodput/DeliveryMode;" (.ref r1) := (own_Sta.keep (((((((((F13.ext E4).ext E7).ext E12).ext E27).wr W49).wr W61).wr W74).wr W87).wr W100) K111 (show ∀ st ∈ [b12], ∀ cell : Cell, h100[st]? = some cell → cell.vm.isStatics = false from (allS (own_plainE f107) all0)))
      have f140 : Sta Z T111.heap "com/example/goodput/goodput/DeliveryMode" "PERSISTENT" "Lcom/example/goodput/goodput/DeliveryMode;" (.ref r2) := (own_Sta.keep (((((((((F14.ext E4).ext E7).ext E12).ext E27).wr W49).wr W61).wr W74).wr W87).wr W100) K111 (show ∀ st ∈ [b12], ∀ cell : Cell, h100[st]? = some cell → cell.vm.isStatics = false from (allS (own_plainE f107) all0)))
      have f141 : Sta Z T111.heap "java/lang/String" "COMPACT_STRINGS" "Z" (.int cs) := (own_Sta.keep f110 K111 (show ∀ st ∈ [b12], ∀ cell : Cell, h100[st]? = some cell → cell.vm.isStatics = false from (allS (own_plainE f107) all0)))
      have f142 : Exa Z T111.heap b4 "java/lang/String" := (f119.keep K111)
      have f143 : Fld Z T111.heap b4 "java/lang/String" "coder" "B" (.int (0 : Int32)) := ((f94.other W100 (Or.inl q27_b4)).keep K111 (ninS q12_b4 nin0))
      have f144 : Fld Z T111.heap b4 "java/lang/String" "value" "[B" (.ref bb4) := ((f95.other W100 (Or.inl q27_b4)).keep K111 (ninS q12_b4 nin0))
      have f145 : own_A Z T111.heap bb4 .byte (own_d.map Value.int) := (f120.keep K111 (ninS q12_bb4 nin0))
      have f146 : Exa Z T111.heap b7 "java/lang/String" := (f121.keep K111)
      have f147 : Fld Z T111.heap b7 "java/lang/String" "coder" "B" (.int (0 : Int32)) := ((((((((C7.ext E12).ext E27).other W49 (Or.inl q27_b7)).other W61 (Or.inl q27_b7)).other W74 (Or.inl q27_b7)).other W87 (Or.inl q27_b7)).other W100 (Or.inl q27_b7)).keep K111 (ninS q12_b7 nin0))
      have f148 : Fld Z T111.heap b7 "java/lang/String" "value" "[B" (.ref bb7) := ((((((((V7.ext E12).ext E27).other W49 (Or.inl q27_b7)).other W61 (Or.inl q27_b7)).other W74 (Or.inl q27_b7)).other W87 (Or.inl q27_b7)).other W100 (Or.inl q27_b7)).keep K111 (ninS q12_b7 nin0))
      have f149 : own_A Z T111.heap bb7 .byte (own_q.map Value.int) := (f122.keep K111 (ninS q12_bb7 nin0))
      exact J10 _ _ T111 _ _ b12 b_111 bs_111 x10_ rfl N111 z125 hS7 hk123 hZ hown ch123 p111_0 p111_2 p111_1 p111_3 f126 f127 f128 f129 f130 f131 f132 f133 f134 f135 f136 f137 f138 f139 f140 f141 f142 f143 f144 f145 f146 f147 f148 f149 (show bs_111.length < 1000 by exact hbl111) (show s1 ≠ b12 by exact q12_s1) (show s2 ≠ b12 by exact q12_s2) (show b4 ≠ b12 by exact q12_b4) (show b7 ≠ b12 by exact q12_b7)
    · refine own_stW (B := T7.setTop (mkF m 111 #[.val (.int arg0), .val (.int arg1), .val (.int arg2), .val (.int v1), .val (.int v2), .val (.int v3), .val (.ref b4), .val (.ref b7), .unset, .unset, .unset] [])) (fun t k => XS.ifYes X7.here hx rfl (pc0 := 28) (pc' := 111) rfl (hb hby at_28) rfl (XT.i0_ne_t hc11) (by decide) (by decide) k) ?_
      refine own_stW (B := T7.setTop (mkF m 112 #[.val (.int arg0), .val (.int arg1), .val (.int arg2), .val (.int v1), .val (.int v2), .val (.int v3), .val (.ref b4), .val (.ref b7), .unset, .unset, .unset] [(.int v1)])) (fun t k => XS.iloadN X7.here hx rfl (hb hby at_111) rfl k) ?_
      refine own_stW (B := T7.setTop (mkF m 113 #[.val (.int arg0), .val (.int arg1), .val (.int arg2), .val (.int v1), .val (.int v2), .val (.int v3), .val (.ref b4), .val (.ref b7), .unset, .unset, .unset] [(.int (1 : Int32)), (.int v1)])) (fun t k => XS.iconst X7.here hx rfl (hb hby at_112) k) ?_
      by_cases hc150 : v1 = (1 : Int32)
      · refine own_stW (B := T7.setTop (mkF m 116 #[.val (.int arg0), .val (.int arg1), .val (.int arg2), .val (.int v1), .val (.int v2), .val (.int v3), .val (.ref b4), .val (.ref b7), .unset, .unset, .unset] [])) (fun t k => XS.icmpNo X7.here hx rfl (hb hby at_113) rfl (XT.ii_ne_f hc150) k) ?_
        obtain ⟨T151, h151, X151, e151, E151, A151, D151, -, st151⟩ := newO X7 hx hZ hown (w_9 hw) (w_2 hw) (w_1 hw) e7 (g := (mkF m 116 #[.val (.int arg0), .val (.int arg1), .val (.int arg2), .val (.int v1), .val (.int v2), .val (.int v3), .val (.ref b4), .val (.ref b7), .unset, .unset, .unset] [])) rfl (hb hby at_116) (by decide) (by decide)
        obtain ⟨b151, g151⟩ : ∃ z, z = h7.size := ⟨_, rfl⟩
        rw [← g151] at A151 D151 st151
        have f152 : Exa Z h7 va "[Lcom/example/goodput/goodput/DeliveryMode;" := ((F1.ext E4).ext E7)
        have q151_va : va ≠ b151 := Nat.ne_of_lt (Nat.lt_of_lt_of_le f152.lt (Nat.le_of_eq g151.symm))
        have f153 : Fld Z h7 r1 "com/example/goodput/goodput/DeliveryMode" "name" "Ljava/lang/String;" (.ref s1) := ((F3.ext E4).ext E7)
        have q151_r1 : r1 ≠ b151 := Nat.ne_of_lt (Nat.lt_of_lt_of_le f153.lt (Nat.le_of_eq g151.symm))
        have f154 : Fld Z h7 r2 "com/example/goodput/goodput/DeliveryMode" "name" "Ljava/lang/String;" (.ref s2) := ((F4.ext E4).ext E7)
        have q151_r2 : r2 ≠ b151 := Nat.ne_of_lt (Nat.lt_of_lt_of_le f154.lt (Nat.le_of_eq g151.symm))
        have f155 : Exa Z h7 s1 "java/lang/String" := ((F5.ext E4).ext E7)
        have q151_s1 : s1 ≠ b151 := Nat.ne_of_lt (Nat.lt_of_lt_of_le f155.lt (Nat.le_of_eq g151.symm))
        have f156 : Exa Z h7 s2 "java/lang/String" := ((F6.ext E4).ext E7)
        have q151_s2 : s2 ≠ b151 := Nat.ne_of_lt (Nat.lt_of_lt_of_le f156.lt (Nat.le_of_eq g151.symm))
        have f157 : own_A Z h7 d1 .byte (own_d.map Value.int) := ((F11.ext E4).ext E7)
        have q151_d1 : d1 ≠ b151 := Nat.ne_of_lt (Nat.lt_of_lt_of_le f157.lt (Nat.le_of_eq g151.symm))
        have f158 : own_A Z h7 d2 .byte (own_q.map Value.int) := ((F12.ext E4).ext E7)
        have q151_d2 : d2 ≠ b151 := Nat.ne_of_lt (Nat.lt_of_lt_of_le f158.lt (Nat.le_of_eq g151.symm))
        have f159 : Exa Z h7 b4 "java/lang/String" := (A4.ext E7)
        have q151_b4 : b4 ≠ b151 := Nat.ne_of_lt (Nat.lt_of_lt_of_le f159.lt (Nat.le_of_eq g151.symm))
        have f160 : own_A Z h7 bb4 .byte (own_d.map Value.int) := (fa4.ext E7)
        have q151_bb4 : bb4 ≠ b151 := Nat.ne_of_lt (Nat.lt_of_lt_of_le f160.lt (Nat.le_of_eq g151.symm))
        have q151_b7 : b7 ≠ b151 := Nat.ne_of_lt (Nat.lt_of_lt_of_le A7.lt (Nat.le_of_eq g151.symm))
        have q151_bb7 : bb7 ≠ b151 := Nat.ne_of_lt (Nat.lt_of_lt_of_le fa7.lt (Nat.le_of_eq g151.symm))
        have u151 : n0 ≤ b151 := Nat.le_trans z9 (Nat.le_of_eq g151.symm)
        have ch161 := ch8.trans (CHr.ext E151 ch8.1)
        have sf162 := Safe.ext E151 ch8.1 (Safe.new (Nat.le_of_eq g151.symm))
        have hk161 := Nat.le_trans hk7 E151.1
        have z163 : n0 ≤ h151.size := Nat.le_trans z9 E151.1
        have f164 : Fld Z h151 b151 "java/lang/String" "value" "[B" .null := D151 (Or.inr (w_4 hw)) (ty := (.array .byte)) (by decide)
        have f165 : Fld Z h151 b151 "java/lang/String" "coder" "B" (.int (0 : Int32)) := D151 (Or.inr (w_5 hw)) (ty := .byte) (by decide)
        refine own_stW (B := T151.setTop (mkF m 119 #[.val (.int arg0), .val (.int arg1), .val (.int arg2), .val (.int v1), .val (.int v2), .val (.int v3), .val (.ref b4), .val (.ref b7), .unset, .unset, .unset] [(.ref b151)])) (fun t k => st151 t k) ?_
        refine own_stW (B := T151.setTop (mkF m 120 #[.val (.int arg0), .val (.int arg1), .val (.int arg2), .val (.int v1), .val (.int v2), .val (.int v3), .val (.ref b4), .val (.ref b7), .unset, .unset, .unset] [(.ref b151), (.ref b151)])) (fun t k => XS.dup X151.here hx rfl (hb hby at_119) rfl rfl k) ?_
        refine own_stW (B := T151.setTop (mkF m 122 #[.val (.int arg0), .val (.int arg1), .val (.int arg2), .val (.int v1), .val (.int v2), .val (.int v3), .val (.ref b4), .val (.ref b7), .unset, .unset, .unset] [(.int (6 : Int32)), (.ref b151), (.ref b151)])) (fun t k => XS.bipush X151.here hx rfl (hb hby at_120) k) ?_
        obtain ⟨T166, h166, X166, e166, E166, A166, x166, st166⟩ := own_newP X151 hx hZ (aty := .char) (w_10 hw) e151 (g := (mkF m 122 #[.val (.int arg0), .val (.int arg1), .val (.int arg2), .val (.int v1), .val (.int v2), .val (.int v3), .val (.ref b4), .val (.ref b7), .unset, .unset, .unset] [(.int (6 : Int32)), (.ref b151), (.ref b151)])) rfl (hb hby at_122) (n := (6 : Int32)) (rest := [(.ref b151), (.ref b151)]) rfl (k := 6) (cap := 6) (by decide) (Nat.le_refl _) (by decide) (by decide) (by decide) (ad := "[C") rfl
        obtain ⟨b166, g166⟩ : ∃ z, z = h151.size := ⟨_, rfl⟩
        rw [← g166] at A166 x166 st166
        have f167 : Exa Z h151 va "[Lcom/example/goodput/goodput/DeliveryMode;" := (f152.ext E151)
        have q166_va : va ≠ b166 := Nat.ne_of_lt (Nat.lt_of_lt_of_le f167.lt (Nat.le_of_eq g166.symm))
        have f168 : Fld Z h151 r1 "com/example/goodput/goodput/DeliveryMode" "name" "Ljava/lang/String;" (.ref s1) := (f153.ext E151)
        have q166_r1 : r1 ≠ b166 := Nat.ne_of_lt (Nat.lt_of_lt_of_le f168.lt (Nat.le_of_eq g166.symm))
        have f169 : Fld Z h151 r2 "com/example/goodput/goodput/DeliveryMode" "name" "Ljava/lang/String;" (.ref s2) := (f154.ext E151)
        have q166_r2 : r2 ≠ b166 := Nat.ne_of_lt (Nat.lt_of_lt_of_le f169.lt (Nat.le_of_eq g166.symm))
        have f170 : Exa Z h151 s1 "java/lang/String" := (f155.ext E151)
        have q166_s1 : s1 ≠ b166 := Nat.ne_of_lt (Nat.lt_of_lt_of_le f170.lt (Nat.le_of_eq g166.symm))
        have f171 : Exa Z h151 s2 "java/lang/String" := (f156.ext E151)
        have q166_s2 : s2 ≠ b166 := Nat.ne_of_lt (Nat.lt_of_lt_of_le f171.lt (Nat.le_of_eq g166.symm))
        have f172 : own_A Z h151 d1 .byte (own_d.map Value.int) := (f157.ext E151)
        have q166_d1 : d1 ≠ b166 := Nat.ne_of_lt (Nat.lt_of_lt_of_le f172.lt (Nat.le_of_eq g166.symm))
        have f173 : own_A Z h151 d2 .byte (own_q.map Value.int) := (f158.ext E151)
        have q166_d2 : d2 ≠ b166 := Nat.ne_of_lt (Nat.lt_of_lt_of_le f173.lt (Nat.le_of_eq g166.symm))
        have f174 : Exa Z h151 b4 "java/lang/String" := (f159.ext E151)
        have q166_b4 : b4 ≠ b166 := Nat.ne_of_lt (Nat.lt_of_lt_of_le f174.lt (Nat.le_of_eq g166.symm))
        have f175 : own_A Z h151 bb4 .byte (own_d.map Value.int) := (f160.ext E151)
        have q166_bb4 : bb4 ≠ b166 := Nat.ne_of_lt (Nat.lt_of_lt_of_le f175.lt (Nat.le_of_eq g166.symm))
        have f176 : Exa Z h151 b7 "java/lang/String" := (A7.ext E151)
        have q166_b7 : b7 ≠ b166 := Nat.ne_of_lt (Nat.lt_of_lt_of_le f176.lt (Nat.le_of_eq g166.symm))
        have f177 : own_A Z h151 bb7 .byte (own_q.map Value.int) := (fa7.ext E151)
        have q166_bb7 : bb7 ≠ b166 := Nat.ne_of_lt (Nat.lt_of_lt_of_le f177.lt (Nat.le_of_eq g166.symm))
        have q166_b151 : b151 ≠ b166 := Nat.ne_of_lt (Nat.lt_of_lt_of_le A151.lt (Nat.le_of_eq g166.symm))
        have u166 : n0 ≤ b166 := Nat.le_trans z163 (Nat.le_of_eq g166.symm)
        have ch178 := ch161.trans (CHr.ext E166 ch161.1)
        have sf179 := Safe.ext E166 ch161.1 sf162
        have hk178 := Nat.le_trans hk161 E166.1
        have z180 : n0 ≤ h166.size := Nat.le_trans z163 E166.1
        have f166_ : own_A Z h166 b166 .char [(.int (0 : Int32)), (.int (0 : Int32)), (.int (0 : Int32)), (.int (0 : Int32)), (.int (0 : Int32)), (.int (0 : Int32))] := A166
        refine own_stW (B := T166.setTop (mkF m 124 #[.val (.int arg0), .val (.int arg1), .val (.int arg2), .val (.int v1), .val (.int v2), .val (.int v3), .val (.ref b4), .val (.ref b7), .unset, .unset, .unset] [(.ref b166), (.ref b151), (.ref b151)])) (fun t k => st166 t k) ?_
        refine own_stW (B := T166.setTop (mkF m 125 #[.val (.int arg0), .val (.int arg1), .val (.int arg2), .val (.int v1), .val (.int v2), .val (.int v3), .val (.ref b4), .val (.ref b7), .unset, .unset, .unset] [(.ref b166), (.ref b166), (.ref b151), (.ref b151)])) (fun t k => XS.dup X166.here hx rfl (hb hby at_124) rfl rfl k) ?_
        refine own_stW (B := T166.setTop (mkF m 126 #[.val (.int arg0), .val (.int arg1), .val (.int arg2), .val (.int v1), .val (.int v2), .val (.int v3), .val (.ref b4), .val (.ref b7), .unset, .unset, .unset] [(.int (0 : Int32)), (.ref b166), (.ref b166), (.ref b151), (.ref b151)])) (fun t k => XS.iconst X166.here hx rfl (hb hby at_125) k) ?_
        refine own_stW (B := T166.setTop (mkF m 128 #[.val (.int arg0), .val (.int arg1), .val (.int arg2), .val (.int v1), .val (.int v2), .val (.int v3), .val (.ref b4), .val (.ref b7), .unset, .unset, .unset] [(.ref b4), (.int (0 : Int32)), (.ref b166), (.ref b166), (.ref b151), (.ref b151)])) (fun t k => XS.aload X166.here hx rfl (hb hby at_126) rfl rfl k) ?_
        refine own_stW (B := T166.setTop (mkF m 129 #[.val (.int arg0), .val (.int arg1), .val (.int arg2), .val (.int v1), .val (.int v2), .val (.int v3), .val (.ref b4), .val (.ref b7), .unset, .unset, .unset] [(.int (0 : Int32)), (.ref b4), (.int (0 : Int32)), (.ref b166), (.ref b166), (.ref b151), (.ref b151)])) (fun t k => XS.iconst X166.here hx rfl (hb hby at_128) k) ?_
        refine own_stW (B := T166.setTop (mkF m 131 #[.val (.int arg0), .val (.int arg1), .val (.int arg2), .val (.int v1), .val (.int v2), .val (.int v3), .val (.ref b4), .val (.ref b7), .unset, .unset, .unset] [(.int v2), (.int (0 : Int32)), (.ref b4), (.int (0 : Int32)), (.ref b166), (.ref b166), (.ref b151), (.ref b151)])) (fun t k => XS.iload X166.here hx rfl (hb hby at_129) rfl k) ?_
        refine own_stW (B := T166.setTop (mkF m 133 #[.val (.int arg0), .val (.int arg1), .val (.int arg2), .val (.int v1), .val (.int v2), .val (.int v3), .val (.ref b4), .val (.ref b7), .unset, .unset, .unset] [(.int v3), (.int v2), (.int (0 : Int32)), (.ref b4), (.int (0 : Int32)), (.ref b166), (.ref b166), (.ref b151), (.ref b151)])) (fun t k => XS.iload X166.here hx rfl (hb hby at_131) rfl k) ?_
        have f181 : Exa Z h166 b4 "java/lang/String" := (f174.ext E166)
        have f182 : Fld Z h166 b4 "java/lang/String" "coder" "B" (.int (0 : Int32)) := (((C4.ext E7).ext E151).ext E166)
        have f183 : Fld Z h166 b4 "java/lang/String" "value" "[B" (.ref bb4) := (((V4.ext E7).ext E151).ext E166)
        have f184 : own_A Z h166 bb4 .byte (own_d.map Value.int) := (f175.ext E166)
        have f185 : Sta Z h166 "java/lang/String" "COMPACT_STRINGS" "Z" (.int cs) := ((((F15.ext E4).ext E7).ext E151).ext E166)
        have f186 : Sta Z h166 "jdk/internal/util/Preconditions" "SIOOBE_FORMATTER" "Ljava/util/function/BiFunction;" u1 := ((((F16.ext E4).ext E7).ext E151).ext E166)
        obtain ⟨_, _, ⟨T187, L187, k187, j187⟩, -, X187, ⟨Lc187, hQ187, l187, y187_, z187_⟩, st187⟩ := Jvm.LawKit.callS X166 hx (y := (⟨"com/example/goodput/goodput/DeliveryModeNamedPinLaw", "at", "(Ljava/lang/String;IIC)C"⟩ : MethodName)) hown (mvT hZ (w_11 hw)) (mvT hZ (w_12 hw)) (mvT hZ (w_13 hw)) (mvT hZ (w_14 hw)) (by decide) (backOf (W := 5) (rm1 l Z a0 hw [] b4 (0 : Int32) v2 v3 bb4 own_d cs u1 h166 n0 z180 f181 f182 f183 f184 f185 f186 (show 0 ≤ (0 : Int32).toInt by decide) hcc (show own_d.length < 1000 by decide) hcs hu) hZ (w_14 hw) (w_13 hw) (by decide) (by decide)) (g := (mkF m 133 #[.val (.int arg0), .val (.int arg1), .val (.int arg2), .val (.int v1), .val (.int v2), .val (.int v3), .val (.ref b4), .val (.ref b7), .unset, .unset, .unset] [(.int v3), (.int v2), (.int (0 : Int32)), (.ref b4), (.int (0 : Int32)), (.ref b166), (.ref b166), (.ref b151), (.ref b151)])) rfl (by rw [hml]; rfl) (argsL := [(.ref b4), (.int (0 : Int32)), (.int v2), (.int v3)]) (rest := [(.int (0 : Int32)), (.ref b166), (.ref b166), (.ref b151), (.ref b151)]) (lenOf own_pd20 rfl) rfl (by show 2 * 0 + _ ≤ _; exact Nat.le_of_eq rfl) (hb hby at_133) (fun _ _ => ⟨rfl, e166, (by decide : 6 + 0 ≤ _), (by decide : 82 + 0 ≤ _)⟩)
        dsimp only [Pt.U, Pt.locs, Pt.cells, Pt.slots] at X187 l187 y187_ z187_ st187 hQ187
        subst l187 y187_ z187_
        obtain ⟨zc_187, rfl, N187q, e187q, r187_0⟩ := hQ187
        have N187 := Fr.app N0 N187q
        refine own_stW (B := T187.setTop (mkF m 136 #[.val (.int arg0), .val (.int arg1), .val (.int arg2), .val (.int v1), .val (.int v2), .val (.int v3), .val (.ref b4), .val (.ref b7), .unset, .unset, .unset] [(.int zc_187), (.int (0 : Int32)), (.ref b166), (.ref b166), (.ref b151), (.ref b151)])) (fun t k => st187 t k) ?_
        obtain ⟨T188, h188, X188, e188, W188, A188, st188⟩ := own_stC X187 hx hZ e187q f166_ (j := (0 : Int32)) (x := zc_187) (i := 0) (by decide) (show 0 < 6 from by decide) (g := (mkF m 136 #[.val (.int arg0), .val (.int arg1), .val (.int arg2), .val (.int v1), .val (.int v2), .val (.int v3), .val (.ref b4), .val (.ref b7), .unset, .unset, .unset] [(.int zc_187), (.int (0 : Int32)), (.ref b166), (.ref b166), (.ref b151), (.ref b151)])) rfl rfl (hb hby at_136)
        have f188_ : own_A Z h188 b166 .char [(.int (zc_187.toUInt32.toUInt16.toUInt32.toInt32)), (.int (0 : Int32)), (.int (0 : Int32)), (.int (0 : Int32)), (.int (0 : Int32)), (.int (0 : Int32))] := A188
        have ch189 := ch178.trans (CHr.wr W188 (Safe.exa hZ.alike x166 (by decide) (by decide)) ch178.1)
        have sf190 := Safe.wr W188 (Safe.exa hZ.alike x166 (by decide) (by decide)) ch178.1 sf179
        have hk189 := Nat.le_trans hk178 (Keep.of_wr W188).1
        have z191 : n0 ≤ h188.size := Nat.le_trans z180 (Keep.of_wr W188).1
        have n192 := Fr.snoc X188 N187 u166
        refine own_stW (B := T188.setTop (mkF m 137 #[.val (.int arg0), .val (.int arg1), .val (.int arg2), .val (.int v1), .val (.int v2), .val (.int v3), .val (.ref b4), .val (.ref b7), .unset, .unset, .unset] [(.ref b166), (.ref b151), (.ref b151)])) (fun t k => st188 t k) ?_
        refine own_stW (B := T188.setTop (mkF m 138 #[.val (.int arg0), .val (.int arg1), .val (.int arg2), .val (.int v1), .val (.int v2), .val (.int v3), .val (.ref b4), .val (.ref b7), .unset, .unset, .unset] [(.ref b166), (.ref b166), (.ref b151), (.ref b151)])) (fun t k => XS.dup X188.here hx rfl (hb hby at_137) rfl rfl k) ?_
        refine own_stW (B := T188.setTop (mkF m 139 #[.val (.int arg0), .val (.int arg1), .val (.int arg2), .val (.int v1), .val (.int v2), .val (.int v3), .val (.ref b4), .val (.ref b7), .unset, .unset, .unset] [(.int (1 : Int32)), (.ref b166), (.ref b166), (.ref b151), (.ref b151)])) (fun t k => XS.iconst X188.here hx rfl (hb hby at_138) k) ?_
        refine own_stW (B := T188.setTop (mkF m 141 #[.val (.int arg0), .val (.int arg1), .val (.int arg2), .val (.int v1), .val (.int v2), .val (.int v3), .val (.ref b4), .val (.ref b7), .unset, .unset, .unset] [(.ref b4), (.int (1 : Int32)), (.ref b166), (.ref b166), (.ref b151), (.ref b151)])) (fun t k => XS.aload X188.here hx rfl (hb hby at_139) rfl rfl k) ?_
        refine own_stW (B := T188.setTop (mkF m 142 #[.val (.int arg0), .val (.int arg1), .val (.int arg2), .val (.int v1), .val (.int v2), .val (.int v3), .val (.ref b4), .val (.ref b7), .unset, .unset, .unset] [(.int (1 : Int32)), (.ref b4), (.int (1 : Int32)), (.ref b166), (.ref b166), (.ref b151), (.ref b151)])) (fun t k => XS.iconst X188.here hx rfl (hb hby at_141) k) ?_
        refine own_stW (B := T188.setTop (mkF m 144 #[.val (.int arg0), .val (.int arg1), .val (.int arg2), .val (.int v1), .val (.int v2), .val (.int v3), .val (.ref b4), .val (.ref b7), .unset, .unset, .unset] [(.int v2), (.int (1 : Int32)), (.ref b4), (.int (1 : Int32)), (.ref b166), (.ref b166), (.ref b151), (.ref b151)])) (fun t k => XS.iload X188.here hx rfl (hb hby at_142) rfl k) ?_
        refine own_stW (B := T188.setTop (mkF m 146 #[.val (.int arg0), .val (.int arg1), .val (.int arg2), .val (.int v1), .val (.int v2), .val (.int v3), .val (.ref b4), .val (.ref b7), .unset, .unset, .unset] [(.int v3), (.int v2), (.int (1 : Int32)), (.ref b4), (.int (1 : Int32)), (.ref b166), (.ref b166), (.ref b151), (.ref b151)])) (fun t k => XS.iload X188.here hx rfl (hb hby at_144) rfl k) ?_
        have f193 : Exa Z h188 b4 "java/lang/String" := (f181.wr W188)
        have f194 : Fld Z h188 b4 "java/lang/String" "coder" "B" (.int (0 : Int32)) := (f182.other W188 (Or.inl q166_b4))
        have f195 : Fld Z h188 b4 "java/lang/String" "value" "[B" (.ref bb4) := (f183.other W188 (Or.inl q166_b4))
        have f196 : own_A Z h188 bb4 .byte (own_d.map Value.int) := (f184.other W188 q166_bb4)
        have f197 : Sta Z h188 "java/lang/String" "COMPACT_STRINGS" "Z" (.int cs) := (f185.wr W188)
        have f198 : Sta Z h188 "jdk/internal/util/Preconditions" "SIOOBE_FORMATTER" "Ljava/util/function/BiFunction;" u1 := (f186.wr W188)
        obtain ⟨_, _, ⟨T199, L199, k199, j199⟩, -, X199, ⟨Lc199, hQ199, l199, y199_, z199_⟩, st199⟩ := Jvm.LawKit.callS X188 hx (y := (⟨"com/example/goodput/goodput/DeliveryModeNamedPinLaw", "at", "(Ljava/lang/String;IIC)C"⟩ : MethodName)) hown (mvT hZ (w_11 hw)) (mvT hZ (w_12 hw)) (mvT hZ (w_13 hw)) (mvT hZ (w_14 hw)) (by decide) (backOf (W := 5) (rm1 l Z a0 hw [] b4 (1 : Int32) v2 v3 bb4 own_d cs u1 h188 n0 z191 f193 f194 f195 f196 f197 f198 (show 0 ≤ (1 : Int32).toInt by decide) hcc (show own_d.length < 1000 by decide) hcs hu) hZ (w_14 hw) (w_13 hw) (by decide) (by decide)) (g := (mkF m 146 #[.val (.int arg0), .val (.int arg1), .val (.int arg2), .val (.int v1), .val (.int v2), .val (.int v3), .val (.ref b4), .val (.ref b7), .unset, .unset, .unset] [(.int v3), (.int v2), (.int (1 : Int32)), (.ref b4), (.int (1 : Int32)), (.ref b166), (.ref b166), (.ref b151), (.ref b151)])) rfl (by rw [hml]; rfl) (argsL := [(.ref b4), (.int (1 : Int32)), (.int v2), (.int v3)]) (rest := [(.int (1 : Int32)), (.ref b166), (.ref b166), (.ref b151), (.ref b151)]) (lenOf own_pd20 rfl) rfl (by show 2 * 0 + _ ≤ _; exact Nat.le_of_eq rfl) (hb hby at_146) (fun _ _ => ⟨rfl, e188, (by decide : 6 + 0 ≤ _), (by decide : 82 + 0 ≤ _)⟩)
        dsimp only [Pt.U, Pt.locs, Pt.cells, Pt.slots] at X199 l199 y199_ z199_ st199 hQ199
        subst l199 y199_ z199_
        obtain ⟨zc_199, rfl, N199q, e199q, r199_0⟩ := hQ199
        have N199 := Fr.app n192 N199q
        refine own_stW (B := T199.setTop (mkF m 149 #[.val (.int arg0), .val (.int arg1), .val (.int arg2), .val (.int v1), .val (.int v2), .val (.int v3), .val (.ref b4), .val (.ref b7), .unset, .unset, .unset] [(.int zc_199), (.int (1 : Int32)), (.ref b166), (.ref b166), (.ref b151), (.ref b151)])) (fun t k => st199 t k) ?_
        obtain ⟨T200, h200, X200, e200, W200, A200, st200⟩ := own_stC X199 hx hZ e199q f188_ (j := (1 : Int32)) (x := zc_199) (i := 1) (by decide) (show 1 < 6 from by decide) (g := (mkF m 149 #[.val (.int arg0), .val (.int arg1), .val (.int arg2), .val (.int v1), .val (.int v2), .val (.int v3), .val (.ref b4), .val (.ref b7), .unset, .unset, .unset] [(.int zc_199), (.int (1 : Int32)), (.ref b166), (.ref b166), (.ref b151), (.ref b151)])) rfl rfl (hb hby at_149)
        have f200_ : own_A Z h200 b166 .char [(.int (zc_187.toUInt32.toUInt16.toUInt32.toInt32)), (.int (zc_199.toUInt32.toUInt16.toUInt32.toInt32)), (.int (0 : Int32)), (.int (0 : Int32)), (.int (0 : Int32)), (.int (0 : Int32))] := A200
        have f202 : Exa Z h188 b166 "[C" := (x166.wr W188)
        have ch201 := ch189.trans (CHr.wr W200 (Safe.exa hZ.alike f202 (by decide) (by decide)) ch189.1)
        have sf203 := Safe.wr W200 (Safe.exa hZ.alike f202 (by decide) (by decide)) ch189.1 sf190
        have hk201 := Nat.le_trans hk189 (Keep.of_wr W200).1
        have z204 : n0 ≤ h200.size := Nat.le_trans z191 (Keep.of_wr W200).1
        have n205 := Fr.snoc X200 N199 u166
        refine own_stW (B := T200.setTop (mkF m 150 #[.val (.int arg0), .val (.int arg1), .val (.int arg2), .val (.int v1), .val (.int v2), .val (.int v3), .val (.ref b4), .val (.ref b7), .unset, .unset, .unset] [(.ref b166), (.ref b151), (.ref b151)])) (fun t k => st200 t k) ?_
        refine own_stW (B := T200.setTop (mkF m 151 #[.val (.int arg0), .val (.int arg1), .val (.int arg2), .val (.int v1), .val (.int v2), .val (.int v3), .val (.ref b4), .val (.ref b7), .unset, .unset, .unset] [(.ref b166), (.ref b166), (.ref b151), (.ref b151)])) (fun t k => XS.dup X200.here hx rfl (hb hby at_150) rfl rfl k) ?_
        refine own_stW (B := T200.setTop (mkF m 152 #[.val (.int arg0), .val (.int arg1), .val (.int arg2), .val (.int v1), .val (.int v2), .val (.int v3), .val (.ref b4), .val (.ref b7), .unset, .unset, .unset] [(.int (2 : Int32)), (.ref b166), (.ref b166), (.ref b151), (.ref b151)])) (fun t k => XS.iconst X200.here hx rfl (hb hby at_151) k) ?_
        refine own_stW (B := T200.setTop (mkF m 154 #[.val (.int arg0), .val (.int arg1), .val (.int arg2), .val (.int v1), .val (.int v2), .val (.int v3), .val (.ref b4), .val (.ref b7), .unset, .unset, .unset] [(.ref b4), (.int (2 : Int32)), (.ref b166), (.ref b166), (.ref b151), (.ref b151)])) (fun t k => XS.aload X200.here hx rfl (hb hby at_152) rfl rfl k) ?_
        refine own_stW (B := T200.setTop (mkF m 155 #[.val (.int arg0), .val (.int arg1), .val (.int arg2), .val (.int v1), .val (.int v2), .val (.int v3), .val (.ref b4), .val (.ref b7), .unset, .unset, .unset] [(.int (2 : Int32)), (.ref b4), (.int (2 : Int32)), (.ref b166), (.ref b166), (.ref b151), (.ref b151)])) (fun t k => XS.iconst X200.here hx rfl (hb hby at_154) k) ?_
        refine own_stW (B := T200.setTop (mkF m 157 #[.val (.int arg0), .val (.int arg1), .val (.int arg2), .val (.int v1), .val (.int v2), .val (.int v3), .val (.ref b4), .val (.ref b7), .unset, .unset, .unset] [(.int v2), (.int (2 : Int32)), (.ref b4), (.int (2 : Int32)), (.ref b166), (.ref b166), (.ref b151), (.ref b151)])) (fun t k => XS.iload X200.here hx rfl (hb hby at_155) rfl k) ?_
        refine own_stW (B := T200.setTop (mkF m 159 #[.val (.int arg0), .val (.int arg1), .val (.int arg2), .val (.int v1), .val (.int v2), .val (.int v3), .val (.ref b4), .val (.ref b7), .unset, .unset, .unset] [(.int v3), (.int v2), (.int (2 : Int32)), (.ref b4), (.int (2 : Int32)), (.ref b166), (.ref b166), (.ref b151), (.ref b151)])) (fun t k => XS.iload X200.here hx rfl (hb hby at_157) rfl k) ?_
        have f206 : Exa Z h200 b4 "java/lang/String" := (f193.wr W200)
        have f207 : Fld Z h200 b4 "java/lang/String" "coder" "B" (.int (0 : Int32)) := (f194.other W200 (Or.inl q166_b4))
        have f208 : Fld Z h200 b4 "java/lang/String" "value" "[B" (.ref bb4) := (f195.other W200 (Or.inl q166_b4))
        have f209 : own_A Z h200 bb4 .byte (own_d.map Value.int) := (f196.other W200 q166_bb4)
        have f210 : Sta Z h200 "java/lang/String" "COMPACT_STRINGS" "Z" (.int cs) := (f197.wr W200)
        have f211 : Sta Z h200 "jdk/internal/util/Preconditions" "SIOOBE_FORMATTER" "Ljava/util/function/BiFunction;" u1 := (f198.wr W200)
        obtain ⟨_, _, ⟨T212, L212, k212, j212⟩, -, X212, ⟨Lc212, hQ212, l212, y212_, z212_⟩, st212⟩ := Jvm.LawKit.callS X200 hx (y := (⟨"com/example/goodput/goodput/DeliveryModeNamedPinLaw", "at", "(Ljava/lang/String;IIC)C"⟩ : MethodName)) hown (mvT hZ (w_11 hw)) (mvT hZ (w_12 hw)) (mvT hZ (w_13 hw)) (mvT hZ (w_14 hw)) (by decide) (backOf (W := 5) (rm1 l Z a0 hw [] b4 (2 : Int32) v2 v3 bb4 own_d cs u1 h200 n0 z204 f206 f207 f208 f209 f210 f211 (show 0 ≤ (2 : Int32).toInt by decide) hcc (show own_d.length < 1000 by decide) hcs hu) hZ (w_14 hw) (w_13 hw) (by decide) (by decide)) (g := (mkF m 159 #[.val (.int arg0), .val (.int arg1), .val (.int arg2), .val (.int v1), .val (.int v2), .val (.int v3), .val (.ref b4), .val (.ref b7), .unset, .unset, .unset] [(.int v3), (.int v2), (.int (2 : Int32)), (.ref b4), (.int (2 : Int32)), (.ref b166), (.ref b166), (.ref b151), (.ref b151)])) rfl (by rw [hml]; rfl) (argsL := [(.ref b4), (.int (2 : Int32)), (.int v2), (.int v3)]) (rest := [(.int (2 : Int32)), (.ref b166), (.ref b166), (.ref b151), (.ref b151)]) (lenOf own_pd20 rfl) rfl (by show 2 * 0 + _ ≤ _; exact Nat.le_of_eq rfl) (hb hby at_159) (fun _ _ => ⟨rfl, e200, (by decide : 6 + 0 ≤ _), (by decide : 82 + 0 ≤ _)⟩)
        dsimp only [Pt.U, Pt.locs, Pt.cells, Pt.slots] at X212 l212 y212_ z212_ st212 hQ212
        subst l212 y212_ z212_
        obtain ⟨zc_212, rfl, N212q, e212q, r212_0⟩ := hQ212
        have N212 := Fr.app n205 N212q
        refine own_stW (B := T212.setTop (mkF m 162 #[.val (.int arg0), .val (.int arg1), .val (.int arg2), .val (.int v1), .val (.int v2), .val (.int v3), .val (.ref b4), .val (.ref b7), .unset, .unset, .unset] [(.int zc_212), (.int (2 : Int32)), (.ref b166), (.ref b166), (.ref b151), (.ref b151)])) (fun t k => st212 t k) ?_
        obtain ⟨T213, h213, X213, e213, W213, A213, st213⟩ := own_stC X212 hx hZ e212q f200_ (j := (2 : Int32)) (x := zc_212) (i := 2) (by decide) (show 2 < 6 from by decide) (g := (mkF m 162 #[.val (.int arg0), .val (.int arg1), .val (.int arg2), .val (.int v1), .val (.int v2), .val (.int v3), .val (.ref b4), .val (.ref b7), .unset, .unset, .unset] [(.int zc_212), (.int (2 : Int32)), (.ref b166), (.ref b166), (.ref b151), (.ref b151)])) rfl rfl (hb hby at_162)
        have f213_ : own_A Z h213 b166 .char [(.int (zc_187.toUInt32.toUInt16.toUInt32.toInt32)), (.int (zc_199.toUInt32.toUInt16.toUInt32.toInt32)), (.int (zc_212.toUInt32.toUInt16.toUInt32.toInt32)), (.int (0 : Int32)), (.int (0 : Int32)), (.int (0 : Int32))] := A213
        have f215 : Exa Z h200 b166 "[C" := (f202.wr W200)
        have ch214 := ch201.trans (CHr.wr W213 (Safe.exa hZ.alike f215 (by decide) (by decide)) ch201.1)
        have sf216 := Safe.wr W213 (Safe.exa hZ.alike f215 (by decide) (by decide)) ch201.1 sf203
        have hk214 := Nat.le_trans hk201 (Keep.of_wr W213).1
        have z217 : n0 ≤ h213.size := Nat.le_trans z204 (Keep.of_wr W213).1
        have n218 := Fr.snoc X213 N212 u166
        refine own_stW (B := T213.setTop (mkF m 163 #[.val (.int arg0), .val (.int arg1), .val (.int arg2), .val (.int v1), .val (.int v2), .val (.int v3), .val (.ref b4), .val (.ref b7), .unset, .unset, .unset] [(.ref b166), (.ref b151), (.ref b151)])) (fun t k => st213 t k) ?_
        refine own_stW (B := T213.setTop (mkF m 164 #[.val (.int arg0), .val (.int arg1), .val (.int arg2), .val (.int v1), .val (.int v2), .val (.int v3), .val (.ref b4), .val (.ref b7), .unset, .unset, .unset] [(.ref b166), (.ref b166), (.ref b151), (.ref b151)])) (fun t k => XS.dup X213.here hx rfl (hb hby at_163) rfl rfl k) ?_
        refine own_stW (B := T213.setTop (mkF m 165 #[.val (.int arg0), .val (.int arg1), .val (.int arg2), .val (.int v1), .val (.int v2), .val (.int v3), .val (.ref b4), .val (.ref b7), .unset, .unset, .unset] [(.int (3 : Int32)), (.ref b166), (.ref b166), (.ref b151), (.ref b151)])) (fun t k => XS.iconst X213.here hx rfl (hb hby at_164) k) ?_
        refine own_stW (B := T213.setTop (mkF m 167 #[.val (.int arg0), .val (.int arg1), .val (.int arg2), .val (.int v1), .val (.int v2), .val (.int v3), .val (.ref b4), .val (.ref b7), .unset, .unset, .unset] [(.ref b4), (.int (3 : Int32)), (.ref b166), (.ref b166), (.ref b151), (.ref b151)])) (fun t k => XS.aload X213.here hx rfl (hb hby at_165) rfl rfl k) ?_
        refine own_stW (B := T213.setTop (mkF m 168 #[.val (.int arg0), .val (.int arg1), .val (.int arg2), .val (.int v1), .val (.int v2), .val (.int v3), .val (.ref b4), .val (.ref b7), .unset, .unset, .unset] [(.int (3 : Int32)), (.ref b4), (.int (3 : Int32)), (.ref b166), (.ref b166), (.ref b151), (.ref b151)])) (fun t k => XS.iconst X213.here hx rfl (hb hby at_167) k) ?_
        refine own_stW (B := T213.setTop (mkF m 170 #[.val (.int arg0), .val (.int arg1), .val (.int arg2), .val (.int v1), .val (.int v2), .val (.int v3), .val (.ref b4), .val (.ref b7), .unset, .unset, .unset] [(.int v2), (.int (3 : Int32)), (.ref b4), (.int (3 : Int32)), (.ref b166), (.ref b166), (.ref b151), (.ref b151)])) (fun t k => XS.iload X213.here hx rfl (hb hby at_168) rfl k) ?_
        refine own_stW (B := T213.setTop (mkF m 172 #[.val (.int arg0), .val (.int arg1), .val (.int arg2), .val (.int v1), .val (.int v2), .val (.int v3), .val (.ref b4), .val (.ref b7), .unset, .unset, .unset] [(.int v3), (.int v2), (.int (3 : Int32)), (.ref b4), (.int (3 : Int32)), (.ref b166), (.ref b166), (.ref b151), (.ref b151)])) (fun t k => XS.iload X213.here hx rfl (hb hby at_170) rfl k) ?_
        have f219 : Exa Z h213 b4 "java/lang/String" := (f206.wr W213)
        have f220 : Fld Z h213 b4 "java/lang/String" "coder" "B" (.int (0 : Int32)) := (f207.other W213 (Or.inl q166_b4))
        have f221 : Fld Z h213 b4 "java/lang/String" "value" "[B" (.ref bb4) := (f208.other W213 (Or.inl q166_b4))
        have f222 : own_A Z h213 bb4 .byte (own_d.map Value.int) := (f209.other W213 q166_bb4)
        have f223 : Sta Z h213 "java/lang/String" "COMPACT_STRINGS" "Z" (.int cs) := (f210.wr W213)
        have f224 : Sta Z h213 "jdk/internal/util/Preconditions" "SIOOBE_FORMATTER" "Ljava/util/function/BiFunction;" u1 := (f211.wr W213)
        obtain ⟨_, _, ⟨T225, L225, k225, j225⟩, -, X225, ⟨Lc225, hQ225, l225, y225_, z225_⟩, st225⟩ := Jvm.LawKit.callS X213 hx (y := (⟨"com/example/goodput/goodput/DeliveryModeNamedPinLaw", "at", "(Ljava/lang/String;IIC)C"⟩ : MethodName)) hown (mvT hZ (w_11 hw)) (mvT hZ (w_12 hw)) (mvT hZ (w_13 hw)) (mvT hZ (w_14 hw)) (by decide) (backOf (W := 5) (rm1 l Z a0 hw [] b4 (3 : Int32) v2 v3 bb4 own_d cs u1 h213 n0 z217 f219 f220 f221 f222 f223 f224 (show 0 ≤ (3 : Int32).toInt by decide) hcc (show own_d.length < 1000 by decide) hcs hu) hZ (w_14 hw) (w_13 hw) (by decide) (by decide)) (g := (mkF m 172 #[.val (.int arg0), .val (.int arg1), .val (.int arg2), .val (.int v1), .val (.int v2), .val (.int v3), .val (.ref b4), .val (.ref b7), .unset, .unset, .unset] [(.int v3), (.int v2), (.int (3 : Int32)), (.ref b4), (.int (3 : Int32)), (.ref b166), (.ref b166), (.ref b151), (.ref b151)])) rfl (by rw [hml]; rfl) (argsL := [(.ref b4), (.int (3 : Int32)), (.int v2), (.int v3)]) (rest := [(.int (3 : Int32)), (.ref b166), (.ref b166), (.ref b151), (.ref b151)]) (lenOf own_pd20 rfl) rfl (by show 2 * 0 + _ ≤ _; exact Nat.le_of_eq rfl) (hb hby at_172) (fun _ _ => ⟨rfl, e213, (by decide : 6 + 0 ≤ _), (by decide : 82 + 0 ≤ _)⟩)
        dsimp only [Pt.U, Pt.locs, Pt.cells, Pt.slots] at X225 l225 y225_ z225_ st225 hQ225
        subst l225 y225_ z225_
        obtain ⟨zc_225, rfl, N225q, e225q, r225_0⟩ := hQ225
        have N225 := Fr.app n218 N225q
        refine own_stW (B := T225.setTop (mkF m 175 #[.val (.int arg0), .val (.int arg1), .val (.int arg2), .val (.int v1), .val (.int v2), .val (.int v3), .val (.ref b4), .val (.ref b7), .unset, .unset, .unset] [(.int zc_225), (.int (3 : Int32)), (.ref b166), (.ref b166), (.ref b151), (.ref b151)])) (fun t k => st225 t k) ?_
        obtain ⟨T226, h226, X226, e226, W226, A226, st226⟩ := own_stC X225 hx hZ e225q f213_ (j := (3 : Int32)) (x := zc_225) (i := 3) (by decide) (show 3 < 6 from by decide) (g := (mkF m 175 #[.val (.int arg0), .val (.int arg1), .val (.int arg2), .val (.int v1), .val (.int v2), .val (.int v3), .val (.ref b4), .val (.ref b7), .unset, .unset, .unset] [(.int zc_225), (.int (3 : Int32)), (.ref b166), (.ref b166), (.ref b151), (.ref b151)])) rfl rfl (hb hby at_175)
        have f226_ : own_A Z h226 b166 .char [(.int (zc_187.toUInt32.toUInt16.toUInt32.toInt32)), (.int (zc_199.toUInt32.toUInt16.toUInt32.toInt32)), (.int (zc_212.toUInt32.toUInt16.toUInt32.toInt32)), (.int (zc_225.toUInt32.toUInt16.toUInt32.toInt32)), (.int (0 : Int32)), (.int (0 : Int32))] := A226
        have f228 : Exa Z h213 b166 "[C" := (f215.wr W213)
        have ch227 := ch214.trans (CHr.wr W226 (Safe.exa hZ.alike f228 (by decide) (by decide)) ch214.1)
        have sf229 := Safe.wr W226 (Safe.exa hZ.alike f228 (by decide) (by decide)) ch214.1 sf216
        have hk227 := Nat.le_trans hk214 (Keep.of_wr W226).1
        have z230 : n0 ≤ h226.size := Nat.le_trans z217 (Keep.of_wr W226).1
        have n231 := Fr.snoc X226 N225 u166
        refine own_stW (B := T226.setTop (mkF m 176 #[.val (.int arg0), .val (.int arg1), .val (.int arg2), .val (.int v1), .val (.int v2), .val (.int v3), .val (.ref b4), .val (.ref b7), .unset, .unset, .unset] [(.ref b166), (.ref b151), (.ref b151)])) (fun t k => st226 t k) ?_
        refine own_stW (B := T226.setTop (mkF m 177 #[.val (.int arg0), .val (.int arg1), .val (.int arg2), .val (.int v1), .val (.int v2), .val (.int v3), .val (.ref b4), .val (.ref b7), .unset, .unset, .unset] [(.ref b166), (.ref b166), (.ref b151), (.ref b151)])) (fun t k => XS.dup X226.here hx rfl (hb hby at_176) rfl rfl k) ?_
        refine own_stW (B := T226.setTop (mkF m 178 #[.val (.int arg0), .val (.int arg1), .val (.int arg2), .val (.int v1), .val (.int v2), .val (.int v3), .val (.ref b4), .val (.ref b7), .unset, .unset, .unset] [(.int (4 : Int32)), (.ref b166), (.ref b166), (.ref b151), (.ref b151)])) (fun t k => XS.iconst X226.here hx rfl (hb hby at_177) k) ?_
        refine own_stW (B := T226.setTop (mkF m 180 #[.val (.int arg0), .val (.int arg1), .val (.int arg2), .val (.int v1), .val (.int v2), .val (.int v3), .val (.ref b4), .val (.ref b7), .unset, .unset, .unset] [(.ref b4), (.int (4 : Int32)), (.ref b166), (.ref b166), (.ref b151), (.ref b151)])) (fun t k => XS.aload X226.here hx rfl (hb hby at_178) rfl rfl k) ?_
        refine own_stW (B := T226.setTop (mkF m 181 #[.val (.int arg0), .val (.int arg1), .val (.int arg2), .val (.int v1), .val (.int v2), .val (.int v3), .val (.ref b4), .val (.ref b7), .unset, .unset, .unset] [(.int (4 : Int32)), (.ref b4), (.int (4 : Int32)), (.ref b166), (.ref b166), (.ref b151), (.ref b151)])) (fun t k => XS.iconst X226.here hx rfl (hb hby at_180) k) ?_
        refine own_stW (B := T226.setTop (mkF m 183 #[.val (.int arg0), .val (.int arg1), .val (.int arg2), .val (.int v1), .val (.int v2), .val (.int v3), .val (.ref b4), .val (.ref b7), .unset, .unset, .unset] [(.int v2), (.int (4 : Int32)), (.ref b4), (.int (4 : Int32)), (.ref b166), (.ref b166), (.ref b151), (.ref b151)])) (fun t k => XS.iload X226.here hx rfl (hb hby at_181) rfl k) ?_
        refine own_stW (B := T226.setTop (mkF m 185 #[.val (.int arg0), .val (.int arg1), .val (.int arg2), .val (.int v1), .val (.int v2), .val (.int v3), .val (.ref b4), .val (.ref b7), .unset, .unset, .unset] [(.int v3), (.int v2), (.int (4 : Int32)), (.ref b4), (.int (4 : Int32)), (.ref b166), (.ref b166), (.ref b151), (.ref b151)])) (fun t k => XS.iload X226.here hx rfl (hb hby at_183) rfl k) ?_
        have f232 : Exa Z h226 b4 "java/lang/String" := (f219.wr W226)
        have f233 : Fld Z h226 b4 "java/lang/String" "coder" "B" (.int (0 : Int32)) := (f220.other W226 (Or.inl q166_b4))
        have f234 : Fld Z h226 b4 "java/lang/String" "value" "[B" (.ref bb4) := (f221.other W226 (Or.inl q166_b4))
        have f235 : own_A Z h226 bb4 .byte (own_d.map Value.int) := (f222.other W226 q166_bb4)
        have f236 : Sta Z h226 "java/lang/String" "COMPACT_STRINGS" "Z" (.int cs) := (f223.wr W226)
        have f237 : Sta Z h226 "jdk/internal/util/Preconditions" "SIOOBE_FORMATTER" "Ljava/util/function/BiFunction;" u1 := (f224.wr W226)
        obtain ⟨_, _, ⟨T238, L238, k238, j238⟩, -, X238, ⟨Lc238, hQ238, l238, y238_, z238_⟩, st238⟩ := Jvm.LawKit.callS X226 hx (y := (⟨"com/example/goodput/goodput/DeliveryModeNamedPinLaw", "at", "(Ljava/lang/String;IIC)C"⟩ : MethodName)) hown (mvT hZ (w_11 hw)) (mvT hZ (w_12 hw)) (mvT hZ (w_13 hw)) (mvT hZ (w_14 hw)) (by decide) (backOf (W := 5) (rm1 l Z a0 hw [] b4 (4 : Int32) v2 v3 bb4 own_d cs u1 h226 n0 z230 f232 f233 f234 f235 f236 f237 (show 0 ≤ (4 : Int32).toInt by decide) hcc (show own_d.length < 1000 by decide) hcs hu) hZ (w_14 hw) (w_13 hw) (by decide) (by decide)) (g := (mkF m 185 #[.val (.int arg0), .val (.int arg1), .val (.int arg2), .val (.int v1), .val (.int v2), .val (.int v3), .val (.ref b4), .val (.ref b7), .unset, .unset, .unset] [(.int v3), (.int v2), (.int (4 : Int32)), (.ref b4), (.int (4 : Int32)), (.ref b166), (.ref b166), (.ref b151), (.ref b151)])) rfl (by rw [hml]; rfl) (argsL := [(.ref b4), (.int (4 : Int32)), (.int v2), (.int v3)]) (rest := [(.int (4 : Int32)), (.ref b166), (.ref b166), (.ref b151), (.ref b151)]) (lenOf own_pd20 rfl) rfl (by show 2 * 0 + _ ≤ _; exact Nat.le_of_eq rfl) (hb hby at_185) (fun _ _ => ⟨rfl, e226, (by decide : 6 + 0 ≤ _), (by decide : 82 + 0 ≤ _)⟩)
        dsimp only [Pt.U, Pt.locs, Pt.cells, Pt.slots] at X238 l238 y238_ z238_ st238 hQ238
        subst l238 y238_ z238_
        obtain ⟨zc_238, rfl, N238q, e238q, r238_0⟩ := hQ238
        have N238 := Fr.app n231 N238q
        refine own_stW (B := T238.setTop (mkF m 188 #[.val (.int arg0), .val (.int arg1), .val (.int arg2), .val (.int v1), .val (.int v2), .val (.int v3), .val (.ref b4), .val (.ref b7), .unset, .unset, .unset] [(.int zc_238), (.int (4 : Int32)), (.ref b166), (.ref b166), (.ref b151), (.ref b151)])) (fun t k => st238 t k) ?_
        obtain ⟨T239, h239, X239, e239, W239, A239, st239⟩ := own_stC X238 hx hZ e238q f226_ (j := (4 : Int32)) (x := zc_238) (i := 4) (by decide) (show 4 < 6 from by decide) (g := (mkF m 188 #[.val (.int arg0), .val (.int arg1), .val (.int arg2), .val (.int v1), .val (.int v2), .val (.int v3), .val (.ref b4), .val (.ref b7), .unset, .unset, .unset] [(.int zc_238), (.int (4 : Int32)), (.ref b166), (.ref b166), (.ref b151), (.ref b151)])) rfl rfl (hb hby at_188)
        have f239_ : own_A Z h239 b166 .char [(.int (zc_187.toUInt32.toUInt16.toUInt32.toInt32)), (.int (zc_199.toUInt32.toUInt16.toUInt32.toInt32)), (.int (zc_212.toUInt32.toUInt16.toUInt32.toInt32)), (.int (zc_225.toUInt32.toUInt16.toUInt32.toInt32)), (.int (zc_238.toUInt32.toUInt16.toUInt32.toInt32)), (.int (0 : Int32))] := A239
        have f241 : Exa Z h226 b166 "[C" := (f228.wr W226)
        have ch240 := ch227.trans (CHr.wr W239 (Safe.exa hZ.alike f241 (by decide) (by decide)) ch227.1)
        have sf242 := Safe.wr W239 (Safe.exa hZ.alike f241 (by decide) (by decide)) ch227.1 sf229
        have hk240 := Nat.le_trans hk227 (Keep.of_wr W239).1
        have z243 : n0 ≤ h239.size := Nat.le_trans z230 (Keep.of_wr W239).1
        have n244 := Fr.snoc X239 N238 u166
        refine own_stW (B := T239.setTop (mkF m 189 #[.val (.int arg0), .val (.int arg1), .val (.int arg2), .val (.int v1), .val (.int v2), .val (.int v3), .val (.ref b4), .val (.ref b7), .unset, .unset, .unset] [(.ref b166), (.ref b151), (.ref b151)])) (fun t k => st239 t k) ?_
        refine own_stW (B := T239.setTop (mkF m 190 #[.val (.int arg0), .val (.int arg1), .val (.int arg2), .val (.int v1), .val (.int v2), .val (.int v3), .val (.ref b4), .val (.ref b7), .unset, .unset, .unset] [(.ref b166), (.ref b166), (.ref b151), (.ref b151)])) (fun t k => XS.dup X239.here hx rfl (hb hby at_189) rfl rfl k) ?_
        refine own_stW (B := T239.setTop (mkF m 191 #[.val (.int arg0), .val (.int arg1), .val (.int arg2), .val (.int v1), .val (.int v2), .val (.int v3), .val (.ref b4), .val (.ref b7), .unset, .unset, .unset] [(.int (5 : Int32)), (.ref b166), (.ref b166), (.ref b151), (.ref b151)])) (fun t k => XS.iconst X239.here hx rfl (hb hby at_190) k) ?_
        refine own_stW (B := T239.setTop (mkF m 193 #[.val (.int arg0), .val (.int arg1), .val (.int arg2), .val (.int v1), .val (.int v2), .val (.int v3), .val (.ref b4), .val (.ref b7), .unset, .unset, .unset] [(.ref b4), (.int (5 : Int32)), (.ref b166), (.ref b166), (.ref b151), (.ref b151)])) (fun t k => XS.aload X239.here hx rfl (hb hby at_191) rfl rfl k) ?_
        refine own_stW (B := T239.setTop (mkF m 194 #[.val (.int arg0), .val (.int arg1), .val (.int arg2), .val (.int v1), .val (.int v2), .val (.int v3), .val (.ref b4), .val (.ref b7), .unset, .unset, .unset] [(.int (5 : Int32)), (.ref b4), (.int (5 : Int32)), (.ref b166), (.ref b166), (.ref b151), (.ref b151)])) (fun t k => XS.iconst X239.here hx rfl (hb hby at_193) k) ?_
        refine own_stW (B := T239.setTop (mkF m 196 #[.val (.int arg0), .val (.int arg1), .val (.int arg2), .val (.int v1), .val (.int v2), .val (.int v3), .val (.ref b4), .val (.ref b7), .unset, .unset, .unset] [(.int v2), (.int (5 : Int32)), (.ref b4), (.int (5 : Int32)), (.ref b166), (.ref b166), (.ref b151), (.ref b151)])) (fun t k => XS.iload X239.here hx rfl (hb hby at_194) rfl k) ?_
        refine own_stW (B := T239.setTop (mkF m 198 #[.val (.int arg0), .val (.int arg1), .val (.int arg2), .val (.int v1), .val (.int v2), .val (.int v3), .val (.ref b4), .val (.ref b7), .unset, .unset, .unset] [(.int v3), (.int v2), (.int (5 : Int32)), (.ref b4), (.int (5 : Int32)), (.ref b166), (.ref b166), (.ref b151), (.ref b151)])) (fun t k => XS.iload X239.here hx rfl (hb hby at_196) rfl k) ?_
        have f245 : Exa Z h239 b4 "java/lang/String" := (f232.wr W239)
        have f246 : Fld Z h239 b4 "java/lang/String" "coder" "B" (.int (0 : Int32)) := (f233.other W239 (Or.inl q166_b4))
        have f247 : Fld Z h239 b4 "java/lang/String" "value" "[B" (.ref bb4) := (f234.other W239 (Or.inl q166_b4))
        have f248 : own_A Z h239 bb4 .byte (own_d.map Value.int) := (f235.other W239 q166_bb4)
        have f249 : Sta Z h239 "java/lang/String" "COMPACT_STRINGS" "Z" (.int cs) := (f236.wr W239)
        have f250 : Sta Z h239 "jdk/internal/util/Preconditions" "SIOOBE_FORMATTER" "Ljava/util/function/BiFunction;" u1 := (f237.wr W239)
        obtain ⟨_, _, ⟨T251, L251, k251, j251⟩, -, X251, ⟨Lc251, hQ251, l251, y251_, z251_⟩, st251⟩ := Jvm.LawKit.callS X239 hx (y := (⟨"com/example/goodput/goodput/DeliveryModeNamedPinLaw", "at", "(Ljava/lang/String;IIC)C"⟩ : MethodName)) hown (mvT hZ (w_11 hw)) (mvT hZ (w_12 hw)) (mvT hZ (w_13 hw)) (mvT hZ (w_14 hw)) (by decide) (backOf (W := 5) (rm1 l Z a0 hw [] b4 (5 : Int32) v2 v3 bb4 own_d cs u1 h239 n0 z243 f245 f246 f247 f248 f249 f250 (show 0 ≤ (5 : Int32).toInt by decide) hcc (show own_d.length < 1000 by decide) hcs hu) hZ (w_14 hw) (w_13 hw) (by decide) (by decide)) (g := (mkF m 198 #[.val (.int arg0), .val (.int arg1), .val (.int arg2), .val (.int v1), .val (.int v2), .val (.int v3), .val (.ref b4), .val (.ref b7), .unset, .unset, .unset] [(.int v3), (.int v2), (.int (5 : Int32)), (.ref b4), (.int (5 : Int32)), (.ref b166), (.ref b166), (.ref b151), (.ref b151)])) rfl (by rw [hml]; rfl) (argsL := [(.ref b4), (.int (5 : Int32)), (.int v2), (.int v3)]) (rest := [(.int (5 : Int32)), (.ref b166), (.ref b166), (.ref b151), (.ref b151)]) (lenOf own_pd20 rfl) rfl (by show 2 * 0 + _ ≤ _; exact Nat.le_of_eq rfl) (hb hby at_198) (fun _ _ => ⟨rfl, e239, (by decide : 6 + 0 ≤ _), (by decide : 82 + 0 ≤ _)⟩)
        dsimp only [Pt.U, Pt.locs, Pt.cells, Pt.slots] at X251 l251 y251_ z251_ st251 hQ251
        subst l251 y251_ z251_
        obtain ⟨zc_251, rfl, N251q, e251q, r251_0⟩ := hQ251
        have N251 := Fr.app n244 N251q
        refine own_stW (B := T251.setTop (mkF m 201 #[.val (.int arg0), .val (.int arg1), .val (.int arg2), .val (.int v1), .val (.int v2), .val (.int v3), .val (.ref b4), .val (.ref b7), .unset, .unset, .unset] [(.int zc_251), (.int (5 : Int32)), (.ref b166), (.ref b166), (.ref b151), (.ref b151)])) (fun t k => st251 t k) ?_
        obtain ⟨T252, h252, X252, e252, W252, A252, st252⟩ := own_stC X251 hx hZ e251q f239_ (j := (5 : Int32)) (x := zc_251) (i := 5) (by decide) (show 5 < 6 from by decide) (g := (mkF m 201 #[.val (.int arg0), .val (.int arg1), .val (.int arg2), .val (.int v1), .val (.int v2), .val (.int v3), .val (.ref b4), .val (.ref b7), .unset, .unset, .unset] [(.int zc_251), (.int (5 : Int32)), (.ref b166), (.ref b166), (.ref b151), (.ref b151)])) rfl rfl (hb hby at_201)
        have f252_ : own_A Z h252 b166 .char [(.int (zc_187.toUInt32.toUInt16.toUInt32.toInt32)), (.int (zc_199.toUInt32.toUInt16.toUInt32.toInt32)), (.int (zc_212.toUInt32.toUInt16.toUInt32.toInt32)), (.int (zc_225.toUInt32.toUInt16.toUInt32.toInt32)), (.int (zc_238.toUInt32.toUInt16.toUInt32.toInt32)), (.int (zc_251.toUInt32.toUInt16.toUInt32.toInt32))] := A252
        have f254 : Exa Z h239 b166 "[C" := (f241.wr W239)
        have ch253 := ch240.trans (CHr.wr W252 (Safe.exa hZ.alike f254 (by decide) (by decide)) ch240.1)
        have sf255 := Safe.wr W252 (Safe.exa hZ.alike f254 (by decide) (by decide)) ch240.1 sf242
        have hk253 := Nat.le_trans hk240 (Keep.of_wr W252).1
        have z256 : n0 ≤ h252.size := Nat.le_trans z243 (Keep.of_wr W252).1
        have n257 := Fr.snoc X252 N251 u166
        refine own_stW (B := T252.setTop (mkF m 202 #[.val (.int arg0), .val (.int arg1), .val (.int arg2), .val (.int v1), .val (.int v2), .val (.int v3), .val (.ref b4), .val (.ref b7), .unset, .unset, .unset] [(.ref b166), (.ref b151), (.ref b151)])) (fun t k => st252 t k) ?_
        have hvb258 : own_bnd ([(zc_187.toUInt32.toUInt16.toUInt32.toInt32), (zc_199.toUInt32.toUInt16.toUInt32.toInt32), (zc_212.toUInt32.toUInt16.toUInt32.toInt32), (zc_225.toUInt32.toUInt16.toUInt32.toInt32), (zc_238.toUInt32.toUInt16.toUInt32.toInt32), (zc_251.toUInt32.toUInt16.toUInt32.toInt32)] : List Int32) := (own_bndS (own_z255 r187_0) (own_bndS (own_z255 r199_0) (own_bndS (own_z255 r212_0) (own_bndS (own_z255 r225_0) (own_bndS (own_z255 r238_0) (own_bndS (own_z255 r251_0) own_bnd0))))))
        have fv258 : own_A Z h252 b166 .char (([(zc_187.toUInt32.toUInt16.toUInt32.toInt32), (zc_199.toUInt32.toUInt16.toUInt32.toInt32), (zc_212.toUInt32.toUInt16.toUInt32.toInt32), (zc_225.toUInt32.toUInt16.toUInt32.toInt32), (zc_238.toUInt32.toUInt16.toUInt32.toInt32), (zc_251.toUInt32.toUInt16.toUInt32.toInt32)] : List Int32).map Value.int) := f252_
        have f259 : Exa Z h252 b151 "java/lang/String" := (((((((A151.ext E166).wr W188).wr W200).wr W213).wr W226).wr W239).wr W252)
        have f260 : Fld Z h252 b151 "java/lang/String" "value" "[B" .null := (((((((f164.ext E166).other W188 (Or.inl q166_b151)).other W200 (Or.inl q166_b151)).other W213 (Or.inl q166_b151)).other W226 (Or.inl q166_b151)).other W239 (Or.inl q166_b151)).other W252 (Or.inl q166_b151))
        have f261 : Fld Z h252 b151 "java/lang/String" "coder" "B" (.int (0 : Int32)) := (((((((f165.ext E166).other W188 (Or.inl q166_b151)).other W200 (Or.inl q166_b151)).other W213 (Or.inl q166_b151)).other W226 (Or.inl q166_b151)).other W239 (Or.inl q166_b151)).other W252 (Or.inl q166_b151))
        have f262 : Sta Z h252 "java/lang/String" "COMPACT_STRINGS" "Z" (.int cs) := (f249.wr W252)
        obtain ⟨_, _, ⟨T263, L263, k263, j263⟩, -, X263, ⟨Lc263, hQ263, l263, y263_, z263_⟩, st263⟩ := X252.specialBack hx (y := (⟨"java/lang/String", "<init>", "([C)V"⟩ : MethodName)) rfl hown (mvT hZ (w_50 hw)) (mvT hZ (w_51 hw)) (mvT hZ (w_52 hw)) (by decide) (backOf (W := 1) (rm9 l Z a0 hw [] b151 b166 cs ([(zc_187.toUInt32.toUInt16.toUInt32.toInt32), (zc_199.toUInt32.toUInt16.toUInt32.toInt32), (zc_212.toUInt32.toUInt16.toUInt32.toInt32), (zc_225.toUInt32.toUInt16.toUInt32.toInt32), (zc_238.toUInt32.toUInt16.toUInt32.toInt32), (zc_251.toUInt32.toUInt16.toUInt32.toInt32)] : List Int32) h252 n0 z256 f259 f260 f261 fv258 f262 u151 hcs (show ¬ ((6 : Nat) = 0) from (by decide)) (show (6 : Nat) ≤ 16 from (by decide)) hvb258) hZ (w_52 hw) (w_1 hw) (by decide) (by decide)) (g := (mkF m 202 #[.val (.int arg0), .val (.int arg1), .val (.int arg2), .val (.int v1), .val (.int v2), .val (.int v3), .val (.ref b4), .val (.ref b7), .unset, .unset, .unset] [(.ref b166), (.ref b151), (.ref b151)])) rfl (by rw [hml]; rfl) (Steps.refl _) (a := b151) (argsL := [(.ref b166)]) (rest := [(.ref b151)]) (lenOf own_pd21 rfl) rfl (by show 2 * 0 + _ ≤ _; exact Nat.le_of_eq rfl) (hb hby at_202) (fun _ _ => ⟨rfl, e252, (by decide : 6 + 1 ≤ _), (by decide : 82 + 16 ≤ _)⟩)
        dsimp only [Pt.U, Pt.locs, Pt.cells, Pt.slots] at X263 l263 y263_ z263_ st263 hQ263
        subst l263 y263_ z263_
        obtain ⟨b_263, bs_263, rfl, N263q, K263, u263_b, y263_b, p263_0, p263_1, p263_2, p263_3, r263_0⟩ := hQ263
        have N263 := Fr.app n257 N263q
        have f264 : Exa Z h252 va "[Lcom/example/goodput/goodput/DeliveryMode;" := (((((((f167.ext E166).wr W188).wr W200).wr W213).wr W226).wr W239).wr W252)
        have q263_b_va : va ≠ b_263 := Nat.ne_of_lt (Nat.lt_of_lt_of_le f264.lt y263_b)
        have f265 : Fld Z h252 r1 "com/example/goodput/goodput/DeliveryMode" "name" "Ljava/lang/String;" (.ref s1) := (((((((f168.ext E166).other W188 (Or.inl q166_r1)).other W200 (Or.inl q166_r1)).other W213 (Or.inl q166_r1)).other W226 (Or.inl q166_r1)).other W239 (Or.inl q166_r1)).other W252 (Or.inl q166_r1))
        have q263_b_r1 : r1 ≠ b_263 := Nat.ne_of_lt (Nat.lt_of_lt_of_le f265.lt y263_b)
        have f266 : Fld Z h252 r2 "com/example/goodput/goodput/DeliveryMode" "name" "Ljava/lang/String;" (.ref s2) := (((((((f169.ext E166).other W188 (Or.inl q166_r2)).other W200 (Or.inl q166_r2)).other W213 (Or.inl q166_r2)).other W226 (Or.inl q166_r2)).other W239 (Or.inl q166_r2)).other W252 (Or.inl q166_r2))
        have q263_b_r2 : r2 ≠ b_263 := Nat.ne_of_lt (Nat.lt_of_lt_of_le f266.lt y263_b)
        have f267 : Exa Z h252 s1 "java/lang/String" := (((((((f170.ext E166).wr W188).wr W200).wr W213).wr W226).wr W239).wr W252)
        have q263_b_s1 : s1 ≠ b_263 := Nat.ne_of_lt (Nat.lt_of_lt_of_le f267.lt y263_b)
        have f268 : Exa Z h252 s2 "java/lang/String" := (((((((f171.ext E166).wr W188).wr W200).wr W213).wr W226).wr W239).wr W252)
        have q263_b_s2 : s2 ≠ b_263 := Nat.ne_of_lt (Nat.lt_of_lt_of_le f268.lt y263_b)
        have f269 : own_A Z h252 d1 .byte (own_d.map Value.int) := (((((((f172.ext E166).other W188 q166_d1).other W200 q166_d1).other W213 q166_d1).other W226 q166_d1).other W239 q166_d1).other W252 q166_d1)
        have q263_b_d1 : d1 ≠ b_263 := Nat.ne_of_lt (Nat.lt_of_lt_of_le f269.lt y263_b)
        have f270 : own_A Z h252 d2 .byte (own_q.map Value.int) := (((((((f173.ext E166).other W188 q166_d2).other W200 q166_d2).other W213 q166_d2).other W226 q166_d2).other W239 q166_d2).other W252 q166_d2)
        have q263_b_d2 : d2 ≠ b_263 := Nat.ne_of_lt (Nat.lt_of_lt_of_le f270.lt y263_b)
        have f271 : Exa Z h252 b4 "java/lang/String" := (f245.wr W252)
        have q263_b_b4 : b4 ≠ b_263 := Nat.ne_of_lt (Nat.lt_of_lt_of_le f271.lt y263_b)
        have f272 : own_A Z h252 bb4 .byte (own_d.map Value.int) := (f248.other W252 q166_bb4)
        have q263_b_bb4 : bb4 ≠ b_263 := Nat.ne_of_lt (Nat.lt_of_lt_of_le f272.lt y263_b)
        have f273 : Exa Z h252 b7 "java/lang/String" := (((((((f176.ext E166).wr W188).wr W200).wr W213).wr W226).wr W239).wr W252)
        have q263_b_b7 : b7 ≠ b_263 := Nat.ne_of_lt (Nat.lt_of_lt_of_le f273.lt y263_b)
        have f274 : own_A Z h252 bb7 .byte (own_q.map Value.int) := (((((((f177.ext E166).other W188 q166_bb7).other W200 q166_bb7).other W213 q166_bb7).other W226 q166_bb7).other W239 q166_bb7).other W252 q166_bb7)
        have q263_b_bb7 : bb7 ≠ b_263 := Nat.ne_of_lt (Nat.lt_of_lt_of_le f274.lt y263_b)
        have q263_b_b151 : b151 ≠ b_263 := Nat.ne_of_lt (Nat.lt_of_lt_of_le f259.lt y263_b)
        have q263_b_b166 : b166 ≠ b_263 := Nat.ne_of_lt (Nat.lt_of_lt_of_le fv258.lt y263_b)
        have ch275 := ch253.trans (CHr.keep K263 (allS sf255 all0) ch253.1)
        have sf276 := Safe.keep K263 (allS sf255 all0) ch253.1 sf255
        have hk275 := Nat.le_trans hk253 K263.1
        have z277 : n0 ≤ T263.heap.size := Nat.le_trans z256 K263.1
        refine own_ssW (B := T263.setTop (mkF m 205 #[.val (.int arg0), .val (.int arg1), .val (.int arg2), .val (.int v1), .val (.int v2), .val (.int v3), .val (.ref b4), .val (.ref b7), .unset, .unset, .unset] [(.ref b151)])) st263 ?_
        have hbl263 : bs_263.length < 1000 := by have h9 : bs_263.length = 6 := r263_0; omega
        refine own_stW (B := T263.setTop (mkF m 207 #[.val (.int arg0), .val (.int arg1), .val (.int arg2), .val (.int v1), .val (.int v2), .val (.int v3), .val (.ref b4), .val (.ref b7), .val (.ref b151), .unset, .unset] [])) (fun t k => XS.astore X263.here hx rfl (hb hby at_205) rfl rfl (l' := #[.val (.int arg0), .val (.int arg1), .val (.int arg2), .val (.int v1), .val (.int v2), .val (.int v3), .val (.ref b4), .val (.ref b7), .val (.ref b151), .unset, .unset]) rfl k) ?_
        refine own_stW (B := T263.setTop (mkF m 825 #[.val (.int arg0), .val (.int arg1), .val (.int arg2), .val (.int v1), .val (.int v2), .val (.int v3), .val (.ref b4), .val (.ref b7), .val (.ref b151), .unset, .unset] [])) (fun t k => XS.goto X263.here hx rfl (pc0 := 207) (pc' := 825) rfl (hb hby at_207) (by decide) (by decide) k) ?_
        have x10_ := X263.more (cells' := 10) (slots' := 103) (by decide) (by decide)
        have f278 : Sta Z T263.heap "com/example/goodput/goodput/DeliveryMode" "$VALUES" "[Lcom/example/goodput/goodput/DeliveryMode;" (.ref va) := (own_Sta.keep ((((((((((F0.ext E4).ext E7).ext E151).ext E166).wr W188).wr W200).wr W213).wr W226).wr W239).wr W252) K263 (show ∀ st ∈ [b151], ∀ cell : Cell, h252[st]? = some cell → cell.vm.isStatics = false from (allS (own_plainE f259) all0)))
        have f279 : Exa Z T263.heap va "[Lcom/example/goodput/goodput/DeliveryMode;" := (f264.keep K263)
        have f280 : own_A Z T263.heap va (.object "com/example/goodput/goodput/DeliveryMode") [(.ref r1), (.ref r2)] := (((((((((((F2.ext E4).ext E7).ext E151).ext E166).other W188 q166_va).other W200 q166_va).other W213 q166_va).other W226 q166_va).other W239 q166_va).other W252 q166_va).keep K263 (ninS q151_va nin0))
        have f281 : Fld Z T263.heap r1 "com/example/goodput/goodput/DeliveryMode" "name" "Ljava/lang/String;" (.ref s1) := (f265.keep K263 (ninS q151_r1 nin0))
        have f282 : Fld Z T263.heap r2 "com/example/goodput/goodput/DeliveryMode" "name" "Ljava/lang/String;" (.ref s2) := (f266.keep K263 (ninS q151_r2 nin0))
        have f283 : Exa Z T263.heap s1 "java/lang/String" := (f267.keep K263)
        have f284 : Exa Z T263.heap s2 "java/lang/String" := (f268.keep K263)
        have f285 : Fld Z T263.heap s1 "java/lang/String" "coder" "B" (.int (0 : Int32)) := (((((((((((F7.ext E4).ext E7).ext E151).ext E166).other W188 (Or.inl q166_s1)).other W200 (Or.inl q166_s1)).other W213 (Or.inl q166_s1)).other W226 (Or.inl q166_s1)).other W239 (Or.inl q166_s1)).other W252 (Or.inl q166_s1)).keep K263 (ninS q151_s1 nin0))
        have f286 : Fld Z T263.heap s1 "java/lang/String" "value" "[B" (.ref d1) := (((((((((((F8.ext E4).ext E7).ext E151).ext E166).other W188 (Or.inl q166_s1)).other W200 (Or.inl q166_s1)).other W213 (Or.inl q166_s1)).other W226 (Or.inl q166_s1)).other W239 (Or.inl q166_s1)).other W252 (Or.inl q166_s1)).keep K263 (ninS q151_s1 nin0))
        have f287 : Fld Z T263.heap s2 "java/lang/String" "coder" "B" (.int (0 : Int32)) := (((((((((((F9.ext E4).ext E7).ext E151).ext E166).other W188 (Or.inl q166_s2)).other W200 (Or.inl q166_s2)).other W213 (Or.inl q166_s2)).other W226 (Or.inl q166_s2)).other W239 (Or.inl q166_s2)).other W252 (Or.inl q166_s2)).keep K263 (ninS q151_s2 nin0))
        have f288 : Fld Z T263.heap s2 "java/lang/String" "value" "[B" (.ref d2) := (((((((((((F10.ext E4).ext E7).ext E151).ext E166).other W188 (Or.inl q166_s2)).other W200 (Or.inl q166_s2)).other W213 (Or.inl q166_s2)).other W226 (Or.inl q166_s2)).other W239 (Or.inl q166_s2)).other W252 (Or.inl q166_s2)).keep K263 (ninS q151_s2 nin0))
        have f289 : own_A Z T263.heap d1 .byte (own_d.map Value.int) := (f269.keep K263 (ninS q151_d1 nin0))
        have f290 : own_A Z T263.heap d2 .byte (own_q.map Value.int) := (f270.keep K263 (ninS q151_d2 nin0))
        have f291 : Sta Z T263.heap "com/example/goodput/goodput/DeliveryMode" "DIRECT" "Lcom/example/goodput/goodput/DeliveryMode;" (.ref r1) := (own_Sta.keep ((((((((((F13.ext E4).ext E7).ext E151).ext E166).wr W188).wr W200).wr W213).wr W226).wr W239).wr W252) K263 (show ∀ st ∈ [b151], ∀ cell : Cell, h252[st]? = some cell → cell.vm.isStatics = false from (allS (own_plainE f259) all0)))
        have f292 : Sta Z T263.heap "com/example/goodput/goodput/DeliveryMode" "PERSISTENT" "Lcom/example/goodput/goodput/DeliveryMode;" (.ref r2) := (own_Sta.keep ((((((((((F14.ext E4).ext E7).ext E151).ext E166).wr W188).wr W200).wr W213).wr W226).wr W239).wr W252) K263 (show ∀ st ∈ [b151], ∀ cell : Cell, h252[st]? = some cell → cell.vm.isStatics = false from (allS (own_plainE f259) all0)))
        have f293 : Sta Z T263.heap "java/lang/String" "COMPACT_STRINGS" "Z" (.int cs) := (own_Sta.keep f262 K263 (show ∀ st ∈ [b151], ∀ cell : Cell, h252[st]? = some cell → cell.vm.isStatics = false from (allS (own_plainE f259) all0)))
        have f294 : Exa Z T263.heap b4 "java/lang/String" := (f271.keep K263)
        have f295 : Fld Z T263.heap b4 "java/lang/String" "coder" "B" (.int (0 : Int32)) := ((f246.other W252 (Or.inl q166_b4)).keep K263 (ninS q151_b4 nin0))
        have f296 : Fld Z T263.heap b4 "java/lang/String" "value" "[B" (.ref bb4) := ((f247.other W252 (Or.inl q166_b4)).keep K263 (ninS q151_b4 nin0))
        have f297 : own_A Z T263.heap bb4 .byte (own_d.map Value.int) := (f272.keep K263 (ninS q151_bb4 nin0))
        have f298 : Exa Z T263.heap b7 "java/lang/String" := (f273.keep K263)
        have f299 : Fld Z T263.heap b7 "java/lang/String" "coder" "B" (.int (0 : Int32)) := (((((((((C7.ext E151).ext E166).other W188 (Or.inl q166_b7)).other W200 (Or.inl q166_b7)).other W213 (Or.inl q166_b7)).other W226 (Or.inl q166_b7)).other W239 (Or.inl q166_b7)).other W252 (Or.inl q166_b7)).keep K263 (ninS q151_b7 nin0))
        have f300 : Fld Z T263.heap b7 "java/lang/String" "value" "[B" (.ref bb7) := (((((((((V7.ext E151).ext E166).other W188 (Or.inl q166_b7)).other W200 (Or.inl q166_b7)).other W213 (Or.inl q166_b7)).other W226 (Or.inl q166_b7)).other W239 (Or.inl q166_b7)).other W252 (Or.inl q166_b7)).keep K263 (ninS q151_b7 nin0))
        have f301 : own_A Z T263.heap bb7 .byte (own_q.map Value.int) := (f274.keep K263 (ninS q151_bb7 nin0))
        exact J10 _ _ T263 _ _ b151 b_263 bs_263 x10_ rfl N263 z277 hS7 hk275 hZ hown ch275 p263_0 p263_2 p263_1 p263_3 f278 f279 f280 f281 f282 f283 f284 f285 f286 f287 f288 f289 f290 f291 f292 f293 f294 f295 f296 f297 f298 f299 f300 f301 (show bs_263.length < 1000 by exact hbl263) (show s1 ≠ b151 by exact q151_s1) (show s2 ≠ b151 by exact q151_s2) (show b4 ≠ b151 by exact q151_b4) (show b7 ≠ b151 by exact q151_b7)
      · refine own_stW (B := T7.setTop (mkF m 210 #[.val (.int arg0), .val (.int arg1), .val (.int arg2), .val (.int v1), .val (.int v2), .val (.int v3), .val (.ref b4), .val (.ref b7), .unset, .unset, .unset] [])) (fun t k => XS.icmpYes X7.here hx rfl (pc0 := 113) (pc' := 210) rfl (hb hby at_113) rfl (XT.ii_ne_t hc150) (by decide) (by decide) k) ?_
        refine own_stW (B := T7.setTop (mkF m 211 #[.val (.int arg0), .val (.int arg1), .val (.int arg2), .val (.int v1), .val (.int v2), .val (.int v3), .val (.ref b4), .val (.ref b7), .unset, .unset, .unset] [(.int v1)])) (fun t k => XS.iloadN X7.here hx rfl (hb hby at_210) rfl k) ?_
        refine own_stW (B := T7.setTop (mkF m 212 #[.val (.int arg0), .val (.int arg1), .val (.int arg2), .val (.int v1), .val (.int v2), .val (.int v3), .val (.ref b4), .val (.ref b7), .unset, .unset, .unset] [(.int (2 : Int32)), (.int v1)])) (fun t k => XS.iconst X7.here hx rfl (hb hby at_211) k) ?_
        by_cases hc302 : v1 = (2 : Int32)
        · refine own_stW (B := T7.setTop (mkF m 215 #[.val (.int arg0), .val (.int arg1), .val (.int arg2), .val (.int v1), .val (.int v2), .val (.int v3), .val (.ref b4), .val (.ref b7), .unset, .unset, .unset] [])) (fun t k => XS.icmpNo X7.here hx rfl (hb hby at_212) rfl (XT.ii_ne_f hc302) k) ?_
          obtain ⟨T303, h303, X303, e303, E303, A303, D303, -, st303⟩ := newO X7 hx hZ hown (w_9 hw) (w_2 hw) (w_1 hw) e7 (g := (mkF m 215 #[.val (.int arg0), .val (.int arg1), .val (.int arg2), .val (.int v1), .val (.int v2), .val (.int v3), .val (.ref b4), .val (.ref b7), .unset, .unset, .unset] [])) rfl (hb hby at_215) (by decide) (by decide)
          obtain ⟨b303, g303⟩ : ∃ z, z = h7.size := ⟨_, rfl⟩
          rw [← g303] at A303 D303 st303
          have f304 : Exa Z h7 va "[Lcom/example/goodput/goodput/DeliveryMode;" := ((F1.ext E4).ext E7)
          have q303_va : va ≠ b303 := Nat.ne_of_lt (Nat.lt_of_lt_of_le f304.lt (Nat.le_of_eq g303.symm))
          have f305 : Fld Z h7 r1 "com/example/goodput/goodput/DeliveryMode" "name" "Ljava/lang/String;" (.ref s1) := ((F3.ext E4).ext E7)
          have q303_r1 : r1 ≠ b303 := Nat.ne_of_lt (Nat.lt_of_lt_of_le f305.lt (Nat.le_of_eq g303.symm))
          have f306 : Fld Z h7 r2 "com/example/goodput/goodput/DeliveryMode" "name" "Ljava/lang/String;" (.ref s2) := ((F4.ext E4).ext E7)
          have q303_r2 : r2 ≠ b303 := Nat.ne_of_lt (Nat.lt_of_lt_of_le f306.lt (Nat.le_of_eq g303.symm))
          have f307 : Exa Z h7 s1 "java/lang/String" := ((F5.ext E4).ext E7)
          have q303_s1 : s1 ≠ b303 := Nat.ne_of_lt (Nat.lt_of_lt_of_le f307.lt (Nat.le_of_eq g303.symm))
          have f308 : Exa Z h7 s2 "java/lang/String" := ((F6.ext E4).ext E7)
          have q303_s2 : s2 ≠ b303 := Nat.ne_of_lt (Nat.lt_of_lt_of_le f308.lt (Nat.le_of_eq g303.symm))
          have f309 : own_A Z h7 d1 .byte (own_d.map Value.int) := ((F11.ext E4).ext E7)
          have q303_d1 : d1 ≠ b303 := Nat.ne_of_lt (Nat.lt_of_lt_of_le f309.lt (Nat.le_of_eq g303.symm))
          have f310 : own_A Z h7 d2 .byte (own_q.map Value.int) := ((F12.ext E4).ext E7)
          have q303_d2 : d2 ≠ b303 := Nat.ne_of_lt (Nat.lt_of_lt_of_le f310.lt (Nat.le_of_eq g303.symm))
          have f311 : Exa Z h7 b4 "java/lang/String" := (A4.ext E7)
          have q303_b4 : b4 ≠ b303 := Nat.ne_of_lt (Nat.lt_of_lt_of_le f311.lt (Nat.le_of_eq g303.symm))
          have f312 : own_A Z h7 bb4 .byte (own_d.map Value.int) := (fa4.ext E7)
          have q303_bb4 : bb4 ≠ b303 := Nat.ne_of_lt (Nat.lt_of_lt_of_le f312.lt (Nat.le_of_eq g303.symm))
          have q303_b7 : b7 ≠ b303 := Nat.ne_of_lt (Nat.lt_of_lt_of_le A7.lt (Nat.le_of_eq g303.symm))
          have q303_bb7 : bb7 ≠ b303 := Nat.ne_of_lt (Nat.lt_of_lt_of_le fa7.lt (Nat.le_of_eq g303.symm))
          have u303 : n0 ≤ b303 := Nat.le_trans z9 (Nat.le_of_eq g303.symm)
          have ch313 := ch8.trans (CHr.ext E303 ch8.1)
          have sf314 := Safe.ext E303 ch8.1 (Safe.new (Nat.le_of_eq g303.symm))
          have hk313 := Nat.le_trans hk7 E303.1
          have z315 : n0 ≤ h303.size := Nat.le_trans z9 E303.1
          have f316 : Fld Z h303 b303 "java/lang/String" "value" "[B" .null := D303 (Or.inr (w_4 hw)) (ty := (.array .byte)) (by decide)
          have f317 : Fld Z h303 b303 "java/lang/String" "coder" "B" (.int (0 : Int32)) := D303 (Or.inr (w_5 hw)) (ty := .byte) (by decide)
          refine own_stW (B := T303.setTop (mkF m 218 #[.val (.int arg0), .val (.int arg1), .val (.int arg2), .val (.int v1), .val (.int v2), .val (.int v3), .val (.ref b4), .val (.ref b7), .unset, .unset, .unset] [(.ref b303)])) (fun t k => st303 t k) ?_
          refine own_stW (B := T303.setTop (mkF m 219 #[.val (.int arg0), .val (.int arg1), .val (.int arg2), .val (.int v1), .val (.int v2), .val (.int v3), .val (.ref b4), .val (.ref b7), .unset, .unset, .unset] [(.ref b303), (.ref b303)])) (fun t k => XS.dup X303.here hx rfl (hb hby at_218) rfl rfl k) ?_
          refine own_stW (B := T303.setTop (mkF m 221 #[.val (.int arg0), .val (.int arg1), .val (.int arg2), .val (.int v1), .val (.int v2), .val (.int v3), .val (.ref b4), .val (.ref b7), .unset, .unset, .unset] [(.int (7 : Int32)), (.ref b303), (.ref b303)])) (fun t k => XS.bipush X303.here hx rfl (hb hby at_219) k) ?_
          obtain ⟨T318, h318, X318, e318, E318, A318, x318, st318⟩ := own_newP X303 hx hZ (aty := .char) (w_10 hw) e303 (g := (mkF m 221 #[.val (.int arg0), .val (.int arg1), .val (.int arg2), .val (.int v1), .val (.int v2), .val (.int v3), .val (.ref b4), .val (.ref b7), .unset, .unset, .unset] [(.int (7 : Int32)), (.ref b303), (.ref b303)])) rfl (hb hby at_221) (n := (7 : Int32)) (rest := [(.ref b303), (.ref b303)]) rfl (k := 7) (cap := 7) (by decide) (Nat.le_refl _) (by decide) (by decide) (by decide) (ad := "[C") rfl
          obtain ⟨b318, g318⟩ : ∃ z, z = h303.size := ⟨_, rfl⟩
          rw [← g318] at A318 x318 st318
          have f319 : Exa Z h303 va "[Lcom/example/goodput/goodput/DeliveryMode;" := (f304.ext E303)
          have q318_va : va ≠ b318 := Nat.ne_of_lt (Nat.lt_of_lt_of_le f319.lt (Nat.le_of_eq g318.symm))
          have f320 : Fld Z h303 r1 "com/example/goodput/goodput/DeliveryMode" "name" "Ljava/lang/String;" (.ref s1) := (f305.ext E303)
          have q318_r1 : r1 ≠ b318 := Nat.ne_of_lt (Nat.lt_of_lt_of_le f320.lt (Nat.le_of_eq g318.symm))
          have f321 : Fld Z h303 r2 "com/example/goodput/goodput/DeliveryMode" "name" "Ljava/lang/String;" (.ref s2) := (f306.ext E303)
          have q318_r2 : r2 ≠ b318 := Nat.ne_of_lt (Nat.lt_of_lt_of_le f321.lt (Nat.le_of_eq g318.symm))
          have f322 : Exa Z h303 s1 "java/lang/String" := (f307.ext E303)
          have q318_s1 : s1 ≠ b318 := Nat.ne_of_lt (Nat.lt_of_lt_of_le f322.lt (Nat.le_of_eq g318.symm))
          have f323 : Exa Z h303 s2 "java/lang/String" := (f308.ext E303)
          have q318_s2 : s2 ≠ b318 := Nat.ne_of_lt (Nat.lt_of_lt_of_le f323.lt (Nat.le_of_eq g318.symm))
          have f324 : own_A Z h303 d1 .byte (own_d.map Value.int) := (f309.ext E303)
          have q318_d1 : d1 ≠ b318 := Nat.ne_of_lt (Nat.lt_of_lt_of_le f324.lt (Nat.le_of_eq g318.symm))
          have f325 : own_A Z h303 d2 .byte (own_q.map Value.int) := (f310.ext E303)
          have q318_d2 : d2 ≠ b318 := Nat.ne_of_lt (Nat.lt_of_lt_of_le f325.lt (Nat.le_of_eq g318.symm))
          have f326 : Exa Z h303 b4 "java/lang/String" := (f311.ext E303)
          have q318_b4 : b4 ≠ b318 := Nat.ne_of_lt (Nat.lt_of_lt_of_le f326.lt (Nat.le_of_eq g318.symm))
          have f327 : own_A Z h303 bb4 .byte (own_d.map Value.int) := (f312.ext E303)
          have q318_bb4 : bb4 ≠ b318 := Nat.ne_of_lt (Nat.lt_of_lt_of_le f327.lt (Nat.le_of_eq g318.symm))
          have f328 : Exa Z h303 b7 "java/lang/String" := (A7.ext E303)
          have q318_b7 : b7 ≠ b318 := Nat.ne_of_lt (Nat.lt_of_lt_of_le f328.lt (Nat.le_of_eq g318.symm))
          have f329 : own_A Z h303 bb7 .byte (own_q.map Value.int) := (fa7.ext E303)
          have q318_bb7 : bb7 ≠ b318 := Nat.ne_of_lt (Nat.lt_of_lt_of_le f329.lt (Nat.le_of_eq g318.symm))
          have q318_b303 : b303 ≠ b318 := Nat.ne_of_lt (Nat.lt_of_lt_of_le A303.lt (Nat.le_of_eq g318.symm))
          have u318 : n0 ≤ b318 := Nat.le_trans z315 (Nat.le_of_eq g318.symm)
          have ch330 := ch313.trans (CHr.ext E318 ch313.1)
          have sf331 := Safe.ext E318 ch313.1 sf314
          have hk330 := Nat.le_trans hk313 E318.1
          have z332 : n0 ≤ h318.size := Nat.le_trans z315 E318.1
          have f318_ : own_A Z h318 b318 .char [(.int (0 : Int32)), (.int (0 : Int32)), (.int (0 : Int32)), (.int (0 : Int32)), (.int (0 : Int32)), (.int (0 : Int32)), (.int (0 : Int32))] := A318
          refine own_stW (B := T318.setTop (mkF m 223 #[.val (.int arg0), .val (.int arg1), .val (.int arg2), .val (.int v1), .val (.int v2), .val (.int v3), .val (.ref b4), .val (.ref b7), .unset, .unset, .unset] [(.ref b318), (.ref b303), (.ref b303)])) (fun t k => st318 t k) ?_
          refine own_stW (B := T318.setTop (mkF m 224 #[.val (.int arg0), .val (.int arg1), .val (.int arg2), .val (.int v1), .val (.int v2), .val (.int v3), .val (.ref b4), .val (.ref b7), .unset, .unset, .unset] [(.ref b318), (.ref b318), (.ref b303), (.ref b303)])) (fun t k => XS.dup X318.here hx rfl (hb hby at_223) rfl rfl k) ?_
          refine own_stW (B := T318.setTop (mkF m 225 #[.val (.int arg0), .val (.int arg1), .val (.int arg2), .val (.int v1), .val (.int v2), .val (.int v3), .val (.ref b4), .val (.ref b7), .unset, .unset, .unset] [(.int (0 : Int32)), (.ref b318), (.ref b318), (.ref b303), (.ref b303)])) (fun t k => XS.iconst X318.here hx rfl (hb hby at_224) k) ?_
          refine own_stW (B := T318.setTop (mkF m 227 #[.val (.int arg0), .val (.int arg1), .val (.int arg2), .val (.int v1), .val (.int v2), .val (.int v3), .val (.ref b4), .val (.ref b7), .unset, .unset, .unset] [(.ref b4), (.int (0 : Int32)), (.ref b318), (.ref b318), (.ref b303), (.ref b303)])) (fun t k => XS.aload X318.here hx rfl (hb hby at_225) rfl rfl k) ?_
          refine own_stW (B := T318.setTop (mkF m 228 #[.val (.int arg0), .val (.int arg1), .val (.int arg2), .val (.int v1), .val (.int v2), .val (.int v3), .val (.ref b4), .val (.ref b7), .unset, .unset, .unset] [(.int (0 : Int32)), (.ref b4), (.int (0 : Int32)), (.ref b318), (.ref b318), (.ref b303), (.ref b303)])) (fun t k => XS.iconst X318.here hx rfl (hb hby at_227) k) ?_
          refine own_stW (B := T318.setTop (mkF m 230 #[.val (.int arg0), .val (.int arg1), .val (.int arg2), .val (.int v1), .val (.int v2), .val (.int v3), .val (.ref b4), .val (.ref b7), .unset, .unset, .unset] [(.int v2), (.int (0 : Int32)), (.ref b4), (.int (0 : Int32)), (.ref b318), (.ref b318), (.ref b303), (.ref b303)])) (fun t k => XS.iload X318.here hx rfl (hb hby at_228) rfl k) ?_
          refine own_stW (B := T318.setTop (mkF m 232 #[.val (.int arg0), .val (.int arg1), .val (.int arg2), .val (.int v1), .val (.int v2), .val (.int v3), .val (.ref b4), .val (.ref b7), .unset, .unset, .unset] [(.int v3), (.int v2), (.int (0 : Int32)), (.ref b4), (.int (0 : Int32)), (.ref b318), (.ref b318), (.ref b303), (.ref b303)])) (fun t k => XS.iload X318.here hx rfl (hb hby at_230) rfl k) ?_
          have f333 : Exa Z h318 b4 "java/lang/String" := (f326.ext E318)
          have f334 : Fld Z h318 b4 "java/lang/String" "coder" "B" (.int (0 : Int32)) := (((C4.ext E7).ext E303).ext E318)
          have f335 : Fld Z h318 b4 "java/lang/String" "value" "[B" (.ref bb4) := (((V4.ext E7).ext E303).ext E318)
          have f336 : own_A Z h318 bb4 .byte (own_d.map Value.int) := (f327.ext E318)
          have f337 : Sta Z h318 "java/lang/String" "COMPACT_STRINGS" "Z" (.int cs) := ((((F15.ext E4).ext E7).ext E303).ext E318)
          have f338 : Sta Z h318 "jdk/internal/util/Preconditions" "SIOOBE_FORMATTER" "Ljava/util/function/BiFunction;" u1 := ((((F16.ext E4).ext E7).ext E303).ext E318)
          obtain ⟨_, _, ⟨T339, L339, k339, j339⟩, -, X339, ⟨Lc339, hQ339, l339, y339_, z339_⟩, st339⟩ := Jvm.LawKit.callS X318 hx (y := (⟨"com/example/goodput/goodput/DeliveryModeNamedPinLaw", "at", "(Ljava/lang/String;IIC)C"⟩ : MethodName)) hown (mvT hZ (w_11 hw)) (mvT hZ (w_12 hw)) (mvT hZ (w_13 hw)) (mvT hZ (w_14 hw)) (by decide) (backOf (W := 5) (rm1 l Z a0 hw [] b4 (0 : Int32) v2 v3 bb4 own_d cs u1 h318 n0 z332 f333 f334 f335 f336 f337 f338 (show 0 ≤ (0 : Int32).toInt by decide) hcc (show own_d.length < 1000 by decide) hcs hu) hZ (w_14 hw) (w_13 hw) (by decide) (by decide)) (g := (mkF m 232 #[.val (.int arg0), .val (.int arg1), .val (.int arg2), .val (.int v1), .val (.int v2), .val (.int v3), .val (.ref b4), .val (.ref b7), .unset, .unset, .unset] [(.int v3), (.int v2), (.int (0 : Int32)), (.ref b4), (.int (0 : Int32)), (.ref b318), (.ref b318), (.ref b303), (.ref b303)])) rfl (by rw [hml]; rfl) (argsL := [(.ref b4), (.int (0 : Int32)), (.int v2), (.int v3)]) (rest := [(.int (0 : Int32)), (.ref b318), (.ref b318), (.ref b303), (.ref b303)]) (lenOf own_pd20 rfl) rfl (by show 2 * 0 + _ ≤ _; exact Nat.le_of_eq rfl) (hb hby at_232) (fun _ _ => ⟨rfl, e318, (by decide : 6 + 0 ≤ _), (by decide : 83 + 0 ≤ _)⟩)
          dsimp only [Pt.U, Pt.locs, Pt.cells, Pt.slots] at X339 l339 y339_ z339_ st339 hQ339
          subst l339 y339_ z339_
          obtain ⟨zc_339, rfl, N339q, e339q, r339_0⟩ := hQ339
          have N339 := Fr.app N0 N339q
          refine own_stW (B := T339.setTop (mkF m 235 #[.val (.int arg0), .val (.int arg1), .val (.int arg2), .val (.int v1), .val (.int v2), .val (.int v3), .val (.ref b4), .val (.ref b7), .unset, .unset, .unset] [(.int zc_339), (.int (0 : Int32)), (.ref b318), (.ref b318), (.ref b303), (.ref b303)])) (fun t k => st339 t k) ?_
          obtain ⟨T340, h340, X340, e340, W340, A340, st340⟩ := own_stC X339 hx hZ e339q f318_ (j := (0 : Int32)) (x := zc_339) (i := 0) (by decide) (show 0 < 7 from by decide) (g := (mkF m 235 #[.val (.int arg0), .val (.int arg1), .val (.int arg2), .val (.int v1), .val (.int v2), .val (.int v3), .val (.ref b4), .val (.ref b7), .unset, .unset, .unset] [(.int zc_339), (.int (0 : Int32)), (.ref b318), (.ref b318), (.ref b303), (.ref b303)])) rfl rfl (hb hby at_235)
          have f340_ : own_A Z h340 b318 .char [(.int (zc_339.toUInt32.toUInt16.toUInt32.toInt32)), (.int (0 : Int32)), (.int (0 : Int32)), (.int (0 : Int32)), (.int (0 : Int32)), (.int (0 : Int32)), (.int (0 : Int32))] := A340
          have ch341 := ch330.trans (CHr.wr W340 (Safe.exa hZ.alike x318 (by decide) (by decide)) ch330.1)
          have sf342 := Safe.wr W340 (Safe.exa hZ.alike x318 (by decide) (by decide)) ch330.1 sf331
          have hk341 := Nat.le_trans hk330 (Keep.of_wr W340).1
          have z343 : n0 ≤ h340.size := Nat.le_trans z332 (Keep.of_wr W340).1
          have n344 := Fr.snoc X340 N339 u318
          refine own_stW (B := T340.setTop (mkF m 236 #[.val (.int arg0), .val (.int arg1), .val (.int arg2), .val (.int v1), .val (.int v2), .val (.int v3), .val (.ref b4), .val (.ref b7), .unset, .unset, .unset] [(.ref b318), (.ref b303), (.ref b303)])) (fun t k => st340 t k) ?_
          refine own_stW (B := T340.setTop (mkF m 237 #[.val (.int arg0), .val (.int arg1), .val (.int arg2), .val (.int v1), .val (.int v2), .val (.int v3), .val (.ref b4), .val (.ref b7), .unset, .unset, .unset] [(.ref b318), (.ref b318), (.ref b303), (.ref b303)])) (fun t k => XS.dup X340.here hx rfl (hb hby at_236) rfl rfl k) ?_
          refine own_stW (B := T340.setTop (mkF m 238 #[.val (.int arg0), .val (.int arg1), .val (.int arg2), .val (.int v1), .val (.int v2), .val (.int v3), .val (.ref b4), .val (.ref b7), .unset, .unset, .unset] [(.int (1 : Int32)), (.ref b318), (.ref b318), (.ref b303), (.ref b303)])) (fun t k => XS.iconst X340.here hx rfl (hb hby at_237) k) ?_
          refine own_stW (B := T340.setTop (mkF m 240 #[.val (.int arg0), .val (.int arg1), .val (.int arg2), .val (.int v1), .val (.int v2), .val (.int v3), .val (.ref b4), .val (.ref b7), .unset, .unset, .unset] [(.ref b4), (.int (1 : Int32)), (.ref b318), (.ref b318), (.ref b303), (.ref b303)])) (fun t k => XS.aload X340.here hx rfl (hb hby at_238) rfl rfl k) ?_
          refine own_stW (B := T340.setTop (mkF m 241 #[.val (.int arg0), .val (.int arg1), .val (.int arg2), .val (.int v1), .val (.int v2), .val (.int v3), .val (.ref b4), .val (.ref b7), .unset, .unset, .unset] [(.int (1 : Int32)), (.ref b4), (.int (1 : Int32)), (.ref b318), (.ref b318), (.ref b303), (.ref b303)])) (fun t k => XS.iconst X340.here hx rfl (hb hby at_240) k) ?_
          refine own_stW (B := T340.setTop (mkF m 243 #[.val (.int arg0), .val (.int arg1), .val (.int arg2), .val (.int v1), .val (.int v2), .val (.int v3), .val (.ref b4), .val (.ref b7), .unset, .unset, .unset] [(.int v2), (.int (1 : Int32)), (.ref b4), (.int (1 : Int32)), (.ref b318), (.ref b318), (.ref b303), (.ref b303)])) (fun t k => XS.iload X340.here hx rfl (hb hby at_241) rfl k) ?_
          refine own_stW (B := T340.setTop (mkF m 245 #[.val (.int arg0), .val (.int arg1), .val (.int arg2), .val (.int v1), .val (.int v2), .val (.int v3), .val (.ref b4), .val (.ref b7), .unset, .unset, .unset] [(.int v3), (.int v2), (.int (1 : Int32)), (.ref b4), (.int (1 : Int32)), (.ref b318), (.ref b318), (.ref b303), (.ref b303)])) (fun t k => XS.iload X340.here hx rfl (hb hby at_243) rfl k) ?_
          have f345 : Exa Z h340 b4 "java/lang/String" := (f333.wr W340)
          have f346 : Fld Z h340 b4 "java/lang/String" "coder" "B" (.int (0 : Int32)) := (f334.other W340 (Or.inl q318_b4))
          have f347 : Fld Z h340 b4 "java/lang/String" "value" "[B" (.ref bb4) := (f335.other W340 (Or.inl q318_b4))
          have f348 : own_A Z h340 bb4 .byte (own_d.map Value.int) := (f336.other W340 q318_bb4)
          have f349 : Sta Z h340 "java/lang/String" "COMPACT_STRINGS" "Z" (.int cs) := (f337.wr W340)
          have f350 : Sta Z h340 "jdk/internal/util/Preconditions" "SIOOBE_FORMATTER" "Ljava/util/function/BiFunction;" u1 := (f338.wr W340)
          obtain ⟨_, _, ⟨T351, L351, k351, j351⟩, -, X351, ⟨Lc351, hQ351, l351, y351_, z351_⟩, st351⟩ := Jvm.LawKit.callS X340 hx (y := (⟨"com/example/goodput/goodput/DeliveryModeNamedPinLaw", "at", "(Ljava/lang/String;IIC)C"⟩ : MethodName)) hown (mvT hZ (w_11 hw)) (mvT hZ (w_12 hw)) (mvT hZ (w_13 hw)) (mvT hZ (w_14 hw)) (by decide) (backOf (W := 5) (rm1 l Z a0 hw [] b4 (1 : Int32) v2 v3 bb4 own_d cs u1 h340 n0 z343 f345 f346 f347 f348 f349 f350 (show 0 ≤ (1 : Int32).toInt by decide) hcc (show own_d.length < 1000 by decide) hcs hu) hZ (w_14 hw) (w_13 hw) (by decide) (by decide)) (g := (mkF m 245 #[.val (.int arg0), .val (.int arg1), .val (.int arg2), .val (.int v1), .val (.int v2), .val (.int v3), .val (.ref b4), .val (.ref b7), .unset, .unset, .unset] [(.int v3), (.int v2), (.int (1 : Int32)), (.ref b4), (.int (1 : Int32)), (.ref b318), (.ref b318), (.ref b303), (.ref b303)])) rfl (by rw [hml]; rfl) (argsL := [(.ref b4), (.int (1 : Int32)), (.int v2), (.int v3)]) (rest := [(.int (1 : Int32)), (.ref b318), (.ref b318), (.ref b303), (.ref b303)]) (lenOf own_pd20 rfl) rfl (by show 2 * 0 + _ ≤ _; exact Nat.le_of_eq rfl) (hb hby at_245) (fun _ _ => ⟨rfl, e340, (by decide : 6 + 0 ≤ _), (by decide : 83 + 0 ≤ _)⟩)
          dsimp only [Pt.U, Pt.locs, Pt.cells, Pt.slots] at X351 l351 y351_ z351_ st351 hQ351
          subst l351 y351_ z351_
          obtain ⟨zc_351, rfl, N351q, e351q, r351_0⟩ := hQ351
          have N351 := Fr.app n344 N351q
          refine own_stW (B := T351.setTop (mkF m 248 #[.val (.int arg0), .val (.int arg1), .val (.int arg2), .val (.int v1), .val (.int v2), .val (.int v3), .val (.ref b4), .val (.ref b7), .unset, .unset, .unset] [(.int zc_351), (.int (1 : Int32)), (.ref b318), (.ref b318), (.ref b303), (.ref b303)])) (fun t k => st351 t k) ?_
          obtain ⟨T352, h352, X352, e352, W352, A352, st352⟩ := own_stC X351 hx hZ e351q f340_ (j := (1 : Int32)) (x := zc_351) (i := 1) (by decide) (show 1 < 7 from by decide) (g := (mkF m 248 #[.val (.int arg0), .val (.int arg1), .val (.int arg2), .val (.int v1), .val (.int v2), .val (.int v3), .val (.ref b4), .val (.ref b7), .unset, .unset, .unset] [(.int zc_351), (.int (1 : Int32)), (.ref b318), (.ref b318), (.ref b303), (.ref b303)])) rfl rfl (hb hby at_248)
          have f352_ : own_A Z h352 b318 .char [(.int (zc_339.toUInt32.toUInt16.toUInt32.toInt32)), (.int (zc_351.toUInt32.toUInt16.toUInt32.toInt32)), (.int (0 : Int32)), (.int (0 : Int32)), (.int (0 : Int32)), (.int (0 : Int32)), (.int (0 : Int32))] := A352
          have f354 : Exa Z h340 b318 "[C" := (x318.wr W340)
          have ch353 := ch341.trans (CHr.wr W352 (Safe.exa hZ.alike f354 (by decide) (by decide)) ch341.1)
          have sf355 := Safe.wr W352 (Safe.exa hZ.alike f354 (by decide) (by decide)) ch341.1 sf342
          have hk353 := Nat.le_trans hk341 (Keep.of_wr W352).1
          have z356 : n0 ≤ h352.size := Nat.le_trans z343 (Keep.of_wr W352).1
          have n357 := Fr.snoc X352 N351 u318
          refine own_stW (B := T352.setTop (mkF m 249 #[.val (.int arg0), .val (.int arg1), .val (.int arg2), .val (.int v1), .val (.int v2), .val (.int v3), .val (.ref b4), .val (.ref b7), .unset, .unset, .unset] [(.ref b318), (.ref b303), (.ref b303)])) (fun t k => st352 t k) ?_
          refine own_stW (B := T352.setTop (mkF m 250 #[.val (.int arg0), .val (.int arg1), .val (.int arg2), .val (.int v1), .val (.int v2), .val (.int v3), .val (.ref b4), .val (.ref b7), .unset, .unset, .unset] [(.ref b318), (.ref b318), (.ref b303), (.ref b303)])) (fun t k => XS.dup X352.here hx rfl (hb hby at_249) rfl rfl k) ?_
          refine own_stW (B := T352.setTop (mkF m 251 #[.val (.int arg0), .val (.int arg1), .val (.int arg2), .val (.int v1), .val (.int v2), .val (.int v3), .val (.ref b4), .val (.ref b7), .unset, .unset, .unset] [(.int (2 : Int32)), (.ref b318), (.ref b318), (.ref b303), (.ref b303)])) (fun t k => XS.iconst X352.here hx rfl (hb hby at_250) k) ?_
          refine own_stW (B := T352.setTop (mkF m 253 #[.val (.int arg0), .val (.int arg1), .val (.int arg2), .val (.int v1), .val (.int v2), .val (.int v3), .val (.ref b4), .val (.ref b7), .unset, .unset, .unset] [(.ref b4), (.int (2 : Int32)), (.ref b318), (.ref b318), (.ref b303), (.ref b303)])) (fun t k => XS.aload X352.here hx rfl (hb hby at_251) rfl rfl k) ?_
          refine own_stW (B := T352.setTop (mkF m 254 #[.val (.int arg0), .val (.int arg1), .val (.int arg2), .val (.int v1), .val (.int v2), .val (.int v3), .val (.ref b4), .val (.ref b7), .unset, .unset, .unset] [(.int (2 : Int32)), (.ref b4), (.int (2 : Int32)), (.ref b318), (.ref b318), (.ref b303), (.ref b303)])) (fun t k => XS.iconst X352.here hx rfl (hb hby at_253) k) ?_
          refine own_stW (B := T352.setTop (mkF m 256 #[.val (.int arg0), .val (.int arg1), .val (.int arg2), .val (.int v1), .val (.int v2), .val (.int v3), .val (.ref b4), .val (.ref b7), .unset, .unset, .unset] [(.int v2), (.int (2 : Int32)), (.ref b4), (.int (2 : Int32)), (.ref b318), (.ref b318), (.ref b303), (.ref b303)])) (fun t k => XS.iload X352.here hx rfl (hb hby at_254) rfl k) ?_
          refine own_stW (B := T352.setTop (mkF m 258 #[.val (.int arg0), .val (.int arg1), .val (.int arg2), .val (.int v1), .val (.int v2), .val (.int v3), .val (.ref b4), .val (.ref b7), .unset, .unset, .unset] [(.int v3), (.int v2), (.int (2 : Int32)), (.ref b4), (.int (2 : Int32)), (.ref b318), (.ref b318), (.ref b303), (.ref b303)])) (fun t k => XS.iload X352.here hx rfl (hb hby at_256) rfl k) ?_
          have f358 : Exa Z h352 b4 "java/lang/String" := (f345.wr W352)
          have f359 : Fld Z h352 b4 "java/lang/String" "coder" "B" (.int (0 : Int32)) := (f346.other W352 (Or.inl q318_b4))
          have f360 : Fld Z h352 b4 "java/lang/String" "value" "[B" (.ref bb4) := (f347.other W352 (Or.inl q318_b4))
          have f361 : own_A Z h352 bb4 .byte (own_d.map Value.int) := (f348.other W352 q318_bb4)
          have f362 : Sta Z h352 "java/lang/String" "COMPACT_STRINGS" "Z" (.int cs) := (f349.wr W352)
          have f363 : Sta Z h352 "jdk/internal/util/Preconditions" "SIOOBE_FORMATTER" "Ljava/util/function/BiFunction;" u1 := (f350.wr W352)
          obtain ⟨_, _, ⟨T364, L364, k364, j364⟩, -, X364, ⟨Lc364, hQ364, l364, y364_, z364_⟩, st364⟩ := Jvm.LawKit.callS X352 hx (y := (⟨"com/example/goodput/goodput/DeliveryModeNamedPinLaw", "at", "(Ljava/lang/String;IIC)C"⟩ : MethodName)) hown (mvT hZ (w_11 hw)) (mvT hZ (w_12 hw)) (mvT hZ (w_13 hw)) (mvT hZ (w_14 hw)) (by decide) (backOf (W := 5) (rm1 l Z a0 hw [] b4 (2 : Int32) v2 v3 bb4 own_d cs u1 h352 n0 z356 f358 f359 f360 f361 f362 f363 (show 0 ≤ (2 : Int32).toInt by decide) hcc (show own_d.length < 1000 by decide) hcs hu) hZ (w_14 hw) (w_13 hw) (by decide) (by decide)) (g := (mkF m 258 #[.val (.int arg0), .val (.int arg1), .val (.int arg2), .val (.int v1), .val (.int v2), .val (.int v3), .val (.ref b4), .val (.ref b7), .unset, .unset, .unset] [(.int v3), (.int v2), (.int (2 : Int32)), (.ref b4), (.int (2 : Int32)), (.ref b318), (.ref b318), (.ref b303), (.ref b303)])) rfl (by rw [hml]; rfl) (argsL := [(.ref b4), (.int (2 : Int32)), (.int v2), (.int v3)]) (rest := [(.int (2 : Int32)), (.ref b318), (.ref b318), (.ref b303), (.ref b303)]) (lenOf own_pd20 rfl) rfl (by show 2 * 0 + _ ≤ _; exact Nat.le_of_eq rfl) (hb hby at_258) (fun _ _ => ⟨rfl, e352, (by decide : 6 + 0 ≤ _), (by decide : 83 + 0 ≤ _)⟩)
          dsimp only [Pt.U, Pt.locs, Pt.cells, Pt.slots] at X364 l364 y364_ z364_ st364 hQ364
          subst l364 y364_ z364_
          obtain ⟨zc_364, rfl, N364q, e364q, r364_0⟩ := hQ364
          have N364 := Fr.app n357 N364q
          refine own_stW (B := T364.setTop (mkF m 261 #[.val (.int arg0), .val (.int arg1), .val (.int arg2), .val (.int v1), .val (.int v2), .val (.int v3), .val (.ref b4), .val (.ref b7), .unset, .unset, .unset] [(.int zc_364), (.int (2 : Int32)), (.ref b318), (.ref b318), (.ref b303), (.ref b303)])) (fun t k => st364 t k) ?_
          obtain ⟨T365, h365, X365, e365, W365, A365, st365⟩ := own_stC X364 hx hZ e364q f352_ (j := (2 : Int32)) (x := zc_364) (i := 2) (by decide) (show 2 < 7 from by decide) (g := (mkF m 261 #[.val (.int arg0), .val (.int arg1), .val (.int arg2), .val (.int v1), .val (.int v2), .val (.int v3), .val (.ref b4), .val (.ref b7), .unset, .unset, .unset] [(.int zc_364), (.int (2 : Int32)), (.ref b318), (.ref b318), (.ref b303), (.ref b303)])) rfl rfl (hb hby at_261)
          have f365_ : own_A Z h365 b318 .char [(.int (zc_339.toUInt32.toUInt16.toUInt32.toInt32)), (.int (zc_351.toUInt32.toUInt16.toUInt32.toInt32)), (.int (zc_364.toUInt32.toUInt16.toUInt32.toInt32)), (.int (0 : Int32)), (.int (0 : Int32)), (.int (0 : Int32)), (.int (0 : Int32))] := A365
          have f367 : Exa Z h352 b318 "[C" := (f354.wr W352)
          have ch366 := ch353.trans (CHr.wr W365 (Safe.exa hZ.alike f367 (by decide) (by decide)) ch353.1)
          have sf368 := Safe.wr W365 (Safe.exa hZ.alike f367 (by decide) (by decide)) ch353.1 sf355
          have hk366 := Nat.le_trans hk353 (Keep.of_wr W365).1
          have z369 : n0 ≤ h365.size := Nat.le_trans z356 (Keep.of_wr W365).1
          have n370 := Fr.snoc X365 N364 u318
          refine own_stW (B := T365.setTop (mkF m 262 #[.val (.int arg0), .val (.int arg1), .val (.int arg2), .val (.int v1), .val (.int v2), .val (.int v3), .val (.ref b4), .val (.ref b7), .unset, .unset, .unset] [(.ref b318), (.ref b303), (.ref b303)])) (fun t k => st365 t k) ?_
          refine own_stW (B := T365.setTop (mkF m 263 #[.val (.int arg0), .val (.int arg1), .val (.int arg2), .val (.int v1), .val (.int v2), .val (.int v3), .val (.ref b4), .val (.ref b7), .unset, .unset, .unset] [(.ref b318), (.ref b318), (.ref b303), (.ref b303)])) (fun t k => XS.dup X365.here hx rfl (hb hby at_262) rfl rfl k) ?_
          refine own_stW (B := T365.setTop (mkF m 264 #[.val (.int arg0), .val (.int arg1), .val (.int arg2), .val (.int v1), .val (.int v2), .val (.int v3), .val (.ref b4), .val (.ref b7), .unset, .unset, .unset] [(.int (3 : Int32)), (.ref b318), (.ref b318), (.ref b303), (.ref b303)])) (fun t k => XS.iconst X365.here hx rfl (hb hby at_263) k) ?_
          refine own_stW (B := T365.setTop (mkF m 266 #[.val (.int arg0), .val (.int arg1), .val (.int arg2), .val (.int v1), .val (.int v2), .val (.int v3), .val (.ref b4), .val (.ref b7), .unset, .unset, .unset] [(.ref b4), (.int (3 : Int32)), (.ref b318), (.ref b318), (.ref b303), (.ref b303)])) (fun t k => XS.aload X365.here hx rfl (hb hby at_264) rfl rfl k) ?_
          refine own_stW (B := T365.setTop (mkF m 267 #[.val (.int arg0), .val (.int arg1), .val (.int arg2), .val (.int v1), .val (.int v2), .val (.int v3), .val (.ref b4), .val (.ref b7), .unset, .unset, .unset] [(.int (3 : Int32)), (.ref b4), (.int (3 : Int32)), (.ref b318), (.ref b318), (.ref b303), (.ref b303)])) (fun t k => XS.iconst X365.here hx rfl (hb hby at_266) k) ?_
          refine own_stW (B := T365.setTop (mkF m 269 #[.val (.int arg0), .val (.int arg1), .val (.int arg2), .val (.int v1), .val (.int v2), .val (.int v3), .val (.ref b4), .val (.ref b7), .unset, .unset, .unset] [(.int v2), (.int (3 : Int32)), (.ref b4), (.int (3 : Int32)), (.ref b318), (.ref b318), (.ref b303), (.ref b303)])) (fun t k => XS.iload X365.here hx rfl (hb hby at_267) rfl k) ?_
          refine own_stW (B := T365.setTop (mkF m 271 #[.val (.int arg0), .val (.int arg1), .val (.int arg2), .val (.int v1), .val (.int v2), .val (.int v3), .val (.ref b4), .val (.ref b7), .unset, .unset, .unset] [(.int v3), (.int v2), (.int (3 : Int32)), (.ref b4), (.int (3 : Int32)), (.ref b318), (.ref b318), (.ref b303), (.ref b303)])) (fun t k => XS.iload X365.here hx rfl (hb hby at_269) rfl k) ?_
          have f371 : Exa Z h365 b4 "java/lang/String" := (f358.wr W365)
          have f372 : Fld Z h365 b4 "java/lang/String" "coder" "B" (.int (0 : Int32)) := (f359.other W365 (Or.inl q318_b4))
          have f373 : Fld Z h365 b4 "java/lang/String" "value" "[B" (.ref bb4) := (f360.other W365 (Or.inl q318_b4))
          have f374 : own_A Z h365 bb4 .byte (own_d.map Value.int) := (f361.other W365 q318_bb4)
          have f375 : Sta Z h365 "java/lang/String" "COMPACT_STRINGS" "Z" (.int cs) := (f362.wr W365)
          have f376 : Sta Z h365 "jdk/internal/util/Preconditions" "SIOOBE_FORMATTER" "Ljava/util/function/BiFunction;" u1 := (f363.wr W365)
          obtain ⟨_, _, ⟨T377, L377, k377, j377⟩, -, X377, ⟨Lc377, hQ377, l377, y377_, z377_⟩, st377⟩ := Jvm.LawKit.callS X365 hx (y := (⟨"com/example/goodput/goodput/DeliveryModeNamedPinLaw", "at", "(Ljava/lang/String;IIC)C"⟩ : MethodName)) hown (mvT hZ (w_11 hw)) (mvT hZ (w_12 hw)) (mvT hZ (w_13 hw)) (mvT hZ (w_14 hw)) (by decide) (backOf (W := 5) (rm1 l Z a0 hw [] b4 (3 : Int32) v2 v3 bb4 own_d cs u1 h365 n0 z369 f371 f372 f373 f374 f375 f376 (show 0 ≤ (3 : Int32).toInt by decide) hcc (show own_d.length < 1000 by decide) hcs hu) hZ (w_14 hw) (w_13 hw) (by decide) (by decide)) (g := (mkF m 271 #[.val (.int arg0), .val (.int arg1), .val (.int arg2), .val (.int v1), .val (.int v2), .val (.int v3), .val (.ref b4), .val (.ref b7), .unset, .unset, .unset] [(.int v3), (.int v2), (.int (3 : Int32)), (.ref b4), (.int (3 : Int32)), (.ref b318), (.ref b318), (.ref b303), (.ref b303)])) rfl (by rw [hml]; rfl) (argsL := [(.ref b4), (.int (3 : Int32)), (.int v2), (.int v3)]) (rest := [(.int (3 : Int32)), (.ref b318), (.ref b318), (.ref b303), (.ref b303)]) (lenOf own_pd20 rfl) rfl (by show 2 * 0 + _ ≤ _; exact Nat.le_of_eq rfl) (hb hby at_271) (fun _ _ => ⟨rfl, e365, (by decide : 6 + 0 ≤ _), (by decide : 83 + 0 ≤ _)⟩)
          dsimp only [Pt.U, Pt.locs, Pt.cells, Pt.slots] at X377 l377 y377_ z377_ st377 hQ377
          subst l377 y377_ z377_
          obtain ⟨zc_377, rfl, N377q, e377q, r377_0⟩ := hQ377
          have N377 := Fr.app n370 N377q
          refine own_stW (B := T377.setTop (mkF m 274 #[.val (.int arg0), .val (.int arg1), .val (.int arg2), .val (.int v1), .val (.int v2), .val (.int v3), .val (.ref b4), .val (.ref b7), .unset, .unset, .unset] [(.int zc_377), (.int (3 : Int32)), (.ref b318), (.ref b318), (.ref b303), (.ref b303)])) (fun t k => st377 t k) ?_
          obtain ⟨T378, h378, X378, e378, W378, A378, st378⟩ := own_stC X377 hx hZ e377q f365_ (j := (3 : Int32)) (x := zc_377) (i := 3) (by decide) (show 3 < 7 from by decide) (g := (mkF m 274 #[.val (.int arg0), .val (.int arg1), .val (.int arg2), .val (.int v1), .val (.int v2), .val (.int v3), .val (.ref b4), .val (.ref b7), .unset, .unset, .unset] [(.int zc_377), (.int (3 : Int32)), (.ref b318), (.ref b318), (.ref b303), (.ref b303)])) rfl rfl (hb hby at_274)
          have f378_ : own_A Z h378 b318 .char [(.int (zc_339.toUInt32.toUInt16.toUInt32.toInt32)), (.int (zc_351.toUInt32.toUInt16.toUInt32.toInt32)), (.int (zc_364.toUInt32.toUInt16.toUInt32.toInt32)), (.int (zc_377.toUInt32.toUInt16.toUInt32.toInt32)), (.int (0 : Int32)), (.int (0 : Int32)), (.int (0 : Int32))] := A378
          have f380 : Exa Z h365 b318 "[C" := (f367.wr W365)
          have ch379 := ch366.trans (CHr.wr W378 (Safe.exa hZ.alike f380 (by decide) (by decide)) ch366.1)
          have sf381 := Safe.wr W378 (Safe.exa hZ.alike f380 (by decide) (by decide)) ch366.1 sf368
          have hk379 := Nat.le_trans hk366 (Keep.of_wr W378).1
          have z382 : n0 ≤ h378.size := Nat.le_trans z369 (Keep.of_wr W378).1
          have n383 := Fr.snoc X378 N377 u318
          refine own_stW (B := T378.setTop (mkF m 275 #[.val (.int arg0), .val (.int arg1), .val (.int arg2), .val (.int v1), .val (.int v2), .val (.int v3), .val (.ref b4), .val (.ref b7), .unset, .unset, .unset] [(.ref b318), (.ref b303), (.ref b303)])) (fun t k => st378 t k) ?_
          refine own_stW (B := T378.setTop (mkF m 276 #[.val (.int arg0), .val (.int arg1), .val (.int arg2), .val (.int v1), .val (.int v2), .val (.int v3), .val (.ref b4), .val (.ref b7), .unset, .unset, .unset] [(.ref b318), (.ref b318), (.ref b303), (.ref b303)])) (fun t k => XS.dup X378.here hx rfl (hb hby at_275) rfl rfl k) ?_
          refine own_stW (B := T378.setTop (mkF m 277 #[.val (.int arg0), .val (.int arg1), .val (.int arg2), .val (.int v1), .val (.int v2), .val (.int v3), .val (.ref b4), .val (.ref b7), .unset, .unset, .unset] [(.int (4 : Int32)), (.ref b318), (.ref b318), (.ref b303), (.ref b303)])) (fun t k => XS.iconst X378.here hx rfl (hb hby at_276) k) ?_
          refine own_stW (B := T378.setTop (mkF m 279 #[.val (.int arg0), .val (.int arg1), .val (.int arg2), .val (.int v1), .val (.int v2), .val (.int v3), .val (.ref b4), .val (.ref b7), .unset, .unset, .unset] [(.ref b4), (.int (4 : Int32)), (.ref b318), (.ref b318), (.ref b303), (.ref b303)])) (fun t k => XS.aload X378.here hx rfl (hb hby at_277) rfl rfl k) ?_
          refine own_stW (B := T378.setTop (mkF m 280 #[.val (.int arg0), .val (.int arg1), .val (.int arg2), .val (.int v1), .val (.int v2), .val (.int v3), .val (.ref b4), .val (.ref b7), .unset, .unset, .unset] [(.int (4 : Int32)), (.ref b4), (.int (4 : Int32)), (.ref b318), (.ref b318), (.ref b303), (.ref b303)])) (fun t k => XS.iconst X378.here hx rfl (hb hby at_279) k) ?_
          refine own_stW (B := T378.setTop (mkF m 282 #[.val (.int arg0), .val (.int arg1), .val (.int arg2), .val (.int v1), .val (.int v2), .val (.int v3), .val (.ref b4), .val (.ref b7), .unset, .unset, .unset] [(.int v2), (.int (4 : Int32)), (.ref b4), (.int (4 : Int32)), (.ref b318), (.ref b318), (.ref b303), (.ref b303)])) (fun t k => XS.iload X378.here hx rfl (hb hby at_280) rfl k) ?_
          refine own_stW (B := T378.setTop (mkF m 284 #[.val (.int arg0), .val (.int arg1), .val (.int arg2), .val (.int v1), .val (.int v2), .val (.int v3), .val (.ref b4), .val (.ref b7), .unset, .unset, .unset] [(.int v3), (.int v2), (.int (4 : Int32)), (.ref b4), (.int (4 : Int32)), (.ref b318), (.ref b318), (.ref b303), (.ref b303)])) (fun t k => XS.iload X378.here hx rfl (hb hby at_282) rfl k) ?_
          have f384 : Exa Z h378 b4 "java/lang/String" := (f371.wr W378)
          have f385 : Fld Z h378 b4 "java/lang/String" "coder" "B" (.int (0 : Int32)) := (f372.other W378 (Or.inl q318_b4))
          have f386 : Fld Z h378 b4 "java/lang/String" "value" "[B" (.ref bb4) := (f373.other W378 (Or.inl q318_b4))
          have f387 : own_A Z h378 bb4 .byte (own_d.map Value.int) := (f374.other W378 q318_bb4)
          have f388 : Sta Z h378 "java/lang/String" "COMPACT_STRINGS" "Z" (.int cs) := (f375.wr W378)
          have f389 : Sta Z h378 "jdk/internal/util/Preconditions" "SIOOBE_FORMATTER" "Ljava/util/function/BiFunction;" u1 := (f376.wr W378)
          obtain ⟨_, _, ⟨T390, L390, k390, j390⟩, -, X390, ⟨Lc390, hQ390, l390, y390_, z390_⟩, st390⟩ := Jvm.LawKit.callS X378 hx (y := (⟨"com/example/goodput/goodput/DeliveryModeNamedPinLaw", "at", "(Ljava/lang/String;IIC)C"⟩ : MethodName)) hown (mvT hZ (w_11 hw)) (mvT hZ (w_12 hw)) (mvT hZ (w_13 hw)) (mvT hZ (w_14 hw)) (by decide) (backOf (W := 5) (rm1 l Z a0 hw [] b4 (4 : Int32) v2 v3 bb4 own_d cs u1 h378 n0 z382 f384 f385 f386 f387 f388 f389 (show 0 ≤ (4 : Int32).toInt by decide) hcc (show own_d.length < 1000 by decide) hcs hu) hZ (w_14 hw) (w_13 hw) (by decide) (by decide)) (g := (mkF m 284 #[.val (.int arg0), .val (.int arg1), .val (.int arg2), .val (.int v1), .val (.int v2), .val (.int v3), .val (.ref b4), .val (.ref b7), .unset, .unset, .unset] [(.int v3), (.int v2), (.int (4 : Int32)), (.ref b4), (.int (4 : Int32)), (.ref b318), (.ref b318), (.ref b303), (.ref b303)])) rfl (by rw [hml]; rfl) (argsL := [(.ref b4), (.int (4 : Int32)), (.int v2), (.int v3)]) (rest := [(.int (4 : Int32)), (.ref b318), (.ref b318), (.ref b303), (.ref b303)]) (lenOf own_pd20 rfl) rfl (by show 2 * 0 + _ ≤ _; exact Nat.le_of_eq rfl) (hb hby at_284) (fun _ _ => ⟨rfl, e378, (by decide : 6 + 0 ≤ _), (by decide : 83 + 0 ≤ _)⟩)
          dsimp only [Pt.U, Pt.locs, Pt.cells, Pt.slots] at X390 l390 y390_ z390_ st390 hQ390
          subst l390 y390_ z390_
          obtain ⟨zc_390, rfl, N390q, e390q, r390_0⟩ := hQ390
          have N390 := Fr.app n383 N390q
          refine own_stW (B := T390.setTop (mkF m 287 #[.val (.int arg0), .val (.int arg1), .val (.int arg2), .val (.int v1), .val (.int v2), .val (.int v3), .val (.ref b4), .val (.ref b7), .unset, .unset, .unset] [(.int zc_390), (.int (4 : Int32)), (.ref b318), (.ref b318), (.ref b303), (.ref b303)])) (fun t k => st390 t k) ?_
          obtain ⟨T391, h391, X391, e391, W391, A391, st391⟩ := own_stC X390 hx hZ e390q f378_ (j := (4 : Int32)) (x := zc_390) (i := 4) (by decide) (show 4 < 7 from by decide) (g := (mkF m 287 #[.val (.int arg0), .val (.int arg1), .val (.int arg2), .val (.int v1), .val (.int v2), .val (.int v3), .val (.ref b4), .val (.ref b7), .unset, .unset, .unset] [(.int zc_390), (.int (4 : Int32)), (.ref b318), (.ref b318), (.ref b303), (.ref b303)])) rfl rfl (hb hby at_287)
          have f391_ : own_A Z h391 b318 .char [(.int (zc_339.toUInt32.toUInt16.toUInt32.toInt32)), (.int (zc_351.toUInt32.toUInt16.toUInt32.toInt32)), (.int (zc_364.toUInt32.toUInt16.toUInt32.toInt32)), (.int (zc_377.toUInt32.toUInt16.toUInt32.toInt32)), (.int (zc_390.toUInt32.toUInt16.toUInt32.toInt32)), (.int (0 : Int32)), (.int (0 : Int32))] := A391
          have f393 : Exa Z h378 b318 "[C" := (f380.wr W378)
          have ch392 := ch379.trans (CHr.wr W391 (Safe.exa hZ.alike f393 (by decide) (by decide)) ch379.1)
          have sf394 := Safe.wr W391 (Safe.exa hZ.alike f393 (by decide) (by decide)) ch379.1 sf381
          have hk392 := Nat.le_trans hk379 (Keep.of_wr W391).1
          have z395 : n0 ≤ h391.size := Nat.le_trans z382 (Keep.of_wr W391).1
          have n396 := Fr.snoc X391 N390 u318
          refine own_stW (B := T391.setTop (mkF m 288 #[.val (.int arg0), .val (.int arg1), .val (.int arg2), .val (.int v1), .val (.int v2), .val (.int v3), .val (.ref b4), .val (.ref b7), .unset, .unset, .unset] [(.ref b318), (.ref b303), (.ref b303)])) (fun t k => st391 t k) ?_
          refine own_stW (B := T391.setTop (mkF m 289 #[.val (.int arg0), .val (.int arg1), .val (.int arg2), .val (.int v1), .val (.int v2), .val (.int v3), .val (.ref b4), .val (.ref b7), .unset, .unset, .unset] [(.ref b318), (.ref b318), (.ref b303), (.ref b303)])) (fun t k => XS.dup X391.here hx rfl (hb hby at_288) rfl rfl k) ?_
          refine own_stW (B := T391.setTop (mkF m 290 #[.val (.int arg0), .val (.int arg1), .val (.int arg2), .val (.int v1), .val (.int v2), .val (.int v3), .val (.ref b4), .val (.ref b7), .unset, .unset, .unset] [(.int (5 : Int32)), (.ref b318), (.ref b318), (.ref b303), (.ref b303)])) (fun t k => XS.iconst X391.here hx rfl (hb hby at_289) k) ?_
          refine own_stW (B := T391.setTop (mkF m 292 #[.val (.int arg0), .val (.int arg1), .val (.int arg2), .val (.int v1), .val (.int v2), .val (.int v3), .val (.ref b4), .val (.ref b7), .unset, .unset, .unset] [(.ref b4), (.int (5 : Int32)), (.ref b318), (.ref b318), (.ref b303), (.ref b303)])) (fun t k => XS.aload X391.here hx rfl (hb hby at_290) rfl rfl k) ?_
          refine own_stW (B := T391.setTop (mkF m 293 #[.val (.int arg0), .val (.int arg1), .val (.int arg2), .val (.int v1), .val (.int v2), .val (.int v3), .val (.ref b4), .val (.ref b7), .unset, .unset, .unset] [(.int (5 : Int32)), (.ref b4), (.int (5 : Int32)), (.ref b318), (.ref b318), (.ref b303), (.ref b303)])) (fun t k => XS.iconst X391.here hx rfl (hb hby at_292) k) ?_
          refine own_stW (B := T391.setTop (mkF m 295 #[.val (.int arg0), .val (.int arg1), .val (.int arg2), .val (.int v1), .val (.int v2), .val (.int v3), .val (.ref b4), .val (.ref b7), .unset, .unset, .unset] [(.int v2), (.int (5 : Int32)), (.ref b4), (.int (5 : Int32)), (.ref b318), (.ref b318), (.ref b303), (.ref b303)])) (fun t k => XS.iload X391.here hx rfl (hb hby at_293) rfl k) ?_
          refine own_stW (B := T391.setTop (mkF m 297 #[.val (.int arg0), .val (.int arg1), .val (.int arg2), .val (.int v1), .val (.int v2), .val (.int v3), .val (.ref b4), .val (.ref b7), .unset, .unset, .unset] [(.int v3), (.int v2), (.int (5 : Int32)), (.ref b4), (.int (5 : Int32)), (.ref b318), (.ref b318), (.ref b303), (.ref b303)])) (fun t k => XS.iload X391.here hx rfl (hb hby at_295) rfl k) ?_
          have f397 : Exa Z h391 b4 "java/lang/String" := (f384.wr W391)
          have f398 : Fld Z h391 b4 "java/lang/String" "coder" "B" (.int (0 : Int32)) := (f385.other W391 (Or.inl q318_b4))
          have f399 : Fld Z h391 b4 "java/lang/String" "value" "[B" (.ref bb4) := (f386.other W391 (Or.inl q318_b4))
          have f400 : own_A Z h391 bb4 .byte (own_d.map Value.int) := (f387.other W391 q318_bb4)
          have f401 : Sta Z h391 "java/lang/String" "COMPACT_STRINGS" "Z" (.int cs) := (f388.wr W391)
          have f402 : Sta Z h391 "jdk/internal/util/Preconditions" "SIOOBE_FORMATTER" "Ljava/util/function/BiFunction;" u1 := (f389.wr W391)
          obtain ⟨_, _, ⟨T403, L403, k403, j403⟩, -, X403, ⟨Lc403, hQ403, l403, y403_, z403_⟩, st403⟩ := Jvm.LawKit.callS X391 hx (y := (⟨"com/example/goodput/goodput/DeliveryModeNamedPinLaw", "at", "(Ljava/lang/String;IIC)C"⟩ : MethodName)) hown (mvT hZ (w_11 hw)) (mvT hZ (w_12 hw)) (mvT hZ (w_13 hw)) (mvT hZ (w_14 hw)) (by decide) (backOf (W := 5) (rm1 l Z a0 hw [] b4 (5 : Int32) v2 v3 bb4 own_d cs u1 h391 n0 z395 f397 f398 f399 f400 f401 f402 (show 0 ≤ (5 : Int32).toInt by decide) hcc (show own_d.length < 1000 by decide) hcs hu) hZ (w_14 hw) (w_13 hw) (by decide) (by decide)) (g := (mkF m 297 #[.val (.int arg0), .val (.int arg1), .val (.int arg2), .val (.int v1), .val (.int v2), .val (.int v3), .val (.ref b4), .val (.ref b7), .unset, .unset, .unset] [(.int v3), (.int v2), (.int (5 : Int32)), (.ref b4), (.int (5 : Int32)), (.ref b318), (.ref b318), (.ref b303), (.ref b303)])) rfl (by rw [hml]; rfl) (argsL := [(.ref b4), (.int (5 : Int32)), (.int v2), (.int v3)]) (rest := [(.int (5 : Int32)), (.ref b318), (.ref b318), (.ref b303), (.ref b303)]) (lenOf own_pd20 rfl) rfl (by show 2 * 0 + _ ≤ _; exact Nat.le_of_eq rfl) (hb hby at_297) (fun _ _ => ⟨rfl, e391, (by decide : 6 + 0 ≤ _), (by decide : 83 + 0 ≤ _)⟩)
          dsimp only [Pt.U, Pt.locs, Pt.cells, Pt.slots] at X403 l403 y403_ z403_ st403 hQ403
          subst l403 y403_ z403_
          obtain ⟨zc_403, rfl, N403q, e403q, r403_0⟩ := hQ403
          have N403 := Fr.app n396 N403q
          refine own_stW (B := T403.setTop (mkF m 300 #[.val (.int arg0), .val (.int arg1), .val (.int arg2), .val (.int v1), .val (.int v2), .val (.int v3), .val (.ref b4), .val (.ref b7), .unset, .unset, .unset] [(.int zc_403), (.int (5 : Int32)), (.ref b318), (.ref b318), (.ref b303), (.ref b303)])) (fun t k => st403 t k) ?_
          obtain ⟨T404, h404, X404, e404, W404, A404, st404⟩ := own_stC X403 hx hZ e403q f391_ (j := (5 : Int32)) (x := zc_403) (i := 5) (by decide) (show 5 < 7 from by decide) (g := (mkF m 300 #[.val (.int arg0), .val (.int arg1), .val (.int arg2), .val (.int v1), .val (.int v2), .val (.int v3), .val (.ref b4), .val (.ref b7), .unset, .unset, .unset] [(.int zc_403), (.int (5 : Int32)), (.ref b318), (.ref b318), (.ref b303), (.ref b303)])) rfl rfl (hb hby at_300)
          have f404_ : own_A Z h404 b318 .char [(.int (zc_339.toUInt32.toUInt16.toUInt32.toInt32)), (.int (zc_351.toUInt32.toUInt16.toUInt32.toInt32)), (.int (zc_364.toUInt32.toUInt16.toUInt32.toInt32)), (.int (zc_377.toUInt32.toUInt16.toUInt32.toInt32)), (.int (zc_390.toUInt32.toUInt16.toUInt32.toInt32)), (.int (zc_403.toUInt32.toUInt16.toUInt32.toInt32)), (.int (0 : Int32))] := A404
          have f406 : Exa Z h391 b318 "[C" := (f393.wr W391)
          have ch405 := ch392.trans (CHr.wr W404 (Safe.exa hZ.alike f406 (by decide) (by decide)) ch392.1)
          have sf407 := Safe.wr W404 (Safe.exa hZ.alike f406 (by decide) (by decide)) ch392.1 sf394
          have hk405 := Nat.le_trans hk392 (Keep.of_wr W404).1
          have z408 : n0 ≤ h404.size := Nat.le_trans z395 (Keep.of_wr W404).1
          have n409 := Fr.snoc X404 N403 u318
          refine own_stW (B := T404.setTop (mkF m 301 #[.val (.int arg0), .val (.int arg1), .val (.int arg2), .val (.int v1), .val (.int v2), .val (.int v3), .val (.ref b4), .val (.ref b7), .unset, .unset, .unset] [(.ref b318), (.ref b303), (.ref b303)])) (fun t k => st404 t k) ?_
          refine own_stW (B := T404.setTop (mkF m 302 #[.val (.int arg0), .val (.int arg1), .val (.int arg2), .val (.int v1), .val (.int v2), .val (.int v3), .val (.ref b4), .val (.ref b7), .unset, .unset, .unset] [(.ref b318), (.ref b318), (.ref b303), (.ref b303)])) (fun t k => XS.dup X404.here hx rfl (hb hby at_301) rfl rfl k) ?_
          refine own_stW (B := T404.setTop (mkF m 304 #[.val (.int arg0), .val (.int arg1), .val (.int arg2), .val (.int v1), .val (.int v2), .val (.int v3), .val (.ref b4), .val (.ref b7), .unset, .unset, .unset] [(.int (6 : Int32)), (.ref b318), (.ref b318), (.ref b303), (.ref b303)])) (fun t k => XS.bipush X404.here hx rfl (hb hby at_302) k) ?_
          refine own_stW (B := T404.setTop (mkF m 306 #[.val (.int arg0), .val (.int arg1), .val (.int arg2), .val (.int v1), .val (.int v2), .val (.int v3), .val (.ref b4), .val (.ref b7), .unset, .unset, .unset] [(.ref b4), (.int (6 : Int32)), (.ref b318), (.ref b318), (.ref b303), (.ref b303)])) (fun t k => XS.aload X404.here hx rfl (hb hby at_304) rfl rfl k) ?_
          refine own_stW (B := T404.setTop (mkF m 308 #[.val (.int arg0), .val (.int arg1), .val (.int arg2), .val (.int v1), .val (.int v2), .val (.int v3), .val (.ref b4), .val (.ref b7), .unset, .unset, .unset] [(.int (6 : Int32)), (.ref b4), (.int (6 : Int32)), (.ref b318), (.ref b318), (.ref b303), (.ref b303)])) (fun t k => XS.bipush X404.here hx rfl (hb hby at_306) k) ?_
          refine own_stW (B := T404.setTop (mkF m 310 #[.val (.int arg0), .val (.int arg1), .val (.int arg2), .val (.int v1), .val (.int v2), .val (.int v3), .val (.ref b4), .val (.ref b7), .unset, .unset, .unset] [(.int v2), (.int (6 : Int32)), (.ref b4), (.int (6 : Int32)), (.ref b318), (.ref b318), (.ref b303), (.ref b303)])) (fun t k => XS.iload X404.here hx rfl (hb hby at_308) rfl k) ?_
          refine own_stW (B := T404.setTop (mkF m 312 #[.val (.int arg0), .val (.int arg1), .val (.int arg2), .val (.int v1), .val (.int v2), .val (.int v3), .val (.ref b4), .val (.ref b7), .unset, .unset, .unset] [(.int v3), (.int v2), (.int (6 : Int32)), (.ref b4), (.int (6 : Int32)), (.ref b318), (.ref b318), (.ref b303), (.ref b303)])) (fun t k => XS.iload X404.here hx rfl (hb hby at_310) rfl k) ?_
          have f410 : Exa Z h404 b4 "java/lang/String" := (f397.wr W404)
          have f411 : Fld Z h404 b4 "java/lang/String" "coder" "B" (.int (0 : Int32)) := (f398.other W404 (Or.inl q318_b4))
          have f412 : Fld Z h404 b4 "java/lang/String" "value" "[B" (.ref bb4) := (f399.other W404 (Or.inl q318_b4))
          have f413 : own_A Z h404 bb4 .byte (own_d.map Value.int) := (f400.other W404 q318_bb4)
          have f414 : Sta Z h404 "java/lang/String" "COMPACT_STRINGS" "Z" (.int cs) := (f401.wr W404)
          have f415 : Sta Z h404 "jdk/internal/util/Preconditions" "SIOOBE_FORMATTER" "Ljava/util/function/BiFunction;" u1 := (f402.wr W404)
          obtain ⟨_, _, ⟨T416, L416, k416, j416⟩, -, X416, ⟨Lc416, hQ416, l416, y416_, z416_⟩, st416⟩ := Jvm.LawKit.callS X404 hx (y := (⟨"com/example/goodput/goodput/DeliveryModeNamedPinLaw", "at", "(Ljava/lang/String;IIC)C"⟩ : MethodName)) hown (mvT hZ (w_11 hw)) (mvT hZ (w_12 hw)) (mvT hZ (w_13 hw)) (mvT hZ (w_14 hw)) (by decide) (backOf (W := 5) (rm1 l Z a0 hw [] b4 (6 : Int32) v2 v3 bb4 own_d cs u1 h404 n0 z408 f410 f411 f412 f413 f414 f415 (show 0 ≤ (6 : Int32).toInt by decide) hcc (show own_d.length < 1000 by decide) hcs hu) hZ (w_14 hw) (w_13 hw) (by decide) (by decide)) (g := (mkF m 312 #[.val (.int arg0), .val (.int arg1), .val (.int arg2), .val (.int v1), .val (.int v2), .val (.int v3), .val (.ref b4), .val (.ref b7), .unset, .unset, .unset] [(.int v3), (.int v2), (.int (6 : Int32)), (.ref b4), (.int (6 : Int32)), (.ref b318), (.ref b318), (.ref b303), (.ref b303)])) rfl (by rw [hml]; rfl) (argsL := [(.ref b4), (.int (6 : Int32)), (.int v2), (.int v3)]) (rest := [(.int (6 : Int32)), (.ref b318), (.ref b318), (.ref b303), (.ref b303)]) (lenOf own_pd20 rfl) rfl (by show 2 * 0 + _ ≤ _; exact Nat.le_of_eq rfl) (hb hby at_312) (fun _ _ => ⟨rfl, e404, (by decide : 6 + 0 ≤ _), (by decide : 83 + 0 ≤ _)⟩)
          dsimp only [Pt.U, Pt.locs, Pt.cells, Pt.slots] at X416 l416 y416_ z416_ st416 hQ416
          subst l416 y416_ z416_
          obtain ⟨zc_416, rfl, N416q, e416q, r416_0⟩ := hQ416
          have N416 := Fr.app n409 N416q
          refine own_stW (B := T416.setTop (mkF m 315 #[.val (.int arg0), .val (.int arg1), .val (.int arg2), .val (.int v1), .val (.int v2), .val (.int v3), .val (.ref b4), .val (.ref b7), .unset, .unset, .unset] [(.int zc_416), (.int (6 : Int32)), (.ref b318), (.ref b318), (.ref b303), (.ref b303)])) (fun t k => st416 t k) ?_
          obtain ⟨T417, h417, X417, e417, W417, A417, st417⟩ := own_stC X416 hx hZ e416q f404_ (j := (6 : Int32)) (x := zc_416) (i := 6) (by decide) (show 6 < 7 from by decide) (g := (mkF m 315 #[.val (.int arg0), .val (.int arg1), .val (.int arg2), .val (.int v1), .val (.int v2), .val (.int v3), .val (.ref b4), .val (.ref b7), .unset, .unset, .unset] [(.int zc_416), (.int (6 : Int32)), (.ref b318), (.ref b318), (.ref b303), (.ref b303)])) rfl rfl (hb hby at_315)
          have f417_ : own_A Z h417 b318 .char [(.int (zc_339.toUInt32.toUInt16.toUInt32.toInt32)), (.int (zc_351.toUInt32.toUInt16.toUInt32.toInt32)), (.int (zc_364.toUInt32.toUInt16.toUInt32.toInt32)), (.int (zc_377.toUInt32.toUInt16.toUInt32.toInt32)), (.int (zc_390.toUInt32.toUInt16.toUInt32.toInt32)), (.int (zc_403.toUInt32.toUInt16.toUInt32.toInt32)), (.int (zc_416.toUInt32.toUInt16.toUInt32.toInt32))] := by simpa only [List.set_cons_succ, List.set_cons_zero] using A417
          have f419 : Exa Z h404 b318 "[C" := (f406.wr W404)
          have ch418 := ch405.trans (CHr.wr W417 (Safe.exa hZ.alike f419 (by decide) (by decide)) ch405.1)
          have sf420 := Safe.wr W417 (Safe.exa hZ.alike f419 (by decide) (by decide)) ch405.1 sf407
          have hk418 := Nat.le_trans hk405 (Keep.of_wr W417).1
          have z421 : n0 ≤ h417.size := Nat.le_trans z408 (Keep.of_wr W417).1
          have n422 := Fr.snoc X417 N416 u318
          refine own_stW (B := T417.setTop (mkF m 316 #[.val (.int arg0), .val (.int arg1), .val (.int arg2), .val (.int v1), .val (.int v2), .val (.int v3), .val (.ref b4), .val (.ref b7), .unset, .unset, .unset] [(.ref b318), (.ref b303), (.ref b303)])) (fun t k => st417 t k) ?_
          have hvb423 : own_bnd ([(zc_339.toUInt32.toUInt16.toUInt32.toInt32), (zc_351.toUInt32.toUInt16.toUInt32.toInt32), (zc_364.toUInt32.toUInt16.toUInt32.toInt32), (zc_377.toUInt32.toUInt16.toUInt32.toInt32), (zc_390.toUInt32.toUInt16.toUInt32.toInt32), (zc_403.toUInt32.toUInt16.toUInt32.toInt32), (zc_416.toUInt32.toUInt16.toUInt32.toInt32)] : List Int32) := (own_bndS (own_z255 r339_0) (own_bndS (own_z255 r351_0) (own_bndS (own_z255 r364_0) (own_bndS (own_z255 r377_0) (own_bndS (own_z255 r390_0) (own_bndS (own_z255 r403_0) (own_bndS (own_z255 r416_0) own_bnd0)))))))
          have fv423 : own_A Z h417 b318 .char (([(zc_339.toUInt32.toUInt16.toUInt32.toInt32), (zc_351.toUInt32.toUInt16.toUInt32.toInt32), (zc_364.toUInt32.toUInt16.toUInt32.toInt32), (zc_377.toUInt32.toUInt16.toUInt32.toInt32), (zc_390.toUInt32.toUInt16.toUInt32.toInt32), (zc_403.toUInt32.toUInt16.toUInt32.toInt32), (zc_416.toUInt32.toUInt16.toUInt32.toInt32)] : List Int32).map Value.int) := f417_
          have f424 : Exa Z h417 b303 "java/lang/String" := ((((((((A303.ext E318).wr W340).wr W352).wr W365).wr W378).wr W391).wr W404).wr W417)
          have f425 : Fld Z h417 b303 "java/lang/String" "value" "[B" .null := ((((((((f316.ext E318).other W340 (Or.inl q318_b303)).other W352 (Or.inl q318_b303)).other W365 (Or.inl q318_b303)).other W378 (Or.inl q318_b303)).other W391 (Or.inl q318_b303)).other W404 (Or.inl q318_b303)).other W417 (Or.inl q318_b303))
          have f426 : Fld Z h417 b303 "java/lang/String" "coder" "B" (.int (0 : Int32)) := ((((((((f317.ext E318).other W340 (Or.inl q318_b303)).other W352 (Or.inl q318_b303)).other W365 (Or.inl q318_b303)).other W378 (Or.inl q318_b303)).other W391 (Or.inl q318_b303)).other W404 (Or.inl q318_b303)).other W417 (Or.inl q318_b303))
          have f427 : Sta Z h417 "java/lang/String" "COMPACT_STRINGS" "Z" (.int cs) := (f414.wr W417)
          obtain ⟨_, _, ⟨T428, L428, k428, j428⟩, -, X428, ⟨Lc428, hQ428, l428, y428_, z428_⟩, st428⟩ := X417.specialBack hx (y := (⟨"java/lang/String", "<init>", "([C)V"⟩ : MethodName)) rfl hown (mvT hZ (w_50 hw)) (mvT hZ (w_51 hw)) (mvT hZ (w_52 hw)) (by decide) (backOf (W := 1) (rm9 l Z a0 hw [] b303 b318 cs ([(zc_339.toUInt32.toUInt16.toUInt32.toInt32), (zc_351.toUInt32.toUInt16.toUInt32.toInt32), (zc_364.toUInt32.toUInt16.toUInt32.toInt32), (zc_377.toUInt32.toUInt16.toUInt32.toInt32), (zc_390.toUInt32.toUInt16.toUInt32.toInt32), (zc_403.toUInt32.toUInt16.toUInt32.toInt32), (zc_416.toUInt32.toUInt16.toUInt32.toInt32)] : List Int32) h417 n0 z421 f424 f425 f426 fv423 f427 u303 hcs (show ¬ ((7 : Nat) = 0) from (by decide)) (show (7 : Nat) ≤ 16 from (by decide)) hvb423) hZ (w_52 hw) (w_1 hw) (by decide) (by decide)) (g := (mkF m 316 #[.val (.int arg0), .val (.int arg1), .val (.int arg2), .val (.int v1), .val (.int v2), .val (.int v3), .val (.ref b4), .val (.ref b7), .unset, .unset, .unset] [(.ref b318), (.ref b303), (.ref b303)])) rfl (by rw [hml]; rfl) (Steps.refl _) (a := b303) (argsL := [(.ref b318)]) (rest := [(.ref b303)]) (lenOf own_pd21 rfl) rfl (by show 2 * 0 + _ ≤ _; exact Nat.le_of_eq rfl) (hb hby at_316) (fun _ _ => ⟨rfl, e417, (by decide : 6 + 1 ≤ _), (by decide : 83 + 16 ≤ _)⟩)
          dsimp only [Pt.U, Pt.locs, Pt.cells, Pt.slots] at X428 l428 y428_ z428_ st428 hQ428
          subst l428 y428_ z428_
          obtain ⟨b_428, bs_428, rfl, N428q, K428, u428_b, y428_b, p428_0, p428_1, p428_2, p428_3, r428_0⟩ := hQ428
          have N428 := Fr.app n422 N428q
          have f429 : Exa Z h417 va "[Lcom/example/goodput/goodput/DeliveryMode;" := ((((((((f319.ext E318).wr W340).wr W352).wr W365).wr W378).wr W391).wr W404).wr W417)
          have q428_b_va : va ≠ b_428 := Nat.ne_of_lt (Nat.lt_of_lt_of_le f429.lt y428_b)
          have f430 : Fld Z h417 r1 "com/example/goodput/goodput/DeliveryMode" "name" "Ljava/lang/String;" (.ref s1) := ((((((((f320.ext E318).other W340 (Or.inl q318_r1)).other W352 (Or.inl q318_r1)).other W365 (Or.inl q318_r1)).other W378 (Or.inl q318_r1)).other W391 (Or.inl q318_r1)).other W404 (Or.inl q318_r1)).other W417 (Or.inl q318_r1))
          have q428_b_r1 : r1 ≠ b_428 := Nat.ne_of_lt (Nat.lt_of_lt_of_le f430.lt y428_b)
          have f431 : Fld Z h417 r2 "com/example/goodput/goodput/DeliveryMode" "name" "Ljava/lang/String;" (.ref s2) := ((((((((f321.ext E318).other W340 (Or.inl q318_r2)).other W352 (Or.inl q318_r2)).other W365 (Or.inl q318_r2)).other W378 (Or.inl q318_r2)).other W391 (Or.inl q318_r2)).other W404 (Or.inl q318_r2)).other W417 (Or.inl q318_r2))
          have q428_b_r2 : r2 ≠ b_428 := Nat.ne_of_lt (Nat.lt_of_lt_of_le f431.lt y428_b)
          have f432 : Exa Z h417 s1 "java/lang/String" := ((((((((f322.ext E318).wr W340).wr W352).wr W365).wr W378).wr W391).wr W404).wr W417)
          have q428_b_s1 : s1 ≠ b_428 := Nat.ne_of_lt (Nat.lt_of_lt_of_le f432.lt y428_b)
          have f433 : Exa Z h417 s2 "java/lang/String" := ((((((((f323.ext E318).wr W340).wr W352).wr W365).wr W378).wr W391).wr W404).wr W417)
          have q428_b_s2 : s2 ≠ b_428 := Nat.ne_of_lt (Nat.lt_of_lt_of_le f433.lt y428_b)
          have f434 : own_A Z h417 d1 .byte (own_d.map Value.int) := ((((((((f324.ext E318).other W340 q318_d1).other W352 q318_d1).other W365 q318_d1).other W378 q318_d1).other W391 q318_d1).other W404 q318_d1).other W417 q318_d1)
          have q428_b_d1 : d1 ≠ b_428 := Nat.ne_of_lt (Nat.lt_of_lt_of_le f434.lt y428_b)
          have f435 : own_A Z h417 d2 .byte (own_q.map Value.int) := ((((((((f325.ext E318).other W340 q318_d2).other W352 q318_d2).other W365 q318_d2).other W378 q318_d2).other W391 q318_d2).other W404 q318_d2).other W417 q318_d2)
          have q428_b_d2 : d2 ≠ b_428 := Nat.ne_of_lt (Nat.lt_of_lt_of_le f435.lt y428_b)
          have f436 : Exa Z h417 b4 "java/lang/String" := (f410.wr W417)
          have q428_b_b4 : b4 ≠ b_428 := Nat.ne_of_lt (Nat.lt_of_lt_of_le f436.lt y428_b)
          have f437 : own_A Z h417 bb4 .byte (own_d.map Value.int) := (f413.other W417 q318_bb4)
          have q428_b_bb4 : bb4 ≠ b_428 := Nat.ne_of_lt (Nat.lt_of_lt_of_le f437.lt y428_b)
          have f438 : Exa Z h417 b7 "java/lang/String" := ((((((((f328.ext E318).wr W340).wr W352).wr W365).wr W378).wr W391).wr W404).wr W417)
          have q428_b_b7 : b7 ≠ b_428 := Nat.ne_of_lt (Nat.lt_of_lt_of_le f438.lt y428_b)
          have f439 : own_A Z h417 bb7 .byte (own_q.map Value.int) := ((((((((f329.ext E318).other W340 q318_bb7).other W352 q318_bb7).other W365 q318_bb7).other W378 q318_bb7).other W391 q318_bb7).other W404 q318_bb7).other W417 q318_bb7)
          have q428_b_bb7 : bb7 ≠ b_428 := Nat.ne_of_lt (Nat.lt_of_lt_of_le f439.lt y428_b)
          have q428_b_b303 : b303 ≠ b_428 := Nat.ne_of_lt (Nat.lt_of_lt_of_le f424.lt y428_b)
          have q428_b_b318 : b318 ≠ b_428 := Nat.ne_of_lt (Nat.lt_of_lt_of_le fv423.lt y428_b)
          have ch440 := ch418.trans (CHr.keep K428 (allS sf420 all0) ch418.1)
          have sf441 := Safe.keep K428 (allS sf420 all0) ch418.1 sf420
          have hk440 := Nat.le_trans hk418 K428.1
          have z442 : n0 ≤ T428.heap.size := Nat.le_trans z421 K428.1
          refine own_ssW (B := T428.setTop (mkF m 319 #[.val (.int arg0), .val (.int arg1), .val (.int arg2), .val (.int v1), .val (.int v2), .val (.int v3), .val (.ref b4), .val (.ref b7), .unset, .unset, .unset] [(.ref b303)])) st428 ?_
          have hbl428 : bs_428.length < 1000 := by have h9 : bs_428.length = 7 := r428_0; omega
          refine own_stW (B := T428.setTop (mkF m 321 #[.val (.int arg0), .val (.int arg1), .val (.int arg2), .val (.int v1), .val (.int v2), .val (.int v3), .val (.ref b4), .val (.ref b7), .val (.ref b303), .unset, .unset] [])) (fun t k => XS.astore X428.here hx rfl (hb hby at_319) rfl rfl (l' := #[.val (.int arg0), .val (.int arg1), .val (.int arg2), .val (.int v1), .val (.int v2), .val (.int v3), .val (.ref b4), .val (.ref b7), .val (.ref b303), .unset, .unset]) rfl k) ?_
          refine own_stW (B := T428.setTop (mkF m 825 #[.val (.int arg0), .val (.int arg1), .val (.int arg2), .val (.int v1), .val (.int v2), .val (.int v3), .val (.ref b4), .val (.ref b7), .val (.ref b303), .unset, .unset] [])) (fun t k => XS.goto X428.here hx rfl (pc0 := 321) (pc' := 825) rfl (hb hby at_321) (by decide) (by decide) k) ?_
          have x10_ := X428.more (cells' := 10) (slots' := 103) (by decide) (by decide)
          have f443 : Sta Z T428.heap "com/example/goodput/goodput/DeliveryMode" "$VALUES" "[Lcom/example/goodput/goodput/DeliveryMode;" (.ref va) := (own_Sta.keep (((((((((((F0.ext E4).ext E7).ext E303).ext E318).wr W340).wr W352).wr W365).wr W378).wr W391).wr W404).wr W417) K428 (show ∀ st ∈ [b303], ∀ cell : Cell, h417[st]? = some cell → cell.vm.isStatics = false from (allS (own_plainE f424) all0)))
          have f444 : Exa Z T428.heap va "[Lcom/example/goodput/goodput/DeliveryMode;" := (f429.keep K428)
          have f445 : own_A Z T428.heap va (.object "com/example/goodput/goodput/DeliveryMode") [(.ref r1), (.ref r2)] := ((((((((((((F2.ext E4).ext E7).ext E303).ext E318).other W340 q318_va).other W352 q318_va).other W365 q318_va).other W378 q318_va).other W391 q318_va).other W404 q318_va).other W417 q318_va).keep K428 (ninS q303_va nin0))
          have f446 : Fld Z T428.heap r1 "com/example/goodput/goodput/DeliveryMode" "name" "Ljava/lang/String;" (.ref s1) := (f430.keep K428 (ninS q303_r1 nin0))
          have f447 : Fld Z T428.heap r2 "com/example/goodput/goodput/DeliveryMode" "name" "Ljava/lang/String;" (.ref s2) := (f431.keep K428 (ninS q303_r2 nin0))
          have f448 : Exa Z T428.heap s1 "java/lang/String" := (f432.keep K428)
          have f449 : Exa Z T428.heap s2 "java/lang/String" := (f433.keep K428)
          have f450 : Fld Z T428.heap s1 "java/lang/String" "coder" "B" (.int (0 : Int32)) := ((((((((((((F7.ext E4).ext E7).ext E303).ext E318).other W340 (Or.inl q318_s1)).other W352 (Or.inl q318_s1)).other W365 (Or.inl q318_s1)).other W378 (Or.inl q318_s1)).other W391 (Or.inl q318_s1)).other W404 (Or.inl q318_s1)).other W417 (Or.inl q318_s1)).keep K428 (ninS q303_s1 nin0))
          have f451 : Fld Z T428.heap s1 "java/lang/String" "value" "[B" (.ref d1) := ((((((((((((F8.ext E4).ext E7).ext E303).ext E318).other W340 (Or.inl q318_s1)).other W352 (Or.inl q318_s1)).other W365 (Or.inl q318_s1)).other W378 (Or.inl q318_s1)).other W391 (Or.inl q318_s1)).other W404 (Or.inl q318_s1)).other W417 (Or.inl q318_s1)).keep K428 (ninS q303_s1 nin0))
          have f452 : Fld Z T428.heap s2 "java/lang/String" "coder" "B" (.int (0 : Int32)) := ((((((((((((F9.ext E4).ext E7).ext E303).ext E318).other W340 (Or.inl q318_s2)).other W352 (Or.inl q318_s2)).other W365 (Or.inl q318_s2)).other W378 (Or.inl q318_s2)).other W391 (Or.inl q318_s2)).other W404 (Or.inl q318_s2)).other W417 (Or.inl q318_s2)).keep K428 (ninS q303_s2 nin0))
          have f453 : Fld Z T428.heap s2 "java/lang/String" "value" "[B" (.ref d2) := ((((((((((((F10.ext E4).ext E7).ext E303).ext E318).other W340 (Or.inl q318_s2)).other W352 (Or.inl q318_s2)).other W365 (Or.inl q318_s2)).other W378 (Or.inl q318_s2)).other W391 (Or.inl q318_s2)).other W404 (Or.inl q318_s2)).other W417 (Or.inl q318_s2)).keep K428 (ninS q303_s2 nin0))
          have f454 : own_A Z T428.heap d1 .byte (own_d.map Value.int) := (f434.keep K428 (ninS q303_d1 nin0))
          have f455 : own_A Z T428.heap d2 .byte (own_q.map Value.int) := (f435.keep K428 (ninS q303_d2 nin0))
          have f456 : Sta Z T428.heap "com/example/goodput/goodput/DeliveryMode" "DIRECT" "Lcom/example/goodput/goodput/DeliveryMode;" (.ref r1) := (own_Sta.keep (((((((((((F13.ext E4).ext E7).ext E303).ext E318).wr W340).wr W352).wr W365).wr W378).wr W391).wr W404).wr W417) K428 (show ∀ st ∈ [b303], ∀ cell : Cell, h417[st]? = some cell → cell.vm.isStatics = false from (allS (own_plainE f424) all0)))
          have f457 : Sta Z T428.heap "com/example/goodput/goodput/DeliveryMode" "PERSISTENT" "Lcom/example/goodput/goodput/DeliveryMode;" (.ref r2) := (own_Sta.keep (((((((((((F14.ext E4).ext E7).ext E303).ext E318).wr W340).wr W352).wr W365).wr W378).wr W391).wr W404).wr W417) K428 (show ∀ st ∈ [b303], ∀ cell : Cell, h417[st]? = some cell → cell.vm.isStatics = false from (allS (own_plainE f424) all0)))
          have f458 : Sta Z T428.heap "java/lang/String" "COMPACT_STRINGS" "Z" (.int cs) := (own_Sta.keep f427 K428 (show ∀ st ∈ [b303], ∀ cell : Cell, h417[st]? = some cell → cell.vm.isStatics = false from (allS (own_plainE f424) all0)))
          have f459 : Exa Z T428.heap b4 "java/lang/String" := (f436.keep K428)
          have f460 : Fld Z T428.heap b4 "java/lang/String" "coder" "B" (.int (0 : Int32)) := ((f411.other W417 (Or.inl q318_b4)).keep K428 (ninS q303_b4 nin0))
          have f461 : Fld Z T428.heap b4 "java/lang/String" "value" "[B" (.ref bb4) := ((f412.other W417 (Or.inl q318_b4)).keep K428 (ninS q303_b4 nin0))
          have f462 : own_A Z T428.heap bb4 .byte (own_d.map Value.int) := (f437.keep K428 (ninS q303_bb4 nin0))
          have f463 : Exa Z T428.heap b7 "java/lang/String" := (f438.keep K428)
          have f464 : Fld Z T428.heap b7 "java/lang/String" "coder" "B" (.int (0 : Int32)) := ((((((((((C7.ext E303).ext E318).other W340 (Or.inl q318_b7)).other W352 (Or.inl q318_b7)).other W365 (Or.inl q318_b7)).other W378 (Or.inl q318_b7)).other W391 (Or.inl q318_b7)).other W404 (Or.inl q318_b7)).other W417 (Or.inl q318_b7)).keep K428 (ninS q303_b7 nin0))
          have f465 : Fld Z T428.heap b7 "java/lang/String" "value" "[B" (.ref bb7) := ((((((((((V7.ext E303).ext E318).other W340 (Or.inl q318_b7)).other W352 (Or.inl q318_b7)).other W365 (Or.inl q318_b7)).other W378 (Or.inl q318_b7)).other W391 (Or.inl q318_b7)).other W404 (Or.inl q318_b7)).other W417 (Or.inl q318_b7)).keep K428 (ninS q303_b7 nin0))
          have f466 : own_A Z T428.heap bb7 .byte (own_q.map Value.int) := (f439.keep K428 (ninS q303_bb7 nin0))
          exact J10 _ _ T428 _ _ b303 b_428 bs_428 x10_ rfl N428 z442 hS7 hk440 hZ hown ch440 p428_0 p428_2 p428_1 p428_3 f443 f444 f445 f446 f447 f448 f449 f450 f451 f452 f453 f454 f455 f456 f457 f458 f459 f460 f461 f462 f463 f464 f465 f466 (show bs_428.length < 1000 by exact hbl428) (show s1 ≠ b303 by exact q303_s1) (show s2 ≠ b303 by exact q303_s2) (show b4 ≠ b303 by exact q303_b4) (show b7 ≠ b303 by exact q303_b7)
        · refine own_stW (B := T7.setTop (mkF m 324 #[.val (.int arg0), .val (.int arg1), .val (.int arg2), .val (.int v1), .val (.int v2), .val (.int v3), .val (.ref b4), .val (.ref b7), .unset, .unset, .unset] [])) (fun t k => XS.icmpYes X7.here hx rfl (pc0 := 212) (pc' := 324) rfl (hb hby at_212) rfl (XT.ii_ne_t hc302) (by decide) (by decide) k) ?_
          refine own_stW (B := T7.setTop (mkF m 325 #[.val (.int arg0), .val (.int arg1), .val (.int arg2), .val (.int v1), .val (.int v2), .val (.int v3), .val (.ref b4), .val (.ref b7), .unset, .unset, .unset] [(.int v1)])) (fun t k => XS.iloadN X7.here hx rfl (hb hby at_324) rfl k) ?_
          refine own_stW (B := T7.setTop (mkF m 326 #[.val (.int arg0), .val (.int arg1), .val (.int arg2), .val (.int v1), .val (.int v2), .val (.int v3), .val (.ref b4), .val (.ref b7), .unset, .unset, .unset] [(.int (3 : Int32)), (.int v1)])) (fun t k => XS.iconst X7.here hx rfl (hb hby at_325) k) ?_
          by_cases hc467 : v1 = (3 : Int32)
          · refine own_stW (B := T7.setTop (mkF m 329 #[.val (.int arg0), .val (.int arg1), .val (.int arg2), .val (.int v1), .val (.int v2), .val (.int v3), .val (.ref b4), .val (.ref b7), .unset, .unset, .unset] [])) (fun t k => XS.icmpNo X7.here hx rfl (hb hby at_326) rfl (XT.ii_ne_f hc467) k) ?_
            obtain ⟨T468, h468, X468, e468, E468, A468, D468, -, st468⟩ := newO X7 hx hZ hown (w_9 hw) (w_2 hw) (w_1 hw) e7 (g := (mkF m 329 #[.val (.int arg0), .val (.int arg1), .val (.int arg2), .val (.int v1), .val (.int v2), .val (.int v3), .val (.ref b4), .val (.ref b7), .unset, .unset, .unset] [])) rfl (hb hby at_329) (by decide) (by decide)
            obtain ⟨b468, g468⟩ : ∃ z, z = h7.size := ⟨_, rfl⟩
            rw [← g468] at A468 D468 st468
            have f469 : Exa Z h7 va "[Lcom/example/goodput/goodput/DeliveryMode;" := ((F1.ext E4).ext E7)
            have q468_va : va ≠ b468 := Nat.ne_of_lt (Nat.lt_of_lt_of_le f469.lt (Nat.le_of_eq g468.symm))
            have f470 : Fld Z h7 r1 "com/example/goodput/goodput/DeliveryMode" "name" "Ljava/lang/String;" (.ref s1) := ((F3.ext E4).ext E7)
            have q468_r1 : r1 ≠ b468 := Nat.ne_of_lt (Nat.lt_of_lt_of_le f470.lt (Nat.le_of_eq g468.symm))
            have f471 : Fld Z h7 r2 "com/example/goodput/goodput/DeliveryMode" "name" "Ljava/lang/String;" (.ref s2) := ((F4.ext E4).ext E7)
            have q468_r2 : r2 ≠ b468 := Nat.ne_of_lt (Nat.lt_of_lt_of_le f471.lt (Nat.le_of_eq g468.symm))
            have f472 : Exa Z h7 s1 "java/lang/String" := ((F5.ext E4).ext E7)
            have q468_s1 : s1 ≠ b468 := Nat.ne_of_lt (Nat.lt_of_lt_of_le f472.lt (Nat.le_of_eq g468.symm))
            have f473 : Exa Z h7 s2 "java/lang/String" := ((F6.ext E4).ext E7)
            have q468_s2 : s2 ≠ b468 := Nat.ne_of_lt (Nat.lt_of_lt_of_le f473.lt (Nat.le_of_eq g468.symm))
            have f474 : own_A Z h7 d1 .byte (own_d.map Value.int) := ((F11.ext E4).ext E7)
            have q468_d1 : d1 ≠ b468 := Nat.ne_of_lt (Nat.lt_of_lt_of_le f474.lt (Nat.le_of_eq g468.symm))
            have f475 : own_A Z h7 d2 .byte (own_q.map Value.int) := ((F12.ext E4).ext E7)
            have q468_d2 : d2 ≠ b468 := Nat.ne_of_lt (Nat.lt_of_lt_of_le f475.lt (Nat.le_of_eq g468.symm))
            have f476 : Exa Z h7 b4 "java/lang/String" := (A4.ext E7)
            have q468_b4 : b4 ≠ b468 := Nat.ne_of_lt (Nat.lt_of_lt_of_le f476.lt (Nat.le_of_eq g468.symm))
            have f477 : own_A Z h7 bb4 .byte (own_d.map Value.int) := (fa4.ext E7)
            have q468_bb4 : bb4 ≠ b468 := Nat.ne_of_lt (Nat.lt_of_lt_of_le f477.lt (Nat.le_of_eq g468.symm))
            have q468_b7 : b7 ≠ b468 := Nat.ne_of_lt (Nat.lt_of_lt_of_le A7.lt (Nat.le_of_eq g468.symm))
            have q468_bb7 : bb7 ≠ b468 := Nat.ne_of_lt (Nat.lt_of_lt_of_le fa7.lt (Nat.le_of_eq g468.symm))
            have u468 : n0 ≤ b468 := Nat.le_trans z9 (Nat.le_of_eq g468.symm)
            have ch478 := ch8.trans (CHr.ext E468 ch8.1)
            have sf479 := Safe.ext E468 ch8.1 (Safe.new (Nat.le_of_eq g468.symm))
            have hk478 := Nat.le_trans hk7 E468.1
            have z480 : n0 ≤ h468.size := Nat.le_trans z9 E468.1
            have f481 : Fld Z h468 b468 "java/lang/String" "value" "[B" .null := D468 (Or.inr (w_4 hw)) (ty := (.array .byte)) (by decide)
            have f482 : Fld Z h468 b468 "java/lang/String" "coder" "B" (.int (0 : Int32)) := D468 (Or.inr (w_5 hw)) (ty := .byte) (by decide)
            refine own_stW (B := T468.setTop (mkF m 332 #[.val (.int arg0), .val (.int arg1), .val (.int arg2), .val (.int v1), .val (.int v2), .val (.int v3), .val (.ref b4), .val (.ref b7), .unset, .unset, .unset] [(.ref b468)])) (fun t k => st468 t k) ?_
            refine own_stW (B := T468.setTop (mkF m 333 #[.val (.int arg0), .val (.int arg1), .val (.int arg2), .val (.int v1), .val (.int v2), .val (.int v3), .val (.ref b4), .val (.ref b7), .unset, .unset, .unset] [(.ref b468), (.ref b468)])) (fun t k => XS.dup X468.here hx rfl (hb hby at_332) rfl rfl k) ?_
            refine own_stW (B := T468.setTop (mkF m 335 #[.val (.int arg0), .val (.int arg1), .val (.int arg2), .val (.int v1), .val (.int v2), .val (.int v3), .val (.ref b4), .val (.ref b7), .unset, .unset, .unset] [(.int (9 : Int32)), (.ref b468), (.ref b468)])) (fun t k => XS.bipush X468.here hx rfl (hb hby at_333) k) ?_
            obtain ⟨T483, h483, X483, e483, E483, A483, x483, st483⟩ := own_newP X468 hx hZ (aty := .char) (w_10 hw) e468 (g := (mkF m 335 #[.val (.int arg0), .val (.int arg1), .val (.int arg2), .val (.int v1), .val (.int v2), .val (.int v3), .val (.ref b4), .val (.ref b7), .unset, .unset, .unset] [(.int (9 : Int32)), (.ref b468), (.ref b468)])) rfl (hb hby at_335) (n := (9 : Int32)) (rest := [(.ref b468), (.ref b468)]) rfl (k := 9) (cap := 9) (by decide) (Nat.le_refl _) (by decide) (by decide) (by decide) (ad := "[C") rfl
            obtain ⟨b483, g483⟩ : ∃ z, z = h468.size := ⟨_, rfl⟩
            rw [← g483] at A483 x483 st483
            have f484 : Exa Z h468 va "[Lcom/example/goodput/goodput/DeliveryMode;" := (f469.ext E468)
            have q483_va : va ≠ b483 := Nat.ne_of_lt (Nat.lt_of_lt_of_le f484.lt (Nat.le_of_eq g483.symm))
            have f485 : Fld Z h468 r1 "com/example/goodput/goodput/DeliveryMode" "name" "Ljava/lang/String;" (.ref s1) := (f470.ext E468)
            have q483_r1 : r1 ≠ b483 := Nat.ne_of_lt (Nat.lt_of_lt_of_le f485.lt (Nat.le_of_eq g483.symm))
            have f486 : Fld Z h468 r2 "com/example/goodput/goodput/DeliveryMode" "name" "Ljava/lang/String;" (.ref s2) := (f471.ext E468)
            have q483_r2 : r2 ≠ b483 := Nat.ne_of_lt (Nat.lt_of_lt_of_le f486.lt (Nat.le_of_eq g483.symm))
            have f487 : Exa Z h468 s1 "java/lang/String" := (f472.ext E468)
            have q483_s1 : s1 ≠ b483 := Nat.ne_of_lt (Nat.lt_of_lt_of_le f487.lt (Nat.le_of_eq g483.symm))
            have f488 : Exa Z h468 s2 "java/lang/String" := (f473.ext E468)
            have q483_s2 : s2 ≠ b483 := Nat.ne_of_lt (Nat.lt_of_lt_of_le f488.lt (Nat.le_of_eq g483.symm))
            have f489 : own_A Z h468 d1 .byte (own_d.map Value.int) := (f474.ext E468)
            have q483_d1 : d1 ≠ b483 := Nat.ne_of_lt (Nat.lt_of_lt_of_le f489.lt (Nat.le_of_eq g483.symm))
            have f490 : own_A Z h468 d2 .byte (own_q.map Value.int) := (f475.ext E468)
            have q483_d2 : d2 ≠ b483 := Nat.ne_of_lt (Nat.lt_of_lt_of_le f490.lt (Nat.le_of_eq g483.symm))
            have f491 : Exa Z h468 b4 "java/lang/String" := (f476.ext E468)
            have q483_b4 : b4 ≠ b483 := Nat.ne_of_lt (Nat.lt_of_lt_of_le f491.lt (Nat.le_of_eq g483.symm))
            have f492 : own_A Z h468 bb4 .byte (own_d.map Value.int) := (f477.ext E468)
            have q483_bb4 : bb4 ≠ b483 := Nat.ne_of_lt (Nat.lt_of_lt_of_le f492.lt (Nat.le_of_eq g483.symm))
            have f493 : Exa Z h468 b7 "java/lang/String" := (A7.ext E468)
            have q483_b7 : b7 ≠ b483 := Nat.ne_of_lt (Nat.lt_of_lt_of_le f493.lt (Nat.le_of_eq g483.symm))
            have f494 : own_A Z h468 bb7 .byte (own_q.map Value.int) := (fa7.ext E468)
            have q483_bb7 : bb7 ≠ b483 := Nat.ne_of_lt (Nat.lt_of_lt_of_le f494.lt (Nat.le_of_eq g483.symm))
            have q483_b468 : b468 ≠ b483 := Nat.ne_of_lt (Nat.lt_of_lt_of_le A468.lt (Nat.le_of_eq g483.symm))
            have u483 : n0 ≤ b483 := Nat.le_trans z480 (Nat.le_of_eq g483.symm)
            have ch495 := ch478.trans (CHr.ext E483 ch478.1)
            have sf496 := Safe.ext E483 ch478.1 sf479
            have hk495 := Nat.le_trans hk478 E483.1
            have z497 : n0 ≤ h483.size := Nat.le_trans z480 E483.1
            have f483_ : own_A Z h483 b483 .char [(.int (0 : Int32)), (.int (0 : Int32)), (.int (0 : Int32)), (.int (0 : Int32)), (.int (0 : Int32)), (.int (0 : Int32)), (.int (0 : Int32)), (.int (0 : Int32)), (.int (0 : Int32))] := A483
            refine own_stW (B := T483.setTop (mkF m 337 #[.val (.int arg0), .val (.int arg1), .val (.int arg2), .val (.int v1), .val (.int v2), .val (.int v3), .val (.ref b4), .val (.ref b7), .unset, .unset, .unset] [(.ref b483), (.ref b468), (.ref b468)])) (fun t k => st483 t k) ?_
            refine own_stW (B := T483.setTop (mkF m 338 #[.val (.int arg0), .val (.int arg1), .val (.int arg2), .val (.int v1), .val (.int v2), .val (.int v3), .val (.ref b4), .val (.ref b7), .unset, .unset, .unset] [(.ref b483), (.ref b483), (.ref b468), (.ref b468)])) (fun t k => XS.dup X483.here hx rfl (hb hby at_337) rfl rfl k) ?_
            refine own_stW (B := T483.setTop (mkF m 339 #[.val (.int arg0), .val (.int arg1), .val (.int arg2), .val (.int v1), .val (.int v2), .val (.int v3), .val (.ref b4), .val (.ref b7), .unset, .unset, .unset] [(.int (0 : Int32)), (.ref b483), (.ref b483), (.ref b468), (.ref b468)])) (fun t k => XS.iconst X483.here hx rfl (hb hby at_338) k) ?_
            refine own_stW (B := T483.setTop (mkF m 341 #[.val (.int arg0), .val (.int arg1), .val (.int arg2), .val (.int v1), .val (.int v2), .val (.int v3), .val (.ref b4), .val (.ref b7), .unset, .unset, .unset] [(.ref b7), (.int (0 : Int32)), (.ref b483), (.ref b483), (.ref b468), (.ref b468)])) (fun t k => XS.aload X483.here hx rfl (hb hby at_339) rfl rfl k) ?_
            refine own_stW (B := T483.setTop (mkF m 342 #[.val (.int arg0), .val (.int arg1), .val (.int arg2), .val (.int v1), .val (.int v2), .val (.int v3), .val (.ref b4), .val (.ref b7), .unset, .unset, .unset] [(.int (0 : Int32)), (.ref b7), (.int (0 : Int32)), (.ref b483), (.ref b483), (.ref b468), (.ref b468)])) (fun t k => XS.iconst X483.here hx rfl (hb hby at_341) k) ?_
            refine own_stW (B := T483.setTop (mkF m 344 #[.val (.int arg0), .val (.int arg1), .val (.int arg2), .val (.int v1), .val (.int v2), .val (.int v3), .val (.ref b4), .val (.ref b7), .unset, .unset, .unset] [(.int v2), (.int (0 : Int32)), (.ref b7), (.int (0 : Int32)), (.ref b483), (.ref b483), (.ref b468), (.ref b468)])) (fun t k => XS.iload X483.here hx rfl (hb hby at_342) rfl k) ?_
            refine own_stW (B := T483.setTop (mkF m 346 #[.val (.int arg0), .val (.int arg1), .val (.int arg2), .val (.int v1), .val (.int v2), .val (.int v3), .val (.ref b4), .val (.ref b7), .unset, .unset, .unset] [(.int v3), (.int v2), (.int (0 : Int32)), (.ref b7), (.int (0 : Int32)), (.ref b483), (.ref b483), (.ref b468), (.ref b468)])) (fun t k => XS.iload X483.here hx rfl (hb hby at_344) rfl k) ?_
            have f498 : Exa Z h483 b7 "java/lang/String" := (f493.ext E483)
            have f499 : Fld Z h483 b7 "java/lang/String" "coder" "B" (.int (0 : Int32)) := ((C7.ext E468).ext E483)
            have f500 : Fld Z h483 b7 "java/lang/String" "value" "[B" (.ref bb7) := ((V7.ext E468).ext E483)
            have f501 : own_A Z h483 bb7 .byte (own_q.map Value.int) := (f494.ext E483)
            have f502 : Sta Z h483 "java/lang/String" "COMPACT_STRINGS" "Z" (.int cs) := ((((F15.ext E4).ext E7).ext E468).ext E483)
            have f503 : Sta Z h483 "jdk/internal/util/Preconditions" "SIOOBE_FORMATTER" "Ljava/util/function/BiFunction;" u1 := ((((F16.ext E4).ext E7).ext E468).ext E483)
            obtain ⟨_, _, ⟨T504, L504, k504, j504⟩, -, X504, ⟨Lc504, hQ504, l504, y504_, z504_⟩, st504⟩ := Jvm.LawKit.callS X483 hx (y := (⟨"com/example/goodput/goodput/DeliveryModeNamedPinLaw", "at", "(Ljava/lang/String;IIC)C"⟩ : MethodName)) hown (mvT hZ (w_11 hw)) (mvT hZ (w_12 hw)) (mvT hZ (w_13 hw)) (mvT hZ (w_14 hw)) (by decide) (backOf (W := 5) (rm1 l Z a0 hw [] b7 (0 : Int32) v2 v3 bb7 own_q cs u1 h483 n0 z497 f498 f499 f500 f501 f502 f503 (show 0 ≤ (0 : Int32).toInt by decide) hcc (show own_q.length < 1000 by decide) hcs hu) hZ (w_14 hw) (w_13 hw) (by decide) (by decide)) (g := (mkF m 346 #[.val (.int arg0), .val (.int arg1), .val (.int arg2), .val (.int v1), .val (.int v2), .val (.int v3), .val (.ref b4), .val (.ref b7), .unset, .unset, .unset] [(.int v3), (.int v2), (.int (0 : Int32)), (.ref b7), (.int (0 : Int32)), (.ref b483), (.ref b483), (.ref b468), (.ref b468)])) rfl (by rw [hml]; rfl) (argsL := [(.ref b7), (.int (0 : Int32)), (.int v2), (.int v3)]) (rest := [(.int (0 : Int32)), (.ref b483), (.ref b483), (.ref b468), (.ref b468)]) (lenOf own_pd20 rfl) rfl (by show 2 * 0 + _ ≤ _; exact Nat.le_of_eq rfl) (hb hby at_346) (fun _ _ => ⟨rfl, e483, (by decide : 6 + 0 ≤ _), (by decide : 85 + 0 ≤ _)⟩)
            dsimp only [Pt.U, Pt.locs, Pt.cells, Pt.slots] at X504 l504 y504_ z504_ st504 hQ504
            subst l504 y504_ z504_
            obtain ⟨zc_504, rfl, N504q, e504q, r504_0⟩ := hQ504
            have N504 := Fr.app N0 N504q
            refine own_stW (B := T504.setTop (mkF m 349 #[.val (.int arg0), .val (.int arg1), .val (.int arg2), .val (.int v1), .val (.int v2), .val (.int v3), .val (.ref b4), .val (.ref b7), .unset, .unset, .unset] [(.int zc_504), (.int (0 : Int32)), (.ref b483), (.ref b483), (.ref b468), (.ref b468)])) (fun t k => st504 t k) ?_
            obtain ⟨T505, h505, X505, e505, W505, A505, st505⟩ := own_stC X504 hx hZ e504q f483_ (j := (0 : Int32)) (x := zc_504) (i := 0) (by decide) (show 0 < 9 from by decide) (g := (mkF m 349 #[.val (.int arg0), .val (.int arg1), .val (.int arg2), .val (.int v1), .val (.int v2), .val (.int v3), .val (.ref b4), .val (.ref b7), .unset, .unset, .unset] [(.int zc_504), (.int (0 : Int32)), (.ref b483), (.ref b483), (.ref b468), (.ref b468)])) rfl rfl (hb hby at_349)
            have f505_ : own_A Z h505 b483 .char [(.int (zc_504.toUInt32.toUInt16.toUInt32.toInt32)), (.int (0 : Int32)), (.int (0 : Int32)), (.int (0 : Int32)), (.int (0 : Int32)), (.int (0 : Int32)), (.int (0 : Int32)), (.int (0 : Int32)), (.int (0 : Int32))] := A505
            have ch506 := ch495.trans (CHr.wr W505 (Safe.exa hZ.alike x483 (by decide) (by decide)) ch495.1)
            have sf507 := Safe.wr W505 (Safe.exa hZ.alike x483 (by decide) (by decide)) ch495.1 sf496
            have hk506 := Nat.le_trans hk495 (Keep.of_wr W505).1
            have z508 : n0 ≤ h505.size := Nat.le_trans z497 (Keep.of_wr W505).1
            have n509 := Fr.snoc X505 N504 u483
            refine own_stW (B := T505.setTop (mkF m 350 #[.val (.int arg0), .val (.int arg1), .val (.int arg2), .val (.int v1), .val (.int v2), .val (.int v3), .val (.ref b4), .val (.ref b7), .unset, .unset, .unset] [(.ref b483), (.ref b468), (.ref b468)])) (fun t k => st505 t k) ?_
            refine own_stW (B := T505.setTop (mkF m 351 #[.val (.int arg0), .val (.int arg1), .val (.int arg2), .val (.int v1), .val (.int v2), .val (.int v3), .val (.ref b4), .val (.ref b7), .unset, .unset, .unset] [(.ref b483), (.ref b483), (.ref b468), (.ref b468)])) (fun t k => XS.dup X505.here hx rfl (hb hby at_350) rfl rfl k) ?_
            refine own_stW (B := T505.setTop (mkF m 352 #[.val (.int arg0), .val (.int arg1), .val (.int arg2), .val (.int v1), .val (.int v2), .val (.int v3), .val (.ref b4), .val (.ref b7), .unset, .unset, .unset] [(.int (1 : Int32)), (.ref b483), (.ref b483), (.ref b468), (.ref b468)])) (fun t k => XS.iconst X505.here hx rfl (hb hby at_351) k) ?_
            refine own_stW (B := T505.setTop (mkF m 354 #[.val (.int arg0), .val (.int arg1), .val (.int arg2), .val (.int v1), .val (.int v2), .val (.int v3), .val (.ref b4), .val (.ref b7), .unset, .unset, .unset] [(.ref b7), (.int (1 : Int32)), (.ref b483), (.ref b483), (.ref b468), (.ref b468)])) (fun t k => XS.aload X505.here hx rfl (hb hby at_352) rfl rfl k) ?_
            refine own_stW (B := T505.setTop (mkF m 355 #[.val (.int arg0), .val (.int arg1), .val (.int arg2), .val (.int v1), .val (.int v2), .val (.int v3), .val (.ref b4), .val (.ref b7), .unset, .unset, .unset] [(.int (1 : Int32)), (.ref b7), (.int (1 : Int32)), (.ref b483), (.ref b483), (.ref b468), (.ref b468)])) (fun t k => XS.iconst X505.here hx rfl (hb hby at_354) k) ?_
            refine own_stW (B := T505.setTop (mkF m 357 #[.val (.int arg0), .val (.int arg1), .val (.int arg2), .val (.int v1), .val (.int v2), .val (.int v3), .val (.ref b4), .val (.ref b7), .unset, .unset, .unset] [(.int v2), (.int (1 : Int32)), (.ref b7), (.int (1 : Int32)), (.ref b483), (.ref b483), (.ref b468), (.ref b468)])) (fun t k => XS.iload X505.here hx rfl (hb hby at_355) rfl k) ?_
            refine own_stW (B := T505.setTop (mkF m 359 #[.val (.int arg0), .val (.int arg1), .val (.int arg2), .val (.int v1), .val (.int v2), .val (.int v3), .val (.ref b4), .val (.ref b7), .unset, .unset, .unset] [(.int v3), (.int v2), (.int (1 : Int32)), (.ref b7), (.int (1 : Int32)), (.ref b483), (.ref b483), (.ref b468), (.ref b468)])) (fun t k => XS.iload X505.here hx rfl (hb hby at_357) rfl k) ?_
            have f510 : Exa Z h505 b7 "java/lang/String" := (f498.wr W505)
            have f511 : Fld Z h505 b7 "java/lang/String" "coder" "B" (.int (0 : Int32)) := (f499.other W505 (Or.inl q483_b7))
            have f512 : Fld Z h505 b7 "java/lang/String" "value" "[B" (.ref bb7) := (f500.other W505 (Or.inl q483_b7))
            have f513 : own_A Z h505 bb7 .byte (own_q.map Value.int) := (f501.other W505 q483_bb7)
            have f514 : Sta Z h505 "java/lang/String" "COMPACT_STRINGS" "Z" (.int cs) := (f502.wr W505)
            have f515 : Sta Z h505 "jdk/internal/util/Preconditions" "SIOOBE_FORMATTER" "Ljava/util/function/BiFunction;" u1 := (f503.wr W505)
            obtain ⟨_, _, ⟨T516, L516, k516, j516⟩, -, X516, ⟨Lc516, hQ516, l516, y516_, z516_⟩, st516⟩ := Jvm.LawKit.callS X505 hx (y := (⟨"com/example/goodput/goodput/DeliveryModeNamedPinLaw", "at", "(Ljava/lang/String;IIC)C"⟩ : MethodName)) hown (mvT hZ (w_11 hw)) (mvT hZ (w_12 hw)) (mvT hZ (w_13 hw)) (mvT hZ (w_14 hw)) (by decide) (backOf (W := 5) (rm1 l Z a0 hw [] b7 (1 : Int32) v2 v3 bb7 own_q cs u1 h505 n0 z508 f510 f511 f512 f513 f514 f515 (show 0 ≤ (1 : Int32).toInt by decide) hcc (show own_q.length < 1000 by decide) hcs hu) hZ (w_14 hw) (w_13 hw) (by decide) (by decide)) (g := (mkF m 359 #[.val (.int arg0), .val (.int arg1), .val (.int arg2), .val (.int v1), .val (.int v2), .val (.int v3), .val (.ref b4), .val (.ref b7), .unset, .unset, .unset] [(.int v3), (.int v2), (.int (1 : Int32)), (.ref b7), (.int (1 : Int32)), (.ref b483), (.ref b483), (.ref b468), (.ref b468)])) rfl (by rw [hml]; rfl) (argsL := [(.ref b7), (.int (1 : Int32)), (.int v2), (.int v3)]) (rest := [(.int (1 : Int32)), (.ref b483), (.ref b483), (.ref b468), (.ref b468)]) (lenOf own_pd20 rfl) rfl (by show 2 * 0 + _ ≤ _; exact Nat.le_of_eq rfl) (hb hby at_359) (fun _ _ => ⟨rfl, e505, (by decide : 6 + 0 ≤ _), (by decide : 85 + 0 ≤ _)⟩)
            dsimp only [Pt.U, Pt.locs, Pt.cells, Pt.slots] at X516 l516 y516_ z516_ st516 hQ516
            subst l516 y516_ z516_
            obtain ⟨zc_516, rfl, N516q, e516q, r516_0⟩ := hQ516
            have N516 := Fr.app n509 N516q
            refine own_stW (B := T516.setTop (mkF m 362 #[.val (.int arg0), .val (.int arg1), .val (.int arg2), .val (.int v1), .val (.int v2), .val (.int v3), .val (.ref b4), .val (.ref b7), .unset, .unset, .unset] [(.int zc_516), (.int (1 : Int32)), (.ref b483), (.ref b483), (.ref b468), (.ref b468)])) (fun t k => st516 t k) ?_
            obtain ⟨T517, h517, X517, e517, W517, A517, st517⟩ := own_stC X516 hx hZ e516q f505_ (j := (1 : Int32)) (x := zc_516) (i := 1) (by decide) (show 1 < 9 from by decide) (g := (mkF m 362 #[.val (.int arg0), .val (.int arg1), .val (.int arg2), .val (.int v1), .val (.int v2), .val (.int v3), .val (.ref b4), .val (.ref b7), .unset, .unset, .unset] [(.int zc_516), (.int (1 : Int32)), (.ref b483), (.ref b483), (.ref b468), (.ref b468)])) rfl rfl (hb hby at_362)
            have f517_ : own_A Z h517 b483 .char [(.int (zc_504.toUInt32.toUInt16.toUInt32.toInt32)), (.int (zc_516.toUInt32.toUInt16.toUInt32.toInt32)), (.int (0 : Int32)), (.int (0 : Int32)), (.int (0 : Int32)), (.int (0 : Int32)), (.int (0 : Int32)), (.int (0 : Int32)), (.int (0 : Int32))] := A517
            have f519 : Exa Z h505 b483 "[C" := (x483.wr W505)
            have ch518 := ch506.trans (CHr.wr W517 (Safe.exa hZ.alike f519 (by decide) (by decide)) ch506.1)
            have sf520 := Safe.wr W517 (Safe.exa hZ.alike f519 (by decide) (by decide)) ch506.1 sf507
            have hk518 := Nat.le_trans hk506 (Keep.of_wr W517).1
            have z521 : n0 ≤ h517.size := Nat.le_trans z508 (Keep.of_wr W517).1
            have n522 := Fr.snoc X517 N516 u483
            refine own_stW (B := T517.setTop (mkF m 363 #[.val (.int arg0), .val (.int arg1), .val (.int arg2), .val (.int v1), .val (.int v2), .val (.int v3), .val (.ref b4), .val (.ref b7), .unset, .unset, .unset] [(.ref b483), (.ref b468), (.ref b468)])) (fun t k => st517 t k) ?_
            refine own_stW (B := T517.setTop (mkF m 364 #[.val (.int arg0), .val (.int arg1), .val (.int arg2), .val (.int v1), .val (.int v2), .val (.int v3), .val (.ref b4), .val (.ref b7), .unset, .unset, .unset] [(.ref b483), (.ref b483), (.ref b468), (.ref b468)])) (fun t k => XS.dup X517.here hx rfl (hb hby at_363) rfl rfl k) ?_
            refine own_stW (B := T517.setTop (mkF m 365 #[.val (.int arg0), .val (.int arg1), .val (.int arg2), .val (.int v1), .val (.int v2), .val (.int v3), .val (.ref b4), .val (.ref b7), .unset, .unset, .unset] [(.int (2 : Int32)), (.ref b483), (.ref b483), (.ref b468), (.ref b468)])) (fun t k => XS.iconst X517.here hx rfl (hb hby at_364) k) ?_
            refine own_stW (B := T517.setTop (mkF m 367 #[.val (.int arg0), .val (.int arg1), .val (.int arg2), .val (.int v1), .val (.int v2), .val (.int v3), .val (.ref b4), .val (.ref b7), .unset, .unset, .unset] [(.ref b7), (.int (2 : Int32)), (.ref b483), (.ref b483), (.ref b468), (.ref b468)])) (fun t k => XS.aload X517.here hx rfl (hb hby at_365) rfl rfl k) ?_
            refine own_stW (B := T517.setTop (mkF m 368 #[.val (.int arg0), .val (.int arg1), .val (.int arg2), .val (.int v1), .val (.int v2), .val (.int v3), .val (.ref b4), .val (.ref b7), .unset, .unset, .unset] [(.int (2 : Int32)), (.ref b7), (.int (2 : Int32)), (.ref b483), (.ref b483), (.ref b468), (.ref b468)])) (fun t k => XS.iconst X517.here hx rfl (hb hby at_367) k) ?_
            refine own_stW (B := T517.setTop (mkF m 370 #[.val (.int arg0), .val (.int arg1), .val (.int arg2), .val (.int v1), .val (.int v2), .val (.int v3), .val (.ref b4), .val (.ref b7), .unset, .unset, .unset] [(.int v2), (.int (2 : Int32)), (.ref b7), (.int (2 : Int32)), (.ref b483), (.ref b483), (.ref b468), (.ref b468)])) (fun t k => XS.iload X517.here hx rfl (hb hby at_368) rfl k) ?_
            refine own_stW (B := T517.setTop (mkF m 372 #[.val (.int arg0), .val (.int arg1), .val (.int arg2), .val (.int v1), .val (.int v2), .val (.int v3), .val (.ref b4), .val (.ref b7), .unset, .unset, .unset] [(.int v3), (.int v2), (.int (2 : Int32)), (.ref b7), (.int (2 : Int32)), (.ref b483), (.ref b483), (.ref b468), (.ref b468)])) (fun t k => XS.iload X517.here hx rfl (hb hby at_370) rfl k) ?_
            have f523 : Exa Z h517 b7 "java/lang/String" := (f510.wr W517)
            have f524 : Fld Z h517 b7 "java/lang/String" "coder" "B" (.int (0 : Int32)) := (f511.other W517 (Or.inl q483_b7))
            have f525 : Fld Z h517 b7 "java/lang/String" "value" "[B" (.ref bb7) := (f512.other W517 (Or.inl q483_b7))
            have f526 : own_A Z h517 bb7 .byte (own_q.map Value.int) := (f513.other W517 q483_bb7)
            have f527 : Sta Z h517 "java/lang/String" "COMPACT_STRINGS" "Z" (.int cs) := (f514.wr W517)
            have f528 : Sta Z h517 "jdk/internal/util/Preconditions" "SIOOBE_FORMATTER" "Ljava/util/function/BiFunction;" u1 := (f515.wr W517)
            obtain ⟨_, _, ⟨T529, L529, k529, j529⟩, -, X529, ⟨Lc529, hQ529, l529, y529_, z529_⟩, st529⟩ := Jvm.LawKit.callS X517 hx (y := (⟨"com/example/goodput/goodput/DeliveryModeNamedPinLaw", "at", "(Ljava/lang/String;IIC)C"⟩ : MethodName)) hown (mvT hZ (w_11 hw)) (mvT hZ (w_12 hw)) (mvT hZ (w_13 hw)) (mvT hZ (w_14 hw)) (by decide) (backOf (W := 5) (rm1 l Z a0 hw [] b7 (2 : Int32) v2 v3 bb7 own_q cs u1 h517 n0 z521 f523 f524 f525 f526 f527 f528 (show 0 ≤ (2 : Int32).toInt by decide) hcc (show own_q.length < 1000 by decide) hcs hu) hZ (w_14 hw) (w_13 hw) (by decide) (by decide)) (g := (mkF m 372 #[.val (.int arg0), .val (.int arg1), .val (.int arg2), .val (.int v1), .val (.int v2), .val (.int v3), .val (.ref b4), .val (.ref b7), .unset, .unset, .unset] [(.int v3), (.int v2), (.int (2 : Int32)), (.ref b7), (.int (2 : Int32)), (.ref b483), (.ref b483), (.ref b468), (.ref b468)])) rfl (by rw [hml]; rfl) (argsL := [(.ref b7), (.int (2 : Int32)), (.int v2), (.int v3)]) (rest := [(.int (2 : Int32)), (.ref b483), (.ref b483), (.ref b468), (.ref b468)]) (lenOf own_pd20 rfl) rfl (by show 2 * 0 + _ ≤ _; exact Nat.le_of_eq rfl) (hb hby at_372) (fun _ _ => ⟨rfl, e517, (by decide : 6 + 0 ≤ _), (by decide : 85 + 0 ≤ _)⟩)
            dsimp only [Pt.U, Pt.locs, Pt.cells, Pt.slots] at X529 l529 y529_ z529_ st529 hQ529
            subst l529 y529_ z529_
            obtain ⟨zc_529, rfl, N529q, e529q, r529_0⟩ := hQ529
            have N529 := Fr.app n522 N529q
            refine own_stW (B := T529.setTop (mkF m 375 #[.val (.int arg0), .val (.int arg1), .val (.int arg2), .val (.int v1), .val (.int v2), .val (.int v3), .val (.ref b4), .val (.ref b7), .unset, .unset, .unset] [(.int zc_529), (.int (2 : Int32)), (.ref b483), (.ref b483), (.ref b468), (.ref b468)])) (fun t k => st529 t k) ?_
            obtain ⟨T530, h530, X530, e530, W530, A530, st530⟩ := own_stC X529 hx hZ e529q f517_ (j := (2 : Int32)) (x := zc_529) (i := 2) (by decide) (show 2 < 9 from by decide) (g := (mkF m 375 #[.val (.int arg0), .val (.int arg1), .val (.int arg2), .val (.int v1), .val (.int v2), .val (.int v3), .val (.ref b4), .val (.ref b7), .unset, .unset, .unset] [(.int zc_529), (.int (2 : Int32)), (.ref b483), (.ref b483), (.ref b468), (.ref b468)])) rfl rfl (hb hby at_375)
            have f530_ : own_A Z h530 b483 .char [(.int (zc_504.toUInt32.toUInt16.toUInt32.toInt32)), (.int (zc_516.toUInt32.toUInt16.toUInt32.toInt32)), (.int (zc_529.toUInt32.toUInt16.toUInt32.toInt32)), (.int (0 : Int32)), (.int (0 : Int32)), (.int (0 : Int32)), (.int (0 : Int32)), (.int (0 : Int32)), (.int (0 : Int32))] := A530
            have f532 : Exa Z h517 b483 "[C" := (f519.wr W517)
            have ch531 := ch518.trans (CHr.wr W530 (Safe.exa hZ.alike f532 (by decide) (by decide)) ch518.1)
            have sf533 := Safe.wr W530 (Safe.exa hZ.alike f532 (by decide) (by decide)) ch518.1 sf520
            have hk531 := Nat.le_trans hk518 (Keep.of_wr W530).1
            have z534 : n0 ≤ h530.size := Nat.le_trans z521 (Keep.of_wr W530).1
            have n535 := Fr.snoc X530 N529 u483
            refine own_stW (B := T530.setTop (mkF m 376 #[.val (.int arg0), .val (.int arg1), .val (.int arg2), .val (.int v1), .val (.int v2), .val (.int v3), .val (.ref b4), .val (.ref b7), .unset, .unset, .unset] [(.ref b483), (.ref b468), (.ref b468)])) (fun t k => st530 t k) ?_
            refine own_stW (B := T530.setTop (mkF m 377 #[.val (.int arg0), .val (.int arg1), .val (.int arg2), .val (.int v1), .val (.int v2), .val (.int v3), .val (.ref b4), .val (.ref b7), .unset, .unset, .unset] [(.ref b483), (.ref b483), (.ref b468), (.ref b468)])) (fun t k => XS.dup X530.here hx rfl (hb hby at_376) rfl rfl k) ?_
            refine own_stW (B := T530.setTop (mkF m 378 #[.val (.int arg0), .val (.int arg1), .val (.int arg2), .val (.int v1), .val (.int v2), .val (.int v3), .val (.ref b4), .val (.ref b7), .unset, .unset, .unset] [(.int (3 : Int32)), (.ref b483), (.ref b483), (.ref b468), (.ref b468)])) (fun t k => XS.iconst X530.here hx rfl (hb hby at_377) k) ?_
            refine own_stW (B := T530.setTop (mkF m 380 #[.val (.int arg0), .val (.int arg1), .val (.int arg2), .val (.int v1), .val (.int v2), .val (.int v3), .val (.ref b4), .val (.ref b7), .unset, .unset, .unset] [(.ref b7), (.int (3 : Int32)), (.ref b483), (.ref b483), (.ref b468), (.ref b468)])) (fun t k => XS.aload X530.here hx rfl (hb hby at_378) rfl rfl k) ?_
            refine own_stW (B := T530.setTop (mkF m 381 #[.val (.int arg0), .val (.int arg1), .val (.int arg2), .val (.int v1), .val (.int v2), .val (.int v3), .val (.ref b4), .val (.ref b7), .unset, .unset, .unset] [(.int (3 : Int32)), (.ref b7), (.int (3 : Int32)), (.ref b483), (.ref b483), (.ref b468), (.ref b468)])) (fun t k => XS.iconst X530.here hx rfl (hb hby at_380) k) ?_
            refine own_stW (B := T530.setTop (mkF m 383 #[.val (.int arg0), .val (.int arg1), .val (.int arg2), .val (.int v1), .val (.int v2), .val (.int v3), .val (.ref b4), .val (.ref b7), .unset, .unset, .unset] [(.int v2), (.int (3 : Int32)), (.ref b7), (.int (3 : Int32)), (.ref b483), (.ref b483), (.ref b468), (.ref b468)])) (fun t k => XS.iload X530.here hx rfl (hb hby at_381) rfl k) ?_
            refine own_stW (B := T530.setTop (mkF m 385 #[.val (.int arg0), .val (.int arg1), .val (.int arg2), .val (.int v1), .val (.int v2), .val (.int v3), .val (.ref b4), .val (.ref b7), .unset, .unset, .unset] [(.int v3), (.int v2), (.int (3 : Int32)), (.ref b7), (.int (3 : Int32)), (.ref b483), (.ref b483), (.ref b468), (.ref b468)])) (fun t k => XS.iload X530.here hx rfl (hb hby at_383) rfl k) ?_
            have f536 : Exa Z h530 b7 "java/lang/String" := (f523.wr W530)
            have f537 : Fld Z h530 b7 "java/lang/String" "coder" "B" (.int (0 : Int32)) := (f524.other W530 (Or.inl q483_b7))
            have f538 : Fld Z h530 b7 "java/lang/String" "value" "[B" (.ref bb7) := (f525.other W530 (Or.inl q483_b7))
            have f539 : own_A Z h530 bb7 .byte (own_q.map Value.int) := (f526.other W530 q483_bb7)
            have f540 : Sta Z h530 "java/lang/String" "COMPACT_STRINGS" "Z" (.int cs) := (f527.wr W530)
            have f541 : Sta Z h530 "jdk/internal/util/Preconditions" "SIOOBE_FORMATTER" "Ljava/util/function/BiFunction;" u1 := (f528.wr W530)
            obtain ⟨_, _, ⟨T542, L542, k542, j542⟩, -, X542, ⟨Lc542, hQ542, l542, y542_, z542_⟩, st542⟩ := Jvm.LawKit.callS X530 hx (y := (⟨"com/example/goodput/goodput/DeliveryModeNamedPinLaw", "at", "(Ljava/lang/String;IIC)C"⟩ : MethodName)) hown (mvT hZ (w_11 hw)) (mvT hZ (w_12 hw)) (mvT hZ (w_13 hw)) (mvT hZ (w_14 hw)) (by decide) (backOf (W := 5) (rm1 l Z a0 hw [] b7 (3 : Int32) v2 v3 bb7 own_q cs u1 h530 n0 z534 f536 f537 f538 f539 f540 f541 (show 0 ≤ (3 : Int32).toInt by decide) hcc (show own_q.length < 1000 by decide) hcs hu) hZ (w_14 hw) (w_13 hw) (by decide) (by decide)) (g := (mkF m 385 #[.val (.int arg0), .val (.int arg1), .val (.int arg2), .val (.int v1), .val (.int v2), .val (.int v3), .val (.ref b4), .val (.ref b7), .unset, .unset, .unset] [(.int v3), (.int v2), (.int (3 : Int32)), (.ref b7), (.int (3 : Int32)), (.ref b483), (.ref b483), (.ref b468), (.ref b468)])) rfl (by rw [hml]; rfl) (argsL := [(.ref b7), (.int (3 : Int32)), (.int v2), (.int v3)]) (rest := [(.int (3 : Int32)), (.ref b483), (.ref b483), (.ref b468), (.ref b468)]) (lenOf own_pd20 rfl) rfl (by show 2 * 0 + _ ≤ _; exact Nat.le_of_eq rfl) (hb hby at_385) (fun _ _ => ⟨rfl, e530, (by decide : 6 + 0 ≤ _), (by decide : 85 + 0 ≤ _)⟩)
            dsimp only [Pt.U, Pt.locs, Pt.cells, Pt.slots] at X542 l542 y542_ z542_ st542 hQ542
            subst l542 y542_ z542_
            obtain ⟨zc_542, rfl, N542q, e542q, r542_0⟩ := hQ542
            have N542 := Fr.app n535 N542q
            refine own_stW (B := T542.setTop (mkF m 388 #[.val (.int arg0), .val (.int arg1), .val (.int arg2), .val (.int v1), .val (.int v2), .val (.int v3), .val (.ref b4), .val (.ref b7), .unset, .unset, .unset] [(.int zc_542), (.int (3 : Int32)), (.ref b483), (.ref b483), (.ref b468), (.ref b468)])) (fun t k => st542 t k) ?_
            obtain ⟨T543, h543, X543, e543, W543, A543, st543⟩ := own_stC X542 hx hZ e542q f530_ (j := (3 : Int32)) (x := zc_542) (i := 3) (by decide) (show 3 < 9 from by decide) (g := (mkF m 388 #[.val (.int arg0), .val (.int arg1), .val (.int arg2), .val (.int v1), .val (.int v2), .val (.int v3), .val (.ref b4), .val (.ref b7), .unset, .unset, .unset] [(.int zc_542), (.int (3 : Int32)), (.ref b483), (.ref b483), (.ref b468), (.ref b468)])) rfl rfl (hb hby at_388)
            have f543_ : own_A Z h543 b483 .char [(.int (zc_504.toUInt32.toUInt16.toUInt32.toInt32)), (.int (zc_516.toUInt32.toUInt16.toUInt32.toInt32)), (.int (zc_529.toUInt32.toUInt16.toUInt32.toInt32)), (.int (zc_542.toUInt32.toUInt16.toUInt32.toInt32)), (.int (0 : Int32)), (.int (0 : Int32)), (.int (0 : Int32)), (.int (0 : Int32)), (.int (0 : Int32))] := A543
            have f545 : Exa Z h530 b483 "[C" := (f532.wr W530)
            have ch544 := ch531.trans (CHr.wr W543 (Safe.exa hZ.alike f545 (by decide) (by decide)) ch531.1)
            have sf546 := Safe.wr W543 (Safe.exa hZ.alike f545 (by decide) (by decide)) ch531.1 sf533
            have hk544 := Nat.le_trans hk531 (Keep.of_wr W543).1
            have z547 : n0 ≤ h543.size := Nat.le_trans z534 (Keep.of_wr W543).1
            have n548 := Fr.snoc X543 N542 u483
            refine own_stW (B := T543.setTop (mkF m 389 #[.val (.int arg0), .val (.int arg1), .val (.int arg2), .val (.int v1), .val (.int v2), .val (.int v3), .val (.ref b4), .val (.ref b7), .unset, .unset, .unset] [(.ref b483), (.ref b468), (.ref b468)])) (fun t k => st543 t k) ?_
            refine own_stW (B := T543.setTop (mkF m 390 #[.val (.int arg0), .val (.int arg1), .val (.int arg2), .val (.int v1), .val (.int v2), .val (.int v3), .val (.ref b4), .val (.ref b7), .unset, .unset, .unset] [(.ref b483), (.ref b483), (.ref b468), (.ref b468)])) (fun t k => XS.dup X543.here hx rfl (hb hby at_389) rfl rfl k) ?_
            refine own_stW (B := T543.setTop (mkF m 391 #[.val (.int arg0), .val (.int arg1), .val (.int arg2), .val (.int v1), .val (.int v2), .val (.int v3), .val (.ref b4), .val (.ref b7), .unset, .unset, .unset] [(.int (4 : Int32)), (.ref b483), (.ref b483), (.ref b468), (.ref b468)])) (fun t k => XS.iconst X543.here hx rfl (hb hby at_390) k) ?_
            refine own_stW (B := T543.setTop (mkF m 393 #[.val (.int arg0), .val (.int arg1), .val (.int arg2), .val (.int v1), .val (.int v2), .val (.int v3), .val (.ref b4), .val (.ref b7), .unset, .unset, .unset] [(.ref b7), (.int (4 : Int32)), (.ref b483), (.ref b483), (.ref b468), (.ref b468)])) (fun t k => XS.aload X543.here hx rfl (hb hby at_391) rfl rfl k) ?_
            refine own_stW (B := T543.setTop (mkF m 394 #[.val (.int arg0), .val (.int arg1), .val (.int arg2), .val (.int v1), .val (.int v2), .val (.int v3), .val (.ref b4), .val (.ref b7), .unset, .unset, .unset] [(.int (4 : Int32)), (.ref b7), (.int (4 : Int32)), (.ref b483), (.ref b483), (.ref b468), (.ref b468)])) (fun t k => XS.iconst X543.here hx rfl (hb hby at_393) k) ?_
            refine own_stW (B := T543.setTop (mkF m 396 #[.val (.int arg0), .val (.int arg1), .val (.int arg2), .val (.int v1), .val (.int v2), .val (.int v3), .val (.ref b4), .val (.ref b7), .unset, .unset, .unset] [(.int v2), (.int (4 : Int32)), (.ref b7), (.int (4 : Int32)), (.ref b483), (.ref b483), (.ref b468), (.ref b468)])) (fun t k => XS.iload X543.here hx rfl (hb hby at_394) rfl k) ?_
            refine own_stW (B := T543.setTop (mkF m 398 #[.val (.int arg0), .val (.int arg1), .val (.int arg2), .val (.int v1), .val (.int v2), .val (.int v3), .val (.ref b4), .val (.ref b7), .unset, .unset, .unset] [(.int v3), (.int v2), (.int (4 : Int32)), (.ref b7), (.int (4 : Int32)), (.ref b483), (.ref b483), (.ref b468), (.ref b468)])) (fun t k => XS.iload X543.here hx rfl (hb hby at_396) rfl k) ?_
            have f549 : Exa Z h543 b7 "java/lang/String" := (f536.wr W543)
            have f550 : Fld Z h543 b7 "java/lang/String" "coder" "B" (.int (0 : Int32)) := (f537.other W543 (Or.inl q483_b7))
            have f551 : Fld Z h543 b7 "java/lang/String" "value" "[B" (.ref bb7) := (f538.other W543 (Or.inl q483_b7))
            have f552 : own_A Z h543 bb7 .byte (own_q.map Value.int) := (f539.other W543 q483_bb7)
            have f553 : Sta Z h543 "java/lang/String" "COMPACT_STRINGS" "Z" (.int cs) := (f540.wr W543)
            have f554 : Sta Z h543 "jdk/internal/util/Preconditions" "SIOOBE_FORMATTER" "Ljava/util/function/BiFunction;" u1 := (f541.wr W543)
            obtain ⟨_, _, ⟨T555, L555, k555, j555⟩, -, X555, ⟨Lc555, hQ555, l555, y555_, z555_⟩, st555⟩ := Jvm.LawKit.callS X543 hx (y := (⟨"com/example/goodput/goodput/DeliveryModeNamedPinLaw", "at", "(Ljava/lang/String;IIC)C"⟩ : MethodName)) hown (mvT hZ (w_11 hw)) (mvT hZ (w_12 hw)) (mvT hZ (w_13 hw)) (mvT hZ (w_14 hw)) (by decide) (backOf (W := 5) (rm1 l Z a0 hw [] b7 (4 : Int32) v2 v3 bb7 own_q cs u1 h543 n0 z547 f549 f550 f551 f552 f553 f554 (show 0 ≤ (4 : Int32).toInt by decide) hcc (show own_q.length < 1000 by decide) hcs hu) hZ (w_14 hw) (w_13 hw) (by decide) (by decide)) (g := (mkF m 398 #[.val (.int arg0), .val (.int arg1), .val (.int arg2), .val (.int v1), .val (.int v2), .val (.int v3), .val (.ref b4), .val (.ref b7), .unset, .unset, .unset] [(.int v3), (.int v2), (.int (4 : Int32)), (.ref b7), (.int (4 : Int32)), (.ref b483), (.ref b483), (.ref b468), (.ref b468)])) rfl (by rw [hml]; rfl) (argsL := [(.ref b7), (.int (4 : Int32)), (.int v2), (.int v3)]) (rest := [(.int (4 : Int32)), (.ref b483), (.ref b483), (.ref b468), (.ref b468)]) (lenOf own_pd20 rfl) rfl (by show 2 * 0 + _ ≤ _; exact Nat.le_of_eq rfl) (hb hby at_398) (fun _ _ => ⟨rfl, e543, (by decide : 6 + 0 ≤ _), (by decide : 85 + 0 ≤ _)⟩)
            dsimp only [Pt.U, Pt.locs, Pt.cells, Pt.slots] at X555 l555 y555_ z555_ st555 hQ555
            subst l555 y555_ z555_
            obtain ⟨zc_555, rfl, N555q, e555q, r555_0⟩ := hQ555
            have N555 := Fr.app n548 N555q
            refine own_stW (B := T555.setTop (mkF m 401 #[.val (.int arg0), .val (.int arg1), .val (.int arg2), .val (.int v1), .val (.int v2), .val (.int v3), .val (.ref b4), .val (.ref b7), .unset, .unset, .unset] [(.int zc_555), (.int (4 : Int32)), (.ref b483), (.ref b483), (.ref b468), (.ref b468)])) (fun t k => st555 t k) ?_
            obtain ⟨T556, h556, X556, e556, W556, A556, st556⟩ := own_stC X555 hx hZ e555q f543_ (j := (4 : Int32)) (x := zc_555) (i := 4) (by decide) (show 4 < 9 from by decide) (g := (mkF m 401 #[.val (.int arg0), .val (.int arg1), .val (.int arg2), .val (.int v1), .val (.int v2), .val (.int v3), .val (.ref b4), .val (.ref b7), .unset, .unset, .unset] [(.int zc_555), (.int (4 : Int32)), (.ref b483), (.ref b483), (.ref b468), (.ref b468)])) rfl rfl (hb hby at_401)
            have f556_ : own_A Z h556 b483 .char [(.int (zc_504.toUInt32.toUInt16.toUInt32.toInt32)), (.int (zc_516.toUInt32.toUInt16.toUInt32.toInt32)), (.int (zc_529.toUInt32.toUInt16.toUInt32.toInt32)), (.int (zc_542.toUInt32.toUInt16.toUInt32.toInt32)), (.int (zc_555.toUInt32.toUInt16.toUInt32.toInt32)), (.int (0 : Int32)), (.int (0 : Int32)), (.int (0 : Int32)), (.int (0 : Int32))] := A556
            have f558 : Exa Z h543 b483 "[C" := (f545.wr W543)
            have ch557 := ch544.trans (CHr.wr W556 (Safe.exa hZ.alike f558 (by decide) (by decide)) ch544.1)
            have sf559 := Safe.wr W556 (Safe.exa hZ.alike f558 (by decide) (by decide)) ch544.1 sf546
            have hk557 := Nat.le_trans hk544 (Keep.of_wr W556).1
            have z560 : n0 ≤ h556.size := Nat.le_trans z547 (Keep.of_wr W556).1
            have n561 := Fr.snoc X556 N555 u483
            refine own_stW (B := T556.setTop (mkF m 402 #[.val (.int arg0), .val (.int arg1), .val (.int arg2), .val (.int v1), .val (.int v2), .val (.int v3), .val (.ref b4), .val (.ref b7), .unset, .unset, .unset] [(.ref b483), (.ref b468), (.ref b468)])) (fun t k => st556 t k) ?_
            refine own_stW (B := T556.setTop (mkF m 403 #[.val (.int arg0), .val (.int arg1), .val (.int arg2), .val (.int v1), .val (.int v2), .val (.int v3), .val (.ref b4), .val (.ref b7), .unset, .unset, .unset] [(.ref b483), (.ref b483), (.ref b468), (.ref b468)])) (fun t k => XS.dup X556.here hx rfl (hb hby at_402) rfl rfl k) ?_
            refine own_stW (B := T556.setTop (mkF m 404 #[.val (.int arg0), .val (.int arg1), .val (.int arg2), .val (.int v1), .val (.int v2), .val (.int v3), .val (.ref b4), .val (.ref b7), .unset, .unset, .unset] [(.int (5 : Int32)), (.ref b483), (.ref b483), (.ref b468), (.ref b468)])) (fun t k => XS.iconst X556.here hx rfl (hb hby at_403) k) ?_
            refine own_stW (B := T556.setTop (mkF m 406 #[.val (.int arg0), .val (.int arg1), .val (.int arg2), .val (.int v1), .val (.int v2), .val (.int v3), .val (.ref b4), .val (.ref b7), .unset, .unset, .unset] [(.ref b7), (.int (5 : Int32)), (.ref b483), (.ref b483), (.ref b468), (.ref b468)])) (fun t k => XS.aload X556.here hx rfl (hb hby at_404) rfl rfl k) ?_
            refine own_stW (B := T556.setTop (mkF m 407 #[.val (.int arg0), .val (.int arg1), .val (.int arg2), .val (.int v1), .val (.int v2), .val (.int v3), .val (.ref b4), .val (.ref b7), .unset, .unset, .unset] [(.int (5 : Int32)), (.ref b7), (.int (5 : Int32)), (.ref b483), (.ref b483), (.ref b468), (.ref b468)])) (fun t k => XS.iconst X556.here hx rfl (hb hby at_406) k) ?_
            refine own_stW (B := T556.setTop (mkF m 409 #[.val (.int arg0), .val (.int arg1), .val (.int arg2), .val (.int v1), .val (.int v2), .val (.int v3), .val (.ref b4), .val (.ref b7), .unset, .unset, .unset] [(.int v2), (.int (5 : Int32)), (.ref b7), (.int (5 : Int32)), (.ref b483), (.ref b483), (.ref b468), (.ref b468)])) (fun t k => XS.iload X556.here hx rfl (hb hby at_407) rfl k) ?_
            refine own_stW (B := T556.setTop (mkF m 411 #[.val (.int arg0), .val (.int arg1), .val (.int arg2), .val (.int v1), .val (.int v2), .val (.int v3), .val (.ref b4), .val (.ref b7), .unset, .unset, .unset] [(.int v3), (.int v2), (.int (5 : Int32)), (.ref b7), (.int (5 : Int32)), (.ref b483), (.ref b483), (.ref b468), (.ref b468)])) (fun t k => XS.iload X556.here hx rfl (hb hby at_409) rfl k) ?_
            have f562 : Exa Z h556 b7 "java/lang/String" := (f549.wr W556)
            have f563 : Fld Z h556 b7 "java/lang/String" "coder" "B" (.int (0 : Int32)) := (f550.other W556 (Or.inl q483_b7))
            have f564 : Fld Z h556 b7 "java/lang/String" "value" "[B" (.ref bb7) := (f551.other W556 (Or.inl q483_b7))
            have f565 : own_A Z h556 bb7 .byte (own_q.map Value.int) := (f552.other W556 q483_bb7)
            have f566 : Sta Z h556 "java/lang/String" "COMPACT_STRINGS" "Z" (.int cs) := (f553.wr W556)
            have f567 : Sta Z h556 "jdk/internal/util/Preconditions" "SIOOBE_FORMATTER" "Ljava/util/function/BiFunction;" u1 := (f554.wr W556)
            obtain ⟨_, _, ⟨T568, L568, k568, j568⟩, -, X568, ⟨Lc568, hQ568, l568, y568_, z568_⟩, st568⟩ := Jvm.LawKit.callS X556 hx (y := (⟨"com/example/goodput/goodput/DeliveryModeNamedPinLaw", "at", "(Ljava/lang/String;IIC)C"⟩ : MethodName)) hown (mvT hZ (w_11 hw)) (mvT hZ (w_12 hw)) (mvT hZ (w_13 hw)) (mvT hZ (w_14 hw)) (by decide) (backOf (W := 5) (rm1 l Z a0 hw [] b7 (5 : Int32) v2 v3 bb7 own_q cs u1 h556 n0 z560 f562 f563 f564 f565 f566 f567 (show 0 ≤ (5 : Int32).toInt by decide) hcc (show own_q.length < 1000 by decide) hcs hu) hZ (w_14 hw) (w_13 hw) (by decide) (by decide)) (g := (mkF m 411 #[.val (.int arg0), .val (.int arg1), .val (.int arg2), .val (.int v1), .val (.int v2), .val (.int v3), .val (.ref b4), .val (.ref b7), .unset, .unset, .unset] [(.int v3), (.int v2), (.int (5 : Int32)), (.ref b7), (.int (5 : Int32)), (.ref b483), (.ref b483), (.ref b468), (.ref b468)])) rfl (by rw [hml]; rfl) (argsL := [(.ref b7), (.int (5 : Int32)), (.int v2), (.int v3)]) (rest := [(.int (5 : Int32)), (.ref b483), (.ref b483), (.ref b468), (.ref b468)]) (lenOf own_pd20 rfl) rfl (by show 2 * 0 + _ ≤ _; exact Nat.le_of_eq rfl) (hb hby at_411) (fun _ _ => ⟨rfl, e556, (by decide : 6 + 0 ≤ _), (by decide : 85 + 0 ≤ _)⟩)
            dsimp only [Pt.U, Pt.locs, Pt.cells, Pt.slots] at X568 l568 y568_ z568_ st568 hQ568
            subst l568 y568_ z568_
            obtain ⟨zc_568, rfl, N568q, e568q, r568_0⟩ := hQ568
            have N568 := Fr.app n561 N568q
            refine own_stW (B := T568.setTop (mkF m 414 #[.val (.int arg0), .val (.int arg1), .val (.int arg2), .val (.int v1), .val (.int v2), .val (.int v3), .val (.ref b4), .val (.ref b7), .unset, .unset, .unset] [(.int zc_568), (.int (5 : Int32)), (.ref b483), (.ref b483), (.ref b468), (.ref b468)])) (fun t k => st568 t k) ?_
            obtain ⟨T569, h569, X569, e569, W569, A569, st569⟩ := own_stC X568 hx hZ e568q f556_ (j := (5 : Int32)) (x := zc_568) (i := 5) (by decide) (show 5 < 9 from by decide) (g := (mkF m 414 #[.val (.int arg0), .val (.int arg1), .val (.int arg2), .val (.int v1), .val (.int v2), .val (.int v3), .val (.ref b4), .val (.ref b7), .unset, .unset, .unset] [(.int zc_568), (.int (5 : Int32)), (.ref b483), (.ref b483), (.ref b468), (.ref b468)])) rfl rfl (hb hby at_414)
            have f569_ : own_A Z h569 b483 .char [(.int (zc_504.toUInt32.toUInt16.toUInt32.toInt32)), (.int (zc_516.toUInt32.toUInt16.toUInt32.toInt32)), (.int (zc_529.toUInt32.toUInt16.toUInt32.toInt32)), (.int (zc_542.toUInt32.toUInt16.toUInt32.toInt32)), (.int (zc_555.toUInt32.toUInt16.toUInt32.toInt32)), (.int (zc_568.toUInt32.toUInt16.toUInt32.toInt32)), (.int (0 : Int32)), (.int (0 : Int32)), (.int (0 : Int32))] := A569
            have f571 : Exa Z h556 b483 "[C" := (f558.wr W556)
            have ch570 := ch557.trans (CHr.wr W569 (Safe.exa hZ.alike f571 (by decide) (by decide)) ch557.1)
            have sf572 := Safe.wr W569 (Safe.exa hZ.alike f571 (by decide) (by decide)) ch557.1 sf559
            have hk570 := Nat.le_trans hk557 (Keep.of_wr W569).1
            have z573 : n0 ≤ h569.size := Nat.le_trans z560 (Keep.of_wr W569).1
            have n574 := Fr.snoc X569 N568 u483
            refine own_stW (B := T569.setTop (mkF m 415 #[.val (.int arg0), .val (.int arg1), .val (.int arg2), .val (.int v1), .val (.int v2), .val (.int v3), .val (.ref b4), .val (.ref b7), .unset, .unset, .unset] [(.ref b483), (.ref b468), (.ref b468)])) (fun t k => st569 t k) ?_
            refine own_stW (B := T569.setTop (mkF m 416 #[.val (.int arg0), .val (.int arg1), .val (.int arg2), .val (.int v1), .val (.int v2), .val (.int v3), .val (.ref b4), .val (.ref b7), .unset, .unset, .unset] [(.ref b483), (.ref b483), (.ref b468), (.ref b468)])) (fun t k => XS.dup X569.here hx rfl (hb hby at_415) rfl rfl k) ?_
            refine own_stW (B := T569.setTop (mkF m 418 #[.val (.int arg0), .val (.int arg1), .val (.int arg2), .val (.int v1), .val (.int v2), .val (.int v3), .val (.ref b4), .val (.ref b7), .unset, .unset, .unset] [(.int (6 : Int32)), (.ref b483), (.ref b483), (.ref b468), (.ref b468)])) (fun t k => XS.bipush X569.here hx rfl (hb hby at_416) k) ?_
            refine own_stW (B := T569.setTop (mkF m 420 #[.val (.int arg0), .val (.int arg1), .val (.int arg2), .val (.int v1), .val (.int v2), .val (.int v3), .val (.ref b4), .val (.ref b7), .unset, .unset, .unset] [(.ref b7), (.int (6 : Int32)), (.ref b483), (.ref b483), (.ref b468), (.ref b468)])) (fun t k => XS.aload X569.here hx rfl (hb hby at_418) rfl rfl k) ?_
            refine own_stW (B := T569.setTop (mkF m 422 #[.val (.int arg0), .val (.int arg1), .val (.int arg2), .val (.int v1), .val (.int v2), .val (.int v3), .val (.ref b4), .val (.ref b7), .unset, .unset, .unset] [(.int (6 : Int32)), (.ref b7), (.int (6 : Int32)), (.ref b483), (.ref b483), (.ref b468), (.ref b468)])) (fun t k => XS.bipush X569.here hx rfl (hb hby at_420) k) ?_
            refine own_stW (B := T569.setTop (mkF m 424 #[.val (.int arg0), .val (.int arg1), .val (.int arg2), .val (.int v1), .val (.int v2), .val (.int v3), .val (.ref b4), .val (.ref b7), .unset, .unset, .unset] [(.int v2), (.int (6 : Int32)), (.ref b7), (.int (6 : Int32)), (.ref b483), (.ref b483), (.ref b468), (.ref b468)])) (fun t k => XS.iload X569.here hx rfl (hb hby at_422) rfl k) ?_
            refine own_stW (B := T569.setTop (mkF m 426 #[.val (.int arg0), .val (.int arg1), .val (.int arg2), .val (.int v1), .val (.int v2), .val (.int v3), .val (.ref b4), .val (.ref b7), .unset, .unset, .unset] [(.int v3), (.int v2), (.int (6 : Int32)), (.ref b7), (.int (6 : Int32)), (.ref b483), (.ref b483), (.ref b468), (.ref b468)])) (fun t k => XS.iload X569.here hx rfl (hb hby at_424) rfl k) ?_
            have f575 : Exa Z h569 b7 "java/lang/String" := (f562.wr W569)
            have f576 : Fld Z h569 b7 "java/lang/String" "coder" "B" (.int (0 : Int32)) := (f563.other W569 (Or.inl q483_b7))
            have f577 : Fld Z h569 b7 "java/lang/String" "value" "[B" (.ref bb7) := (f564.other W569 (Or.inl q483_b7))
            have f578 : own_A Z h569 bb7 .byte (own_q.map Value.int) := (f565.other W569 q483_bb7)
            have f579 : Sta Z h569 "java/lang/String" "COMPACT_STRINGS" "Z" (.int cs) := (f566.wr W569)
            have f580 : Sta Z h569 "jdk/internal/util/Preconditions" "SIOOBE_FORMATTER" "Ljava/util/function/BiFunction;" u1 := (f567.wr W569)
            obtain ⟨_, _, ⟨T581, L581, k581, j581⟩, -, X581, ⟨Lc581, hQ581, l581, y581_, z581_⟩, st581⟩ := Jvm.LawKit.callS X569 hx (y := (⟨"com/example/goodput/goodput/DeliveryModeNamedPinLaw", "at", "(Ljava/lang/String;IIC)C"⟩ : MethodName)) hown (mvT hZ (w_11 hw)) (mvT hZ (w_12 hw)) (mvT hZ (w_13 hw)) (mvT hZ (w_14 hw)) (by decide) (backOf (W := 5) (rm1 l Z a0 hw [] b7 (6 : Int32) v2 v3 bb7 own_q cs u1 h569 n0 z573 f575 f576 f577 f578 f579 f580 (show 0 ≤ (6 : Int32).toInt by decide) hcc (show own_q.length < 1000 by decide) hcs hu) hZ (w_14 hw) (w_13 hw) (by decide) (by decide)) (g := (mkF m 426 #[.val (.int arg0), .val (.int arg1), .val (.int arg2), .val (.int v1), .val (.int v2), .val (.int v3), .val (.ref b4), .val (.ref b7), .unset, .unset, .unset] [(.int v3), (.int v2), (.int (6 : Int32)), (.ref b7), (.int (6 : Int32)), (.ref b483), (.ref b483), (.ref b468), (.ref b468)])) rfl (by rw [hml]; rfl) (argsL := [(.ref b7), (.int (6 : Int32)), (.int v2), (.int v3)]) (rest := [(.int (6 : Int32)), (.ref b483), (.ref b483), (.ref b468), (.ref b468)]) (lenOf own_pd20 rfl) rfl (by show 2 * 0 + _ ≤ _; exact Nat.le_of_eq rfl) (hb hby at_426) (fun _ _ => ⟨rfl, e569, (by decide : 6 + 0 ≤ _), (by decide : 85 + 0 ≤ _)⟩)
            dsimp only [Pt.U, Pt.locs, Pt.cells, Pt.slots] at X581 l581 y581_ z581_ st581 hQ581
            subst l581 y581_ z581_
            obtain ⟨zc_581, rfl, N581q, e581q, r581_0⟩ := hQ581
            have N581 := Fr.app n574 N581q
            refine own_stW (B := T581.setTop (mkF m 429 #[.val (.int arg0), .val (.int arg1), .val (.int arg2), .val (.int v1), .val (.int v2), .val (.int v3), .val (.ref b4), .val (.ref b7), .unset, .unset, .unset] [(.int zc_581), (.int (6 : Int32)), (.ref b483), (.ref b483), (.ref b468), (.ref b468)])) (fun t k => st581 t k) ?_
            obtain ⟨T582, h582, X582, e582, W582, A582, st582⟩ := own_stC X581 hx hZ e581q f569_ (j := (6 : Int32)) (x := zc_581) (i := 6) (by decide) (show 6 < 9 from by decide) (g := (mkF m 429 #[.val (.int arg0), .val (.int arg1), .val (.int arg2), .val (.int v1), .val (.int v2), .val (.int v3), .val (.ref b4), .val (.ref b7), .unset, .unset, .unset] [(.int zc_581), (.int (6 : Int32)), (.ref b483), (.ref b483), (.ref b468), (.ref b468)])) rfl rfl (hb hby at_429)
            have f582_ : own_A Z h582 b483 .char [(.int (zc_504.toUInt32.toUInt16.toUInt32.toInt32)), (.int (zc_516.toUInt32.toUInt16.toUInt32.toInt32)), (.int (zc_529.toUInt32.toUInt16.toUInt32.toInt32)), (.int (zc_542.toUInt32.toUInt16.toUInt32.toInt32)), (.int (zc_555.toUInt32.toUInt16.toUInt32.toInt32)), (.int (zc_568.toUInt32.toUInt16.toUInt32.toInt32)), (.int (zc_581.toUInt32.toUInt16.toUInt32.toInt32)), (.int (0 : Int32)), (.int (0 : Int32))] := by simpa only [List.set_cons_succ, List.set_cons_zero] using A582
            have f584 : Exa Z h569 b483 "[C" := (f571.wr W569)
            have ch583 := ch570.trans (CHr.wr W582 (Safe.exa hZ.alike f584 (by decide) (by decide)) ch570.1)
            have sf585 := Safe.wr W582 (Safe.exa hZ.alike f584 (by decide) (by decide)) ch570.1 sf572
            have hk583 := Nat.le_trans hk570 (Keep.of_wr W582).1
            have z586 : n0 ≤ h582.size := Nat.le_trans z573 (Keep.of_wr W582).1
            have n587 := Fr.snoc X582 N581 u483
            refine own_stW (B := T582.setTop (mkF m 430 #[.val (.int arg0), .val (.int arg1), .val (.int arg2), .val (.int v1), .val (.int v2), .val (.int v3), .val (.ref b4), .val (.ref b7), .unset, .unset, .unset] [(.ref b483), (.ref b468), (.ref b468)])) (fun t k => st582 t k) ?_
            refine own_stW (B := T582.setTop (mkF m 431 #[.val (.int arg0), .val (.int arg1), .val (.int arg2), .val (.int v1), .val (.int v2), .val (.int v3), .val (.ref b4), .val (.ref b7), .unset, .unset, .unset] [(.ref b483), (.ref b483), (.ref b468), (.ref b468)])) (fun t k => XS.dup X582.here hx rfl (hb hby at_430) rfl rfl k) ?_
            refine own_stW (B := T582.setTop (mkF m 433 #[.val (.int arg0), .val (.int arg1), .val (.int arg2), .val (.int v1), .val (.int v2), .val (.int v3), .val (.ref b4), .val (.ref b7), .unset, .unset, .unset] [(.int (7 : Int32)), (.ref b483), (.ref b483), (.ref b468), (.ref b468)])) (fun t k => XS.bipush X582.here hx rfl (hb hby at_431) k) ?_
            refine own_stW (B := T582.setTop (mkF m 435 #[.val (.int arg0), .val (.int arg1), .val (.int arg2), .val (.int v1), .val (.int v2), .val (.int v3), .val (.ref b4), .val (.ref b7), .unset, .unset, .unset] [(.ref b7), (.int (7 : Int32)), (.ref b483), (.ref b483), (.ref b468), (.ref b468)])) (fun t k => XS.aload X582.here hx rfl (hb hby at_433) rfl rfl k) ?_
            refine own_stW (B := T582.setTop (mkF m 437 #[.val (.int arg0), .val (.int arg1), .val (.int arg2), .val (.int v1), .val (.int v2), .val (.int v3), .val (.ref b4), .val (.ref b7), .unset, .unset, .unset] [(.int (7 : Int32)), (.ref b7), (.int (7 : Int32)), (.ref b483), (.ref b483), (.ref b468), (.ref b468)])) (fun t k => XS.bipush X582.here hx rfl (hb hby at_435) k) ?_
            refine own_stW (B := T582.setTop (mkF m 439 #[.val (.int arg0), .val (.int arg1), .val (.int arg2), .val (.int v1), .val (.int v2), .val (.int v3), .val (.ref b4), .val (.ref b7), .unset, .unset, .unset] [(.int v2), (.int (7 : Int32)), (.ref b7), (.int (7 : Int32)), (.ref b483), (.ref b483), (.ref b468), (.ref b468)])) (fun t k => XS.iload X582.here hx rfl (hb hby at_437) rfl k) ?_
            refine own_stW (B := T582.setTop (mkF m 441 #[.val (.int arg0), .val (.int arg1), .val (.int arg2), .val (.int v1), .val (.int v2), .val (.int v3), .val (.ref b4), .val (.ref b7), .unset, .unset, .unset] [(.int v3), (.int v2), (.int (7 : Int32)), (.ref b7), (.int (7 : Int32)), (.ref b483), (.ref b483), (.ref b468), (.ref b468)])) (fun t k => XS.iload X582.here hx rfl (hb hby at_439) rfl k) ?_
            have f588 : Exa Z h582 b7 "java/lang/String" := (f575.wr W582)
            have f589 : Fld Z h582 b7 "java/lang/String" "coder" "B" (.int (0 : Int32)) := (f576.other W582 (Or.inl q483_b7))
            have f590 : Fld Z h582 b7 "java/lang/String" "value" "[B" (.ref bb7) := (f577.other W582 (Or.inl q483_b7))
            have f591 : own_A Z h582 bb7 .byte (own_q.map Value.int) := (f578.other W582 q483_bb7)
            have f592 : Sta Z h582 "java/lang/String" "COMPACT_STRINGS" "Z" (.int cs) := (f579.wr W582)
            have f593 : Sta Z h582 "jdk/internal/util/Preconditions" "SIOOBE_FORMATTER" "Ljava/util/function/BiFunction;" u1 := (f580.wr W582)
            obtain ⟨_, _, ⟨T594, L594, k594, j594⟩, -, X594, ⟨Lc594, hQ594, l594, y594_, z594_⟩, st594⟩ := Jvm.LawKit.callS X582 hx (y := (⟨"com/example/goodput/goodput/DeliveryModeNamedPinLaw", "at", "(Ljava/lang/String;IIC)C"⟩ : MethodName)) hown (mvT hZ (w_11 hw)) (mvT hZ (w_12 hw)) (mvT hZ (w_13 hw)) (mvT hZ (w_14 hw)) (by decide) (backOf (W := 5) (rm1 l Z a0 hw [] b7 (7 : Int32) v2 v3 bb7 own_q cs u1 h582 n0 z586 f588 f589 f590 f591 f592 f593 (show 0 ≤ (7 : Int32).toInt by decide) hcc (show own_q.length < 1000 by decide) hcs hu) hZ (w_14 hw) (w_13 hw) (by decide) (by decide)) (g := (mkF m 441 #[.val (.int arg0), .val (.int arg1), .val (.int arg2), .val (.int v1), .val (.int v2), .val (.int v3), .val (.ref b4), .val (.ref b7), .unset, .unset, .unset] [(.int v3), (.int v2), (.int (7 : Int32)), (.ref b7), (.int (7 : Int32)), (.ref b483), (.ref b483), (.ref b468), (.ref b468)])) rfl (by rw [hml]; rfl) (argsL := [(.ref b7), (.int (7 : Int32)), (.int v2), (.int v3)]) (rest := [(.int (7 : Int32)), (.ref b483), (.ref b483), (.ref b468), (.ref b468)]) (lenOf own_pd20 rfl) rfl (by show 2 * 0 + _ ≤ _; exact Nat.le_of_eq rfl) (hb hby at_441) (fun _ _ => ⟨rfl, e582, (by decide : 6 + 0 ≤ _), (by decide : 85 + 0 ≤ _)⟩)
            dsimp only [Pt.U, Pt.locs, Pt.cells, Pt.slots] at X594 l594 y594_ z594_ st594 hQ594
            subst l594 y594_ z594_
            obtain ⟨zc_594, rfl, N594q, e594q, r594_0⟩ := hQ594
            have N594 := Fr.app n587 N594q
            refine own_stW (B := T594.setTop (mkF m 444 #[.val (.int arg0), .val (.int arg1), .val (.int arg2), .val (.int v1), .val (.int v2), .val (.int v3), .val (.ref b4), .val (.ref b7), .unset, .unset, .unset] [(.int zc_594), (.int (7 : Int32)), (.ref b483), (.ref b483), (.ref b468), (.ref b468)])) (fun t k => st594 t k) ?_
            obtain ⟨T595, h595, X595, e595, W595, A595, st595⟩ := own_stC X594 hx hZ e594q f582_ (j := (7 : Int32)) (x := zc_594) (i := 7) (by decide) (show 7 < 9 from by decide) (g := (mkF m 444 #[.val (.int arg0), .val (.int arg1), .val (.int arg2), .val (.int v1), .val (.int v2), .val (.int v3), .val (.ref b4), .val (.ref b7), .unset, .unset, .unset] [(.int zc_594), (.int (7 : Int32)), (.ref b483), (.ref b483), (.ref b468), (.ref b468)])) rfl rfl (hb hby at_444)
            have f595_ : own_A Z h595 b483 .char [(.int (zc_504.toUInt32.toUInt16.toUInt32.toInt32)), (.int (zc_516.toUInt32.toUInt16.toUInt32.toInt32)), (.int (zc_529.toUInt32.toUInt16.toUInt32.toInt32)), (.int (zc_542.toUInt32.toUInt16.toUInt32.toInt32)), (.int (zc_555.toUInt32.toUInt16.toUInt32.toInt32)), (.int (zc_568.toUInt32.toUInt16.toUInt32.toInt32)), (.int (zc_581.toUInt32.toUInt16.toUInt32.toInt32)), (.int (zc_594.toUInt32.toUInt16.toUInt32.toInt32)), (.int (0 : Int32))] := by simpa only [List.set_cons_succ, List.set_cons_zero] using A595
            have f597 : Exa Z h582 b483 "[C" := (f584.wr W582)
            have ch596 := ch583.trans (CHr.wr W595 (Safe.exa hZ.alike f597 (by decide) (by decide)) ch583.1)
            have sf598 := Safe.wr W595 (Safe.exa hZ.alike f597 (by decide) (by decide)) ch583.1 sf585
            have hk596 := Nat.le_trans hk583 (Keep.of_wr W595).1
            have z599 : n0 ≤ h595.size := Nat.le_trans z586 (Keep.of_wr W595).1
            have n600 := Fr.snoc X595 N594 u483
            refine own_stW (B := T595.setTop (mkF m 445 #[.val (.int arg0), .val (.int arg1), .val (.int arg2), .val (.int v1), .val (.int v2), .val (.int v3), .val (.ref b4), .val (.ref b7), .unset, .unset, .unset] [(.ref b483), (.ref b468), (.ref b468)])) (fun t k => st595 t k) ?_
            refine own_stW (B := T595.setTop (mkF m 446 #[.val (.int arg0), .val (.int arg1), .val (.int arg2), .val (.int v1), .val (.int v2), .val (.int v3), .val (.ref b4), .val (.ref b7), .unset, .unset, .unset] [(.ref b483), (.ref b483), (.ref b468), (.ref b468)])) (fun t k => XS.dup X595.here hx rfl (hb hby at_445) rfl rfl k) ?_
            refine own_stW (B := T595.setTop (mkF m 448 #[.val (.int arg0), .val (.int arg1), .val (.int arg2), .val (.int v1), .val (.int v2), .val (.int v3), .val (.ref b4), .val (.ref b7), .unset, .unset, .unset] [(.int (8 : Int32)), (.ref b483), (.ref b483), (.ref b468), (.ref b468)])) (fun t k => XS.bipush X595.here hx rfl (hb hby at_446) k) ?_
            refine own_stW (B := T595.setTop (mkF m 450 #[.val (.int arg0), .val (.int arg1), .val (.int arg2), .val (.int v1), .val (.int v2), .val (.int v3), .val (.ref b4), .val (.ref b7), .unset, .unset, .unset] [(.ref b7), (.int (8 : Int32)), (.ref b483), (.ref b483), (.ref b468), (.ref b468)])) (fun t k => XS.aload X595.here hx rfl (hb hby at_448) rfl rfl k) ?_
            refine own_stW (B := T595.setTop (mkF m 452 #[.val (.int arg0), .val (.int arg1), .val (.int arg2), .val (.int v1), .val (.int v2), .val (.int v3), .val (.ref b4), .val (.ref b7), .unset, .unset, .unset] [(.int (8 : Int32)), (.ref b7), (.int (8 : Int32)), (.ref b483), (.ref b483), (.ref b468), (.ref b468)])) (fun t k => XS.bipush X595.here hx rfl (hb hby at_450) k) ?_
            refine own_stW (B := T595.setTop (mkF m 454 #[.val (.int arg0), .val (.int arg1), .val (.int arg2), .val (.int v1), .val (.int v2), .val (.int v3), .val (.ref b4), .val (.ref b7), .unset, .unset, .unset] [(.int v2), (.int (8 : Int32)), (.ref b7), (.int (8 : Int32)), (.ref b483), (.ref b483), (.ref b468), (.ref b468)])) (fun t k => XS.iload X595.here hx rfl (hb hby at_452) rfl k) ?_
            refine own_stW (B := T595.setTop (mkF m 456 #[.val (.int arg0), .val (.int arg1), .val (.int arg2), .val (.int v1), .val (.int v2), .val (.int v3), .val (.ref b4), .val (.ref b7), .unset, .unset, .unset] [(.int v3), (.int v2), (.int (8 : Int32)), (.ref b7), (.int (8 : Int32)), (.ref b483), (.ref b483), (.ref b468), (.ref b468)])) (fun t k => XS.iload X595.here hx rfl (hb hby at_454) rfl k) ?_
            have f601 : Exa Z h595 b7 "java/lang/String" := (f588.wr W595)
            have f602 : Fld Z h595 b7 "java/lang/String" "coder" "B" (.int (0 : Int32)) := (f589.other W595 (Or.inl q483_b7))
            have f603 : Fld Z h595 b7 "java/lang/String" "value" "[B" (.ref bb7) := (f590.other W595 (Or.inl q483_b7))
            have f604 : own_A Z h595 bb7 .byte (own_q.map Value.int) := (f591.other W595 q483_bb7)
            have f605 : Sta Z h595 "java/lang/String" "COMPACT_STRINGS" "Z" (.int cs) := (f592.wr W595)
            have f606 : Sta Z h595 "jdk/internal/util/Preconditions" "SIOOBE_FORMATTER" "Ljava/util/function/BiFunction;" u1 := (f593.wr W595)
            obtain ⟨_, _, ⟨T607, L607, k607, j607⟩, -, X607, ⟨Lc607, hQ607, l607, y607_, z607_⟩, st607⟩ := Jvm.LawKit.callS X595 hx (y := (⟨"com/example/goodput/goodput/DeliveryModeNamedPinLaw", "at", "(Ljava/lang/String;IIC)C"⟩ : MethodName)) hown (mvT hZ (w_11 hw)) (mvT hZ (w_12 hw)) (mvT hZ (w_13 hw)) (mvT hZ (w_14 hw)) (by decide) (backOf (W := 5) (rm1 l Z a0 hw [] b7 (8 : Int32) v2 v3 bb7 own_q cs u1 h595 n0 z599 f601 f602 f603 f604 f605 f606 (show 0 ≤ (8 : Int32).toInt by decide) hcc (show own_q.length < 1000 by decide) hcs hu) hZ (w_14 hw) (w_13 hw) (by decide) (by decide)) (g := (mkF m 456 #[.val (.int arg0), .val (.int arg1), .val (.int arg2), .val (.int v1), .val (.int v2), .val (.int v3), .val (.ref b4), .val (.ref b7), .unset, .unset, .unset] [(.int v3), (.int v2), (.int (8 : Int32)), (.ref b7), (.int (8 : Int32)), (.ref b483), (.ref b483), (.ref b468), (.ref b468)])) rfl (by rw [hml]; rfl) (argsL := [(.ref b7), (.int (8 : Int32)), (.int v2), (.int v3)]) (rest := [(.int (8 : Int32)), (.ref b483), (.ref b483), (.ref b468), (.ref b468)]) (lenOf own_pd20 rfl) rfl (by show 2 * 0 + _ ≤ _; exact Nat.le_of_eq rfl) (hb hby at_456) (fun _ _ => ⟨rfl, e595, (by decide : 6 + 0 ≤ _), (by decide : 85 + 0 ≤ _)⟩)
            dsimp only [Pt.U, Pt.locs, Pt.cells, Pt.slots] at X607 l607 y607_ z607_ st607 hQ607
            subst l607 y607_ z607_
            obtain ⟨zc_607, rfl, N607q, e607q, r607_0⟩ := hQ607
            have N607 := Fr.app n600 N607q
            refine own_stW (B := T607.setTop (mkF m 459 #[.val (.int arg0), .val (.int arg1), .val (.int arg2), .val (.int v1), .val (.int v2), .val (.int v3), .val (.ref b4), .val (.ref b7), .unset, .unset, .unset] [(.int zc_607), (.int (8 : Int32)), (.ref b483), (.ref b483), (.ref b468), (.ref b468)])) (fun t k => st607 t k) ?_
            obtain ⟨T608, h608, X608, e608, W608, A608, st608⟩ := own_stC X607 hx hZ e607q f595_ (j := (8 : Int32)) (x := zc_607) (i := 8) (by decide) (show 8 < 9 from by decide) (g := (mkF m 459 #[.val (.int arg0), .val (.int arg1), .val (.int arg2), .val (.int v1), .val (.int v2), .val (.int v3), .val (.ref b4), .val (.ref b7), .unset, .unset, .unset] [(.int zc_607), (.int (8 : Int32)), (.ref b483), (.ref b483), (.ref b468), (.ref b468)])) rfl rfl (hb hby at_459)
            have f608_ : own_A Z h608 b483 .char [(.int (zc_504.toUInt32.toUInt16.toUInt32.toInt32)), (.int (zc_516.toUInt32.toUInt16.toUInt32.toInt32)), (.int (zc_529.toUInt32.toUInt16.toUInt32.toInt32)), (.int (zc_542.toUInt32.toUInt16.toUInt32.toInt32)), (.int (zc_555.toUInt32.toUInt16.toUInt32.toInt32)), (.int (zc_568.toUInt32.toUInt16.toUInt32.toInt32)), (.int (zc_581.toUInt32.toUInt16.toUInt32.toInt32)), (.int (zc_594.toUInt32.toUInt16.toUInt32.toInt32)), (.int (zc_607.toUInt32.toUInt16.toUInt32.toInt32))] := by simpa only [List.set_cons_succ, List.set_cons_zero] using A608
            have f610 : Exa Z h595 b483 "[C" := (f597.wr W595)
            have ch609 := ch596.trans (CHr.wr W608 (Safe.exa hZ.alike f610 (by decide) (by decide)) ch596.1)
            have sf611 := Safe.wr W608 (Safe.exa hZ.alike f610 (by decide) (by decide)) ch596.1 sf598
            have hk609 := Nat.le_trans hk596 (Keep.of_wr W608).1
            have z612 : n0 ≤ h608.size := Nat.le_trans z599 (Keep.of_wr W608).1
            have n613 := Fr.snoc X608 N607 u483
            refine own_stW (B := T608.setTop (mkF m 460 #[.val (.int arg0), .val (.int arg1), .val (.int arg2), .val (.int v1), .val (.int v2), .val (.int v3), .val (.ref b4), .val (.ref b7), .unset, .unset, .unset] [(.ref b483), (.ref b468), (.ref b468)])) (fun t k => st608 t k) ?_
            have hvb614 : own_bnd ([(zc_504.toUInt32.toUInt16.toUInt32.toInt32), (zc_516.toUInt32.toUInt16.toUInt32.toInt32), (zc_529.toUInt32.toUInt16.toUInt32.toInt32), (zc_542.toUInt32.toUInt16.toUInt32.toInt32), (zc_555.toUInt32.toUInt16.toUInt32.toInt32), (zc_568.toUInt32.toUInt16.toUInt32.toInt32), (zc_581.toUInt32.toUInt16.toUInt32.toInt32), (zc_594.toUInt32.toUInt16.toUInt32.toInt32), (zc_607.toUInt32.toUInt16.toUInt32.toInt32)] : List Int32) := (own_bndS (own_z255 r504_0) (own_bndS (own_z255 r516_0) (own_bndS (own_z255 r529_0) (own_bndS (own_z255 r542_0) (own_bndS (own_z255 r555_0) (own_bndS (own_z255 r568_0) (own_bndS (own_z255 r581_0) (own_bndS (own_z255 r594_0) (own_bndS (own_z255 r607_0) own_bnd0)))))))))
            have fv614 : own_A Z h608 b483 .char (([(zc_504.toUInt32.toUInt16.toUInt32.toInt32), (zc_516.toUInt32.toUInt16.toUInt32.toInt32), (zc_529.toUInt32.toUInt16.toUInt32.toInt32), (zc_542.toUInt32.toUInt16.toUInt32.toInt32), (zc_555.toUInt32.toUInt16.toUInt32.toInt32), (zc_568.toUInt32.toUInt16.toUInt32.toInt32), (zc_581.toUInt32.toUInt16.toUInt32.toInt32), (zc_594.toUInt32.toUInt16.toUInt32.toInt32), (zc_607.toUInt32.toUInt16.toUInt32.toInt32)] : List Int32).map Value.int) := f608_
            have f615 : Exa Z h608 b468 "java/lang/String" := ((((((((((A468.ext E483).wr W505).wr W517).wr W530).wr W543).wr W556).wr W569).wr W582).wr W595).wr W608)
            have f616 : Fld Z h608 b468 "java/lang/String" "value" "[B" .null := ((((((((((f481.ext E483).other W505 (Or.inl q483_b468)).other W517 (Or.inl q483_b468)).other W530 (Or.inl q483_b468)).other W543 (Or.inl q483_b468)).other W556 (Or.inl q483_b468)).other W569 (Or.inl q483_b468)).other W582 (Or.inl q483_b468)).other W595 (Or.inl q483_b468)).other W608 (Or.inl q483_b468))
            have f617 : Fld Z h608 b468 "java/lang/String" "coder" "B" (.int (0 : Int32)) := ((((((((((f482.ext E483).other W505 (Or.inl q483_b468)).other W517 (Or.inl q483_b468)).other W530 (Or.inl q483_b468)).other W543 (Or.inl q483_b468)).other W556 (Or.inl q483_b468)).other W569 (Or.inl q483_b468)).other W582 (Or.inl q483_b468)).other W595 (Or.inl q483_b468)).other W608 (Or.inl q483_b468))
            have f618 : Sta Z h608 "java/lang/String" "COMPACT_STRINGS" "Z" (.int cs) := (f605.wr W608)
            obtain ⟨_, _, ⟨T619, L619, k619, j619⟩, -, X619, ⟨Lc619, hQ619, l619, y619_, z619_⟩, st619⟩ := X608.specialBack hx (y := (⟨"java/lang/String", "<init>", "([C)V"⟩ : MethodName)) rfl hown (mvT hZ (w_50 hw)) (mvT hZ (w_51 hw)) (mvT hZ (w_52 hw)) (by decide) (backOf (W := 1) (rm9 l Z a0 hw [] b468 b483 cs ([(zc_504.toUInt32.toUInt16.toUInt32.toInt32), (zc_516.toUInt32.toUInt16.toUInt32.toInt32), (zc_529.toUInt32.toUInt16.toUInt32.toInt32), (zc_542.toUInt32.toUInt16.toUInt32.toInt32), (zc_555.toUInt32.toUInt16.toUInt32.toInt32), (zc_568.toUInt32.toUInt16.toUInt32.toInt32), (zc_581.toUInt32.toUInt16.toUInt32.toInt32), (zc_594.toUInt32.toUInt16.toUInt32.toInt32), (zc_607.toUInt32.toUInt16.toUInt32.toInt32)] : List Int32) h608 n0 z612 f615 f616 f617 fv614 f618 u468 hcs (show ¬ ((9 : Nat) = 0) from (by decide)) (show (9 : Nat) ≤ 16 from (by decide)) hvb614) hZ (w_52 hw) (w_1 hw) (by decide) (by decide)) (g := (mkF m 460 #[.val (.int arg0), .val (.int arg1), .val (.int arg2), .val (.int v1), .val (.int v2), .val (.int v3), .val (.ref b4), .val (.ref b7), .unset, .unset, .unset] [(.ref b483), (.ref b468), (.ref b468)])) rfl (by rw [hml]; rfl) (Steps.refl _) (a := b468) (argsL := [(.ref b483)]) (rest := [(.ref b468)]) (lenOf own_pd21 rfl) rfl (by show 2 * 0 + _ ≤ _; exact Nat.le_of_eq rfl) (hb hby at_460) (fun _ _ => ⟨rfl, e608, (by decide : 6 + 1 ≤ _), (by decide : 85 + 16 ≤ _)⟩)
            dsimp only [Pt.U, Pt.locs, Pt.cells, Pt.slots] at X619 l619 y619_ z619_ st619 hQ619
            subst l619 y619_ z619_
            obtain ⟨b_619, bs_619, rfl, N619q, K619, u619_b, y619_b, p619_0, p619_1, p619_2, p619_3, r619_0⟩ := hQ619
            have N619 := Fr.app n613 N619q
            have f620 : Exa Z h608 va "[Lcom/example/goodput/goodput/DeliveryMode;" := ((((((((((f484.ext E483).wr W505).wr W517).wr W530).wr W543).wr W556).wr W569).wr W582).wr W595).wr W608)
            have q619_b_va : va ≠ b_619 := Nat.ne_of_lt (Nat.lt_of_lt_of_le f620.lt y619_b)
            have f621 : Fld Z h608 r1 "com/example/goodput/goodput/DeliveryMode" "name" "Ljava/lang/String;" (.ref s1) := ((((((((((f485.ext E483).other W505 (Or.inl q483_r1)).other W517 (Or.inl q483_r1)).other W530 (Or.inl q483_r1)).other W543 (Or.inl q483_r1)).other W556 (Or.inl q483_r1)).other W569 (Or.inl q483_r1)).other W582 (Or.inl q483_r1)).other W595 (Or.inl q483_r1)).other W608 (Or.inl q483_r1))
            have q619_b_r1 : r1 ≠ b_619 := Nat.ne_of_lt (Nat.lt_of_lt_of_le f621.lt y619_b)
            have f622 : Fld Z h608 r2 "com/example/goodput/goodput/DeliveryMode" "name" "Ljava/lang/String;" (.ref s2) := ((((((((((f486.ext E483).other W505 (Or.inl q483_r2)).other W517 (Or.inl q483_r2)).other W530 (Or.inl q483_r2)).other W543 (Or.inl q483_r2)).other W556 (Or.inl q483_r2)).other W569 (Or.inl q483_r2)).other W582 (Or.inl q483_r2)).other W595 (Or.inl q483_r2)).other W608 (Or.inl q483_r2))
            have q619_b_r2 : r2 ≠ b_619 := Nat.ne_of_lt (Nat.lt_of_lt_of_le f622.lt y619_b)
            have f623 : Exa Z h608 s1 "java/lang/String" := ((((((((((f487.ext E483).wr W505).wr W517).wr W530).wr W543).wr W556).wr W569).wr W582).wr W595).wr W608)
            have q619_b_s1 : s1 ≠ b_619 := Nat.ne_of_lt (Nat.lt_of_lt_of_le f623.lt y619_b)
            have f624 : Exa Z h608 s2 "java/lang/String" := ((((((((((f488.ext E483).wr W505).wr W517).wr W530).wr W543).wr W556).wr W569).wr W582).wr W595).wr W608)
            have q619_b_s2 : s2 ≠ b_619 := Nat.ne_of_lt (Nat.lt_of_lt_of_le f624.lt y619_b)
            have f625 : own_A Z h608 d1 .byte (own_d.map Value.int) := ((((((((((f489.ext E483).other W505 q483_d1).other W517 q483_d1).other W530 q483_d1).other W543 q483_d1).other W556 q483_d1).other W569 q483_d1).other W582 q483_d1).other W595 q483_d1).other W608 q483_d1)
            have q619_b_d1 : d1 ≠ b_619 := Nat.ne_of_lt (Nat.lt_of_lt_of_le f625.lt y619_b)
            have f626 : own_A Z h608 d2 .byte (own_q.map Value.int) := ((((((((((f490.ext E483).other W505 q483_d2).other W517 q483_d2).other W530 q483_d2).other W543 q483_d2).other W556 q483_d2).other W569 q483_d2).other W582 q483_d2).other W595 q483_d2).other W608 q483_d2)
            have q619_b_d2 : d2 ≠ b_619 := Nat.ne_of_lt (Nat.lt_of_lt_of_le f626.lt y619_b)
            have f627 : Exa Z h608 b4 "java/lang/String" := ((((((((((f491.ext E483).wr W505).wr W517).wr W530).wr W543).wr W556).wr W569).wr W582).wr W595).wr W608)
            have q619_b_b4 : b4 ≠ b_619 := Nat.ne_of_lt (Nat.lt_of_lt_of_le f627.lt y619_b)
            have f628 : own_A Z h608 bb4 .byte (own_d.map Value.int) := ((((((((((f492.ext E483).other W505 q483_bb4).other W517 q483_bb4).other W530 q483_bb4).other W543 q483_bb4).other W556 q483_bb4).other W569 q483_bb4).other W582 q483_bb4).other W595 q483_bb4).other W608 q483_bb4)
            have q619_b_bb4 : bb4 ≠ b_619 := Nat.ne_of_lt (Nat.lt_of_lt_of_le f628.lt y619_b)
            have f629 : Exa Z h608 b7 "java/lang/String" := (f601.wr W608)
            have q619_b_b7 : b7 ≠ b_619 := Nat.ne_of_lt (Nat.lt_of_lt_of_le f629.lt y619_b)
            have f630 : own_A Z h608 bb7 .byte (own_q.map Value.int) := (f604.other W608 q483_bb7)
            have q619_b_bb7 : bb7 ≠ b_619 := Nat.ne_of_lt (Nat.lt_of_lt_of_le f630.lt y619_b)
            have q619_b_b468 : b468 ≠ b_619 := Nat.ne_of_lt (Nat.lt_of_lt_of_le f615.lt y619_b)
            have q619_b_b483 : b483 ≠ b_619 := Nat.ne_of_lt (Nat.lt_of_lt_of_le fv614.lt y619_b)
            have ch631 := ch609.trans (CHr.keep K619 (allS sf611 all0) ch609.1)
            have sf632 := Safe.keep K619 (allS sf611 all0) ch609.1 sf611
            have hk631 := Nat.le_trans hk609 K619.1
            have z633 : n0 ≤ T619.heap.size := Nat.le_trans z612 K619.1
            refine own_ssW (B := T619.setTop (mkF m 463 #[.val (.int arg0), .val (.int arg1), .val (.int arg2), .val (.int v1), .val (.int v2), .val (.int v3), .val (.ref b4), .val (.ref b7), .unset, .unset, .unset] [(.ref b468)])) st619 ?_
            have hbl619 : bs_619.length < 1000 := by have h9 : bs_619.length = 9 := r619_0; omega
            refine own_stW (B := T619.setTop (mkF m 465 #[.val (.int arg0), .val (.int arg1), .val (.int arg2), .val (.int v1), .val (.int v2), .val (.int v3), .val (.ref b4), .val (.ref b7), .val (.ref b468), .unset, .unset] [])) (fun t k => XS.astore X619.here hx rfl (hb hby at_463) rfl rfl (l' := #[.val (.int arg0), .val (.int arg1), .val (.int arg2), .val (.int v1), .val (.int v2), .val (.int v3), .val (.ref b4), .val (.ref b7), .val (.ref b468), .unset, .unset]) rfl k) ?_
            refine own_stW (B := T619.setTop (mkF m 825 #[.val (.int arg0), .val (.int arg1), .val (.int arg2), .val (.int v1), .val (.int v2), .val (.int v3), .val (.ref b4), .val (.ref b7), .val (.ref b468), .unset, .unset] [])) (fun t k => XS.goto X619.here hx rfl (pc0 := 465) (pc' := 825) rfl (hb hby at_465) (by decide) (by decide) k) ?_
            have x10_ := X619.more (cells' := 10) (slots' := 103) (by decide) (by decide)
            have f634 : Sta Z T619.heap "com/example/goodput/goodput/DeliveryMode" "$VALUES" "[Lcom/example/goodput/goodput/DeliveryMode;" (.ref va) := (own_Sta.keep (((((((((((((F0.ext E4).ext E7).ext E468).ext E483).wr W505).wr W517).wr W530).wr W543).wr W556).wr W569).wr W582).wr W595).wr W608) K619 (show ∀ st ∈ [b468], ∀ cell : Cell, h608[st]? = some cell → cell.vm.isStatics = false from (allS (own_plainE f615) all0)))
            have f635 : Exa Z T619.heap va "[Lcom/example/goodput/goodput/DeliveryMode;" := (f620.keep K619)
            have f636 : own_A Z T619.heap va (.object "com/example/goodput/goodput/DeliveryMode") [(.ref r1), (.ref r2)] := ((((((((((((((F2.ext E4).ext E7).ext E468).ext E483).other W505 q483_va).other W517 q483_va).other W530 q483_va).other W543 q483_va).other W556 q483_va).other W569 q483_va).other W582 q483_va).other W595 q483_va).other W608 q483_va).keep K619 (ninS q468_va nin0))
            have f637 : Fld Z T619.heap r1 "com/example/goodput/goodput/DeliveryMode" "name" "Ljava/lang/String;" (.ref s1) := (f621.keep K619 (ninS q468_r1 nin0))
            have f638 : Fld Z T619.heap r2 "com/example/goodput/goodput/DeliveryMode" "name" "Ljava/lang/String;" (.ref s2) := (f622.keep K619 (ninS q468_r2 nin0))
            have f639 : Exa Z T619.heap s1 "java/lang/String" := (f623.keep K619)
            have f640 : Exa Z T619.heap s2 "java/lang/String" := (f624.keep K619)
            have f641 : Fld Z T619.heap s1 "java/lang/String" "coder" "B" (.int (0 : Int32)) := ((((((((((((((F7.ext E4).ext E7).ext E468).ext E483).other W505 (Or.inl q483_s1)).other W517 (Or.inl q483_s1)).other W530 (Or.inl q483_s1)).other W543 (Or.inl q483_s1)).other W556 (Or.inl q483_s1)).other W569 (Or.inl q483_s1)).other W582 (Or.inl q483_s1)).other W595 (Or.inl q483_s1)).other W608 (Or.inl q483_s1)).keep K619 (ninS q468_s1 nin0))
            have f642 : Fld Z T619.heap s1 "java/lang/String" "value" "[B" (.ref d1) := ((((((((((((((F8.ext E4).ext E7).ext E468).ext E483).other W505 (Or.inl q483_s1)).other W517 (Or.inl q483_s1)).other W530 (Or.inl q483_s1)).other W543 (Or.inl q483_s1)).other W556 (Or.inl q483_s1)).other W569 (Or.inl q483_s1)).other W582 (Or.inl q483_s1)).other W595 (Or.inl q483_s1)).other W608 (Or.inl q483_s1)).keep K619 (ninS q468_s1 nin0))
            have f643 : Fld Z T619.heap s2 "java/lang/String" "coder" "B" (.int (0 : Int32)) := ((((((((((((((F9.ext E4).ext E7).ext E468).ext E483).other W505 (Or.inl q483_s2)).other W517 (Or.inl q483_s2)).other W530 (Or.inl q483_s2)).other W543 (Or.inl q483_s2)).other W556 (Or.inl q483_s2)).other W569 (Or.inl q483_s2)).other W582 (Or.inl q483_s2)).other W595 (Or.inl q483_s2)).other W608 (Or.inl q483_s2)).keep K619 (ninS q468_s2 nin0))
            have f644 : Fld Z T619.heap s2 "java/lang/String" "value" "[B" (.ref d2) := ((((((((((((((F10.ext E4).ext E7).ext E468).ext E483).other W505 (Or.inl q483_s2)).other W517 (Or.inl q483_s2)).other W530 (Or.inl q483_s2)).other W543 (Or.inl q483_s2)).other W556 (Or.inl q483_s2)).other W569 (Or.inl q483_s2)).other W582 (Or.inl q483_s2)).other W595 (Or.inl q483_s2)).other W608 (Or.inl q483_s2)).keep K619 (ninS q468_s2 nin0))
            have f645 : own_A Z T619.heap d1 .byte (own_d.map Value.int) := (f625.keep K619 (ninS q468_d1 nin0))
            have f646 : own_A Z T619.heap d2 .byte (own_q.map Value.int) := (f626.keep K619 (ninS q468_d2 nin0))
            have f647 : Sta Z T619.heap "com/example/goodput/goodput/DeliveryMode" "DIRECT" "Lcom/example/goodput/goodput/DeliveryMode;" (.ref r1) := (own_Sta.keep (((((((((((((F13.ext E4).ext E7).ext E468).ext E483).wr W505).wr W517).wr W530).wr W543).wr W556).wr W569).wr W582).wr W595).wr W608) K619 (show ∀ st ∈ [b468], ∀ cell : Cell, h608[st]? = some cell → cell.vm.isStatics = false from (allS (own_plainE f615) all0)))
            have f648 : Sta Z T619.heap "com/example/goodput/goodput/DeliveryMode" "PERSISTENT" "Lcom/example/goodput/goodput/DeliveryMode;" (.ref r2) := (own_Sta.keep (((((((((((((F14.ext E4).ext E7).ext E468).ext E483).wr W505).wr W517).wr W530).wr W543).wr W556).wr W569).wr W582).wr W595).wr W608) K619 (show ∀ st ∈ [b468], ∀ cell : Cell, h608[st]? = some cell → cell.vm.isStatics = false from (allS (own_plainE f615) all0)))
            have f649 : Sta Z T619.heap "java/lang/String" "COMPACT_STRINGS" "Z" (.int cs) := (own_Sta.keep f618 K619 (show ∀ st ∈ [b468], ∀ cell : Cell, h608[st]? = some cell → cell.vm.isStatics = false from (allS (own_plainE f615) all0)))
            have f650 : Exa Z T619.heap b4 "java/lang/String" := (f627.keep K619)
            have f651 : Fld Z T619.heap b4 "java/lang/String" "coder" "B" (.int (0 : Int32)) := (((((((((((((C4.ext E7).ext E468).ext E483).other W505 (Or.inl q483_b4)).other W517 (Or.inl q483_b4)).other W530 (Or.inl q483_b4)).other W543 (Or.inl q483_b4)).other W556 (Or.inl q483_b4)).other W569 (Or.inl q483_b4)).other W582 (Or.inl q483_b4)).other W595 (Or.inl q483_b4)).other W608 (Or.inl q483_b4)).keep K619 (ninS q468_b4 nin0))
            have f652 : Fld Z T619.heap b4 "java/lang/String" "value" "[B" (.ref bb4) := (((((((((((((V4.ext E7).ext E468).ext E483).other W505 (Or.inl q483_b4)).other W517 (Or.inl q483_b4)).other W530 (Or.inl q483_b4)).other W543 (Or.inl q483_b4)).other W556 (Or.inl q483_b4)).other W569 (Or.inl q483_b4)).other W582 (Or.inl q483_b4)).other W595 (Or.inl q483_b4)).other W608 (Or.inl q483_b4)).keep K619 (ninS q468_b4 nin0))
            have f653 : own_A Z T619.heap bb4 .byte (own_d.map Value.int) := (f628.keep K619 (ninS q468_bb4 nin0))
            have f654 : Exa Z T619.heap b7 "java/lang/String" := (f629.keep K619)
            have f655 : Fld Z T619.heap b7 "java/lang/String" "coder" "B" (.int (0 : Int32)) := ((f602.other W608 (Or.inl q483_b7)).keep K619 (ninS q468_b7 nin0))
            have f656 : Fld Z T619.heap b7 "java/lang/String" "value" "[B" (.ref bb7) := ((f603.other W608 (Or.inl q483_b7)).keep K619 (ninS q468_b7 nin0))
            have f657 : own_A Z T619.heap bb7 .byte (own_q.map Value.int) := (f630.keep K619 (ninS q468_bb7 nin0))
            exact J10 _ _ T619 _ _ b468 b_619 bs_619 x10_ rfl N619 z633 hS7 hk631 hZ hown ch631 p619_0 p619_2 p619_1 p619_3 f634 f635 f636 f637 f638 f639 f640 f641 f642 f643 f644 f645 f646 f647 f648 f649 f650 f651 f652 f653 f654 f655 f656 f657 (show bs_619.length < 1000 by exact hbl619) (show s1 ≠ b468 by exact q468_s1) (show s2 ≠ b468 by exact q468_s2) (show b4 ≠ b468 by exact q468_b4) (show b7 ≠ b468 by exact q468_b7)
          · refine own_stW (B := T7.setTop (mkF m 468 #[.val (.int arg0), .val (.int arg1), .val (.int arg2), .val (.int v1), .val (.int v2), .val (.int v3), .val (.ref b4), .val (.ref b7), .unset, .unset, .unset] [])) (fun t k => XS.icmpYes X7.here hx rfl (pc0 := 326) (pc' := 468) rfl (hb hby at_326) rfl (XT.ii_ne_t hc467) (by decide) (by decide) k) ?_
            refine own_stW (B := T7.setTop (mkF m 469 #[.val (.int arg0), .val (.int arg1), .val (.int arg2), .val (.int v1), .val (.int v2), .val (.int v3), .val (.ref b4), .val (.ref b7), .unset, .unset, .unset] [(.int v1)])) (fun t k => XS.iloadN X7.here hx rfl (hb hby at_468) rfl k) ?_
            refine own_stW (B := T7.setTop (mkF m 470 #[.val (.int arg0), .val (.int arg1), .val (.int arg2), .val (.int v1), .val (.int v2), .val (.int v3), .val (.ref b4), .val (.ref b7), .unset, .unset, .unset] [(.int (4 : Int32)), (.int v1)])) (fun t k => XS.iconst X7.here hx rfl (hb hby at_469) k) ?_
            by_cases hc658 : v1 = (4 : Int32)
            · refine own_stW (B := T7.setTop (mkF m 473 #[.val (.int arg0), .val (.int arg1), .val (.int arg2), .val (.int v1), .val (.int v2), .val (.int v3), .val (.ref b4), .val (.ref b7), .unset, .unset, .unset] [])) (fun t k => XS.icmpNo X7.here hx rfl (hb hby at_470) rfl (XT.ii_ne_f hc658) k) ?_
              obtain ⟨T659, h659, X659, e659, E659, A659, D659, -, st659⟩ := newO X7 hx hZ hown (w_9 hw) (w_2 hw) (w_1 hw) e7 (g := (mkF m 473 #[.val (.int arg0), .val (.int arg1), .val (.int arg2), .val (.int v1), .val (.int v2), .val (.int v3), .val (.ref b4), .val (.ref b7), .unset, .unset, .unset] [])) rfl (hb hby at_473) (by decide) (by decide)
              obtain ⟨b659, g659⟩ : ∃ z, z = h7.size := ⟨_, rfl⟩
              rw [← g659] at A659 D659 st659
              have f660 : Exa Z h7 va "[Lcom/example/goodput/goodput/DeliveryMode;" := ((F1.ext E4).ext E7)
              have q659_va : va ≠ b659 := Nat.ne_of_lt (Nat.lt_of_lt_of_le f660.lt (Nat.le_of_eq g659.symm))
              have f661 : Fld Z h7 r1 "com/example/goodput/goodput/DeliveryMode" "name" "Ljava/lang/String;" (.ref s1) := ((F3.ext E4).ext E7)
              have q659_r1 : r1 ≠ b659 := Nat.ne_of_lt (Nat.lt_of_lt_of_le f661.lt (Nat.le_of_eq g659.symm))
              have f662 : Fld Z h7 r2 "com/example/goodput/goodput/DeliveryMode" "name" "Ljava/lang/String;" (.ref s2) := ((F4.ext E4).ext E7)
              have q659_r2 : r2 ≠ b659 := Nat.ne_of_lt (Nat.lt_of_lt_of_le f662.lt (Nat.le_of_eq g659.symm))
              have f663 : Exa Z h7 s1 "java/lang/String" := ((F5.ext E4).ext E7)
              have q659_s1 : s1 ≠ b659 := Nat.ne_of_lt (Nat.lt_of_lt_of_le f663.lt (Nat.le_of_eq g659.symm))
              have f664 : Exa Z h7 s2 "java/lang/String" := ((F6.ext E4).ext E7)
              have q659_s2 : s2 ≠ b659 := Nat.ne_of_lt (Nat.lt_of_lt_of_le f664.lt (Nat.le_of_eq g659.symm))
              have f665 : own_A Z h7 d1 .byte (own_d.map Value.int) := ((F11.ext E4).ext E7)
              have q659_d1 : d1 ≠ b659 := Nat.ne_of_lt (Nat.lt_of_lt_of_le f665.lt (Nat.le_of_eq g659.symm))
              have f666 : own_A Z h7 d2 .byte (own_q.map Value.int) := ((F12.ext E4).ext E7)
              have q659_d2 : d2 ≠ b659 := Nat.ne_of_lt (Nat.lt_of_lt_of_le f666.lt (Nat.le_of_eq g659.symm))
              have f667 : Exa Z h7 b4 "java/lang/String" := (A4.ext E7)
              have q659_b4 : b4 ≠ b659 := Nat.ne_of_lt (Nat.lt_of_lt_of_le f667.lt (Nat.le_of_eq g659.symm))
              have f668 : own_A Z h7 bb4 .byte (own_d.map Value.int) := (fa4.ext E7)
              have q659_bb4 : bb4 ≠ b659 := Nat.ne_of_lt (Nat.lt_of_lt_of_le f668.lt (Nat.le_of_eq g659.symm))
              have q659_b7 : b7 ≠ b659 := Nat.ne_of_lt (Nat.lt_of_lt_of_le A7.lt (Nat.le_of_eq g659.symm))
              have q659_bb7 : bb7 ≠ b659 := Nat.ne_of_lt (Nat.lt_of_lt_of_le fa7.lt (Nat.le_of_eq g659.symm))
              have u659 : n0 ≤ b659 := Nat.le_trans z9 (Nat.le_of_eq g659.symm)
              have ch669 := ch8.trans (CHr.ext E659 ch8.1)
              have sf670 := Safe.ext E659 ch8.1 (Safe.new (Nat.le_of_eq g659.symm))
              have hk669 := Nat.le_trans hk7 E659.1
              have z671 : n0 ≤ h659.size := Nat.le_trans z9 E659.1
              have f672 : Fld Z h659 b659 "java/lang/String" "value" "[B" .null := D659 (Or.inr (w_4 hw)) (ty := (.array .byte)) (by decide)
              have f673 : Fld Z h659 b659 "java/lang/String" "coder" "B" (.int (0 : Int32)) := D659 (Or.inr (w_5 hw)) (ty := .byte) (by decide)
              refine own_stW (B := T659.setTop (mkF m 476 #[.val (.int arg0), .val (.int arg1), .val (.int arg2), .val (.int v1), .val (.int v2), .val (.int v3), .val (.ref b4), .val (.ref b7), .unset, .unset, .unset] [(.ref b659)])) (fun t k => st659 t k) ?_
              refine own_stW (B := T659.setTop (mkF m 477 #[.val (.int arg0), .val (.int arg1), .val (.int arg2), .val (.int v1), .val (.int v2), .val (.int v3), .val (.ref b4), .val (.ref b7), .unset, .unset, .unset] [(.ref b659), (.ref b659)])) (fun t k => XS.dup X659.here hx rfl (hb hby at_476) rfl rfl k) ?_
              refine own_stW (B := T659.setTop (mkF m 479 #[.val (.int arg0), .val (.int arg1), .val (.int arg2), .val (.int v1), .val (.int v2), .val (.int v3), .val (.ref b4), .val (.ref b7), .unset, .unset, .unset] [(.int (10 : Int32)), (.ref b659), (.ref b659)])) (fun t k => XS.bipush X659.here hx rfl (hb hby at_477) k) ?_
              obtain ⟨T674, h674, X674, e674, E674, A674, x674, st674⟩ := own_newP X659 hx hZ (aty := .char) (w_10 hw) e659 (g := (mkF m 479 #[.val (.int arg0), .val (.int arg1), .val (.int arg2), .val (.int v1), .val (.int v2), .val (.int v3), .val (.ref b4), .val (.ref b7), .unset, .unset, .unset] [(.int (10 : Int32)), (.ref b659), (.ref b659)])) rfl (hb hby at_479) (n := (10 : Int32)) (rest := [(.ref b659), (.ref b659)]) rfl (k := 10) (cap := 10) (by decide) (Nat.le_refl _) (by decide) (by decide) (by decide) (ad := "[C") rfl
              obtain ⟨b674, g674⟩ : ∃ z, z = h659.size := ⟨_, rfl⟩
              rw [← g674] at A674 x674 st674
              have f675 : Exa Z h659 va "[Lcom/example/goodput/goodput/DeliveryMode;" := (f660.ext E659)
              have q674_va : va ≠ b674 := Nat.ne_of_lt (Nat.lt_of_lt_of_le f675.lt (Nat.le_of_eq g674.symm))
              have f676 : Fld Z h659 r1 "com/example/goodput/goodput/DeliveryMode" "name" "Ljava/lang/String;" (.ref s1) := (f661.ext E659)
              have q674_r1 : r1 ≠ b674 := Nat.ne_of_lt (Nat.lt_of_lt_of_le f676.lt (Nat.le_of_eq g674.symm))
              have f677 : Fld Z h659 r2 "com/example/goodput/goodput/DeliveryMode" "name" "Ljava/lang/String;" (.ref s2) := (f662.ext E659)
              have q674_r2 : r2 ≠ b674 := Nat.ne_of_lt (Nat.lt_of_lt_of_le f677.lt (Nat.le_of_eq g674.symm))
              have f678 : Exa Z h659 s1 "java/lang/String" := (f663.ext E659)
              have q674_s1 : s1 ≠ b674 := Nat.ne_of_lt (Nat.lt_of_lt_of_le f678.lt (Nat.le_of_eq g674.symm))
              have f679 : Exa Z h659 s2 "java/lang/String" := (f664.ext E659)
              have q674_s2 : s2 ≠ b674 := Nat.ne_of_lt (Nat.lt_of_lt_of_le f679.lt (Nat.le_of_eq g674.symm))
              have f680 : own_A Z h659 d1 .byte (own_d.map Value.int) := (f665.ext E659)
              have q674_d1 : d1 ≠ b674 := Nat.ne_of_lt (Nat.lt_of_lt_of_le f680.lt (Nat.le_of_eq g674.symm))
              have f681 : own_A Z h659 d2 .byte (own_q.map Value.int) := (f666.ext E659)
              have q674_d2 : d2 ≠ b674 := Nat.ne_of_lt (Nat.lt_of_lt_of_le f681.lt (Nat.le_of_eq g674.symm))
              have f682 : Exa Z h659 b4 "java/lang/String" := (f667.ext E659)
              have q674_b4 : b4 ≠ b674 := Nat.ne_of_lt (Nat.lt_of_lt_of_le f682.lt (Nat.le_of_eq g674.symm))
              have f683 : own_A Z h659 bb4 .byte (own_d.map Value.int) := (f668.ext E659)
              have q674_bb4 : bb4 ≠ b674 := Nat.ne_of_lt (Nat.lt_of_lt_of_le f683.lt (Nat.le_of_eq g674.symm))
              have f684 : Exa Z h659 b7 "java/lang/String" := (A7.ext E659)
              have q674_b7 : b7 ≠ b674 := Nat.ne_of_lt (Nat.lt_of_lt_of_le f684.lt (Nat.le_of_eq g674.symm))
              have f685 : own_A Z h659 bb7 .byte (own_q.map Value.int) := (fa7.ext E659)
              have q674_bb7 : bb7 ≠ b674 := Nat.ne_of_lt (Nat.lt_of_lt_of_le f685.lt (Nat.le_of_eq g674.symm))
              have q674_b659 : b659 ≠ b674 := Nat.ne_of_lt (Nat.lt_of_lt_of_le A659.lt (Nat.le_of_eq g674.symm))
              have u674 : n0 ≤ b674 := Nat.le_trans z671 (Nat.le_of_eq g674.symm)
              have ch686 := ch669.trans (CHr.ext E674 ch669.1)
              have sf687 := Safe.ext E674 ch669.1 sf670
              have hk686 := Nat.le_trans hk669 E674.1
              have z688 : n0 ≤ h674.size := Nat.le_trans z671 E674.1
              have f674_ : own_A Z h674 b674 .char [(.int (0 : Int32)), (.int (0 : Int32)), (.int (0 : Int32)), (.int (0 : Int32)), (.int (0 : Int32)), (.int (0 : Int32)), (.int (0 : Int32)), (.int (0 : Int32)), (.int (0 : Int32)), (.int (0 : Int32))] := A674
              refine own_stW (B := T674.setTop (mkF m 481 #[.val (.int arg0), .val (.int arg1), .val (.int arg2), .val (.int v1), .val (.int v2), .val (.int v3), .val (.ref b4), .val (.ref b7), .unset, .unset, .unset] [(.ref b674), (.ref b659), (.ref b659)])) (fun t k => st674 t k) ?_
              refine own_stW (B := T674.setTop (mkF m 482 #[.val (.int arg0), .val (.int arg1), .val (.int arg2), .val (.int v1), .val (.int v2), .val (.int v3), .val (.ref b4), .val (.ref b7), .unset, .unset, .unset] [(.ref b674), (.ref b674), (.ref b659), (.ref b659)])) (fun t k => XS.dup X674.here hx rfl (hb hby at_481) rfl rfl k) ?_
              refine own_stW (B := T674.setTop (mkF m 483 #[.val (.int arg0), .val (.int arg1), .val (.int arg2), .val (.int v1), .val (.int v2), .val (.int v3), .val (.ref b4), .val (.ref b7), .unset, .unset, .unset] [(.int (0 : Int32)), (.ref b674), (.ref b674), (.ref b659), (.ref b659)])) (fun t k => XS.iconst X674.here hx rfl (hb hby at_482) k) ?_
              refine own_stW (B := T674.setTop (mkF m 485 #[.val (.int arg0), .val (.int arg1), .val (.int arg2), .val (.int v1), .val (.int v2), .val (.int v3), .val (.ref b4), .val (.ref b7), .unset, .unset, .unset] [(.ref b7), (.int (0 : Int32)), (.ref b674), (.ref b674), (.ref b659), (.ref b659)])) (fun t k => XS.aload X674.here hx rfl (hb hby at_483) rfl rfl k) ?_
              refine own_stW (B := T674.setTop (mkF m 486 #[.val (.int arg0), .val (.int arg1), .val (.int arg2), .val (.int v1), .val (.int v2), .val (.int v3), .val (.ref b4), .val (.ref b7), .unset, .unset, .unset] [(.int (0 : Int32)), (.ref b7), (.int (0 : Int32)), (.ref b674), (.ref b674), (.ref b659), (.ref b659)])) (fun t k => XS.iconst X674.here hx rfl (hb hby at_485) k) ?_
              refine own_stW (B := T674.setTop (mkF m 488 #[.val (.int arg0), .val (.int arg1), .val (.int arg2), .val (.int v1), .val (.int v2), .val (.int v3), .val (.ref b4), .val (.ref b7), .unset, .unset, .unset] [(.int v2), (.int (0 : Int32)), (.ref b7), (.int (0 : Int32)), (.ref b674), (.ref b674), (.ref b659), (.ref b659)])) (fun t k => XS.iload X674.here hx rfl (hb hby at_486) rfl k) ?_
              refine own_stW (B := T674.setTop (mkF m 490 #[.val (.int arg0), .val (.int arg1), .val (.int arg2), .val (.int v1), .val (.int v2), .val (.int v3), .val (.ref b4), .val (.ref b7), .unset, .unset, .unset] [(.int v3), (.int v2), (.int (0 : Int32)), (.ref b7), (.int (0 : Int32)), (.ref b674), (.ref b674), (.ref b659), (.ref b659)])) (fun t k => XS.iload X674.here hx rfl (hb hby at_488) rfl k) ?_
              have f689 : Exa Z h674 b7 "java/lang/String" := (f684.ext E674)
              have f690 : Fld Z h674 b7 "java/lang/String" "coder" "B" (.int (0 : Int32)) := ((C7.ext E659).ext E674)
              have f691 : Fld Z h674 b7 "java/lang/String" "value" "[B" (.ref bb7) := ((V7.ext E659).ext E674)
              have f692 : own_A Z h674 bb7 .byte (own_q.map Value.int) := (f685.ext E674)
              have f693 : Sta Z h674 "java/lang/String" "COMPACT_STRINGS" "Z" (.int cs) := ((((F15.ext E4).ext E7).ext E659).ext E674)
              have f694 : Sta Z h674 "jdk/internal/util/Preconditions" "SIOOBE_FORMATTER" "Ljava/util/function/BiFunction;" u1 := ((((F16.ext E4).ext E7).ext E659).ext E674)
              obtain ⟨_, _, ⟨T695, L695, k695, j695⟩, -, X695, ⟨Lc695, hQ695, l695, y695_, z695_⟩, st695⟩ := Jvm.LawKit.callS X674 hx (y := (⟨"com/example/goodput/goodput/DeliveryModeNamedPinLaw", "at", "(Ljava/lang/String;IIC)C"⟩ : MethodName)) hown (mvT hZ (w_11 hw)) (mvT hZ (w_12 hw)) (mvT hZ (w_13 hw)) (mvT hZ (w_14 hw)) (by decide) (backOf (W := 5) (rm1 l Z a0 hw [] b7 (0 : Int32) v2 v3 bb7 own_q cs u1 h674 n0 z688 f689 f690 f691 f692 f693 f694 (show 0 ≤ (0 : Int32).toInt by decide) hcc (show own_q.length < 1000 by decide) hcs hu) hZ (w_14 hw) (w_13 hw) (by decide) (by decide)) (g := (mkF m 490 #[.val (.int arg0), .val (.int arg1), .val (.int arg2), .val (.int v1), .val (.int v2), .val (.int v3), .val (.ref b4), .val (.ref b7), .unset, .unset, .unset] [(.int v3), (.int v2), (.int (0 : Int32)), (.ref b7), (.int (0 : Int32)), (.ref b674), (.ref b674), (.ref b659), (.ref b659)])) rfl (by rw [hml]; rfl) (argsL := [(.ref b7), (.int (0 : Int32)), (.int v2), (.int v3)]) (rest := [(.int (0 : Int32)), (.ref b674), (.ref b674), (.ref b659), (.ref b659)]) (lenOf own_pd20 rfl) rfl (by show 2 * 0 + _ ≤ _; exact Nat.le_of_eq rfl) (hb hby at_490) (fun _ _ => ⟨rfl, e674, (by decide : 6 + 0 ≤ _), (by decide : 86 + 0 ≤ _)⟩)
              dsimp only [Pt.U, Pt.locs, Pt.cells, Pt.slots] at X695 l695 y695_ z695_ st695 hQ695
              subst l695 y695_ z695_
              obtain ⟨zc_695, rfl, N695q, e695q, r695_0⟩ := hQ695
              have N695 := Fr.app N0 N695q
              refine own_stW (B := T695.setTop (mkF m 493 #[.val (.int arg0), .val (.int arg1), .val (.int arg2), .val (.int v1), .val (.int v2), .val (.int v3), .val (.ref b4), .val (.ref b7), .unset, .unset, .unset] [(.int zc_695), (.int (0 : Int32)), (.ref b674), (.ref b674), (.ref b659), (.ref b659)])) (fun t k => st695 t k) ?_
              obtain ⟨T696, h696, X696, e696, W696, A696, st696⟩ := own_stC X695 hx hZ e695q f674_ (j := (0 : Int32)) (x := zc_695) (i := 0) (by decide) (show 0 < 10 from by decide) (g := (mkF m 493 #[.val (.int arg0), .val (.int arg1), .val (.int arg2), .val (.int v1), .val (.int v2), .val (.int v3), .val (.ref b4), .val (.ref b7), .unset, .unset, .unset] [(.int zc_695), (.int (0 : Int32)), (.ref b674), (.ref b674), (.ref b659), (.ref b659)])) rfl rfl (hb hby at_493)
              have f696_ : own_A Z h696 b674 .char [(.int (zc_695.toUInt32.toUInt16.toUInt32.toInt32)), (.int (0 : Int32)), (.int (0 : Int32)), (.int (0 : Int32)), (.int (0 : Int32)), (.int (0 : Int32)), (.int (0 : Int32)), (.int (0 : Int32)), (.int (0 : Int32)), (.int (0 : Int32))] := A696
              have ch697 := ch686.trans (CHr.wr W696 (Safe.exa hZ.alike x674 (by decide) (by decide)) ch686.1)
              have sf698 := Safe.wr W696 (Safe.exa hZ.alike x674 (by decide) (by decide)) ch686.1 sf687
              have hk697 := Nat.le_trans hk686 (Keep.of_wr W696).1
              have z699 : n0 ≤ h696.size := Nat.le_trans z688 (Keep.of_wr W696).1
              have n700 := Fr.snoc X696 N695 u674
              refine own_stW (B := T696.setTop (mkF m 494 #[.val (.int arg0), .val (.int arg1), .val (.int arg2), .val (.int v1), .val (.int v2), .val (.int v3), .val (.ref b4), .val (.ref b7), .unset, .unset, .unset] [(.ref b674), (.ref b659), (.ref b659)])) (fun t k => st696 t k) ?_
              refine own_stW (B := T696.setTop (mkF m 495 #[.val (.int arg0), .val (.int arg1), .val (.int arg2), .val (.int v1), .val (.int v2), .val (.int v3), .val (.ref b4), .val (.ref b7), .unset, .unset, .unset] [(.ref b674), (.ref b674), (.ref b659), (.ref b659)])) (fun t k => XS.dup X696.here hx rfl (hb hby at_494) rfl rfl k) ?_
              refine own_stW (B := T696.setTop (mkF m 496 #[.val (.int arg0), .val (.int arg1), .val (.int arg2), .val (.int v1), .val (.int v2), .val (.int v3), .val (.ref b4), .val (.ref b7), .unset, .unset, .unset] [(.int (1 : Int32)), (.ref b674), (.ref b674), (.ref b659), (.ref b659)])) (fun t k => XS.iconst X696.here hx rfl (hb hby at_495) k) ?_
              refine own_stW (B := T696.setTop (mkF m 498 #[.val (.int arg0), .val (.int arg1), .val (.int arg2), .val (.int v1), .val (.int v2), .val (.int v3), .val (.ref b4), .val (.ref b7), .unset, .unset, .unset] [(.ref b7), (.int (1 : Int32)), (.ref b674), (.ref b674), (.ref b659), (.ref b659)])) (fun t k => XS.aload X696.here hx rfl (hb hby at_496) rfl rfl k) ?_
              refine own_stW (B := T696.setTop (mkF m 499 #[.val (.int arg0), .val (.int arg1), .val (.int arg2), .val (.int v1), .val (.int v2), .val (.int v3), .val (.ref b4), .val (.ref b7), .unset, .unset, .unset] [(.int (1 : Int32)), (.ref b7), (.int (1 : Int32)), (.ref b674), (.ref b674), (.ref b659), (.ref b659)])) (fun t k => XS.iconst X696.here hx rfl (hb hby at_498) k) ?_
              refine own_stW (B := T696.setTop (mkF m 501 #[.val (.int arg0), .val (.int arg1), .val (.int arg2), .val (.int v1), .val (.int v2), .val (.int v3), .val (.ref b4), .val (.ref b7), .unset, .unset, .unset] [(.int v2), (.int (1 : Int32)), (.ref b7), (.int (1 : Int32)), (.ref b674), (.ref b674), (.ref b659), (.ref b659)])) (fun t k => XS.iload X696.here hx rfl (hb hby at_499) rfl k) ?_
              refine own_stW (B := T696.setTop (mkF m 503 #[.val (.int arg0), .val (.int arg1), .val (.int arg2), .val (.int v1), .val (.int v2), .val (.int v3), .val (.ref b4), .val (.ref b7), .unset, .unset, .unset] [(.int v3), (.int v2), (.int (1 : Int32)), (.ref b7), (.int (1 : Int32)), (.ref b674), (.ref b674), (.ref b659), (.ref b659)])) (fun t k => XS.iload X696.here hx rfl (hb hby at_501) rfl k) ?_
              have f701 : Exa Z h696 b7 "java/lang/String" := (f689.wr W696)
              have f702 : Fld Z h696 b7 "java/lang/String" "coder" "B" (.int (0 : Int32)) := (f690.other W696 (Or.inl q674_b7))
              have f703 : Fld Z h696 b7 "java/lang/String" "value" "[B" (.ref bb7) := (f691.other W696 (Or.inl q674_b7))
              have f704 : own_A Z h696 bb7 .byte (own_q.map Value.int) := (f692.other W696 q674_bb7)
              have f705 : Sta Z h696 "java/lang/String" "COMPACT_STRINGS" "Z" (.int cs) := (f693.wr W696)
              have f706 : Sta Z h696 "jdk/internal/util/Preconditions" "SIOOBE_FORMATTER" "Ljava/util/function/BiFunction;" u1 := (f694.wr W696)
              obtain ⟨_, _, ⟨T707, L707, k707, j707⟩, -, X707, ⟨Lc707, hQ707, l707, y707_, z707_⟩, st707⟩ := Jvm.LawKit.callS X696 hx (y := (⟨"com/example/goodput/goodput/DeliveryModeNamedPinLaw", "at", "(Ljava/lang/String;IIC)C"⟩ : MethodName)) hown (mvT hZ (w_11 hw)) (mvT hZ (w_12 hw)) (mvT hZ (w_13 hw)) (mvT hZ (w_14 hw)) (by decide) (backOf (W := 5) (rm1 l Z a0 hw [] b7 (1 : Int32) v2 v3 bb7 own_q cs u1 h696 n0 z699 f701 f702 f703 f704 f705 f706 (show 0 ≤ (1 : Int32).toInt by decide) hcc (show own_q.length < 1000 by decide) hcs hu) hZ (w_14 hw) (w_13 hw) (by decide) (by decide)) (g := (mkF m 503 #[.val (.int arg0), .val (.int arg1), .val (.int arg2), .val (.int v1), .val (.int v2), .val (.int v3), .val (.ref b4), .val (.ref b7), .unset, .unset, .unset] [(.int v3), (.int v2), (.int (1 : Int32)), (.ref b7), (.int (1 : Int32)), (.ref b674), (.ref b674), (.ref b659), (.ref b659)])) rfl (by rw [hml]; rfl) (argsL := [(.ref b7), (.int (1 : Int32)), (.int v2), (.int v3)]) (rest := [(.int (1 : Int32)), (.ref b674), (.ref b674), (.ref b659), (.ref b659)]) (lenOf own_pd20 rfl) rfl (by show 2 * 0 + _ ≤ _; exact Nat.le_of_eq rfl) (hb hby at_503) (fun _ _ => ⟨rfl, e696, (by decide : 6 + 0 ≤ _), (by decide : 86 + 0 ≤ _)⟩)
              dsimp only [Pt.U, Pt.locs, Pt.cells, Pt.slots] at X707 l707 y707_ z707_ st707 hQ707
              subst l707 y707_ z707_
              obtain ⟨zc_707, rfl, N707q, e707q, r707_0⟩ := hQ707
              have N707 := Fr.app n700 N707q
              refine own_stW (B := T707.setTop (mkF m 506 #[.val (.int arg0), .val (.int arg1), .val (.int arg2), .val (.int v1), .val (.int v2), .val (.int v3), .val (.ref b4), .val (.ref b7), .unset, .unset, .unset] [(.int zc_707), (.int (1 : Int32)), (.ref b674), (.ref b674), (.ref b659), (.ref b659)])) (fun t k => st707 t k) ?_
              obtain ⟨T708, h708, X708, e708, W708, A708, st708⟩ := own_stC X707 hx hZ e707q f696_ (j := (1 : Int32)) (x := zc_707) (i := 1) (by decide) (show 1 < 10 from by decide) (g := (mkF m 506 #[.val (.int arg0), .val (.int arg1), .val (.int arg2), .val (.int v1), .val (.int v2), .val (.int v3), .val (.ref b4), .val (.ref b7), .unset, .unset, .unset] [(.int zc_707), (.int (1 : Int32)), (.ref b674), (.ref b674), (.ref b659), (.ref b659)])) rfl rfl (hb hby at_506)
              have f708_ : own_A Z h708 b674 .char [(.int (zc_695.toUInt32.toUInt16.toUInt32.toInt32)), (.int (zc_707.toUInt32.toUInt16.toUInt32.toInt32)), (.int (0 : Int32)), (.int (0 : Int32)), (.int (0 : Int32)), (.int (0 : Int32)), (.int (0 : Int32)), (.int (0 : Int32)), (.int (0 : Int32)), (.int (0 : Int32))] := A708
              have f710 : Exa Z h696 b674 "[C" := (x674.wr W696)
              have ch709 := ch697.trans (CHr.wr W708 (Safe.exa hZ.alike f710 (by decide) (by decide)) ch697.1)
              have sf711 := Safe.wr W708 (Safe.exa hZ.alike f710 (by decide) (by decide)) ch697.1 sf698
              have hk709 := Nat.le_trans hk697 (Keep.of_wr W708).1
              have z712 : n0 ≤ h708.size := Nat.le_trans z699 (Keep.of_wr W708).1
              have n713 := Fr.snoc X708 N707 u674
              refine own_stW (B := T708.setTop (mkF m 507 #[.val (.int arg0), .val (.int arg1), .val (.int arg2), .val (.int v1), .val (.int v2), .val (.int v3), .val (.ref b4), .val (.ref b7), .unset, .unset, .unset] [(.ref b674), (.ref b659), (.ref b659)])) (fun t k => st708 t k) ?_
              refine own_stW (B := T708.setTop (mkF m 508 #[.val (.int arg0), .val (.int arg1), .val (.int arg2), .val (.int v1), .val (.int v2), .val (.int v3), .val (.ref b4), .val (.ref b7), .unset, .unset, .unset] [(.ref b674), (.ref b674), (.ref b659), (.ref b659)])) (fun t k => XS.dup X708.here hx rfl (hb hby at_507) rfl rfl k) ?_
              refine own_stW (B := T708.setTop (mkF m 509 #[.val (.int arg0), .val (.int arg1), .val (.int arg2), .val (.int v1), .val (.int v2), .val (.int v3), .val (.ref b4), .val (.ref b7), .unset, .unset, .unset] [(.int (2 : Int32)), (.ref b674), (.ref b674), (.ref b659), (.ref b659)])) (fun t k => XS.iconst X708.here hx rfl (hb hby at_508) k) ?_
              refine own_stW (B := T708.setTop (mkF m 511 #[.val (.int arg0), .val (.int arg1), .val (.int arg2), .val (.int v1), .val (.int v2), .val (.int v3), .val (.ref b4), .val (.ref b7), .unset, .unset, .unset] [(.ref b7), (.int (2 : Int32)), (.ref b674), (.ref b674), (.ref b659), (.ref b659)])) (fun t k => XS.aload X708.here hx rfl (hb hby at_509) rfl rfl k) ?_
              refine own_stW (B := T708.setTop (mkF m 512 #[.val (.int arg0), .val (.int arg1), .val (.int arg2), .val (.int v1), .val (.int v2), .val (.int v3), .val (.ref b4), .val (.ref b7), .unset, .unset, .unset] [(.int (2 : Int32)), (.ref b7), (.int (2 : Int32)), (.ref b674), (.ref b674), (.ref b659), (.ref b659)])) (fun t k => XS.iconst X708.here hx rfl (hb hby at_511) k) ?_
              refine own_stW (B := T708.setTop (mkF m 514 #[.val (.int arg0), .val (.int arg1), .val (.int arg2), .val (.int v1), .val (.int v2), .val (.int v3), .val (.ref b4), .val (.ref b7), .unset, .unset, .unset] [(.int v2), (.int (2 : Int32)), (.ref b7), (.int (2 : Int32)), (.ref b674), (.ref b674), (.ref b659), (.ref b659)])) (fun t k => XS.iload X708.here hx rfl (hb hby at_512) rfl k) ?_
              refine own_stW (B := T708.setTop (mkF m 516 #[.val (.int arg0), .val (.int arg1), .val (.int arg2), .val (.int v1), .val (.int v2), .val (.int v3), .val (.ref b4), .val (.ref b7), .unset, .unset, .unset] [(.int v3), (.int v2), (.int (2 : Int32)), (.ref b7), (.int (2 : Int32)), (.ref b674), (.ref b674), (.ref b659), (.ref b659)])) (fun t k => XS.iload X708.here hx rfl (hb hby at_514) rfl k) ?_
              have f714 : Exa Z h708 b7 "java/lang/String" := (f701.wr W708)
              have f715 : Fld Z h708 b7 "java/lang/String" "coder" "B" (.int (0 : Int32)) := (f702.other W708 (Or.inl q674_b7))
              have f716 : Fld Z h708 b7 "java/lang/String" "value" "[B" (.ref bb7) := (f703.other W708 (Or.inl q674_b7))
              have f717 : own_A Z h708 bb7 .byte (own_q.map Value.int) := (f704.other W708 q674_bb7)
              have f718 : Sta Z h708 "java/lang/String" "COMPACT_STRINGS" "Z" (.int cs) := (f705.wr W708)
              have f719 : Sta Z h708 "jdk/internal/util/Preconditions" "SIOOBE_FORMATTER" "Ljava/util/function/BiFunction;" u1 := (f706.wr W708)
              obtain ⟨_, _, ⟨T720, L720, k720, j720⟩, -, X720, ⟨Lc720, hQ720, l720, y720_, z720_⟩, st720⟩ := Jvm.LawKit.callS X708 hx (y := (⟨"com/example/goodput/goodput/DeliveryModeNamedPinLaw", "at", "(Ljava/lang/String;IIC)C"⟩ : MethodName)) hown (mvT hZ (w_11 hw)) (mvT hZ (w_12 hw)) (mvT hZ (w_13 hw)) (mvT hZ (w_14 hw)) (by decide) (backOf (W := 5) (rm1 l Z a0 hw [] b7 (2 : Int32) v2 v3 bb7 own_q cs u1 h708 n0 z712 f714 f715 f716 f717 f718 f719 (show 0 ≤ (2 : Int32).toInt by decide) hcc (show own_q.length < 1000 by decide) hcs hu) hZ (w_14 hw) (w_13 hw) (by decide) (by decide)) (g := (mkF m 516 #[.val (.int arg0), .val (.int arg1), .val (.int arg2), .val (.int v1), .val (.int v2), .val (.int v3), .val (.ref b4), .val (.ref b7), .unset, .unset, .unset] [(.int v3), (.int v2), (.int (2 : Int32)), (.ref b7), (.int (2 : Int32)), (.ref b674), (.ref b674), (.ref b659), (.ref b659)])) rfl (by rw [hml]; rfl) (argsL := [(.ref b7), (.int (2 : Int32)), (.int v2), (.int v3)]) (rest := [(.int (2 : Int32)), (.ref b674), (.ref b674), (.ref b659), (.ref b659)]) (lenOf own_pd20 rfl) rfl (by show 2 * 0 + _ ≤ _; exact Nat.le_of_eq rfl) (hb hby at_516) (fun _ _ => ⟨rfl, e708, (by decide : 6 + 0 ≤ _), (by decide : 86 + 0 ≤ _)⟩)
              dsimp only [Pt.U, Pt.locs, Pt.cells, Pt.slots] at X720 l720 y720_ z720_ st720 hQ720
              subst l720 y720_ z720_
              obtain ⟨zc_720, rfl, N720q, e720q, r720_0⟩ := hQ720
              have N720 := Fr.app n713 N720q
              refine own_stW (B := T720.setTop (mkF m 519 #[.val (.int arg0), .val (.int arg1), .val (.int arg2), .val (.int v1), .val (.int v2), .val (.int v3), .val (.ref b4), .val (.ref b7), .unset, .unset, .unset] [(.int zc_720), (.int (2 : Int32)), (.ref b674), (.ref b674), (.ref b659), (.ref b659)])) (fun t k => st720 t k) ?_
              obtain ⟨T721, h721, X721, e721, W721, A721, st721⟩ := own_stC X720 hx hZ e720q f708_ (j := (2 : Int32)) (x := zc_720) (i := 2) (by decide) (show 2 < 10 from by decide) (g := (mkF m 519 #[.val (.int arg0), .val (.int arg1), .val (.int arg2), .val (.int v1), .val (.int v2), .val (.int v3), .val (.ref b4), .val (.ref b7), .unset, .unset, .unset] [(.int zc_720), (.int (2 : Int32)), (.ref b674), (.ref b674), (.ref b659), (.ref b659)])) rfl rfl (hb hby at_519)
              have f721_ : own_A Z h721 b674 .char [(.int (zc_695.toUInt32.toUInt16.toUInt32.toInt32)), (.int (zc_707.toUInt32.toUInt16.toUInt32.toInt32)), (.int (zc_720.toUInt32.toUInt16.toUInt32.toInt32)), (.int (0 : Int32)), (.int (0 : Int32)), (.int (0 : Int32)), (.int (0 : Int32)), (.int (0 : Int32)), (.int (0 : Int32)), (.int (0 : Int32))] := A721
              have f723 : Exa Z h708 b674 "[C" := (f710.wr W708)
              have ch722 := ch709.trans (CHr.wr W721 (Safe.exa hZ.alike f723 (by decide) (by decide)) ch709.1)
              have sf724 := Safe.wr W721 (Safe.exa hZ.alike f723 (by decide) (by decide)) ch709.1 sf711
              have hk722 := Nat.le_trans hk709 (Keep.of_wr W721).1
              have z725 : n0 ≤ h721.size := Nat.le_trans z712 (Keep.of_wr W721).1
              have n726 := Fr.snoc X721 N720 u674
              refine own_stW (B := T721.setTop (mkF m 520 #[.val (.int arg0), .val (.int arg1), .val (.int arg2), .val (.int v1), .val (.int v2), .val (.int v3), .val (.ref b4), .val (.ref b7), .unset, .unset, .unset] [(.ref b674), (.ref b659), (.ref b659)])) (fun t k => st721 t k) ?_
              refine own_stW (B := T721.setTop (mkF m 521 #[.val (.int arg0), .val (.int arg1), .val (.int arg2), .val (.int v1), .val (.int v2), .val (.int v3), .val (.ref b4), .val (.ref b7), .unset, .unset, .unset] [(.ref b674), (.ref b674), (.ref b659), (.ref b659)])) (fun t k => XS.dup X721.here hx rfl (hb hby at_520) rfl rfl k) ?_
              refine own_stW (B := T721.setTop (mkF m 522 #[.val (.int arg0), .val (.int arg1), .val (.int arg2), .val (.int v1), .val (.int v2), .val (.int v3), .val (.ref b4), .val (.ref b7), .unset, .unset, .unset] [(.int (3 : Int32)), (.ref b674), (.ref b674), (.ref b659), (.ref b659)])) (fun t k => XS.iconst X721.here hx rfl (hb hby at_521) k) ?_
              refine own_stW (B := T721.setTop (mkF m 524 #[.val (.int arg0), .val (.int arg1), .val (.int arg2), .val (.int v1), .val (.int v2), .val (.int v3), .val (.ref b4), .val (.ref b7), .unset, .unset, .unset] [(.ref b7), (.int (3 : Int32)), (.ref b674), (.ref b674), (.ref b659), (.ref b659)])) (fun t k => XS.aload X721.here hx rfl (hb hby at_522) rfl rfl k) ?_
              refine own_stW (B := T721.setTop (mkF m 525 #[.val (.int arg0), .val (.int arg1), .val (.int arg2), .val (.int v1), .val (.int v2), .val (.int v3), .val (.ref b4), .val (.ref b7), .unset, .unset, .unset] [(.int (3 : Int32)), (.ref b7), (.int (3 : Int32)), (.ref b674), (.ref b674), (.ref b659), (.ref b659)])) (fun t k => XS.iconst X721.here hx rfl (hb hby at_524) k) ?_
              refine own_stW (B := T721.setTop (mkF m 527 #[.val (.int arg0), .val (.int arg1), .val (.int arg2), .val (.int v1), .val (.int v2), .val (.int v3), .val (.ref b4), .val (.ref b7), .unset, .unset, .unset] [(.int v2), (.int (3 : Int32)), (.ref b7), (.int (3 : Int32)), (.ref b674), (.ref b674), (.ref b659), (.ref b659)])) (fun t k => XS.iload X721.here hx rfl (hb hby at_525) rfl k) ?_
              refine own_stW (B := T721.setTop (mkF m 529 #[.val (.int arg0), .val (.int arg1), .val (.int arg2), .val (.int v1), .val (.int v2), .val (.int v3), .val (.ref b4), .val (.ref b7), .unset, .unset, .unset] [(.int v3), (.int v2), (.int (3 : Int32)), (.ref b7), (.int (3 : Int32)), (.ref b674), (.ref b674), (.ref b659), (.ref b659)])) (fun t k => XS.iload X721.here hx rfl (hb hby at_527) rfl k) ?_
              have f727 : Exa Z h721 b7 "java/lang/String" := (f714.wr W721)
              have f728 : Fld Z h721 b7 "java/lang/String" "coder" "B" (.int (0 : Int32)) := (f715.other W721 (Or.inl q674_b7))
              have f729 : Fld Z h721 b7 "java/lang/String" "value" "[B" (.ref bb7) := (f716.other W721 (Or.inl q674_b7))
              have f730 : own_A Z h721 bb7 .byte (own_q.map Value.int) := (f717.other W721 q674_bb7)
              have f731 : Sta Z h721 "java/lang/String" "COMPACT_STRINGS" "Z" (.int cs) := (f718.wr W721)
              have f732 : Sta Z h721 "jdk/internal/util/Preconditions" "SIOOBE_FORMATTER" "Ljava/util/function/BiFunction;" u1 := (f719.wr W721)
              obtain ⟨_, _, ⟨T733, L733, k733, j733⟩, -, X733, ⟨Lc733, hQ733, l733, y733_, z733_⟩, st733⟩ := Jvm.LawKit.callS X721 hx (y := (⟨"com/example/goodput/goodput/DeliveryModeNamedPinLaw", "at", "(Ljava/lang/String;IIC)C"⟩ : MethodName)) hown (mvT hZ (w_11 hw)) (mvT hZ (w_12 hw)) (mvT hZ (w_13 hw)) (mvT hZ (w_14 hw)) (by decide) (backOf (W := 5) (rm1 l Z a0 hw [] b7 (3 : Int32) v2 v3 bb7 own_q cs u1 h721 n0 z725 f727 f728 f729 f730 f731 f732 (show 0 ≤ (3 : Int32).toInt by decide) hcc (show own_q.length < 1000 by decide) hcs hu) hZ (w_14 hw) (w_13 hw) (by decide) (by decide)) (g := (mkF m 529 #[.val (.int arg0), .val (.int arg1), .val (.int arg2), .val (.int v1), .val (.int v2), .val (.int v3), .val (.ref b4), .val (.ref b7), .unset, .unset, .unset] [(.int v3), (.int v2), (.int (3 : Int32)), (.ref b7), (.int (3 : Int32)), (.ref b674), (.ref b674), (.ref b659), (.ref b659)])) rfl (by rw [hml]; rfl) (argsL := [(.ref b7), (.int (3 : Int32)), (.int v2), (.int v3)]) (rest := [(.int (3 : Int32)), (.ref b674), (.ref b674), (.ref b659), (.ref b659)]) (lenOf own_pd20 rfl) rfl (by show 2 * 0 + _ ≤ _; exact Nat.le_of_eq rfl) (hb hby at_529) (fun _ _ => ⟨rfl, e721, (by decide : 6 + 0 ≤ _), (by decide : 86 + 0 ≤ _)⟩)
              dsimp only [Pt.U, Pt.locs, Pt.cells, Pt.slots] at X733 l733 y733_ z733_ st733 hQ733
              subst l733 y733_ z733_
              obtain ⟨zc_733, rfl, N733q, e733q, r733_0⟩ := hQ733
              have N733 := Fr.app n726 N733q
              refine own_stW (B := T733.setTop (mkF m 532 #[.val (.int arg0), .val (.int arg1), .val (.int arg2), .val (.int v1), .val (.int v2), .val (.int v3), .val (.ref b4), .val (.ref b7), .unset, .unset, .unset] [(.int zc_733), (.int (3 : Int32)), (.ref b674), (.ref b674), (.ref b659), (.ref b659)])) (fun t k => st733 t k) ?_
              obtain ⟨T734, h734, X734, e734, W734, A734, st734⟩ := own_stC X733 hx hZ e733q f721_ (j := (3 : Int32)) (x := zc_733) (i := 3) (by decide) (show 3 < 10 from by decide) (g := (mkF m 532 #[.val (.int arg0), .val (.int arg1), .val (.int arg2), .val (.int v1), .val (.int v2), .val (.int v3), .val (.ref b4), .val (.ref b7), .unset, .unset, .unset] [(.int zc_733), (.int (3 : Int32)), (.ref b674), (.ref b674), (.ref b659), (.ref b659)])) rfl rfl (hb hby at_532)
              have f734_ : own_A Z h734 b674 .char [(.int (zc_695.toUInt32.toUInt16.toUInt32.toInt32)), (.int (zc_707.toUInt32.toUInt16.toUInt32.toInt32)), (.int (zc_720.toUInt32.toUInt16.toUInt32.toInt32)), (.int (zc_733.toUInt32.toUInt16.toUInt32.toInt32)), (.int (0 : Int32)), (.int (0 : Int32)), (.int (0 : Int32)), (.int (0 : Int32)), (.int (0 : Int32)), (.int (0 : Int32))] := A734
              have f736 : Exa Z h721 b674 "[C" := (f723.wr W721)
              have ch735 := ch722.trans (CHr.wr W734 (Safe.exa hZ.alike f736 (by decide) (by decide)) ch722.1)
              have sf737 := Safe.wr W734 (Safe.exa hZ.alike f736 (by decide) (by decide)) ch722.1 sf724
              have hk735 := Nat.le_trans hk722 (Keep.of_wr W734).1
              have z738 : n0 ≤ h734.size := Nat.le_trans z725 (Keep.of_wr W734).1
              have n739 := Fr.snoc X734 N733 u674
              refine own_stW (B := T734.setTop (mkF m 533 #[.val (.int arg0), .val (.int arg1), .val (.int arg2), .val (.int v1), .val (.int v2), .val (.int v3), .val (.ref b4), .val (.ref b7), .unset, .unset, .unset] [(.ref b674), (.ref b659), (.ref b659)])) (fun t k => st734 t k) ?_
              refine own_stW (B := T734.setTop (mkF m 534 #[.val (.int arg0), .val (.int arg1), .val (.int arg2), .val (.int v1), .val (.int v2), .val (.int v3), .val (.ref b4), .val (.ref b7), .unset, .unset, .unset] [(.ref b674), (.ref b674), (.ref b659), (.ref b659)])) (fun t k => XS.dup X734.here hx rfl (hb hby at_533) rfl rfl k) ?_
              refine own_stW (B := T734.setTop (mkF m 535 #[.val (.int arg0), .val (.int arg1), .val (.int arg2), .val (.int v1), .val (.int v2), .val (.int v3), .val (.ref b4), .val (.ref b7), .unset, .unset, .unset] [(.int (4 : Int32)), (.ref b674), (.ref b674), (.ref b659), (.ref b659)])) (fun t k => XS.iconst X734.here hx rfl (hb hby at_534) k) ?_
              refine own_stW (B := T734.setTop (mkF m 537 #[.val (.int arg0), .val (.int arg1), .val (.int arg2), .val (.int v1), .val (.int v2), .val (.int v3), .val (.ref b4), .val (.ref b7), .unset, .unset, .unset] [(.ref b7), (.int (4 : Int32)), (.ref b674), (.ref b674), (.ref b659), (.ref b659)])) (fun t k => XS.aload X734.here hx rfl (hb hby at_535) rfl rfl k) ?_
              refine own_stW (B := T734.setTop (mkF m 538 #[.val (.int arg0), .val (.int arg1), .val (.int arg2), .val (.int v1), .val (.int v2), .val (.int v3), .val (.ref b4), .val (.ref b7), .unset, .unset, .unset] [(.int (4 : Int32)), (.ref b7), (.int (4 : Int32)), (.ref b674), (.ref b674), (.ref b659), (.ref b659)])) (fun t k => XS.iconst X734.here hx rfl (hb hby at_537) k) ?_
              refine own_stW (B := T734.setTop (mkF m 540 #[.val (.int arg0), .val (.int arg1), .val (.int arg2), .val (.int v1), .val (.int v2), .val (.int v3), .val (.ref b4), .val (.ref b7), .unset, .unset, .unset] [(.int v2), (.int (4 : Int32)), (.ref b7), (.int (4 : Int32)), (.ref b674), (.ref b674), (.ref b659), (.ref b659)])) (fun t k => XS.iload X734.here hx rfl (hb hby at_538) rfl k) ?_
              refine own_stW (B := T734.setTop (mkF m 542 #[.val (.int arg0), .val (.int arg1), .val (.int arg2), .val (.int v1), .val (.int v2), .val (.int v3), .val (.ref b4), .val (.ref b7), .unset, .unset, .unset] [(.int v3), (.int v2), (.int (4 : Int32)), (.ref b7), (.int (4 : Int32)), (.ref b674), (.ref b674), (.ref b659), (.ref b659)])) (fun t k => XS.iload X734.here hx rfl (hb hby at_540) rfl k) ?_
              have f740 : Exa Z h734 b7 "java/lang/String" := (f727.wr W734)
              have f741 : Fld Z h734 b7 "java/lang/String" "coder" "B" (.int (0 : Int32)) := (f728.other W734 (Or.inl q674_b7))
              have f742 : Fld Z h734 b7 "java/lang/String" "value" "[B" (.ref bb7) := (f729.other W734 (Or.inl q674_b7))
              have f743 : own_A Z h734 bb7 .byte (own_q.map Value.int) := (f730.other W734 q674_bb7)
              have f744 : Sta Z h734 "java/lang/String" "COMPACT_STRINGS" "Z" (.int cs) := (f731.wr W734)
              have f745 : Sta Z h734 "jdk/internal/util/Preconditions" "SIOOBE_FORMATTER" "Ljava/util/function/BiFunction;" u1 := (f732.wr W734)
              obtain ⟨_, _, ⟨T746, L746, k746, j746⟩, -, X746, ⟨Lc746, hQ746, l746, y746_, z746_⟩, st746⟩ := Jvm.LawKit.callS X734 hx (y := (⟨"com/example/goodput/goodput/DeliveryModeNamedPinLaw", "at", "(Ljava/lang/String;IIC)C"⟩ : MethodName)) hown (mvT hZ (w_11 hw)) (mvT hZ (w_12 hw)) (mvT hZ (w_13 hw)) (mvT hZ (w_14 hw)) (by decide) (backOf (W := 5) (rm1 l Z a0 hw [] b7 (4 : Int32) v2 v3 bb7 own_q cs u1 h734 n0 z738 f740 f741 f742 f743 f744 f745 (show 0 ≤ (4 : Int32).toInt by decide) hcc (show own_q.length < 1000 by decide) hcs hu) hZ (w_14 hw) (w_13 hw) (by decide) (by decide)) (g := (mkF m 542 #[.val (.int arg0), .val (.int arg1), .val (.int arg2), .val (.int v1), .val (.int v2), .val (.int v3), .val (.ref b4), .val (.ref b7), .unset, .unset, .unset] [(.int v3), (.int v2), (.int (4 : Int32)), (.ref b7), (.int (4 : Int32)), (.ref b674), (.ref b674), (.ref b659), (.ref b659)])) rfl (by rw [hml]; rfl) (argsL := [(.ref b7), (.int (4 : Int32)), (.int v2), (.int v3)]) (rest := [(.int (4 : Int32)), (.ref b674), (.ref b674), (.ref b659), (.ref b659)]) (lenOf own_pd20 rfl) rfl (by show 2 * 0 + _ ≤ _; exact Nat.le_of_eq rfl) (hb hby at_542) (fun _ _ => ⟨rfl, e734, (by decide : 6 + 0 ≤ _), (by decide : 86 + 0 ≤ _)⟩)
              dsimp only [Pt.U, Pt.locs, Pt.cells, Pt.slots] at X746 l746 y746_ z746_ st746 hQ746
              subst l746 y746_ z746_
              obtain ⟨zc_746, rfl, N746q, e746q, r746_0⟩ := hQ746
              have N746 := Fr.app n739 N746q
              refine own_stW (B := T746.setTop (mkF m 545 #[.val (.int arg0), .val (.int arg1), .val (.int arg2), .val (.int v1), .val (.int v2), .val (.int v3), .val (.ref b4), .val (.ref b7), .unset, .unset, .unset] [(.int zc_746), (.int (4 : Int32)), (.ref b674), (.ref b674), (.ref b659), (.ref b659)])) (fun t k => st746 t k) ?_
              obtain ⟨T747, h747, X747, e747, W747, A747, st747⟩ := own_stC X746 hx hZ e746q f734_ (j := (4 : Int32)) (x := zc_746) (i := 4) (by decide) (show 4 < 10 from by decide) (g := (mkF m 545 #[.val (.int arg0), .val (.int arg1), .val (.int arg2), .val (.int v1), .val (.int v2), .val (.int v3), .val (.ref b4), .val (.ref b7), .unset, .unset, .unset] [(.int zc_746), (.int (4 : Int32)), (.ref b674), (.ref b674), (.ref b659), (.ref b659)])) rfl rfl (hb hby at_545)
              have f747_ : own_A Z h747 b674 .char [(.int (zc_695.toUInt32.toUInt16.toUInt32.toInt32)), (.int (zc_707.toUInt32.toUInt16.toUInt32.toInt32)), (.int (zc_720.toUInt32.toUInt16.toUInt32.toInt32)), (.int (zc_733.toUInt32.toUInt16.toUInt32.toInt32)), (.int (zc_746.toUInt32.toUInt16.toUInt32.toInt32)), (.int (0 : Int32)), (.int (0 : Int32)), (.int (0 : Int32)), (.int (0 : Int32)), (.int (0 : Int32))] := A747
              have f749 : Exa Z h734 b674 "[C" := (f736.wr W734)
              have ch748 := ch735.trans (CHr.wr W747 (Safe.exa hZ.alike f749 (by decide) (by decide)) ch735.1)
              have sf750 := Safe.wr W747 (Safe.exa hZ.alike f749 (by decide) (by decide)) ch735.1 sf737
              have hk748 := Nat.le_trans hk735 (Keep.of_wr W747).1
              have z751 : n0 ≤ h747.size := Nat.le_trans z738 (Keep.of_wr W747).1
              have n752 := Fr.snoc X747 N746 u674
              refine own_stW (B := T747.setTop (mkF m 546 #[.val (.int arg0), .val (.int arg1), .val (.int arg2), .val (.int v1), .val (.int v2), .val (.int v3), .val (.ref b4), .val (.ref b7), .unset, .unset, .unset] [(.ref b674), (.ref b659), (.ref b659)])) (fun t k => st747 t k) ?_
              refine own_stW (B := T747.setTop (mkF m 547 #[.val (.int arg0), .val (.int arg1), .val (.int arg2), .val (.int v1), .val (.int v2), .val (.int v3), .val (.ref b4), .val (.ref b7), .unset, .unset, .unset] [(.ref b674), (.ref b674), (.ref b659), (.ref b659)])) (fun t k => XS.dup X747.here hx rfl (hb hby at_546) rfl rfl k) ?_
              refine own_stW (B := T747.setTop (mkF m 548 #[.val (.int arg0), .val (.int arg1), .val (.int arg2), .val (.int v1), .val (.int v2), .val (.int v3), .val (.ref b4), .val (.ref b7), .unset, .unset, .unset] [(.int (5 : Int32)), (.ref b674), (.ref b674), (.ref b659), (.ref b659)])) (fun t k => XS.iconst X747.here hx rfl (hb hby at_547) k) ?_
              refine own_stW (B := T747.setTop (mkF m 550 #[.val (.int arg0), .val (.int arg1), .val (.int arg2), .val (.int v1), .val (.int v2), .val (.int v3), .val (.ref b4), .val (.ref b7), .unset, .unset, .unset] [(.ref b7), (.int (5 : Int32)), (.ref b674), (.ref b674), (.ref b659), (.ref b659)])) (fun t k => XS.aload X747.here hx rfl (hb hby at_548) rfl rfl k) ?_
              refine own_stW (B := T747.setTop (mkF m 551 #[.val (.int arg0), .val (.int arg1), .val (.int arg2), .val (.int v1), .val (.int v2), .val (.int v3), .val (.ref b4), .val (.ref b7), .unset, .unset, .unset] [(.int (5 : Int32)), (.ref b7), (.int (5 : Int32)), (.ref b674), (.ref b674), (.ref b659), (.ref b659)])) (fun t k => XS.iconst X747.here hx rfl (hb hby at_550) k) ?_
              refine own_stW (B := T747.setTop (mkF m 553 #[.val (.int arg0), .val (.int arg1), .val (.int arg2), .val (.int v1), .val (.int v2), .val (.int v3), .val (.ref b4), .val (.ref b7), .unset, .unset, .unset] [(.int v2), (.int (5 : Int32)), (.ref b7), (.int (5 : Int32)), (.ref b674), (.ref b674), (.ref b659), (.ref b659)])) (fun t k => XS.iload X747.here hx rfl (hb hby at_551) rfl k) ?_
              refine own_stW (B := T747.setTop (mkF m 555 #[.val (.int arg0), .val (.int arg1), .val (.int arg2), .val (.int v1), .val (.int v2), .val (.int v3), .val (.ref b4), .val (.ref b7), .unset, .unset, .unset] [(.int v3), (.int v2), (.int (5 : Int32)), (.ref b7), (.int (5 : Int32)), (.ref b674), (.ref b674), (.ref b659), (.ref b659)])) (fun t k => XS.iload X747.here hx rfl (hb hby at_553) rfl k) ?_
              have f753 : Exa Z h747 b7 "java/lang/String" := (f740.wr W747)
              have f754 : Fld Z h747 b7 "java/lang/String" "coder" "B" (.int (0 : Int32)) := (f741.other W747 (Or.inl q674_b7))
              have f755 : Fld Z h747 b7 "java/lang/String" "value" "[B" (.ref bb7) := (f742.other W747 (Or.inl q674_b7))
              have f756 : own_A Z h747 bb7 .byte (own_q.map Value.int) := (f743.other W747 q674_bb7)
              have f757 : Sta Z h747 "java/lang/String" "COMPACT_STRINGS" "Z" (.int cs) := (f744.wr W747)
              have f758 : Sta Z h747 "jdk/internal/util/Preconditions" "SIOOBE_FORMATTER" "Ljava/util/function/BiFunction;" u1 := (f745.wr W747)
              obtain ⟨_, _, ⟨T759, L759, k759, j759⟩, -, X759, ⟨Lc759, hQ759, l759, y759_, z759_⟩, st759⟩ := Jvm.LawKit.callS X747 hx (y := (⟨"com/example/goodput/goodput/DeliveryModeNamedPinLaw", "at", "(Ljava/lang/String;IIC)C"⟩ : MethodName)) hown (mvT hZ (w_11 hw)) (mvT hZ (w_12 hw)) (mvT hZ (w_13 hw)) (mvT hZ (w_14 hw)) (by decide) (backOf (W := 5) (rm1 l Z a0 hw [] b7 (5 : Int32) v2 v3 bb7 own_q cs u1 h747 n0 z751 f753 f754 f755 f756 f757 f758 (show 0 ≤ (5 : Int32).toInt by decide) hcc (show own_q.length < 1000 by decide) hcs hu) hZ (w_14 hw) (w_13 hw) (by decide) (by decide)) (g := (mkF m 555 #[.val (.int arg0), .val (.int arg1), .val (.int arg2), .val (.int v1), .val (.int v2), .val (.int v3), .val (.ref b4), .val (.ref b7), .unset, .unset, .unset] [(.int v3), (.int v2), (.int (5 : Int32)), (.ref b7), (.int (5 : Int32)), (.ref b674), (.ref b674), (.ref b659), (.ref b659)])) rfl (by rw [hml]; rfl) (argsL := [(.ref b7), (.int (5 : Int32)), (.int v2), (.int v3)]) (rest := [(.int (5 : Int32)), (.ref b674), (.ref b674), (.ref b659), (.ref b659)]) (lenOf own_pd20 rfl) rfl (by show 2 * 0 + _ ≤ _; exact Nat.le_of_eq rfl) (hb hby at_555) (fun _ _ => ⟨rfl, e747, (by decide : 6 + 0 ≤ _), (by decide : 86 + 0 ≤ _)⟩)
              dsimp only [Pt.U, Pt.locs, Pt.cells, Pt.slots] at X759 l759 y759_ z759_ st759 hQ759
              subst l759 y759_ z759_
              obtain ⟨zc_759, rfl, N759q, e759q, r759_0⟩ := hQ759
              have N759 := Fr.app n752 N759q
              refine own_stW (B := T759.setTop (mkF m 558 #[.val (.int arg0), .val (.int arg1), .val (.int arg2), .val (.int v1), .val (.int v2), .val (.int v3), .val (.ref b4), .val (.ref b7), .unset, .unset, .unset] [(.int zc_759), (.int (5 : Int32)), (.ref b674), (.ref b674), (.ref b659), (.ref b659)])) (fun t k => st759 t k) ?_
              obtain ⟨T760, h760, X760, e760, W760, A760, st760⟩ := own_stC X759 hx hZ e759q f747_ (j := (5 : Int32)) (x := zc_759) (i := 5) (by decide) (show 5 < 10 from by decide) (g := (mkF m 558 #[.val (.int arg0), .val (.int arg1), .val (.int arg2), .val (.int v1), .val (.int v2), .val (.int v3), .val (.ref b4), .val (.ref b7), .unset, .unset, .unset] [(.int zc_759), (.int (5 : Int32)), (.ref b674), (.ref b674), (.ref b659), (.ref b659)])) rfl rfl (hb hby at_558)
              have f760_ : own_A Z h760 b674 .char [(.int (zc_695.toUInt32.toUInt16.toUInt32.toInt32)), (.int (zc_707.toUInt32.toUInt16.toUInt32.toInt32)), (.int (zc_720.toUInt32.toUInt16.toUInt32.toInt32)), (.int (zc_733.toUInt32.toUInt16.toUInt32.toInt32)), (.int (zc_746.toUInt32.toUInt16.toUInt32.toInt32)), (.int (zc_759.toUInt32.toUInt16.toUInt32.toInt32)), (.int (0 : Int32)), (.int (0 : Int32)), (.int (0 : Int32)), (.int (0 : Int32))] := A760
              have f762 : Exa Z h747 b674 "[C" := (f749.wr W747)
              have ch761 := ch748.trans (CHr.wr W760 (Safe.exa hZ.alike f762 (by decide) (by decide)) ch748.1)
              have sf763 := Safe.wr W760 (Safe.exa hZ.alike f762 (by decide) (by decide)) ch748.1 sf750
              have hk761 := Nat.le_trans hk748 (Keep.of_wr W760).1
              have z764 : n0 ≤ h760.size := Nat.le_trans z751 (Keep.of_wr W760).1
              have n765 := Fr.snoc X760 N759 u674
              refine own_stW (B := T760.setTop (mkF m 559 #[.val (.int arg0), .val (.int arg1), .val (.int arg2), .val (.int v1), .val (.int v2), .val (.int v3), .val (.ref b4), .val (.ref b7), .unset, .unset, .unset] [(.ref b674), (.ref b659), (.ref b659)])) (fun t k => st760 t k) ?_
              refine own_stW (B := T760.setTop (mkF m 560 #[.val (.int arg0), .val (.int arg1), .val (.int arg2), .val (.int v1), .val (.int v2), .val (.int v3), .val (.ref b4), .val (.ref b7), .unset, .unset, .unset] [(.ref b674), (.ref b674), (.ref b659), (.ref b659)])) (fun t k => XS.dup X760.here hx rfl (hb hby at_559) rfl rfl k) ?_
              refine own_stW (B := T760.setTop (mkF m 562 #[.val (.int arg0), .val (.int arg1), .val (.int arg2), .val (.int v1), .val (.int v2), .val (.int v3), .val (.ref b4), .val (.ref b7), .unset, .unset, .unset] [(.int (6 : Int32)), (.ref b674), (.ref b674), (.ref b659), (.ref b659)])) (fun t k => XS.bipush X760.here hx rfl (hb hby at_560) k) ?_
              refine own_stW (B := T760.setTop (mkF m 564 #[.val (.int arg0), .val (.int arg1), .val (.int arg2), .val (.int v1), .val (.int v2), .val (.int v3), .val (.ref b4), .val (.ref b7), .unset, .unset, .unset] [(.ref b7), (.int (6 : Int32)), (.ref b674), (.ref b674), (.ref b659), (.ref b659)])) (fun t k => XS.aload X760.here hx rfl (hb hby at_562) rfl rfl k) ?_
              refine own_stW (B := T760.setTop (mkF m 566 #[.val (.int arg0), .val (.int arg1), .val (.int arg2), .val (.int v1), .val (.int v2), .val (.int v3), .val (.ref b4), .val (.ref b7), .unset, .unset, .unset] [(.int (6 : Int32)), (.ref b7), (.int (6 : Int32)), (.ref b674), (.ref b674), (.ref b659), (.ref b659)])) (fun t k => XS.bipush X760.here hx rfl (hb hby at_564) k) ?_
              refine own_stW (B := T760.setTop (mkF m 568 #[.val (.int arg0), .val (.int arg1), .val (.int arg2), .val (.int v1), .val (.int v2), .val (.int v3), .val (.ref b4), .val (.ref b7), .unset, .unset, .unset] [(.int v2), (.int (6 : Int32)), (.ref b7), (.int (6 : Int32)), (.ref b674), (.ref b674), (.ref b659), (.ref b659)])) (fun t k => XS.iload X760.here hx rfl (hb hby at_566) rfl k) ?_
              refine own_stW (B := T760.setTop (mkF m 570 #[.val (.int arg0), .val (.int arg1), .val (.int arg2), .val (.int v1), .val (.int v2), .val (.int v3), .val (.ref b4), .val (.ref b7), .unset, .unset, .unset] [(.int v3), (.int v2), (.int (6 : Int32)), (.ref b7), (.int (6 : Int32)), (.ref b674), (.ref b674), (.ref b659), (.ref b659)])) (fun t k => XS.iload X760.here hx rfl (hb hby at_568) rfl k) ?_
              have f766 : Exa Z h760 b7 "java/lang/String" := (f753.wr W760)
              have f767 : Fld Z h760 b7 "java/lang/String" "coder" "B" (.int (0 : Int32)) := (f754.other W760 (Or.inl q674_b7))
              have f768 : Fld Z h760 b7 "java/lang/String" "value" "[B" (.ref bb7) := (f755.other W760 (Or.inl q674_b7))
              have f769 : own_A Z h760 bb7 .byte (own_q.map Value.int) := (f756.other W760 q674_bb7)
              have f770 : Sta Z h760 "java/lang/String" "COMPACT_STRINGS" "Z" (.int cs) := (f757.wr W760)
              have f771 : Sta Z h760 "jdk/internal/util/Preconditions" "SIOOBE_FORMATTER" "Ljava/util/function/BiFunction;" u1 := (f758.wr W760)
              obtain ⟨_, _, ⟨T772, L772, k772, j772⟩, -, X772, ⟨Lc772, hQ772, l772, y772_, z772_⟩, st772⟩ := Jvm.LawKit.callS X760 hx (y := (⟨"com/example/goodput/goodput/DeliveryModeNamedPinLaw", "at", "(Ljava/lang/String;IIC)C"⟩ : MethodName)) hown (mvT hZ (w_11 hw)) (mvT hZ (w_12 hw)) (mvT hZ (w_13 hw)) (mvT hZ (w_14 hw)) (by decide) (backOf (W := 5) (rm1 l Z a0 hw [] b7 (6 : Int32) v2 v3 bb7 own_q cs u1 h760 n0 z764 f766 f767 f768 f769 f770 f771 (show 0 ≤ (6 : Int32).toInt by decide) hcc (show own_q.length < 1000 by decide) hcs hu) hZ (w_14 hw) (w_13 hw) (by decide) (by decide)) (g := (mkF m 570 #[.val (.int arg0), .val (.int arg1), .val (.int arg2), .val (.int v1), .val (.int v2), .val (.int v3), .val (.ref b4), .val (.ref b7), .unset, .unset, .unset] [(.int v3), (.int v2), (.int (6 : Int32)), (.ref b7), (.int (6 : Int32)), (.ref b674), (.ref b674), (.ref b659), (.ref b659)])) rfl (by rw [hml]; rfl) (argsL := [(.ref b7), (.int (6 : Int32)), (.int v2), (.int v3)]) (rest := [(.int (6 : Int32)), (.ref b674), (.ref b674), (.ref b659), (.ref b659)]) (lenOf own_pd20 rfl) rfl (by show 2 * 0 + _ ≤ _; exact Nat.le_of_eq rfl) (hb hby at_570) (fun _ _ => ⟨rfl, e760, (by decide : 6 + 0 ≤ _), (by decide : 86 + 0 ≤ _)⟩)
              dsimp only [Pt.U, Pt.locs, Pt.cells, Pt.slots] at X772 l772 y772_ z772_ st772 hQ772
              subst l772 y772_ z772_
              obtain ⟨zc_772, rfl, N772q, e772q, r772_0⟩ := hQ772
              have N772 := Fr.app n765 N772q
              refine own_stW (B := T772.setTop (mkF m 573 #[.val (.int arg0), .val (.int arg1), .val (.int arg2), .val (.int v1), .val (.int v2), .val (.int v3), .val (.ref b4), .val (.ref b7), .unset, .unset, .unset] [(.int zc_772), (.int (6 : Int32)), (.ref b674), (.ref b674), (.ref b659), (.ref b659)])) (fun t k => st772 t k) ?_
              obtain ⟨T773, h773, X773, e773, W773, A773, st773⟩ := own_stC X772 hx hZ e772q f760_ (j := (6 : Int32)) (x := zc_772) (i := 6) (by decide) (show 6 < 10 from by decide) (g := (mkF m 573 #[.val (.int arg0), .val (.int arg1), .val (.int arg2), .val (.int v1), .val (.int v2), .val (.int v3), .val (.ref b4), .val (.ref b7), .unset, .unset, .unset] [(.int zc_772), (.int (6 : Int32)), (.ref b674), (.ref b674), (.ref b659), (.ref b659)])) rfl rfl (hb hby at_573)
              have f773_ : own_A Z h773 b674 .char [(.int (zc_695.toUInt32.toUInt16.toUInt32.toInt32)), (.int (zc_707.toUInt32.toUInt16.toUInt32.toInt32)), (.int (zc_720.toUInt32.toUInt16.toUInt32.toInt32)), (.int (zc_733.toUInt32.toUInt16.toUInt32.toInt32)), (.int (zc_746.toUInt32.toUInt16.toUInt32.toInt32)), (.int (zc_759.toUInt32.toUInt16.toUInt32.toInt32)), (.int (zc_772.toUInt32.toUInt16.toUInt32.toInt32)), (.int (0 : Int32)), (.int (0 : Int32)), (.int (0 : Int32))] := by simpa only [List.set_cons_succ, List.set_cons_zero] using A773
              have f775 : Exa Z h760 b674 "[C" := (f762.wr W760)
              have ch774 := ch761.trans (CHr.wr W773 (Safe.exa hZ.alike f775 (by decide) (by decide)) ch761.1)
              have sf776 := Safe.wr W773 (Safe.exa hZ.alike f775 (by decide) (by decide)) ch761.1 sf763
              have hk774 := Nat.le_trans hk761 (Keep.of_wr W773).1
              have z777 : n0 ≤ h773.size := Nat.le_trans z764 (Keep.of_wr W773).1
              have n778 := Fr.snoc X773 N772 u674
              refine own_stW (B := T773.setTop (mkF m 574 #[.val (.int arg0), .val (.int arg1), .val (.int arg2), .val (.int v1), .val (.int v2), .val (.int v3), .val (.ref b4), .val (.ref b7), .unset, .unset, .unset] [(.ref b674), (.ref b659), (.ref b659)])) (fun t k => st773 t k) ?_
              refine own_stW (B := T773.setTop (mkF m 575 #[.val (.int arg0), .val (.int arg1), .val (.int arg2), .val (.int v1), .val (.int v2), .val (.int v3), .val (.ref b4), .val (.ref b7), .unset, .unset, .unset] [(.ref b674), (.ref b674), (.ref b659), (.ref b659)])) (fun t k => XS.dup X773.here hx rfl (hb hby at_574) rfl rfl k) ?_
              refine own_stW (B := T773.setTop (mkF m 577 #[.val (.int arg0), .val (.int arg1), .val (.int arg2), .val (.int v1), .val (.int v2), .val (.int v3), .val (.ref b4), .val (.ref b7), .unset, .unset, .unset] [(.int (7 : Int32)), (.ref b674), (.ref b674), (.ref b659), (.ref b659)])) (fun t k => XS.bipush X773.here hx rfl (hb hby at_575) k) ?_
              refine own_stW (B := T773.setTop (mkF m 579 #[.val (.int arg0), .val (.int arg1), .val (.int arg2), .val (.int v1), .val (.int v2), .val (.int v3), .val (.ref b4), .val (.ref b7), .unset, .unset, .unset] [(.ref b7), (.int (7 : Int32)), (.ref b674), (.ref b674), (.ref b659), (.ref b659)])) (fun t k => XS.aload X773.here hx rfl (hb hby at_577) rfl rfl k) ?_
              refine own_stW (B := T773.setTop (mkF m 581 #[.val (.int arg0), .val (.int arg1), .val (.int arg2), .val (.int v1), .val (.int v2), .val (.int v3), .val (.ref b4), .val (.ref b7), .unset, .unset, .unset] [(.int (7 : Int32)), (.ref b7), (.int (7 : Int32)), (.ref b674), (.ref b674), (.ref b659), (.ref b659)])) (fun t k => XS.bipush X773.here hx rfl (hb hby at_579) k) ?_
              refine own_stW (B := T773.setTop (mkF m 583 #[.val (.int arg0), .val (.int arg1), .val (.int arg2), .val (.int v1), .val (.int v2), .val (.int v3), .val (.ref b4), .val (.ref b7), .unset, .unset, .unset] [(.int v2), (.int (7 : Int32)), (.ref b7), (.int (7 : Int32)), (.ref b674), (.ref b674), (.ref b659), (.ref b659)])) (fun t k => XS.iload X773.here hx rfl (hb hby at_581) rfl k) ?_
              refine own_stW (B := T773.setTop (mkF m 585 #[.val (.int arg0), .val (.int arg1), .val (.int arg2), .val (.int v1), .val (.int v2), .val (.int v3), .val (.ref b4), .val (.ref b7), .unset, .unset, .unset] [(.int v3), (.int v2), (.int (7 : Int32)), (.ref b7), (.int (7 : Int32)), (.ref b674), (.ref b674), (.ref b659), (.ref b659)])) (fun t k => XS.iload X773.here hx rfl (hb hby at_583) rfl k) ?_
              have f779 : Exa Z h773 b7 "java/lang/String" := (f766.wr W773)
              have f780 : Fld Z h773 b7 "java/lang/String" "coder" "B" (.int (0 : Int32)) := (f767.other W773 (Or.inl q674_b7))
              have f781 : Fld Z h773 b7 "java/lang/String" "value" "[B" (.ref bb7) := (f768.other W773 (Or.inl q674_b7))
              have f782 : own_A Z h773 bb7 .byte (own_q.map Value.int) := (f769.other W773 q674_bb7)
              have f783 : Sta Z h773 "java/lang/String" "COMPACT_STRINGS" "Z" (.int cs) := (f770.wr W773)
              have f784 : Sta Z h773 "jdk/internal/util/Preconditions" "SIOOBE_FORMATTER" "Ljava/util/function/BiFunction;" u1 := (f771.wr W773)
              obtain ⟨_, _, ⟨T785, L785, k785, j785⟩, -, X785, ⟨Lc785, hQ785, l785, y785_, z785_⟩, st785⟩ := Jvm.LawKit.callS X773 hx (y := (⟨"com/example/goodput/goodput/DeliveryModeNamedPinLaw", "at", "(Ljava/lang/String;IIC)C"⟩ : MethodName)) hown (mvT hZ (w_11 hw)) (mvT hZ (w_12 hw)) (mvT hZ (w_13 hw)) (mvT hZ (w_14 hw)) (by decide) (backOf (W := 5) (rm1 l Z a0 hw [] b7 (7 : Int32) v2 v3 bb7 own_q cs u1 h773 n0 z777 f779 f780 f781 f782 f783 f784 (show 0 ≤ (7 : Int32).toInt by decide) hcc (show own_q.length < 1000 by decide) hcs hu) hZ (w_14 hw) (w_13 hw) (by decide) (by decide)) (g := (mkF m 585 #[.val (.int arg0), .val (.int arg1), .val (.int arg2), .val (.int v1), .val (.int v2), .val (.int v3), .val (.ref b4), .val (.ref b7), .unset, .unset, .unset] [(.int v3), (.int v2), (.int (7 : Int32)), (.ref b7), (.int (7 : Int32)), (.ref b674), (.ref b674), (.ref b659), (.ref b659)])) rfl (by rw [hml]; rfl) (argsL := [(.ref b7), (.int (7 : Int32)), (.int v2), (.int v3)]) (rest := [(.int (7 : Int32)), (.ref b674), (.ref b674), (.ref b659), (.ref b659)]) (lenOf own_pd20 rfl) rfl (by show 2 * 0 + _ ≤ _; exact Nat.le_of_eq rfl) (hb hby at_585) (fun _ _ => ⟨rfl, e773, (by decide : 6 + 0 ≤ _), (by decide : 86 + 0 ≤ _)⟩)
              dsimp only [Pt.U, Pt.locs, Pt.cells, Pt.slots] at X785 l785 y785_ z785_ st785 hQ785
              subst l785 y785_ z785_
              obtain ⟨zc_785, rfl, N785q, e785q, r785_0⟩ := hQ785
              have N785 := Fr.app n778 N785q
              refine own_stW (B := T785.setTop (mkF m 588 #[.val (.int arg0), .val (.int arg1), .val (.int arg2), .val (.int v1), .val (.int v2), .val (.int v3), .val (.ref b4), .val (.ref b7), .unset, .unset, .unset] [(.int zc_785), (.int (7 : Int32)), (.ref b674), (.ref b674), (.ref b659), (.ref b659)])) (fun t k => st785 t k) ?_
              obtain ⟨T786, h786, X786, e786, W786, A786, st786⟩ := own_stC X785 hx hZ e785q f773_ (j := (7 : Int32)) (x := zc_785) (i := 7) (by decide) (show 7 < 10 from by decide) (g := (mkF m 588 #[.val (.int arg0), .val (.int arg1), .val (.int arg2), .val (.int v1), .val (.int v2), .val (.int v3), .val (.ref b4), .val (.ref b7), .unset, .unset, .unset] [(.int zc_785), (.int (7 : Int32)), (.ref b674), (.ref b674), (.ref b659), (.ref b659)])) rfl rfl (hb hby at_588)
              have f786_ : own_A Z h786 b674 .char [(.int (zc_695.toUInt32.toUInt16.toUInt32.toInt32)), (.int (zc_707.toUInt32.toUInt16.toUInt32.toInt32)), (.int (zc_720.toUInt32.toUInt16.toUInt32.toInt32)), (.int (zc_733.toUInt32.toUInt16.toUInt32.toInt32)), (.int (zc_746.toUInt32.toUInt16.toUInt32.toInt32)), (.int (zc_759.toUInt32.toUInt16.toUInt32.toInt32)), (.int (zc_772.toUInt32.toUInt16.toUInt32.toInt32)), (.int (zc_785.toUInt32.toUInt16.toUInt32.toInt32)), (.int (0 : Int32)), (.int (0 : Int32))] := by simpa only [List.set_cons_succ, List.set_cons_zero] using A786
              have f788 : Exa Z h773 b674 "[C" := (f775.wr W773)
              have ch787 := ch774.trans (CHr.wr W786 (Safe.exa hZ.alike f788 (by decide) (by decide)) ch774.1)
              have sf789 := Safe.wr W786 (Safe.exa hZ.alike f788 (by decide) (by decide)) ch774.1 sf776
              have hk787 := Nat.le_trans hk774 (Keep.of_wr W786).1
              have z790 : n0 ≤ h786.size := Nat.le_trans z777 (Keep.of_wr W786).1
              have n791 := Fr.snoc X786 N785 u674
              refine own_stW (B := T786.setTop (mkF m 589 #[.val (.int arg0), .val (.int arg1), .val (.int arg2), .val (.int v1), .val (.int v2), .val (.int v3), .val (.ref b4), .val (.ref b7), .unset, .unset, .unset] [(.ref b674), (.ref b659), (.ref b659)])) (fun t k => st786 t k) ?_
              refine own_stW (B := T786.setTop (mkF m 590 #[.val (.int arg0), .val (.int arg1), .val (.int arg2), .val (.int v1), .val (.int v2), .val (.int v3), .val (.ref b4), .val (.ref b7), .unset, .unset, .unset] [(.ref b674), (.ref b674), (.ref b659), (.ref b659)])) (fun t k => XS.dup X786.here hx rfl (hb hby at_589) rfl rfl k) ?_
              refine own_stW (B := T786.setTop (mkF m 592 #[.val (.int arg0), .val (.int arg1), .val (.int arg2), .val (.int v1), .val (.int v2), .val (.int v3), .val (.ref b4), .val (.ref b7), .unset, .unset, .unset] [(.int (8 : Int32)), (.ref b674), (.ref b674), (.ref b659), (.ref b659)])) (fun t k => XS.bipush X786.here hx rfl (hb hby at_590) k) ?_
              refine own_stW (B := T786.setTop (mkF m 594 #[.val (.int arg0), .val (.int arg1), .val (.int arg2), .val (.int v1), .val (.int v2), .val (.int v3), .val (.ref b4), .val (.ref b7), .unset, .unset, .unset] [(.ref b7), (.int (8 : Int32)), (.ref b674), (.ref b674), (.ref b659), (.ref b659)])) (fun t k => XS.aload X786.here hx rfl (hb hby at_592) rfl rfl k) ?_
              refine own_stW (B := T786.setTop (mkF m 596 #[.val (.int arg0), .val (.int arg1), .val (.int arg2), .val (.int v1), .val (.int v2), .val (.int v3), .val (.ref b4), .val (.ref b7), .unset, .unset, .unset] [(.int (8 : Int32)), (.ref b7), (.int (8 : Int32)), (.ref b674), (.ref b674), (.ref b659), (.ref b659)])) (fun t k => XS.bipush X786.here hx rfl (hb hby at_594) k) ?_
              refine own_stW (B := T786.setTop (mkF m 598 #[.val (.int arg0), .val (.int arg1), .val (.int arg2), .val (.int v1), .val (.int v2), .val (.int v3), .val (.ref b4), .val (.ref b7), .unset, .unset, .unset] [(.int v2), (.int (8 : Int32)), (.ref b7), (.int (8 : Int32)), (.ref b674), (.ref b674), (.ref b659), (.ref b659)])) (fun t k => XS.iload X786.here hx rfl (hb hby at_596) rfl k) ?_
              refine own_stW (B := T786.setTop (mkF m 600 #[.val (.int arg0), .val (.int arg1), .val (.int arg2), .val (.int v1), .val (.int v2), .val (.int v3), .val (.ref b4), .val (.ref b7), .unset, .unset, .unset] [(.int v3), (.int v2), (.int (8 : Int32)), (.ref b7), (.int (8 : Int32)), (.ref b674), (.ref b674), (.ref b659), (.ref b659)])) (fun t k => XS.iload X786.here hx rfl (hb hby at_598) rfl k) ?_
              have f792 : Exa Z h786 b7 "java/lang/String" := (f779.wr W786)
              have f793 : Fld Z h786 b7 "java/lang/String" "coder" "B" (.int (0 : Int32)) := (f780.other W786 (Or.inl q674_b7))
              have f794 : Fld Z h786 b7 "java/lang/String" "value" "[B" (.ref bb7) := (f781.other W786 (Or.inl q674_b7))
              have f795 : own_A Z h786 bb7 .byte (own_q.map Value.int) := (f782.other W786 q674_bb7)
              have f796 : Sta Z h786 "java/lang/String" "COMPACT_STRINGS" "Z" (.int cs) := (f783.wr W786)
              have f797 : Sta Z h786 "jdk/internal/util/Preconditions" "SIOOBE_FORMATTER" "Ljava/util/function/BiFunction;" u1 := (f784.wr W786)
              obtain ⟨_, _, ⟨T798, L798, k798, j798⟩, -, X798, ⟨Lc798, hQ798, l798, y798_, z798_⟩, st798⟩ := Jvm.LawKit.callS X786 hx (y := (⟨"com/example/goodput/goodput/DeliveryModeNamedPinLaw", "at", "(Ljava/lang/String;IIC)C"⟩ : MethodName)) hown (mvT hZ (w_11 hw)) (mvT hZ (w_12 hw)) (mvT hZ (w_13 hw)) (mvT hZ (w_14 hw)) (by decide) (backOf (W := 5) (rm1 l Z a0 hw [] b7 (8 : Int32) v2 v3 bb7 own_q cs u1 h786 n0 z790 f792 f793 f794 f795 f796 f797 (show 0 ≤ (8 : Int32).toInt by decide) hcc (show own_q.length < 1000 by decide) hcs hu) hZ (w_14 hw) (w_13 hw) (by decide) (by decide)) (g := (mkF m 600 #[.val (.int arg0), .val (.int arg1), .val (.int arg2), .val (.int v1), .val (.int v2), .val (.int v3), .val (.ref b4), .val (.ref b7), .unset, .unset, .unset] [(.int v3), (.int v2), (.int (8 : Int32)), (.ref b7), (.int (8 : Int32)), (.ref b674), (.ref b674), (.ref b659), (.ref b659)])) rfl (by rw [hml]; rfl) (argsL := [(.ref b7), (.int (8 : Int32)), (.int v2), (.int v3)]) (rest := [(.int (8 : Int32)), (.ref b674), (.ref b674), (.ref b659), (.ref b659)]) (lenOf own_pd20 rfl) rfl (by show 2 * 0 + _ ≤ _; exact Nat.le_of_eq rfl) (hb hby at_600) (fun _ _ => ⟨rfl, e786, (by decide : 6 + 0 ≤ _), (by decide : 86 + 0 ≤ _)⟩)
              dsimp only [Pt.U, Pt.locs, Pt.cells, Pt.slots] at X798 l798 y798_ z798_ st798 hQ798
              subst l798 y798_ z798_
              obtain ⟨zc_798, rfl, N798q, e798q, r798_0⟩ := hQ798
              have N798 := Fr.app n791 N798q
              refine own_stW (B := T798.setTop (mkF m 603 #[.val (.int arg0), .val (.int arg1), .val (.int arg2), .val (.int v1), .val (.int v2), .val (.int v3), .val (.ref b4), .val (.ref b7), .unset, .unset, .unset] [(.int zc_798), (.int (8 : Int32)), (.ref b674), (.ref b674), (.ref b659), (.ref b659)])) (fun t k => st798 t k) ?_
              obtain ⟨T799, h799, X799, e799, W799, A799, st799⟩ := own_stC X798 hx hZ e798q f786_ (j := (8 : Int32)) (x := zc_798) (i := 8) (by decide) (show 8 < 10 from by decide) (g := (mkF m 603 #[.val (.int arg0), .val (.int arg1), .val (.int arg2), .val (.int v1), .val (.int v2), .val (.int v3), .val (.ref b4), .val (.ref b7), .unset, .unset, .unset] [(.int zc_798), (.int (8 : Int32)), (.ref b674), (.ref b674), (.ref b659), (.ref b659)])) rfl rfl (hb hby at_603)
              have f799_ : own_A Z h799 b674 .char [(.int (zc_695.toUInt32.toUInt16.toUInt32.toInt32)), (.int (zc_707.toUInt32.toUInt16.toUInt32.toInt32)), (.int (zc_720.toUInt32.toUInt16.toUInt32.toInt32)), (.int (zc_733.toUInt32.toUInt16.toUInt32.toInt32)), (.int (zc_746.toUInt32.toUInt16.toUInt32.toInt32)), (.int (zc_759.toUInt32.toUInt16.toUInt32.toInt32)), (.int (zc_772.toUInt32.toUInt16.toUInt32.toInt32)), (.int (zc_785.toUInt32.toUInt16.toUInt32.toInt32)), (.int (zc_798.toUInt32.toUInt16.toUInt32.toInt32)), (.int (0 : Int32))] := by simpa only [List.set_cons_succ, List.set_cons_zero] using A799
              have f801 : Exa Z h786 b674 "[C" := (f788.wr W786)
              have ch800 := ch787.trans (CHr.wr W799 (Safe.exa hZ.alike f801 (by decide) (by decide)) ch787.1)
              have sf802 := Safe.wr W799 (Safe.exa hZ.alike f801 (by decide) (by decide)) ch787.1 sf789
              have hk800 := Nat.le_trans hk787 (Keep.of_wr W799).1
              have z803 : n0 ≤ h799.size := Nat.le_trans z790 (Keep.of_wr W799).1
              have n804 := Fr.snoc X799 N798 u674
              refine own_stW (B := T799.setTop (mkF m 604 #[.val (.int arg0), .val (.int arg1), .val (.int arg2), .val (.int v1), .val (.int v2), .val (.int v3), .val (.ref b4), .val (.ref b7), .unset, .unset, .unset] [(.ref b674), (.ref b659), (.ref b659)])) (fun t k => st799 t k) ?_
              refine own_stW (B := T799.setTop (mkF m 605 #[.val (.int arg0), .val (.int arg1), .val (.int arg2), .val (.int v1), .val (.int v2), .val (.int v3), .val (.ref b4), .val (.ref b7), .unset, .unset, .unset] [(.ref b674), (.ref b674), (.ref b659), (.ref b659)])) (fun t k => XS.dup X799.here hx rfl (hb hby at_604) rfl rfl k) ?_
              refine own_stW (B := T799.setTop (mkF m 607 #[.val (.int arg0), .val (.int arg1), .val (.int arg2), .val (.int v1), .val (.int v2), .val (.int v3), .val (.ref b4), .val (.ref b7), .unset, .unset, .unset] [(.int (9 : Int32)), (.ref b674), (.ref b674), (.ref b659), (.ref b659)])) (fun t k => XS.bipush X799.here hx rfl (hb hby at_605) k) ?_
              refine own_stW (B := T799.setTop (mkF m 609 #[.val (.int arg0), .val (.int arg1), .val (.int arg2), .val (.int v1), .val (.int v2), .val (.int v3), .val (.ref b4), .val (.ref b7), .unset, .unset, .unset] [(.ref b7), (.int (9 : Int32)), (.ref b674), (.ref b674), (.ref b659), (.ref b659)])) (fun t k => XS.aload X799.here hx rfl (hb hby at_607) rfl rfl k) ?_
              refine own_stW (B := T799.setTop (mkF m 611 #[.val (.int arg0), .val (.int arg1), .val (.int arg2), .val (.int v1), .val (.int v2), .val (.int v3), .val (.ref b4), .val (.ref b7), .unset, .unset, .unset] [(.int (9 : Int32)), (.ref b7), (.int (9 : Int32)), (.ref b674), (.ref b674), (.ref b659), (.ref b659)])) (fun t k => XS.bipush X799.here hx rfl (hb hby at_609) k) ?_
              refine own_stW (B := T799.setTop (mkF m 613 #[.val (.int arg0), .val (.int arg1), .val (.int arg2), .val (.int v1), .val (.int v2), .val (.int v3), .val (.ref b4), .val (.ref b7), .unset, .unset, .unset] [(.int v2), (.int (9 : Int32)), (.ref b7), (.int (9 : Int32)), (.ref b674), (.ref b674), (.ref b659), (.ref b659)])) (fun t k => XS.iload X799.here hx rfl (hb hby at_611) rfl k) ?_
              refine own_stW (B := T799.setTop (mkF m 615 #[.val (.int arg0), .val (.int arg1), .val (.int arg2), .val (.int v1), .val (.int v2), .val (.int v3), .val (.ref b4), .val (.ref b7), .unset, .unset, .unset] [(.int v3), (.int v2), (.int (9 : Int32)), (.ref b7), (.int (9 : Int32)), (.ref b674), (.ref b674), (.ref b659), (.ref b659)])) (fun t k => XS.iload X799.here hx rfl (hb hby at_613) rfl k) ?_
              have f805 : Exa Z h799 b7 "java/lang/String" := (f792.wr W799)
              have f806 : Fld Z h799 b7 "java/lang/String" "coder" "B" (.int (0 : Int32)) := (f793.other W799 (Or.inl q674_b7))
              have f807 : Fld Z h799 b7 "java/lang/String" "value" "[B" (.ref bb7) := (f794.other W799 (Or.inl q674_b7))
              have f808 : own_A Z h799 bb7 .byte (own_q.map Value.int) := (f795.other W799 q674_bb7)
              have f809 : Sta Z h799 "java/lang/String" "COMPACT_STRINGS" "Z" (.int cs) := (f796.wr W799)
              have f810 : Sta Z h799 "jdk/internal/util/Preconditions" "SIOOBE_FORMATTER" "Ljava/util/function/BiFunction;" u1 := (f797.wr W799)
              obtain ⟨_, _, ⟨T811, L811, k811, j811⟩, -, X811, ⟨Lc811, hQ811, l811, y811_, z811_⟩, st811⟩ := Jvm.LawKit.callS X799 hx (y := (⟨"com/example/goodput/goodput/DeliveryModeNamedPinLaw", "at", "(Ljava/lang/String;IIC)C"⟩ : MethodName)) hown (mvT hZ (w_11 hw)) (mvT hZ (w_12 hw)) (mvT hZ (w_13 hw)) (mvT hZ (w_14 hw)) (by decide) (backOf (W := 5) (rm1 l Z a0 hw [] b7 (9 : Int32) v2 v3 bb7 own_q cs u1 h799 n0 z803 f805 f806 f807 f808 f809 f810 (show 0 ≤ (9 : Int32).toInt by decide) hcc (show own_q.length < 1000 by decide) hcs hu) hZ (w_14 hw) (w_13 hw) (by decide) (by decide)) (g := (mkF m 615 #[.val (.int arg0), .val (.int arg1), .val (.int arg2), .val (.int v1), .val (.int v2), .val (.int v3), .val (.ref b4), .val (.ref b7), .unset, .unset, .unset] [(.int v3), (.int v2), (.int (9 : Int32)), (.ref b7), (.int (9 : Int32)), (.ref b674), (.ref b674), (.ref b659), (.ref b659)])) rfl (by rw [hml]; rfl) (argsL := [(.ref b7), (.int (9 : Int32)), (.int v2), (.int v3)]) (rest := [(.int (9 : Int32)), (.ref b674), (.ref b674), (.ref b659), (.ref b659)]) (lenOf own_pd20 rfl) rfl (by show 2 * 0 + _ ≤ _; exact Nat.le_of_eq rfl) (hb hby at_615) (fun _ _ => ⟨rfl, e799, (by decide : 6 + 0 ≤ _), (by decide : 86 + 0 ≤ _)⟩)
              dsimp only [Pt.U, Pt.locs, Pt.cells, Pt.slots] at X811 l811 y811_ z811_ st811 hQ811
              subst l811 y811_ z811_
              obtain ⟨zc_811, rfl, N811q, e811q, r811_0⟩ := hQ811
              have N811 := Fr.app n804 N811q
              refine own_stW (B := T811.setTop (mkF m 618 #[.val (.int arg0), .val (.int arg1), .val (.int arg2), .val (.int v1), .val (.int v2), .val (.int v3), .val (.ref b4), .val (.ref b7), .unset, .unset, .unset] [(.int zc_811), (.int (9 : Int32)), (.ref b674), (.ref b674), (.ref b659), (.ref b659)])) (fun t k => st811 t k) ?_
              obtain ⟨T812, h812, X812, e812, W812, A812, st812⟩ := own_stC X811 hx hZ e811q f799_ (j := (9 : Int32)) (x := zc_811) (i := 9) (by decide) (show 9 < 10 from by decide) (g := (mkF m 618 #[.val (.int arg0), .val (.int arg1), .val (.int arg2), .val (.int v1), .val (.int v2), .val (.int v3), .val (.ref b4), .val (.ref b7), .unset, .unset, .unset] [(.int zc_811), (.int (9 : Int32)), (.ref b674), (.ref b674), (.ref b659), (.ref b659)])) rfl rfl (hb hby at_618)
              have f812_ : own_A Z h812 b674 .char [(.int (zc_695.toUInt32.toUInt16.toUInt32.toInt32)), (.int (zc_707.toUInt32.toUInt16.toUInt32.toInt32)), (.int (zc_720.toUInt32.toUInt16.toUInt32.toInt32)), (.int (zc_733.toUInt32.toUInt16.toUInt32.toInt32)), (.int (zc_746.toUInt32.toUInt16.toUInt32.toInt32)), (.int (zc_759.toUInt32.toUInt16.toUInt32.toInt32)), (.int (zc_772.toUInt32.toUInt16.toUInt32.toInt32)), (.int (zc_785.toUInt32.toUInt16.toUInt32.toInt32)), (.int (zc_798.toUInt32.toUInt16.toUInt32.toInt32)), (.int (zc_811.toUInt32.toUInt16.toUInt32.toInt32))] := by simpa only [List.set_cons_succ, List.set_cons_zero] using A812
              have f814 : Exa Z h799 b674 "[C" := (f801.wr W799)
              have ch813 := ch800.trans (CHr.wr W812 (Safe.exa hZ.alike f814 (by decide) (by decide)) ch800.1)
              have sf815 := Safe.wr W812 (Safe.exa hZ.alike f814 (by decide) (by decide)) ch800.1 sf802
              have hk813 := Nat.le_trans hk800 (Keep.of_wr W812).1
              have z816 : n0 ≤ h812.size := Nat.le_trans z803 (Keep.of_wr W812).1
              have n817 := Fr.snoc X812 N811 u674
              refine own_stW (B := T812.setTop (mkF m 619 #[.val (.int arg0), .val (.int arg1), .val (.int arg2), .val (.int v1), .val (.int v2), .val (.int v3), .val (.ref b4), .val (.ref b7), .unset, .unset, .unset] [(.ref b674), (.ref b659), (.ref b659)])) (fun t k => st812 t k) ?_
              have hvb818 : own_bnd ([(zc_695.toUInt32.toUInt16.toUInt32.toInt32), (zc_707.toUInt32.toUInt16.toUInt32.toInt32), (zc_720.toUInt32.toUInt16.toUInt32.toInt32), (zc_733.toUInt32.toUInt16.toUInt32.toInt32), (zc_746.toUInt32.toUInt16.toUInt32.toInt32), (zc_759.toUInt32.toUInt16.toUInt32.toInt32), (zc_772.toUInt32.toUInt16.toUInt32.toInt32), (zc_785.toUInt32.toUInt16.toUInt32.toInt32), (zc_798.toUInt32.toUInt16.toUInt32.toInt32), (zc_811.toUInt32.toUInt16.toUInt32.toInt32)] : List Int32) := (own_bndS (own_z255 r695_0) (own_bndS (own_z255 r707_0) (own_bndS (own_z255 r720_0) (own_bndS (own_z255 r733_0) (own_bndS (own_z255 r746_0) (own_bndS (own_z255 r759_0) (own_bndS (own_z255 r772_0) (own_bndS (own_z255 r785_0) (own_bndS (own_z255 r798_0) (own_bndS (own_z255 r811_0) own_bnd0))))))))))
              have fv818 : own_A Z h812 b674 .char (([(zc_695.toUInt32.toUInt16.toUInt32.toInt32), (zc_707.toUInt32.toUInt16.toUInt32.toInt32), (zc_720.toUInt32.toUInt16.toUInt32.toInt32), (zc_733.toUInt32.toUInt16.toUInt32.toInt32), (zc_746.toUInt32.toUInt16.toUInt32.toInt32), (zc_759.toUInt32.toUInt16.toUInt32.toInt32), (zc_772.toUInt32.toUInt16.toUInt32.toInt32), (zc_785.toUInt32.toUInt16.toUInt32.toInt32), (zc_798.toUInt32.toUInt16.toUInt32.toInt32), (zc_811.toUInt32.toUInt16.toUInt32.toInt32)] : List Int32).map Value.int) := f812_
              have f819 : Exa Z h812 b659 "java/lang/String" := (((((((((((A659.ext E674).wr W696).wr W708).wr W721).wr W734).wr W747).wr W760).wr W773).wr W786).wr W799).wr W812)
              have f820 : Fld Z h812 b659 "java/lang/String" "value" "[B" .null := (((((((((((f672.ext E674).other W696 (Or.inl q674_b659)).other W708 (Or.inl q674_b659)).other W721 (Or.inl q674_b659)).other W734 (Or.inl q674_b659)).other W747 (Or.inl q674_b659)).other W760 (Or.inl q674_b659)).other W773 (Or.inl q674_b659)).other W786 (Or.inl q674_b659)).other W799 (Or.inl q674_b659)).other W812 (Or.inl q674_b659))
              have f821 : Fld Z h812 b659 "java/lang/String" "coder" "B" (.int (0 : Int32)) := (((((((((((f673.ext E674).other W696 (Or.inl q674_b659)).other W708 (Or.inl q674_b659)).other W721 (Or.inl q674_b659)).other W734 (Or.inl q674_b659)).other W747 (Or.inl q674_b659)).other W760 (Or.inl q674_b659)).other W773 (Or.inl q674_b659)).other W786 (Or.inl q674_b659)).other W799 (Or.inl q674_b659)).other W812 (Or.inl q674_b659))
              have f822 : Sta Z h812 "java/lang/String" "COMPACT_STRINGS" "Z" (.int cs) := (f809.wr W812)
              obtain ⟨_, _, ⟨T823, L823, k823, j823⟩, -, X823, ⟨Lc823, hQ823, l823, y823_, z823_⟩, st823⟩ := X812.specialBack hx (y := (⟨"java/lang/String", "<init>", "([C)V"⟩ : MethodName)) rfl hown (mvT hZ (w_50 hw)) (mvT hZ (w_51 hw)) (mvT hZ (w_52 hw)) (by decide) (backOf (W := 1) (rm9 l Z a0 hw [] b659 b674 cs ([(zc_695.toUInt32.toUInt16.toUInt32.toInt32), (zc_707.toUInt32.toUInt16.toUInt32.toInt32), (zc_720.toUInt32.toUInt16.toUInt32.toInt32), (zc_733.toUInt32.toUInt16.toUInt32.toInt32), (zc_746.toUInt32.toUInt16.toUInt32.toInt32), (zc_759.toUInt32.toUInt16.toUInt32.toInt32), (zc_772.toUInt32.toUInt16.toUInt32.toInt32), (zc_785.toUInt32.toUInt16.toUInt32.toInt32), (zc_798.toUInt32.toUInt16.toUInt32.toInt32), (zc_811.toUInt32.toUInt16.toUInt32.toInt32)] : List Int32) h812 n0 z816 f819 f820 f821 fv818 f822 u659 hcs (show ¬ ((10 : Nat) = 0) from (by decide)) (show (10 : Nat) ≤ 16 from (by decide)) hvb818) hZ (w_52 hw) (w_1 hw) (by decide) (by decide)) (g := (mkF m 619 #[.val (.int arg0), .val (.int arg1), .val (.int arg2), .val (.int v1), .val (.int v2), .val (.int v3), .val (.ref b4), .val (.ref b7), .unset, .unset, .unset] [(.ref b674), (.ref b659), (.ref b659)])) rfl (by rw [hml]; rfl) (Steps.refl _) (a := b659) (argsL := [(.ref b674)]) (rest := [(.ref b659)]) (lenOf own_pd21 rfl) rfl (by show 2 * 0 + _ ≤ _; exact Nat.le_of_eq rfl) (hb hby at_619) (fun _ _ => ⟨rfl, e812, (by decide : 6 + 1 ≤ _), (by decide : 86 + 16 ≤ _)⟩)
              dsimp only [Pt.U, Pt.locs, Pt.cells, Pt.slots] at X823 l823 y823_ z823_ st823 hQ823
              subst l823 y823_ z823_
              obtain ⟨b_823, bs_823, rfl, N823q, K823, u823_b, y823_b, p823_0, p823_1, p823_2, p823_3, r823_0⟩ := hQ823
              have N823 := Fr.app n817 N823q
              have f824 : Exa Z h812 va "[Lcom/example/goodput/goodput/DeliveryMode;" := (((((((((((f675.ext E674).wr W696).wr W708).wr W721).wr W734).wr W747).wr W760).wr W773).wr W786).wr W799).wr W812)
              have q823_b_va : va ≠ b_823 := Nat.ne_of_lt (Nat.lt_of_lt_of_le f824.lt y823_b)
              have f825 : Fld Z h812 r1 "com/example/goodput/goodput/DeliveryMode" "name" "Ljava/lang/String;" (.ref s1) := (((((((((((f676.ext E674).other W696 (Or.inl q674_r1)).other W708 (Or.inl q674_r1)).other W721 (Or.inl q674_r1)).other W734 (Or.inl q674_r1)).other W747 (Or.inl q674_r1)).other W760 (Or.inl q674_r1)).other W773 (Or.inl q674_r1)).other W786 (Or.inl q674_r1)).other W799 (Or.inl q674_r1)).other W812 (Or.inl q674_r1))
              have q823_b_r1 : r1 ≠ b_823 := Nat.ne_of_lt (Nat.lt_of_lt_of_le f825.lt y823_b)
              have f826 : Fld Z h812 r2 "com/example/goodput/goodput/DeliveryMode" "name" "Ljava/lang/String;" (.ref s2) := (((((((((((f677.ext E674).other W696 (Or.inl q674_r2)).other W708 (Or.inl q674_r2)).other W721 (Or.inl q674_r2)).other W734 (Or.inl q674_r2)).other W747 (Or.inl q674_r2)).other W760 (Or.inl q674_r2)).other W773 (Or.inl q674_r2)).other W786 (Or.inl q674_r2)).other W799 (Or.inl q674_r2)).other W812 (Or.inl q674_r2))
              have q823_b_r2 : r2 ≠ b_823 := Nat.ne_of_lt (Nat.lt_of_lt_of_le f826.lt y823_b)
              have f827 : Exa Z h812 s1 "java/lang/String" := (((((((((((f678.ext E674).wr W696).wr W708).wr W721).wr W734).wr W747).wr W760).wr W773).wr W786).wr W799).wr W812)
              have q823_b_s1 : s1 ≠ b_823 := Nat.ne_of_lt (Nat.lt_of_lt_of_le f827.lt y823_b)
              have f828 : Exa Z h812 s2 "java/lang/String" := (((((((((((f679.ext E674).wr W696).wr W708).wr W721).wr W734).wr W747).wr W760).wr W773).wr W786).wr W799).wr W812)
              have q823_b_s2 : s2 ≠ b_823 := Nat.ne_of_lt (Nat.lt_of_lt_of_le f828.lt y823_b)
              have f829 : own_A Z h812 d1 .byte (own_d.map Value.int) := (((((((((((f680.ext E674).other W696 q674_d1).other W708 q674_d1).other W721 q674_d1).other W734 q674_d1).other W747 q674_d1).other W760 q674_d1).other W773 q674_d1).other W786 q674_d1).other W799 q674_d1).other W812 q674_d1)
              have q823_b_d1 : d1 ≠ b_823 := Nat.ne_of_lt (Nat.lt_of_lt_of_le f829.lt y823_b)
              have f830 : own_A Z h812 d2 .byte (own_q.map Value.int) := (((((((((((f681.ext E674).other W696 q674_d2).other W708 q674_d2).other W721 q674_d2).other W734 q674_d2).other W747 q674_d2).other W760 q674_d2).other W773 q674_d2).other W786 q674_d2).other W799 q674_d2).other W812 q674_d2)
              have q823_b_d2 : d2 ≠ b_823 := Nat.ne_of_lt (Nat.lt_of_lt_of_le f830.lt y823_b)
              have f831 : Exa Z h812 b4 "java/lang/String" := (((((((((((f682.ext E674).wr W696).wr W708).wr W721).wr W734).wr W747).wr W760).wr W773).wr W786).wr W799).wr W812)
              have q823_b_b4 : b4 ≠ b_823 := Nat.ne_of_lt (Nat.lt_of_lt_of_le f831.lt y823_b)
              have f832 : own_A Z h812 bb4 .byte (own_d.map Value.int) := (((((((((((f683.ext E674).other W696 q674_bb4).other W708 q674_bb4).other W721 q674_bb4).other W734 q674_bb4).other W747 q674_bb4).other W760 q674_bb4).other W773 q674_bb4).other W786 q674_bb4).other W799 q674_bb4).other W812 q674_bb4)
              have q823_b_bb4 : bb4 ≠ b_823 := Nat.ne_of_lt (Nat.lt_of_lt_of_le f832.lt y823_b)
              have f833 : Exa Z h812 b7 "java/lang/String" := (f805.wr W812)
              have q823_b_b7 : b7 ≠ b_823 := Nat.ne_of_lt (Nat.lt_of_lt_of_le f833.lt y823_b)
              have f834 : own_A Z h812 bb7 .byte (own_q.map Value.int) := (f808.other W812 q674_bb7)
              have q823_b_bb7 : bb7 ≠ b_823 := Nat.ne_of_lt (Nat.lt_of_lt_of_le f834.lt y823_b)
              have q823_b_b659 : b659 ≠ b_823 := Nat.ne_of_lt (Nat.lt_of_lt_of_le f819.lt y823_b)
              have q823_b_b674 : b674 ≠ b_823 := Nat.ne_of_lt (Nat.lt_of_lt_of_le fv818.lt y823_b)
              have ch835 := ch813.trans (CHr.keep K823 (allS sf815 all0) ch813.1)
              have sf836 := Safe.keep K823 (allS sf815 all0) ch813.1 sf815
              have hk835 := Nat.le_trans hk813 K823.1
              have z837 : n0 ≤ T823.heap.size := Nat.le_trans z816 K823.1
              refine own_ssW (B := T823.setTop (mkF m 622 #[.val (.int arg0), .val (.int arg1), .val (.int arg2), .val (.int v1), .val (.int v2), .val (.int v3), .val (.ref b4), .val (.ref b7), .unset, .unset, .unset] [(.ref b659)])) st823 ?_
              have hbl823 : bs_823.length < 1000 := by have h9 : bs_823.length = 10 := r823_0; omega
              refine own_stW (B := T823.setTop (mkF m 624 #[.val (.int arg0), .val (.int arg1), .val (.int arg2), .val (.int v1), .val (.int v2), .val (.int v3), .val (.ref b4), .val (.ref b7), .val (.ref b659), .unset, .unset] [])) (fun t k => XS.astore X823.here hx rfl (hb hby at_622) rfl rfl (l' := #[.val (.int arg0), .val (.int arg1), .val (.int arg2), .val (.int v1), .val (.int v2), .val (.int v3), .val (.ref b4), .val (.ref b7), .val (.ref b659), .unset, .unset]) rfl k) ?_
              refine own_stW (B := T823.setTop (mkF m 825 #[.val (.int arg0), .val (.int arg1), .val (.int arg2), .val (.int v1), .val (.int v2), .val (.int v3), .val (.ref b4), .val (.ref b7), .val (.ref b659), .unset, .unset] [])) (fun t k => XS.goto X823.here hx rfl (pc0 := 624) (pc' := 825) rfl (hb hby at_624) (by decide) (by decide) k) ?_
              have x10_ := X823.more (cells' := 10) (slots' := 103) (by decide) (by decide)
              have f838 : Sta Z T823.heap "com/example/goodput/goodput/DeliveryMode" "$VALUES" "[Lcom/example/goodput/goodput/DeliveryMode;" (.ref va) := (own_Sta.keep ((((((((((((((F0.ext E4).ext E7).ext E659).ext E674).wr W696).wr W708).wr W721).wr W734).wr W747).wr W760).wr W773).wr W786).wr W799).wr W812) K823 (show ∀ st ∈ [b659], ∀ cell : Cell, h812[st]? = some cell → cell.vm.isStatics = false from (allS (own_plainE f819) all0)))
              have f839 : Exa Z T823.heap va "[Lcom/example/goodput/goodput/DeliveryMode;" := (f824.keep K823)
              have f840 : own_A Z T823.heap va (.object "com/example/goodput/goodput/DeliveryMode") [(.ref r1), (.ref r2)] := (((((((((((((((F2.ext E4).ext E7).ext E659).ext E674).other W696 q674_va).other W708 q674_va).other W721 q674_va).other W734 q674_va).other W747 q674_va).other W760 q674_va).other W773 q674_va).other W786 q674_va).other W799 q674_va).other W812 q674_va).keep K823 (ninS q659_va nin0))
              have f841 : Fld Z T823.heap r1 "com/example/goodput/goodput/DeliveryMode" "name" "Ljava/lang/String;" (.ref s1) := (f825.keep K823 (ninS q659_r1 nin0))
              have f842 : Fld Z T823.heap r2 "com/example/goodput/goodput/DeliveryMode" "name" "Ljava/lang/String;" (.ref s2) := (f826.keep K823 (ninS q659_r2 nin0))
              have f843 : Exa Z T823.heap s1 "java/lang/String" := (f827.keep K823)
              have f844 : Exa Z T823.heap s2 "java/lang/String" := (f828.keep K823)
              have f845 : Fld Z T823.heap s1 "java/lang/String" "coder" "B" (.int (0 : Int32)) := (((((((((((((((F7.ext E4).ext E7).ext E659).ext E674).other W696 (Or.inl q674_s1)).other W708 (Or.inl q674_s1)).other W721 (Or.inl q674_s1)).other W734 (Or.inl q674_s1)).other W747 (Or.inl q674_s1)).other W760 (Or.inl q674_s1)).other W773 (Or.inl q674_s1)).other W786 (Or.inl q674_s1)).other W799 (Or.inl q674_s1)).other W812 (Or.inl q674_s1)).keep K823 (ninS q659_s1 nin0))
              have f846 : Fld Z T823.heap s1 "java/lang/String" "value" "[B" (.ref d1) := (((((((((((((((F8.ext E4).ext E7).ext E659).ext E674).other W696 (Or.inl q674_s1)).other W708 (Or.inl q674_s1)).other W721 (Or.inl q674_s1)).other W734 (Or.inl q674_s1)).other W747 (Or.inl q674_s1)).other W760 (Or.inl q674_s1)).other W773 (Or.inl q674_s1)).other W786 (Or.inl q674_s1)).other W799 (Or.inl q674_s1)).other W812 (Or.inl q674_s1)).keep K823 (ninS q659_s1 nin0))
              have f847 : Fld Z T823.heap s2 "java/lang/String" "coder" "B" (.int (0 : Int32)) := (((((((((((((((F9.ext E4).ext E7).ext E659).ext E674).other W696 (Or.inl q674_s2)).other W708 (Or.inl q674_s2)).other W721 (Or.inl q674_s2)).other W734 (Or.inl q674_s2)).other W747 (Or.inl q674_s2)).other W760 (Or.inl q674_s2)).other W773 (Or.inl q674_s2)).other W786 (Or.inl q674_s2)).other W799 (Or.inl q674_s2)).other W812 (Or.inl q674_s2)).keep K823 (ninS q659_s2 nin0))
              have f848 : Fld Z T823.heap s2 "java/lang/String" "value" "[B" (.ref d2) := (((((((((((((((F10.ext E4).ext E7).ext E659).ext E674).other W696 (Or.inl q674_s2)).other W708 (Or.inl q674_s2)).other W721 (Or.inl q674_s2)).other W734 (Or.inl q674_s2)).other W747 (Or.inl q674_s2)).other W760 (Or.inl q674_s2)).other W773 (Or.inl q674_s2)).other W786 (Or.inl q674_s2)).other W799 (Or.inl q674_s2)).other W812 (Or.inl q674_s2)).keep K823 (ninS q659_s2 nin0))
              have f849 : own_A Z T823.heap d1 .byte (own_d.map Value.int) := (f829.keep K823 (ninS q659_d1 nin0))
              have f850 : own_A Z T823.heap d2 .byte (own_q.map Value.int) := (f830.keep K823 (ninS q659_d2 nin0))
              have f851 : Sta Z T823.heap "com/example/goodput/goodput/DeliveryMode" "DIRECT" "Lcom/example/goodput/goodput/DeliveryMode;" (.ref r1) := (own_Sta.keep ((((((((((((((F13.ext E4).ext E7).ext E659).ext E674).wr W696).wr W708).wr W721).wr W734).wr W747).wr W760).wr W773).wr W786).wr W799).wr W812) K823 (show ∀ st ∈ [b659], ∀ cell : Cell, h812[st]? = some cell → cell.vm.isStatics = false from (allS (own_plainE f819) all0)))
              have f852 : Sta Z T823.heap "com/example/goodput/goodput/DeliveryMode" "PERSISTENT" "Lcom/example/goodput/goodput/DeliveryMode;" (.ref r2) := (own_Sta.keep ((((((((((((((F14.ext E4).ext E7).ext E659).ext E674).wr W696).wr W708).wr W721).wr W734).wr W747).wr W760).wr W773).wr W786).wr W799).wr W812) K823 (show ∀ st ∈ [b659], ∀ cell : Cell, h812[st]? = some cell → cell.vm.isStatics = false from (allS (own_plainE f819) all0)))
              have f853 : Sta Z T823.heap "java/lang/String" "COMPACT_STRINGS" "Z" (.int cs) := (own_Sta.keep f822 K823 (show ∀ st ∈ [b659], ∀ cell : Cell, h812[st]? = some cell → cell.vm.isStatics = false from (allS (own_plainE f819) all0)))
              have f854 : Exa Z T823.heap b4 "java/lang/String" := (f831.keep K823)
              have f855 : Fld Z T823.heap b4 "java/lang/String" "coder" "B" (.int (0 : Int32)) := ((((((((((((((C4.ext E7).ext E659).ext E674).other W696 (Or.inl q674_b4)).other W708 (Or.inl q674_b4)).other W721 (Or.inl q674_b4)).other W734 (Or.inl q674_b4)).other W747 (Or.inl q674_b4)).other W760 (Or.inl q674_b4)).other W773 (Or.inl q674_b4)).other W786 (Or.inl q674_b4)).other W799 (Or.inl q674_b4)).other W812 (Or.inl q674_b4)).keep K823 (ninS q659_b4 nin0))
              have f856 : Fld Z T823.heap b4 "java/lang/String" "value" "[B" (.ref bb4) := ((((((((((((((V4.ext E7).ext E659).ext E674).other W696 (Or.inl q674_b4)).other W708 (Or.inl q674_b4)).other W721 (Or.inl q674_b4)).other W734 (Or.inl q674_b4)).other W747 (Or.inl q674_b4)).other W760 (Or.inl q674_b4)).other W773 (Or.inl q674_b4)).other W786 (Or.inl q674_b4)).other W799 (Or.inl q674_b4)).other W812 (Or.inl q674_b4)).keep K823 (ninS q659_b4 nin0))
              have f857 : own_A Z T823.heap bb4 .byte (own_d.map Value.int) := (f832.keep K823 (ninS q659_bb4 nin0))
              have f858 : Exa Z T823.heap b7 "java/lang/String" := (f833.keep K823)
              have f859 : Fld Z T823.heap b7 "java/lang/String" "coder" "B" (.int (0 : Int32)) := ((f806.other W812 (Or.inl q674_b7)).keep K823 (ninS q659_b7 nin0))
              have f860 : Fld Z T823.heap b7 "java/lang/String" "value" "[B" (.ref bb7) := ((f807.other W812 (Or.inl q674_b7)).keep K823 (ninS q659_b7 nin0))
              have f861 : own_A Z T823.heap bb7 .byte (own_q.map Value.int) := (f834.keep K823 (ninS q659_bb7 nin0))
              exact J10 _ _ T823 _ _ b659 b_823 bs_823 x10_ rfl N823 z837 hS7 hk835 hZ hown ch835 p823_0 p823_2 p823_1 p823_3 f838 f839 f840 f841 f842 f843 f844 f845 f846 f847 f848 f849 f850 f851 f852 f853 f854 f855 f856 f857 f858 f859 f860 f861 (show bs_823.length < 1000 by exact hbl823) (show s1 ≠ b659 by exact q659_s1) (show s2 ≠ b659 by exact q659_s2) (show b4 ≠ b659 by exact q659_b4) (show b7 ≠ b659 by exact q659_b7)
            · refine own_stW (B := T7.setTop (mkF m 627 #[.val (.int arg0), .val (.int arg1), .val (.int arg2), .val (.int v1), .val (.int v2), .val (.int v3), .val (.ref b4), .val (.ref b7), .unset, .unset, .unset] [])) (fun t k => XS.icmpYes X7.here hx rfl (pc0 := 470) (pc' := 627) rfl (hb hby at_470) rfl (XT.ii_ne_t hc658) (by decide) (by decide) k) ?_
              refine own_stW (B := T7.setTop (mkF m 628 #[.val (.int arg0), .val (.int arg1), .val (.int arg2), .val (.int v1), .val (.int v2), .val (.int v3), .val (.ref b4), .val (.ref b7), .unset, .unset, .unset] [(.int v1)])) (fun t k => XS.iloadN X7.here hx rfl (hb hby at_627) rfl k) ?_
              refine own_stW (B := T7.setTop (mkF m 629 #[.val (.int arg0), .val (.int arg1), .val (.int arg2), .val (.int v1), .val (.int v2), .val (.int v3), .val (.ref b4), .val (.ref b7), .unset, .unset, .unset] [(.int (5 : Int32)), (.int v1)])) (fun t k => XS.iconst X7.here hx rfl (hb hby at_628) k) ?_
              by_cases hc862 : v1 = (5 : Int32)
              · refine own_stW (B := T7.setTop (mkF m 632 #[.val (.int arg0), .val (.int arg1), .val (.int arg2), .val (.int v1), .val (.int v2), .val (.int v3), .val (.ref b4), .val (.ref b7), .unset, .unset, .unset] [])) (fun t k => XS.icmpNo X7.here hx rfl (hb hby at_629) rfl (XT.ii_ne_f hc862) k) ?_
                obtain ⟨T863, h863, X863, e863, E863, A863, D863, -, st863⟩ := newO X7 hx hZ hown (w_9 hw) (w_2 hw) (w_1 hw) e7 (g := (mkF m 632 #[.val (.int arg0), .val (.int arg1), .val (.int arg2), .val (.int v1), .val (.int v2), .val (.int v3), .val (.ref b4), .val (.ref b7), .unset, .unset, .unset] [])) rfl (hb hby at_632) (by decide) (by decide)
                obtain ⟨b863, g863⟩ : ∃ z, z = h7.size := ⟨_, rfl⟩
                rw [← g863] at A863 D863 st863
                have f864 : Exa Z h7 va "[Lcom/example/goodput/goodput/DeliveryMode;" := ((F1.ext E4).ext E7)
                have q863_va : va ≠ b863 := Nat.ne_of_lt (Nat.lt_of_lt_of_le f864.lt (Nat.le_of_eq g863.symm))
                have f865 : Fld Z h7 r1 "com/example/goodput/goodput/DeliveryMode" "name" "Ljava/lang/String;" (.ref s1) := ((F3.ext E4).ext E7)
                have q863_r1 : r1 ≠ b863 := Nat.ne_of_lt (Nat.lt_of_lt_of_le f865.lt (Nat.le_of_eq g863.symm))
                have f866 : Fld Z h7 r2 "com/example/goodput/goodput/DeliveryMode" "name" "Ljava/lang/String;" (.ref s2) := ((F4.ext E4).ext E7)
                have q863_r2 : r2 ≠ b863 := Nat.ne_of_lt (Nat.lt_of_lt_of_le f866.lt (Nat.le_of_eq g863.symm))
                have f867 : Exa Z h7 s1 "java/lang/String" := ((F5.ext E4).ext E7)
                have q863_s1 : s1 ≠ b863 := Nat.ne_of_lt (Nat.lt_of_lt_of_le f867.lt (Nat.le_of_eq g863.symm))
                have f868 : Exa Z h7 s2 "java/lang/String" := ((F6.ext E4).ext E7)
                have q863_s2 : s2 ≠ b863 := Nat.ne_of_lt (Nat.lt_of_lt_of_le f868.lt (Nat.le_of_eq g863.symm))
                have f869 : own_A Z h7 d1 .byte (own_d.map Value.int) := ((F11.ext E4).ext E7)
                have q863_d1 : d1 ≠ b863 := Nat.ne_of_lt (Nat.lt_of_lt_of_le f869.lt (Nat.le_of_eq g863.symm))
                have f870 : own_A Z h7 d2 .byte (own_q.map Value.int) := ((F12.ext E4).ext E7)
                have q863_d2 : d2 ≠ b863 := Nat.ne_of_lt (Nat.lt_of_lt_of_le f870.lt (Nat.le_of_eq g863.symm))
                have f871 : Exa Z h7 b4 "java/lang/String" := (A4.ext E7)
                have q863_b4 : b4 ≠ b863 := Nat.ne_of_lt (Nat.lt_of_lt_of_le f871.lt (Nat.le_of_eq g863.symm))
                have f872 : own_A Z h7 bb4 .byte (own_d.map Value.int) := (fa4.ext E7)
                have q863_bb4 : bb4 ≠ b863 := Nat.ne_of_lt (Nat.lt_of_lt_of_le f872.lt (Nat.le_of_eq g863.symm))
                have q863_b7 : b7 ≠ b863 := Nat.ne_of_lt (Nat.lt_of_lt_of_le A7.lt (Nat.le_of_eq g863.symm))
                have q863_bb7 : bb7 ≠ b863 := Nat.ne_of_lt (Nat.lt_of_lt_of_le fa7.lt (Nat.le_of_eq g863.symm))
                have u863 : n0 ≤ b863 := Nat.le_trans z9 (Nat.le_of_eq g863.symm)
                have ch873 := ch8.trans (CHr.ext E863 ch8.1)
                have sf874 := Safe.ext E863 ch8.1 (Safe.new (Nat.le_of_eq g863.symm))
                have hk873 := Nat.le_trans hk7 E863.1
                have z875 : n0 ≤ h863.size := Nat.le_trans z9 E863.1
                have f876 : Fld Z h863 b863 "java/lang/String" "value" "[B" .null := D863 (Or.inr (w_4 hw)) (ty := (.array .byte)) (by decide)
                have f877 : Fld Z h863 b863 "java/lang/String" "coder" "B" (.int (0 : Int32)) := D863 (Or.inr (w_5 hw)) (ty := .byte) (by decide)
                refine own_stW (B := T863.setTop (mkF m 635 #[.val (.int arg0), .val (.int arg1), .val (.int arg2), .val (.int v1), .val (.int v2), .val (.int v3), .val (.ref b4), .val (.ref b7), .unset, .unset, .unset] [(.ref b863)])) (fun t k => st863 t k) ?_
                refine own_stW (B := T863.setTop (mkF m 636 #[.val (.int arg0), .val (.int arg1), .val (.int arg2), .val (.int v1), .val (.int v2), .val (.int v3), .val (.ref b4), .val (.ref b7), .unset, .unset, .unset] [(.ref b863), (.ref b863)])) (fun t k => XS.dup X863.here hx rfl (hb hby at_635) rfl rfl k) ?_
                refine own_stW (B := T863.setTop (mkF m 638 #[.val (.int arg0), .val (.int arg1), .val (.int arg2), .val (.int v1), .val (.int v2), .val (.int v3), .val (.ref b4), .val (.ref b7), .unset, .unset, .unset] [(.int (11 : Int32)), (.ref b863), (.ref b863)])) (fun t k => XS.bipush X863.here hx rfl (hb hby at_636) k) ?_
                obtain ⟨T878, h878, X878, e878, E878, A878, x878, st878⟩ := own_newP X863 hx hZ (aty := .char) (w_10 hw) e863 (g := (mkF m 638 #[.val (.int arg0), .val (.int arg1), .val (.int arg2), .val (.int v1), .val (.int v2), .val (.int v3), .val (.ref b4), .val (.ref b7), .unset, .unset, .unset] [(.int (11 : Int32)), (.ref b863), (.ref b863)])) rfl (hb hby at_638) (n := (11 : Int32)) (rest := [(.ref b863), (.ref b863)]) rfl (k := 11) (cap := 11) (by decide) (Nat.le_refl _) (by decide) (by decide) (by decide) (ad := "[C") rfl
                obtain ⟨b878, g878⟩ : ∃ z, z = h863.size := ⟨_, rfl⟩
                rw [← g878] at A878 x878 st878
                have f879 : Exa Z h863 va "[Lcom/example/goodput/goodput/DeliveryMode;" := (f864.ext E863)
                have q878_va : va ≠ b878 := Nat.ne_of_lt (Nat.lt_of_lt_of_le f879.lt (Nat.le_of_eq g878.symm))
                have f880 : Fld Z h863 r1 "com/example/goodput/goodput/DeliveryMode" "name" "Ljava/lang/String;" (.ref s1) := (f865.ext E863)
                have q878_r1 : r1 ≠ b878 := Nat.ne_of_lt (Nat.lt_of_lt_of_le f880.lt (Nat.le_of_eq g878.symm))
                have f881 : Fld Z h863 r2 "com/example/goodput/goodput/DeliveryMode" "name" "Ljava/lang/String;" (.ref s2) := (f866.ext E863)
                have q878_r2 : r2 ≠ b878 := Nat.ne_of_lt (Nat.lt_of_lt_of_le f881.lt (Nat.le_of_eq g878.symm))
                have f882 : Exa Z h863 s1 "java/lang/String" := (f867.ext E863)
                have q878_s1 : s1 ≠ b878 := Nat.ne_of_lt (Nat.lt_of_lt_of_le f882.lt (Nat.le_of_eq g878.symm))
                have f883 : Exa Z h863 s2 "java/lang/String" := (f868.ext E863)
                have q878_s2 : s2 ≠ b878 := Nat.ne_of_lt (Nat.lt_of_lt_of_le f883.lt (Nat.le_of_eq g878.symm))
                have f884 : own_A Z h863 d1 .byte (own_d.map Value.int) := (f869.ext E863)
                have q878_d1 : d1 ≠ b878 := Nat.ne_of_lt (Nat.lt_of_lt_of_le f884.lt (Nat.le_of_eq g878.symm))
                have f885 : own_A Z h863 d2 .byte (own_q.map Value.int) := (f870.ext E863)
                have q878_d2 : d2 ≠ b878 := Nat.ne_of_lt (Nat.lt_of_lt_of_le f885.lt (Nat.le_of_eq g878.symm))
                have f886 : Exa Z h863 b4 "java/lang/String" := (f871.ext E863)
                have q878_b4 : b4 ≠ b878 := Nat.ne_of_lt (Nat.lt_of_lt_of_le f886.lt (Nat.le_of_eq g878.symm))
                have f887 : own_A Z h863 bb4 .byte (own_d.map Value.int) := (f872.ext E863)
                have q878_bb4 : bb4 ≠ b878 := Nat.ne_of_lt (Nat.lt_of_lt_of_le f887.lt (Nat.le_of_eq g878.symm))
                have f888 : Exa Z h863 b7 "java/lang/String" := (A7.ext E863)
                have q878_b7 : b7 ≠ b878 := Nat.ne_of_lt (Nat.lt_of_lt_of_le f888.lt (Nat.le_of_eq g878.symm))
                have f889 : own_A Z h863 bb7 .byte (own_q.map Value.int) := (fa7.ext E863)
                have q878_bb7 : bb7 ≠ b878 := Nat.ne_of_lt (Nat.lt_of_lt_of_le f889.lt (Nat.le_of_eq g878.symm))
                have q878_b863 : b863 ≠ b878 := Nat.ne_of_lt (Nat.lt_of_lt_of_le A863.lt (Nat.le_of_eq g878.symm))
                have u878 : n0 ≤ b878 := Nat.le_trans z875 (Nat.le_of_eq g878.symm)
                have ch890 := ch873.trans (CHr.ext E878 ch873.1)
                have sf891 := Safe.ext E878 ch873.1 sf874
                have hk890 := Nat.le_trans hk873 E878.1
                have z892 : n0 ≤ h878.size := Nat.le_trans z875 E878.1
                have f878_ : own_A Z h878 b878 .char [(.int (0 : Int32)), (.int (0 : Int32)), (.int (0 : Int32)), (.int (0 : Int32)), (.int (0 : Int32)), (.int (0 : Int32)), (.int (0 : Int32)), (.int (0 : Int32)), (.int (0 : Int32)), (.int (0 : Int32)), (.int (0 : Int32))] := A878
                refine own_stW (B := T878.setTop (mkF m 640 #[.val (.int arg0), .val (.int arg1), .val (.int arg2), .val (.int v1), .val (.int v2), .val (.int v3), .val (.ref b4), .val (.ref b7), .unset, .unset, .unset] [(.ref b878), (.ref b863), (.ref b863)])) (fun t k => st878 t k) ?_
                refine own_stW (B := T878.setTop (mkF m 641 #[.val (.int arg0), .val (.int arg1), .val (.int arg2), .val (.int v1), .val (.int v2), .val (.int v3), .val (.ref b4), .val (.ref b7), .unset, .unset, .unset] [(.ref b878), (.ref b878), (.ref b863), (.ref b863)])) (fun t k => XS.dup X878.here hx rfl (hb hby at_640) rfl rfl k) ?_
                refine own_stW (B := T878.setTop (mkF m 642 #[.val (.int arg0), .val (.int arg1), .val (.int arg2), .val (.int v1), .val (.int v2), .val (.int v3), .val (.ref b4), .val (.ref b7), .unset, .unset, .unset] [(.int (0 : Int32)), (.ref b878), (.ref b878), (.ref b863), (.ref b863)])) (fun t k => XS.iconst X878.here hx rfl (hb hby at_641) k) ?_
                refine own_stW (B := T878.setTop (mkF m 644 #[.val (.int arg0), .val (.int arg1), .val (.int arg2), .val (.int v1), .val (.int v2), .val (.int v3), .val (.ref b4), .val (.ref b7), .unset, .unset, .unset] [(.ref b7), (.int (0 : Int32)), (.ref b878), (.ref b878), (.ref b863), (.ref b863)])) (fun t k => XS.aload X878.here hx rfl (hb hby at_642) rfl rfl k) ?_
                refine own_stW (B := T878.setTop (mkF m 645 #[.val (.int arg0), .val (.int arg1), .val (.int arg2), .val (.int v1), .val (.int v2), .val (.int v3), .val (.ref b4), .val (.ref b7), .unset, .unset, .unset] [(.int (0 : Int32)), (.ref b7), (.int (0 : Int32)), (.ref b878), (.ref b878), (.ref b863), (.ref b863)])) (fun t k => XS.iconst X878.here hx rfl (hb hby at_644) k) ?_
                refine own_stW (B := T878.setTop (mkF m 647 #[.val (.int arg0), .val (.int arg1), .val (.int arg2), .val (.int v1), .val (.int v2), .val (.int v3), .val (.ref b4), .val (.ref b7), .unset, .unset, .unset] [(.int v2), (.int (0 : Int32)), (.ref b7), (.int (0 : Int32)), (.ref b878), (.ref b878), (.ref b863), (.ref b863)])) (fun t k => XS.iload X878.here hx rfl (hb hby at_645) rfl k) ?_
                refine own_stW (B := T878.setTop (mkF m 649 #[.val (.int arg0), .val (.int arg1), .val (.int arg2), .val (.int v1), .val (.int v2), .val (.int v3), .val (.ref b4), .val (.ref b7), .unset, .unset, .unset] [(.int v3), (.int v2), (.int (0 : Int32)), (.ref b7), (.int (0 : Int32)), (.ref b878), (.ref b878), (.ref b863), (.ref b863)])) (fun t k => XS.iload X878.here hx rfl (hb hby at_647) rfl k) ?_
                have f893 : Exa Z h878 b7 "java/lang/String" := (f888.ext E878)
                have f894 : Fld Z h878 b7 "java/lang/String" "coder" "B" (.int (0 : Int32)) := ((C7.ext E863).ext E878)
                have f895 : Fld Z h878 b7 "java/lang/String" "value" "[B" (.ref bb7) := ((V7.ext E863).ext E878)
                have f896 : own_A Z h878 bb7 .byte (own_q.map Value.int) := (f889.ext E878)
                have f897 : Sta Z h878 "java/lang/String" "COMPACT_STRINGS" "Z" (.int cs) := ((((F15.ext E4).ext E7).ext E863).ext E878)
                have f898 : Sta Z h878 "jdk/internal/util/Preconditions" "SIOOBE_FORMATTER" "Ljava/util/function/BiFunction;" u1 := ((((F16.ext E4).ext E7).ext E863).ext E878)
                obtain ⟨_, _, ⟨T899, L899, k899, j899⟩, -, X899, ⟨Lc899, hQ899, l899, y899_, z899_⟩, st899⟩ := Jvm.LawKit.callS X878 hx (y := (⟨"com/example/goodput/goodput/DeliveryModeNamedPinLaw", "at", "(Ljava/lang/String;IIC)C"⟩ : MethodName)) hown (mvT hZ (w_11 hw)) (mvT hZ (w_12 hw)) (mvT hZ (w_13 hw)) (mvT hZ (w_14 hw)) (by decide) (backOf (W := 5) (rm1 l Z a0 hw [] b7 (0 : Int32) v2 v3 bb7 own_q cs u1 h878 n0 z892 f893 f894 f895 f896 f897 f898 (show 0 ≤ (0 : Int32).toInt by decide) hcc (show own_q.length < 1000 by decide) hcs hu) hZ (w_14 hw) (w_13 hw) (by decide) (by decide)) (g := (mkF m 649 #[.val (.int arg0), .val (.int arg1), .val (.int arg2), .val (.int v1), .val (.int v2), .val (.int v3), .val (.ref b4), .val (.ref b7), .unset, .unset, .unset] [(.int v3), (.int v2), (.int (0 : Int32)), (.ref b7), (.int (0 : Int32)), (.ref b878), (.ref b878), (.ref b863), (.ref b863)])) rfl (by rw [hml]; rfl) (argsL := [(.ref b7), (.int (0 : Int32)), (.int v2), (.int v3)]) (rest := [(.int (0 : Int32)), (.ref b878), (.ref b878), (.ref b863), (.ref b863)]) (lenOf own_pd20 rfl) rfl (by show 2 * 0 + _ ≤ _; exact Nat.le_of_eq rfl) (hb hby at_649) (fun _ _ => ⟨rfl, e878, (by decide : 6 + 0 ≤ _), (by decide : 87 + 0 ≤ _)⟩)
                dsimp only [Pt.U, Pt.locs, Pt.cells, Pt.slots] at X899 l899 y899_ z899_ st899 hQ899
                subst l899 y899_ z899_
                obtain ⟨zc_899, rfl, N899q, e899q, r899_0⟩ := hQ899
                have N899 := Fr.app N0 N899q
                refine own_stW (B := T899.setTop (mkF m 652 #[.val (.int arg0), .val (.int arg1), .val (.int arg2), .val (.int v1), .val (.int v2), .val (.int v3), .val (.ref b4), .val (.ref b7), .unset, .unset, .unset] [(.int zc_899), (.int (0 : Int32)), (.ref b878), (.ref b878), (.ref b863), (.ref b863)])) (fun t k => st899 t k) ?_
                obtain ⟨T900, h900, X900, e900, W900, A900, st900⟩ := own_stC X899 hx hZ e899q f878_ (j := (0 : Int32)) (x := zc_899) (i := 0) (by decide) (show 0 < 11 from by decide) (g := (mkF m 652 #[.val (.int arg0), .val (.int arg1), .val (.int arg2), .val (.int v1), .val (.int v2), .val (.int v3), .val (.ref b4), .val (.ref b7), .unset, .unset, .unset] [(.int zc_899), (.int (0 : Int32)), (.ref b878), (.ref b878), (.ref b863), (.ref b863)])) rfl rfl (hb hby at_652)
                have f900_ : own_A Z h900 b878 .char [(.int (zc_899.toUInt32.toUInt16.toUInt32.toInt32)), (.int (0 : Int32)), (.int (0 : Int32)), (.int (0 : Int32)), (.int (0 : Int32)), (.int (0 : Int32)), (.int (0 : Int32)), (.int (0 : Int32)), (.int (0 : Int32)), (.int (0 : Int32)), (.int (0 : Int32))] := A900
                have ch901 := ch890.trans (CHr.wr W900 (Safe.exa hZ.alike x878 (by decide) (by decide)) ch890.1)
                have sf902 := Safe.wr W900 (Safe.exa hZ.alike x878 (by decide) (by decide)) ch890.1 sf891
                have hk901 := Nat.le_trans hk890 (Keep.of_wr W900).1
                have z903 : n0 ≤ h900.size := Nat.le_trans z892 (Keep.of_wr W900).1
                have n904 := Fr.snoc X900 N899 u878
                refine own_stW (B := T900.setTop (mkF m 653 #[.val (.int arg0), .val (.int arg1), .val (.int arg2), .val (.int v1), .val (.int v2), .val (.int v3), .val (.ref b4), .val (.ref b7), .unset, .unset, .unset] [(.ref b878), (.ref b863), (.ref b863)])) (fun t k => st900 t k) ?_
                refine own_stW (B := T900.setTop (mkF m 654 #[.val (.int arg0), .val (.int arg1), .val (.int arg2), .val (.int v1), .val (.int v2), .val (.int v3), .val (.ref b4), .val (.ref b7), .unset, .unset, .unset] [(.ref b878), (.ref b878), (.ref b863), (.ref b863)])) (fun t k => XS.dup X900.here hx rfl (hb hby at_653) rfl rfl k) ?_
                refine own_stW (B := T900.setTop (mkF m 655 #[.val (.int arg0), .val (.int arg1), .val (.int arg2), .val (.int v1), .val (.int v2), .val (.int v3), .val (.ref b4), .val (.ref b7), .unset, .unset, .unset] [(.int (1 : Int32)), (.ref b878), (.ref b878), (.ref b863), (.ref b863)])) (fun t k => XS.iconst X900.here hx rfl (hb hby at_654) k) ?_
                refine own_stW (B := T900.setTop (mkF m 657 #[.val (.int arg0), .val (.int arg1), .val (.int arg2), .val (.int v1), .val (.int v2), .val (.int v3), .val (.ref b4), .val (.ref b7), .unset, .unset, .unset] [(.ref b7), (.int (1 : Int32)), (.ref b878), (.ref b878), (.ref b863), (.ref b863)])) (fun t k => XS.aload X900.here hx rfl (hb hby at_655) rfl rfl k) ?_
                refine own_stW (B := T900.setTop (mkF m 658 #[.val (.int arg0), .val (.int arg1), .val (.int arg2), .val (.int v1), .val (.int v2), .val (.int v3), .val (.ref b4), .val (.ref b7), .unset, .unset, .unset] [(.int (1 : Int32)), (.ref b7), (.int (1 : Int32)), (.ref b878), (.ref b878), (.ref b863), (.ref b863)])) (fun t k => XS.iconst X900.here hx rfl (hb hby at_657) k) ?_
                refine own_stW (B := T900.setTop (mkF m 660 #[.val (.int arg0), .val (.int arg1), .val (.int arg2), .val (.int v1), .val (.int v2), .val (.int v3), .val (.ref b4), .val (.ref b7), .unset, .unset, .unset] [(.int v2), (.int (1 : Int32)), (.ref b7), (.int (1 : Int32)), (.ref b878), (.ref b878), (.ref b863), (.ref b863)])) (fun t k => XS.iload X900.here hx rfl (hb hby at_658) rfl k) ?_
                refine own_stW (B := T900.setTop (mkF m 662 #[.val (.int arg0), .val (.int arg1), .val (.int arg2), .val (.int v1), .val (.int v2), .val (.int v3), .val (.ref b4), .val (.ref b7), .unset, .unset, .unset] [(.int v3), (.int v2), (.int (1 : Int32)), (.ref b7), (.int (1 : Int32)), (.ref b878), (.ref b878), (.ref b863), (.ref b863)])) (fun t k => XS.iload X900.here hx rfl (hb hby at_660) rfl k) ?_
                have f905 : Exa Z h900 b7 "java/lang/String" := (f893.wr W900)
                have f906 : Fld Z h900 b7 "java/lang/String" "coder" "B" (.int (0 : Int32)) := (f894.other W900 (Or.inl q878_b7))
                have f907 : Fld Z h900 b7 "java/lang/String" "value" "[B" (.ref bb7) := (f895.other W900 (Or.inl q878_b7))
                have f908 : own_A Z h900 bb7 .byte (own_q.map Value.int) := (f896.other W900 q878_bb7)
                have f909 : Sta Z h900 "java/lang/String" "COMPACT_STRINGS" "Z" (.int cs) := (f897.wr W900)
                have f910 : Sta Z h900 "jdk/internal/util/Preconditions" "SIOOBE_FORMATTER" "Ljava/util/function/BiFunction;" u1 := (f898.wr W900)
                obtain ⟨_, _, ⟨T911, L911, k911, j911⟩, -, X911, ⟨Lc911, hQ911, l911, y911_, z911_⟩, st911⟩ := Jvm.LawKit.callS X900 hx (y := (⟨"com/example/goodput/goodput/DeliveryModeNamedPinLaw", "at", "(Ljava/lang/String;IIC)C"⟩ : MethodName)) hown (mvT hZ (w_11 hw)) (mvT hZ (w_12 hw)) (mvT hZ (w_13 hw)) (mvT hZ (w_14 hw)) (by decide) (backOf (W := 5) (rm1 l Z a0 hw [] b7 (1 : Int32) v2 v3 bb7 own_q cs u1 h900 n0 z903 f905 f906 f907 f908 f909 f910 (show 0 ≤ (1 : Int32).toInt by decide) hcc (show own_q.length < 1000 by decide) hcs hu) hZ (w_14 hw) (w_13 hw) (by decide) (by decide)) (g := (mkF m 662 #[.val (.int arg0), .val (.int arg1), .val (.int arg2), .val (.int v1), .val (.int v2), .val (.int v3), .val (.ref b4), .val (.ref b7), .unset, .unset, .unset] [(.int v3), (.int v2), (.int (1 : Int32)), (.ref b7), (.int (1 : Int32)), (.ref b878), (.ref b878), (.ref b863), (.ref b863)])) rfl (by rw [hml]; rfl) (argsL := [(.ref b7), (.int (1 : Int32)), (.int v2), (.int v3)]) (rest := [(.int (1 : Int32)), (.ref b878), (.ref b878), (.ref b863), (.ref b863)]) (lenOf own_pd20 rfl) rfl (by show 2 * 0 + _ ≤ _; exact Nat.le_of_eq rfl) (hb hby at_662) (fun _ _ => ⟨rfl, e900, (by decide : 6 + 0 ≤ _), (by decide : 87 + 0 ≤ _)⟩)
                dsimp only [Pt.U, Pt.locs, Pt.cells, Pt.slots] at X911 l911 y911_ z911_ st911 hQ911
                subst l911 y911_ z911_
                obtain ⟨zc_911, rfl, N911q, e911q, r911_0⟩ := hQ911
                have N911 := Fr.app n904 N911q
                refine own_stW (B := T911.setTop (mkF m 665 #[.val (.int arg0), .val (.int arg1), .val (.int arg2), .val (.int v1), .val (.int v2), .val (.int v3), .val (.ref b4), .val (.ref b7), .unset, .unset, .unset] [(.int zc_911), (.int (1 : Int32)), (.ref b878), (.ref b878), (.ref b863), (.ref b863)])) (fun t k => st911 t k) ?_
                obtain ⟨T912, h912, X912, e912, W912, A912, st912⟩ := own_stC X911 hx hZ e911q f900_ (j := (1 : Int32)) (x := zc_911) (i := 1) (by decide) (show 1 < 11 from by decide) (g := (mkF m 665 #[.val (.int arg0), .val (.int arg1), .val (.int arg2), .val (.int v1), .val (.int v2), .val (.int v3), .val (.ref b4), .val (.ref b7), .unset, .unset, .unset] [(.int zc_911), (.int (1 : Int32)), (.ref b878), (.ref b878), (.ref b863), (.ref b863)])) rfl rfl (hb hby at_665)
                have f912_ : own_A Z h912 b878 .char [(.int (zc_899.toUInt32.toUInt16.toUInt32.toInt32)), (.int (zc_911.toUInt32.toUInt16.toUInt32.toInt32)), (.int (0 : Int32)), (.int (0 : Int32)), (.int (0 : Int32)), (.int (0 : Int32)), (.int (0 : Int32)), (.int (0 : Int32)), (.int (0 : Int32)), (.int (0 : Int32)), (.int (0 : Int32))] := A912
                have f914 : Exa Z h900 b878 "[C" := (x878.wr W900)
                have ch913 := ch901.trans (CHr.wr W912 (Safe.exa hZ.alike f914 (by decide) (by decide)) ch901.1)
                have sf915 := Safe.wr W912 (Safe.exa hZ.alike f914 (by decide) (by decide)) ch901.1 sf902
                have hk913 := Nat.le_trans hk901 (Keep.of_wr W912).1
                have z916 : n0 ≤ h912.size := Nat.le_trans z903 (Keep.of_wr W912).1
                have n917 := Fr.snoc X912 N911 u878
                refine own_stW (B := T912.setTop (mkF m 666 #[.val (.int arg0), .val (.int arg1), .val (.int arg2), .val (.int v1), .val (.int v2), .val (.int v3), .val (.ref b4), .val (.ref b7), .unset, .unset, .unset] [(.ref b878), (.ref b863), (.ref b863)])) (fun t k => st912 t k) ?_
                refine own_stW (B := T912.setTop (mkF m 667 #[.val (.int arg0), .val (.int arg1), .val (.int arg2), .val (.int v1), .val (.int v2), .val (.int v3), .val (.ref b4), .val (.ref b7), .unset, .unset, .unset] [(.ref b878), (.ref b878), (.ref b863), (.ref b863)])) (fun t k => XS.dup X912.here hx rfl (hb hby at_666) rfl rfl k) ?_
                refine own_stW (B := T912.setTop (mkF m 668 #[.val (.int arg0), .val (.int arg1), .val (.int arg2), .val (.int v1), .val (.int v2), .val (.int v3), .val (.ref b4), .val (.ref b7), .unset, .unset, .unset] [(.int (2 : Int32)), (.ref b878), (.ref b878), (.ref b863), (.ref b863)])) (fun t k => XS.iconst X912.here hx rfl (hb hby at_667) k) ?_
                refine own_stW (B := T912.setTop (mkF m 670 #[.val (.int arg0), .val (.int arg1), .val (.int arg2), .val (.int v1), .val (.int v2), .val (.int v3), .val (.ref b4), .val (.ref b7), .unset, .unset, .unset] [(.ref b7), (.int (2 : Int32)), (.ref b878), (.ref b878), (.ref b863), (.ref b863)])) (fun t k => XS.aload X912.here hx rfl (hb hby at_668) rfl rfl k) ?_
                refine own_stW (B := T912.setTop (mkF m 671 #[.val (.int arg0), .val (.int arg1), .val (.int arg2), .val (.int v1), .val (.int v2), .val (.int v3), .val (.ref b4), .val (.ref b7), .unset, .unset, .unset] [(.int (2 : Int32)), (.ref b7), (.int (2 : Int32)), (.ref b878), (.ref b878), (.ref b863), (.ref b863)])) (fun t k => XS.iconst X912.here hx rfl (hb hby at_670) k) ?_
                refine own_stW (B := T912.setTop (mkF m 673 #[.val (.int arg0), .val (.int arg1), .val (.int arg2), .val (.int v1), .val (.int v2), .val (.int v3), .val (.ref b4), .val (.ref b7), .unset, .unset, .unset] [(.int v2), (.int (2 : Int32)), (.ref b7), (.int (2 : Int32)), (.ref b878), (.ref b878), (.ref b863), (.ref b863)])) (fun t k => XS.iload X912.here hx rfl (hb hby at_671) rfl k) ?_
                refine own_stW (B := T912.setTop (mkF m 675 #[.val (.int arg0), .val (.int arg1), .val (.int arg2), .val (.int v1), .val (.int v2), .val (.int v3), .val (.ref b4), .val (.ref b7), .unset, .unset, .unset] [(.int v3), (.int v2), (.int (2 : Int32)), (.ref b7), (.int (2 : Int32)), (.ref b878), (.ref b878), (.ref b863), (.ref b863)])) (fun t k => XS.iload X912.here hx rfl (hb hby at_673) rfl k) ?_
                have f918 : Exa Z h912 b7 "java/lang/String" := (f905.wr W912)
                have f919 : Fld Z h912 b7 "java/lang/String" "coder" "B" (.int (0 : Int32)) := (f906.other W912 (Or.inl q878_b7))
                have f920 : Fld Z h912 b7 "java/lang/String" "value" "[B" (.ref bb7) := (f907.other W912 (Or.inl q878_b7))
                have f921 : own_A Z h912 bb7 .byte (own_q.map Value.int) := (f908.other W912 q878_bb7)
                have f922 : Sta Z h912 "java/lang/String" "COMPACT_STRINGS" "Z" (.int cs) := (f909.wr W912)
                have f923 : Sta Z h912 "jdk/internal/util/Preconditions" "SIOOBE_FORMATTER" "Ljava/util/function/BiFunction;" u1 := (f910.wr W912)
                obtain ⟨_, _, ⟨T924, L924, k924, j924⟩, -, X924, ⟨Lc924, hQ924, l924, y924_, z924_⟩, st924⟩ := Jvm.LawKit.callS X912 hx (y := (⟨"com/example/goodput/goodput/DeliveryModeNamedPinLaw", "at", "(Ljava/lang/String;IIC)C"⟩ : MethodName)) hown (mvT hZ (w_11 hw)) (mvT hZ (w_12 hw)) (mvT hZ (w_13 hw)) (mvT hZ (w_14 hw)) (by decide) (backOf (W := 5) (rm1 l Z a0 hw [] b7 (2 : Int32) v2 v3 bb7 own_q cs u1 h912 n0 z916 f918 f919 f920 f921 f922 f923 (show 0 ≤ (2 : Int32).toInt by decide) hcc (show own_q.length < 1000 by decide) hcs hu) hZ (w_14 hw) (w_13 hw) (by decide) (by decide)) (g := (mkF m 675 #[.val (.int arg0), .val (.int arg1), .val (.int arg2), .val (.int v1), .val (.int v2), .val (.int v3), .val (.ref b4), .val (.ref b7), .unset, .unset, .unset] [(.int v3), (.int v2), (.int (2 : Int32)), (.ref b7), (.int (2 : Int32)), (.ref b878), (.ref b878), (.ref b863), (.ref b863)])) rfl (by rw [hml]; rfl) (argsL := [(.ref b7), (.int (2 : Int32)), (.int v2), (.int v3)]) (rest := [(.int (2 : Int32)), (.ref b878), (.ref b878), (.ref b863), (.ref b863)]) (lenOf own_pd20 rfl) rfl (by show 2 * 0 + _ ≤ _; exact Nat.le_of_eq rfl) (hb hby at_675) (fun _ _ => ⟨rfl, e912, (by decide : 6 + 0 ≤ _), (by decide : 87 + 0 ≤ _)⟩)
                dsimp only [Pt.U, Pt.locs, Pt.cells, Pt.slots] at X924 l924 y924_ z924_ st924 hQ924
                subst l924 y924_ z924_
                obtain ⟨zc_924, rfl, N924q, e924q, r924_0⟩ := hQ924
                have N924 := Fr.app n917 N924q
                refine own_stW (B := T924.setTop (mkF m 678 #[.val (.int arg0), .val (.int arg1), .val (.int arg2), .val (.int v1), .val (.int v2), .val (.int v3), .val (.ref b4), .val (.ref b7), .unset, .unset, .unset] [(.int zc_924), (.int (2 : Int32)), (.ref b878), (.ref b878), (.ref b863), (.ref b863)])) (fun t k => st924 t k) ?_
                obtain ⟨T925, h925, X925, e925, W925, A925, st925⟩ := own_stC X924 hx hZ e924q f912_ (j := (2 : Int32)) (x := zc_924) (i := 2) (by decide) (show 2 < 11 from by decide) (g := (mkF m 678 #[.val (.int arg0), .val (.int arg1), .val (.int arg2), .val (.int v1), .val (.int v2), .val (.int v3), .val (.ref b4), .val (.ref b7), .unset, .unset, .unset] [(.int zc_924), (.int (2 : Int32)), (.ref b878), (.ref b878), (.ref b863), (.ref b863)])) rfl rfl (hb hby at_678)
                have f925_ : own_A Z h925 b878 .char [(.int (zc_899.toUInt32.toUInt16.toUInt32.toInt32)), (.int (zc_911.toUInt32.toUInt16.toUInt32.toInt32)), (.int (zc_924.toUInt32.toUInt16.toUInt32.toInt32)), (.int (0 : Int32)), (.int (0 : Int32)), (.int (0 : Int32)), (.int (0 : Int32)), (.int (0 : Int32)), (.int (0 : Int32)), (.int (0 : Int32)), (.int (0 : Int32))] := A925
                have f927 : Exa Z h912 b878 "[C" := (f914.wr W912)
                have ch926 := ch913.trans (CHr.wr W925 (Safe.exa hZ.alike f927 (by decide) (by decide)) ch913.1)
                have sf928 := Safe.wr W925 (Safe.exa hZ.alike f927 (by decide) (by decide)) ch913.1 sf915
                have hk926 := Nat.le_trans hk913 (Keep.of_wr W925).1
                have z929 : n0 ≤ h925.size := Nat.le_trans z916 (Keep.of_wr W925).1
                have n930 := Fr.snoc X925 N924 u878
                refine own_stW (B := T925.setTop (mkF m 679 #[.val (.int arg0), .val (.int arg1), .val (.int arg2), .val (.int v1), .val (.int v2), .val (.int v3), .val (.ref b4), .val (.ref b7), .unset, .unset, .unset] [(.ref b878), (.ref b863), (.ref b863)])) (fun t k => st925 t k) ?_
                refine own_stW (B := T925.setTop (mkF m 680 #[.val (.int arg0), .val (.int arg1), .val (.int arg2), .val (.int v1), .val (.int v2), .val (.int v3), .val (.ref b4), .val (.ref b7), .unset, .unset, .unset] [(.ref b878), (.ref b878), (.ref b863), (.ref b863)])) (fun t k => XS.dup X925.here hx rfl (hb hby at_679) rfl rfl k) ?_
                refine own_stW (B := T925.setTop (mkF m 681 #[.val (.int arg0), .val (.int arg1), .val (.int arg2), .val (.int v1), .val (.int v2), .val (.int v3), .val (.ref b4), .val (.ref b7), .unset, .unset, .unset] [(.int (3 : Int32)), (.ref b878), (.ref b878), (.ref b863), (.ref b863)])) (fun t k => XS.iconst X925.here hx rfl (hb hby at_680) k) ?_
                refine own_stW (B := T925.setTop (mkF m 683 #[.val (.int arg0), .val (.int arg1), .val (.int arg2), .val (.int v1), .val (.int v2), .val (.int v3), .val (.ref b4), .val (.ref b7), .unset, .unset, .unset] [(.ref b7), (.int (3 : Int32)), (.ref b878), (.ref b878), (.ref b863), (.ref b863)])) (fun t k => XS.aload X925.here hx rfl (hb hby at_681) rfl rfl k) ?_
                refine own_stW (B := T925.setTop (mkF m 684 #[.val (.int arg0), .val (.int arg1), .val (.int arg2), .val (.int v1), .val (.int v2), .val (.int v3), .val (.ref b4), .val (.ref b7), .unset, .unset, .unset] [(.int (3 : Int32)), (.ref b7), (.int (3 : Int32)), (.ref b878), (.ref b878), (.ref b863), (.ref b863)])) (fun t k => XS.iconst X925.here hx rfl (hb hby at_683) k) ?_
                refine own_stW (B := T925.setTop (mkF m 686 #[.val (.int arg0), .val (.int arg1), .val (.int arg2), .val (.int v1), .val (.int v2), .val (.int v3), .val (.ref b4), .val (.ref b7), .unset, .unset, .unset] [(.int v2), (.int (3 : Int32)), (.ref b7), (.int (3 : Int32)), (.ref b878), (.ref b878), (.ref b863), (.ref b863)])) (fun t k => XS.iload X925.here hx rfl (hb hby at_684) rfl k) ?_
                refine own_stW (B := T925.setTop (mkF m 688 #[.val (.int arg0), .val (.int arg1), .val (.int arg2), .val (.int v1), .val (.int v2), .val (.int v3), .val (.ref b4), .val (.ref b7), .unset, .unset, .unset] [(.int v3), (.int v2), (.int (3 : Int32)), (.ref b7), (.int (3 : Int32)), (.ref b878), (.ref b878), (.ref b863), (.ref b863)])) (fun t k => XS.iload X925.here hx rfl (hb hby at_686) rfl k) ?_
                have f931 : Exa Z h925 b7 "java/lang/String" := (f918.wr W925)
                have f932 : Fld Z h925 b7 "java/lang/String" "coder" "B" (.int (0 : Int32)) := (f919.other W925 (Or.inl q878_b7))
                have f933 : Fld Z h925 b7 "java/lang/String" "value" "[B" (.ref bb7) := (f920.other W925 (Or.inl q878_b7))
                have f934 : own_A Z h925 bb7 .byte (own_q.map Value.int) := (f921.other W925 q878_bb7)
                have f935 : Sta Z h925 "java/lang/String" "COMPACT_STRINGS" "Z" (.int cs) := (f922.wr W925)
                have f936 : Sta Z h925 "jdk/internal/util/Preconditions" "SIOOBE_FORMATTER" "Ljava/util/function/BiFunction;" u1 := (f923.wr W925)
                obtain ⟨_, _, ⟨T937, L937, k937, j937⟩, -, X937, ⟨Lc937, hQ937, l937, y937_, z937_⟩, st937⟩ := Jvm.LawKit.callS X925 hx (y := (⟨"com/example/goodput/goodput/DeliveryModeNamedPinLaw", "at", "(Ljava/lang/String;IIC)C"⟩ : MethodName)) hown (mvT hZ (w_11 hw)) (mvT hZ (w_12 hw)) (mvT hZ (w_13 hw)) (mvT hZ (w_14 hw)) (by decide) (backOf (W := 5) (rm1 l Z a0 hw [] b7 (3 : Int32) v2 v3 bb7 own_q cs u1 h925 n0 z929 f931 f932 f933 f934 f935 f936 (show 0 ≤ (3 : Int32).toInt by decide) hcc (show own_q.length < 1000 by decide) hcs hu) hZ (w_14 hw) (w_13 hw) (by decide) (by decide)) (g := (mkF m 688 #[.val (.int arg0), .val (.int arg1), .val (.int arg2), .val (.int v1), .val (.int v2), .val (.int v3), .val (.ref b4), .val (.ref b7), .unset, .unset, .unset] [(.int v3), (.int v2), (.int (3 : Int32)), (.ref b7), (.int (3 : Int32)), (.ref b878), (.ref b878), (.ref b863), (.ref b863)])) rfl (by rw [hml]; rfl) (argsL := [(.ref b7), (.int (3 : Int32)), (.int v2), (.int v3)]) (rest := [(.int (3 : Int32)), (.ref b878), (.ref b878), (.ref b863), (.ref b863)]) (lenOf own_pd20 rfl) rfl (by show 2 * 0 + _ ≤ _; exact Nat.le_of_eq rfl) (hb hby at_688) (fun _ _ => ⟨rfl, e925, (by decide : 6 + 0 ≤ _), (by decide : 87 + 0 ≤ _)⟩)
                dsimp only [Pt.U, Pt.locs, Pt.cells, Pt.slots] at X937 l937 y937_ z937_ st937 hQ937
                subst l937 y937_ z937_
                obtain ⟨zc_937, rfl, N937q, e937q, r937_0⟩ := hQ937
                have N937 := Fr.app n930 N937q
                refine own_stW (B := T937.setTop (mkF m 691 #[.val (.int arg0), .val (.int arg1), .val (.int arg2), .val (.int v1), .val (.int v2), .val (.int v3), .val (.ref b4), .val (.ref b7), .unset, .unset, .unset] [(.int zc_937), (.int (3 : Int32)), (.ref b878), (.ref b878), (.ref b863), (.ref b863)])) (fun t k => st937 t k) ?_
                obtain ⟨T938, h938, X938, e938, W938, A938, st938⟩ := own_stC X937 hx hZ e937q f925_ (j := (3 : Int32)) (x := zc_937) (i := 3) (by decide) (show 3 < 11 from by decide) (g := (mkF m 691 #[.val (.int arg0), .val (.int arg1), .val (.int arg2), .val (.int v1), .val (.int v2), .val (.int v3), .val (.ref b4), .val (.ref b7), .unset, .unset, .unset] [(.int zc_937), (.int (3 : Int32)), (.ref b878), (.ref b878), (.ref b863), (.ref b863)])) rfl rfl (hb hby at_691)
                have f938_ : own_A Z h938 b878 .char [(.int (zc_899.toUInt32.toUInt16.toUInt32.toInt32)), (.int (zc_911.toUInt32.toUInt16.toUInt32.toInt32)), (.int (zc_924.toUInt32.toUInt16.toUInt32.toInt32)), (.int (zc_937.toUInt32.toUInt16.toUInt32.toInt32)), (.int (0 : Int32)), (.int (0 : Int32)), (.int (0 : Int32)), (.int (0 : Int32)), (.int (0 : Int32)), (.int (0 : Int32)), (.int (0 : Int32))] := A938
                have f940 : Exa Z h925 b878 "[C" := (f927.wr W925)
                have ch939 := ch926.trans (CHr.wr W938 (Safe.exa hZ.alike f940 (by decide) (by decide)) ch926.1)
                have sf941 := Safe.wr W938 (Safe.exa hZ.alike f940 (by decide) (by decide)) ch926.1 sf928
                have hk939 := Nat.le_trans hk926 (Keep.of_wr W938).1
                have z942 : n0 ≤ h938.size := Nat.le_trans z929 (Keep.of_wr W938).1
                have n943 := Fr.snoc X938 N937 u878
                refine own_stW (B := T938.setTop (mkF m 692 #[.val (.int arg0), .val (.int arg1), .val (.int arg2), .val (.int v1), .val (.int v2), .val (.int v3), .val (.ref b4), .val (.ref b7), .unset, .unset, .unset] [(.ref b878), (.ref b863), (.ref b863)])) (fun t k => st938 t k) ?_
                refine own_stW (B := T938.setTop (mkF m 693 #[.val (.int arg0), .val (.int arg1), .val (.int arg2), .val (.int v1), .val (.int v2), .val (.int v3), .val (.ref b4), .val (.ref b7), .unset, .unset, .unset] [(.ref b878), (.ref b878), (.ref b863), (.ref b863)])) (fun t k => XS.dup X938.here hx rfl (hb hby at_692) rfl rfl k) ?_
                refine own_stW (B := T938.setTop (mkF m 694 #[.val (.int arg0), .val (.int arg1), .val (.int arg2), .val (.int v1), .val (.int v2), .val (.int v3), .val (.ref b4), .val (.ref b7), .unset, .unset, .unset] [(.int (4 : Int32)), (.ref b878), (.ref b878), (.ref b863), (.ref b863)])) (fun t k => XS.iconst X938.here hx rfl (hb hby at_693) k) ?_
                refine own_stW (B := T938.setTop (mkF m 696 #[.val (.int arg0), .val (.int arg1), .val (.int arg2), .val (.int v1), .val (.int v2), .val (.int v3), .val (.ref b4), .val (.ref b7), .unset, .unset, .unset] [(.ref b7), (.int (4 : Int32)), (.ref b878), (.ref b878), (.ref b863), (.ref b863)])) (fun t k => XS.aload X938.here hx rfl (hb hby at_694) rfl rfl k) ?_
                refine own_stW (B := T938.setTop (mkF m 697 #[.val (.int arg0), .val (.int arg1), .val (.int arg2), .val (.int v1), .val (.int v2), .val (.int v3), .val (.ref b4), .val (.ref b7), .unset, .unset, .unset] [(.int (4 : Int32)), (.ref b7), (.int (4 : Int32)), (.ref b878), (.ref b878), (.ref b863), (.ref b863)])) (fun t k => XS.iconst X938.here hx rfl (hb hby at_696) k) ?_
                refine own_stW (B := T938.setTop (mkF m 699 #[.val (.int arg0), .val (.int arg1), .val (.int arg2), .val (.int v1), .val (.int v2), .val (.int v3), .val (.ref b4), .val (.ref b7), .unset, .unset, .unset] [(.int v2), (.int (4 : Int32)), (.ref b7), (.int (4 : Int32)), (.ref b878), (.ref b878), (.ref b863), (.ref b863)])) (fun t k => XS.iload X938.here hx rfl (hb hby at_697) rfl k) ?_
                refine own_stW (B := T938.setTop (mkF m 701 #[.val (.int arg0), .val (.int arg1), .val (.int arg2), .val (.int v1), .val (.int v2), .val (.int v3), .val (.ref b4), .val (.ref b7), .unset, .unset, .unset] [(.int v3), (.int v2), (.int (4 : Int32)), (.ref b7), (.int (4 : Int32)), (.ref b878), (.ref b878), (.ref b863), (.ref b863)])) (fun t k => XS.iload X938.here hx rfl (hb hby at_699) rfl k) ?_
                have f944 : Exa Z h938 b7 "java/lang/String" := (f931.wr W938)
                have f945 : Fld Z h938 b7 "java/lang/String" "coder" "B" (.int (0 : Int32)) := (f932.other W938 (Or.inl q878_b7))
                have f946 : Fld Z h938 b7 "java/lang/String" "value" "[B" (.ref bb7) := (f933.other W938 (Or.inl q878_b7))
                have f947 : own_A Z h938 bb7 .byte (own_q.map Value.int) := (f934.other W938 q878_bb7)
                have f948 : Sta Z h938 "java/lang/String" "COMPACT_STRINGS" "Z" (.int cs) := (f935.wr W938)
                have f949 : Sta Z h938 "jdk/internal/util/Preconditions" "SIOOBE_FORMATTER" "Ljava/util/function/BiFunction;" u1 := (f936.wr W938)
                obtain ⟨_, _, ⟨T950, L950, k950, j950⟩, -, X950, ⟨Lc950, hQ950, l950, y950_, z950_⟩, st950⟩ := Jvm.LawKit.callS X938 hx (y := (⟨"com/example/goodput/goodput/DeliveryModeNamedPinLaw", "at", "(Ljava/lang/String;IIC)C"⟩ : MethodName)) hown (mvT hZ (w_11 hw)) (mvT hZ (w_12 hw)) (mvT hZ (w_13 hw)) (mvT hZ (w_14 hw)) (by decide) (backOf (W := 5) (rm1 l Z a0 hw [] b7 (4 : Int32) v2 v3 bb7 own_q cs u1 h938 n0 z942 f944 f945 f946 f947 f948 f949 (show 0 ≤ (4 : Int32).toInt by decide) hcc (show own_q.length < 1000 by decide) hcs hu) hZ (w_14 hw) (w_13 hw) (by decide) (by decide)) (g := (mkF m 701 #[.val (.int arg0), .val (.int arg1), .val (.int arg2), .val (.int v1), .val (.int v2), .val (.int v3), .val (.ref b4), .val (.ref b7), .unset, .unset, .unset] [(.int v3), (.int v2), (.int (4 : Int32)), (.ref b7), (.int (4 : Int32)), (.ref b878), (.ref b878), (.ref b863), (.ref b863)])) rfl (by rw [hml]; rfl) (argsL := [(.ref b7), (.int (4 : Int32)), (.int v2), (.int v3)]) (rest := [(.int (4 : Int32)), (.ref b878), (.ref b878), (.ref b863), (.ref b863)]) (lenOf own_pd20 rfl) rfl (by show 2 * 0 + _ ≤ _; exact Nat.le_of_eq rfl) (hb hby at_701) (fun _ _ => ⟨rfl, e938, (by decide : 6 + 0 ≤ _), (by decide : 87 + 0 ≤ _)⟩)
                dsimp only [Pt.U, Pt.locs, Pt.cells, Pt.slots] at X950 l950 y950_ z950_ st950 hQ950
                subst l950 y950_ z950_
                obtain ⟨zc_950, rfl, N950q, e950q, r950_0⟩ := hQ950
                have N950 := Fr.app n943 N950q
                refine own_stW (B := T950.setTop (mkF m 704 #[.val (.int arg0), .val (.int arg1), .val (.int arg2), .val (.int v1), .val (.int v2), .val (.int v3), .val (.ref b4), .val (.ref b7), .unset, .unset, .unset] [(.int zc_950), (.int (4 : Int32)), (.ref b878), (.ref b878), (.ref b863), (.ref b863)])) (fun t k => st950 t k) ?_
                obtain ⟨T951, h951, X951, e951, W951, A951, st951⟩ := own_stC X950 hx hZ e950q f938_ (j := (4 : Int32)) (x := zc_950) (i := 4) (by decide) (show 4 < 11 from by decide) (g := (mkF m 704 #[.val (.int arg0), .val (.int arg1), .val (.int arg2), .val (.int v1), .val (.int v2), .val (.int v3), .val (.ref b4), .val (.ref b7), .unset, .unset, .unset] [(.int zc_950), (.int (4 : Int32)), (.ref b878), (.ref b878), (.ref b863), (.ref b863)])) rfl rfl (hb hby at_704)
                have f951_ : own_A Z h951 b878 .char [(.int (zc_899.toUInt32.toUInt16.toUInt32.toInt32)), (.int (zc_911.toUInt32.toUInt16.toUInt32.toInt32)), (.int (zc_924.toUInt32.toUInt16.toUInt32.toInt32)), (.int (zc_937.toUInt32.toUInt16.toUInt32.toInt32)), (.int (zc_950.toUInt32.toUInt16.toUInt32.toInt32)), (.int (0 : Int32)), (.int (0 : Int32)), (.int (0 : Int32)), (.int (0 : Int32)), (.int (0 : Int32)), (.int (0 : Int32))] := A951
                have f953 : Exa Z h938 b878 "[C" := (f940.wr W938)
                have ch952 := ch939.trans (CHr.wr W951 (Safe.exa hZ.alike f953 (by decide) (by decide)) ch939.1)
                have sf954 := Safe.wr W951 (Safe.exa hZ.alike f953 (by decide) (by decide)) ch939.1 sf941
                have hk952 := Nat.le_trans hk939 (Keep.of_wr W951).1
                have z955 : n0 ≤ h951.size := Nat.le_trans z942 (Keep.of_wr W951).1
                have n956 := Fr.snoc X951 N950 u878
                refine own_stW (B := T951.setTop (mkF m 705 #[.val (.int arg0), .val (.int arg1), .val (.int arg2), .val (.int v1), .val (.int v2), .val (.int v3), .val (.ref b4), .val (.ref b7), .unset, .unset, .unset] [(.ref b878), (.ref b863), (.ref b863)])) (fun t k => st951 t k) ?_
                refine own_stW (B := T951.setTop (mkF m 706 #[.val (.int arg0), .val (.int arg1), .val (.int arg2), .val (.int v1), .val (.int v2), .val (.int v3), .val (.ref b4), .val (.ref b7), .unset, .unset, .unset] [(.ref b878), (.ref b878), (.ref b863), (.ref b863)])) (fun t k => XS.dup X951.here hx rfl (hb hby at_705) rfl rfl k) ?_
                refine own_stW (B := T951.setTop (mkF m 707 #[.val (.int arg0), .val (.int arg1), .val (.int arg2), .val (.int v1), .val (.int v2), .val (.int v3), .val (.ref b4), .val (.ref b7), .unset, .unset, .unset] [(.int (5 : Int32)), (.ref b878), (.ref b878), (.ref b863), (.ref b863)])) (fun t k => XS.iconst X951.here hx rfl (hb hby at_706) k) ?_
                refine own_stW (B := T951.setTop (mkF m 709 #[.val (.int arg0), .val (.int arg1), .val (.int arg2), .val (.int v1), .val (.int v2), .val (.int v3), .val (.ref b4), .val (.ref b7), .unset, .unset, .unset] [(.ref b7), (.int (5 : Int32)), (.ref b878), (.ref b878), (.ref b863), (.ref b863)])) (fun t k => XS.aload X951.here hx rfl (hb hby at_707) rfl rfl k) ?_
                refine own_stW (B := T951.setTop (mkF m 710 #[.val (.int arg0), .val (.int arg1), .val (.int arg2), .val (.int v1), .val (.int v2), .val (.int v3), .val (.ref b4), .val (.ref b7), .unset, .unset, .unset] [(.int (5 : Int32)), (.ref b7), (.int (5 : Int32)), (.ref b878), (.ref b878), (.ref b863), (.ref b863)])) (fun t k => XS.iconst X951.here hx rfl (hb hby at_709) k) ?_
                refine own_stW (B := T951.setTop (mkF m 712 #[.val (.int arg0), .val (.int arg1), .val (.int arg2), .val (.int v1), .val (.int v2), .val (.int v3), .val (.ref b4), .val (.ref b7), .unset, .unset, .unset] [(.int v2), (.int (5 : Int32)), (.ref b7), (.int (5 : Int32)), (.ref b878), (.ref b878), (.ref b863), (.ref b863)])) (fun t k => XS.iload X951.here hx rfl (hb hby at_710) rfl k) ?_
                refine own_stW (B := T951.setTop (mkF m 714 #[.val (.int arg0), .val (.int arg1), .val (.int arg2), .val (.int v1), .val (.int v2), .val (.int v3), .val (.ref b4), .val (.ref b7), .unset, .unset, .unset] [(.int v3), (.int v2), (.int (5 : Int32)), (.ref b7), (.int (5 : Int32)), (.ref b878), (.ref b878), (.ref b863), (.ref b863)])) (fun t k => XS.iload X951.here hx rfl (hb hby at_712) rfl k) ?_
                have f957 : Exa Z h951 b7 "java/lang/String" := (f944.wr W951)
                have f958 : Fld Z h951 b7 "java/lang/String" "coder" "B" (.int (0 : Int32)) := (f945.other W951 (Or.inl q878_b7))
                have f959 : Fld Z h951 b7 "java/lang/String" "value" "[B" (.ref bb7) := (f946.other W951 (Or.inl q878_b7))
                have f960 : own_A Z h951 bb7 .byte (own_q.map Value.int) := (f947.other W951 q878_bb7)
                have f961 : Sta Z h951 "java/lang/String" "COMPACT_STRINGS" "Z" (.int cs) := (f948.wr W951)
                have f962 : Sta Z h951 "jdk/internal/util/Preconditions" "SIOOBE_FORMATTER" "Ljava/util/function/BiFunction;" u1 := (f949.wr W951)
                obtain ⟨_, _, ⟨T963, L963, k963, j963⟩, -, X963, ⟨Lc963, hQ963, l963, y963_, z963_⟩, st963⟩ := Jvm.LawKit.callS X951 hx (y := (⟨"com/example/goodput/goodput/DeliveryModeNamedPinLaw", "at", "(Ljava/lang/String;IIC)C"⟩ : MethodName)) hown (mvT hZ (w_11 hw)) (mvT hZ (w_12 hw)) (mvT hZ (w_13 hw)) (mvT hZ (w_14 hw)) (by decide) (backOf (W := 5) (rm1 l Z a0 hw [] b7 (5 : Int32) v2 v3 bb7 own_q cs u1 h951 n0 z955 f957 f958 f959 f960 f961 f962 (show 0 ≤ (5 : Int32).toInt by decide) hcc (show own_q.length < 1000 by decide) hcs hu) hZ (w_14 hw) (w_13 hw) (by decide) (by decide)) (g := (mkF m 714 #[.val (.int arg0), .val (.int arg1), .val (.int arg2), .val (.int v1), .val (.int v2), .val (.int v3), .val (.ref b4), .val (.ref b7), .unset, .unset, .unset] [(.int v3), (.int v2), (.int (5 : Int32)), (.ref b7), (.int (5 : Int32)), (.ref b878), (.ref b878), (.ref b863), (.ref b863)])) rfl (by rw [hml]; rfl) (argsL := [(.ref b7), (.int (5 : Int32)), (.int v2), (.int v3)]) (rest := [(.int (5 : Int32)), (.ref b878), (.ref b878), (.ref b863), (.ref b863)]) (lenOf own_pd20 rfl) rfl (by show 2 * 0 + _ ≤ _; exact Nat.le_of_eq rfl) (hb hby at_714) (fun _ _ => ⟨rfl, e951, (by decide : 6 + 0 ≤ _), (by decide : 87 + 0 ≤ _)⟩)
                dsimp only [Pt.U, Pt.locs, Pt.cells, Pt.slots] at X963 l963 y963_ z963_ st963 hQ963
                subst l963 y963_ z963_
                obtain ⟨zc_963, rfl, N963q, e963q, r963_0⟩ := hQ963
                have N963 := Fr.app n956 N963q
                refine own_stW (B := T963.setTop (mkF m 717 #[.val (.int arg0), .val (.int arg1), .val (.int arg2), .val (.int v1), .val (.int v2), .val (.int v3), .val (.ref b4), .val (.ref b7), .unset, .unset, .unset] [(.int zc_963), (.int (5 : Int32)), (.ref b878), (.ref b878), (.ref b863), (.ref b863)])) (fun t k => st963 t k) ?_
                obtain ⟨T964, h964, X964, e964, W964, A964, st964⟩ := own_stC X963 hx hZ e963q f951_ (j := (5 : Int32)) (x := zc_963) (i := 5) (by decide) (show 5 < 11 from by decide) (g := (mkF m 717 #[.val (.int arg0), .val (.int arg1), .val (.int arg2), .val (.int v1), .val (.int v2), .val (.int v3), .val (.ref b4), .val (.ref b7), .unset, .unset, .unset] [(.int zc_963), (.int (5 : Int32)), (.ref b878), (.ref b878), (.ref b863), (.ref b863)])) rfl rfl (hb hby at_717)
                have f964_ : own_A Z h964 b878 .char [(.int (zc_899.toUInt32.toUInt16.toUInt32.toInt32)), (.int (zc_911.toUInt32.toUInt16.toUInt32.toInt32)), (.int (zc_924.toUInt32.toUInt16.toUInt32.toInt32)), (.int (zc_937.toUInt32.toUInt16.toUInt32.toInt32)), (.int (zc_950.toUInt32.toUInt16.toUInt32.toInt32)), (.int (zc_963.toUInt32.toUInt16.toUInt32.toInt32)), (.int (0 : Int32)), (.int (0 : Int32)), (.int (0 : Int32)), (.int (0 : Int32)), (.int (0 : Int32))] := A964
                have f966 : Exa Z h951 b878 "[C" := (f953.wr W951)
                have ch965 := ch952.trans (CHr.wr W964 (Safe.exa hZ.alike f966 (by decide) (by decide)) ch952.1)
                have sf967 := Safe.wr W964 (Safe.exa hZ.alike f966 (by decide) (by decide)) ch952.1 sf954
                have hk965 := Nat.le_trans hk952 (Keep.of_wr W964).1
                have z968 : n0 ≤ h964.size := Nat.le_trans z955 (Keep.of_wr W964).1
                have n969 := Fr.snoc X964 N963 u878
                refine own_stW (B := T964.setTop (mkF m 718 #[.val (.int arg0), .val (.int arg1), .val (.int arg2), .val (.int v1), .val (.int v2), .val (.int v3), .val (.ref b4), .val (.ref b7), .unset, .unset, .unset] [(.ref b878), (.ref b863), (.ref b863)])) (fun t k => st964 t k) ?_
                refine own_stW (B := T964.setTop (mkF m 719 #[.val (.int arg0), .val (.int arg1), .val (.int arg2), .val (.int v1), .val (.int v2), .val (.int v3), .val (.ref b4), .val (.ref b7), .unset, .unset, .unset] [(.ref b878), (.ref b878), (.ref b863), (.ref b863)])) (fun t k => XS.dup X964.here hx rfl (hb hby at_718) rfl rfl k) ?_
                refine own_stW (B := T964.setTop (mkF m 721 #[.val (.int arg0), .val (.int arg1), .val (.int arg2), .val (.int v1), .val (.int v2), .val (.int v3), .val (.ref b4), .val (.ref b7), .unset, .unset, .unset] [(.int (6 : Int32)), (.ref b878), (.ref b878), (.ref b863), (.ref b863)])) (fun t k => XS.bipush X964.here hx rfl (hb hby at_719) k) ?_
                refine own_stW (B := T964.setTop (mkF m 723 #[.val (.int arg0), .val (.int arg1), .val (.int arg2), .val (.int v1), .val (.int v2), .val (.int v3), .val (.ref b4), .val (.ref b7), .unset, .unset, .unset] [(.ref b7), (.int (6 : Int32)), (.ref b878), (.ref b878), (.ref b863), (.ref b863)])) (fun t k => XS.aload X964.here hx rfl (hb hby at_721) rfl rfl k) ?_
                refine own_stW (B := T964.setTop (mkF m 725 #[.val (.int arg0), .val (.int arg1), .val (.int arg2), .val (.int v1), .val (.int v2), .val (.int v3), .val (.ref b4), .val (.ref b7), .unset, .unset, .unset] [(.int (6 : Int32)), (.ref b7), (.int (6 : Int32)), (.ref b878), (.ref b878), (.ref b863), (.ref b863)])) (fun t k => XS.bipush X964.here hx rfl (hb hby at_723) k) ?_
                refine own_stW (B := T964.setTop (mkF m 727 #[.val (.int arg0), .val (.int arg1), .val (.int arg2), .val (.int v1), .val (.int v2), .val (.int v3), .val (.ref b4), .val (.ref b7), .unset, .unset, .unset] [(.int v2), (.int (6 : Int32)), (.ref b7), (.int (6 : Int32)), (.ref b878), (.ref b878), (.ref b863), (.ref b863)])) (fun t k => XS.iload X964.here hx rfl (hb hby at_725) rfl k) ?_
                refine own_stW (B := T964.setTop (mkF m 729 #[.val (.int arg0), .val (.int arg1), .val (.int arg2), .val (.int v1), .val (.int v2), .val (.int v3), .val (.ref b4), .val (.ref b7), .unset, .unset, .unset] [(.int v3), (.int v2), (.int (6 : Int32)), (.ref b7), (.int (6 : Int32)), (.ref b878), (.ref b878), (.ref b863), (.ref b863)])) (fun t k => XS.iload X964.here hx rfl (hb hby at_727) rfl k) ?_
                have f970 : Exa Z h964 b7 "java/lang/String" := (f957.wr W964)
                have f971 : Fld Z h964 b7 "java/lang/String" "coder" "B" (.int (0 : Int32)) := (f958.other W964 (Or.inl q878_b7))
                have f972 : Fld Z h964 b7 "java/lang/String" "value" "[B" (.ref bb7) := (f959.other W964 (Or.inl q878_b7))
                have f973 : own_A Z h964 bb7 .byte (own_q.map Value.int) := (f960.other W964 q878_bb7)
                have f974 : Sta Z h964 "java/lang/String" "COMPACT_STRINGS" "Z" (.int cs) := (f961.wr W964)
                have f975 : Sta Z h964 "jdk/internal/util/Preconditions" "SIOOBE_FORMATTER" "Ljava/util/function/BiFunction;" u1 := (f962.wr W964)
                obtain ⟨_, _, ⟨T976, L976, k976, j976⟩, -, X976, ⟨Lc976, hQ976, l976, y976_, z976_⟩, st976⟩ := Jvm.LawKit.callS X964 hx (y := (⟨"com/example/goodput/goodput/DeliveryModeNamedPinLaw", "at", "(Ljava/lang/String;IIC)C"⟩ : MethodName)) hown (mvT hZ (w_11 hw)) (mvT hZ (w_12 hw)) (mvT hZ (w_13 hw)) (mvT hZ (w_14 hw)) (by decide) (backOf (W := 5) (rm1 l Z a0 hw [] b7 (6 : Int32) v2 v3 bb7 own_q cs u1 h964 n0 z968 f970 f971 f972 f973 f974 f975 (show 0 ≤ (6 : Int32).toInt by decide) hcc (show own_q.length < 1000 by decide) hcs hu) hZ (w_14 hw) (w_13 hw) (by decide) (by decide)) (g := (mkF m 729 #[.val (.int arg0), .val (.int arg1), .val (.int arg2), .val (.int v1), .val (.int v2), .val (.int v3), .val (.ref b4), .val (.ref b7), .unset, .unset, .unset] [(.int v3), (.int v2), (.int (6 : Int32)), (.ref b7), (.int (6 : Int32)), (.ref b878), (.ref b878), (.ref b863), (.ref b863)])) rfl (by rw [hml]; rfl) (argsL := [(.ref b7), (.int (6 : Int32)), (.int v2), (.int v3)]) (rest := [(.int (6 : Int32)), (.ref b878), (.ref b878), (.ref b863), (.ref b863)]) (lenOf own_pd20 rfl) rfl (by show 2 * 0 + _ ≤ _; exact Nat.le_of_eq rfl) (hb hby at_729) (fun _ _ => ⟨rfl, e964, (by decide : 6 + 0 ≤ _), (by decide : 87 + 0 ≤ _)⟩)
                dsimp only [Pt.U, Pt.locs, Pt.cells, Pt.slots] at X976 l976 y976_ z976_ st976 hQ976
                subst l976 y976_ z976_
                obtain ⟨zc_976, rfl, N976q, e976q, r976_0⟩ := hQ976
                have N976 := Fr.app n969 N976q
                refine own_stW (B := T976.setTop (mkF m 732 #[.val (.int arg0), .val (.int arg1), .val (.int arg2), .val (.int v1), .val (.int v2), .val (.int v3), .val (.ref b4), .val (.ref b7), .unset, .unset, .unset] [(.int zc_976), (.int (6 : Int32)), (.ref b878), (.ref b878), (.ref b863), (.ref b863)])) (fun t k => st976 t k) ?_
                obtain ⟨T977, h977, X977, e977, W977, A977, st977⟩ := own_stC X976 hx hZ e976q f964_ (j := (6 : Int32)) (x := zc_976) (i := 6) (by decide) (show 6 < 11 from by decide) (g := (mkF m 732 #[.val (.int arg0), .val (.int arg1), .val (.int arg2), .val (.int v1), .val (.int v2), .val (.int v3), .val (.ref b4), .val (.ref b7), .unset, .unset, .unset] [(.int zc_976), (.int (6 : Int32)), (.ref b878), (.ref b878), (.ref b863), (.ref b863)])) rfl rfl (hb hby at_732)
                have f977_ : own_A Z h977 b878 .char [(.int (zc_899.toUInt32.toUInt16.toUInt32.toInt32)), (.int (zc_911.toUInt32.toUInt16.toUInt32.toInt32)), (.int (zc_924.toUInt32.toUInt16.toUInt32.toInt32)), (.int (zc_937.toUInt32.toUInt16.toUInt32.toInt32)), (.int (zc_950.toUInt32.toUInt16.toUInt32.toInt32)), (.int (zc_963.toUInt32.toUInt16.toUInt32.toInt32)), (.int (zc_976.toUInt32.toUInt16.toUInt32.toInt32)), (.int (0 : Int32)), (.int (0 : Int32)), (.int (0 : Int32)), (.int (0 : Int32))] := by simpa only [List.set_cons_succ, List.set_cons_zero] using A977
                have f979 : Exa Z h964 b878 "[C" := (f966.wr W964)
                have ch978 := ch965.trans (CHr.wr W977 (Safe.exa hZ.alike f979 (by decide) (by decide)) ch965.1)
                have sf980 := Safe.wr W977 (Safe.exa hZ.alike f979 (by decide) (by decide)) ch965.1 sf967
                have hk978 := Nat.le_trans hk965 (Keep.of_wr W977).1
                have z981 : n0 ≤ h977.size := Nat.le_trans z968 (Keep.of_wr W977).1
                have n982 := Fr.snoc X977 N976 u878
                refine own_stW (B := T977.setTop (mkF m 733 #[.val (.int arg0), .val (.int arg1), .val (.int arg2), .val (.int v1), .val (.int v2), .val (.int v3), .val (.ref b4), .val (.ref b7), .unset, .unset, .unset] [(.ref b878), (.ref b863), (.ref b863)])) (fun t k => st977 t k) ?_
                refine own_stW (B := T977.setTop (mkF m 734 #[.val (.int arg0), .val (.int arg1), .val (.int arg2), .val (.int v1), .val (.int v2), .val (.int v3), .val (.ref b4), .val (.ref b7), .unset, .unset, .unset] [(.ref b878), (.ref b878), (.ref b863), (.ref b863)])) (fun t k => XS.dup X977.here hx rfl (hb hby at_733) rfl rfl k) ?_
                refine own_stW (B := T977.setTop (mkF m 736 #[.val (.int arg0), .val (.int arg1), .val (.int arg2), .val (.int v1), .val (.int v2), .val (.int v3), .val (.ref b4), .val (.ref b7), .unset, .unset, .unset] [(.int (7 : Int32)), (.ref b878), (.ref b878), (.ref b863), (.ref b863)])) (fun t k => XS.bipush X977.here hx rfl (hb hby at_734) k) ?_
                refine own_stW (B := T977.setTop (mkF m 738 #[.val (.int arg0), .val (.int arg1), .val (.int arg2), .val (.int v1), .val (.int v2), .val (.int v3), .val (.ref b4), .val (.ref b7), .unset, .unset, .unset] [(.ref b7), (.int (7 : Int32)), (.ref b878), (.ref b878), (.ref b863), (.ref b863)])) (fun t k => XS.aload X977.here hx rfl (hb hby at_736) rfl rfl k) ?_
                refine own_stW (B := T977.setTop (mkF m 740 #[.val (.int arg0), .val (.int arg1), .val (.int arg2), .val (.int v1), .val (.int v2), .val (.int v3), .val (.ref b4), .val (.ref b7), .unset, .unset, .unset] [(.int (7 : Int32)), (.ref b7), (.int (7 : Int32)), (.ref b878), (.ref b878), (.ref b863), (.ref b863)])) (fun t k => XS.bipush X977.here hx rfl (hb hby at_738) k) ?_
                refine own_stW (B := T977.setTop (mkF m 742 #[.val (.int arg0), .val (.int arg1), .val (.int arg2), .val (.int v1), .val (.int v2), .val (.int v3), .val (.ref b4), .val (.ref b7), .unset, .unset, .unset] [(.int v2), (.int (7 : Int32)), (.ref b7), (.int (7 : Int32)), (.ref b878), (.ref b878), (.ref b863), (.ref b863)])) (fun t k => XS.iload X977.here hx rfl (hb hby at_740) rfl k) ?_
                refine own_stW (B := T977.setTop (mkF m 744 #[.val (.int arg0), .val (.int arg1), .val (.int arg2), .val (.int v1), .val (.int v2), .val (.int v3), .val (.ref b4), .val (.ref b7), .unset, .unset, .unset] [(.int v3), (.int v2), (.int (7 : Int32)), (.ref b7), (.int (7 : Int32)), (.ref b878), (.ref b878), (.ref b863), (.ref b863)])) (fun t k => XS.iload X977.here hx rfl (hb hby at_742) rfl k) ?_
                have f983 : Exa Z h977 b7 "java/lang/String" := (f970.wr W977)
                have f984 : Fld Z h977 b7 "java/lang/String" "coder" "B" (.int (0 : Int32)) := (f971.other W977 (Or.inl q878_b7))
                have f985 : Fld Z h977 b7 "java/lang/String" "value" "[B" (.ref bb7) := (f972.other W977 (Or.inl q878_b7))
                have f986 : own_A Z h977 bb7 .byte (own_q.map Value.int) := (f973.other W977 q878_bb7)
                have f987 : Sta Z h977 "java/lang/String" "COMPACT_STRINGS" "Z" (.int cs) := (f974.wr W977)
                have f988 : Sta Z h977 "jdk/internal/util/Preconditions" "SIOOBE_FORMATTER" "Ljava/util/function/BiFunction;" u1 := (f975.wr W977)
                obtain ⟨_, _, ⟨T989, L989, k989, j989⟩, -, X989, ⟨Lc989, hQ989, l989, y989_, z989_⟩, st989⟩ := Jvm.LawKit.callS X977 hx (y := (⟨"com/example/goodput/goodput/DeliveryModeNamedPinLaw", "at", "(Ljava/lang/String;IIC)C"⟩ : MethodName)) hown (mvT hZ (w_11 hw)) (mvT hZ (w_12 hw)) (mvT hZ (w_13 hw)) (mvT hZ (w_14 hw)) (by decide) (backOf (W := 5) (rm1 l Z a0 hw [] b7 (7 : Int32) v2 v3 bb7 own_q cs u1 h977 n0 z981 f983 f984 f985 f986 f987 f988 (show 0 ≤ (7 : Int32).toInt by decide) hcc (show own_q.length < 1000 by decide) hcs hu) hZ (w_14 hw) (w_13 hw) (by decide) (by decide)) (g := (mkF m 744 #[.val (.int arg0), .val (.int arg1), .val (.int arg2), .val (.int v1), .val (.int v2), .val (.int v3), .val (.ref b4), .val (.ref b7), .unset, .unset, .unset] [(.int v3), (.int v2), (.int (7 : Int32)), (.ref b7), (.int (7 : Int32)), (.ref b878), (.ref b878), (.ref b863), (.ref b863)])) rfl (by rw [hml]; rfl) (argsL := [(.ref b7), (.int (7 : Int32)), (.int v2), (.int v3)]) (rest := [(.int (7 : Int32)), (.ref b878), (.ref b878), (.ref b863), (.ref b863)]) (lenOf own_pd20 rfl) rfl (by show 2 * 0 + _ ≤ _; exact Nat.le_of_eq rfl) (hb hby at_744) (fun _ _ => ⟨rfl, e977, (by decide : 6 + 0 ≤ _), (by decide : 87 + 0 ≤ _)⟩)
                dsimp only [Pt.U, Pt.locs, Pt.cells, Pt.slots] at X989 l989 y989_ z989_ st989 hQ989
                subst l989 y989_ z989_
                obtain ⟨zc_989, rfl, N989q, e989q, r989_0⟩ := hQ989
                have N989 := Fr.app n982 N989q
                refine own_stW (B := T989.setTop (mkF m 747 #[.val (.int arg0), .val (.int arg1), .val (.int arg2), .val (.int v1), .val (.int v2), .val (.int v3), .val (.ref b4), .val (.ref b7), .unset, .unset, .unset] [(.int zc_989), (.int (7 : Int32)), (.ref b878), (.ref b878), (.ref b863), (.ref b863)])) (fun t k => st989 t k) ?_
                obtain ⟨T990, h990, X990, e990, W990, A990, st990⟩ := own_stC X989 hx hZ e989q f977_ (j := (7 : Int32)) (x := zc_989) (i := 7) (by decide) (show 7 < 11 from by decide) (g := (mkF m 747 #[.val (.int arg0), .val (.int arg1), .val (.int arg2), .val (.int v1), .val (.int v2), .val (.int v3), .val (.ref b4), .val (.ref b7), .unset, .unset, .unset] [(.int zc_989), (.int (7 : Int32)), (.ref b878), (.ref b878), (.ref b863), (.ref b863)])) rfl rfl (hb hby at_747)
                have f990_ : own_A Z h990 b878 .char [(.int (zc_899.toUInt32.toUInt16.toUInt32.toInt32)), (.int (zc_911.toUInt32.toUInt16.toUInt32.toInt32)), (.int (zc_924.toUInt32.toUInt16.toUInt32.toInt32)), (.int (zc_937.toUInt32.toUInt16.toUInt32.toInt32)), (.int (zc_950.toUInt32.toUInt16.toUInt32.toInt32)), (.int (zc_963.toUInt32.toUInt16.toUInt32.toInt32)), (.int (zc_976.toUInt32.toUInt16.toUInt32.toInt32)), (.int (zc_989.toUInt32.toUInt16.toUInt32.toInt32)), (.int (0 : Int32)), (.int (0 : Int32)), (.int (0 : Int32))] := by simpa only [List.set_cons_succ, List.set_cons_zero] using A990
                have f992 : Exa Z h977 b878 "[C" := (f979.wr W977)
                have ch991 := ch978.trans (CHr.wr W990 (Safe.exa hZ.alike f992 (by decide) (by decide)) ch978.1)
                have sf993 := Safe.wr W990 (Safe.exa hZ.alike f992 (by decide) (by decide)) ch978.1 sf980
                have hk991 := Nat.le_trans hk978 (Keep.of_wr W990).1
                have z994 : n0 ≤ h990.size := Nat.le_trans z981 (Keep.of_wr W990).1
                have n995 := Fr.snoc X990 N989 u878
                refine own_stW (B := T990.setTop (mkF m 748 #[.val (.int arg0), .val (.int arg1), .val (.int arg2), .val (.int v1), .val (.int v2), .val (.int v3), .val (.ref b4), .val (.ref b7), .unset, .unset, .unset] [(.ref b878), (.ref b863), (.ref b863)])) (fun t k => st990 t k) ?_
                refine own_stW (B := T990.setTop (mkF m 749 #[.val (.int arg0), .val (.int arg1), .val (.int arg2), .val (.int v1), .val (.int v2), .val (.int v3), .val (.ref b4), .val (.ref b7), .unset, .unset, .unset] [(.ref b878), (.ref b878), (.ref b863), (.ref b863)])) (fun t k => XS.dup X990.here hx rfl (hb hby at_748) rfl rfl k) ?_
                refine own_stW (B := T990.setTop (mkF m 751 #[.val (.int arg0), .val (.int arg1), .val (.int arg2), .val (.int v1), .val (.int v2), .val (.int v3), .val (.ref b4), .val (.ref b7), .unset, .unset, .unset] [(.int (8 : Int32)), (.ref b878), (.ref b878), (.ref b863), (.ref b863)])) (fun t k => XS.bipush X990.here hx rfl (hb hby at_749) k) ?_
                refine own_stW (B := T990.setTop (mkF m 753 #[.val (.int arg0), .val (.int arg1), .val (.int arg2), .val (.int v1), .val (.int v2), .val (.int v3), .val (.ref b4), .val (.ref b7), .unset, .unset, .unset] [(.ref b7), (.int (8 : Int32)), (.ref b878), (.ref b878), (.ref b863), (.ref b863)])) (fun t k => XS.aload X990.here hx rfl (hb hby at_751) rfl rfl k) ?_
                refine own_stW (B := T990.setTop (mkF m 755 #[.val (.int arg0), .val (.int arg1), .val (.int arg2), .val (.int v1), .val (.int v2), .val (.int v3), .val (.ref b4), .val (.ref b7), .unset, .unset, .unset] [(.int (8 : Int32)), (.ref b7), (.int (8 : Int32)), (.ref b878), (.ref b878), (.ref b863), (.ref b863)])) (fun t k => XS.bipush X990.here hx rfl (hb hby at_753) k) ?_
                refine own_stW (B := T990.setTop (mkF m 757 #[.val (.int arg0), .val (.int arg1), .val (.int arg2), .val (.int v1), .val (.int v2), .val (.int v3), .val (.ref b4), .val (.ref b7), .unset, .unset, .unset] [(.int v2), (.int (8 : Int32)), (.ref b7), (.int (8 : Int32)), (.ref b878), (.ref b878), (.ref b863), (.ref b863)])) (fun t k => XS.iload X990.here hx rfl (hb hby at_755) rfl k) ?_
                refine own_stW (B := T990.setTop (mkF m 759 #[.val (.int arg0), .val (.int arg1), .val (.int arg2), .val (.int v1), .val (.int v2), .val (.int v3), .val (.ref b4), .val (.ref b7), .unset, .unset, .unset] [(.int v3), (.int v2), (.int (8 : Int32)), (.ref b7), (.int (8 : Int32)), (.ref b878), (.ref b878), (.ref b863), (.ref b863)])) (fun t k => XS.iload X990.here hx rfl (hb hby at_757) rfl k) ?_
                have f996 : Exa Z h990 b7 "java/lang/String" := (f983.wr W990)
                have f997 : Fld Z h990 b7 "java/lang/String" "coder" "B" (.int (0 : Int32)) := (f984.other W990 (Or.inl q878_b7))
                have f998 : Fld Z h990 b7 "java/lang/String" "value" "[B" (.ref bb7) := (f985.other W990 (Or.inl q878_b7))
                have f999 : own_A Z h990 bb7 .byte (own_q.map Value.int) := (f986.other W990 q878_bb7)
                have f1000 : Sta Z h990 "java/lang/String" "COMPACT_STRINGS" "Z" (.int cs) := (f987.wr W990)
                have f1001 : Sta Z h990 "jdk/internal/util/Preconditions" "SIOOBE_FORMATTER" "Ljava/util/function/BiFunction;" u1 := (f988.wr W990)
                obtain ⟨_, _, ⟨T1002, L1002, k1002, j1002⟩, -, X1002, ⟨Lc1002, hQ1002, l1002, y1002_, z1002_⟩, st1002⟩ := Jvm.LawKit.callS X990 hx (y := (⟨"com/example/goodput/goodput/DeliveryModeNamedPinLaw", "at", "(Ljava/lang/String;IIC)C"⟩ : MethodName)) hown (mvT hZ (w_11 hw)) (mvT hZ (w_12 hw)) (mvT hZ (w_13 hw)) (mvT hZ (w_14 hw)) (by decide) (backOf (W := 5) (rm1 l Z a0 hw [] b7 (8 : Int32) v2 v3 bb7 own_q cs u1 h990 n0 z994 f996 f997 f998 f999 f1000 f1001 (show 0 ≤ (8 : Int32).toInt by decide) hcc (show own_q.length < 1000 by decide) hcs hu) hZ (w_14 hw) (w_13 hw) (by decide) (by decide)) (g := (mkF m 759 #[.val (.int arg0), .val (.int arg1), .val (.int arg2), .val (.int v1), .val (.int v2), .val (.int v3), .val (.ref b4), .val (.ref b7), .unset, .unset, .unset] [(.int v3), (.int v2), (.int (8 : Int32)), (.ref b7), (.int (8 : Int32)), (.ref b878), (.ref b878), (.ref b863), (.ref b863)])) rfl (by rw [hml]; rfl) (argsL := [(.ref b7), (.int (8 : Int32)), (.int v2), (.int v3)]) (rest := [(.int (8 : Int32)), (.ref b878), (.ref b878), (.ref b863), (.ref b863)]) (lenOf own_pd20 rfl) rfl (by show 2 * 0 + _ ≤ _; exact Nat.le_of_eq rfl) (hb hby at_759) (fun _ _ => ⟨rfl, e990, (by decide : 6 + 0 ≤ _), (by decide : 87 + 0 ≤ _)⟩)
                dsimp only [Pt.U, Pt.locs, Pt.cells, Pt.slots] at X1002 l1002 y1002_ z1002_ st1002 hQ1002
                subst l1002 y1002_ z1002_
                obtain ⟨zc_1002, rfl, N1002q, e1002q, r1002_0⟩ := hQ1002
                have N1002 := Fr.app n995 N1002q
                refine own_stW (B := T1002.setTop (mkF m 762 #[.val (.int arg0), .val (.int arg1), .val (.int arg2), .val (.int v1), .val (.int v2), .val (.int v3), .val (.ref b4), .val (.ref b7), .unset, .unset, .unset] [(.int zc_1002), (.int (8 : Int32)), (.ref b878), (.ref b878), (.ref b863), (.ref b863)])) (fun t k => st1002 t k) ?_
                obtain ⟨T1003, h1003, X1003, e1003, W1003, A1003, st1003⟩ := own_stC X1002 hx hZ e1002q f990_ (j := (8 : Int32)) (x := zc_1002) (i := 8) (by decide) (show 8 < 11 from by decide) (g := (mkF m 762 #[.val (.int arg0), .val (.int arg1), .val (.int arg2), .val (.int v1), .val (.int v2), .val (.int v3), .val (.ref b4), .val (.ref b7), .unset, .unset, .unset] [(.int zc_1002), (.int (8 : Int32)), (.ref b878), (.ref b878), (.ref b863), (.ref b863)])) rfl rfl (hb hby at_762)
                have f1003_ : own_A Z h1003 b878 .char [(.int (zc_899.toUInt32.toUInt16.toUInt32.toInt32)), (.int (zc_911.toUInt32.toUInt16.toUInt32.toInt32)), (.int (zc_924.toUInt32.toUInt16.toUInt32.toInt32)), (.int (zc_937.toUInt32.toUInt16.toUInt32.toInt32)), (.int (zc_950.toUInt32.toUInt16.toUInt32.toInt32)), (.int (zc_963.toUInt32.toUInt16.toUInt32.toInt32)), (.int (zc_976.toUInt32.toUInt16.toUInt32.toInt32)), (.int (zc_989.toUInt32.toUInt16.toUInt32.toInt32)), (.int (zc_1002.toUInt32.toUInt16.toUInt32.toInt32)), (.int (0 : Int32)), (.int (0 : Int32))] := by simpa only [List.set_cons_succ, List.set_cons_zero] using A1003
                have f1005 : Exa Z h990 b878 "[C" := (f992.wr W990)
                have ch1004 := ch991.trans (CHr.wr W1003 (Safe.exa hZ.alike f1005 (by decide) (by decide)) ch991.1)
                have sf1006 := Safe.wr W1003 (Safe.exa hZ.alike f1005 (by decide) (by decide)) ch991.1 sf993
                have hk1004 := Nat.le_trans hk991 (Keep.of_wr W1003).1
                have z1007 : n0 ≤ h1003.size := Nat.le_trans z994 (Keep.of_wr W1003).1
                have n1008 := Fr.snoc X1003 N1002 u878
                refine own_stW (B := T1003.setTop (mkF m 763 #[.val (.int arg0), .val (.int arg1), .val (.int arg2), .val (.int v1), .val (.int v2), .val (.int v3), .val (.ref b4), .val (.ref b7), .unset, .unset, .unset] [(.ref b878), (.ref b863), (.ref b863)])) (fun t k => st1003 t k) ?_
                refine own_stW (B := T1003.setTop (mkF m 764 #[.val (.int arg0), .val (.int arg1), .val (.int arg2), .val (.int v1), .val (.int v2), .val (.int v3), .val (.ref b4), .val (.ref b7), .unset, .unset, .unset] [(.ref b878), (.ref b878), (.ref b863), (.ref b863)])) (fun t k => XS.dup X1003.here hx rfl (hb hby at_763) rfl rfl k) ?_
                refine own_stW (B := T1003.setTop (mkF m 766 #[.val (.int arg0), .val (.int arg1), .val (.int arg2), .val (.int v1), .val (.int v2), .val (.int v3), .val (.ref b4), .val (.ref b7), .unset, .unset, .unset] [(.int (9 : Int32)), (.ref b878), (.ref b878), (.ref b863), (.ref b863)])) (fun t k => XS.bipush X1003.here hx rfl (hb hby at_764) k) ?_
                refine own_stW (B := T1003.setTop (mkF m 768 #[.val (.int arg0), .val (.int arg1), .val (.int arg2), .val (.int v1), .val (.int v2), .val (.int v3), .val (.ref b4), .val (.ref b7), .unset, .unset, .unset] [(.ref b7), (.int (9 : Int32)), (.ref b878), (.ref b878), (.ref b863), (.ref b863)])) (fun t k => XS.aload X1003.here hx rfl (hb hby at_766) rfl rfl k) ?_
                refine own_stW (B := T1003.setTop (mkF m 770 #[.val (.int arg0), .val (.int arg1), .val (.int arg2), .val (.int v1), .val (.int v2), .val (.int v3), .val (.ref b4), .val (.ref b7), .unset, .unset, .unset] [(.int (9 : Int32)), (.ref b7), (.int (9 : Int32)), (.ref b878), (.ref b878), (.ref b863), (.ref b863)])) (fun t k => XS.bipush X1003.here hx rfl (hb hby at_768) k) ?_
                refine own_stW (B := T1003.setTop (mkF m 772 #[.val (.int arg0), .val (.int arg1), .val (.int arg2), .val (.int v1), .val (.int v2), .val (.int v3), .val (.ref b4), .val (.ref b7), .unset, .unset, .unset] [(.int v2), (.int (9 : Int32)), (.ref b7), (.int (9 : Int32)), (.ref b878), (.ref b878), (.ref b863), (.ref b863)])) (fun t k => XS.iload X1003.here hx rfl (hb hby at_770) rfl k) ?_
                refine own_stW (B := T1003.setTop (mkF m 774 #[.val (.int arg0), .val (.int arg1), .val (.int arg2), .val (.int v1), .val (.int v2), .val (.int v3), .val (.ref b4), .val (.ref b7), .unset, .unset, .unset] [(.int v3), (.int v2), (.int (9 : Int32)), (.ref b7), (.int (9 : Int32)), (.ref b878), (.ref b878), (.ref b863), (.ref b863)])) (fun t k => XS.iload X1003.here hx rfl (hb hby at_772) rfl k) ?_
                have f1009 : Exa Z h1003 b7 "java/lang/String" := (f996.wr W1003)
                have f1010 : Fld Z h1003 b7 "java/lang/String" "coder" "B" (.int (0 : Int32)) := (f997.other W1003 (Or.inl q878_b7))
                have f1011 : Fld Z h1003 b7 "java/lang/String" "value" "[B" (.ref bb7) := (f998.other W1003 (Or.inl q878_b7))
                have f1012 : own_A Z h1003 bb7 .byte (own_q.map Value.int) := (f999.other W1003 q878_bb7)
                have f1013 : Sta Z h1003 "java/lang/String" "COMPACT_STRINGS" "Z" (.int cs) := (f1000.wr W1003)
                have f1014 : Sta Z h1003 "jdk/internal/util/Preconditions" "SIOOBE_FORMATTER" "Ljava/util/function/BiFunction;" u1 := (f1001.wr W1003)
                obtain ⟨_, _, ⟨T1015, L1015, k1015, j1015⟩, -, X1015, ⟨Lc1015, hQ1015, l1015, y1015_, z1015_⟩, st1015⟩ := Jvm.LawKit.callS X1003 hx (y := (⟨"com/example/goodput/goodput/DeliveryModeNamedPinLaw", "at", "(Ljava/lang/String;IIC)C"⟩ : MethodName)) hown (mvT hZ (w_11 hw)) (mvT hZ (w_12 hw)) (mvT hZ (w_13 hw)) (mvT hZ (w_14 hw)) (by decide) (backOf (W := 5) (rm1 l Z a0 hw [] b7 (9 : Int32) v2 v3 bb7 own_q cs u1 h1003 n0 z1007 f1009 f1010 f1011 f1012 f1013 f1014 (show 0 ≤ (9 : Int32).toInt by decide) hcc (show own_q.length < 1000 by decide) hcs hu) hZ (w_14 hw) (w_13 hw) (by decide) (by decide)) (g := (mkF m 774 #[.val (.int arg0), .val (.int arg1), .val (.int arg2), .val (.int v1), .val (.int v2), .val (.int v3), .val (.ref b4), .val (.ref b7), .unset, .unset, .unset] [(.int v3), (.int v2), (.int (9 : Int32)), (.ref b7), (.int (9 : Int32)), (.ref b878), (.ref b878), (.ref b863), (.ref b863)])) rfl (by rw [hml]; rfl) (argsL := [(.ref b7), (.int (9 : Int32)), (.int v2), (.int v3)]) (rest := [(.int (9 : Int32)), (.ref b878), (.ref b878), (.ref b863), (.ref b863)]) (lenOf own_pd20 rfl) rfl (by show 2 * 0 + _ ≤ _; exact Nat.le_of_eq rfl) (hb hby at_774) (fun _ _ => ⟨rfl, e1003, (by decide : 6 + 0 ≤ _), (by decide : 87 + 0 ≤ _)⟩)
                dsimp only [Pt.U, Pt.locs, Pt.cells, Pt.slots] at X1015 l1015 y1015_ z1015_ st1015 hQ1015
                subst l1015 y1015_ z1015_
                obtain ⟨zc_1015, rfl, N1015q, e1015q, r1015_0⟩ := hQ1015
                have N1015 := Fr.app n1008 N1015q
                refine own_stW (B := T1015.setTop (mkF m 777 #[.val (.int arg0), .val (.int arg1), .val (.int arg2), .val (.int v1), .val (.int v2), .val (.int v3), .val (.ref b4), .val (.ref b7), .unset, .unset, .unset] [(.int zc_1015), (.int (9 : Int32)), (.ref b878), (.ref b878), (.ref b863), (.ref b863)])) (fun t k => st1015 t k) ?_
                obtain ⟨T1016, h1016, X1016, e1016, W1016, A1016, st1016⟩ := own_stC X1015 hx hZ e1015q f1003_ (j := (9 : Int32)) (x := zc_1015) (i := 9) (by decide) (show 9 < 11 from by decide) (g := (mkF m 777 #[.val (.int arg0), .val (.int arg1), .val (.int arg2), .val (.int v1), .val (.int v2), .val (.int v3), .val (.ref b4), .val (.ref b7), .unset, .unset, .unset] [(.int zc_1015), (.int (9 : Int32)), (.ref b878), (.ref b878), (.ref b863), (.ref b863)])) rfl rfl (hb hby at_777)
                have f1016_ : own_A Z h1016 b878 .char [(.int (zc_899.toUInt32.toUInt16.toUInt32.toInt32)), (.int (zc_911.toUInt32.toUInt16.toUInt32.toInt32)), (.int (zc_924.toUInt32.toUInt16.toUInt32.toInt32)), (.int (zc_937.toUInt32.toUInt16.toUInt32.toInt32)), (.int (zc_950.toUInt32.toUInt16.toUInt32.toInt32)), (.int (zc_963.toUInt32.toUInt16.toUInt32.toInt32)), (.int (zc_976.toUInt32.toUInt16.toUInt32.toInt32)), (.int (zc_989.toUInt32.toUInt16.toUInt32.toInt32)), (.int (zc_1002.toUInt32.toUInt16.toUInt32.toInt32)), (.int (zc_1015.toUInt32.toUInt16.toUInt32.toInt32)), (.int (0 : Int32))] := by simpa only [List.set_cons_succ, List.set_cons_zero] using A1016
                have f1018 : Exa Z h1003 b878 "[C" := (f1005.wr W1003)
                have ch1017 := ch1004.trans (CHr.wr W1016 (Safe.exa hZ.alike f1018 (by decide) (by decide)) ch1004.1)
                have sf1019 := Safe.wr W1016 (Safe.exa hZ.alike f1018 (by decide) (by decide)) ch1004.1 sf1006
                have hk1017 := Nat.le_trans hk1004 (Keep.of_wr W1016).1
                have z1020 : n0 ≤ h1016.size := Nat.le_trans z1007 (Keep.of_wr W1016).1
                have n1021 := Fr.snoc X1016 N1015 u878
                refine own_stW (B := T1016.setTop (mkF m 778 #[.val (.int arg0), .val (.int arg1), .val (.int arg2), .val (.int v1), .val (.int v2), .val (.int v3), .val (.ref b4), .val (.ref b7), .unset, .unset, .unset] [(.ref b878), (.ref b863), (.ref b863)])) (fun t k => st1016 t k) ?_
                refine own_stW (B := T1016.setTop (mkF m 779 #[.val (.int arg0), .val (.int arg1), .val (.int arg2), .val (.int v1), .val (.int v2), .val (.int v3), .val (.ref b4), .val (.ref b7), .unset, .unset, .unset] [(.ref b878), (.ref b878), (.ref b863), (.ref b863)])) (fun t k => XS.dup X1016.here hx rfl (hb hby at_778) rfl rfl k) ?_
                refine own_stW (B := T1016.setTop (mkF m 781 #[.val (.int arg0), .val (.int arg1), .val (.int arg2), .val (.int v1), .val (.int v2), .val (.int v3), .val (.ref b4), .val (.ref b7), .unset, .unset, .unset] [(.int (10 : Int32)), (.ref b878), (.ref b878), (.ref b863), (.ref b863)])) (fun t k => XS.bipush X1016.here hx rfl (hb hby at_779) k) ?_
                refine own_stW (B := T1016.setTop (mkF m 783 #[.val (.int arg0), .val (.int arg1), .val (.int arg2), .val (.int v1), .val (.int v2), .val (.int v3), .val (.ref b4), .val (.ref b7), .unset, .unset, .unset] [(.ref b7), (.int (10 : Int32)), (.ref b878), (.ref b878), (.ref b863), (.ref b863)])) (fun t k => XS.aload X1016.here hx rfl (hb hby at_781) rfl rfl k) ?_
                refine own_stW (B := T1016.setTop (mkF m 785 #[.val (.int arg0), .val (.int arg1), .val (.int arg2), .val (.int v1), .val (.int v2), .val (.int v3), .val (.ref b4), .val (.ref b7), .unset, .unset, .unset] [(.int (10 : Int32)), (.ref b7), (.int (10 : Int32)), (.ref b878), (.ref b878), (.ref b863), (.ref b863)])) (fun t k => XS.bipush X1016.here hx rfl (hb hby at_783) k) ?_
                refine own_stW (B := T1016.setTop (mkF m 787 #[.val (.int arg0), .val (.int arg1), .val (.int arg2), .val (.int v1), .val (.int v2), .val (.int v3), .val (.ref b4), .val (.ref b7), .unset, .unset, .unset] [(.int v2), (.int (10 : Int32)), (.ref b7), (.int (10 : Int32)), (.ref b878), (.ref b878), (.ref b863), (.ref b863)])) (fun t k => XS.iload X1016.here hx rfl (hb hby at_785) rfl k) ?_
                refine own_stW (B := T1016.setTop (mkF m 789 #[.val (.int arg0), .val (.int arg1), .val (.int arg2), .val (.int v1), .val (.int v2), .val (.int v3), .val (.ref b4), .val (.ref b7), .unset, .unset, .unset] [(.int v3), (.int v2), (.int (10 : Int32)), (.ref b7), (.int (10 : Int32)), (.ref b878), (.ref b878), (.ref b863), (.ref b863)])) (fun t k => XS.iload X1016.here hx rfl (hb hby at_787) rfl k) ?_
                have f1022 : Exa Z h1016 b7 "java/lang/String" := (f1009.wr W1016)
                have f1023 : Fld Z h1016 b7 "java/lang/String" "coder" "B" (.int (0 : Int32)) := (f1010.other W1016 (Or.inl q878_b7))
                have f1024 : Fld Z h1016 b7 "java/lang/String" "value" "[B" (.ref bb7) := (f1011.other W1016 (Or.inl q878_b7))
                have f1025 : own_A Z h1016 bb7 .byte (own_q.map Value.int) := (f1012.other W1016 q878_bb7)
                have f1026 : Sta Z h1016 "java/lang/String" "COMPACT_STRINGS" "Z" (.int cs) := (f1013.wr W1016)
                have f1027 : Sta Z h1016 "jdk/internal/util/Preconditions" "SIOOBE_FORMATTER" "Ljava/util/function/BiFunction;" u1 := (f1014.wr W1016)
                obtain ⟨_, _, ⟨T1028, L1028, k1028, j1028⟩, -, X1028, ⟨Lc1028, hQ1028, l1028, y1028_, z1028_⟩, st1028⟩ := Jvm.LawKit.callS X1016 hx (y := (⟨"com/example/goodput/goodput/DeliveryModeNamedPinLaw", "at", "(Ljava/lang/String;IIC)C"⟩ : MethodName)) hown (mvT hZ (w_11 hw)) (mvT hZ (w_12 hw)) (mvT hZ (w_13 hw)) (mvT hZ (w_14 hw)) (by decide) (backOf (W := 5) (rm1 l Z a0 hw [] b7 (10 : Int32) v2 v3 bb7 own_q cs u1 h1016 n0 z1020 f1022 f1023 f1024 f1025 f1026 f1027 (show 0 ≤ (10 : Int32).toInt by decide) hcc (show own_q.length < 1000 by decide) hcs hu) hZ (w_14 hw) (w_13 hw) (by decide) (by decide)) (g := (mkF m 789 #[.val (.int arg0), .val (.int arg1), .val (.int arg2), .val (.int v1), .val (.int v2), .val (.int v3), .val (.ref b4), .val (.ref b7), .unset, .unset, .unset] [(.int v3), (.int v2), (.int (10 : Int32)), (.ref b7), (.int (10 : Int32)), (.ref b878), (.ref b878), (.ref b863), (.ref b863)])) rfl (by rw [hml]; rfl) (argsL := [(.ref b7), (.int (10 : Int32)), (.int v2), (.int v3)]) (rest := [(.int (10 : Int32)), (.ref b878), (.ref b878), (.ref b863), (.ref b863)]) (lenOf own_pd20 rfl) rfl (by show 2 * 0 + _ ≤ _; exact Nat.le_of_eq rfl) (hb hby at_789) (fun _ _ => ⟨rfl, e1016, (by decide : 6 + 0 ≤ _), (by decide : 87 + 0 ≤ _)⟩)
                dsimp only [Pt.U, Pt.locs, Pt.cells, Pt.slots] at X1028 l1028 y1028_ z1028_ st1028 hQ1028
                subst l1028 y1028_ z1028_
                obtain ⟨zc_1028, rfl, N1028q, e1028q, r1028_0⟩ := hQ1028
                have N1028 := Fr.app n1021 N1028q
                refine own_stW (B := T1028.setTop (mkF m 792 #[.val (.int arg0), .val (.int arg1), .val (.int arg2), .val (.int v1), .val (.int v2), .val (.int v3), .val (.ref b4), .val (.ref b7), .unset, .unset, .unset] [(.int zc_1028), (.int (10 : Int32)), (.ref b878), (.ref b878), (.ref b863), (.ref b863)])) (fun t k => st1028 t k) ?_
                obtain ⟨T1029, h1029, X1029, e1029, W1029, A1029, st1029⟩ := own_stC X1028 hx hZ e1028q f1016_ (j := (10 : Int32)) (x := zc_1028) (i := 10) (by decide) (show 10 < 11 from by decide) (g := (mkF m 792 #[.val (.int arg0), .val (.int arg1), .val (.int arg2), .val (.int v1), .val (.int v2), .val (.int v3), .val (.ref b4), .val (.ref b7), .unset, .unset, .unset] [(.int zc_1028), (.int (10 : Int32)), (.ref b878), (.ref b878), (.ref b863), (.ref b863)])) rfl rfl (hb hby at_792)
                have f1029_ : own_A Z h1029 b878 .char [(.int (zc_899.toUInt32.toUInt16.toUInt32.toInt32)), (.int (zc_911.toUInt32.toUInt16.toUInt32.toInt32)), (.int (zc_924.toUInt32.toUInt16.toUInt32.toInt32)), (.int (zc_937.toUInt32.toUInt16.toUInt32.toInt32)), (.int (zc_950.toUInt32.toUInt16.toUInt32.toInt32)), (.int (zc_963.toUInt32.toUInt16.toUInt32.toInt32)), (.int (zc_976.toUInt32.toUInt16.toUInt32.toInt32)), (.int (zc_989.toUInt32.toUInt16.toUInt32.toInt32)), (.int (zc_1002.toUInt32.toUInt16.toUInt32.toInt32)), (.int (zc_1015.toUInt32.toUInt16.toUInt32.toInt32)), (.int (zc_1028.toUInt32.toUInt16.toUInt32.toInt32))] := by simpa only [List.set_cons_succ, List.set_cons_zero] using A1029
                have f1031 : Exa Z h1016 b878 "[C" := (f1018.wr W1016)
                have ch1030 := ch1017.trans (CHr.wr W1029 (Safe.exa hZ.alike f1031 (by decide) (by decide)) ch1017.1)
                have sf1032 := Safe.wr W1029 (Safe.exa hZ.alike f1031 (by decide) (by decide)) ch1017.1 sf1019
                have hk1030 := Nat.le_trans hk1017 (Keep.of_wr W1029).1
                have z1033 : n0 ≤ h1029.size := Nat.le_trans z1020 (Keep.of_wr W1029).1
                have n1034 := Fr.snoc X1029 N1028 u878
                refine own_stW (B := T1029.setTop (mkF m 793 #[.val (.int arg0), .val (.int arg1), .val (.int arg2), .val (.int v1), .val (.int v2), .val (.int v3), .val (.ref b4), .val (.ref b7), .unset, .unset, .unset] [(.ref b878), (.ref b863), (.ref b863)])) (fun t k => st1029 t k) ?_
                have hvb1035 : own_bnd ([(zc_899.toUInt32.toUInt16.toUInt32.toInt32), (zc_911.toUInt32.toUInt16.toUInt32.toInt32), (zc_924.toUInt32.toUInt16.toUInt32.toInt32), (zc_937.toUInt32.toUInt16.toUInt32.toInt32), (zc_950.toUInt32.toUInt16.toUInt32.toInt32), (zc_963.toUInt32.toUInt16.toUInt32.toInt32), (zc_976.toUInt32.toUInt16.toUInt32.toInt32), (zc_989.toUInt32.toUInt16.toUInt32.toInt32), (zc_1002.toUInt32.toUInt16.toUInt32.toInt32), (zc_1015.toUInt32.toUInt16.toUInt32.toInt32), (zc_1028.toUInt32.toUInt16.toUInt32.toInt32)] : List Int32) := (own_bndS (own_z255 r899_0) (own_bndS (own_z255 r911_0) (own_bndS (own_z255 r924_0) (own_bndS (own_z255 r937_0) (own_bndS (own_z255 r950_0) (own_bndS (own_z255 r963_0) (own_bndS (own_z255 r976_0) (own_bndS (own_z255 r989_0) (own_bndS (own_z255 r1002_0) (own_bndS (own_z255 r1015_0) (own_bndS (own_z255 r1028_0) own_bnd0)))))))))))
                have fv1035 : own_A Z h1029 b878 .char (([(zc_899.toUInt32.toUInt16.toUInt32.toInt32), (zc_911.toUInt32.toUInt16.toUInt32.toInt32), (zc_924.toUInt32.toUInt16.toUInt32.toInt32), (zc_937.toUInt32.toUInt16.toUInt32.toInt32), (zc_950.toUInt32.toUInt16.toUInt32.toInt32), (zc_963.toUInt32.toUInt16.toUInt32.toInt32), (zc_976.toUInt32.toUInt16.toUInt32.toInt32), (zc_989.toUInt32.toUInt16.toUInt32.toInt32), (zc_1002.toUInt32.toUInt16.toUInt32.toInt32), (zc_1015.toUInt32.toUInt16.toUInt32.toInt32), (zc_1028.toUInt32.toUInt16.toUInt32.toInt32)] : List Int32).map Value.int) := f1029_
                have f1036 : Exa Z h1029 b863 "java/lang/String" := ((((((((((((A863.ext E878).wr W900).wr W912).wr W925).wr W938).wr W951).wr W964).wr W977).wr W990).wr W1003).wr W1016).wr W1029)
                have f1037 : Fld Z h1029 b863 "java/lang/String" "value" "[B" .null := ((((((((((((f876.ext E878).other W900 (Or.inl q878_b863)).other W912 (Or.inl q878_b863)).other W925 (Or.inl q878_b863)).other W938 (Or.inl q878_b863)).other W951 (Or.inl q878_b863)).other W964 (Or.inl q878_b863)).other W977 (Or.inl q878_b863)).other W990 (Or.inl q878_b863)).other W1003 (Or.inl q878_b863)).other W1016 (Or.inl q878_b863)).other W1029 (Or.inl q878_b863))
                have f1038 : Fld Z h1029 b863 "java/lang/String" "coder" "B" (.int (0 : Int32)) := ((((((((((((f877.ext E878).other W900 (Or.inl q878_b863)).other W912 (Or.inl q878_b863)).other W925 (Or.inl q878_b863)).other W938 (Or.inl q878_b863)).other W951 (Or.inl q878_b863)).other W964 (Or.inl q878_b863)).other W977 (Or.inl q878_b863)).other W990 (Or.inl q878_b863)).other W1003 (Or.inl q878_b863)).other W1016 (Or.inl q878_b863)).other W1029 (Or.inl q878_b863))
                have f1039 : Sta Z h1029 "java/lang/String" "COMPACT_STRINGS" "Z" (.int cs) := (f1026.wr W1029)
                obtain ⟨_, _, ⟨T1040, L1040, k1040, j1040⟩, -, X1040, ⟨Lc1040, hQ1040, l1040, y1040_, z1040_⟩, st1040⟩ := X1029.specialBack hx (y := (⟨"java/lang/String", "<init>", "([C)V"⟩ : MethodName)) rfl hown (mvT hZ (w_50 hw)) (mvT hZ (w_51 hw)) (mvT hZ (w_52 hw)) (by decide) (backOf (W := 1) (rm9 l Z a0 hw [] b863 b878 cs ([(zc_899.toUInt32.toUInt16.toUInt32.toInt32), (zc_911.toUInt32.toUInt16.toUInt32.toInt32), (zc_924.toUInt32.toUInt16.toUInt32.toInt32), (zc_937.toUInt32.toUInt16.toUInt32.toInt32), (zc_950.toUInt32.toUInt16.toUInt32.toInt32), (zc_963.toUInt32.toUInt16.toUInt32.toInt32), (zc_976.toUInt32.toUInt16.toUInt32.toInt32), (zc_989.toUInt32.toUInt16.toUInt32.toInt32), (zc_1002.toUInt32.toUInt16.toUInt32.toInt32), (zc_1015.toUInt32.toUInt16.toUInt32.toInt32), (zc_1028.toUInt32.toUInt16.toUInt32.toInt32)] : List Int32) h1029 n0 z1033 f1036 f1037 f1038 fv1035 f1039 u863 hcs (show ¬ ((11 : Nat) = 0) from (by decide)) (show (11 : Nat) ≤ 16 from (by decide)) hvb1035) hZ (w_52 hw) (w_1 hw) (by decide) (by decide)) (g := (mkF m 793 #[.val (.int arg0), .val (.int arg1), .val (.int arg2), .val (.int v1), .val (.int v2), .val (.int v3), .val (.ref b4), .val (.ref b7), .unset, .unset, .unset] [(.ref b878), (.ref b863), (.ref b863)])) rfl (by rw [hml]; rfl) (Steps.refl _) (a := b863) (argsL := [(.ref b878)]) (rest := [(.ref b863)]) (lenOf own_pd21 rfl) rfl (by show 2 * 0 + _ ≤ _; exact Nat.le_of_eq rfl) (hb hby at_793) (fun _ _ => ⟨rfl, e1029, (by decide : 6 + 1 ≤ _), (by decide : 87 + 16 ≤ _)⟩)
                dsimp only [Pt.U, Pt.locs, Pt.cells, Pt.slots] at X1040 l1040 y1040_ z1040_ st1040 hQ1040
                subst l1040 y1040_ z1040_
                obtain ⟨b_1040, bs_1040, rfl, N1040q, K1040, u1040_b, y1040_b, p1040_0, p1040_1, p1040_2, p1040_3, r1040_0⟩ := hQ1040
                have N1040 := Fr.app n1034 N1040q
                have f1041 : Exa Z h1029 va "[Lcom/example/goodput/goodput/DeliveryMode;" := ((((((((((((f879.ext E878).wr W900).wr W912).wr W925).wr W938).wr W951).wr W964).wr W977).wr W990).wr W1003).wr W1016).wr W1029)
                have q1040_b_va : va ≠ b_1040 := Nat.ne_of_lt (Nat.lt_of_lt_of_le f1041.lt y1040_b)
                have f1042 : Fld Z h1029 r1 "com/example/goodput/goodput/DeliveryMode" "name" "Ljava/lang/String;" (.ref s1) := ((((((((((((f880.ext E878).other W900 (Or.inl q878_r1)).other W912 (Or.inl q878_r1)).other W925 (Or.inl q878_r1)).other W938 (Or.inl q878_r1)).other W951 (Or.inl q878_r1)).other W964 (Or.inl q878_r1)).other W977 (Or.inl q878_r1)).other W990 (Or.inl q878_r1)).other W1003 (Or.inl q878_r1)).other W1016 (Or.inl q878_r1)).other W1029 (Or.inl q878_r1))
                have q1040_b_r1 : r1 ≠ b_1040 := Nat.ne_of_lt (Nat.lt_of_lt_of_le f1042.lt y1040_b)
                have f1043 : Fld Z h1029 r2 "com/example/goodput/goodput/DeliveryMode" "name" "Ljava/lang/String;" (.ref s2) := ((((((((((((f881.ext E878).other W900 (Or.inl q878_r2)).other W912 (Or.inl q878_r2)).other W925 (Or.inl q878_r2)).other W938 (Or.inl q878_r2)).other W951 (Or.inl q878_r2)).other W964 (Or.inl q878_r2)).other W977 (Or.inl q878_r2)).other W990 (Or.inl q878_r2)).other W1003 (Or.inl q878_r2)).other W1016 (Or.inl q878_r2)).other W1029 (Or.inl q878_r2))
                have q1040_b_r2 : r2 ≠ b_1040 := Nat.ne_of_lt (Nat.lt_of_lt_of_le f1043.lt y1040_b)
                have f1044 : Exa Z h1029 s1 "java/lang/String" := ((((((((((((f882.ext E878).wr W900).wr W912).wr W925).wr W938).wr W951).wr W964).wr W977).wr W990).wr W1003).wr W1016).wr W1029)
                have q1040_b_s1 : s1 ≠ b_1040 := Nat.ne_of_lt (Nat.lt_of_lt_of_le f1044.lt y1040_b)
                have f1045 : Exa Z h1029 s2 "java/lang/String" := ((((((((((((f883.ext E878).wr W900).wr W912).wr W925).wr W938).wr W951).wr W964).wr W977).wr W990).wr W1003).wr W1016).wr W1029)
                have q1040_b_s2 : s2 ≠ b_1040 := Nat.ne_of_lt (Nat.lt_of_lt_of_le f1045.lt y1040_b)
                have f1046 : own_A Z h1029 d1 .byte (own_d.map Value.int) := ((((((((((((f884.ext E878).other W900 q878_d1).other W912 q878_d1).other W925 q878_d1).other W938 q878_d1).other W951 q878_d1).other W964 q878_d1).other W977 q878_d1).other W990 q878_d1).other W1003 q878_d1).other W1016 q878_d1).other W1029 q878_d1)
                have q1040_b_d1 : d1 ≠ b_1040 := Nat.ne_of_lt (Nat.lt_of_lt_of_le f1046.lt y1040_b)
                have f1047 : own_A Z h1029 d2 .byte (own_q.map Value.int) := ((((((((((((f885.ext E878).other W900 q878_d2).other W912 q878_d2).other W925 q878_d2).other W938 q878_d2).other W951 q878_d2).other W964 q878_d2).other W977 q878_d2).other W990 q878_d2).other W1003 q878_d2).other W1016 q878_d2).other W1029 q878_d2)
                have q1040_b_d2 : d2 ≠ b_1040 := Nat.ne_of_lt (Nat.lt_of_lt_of_le f1047.lt y1040_b)
                have f1048 : Exa Z h1029 b4 "java/lang/String" := ((((((((((((f886.ext E878).wr W900).wr W912).wr W925).wr W938).wr W951).wr W964).wr W977).wr W990).wr W1003).wr W1016).wr W1029)
                have q1040_b_b4 : b4 ≠ b_1040 := Nat.ne_of_lt (Nat.lt_of_lt_of_le f1048.lt y1040_b)
                have f1049 : own_A Z h1029 bb4 .byte (own_d.map Value.int) := ((((((((((((f887.ext E878).other W900 q878_bb4).other W912 q878_bb4).other W925 q878_bb4).other W938 q878_bb4).other W951 q878_bb4).other W964 q878_bb4).other W977 q878_bb4).other W990 q878_bb4).other W1003 q878_bb4).other W1016 q878_bb4).other W1029 q878_bb4)
                have q1040_b_bb4 : bb4 ≠ b_1040 := Nat.ne_of_lt (Nat.lt_of_lt_of_le f1049.lt y1040_b)
                have f1050 : Exa Z h1029 b7 "java/lang/String" := (f1022.wr W1029)
                have q1040_b_b7 : b7 ≠ b_1040 := Nat.ne_of_lt (Nat.lt_of_lt_of_le f1050.lt y1040_b)
                have f1051 : own_A Z h1029 bb7 .byte (own_q.map Value.int) := (f1025.other W1029 q878_bb7)
                have q1040_b_bb7 : bb7 ≠ b_1040 := Nat.ne_of_lt (Nat.lt_of_lt_of_le f1051.lt y1040_b)
                have q1040_b_b863 : b863 ≠ b_1040 := Nat.ne_of_lt (Nat.lt_of_lt_of_le f1036.lt y1040_b)
                have q1040_b_b878 : b878 ≠ b_1040 := Nat.ne_of_lt (Nat.lt_of_lt_of_le fv1035.lt y1040_b)
                have ch1052 := ch1030.trans (CHr.keep K1040 (allS sf1032 all0) ch1030.1)
                have sf1053 := Safe.keep K1040 (allS sf1032 all0) ch1030.1 sf1032
                have hk1052 := Nat.le_trans hk1030 K1040.1
                have z1054 : n0 ≤ T1040.heap.size := Nat.le_trans z1033 K1040.1
                refine own_ssW (B := T1040.setTop (mkF m 796 #[.val (.int arg0), .val (.int arg1), .val (.int arg2), .val (.int v1), .val (.int v2), .val (.int v3), .val (.ref b4), .val (.ref b7), .unset, .unset, .unset] [(.ref b863)])) st1040 ?_
                have hbl1040 : bs_1040.length < 1000 := by have h9 : bs_1040.length = 11 := r1040_0; omega
                refine own_stW (B := T1040.setTop (mkF m 798 #[.val (.int arg0), .val (.int arg1), .val (.int arg2), .val (.int v1), .val (.int v2), .val (.int v3), .val (.ref b4), .val (.ref b7), .val (.ref b863), .unset, .unset] [])) (fun t k => XS.astore X1040.here hx rfl (hb hby at_796) rfl rfl (l' := #[.val (.int arg0), .val (.int arg1), .val (.int arg2), .val (.int v1), .val (.int v2), .val (.int v3), .val (.ref b4), .val (.ref b7), .val (.ref b863), .unset, .unset]) rfl k) ?_
                refine own_stW (B := T1040.setTop (mkF m 825 #[.val (.int arg0), .val (.int arg1), .val (.int arg2), .val (.int v1), .val (.int v2), .val (.int v3), .val (.ref b4), .val (.ref b7), .val (.ref b863), .unset, .unset] [])) (fun t k => XS.goto X1040.here hx rfl (pc0 := 798) (pc' := 825) rfl (hb hby at_798) (by decide) (by decide) k) ?_
                have x10_ := X1040.more (cells' := 10) (slots' := 103) (by decide) (by decide)
                have f1055 : Sta Z T1040.heap "com/example/goodput/goodput/DeliveryMode" "$VALUES" "[Lcom/example/goodput/goodput/DeliveryMode;" (.ref va) := (own_Sta.keep (((((((((((((((F0.ext E4).ext E7).ext E863).ext E878).wr W900).wr W912).wr W925).wr W938).wr W951).wr W964).wr W977).wr W990).wr W1003).wr W1016).wr W1029) K1040 (show ∀ st ∈ [b863], ∀ cell : Cell, h1029[st]? = some cell → cell.vm.isStatics = false from (allS (own_plainE f1036) all0)))
                have f1056 : Exa Z T1040.heap va "[Lcom/example/goodput/goodput/DeliveryMode;" := (f1041.keep K1040)
                have f1057 : own_A Z T1040.heap va (.object "com/example/goodput/goodput/DeliveryMode") [(.ref r1), (.ref r2)] := ((((((((((((((((F2.ext E4).ext E7).ext E863).ext E878).other W900 q878_va).other W912 q878_va).other W925 q878_va).other W938 q878_va).other W951 q878_va).other W964 q878_va).other W977 q878_va).other W990 q878_va).other W1003 q878_va).other W1016 q878_va).other W1029 q878_va).keep K1040 (ninS q863_va nin0))
                have f1058 : Fld Z T1040.heap r1 "com/example/goodput/goodput/DeliveryMode" "name" "Ljava/lang/String;" (.ref s1) := (f1042.keep K1040 (ninS q863_r1 nin0))
                have f1059 : Fld Z T1040.heap r2 "com/example/goodput/goodput/DeliveryMode" "name" "Ljava/lang/String;" (.ref s2) := (f1043.keep K1040 (ninS q863_r2 nin0))
                have f1060 : Exa Z T1040.heap s1 "java/lang/String" := (f1044.keep K1040)
                have f1061 : Exa Z T1040.heap s2 "java/lang/String" := (f1045.keep K1040)
                have f1062 : Fld Z T1040.heap s1 "java/lang/String" "coder" "B" (.int (0 : Int32)) := ((((((((((((((((F7.ext E4).ext E7).ext E863).ext E878).other W900 (Or.inl q878_s1)).other W912 (Or.inl q878_s1)).other W925 (Or.inl q878_s1)).other W938 (Or.inl q878_s1)).other W951 (Or.inl q878_s1)).other W964 (Or.inl q878_s1)).other W977 (Or.inl q878_s1)).other W990 (Or.inl q878_s1)).other W1003 (Or.inl q878_s1)).other W1016 (Or.inl q878_s1)).other W1029 (Or.inl q878_s1)).keep K1040 (ninS q863_s1 nin0))
                have f1063 : Fld Z T1040.heap s1 "java/lang/String" "value" "[B" (.ref d1) := ((((((((((((((((F8.ext E4).ext E7).ext E863).ext E878).other W900 (Or.inl q878_s1)).other W912 (Or.inl q878_s1)).other W925 (Or.inl q878_s1)).other W938 (Or.inl q878_s1)).other W951 (Or.inl q878_s1)).other W964 (Or.inl q878_s1)).other W977 (Or.inl q878_s1)).other W990 (Or.inl q878_s1)).other W1003 (Or.inl q878_s1)).other W1016 (Or.inl q878_s1)).other W1029 (Or.inl q878_s1)).keep K1040 (ninS q863_s1 nin0))
                have f1064 : Fld Z T1040.heap s2 "java/lang/String" "coder" "B" (.int (0 : Int32)) := ((((((((((((((((F9.ext E4).ext E7).ext E863).ext E878).other W900 (Or.inl q878_s2)).other W912 (Or.inl q878_s2)).other W925 (Or.inl q878_s2)).other W938 (Or.inl q878_s2)).other W951 (Or.inl q878_s2)).other W964 (Or.inl q878_s2)).other W977 (Or.inl q878_s2)).other W990 (Or.inl q878_s2)).other W1003 (Or.inl q878_s2)).other W1016 (Or.inl q878_s2)).other W1029 (Or.inl q878_s2)).keep K1040 (ninS q863_s2 nin0))
                have f1065 : Fld Z T1040.heap s2 "java/lang/String" "value" "[B" (.ref d2) := ((((((((((((((((F10.ext E4).ext E7).ext E863).ext E878).other W900 (Or.inl q878_s2)).other W912 (Or.inl q878_s2)).other W925 (Or.inl q878_s2)).other W938 (Or.inl q878_s2)).other W951 (Or.inl q878_s2)).other W964 (Or.inl q878_s2)).other W977 (Or.inl q878_s2)).other W990 (Or.inl q878_s2)).other W1003 (Or.inl q878_s2)).other W1016 (Or.inl q878_s2)).other W1029 (Or.inl q878_s2)).keep K1040 (ninS q863_s2 nin0))
                have f1066 : own_A Z T1040.heap d1 .byte (own_d.map Value.int) := (f1046.keep K1040 (ninS q863_d1 nin0))
                have f1067 : own_A Z T1040.heap d2 .byte (own_q.map Value.int) := (f1047.keep K1040 (ninS q863_d2 nin0))
                have f1068 : Sta Z T1040.heap "com/example/goodput/goodput/DeliveryMode" "DIRECT" "Lcom/example/goodput/goodput/DeliveryMode;" (.ref r1) := (own_Sta.keep (((((((((((((((F13.ext E4).ext E7).ext E863).ext E878).wr W900).wr W912).wr W925).wr W938).wr W951).wr W964).wr W977).wr W990).wr W1003).wr W1016).wr W1029) K1040 (show ∀ st ∈ [b863], ∀ cell : Cell, h1029[st]? = some cell → cell.vm.isStatics = false from (allS (own_plainE f1036) all0)))
                have f1069 : Sta Z T1040.heap "com/example/goodput/goodput/DeliveryMode" "PERSISTENT" "Lcom/example/goodput/goodput/DeliveryMode;" (.ref r2) := (own_Sta.keep (((((((((((((((F14.ext E4).ext E7).ext E863).ext E878).wr W900).wr W912).wr W925).wr W938).wr W951).wr W964).wr W977).wr W990).wr W1003).wr W1016).wr W1029) K1040 (show ∀ st ∈ [b863], ∀ cell : Cell, h1029[st]? = some cell → cell.vm.isStatics = false from (allS (own_plainE f1036) all0)))
                have f1070 : Sta Z T1040.heap "java/lang/String" "COMPACT_STRINGS" "Z" (.int cs) := (own_Sta.keep f1039 K1040 (show ∀ st ∈ [b863], ∀ cell : Cell, h1029[st]? = some cell → cell.vm.isStatics = false from (allS (own_plainE f1036) all0)))
                have f1071 : Exa Z T1040.heap b4 "java/lang/String" := (f1048.keep K1040)
                have f1072 : Fld Z T1040.heap b4 "java/lang/String" "coder" "B" (.int (0 : Int32)) := (((((((((((((((C4.ext E7).ext E863).ext E878).other W900 (Or.inl q878_b4)).other W912 (Or.inl q878_b4)).other W925 (Or.inl q878_b4)).other W938 (Or.inl q878_b4)).other W951 (Or.inl q878_b4)).other W964 (Or.inl q878_b4)).other W977 (Or.inl q878_b4)).other W990 (Or.inl q878_b4)).other W1003 (Or.inl q878_b4)).other W1016 (Or.inl q878_b4)).other W1029 (Or.inl q878_b4)).keep K1040 (ninS q863_b4 nin0))
                have f1073 : Fld Z T1040.heap b4 "java/lang/String" "value" "[B" (.ref bb4) := (((((((((((((((V4.ext E7).ext E863).ext E878).other W900 (Or.inl q878_b4)).other W912 (Or.inl q878_b4)).other W925 (Or.inl q878_b4)).other W938 (Or.inl q878_b4)).other W951 (Or.inl q878_b4)).other W964 (Or.inl q878_b4)).other W977 (Or.inl q878_b4)).other W990 (Or.inl q878_b4)).other W1003 (Or.inl q878_b4)).other W1016 (Or.inl q878_b4)).other W1029 (Or.inl q878_b4)).keep K1040 (ninS q863_b4 nin0))
                have f1074 : own_A Z T1040.heap bb4 .byte (own_d.map Value.int) := (f1049.keep K1040 (ninS q863_bb4 nin0))
                have f1075 : Exa Z T1040.heap b7 "java/lang/String" := (f1050.keep K1040)
                have f1076 : Fld Z T1040.heap b7 "java/lang/String" "coder" "B" (.int (0 : Int32)) := ((f1023.other W1029 (Or.inl q878_b7)).keep K1040 (ninS q863_b7 nin0))
                have f1077 : Fld Z T1040.heap b7 "java/lang/String" "value" "[B" (.ref bb7) := ((f1024.other W1029 (Or.inl q878_b7)).keep K1040 (ninS q863_b7 nin0))
                have f1078 : own_A Z T1040.heap bb7 .byte (own_q.map Value.int) := (f1051.keep K1040 (ninS q863_bb7 nin0))
                exact J10 _ _ T1040 _ _ b863 b_1040 bs_1040 x10_ rfl N1040 z1054 hS7 hk1052 hZ hown ch1052 p1040_0 p1040_2 p1040_1 p1040_3 f1055 f1056 f1057 f1058 f1059 f1060 f1061 f1062 f1063 f1064 f1065 f1066 f1067 f1068 f1069 f1070 f1071 f1072 f1073 f1074 f1075 f1076 f1077 f1078 (show bs_1040.length < 1000 by exact hbl1040) (show s1 ≠ b863 by exact q863_s1) (show s2 ≠ b863 by exact q863_s2) (show b4 ≠ b863 by exact q863_b4) (show b7 ≠ b863 by exact q863_b7)
              · refine own_stW (B := T7.setTop (mkF m 801 #[.val (.int arg0), .val (.int arg1), .val (.int arg2), .val (.int v1), .val (.int v2), .val (.int v3), .val (.ref b4), .val (.ref b7), .unset, .unset, .unset] [])) (fun t k => XS.icmpYes X7.here hx rfl (pc0 := 629) (pc' := 801) rfl (hb hby at_629) rfl (XT.ii_ne_t hc862) (by decide) (by decide) k) ?_
                refine own_stW (B := T7.setTop (mkF m 802 #[.val (.int arg0), .val (.int arg1), .val (.int arg2), .val (.int v1), .val (.int v2), .val (.int v3), .val (.ref b4), .val (.ref b7), .unset, .unset, .unset] [(.int v1)])) (fun t k => XS.iloadN X7.here hx rfl (hb hby at_801) rfl k) ?_
                refine own_stW (B := T7.setTop (mkF m 804 #[.val (.int arg0), .val (.int arg1), .val (.int arg2), .val (.int v1), .val (.int v2), .val (.int v3), .val (.ref b4), .val (.ref b7), .unset, .unset, .unset] [(.int (6 : Int32)), (.int v1)])) (fun t k => XS.bipush X7.here hx rfl (hb hby at_802) k) ?_
                by_cases hc1079 : v1 = (6 : Int32)
                · refine own_stW (B := T7.setTop (mkF m 807 #[.val (.int arg0), .val (.int arg1), .val (.int arg2), .val (.int v1), .val (.int v2), .val (.int v3), .val (.ref b4), .val (.ref b7), .unset, .unset, .unset] [])) (fun t k => XS.icmpNo X7.here hx rfl (hb hby at_804) rfl (XT.ii_ne_f hc1079) k) ?_
                  refine own_stW (B := T7.setTop (mkF m 808 #[.val (.int arg0), .val (.int arg1), .val (.int arg2), .val (.int v1), .val (.int v2), .val (.int v3), .val (.ref b4), .val (.ref b7), .unset, .unset, .unset] [.null])) (fun t k => XS.aconstNull X7.here hx rfl (hb hby at_807) k) ?_
                  refine own_stW (B := T7.setTop (mkF m 810 #[.val (.int arg0), .val (.int arg1), .val (.int arg2), .val (.int v1), .val (.int v2), .val (.int v3), .val (.ref b4), .val (.ref b7), .val .null, .unset, .unset] [])) (fun t k => XS.astore X7.here hx rfl (hb hby at_808) rfl rfl (l' := #[.val (.int arg0), .val (.int arg1), .val (.int arg2), .val (.int v1), .val (.int v2), .val (.int v3), .val (.ref b4), .val (.ref b7), .val .null, .unset, .unset]) rfl k) ?_
                  refine own_stW (B := T7.setTop (mkF m 825 #[.val (.int arg0), .val (.int arg1), .val (.int arg2), .val (.int v1), .val (.int v2), .val (.int v3), .val (.ref b4), .val (.ref b7), .val .null, .unset, .unset] [])) (fun t k => XS.goto X7.here hx rfl (pc0 := 810) (pc' := 825) rfl (hb hby at_810) (by decide) (by decide) k) ?_
                  refine own_stW (B := T7.setTop (mkF m 827 #[.val (.int arg0), .val (.int arg1), .val (.int arg2), .val (.int v1), .val (.int v2), .val (.int v3), .val (.ref b4), .val (.ref b7), .val .null, .unset, .unset] [(.ref b4)])) (fun t k => XS.aload X7.here hx rfl (hb hby at_825) rfl rfl k) ?_
                  refine own_stW (B := T7.setTop (mkF m 829 #[.val (.int arg0), .val (.int arg1), .val (.int arg2), .val (.int v1), .val (.int v2), .val (.int v3), .val (.ref b4), .val (.ref b7), .val .null, .unset, .unset] [.null, (.ref b4)])) (fun t k => XS.aload X7.here hx rfl (hb hby at_827) rfl rfl k) ?_
                  have f1081 : Exa Z h7 b4 "java/lang/String" := (A4.ext E7)
                  obtain ⟨cq1080, kq1080, q1080a, q1080b, q1080c⟩ := isOf hZ e7 f1081
                  obtain ⟨_, _, ⟨T1080, L1080, k1080, j1080⟩, -, X1080, ⟨Lc1080, hQ1080, l1080, y1080_, z1080_⟩, st1080⟩ := X7.virtualBack hx (y := (⟨"java/lang/String", "equals", "(Ljava/lang/Object;)Z"⟩ : MethodName)) (z := (⟨"java/lang/String", "equals", "(Ljava/lang/Object;)Z"⟩ : MethodName)) hown (mvT hZ (w_70 hw)) (mvT hZ (w_71 hw)) (notFace_of_selects (args := #[]) (mvT hZ (w_73 hw))) (mvT hZ (w_73 hw)) (mvT hZ (w_72 hw)) (by decide) (backOf (W := 0) (rm15n l Z a0 hw [] b4 h7 n0 z9 ) hZ (w_74 hw) (w_1 hw) (by decide) (by decide)) q1080a q1080c (g := (mkF m 829 #[.val (.int arg0), .val (.int arg1), .val (.int arg2), .val (.int v1), .val (.int v2), .val (.int v3), .val (.ref b4), .val (.ref b7), .val .null, .unset, .unset] [.null, (.ref b4)])) rfl (by rw [hml]; rfl) (Steps.refl _) (argsL := [.null]) (rest := []) (lenOf own_pd19 rfl) rfl (by show 2 * 0 + _ ≤ _; exact Nat.le_of_eq rfl) (hb hby at_829) (fun _ _ => ⟨rfl, e7, (by decide : 4 + 0 ≤ _), (by decide : 72 + 0 ≤ _)⟩)
                  dsimp only [Pt.U, Pt.locs, Pt.cells, Pt.slots] at X1080 l1080 y1080_ z1080_ st1080 hQ1080
                  subst l1080 y1080_ z1080_
                  obtain ⟨rfl, N1080q, e1080q⟩ := hQ1080
                  have N1080 := Fr.app N0 N1080q
                  refine own_ssW (B := T1080.setTop (mkF m 832 #[.val (.int arg0), .val (.int arg1), .val (.int arg2), .val (.int v1), .val (.int v2), .val (.int v3), .val (.ref b4), .val (.ref b7), .val .null, .unset, .unset] [(.int (0 : Int32))])) st1080 ?_
                  refine own_stW (B := T1080.setTop (mkF m 843 #[.val (.int arg0), .val (.int arg1), .val (.int arg2), .val (.int v1), .val (.int v2), .val (.int v3), .val (.ref b4), .val (.ref b7), .val .null, .unset, .unset] [])) (fun t k => XS.ifYes X1080.here hx rfl (pc0 := 832) (pc' := 843) rfl (hb hby at_832) rfl (by decide) (by decide) (by decide) k) ?_
                  refine own_stW (B := T1080.setTop (mkF m 845 #[.val (.int arg0), .val (.int arg1), .val (.int arg2), .val (.int v1), .val (.int v2), .val (.int v3), .val (.ref b4), .val (.ref b7), .val .null, .unset, .unset] [(.ref b7)])) (fun t k => XS.aload X1080.here hx rfl (hb hby at_843) rfl rfl k) ?_
                  refine own_stW (B := T1080.setTop (mkF m 847 #[.val (.int arg0), .val (.int arg1), .val (.int arg2), .val (.int v1), .val (.int v2), .val (.int v3), .val (.ref b4), .val (.ref b7), .val .null, .unset, .unset] [.null, (.ref b7)])) (fun t k => XS.aload X1080.here hx rfl (hb hby at_845) rfl rfl k) ?_
                  obtain ⟨cq1082, kq1082, q1082a, q1082b, q1082c⟩ := isOf hZ e1080q A7
                  obtain ⟨_, _, ⟨T1082, L1082, k1082, j1082⟩, -, X1082, ⟨Lc1082, hQ1082, l1082, y1082_, z1082_⟩, st1082⟩ := X1080.virtualBack hx (y := (⟨"java/lang/String", "equals", "(Ljava/lang/Object;)Z"⟩ : MethodName)) (z := (⟨"java/lang/String", "equals", "(Ljava/lang/Object;)Z"⟩ : MethodName)) hown (mvT hZ (w_70 hw)) (mvT hZ (w_71 hw)) (notFace_of_selects (args := #[]) (mvT hZ (w_73 hw))) (mvT hZ (w_73 hw)) (mvT hZ (w_72 hw)) (by decide) (backOf (W := 0) (rm15n l Z a0 hw [] b7 h7 n0 z9 ) hZ (w_74 hw) (w_1 hw) (by decide) (by decide)) q1082a q1082c (g := (mkF m 847 #[.val (.int arg0), .val (.int arg1), .val (.int arg2), .val (.int v1), .val (.int v2), .val (.int v3), .val (.ref b4), .val (.ref b7), .val .null, .unset, .unset] [.null, (.ref b7)])) rfl (by rw [hml]; rfl) (Steps.refl _) (argsL := [.null]) (rest := []) (lenOf own_pd19 rfl) rfl (by show 2 * 0 + _ ≤ _; exact Nat.le_of_eq rfl) (hb hby at_847) (fun _ _ => ⟨rfl, e1080q, (by decide : 4 + 0 ≤ _), (by decide : 72 + 0 ≤ _)⟩)
                  dsimp only [Pt.U, Pt.locs, Pt.cells, Pt.slots] at X1082 l1082 y1082_ z1082_ st1082 hQ1082
                  subst l1082 y1082_ z1082_
                  obtain ⟨rfl, N1082q, e1082q⟩ := hQ1082
                  have N1082 := Fr.app N1080 N1082q
                  refine own_ssW (B := T1082.setTop (mkF m 850 #[.val (.int arg0), .val (.int arg1), .val (.int arg2), .val (.int v1), .val (.int v2), .val (.int v3), .val (.ref b4), .val (.ref b7), .val .null, .unset, .unset] [(.int (0 : Int32))])) st1082 ?_
                  refine own_stW (B := T1082.setTop (mkF m 861 #[.val (.int arg0), .val (.int arg1), .val (.int arg2), .val (.int v1), .val (.int v2), .val (.int v3), .val (.ref b4), .val (.ref b7), .val .null, .unset, .unset] [])) (fun t k => XS.ifYes X1082.here hx rfl (pc0 := 850) (pc' := 861) rfl (hb hby at_850) rfl (by decide) (by decide) (by decide) k) ?_
                  refine own_stW (B := T1082.setTop (mkF m 862 #[.val (.int arg0), .val (.int arg1), .val (.int arg2), .val (.int v1), .val (.int v2), .val (.int v3), .val (.ref b4), .val (.ref b7), .val .null, .unset, .unset] [.null])) (fun t k => XS.aconstNull X1082.here hx rfl (hb hby at_861) k) ?_
                  refine own_stW (B := T1082.setTop (mkF m 864 #[.val (.int arg0), .val (.int arg1), .val (.int arg2), .val (.int v1), .val (.int v2), .val (.int v3), .val (.ref b4), .val (.ref b7), .val .null, .val .null, .unset] [])) (fun t k => XS.astore X1082.here hx rfl (hb hby at_862) rfl rfl (l' := #[.val (.int arg0), .val (.int arg1), .val (.int arg2), .val (.int v1), .val (.int v2), .val (.int v3), .val (.ref b4), .val (.ref b7), .val .null, .val .null, .unset]) rfl k) ?_
                  refine own_stW (B := T1082.setTop (mkF m 866 #[.val (.int arg0), .val (.int arg1), .val (.int arg2), .val (.int v1), .val (.int v2), .val (.int v3), .val (.ref b4), .val (.ref b7), .val .null, .val .null, .unset] [.null])) (fun t k => XS.aload X1082.here hx rfl (hb hby at_864) rfl rfl k) ?_
                  have f1083 : Sta Z h7 "com/example/goodput/goodput/DeliveryMode" "$VALUES" "[Lcom/example/goodput/goodput/DeliveryMode;" (.ref va) := ((F0.ext E4).ext E7)
                  have f1084 : Exa Z h7 va "[Lcom/example/goodput/goodput/DeliveryMode;" := ((F1.ext E4).ext E7)
                  have f1085 : own_A Z h7 va (.object "com/example/goodput/goodput/DeliveryMode") [(.ref r1), (.ref r2)] := ((F2.ext E4).ext E7)
                  have f1086 : Fld Z h7 r1 "com/example/goodput/goodput/DeliveryMode" "name" "Ljava/lang/String;" (.ref s1) := ((F3.ext E4).ext E7)
                  have f1087 : Fld Z h7 r2 "com/example/goodput/goodput/DeliveryMode" "name" "Ljava/lang/String;" (.ref s2) := ((F4.ext E4).ext E7)
                  have f1088 : Exa Z h7 s1 "java/lang/String" := ((F5.ext E4).ext E7)
                  have f1089 : Exa Z h7 s2 "java/lang/String" := ((F6.ext E4).ext E7)
                  have f1090 : Fld Z h7 s1 "java/lang/String" "coder" "B" (.int (0 : Int32)) := ((F7.ext E4).ext E7)
                  have f1091 : Fld Z h7 s1 "java/lang/String" "value" "[B" (.ref d1) := ((F8.ext E4).ext E7)
                  have f1092 : Fld Z h7 s2 "java/lang/String" "coder" "B" (.int (0 : Int32)) := ((F9.ext E4).ext E7)
                  have f1093 : Fld Z h7 s2 "java/lang/String" "value" "[B" (.ref d2) := ((F10.ext E4).ext E7)
                  have f1094 : own_A Z h7 d1 .byte (own_d.map Value.int) := ((F11.ext E4).ext E7)
                  have f1095 : own_A Z h7 d2 .byte (own_q.map Value.int) := ((F12.ext E4).ext E7)
                  obtain ⟨_, _, ⟨T1096, L1096, k1096, j1096⟩, -, X1096, ⟨Lc1096, hQ1096, l1096, y1096_, z1096_⟩, st1096⟩ := Jvm.LawKit.callS X1082 hx (y := (⟨"com/example/goodput/goodput/DeliveryMode", "named", "(Ljava/lang/String;)Lcom/example/goodput/goodput/DeliveryMode;"⟩ : MethodName)) hown (mvT hZ (w_79 hw)) (mvT hZ (w_80 hw)) (mvT hZ (w_81 hw)) (mvT hZ (w_82 hw)) (by decide) (backOf (W := 0) (rm17z l Z a0 hw [] va r1 r2 s1 s2 d1 d2 h7 n0 z9 f1083 f1084 f1085 f1086 f1087 f1088 f1089 f1090 f1091 f1092 f1093 f1094 f1095) hZ (w_82 hw) (w_81 hw) (by decide) (by decide)) (g := (mkF m 866 #[.val (.int arg0), .val (.int arg1), .val (.int arg2), .val (.int v1), .val (.int v2), .val (.int v3), .val (.ref b4), .val (.ref b7), .val .null, .val .null, .unset] [.null])) rfl (by rw [hml]; rfl) (argsL := [.null]) (rest := []) (lenOf own_pd22 rfl) rfl (by show 2 * 0 + _ ≤ _; exact Nat.le_of_eq rfl) (hb hby at_866) (fun _ _ => ⟨rfl, e1082q, (by decide : 4 + 1 ≤ _), (by decide : 72 + 2 ≤ _)⟩)
                  dsimp only [Pt.U, Pt.locs, Pt.cells, Pt.slots] at X1096 l1096 y1096_ z1096_ st1096 hQ1096
                  subst l1096 y1096_ z1096_
                  obtain ⟨rfl, N1096q, K1096⟩ := hQ1096
                  have N1096 := Fr.app N1082 N1096q
                  have ch1097 := ch8.trans (CHr.keep K1096 all0 ch8.1)
                  have hk1097 := Nat.le_trans hk7 K1096.1
                  have z1098 : n0 ≤ T1096.heap.size := Nat.le_trans z9 K1096.1
                  refine own_stW (B := T1096.setTop (mkF m 869 #[.val (.int arg0), .val (.int arg1), .val (.int arg2), .val (.int v1), .val (.int v2), .val (.int v3), .val (.ref b4), .val (.ref b7), .val .null, .val .null, .unset] [.null])) (fun t k => st1096 t k) ?_
                  refine own_stW (B := T1096.setTop (mkF m 871 #[.val (.int arg0), .val (.int arg1), .val (.int arg2), .val (.int v1), .val (.int v2), .val (.int v3), .val (.ref b4), .val (.ref b7), .val .null, .val .null, .val .null] [])) (fun t k => XS.astore X1096.here hx rfl (hb hby at_869) rfl rfl (l' := #[.val (.int arg0), .val (.int arg1), .val (.int arg2), .val (.int v1), .val (.int v2), .val (.int v3), .val (.ref b4), .val (.ref b7), .val .null, .val .null, .val .null]) rfl k) ?_
                  refine own_stW (B := T1096.setTop (mkF m 873 #[.val (.int arg0), .val (.int arg1), .val (.int arg2), .val (.int v1), .val (.int v2), .val (.int v3), .val (.ref b4), .val (.ref b7), .val .null, .val .null, .val .null] [.null])) (fun t k => XS.aload X1096.here hx rfl (hb hby at_871) rfl rfl k) ?_
                  refine own_stW (B := T1096.setTop (mkF m 875 #[.val (.int arg0), .val (.int arg1), .val (.int arg2), .val (.int v1), .val (.int v2), .val (.int v3), .val (.ref b4), .val (.ref b7), .val .null, .val .null, .val .null] [.null, .null])) (fun t k => XS.aload X1096.here hx rfl (hb hby at_873) rfl rfl k) ?_
                  refine own_stW (B := T1096.setTop (mkF m 878 #[.val (.int arg0), .val (.int arg1), .val (.int arg2), .val (.int v1), .val (.int v2), .val (.int v3), .val (.ref b4), .val (.ref b7), .val .null, .val .null, .val .null] [])) (fun t k => Jvm.RoadKit.acmp (g := (mkF m 875 #[.val (.int arg0), .val (.int arg1), .val (.int arg2), .val (.int v1), .val (.int v2), .val (.int v3), .val (.ref b4), .val (.ref b7), .val .null, .val .null, .val .null] [.null, .null])) X1096 hx rfl rfl rfl (pc0 := 875) (pc' := 878) (same := true) rfl (hb hby at_875) rfl (decide_eq_true rfl) (by decide) (by decide) k) ?_
                  refine own_stW (B := T1096.setTop (mkF m 879 #[.val (.int arg0), .val (.int arg1), .val (.int arg2), .val (.int v1), .val (.int v2), .val (.int v3), .val (.ref b4), .val (.ref b7), .val .null, .val .null, .val .null] [(.int (1 : Int32))])) (fun t k => XS.iconst X1096.here hx rfl (hb hby at_878) k) ?_
                  refine own_stW (B := T1096.setTop (mkF m 883 #[.val (.int arg0), .val (.int arg1), .val (.int arg2), .val (.int v1), .val (.int v2), .val (.int v3), .val (.ref b4), .val (.ref b7), .val .null, .val .null, .val .null] [(.int (1 : Int32))])) (fun t k => XS.goto X1096.here hx rfl (pc0 := 879) (pc' := 883) rfl (hb hby at_879) (by decide) (by decide) k) ?_
                  refine own_retNW X1096 hS7 (show _ ≤ T1096.heap.size by exact hk1097) hx hlk (t := .boolean) Bd.returns (by simp) (z' := (1 : Int32)) rfl (hb hby at_883) (by decide) (by decide) (show CHr Z own_EL s.vm h0 T1096.vm T1096.heap by exact ch1097.trans (CHv.at X1096 hZ (own_ew hw) ch1097.1)) ?_
                  show Q0 Z arg0 arg1 arg2 va r1 r2 s1 s2 d1 d2 cs u1 h0 n0 _ T1096.heap _
                  exact ⟨rfl, N1096⟩
                · refine own_stW (B := T7.setTop (mkF m 813 #[.val (.int arg0), .val (.int arg1), .val (.int arg2), .val (.int v1), .val (.int v2), .val (.int v3), .val (.ref b4), .val (.ref b7), .unset, .unset, .unset] [])) (fun t k => XS.icmpYes X7.here hx rfl (pc0 := 804) (pc' := 813) rfl (hb hby at_804) rfl (XT.ii_ne_t hc1079) (by decide) (by decide) k) ?_
                  obtain ⟨T1099, h1099, X1099, e1099, E1099, A1099, D1099, -, st1099⟩ := newO X7 hx hZ hown (w_9 hw) (w_2 hw) (w_1 hw) e7 (g := (mkF m 813 #[.val (.int arg0), .val (.int arg1), .val (.int arg2), .val (.int v1), .val (.int v2), .val (.int v3), .val (.ref b4), .val (.ref b7), .unset, .unset, .unset] [])) rfl (hb hby at_813) (by decide) (by decide)
                  obtain ⟨b1099, g1099⟩ : ∃ z, z = h7.size := ⟨_, rfl⟩
                  rw [← g1099] at A1099 D1099 st1099
                  have f1100 : Exa Z h7 va "[Lcom/example/goodput/goodput/DeliveryMode;" := ((F1.ext E4).ext E7)
                  have q1099_va : va ≠ b1099 := Nat.ne_of_lt (Nat.lt_of_lt_of_le f1100.lt (Nat.le_of_eq g1099.symm))
                  have f1101 : Fld Z h7 r1 "com/example/goodput/goodput/DeliveryMode" "name" "Ljava/lang/String;" (.ref s1) := ((F3.ext E4).ext E7)
                  have q1099_r1 : r1 ≠ b1099 := Nat.ne_of_lt (Nat.lt_of_lt_of_le f1101.lt (Nat.le_of_eq g1099.symm))
                  have f1102 : Fld Z h7 r2 "com/example/goodput/goodput/DeliveryMode" "name" "Ljava/lang/String;" (.ref s2) := ((F4.ext E4).ext E7)
                  have q1099_r2 : r2 ≠ b1099 := Nat.ne_of_lt (Nat.lt_of_lt_of_le f1102.lt (Nat.le_of_eq g1099.symm))
                  have f1103 : Exa Z h7 s1 "java/lang/String" := ((F5.ext E4).ext E7)
                  have q1099_s1 : s1 ≠ b1099 := Nat.ne_of_lt (Nat.lt_of_lt_of_le f1103.lt (Nat.le_of_eq g1099.symm))
                  have f1104 : Exa Z h7 s2 "java/lang/String" := ((F6.ext E4).ext E7)
                  have q1099_s2 : s2 ≠ b1099 := Nat.ne_of_lt (Nat.lt_of_lt_of_le f1104.lt (Nat.le_of_eq g1099.symm))
                  have f1105 : own_A Z h7 d1 .byte (own_d.map Value.int) := ((F11.ext E4).ext E7)
                  have q1099_d1 : d1 ≠ b1099 := Nat.ne_of_lt (Nat.lt_of_lt_of_le f1105.lt (Nat.le_of_eq g1099.symm))
                  have f1106 : own_A Z h7 d2 .byte (own_q.map Value.int) := ((F12.ext E4).ext E7)
                  have q1099_d2 : d2 ≠ b1099 := Nat.ne_of_lt (Nat.lt_of_lt_of_le f1106.lt (Nat.le_of_eq g1099.symm))
                  have f1107 : Exa Z h7 b4 "java/lang/String" := (A4.ext E7)
                  have q1099_b4 : b4 ≠ b1099 := Nat.ne_of_lt (Nat.lt_of_lt_of_le f1107.lt (Nat.le_of_eq g1099.symm))
                  have f1108 : own_A Z h7 bb4 .byte (own_d.map Value.int) := (fa4.ext E7)
                  have q1099_bb4 : bb4 ≠ b1099 := Nat.ne_of_lt (Nat.lt_of_lt_of_le f1108.lt (Nat.le_of_eq g1099.symm))
                  have q1099_b7 : b7 ≠ b1099 := Nat.ne_of_lt (Nat.lt_of_lt_of_le A7.lt (Nat.le_of_eq g1099.symm))
                  have q1099_bb7 : bb7 ≠ b1099 := Nat.ne_of_lt (Nat.lt_of_lt_of_le fa7.lt (Nat.le_of_eq g1099.symm))
                  have u1099 : n0 ≤ b1099 := Nat.le_trans z9 (Nat.le_of_eq g1099.symm)
                  have ch1109 := ch8.trans (CHr.ext E1099 ch8.1)
                  have sf1110 := Safe.ext E1099 ch8.1 (Safe.new (Nat.le_of_eq g1099.symm))
                  have hk1109 := Nat.le_trans hk7 E1099.1
                  have z1111 : n0 ≤ h1099.size := Nat.le_trans z9 E1099.1
                  have f1112 : Fld Z h1099 b1099 "java/lang/String" "value" "[B" .null := D1099 (Or.inr (w_4 hw)) (ty := (.array .byte)) (by decide)
                  have f1113 : Fld Z h1099 b1099 "java/lang/String" "coder" "B" (.int (0 : Int32)) := D1099 (Or.inr (w_5 hw)) (ty := .byte) (by decide)
                  refine own_stW (B := T1099.setTop (mkF m 816 #[.val (.int arg0), .val (.int arg1), .val (.int arg2), .val (.int v1), .val (.int v2), .val (.int v3), .val (.ref b4), .val (.ref b7), .unset, .unset, .unset] [(.ref b1099)])) (fun t k => st1099 t k) ?_
                  refine own_stW (B := T1099.setTop (mkF m 817 #[.val (.int arg0), .val (.int arg1), .val (.int arg2), .val (.int v1), .val (.int v2), .val (.int v3), .val (.ref b4), .val (.ref b7), .unset, .unset, .unset] [(.ref b1099), (.ref b1099)])) (fun t k => XS.dup X1099.here hx rfl (hb hby at_816) rfl rfl k) ?_
                  refine own_stW (B := T1099.setTop (mkF m 818 #[.val (.int arg0), .val (.int arg1), .val (.int arg2), .val (.int v1), .val (.int v2), .val (.int v3), .val (.ref b4), .val (.ref b7), .unset, .unset, .unset] [(.int (0 : Int32)), (.ref b1099), (.ref b1099)])) (fun t k => XS.iconst X1099.here hx rfl (hb hby at_817) k) ?_
                  obtain ⟨T1114, h1114, X1114, e1114, E1114, A1114, x1114, st1114⟩ := own_newP X1099 hx hZ (aty := .char) (w_10 hw) e1099 (g := (mkF m 818 #[.val (.int arg0), .val (.int arg1), .val (.int arg2), .val (.int v1), .val (.int v2), .val (.int v3), .val (.ref b4), .val (.ref b7), .unset, .unset, .unset] [(.int (0 : Int32)), (.ref b1099), (.ref b1099)])) rfl (hb hby at_818) (n := (0 : Int32)) (rest := [(.ref b1099), (.ref b1099)]) rfl (k := 0) (cap := 0) (by decide) (Nat.le_refl _) (by decide) (by decide) (by decide) (ad := "[C") rfl
                  obtain ⟨b1114, g1114⟩ : ∃ z, z = h1099.size := ⟨_, rfl⟩
                  rw [← g1114] at A1114 x1114 st1114
                  have f1115 : Exa Z h1099 va "[Lcom/example/goodput/goodput/DeliveryMode;" := (f1100.ext E1099)
                  have q1114_va : va ≠ b1114 := Nat.ne_of_lt (Nat.lt_of_lt_of_le f1115.lt (Nat.le_of_eq g1114.symm))
                  have f1116 : Fld Z h1099 r1 "com/example/goodput/goodput/DeliveryMode" "name" "Ljava/lang/String;" (.ref s1) := (f1101.ext E1099)
                  have q1114_r1 : r1 ≠ b1114 := Nat.ne_of_lt (Nat.lt_of_lt_of_le f1116.lt (Nat.le_of_eq g1114.symm))
                  have f1117 : Fld Z h1099 r2 "com/example/goodput/goodput/DeliveryMode" "name" "Ljava/lang/String;" (.ref s2) := (f1102.ext E1099)
                  have q1114_r2 : r2 ≠ b1114 := Nat.ne_of_lt (Nat.lt_of_lt_of_le f1117.lt (Nat.le_of_eq g1114.symm))
                  have f1118 : Exa Z h1099 s1 "java/lang/String" := (f1103.ext E1099)
                  have q1114_s1 : s1 ≠ b1114 := Nat.ne_of_lt (Nat.lt_of_lt_of_le f1118.lt (Nat.le_of_eq g1114.symm))
                  have f1119 : Exa Z h1099 s2 "java/lang/String" := (f1104.ext E1099)
                  have q1114_s2 : s2 ≠ b1114 := Nat.ne_of_lt (Nat.lt_of_lt_of_le f1119.lt (Nat.le_of_eq g1114.symm))
                  have f1120 : own_A Z h1099 d1 .byte (own_d.map Value.int) := (f1105.ext E1099)
                  have q1114_d1 : d1 ≠ b1114 := Nat.ne_of_lt (Nat.lt_of_lt_of_le f1120.lt (Nat.le_of_eq g1114.symm))
                  have f1121 : own_A Z h1099 d2 .byte (own_q.map Value.int) := (f1106.ext E1099)
                  have q1114_d2 : d2 ≠ b1114 := Nat.ne_of_lt (Nat.lt_of_lt_of_le f1121.lt (Nat.le_of_eq g1114.symm))
                  have f1122 : Exa Z h1099 b4 "java/lang/String" := (f1107.ext E1099)
                  have q1114_b4 : b4 ≠ b1114 := Nat.ne_of_lt (Nat.lt_of_lt_of_le f1122.lt (Nat.le_of_eq g1114.symm))
                  have f1123 : own_A Z h1099 bb4 .byte (own_d.map Value.int) := (f1108.ext E1099)
                  have q1114_bb4 : bb4 ≠ b1114 := Nat.ne_of_lt (Nat.lt_of_lt_of_le f1123.lt (Nat.le_of_eq g1114.symm))
                  have f1124 : Exa Z h1099 b7 "java/lang/String" := (A7.ext E1099)
                  have q1114_b7 : b7 ≠ b1114 := Nat.ne_of_lt (Nat.lt_of_lt_of_le f1124.lt (Nat.le_of_eq g1114.symm))
                  have f1125 : own_A Z h1099 bb7 .byte (own_q.map Value.int) := (fa7.ext E1099)
                  have q1114_bb7 : bb7 ≠ b1114 := Nat.ne_of_lt (Nat.lt_of_lt_of_le f1125.lt (Nat.le_of_eq g1114.symm))
                  have q1114_b1099 : b1099 ≠ b1114 := Nat.ne_of_lt (Nat.lt_of_lt_of_le A1099.lt (Nat.le_of_eq g1114.symm))
                  have u1114 : n0 ≤ b1114 := Nat.le_trans z1111 (Nat.le_of_eq g1114.symm)
                  have ch1126 := ch1109.trans (CHr.ext E1114 ch1109.1)
                  have sf1127 := Safe.ext E1114 ch1109.1 sf1110
                  have hk1126 := Nat.le_trans hk1109 E1114.1
                  have z1128 : n0 ≤ h1114.size := Nat.le_trans z1111 E1114.1
                  have f1114_ : own_A Z h1114 b1114 .char [] := A1114
                  refine own_stW (B := T1114.setTop (mkF m 820 #[.val (.int arg0), .val (.int arg1), .val (.int arg2), .val (.int v1), .val (.int v2), .val (.int v3), .val (.ref b4), .val (.ref b7), .unset, .unset, .unset] [(.ref b1114), (.ref b1099), (.ref b1099)])) (fun t k => st1114 t k) ?_
                  have f1129 : Exa Z h1114 b1099 "java/lang/String" := (A1099.ext E1114)
                  have f1130 : Fld Z h1114 b1099 "java/lang/String" "value" "[B" .null := (f1112.ext E1114)
                  have f1131 : Fld Z h1114 b1099 "java/lang/String" "coder" "B" (.int (0 : Int32)) := (f1113.ext E1114)
                  obtain ⟨_, _, ⟨T1132, L1132, k1132, j1132⟩, -, X1132, hs1132, hg1132, ⟨Lc1132, hQ1132, l1132, y1132_, z1132_, ch1132_⟩, st1132⟩ := X1114.specialBackS hx (y := (⟨"java/lang/String", "<init>", "([C)V"⟩ : MethodName)) rfl hown (mvT hZ (w_50 hw)) (mvT hZ (w_51 hw)) (mvT hZ (w_52 hw)) (by decide) (own_backSH (EL := own_EL) (W := 1) (rm9n0 l Z a0 hw [] b1099 b1114 h1114 n0 z1128 f1129 f1130 f1131 f1114_ u1099) hZ (w_52 hw) (w_1 hw) (by decide) (by decide) (own_ew hw) ch1126.1 (allS ⟨f1129.lt, sf1127⟩ all0)) (g := (mkF m 820 #[.val (.int arg0), .val (.int arg1), .val (.int arg2), .val (.int v1), .val (.int v2), .val (.int v3), .val (.ref b4), .val (.ref b7), .unset, .unset, .unset] [(.ref b1114), (.ref b1099), (.ref b1099)])) rfl (by rw [hml]; rfl) (Steps.refl _) (a := b1099) (argsL := [(.ref b1114)]) (rest := [(.ref b1099)]) (lenOf own_pd21 rfl) rfl (by show 2 * 0 + _ ≤ _; exact Nat.le_of_eq rfl) (hb hby at_820) (fun _ _ => ⟨rfl, e1114, (by decide : 6 + 4 ≤ _), (by decide : 76 + 8 ≤ _)⟩)
                  dsimp only [Pt.U, Pt.locs, Pt.cells, Pt.slots] at X1132 hs1132 hg1132 ch1132_ l1132 y1132_ z1132_ st1132 hQ1132
                  subst l1132 y1132_ z1132_
                  obtain ⟨X1132, hS1132, hZ, hown⟩ := rebS hS7 (show _ ≤ T1114.heap.size by rw [e1114]; exact hk1126) X1132 hs1132 hg1132 hZ hown
                  obtain ⟨b_1132, rfl, N1132q, K1132, p1132_0, p1132_1, p1132_2, p1132_3⟩ := hQ1132
                  have N1132 := Fr.app N0 N1132q
                  have ch1133 := ch1126.trans ch1132_
                  have sf1134 := CHr.safe ch1132_ f1129.lt sf1127
                  have z1135 : n0 ≤ T1132.heap.size := Nat.le_trans z1128 K1132.1
                  have f1137 : Exa Z T1132.heap s1 "java/lang/String" := ((f1118.ext E1114).keep K1132)
                  have q1136_ : s1 ≠ b_1132 := own_neA f1137 p1132_3 (w_2 hw)
                  have f1139 : Exa Z T1132.heap s2 "java/lang/String" := ((f1119.ext E1114).keep K1132)
                  have q1138_ : s2 ≠ b_1132 := own_neA f1139 p1132_3 (w_2 hw)
                  have f1141 : Exa Z T1132.heap b4 "java/lang/String" := ((f1122.ext E1114).keep K1132)
                  have q1140_ : b4 ≠ b_1132 := own_neA f1141 p1132_3 (w_2 hw)
                  have f1143 : Exa Z T1132.heap b7 "java/lang/String" := ((f1124.ext E1114).keep K1132)
                  have q1142_ : b7 ≠ b_1132 := own_neA f1143 p1132_3 (w_2 hw)
                  have q1144_ : b1099 ≠ b_1132 := own_neA p1132_0 p1132_3 (w_2 hw)
                  refine own_ssW (B := T1132.setTop (mkF m 823 #[.val (.int arg0), .val (.int arg1), .val (.int arg2), .val (.int v1), .val (.int v2), .val (.int v3), .val (.ref b4), .val (.ref b7), .unset, .unset, .unset] [(.ref b1099)])) st1132 ?_
                  have fe1132 : own_A Z T1132.heap b_1132 .byte (([] : List Int32).map Value.int) := p1132_3
                  refine own_stW (B := T1132.setTop (mkF m 825 #[.val (.int arg0), .val (.int arg1), .val (.int arg2), .val (.int v1), .val (.int v2), .val (.int v3), .val (.ref b4), .val (.ref b7), .val (.ref b1099), .unset, .unset] [])) (fun t k => XS.astore X1132.here hx rfl (hb hby at_823) rfl rfl (l' := #[.val (.int arg0), .val (.int arg1), .val (.int arg2), .val (.int v1), .val (.int v2), .val (.int v3), .val (.ref b4), .val (.ref b7), .val (.ref b1099), .unset, .unset]) rfl k) ?_
                  have x10_ := X1132.more (cells' := 10) (slots' := 103) (by decide) (by decide)
                  have f1145 : Sta Z T1132.heap "com/example/goodput/goodput/DeliveryMode" "$VALUES" "[Lcom/example/goodput/goodput/DeliveryMode;" (.ref va) := (own_Sta.keep ((((F0.ext E4).ext E7).ext E1099).ext E1114) K1132 (show ∀ st ∈ [b1099], ∀ cell : Cell, h1114[st]? = some cell → cell.vm.isStatics = false from (allS (own_plainE f1129) all0)))
                  have f1146 : Exa Z T1132.heap va "[Lcom/example/goodput/goodput/DeliveryMode;" := ((f1115.ext E1114).keep K1132)
                  have f1147 : own_A Z T1132.heap va (.object "com/example/goodput/goodput/DeliveryMode") [(.ref r1), (.ref r2)] := (((((F2.ext E4).ext E7).ext E1099).ext E1114).keep K1132 (ninS q1099_va nin0))
                  have f1148 : Fld Z T1132.heap r1 "com/example/goodput/goodput/DeliveryMode" "name" "Ljava/lang/String;" (.ref s1) := ((f1116.ext E1114).keep K1132 (ninS q1099_r1 nin0))
                  have f1149 : Fld Z T1132.heap r2 "com/example/goodput/goodput/DeliveryMode" "name" "Ljava/lang/String;" (.ref s2) := ((f1117.ext E1114).keep K1132 (ninS q1099_r2 nin0))
                  have f1150 : Fld Z T1132.heap s1 "java/lang/String" "coder" "B" (.int (0 : Int32)) := (((((F7.ext E4).ext E7).ext E1099).ext E1114).keep K1132 (ninS q1099_s1 nin0))
                  have f1151 : Fld Z T1132.heap s1 "java/lang/String" "value" "[B" (.ref d1) := (((((F8.ext E4).ext E7).ext E1099).ext E1114).keep K1132 (ninS q1099_s1 nin0))
                  have f1152 : Fld Z T1132.heap s2 "java/lang/String" "coder" "B" (.int (0 : Int32)) := (((((F9.ext E4).ext E7).ext E1099).ext E1114).keep K1132 (ninS q1099_s2 nin0))
                  have f1153 : Fld Z T1132.heap s2 "java/lang/String" "value" "[B" (.ref d2) := (((((F10.ext E4).ext E7).ext E1099).ext E1114).keep K1132 (ninS q1099_s2 nin0))
                  have f1154 : own_A Z T1132.heap d1 .byte (own_d.map Value.int) := ((f1120.ext E1114).keep K1132 (ninS q1099_d1 nin0))
                  have f1155 : own_A Z T1132.heap d2 .byte (own_q.map Value.int) := ((f1121.ext E1114).keep K1132 (ninS q1099_d2 nin0))
                  have f1156 : Sta Z T1132.heap "com/example/goodput/goodput/DeliveryMode" "DIRECT" "Lcom/example/goodput/goodput/DeliveryMode;" (.ref r1) := (own_Sta.keep ((((F13.ext E4).ext E7).ext E1099).ext E1114) K1132 (show ∀ st ∈ [b1099], ∀ cell : Cell, h1114[st]? = some cell → cell.vm.isStatics = false from (allS (own_plainE f1129) all0)))
                  have f1157 : Sta Z T1132.heap "com/example/goodput/goodput/DeliveryMode" "PERSISTENT" "Lcom/example/goodput/goodput/DeliveryMode;" (.ref r2) := (own_Sta.keep ((((F14.ext E4).ext E7).ext E1099).ext E1114) K1132 (show ∀ st ∈ [b1099], ∀ cell : Cell, h1114[st]? = some cell → cell.vm.isStatics = false from (allS (own_plainE f1129) all0)))
                  have f1158 : Sta Z T1132.heap "java/lang/String" "COMPACT_STRINGS" "Z" (.int cs) := (own_Sta.keep ((((F15.ext E4).ext E7).ext E1099).ext E1114) K1132 (show ∀ st ∈ [b1099], ∀ cell : Cell, h1114[st]? = some cell → cell.vm.isStatics = false from (allS (own_plainE f1129) all0)))
                  have f1159 : Fld Z T1132.heap b4 "java/lang/String" "coder" "B" (.int (0 : Int32)) := ((((C4.ext E7).ext E1099).ext E1114).keep K1132 (ninS q1099_b4 nin0))
                  have f1160 : Fld Z T1132.heap b4 "java/lang/String" "value" "[B" (.ref bb4) := ((((V4.ext E7).ext E1099).ext E1114).keep K1132 (ninS q1099_b4 nin0))
                  have f1161 : own_A Z T1132.heap bb4 .byte (own_d.map Value.int) := ((f1123.ext E1114).keep K1132 (ninS q1099_bb4 nin0))
                  have f1162 : Fld Z T1132.heap b7 "java/lang/String" "coder" "B" (.int (0 : Int32)) := (((C7.ext E1099).ext E1114).keep K1132 (ninS q1099_b7 nin0))
                  have f1163 : Fld Z T1132.heap b7 "java/lang/String" "value" "[B" (.ref bb7) := (((V7.ext E1099).ext E1114).keep K1132 (ninS q1099_b7 nin0))
                  have f1164 : own_A Z T1132.heap bb7 .byte (own_q.map Value.int) := ((f1125.ext E1114).keep K1132 (ninS q1099_bb7 nin0))
                  exact J10 _ _ T1132 _ _ b1099 b_1132 ([] : List Int32) x10_ rfl N1132 z1135 hS1132 (Nat.le_refl _) hZ hown ch1133 p1132_0 p1132_2 p1132_1 fe1132 f1145 f1146 f1147 f1148 f1149 f1137 f1139 f1150 f1151 f1152 f1153 f1154 f1155 f1156 f1157 f1158 f1141 f1159 f1160 f1161 f1143 f1162 f1163 f1164 (show ([] : List Int32).length < 1000 by decide) (show s1 ≠ b1099 by exact q1099_s1) (show s2 ≠ b1099 by exact q1099_s2) (show b4 ≠ b1099 by exact q1099_b4) (show b7 ≠ b1099 by exact q1099_b7)
  intro vm10 kk10 T10 lo10 h10 so sb bs X10 e10 N10 z10 hS10 hk10 hZ hown ch10 lf10_0 lf10_1 lf10_2 lf10_3 lf10_4 lf10_5 lf10_6 lf10_7 lf10_8 lf10_9 lf10_10 lf10_11 lf10_12 lf10_13 lf10_14 lf10_15 lf10_16 lf10_17 lf10_18 lf10_19 lf10_20 lf10_21 lf10_22 lf10_23 lf10_24 lf10_25 lf10_26 lf10_27 hbl q_s1 q_s2 q_b4 q_b7
  refine own_stW (B := T10.setTop (mkF m 827 #[.val (.int arg0), .val (.int arg1), .val (.int arg2), .val (.int v1), .val (.int v2), .val (.int v3), .val (.ref b4), .val (.ref b7), .val (.ref so), .unset, .unset] [(.ref b4)])) (fun t k => XS.aload X10.here hx rfl (hb hby at_825) rfl rfl k) ?_
  refine own_stW (B := T10.setTop (mkF m 829 #[.val (.int arg0), .val (.int arg1), .val (.int arg2), .val (.int v1), .val (.int v2), .val (.int v3), .val (.ref b4), .val (.ref b7), .val (.ref so), .unset, .unset] [(.ref so), (.ref b4)])) (fun t k => XS.aload X10.here hx rfl (hb hby at_827) rfl rfl k) ?_
  obtain ⟨cq1165, kq1165, q1165a, q1165b, q1165c⟩ := isOf hZ e10 lf10_20
  obtain ⟨_, _, ⟨T1165, L1165, k1165, j1165⟩, -, X1165, ⟨Lc1165, hQ1165, l1165, y1165_, z1165_⟩, st1165⟩ := X10.virtualBack hx (y := (⟨"java/lang/String", "equals", "(Ljava/lang/Object;)Z"⟩ : MethodName)) (z := (⟨"java/lang/String", "equals", "(Ljava/lang/Object;)Z"⟩ : MethodName)) hown (mvT hZ (w_70 hw)) (mvT hZ (w_71 hw)) (notFace_of_selects (args := #[]) (mvT hZ (w_73 hw))) (mvT hZ (w_73 hw)) (mvT hZ (w_72 hw)) (by decide) (backOf (W := 0) (rm15d l Z a0 hw [] b4 so bb4 sb own_d bs cs h10 n0 z10 lf10_20 lf10_0 lf10_21 lf10_22 lf10_1 lf10_2 lf10_23 lf10_3 lf10_19 q_b4 hcs (show own_d.length < 1000 by decide) hbl) hZ (w_74 hw) (w_1 hw) (by decide) (by decide)) q1165a q1165c (g := (mkF m 829 #[.val (.int arg0), .val (.int arg1), .val (.int arg2), .val (.int v1), .val (.int v2), .val (.int v3), .val (.ref b4), .val (.ref b7), .val (.ref so), .unset, .unset] [(.ref so), (.ref b4)])) rfl (by rw [hml]; rfl) (Steps.refl _) (argsL := [(.ref so)]) (rest := []) (lenOf own_pd19 rfl) rfl (by show 2 * 0 + _ ≤ _; exact Nat.le_of_eq rfl) (hb hby at_829) (fun _ _ => ⟨rfl, e10, (by decide : 10 + 0 ≤ _), (by decide : 103 + 0 ≤ _)⟩)
  dsimp only [Pt.U, Pt.locs, Pt.cells, Pt.slots] at X1165 l1165 y1165_ z1165_ st1165 hQ1165
  subst l1165 y1165_ z1165_
  obtain ⟨rfl, N1165q, e1165q⟩ := hQ1165
  have N1165 := Fr.app N10 N1165q
  refine own_ssW (B := T1165.setTop (mkF m 832 #[.val (.int arg0), .val (.int arg1), .val (.int arg2), .val (.int v1), .val (.int v2), .val (.int v3), .val (.ref b4), .val (.ref b7), .val (.ref so), .unset, .unset] [(.int (own_leq own_d bs))])) st1165 ?_
  by_cases hc1166 : (own_leq own_d bs) = (0 : Int32)
  · refine own_stW (B := T1165.setTop (mkF m 843 #[.val (.int arg0), .val (.int arg1), .val (.int arg2), .val (.int v1), .val (.int v2), .val (.int v3), .val (.ref b4), .val (.ref b7), .val (.ref so), .unset, .unset] [])) (fun t k => XS.ifYes X1165.here hx rfl (pc0 := 832) (pc' := 843) rfl (hb hby at_832) rfl (XT.i0_eq_t hc1166) (by decide) (by decide) k) ?_
    refine own_stW (B := T1165.setTop (mkF m 845 #[.val (.int arg0), .val (.int arg1), .val (.int arg2), .val (.int v1), .val (.int v2), .val (.int v3), .val (.ref b4), .val (.ref b7), .val (.ref so), .unset, .unset] [(.ref b7)])) (fun t k => XS.aload X1165.here hx rfl (hb hby at_843) rfl rfl k) ?_
    refine own_stW (B := T1165.setTop (mkF m 847 #[.val (.int arg0), .val (.int arg1), .val (.int arg2), .val (.int v1), .val (.int v2), .val (.int v3), .val (.ref b4), .val (.ref b7), .val (.ref so), .unset, .unset] [(.ref so), (.ref b7)])) (fun t k => XS.aload X1165.here hx rfl (hb hby at_845) rfl rfl k) ?_
    obtain ⟨cq1167, kq1167, q1167a, q1167b, q1167c⟩ := isOf hZ e1165q lf10_24
    obtain ⟨_, _, ⟨T1167, L1167, k1167, j1167⟩, -, X1167, ⟨Lc1167, hQ1167, l1167, y1167_, z1167_⟩, st1167⟩ := X1165.virtualBack hx (y := (⟨"java/lang/String", "equals", "(Ljava/lang/Object;)Z"⟩ : MethodName)) (z := (⟨"java/lang/String", "equals", "(Ljava/lang/Object;)Z"⟩ : MethodName)) hown (mvT hZ (w_70 hw)) (mvT hZ (w_71 hw)) (notFace_of_selects (args := #[]) (mvT hZ (w_73 hw))) (mvT hZ (w_73 hw)) (mvT hZ (w_72 hw)) (by decide) (backOf (W := 0) (rm15d l Z a0 hw [] b7 so bb7 sb own_q bs cs h10 n0 z10 lf10_24 lf10_0 lf10_25 lf10_26 lf10_1 lf10_2 lf10_27 lf10_3 lf10_19 q_b7 hcs (show own_q.length < 1000 by decide) hbl) hZ (w_74 hw) (w_1 hw) (by decide) (by decide)) q1167a q1167c (g := (mkF m 847 #[.val (.int arg0), .val (.int arg1), .val (.int arg2), .val (.int v1), .val (.int v2), .val (.int v3), .val (.ref b4), .val (.ref b7), .val (.ref so), .unset, .unset] [(.ref so), (.ref b7)])) rfl (by rw [hml]; rfl) (Steps.refl _) (argsL := [(.ref so)]) (rest := []) (lenOf own_pd19 rfl) rfl (by show 2 * 0 + _ ≤ _; exact Nat.le_of_eq rfl) (hb hby at_847) (fun _ _ => ⟨rfl, e1165q, (by decide : 10 + 0 ≤ _), (by decide : 103 + 0 ≤ _)⟩)
    dsimp only [Pt.U, Pt.locs, Pt.cells, Pt.slots] at X1167 l1167 y1167_ z1167_ st1167 hQ1167
    subst l1167 y1167_ z1167_
    obtain ⟨rfl, N1167q, e1167q⟩ := hQ1167
    have N1167 := Fr.app N1165 N1167q
    refine own_ssW (B := T1167.setTop (mkF m 850 #[.val (.int arg0), .val (.int arg1), .val (.int arg2), .val (.int v1), .val (.int v2), .val (.int v3), .val (.ref b4), .val (.ref b7), .val (.ref so), .unset, .unset] [(.int (own_leq own_q bs))])) st1167 ?_
    by_cases hc1168 : (own_leq own_q bs) = (0 : Int32)
    · refine own_stW (B := T1167.setTop (mkF m 861 #[.val (.int arg0), .val (.int arg1), .val (.int arg2), .val (.int v1), .val (.int v2), .val (.int v3), .val (.ref b4), .val (.ref b7), .val (.ref so), .unset, .unset] [])) (fun t k => XS.ifYes X1167.here hx rfl (pc0 := 850) (pc' := 861) rfl (hb hby at_850) rfl (XT.i0_eq_t hc1168) (by decide) (by decide) k) ?_
      refine own_stW (B := T1167.setTop (mkF m 862 #[.val (.int arg0), .val (.int arg1), .val (.int arg2), .val (.int v1), .val (.int v2), .val (.int v3), .val (.ref b4), .val (.ref b7), .val (.ref so), .unset, .unset] [.null])) (fun t k => XS.aconstNull X1167.here hx rfl (hb hby at_861) k) ?_
      refine own_stW (B := T1167.setTop (mkF m 864 #[.val (.int arg0), .val (.int arg1), .val (.int arg2), .val (.int v1), .val (.int v2), .val (.int v3), .val (.ref b4), .val (.ref b7), .val (.ref so), .val .null, .unset] [])) (fun t k => XS.astore X1167.here hx rfl (hb hby at_862) rfl rfl (l' := #[.val (.int arg0), .val (.int arg1), .val (.int arg2), .val (.int v1), .val (.int v2), .val (.int v3), .val (.ref b4), .val (.ref b7), .val (.ref so), .val .null, .unset]) rfl k) ?_
      refine own_stW (B := T1167.setTop (mkF m 866 #[.val (.int arg0), .val (.int arg1), .val (.int arg2), .val (.int v1), .val (.int v2), .val (.int v3), .val (.ref b4), .val (.ref b7), .val (.ref so), .val .null, .unset] [(.ref so)])) (fun t k => XS.aload X1167.here hx rfl (hb hby at_864) rfl rfl k) ?_
      obtain ⟨_, _, ⟨T1169, L1169, k1169, j1169⟩, -, X1169, ⟨Lc1169, hQ1169, l1169, y1169_, z1169_⟩, st1169⟩ := Jvm.LawKit.callS X1167 hx (y := (⟨"com/example/goodput/goodput/DeliveryMode", "named", "(Ljava/lang/String;)Lcom/example/goodput/goodput/DeliveryMode;"⟩ : MethodName)) hown (mvT hZ (w_79 hw)) (mvT hZ (w_80 hw)) (mvT hZ (w_81 hw)) (mvT hZ (w_82 hw)) (by decide) (backOf (W := 0) (rm17n l Z a0 hw [] so sb bs va r1 r2 s1 s2 d1 d2 cs h10 n0 z10 lf10_0 lf10_1 lf10_2 lf10_3 lf10_4 lf10_5 lf10_6 lf10_7 lf10_8 lf10_9 lf10_10 lf10_11 lf10_12 lf10_13 lf10_14 lf10_15 lf10_16 lf10_19 hcs q_s1 q_s2 hbl hc1166 hc1168) hZ (w_82 hw) (w_81 hw) (by decide) (by decide)) (g := (mkF m 866 #[.val (.int arg0), .val (.int arg1), .val (.int arg2), .val (.int v1), .val (.int v2), .val (.int v3), .val (.ref b4), .val (.ref b7), .val (.ref so), .val .null, .unset] [(.ref so)])) rfl (by rw [hml]; rfl) (argsL := [(.ref so)]) (rest := []) (lenOf own_pd22 rfl) rfl (by show 2 * 0 + _ ≤ _; exact Nat.le_of_eq rfl) (hb hby at_866) (fun _ _ => ⟨rfl, e1167q, (by decide : 10 + 1 ≤ _), (by decide : 103 + 2 ≤ _)⟩)
      dsimp only [Pt.U, Pt.locs, Pt.cells, Pt.slots] at X1169 l1169 y1169_ z1169_ st1169 hQ1169
      subst l1169 y1169_ z1169_
      obtain ⟨rfl, N1169q, K1169⟩ := hQ1169
      have N1169 := Fr.app N1167 N1169q
      have ch1170 := ch10.trans (CHr.keep K1169 all0 ch10.1)
      have hk1170 := Nat.le_trans hk10 K1169.1
      have z1171 : n0 ≤ T1169.heap.size := Nat.le_trans z10 K1169.1
      refine own_stW (B := T1169.setTop (mkF m 869 #[.val (.int arg0), .val (.int arg1), .val (.int arg2), .val (.int v1), .val (.int v2), .val (.int v3), .val (.ref b4), .val (.ref b7), .val (.ref so), .val .null, .unset] [.null])) (fun t k => st1169 t k) ?_
      refine own_stW (B := T1169.setTop (mkF m 871 #[.val (.int arg0), .val (.int arg1), .val (.int arg2), .val (.int v1), .val (.int v2), .val (.int v3), .val (.ref b4), .val (.ref b7), .val (.ref so), .val .null, .val .null] [])) (fun t k => XS.astore X1169.here hx rfl (hb hby at_869) rfl rfl (l' := #[.val (.int arg0), .val (.int arg1), .val (.int arg2), .val (.int v1), .val (.int v2), .val (.int v3), .val (.ref b4), .val (.ref b7), .val (.ref so), .val .null, .val .null]) rfl k) ?_
      refine own_stW (B := T1169.setTop (mkF m 873 #[.val (.int arg0), .val (.int arg1), .val (.int arg2), .val (.int v1), .val (.int v2), .val (.int v3), .val (.ref b4), .val (.ref b7), .val (.ref so), .val .null, .val .null] [.null])) (fun t k => XS.aload X1169.here hx rfl (hb hby at_871) rfl rfl k) ?_
      refine own_stW (B := T1169.setTop (mkF m 875 #[.val (.int arg0), .val (.int arg1), .val (.int arg2), .val (.int v1), .val (.int v2), .val (.int v3), .val (.ref b4), .val (.ref b7), .val (.ref so), .val .null, .val .null] [.null, .null])) (fun t k => XS.aload X1169.here hx rfl (hb hby at_873) rfl rfl k) ?_
      refine own_stW (B := T1169.setTop (mkF m 878 #[.val (.int arg0), .val (.int arg1), .val (.int arg2), .val (.int v1), .val (.int v2), .val (.int v3), .val (.ref b4), .val (.ref b7), .val (.ref so), .val .null, .val .null] [])) (fun t k => Jvm.RoadKit.acmp (g := (mkF m 875 #[.val (.int arg0), .val (.int arg1), .val (.int arg2), .val (.int v1), .val (.int v2), .val (.int v3), .val (.ref b4), .val (.ref b7), .val (.ref so), .val .null, .val .null] [.null, .null])) X1169 hx rfl rfl rfl (pc0 := 875) (pc' := 878) (same := true) rfl (hb hby at_875) rfl (decide_eq_true rfl) (by decide) (by decide) k) ?_
      refine own_stW (B := T1169.setTop (mkF m 879 #[.val (.int arg0), .val (.int arg1), .val (.int arg2), .val (.int v1), .val (.int v2), .val (.int v3), .val (.ref b4), .val (.ref b7), .val (.ref so), .val .null, .val .null] [(.int (1 : Int32))])) (fun t k => XS.iconst X1169.here hx rfl (hb hby at_878) k) ?_
      refine own_stW (B := T1169.setTop (mkF m 883 #[.val (.int arg0), .val (.int arg1), .val (.int arg2), .val (.int v1), .val (.int v2), .val (.int v3), .val (.ref b4), .val (.ref b7), .val (.ref so), .val .null, .val .null] [(.int (1 : Int32))])) (fun t k => XS.goto X1169.here hx rfl (pc0 := 879) (pc' := 883) rfl (hb hby at_879) (by decide) (by decide) k) ?_
      refine own_retNW X1169 hS10 (show _ ≤ T1169.heap.size by exact hk1170) hx hlk (t := .boolean) Bd.returns (by simp) (z' := (1 : Int32)) rfl (hb hby at_883) (by decide) (by decide) (show CHr Z own_EL s.vm h0 T1169.vm T1169.heap by exact ch1170.trans (CHv.at X1169 hZ (own_ew hw) ch1170.1)) ?_
      show Q0 Z arg0 arg1 arg2 va r1 r2 s1 s2 d1 d2 cs u1 h0 n0 _ T1169.heap _
      exact ⟨rfl, N1169⟩
    · refine own_stW (B := T1167.setTop (mkF m 853 #[.val (.int arg0), .val (.int arg1), .val (.int arg2), .val (.int v1), .val (.int v2), .val (.int v3), .val (.ref b4), .val (.ref b7), .val (.ref so), .unset, .unset] [])) (fun t k => XS.ifNo X1167.here hx rfl (hb hby at_850) rfl (XT.i0_eq_f hc1168) k) ?_
      obtain ⟨T1172, X1172, e1172, st1172⟩ := getS2 X1167 hx hZ hown (host := "") (Or.inl (w_104 hw)) Via.refl e1167q lf10_18 (g := (mkF m 853 #[.val (.int arg0), .val (.int arg1), .val (.int arg2), .val (.int v1), .val (.int v2), .val (.int v3), .val (.ref b4), .val (.ref b7), .val (.ref so), .unset, .unset] [])) rfl (hb hby at_853)
      refine own_stW (B := T1172.setTop (mkF m 856 #[.val (.int arg0), .val (.int arg1), .val (.int arg2), .val (.int v1), .val (.int v2), .val (.int v3), .val (.ref b4), .val (.ref b7), .val (.ref so), .unset, .unset] [(.ref r2)])) (fun t k => st1172 t k) ?_
      refine own_stW (B := T1172.setTop (mkF m 858 #[.val (.int arg0), .val (.int arg1), .val (.int arg2), .val (.int v1), .val (.int v2), .val (.int v3), .val (.ref b4), .val (.ref b7), .val (.ref so), .val (.ref r2), .unset] [])) (fun t k => XS.astore X1172.here hx rfl (hb hby at_856) rfl rfl (l' := #[.val (.int arg0), .val (.int arg1), .val (.int arg2), .val (.int v1), .val (.int v2), .val (.int v3), .val (.ref b4), .val (.ref b7), .val (.ref so), .val (.ref r2), .unset]) rfl k) ?_
      refine own_stW (B := T1172.setTop (mkF m 864 #[.val (.int arg0), .val (.int arg1), .val (.int arg2), .val (.int v1), .val (.int v2), .val (.int v3), .val (.ref b4), .val (.ref b7), .val (.ref so), .val (.ref r2), .unset] [])) (fun t k => XS.goto X1172.here hx rfl (pc0 := 858) (pc' := 864) rfl (hb hby at_858) (by decide) (by decide) k) ?_
      refine own_stW (B := T1172.setTop (mkF m 866 #[.val (.int arg0), .val (.int arg1), .val (.int arg2), .val (.int v1), .val (.int v2), .val (.int v3), .val (.ref b4), .val (.ref b7), .val (.ref so), .val (.ref r2), .unset] [(.ref so)])) (fun t k => XS.aload X1172.here hx rfl (hb hby at_864) rfl rfl k) ?_
      obtain ⟨_, _, ⟨T1173, L1173, k1173, j1173⟩, -, X1173, ⟨Lc1173, hQ1173, l1173, y1173_, z1173_⟩, st1173⟩ := Jvm.LawKit.callS X1172 hx (y := (⟨"com/example/goodput/goodput/DeliveryMode", "named", "(Ljava/lang/String;)Lcom/example/goodput/goodput/DeliveryMode;"⟩ : MethodName)) hown (mvT hZ (w_79 hw)) (mvT hZ (w_80 hw)) (mvT hZ (w_81 hw)) (mvT hZ (w_82 hw)) (by decide) (backOf (W := 0) (rm17p l Z a0 hw [] so sb bs va r1 r2 s1 s2 d1 d2 cs h10 n0 z10 lf10_0 lf10_1 lf10_2 lf10_3 lf10_4 lf10_5 lf10_6 lf10_7 lf10_8 lf10_9 lf10_10 lf10_11 lf10_12 lf10_13 lf10_14 lf10_15 lf10_16 lf10_19 hcs q_s1 q_s2 hbl hc1166 hc1168) hZ (w_82 hw) (w_81 hw) (by decide) (by decide)) (g := (mkF m 866 #[.val (.int arg0), .val (.int arg1), .val (.int arg2), .val (.int v1), .val (.int v2), .val (.int v3), .val (.ref b4), .val (.ref b7), .val (.ref so), .val (.ref r2), .unset] [(.ref so)])) rfl (by rw [hml]; rfl) (argsL := [(.ref so)]) (rest := []) (lenOf own_pd22 rfl) rfl (by show 2 * 0 + _ ≤ _; exact Nat.le_of_eq rfl) (hb hby at_866) (fun _ _ => ⟨rfl, e1172, (by decide : 10 + 1 ≤ _), (by decide : 103 + 2 ≤ _)⟩)
      dsimp only [Pt.U, Pt.locs, Pt.cells, Pt.slots] at X1173 l1173 y1173_ z1173_ st1173 hQ1173
      subst l1173 y1173_ z1173_
      obtain ⟨rfl, N1173q, K1173⟩ := hQ1173
      have N1173 := Fr.app N1167 N1173q
      have ch1174 := ch10.trans (CHr.keep K1173 all0 ch10.1)
      have hk1174 := Nat.le_trans hk10 K1173.1
      have z1175 : n0 ≤ T1173.heap.size := Nat.le_trans z10 K1173.1
      refine own_stW (B := T1173.setTop (mkF m 869 #[.val (.int arg0), .val (.int arg1), .val (.int arg2), .val (.int v1), .val (.int v2), .val (.int v3), .val (.ref b4), .val (.ref b7), .val (.ref so), .val (.ref r2), .unset] [(.ref r2)])) (fun t k => st1173 t k) ?_
      refine own_stW (B := T1173.setTop (mkF m 871 #[.val (.int arg0), .val (.int arg1), .val (.int arg2), .val (.int v1), .val (.int v2), .val (.int v3), .val (.ref b4), .val (.ref b7), .val (.ref so), .val (.ref r2), .val (.ref r2)] [])) (fun t k => XS.astore X1173.here hx rfl (hb hby at_869) rfl rfl (l' := #[.val (.int arg0), .val (.int arg1), .val (.int arg2), .val (.int v1), .val (.int v2), .val (.int v3), .val (.ref b4), .val (.ref b7), .val (.ref so), .val (.ref r2), .val (.ref r2)]) rfl k) ?_
      refine own_stW (B := T1173.setTop (mkF m 873 #[.val (.int arg0), .val (.int arg1), .val (.int arg2), .val (.int v1), .val (.int v2), .val (.int v3), .val (.ref b4), .val (.ref b7), .val (.ref so), .val (.ref r2), .val (.ref r2)] [(.ref r2)])) (fun t k => XS.aload X1173.here hx rfl (hb hby at_871) rfl rfl k) ?_
      refine own_stW (B := T1173.setTop (mkF m 875 #[.val (.int arg0), .val (.int arg1), .val (.int arg2), .val (.int v1), .val (.int v2), .val (.int v3), .val (.ref b4), .val (.ref b7), .val (.ref so), .val (.ref r2), .val (.ref r2)] [(.ref r2), (.ref r2)])) (fun t k => XS.aload X1173.here hx rfl (hb hby at_873) rfl rfl k) ?_
      refine own_stW (B := T1173.setTop (mkF m 878 #[.val (.int arg0), .val (.int arg1), .val (.int arg2), .val (.int v1), .val (.int v2), .val (.int v3), .val (.ref b4), .val (.ref b7), .val (.ref so), .val (.ref r2), .val (.ref r2)] [])) (fun t k => Jvm.RoadKit.acmp (g := (mkF m 875 #[.val (.int arg0), .val (.int arg1), .val (.int arg2), .val (.int v1), .val (.int v2), .val (.int v3), .val (.ref b4), .val (.ref b7), .val (.ref so), .val (.ref r2), .val (.ref r2)] [(.ref r2), (.ref r2)])) X1173 hx rfl rfl rfl (pc0 := 875) (pc' := 878) (same := true) rfl (hb hby at_875) rfl (decide_eq_true rfl) (by decide) (by decide) k) ?_
      refine own_stW (B := T1173.setTop (mkF m 879 #[.val (.int arg0), .val (.int arg1), .val (.int arg2), .val (.int v1), .val (.int v2), .val (.int v3), .val (.ref b4), .val (.ref b7), .val (.ref so), .val (.ref r2), .val (.ref r2)] [(.int (1 : Int32))])) (fun t k => XS.iconst X1173.here hx rfl (hb hby at_878) k) ?_
      refine own_stW (B := T1173.setTop (mkF m 883 #[.val (.int arg0), .val (.int arg1), .val (.int arg2), .val (.int v1), .val (.int v2), .val (.int v3), .val (.ref b4), .val (.ref b7), .val (.ref so), .val (.ref r2), .val (.ref r2)] [(.int (1 : Int32))])) (fun t k => XS.goto X1173.here hx rfl (pc0 := 879) (pc' := 883) rfl (hb hby at_879) (by decide) (by decide) k) ?_
      refine own_retNW X1173 hS10 (show _ ≤ T1173.heap.size by exact hk1174) hx hlk (t := .boolean) Bd.returns (by simp) (z' := (1 : Int32)) rfl (hb hby at_883) (by decide) (by decide) (show CHr Z own_EL s.vm h0 T1173.vm T1173.heap by exact ch1174.trans (CHv.at X1173 hZ (own_ew hw) ch1174.1)) ?_
      show Q0 Z arg0 arg1 arg2 va r1 r2 s1 s2 d1 d2 cs u1 h0 n0 _ T1173.heap _
      exact ⟨rfl, N1173⟩
  · refine own_stW (B := T1165.setTop (mkF m 835 #[.val (.int arg0), .val (.int arg1), .val (.int arg2), .val (.int v1), .val (.int v2), .val (.int v3), .val (.ref b4), .val (.ref b7), .val (.ref so), .unset, .unset] [])) (fun t k => XS.ifNo X1165.here hx rfl (hb hby at_832) rfl (XT.i0_eq_f hc1166) k) ?_
    obtain ⟨T1176, X1176, e1176, st1176⟩ := getS2 X1165 hx hZ hown (host := "") (Or.inl (w_103 hw)) Via.refl e1165q lf10_17 (g := (mkF m 835 #[.val (.int arg0), .val (.int arg1), .val (.int arg2), .val (.int v1), .val (.int v2), .val (.int v3), .val (.ref b4), .val (.ref b7), .val (.ref so), .unset, .unset] [])) rfl (hb hby at_835)
    refine own_stW (B := T1176.setTop (mkF m 838 #[.val (.int arg0), .val (.int arg1), .val (.int arg2), .val (.int v1), .val (.int v2), .val (.int v3), .val (.ref b4), .val (.ref b7), .val (.ref so), .unset, .unset] [(.ref r1)])) (fun t k => st1176 t k) ?_
    refine own_stW (B := T1176.setTop (mkF m 840 #[.val (.int arg0), .val (.int arg1), .val (.int arg2), .val (.int v1), .val (.int v2), .val (.int v3), .val (.ref b4), .val (.ref b7), .val (.ref so), .val (.ref r1), .unset] [])) (fun t k => XS.astore X1176.here hx rfl (hb hby at_838) rfl rfl (l' := #[.val (.int arg0), .val (.int arg1), .val (.int arg2), .val (.int v1), .val (.int v2), .val (.int v3), .val (.ref b4), .val (.ref b7), .val (.ref so), .val (.ref r1), .unset]) rfl k) ?_
    refine own_stW (B := T1176.setTop (mkF m 864 #[.val (.int arg0), .val (.int arg1), .val (.int arg2), .val (.int v1), .val (.int v2), .val (.int v3), .val (.ref b4), .val (.ref b7), .val (.ref so), .val (.ref r1), .unset] [])) (fun t k => XS.goto X1176.here hx rfl (pc0 := 840) (pc' := 864) rfl (hb hby at_840) (by decide) (by decide) k) ?_
    refine own_stW (B := T1176.setTop (mkF m 866 #[.val (.int arg0), .val (.int arg1), .val (.int arg2), .val (.int v1), .val (.int v2), .val (.int v3), .val (.ref b4), .val (.ref b7), .val (.ref so), .val (.ref r1), .unset] [(.ref so)])) (fun t k => XS.aload X1176.here hx rfl (hb hby at_864) rfl rfl k) ?_
    obtain ⟨_, _, ⟨T1177, L1177, k1177, j1177⟩, -, X1177, ⟨Lc1177, hQ1177, l1177, y1177_, z1177_⟩, st1177⟩ := Jvm.LawKit.callS X1176 hx (y := (⟨"com/example/goodput/goodput/DeliveryMode", "named", "(Ljava/lang/String;)Lcom/example/goodput/goodput/DeliveryMode;"⟩ : MethodName)) hown (mvT hZ (w_79 hw)) (mvT hZ (w_80 hw)) (mvT hZ (w_81 hw)) (mvT hZ (w_82 hw)) (by decide) (backOf (W := 0) (rm17d l Z a0 hw [] so sb bs va r1 r2 s1 s2 d1 d2 cs h10 n0 z10 lf10_0 lf10_1 lf10_2 lf10_3 lf10_4 lf10_5 lf10_6 lf10_7 lf10_8 lf10_9 lf10_10 lf10_11 lf10_12 lf10_13 lf10_14 lf10_15 lf10_16 lf10_19 hcs q_s1 q_s2 hbl hc1166) hZ (w_82 hw) (w_81 hw) (by decide) (by decide)) (g := (mkF m 866 #[.val (.int arg0), .val (.int arg1), .val (.int arg2), .val (.int v1), .val (.int v2), .val (.int v3), .val (.ref b4), .val (.ref b7), .val (.ref so), .val (.ref r1), .unset] [(.ref so)])) rfl (by rw [hml]; rfl) (argsL := [(.ref so)]) (rest := []) (lenOf own_pd22 rfl) rfl (by show 2 * 0 + _ ≤ _; exact Nat.le_of_eq rfl) (hb hby at_866) (fun _ _ => ⟨rfl, e1176, (by decide : 10 + 1 ≤ _), (by decide : 103 + 2 ≤ _)⟩)
    dsimp only [Pt.U, Pt.locs, Pt.cells, Pt.slots] at X1177 l1177 y1177_ z1177_ st1177 hQ1177
    subst l1177 y1177_ z1177_
    obtain ⟨rfl, N1177q, K1177⟩ := hQ1177
    have N1177 := Fr.app N1165 N1177q
    have ch1178 := ch10.trans (CHr.keep K1177 all0 ch10.1)
    have hk1178 := Nat.le_trans hk10 K1177.1
    have z1179 : n0 ≤ T1177.heap.size := Nat.le_trans z10 K1177.1
    refine own_stW (B := T1177.setTop (mkF m 869 #[.val (.int arg0), .val (.int arg1), .val (.int arg2), .val (.int v1), .val (.int v2), .val (.int v3), .val (.ref b4), .val (.ref b7), .val (.ref so), .val (.ref r1), .unset] [(.ref r1)])) (fun t k => st1177 t k) ?_
    refine own_stW (B := T1177.setTop (mkF m 871 #[.val (.int arg0), .val (.int arg1), .val (.int arg2), .val (.int v1), .val (.int v2), .val (.int v3), .val (.ref b4), .val (.ref b7), .val (.ref so), .val (.ref r1), .val (.ref r1)] [])) (fun t k => XS.astore X1177.here hx rfl (hb hby at_869) rfl rfl (l' := #[.val (.int arg0), .val (.int arg1), .val (.int arg2), .val (.int v1), .val (.int v2), .val (.int v3), .val (.ref b4), .val (.ref b7), .val (.ref so), .val (.ref r1), .val (.ref r1)]) rfl k) ?_
    refine own_stW (B := T1177.setTop (mkF m 873 #[.val (.int arg0), .val (.int arg1), .val (.int arg2), .val (.int v1), .val (.int v2), .val (.int v3), .val (.ref b4), .val (.ref b7), .val (.ref so), .val (.ref r1), .val (.ref r1)] [(.ref r1)])) (fun t k => XS.aload X1177.here hx rfl (hb hby at_871) rfl rfl k) ?_
    refine own_stW (B := T1177.setTop (mkF m 875 #[.val (.int arg0), .val (.int arg1), .val (.int arg2), .val (.int v1), .val (.int v2), .val (.int v3), .val (.ref b4), .val (.ref b7), .val (.ref so), .val (.ref r1), .val (.ref r1)] [(.ref r1), (.ref r1)])) (fun t k => XS.aload X1177.here hx rfl (hb hby at_873) rfl rfl k) ?_
    refine own_stW (B := T1177.setTop (mkF m 878 #[.val (.int arg0), .val (.int arg1), .val (.int arg2), .val (.int v1), .val (.int v2), .val (.int v3), .val (.ref b4), .val (.ref b7), .val (.ref so), .val (.ref r1), .val (.ref r1)] [])) (fun t k => Jvm.RoadKit.acmp (g := (mkF m 875 #[.val (.int arg0), .val (.int arg1), .val (.int arg2), .val (.int v1), .val (.int v2), .val (.int v3), .val (.ref b4), .val (.ref b7), .val (.ref so), .val (.ref r1), .val (.ref r1)] [(.ref r1), (.ref r1)])) X1177 hx rfl rfl rfl (pc0 := 875) (pc' := 878) (same := true) rfl (hb hby at_875) rfl (decide_eq_true rfl) (by decide) (by decide) k) ?_
    refine own_stW (B := T1177.setTop (mkF m 879 #[.val (.int arg0), .val (.int arg1), .val (.int arg2), .val (.int v1), .val (.int v2), .val (.int v3), .val (.ref b4), .val (.ref b7), .val (.ref so), .val (.ref r1), .val (.ref r1)] [(.int (1 : Int32))])) (fun t k => XS.iconst X1177.here hx rfl (hb hby at_878) k) ?_
    refine own_stW (B := T1177.setTop (mkF m 883 #[.val (.int arg0), .val (.int arg1), .val (.int arg2), .val (.int v1), .val (.int v2), .val (.int v3), .val (.ref b4), .val (.ref b7), .val (.ref so), .val (.ref r1), .val (.ref r1)] [(.int (1 : Int32))])) (fun t k => XS.goto X1177.here hx rfl (pc0 := 879) (pc' := 883) rfl (hb hby at_879) (by decide) (by decide) k) ?_
    refine own_retNW X1177 hS10 (show _ ≤ T1177.heap.size by exact hk1178) hx hlk (t := .boolean) Bd.returns (by simp) (z' := (1 : Int32)) rfl (hb hby at_883) (by decide) (by decide) (show CHr Z own_EL s.vm h0 T1177.vm T1177.heap by exact ch1178.trans (CHv.at X1177 hZ (own_ew hw) ch1178.1)) ?_
    show Q0 Z arg0 arg1 arg2 va r1 r2 s1 s2 d1 d2 cs u1 h0 n0 _ T1177.heap _
    exact ⟨rfl, N1177⟩
theorem own_len0 {Z : State} {args : Array Value} {t : Term} {x : Addr} {cl : Cell} {n : Int32} {k : Nat} (ht : t.eval args Z none [] Z = some (.ref x)) (ha : Z.arrayAt? x = some cl) (hk : n.toInt = (k : Int)) (hk2 : k < 2147483648) (h : (Term.length t).eval args Z none [] Z = some (.int n)) : cl.slots.toList.length = k := by
  by_cases hl : cl.slots.size < 2 ^ 31
  · rw [len_f ht ha hl] at h
    have h1 : cl.slots.size.toInt32 = n := Value.int.inj (Option.some.inj h)
    have h2 := len_toInt hl
    rw [h1, hk] at h2
    rw [Array.length_toList]
    omega
  · simp [Term.eval, ht, ha, hl] at h
theorem own_el0 {Z : State} {args : Array Value} {t : Term} {x : Addr} {cl : Cell} {j : Int32} {k : Nat} {v : Value} (ht : t.eval args Z none [] Z = some (.ref x)) (ha : Z.arrayAt? x = some cl) (hj : j.toInt = (k : Int)) (h : (Term.elem t (Term.int j)).eval args Z none [] Z = some v) : cl.slots.toList[k]? = some v := by
  obtain ⟨n0, n1⟩ := own_ix hj
  rw [elem_f ht (Term.int_eval j) ha n0, n1] at h
  rw [Array.getElem?_toList]; exact h
theorem own_eqr {Z : State} {args : Array Value} {X F : Term} {y : Addr} (hF : F.eval args Z none [] Z = some (.ref y)) (h : (Cond.eq X F).value args Z none Z [] = some true) : X.eval args Z none [] Z = some (.ref y) :=
  Cond.eq_refs (show (Cond.eq X F).holds args Z none Z [] = true by simp [Cond.holds, h]) hF rfl
theorem own_l2 {L : List Value} {v0 v1 : Value} (hl : L.length = 2) (x0 : L[0]? = some v0) (x1 : L[1]? = some v1) : L = [v0, v1] := by
  match L, hl with
  | [u0, u1], _ =>
    obtain rfl : u0 = v0 := Option.some.inj x0
    obtain rfl : u1 = v1 := Option.some.inj x1
    rfl
theorem own_l6 {L : List Value} {v0 v1 v2 v3 v4 v5 : Value} (hl : L.length = 6) (x0 : L[0]? = some v0) (x1 : L[1]? = some v1) (x2 : L[2]? = some v2) (x3 : L[3]? = some v3) (x4 : L[4]? = some v4) (x5 : L[5]? = some v5) : L = [v0, v1, v2, v3, v4, v5] := by
  match L, hl with
  | [u0, u1, u2, u3, u4, u5], _ =>
    obtain rfl : u0 = v0 := Option.some.inj x0
    obtain rfl : u1 = v1 := Option.some.inj x1
    obtain rfl : u2 = v2 := Option.some.inj x2
    obtain rfl : u3 = v3 := Option.some.inj x3
    obtain rfl : u4 = v4 := Option.some.inj x4
    obtain rfl : u5 = v5 := Option.some.inj x5
    rfl
theorem own_l10 {L : List Value} {v0 v1 v2 v3 v4 v5 v6 v7 v8 v9 : Value} (hl : L.length = 10) (x0 : L[0]? = some v0) (x1 : L[1]? = some v1) (x2 : L[2]? = some v2) (x3 : L[3]? = some v3) (x4 : L[4]? = some v4) (x5 : L[5]? = some v5) (x6 : L[6]? = some v6) (x7 : L[7]? = some v7) (x8 : L[8]? = some v8) (x9 : L[9]? = some v9) : L = [v0, v1, v2, v3, v4, v5, v6, v7, v8, v9] := by
  match L, hl with
  | [u0, u1, u2, u3, u4, u5, u6, u7, u8, u9], _ =>
    obtain rfl : u0 = v0 := Option.some.inj x0
    obtain rfl : u1 = v1 := Option.some.inj x1
    obtain rfl : u2 = v2 := Option.some.inj x2
    obtain rfl : u3 = v3 := Option.some.inj x3
    obtain rfl : u4 = v4 := Option.some.inj x4
    obtain rfl : u5 = v5 := Option.some.inj x5
    obtain rfl : u6 = v6 := Option.some.inj x6
    obtain rfl : u7 = v7 := Option.some.inj x7
    obtain rfl : u8 = v8 := Option.some.inj x8
    obtain rfl : u9 = v9 := Option.some.inj x9
    rfl
set_option maxHeartbeats 40000000 in
theorem comes_1 {Post : Tables → Env → Array Value → State → Outcome → State → Prop} (hpost : ∀ tb e args s v u, (limb_1_1.after args s (.returned v) u = true ∧ limb_1_2.after args s (.returned v) u = true ∧ True) → Jvm.D.FramedW s (.returned v) u (Jvm.fieldLocs frame_1_writes args s ++ Jvm.arrayLocs frame_1_arrays args s ++ Jvm.staticLocs frame_1_statics s) 24 3264 → Post tb e args s (.returned v) u) :
    ArmFor flags0 classFile x code maxLocals ret World_1 tables_1 room_1 Calls_1 rest_1 Pre_1 Post := by
  intro l hfl _ _ p e ha hc hk s m args below hf hA hF happ hP
  obtain ⟨hcalls, hrest, hpre⟩ := hP
  obtain ⟨-, -, -, hnamed, -, -, -, hat⟩ := (Spec.applies_iff hf).mp happ
  obtain ⟨hg, hn⟩ := and_e (Cond.before_iff.mp (show (Jvm.Cond.and given_1 narrow_1).before args s = true from hpre))
  obtain ⟨g1a, g1b⟩ := and_e hg
  obtain ⟨g2a, g2b⟩ := and_e g1b
  obtain ⟨g3a, g3b⟩ := and_e g2b
  obtain ⟨w0, w1, w2, rfl⟩ : ∃ w0 w1 w2 : Value, args = #[w0, w1, w2] := by
    have hs : args.size = 3 := by simpa [Cond.value, given_1] using g1a
    obtain ⟨L⟩ := args
    match L, hs with
    | [w0, w1, w2], _ => exact ⟨w0, w1, w2, rfl⟩
  have hw := fun d (hd : d ∈ tables_1) => atoms_spec (ws := Jvm.Cond.code x code maxLocals ret :: tables_1) hat d (List.mem_cons_of_mem _ hd)
  have hfit : Fit s := fun {y c} hc i hi => by
    obtain ⟨ha, rfl⟩ := Array.getElem?_eq_some_iff.mp hc
    have q := List.all_eq_true.mp ((Array.all_eq_true_iff_forall_mem.mp hF) _ (Array.getElem_mem ha)) i (List.mem_range.mpr hi)
    simpa [Array.getElem?_eq_getElem hi] using q
  obtain ⟨hsets, hown0⟩ := atoms_of _ (rest_1_c_eq ▸ (show rest_1_c.before _ s = true from hrest))
  have hr0 := Cond.before_iff.mp hown0
  obtain ⟨i0, ei0⟩ := is_v g2a
  obtain rfl : w0 = (.int i0) := Option.some.inj ei0
  obtain ⟨i1, ei1⟩ := is_v g3a
  obtain rfl : w1 = (.int i1) := Option.some.inj ei1
  obtain ⟨i2, ei2⟩ := is_v g3b
  obtain rfl : w2 = (.int i2) := Option.some.inj ei2
  obtain ⟨nl1, nr1⟩ := and_e hn
  obtain ⟨nl2, nr2⟩ := and_e nr1
  obtain ⟨nl3, nr3⟩ := and_e nr2
  obtain ⟨nl4, nr4⟩ := and_e nr3
  obtain ⟨nl5, nr5⟩ := and_e nr4
  obtain ⟨nl6, nr6⟩ := and_e nr5
  obtain ⟨nl7, nr7⟩ := and_e nr6
  obtain ⟨nl8, nr8⟩ := and_e nr7
  obtain ⟨nl9, nr9⟩ := and_e nr8
  obtain ⟨nl10, nr10⟩ := and_e nr9
  obtain ⟨nl11, nr11⟩ := and_e nr10
  obtain ⟨nl12, nr12⟩ := and_e nr11
  obtain ⟨nl13, nr13⟩ := and_e nr12
  obtain ⟨nl14, nr14⟩ := and_e nr13
  obtain ⟨nl15, nr15⟩ := and_e nr14
  obtain ⟨nl16, nr16⟩ := and_e nr15
  obtain ⟨nl17, nr17⟩ := and_e nr16
  obtain ⟨nl18, nr18⟩ := and_e nr17
  obtain ⟨nl19, nr19⟩ := and_e nr18
  obtain ⟨nl20, nr20⟩ := and_e nr19
  obtain ⟨nl21, nr21⟩ := and_e nr20
  obtain ⟨nl22, nr22⟩ := and_e nr21
  obtain ⟨nl23, nr23⟩ := and_e nr22
  obtain ⟨nl24, nr24⟩ := and_e nr23
  obtain ⟨nl25, nr25⟩ := and_e nr24
  obtain ⟨nl26, nr26⟩ := and_e nr25
  obtain ⟨nl27, nr27⟩ := and_e nr26
  obtain ⟨nl28, nr28⟩ := and_e nr27
  obtain ⟨nl29, nr29⟩ := and_e nr28
  obtain ⟨nl30, nr30⟩ := and_e nr29
  obtain ⟨r_VALUES, er_VALUES⟩ := exa_v nl2
  have S_VALUES : Sta s s.heap "com/example/goodput/goodput/DeliveryMode" "$VALUES" "[Lcom/example/goodput/goodput/DeliveryMode;" (.ref r_VALUES) := Sta.start er_VALUES (Or.inl (w_97 hw))
  have E_VALUES : Exa s s.heap r_VALUES "[Lcom/example/goodput/goodput/DeliveryMode;" := Exa.start er_VALUES nl2
  obtain ⟨r_DIRECT, er_DIRECT⟩ := exa_v nl4
  have S_DIRECT : Sta s s.heap "com/example/goodput/goodput/DeliveryMode" "DIRECT" "Lcom/example/goodput/goodput/DeliveryMode;" (.ref r_DIRECT) := Sta.start er_DIRECT (Or.inr ⟨(w_81 hw), (w_95 hw)⟩)
  obtain ⟨r_PERSISTENT, er_PERSISTENT⟩ := exa_v nl6
  have S_PERSISTENT : Sta s s.heap "com/example/goodput/goodput/DeliveryMode" "PERSISTENT" "Lcom/example/goodput/goodput/DeliveryMode;" (.ref r_PERSISTENT) := Sta.start er_PERSISTENT (Or.inr ⟨(w_81 hw), (w_96 hw)⟩)
  obtain ⟨cv, av⟩ := Arr.start er_VALUES nl1
  have lv := own_len0 (k := 2) er_VALUES (av.fin (Vm.Alike.refl _)) (by decide) (by decide) (eqv_i (Term.int_eval (2)) nl3)
  have xv0 := own_el0 (k := 0) er_VALUES (av.fin (Vm.Alike.refl _)) (by decide) (own_eqr er_DIRECT nl5)
  have xv1 := own_el0 (k := 1) er_VALUES (av.fin (Vm.Alike.refl _)) (by decide) (own_eqr er_PERSISTENT nl7)
  have A_VALUES : own_A s s.heap r_VALUES (.object "com/example/goodput/goodput/DeliveryMode") [.ref r_DIRECT, .ref r_PERSISTENT] := ⟨cv, av, own_l2 lv xv0 xv1⟩
  obtain ⟨nD, enD⟩ := exa_v nl8
  have FND : Fld s s.heap r_DIRECT "com/example/goodput/goodput/DeliveryMode" "name" "Ljava/lang/String;" (.ref nD) := Fld.start ((fld_at er_DIRECT).symm.trans enD)
  have END : Exa s s.heap nD "java/lang/String" := Exa.start enD nl8
  have FCD : Fld s s.heap nD "java/lang/String" "coder" "B" (.int (0 : Int32)) := Fld.start ((fld_at enD).symm.trans (eqv_i (Term.int_eval (0)) nl9))
  obtain ⟨dD, edD⟩ := arr_v nl10
  have FVD : Fld s s.heap nD "java/lang/String" "value" "[B" (.ref dD) := Fld.start ((fld_at enD).symm.trans edD)
  obtain ⟨ccD, acD⟩ := Arr.start edD nl10
  have lcD := own_len0 (k := 6) edD (acD.fin (Vm.Alike.refl _)) (by decide) (by decide) (eqv_i (Term.int_eval (6)) nl11)
  have xD0 := own_el0 (k := 0) edD (acD.fin (Vm.Alike.refl _)) (by decide) (eqv_i (Term.int_eval (100)) nl16)
  have xD1 := own_el0 (k := 1) edD (acD.fin (Vm.Alike.refl _)) (by decide) (eqv_i (Term.int_eval (105)) nl17)
  have xD2 := own_el0 (k := 2) edD (acD.fin (Vm.Alike.refl _)) (by decide) (eqv_i (Term.int_eval (114)) nl18)
  have xD3 := own_el0 (k := 3) edD (acD.fin (Vm.Alike.refl _)) (by decide) (eqv_i (Term.int_eval (101)) nl19)
  have xD4 := own_el0 (k := 4) edD (acD.fin (Vm.Alike.refl _)) (by decide) (eqv_i (Term.int_eval (99)) nl20)
  have xD5 := own_el0 (k := 5) edD (acD.fin (Vm.Alike.refl _)) (by decide) (eqv_i (Term.int_eval (116)) nl21)
  have qlD := own_l6 lcD xD0 xD1 xD2 xD3 xD4 xD5
  have ABD : own_A s s.heap dD .byte (own_d.map Value.int) := ⟨ccD, acD, qlD⟩
  obtain ⟨nP, enP⟩ := exa_v nl12
  have FNP : Fld s s.heap r_PERSISTENT "com/example/goodput/goodput/DeliveryMode" "name" "Ljava/lang/String;" (.ref nP) := Fld.start ((fld_at er_PERSISTENT).symm.trans enP)
  have ENP : Exa s s.heap nP "java/lang/String" := Exa.start enP nl12
  have FCP : Fld s s.heap nP "java/lang/String" "coder" "B" (.int (0 : Int32)) := Fld.start ((fld_at enP).symm.trans (eqv_i (Term.int_eval (0)) nl13))
  obtain ⟨dP, edP⟩ := arr_v nl14
  have FVP : Fld s s.heap nP "java/lang/String" "value" "[B" (.ref dP) := Fld.start ((fld_at enP).symm.trans edP)
  obtain ⟨ccP, acP⟩ := Arr.start edP nl14
  have lcP := own_len0 (k := 10) edP (acP.fin (Vm.Alike.refl _)) (by decide) (by decide) (eqv_i (Term.int_eval (10)) nl15)
  have xP0 := own_el0 (k := 0) edP (acP.fin (Vm.Alike.refl _)) (by decide) (eqv_i (Term.int_eval (112)) nl22)
  have xP1 := own_el0 (k := 1) edP (acP.fin (Vm.Alike.refl _)) (by decide) (eqv_i (Term.int_eval (101)) nl23)
  have xP2 := own_el0 (k := 2) edP (acP.fin (Vm.Alike.refl _)) (by decide) (eqv_i (Term.int_eval (114)) nl24)
  have xP3 := own_el0 (k := 3) edP (acP.fin (Vm.Alike.refl _)) (by decide) (eqv_i (Term.int_eval (115)) nl25)
  have xP4 := own_el0 (k := 4) edP (acP.fin (Vm.Alike.refl _)) (by decide) (eqv_i (Term.int_eval (105)) nl26)
  have xP5 := own_el0 (k := 5) edP (acP.fin (Vm.Alike.refl _)) (by decide) (eqv_i (Term.int_eval (115)) nl27)
  have xP6 := own_el0 (k := 6) edP (acP.fin (Vm.Alike.refl _)) (by decide) (eqv_i (Term.int_eval (116)) nl28)
  have xP7 := own_el0 (k := 7) edP (acP.fin (Vm.Alike.refl _)) (by decide) (eqv_i (Term.int_eval (101)) nl29)
  have xP8 := own_el0 (k := 8) edP (acP.fin (Vm.Alike.refl _)) (by decide) (eqv_i (Term.int_eval (110)) nl30)
  have xP9 := own_el0 (k := 9) edP (acP.fin (Vm.Alike.refl _)) (by decide) (eqv_i (Term.int_eval (116)) nr30)
  have qlP := own_l10 lcP xP0 xP1 xP2 xP3 xP4 xP5 xP6 xP7 xP8 xP9
  have ABP : own_A s s.heap dP .byte (own_q.map Value.int) := ⟨ccP, acP, qlP⟩
  obtain ⟨cs, ecs⟩ := is_v (Cond.before_iff.mp (hsets _ (List.mem_of_getElem? (i := 1) rfl)))
  have S1 : Sta s s.heap "java/lang/String" "COMPACT_STRINGS" "Z" (.int cs) := Sta.start ecs (Or.inl (hsets _ (List.mem_of_getElem? (i := 0) rfl)))
  have hcw := (hsets _ (List.mem_of_getElem? (i := 2) rfl))
  have hcs : ¬ (cs = (0 : Int32)) := gotF (Cond.eq_ints ecs (Term.int_eval (0))) (not_v (Cond.before_iff.mp hcw))
  obtain ⟨us, eus, hus⟩ := isR_v (Cond.before_iff.mp (hsets _ (List.mem_of_getElem? (i := 8) rfl)))
  have S2 : Sta s s.heap "jdk/internal/util/Preconditions" "SIOOBE_FORMATTER" "Ljava/util/function/BiFunction;" us := Sta.start eus (Or.inl (hsets _ (List.mem_of_getElem? (i := 7) rfl)))
  have hCH : CHv s own_EL s.vm s.heap := CHv.start (own_ew hw) (fun p hp => hcalls.1 p hp) hcw (w_3 hw) (w_2 hw)
  obtain ⟨n, o, h1, h2, h3, _, L, rfl, ⟨rfl, N⟩, -, hq⟩ := rm0 l s _ hw tables_1 i0 i1 i2 r_VALUES r_DIRECT r_PERSISTENT nD nP dD dP cs us s.heap s.heap.size (Nat.le_refl _) S_VALUES E_VALUES A_VALUES FND FNP END ENP FCD FVD FCP FVP ABD ABP S_DIRECT S_PERSISTENT S1 S2 hcs (own_isR hus) p e ha hc hk s m _ below hf ((Spec.applies_iff_loose hf).mp happ).1 ⟨rfl, State.Warmed39.refl s, rfl, hCH, all0⟩ trivial
  refine ⟨n, _, h1, h2, h3, hpost _ _ _ _ _ _ ⟨Cond.after_iff.mpr rfl, Cond.after_iff.mpr (eq_i res_at (Term.int_eval (1)) rfl), trivial⟩ ⟨hq.1, hq.2.1, hq.2.2.1, (hq.2.2.2.sift fun y hy => Or.inr (N y hy)).mono (by decide) (by decide)⟩⟩
theorem main_1_1 : Claimed_1_1 := comes_1 fun _ _ _ _ _ _ h hF => ⟨h.1, hF⟩
theorem main_1_2 : Claimed_1_2 := comes_1 fun _ _ _ _ _ _ h hF => ⟨h.2.1, hF⟩
end Jvm.Pilot.@@N@@
namespace Jvm.Pilot.@@N@@
open Jvm Jvm.ClassFile Sem Op Lib Jvm.Free Jvm.Stand Jvm.Pilot.@@N@@.Jvm.D
/-! MADE BY PROGRAM (witnessworld.py) out of the Statement's table words and the real class files: 22 classes; the members and pool entries that the words name. The judged class is class 1, her method 2. -/
namespace start1
open Jvm.ClassFile
def u (s : String) : CpInfo := .utf8 (stringToUtf16 s)
/-- a pool by its gaps: so many unusable entries, then the entry; so many at the end -/
def gap : Nat → List CpInfo → List CpInfo
  | 0, r => r
  | n + 1, r => .unusable :: gap n r
def poolList (es : List (Nat × CpInfo)) (last : Nat) : List CpInfo := es.foldr (fun e r => gap e.1 (e.2 :: r)) (gap last [])
def pool (es : List (Nat × CpInfo)) (last : Nat) : Array CpInfo := ⟨poolList es last⟩
def fileOf (pool : Array CpInfo) (this : Nat) (attrs : Array Attribute := #[]) (ms : Array MethodInfo := #[]) (fl : Nat := 33) (sup : Nat := 0) (ifs : Array Nat := #[]) (fds : Array FieldInfo := #[]) : ClassFile where
  minorVersion := 0
  majorVersion := 65
  constantPool := pool
  accessFlags := fl
  thisClass := this
  superClass := sup
  interfaces := ifs
  fields := fds
  methods := ms
  attributes := attrs
def plain (name : String) (sup : Option ClassId) : Class where
  name := name
  kind := .ordinary
  loader := none
  accessFlags := 33
  super := sup
  interfaces := #[]
  cf := none
  fields := #[]
  methods := #[]
  instanceTypes := #[]
  staticTypes := #[]
  resolved := #[]
  callSites := []
  init := .initialized
  statics := none
  mirror := none

def pool0 : Array CpInfo := pool [(5, u "<init>"), (0, u "()V"), (1, .class_ 10), (1, u "java/lang/Object"), (85, u "clone"), (0, u "()Ljava/lang/Object;")] 26

def k0c0 : Code := { maxStack := 0, maxLocals := 1, code := object_method_1_code, exceptionTable := #[], attributes := #[] }
def k0m0 : Method := { name := "<init>", desc := "()V", sig := { parameters := [], returnType := none }, accessFlags := 1, code := some k0c0 }
def k0m1 : Method := { name := "clone", desc := "()Ljava/lang/Object;", sig := { parameters := [], returnType := some (.object "java/lang/Object") }, accessFlags := 260, code := none }
/-- java/lang/Object -/
def k0 : Class := { plain "java/lang/Object" none with
  accessFlags := 33
  interfaces := #[]
  cf := some (fileOf pool0 8 #[] #[{ accessFlags := 1, nameIndex := 5, descriptorIndex := 6, attributes := #[] }, { accessFlags := 260, nameIndex := 96, descriptorIndex := 97, attributes := #[] }] 33 0 #[] #[])
  fields := #[]
  methods := #[k0m0, k0m1]
  instanceTypes := #[]
  staticTypes := #[]
  resolved := Array.replicate 124 none
  statics := none }

def pool1 : Array CpInfo := pool [(2, .class_ 4), (1, u "java/lang/Object"), (0, u "<init>"), (0, u "()V"), (0, .methodref 8 9), (0, .class_ 10), (0, .nameAndType 11 12), (0, u "java/lang/String"), (0, u "length"), (0, u "()I"), (0, .methodref 8 14), (0, .nameAndType 15 16), (0, u "charAt"), (0, u "(I)C"), (0, .string 18), (0, u "direct"), (0, .string 20), (0, u "persistent"), (0, .methodref 22 23), (0, .class_ 24), (0, .nameAndType 25 26), (0, u "com/example/goodput/goodput/DeliveryModeNamedPinLaw"), (0, u "at"), (0, u "(Ljava/lang/String;IIC)C"), (0, .methodref 8 28), (0, .nameAndType 5 29), (0, u "([C)V"), (0, .methodref 8 31), (0, .nameAndType 32 33), (0, u "equals"), (0, u "(Ljava/lang/Object;)Z"), (0, .fieldref 35 36), (0, .class_ 37), (0, .nameAndType 38 39), (0, u "com/example/goodput/goodput/DeliveryMode"), (0, u "DIRECT"), (0, u "Lcom/example/goodput/goodput/DeliveryMode;"), (0, .fieldref 35 41), (0, .nameAndType 42 39), (0, u "PERSISTENT"), (0, .methodref 35 44), (0, .nameAndType 45 46), (0, u "named"), (0, u "(Ljava/lang/String;)Lcom/example/goodput/goodput/DeliveryMode;"), (3, u "law"), (0, u "(III)Z")] 2

def k1m0 : Method := { name := "<init>", desc := "()V", sig := { parameters := [], returnType := none }, accessFlags := 1, code := none }
def k1c1 : Code := { maxStack := 2, maxLocals := 4, code := method_2_code, exceptionTable := #[], attributes := #[] }
def k1m1 : Method := { name := "at", desc := "(Ljava/lang/String;IIC)C", sig := { parameters := [(.object "java/lang/String"), .int, .int, .char], returnType := some .char }, accessFlags := 10, code := some k1c1 }
def k1c2 : Code := { maxStack := 9, maxLocals := 11, code := code, exceptionTable := #[], attributes := #[] }
def k1m2 : Method := { name := "law", desc := "(III)Z", sig := { parameters := [.int, .int, .int], returnType := some .boolean }, accessFlags := 9, code := some k1c2 }
/-- com/example/goodput/goodput/DeliveryModeNamedPinLaw -/
def k1 : Class := { plain "com/example/goodput/goodput/DeliveryModeNamedPinLaw" (some 0) with
  accessFlags := 49
  interfaces := #[]
  cf := some (fileOf pool1 22 #[] #[{ accessFlags := 1, nameIndex := 5, descriptorIndex := 6, attributes := #[] }, { accessFlags := 10, nameIndex := 25, descriptorIndex := 26, attributes := #[] }, { accessFlags := 9, nameIndex := 50, descriptorIndex := 51, attributes := #[] }] 49 2 #[] #[])
  fields := #[]
  methods := #[k1m0, k1m1, k1m2]
  instanceTypes := #[]
  staticTypes := #[]
  resolved := Array.replicate 54 none
  statics := none }

def pool2 : Array CpInfo := pool [(1, .class_ 2), (0, u "java/io/Serializable"), (0, .class_ 4), (0, u "java/lang/Object")] 2

/-- java/io/Serializable -/
def k2 : Class := { plain "java/io/Serializable" (some 0) with
  accessFlags := 1537
  interfaces := #[]
  cf := some (fileOf pool2 1 #[] #[] 1537 3 #[] #[])
  fields := #[]
  methods := #[]
  instanceTypes := #[]
  staticTypes := #[]
  resolved := Array.replicate 7 none
  statics := none }

def pool3 : Array CpInfo := pool [(1, .class_ 2), (0, u "java/lang/Comparable"), (0, .class_ 4), (0, u "java/lang/Object")] 7

/-- java/lang/Comparable -/
def k3 : Class := { plain "java/lang/Comparable" (some 0) with
  accessFlags := 1537
  interfaces := #[]
  cf := some (fileOf pool3 1 #[] #[] 1537 3 #[] #[])
  fields := #[]
  methods := #[]
  instanceTypes := #[]
  staticTypes := #[]
  resolved := Array.replicate 12 none
  statics := none }

def pool4 : Array CpInfo := pool [(2, .class_ 4), (1, u "java/lang/CharSequence"), (42, .class_ 48), (0, u "java/lang/CharSequence$1CodePointIterator"), (10, .class_ 60), (0, u "java/lang/CharSequence$1CharIterator"), (5, .class_ 67), (0, u "java/lang/Object")] 63

/-- java/lang/CharSequence -/
def k4 : Class := { plain "java/lang/CharSequence" (some 0) with
  accessFlags := 1537
  interfaces := #[]
  cf := some (fileOf pool4 2 #[.nestMembers #[47, 59]] #[] 1537 66 #[] #[])
  fields := #[]
  methods := #[]
  instanceTypes := #[]
  staticTypes := #[]
  resolved := Array.replicate 131 none
  statics := none }

def pool5 : Array CpInfo := pool [(1, .class_ 2), (0, u "java/lang/constant/Constable"), (0, .class_ 4), (0, u "java/lang/Object")] 6

/-- java/lang/constant/Constable -/
def k5 : Class := { plain "java/lang/constant/Constable" (some 0) with
  accessFlags := 1537
  interfaces := #[]
  cf := some (fileOf pool5 1 #[] #[] 1537 3 #[] #[])
  fields := #[]
  methods := #[]
  instanceTypes := #[]
  staticTypes := #[]
  resolved := Array.replicate 11 none
  statics := none }

def pool6 : Array CpInfo := pool [(1, .class_ 2), (0, u "java/lang/constant/ConstantDesc"), (0, .class_ 4), (0, u "java/lang/Object")] 32

/-- java/lang/constant/ConstantDesc -/
def k6 : Class := { plain "java/lang/constant/ConstantDesc" (some 0) with
  accessFlags := 1537
  interfaces := #[]
  cf := some (fileOf pool6 1 #[] #[] 1537 3 #[] #[])
  fields := #[]
  methods := #[]
  instanceTypes := #[]
  staticTypes := #[]
  resolved := Array.replicate 37 none
  statics := none }

def pool7 : Array CpInfo := pool [(1, .methodref 2 3), (0, .class_ 4), (0, .nameAndType 5 6), (0, u "java/lang/Object"), (0, u "<init>"), (0, u "()V"), (0, .string 8), (0, u ""), (0, .fieldref 10 11), (0, .class_ 12), (0, .nameAndType 13 14), (0, u "java/lang/String"), (0, u "value"), (0, u "[B"), (0, .fieldref 10 16), (0, .nameAndType 17 18), (0, u "coder"), (0, u "B"), (2, u "hash"), (0, u "I"), (2, u "hashIsZero"), (0, u "Z"), (0, .methodref 10 28), (0, .nameAndType 5 29), (0, u "([CIILjava/lang/Void;)V"), (8, .fieldref 10 39), (0, .nameAndType 40 26), (0, u "COMPACT_STRINGS"), (1, .class_ 44), (1, u "java/lang/StringUTF16"), (0, u "compress"), (1, .methodref 42 48), (0, .nameAndType 49 50), (0, u "coderFromArrayLen"), (0, u "([BI)B"), (56, .class_ 109), (1, u "java/lang/StringLatin1"), (32, u "()Z"), (34, .methodref 42 178), (0, .nameAndType 45 179), (0, u "([CII)[B"), (154, u "()I"), (0, .methodref 10 336), (0, .nameAndType 17 337), (0, u "()B"), (25, u "([BI)C"), (27, u "(II)V"), (35, u "(I)C"), (64, .methodref 10 493), (0, .nameAndType 494 142), (0, u "isLatin1"), (0, .methodref 107 496), (0, .nameAndType 497 363), (0, u "charAt"), (3, u "checkIndex"), (5, u "length"), (33, .methodref 107 542), (0, .nameAndType 543 544), (0, u "equals"), (0, u "([B[B)Z"), (28, u "(Ljava/lang/Object;)Z"), (1, .class_ 576), (0, u "java/lang/CharSequence"), (22, u "CASE_INSENSITIVE_ORDER"), (0, u "Ljava/util/Comparator;"), (409, u "([C)V"), (42, .fieldref 1054 1055), (0, .class_ 1056), (0, .nameAndType 1057 1058), (0, u "jdk/internal/util/Preconditions"), (0, u "SIOOBE_FORMATTER"), (0, u "Ljava/util/function/BiFunction;"), (0, .methodref 1054 1060), (0, .nameAndType 501 1061), (0, u "(IILjava/util/function/BiFunction;)I"), (39, u "serialPersistentFields"), (0, u "[Ljava/io/ObjectStreamField;"), (0, .class_ 1104), (0, u "java/lang/String$CaseInsensitiveComparator"), (1, .class_ 1107), (0, u "java/io/Serializable"), (0, .class_ 1109), (0, u "java/lang/Comparable"), (0, .class_ 1111), (0, u "java/lang/constant/Constable"), (0, .class_ 1113), (0, u "java/lang/constant/ConstantDesc"), (2, u "serialVersionUID"), (0, u "J"), (3, u "REPL"), (0, u "C"), (2, u "LATIN1"), (1, u "UTF16")] 323

def k7m0 : Method := { name := "<init>", desc := "()V", sig := { parameters := [], returnType := none }, accessFlags := 1, code := none }
def k7c1 : Code := { maxStack := 5, maxLocals := 2, code := jdk_42_method_3_code, exceptionTable := #[], attributes := #[] }
def k7m1 : Method := { name := "<init>", desc := "([C)V", sig := { parameters := [(.array .char)], returnType := none }, accessFlags := 1, code := some k7c1 }
def k7c2 : Code := { maxStack := 2, maxLocals := 1, code := jdk_42_method_54_code, exceptionTable := #[], attributes := #[] }
def k7m2 : Method := { name := "length", desc := "()I", sig := { parameters := [], returnType := some .int }, accessFlags := 1, code := some k7c2 }
def k7c3 : Code := { maxStack := 2, maxLocals := 2, code := jdk_42_method_56_code, exceptionTable := #[], attributes := #[] }
def k7m3 : Method := { name := "charAt", desc := "(I)C", sig := { parameters := [.int], returnType := some .char }, accessFlags := 1, code := some k7c3 }
def k7c4 : Code := { maxStack := 2, maxLocals := 3, code := jdk_42_method_66_code, exceptionTable := #[], attributes := #[] }
def k7m4 : Method := { name := "equals", desc := "(Ljava/lang/Object;)Z", sig := { parameters := [(.object "java/lang/Object")], returnType := some .boolean }, accessFlags := 1, code := some k7c4 }
def k7c5 : Code := { maxStack := 4, maxLocals := 6, code := jdk_42_method_149_code, exceptionTable := #[], attributes := #[] }
def k7m5 : Method := { name := "<init>", desc := "([CIILjava/lang/Void;)V", sig := { parameters := [(.array .char), .int, .int, (.object "java/lang/Void")], returnType := none }, accessFlags := 2, code := some k7c5 }
def k7c6 : Code := { maxStack := 1, maxLocals := 1, code := jdk_42_method_152_code, exceptionTable := #[], attributes := #[] }
def k7m6 : Method := { name := "coder", desc := "()B", sig := { parameters := [], returnType := some .byte }, accessFlags := 0, code := some k7c6 }
def k7c7 : Code := { maxStack := 1, maxLocals := 1, code := jdk_42_method_154_code, exceptionTable := #[], attributes := #[] }
def k7m7 : Method := { name := "isLatin1", desc := "()Z", sig := { parameters := [], returnType := some .boolean }, accessFlags := 0, code := some k7c7 }
def k7c8 : Code := { maxStack := 3, maxLocals := 2, code := jdk_42_method_155_code, exceptionTable := #[], attributes := #[] }
def k7m8 : Method := { name := "checkIndex", desc := "(II)V", sig := { parameters := [.int, .int], returnType := none }, accessFlags := 8, code := some k7c8 }
/-- java/lang/String -/
def k7 : Class := { plain "java/lang/String" (some 0) with
  accessFlags := 49
  interfaces := #[2, 3, 4, 5, 6]
  cf := some (fileOf pool7 10 #[.nestMembers #[1103]] #[{ accessFlags := 1, nameIndex := 5, descriptorIndex := 6, attributes := #[] }, { accessFlags := 1, nameIndex := 5, descriptorIndex := 1010, attributes := #[] }, { accessFlags := 1, nameIndex := 507, descriptorIndex := 334, attributes := #[] }, { accessFlags := 1, nameIndex := 497, descriptorIndex := 427, attributes := #[] }, { accessFlags := 1, nameIndex := 543, descriptorIndex := 573, attributes := #[] }, { accessFlags := 2, nameIndex := 5, descriptorIndex := 29, attributes := #[] }, { accessFlags := 0, nameIndex := 17, descriptorIndex := 337, attributes := #[] }, { accessFlags := 0, nameIndex := 494, descriptorIndex := 142, attributes := #[] }, { accessFlags := 8, nameIndex := 501, descriptorIndex := 391, attributes := #[] }] 49 2 #[1106, 1108, 575, 1110, 1112] #[{ accessFlags := 18, nameIndex := 13, descriptorIndex := 14, attributes := #[] }, { accessFlags := 18, nameIndex := 17, descriptorIndex := 18, attributes := #[] }, { accessFlags := 2, nameIndex := 21, descriptorIndex := 22, attributes := #[] }, { accessFlags := 2, nameIndex := 25, descriptorIndex := 26, attributes := #[] }, { accessFlags := 26, nameIndex := 1116, descriptorIndex := 1117, attributes := #[] }, { accessFlags := 24, nameIndex := 40, descriptorIndex := 26, attributes := #[] }, { accessFlags := 26, nameIndex := 1101, descriptorIndex := 1102, attributes := #[] }, { accessFlags := 26, nameIndex := 1121, descriptorIndex := 1122, attributes := #[] }, { accessFlags := 25, nameIndex := 599, descriptorIndex := 600, attributes := #[] }, { accessFlags := 24, nameIndex := 1125, descriptorIndex := 18, attributes := #[] }, { accessFlags := 24, nameIndex := 1127, descriptorIndex := 18, attributes := #[] }])
  fields := #[{ name := "value", type := (.array .byte), accessFlags := 18, slot := 0, constantValue := 0 }, { name := "coder", type := .byte, accessFlags := 18, slot := 1, constantValue := 0 }, { name := "hash", type := .int, accessFlags := 2, slot := 2, constantValue := 0 }, { name := "hashIsZero", type := .boolean, accessFlags := 2, slot := 3, constantValue := 0 }, { name := "serialVersionUID", type := .long, accessFlags := 26, slot := 0, constantValue := 0 }, { name := "COMPACT_STRINGS", type := .boolean, accessFlags := 24, slot := 1, constantValue := 0 }, { name := "serialPersistentFields", type := (.array (.object "java/io/ObjectStreamField")), accessFlags := 26, slot := 2, constantValue := 0 }, { name := "REPL", type := .char, accessFlags := 26, slot := 3, constantValue := 0 }, { name := "CASE_INSENSITIVE_ORDER", type := (.object "java/util/Comparator"), accessFlags := 25, slot := 4, constantValue := 0 }, { name := "LATIN1", type := .byte, accessFlags := 24, slot := 5, constantValue := 0 }, { name := "UTF16", type := .byte, accessFlags := 24, slot := 6, constantValue := 0 }]
  methods := #[k7m0, k7m1, k7m2, k7m3, k7m4, k7m5, k7m6, k7m7, k7m8]
  instanceTypes := #[(.array .byte), .byte, .int, .boolean]
  staticTypes := #[.long, .boolean, (.array (.object "java/io/ObjectStreamField")), .char, (.object "java/util/Comparator"), .byte, .byte]
  resolved := Array.replicate 1451 none
  statics := some 0 }

def pool8 : Array CpInfo := pool [(1, .class_ 2), (0, u "java/lang/String"), (1, .class_ 6), (1, u "java/lang/Object"), (0, u "<init>"), (0, u "()V"), (0, .methodref 1 10), (0, .nameAndType 11 12), (0, u "checkIndex"), (0, u "(II)V"), (1, .class_ 16), (1, u "java/lang/StringLatin1"), (36, u "([BI)C"), (67, u "$assertionsDisabled"), (0, u "Z"), (98, .class_ 223), (1, u "java/lang/StringLatin1$LinesSpliterator"), (28, u "charAt"), (28, u "equals"), (0, u "([B[B)Z"), (107, .class_ 391), (0, u "java/lang/StringLatin1$CharsSpliterator")] 3

def k8m0 : Method := { name := "<init>", desc := "()V", sig := { parameters := [], returnType := none }, accessFlags := 0, code := none }
def k8c1 : Code := { maxStack := 2, maxLocals := 2, code := jdk_43_method_2_code, exceptionTable := #[], attributes := #[] }
def k8m1 : Method := { name := "charAt", desc := "([BI)C", sig := { parameters := [(.array .byte), .int], returnType := some .char }, accessFlags := 9, code := some k8c1 }
def k8c2 : Code := { maxStack := 3, maxLocals := 3, code := jdk_43_method_13_code, exceptionTable := #[], attributes := #[] }
def k8m2 : Method := { name := "equals", desc := "([B[B)Z", sig := { parameters := [(.array .byte), (.array .byte)], returnType := some .boolean }, accessFlags := 9, code := some k8c2 }
/-- java/lang/StringLatin1 -/
def k8 : Class := { plain "java/lang/StringLatin1" (some 0) with
  accessFlags := 48
  interfaces := #[]
  cf := some (fileOf pool8 14 #[.nestMembers #[390, 221]] #[{ accessFlags := 0, nameIndex := 7, descriptorIndex := 8, attributes := #[] }, { accessFlags := 9, nameIndex := 252, descriptorIndex := 53, attributes := #[] }, { accessFlags := 9, nameIndex := 281, descriptorIndex := 282, attributes := #[] }] 48 4 #[] #[{ accessFlags := 4120, nameIndex := 121, descriptorIndex := 122, attributes := #[] }])
  fields := #[{ name := "$assertionsDisabled", type := .boolean, accessFlags := 4120, slot := 0, constantValue := 0 }]
  methods := #[k8m0, k8m1, k8m2]
  instanceTypes := #[]
  staticTypes := #[.boolean]
  resolved := Array.replicate 395 none
  statics := none }

def pool9 : Array CpInfo := pool [(2, .class_ 4), (1, u "java/lang/Object"), (0, u "<init>"), (0, u "()V"), (17, .class_ 26), (1, u "jdk/internal/util/Preconditions"), (6, u "checkIndex"), (21, .class_ 56), (0, u "jdk/internal/util/Preconditions$4"), (57, .class_ 115), (0, u "jdk/internal/util/Preconditions$1"), (7, u "SIOOBE_FORMATTER"), (0, u "Ljava/util/function/BiFunction;"), (0, .class_ 126), (0, u "jdk/internal/util/Preconditions$2"), (3, u "AIOOBE_FORMATTER"), (0, .class_ 132), (0, u "jdk/internal/util/Preconditions$3"), (3, u "IOOBE_FORMATTER"), (41, u "(IILjava/util/function/BiFunction;)I")] 15

def k9m0 : Method := { name := "<init>", desc := "()V", sig := { parameters := [], returnType := none }, accessFlags := 1, code := none }
def k9c1 : Code := { maxStack := 3, maxLocals := 3, code := jdk_41_method_11_code, exceptionTable := #[], attributes := #[] }
def k9m1 : Method := { name := "checkIndex", desc := "(IILjava/util/function/BiFunction;)I", sig := { parameters := [.int, .int, (.object "java/util/function/BiFunction")], returnType := some .int }, accessFlags := 9, code := some k9c1 }
/-- jdk/internal/util/Preconditions -/
def k9 : Class := { plain "jdk/internal/util/Preconditions" (some 0) with
  accessFlags := 33
  interfaces := #[]
  cf := some (fileOf pool9 24 #[.nestMembers #[55, 131, 125, 114]] #[{ accessFlags := 1, nameIndex := 5, descriptorIndex := 6, attributes := #[] }, { accessFlags := 9, nameIndex := 33, descriptorIndex := 178, attributes := #[] }] 33 2 #[] #[{ accessFlags := 25, nameIndex := 123, descriptorIndex := 124, attributes := #[] }, { accessFlags := 25, nameIndex := 130, descriptorIndex := 124, attributes := #[] }, { accessFlags := 25, nameIndex := 136, descriptorIndex := 124, attributes := #[] }])
  fields := #[{ name := "SIOOBE_FORMATTER", type := (.object "java/util/function/BiFunction"), accessFlags := 25, slot := 0, constantValue := 0 }, { name := "AIOOBE_FORMATTER", type := (.object "java/util/function/BiFunction"), accessFlags := 25, slot := 1, constantValue := 0 }, { name := "IOOBE_FORMATTER", type := (.object "java/util/function/BiFunction"), accessFlags := 25, slot := 2, constantValue := 0 }]
  methods := #[k9m0, k9m1]
  instanceTypes := #[]
  staticTypes := #[(.object "java/util/function/BiFunction"), (.object "java/util/function/BiFunction"), (.object "java/util/function/BiFunction")]
  resolved := Array.replicate 194 none
  statics := some 1 }

def pool10 : Array CpInfo := pool [(6, .class_ 8), (1, u "java/lang/Object"), (0, u "<init>"), (0, u "()V"), (1, .class_ 14), (1, u "java/lang/StringUTF16"), (31, u "$assertionsDisabled"), (0, u "Z"), (13, u "HI_BYTE_SHIFT"), (0, u "I"), (2, u "LO_BYTE_SHIFT"), (49, .methodref 12 116), (0, .nameAndType 117 118), (0, u "compress"), (0, u "([CI[BII)I"), (3, u "([CII)[B"), (138, u "coderFromArrayLen"), (0, u "([BI)B"), (106, .class_ 371), (1, u "java/lang/StringUTF16$LinesSpliterator"), (58, u "MAX_LENGTH"), (196, .class_ 628), (0, u "java/lang/StringUTF16$CodePointsSpliterator"), (0, .class_ 630), (0, u "java/lang/StringUTF16$CharsSpliterator")] 4

def k10m0 : Method := { name := "<init>", desc := "()V", sig := { parameters := [], returnType := none }, accessFlags := 0, code := none }
def k10c1 : Code := { maxStack := 2, maxLocals := 2, code := jdk_52_method_15_code, exceptionTable := #[], attributes := #[] }
def k10m1 : Method := { name := "coderFromArrayLen", desc := "([BI)B", sig := { parameters := [(.array .byte), .int], returnType := some .byte }, accessFlags := 8, code := some k10c1 }
def k10c2 : Code := { maxStack := 5, maxLocals := 6, code := jdk_52_method_16_code, exceptionTable := #[], attributes := #[] }
def k10m2 : Method := { name := "compress", desc := "([CII)[B", sig := { parameters := [(.array .char), .int, .int], returnType := some (.array .byte) }, accessFlags := 9, code := some k10c2 }
def k10c3 : Code := { maxStack := 3, maxLocals := 7, code := jdk_52_method_21_code, exceptionTable := #[], attributes := #[] }
def k10m3 : Method := { name := "compress", desc := "([CI[BII)I", sig := { parameters := [(.array .char), .int, (.array .byte), .int, .int], returnType := some .int }, accessFlags := 9, code := some k10c3 }
/-- java/lang/StringUTF16 -/
def k10 : Class := { plain "java/lang/StringUTF16" (some 0) with
  accessFlags := 48
  interfaces := #[]
  cf := some (fileOf pool10 12 #[.nestMembers #[627, 629, 369]] #[{ accessFlags := 0, nameIndex := 9, descriptorIndex := 10, attributes := #[] }, { accessFlags := 8, nameIndex := 261, descriptorIndex := 262, attributes := #[] }, { accessFlags := 9, nameIndex := 117, descriptorIndex := 122, attributes := #[] }, { accessFlags := 9, nameIndex := 117, descriptorIndex := 118, attributes := #[] }] 48 6 #[] #[{ accessFlags := 26, nameIndex := 61, descriptorIndex := 62, attributes := #[] }, { accessFlags := 26, nameIndex := 65, descriptorIndex := 62, attributes := #[] }, { accessFlags := 24, nameIndex := 430, descriptorIndex := 62, attributes := #[] }, { accessFlags := 4120, nameIndex := 46, descriptorIndex := 47, attributes := #[] }])
  fields := #[{ name := "HI_BYTE_SHIFT", type := .int, accessFlags := 26, slot := 0, constantValue := 0 }, { name := "LO_BYTE_SHIFT", type := .int, accessFlags := 26, slot := 1, constantValue := 0 }, { name := "MAX_LENGTH", type := .int, accessFlags := 24, slot := 2, constantValue := 0 }, { name := "$assertionsDisabled", type := .boolean, accessFlags := 4120, slot := 3, constantValue := 0 }]
  methods := #[k10m0, k10m1, k10m2, k10m3]
  instanceTypes := #[]
  staticTypes := #[.int, .int, .int, .boolean]
  resolved := Array.replicate 635 none
  statics := none }

def pool11 : Array CpInfo := pool [(2, .class_ 4), (1, u "java/lang/Enum"), (0, u "name"), (0, u "Ljava/lang/String;"), (2, u "ordinal"), (0, u "I"), (1, .class_ 14), (1, u "java/lang/Object"), (4, u "hash"), (86, .class_ 108), (1, u "java/lang/Enum$EnumDesc"), (2, .class_ 112), (0, u "java/lang/constant/Constable"), (0, .class_ 114), (0, u "java/lang/Comparable"), (0, .class_ 116), (0, u "java/io/Serializable")] 87

/-- java/lang/Enum -/
def k11 : Class := { plain "java/lang/Enum" (some 0) with
  accessFlags := 1057
  interfaces := #[5, 3, 2]
  cf := some (fileOf pool11 2 #[.nestMembers #[106]] #[] 1057 12 #[111, 113, 115] #[{ accessFlags := 18, nameIndex := 5, descriptorIndex := 6, attributes := #[] }, { accessFlags := 18, nameIndex := 9, descriptorIndex := 10, attributes := #[] }, { accessFlags := 2, nameIndex := 19, descriptorIndex := 10, attributes := #[] }])
  fields := #[{ name := "name", type := (.object "java/lang/String"), accessFlags := 18, slot := 0, constantValue := 0 }, { name := "ordinal", type := .int, accessFlags := 18, slot := 1, constantValue := 0 }, { name := "hash", type := .int, accessFlags := 2, slot := 2, constantValue := 0 }]
  methods := #[]
  instanceTypes := #[(.object "java/lang/String"), .int, .int]
  staticTypes := #[]
  resolved := Array.replicate 204 none
  statics := none }

def pool12 : Array CpInfo := pool [(1, .class_ 2), (0, u "com/example/goodput/goodput/DeliveryMode"), (2, u "DIRECT"), (0, u "Lcom/example/goodput/goodput/DeliveryMode;"), (2, u "PERSISTENT"), (0, .fieldref 1 11), (0, .nameAndType 12 13), (0, u "$VALUES"), (0, u "[Lcom/example/goodput/goodput/DeliveryMode;"), (0, .methodref 15 16), (0, .class_ 13), (0, .nameAndType 17 18), (0, u "clone"), (0, u "()Ljava/lang/Object;"), (1, .class_ 22), (1, u "java/lang/Enum"), (6, .fieldref 1 30), (0, .nameAndType 31 32), (0, u "name"), (0, u "Ljava/lang/String;"), (0, .methodref 1 34), (0, .nameAndType 35 36), (0, u "values"), (0, u "()[Lcom/example/goodput/goodput/DeliveryMode;"), (0, .methodref 38 39), (0, .class_ 40), (0, .nameAndType 41 42), (0, u "java/lang/String"), (0, u "equals"), (0, u "(Ljava/lang/Object;)Z"), (14, u "(Ljava/lang/String;)Lcom/example/goodput/goodput/DeliveryMode;"), (3, u "named")] 8

def k12c0 : Code := { maxStack := 1, maxLocals := 0, code := prog_10_method_1_code, exceptionTable := #[], attributes := #[] }
def k12m0 : Method := { name := "values", desc := "()[Lcom/example/goodput/goodput/DeliveryMode;", sig := { parameters := [], returnType := some (.array (.object "com/example/goodput/goodput/DeliveryMode")) }, accessFlags := 9, code := some k12c0 }
def k12c1 : Code := { maxStack := 2, maxLocals := 5, code := prog_10_method_4_code, exceptionTable := #[], attributes := #[] }
def k12m1 : Method := { name := "named", desc := "(Ljava/lang/String;)Lcom/example/goodput/goodput/DeliveryMode;", sig := { parameters := [(.object "java/lang/String")], returnType := some (.object "com/example/goodput/goodput/DeliveryMode") }, accessFlags := 9, code := some k12c1 }
/-- com/example/goodput/goodput/DeliveryMode -/
def k12 : Class := { plain "com/example/goodput/goodput/DeliveryMode" (some 11) with
  accessFlags := 16433
  interfaces := #[]
  cf := some (fileOf pool12 1 #[] #[{ accessFlags := 9, nameIndex := 35, descriptorIndex := 36, attributes := #[] }, { accessFlags := 9, nameIndex := 61, descriptorIndex := 57, attributes := #[] }] 16433 20 #[] #[{ accessFlags := 16409, nameIndex := 5, descriptorIndex := 6, attributes := #[] }, { accessFlags := 16409, nameIndex := 9, descriptorIndex := 6, attributes := #[] }, { accessFlags := 18, nameIndex := 31, descriptorIndex := 32, attributes := #[] }, { accessFlags := 4122, nameIndex := 12, descriptorIndex := 13, attributes := #[] }])
  fields := #[{ name := "DIRECT", type := (.object "com/example/goodput/goodput/DeliveryMode"), accessFlags := 16409, slot := 0, constantValue := 0 }, { name := "PERSISTENT", type := (.object "com/example/goodput/goodput/DeliveryMode"), accessFlags := 16409, slot := 1, constantValue := 0 }, { name := "name", type := (.object "java/lang/String"), accessFlags := 18, slot := 3, constantValue := 0 }, { name := "$VALUES", type := (.array (.object "com/example/goodput/goodput/DeliveryMode")), accessFlags := 4122, slot := 2, constantValue := 0 }]
  methods := #[k12m0, k12m1]
  instanceTypes := #[(.object "java/lang/String"), .int, .int, (.object "java/lang/String")]
  staticTypes := #[(.object "com/example/goodput/goodput/DeliveryMode"), (.object "com/example/goodput/goodput/DeliveryMode"), (.array (.object "com/example/goodput/goodput/DeliveryMode"))]
  resolved := Array.replicate 70 none
  statics := some 2 }

def pool13 : Array CpInfo := pool [(1, .class_ 2), (0, u "java/lang/Cloneable"), (0, .class_ 4), (0, u "java/lang/Object")] 2

/-- java/lang/Cloneable -/
def k13 : Class := { plain "java/lang/Cloneable" (some 0) with
  accessFlags := 1537
  interfaces := #[]
  cf := some (fileOf pool13 1 #[] #[] 1537 3 #[] #[])
  fields := #[]
  methods := #[]
  instanceTypes := #[]
  staticTypes := #[]
  resolved := Array.replicate 7 none
  statics := none }

def pool14 : Array CpInfo := pool [(9, u "<init>"), (6, .class_ 18), (1, u "java/lang/Object"), (0, u "()V"), (1, .class_ 23), (1, u "jdk/internal/util/ArraysSupport"), (0, u "LOG2_ARRAY_LONG_INDEX_SCALE"), (0, u "I"), (2, u "U"), (0, u "Ljdk/internal/misc/Unsafe;"), (8, u "BIG_ENDIAN"), (0, u "Z"), (8, u "LOG2_BYTE_BIT_SIZE"), (4, u "LOG2_ARRAY_INT_INDEX_SCALE"), (54, u "JLA"), (0, u "Ljdk/internal/access/JavaLangAccess;"), (11, u "LOG2_ARRAY_BOOLEAN_INDEX_SCALE"), (9, u "LOG2_ARRAY_BYTE_INDEX_SCALE"), (5, u "LOG2_ARRAY_CHAR_INDEX_SCALE"), (5, u "LOG2_ARRAY_SHORT_INDEX_SCALE"), (18, u "LOG2_ARRAY_FLOAT_INDEX_SCALE"), (24, u "LOG2_ARRAY_DOUBLE_INDEX_SCALE"), (89, u "T_BOOLEAN"), (2, u "T_CHAR"), (1, u "T_FLOAT"), (1, u "T_DOUBLE"), (1, u "T_BYTE"), (1, u "T_SHORT"), (1, u "T_INT"), (1, u "T_LONG"), (1, u "SOFT_MAX_ARRAY_LENGTH")] 83

def k14m0 : Method := { name := "<init>", desc := "()V", sig := { parameters := [], returnType := none }, accessFlags := 2, code := none }
/-- jdk/internal/util/ArraysSupport -/
def k14 : Class := { plain "jdk/internal/util/ArraysSupport" (some 0) with
  accessFlags := 33
  interfaces := #[]
  cf := some (fileOf pool14 21 #[] #[{ accessFlags := 2, nameIndex := 9, descriptorIndex := 19, attributes := #[] }] 33 16 #[] #[{ accessFlags := 24, nameIndex := 28, descriptorIndex := 29, attributes := #[] }, { accessFlags := 26, nameIndex := 38, descriptorIndex := 39, attributes := #[] }, { accessFlags := 25, nameIndex := 121, descriptorIndex := 25, attributes := #[] }, { accessFlags := 25, nameIndex := 131, descriptorIndex := 25, attributes := #[] }, { accessFlags := 25, nameIndex := 137, descriptorIndex := 25, attributes := #[] }, { accessFlags := 25, nameIndex := 143, descriptorIndex := 25, attributes := #[] }, { accessFlags := 25, nameIndex := 53, descriptorIndex := 25, attributes := #[] }, { accessFlags := 25, nameIndex := 24, descriptorIndex := 25, attributes := #[] }, { accessFlags := 25, nameIndex := 162, descriptorIndex := 25, attributes := #[] }, { accessFlags := 25, nameIndex := 187, descriptorIndex := 25, attributes := #[] }, { accessFlags := 26, nameIndex := 48, descriptorIndex := 25, attributes := #[] }, { accessFlags := 25, nameIndex := 277, descriptorIndex := 25, attributes := #[] }, { accessFlags := 25, nameIndex := 280, descriptorIndex := 25, attributes := #[] }, { accessFlags := 25, nameIndex := 282, descriptorIndex := 25, attributes := #[] }, { accessFlags := 25, nameIndex := 284, descriptorIndex := 25, attributes := #[] }, { accessFlags := 25, nameIndex := 286, descriptorIndex := 25, attributes := #[] }, { accessFlags := 25, nameIndex := 288, descriptorIndex := 25, attributes := #[] }, { accessFlags := 25, nameIndex := 290, descriptorIndex := 25, attributes := #[] }, { accessFlags := 25, nameIndex := 292, descriptorIndex := 25, attributes := #[] }, { accessFlags := 26, nameIndex := 108, descriptorIndex := 109, attributes := #[] }, { accessFlags := 25, nameIndex := 294, descriptorIndex := 25, attributes := #[] }])
  fields := #[{ name := "U", type := (.object "jdk/internal/misc/Unsafe"), accessFlags := 24, slot := 0, constantValue := 0 }, { name := "BIG_ENDIAN", type := .boolean, accessFlags := 26, slot := 1, constantValue := 0 }, { name := "LOG2_ARRAY_BOOLEAN_INDEX_SCALE", type := .int, accessFlags := 25, slot := 2, constantValue := 0 }, { name := "LOG2_ARRAY_BYTE_INDEX_SCALE", type := .int, accessFlags := 25, slot := 3, constantValue := 0 }, { name := "LOG2_ARRAY_CHAR_INDEX_SCALE", type := .int, accessFlags := 25, slot := 4, constantValue := 0 }, { name := "LOG2_ARRAY_SHORT_INDEX_SCALE", type := .int, accessFlags := 25, slot := 5, constantValue := 0 }, { name := "LOG2_ARRAY_INT_INDEX_SCALE", type := .int, accessFlags := 25, slot := 6, constantValue := 0 }, { name := "LOG2_ARRAY_LONG_INDEX_SCALE", type := .int, accessFlags := 25, slot := 7, constantValue := 0 }, { name := "LOG2_ARRAY_FLOAT_INDEX_SCALE", type := .int, accessFlags := 25, slot := 8, constantValue := 0 }, { name := "LOG2_ARRAY_DOUBLE_INDEX_SCALE", type := .int, accessFlags := 25, slot := 9, constantValue := 0 }, { name := "LOG2_BYTE_BIT_SIZE", type := .int, accessFlags := 26, slot := 10, constantValue := 0 }, { name := "T_BOOLEAN", type := .int, accessFlags := 25, slot := 11, constantValue := 0 }, { name := "T_CHAR", type := .int, accessFlags := 25, slot := 12, constantValue := 0 }, { name := "T_FLOAT", type := .int, accessFlags := 25, slot := 13, constantValue := 0 }, { name := "T_DOUBLE", type := .int, accessFlags := 25, slot := 14, constantValue := 0 }, { name := "T_BYTE", type := .int, accessFlags := 25, slot := 15, constantValue := 0 }, { name := "T_SHORT", type := .int, accessFlags := 25, slot := 16, constantValue := 0 }, { name := "T_INT", type := .int, accessFlags := 25, slot := 17, constantValue := 0 }, { name := "T_LONG", type := .int, accessFlags := 25, slot := 18, constantValue := 0 }, { name := "JLA", type := (.object "jdk/internal/access/JavaLangAccess"), accessFlags := 26, slot := 19, constantValue := 0 }, { name := "SOFT_MAX_ARRAY_LENGTH", type := .int, accessFlags := 25, slot := 20, constantValue := 0 }]
  methods := #[k14m0]
  instanceTypes := #[]
  staticTypes := #[(.object "jdk/internal/misc/Unsafe"), .boolean, .int, .int, .int, .int, .int, .int, .int, .int, .int, .int, .int, .int, .int, .int, .int, .int, .int, (.object "jdk/internal/access/JavaLangAccess"), .int]
  resolved := Array.replicate 378 none
  statics := none }

/-- the primitive byte -/
def k15 : Class := { plain "byte" none with kind := .primitive 'B', accessFlags := 0x411 }
/-- [B -/
def k16 : Class := { plain "[B" (some 0) with kind := .array 15 .byte, interfaces := #[13, 2], accessFlags := 1041 }

/-- the primitive char -/
def k17 : Class := { plain "char" none with kind := .primitive 'C', accessFlags := 0x411 }
/-- [C -/
def k18 : Class := { plain "[C" (some 0) with kind := .array 17 .char, interfaces := #[13, 2], accessFlags := 1041 }

/-- the primitive int -/
def k19 : Class := { plain "int" none with kind := .primitive 'I', accessFlags := 0x411 }
/-- [I -/
def k20 : Class := { plain "[I" (some 0) with kind := .array 19 .int, interfaces := #[13, 2], accessFlags := 1041 }

/-- [Lcom/example/goodput/goodput/DeliveryMode; -/
def k21 : Class := { plain "[Lcom/example/goodput/goodput/DeliveryMode;" (some 0) with kind := .array 12 (.object "com/example/goodput/goodput/DeliveryMode"), interfaces := #[13, 2], accessFlags := 1041 }

def heap : Heap := #[{ cls := 7, slots := #[.long 0, .int 1, .null, .int 0, .null, .int 0, .int 0], vm := .statics 7 },
  { cls := 9, slots := #[.null, .null, .null], vm := .statics 9 },
  { cls := 12, slots := #[.ref 4, .ref 5, .ref 3], vm := .statics 12 },
  { cls := 21, slots := #[.ref 4, .ref 5], vm := .none },
  { cls := 12, slots := #[.null, .int 0, .int 0, .ref 6], vm := .none },
  { cls := 12, slots := #[.null, .int 1, .int 0, .ref 7], vm := .none },
  { cls := 7, slots := #[.ref 8, .int 0, .int 0, .int 0], vm := .none },
  { cls := 7, slots := #[.ref 9, .int 0, .int 0, .int 0], vm := .none },
  { cls := 16, slots := #[.int 100, .int 105, .int 114, .int 101, .int 99, .int 116], vm := .none },
  { cls := 16, slots := #[.int 112, .int 101, .int 114, .int 115, .int 105, .int 115, .int 116, .int 101, .int 110, .int 116], vm := .none }]
def classes : Array Class := #[k0, k1, k2, k3, k4, k5, k6, k7, k8, k9, k10, k11, k12, k13, k14, k15, k16, k17, k18, k19, k20, k21]
def interned : List (Array UInt16 × Addr) := []
def slotsUsed : Nat := 47
def theMethod : MethodId := ⟨1, 2⟩
def args0 : Array Value := #[.int 5, .int 5, .int 5]
def aboutOver (below : List Frame) : State where
  vm := { classes := classes, interned := interned.toArray }
  heap := heap
  slotsUsed := slotsUsed
  threads := #[{ frames := .invoking theMethod args0 :: below }]
def below0 : List Frame := [.native { method := ⟨0, 0⟩, args := #[] }]
def about1 : State := aboutOver below0
def p0 : Program := .bare "" "" ""
def e0 : Env := launch0.env 0 0 0
theorem w_frames : about1.frames = Frame.invoking theMethod args0 :: below0 := rfl
set_option maxRecDepth 65536 in
theorem w_args : argsFit about1.vm theMethod args0 = true := by decide +kernel
set_option maxRecDepth 65536 in
theorem w_heap : heapFits about1 = true := by decide +kernel
set_option maxRecDepth 65536 in
theorem w_runnable : about1.curStatus? = some .runnable := by decide +kernel
set_option maxRecDepth 65536 in
theorem w_alone : about1.alone = true := by decide +kernel
set_option maxRecDepth 65536 in
theorem w_named : about1.methodNamed? x = some theMethod := by decide +kernel
set_option maxRecDepth 65536 in
theorem w_hears : about1.hears theMethod below0 = true := by decide +kernel
set_option maxRecDepth 65536 in
theorem w_ripe : about1.ripe theMethod args0 below0 = true := by decide +kernel
theorem w_running : about1.status = .running := rfl
set_option maxRecDepth 65536 in
theorem w_room : about1.hasRoom e0.platform room_1 = true :=
  launch0.hasRoom_least _ room_1 (by decide +kernel) (by decide +kernel) (by decide +kernel) (by decide +kernel) (by decide +kernel) (by decide +kernel)
theorem allAtoms_all (ts : List Jvm.Cond) (a : Array Jvm.Value) (st : Jvm.State) : (allAtoms ts).before a st = ts.all (fun c => c.before a st) := by
  induction ts with
  | nil => rfl
  | cons c t ih =>
    show (Jvm.Cond.and c (allAtoms t)).before a st = _
    rw [Jvm.Cond.before_and, ih, List.all_cons]
def words1 : List Jvm.Cond := Jvm.Cond.code x code maxLocals ret :: tables_1
/-- a 'code' word, met by the world's own term for the bytes: nothing is compared byte by byte -/
theorem code_word {y : MethodName} {bytes : ByteArray} {mx : Nat} {rt : Option FieldType} {a : Array Value} {s : State} {m : MethodId} {meth : Method} {c : Code} (h1 : s.methodNamed? y = some m) (h2 : s.vm.method? m = some meth) (h3 : meth.code = some c) (h4 : c.code = bytes)
    (h5 : (c.maxLocals == mx && c.exceptionTable.isEmpty && decide (c.maxStack ≤ mostOperands) && decide (meth.sig.returnType = rt) && !meth.locks && decide (parseMethodDescriptor y.desc = some meth.sig)) = true) : (Jvm.Cond.code y bytes mx rt).before a s = true := by
  simp only [Bool.and_eq_true, beq_iff_eq, Bool.not_eq_true', decide_eq_true_eq] at h5
  obtain ⟨⟨⟨⟨⟨g1, g2⟩, g3⟩, g4⟩, g5⟩, g6⟩ := h5
  simp [Cond.before, Cond.holds, Cond.value, h1, h2, h3, h4, g1, g2, g3, g4, g5, g6]
def isCode : Jvm.Cond → Bool
  | .code _ _ _ _ => true
  | _ => false
theorem all_split {L : List Jvm.Cond} {P : Jvm.Cond → Bool} (h1 : L.all (fun c => isCode c || P c) = true) (h2 : ∀ c ∈ L.filter isCode, P c = true) : L.all P = true := by
  refine List.all_eq_true.mpr fun c hc => ?_
  have h := List.all_eq_true.mp h1 c hc
  rcases Bool.eq_false_or_eq_true (isCode c) with hi | hi
  · exact h2 c (List.mem_filter.mpr ⟨hc, hi⟩)
  · simpa [hi] using h
set_option maxRecDepth 65536 in
theorem w_c0 : (Jvm.Cond.code x code maxLocals ret).before args0 about1 = true := code_word (m := ⟨1, 2⟩) (meth := k1m2) (c := k1c2) (by decide +kernel) rfl rfl rfl (by decide +kernel)
set_option maxRecDepth 65536 in
theorem w_c1 : (Jvm.Cond.code ({ cls := "com/example/goodput/goodput/DeliveryModeNamedPinLaw", name := "at", desc := "(Ljava/lang/String;IIC)C" } : Jvm.MethodName) method_2_code (4 : Nat) (Option.some Jvm.ClassFile.FieldType.char)).before args0 about1 = true := code_word (m := ⟨1, 1⟩) (meth := k1m1) (c := k1c1) (by decide +kernel) rfl rfl rfl (by decide +kernel)
set_option maxRecDepth 65536 in
theorem w_c2 : (Jvm.Cond.code ({ cls := "java/lang/String", name := "length", desc := "()I" } : Jvm.MethodName) jdk_42_method_54_code (1 : Nat) (Option.some Jvm.ClassFile.FieldType.int)).before args0 about1 = true := code_word (m := ⟨7, 2⟩) (meth := k7m2) (c := k7c2) (by decide +kernel) rfl rfl rfl (by decide +kernel)
set_option maxRecDepth 65536 in
theorem w_c3 : (Jvm.Cond.code ({ cls := "java/lang/String", name := "coder", desc := "()B" } : Jvm.MethodName) jdk_42_method_152_code (1 : Nat) (Option.some Jvm.ClassFile.FieldType.byte)).before args0 about1 = true := code_word (m := ⟨7, 6⟩) (meth := k7m6) (c := k7c6) (by decide +kernel) rfl rfl rfl (by decide +kernel)
set_option maxRecDepth 65536 in
theorem w_c4 : (Jvm.Cond.code ({ cls := "java/lang/String", name := "charAt", desc := "(I)C" } : Jvm.MethodName) jdk_42_method_56_code (2 : Nat) (Option.some Jvm.ClassFile.FieldType.char)).before args0 about1 = true := code_word (m := ⟨7, 3⟩) (meth := k7m3) (c := k7c3) (by decide +kernel) rfl rfl rfl (by decide +kernel)
set_option maxRecDepth 65536 in
theorem w_c5 : (Jvm.Cond.code ({ cls := "java/lang/String", name := "isLatin1", desc := "()Z" } : Jvm.MethodName) jdk_42_method_154_code (1 : Nat) (Option.some Jvm.ClassFile.FieldType.boolean)).before args0 about1 = true := code_word (m := ⟨7, 7⟩) (meth := k7m7) (c := k7c7) (by decide +kernel) rfl rfl rfl (by decide +kernel)
set_option maxRecDepth 65536 in
theorem w_c6 : (Jvm.Cond.code ({ cls := "java/lang/StringLatin1", name := "charAt", desc := "([BI)C" } : Jvm.MethodName) jdk_43_method_2_code (2 : Nat) (Option.some Jvm.ClassFile.FieldType.char)).before args0 about1 = true := code_word (m := ⟨8, 1⟩) (meth := k8m1) (c := k8c1) (by decide +kernel) rfl rfl rfl (by decide +kernel)
set_option maxRecDepth 65536 in
theorem w_c7 : (Jvm.Cond.code ({ cls := "java/lang/String", name := "checkIndex", desc := "(II)V" } : Jvm.MethodName) jdk_42_method_155_code (2 : Nat) (Option.none : Option Jvm.ClassFile.FieldType)).before args0 about1 = true := code_word (m := ⟨7, 8⟩) (meth := k7m8) (c := k7c8) (by decide +kernel) rfl rfl rfl (by decide +kernel)
set_option maxRecDepth 65536 in
theorem w_c8 : (Jvm.Cond.code ({ cls := "jdk/internal/util/Preconditions", name := "checkIndex", desc := "(IILjava/util/function/BiFunction;)I" } : Jvm.MethodName) jdk_41_method_11_code (3 : Nat) (Option.some Jvm.ClassFile.FieldType.int)).before args0 about1 = true := code_word (m := ⟨9, 1⟩) (meth := k9m1) (c := k9c1) (by decide +kernel) rfl rfl rfl (by decide +kernel)
set_option maxRecDepth 65536 in
theorem w_c9 : (Jvm.Cond.code ({ cls := "java/lang/String", name := "<init>", desc := "([C)V" } : Jvm.MethodName) jdk_42_method_3_code (2 : Nat) (Option.none : Option Jvm.ClassFile.FieldType)).before args0 about1 = true := code_word (m := ⟨7, 1⟩) (meth := k7m1) (c := k7c1) (by decide +kernel) rfl rfl rfl (by decide +kernel)
set_option maxRecDepth 65536 in
theorem w_c10 : (Jvm.Cond.code ({ cls := "java/lang/String", name := "<init>", desc := "([CIILjava/lang/Void;)V" } : Jvm.MethodName) jdk_42_method_149_code (6 : Nat) (Option.none : Option Jvm.ClassFile.FieldType)).before args0 about1 = true := code_word (m := ⟨7, 5⟩) (meth := k7m5) (c := k7c5) (by decide +kernel) rfl rfl rfl (by decide +kernel)
set_option maxRecDepth 65536 in
theorem w_c11 : (Jvm.Cond.code ({ cls := "java/lang/Object", name := "<init>", desc := "()V" } : Jvm.MethodName) object_method_1_code (1 : Nat) (Option.none : Option Jvm.ClassFile.FieldType)).before args0 about1 = true := code_word (m := ⟨0, 0⟩) (meth := k0m0) (c := k0c0) (by decide +kernel) rfl rfl rfl (by decide +kernel)
set_option maxRecDepth 65536 in
theorem w_c12 : (Jvm.Cond.code ({ cls := "java/lang/StringUTF16", name := "compress", desc := "([CII)[B" } : Jvm.MethodName) jdk_52_method_16_code (6 : Nat) (Option.some (Jvm.ClassFile.FieldType.array Jvm.ClassFile.FieldType.byte))).before args0 about1 = true := code_word (m := ⟨10, 2⟩) (meth := k10m2) (c := k10c2) (by decide +kernel) rfl rfl rfl (by decide +kernel)
set_option maxRecDepth 65536 in
theorem w_c13 : (Jvm.Cond.code ({ cls := "java/lang/StringUTF16", name := "compress", desc := "([CI[BII)I" } : Jvm.MethodName) jdk_52_method_21_code (7 : Nat) (Option.some Jvm.ClassFile.FieldType.int)).before args0 about1 = true := code_word (m := ⟨10, 3⟩) (meth := k10m3) (c := k10c3) (by decide +kernel) rfl rfl rfl (by decide +kernel)
set_option maxRecDepth 65536 in
theorem w_c14 : (Jvm.Cond.code ({ cls := "java/lang/StringUTF16", name := "coderFromArrayLen", desc := "([BI)B" } : Jvm.MethodName) jdk_52_method_15_code (2 : Nat) (Option.some Jvm.ClassFile.FieldType.byte)).before args0 about1 = true := code_word (m := ⟨10, 1⟩) (meth := k10m1) (c := k10c1) (by decide +kernel) rfl rfl rfl (by decide +kernel)
set_option maxRecDepth 65536 in
theorem w_c15 : (Jvm.Cond.code ({ cls := "java/lang/String", name := "equals", desc := "(Ljava/lang/Object;)Z" } : Jvm.MethodName) jdk_42_method_66_code (3 : Nat) (Option.some Jvm.ClassFile.FieldType.boolean)).before args0 about1 = true := code_word (m := ⟨7, 4⟩) (meth := k7m4) (c := k7c4) (by decide +kernel) rfl rfl rfl (by decide +kernel)
set_option maxRecDepth 65536 in
theorem w_c16 : (Jvm.Cond.code ({ cls := "java/lang/StringLatin1", name := "equals", desc := "([B[B)Z" } : Jvm.MethodName) jdk_43_method_13_code (3 : Nat) (Option.some Jvm.ClassFile.FieldType.boolean)).before args0 about1 = true := code_word (m := ⟨8, 2⟩) (meth := k8m2) (c := k8c2) (by decide +kernel) rfl rfl rfl (by decide +kernel)
set_option maxRecDepth 65536 in
theorem w_c17 : (Jvm.Cond.code ({ cls := "com/example/goodput/goodput/DeliveryMode", name := "named", desc := "(Ljava/lang/String;)Lcom/example/goodput/goodput/DeliveryMode;" } : Jvm.MethodName) prog_10_method_4_code (5 : Nat) (Option.some (Jvm.ClassFile.FieldType.object "com/example/goodput/goodput/DeliveryMode"))).before args0 about1 = true := code_word (m := ⟨12, 1⟩) (meth := k12m1) (c := k12c1) (by decide +kernel) rfl rfl rfl (by decide +kernel)
set_option maxRecDepth 65536 in
theorem w_c18 : (Jvm.Cond.code ({ cls := "com/example/goodput/goodput/DeliveryMode", name := "values", desc := "()[Lcom/example/goodput/goodput/DeliveryMode;" } : Jvm.MethodName) prog_10_method_1_code (0 : Nat) (Option.some (Jvm.ClassFile.FieldType.array (Jvm.ClassFile.FieldType.object "com/example/goodput/goodput/DeliveryMode")))).before args0 about1 = true := code_word (m := ⟨12, 0⟩) (meth := k12m0) (c := k12c0) (by decide +kernel) rfl rfl rfl (by decide +kernel)
def codes1 : List Jvm.Cond := [Jvm.Cond.code x code maxLocals ret, Jvm.Cond.code ({ cls := "com/example/goodput/goodput/DeliveryModeNamedPinLaw", name := "at", desc := "(Ljava/lang/String;IIC)C" } : Jvm.MethodName) method_2_code (4 : Nat) (Option.some Jvm.ClassFile.FieldType.char), Jvm.Cond.code ({ cls := "java/lang/String", name := "length", desc := "()I" } : Jvm.MethodName) jdk_42_method_54_code (1 : Nat) (Option.some Jvm.ClassFile.FieldType.int), Jvm.Cond.code ({ cls := "java/lang/String", name := "coder", desc := "()B" } : Jvm.MethodName) jdk_42_method_152_code (1 : Nat) (Option.some Jvm.ClassFile.FieldType.byte), Jvm.Cond.code ({ cls := "java/lang/String", name := "charAt", desc := "(I)C" } : Jvm.MethodName) jdk_42_method_56_code (2 : Nat) (Option.some Jvm.ClassFile.FieldType.char), Jvm.Cond.code ({ cls := "java/lang/String", name := "isLatin1", desc := "()Z" } : Jvm.MethodName) jdk_42_method_154_code (1 : Nat) (Option.some Jvm.ClassFile.FieldType.boolean), Jvm.Cond.code ({ cls := "java/lang/StringLatin1", name := "charAt", desc := "([BI)C" } : Jvm.MethodName) jdk_43_method_2_code (2 : Nat) (Option.some Jvm.ClassFile.FieldType.char), Jvm.Cond.code ({ cls := "java/lang/String", name := "checkIndex", desc := "(II)V" } : Jvm.MethodName) jdk_42_method_155_code (2 : Nat) (Option.none : Option Jvm.ClassFile.FieldType), Jvm.Cond.code ({ cls := "jdk/internal/util/Preconditions", name := "checkIndex", desc := "(IILjava/util/function/BiFunction;)I" } : Jvm.MethodName) jdk_41_method_11_code (3 : Nat) (Option.some Jvm.ClassFile.FieldType.int), Jvm.Cond.code ({ cls := "java/lang/String", name := "<init>", desc := "([C)V" } : Jvm.MethodName) jdk_42_method_3_code (2 : Nat) (Option.none : Option Jvm.ClassFile.FieldType), Jvm.Cond.code ({ cls := "java/lang/String", name := "<init>", desc := "([CIILjava/lang/Void;)V" } : Jvm.MethodName) jdk_42_method_149_code (6 : Nat) (Option.none : Option Jvm.ClassFile.FieldType), Jvm.Cond.code ({ cls := "java/lang/Object", name := "<init>", desc := "()V" } : Jvm.MethodName) object_method_1_code (1 : Nat) (Option.none : Option Jvm.ClassFile.FieldType), Jvm.Cond.code ({ cls := "java/lang/StringUTF16", name := "compress", desc := "([CII)[B" } : Jvm.MethodName) jdk_52_method_16_code (6 : Nat) (Option.some (Jvm.ClassFile.FieldType.array Jvm.ClassFile.FieldType.byte)), Jvm.Cond.code ({ cls := "java/lang/StringUTF16", name := "compress", desc := "([CI[BII)I" } : Jvm.MethodName) jdk_52_method_21_code (7 : Nat) (Option.some Jvm.ClassFile.FieldType.int), Jvm.Cond.code ({ cls := "java/lang/StringUTF16", name := "coderFromArrayLen", desc := "([BI)B" } : Jvm.MethodName) jdk_52_method_15_code (2 : Nat) (Option.some Jvm.ClassFile.FieldType.byte), Jvm.Cond.code ({ cls := "java/lang/String", name := "equals", desc := "(Ljava/lang/Object;)Z" } : Jvm.MethodName) jdk_42_method_66_code (3 : Nat) (Option.some Jvm.ClassFile.FieldType.boolean), Jvm.Cond.code ({ cls := "java/lang/StringLatin1", name := "equals", desc := "([B[B)Z" } : Jvm.MethodName) jdk_43_method_13_code (3 : Nat) (Option.some Jvm.ClassFile.FieldType.boolean), Jvm.Cond.code ({ cls := "com/example/goodput/goodput/DeliveryMode", name := "named", desc := "(Ljava/lang/String;)Lcom/example/goodput/goodput/DeliveryMode;" } : Jvm.MethodName) prog_10_method_4_code (5 : Nat) (Option.some (Jvm.ClassFile.FieldType.object "com/example/goodput/goodput/DeliveryMode")), Jvm.Cond.code ({ cls := "com/example/goodput/goodput/DeliveryMode", name := "values", desc := "()[Lcom/example/goodput/goodput/DeliveryMode;" } : Jvm.MethodName) prog_10_method_1_code (0 : Nat) (Option.some (Jvm.ClassFile.FieldType.array (Jvm.ClassFile.FieldType.object "com/example/goodput/goodput/DeliveryMode")))]
set_option maxRecDepth 65536 in
theorem codes_eq : words1.filter isCode = codes1 := rfl
theorem w_codes : ∀ c ∈ words1.filter isCode, c.before args0 about1 = true := by
  rw [codes_eq]
  intro c hc
  simp only [codes1, List.mem_cons, List.not_mem_nil, or_false] at hc
  rcases hc with rfl | rfl | rfl | rfl | rfl | rfl | rfl | rfl | rfl | rfl | rfl | rfl | rfl | rfl | rfl | rfl | rfl | rfl | rfl
  · exact w_c0
  · exact w_c1
  · exact w_c2
  · exact w_c3
  · exact w_c4
  · exact w_c5
  · exact w_c6
  · exact w_c7
  · exact w_c8
  · exact w_c9
  · exact w_c10
  · exact w_c11
  · exact w_c12
  · exact w_c13
  · exact w_c14
  · exact w_c15
  · exact w_c16
  · exact w_c17
  · exact w_c18
set_option maxRecDepth 65536 in
theorem w_t1 : (words1.take 24).all (fun c => isCode c || c.before args0 about1) = true := by decide +kernel
set_option maxRecDepth 65536 in
theorem w_t2 : ((words1.drop 24).take 24).all (fun c => isCode c || c.before args0 about1) = true := by decide +kernel
set_option maxRecDepth 65536 in
theorem w_t3 : (((words1.drop 24).drop 24).take 24).all (fun c => isCode c || c.before args0 about1) = true := by decide +kernel
set_option maxRecDepth 65536 in
theorem w_t4 : ((((words1.drop 24).drop 24).drop 24).take 24).all (fun c => isCode c || c.before args0 about1) = true := by decide +kernel
set_option maxRecDepth 65536 in
theorem w_t5 : ((((words1.drop 24).drop 24).drop 24).drop 24).all (fun c => isCode c || c.before args0 about1) = true := by decide +kernel
theorem w_tables : (allAtoms (Jvm.Cond.code x code maxLocals ret :: tables_1)).before args0 about1 = true := by
  rw [allAtoms_all]
  show words1.all (fun c => c.before args0 about1) = true
  refine all_split ?_ w_codes
  rw [← List.take_append_drop 24 words1, List.all_append, w_t1, ← List.take_append_drop 24 (words1.drop 24), List.all_append, w_t2, ← List.take_append_drop 24 ((words1.drop 24).drop 24), List.all_append, w_t3, ← List.take_append_drop 24 (((words1.drop 24).drop 24).drop 24), List.all_append, w_t4, w_t5]
  rfl
set_option maxRecDepth 65536 in
theorem w_rest : rest_1_c.before args0 about1 = true := by decide +kernel
set_option maxRecDepth 65536 in
theorem w_case : (Jvm.Cond.and given_1 narrow_1).before args0 about1 = true := by decide +kernel
set_option maxRecDepth 65536 in
theorem w_consts : constsHeld consts_1 about1 := Jvm.Lit.constsHeldB_iff.mp (by decide +kernel)
theorem w_applies : (headSpec (Jvm.Cond.code x code maxLocals ret :: tables_1) room_1).applies x e0.platform about1 = true :=
  (Spec.applies_iff w_frames).mpr ⟨w_running, w_runnable, w_alone, w_named, w_hears, w_ripe, w_room, w_tables⟩
theorem atStart : AtStart classFile x code maxLocals ret World_1 tables_1 room_1 Calls_1 rest_1 Pre_1 launch0 p0 e0 about1 theMethod args0 below0 :=
  ⟨lists_1, trivial, launch0.admits_env _ _ _, launch0.least_env, fairChoices_fair.cas, fairChoices_fair.clock, w_frames, w_args, w_heap, w_applies, ⟨w_consts, trivial⟩, w_rest, w_case⟩
end start1
theorem witness_1 : WitnessClaimed_1 := ⟨start1.p0, start1.e0, start1.about1, start1.theMethod, start1.args0, start1.below0, start1.atStart⟩
end Jvm.Pilot.@@N@@
