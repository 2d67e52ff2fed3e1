import JvmDerived
import JvmDerived.Pilot.@@N@@Statement
import JvmDerived.Pilot.@@N@@Code
set_option linter.unusedVariables false
set_option linter.unusedSimpArgs false
namespace Jvm.RoadKit
open Sem ClassFile Op Lib Jvm.Stand Jvm.Free Jvm.LawKit
/-- what is left of a walk: from this frame the method returns, and what it leaves is as Q says -/
def own_Go (p : Program) (e : Env) (below : List Frame) (s : State) (Q : Option Value → Heap → List Loc → Prop) (kc ks : Nat) (T : State) (g : JFrame) : Prop :=
  ∃ s₂ o, Steps p.tables e below (T.setTop g) s₂ ∧ s₂.status = .running ∧ Ended s₂ below o ∧ ∃ v L, o = .returned v ∧ Q v s₂.heap L ∧ FrameEnd s o s₂ L kc ks
section Own
variable {p : Program} {l : Launch} {e : Env} {R : Room} {s : State} {m : MethodId} {args : Array Value} {below : List Frame} {meth : Method} {c : Code} {T T' : State} {locs : List Loc} {cells slots : Nat} {Z : State} {h h' h0 : Heap} {Q : Option Value → Heap → List Loc → Prop} {kc ks : Nat} {g g' : JFrame} {a0 : Array Value} {pc : Nat} {Ls : Array Slot} {rest : List Value} {a b : Addr} {n0 : Nat} {ty : FieldType} {vs : List Value} {C : String} {sl : Nat} {v : Value} {ws : List Addr}
theorem own_pre (st : ∀ t, Steps p.tables e below (T'.setTop g') t → Steps p.tables e below (T.setTop g) t) (k : own_Go p e below s Q kc ks T' g') : own_Go p e below s Q kc ks T g := by
  obtain ⟨s₂, o, h1, r⟩ := k
  exact ⟨s₂, o, st _ h1, r⟩
theorem own_tr (st : Steps p.tables e below (T.setTop g) (T'.setTop g')) (k : own_Go p e below s Q kc ks T' g') : own_Go p e below s Q kc ks T g := by
  obtain ⟨s₂, o, h1, r⟩ := k
  exact ⟨s₂, o, st.trans h1, r⟩
theorem own_cast (q : g = g') (k : own_Go p e below s Q kc ks T g') : own_Go p e below s Q kc ks T g := q ▸ k
theorem own_ret (X : Stand p l e R s m args below meth c T locs cells slots) (hlk : meth.locks = false) {v : Option Value} (hv : meth.sig.returnType = none → v = none) (eT : T.heap = h)
    (st : ∀ fs, (∀ (f : JFrame) (acts : List Action), f.method = m → f.locked = none → f.entered = [] → (doReturn e (T.setTop f) acts v).1 = T.setFrames fs) → Steps p.tables e below (T.setTop g) (T.setFrames fs))
    (hq : Q v h locs) (hc : cells ≤ kc) (hs : slots ≤ ks) : own_Go p e below s Q kc ks T g := by
  obtain ⟨fs, hr, hrun, hended, hW, hsame⟩ := X.leave (v := v) hv hlk
  exact ⟨_, _, st fs hr, hrun, hended, _, _, rfl, (by show Q v T.heap _; rw [eT]; exact hq), ⟨_, rfl⟩, hW, hsame.mono hc hs⟩
theorem own_ret0 (X : Stand p l e R s m args below meth c T locs cells slots) (hx : p.tables.exec = Jvm.exec) (hlk : meth.locks = false) (hret : meth.sig.returnType = none) (hd : decode c.code pc = .ok (.return_, 1)) (eT : T.heap = h) (hq : Q none h locs) (hc : cells ≤ kc) (hs : slots ≤ ks) : own_Go p e below s Q kc ks T (mkF m pc Ls []) :=
  own_ret X hlk (fun _ => rfl) eT (fun _ hr => X.returnOut hx hret hd hr) hq hc hs
theorem own_ret1 (X : Stand p l e R s m args below meth c T locs cells slots) (hx : p.tables.exec = Jvm.exec) (hlk : meth.locks = false) {w : Value} {t : FieldType} {i : Instr} (hret : meth.sig.returnType = some t) (hn : narrow t w = w)
    (hi : (i = .ireturn ∧ (t = .int ∨ t = .boolean ∨ t = .byte ∨ t = .char ∨ t = .short) ∧ ∃ z, w = .int z) ∨ (i = .lreturn ∧ t = .long ∧ ∃ z, w = .long z) ∨ (i = .dreturn ∧ t = .double ∧ ∃ z, w = .double z) ∨ (i = .freturn ∧ t = .float ∧ ∃ z, w = .float z) ∨ (i = .areturn ∧ t.isReference = true ∧ w.isRef = true))
    (hd : decode c.code pc = .ok (i, 1)) (eT : T.heap = h) (hq : Q (some w) h locs) (hc : cells ≤ kc) (hs : slots ≤ ks) : own_Go p e below s Q kc ks T (mkF m pc Ls (w :: rest)) :=
  own_ret X hlk (fun q => by rw [hret] at q; cases q) eT (fun _ hr => retOut X hx hret hn hi hd hr) hq hc hs
theorem own_retI (X : Stand p l e R s m args below meth c T locs cells slots) (hx : p.tables.exec = Jvm.exec) (hlk : meth.locks = false) {z : Int32} (hret : meth.sig.returnType = some .int) (hd : decode c.code pc = .ok (.ireturn, 1)) (eT : T.heap = h) (hq : Q (some (.int z)) h locs) (hc : cells ≤ kc) (hs : slots ≤ ks) : own_Go p e below s Q kc ks T (mkF m pc Ls (.int z :: rest)) :=
  own_ret1 X hx hlk hret rfl (Or.inl ⟨rfl, Or.inl rfl, _, rfl⟩) hd eT hq hc hs
theorem own_retZ (X : Stand p l e R s m args below meth c T locs cells slots) (hx : p.tables.exec = Jvm.exec) (hlk : meth.locks = false) {z : Int32} (hret : meth.sig.returnType = some .boolean) (hn : narrow .boolean (.int z) = .int z) (hd : decode c.code pc = .ok (.ireturn, 1)) (eT : T.heap = h) (hq : Q (some (.int z)) h locs) (hc : cells ≤ kc) (hs : slots ≤ ks) : own_Go p e below s Q kc ks T (mkF m pc Ls (.int z :: rest)) :=
  own_ret1 X hx hlk hret hn (Or.inl ⟨rfl, Or.inr (Or.inl rfl), _, rfl⟩) hd eT hq hc hs
theorem own_retL (X : Stand p l e R s m args below meth c T locs cells slots) (hx : p.tables.exec = Jvm.exec) (hlk : meth.locks = false) {z : Int64} (hret : meth.sig.returnType = some .long) (hd : decode c.code pc = .ok (.lreturn, 1)) (eT : T.heap = h) (hq : Q (some (.long z)) h locs) (hc : cells ≤ kc) (hs : slots ≤ ks) : own_Go p e below s Q kc ks T (mkF m pc Ls (.long z :: rest)) :=
  own_ret1 X hx hlk hret rfl (Or.inr (Or.inl ⟨rfl, rfl, _, rfl⟩)) hd eT hq hc hs
theorem own_retD (X : Stand p l e R s m args below meth c T locs cells slots) (hx : p.tables.exec = Jvm.exec) (hlk : meth.locks = false) {z : UInt64} (hret : meth.sig.returnType = some .double) (hd : decode c.code pc = .ok (.dreturn, 1)) (eT : T.heap = h) (hq : Q (some (.double z)) h locs) (hc : cells ≤ kc) (hs : slots ≤ ks) : own_Go p e below s Q kc ks T (mkF m pc Ls (.double z :: rest)) :=
  own_ret1 X hx hlk hret rfl (Or.inr (Or.inr (Or.inl ⟨rfl, rfl, _, rfl⟩))) hd eT hq hc hs
theorem own_retA (X : Stand p l e R s m args below meth c T locs cells slots) (hx : p.tables.exec = Jvm.exec) (hlk : meth.locks = false) {w : Value} {t : FieldType} (hret : meth.sig.returnType = some t) (ht : t.isReference = true) (hw : w.isRef = true) (hn : narrow t w = w) (hd : decode c.code pc = .ok (.areturn, 1)) (eT : T.heap = h) (hq : Q (some w) h locs) (hc : cells ≤ kc) (hs : slots ≤ ks) : own_Go p e below s Q kc ks T (mkF m pc Ls (w :: rest)) :=
  own_ret1 X hx hlk hret hn (Or.inr (Or.inr (Or.inr (Or.inr ⟨rfl, ht, hw⟩)))) hd eT hq hc hs
/-- a contract out of a walk -/
theorem own_met {y : MethodName} {bytes : ByteArray} {maxL : Nat} {ret : Option FieldType} {wds : List Cond} {rm : Room} {as' : Array Value} (hpl : plainName y.cls = true)
    (body : ∀ p e s m below meth c s₁, p.tables.exec = Jvm.exec → c.code = bytes → c.maxLocals = maxL → Z.Warmed39 s.vm → s.vm.findClass y.cls = some m.cls → meth.name = y.name → meth.sig.returnType = ret → meth.locks = false → Stand p l e rm s m as' below meth c s₁ [] 0 0 → s₁.heap = h → own_Go p e below s Q rm.cells rm.slots s₁ (entryFrame m as' maxL)) :
    MetFree l y (head1 (Cond.code y bytes maxL ret :: wds) rm) (fun a U => a = as' ∧ Z.Warmed39 U.vm ∧ U.heap = h) (fun _ _ _ _ _ => True) (fun _ U o U' => ∃ v L, o = .returned v ∧ Q v U'.heap L ∧ FrameEnd U o U' L rm.cells rm.slots) := by
  refine MetFree.of_bodySF (plainFor_of_name hpl) hisR ?_
  intro p e s m args below meth c s₁ Bd hml0 hP hK
  obtain ⟨rfl, hZ, hh⟩ := hP
  exact body p e s m below meth c s₁ Bd.exec Bd.bytes hml0 hZ (findClass_of_methodNamed Bd.named) (name_of_methodNamed Bd.named Bd.method).1 Bd.returns Bd.notSynchronized (Stand.of_body Bd) (by rw [← hh, Bd.state]; rfl)
/-! arrays by their list -/
def own_Ary (Z : State) (h : Heap) (a : Addr) (ty : FieldType) (vs : List Value) : Prop := ∃ c : Cell, Arr Z h a c ty ∧ c.slots.toList = vs ∧ vs.length < 2 ^ 31
theorem own_Ary.lt (F : own_Ary Z h a ty vs) : a < h.size := by obtain ⟨c, A, -⟩ := F; exact A.lt
theorem own_Ary.ext (F : own_Ary Z h a ty vs) (E : Ext h h') : own_Ary Z h' a ty vs := by obtain ⟨c, A, r⟩ := F; exact ⟨c, A.ext E, r⟩
theorem own_Ary.other (F : own_Ary Z h b ty vs) (W : Wr h h' a sl v) (q : b ≠ a) : own_Ary Z h' b ty vs := by obtain ⟨c, A, r⟩ := F; exact ⟨c, A.other W q, r⟩
theorem own_Ary.keep (F : own_Ary Z h a ty vs) (K : Keep h h' ws) (q : a ∉ ws) : own_Ary Z h' a ty vs := by obtain ⟨c, A, r⟩ := F; exact ⟨c, ⟨K.2.1 a c A.1 q, A.2⟩, r⟩
theorem own_Ary.set (F : own_Ary Z h a ty vs) (W : Wr h h' a sl v) : own_Ary Z h' a ty (vs.set sl v) := by
  obtain ⟨c, A, r1, r2⟩ := F
  refine ⟨_, A.same W, ?_, by simpa using r2⟩
  simp [Cell.setSlot, r1]
theorem own_Ary.new {k : ClassId} {z : Int32} {n : Nat} (A : Arr Z h a (newA k ty z) ty) (q : z.toNatClampNeg = n) : own_Ary Z h a ty (List.replicate n (defaultValue ty)) := by
  refine ⟨_, A, ?_, ?_⟩
  · simp [newA, q]
  · have h1 := Int32.toInt_lt z
    simp only [Int32.toNatClampNeg] at q
    simp only [List.length_replicate]; omega
theorem own_inb {j : Int32} {n : Nat} {c : Cell} (h0 : 0 ≤ j) (hc : c.slots.toList = vs) (hj : j.toNatClampNeg = n) (hn : n < vs.length) : ¬ (j < 0 ∨ c.slots.size ≤ j.toNatClampNeg) := by
  subst hc hj
  rw [Array.length_toList] at hn
  intro q
  rcases q with q | q
  · exact absurd q (Int32.not_lt.mpr h0)
  · omega
theorem own_idx {n : Nat} {c : Cell} (hc : c.slots.toList = vs) (hv : vs[n]? = some v) : c.slots[n]? = some v := by
  subst hc; simpa using hv
theorem own_len (X : Stand p l e R s m args below meth c T locs cells slots) (hx : p.tables.exec = Jvm.exec) (hZ : Z.Warmed39 s.vm) (eT : T.heap = h) (F : own_Ary Z h a ty vs) (hd : decode c.code pc = .ok (.arraylength, 1)) {n : Int32} (hn : vs.length.toInt32 = n)
    (k : own_Go p e below s Q kc ks T (mkF m (pc + 1) Ls (.int n :: rest))) : own_Go p e below s Q kc ks T (mkF m pc Ls (.ref a :: rest)) := by
  obtain ⟨cl, A, r1, r2⟩ := F
  refine own_pre (fun t k => X.arraylength hx (cell := cl) (by rw [eT]; exact A.1) (State.isArrayOf_alike hZ.alike A.2.1) (g := mkF m pc Ls (.ref a :: rest)) rfl (rest := rest) rfl hd _ k) ?_
  have q : cl.slots.size = vs.length := by rw [← r1, Array.length_toList]
  rw [q, hn]; exact k
theorem own_iaload (X : Stand p l e R s m args below meth c T locs cells slots) (hx : p.tables.exec = Jvm.exec) (hZ : Z.Warmed39 s.vm) (eT : T.heap = h) (F : own_Ary Z h a .int vs) (hd : decode c.code pc = .ok (.iaload, 1)) {j : Int32} {n : Nat} (h0 : 0 ≤ j) (hj : j.toNatClampNeg = n) (hv : vs[n]? = some v)
    (k : own_Go p e below s Q kc ks T (mkF m (pc + 1) Ls (v :: rest))) : own_Go p e below s Q kc ks T (mkF m pc Ls (.int j :: .ref a :: rest)) := by
  obtain ⟨cl, A, r1, r2⟩ := F
  exact own_pre (fun t k => X.iaload hx (j := j) (v := v) (by rw [eT]; exact A.1) (State.isArrayOf_alike hZ.alike A.2.1) A.2.2 (own_inb h0 r1 hj (List.getElem?_eq_some_iff.mp hv).1) (own_idx r1 (hj ▸ hv)) (g := mkF m pc Ls (.int j :: .ref a :: rest)) rfl rfl hd _ k) k
theorem own_laload (X : Stand p l e R s m args below meth c T locs cells slots) (hx : p.tables.exec = Jvm.exec) (hZ : Z.Warmed39 s.vm) (eT : T.heap = h) (F : own_Ary Z h a .long vs) (hd : decode c.code pc = .ok (.laload, 1)) {j : Int32} {n : Nat} (h0 : 0 ≤ j) (hj : j.toNatClampNeg = n) (hv : vs[n]? = some v)
    (k : own_Go p e below s Q kc ks T (mkF m (pc + 1) Ls (v :: rest))) : own_Go p e below s Q kc ks T (mkF m pc Ls (.int j :: .ref a :: rest)) := by
  obtain ⟨cl, A, r1, r2⟩ := F
  exact own_pre (fun t k => X.laload hx (j := j) (v := v) (by rw [eT]; exact A.1) (State.isArrayOf_alike hZ.alike A.2.1) A.2.2 (own_inb h0 r1 hj (List.getElem?_eq_some_iff.mp hv).1) (own_idx r1 (hj ▸ hv)) (g := mkF m pc Ls (.int j :: .ref a :: rest)) rfl rfl hd _ k) k
theorem own_daload (X : Stand p l e R s m args below meth c T locs cells slots) (hx : p.tables.exec = Jvm.exec) (hZ : Z.Warmed39 s.vm) (eT : T.heap = h) (F : own_Ary Z h a .double vs) (hd : decode c.code pc = .ok (.daload, 1)) {j : Int32} {n : Nat} (h0 : 0 ≤ j) (hj : j.toNatClampNeg = n) (hv : vs[n]? = some v)
    (k : own_Go p e below s Q kc ks T (mkF m (pc + 1) Ls (v :: rest))) : own_Go p e below s Q kc ks T (mkF m pc Ls (.int j :: .ref a :: rest)) := by
  obtain ⟨cl, A, r1, r2⟩ := F
  exact own_pre (fun t k => X.daload hx (j := j) (v := v) (by rw [eT]; exact A.1) (State.isArrayOf_alike hZ.alike A.2.1) A.2.2 (own_inb h0 r1 hj (List.getElem?_eq_some_iff.mp hv).1) (own_idx r1 (hj ▸ hv)) (g := mkF m pc Ls (.int j :: .ref a :: rest)) rfl rfl hd _ k) k
theorem own_zaload (X : Stand p l e R s m args below meth c T locs cells slots) (hx : p.tables.exec = Jvm.exec) (hZ : Z.Warmed39 s.vm) (eT : T.heap = h) (F : own_Ary Z h a .boolean vs) (hd : decode c.code pc = .ok (.baload, 1)) {j : Int32} {n : Nat} (h0 : 0 ≤ j) (hj : j.toNatClampNeg = n) (hv : vs[n]? = some v)
    (k : own_Go p e below s Q kc ks T (mkF m (pc + 1) Ls (v :: rest))) : own_Go p e below s Q kc ks T (mkF m pc Ls (.int j :: .ref a :: rest)) := by
  obtain ⟨cl, A, r1, r2⟩ := F
  exact own_pre (fun t k => X.baloadBooleans hx (j := j) (v := v) (by rw [eT]; exact A.1) (State.isArrayOf_alike hZ.alike A.2.1) A.2.2 (own_inb h0 r1 hj (List.getElem?_eq_some_iff.mp hv).1) (own_idx r1 (hj ▸ hv)) (g := mkF m pc Ls (.int j :: .ref a :: rest)) rfl rfl hd _ k) k
theorem own_aaload (X : Stand p l e R s m args below meth c T locs cells slots) (hx : p.tables.exec = Jvm.exec) (hZ : Z.Warmed39 s.vm) (eT : T.heap = h) (F : own_Ary Z h a ty vs) (ht : ty.isReference = true) (hd : decode c.code pc = .ok (.aaload, 1)) {j : Int32} {n : Nat} (h0 : 0 ≤ j) (hj : j.toNatClampNeg = n) (hv : vs[n]? = some v)
    (k : own_Go p e below s Q kc ks T (mkF m (pc + 1) Ls (v :: rest))) : own_Go p e below s Q kc ks T (mkF m pc Ls (.int j :: .ref a :: rest)) := by
  obtain ⟨cl, A, r1, r2⟩ := F
  exact own_pre (fun t k => X.aaload hx (j := j) (v := v) (by rw [eT]; exact A.1) (State.isArrayOf_alike hZ.alike A.2.1) ht A.2.2 (own_inb h0 r1 hj (List.getElem?_eq_some_iff.mp hv).1) (own_idx r1 (hj ▸ hv)) (g := mkF m pc Ls (.int j :: .ref a :: rest)) rfl rfl hd _ k) k
theorem own_iastore (X : Stand p l e R s m args below meth c T locs cells slots) (hx : p.tables.exec = Jvm.exec) (hZ : Z.Warmed39 s.vm) (eT : T.heap = h) (N : Fr n0 locs) (q : n0 ≤ a) (F : own_Ary Z h a .int vs) (hd : decode c.code pc = .ok (.iastore, 1)) {j x : Int32} {n : Nat} (h0 : 0 ≤ j) (hj : j.toNatClampNeg = n) (hv : n < vs.length)
    (k : ∀ T' h' locs', Stand p l e R s m args below meth c T' locs' cells slots → T'.heap = h' → Fr n0 locs' → Wr h h' a n (.int x) → own_Go p e below s Q kc ks T' (mkF m (pc + 1) Ls rest)) : own_Go p e below s Q kc ks T (mkF m pc Ls (.int x :: .int j :: .ref a :: rest)) := by
  obtain ⟨cl, A, r1, r2⟩ := F
  obtain ⟨T', h', X', e', W, st⟩ := stI X hx hZ eT A (j := j) (x := x) (own_inb h0 r1 hj hv) (g := mkF m pc Ls (.int x :: .int j :: .ref a :: rest)) rfl rfl hd
  exact own_pre st (k T' h' _ X' e' (Fr.snoc X' N q) (hj ▸ W))
theorem own_lastore (X : Stand p l e R s m args below meth c T locs cells slots) (hx : p.tables.exec = Jvm.exec) (hZ : Z.Warmed39 s.vm) (eT : T.heap = h) (N : Fr n0 locs) (q : n0 ≤ a) (F : own_Ary Z h a .long vs) (hd : decode c.code pc = .ok (.lastore, 1)) {j : Int32} {x : Int64} {n : Nat} (h0 : 0 ≤ j) (hj : j.toNatClampNeg = n) (hv : n < vs.length)
    (k : ∀ T' h' locs', Stand p l e R s m args below meth c T' locs' cells slots → T'.heap = h' → Fr n0 locs' → Wr h h' a n (.long x) → own_Go p e below s Q kc ks T' (mkF m (pc + 1) Ls rest)) : own_Go p e below s Q kc ks T (mkF m pc Ls (.long x :: .int j :: .ref a :: rest)) := by
  obtain ⟨cl, A, r1, r2⟩ := F
  obtain ⟨T', h', X', e', W, st⟩ := stJ X hx hZ eT A (j := j) (x := x) (own_inb h0 r1 hj hv) (g := mkF m pc Ls (.long x :: .int j :: .ref a :: rest)) rfl rfl hd
  exact own_pre st (k T' h' _ X' e' (Fr.snoc X' N q) (hj ▸ W))
theorem own_dastore (X : Stand p l e R s m args below meth c T locs cells slots) (hx : p.tables.exec = Jvm.exec) (hZ : Z.Warmed39 s.vm) (eT : T.heap = h) (N : Fr n0 locs) (q : n0 ≤ a) (F : own_Ary Z h a .double vs) (hd : decode c.code pc = .ok (.dastore, 1)) {j : Int32} {x : UInt64} {n : Nat} (h0 : 0 ≤ j) (hj : j.toNatClampNeg = n) (hv : n < vs.length)
    (k : ∀ T' h' locs', Stand p l e R s m args below meth c T' locs' cells slots → T'.heap = h' → Fr n0 locs' → Wr h h' a n (.double x) → own_Go p e below s Q kc ks T' (mkF m (pc + 1) Ls rest)) : own_Go p e below s Q kc ks T (mkF m pc Ls (.double x :: .int j :: .ref a :: rest)) := by
  obtain ⟨cl, A, r1, r2⟩ := F
  obtain ⟨T', h', X', e', W, st⟩ := stD X hx hZ eT A (j := j) (x := x) (own_inb h0 r1 hj hv) (g := mkF m pc Ls (.double x :: .int j :: .ref a :: rest)) rfl rfl hd
  exact own_pre st (k T' h' _ X' e' (Fr.snoc X' N q) (hj ▸ W))
theorem own_newarr (X : Stand p l e R s m args below meth c T locs cells slots) (hx : p.tables.exec = Jvm.exec) (hZ : Z.Warmed39 s.vm) {aty : ArrayType} (w : (Cond.arrayClass (newarray.typeOf aty)).before a0 Z = true) (eT : T.heap = h) (hd : decode c.code pc = .ok (.newarray aty, 2)) {z : Int32} {n : Nat} (h0 : 0 ≤ z) (hz : z.toNatClampNeg = n) (hb : n * 8 ≤ 536870912) (hc : cells + 1 ≤ R.cells) (hl : slots + n ≤ R.slots) {ad : String} (had : "[" ++ (newarray.typeOf aty).toString = ad)
    (k : ∀ T' h' a, a = h.size → Stand p l e R s m args below meth c T' locs (cells + 1) (slots + n) → T'.heap = h' → Ext h h' → own_Ary Z h' a (newarray.typeOf aty) (List.replicate n (defaultValue (newarray.typeOf aty))) → Exa Z h' a ad → own_Go p e below s Q kc ks T' (mkF m (pc + 2) Ls (.ref a :: rest))) : own_Go p e below s Q kc ks T (mkF m pc Ls (.int z :: rest)) := by
  obtain ⟨T', h', cA, X', e', E, A, E2, st⟩ := newPE X hx hZ w eT (g := mkF m pc Ls (.int z :: rest)) rfl hd rfl (Int32.not_lt.mpr h0) (cap := n) (Nat.le_of_eq hz) hb hc hl had
  exact own_pre st (k T' h' _ rfl X' e' E (own_Ary.new A hz) E2)
theorem own_newobj (X : Stand p l e R s m args below meth c T locs cells slots) (hx : p.tables.exec = Jvm.exec) (hZ : Z.Warmed39 s.vm) {own : String} {index n : Nat} (hown : s.vm.findClass own = some m.cls) (w : (Cond.classLink own index C).before a0 Z = true) (wi : (Cond.instantiable C n).before a0 Z = true) (wz : (Cond.initialized C).before a0 Z = true) (eT : T.heap = h) (hd : decode c.code pc = .ok (.new index, 3)) (hc : cells + 1 ≤ R.cells) (hl : slots + n ≤ R.slots)
    (k : ∀ T' h' a, a = h.size → Stand p l e R s m args below meth c T' locs (cells + 1) (slots + n) → T'.heap = h' → Ext h h' → Exa Z h' a C → (∀ {O nm d : String} {ty : FieldType}, Laid Z a0 C O nm d → parseFieldDescriptor d = some ty → Fld Z h' a O nm d (defaultValue ty)) → own_Go p e below s Q kc ks T' (mkF m (pc + 3) Ls (.ref a :: rest))) : own_Go p e below s Q kc ks T (mkF m pc Ls rest) := by
  obtain ⟨T', h', X', e', E, A, D, -, st⟩ := newO X hx hZ hown w wi wz eT (g := mkF m pc Ls rest) rfl hd hc hl
  exact own_pre st (k T' h' _ rfl X' e' E A D)
theorem own_getf (X : Stand p l e R s m args below meth c T locs cells slots) (hx : p.tables.exec = Jvm.exec) (hZ : Z.Warmed39 s.vm) {own O n d : String} {index : Nat} (hown : s.vm.findClass own = some m.cls) (w : (Cond.fieldLink own index O n d).before a0 Z = true) (eT : T.heap = h) (F : Fld Z h a O n d v) (hd : decode c.code pc = .ok (.getfield index, 3))
    (k : ∀ T', Stand p l e R s m args below meth c T' locs cells slots → T'.heap = h → own_Go p e below s Q kc ks T' (mkF m (pc + 3) Ls (v :: rest))) : own_Go p e below s Q kc ks T (mkF m pc Ls (.ref a :: rest)) := by
  obtain ⟨T', X', e', st⟩ := getF X hx hZ hown (host := "") (Or.inl w) Via.refl eT F (g := mkF m pc Ls (.ref a :: rest)) rfl rfl hd
  exact own_pre st (k T' X' e')
theorem own_gets (X : Stand p l e R s m args below meth c T locs cells slots) (hx : p.tables.exec = Jvm.exec) (hZ : Z.Warmed39 s.vm) {own O n d : String} {index : Nat} (hown : s.vm.findClass own = some m.cls) (w : (Cond.fieldLink own index O n d).before a0 Z = true) (eT : T.heap = h) (F : Sta Z h O n d v) (hd : decode c.code pc = .ok (.getstatic index, 3))
    (k : ∀ T', Stand p l e R s m args below meth c T' locs cells slots → T'.heap = h → own_Go p e below s Q kc ks T' (mkF m (pc + 3) Ls (v :: rest))) : own_Go p e below s Q kc ks T (mkF m pc Ls rest) := by
  obtain ⟨T', X', e', st⟩ := getS X hx hZ (host := "") hown w Via.refl eT F (g := mkF m pc Ls rest) rfl hd
  exact own_pre st (k T' X' e')
theorem own_putf (X : Stand p l e R s m args below meth c T locs cells slots) (hx : p.tables.exec = Jvm.exec) (hZ : Z.Warmed39 s.vm) {own O n d : String} {index kk : Nat} (hown : s.vm.findClass own = some m.cls) (w : (Cond.fieldLink own index O n d).before a0 Z = true) (eT : T.heap = h) (N : Fr n0 locs) (q : n0 ≤ a) {old : Value} (F : Fld Z h a O n d old) (E : Exa Z h a C) (L : (Cond.lays C O n d).before a0 Z = true ∨ ((Cond.laysFinal C O n d).before a0 Z = true ∧ own = O ∧ meth.name = "<init>")) (wi : (Cond.instantiable C kk).before a0 Z = true) (hty : parseFieldDescriptor d = some ty) (hn : narrow ty v = v) (hf : fits ty v = true) (hd : decode c.code pc = .ok (.putfield index, 3))
    (k : ∀ T' h' locs', Stand p l e R s m args below meth c T' locs' cells slots → T'.heap = h' → Fr n0 locs' → Wr h h' a (slotOf Z O n d) v → own_Go p e below s Q kc ks T' (mkF m (pc + 3) Ls rest)) : own_Go p e below s Q kc ks T (mkF m pc Ls (v :: .ref a :: rest)) := by
  obtain ⟨T', h', X', e', W, st⟩ := putF X hx hZ hown (host := "") (Or.inl w) Via.refl eT F E L wi hty hn hf (g := mkF m pc Ls (v :: .ref a :: rest)) rfl rfl hd
  exact own_pre st (k T' h' _ X' e' (Fr.snoc X' N q) W)
theorem own_ldci (X : Stand p l e R s m args below meth c T locs cells slots) (hx : p.tables.exec = Jvm.exec) (hZ : Z.Warmed39 s.vm) {own : String} {index : Nat} {z : Int32} (hown : s.vm.findClass own = some m.cls) (w : (Cond.constant own index z).before a0 Z = true) (hd : decode c.code pc = .ok (.ldc index, 2))
    (k : own_Go p e below s Q kc ks T (mkF m (pc + 2) Ls (.int z :: rest))) : own_Go p e below s Q kc ks T (mkF m pc Ls rest) :=
  own_pre (X.ldcInt hx hown (mv hZ w) (g := mkF m pc Ls rest) rfl hd) k
theorem own_ldcl (X : Stand p l e R s m args below meth c T locs cells slots) (hx : p.tables.exec = Jvm.exec) (hZ : Z.Warmed39 s.vm) {own : String} {index : Nat} {z : Int64} (hown : s.vm.findClass own = some m.cls) (w : (Cond.constantLong own index z).before a0 Z = true) (hd : decode c.code pc = .ok (.ldc2_w index, 3))
    (k : own_Go p e below s Q kc ks T (mkF m (pc + 3) Ls (.long z :: rest))) : own_Go p e below s Q kc ks T (mkF m pc Ls rest) :=
  own_pre (X.ldc2Long hx hown (mv hZ w) (g := mkF m pc Ls rest) rfl hd) k
theorem own_ldcd (X : Stand p l e R s m args below meth c T locs cells slots) (hx : p.tables.exec = Jvm.exec) (hZ : Z.Warmed39 s.vm) {own : String} {index : Nat} {z : UInt64} (hown : s.vm.findClass own = some m.cls) (w : (Cond.constantDouble own index z).before a0 Z = true) (hd : decode c.code pc = .ok (.ldc2_w index, 3))
    (k : own_Go p e below s Q kc ks T (mkF m (pc + 3) Ls (.double z :: rest))) : own_Go p e below s Q kc ks T (mkF m pc Ls rest) :=
  own_pre (X.ldc2DoubleC hx hown (mv hZ w) (g := mkF m pc Ls rest) rfl hd) k
theorem own_init0 (X : Stand p l e R s m args below meth c T locs cells slots) (hx : p.tables.exec = Jvm.exec) (hZ : Z.Warmed39 s.vm) {own : String} {index : Nat} (hown : s.vm.findClass own = some m.cls) (w1 : (Cond.methodLink own index Lib.objectInit).before a0 Z = true) (w2 : (Cond.instanceMethod Lib.objectInit).before a0 Z = true) (w3 : (Cond.code Lib.objectInit ⟨#[0xb1]⟩ 1 none).before a0 Z = true) (eT : T.heap = h) (hd : decode c.code pc = .ok (.invokespecial index, 3)) (hsz : Ls.size = c.maxLocals) (hf : 1 ≤ R.frames) {W : Nat} (hW : (rest.map fun v => v.category).sum ≤ W) (hl : W + 12 ≤ R.locals)
    (k : ∀ T', Stand p l e R s m args below meth c T' locs cells slots → T'.heap = h → own_Go p e below s Q kc ks T' (mkF m (pc + 3) Ls rest)) : own_Go p e below s Q kc ks T (mkF m pc Ls (.ref a :: rest)) := by
  obtain ⟨T', X', e', st⟩ := initO X hx hZ hown w1 w2 w3 eT (g := mkF m pc Ls (.ref a :: rest)) rfl hsz rfl hd hf (W := W) (by show 2 * 0 + _ ≤ _; omega) hl
  exact own_pre st (k T' X' e')
theorem own_init (X : Stand p l e R s m args below meth c T locs cells slots) (hx : p.tables.exec = Jvm.exec) (hZ : Z.Warmed39 s.vm) {own : String} {index : Nat} (hown : s.vm.findClass own = some m.cls) {y : MethodName} {bytes : ByteArray} {maxL : Nat} {rm : Room} {argsL : List Value} {Qc : Option Value → Heap → List Loc → Prop}
    (hM : MetFree l y (head1 [Cond.code y bytes maxL none] rm) (fun a' U => a' = (.ref a :: argsL).toArray ∧ Z.Warmed39 U.vm ∧ U.heap = h) (fun _ _ _ _ _ => True) (fun _ U o U' => ∃ v L, o = .returned v ∧ Qc v U'.heap L ∧ FrameEnd U o U' L rm.cells rm.slots))
    (hy1 : y.name = "<init>") (w1 : (Cond.methodLink own index y).before a0 Z = true) (w2 : (Cond.instanceMethod y).before a0 Z = true) (w3 : (Cond.code y bytes maxL none).before a0 Z = true) (w4 : (Cond.initialized y.cls).before a0 Z = true) (hy : y.cls ≠ "java/lang/invoke/MethodHandle" ∧ y.cls ≠ "java/lang/invoke/VarHandle")
    (eT : T.heap = h) (hd : decode c.code pc = .ok (.invokespecial index, 3)) (hsz : Ls.size = c.maxLocals) {stk : List Value} (hstk : stk = argsL.reverse ++ .ref a :: rest) (hlen : ∀ sig, parseMethodDescriptor y.desc = some sig → argsL.length = sig.parameters.length) (hf : rm.frames + 1 ≤ R.frames) {W : Nat} (hW : (rest.map fun v => v.category).sum ≤ W) (hl : W + (maxL + 11) + rm.locals ≤ R.locals) (hc : cells + rm.cells ≤ R.cells) (hs : slots + rm.slots ≤ R.slots)
    (k : ∀ v T' L, Stand p l e R s m args below meth c T' (locs ++ L) (cells + rm.cells) (slots + rm.slots) → Qc v T'.heap L → own_Go p e below s Q kc ks T' (mkF m (pc + 3) Ls (v.toList ++ rest))) : own_Go p e below s Q kc ks T (mkF m pc Ls stk) := by
  obtain ⟨v, _, ⟨T', L', k', n'⟩, -, X', ⟨L, hQ, e1, e2, e3⟩, st⟩ := X.specialBack hx (y := y) hy1 hown (mvT hZ w1) (mvT hZ w2) (mvT hZ w3) hy (backOf (W := W) hM hZ w3 w4 hf hl) (g := mkF m pc Ls stk) rfl hsz (Steps.refl _) (a := a) (argsL := argsL) (rest := rest) hlen hstk (by show 2 * 0 + _ ≤ _; omega) hd (fun _ _ => ⟨rfl, eT, hc, hs⟩)
  dsimp only at X' e1 e2 e3 st hQ
  subst e1 e2 e3
  exact own_tr st (k v T' L X' hQ)
theorem own_callv (X : Stand p l e R s m args below meth c T locs cells slots) (hx : p.tables.exec = Jvm.exec) (hZ : Z.Warmed39 s.vm) {own : String} {index : Nat} (hown : s.vm.findClass own = some m.cls) {y : MethodName} {bytes : ByteArray} {maxL : Nat} {ret : Option FieldType} {rm : Room} {argsL : List Value} {Qc : Option Value → Heap → List Loc → Prop}
    (hM : MetFree l y (head1 [Cond.code y bytes maxL ret] rm) (fun a' U => a' = (.ref a :: argsL).toArray ∧ Z.Warmed39 U.vm ∧ U.heap = h) (fun _ _ _ _ _ => True) (fun _ U o U' => ∃ v L, o = .returned v ∧ Qc v U'.heap L ∧ FrameEnd U o U' L rm.cells rm.slots))
    (E : Exa Z h a C) (w1 : (Cond.methodLink own index y).before a0 Z = true) (w2 : (Cond.declares y).before a0 Z = true) (w5 : (Cond.selects C y y).before a0 Z = true) (w6 : (Cond.instanceMethod y).before a0 Z = true) (w3 : (Cond.code y bytes maxL ret).before a0 Z = true) (w4 : (Cond.initialized y.cls).before a0 Z = true) (hy : y.cls ≠ "java/lang/invoke/MethodHandle" ∧ y.cls ≠ "java/lang/invoke/VarHandle")
    (eT : T.heap = h) (hd : decode c.code pc = .ok (.invokevirtual index, 3)) (hsz : Ls.size = c.maxLocals) {stk : List Value} (hstk : stk = argsL.reverse ++ .ref a :: rest) (hlen : ∀ sig, parseMethodDescriptor y.desc = some sig → argsL.length = sig.parameters.length) (hf : rm.frames + 1 ≤ R.frames) {W : Nat} (hW : (rest.map fun v => v.category).sum ≤ W) (hl : W + (maxL + 11) + rm.locals ≤ R.locals) (hc : cells + rm.cells ≤ R.cells) (hs : slots + rm.slots ≤ R.slots)
    (k : ∀ v T' L, Stand p l e R s m args below meth c T' (locs ++ L) (cells + rm.cells) (slots + rm.slots) → Qc v T'.heap L → own_Go p e below s Q kc ks T' (mkF m (pc + 3) Ls (v.toList ++ rest))) : own_Go p e below s Q kc ks T (mkF m pc Ls stk) := by
  obtain ⟨cq, kq, q1, q2, q3⟩ := isOf hZ eT E
  obtain ⟨v, _, ⟨T', L', k', n'⟩, -, X', ⟨L, hQ, e1, e2, e3⟩, st⟩ := X.virtualBack hx (y := y) (z := y) hown (mvT hZ w1) (mvT hZ w2) (notFace_of_selects (args := #[]) (mvT hZ w5)) (mvT hZ w5) (mvT hZ w6) hy (backOf (W := W) hM hZ w3 w4 hf hl) q1 q3 (g := mkF m pc Ls stk) rfl hsz (Steps.refl _) (argsL := argsL) (rest := rest) hlen hstk (by show 2 * 0 + _ ≤ _; omega) hd (fun _ _ => ⟨rfl, eT, hc, hs⟩)
  dsimp only at X' e1 e2 e3 st hQ
  subst e1 e2 e3
  exact own_tr st (k v T' L X' hQ)
theorem own_calls (X : Stand p l e R s m args below meth c T locs cells slots) (hx : p.tables.exec = Jvm.exec) (hZ : Z.Warmed39 s.vm) {own : String} {index : Nat} (hown : s.vm.findClass own = some m.cls) {y : MethodName} {bytes : ByteArray} {maxL : Nat} {ret : Option FieldType} {rm : Room} {argsL : List Value} {Qc : Option Value → Heap → List Loc → Prop}
    (hM : MetFree l y (head1 [Cond.code y bytes maxL ret] rm) (fun a' U => a' = argsL.toArray ∧ Z.Warmed39 U.vm ∧ U.heap = h) (fun _ _ _ _ _ => True) (fun _ U o U' => ∃ v L, o = .returned v ∧ Qc v U'.heap L ∧ FrameEnd U o U' L rm.cells rm.slots))
    (w1 : (Cond.methodLink own index y).before a0 Z = true) (w2 : (Cond.static y).before a0 Z = true) (w3 : (Cond.code y bytes maxL ret).before a0 Z = true) (w4 : (Cond.initialized y.cls).before a0 Z = true) (hy : y.cls ≠ "java/lang/invoke/MethodHandle" ∧ y.cls ≠ "java/lang/invoke/VarHandle")
    (eT : T.heap = h) (hd : decode c.code pc = .ok (.invokestatic index, 3)) (hsz : Ls.size = c.maxLocals) {stk : List Value} (hstk : stk = argsL.reverse ++ rest) (hlen : ∀ sig, parseMethodDescriptor y.desc = some sig → argsL.length = sig.parameters.length) (hf : rm.frames + 1 ≤ R.frames) {W : Nat} (hW : (rest.map fun v => v.category).sum ≤ W) (hl : W + (maxL + 11) + rm.locals ≤ R.locals) (hc : cells + rm.cells ≤ R.cells) (hs : slots + rm.slots ≤ R.slots)
    (k : ∀ v T' L, Stand p l e R s m args below meth c T' (locs ++ L) (cells + rm.cells) (slots + rm.slots) → Qc v T'.heap L → own_Go p e below s Q kc ks T' (mkF m (pc + 3) Ls (v.toList ++ rest))) : own_Go p e below s Q kc ks T (mkF m pc Ls stk) := by
  obtain ⟨v, _, ⟨T', L', k', n'⟩, -, X', ⟨L, hQ, e1, e2, e3⟩, st⟩ := Jvm.LawKit.callS X hx (y := y) hown (mvT hZ w1) (mvT hZ w2) (mvT hZ w4) (mvT hZ w3) hy (backOf (W := W) hM hZ w3 w4 hf hl) (g := mkF m pc Ls stk) rfl hsz (argsL := argsL) (rest := rest) hlen hstk (by show 2 * 0 + _ ≤ _; omega) hd (fun _ _ => ⟨rfl, eT, hc, hs⟩)
  dsimp only at X' e1 e2 e3 st hQ
  subst e1 e2 e3
  exact own_pre st (k v T' L X' hQ)
theorem own_cl_lt (x y : Int64) : XT.cmpL x y < 0 ↔ x < y := by unfold XT.cmpL; split <;> (try split) <;> simp_all [Int64.lt_iff_toInt_lt, ← Int64.toInt_inj] <;> omega
theorem own_cl_gt (x y : Int64) : 0 < XT.cmpL x y ↔ y < x := by unfold XT.cmpL; split <;> (try split) <;> simp_all [Int64.lt_iff_toInt_lt, ← Int64.toInt_inj]
theorem own_cl_eq (x y : Int64) : XT.cmpL x y = 0 ↔ x = y := by unfold XT.cmpL; split <;> (try split) <;> simp_all [Int64.lt_iff_toInt_lt, ← Int64.toInt_inj] <;> omega
end Own
end Jvm.RoadKit
namespace Jvm.FP.Core
theorem own_cross {c d I J qp qm rp rm kp km : Nat} (h1 : c * 2 ^ qp = I * 2 ^ qm) (h2 : d * 2 ^ rp = J * 2 ^ rm) (e : kp + qm + rp = km + qp + rm) : c * J * 2 ^ kp = I * d * 2 ^ km := by
  have e' : 2 ^ kp * 2 ^ qm * 2 ^ rp = 2 ^ km * 2 ^ qp * 2 ^ rm := by rw [← Nat.pow_add, ← Nat.pow_add, ← Nat.pow_add, ← Nat.pow_add, e]
  have p1 := Nat.two_pow_pos qp
  have p2 := Nat.two_pow_pos rm
  generalize 2 ^ qp = a1 at *
  generalize 2 ^ qm = a2 at *
  generalize 2 ^ rp = a3 at *
  generalize 2 ^ rm = a4 at *
  generalize 2 ^ kp = a5 at *
  generalize 2 ^ km = a6 at *
  refine Nat.eq_of_mul_eq_mul_right (Nat.mul_pos p1 p2) ?_
  calc c * J * a5 * (a1 * a4) = (c * a1) * (J * a4) * a5 := by ac_rfl
    _ = (I * a2) * (d * a3) * a5 := by rw [h1, h2]
    _ = I * d * (a5 * a2 * a3) := by ac_rfl
    _ = I * d * (a6 * a1 * a4) := by rw [e']
    _ = I * d * a6 * (a1 * a4) := by ac_rfl
/-- a quotient of two whole doubles: the rounded ratio of the two -/
theorem own_ddiv_round {i j : Int} {a b : UInt64} (ha : DInt i a) (hb : DInt j b) (hj : 0 < j) : ∃ sg, val64 (ddiv a b) = roundRatio b64 sg i.natAbs j.natAbs 0 ∧ (i ≠ 0 → sg = decide (i < 0)) := by
  rw [val64_ddiv]
  unfold DInt at ha hb
  generalize val64 a = x at *
  generalize val64 b = y at *
  cases x with
  | nan => exact ha.elim
  | inf => exact ha.elim
  | fin s c q =>
  cases y with
  | nan => exact hb.elim
  | inf => exact hb.elim
  | fin t d r =>
    have h1 := whole_natAbs ha
    have h2 := whole_natAbs hb
    have hd : d ≠ 0 := by have := whole_zero hb; omega
    refine ⟨s != t, ?_, fun hi => ?_⟩
    · show (if d = 0 then (if c = 0 then Datum.nan else .inf (s != t)) else roundRatio b64 (s != t) c d (q - r)) = _
      rw [if_neg hd]
      exact roundRatio_congr (by omega) (by omega) (own_cross h1 h2 (by omega))
    · rw [whole_sign ha hi, whole_sign hb (by omega)]
      simp [show ¬ j < 0 by omega]
theorem own_div_le {sg : Bool} {A B : Nat} {V : UInt64} (hB : 0 < B) (hV : val64 V ≠ .nan) (h : A * one64 ≤ zmag b64 (val64 V) * B) : zmag b64 (roundRatio b64 sg A B 0) ≤ zmag b64 (val64 V) := by
  refine zmag_roundRatio_le good_b64 hB (val64_fits V) hV (e0 := b64.qmin) (Int.le_refl _) (by decide) ?_
  show A * 2 ^ (0 - b64.qmin).toNat ≤ _ * 2 ^ (b64.qmin - b64.qmin).toNat * B
  rw [Int.zero_sub, pow_qmin64, Int.sub_self]
  simpa using h
theorem own_div_ge {sg : Bool} {A B : Nat} {V : UInt64} (hB : 0 < B) (h : zmag b64 (val64 V) * B ≤ A * one64) : zmag b64 (val64 V) ≤ zmag b64 (roundRatio b64 sg A B 0) := by
  refine zmag_roundRatio_ge good_b64 hB (val64_fits V) (e0 := b64.qmin) (Int.le_refl _) (by decide) ?_
  show _ * 2 ^ (b64.qmin - b64.qmin).toNat * B ≤ A * 2 ^ (0 - b64.qmin).toNat
  rw [Int.zero_sub, pow_qmin64, Int.sub_self]
  simpa using h
theorem own_scale {A B x y u : Nat} (h : A * x ≤ y * B) : A * (x * u) ≤ (y * u) * B := by
  have h2 := Nat.mul_le_mul_right u h
  calc A * (x * u) = A * x * u := by ac_rfl
    _ ≤ y * B * u := h2
    _ = (y * u) * B := by ac_rfl
theorem own_scale' {A B x y u : Nat} (h : y * B ≤ A * x) : (y * u) * B ≤ A * (x * u) := by
  have h2 := Nat.mul_le_mul_right u h
  calc (y * u) * B = y * B * u := by ac_rfl
    _ ≤ A * x * u := h2
    _ = A * (x * u) := by ac_rfl
end Jvm.FP.Core
namespace Jvm.RoadKit
open Sem ClassFile Op Lib Jvm.Stand Jvm.Free Jvm.LawKit
theorem own_DInt_nn {i : Int} {a : UInt64} (h : FP.Core.DInt i a) : Jvm.Free.Fl.NoNaN64 a := Jvm.Free.Fl.val64_no.mpr (FP.Core.DInt_ne_nan h)
/-- the int that a comparison of two whole doubles pushes -/
def own_c (i j : Int) : Int32 := if i < j then -1 else if i = j then 0 else 1
theorem own_c_lt (i j : Int) : own_c i j < 0 ↔ i < j := by unfold own_c; split <;> (try split) <;> first | (simp; omega) | simp_all
theorem own_c_gt (i j : Int) : 0 < own_c i j ↔ j < i := by unfold own_c; split <;> (try split) <;> first | (simp; omega) | (simp_all; done) | (simp_all; omega)
theorem own_c_eq (i j : Int) : own_c i j = 0 ↔ i = j := by unfold own_c; split <;> (try split) <;> first | (simp; omega) | (simp_all; done) | (simp_all; omega)
theorem own_cmpv (i j : Int) (o : CmpOp) : cmpValue (some (compare i j)) o = own_c i j := by
  unfold own_c
  rw [FP.Core.compare_ite]
  split <;> (try split) <;> cases o <;> rfl
theorem own_dcmp {i j : Int} {a b : UInt64} (ha : FP.Core.DInt i a) (hb : FP.Core.DInt j b) (o : CmpOp) : cmpValue (FP.dcmp a b) o = own_c i j := by
  rw [show FP.dcmp a b = some (compare i j) from FP.Core.dcmp_int ha hb, own_cmpv]
theorem own_dcmpz {a b : UInt64} (ha : Jvm.Free.Fl.NoNaN64 a) (hb : Jvm.Free.Fl.NoNaN64 b) (o : CmpOp) : cmpValue (FP.dcmp a b) o = own_c (FP.Core.zval FP.Core.b64 (FP.Core.val64 a)) (FP.Core.zval FP.Core.b64 (FP.Core.val64 b)) := by
  rw [show FP.dcmp a b = some (compare _ _) from FP.Core.dcmp_zval (Jvm.Free.Fl.val64_no.mp ha) (Jvm.Free.Fl.val64_no.mp hb), own_cmpv]
end Jvm.RoadKit
namespace Jvm.Pilot.@@N@@
open Jvm Jvm.ClassFile Sem Op Lib Jvm.Free Jvm.Stand Jvm.LawKit Jvm.RoadKit Bundle Jvm.Pilot.@@N@@.Jvm.D
theorem own_DInt0 : FP.Core.DInt 0 0 := by
  show FP.Core.Whole 0 (FP.Core.val64 0)
  rw [FP.Core.val64_zero]
  simp [FP.Core.Whole, FP.Core.signed]
theorem own_ushr (x q : Int32) (k : Nat) (hk : q.toBitVec.toNat % 32 = k) (h0 : 0 < k) : (XT.ushr x q).toInt = (x.toInt % 4294967296) / (2 ^ k : Nat) := c_iushr x q k hk h0
def own_ent (x : Int64) (i : Int32) : Int64 := (XT.ushrL x ((10 : Int32) * i) &&& (1023 : Int64)) - (512 : Int64)
def own_entAt (x y : Int64) (i : Int32) : Int64 := if i < (6 : Int32) then own_ent x i else own_ent y (i - (6 : Int32))
theorem own_eb (x : Int64) (i : Int32) : -512 ≤ (own_ent x i).toInt ∧ (own_ent x i).toInt ≤ 512 := by
  unfold own_ent
  have h1 := c_maskL (XT.ushrL x ((10 : Int32) * i)) 1023 10 (by decide) (by decide)
  have h2 := c_lsub (XT.ushrL x ((10 : Int32) * i) &&& 1023) 512
  have h3 := rng64 ((XT.ushrL x ((10 : Int32) * i) &&& (1023 : Int64)) - (512 : Int64))
  have h4 : (512 : Int64).toInt = 512 := rfl
  rw [h4] at h2
  omega
theorem own_eabs (x : Int64) (i : Int32) : (own_ent x i).toInt.natAbs ≤ 2 ^ 53 := by have := own_eb x i; omega
theorem own_eAb (x y : Int64) (i : Int32) : -512 ≤ (own_entAt x y i).toInt ∧ (own_entAt x y i).toInt ≤ 512 := by
  unfold own_entAt; split
  · exact own_eb x i
  · exact own_eb y _
theorem own_eA0 (x y : Int64) : own_entAt x y (0 : Int32) = own_ent x (0 : Int32) := by unfold own_entAt; rw [if_pos (by decide)]
theorem own_eA1 (x y : Int64) : own_entAt x y (1 : Int32) = own_ent x (1 : Int32) := by unfold own_entAt; rw [if_pos (by decide)]
theorem own_eA2 (x y : Int64) : own_entAt x y (2 : Int32) = own_ent x (2 : Int32) := by unfold own_entAt; rw [if_pos (by decide)]
theorem own_eA3 (x y : Int64) : own_entAt x y (3 : Int32) = own_ent x (3 : Int32) := by unfold own_entAt; rw [if_pos (by decide)]
theorem own_eA4 (x y : Int64) : own_entAt x y (4 : Int32) = own_ent x (4 : Int32) := by unfold own_entAt; rw [if_pos (by decide)]
theorem own_eA5 (x y : Int64) : own_entAt x y (5 : Int32) = own_ent x (5 : Int32) := by unfold own_entAt; rw [if_pos (by decide)]
theorem own_eA6 (x y : Int64) : own_entAt x y (6 : Int32) = own_ent y (0 : Int32) := by unfold own_entAt; rw [if_neg (by decide)]; rfl
theorem own_eA7 (x y : Int64) : own_entAt x y (7 : Int32) = own_ent y (1 : Int32) := by unfold own_entAt; rw [if_neg (by decide)]; rfl
theorem own_eA8 (x y : Int64) : own_entAt x y (8 : Int32) = own_ent y (2 : Int32) := by unfold own_entAt; rw [if_neg (by decide)]; rfl
theorem own_eA9 (x y : Int64) : own_entAt x y (9 : Int32) = own_ent y (3 : Int32) := by unfold own_entAt; rw [if_neg (by decide)]; rfl
theorem own_eA10 (x y : Int64) : own_entAt x y (10 : Int32) = own_ent y (4 : Int32) := by unfold own_entAt; rw [if_neg (by decide)]; rfl
theorem own_eA11 (x y : Int64) : own_entAt x y (11 : Int32) = own_ent y (5 : Int32) := by unfold own_entAt; rw [if_neg (by decide)]; rfl
theorem own_pos (s n q0 q1 q2 : Int32) (hn : s &&& (3 : Int32) = n) (h0 : XT.ushr s (2 : Int32) &&& (3 : Int32) = q0) (h1 : q0 + (1 : Int32) + (XT.ushr s (4 : Int32) &&& (3 : Int32)) = q1) (h2 : q1 + (1 : Int32) + (XT.ushr s (6 : Int32) &&& (3 : Int32)) = q2) :
    (0 ≤ n.toInt ∧ n.toInt ≤ 3) ∧ (0 ≤ q0 ∧ q0.toInt < 12) ∧ (0 ≤ q1 ∧ q1.toInt < 12) ∧ (0 ≤ q2 ∧ q2.toInt < 12) := by
  have a1 := c_mask s 3 2 (by decide) (by decide)
  have a2 := c_mask (XT.ushr s 2) 3 2 (by decide) (by decide)
  have a3 := c_mask (XT.ushr s 4) 3 2 (by decide) (by decide)
  have a4 := c_mask (XT.ushr s 6) 3 2 (by decide) (by decide)
  rw [hn] at a1
  rw [h0] at a2
  have b1 := c_iadd q0 1
  have b2 := c_iadd (q0 + 1) (XT.ushr s (4 : Int32) &&& (3 : Int32))
  have b3 := c_iadd q1 1
  have b4 := c_iadd (q1 + 1) (XT.ushr s (6 : Int32) &&& (3 : Int32))
  rw [h1] at b2
  rw [h2] at b4
  have r1 := rng32 q1
  have r2 := rng32 q2
  have r3 := rng32 (q0 + 1)
  have r4 := rng32 (q1 + 1)
  have o1 : (1 : Int32).toInt = 1 := rfl
  have o0 : (0 : Int32).toInt = 0 := rfl
  rw [o1] at b1 b3
  simp only [Int32.le_iff_toInt_le, o0]
  omega
theorem own_four {n : Int32} (h : 0 ≤ n.toInt ∧ n.toInt ≤ 3) : n = 0 ∨ n = 1 ∨ n = 2 ∨ n = 3 := by
  simp only [← Int32.toInt_inj, Int32.reduceToInt]; omega
theorem own_twelve {n : Int32} (h : 0 ≤ n ∧ n.toInt < 12) : n = 0 ∨ n = 1 ∨ n = 2 ∨ n = 3 ∨ n = 4 ∨ n = 5 ∨ n = 6 ∨ n = 7 ∨ n = 8 ∨ n = 9 ∨ n = 10 ∨ n = 11 := by
  have h1 := h.1
  simp only [Int32.le_iff_toInt_le, ← Int32.toInt_inj, Int32.reduceToInt] at h1 ⊢
  omega
theorem own_prod (v : Int32) {e : Int64} (he : -512 ≤ e.toInt ∧ e.toInt ≤ 512) : (v.toInt * e.toInt).natAbs ≤ 2 ^ 50 := by
  have h := rng32 v
  have := mc h.1 (Int.le_of_lt h.2) he.1 he.2
  omega
theorem own_lm {v : Int32} {e : Int64} (h : (v.toInt * e.toInt).natAbs ≤ 2 ^ 50) : (v.toInt64 * e).toInt = v.toInt * e.toInt := by
  have h1 := c_lmul v.toInt64 e
  have h2 := rng64 (v.toInt64 * e)
  rw [c_i2l] at h1
  generalize v.toInt * e.toInt = t at *
  omega
theorem own_la {v e : Int64} (h : (v.toInt + e.toInt).natAbs ≤ 2 ^ 55) : (v + e).toInt = v.toInt + e.toInt := by
  have h1 := c_ladd v e
  have h2 := rng64 (v + e)
  omega
theorem own_exp1 {v0 : Int32} {e0 x : Int64} (h0 : (v0.toInt * e0.toInt).natAbs ≤ 2 ^ 50) (h : (0 : Int64) + v0.toInt64 * e0 = x) : x.toInt = (0 + (v0.toInt * e0.toInt)) := by
  have z : (0 : Int64).toInt = 0 := rfl
  subst h; rw [own_la (by rw [own_lm h0, z]; omega), own_lm h0, z]
theorem own_exp2 {v0 v1 : Int32} {e0 e1 x y : Int64} (h0 : (v0.toInt * e0.toInt).natAbs ≤ 2 ^ 50) (h1 : (v1.toInt * e1.toInt).natAbs ≤ 2 ^ 50) (h : (0 : Int64) + v0.toInt64 * e0 = x) (h' : x + v1.toInt64 * e1 = y) : y.toInt = ((0 + (v0.toInt * e0.toInt)) + (v1.toInt * e1.toInt)) := by
  have q := own_exp1 h0 h
  subst h'; rw [own_la (by rw [q, own_lm h1]; omega), q, own_lm h1]
theorem own_exp3 {v0 v1 v2 : Int32} {e0 e1 e2 x y z : Int64} (h0 : (v0.toInt * e0.toInt).natAbs ≤ 2 ^ 50) (h1 : (v1.toInt * e1.toInt).natAbs ≤ 2 ^ 50) (h2 : (v2.toInt * e2.toInt).natAbs ≤ 2 ^ 50) (h : (0 : Int64) + v0.toInt64 * e0 = x) (h' : x + v1.toInt64 * e1 = y) (h'' : y + v2.toInt64 * e2 = z) : z.toInt = (((0 + (v0.toInt * e0.toInt)) + (v1.toInt * e1.toInt)) + (v2.toInt * e2.toInt)) := by
  have q := own_exp2 h0 h1 h h'
  subst h''; rw [own_la (by rw [q, own_lm h2]; omega), q, own_lm h2]

theorem d1_0 : decode method_3_code 0 = .ok (.lload_n 0, 1) := by decide +kernel
theorem d1_1 : decode method_3_code 1 = .ok (.bipush 10, 2) := by decide +kernel
theorem d1_3 : decode method_3_code 3 = .ok (.iload_n 2, 1) := by decide +kernel
theorem d1_4 : decode method_3_code 4 = .ok (.imul, 1) := by decide +kernel
theorem d1_5 : decode method_3_code 5 = .ok (.lushr, 1) := by decide +kernel
theorem d1_6 : decode method_3_code 6 = .ok (.ldc2_w 26, 3) := by decide +kernel
theorem d1_9 : decode method_3_code 9 = .ok (.land, 1) := by decide +kernel
theorem d1_10 : decode method_3_code 10 = .ok (.ldc2_w 28, 3) := by decide +kernel
theorem d1_13 : decode method_3_code 13 = .ok (.lsub, 1) := by decide +kernel
theorem d1_14 : decode method_3_code 14 = .ok (.lreturn, 1) := by decide +kernel
theorem own_pn0 : plainName "com/example/galicia/galicia/lime/SparseVectorDotPinLaw" = true := by first | (simp [plainName, overriddenIn]; done) | decide +kernel
def own_entT_Q (Z : State) (x : Int64) (i : Int32) (h0 : Heap) (n0 : Nat) (v_ : Option Value) (h_ : Heap) (L_ : List Loc) : Prop := (fun v h L => v = some (.long (own_ent x i)) ∧ Fr n0 L ∧ h = h0) v_ h_ L_
set_option maxRecDepth 65536 in
set_option maxHeartbeats 40000000 in
theorem own_entT (l : Launch) (Z : State) (a0 : Array Value) (hw : ∀ d ∈ tables_1, d.before a0 Z = true) (wds : List Jvm.Cond) (x : Int64) (i : Int32) (h0 : Heap) (n0 : Nat) (Z0 : n0 ≤ h0.size)  :
    MetFree l (⟨"com/example/galicia/galicia/lime/SparseVectorDotPinLaw", "ent", "(JI)J"⟩ : MethodName) (head1 (Jvm.Cond.code (⟨"com/example/galicia/galicia/lime/SparseVectorDotPinLaw", "ent", "(JI)J"⟩ : MethodName) method_3_code 3 (some .long) :: wds) ({ frames := 0, cells := 0, slots := 0, locals := 0 } : Room)) (fun ar_ U_ => ar_ = #[(.long x), (.int i)] ∧ Z.Warmed39 U_.vm ∧ U_.heap = h0) (fun _ _ _ _ _ => True) (fun _ U_ o_ V_ => ∃ v_ L_, o_ = .returned v_ ∧ own_entT_Q Z x i h0 n0 v_ V_.heap L_ ∧ FrameEnd U_ o_ V_ L_ ({ frames := 0, cells := 0, slots := 0, locals := 0 } : Room).cells ({ frames := 0, cells := 0, slots := 0, locals := 0 } : Room).slots) := by
  refine own_met (y := ⟨"com/example/galicia/galicia/lime/SparseVectorDotPinLaw", "ent", "(JI)J"⟩) (Q := own_entT_Q Z x i h0 n0) own_pn0 ?_
  intro p e s m below meth c s₁ hx hby hml hZ hown hnm hret hlk X0 e0
  have N0 := Fr.nil n0
  refine own_cast (g' := (mkF m 0 #[.val (.long x), .second, .val (.int i)] [])) (by first | (simp [entryFrame, mkF, argsToLocals, Value.category]; done) | rfl) ?_
  refine own_pre (T' := s₁) (g' := (mkF m 1 #[.val (.long x), .second, .val (.int i)] [(.long x)])) (fun t k => XT.lloadN X0.here hx rfl (v := x) (hb hby d1_0) rfl k) ?_
  refine own_pre (T' := s₁) (g' := (mkF m 3 #[.val (.long x), .second, .val (.int i)] [(.int (10 : Int32)), (.long x)])) (fun t k => XS.bipush X0.here hx rfl (hb hby d1_1) k) ?_
  refine own_pre (T' := s₁) (g' := (mkF m 4 #[.val (.long x), .second, .val (.int i)] [(.int i), (.int (10 : Int32)), (.long x)])) (fun t k => XS.iloadN X0.here hx rfl (v := i) (hb hby d1_3) rfl k) ?_
  refine own_pre (T' := s₁) (g' := (mkF m 5 #[.val (.long x), .second, .val (.int i)] [(.int ((10 : Int32) * i)), (.long x)])) (fun t k => XS.imul X0.here hx rfl (hb hby d1_4) rfl k) ?_
  refine own_pre (T' := s₁) (g' := (mkF m 6 #[.val (.long x), .second, .val (.int i)] [(.long (XT.ushrL x ((10 : Int32) * i)))])) (fun t k => XT.lushr X0.here hx rfl (hb hby d1_5) rfl k) ?_
  refine own_ldcl X0 hx hZ hown (hw _ (List.mem_of_getElem? (i := 5) rfl)) (hb hby d1_6) ?_
  show own_Go _ _ _ _ _ _ _ s₁ (mkF m 9 #[.val (.long x), .second, .val (.int i)] [(.long (1023 : Int64)), (.long (XT.ushrL x ((10 : Int32) * i)))])
  refine own_pre (T' := s₁) (g' := (mkF m 10 #[.val (.long x), .second, .val (.int i)] [(.long ((XT.ushrL x ((10 : Int32) * i)) &&& (1023 : Int64)))])) (fun t k => XT.land X0.here hx rfl (hb hby d1_9) rfl k) ?_
  refine own_ldcl X0 hx hZ hown (hw _ (List.mem_of_getElem? (i := 6) rfl)) (hb hby d1_10) ?_
  show own_Go _ _ _ _ _ _ _ s₁ (mkF m 13 #[.val (.long x), .second, .val (.int i)] [(.long (512 : Int64)), (.long ((XT.ushrL x ((10 : Int32) * i)) &&& (1023 : Int64)))])
  refine own_pre (T' := s₁) (g' := (mkF m 14 #[.val (.long x), .second, .val (.int i)] [(.long (((XT.ushrL x ((10 : Int32) * i)) &&& (1023 : Int64)) - (512 : Int64)))])) (fun t k => XT.lsub X0.here hx rfl (hb hby d1_13) rfl k) ?_
  exact own_retL X0 hx hlk hret (hb hby d1_14) e0 ⟨rfl, N0, rfl⟩ (by decide) (by decide)
theorem d5_0 : decode method_4_code 0 = .ok (.iload 4, 2) := by decide +kernel
theorem d5_2 : decode method_4_code 2 = .ok (.bipush 6, 2) := by decide +kernel
theorem d5_4 : decode method_4_code 4 = .ok (.if_icmp .ge 10, 3) := by decide +kernel
theorem d5_7 : decode method_4_code 7 = .ok (.lload_n 0, 1) := by decide +kernel
theorem d5_8 : decode method_4_code 8 = .ok (.iload 4, 2) := by decide +kernel
theorem d5_10 : decode method_4_code 10 = .ok (.invokestatic 7, 3) := by decide +kernel
theorem d5_13 : decode method_4_code 13 = .ok (.lreturn, 1) := by decide +kernel
theorem d5_14 : decode method_4_code 14 = .ok (.lload_n 2, 1) := by decide +kernel
theorem d5_15 : decode method_4_code 15 = .ok (.iload 4, 2) := by decide +kernel
theorem d5_17 : decode method_4_code 17 = .ok (.bipush 6, 2) := by decide +kernel
theorem d5_19 : decode method_4_code 19 = .ok (.isub, 1) := by decide +kernel
theorem d5_20 : decode method_4_code 20 = .ok (.invokestatic 7, 3) := by decide +kernel
theorem d5_23 : decode method_4_code 23 = .ok (.lreturn, 1) := by decide +kernel
theorem own_pd0 : parseMethodDescriptor "(JI)J" = some ⟨[.long, .int], some .long⟩ := by decide +kernel
def own_entAtT_Q (Z : State) (x y : Int64) (i : Int32) (h0 : Heap) (n0 : Nat) (v_ : Option Value) (h_ : Heap) (L_ : List Loc) : Prop := (fun v h L => v = some (.long (own_entAt x y i)) ∧ Fr n0 L ∧ h = h0) v_ h_ L_
set_option maxRecDepth 65536 in
set_option maxHeartbeats 40000000 in
theorem own_entAtT (l : Launch) (Z : State) (a0 : Array Value) (hw : ∀ d ∈ tables_1, d.before a0 Z = true) (wds : List Jvm.Cond) (x y : Int64) (i : Int32) (h0 : Heap) (n0 : Nat) (Z0 : n0 ≤ h0.size)  :
    MetFree l (⟨"com/example/galicia/galicia/lime/SparseVectorDotPinLaw", "entAt", "(JJI)J"⟩ : MethodName) (head1 (Jvm.Cond.code (⟨"com/example/galicia/galicia/lime/SparseVectorDotPinLaw", "entAt", "(JJI)J"⟩ : MethodName) method_4_code 5 (some .long) :: wds) ({ frames := 1, cells := 0, slots := 0, locals := 14 } : Room)) (fun ar_ U_ => ar_ = #[(.long x), (.long y), (.int i)] ∧ Z.Warmed39 U_.vm ∧ U_.heap = h0) (fun _ _ _ _ _ => True) (fun _ U_ o_ V_ => ∃ v_ L_, o_ = .returned v_ ∧ own_entAtT_Q Z x y i h0 n0 v_ V_.heap L_ ∧ FrameEnd U_ o_ V_ L_ ({ frames := 1, cells := 0, slots := 0, locals := 14 } : Room).cells ({ frames := 1, cells := 0, slots := 0, locals := 14 } : Room).slots) := by
  refine own_met (y := ⟨"com/example/galicia/galicia/lime/SparseVectorDotPinLaw", "entAt", "(JJI)J"⟩) (Q := own_entAtT_Q Z x y i h0 n0) own_pn0 ?_
  intro p e s m below meth c s₁ hx hby hml hZ hown hnm hret hlk X0 e0
  have N0 := Fr.nil n0
  refine own_cast (g' := (mkF m 0 #[.val (.long x), .second, .val (.long y), .second, .val (.int i)] [])) (by first | (simp [entryFrame, mkF, argsToLocals, Value.category]; done) | rfl) ?_
  generalize hL1 : (#[.val (.long x), .second, .val (.long y), .second, .val (.int i)] : Array Slot) = L1
  refine own_pre (T' := s₁) (g' := (mkF m 2 L1 [(.int i)])) (fun t k => XS.iload X0.here hx rfl (v := i) (hb hby d5_0) (by rw [← hL1]; rfl) k) ?_
  refine own_pre (T' := s₁) (g' := (mkF m 4 L1 [(.int (6 : Int32)), (.int i)])) (fun t k => XS.bipush X0.here hx rfl (hb hby d5_2) k) ?_
  by_cases hlt : i < (6 : Int32)
  · skip
    refine own_pre (T' := s₁) (g' := (mkF m 7 L1 [])) (fun t k => XS.icmpNo X0.here hx rfl (hb hby d5_4) rfl (tlt hlt).2.1 k) ?_
    refine own_pre (T' := s₁) (g' := (mkF m 8 L1 [(.long x)])) (fun t k => XT.lloadN X0.here hx rfl (v := x) (hb hby d5_7) (by rw [← hL1]; rfl) k) ?_
    refine own_pre (T' := s₁) (g' := (mkF m 10 L1 [(.int i), (.long x)])) (fun t k => XS.iload X0.here hx rfl (v := i) (hb hby d5_8) (by rw [← hL1]; rfl) k) ?_
    refine own_calls (argsL := [(.long x), (.int i)]) (rest := []) X0 hx hZ hown (own_entT l Z a0 hw [] x i h0 n0 Z0) (hw _ (List.mem_of_getElem? (i := 1) rfl)) (hw _ (List.mem_of_getElem? (i := 2) rfl)) (hw _ (List.mem_of_getElem? (i := 4) rfl)) (hw _ (List.mem_of_getElem? (i := 3) rfl)) (by decide) e0 (hb hby d5_10) (by rw [hml, ← hL1]; rfl) rfl (lenOf own_pd0 rfl) (by decide) (W := 0) (Nat.le_of_eq rfl) (by decide) (by decide) (by decide) ?_
    intro v2 T2 lo2 X2 Q2
    obtain ⟨h2, e2⟩ : ∃ h, T2.heap = h := ⟨_, rfl⟩
    rw [e2] at Q2
    obtain ⟨rfl, N2, q2⟩ := Q2
    have N2' := Fr.app N0 N2
    have e2' : T2.heap = h0 := e2.trans q2
    show own_Go _ _ _ _ _ _ _ T2 (mkF m 13 L1 [(.long (own_ent x i))])
    exact own_retL X2 hx hlk hret (hb hby d5_13) e2' ⟨by unfold own_entAt; rw [if_pos hlt], N2', rfl⟩ (by decide) (by decide)
  · skip
    refine own_pre (T' := s₁) (g' := (mkF m 14 L1 [])) (fun t k => XS.icmpYes X0.here hx rfl (pc0 := 4) (pc' := 14) rfl (hb hby d5_4) rfl (flt hlt).2.1 (by decide) (by decide) k) ?_
    refine own_pre (T' := s₁) (g' := (mkF m 15 L1 [(.long y)])) (fun t k => XT.lloadN X0.here hx rfl (v := y) (hb hby d5_14) (by rw [← hL1]; rfl) k) ?_
    refine own_pre (T' := s₁) (g' := (mkF m 17 L1 [(.int i), (.long y)])) (fun t k => XS.iload X0.here hx rfl (v := i) (hb hby d5_15) (by rw [← hL1]; rfl) k) ?_
    refine own_pre (T' := s₁) (g' := (mkF m 19 L1 [(.int (6 : Int32)), (.int i), (.long y)])) (fun t k => XS.bipush X0.here hx rfl (hb hby d5_17) k) ?_
    refine own_pre (T' := s₁) (g' := (mkF m 20 L1 [(.int (i - (6 : Int32))), (.long y)])) (fun t k => XS.isub X0.here hx rfl (hb hby d5_19) rfl k) ?_
    refine own_calls (argsL := [(.long y), (.int (i - (6 : Int32)))]) (rest := []) X0 hx hZ hown (own_entT l Z a0 hw [] y (i - (6 : Int32)) h0 n0 Z0) (hw _ (List.mem_of_getElem? (i := 1) rfl)) (hw _ (List.mem_of_getElem? (i := 2) rfl)) (hw _ (List.mem_of_getElem? (i := 4) rfl)) (hw _ (List.mem_of_getElem? (i := 3) rfl)) (by decide) e0 (hb hby d5_20) (by rw [hml, ← hL1]; rfl) rfl (lenOf own_pd0 rfl) (by decide) (W := 0) (Nat.le_of_eq rfl) (by decide) (by decide) (by decide) ?_
    intro v3 T3 lo3 X3 Q3
    obtain ⟨h3, e3⟩ : ∃ h, T3.heap = h := ⟨_, rfl⟩
    rw [e3] at Q3
    obtain ⟨rfl, N3, q3⟩ := Q3
    have N3' := Fr.app N0 N3
    have e3' : T3.heap = h0 := e3.trans q3
    show own_Go _ _ _ _ _ _ _ T3 (mkF m 23 L1 [(.long (own_ent y (i - (6 : Int32))))])
    exact own_retL X3 hx hlk hret (hb hby d5_23) e3' ⟨by unfold own_entAt; rw [if_neg hlt], N3', rfl⟩ (by decide) (by decide)
theorem d2_0 : decode prog_32_method_1_code 0 = .ok (.aload_n 0, 1) := by decide +kernel
theorem d2_1 : decode prog_32_method_1_code 1 = .ok (.invokespecial 1, 3) := by decide +kernel
theorem d2_4 : decode prog_32_method_1_code 4 = .ok (.aload_n 0, 1) := by decide +kernel
theorem d2_5 : decode prog_32_method_1_code 5 = .ok (.aload_n 1, 1) := by decide +kernel
theorem d2_6 : decode prog_32_method_1_code 6 = .ok (.putfield 7, 3) := by decide +kernel
theorem d2_9 : decode prog_32_method_1_code 9 = .ok (.aload_n 0, 1) := by decide +kernel
theorem d2_10 : decode prog_32_method_1_code 10 = .ok (.aload_n 2, 1) := by decide +kernel
theorem d2_11 : decode prog_32_method_1_code 11 = .ok (.putfield 13, 3) := by decide +kernel
theorem d2_14 : decode prog_32_method_1_code 14 = .ok (.return_, 1) := by decide +kernel
theorem own_pn1 : plainName "com/example/galicia/galicia/lime/SparseVector" = true := by first | (simp [plainName, overriddenIn]; done) | decide +kernel
def own_svinit_Q (Z : State) (o ap av : Addr) (h0 : Heap) (n0 : Nat) (v_ : Option Value) (h_ : Heap) (L_ : List Loc) : Prop := (fun v h L => v = none ∧ Fr n0 L ∧ Keep h0 h [o] ∧ Fld Z h o "com/example/galicia/galicia/lime/SparseVector" "positions" "[I" (.ref ap) ∧ Fld Z h o "com/example/galicia/galicia/lime/SparseVector" "values" "[D" (.ref av)) v_ h_ L_
set_option maxRecDepth 65536 in
set_option maxHeartbeats 40000000 in
theorem own_svinit (l : Launch) (Z : State) (a0 : Array Value) (hw : ∀ d ∈ tables_1, d.before a0 Z = true) (wds : List Jvm.Cond) (o ap av : Addr) (h0 : Heap) (n0 : Nat) (Z0 : n0 ≤ h0.size) (E : Exa Z h0 o "com/example/galicia/galicia/lime/SparseVector") (F1 : Fld Z h0 o "com/example/galicia/galicia/lime/SparseVector" "positions" "[I" .null) (F2 : Fld Z h0 o "com/example/galicia/galicia/lime/SparseVector" "values" "[D" .null) (hnew : n0 ≤ o) :
    MetFree l (⟨"com/example/galicia/galicia/lime/SparseVector", "<init>", "([I[D)V"⟩ : MethodName) (head1 (Jvm.Cond.code (⟨"com/example/galicia/galicia/lime/SparseVector", "<init>", "([I[D)V"⟩ : MethodName) prog_32_method_1_code 3 none :: wds) ({ frames := 1, cells := 0, slots := 0, locals := 12 } : Room)) (fun ar_ U_ => ar_ = #[(.ref o), (.ref ap), (.ref av)] ∧ Z.Warmed39 U_.vm ∧ U_.heap = h0) (fun _ _ _ _ _ => True) (fun _ U_ o_ V_ => ∃ v_ L_, o_ = .returned v_ ∧ own_svinit_Q Z o ap av h0 n0 v_ V_.heap L_ ∧ FrameEnd U_ o_ V_ L_ ({ frames := 1, cells := 0, slots := 0, locals := 12 } : Room).cells ({ frames := 1, cells := 0, slots := 0, locals := 12 } : Room).slots) := by
  refine own_met (y := ⟨"com/example/galicia/galicia/lime/SparseVector", "<init>", "([I[D)V"⟩) (Q := own_svinit_Q Z o ap av h0 n0) own_pn1 ?_
  intro p e s m below meth c s₁ hx hby hml hZ hown hnm hret hlk X0 e0
  have N0 := Fr.nil n0
  refine own_cast (g' := (mkF m 0 #[.val (.ref o), .val (.ref ap), .val (.ref av)] [])) (by first | (simp [entryFrame, mkF, argsToLocals, Value.category]; done) | rfl) ?_
  refine own_pre (T' := s₁) (g' := (mkF m 1 #[.val (.ref o), .val (.ref ap), .val (.ref av)] [(.ref o)])) (fun t k => XS.aloadN X0.here hx rfl (v := (.ref o)) (hb hby d2_0) rfl rfl k) ?_
  refine own_init0 X0 hx hZ hown (hw _ (List.mem_of_getElem? (i := 14) rfl)) (hw _ (List.mem_of_getElem? (i := 15) rfl)) (hw _ (List.mem_of_getElem? (i := 16) rfl)) e0 (hb hby d2_1) (by rw [hml]; rfl) (by decide) (W := 0) (Nat.le_of_eq rfl) (by decide) ?_
  intro T1 X1 e1
  show own_Go _ _ _ _ _ _ _ T1 (mkF m 4 #[.val (.ref o), .val (.ref ap), .val (.ref av)] [])
  refine own_pre (T' := T1) (g' := (mkF m 5 #[.val (.ref o), .val (.ref ap), .val (.ref av)] [(.ref o)])) (fun t k => XS.aloadN X1.here hx rfl (v := (.ref o)) (hb hby d2_4) rfl rfl k) ?_
  refine own_pre (T' := T1) (g' := (mkF m 6 #[.val (.ref o), .val (.ref ap), .val (.ref av)] [(.ref ap), (.ref o)])) (fun t k => XS.aloadN X1.here hx rfl (v := (.ref ap)) (hb hby d2_5) rfl rfl k) ?_
  refine own_putf X1 hx hZ hown (hw _ (List.mem_of_getElem? (i := 17) rfl)) e1 N0 hnew F1 E (Or.inr ⟨(hw _ (List.mem_of_getElem? (i := 18) rfl)), rfl, hnm⟩) (hw _ (List.mem_of_getElem? (i := 9) rfl)) (ty := (.array .int)) (by decide) rfl rfl (hb hby d2_6) ?_
  intro T2 h2 lo2 X2 e2 N2 W2
  have F3 : Fld Z h2 o "com/example/galicia/galicia/lime/SparseVector" "positions" "[I" (.ref ap) := F1.same W2
  show own_Go _ _ _ _ _ _ _ T2 (mkF m 9 #[.val (.ref o), .val (.ref ap), .val (.ref av)] [])
  refine own_pre (T' := T2) (g' := (mkF m 10 #[.val (.ref o), .val (.ref ap), .val (.ref av)] [(.ref o)])) (fun t k => XS.aloadN X2.here hx rfl (v := (.ref o)) (hb hby d2_9) rfl rfl k) ?_
  refine own_pre (T' := T2) (g' := (mkF m 11 #[.val (.ref o), .val (.ref ap), .val (.ref av)] [(.ref av), (.ref o)])) (fun t k => XS.aloadN X2.here hx rfl (v := (.ref av)) (hb hby d2_10) rfl rfl k) ?_
  have F4 : Fld Z h2 o "com/example/galicia/galicia/lime/SparseVector" "values" "[D" .null := (F2.other W2 (Or.inr (slot_ne (C := "com/example/galicia/galicia/lime/SparseVector") (Or.inr (hw _ (List.mem_of_getElem? (i := 20) rfl))) (Or.inr (hw _ (List.mem_of_getElem? (i := 18) rfl))) (by decide) (t := (.array .double)) (t' := (.array .int)) (by decide) (by decide))))
  have F5 : Exa Z h2 o "com/example/galicia/galicia/lime/SparseVector" := (E.wr W2)
  refine own_putf X2 hx hZ hown (hw _ (List.mem_of_getElem? (i := 19) rfl)) e2 N2 hnew F4 F5 (Or.inr ⟨(hw _ (List.mem_of_getElem? (i := 20) rfl)), rfl, hnm⟩) (hw _ (List.mem_of_getElem? (i := 9) rfl)) (ty := (.array .double)) (by decide) rfl rfl (hb hby d2_11) ?_
  intro T6 h6 lo6 X6 e6 N6 W6
  have F7 : Fld Z h6 o "com/example/galicia/galicia/lime/SparseVector" "values" "[D" (.ref av) := F4.same W6
  show own_Go _ _ _ _ _ _ _ T6 (mkF m 14 #[.val (.ref o), .val (.ref ap), .val (.ref av)] [])
  have F8 : Fld Z h6 o "com/example/galicia/galicia/lime/SparseVector" "positions" "[I" (.ref ap) := (F3.other W6 (Or.inr (slot_ne (C := "com/example/galicia/galicia/lime/SparseVector") (Or.inr (hw _ (List.mem_of_getElem? (i := 18) rfl))) (Or.inr (hw _ (List.mem_of_getElem? (i := 20) rfl))) (by decide) (t := (.array .int)) (t' := (.array .double)) (by decide) (by decide))))
  exact own_ret0 X6 hx hlk hret (hb hby d2_14) e6 ⟨rfl, N6, ((Keep.refl _ _).wr W2 (Or.inl (List.mem_cons_self ..))).wr W6 (Or.inl (List.mem_cons_self ..)), F8, F7⟩ (by decide) (by decide)
theorem d4_0 : decode prog_32_method_6_code 0 = .ok (.dconst 0, 1) := by decide +kernel
theorem d4_1 : decode prog_32_method_6_code 1 = .ok (.dstore_n 2, 1) := by decide +kernel
theorem d4_2 : decode prog_32_method_6_code 2 = .ok (.iconst 0, 1) := by decide +kernel
theorem d4_3 : decode prog_32_method_6_code 3 = .ok (.istore 4, 2) := by decide +kernel
theorem d4_5 : decode prog_32_method_6_code 5 = .ok (.iload 4, 2) := by decide +kernel
theorem d4_7 : decode prog_32_method_6_code 7 = .ok (.aload_n 0, 1) := by decide +kernel
theorem d4_8 : decode prog_32_method_6_code 8 = .ok (.getfield 7, 3) := by decide +kernel
theorem d4_11 : decode prog_32_method_6_code 11 = .ok (.arraylength, 1) := by decide +kernel
theorem d4_12 : decode prog_32_method_6_code 12 = .ok (.if_icmp .ge 29, 3) := by decide +kernel
theorem d4_15 : decode prog_32_method_6_code 15 = .ok (.dload_n 2, 1) := by decide +kernel
theorem d4_16 : decode prog_32_method_6_code 16 = .ok (.aload_n 0, 1) := by decide +kernel
theorem d4_17 : decode prog_32_method_6_code 17 = .ok (.getfield 13, 3) := by decide +kernel
theorem d4_20 : decode prog_32_method_6_code 20 = .ok (.iload 4, 2) := by decide +kernel
theorem d4_22 : decode prog_32_method_6_code 22 = .ok (.daload, 1) := by decide +kernel
theorem d4_23 : decode prog_32_method_6_code 23 = .ok (.aload_n 1, 1) := by decide +kernel
theorem d4_24 : decode prog_32_method_6_code 24 = .ok (.aload_n 0, 1) := by decide +kernel
theorem d4_25 : decode prog_32_method_6_code 25 = .ok (.getfield 7, 3) := by decide +kernel
theorem d4_28 : decode prog_32_method_6_code 28 = .ok (.iload 4, 2) := by decide +kernel
theorem d4_30 : decode prog_32_method_6_code 30 = .ok (.iaload, 1) := by decide +kernel
theorem d4_31 : decode prog_32_method_6_code 31 = .ok (.daload, 1) := by decide +kernel
theorem d4_32 : decode prog_32_method_6_code 32 = .ok (.dmul, 1) := by decide +kernel
theorem d4_33 : decode prog_32_method_6_code 33 = .ok (.dadd, 1) := by decide +kernel
theorem d4_34 : decode prog_32_method_6_code 34 = .ok (.dstore_n 2, 1) := by decide +kernel
theorem d4_35 : decode prog_32_method_6_code 35 = .ok (.iinc 4 1, 3) := by decide +kernel
theorem d4_38 : decode prog_32_method_6_code 38 = .ok (.goto (-33), 3) := by decide +kernel
theorem d4_41 : decode prog_32_method_6_code 41 = .ok (.dload_n 2, 1) := by decide +kernel
theorem d4_42 : decode prog_32_method_6_code 42 = .ok (.dreturn, 1) := by decide +kernel
def own_dot0_Q (Z : State) (o ap av ao : Addr) (O : List Value)  (h0 : Heap) (n0 : Nat) (v_ : Option Value) (h_ : Heap) (L_ : List Loc) : Prop := (fun v h L => ∃ r, v = some (.double r) ∧ FP.Core.DInt 0 r ∧ Fr n0 L ∧ h = h0) v_ h_ L_
set_option maxRecDepth 65536 in
set_option maxHeartbeats 40000000 in
theorem own_dot0 (l : Launch) (Z : State) (a0 : Array Value) (hw : ∀ d ∈ tables_1, d.before a0 Z = true) (wds : List Jvm.Cond) (o ap av ao : Addr) (O : List Value)  (h0 : Heap) (n0 : Nat) (Z0 : n0 ≤ h0.size) (F1 : Fld Z h0 o "com/example/galicia/galicia/lime/SparseVector" "positions" "[I" (.ref ap)) (F2 : Fld Z h0 o "com/example/galicia/galicia/lime/SparseVector" "values" "[D" (.ref av)) (A1 : own_Ary Z h0 ap .int []) (A2 : own_Ary Z h0 av .double []) (A3 : own_Ary Z h0 ao .double O)  :
    MetFree l (⟨"com/example/galicia/galicia/lime/SparseVector", "dot", "([D)D"⟩ : MethodName) (head1 (Jvm.Cond.code (⟨"com/example/galicia/galicia/lime/SparseVector", "dot", "([D)D"⟩ : MethodName) prog_32_method_6_code 5 (some .double) :: wds) ({ frames := 0, cells := 0, slots := 0, locals := 0 } : Room)) (fun ar_ U_ => ar_ = #[(.ref o), (.ref ao)] ∧ Z.Warmed39 U_.vm ∧ U_.heap = h0) (fun _ _ _ _ _ => True) (fun _ U_ o_ V_ => ∃ v_ L_, o_ = .returned v_ ∧ own_dot0_Q Z o ap av ao O h0 n0 v_ V_.heap L_ ∧ FrameEnd U_ o_ V_ L_ ({ frames := 0, cells := 0, slots := 0, locals := 0 } : Room).cells ({ frames := 0, cells := 0, slots := 0, locals := 0 } : Room).slots) := by
  refine own_met (y := ⟨"com/example/galicia/galicia/lime/SparseVector", "dot", "([D)D"⟩) (Q := own_dot0_Q Z o ap av ao O h0 n0) own_pn1 ?_
  intro p e s m below meth c s₁ hx hby hml hZ hown hnm hret hlk X0 e0
  have N0 := Fr.nil n0
  refine own_cast (g' := (mkF m 0 #[.val (.ref o), .val (.ref ao), .unset, .unset, .unset] [])) (by first | (simp [entryFrame, mkF, argsToLocals, Value.category]; done) | rfl) ?_
  generalize hL1 : (#[.val (.ref o), .val (.ref ao), .unset, .unset, .unset] : Array Slot) = L1
  refine own_pre (T' := s₁) (g' := (mkF m 1 L1 [(.double (0 : UInt64))])) (fun t k => XS.dconst0 X0.here hx rfl (v := (0 : UInt64)) (hb hby d4_0) (by decide) k) ?_
  refine own_pre (T' := s₁) (g' := (mkF m 2 #[.val (.ref o), .val (.ref ao), .val (.double (0 : UInt64)), .second, .unset] [])) (fun t k => XS.dstoreN X0.here hx rfl (hb hby d4_1) rfl (l' := #[.val (.ref o), .val (.ref ao), .val (.double (0 : UInt64)), .second, .unset]) (by rw [← hL1]; rfl) k) ?_
  generalize hL2 : (#[.val (.ref o), .val (.ref ao), .val (.double (0 : UInt64)), .second, .unset] : Array Slot) = L2
  refine own_pre (T' := s₁) (g' := (mkF m 3 L2 [(.int (0 : Int32))])) (fun t k => XS.iconst X0.here hx rfl (hb hby d4_2) k) ?_
  refine own_pre (T' := s₁) (g' := (mkF m 5 #[.val (.ref o), .val (.ref ao), .val (.double (0 : UInt64)), .second, .val (.int (0 : Int32))] [])) (fun t k => XS.istore X0.here hx rfl (hb hby d4_3) rfl (l' := #[.val (.ref o), .val (.ref ao), .val (.double (0 : UInt64)), .second, .val (.int (0 : Int32))]) (by rw [← hL2]; rfl) k) ?_
  generalize hL3 : (#[.val (.ref o), .val (.ref ao), .val (.double (0 : UInt64)), .second, .val (.int (0 : Int32))] : Array Slot) = L3
  refine own_pre (T' := s₁) (g' := (mkF m 7 L3 [(.int (0 : Int32))])) (fun t k => XS.iload X0.here hx rfl (v := (0 : Int32)) (hb hby d4_5) (by rw [← hL3]; rfl) k) ?_
  refine own_pre (T' := s₁) (g' := (mkF m 8 L3 [(.ref o), (.int (0 : Int32))])) (fun t k => XS.aloadN X0.here hx rfl (v := (.ref o)) (hb hby d4_7) (by rw [← hL3]; rfl) rfl k) ?_
  refine own_getf X0 hx hZ hown (hw _ (List.mem_of_getElem? (i := 17) rfl)) e0 F1 (hb hby d4_8) ?_
  intro T4 X4 e4
  show own_Go _ _ _ _ _ _ _ T4 (mkF m 11 L3 [(.ref ap), (.int (0 : Int32))])
  refine own_len X4 hx hZ e4 A1 (hb hby d4_11) (n := (0 : Int32)) rfl ?_
  show own_Go _ _ _ _ _ _ _ T4 (mkF m 12 L3 [(.int (0 : Int32)), (.int (0 : Int32))])
  refine own_pre (T' := T4) (g' := (mkF m 41 L3 [])) (fun t k => XS.icmpYes X4.here hx rfl (pc0 := 12) (pc' := 41) rfl (hb hby d4_12) rfl (by decide) (by decide) (by decide) k) ?_
  refine own_pre (T' := T4) (g' := (mkF m 42 L3 [(.double (0 : UInt64))])) (fun t k => XS.dloadN X4.here hx rfl (v := (0 : UInt64)) (hb hby d4_41) (by rw [← hL3]; rfl) k) ?_
  exact own_retD X4 hx hlk hret (hb hby d4_42) e4 ⟨_, rfl, own_DInt0, N0, rfl⟩ (by decide) (by decide)
def own_dot1_Q (Z : State) (o ap av ao : Addr) (O : List Value) (p0 : Int32) (x0 y0 : UInt64) (i0 j0 : Int) (h0 : Heap) (n0 : Nat) (v_ : Option Value) (h_ : Heap) (L_ : List Loc) : Prop := (fun v h L => ∃ r, v = some (.double r) ∧ FP.Core.DInt (0 + (i0 * j0)) r ∧ Fr n0 L ∧ h = h0) v_ h_ L_
set_option maxRecDepth 65536 in
set_option maxHeartbeats 40000000 in
theorem own_dot1 (l : Launch) (Z : State) (a0 : Array Value) (hw : ∀ d ∈ tables_1, d.before a0 Z = true) (wds : List Jvm.Cond) (o ap av ao : Addr) (O : List Value) (p0 : Int32) (x0 y0 : UInt64) (i0 j0 : Int) (h0 : Heap) (n0 : Nat) (Z0 : n0 ≤ h0.size) (F1 : Fld Z h0 o "com/example/galicia/galicia/lime/SparseVector" "positions" "[I" (.ref ap)) (F2 : Fld Z h0 o "com/example/galicia/galicia/lime/SparseVector" "values" "[D" (.ref av)) (A1 : own_Ary Z h0 ap .int [.int p0]) (A2 : own_Ary Z h0 av .double [.double x0]) (A3 : own_Ary Z h0 ao .double O) (q0 : 0 ≤ p0) (g0 : O[p0.toNatClampNeg]? = some (.double y0)) (DX0 : FP.Core.DInt i0 x0) (DY0 : FP.Core.DInt j0 y0) (b0 : (i0 * j0).natAbs ≤ 2 ^ 50) :
    MetFree l (⟨"com/example/galicia/galicia/lime/SparseVector", "dot", "([D)D"⟩ : MethodName) (head1 (Jvm.Cond.code (⟨"com/example/galicia/galicia/lime/SparseVector", "dot", "([D)D"⟩ : MethodName) prog_32_method_6_code 5 (some .double) :: wds) ({ frames := 0, cells := 0, slots := 0, locals := 0 } : Room)) (fun ar_ U_ => ar_ = #[(.ref o), (.ref ao)] ∧ Z.Warmed39 U_.vm ∧ U_.heap = h0) (fun _ _ _ _ _ => True) (fun _ U_ o_ V_ => ∃ v_ L_, o_ = .returned v_ ∧ own_dot1_Q Z o ap av ao O p0 x0 y0 i0 j0 h0 n0 v_ V_.heap L_ ∧ FrameEnd U_ o_ V_ L_ ({ frames := 0, cells := 0, slots := 0, locals := 0 } : Room).cells ({ frames := 0, cells := 0, slots := 0, locals := 0 } : Room).slots) := by
  refine own_met (y := ⟨"com/example/galicia/galicia/lime/SparseVector", "dot", "([D)D"⟩) (Q := own_dot1_Q Z o ap av ao O p0 x0 y0 i0 j0 h0 n0) own_pn1 ?_
  intro p e s m below meth c s₁ hx hby hml hZ hown hnm hret hlk X0 e0
  have N0 := Fr.nil n0
  refine own_cast (g' := (mkF m 0 #[.val (.ref o), .val (.ref ao), .unset, .unset, .unset] [])) (by first | (simp [entryFrame, mkF, argsToLocals, Value.category]; done) | rfl) ?_
  generalize hL1 : (#[.val (.ref o), .val (.ref ao), .unset, .unset, .unset] : Array Slot) = L1
  refine own_pre (T' := s₁) (g' := (mkF m 1 L1 [(.double (0 : UInt64))])) (fun t k => XS.dconst0 X0.here hx rfl (v := (0 : UInt64)) (hb hby d4_0) (by decide) k) ?_
  refine own_pre (T' := s₁) (g' := (mkF m 2 #[.val (.ref o), .val (.ref ao), .val (.double (0 : UInt64)), .second, .unset] [])) (fun t k => XS.dstoreN X0.here hx rfl (hb hby d4_1) rfl (l' := #[.val (.ref o), .val (.ref ao), .val (.double (0 : UInt64)), .second, .unset]) (by rw [← hL1]; rfl) k) ?_
  generalize hL2 : (#[.val (.ref o), .val (.ref ao), .val (.double (0 : UInt64)), .second, .unset] : Array Slot) = L2
  refine own_pre (T' := s₁) (g' := (mkF m 3 L2 [(.int (0 : Int32))])) (fun t k => XS.iconst X0.here hx rfl (hb hby d4_2) k) ?_
  refine own_pre (T' := s₁) (g' := (mkF m 5 #[.val (.ref o), .val (.ref ao), .val (.double (0 : UInt64)), .second, .val (.int (0 : Int32))] [])) (fun t k => XS.istore X0.here hx rfl (hb hby d4_3) rfl (l' := #[.val (.ref o), .val (.ref ao), .val (.double (0 : UInt64)), .second, .val (.int (0 : Int32))]) (by rw [← hL2]; rfl) k) ?_
  generalize hL3 : (#[.val (.ref o), .val (.ref ao), .val (.double (0 : UInt64)), .second, .val (.int (0 : Int32))] : Array Slot) = L3
  refine own_pre (T' := s₁) (g' := (mkF m 7 L3 [(.int (0 : Int32))])) (fun t k => XS.iload X0.here hx rfl (v := (0 : Int32)) (hb hby d4_5) (by rw [← hL3]; rfl) k) ?_
  refine own_pre (T' := s₁) (g' := (mkF m 8 L3 [(.ref o), (.int (0 : Int32))])) (fun t k => XS.aloadN X0.here hx rfl (v := (.ref o)) (hb hby d4_7) (by rw [← hL3]; rfl) rfl k) ?_
  refine own_getf X0 hx hZ hown (hw _ (List.mem_of_getElem? (i := 17) rfl)) e0 F1 (hb hby d4_8) ?_
  intro T4 X4 e4
  show own_Go _ _ _ _ _ _ _ T4 (mkF m 11 L3 [(.ref ap), (.int (0 : Int32))])
  refine own_len X4 hx hZ e4 A1 (hb hby d4_11) (n := (1 : Int32)) rfl ?_
  show own_Go _ _ _ _ _ _ _ T4 (mkF m 12 L3 [(.int (1 : Int32)), (.int (0 : Int32))])
  refine own_pre (T' := T4) (g' := (mkF m 15 L3 [])) (fun t k => XS.icmpNo X4.here hx rfl (hb hby d4_12) rfl (by decide) k) ?_
  refine own_pre (T' := T4) (g' := (mkF m 16 L3 [(.double (0 : UInt64))])) (fun t k => XS.dloadN X4.here hx rfl (v := (0 : UInt64)) (hb hby d4_15) (by rw [← hL3]; rfl) k) ?_
  refine own_pre (T' := T4) (g' := (mkF m 17 L3 [(.ref o), (.double (0 : UInt64))])) (fun t k => XS.aloadN X4.here hx rfl (v := (.ref o)) (hb hby d4_16) (by rw [← hL3]; rfl) rfl k) ?_
  refine own_getf X4 hx hZ hown (hw _ (List.mem_of_getElem? (i := 19) rfl)) e4 F2 (hb hby d4_17) ?_
  intro T5 X5 e5
  show own_Go _ _ _ _ _ _ _ T5 (mkF m 20 L3 [(.ref av), (.double (0 : UInt64))])
  refine own_pre (T' := T5) (g' := (mkF m 22 L3 [(.int (0 : Int32)), (.ref av), (.double (0 : UInt64))])) (fun t k => XS.iload X5.here hx rfl (v := (0 : Int32)) (hb hby d4_20) (by rw [← hL3]; rfl) k) ?_
  refine own_daload X5 hx hZ e5 A2 (hb hby d4_22) (n := 0) (v := (.double x0)) (by decide) (by decide) rfl ?_
  show own_Go _ _ _ _ _ _ _ T5 (mkF m 23 L3 [(.double x0), (.double (0 : UInt64))])
  refine own_pre (T' := T5) (g' := (mkF m 24 L3 [(.ref ao), (.double x0), (.double (0 : UInt64))])) (fun t k => XS.aloadN X5.here hx rfl (v := (.ref ao)) (hb hby d4_23) (by rw [← hL3]; rfl) rfl k) ?_
  refine own_pre (T' := T5) (g' := (mkF m 25 L3 [(.ref o), (.ref ao), (.double x0), (.double (0 : UInt64))])) (fun t k => XS.aloadN X5.here hx rfl (v := (.ref o)) (hb hby d4_24) (by rw [← hL3]; rfl) rfl k) ?_
  refine own_getf X5 hx hZ hown (hw _ (List.mem_of_getElem? (i := 17) rfl)) e5 F1 (hb hby d4_25) ?_
  intro T6 X6 e6
  show own_Go _ _ _ _ _ _ _ T6 (mkF m 28 L3 [(.ref ap), (.ref ao), (.double x0), (.double (0 : UInt64))])
  refine own_pre (T' := T6) (g' := (mkF m 30 L3 [(.int (0 : Int32)), (.ref ap), (.ref ao), (.double x0), (.double (0 : UInt64))])) (fun t k => XS.iload X6.here hx rfl (v := (0 : Int32)) (hb hby d4_28) (by rw [← hL3]; rfl) k) ?_
  refine own_iaload X6 hx hZ e6 A1 (hb hby d4_30) (n := 0) (v := (.int p0)) (by decide) (by decide) rfl ?_
  show own_Go _ _ _ _ _ _ _ T6 (mkF m 31 L3 [(.int p0), (.ref ao), (.double x0), (.double (0 : UInt64))])
  refine own_daload X6 hx hZ e6 A3 (hb hby d4_31) (n := p0.toNatClampNeg) (v := (.double y0)) q0 rfl g0 ?_
  show own_Go _ _ _ _ _ _ _ T6 (mkF m 32 L3 [(.double y0), (.double x0), (.double (0 : UInt64))])
  obtain ⟨f7, hf7⟩ : ∃ z, FP.dmul x0 y0 = z := ⟨_, rfl⟩
  have Df7 : Jvm.FP.Core.DInt (i0 * j0) f7 := hf7 ▸ Jvm.FP.Core.dmul_int DX0 DY0 (by omega)
  refine own_pre (T' := T6) (g' := (mkF m 33 L3 [(.double f7), (.double (0 : UInt64))])) (fun t k => XS.dmulS X6.here hx rfl (hb hby d4_32) rfl (by rw [hf7]; exact own_DInt_nn Df7) hf7 k) ?_
  obtain ⟨f8, hf8⟩ : ∃ z, FP.dadd (0 : UInt64) f7 = z := ⟨_, rfl⟩
  have Df8 : Jvm.FP.Core.DInt (0 + (i0 * j0)) f8 := hf8 ▸ Jvm.FP.Core.dadd_int own_DInt0 Df7 (by omega)
  refine own_pre (T' := T6) (g' := (mkF m 34 L3 [(.double f8)])) (fun t k => XS.daddS X6.here hx rfl (hb hby d4_33) rfl (by rw [hf8]; exact own_DInt_nn Df8) hf8 k) ?_
  refine own_pre (T' := T6) (g' := (mkF m 35 #[.val (.ref o), .val (.ref ao), .val (.double f8), .second, .val (.int (0 : Int32))] [])) (fun t k => XS.dstoreN X6.here hx rfl (hb hby d4_34) rfl (l' := #[.val (.ref o), .val (.ref ao), .val (.double f8), .second, .val (.int (0 : Int32))]) (by rw [← hL3]; rfl) k) ?_
  generalize hL9 : (#[.val (.ref o), .val (.ref ao), .val (.double f8), .second, .val (.int (0 : Int32))] : Array Slot) = L9
  refine own_pre (T' := T6) (g' := (mkF m 38 #[.val (.ref o), .val (.ref ao), .val (.double f8), .second, .val (.int (1 : Int32))] [])) (fun t k => XS.iinc X6.here hx rfl (hb hby d4_35) (x := (0 : Int32)) (by rw [← hL9]; rfl) (l' := #[.val (.ref o), .val (.ref ao), .val (.double f8), .second, .val (.int (1 : Int32))]) (by rw [← hL9]; rfl) k) ?_
  generalize hL10 : (#[.val (.ref o), .val (.ref ao), .val (.double f8), .second, .val (.int (1 : Int32))] : Array Slot) = L10
  refine own_pre (T' := T6) (g' := (mkF m 5 L10 [])) (fun t k => XS.goto X6.here hx rfl (pc0 := 38) (pc' := 5) rfl (hb hby d4_38) (by decide) (by decide) k) ?_
  refine own_pre (T' := T6) (g' := (mkF m 7 L10 [(.int (1 : Int32))])) (fun t k => XS.iload X6.here hx rfl (v := (1 : Int32)) (hb hby d4_5) (by rw [← hL10]; rfl) k) ?_
  refine own_pre (T' := T6) (g' := (mkF m 8 L10 [(.ref o), (.int (1 : Int32))])) (fun t k => XS.aloadN X6.here hx rfl (v := (.ref o)) (hb hby d4_7) (by rw [← hL10]; rfl) rfl k) ?_
  refine own_getf X6 hx hZ hown (hw _ (List.mem_of_getElem? (i := 17) rfl)) e6 F1 (hb hby d4_8) ?_
  intro T11 X11 e11
  show own_Go _ _ _ _ _ _ _ T11 (mkF m 11 L10 [(.ref ap), (.int (1 : Int32))])
  refine own_len X11 hx hZ e11 A1 (hb hby d4_11) (n := (1 : Int32)) rfl ?_
  show own_Go _ _ _ _ _ _ _ T11 (mkF m 12 L10 [(.int (1 : Int32)), (.int (1 : Int32))])
  refine own_pre (T' := T11) (g' := (mkF m 41 L10 [])) (fun t k => XS.icmpYes X11.here hx rfl (pc0 := 12) (pc' := 41) rfl (hb hby d4_12) rfl (by decide) (by decide) (by decide) k) ?_
  refine own_pre (T' := T11) (g' := (mkF m 42 L10 [(.double f8)])) (fun t k => XS.dloadN X11.here hx rfl (v := f8) (hb hby d4_41) (by rw [← hL10]; rfl) k) ?_
  exact own_retD X11 hx hlk hret (hb hby d4_42) e11 ⟨_, rfl, Df8, N0, rfl⟩ (by decide) (by decide)
def own_dot2_Q (Z : State) (o ap av ao : Addr) (O : List Value) (p0 : Int32) (x0 y0 : UInt64) (i0 j0 : Int) (p1 : Int32) (x1 y1 : UInt64) (i1 j1 : Int) (h0 : Heap) (n0 : Nat) (v_ : Option Value) (h_ : Heap) (L_ : List Loc) : Prop := (fun v h L => ∃ r, v = some (.double r) ∧ FP.Core.DInt ((0 + (i0 * j0)) + (i1 * j1)) r ∧ Fr n0 L ∧ h = h0) v_ h_ L_
set_option maxRecDepth 65536 in
set_option maxHeartbeats 40000000 in
theorem own_dot2 (l : Launch) (Z : State) (a0 : Array Value) (hw : ∀ d ∈ tables_1, d.before a0 Z = true) (wds : List Jvm.Cond) (o ap av ao : Addr) (O : List Value) (p0 : Int32) (x0 y0 : UInt64) (i0 j0 : Int) (p1 : Int32) (x1 y1 : UInt64) (i1 j1 : Int) (h0 : Heap) (n0 : Nat) (Z0 : n0 ≤ h0.size) (F1 : Fld Z h0 o "com/example/galicia/galicia/lime/SparseVector" "positions" "[I" (.ref ap)) (F2 : Fld Z h0 o "com/example/galicia/galicia/lime/SparseVector" "values" "[D" (.ref av)) (A1 : own_Ary Z h0 ap .int [.int p0, .int p1]) (A2 : own_Ary Z h0 av .double [.double x0, .double x1]) (A3 : own_Ary Z h0 ao .double O) (q0 : 0 ≤ p0) (g0 : O[p0.toNatClampNeg]? = some (.double y0)) (DX0 : FP.Core.DInt i0 x0) (DY0 : FP.Core.DInt j0 y0) (b0 : (i0 * j0).natAbs ≤ 2 ^ 50) (q1 : 0 ≤ p1) (g1 : O[p1.toNatClampNeg]? = some (.double y1)) (DX1 : FP.Core.DInt i1 x1) (DY1 : FP.Core.DInt j1 y1) (b1 : (i1 * j1).natAbs ≤ 2 ^ 50) :
    MetFree l (⟨"com/example/galicia/galicia/lime/SparseVector", "dot", "([D)D"⟩ : MethodName) (head1 (Jvm.Cond.code (⟨"com/example/galicia/galicia/lime/SparseVector", "dot", "([D)D"⟩ : MethodName) prog_32_method_6_code 5 (some .double) :: wds) ({ frames := 0, cells := 0, slots := 0, locals := 0 } : Room)) (fun ar_ U_ => ar_ = #[(.ref o), (.ref ao)] ∧ Z.Warmed39 U_.vm ∧ U_.heap = h0) (fun _ _ _ _ _ => True) (fun _ U_ o_ V_ => ∃ v_ L_, o_ = .returned v_ ∧ own_dot2_Q Z o ap av ao O p0 x0 y0 i0 j0 p1 x1 y1 i1 j1 h0 n0 v_ V_.heap L_ ∧ FrameEnd U_ o_ V_ L_ ({ frames := 0, cells := 0, slots := 0, locals := 0 } : Room).cells ({ frames := 0, cells := 0, slots := 0, locals := 0 } : Room).slots) := by
  refine own_met (y := ⟨"com/example/galicia/galicia/lime/SparseVector", "dot", "([D)D"⟩) (Q := own_dot2_Q Z o ap av ao O p0 x0 y0 i0 j0 p1 x1 y1 i1 j1 h0 n0) own_pn1 ?_
  intro p e s m below meth c s₁ hx hby hml hZ hown hnm hret hlk X0 e0
  have N0 := Fr.nil n0
  refine own_cast (g' := (mkF m 0 #[.val (.ref o), .val (.ref ao), .unset, .unset, .unset] [])) (by first | (simp [entryFrame, mkF, argsToLocals, Value.category]; done) | rfl) ?_
  generalize hL1 : (#[.val (.ref o), .val (.ref ao), .unset, .unset, .unset] : Array Slot) = L1
  refine own_pre (T' := s₁) (g' := (mkF m 1 L1 [(.double (0 : UInt64))])) (fun t k => XS.dconst0 X0.here hx rfl (v := (0 : UInt64)) (hb hby d4_0) (by decide) k) ?_
  refine own_pre (T' := s₁) (g' := (mkF m 2 #[.val (.ref o), .val (.ref ao), .val (.double (0 : UInt64)), .second, .unset] [])) (fun t k => XS.dstoreN X0.here hx rfl (hb hby d4_1) rfl (l' := #[.val (.ref o), .val (.ref ao), .val (.double (0 : UInt64)), .second, .unset]) (by rw [← hL1]; rfl) k) ?_
  generalize hL2 : (#[.val (.ref o), .val (.ref ao), .val (.double (0 : UInt64)), .second, .unset] : Array Slot) = L2
  refine own_pre (T' := s₁) (g' := (mkF m 3 L2 [(.int (0 : Int32))])) (fun t k => XS.iconst X0.here hx rfl (hb hby d4_2) k) ?_
  refine own_pre (T' := s₁) (g' := (mkF m 5 #[.val (.ref o), .val (.ref ao), .val (.double (0 : UInt64)), .second, .val (.int (0 : Int32))] [])) (fun t k => XS.istore X0.here hx rfl (hb hby d4_3) rfl (l' := #[.val (.ref o), .val (.ref ao), .val (.double (0 : UInt64)), .second, .val (.int (0 : Int32))]) (by rw [← hL2]; rfl) k) ?_
  generalize hL3 : (#[.val (.ref o), .val (.ref ao), .val (.double (0 : UInt64)), .second, .val (.int (0 : Int32))] : Array Slot) = L3
  refine own_pre (T' := s₁) (g' := (mkF m 7 L3 [(.int (0 : Int32))])) (fun t k => XS.iload X0.here hx rfl (v := (0 : Int32)) (hb hby d4_5) (by rw [← hL3]; rfl) k) ?_
  refine own_pre (T' := s₁) (g' := (mkF m 8 L3 [(.ref o), (.int (0 : Int32))])) (fun t k => XS.aloadN X0.here hx rfl (v := (.ref o)) (hb hby d4_7) (by rw [← hL3]; rfl) rfl k) ?_
  refine own_getf X0 hx hZ hown (hw _ (List.mem_of_getElem? (i := 17) rfl)) e0 F1 (hb hby d4_8) ?_
  intro T4 X4 e4
  show own_Go _ _ _ _ _ _ _ T4 (mkF m 11 L3 [(.ref ap), (.int (0 : Int32))])
  refine own_len X4 hx hZ e4 A1 (hb hby d4_11) (n := (2 : Int32)) rfl ?_
  show own_Go _ _ _ _ _ _ _ T4 (mkF m 12 L3 [(.int (2 : Int32)), (.int (0 : Int32))])
  refine own_pre (T' := T4) (g' := (mkF m 15 L3 [])) (fun t k => XS.icmpNo X4.here hx rfl (hb hby d4_12) rfl (by decide) k) ?_
  refine own_pre (T' := T4) (g' := (mkF m 16 L3 [(.double (0 : UInt64))])) (fun t k => XS.dloadN X4.here hx rfl (v := (0 : UInt64)) (hb hby d4_15) (by rw [← hL3]; rfl) k) ?_
  refine own_pre (T' := T4) (g' := (mkF m 17 L3 [(.ref o), (.double (0 : UInt64))])) (fun t k => XS.aloadN X4.here hx rfl (v := (.ref o)) (hb hby d4_16) (by rw [← hL3]; rfl) rfl k) ?_
  refine own_getf X4 hx hZ hown (hw _ (List.mem_of_getElem? (i := 19) rfl)) e4 F2 (hb hby d4_17) ?_
  intro T5 X5 e5
  show own_Go _ _ _ _ _ _ _ T5 (mkF m 20 L3 [(.ref av), (.double (0 : UInt64))])
  refine own_pre (T' := T5) (g' := (mkF m 22 L3 [(.int (0 : Int32)), (.ref av), (.double (0 : UInt64))])) (fun t k => XS.iload X5.here hx rfl (v := (0 : Int32)) (hb hby d4_20) (by rw [← hL3]; rfl) k) ?_
  refine own_daload X5 hx hZ e5 A2 (hb hby d4_22) (n := 0) (v := (.double x0)) (by decide) (by decide) rfl ?_
  show own_Go _ _ _ _ _ _ _ T5 (mkF m 23 L3 [(.double x0), (.double (0 : UInt64))])
  refine own_pre (T' := T5) (g' := (mkF m 24 L3 [(.ref ao), (.double x0), (.double (0 : UInt64))])) (fun t k => XS.aloadN X5.here hx rfl (v := (.ref ao)) (hb hby d4_23) (by rw [← hL3]; rfl) rfl k) ?_
  refine own_pre (T' := T5) (g' := (mkF m 25 L3 [(.ref o), (.ref ao), (.double x0), (.double (0 : UInt64))])) (fun t k => XS.aloadN X5.here hx rfl (v := (.ref o)) (hb hby d4_24) (by rw [← hL3]; rfl) rfl k) ?_
  refine own_getf X5 hx hZ hown (hw _ (List.mem_of_getElem? (i := 17) rfl)) e5 F1 (hb hby d4_25) ?_
  intro T6 X6 e6
  show own_Go _ _ _ _ _ _ _ T6 (mkF m 28 L3 [(.ref ap), (.ref ao), (.double x0), (.double (0 : UInt64))])
  refine own_pre (T' := T6) (g' := (mkF m 30 L3 [(.int (0 : Int32)), (.ref ap), (.ref ao), (.double x0), (.double (0 : UInt64))])) (fun t k => XS.iload X6.here hx rfl (v := (0 : Int32)) (hb hby d4_28) (by rw [← hL3]; rfl) k) ?_
  refine own_iaload X6 hx hZ e6 A1 (hb hby d4_30) (n := 0) (v := (.int p0)) (by decide) (by decide) rfl ?_
  show own_Go _ _ _ _ _ _ _ T6 (mkF m 31 L3 [(.int p0), (.ref ao), (.double x0), (.double (0 : UInt64))])
  refine own_daload X6 hx hZ e6 A3 (hb hby d4_31) (n := p0.toNatClampNeg) (v := (.double y0)) q0 rfl g0 ?_
  show own_Go _ _ _ _ _ _ _ T6 (mkF m 32 L3 [(.double y0), (.double x0), (.double (0 : UInt64))])
  obtain ⟨f7, hf7⟩ : ∃ z, FP.dmul x0 y0 = z := ⟨_, rfl⟩
  have Df7 : Jvm.FP.Core.DInt (i0 * j0) f7 := hf7 ▸ Jvm.FP.Core.dmul_int DX0 DY0 (by omega)
  refine own_pre (T' := T6) (g' := (mkF m 33 L3 [(.double f7), (.double (0 : UInt64))])) (fun t k => XS.dmulS X6.here hx rfl (hb hby d4_32) rfl (by rw [hf7]; exact own_DInt_nn Df7) hf7 k) ?_
  obtain ⟨f8, hf8⟩ : ∃ z, FP.dadd (0 : UInt64) f7 = z := ⟨_, rfl⟩
  have Df8 : Jvm.FP.Core.DInt (0 + (i0 * j0)) f8 := hf8 ▸ Jvm.FP.Core.dadd_int own_DInt0 Df7 (by omega)
  refine own_pre (T' := T6) (g' := (mkF m 34 L3 [(.double f8)])) (fun t k => XS.daddS X6.here hx rfl (hb hby d4_33) rfl (by rw [hf8]; exact own_DInt_nn Df8) hf8 k) ?_
  refine own_pre (T' := T6) (g' := (mkF m 35 #[.val (.ref o), .val (.ref ao), .val (.double f8), .second, .val (.int (0 : Int32))] [])) (fun t k => XS.dstoreN X6.here hx rfl (hb hby d4_34) rfl (l' := #[.val (.ref o), .val (.ref ao), .val (.double f8), .second, .val (.int (0 : Int32))]) (by rw [← hL3]; rfl) k) ?_
  generalize hL9 : (#[.val (.ref o), .val (.ref ao), .val (.double f8), .second, .val (.int (0 : Int32))] : Array Slot) = L9
  refine own_pre (T' := T6) (g' := (mkF m 38 #[.val (.ref o), .val (.ref ao), .val (.double f8), .second, .val (.int (1 : Int32))] [])) (fun t k => XS.iinc X6.here hx rfl (hb hby d4_35) (x := (0 : Int32)) (by rw [← hL9]; rfl) (l' := #[.val (.ref o), .val (.ref ao), .val (.double f8), .second, .val (.int (1 : Int32))]) (by rw [← hL9]; rfl) k) ?_
  generalize hL10 : (#[.val (.ref o), .val (.ref ao), .val (.double f8), .second, .val (.int (1 : Int32))] : Array Slot) = L10
  refine own_pre (T' := T6) (g' := (mkF m 5 L10 [])) (fun t k => XS.goto X6.here hx rfl (pc0 := 38) (pc' := 5) rfl (hb hby d4_38) (by decide) (by decide) k) ?_
  refine own_pre (T' := T6) (g' := (mkF m 7 L10 [(.int (1 : Int32))])) (fun t k => XS.iload X6.here hx rfl (v := (1 : Int32)) (hb hby d4_5) (by rw [← hL10]; rfl) k) ?_
  refine own_pre (T' := T6) (g' := (mkF m 8 L10 [(.ref o), (.int (1 : Int32))])) (fun t k => XS.aloadN X6.here hx rfl (v := (.ref o)) (hb hby d4_7) (by rw [← hL10]; rfl) rfl k) ?_
  refine own_getf X6 hx hZ hown (hw _ (List.mem_of_getElem? (i := 17) rfl)) e6 F1 (hb hby d4_8) ?_
  intro T11 X11 e11
  show own_Go _ _ _ _ _ _ _ T11 (mkF m 11 L10 [(.ref ap), (.int (1 : Int32))])
  refine own_len X11 hx hZ e11 A1 (hb hby d4_11) (n := (2 : Int32)) rfl ?_
  show own_Go _ _ _ _ _ _ _ T11 (mkF m 12 L10 [(.int (2 : Int32)), (.int (1 : Int32))])
  refine own_pre (T' := T11) (g' := (mkF m 15 L10 [])) (fun t k => XS.icmpNo X11.here hx rfl (hb hby d4_12) rfl (by decide) k) ?_
  refine own_pre (T' := T11) (g' := (mkF m 16 L10 [(.double f8)])) (fun t k => XS.dloadN X11.here hx rfl (v := f8) (hb hby d4_15) (by rw [← hL10]; rfl) k) ?_
  refine own_pre (T' := T11) (g' := (mkF m 17 L10 [(.ref o), (.double f8)])) (fun t k => XS.aloadN X11.here hx rfl (v := (.ref o)) (hb hby d4_16) (by rw [← hL10]; rfl) rfl k) ?_
  refine own_getf X11 hx hZ hown (hw _ (List.mem_of_getElem? (i := 19) rfl)) e11 F2 (hb hby d4_17) ?_
  intro T12 X12 e12
  show own_Go _ _ _ _ _ _ _ T12 (mkF m 20 L10 [(.ref av), (.double f8)])
  refine own_pre (T' := T12) (g' := (mkF m 22 L10 [(.int (1 : Int32)), (.ref av), (.double f8)])) (fun t k => XS.iload X12.here hx rfl (v := (1 : Int32)) (hb hby d4_20) (by rw [← hL10]; rfl) k) ?_
  refine own_daload X12 hx hZ e12 A2 (hb hby d4_22) (n := 1) (v := (.double x1)) (by decide) (by decide) rfl ?_
  show own_Go _ _ _ _ _ _ _ T12 (mkF m 23 L10 [(.double x1), (.double f8)])
  refine own_pre (T' := T12) (g' := (mkF m 24 L10 [(.ref ao), (.double x1), (.double f8)])) (fun t k => XS.aloadN X12.here hx rfl (v := (.ref ao)) (hb hby d4_23) (by rw [← hL10]; rfl) rfl k) ?_
  refine own_pre (T' := T12) (g' := (mkF m 25 L10 [(.ref o), (.ref ao), (.double x1), (.double f8)])) (fun t k => XS.aloadN X12.here hx rfl (v := (.ref o)) (hb hby d4_24) (by rw [← hL10]; rfl) rfl k) ?_
  refine own_getf X12 hx hZ hown (hw _ (List.mem_of_getElem? (i := 17) rfl)) e12 F1 (hb hby d4_25) ?_
  intro T13 X13 e13
  show own_Go _ _ _ _ _ _ _ T13 (mkF m 28 L10 [(.ref ap), (.ref ao), (.double x1), (.double f8)])
  refine own_pre (T' := T13) (g' := (mkF m 30 L10 [(.int (1 : Int32)), (.ref ap), (.ref ao), (.double x1), (.double f8)])) (fun t k => XS.iload X13.here hx rfl (v := (1 : Int32)) (hb hby d4_28) (by rw [← hL10]; rfl) k) ?_
  refine own_iaload X13 hx hZ e13 A1 (hb hby d4_30) (n := 1) (v := (.int p1)) (by decide) (by decide) rfl ?_
  show own_Go _ _ _ _ _ _ _ T13 (mkF m 31 L10 [(.int p1), (.ref ao), (.double x1), (.double f8)])
  refine own_daload X13 hx hZ e13 A3 (hb hby d4_31) (n := p1.toNatClampNeg) (v := (.double y1)) q1 rfl g1 ?_
  show own_Go _ _ _ _ _ _ _ T13 (mkF m 32 L10 [(.double y1), (.double x1), (.double f8)])
  obtain ⟨f14, hf14⟩ : ∃ z, FP.dmul x1 y1 = z := ⟨_, rfl⟩
  have Df14 : Jvm.FP.Core.DInt (i1 * j1) f14 := hf14 ▸ Jvm.FP.Core.dmul_int DX1 DY1 (by omega)
  refine own_pre (T' := T13) (g' := (mkF m 33 L10 [(.double f14), (.double f8)])) (fun t k => XS.dmulS X13.here hx rfl (hb hby d4_32) rfl (by rw [hf14]; exact own_DInt_nn Df14) hf14 k) ?_
  obtain ⟨f15, hf15⟩ : ∃ z, FP.dadd f8 f14 = z := ⟨_, rfl⟩
  have Df15 : Jvm.FP.Core.DInt ((0 + (i0 * j0)) + (i1 * j1)) f15 := hf15 ▸ Jvm.FP.Core.dadd_int Df8 Df14 (by omega)
  refine own_pre (T' := T13) (g' := (mkF m 34 L10 [(.double f15)])) (fun t k => XS.daddS X13.here hx rfl (hb hby d4_33) rfl (by rw [hf15]; exact own_DInt_nn Df15) hf15 k) ?_
  refine own_pre (T' := T13) (g' := (mkF m 35 #[.val (.ref o), .val (.ref ao), .val (.double f15), .second, .val (.int (1 : Int32))] [])) (fun t k => XS.dstoreN X13.here hx rfl (hb hby d4_34) rfl (l' := #[.val (.ref o), .val (.ref ao), .val (.double f15), .second, .val (.int (1 : Int32))]) (by rw [← hL10]; rfl) k) ?_
  generalize hL16 : (#[.val (.ref o), .val (.ref ao), .val (.double f15), .second, .val (.int (1 : Int32))] : Array Slot) = L16
  refine own_pre (T' := T13) (g' := (mkF m 38 #[.val (.ref o), .val (.ref ao), .val (.double f15), .second, .val (.int (2 : Int32))] [])) (fun t k => XS.iinc X13.here hx rfl (hb hby d4_35) (x := (1 : Int32)) (by rw [← hL16]; rfl) (l' := #[.val (.ref o), .val (.ref ao), .val (.double f15), .second, .val (.int (2 : Int32))]) (by rw [← hL16]; rfl) k) ?_
  generalize hL17 : (#[.val (.ref o), .val (.ref ao), .val (.double f15), .second, .val (.int (2 : Int32))] : Array Slot) = L17
  refine own_pre (T' := T13) (g' := (mkF m 5 L17 [])) (fun t k => XS.goto X13.here hx rfl (pc0 := 38) (pc' := 5) rfl (hb hby d4_38) (by decide) (by decide) k) ?_
  refine own_pre (T' := T13) (g' := (mkF m 7 L17 [(.int (2 : Int32))])) (fun t k => XS.iload X13.here hx rfl (v := (2 : Int32)) (hb hby d4_5) (by rw [← hL17]; rfl) k) ?_
  refine own_pre (T' := T13) (g' := (mkF m 8 L17 [(.ref o), (.int (2 : Int32))])) (fun t k => XS.aloadN X13.here hx rfl (v := (.ref o)) (hb hby d4_7) (by rw [← hL17]; rfl) rfl k) ?_
  refine own_getf X13 hx hZ hown (hw _ (List.mem_of_getElem? (i := 17) rfl)) e13 F1 (hb hby d4_8) ?_
  intro T18 X18 e18
  show own_Go _ _ _ _ _ _ _ T18 (mkF m 11 L17 [(.ref ap), (.int (2 : Int32))])
  refine own_len X18 hx hZ e18 A1 (hb hby d4_11) (n := (2 : Int32)) rfl ?_
  show own_Go _ _ _ _ _ _ _ T18 (mkF m 12 L17 [(.int (2 : Int32)), (.int (2 : Int32))])
  refine own_pre (T' := T18) (g' := (mkF m 41 L17 [])) (fun t k => XS.icmpYes X18.here hx rfl (pc0 := 12) (pc' := 41) rfl (hb hby d4_12) rfl (by decide) (by decide) (by decide) k) ?_
  refine own_pre (T' := T18) (g' := (mkF m 42 L17 [(.double f15)])) (fun t k => XS.dloadN X18.here hx rfl (v := f15) (hb hby d4_41) (by rw [← hL17]; rfl) k) ?_
  exact own_retD X18 hx hlk hret (hb hby d4_42) e18 ⟨_, rfl, Df15, N0, rfl⟩ (by decide) (by decide)
def own_dot3_Q (Z : State) (o ap av ao : Addr) (O : List Value) (p0 : Int32) (x0 y0 : UInt64) (i0 j0 : Int) (p1 : Int32) (x1 y1 : UInt64) (i1 j1 : Int) (p2 : Int32) (x2 y2 : UInt64) (i2 j2 : Int) (h0 : Heap) (n0 : Nat) (v_ : Option Value) (h_ : Heap) (L_ : List Loc) : Prop := (fun v h L => ∃ r, v = some (.double r) ∧ FP.Core.DInt (((0 + (i0 * j0)) + (i1 * j1)) + (i2 * j2)) r ∧ Fr n0 L ∧ h = h0) v_ h_ L_
set_option maxRecDepth 65536 in
set_option maxHeartbeats 40000000 in
theorem own_dot3 (l : Launch) (Z : State) (a0 : Array Value) (hw : ∀ d ∈ tables_1, d.before a0 Z = true) (wds : List Jvm.Cond) (o ap av ao : Addr) (O : List Value) (p0 : Int32) (x0 y0 : UInt64) (i0 j0 : Int) (p1 : Int32) (x1 y1 : UInt64) (i1 j1 : Int) (p2 : Int32) (x2 y2 : UInt64) (i2 j2 : Int) (h0 : Heap) (n0 : Nat) (Z0 : n0 ≤ h0.size) (F1 : Fld Z h0 o "com/example/galicia/galicia/lime/SparseVector" "positions" "[I" (.ref ap)) (F2 : Fld Z h0 o "com/example/galicia/galicia/lime/SparseVector" "values" "[D" (.ref av)) (A1 : own_Ary Z h0 ap .int [.int p0, .int p1, .int p2]) (A2 : own_Ary Z h0 av .double [.double x0, .double x1, .double x2]) (A3 : own_Ary Z h0 ao .double O) (q0 : 0 ≤ p0) (g0 : O[p0.toNatClampNeg]? = some (.double y0)) (DX0 : FP.Core.DInt i0 x0) (DY0 : FP.Core.DInt j0 y0) (b0 : (i0 * j0).natAbs ≤ 2 ^ 50) (q1 : 0 ≤ p1) (g1 : O[p1.toNatClampNeg]? = some (.double y1)) (DX1 : FP.Core.DInt i1 x1) (DY1 : FP.Core.DInt j1 y1) (b1 : (i1 * j1).natAbs ≤ 2 ^ 50) (q2 : 0 ≤ p2) (g2 : O[p2.toNatClampNeg]? = some (.double y2)) (DX2 : FP.Core.DInt i2 x2) (DY2 : FP.Core.DInt j2 y2) (b2 : (i2 * j2).natAbs ≤ 2 ^ 50) :
    MetFree l (⟨"com/example/galicia/galicia/lime/SparseVector", "dot", "([D)D"⟩ : MethodName) (head1 (Jvm.Cond.code (⟨"com/example/galicia/galicia/lime/SparseVector", "dot", "([D)D"⟩ : MethodName) prog_32_method_6_code 5 (some .double) :: wds) ({ frames := 0, cells := 0, slots := 0, locals := 0 } : Room)) (fun ar_ U_ => ar_ = #[(.ref o), (.ref ao)] ∧ Z.Warmed39 U_.vm ∧ U_.heap = h0) (fun _ _ _ _ _ => True) (fun _ U_ o_ V_ => ∃ v_ L_, o_ = .returned v_ ∧ own_dot3_Q Z o ap av ao O p0 x0 y0 i0 j0 p1 x1 y1 i1 j1 p2 x2 y2 i2 j2 h0 n0 v_ V_.heap L_ ∧ FrameEnd U_ o_ V_ L_ ({ frames := 0, cells := 0, slots := 0, locals := 0 } : Room).cells ({ frames := 0, cells := 0, slots := 0, locals := 0 } : Room).slots) := by
  refine own_met (y := ⟨"com/example/galicia/galicia/lime/SparseVector", "dot", "([D)D"⟩) (Q := own_dot3_Q Z o ap av ao O p0 x0 y0 i0 j0 p1 x1 y1 i1 j1 p2 x2 y2 i2 j2 h0 n0) own_pn1 ?_
  intro p e s m below meth c s₁ hx hby hml hZ hown hnm hret hlk X0 e0
  have N0 := Fr.nil n0
  refine own_cast (g' := (mkF m 0 #[.val (.ref o), .val (.ref ao), .unset, .unset, .unset] [])) (by first | (simp [entryFrame, mkF, argsToLocals, Value.category]; done) | rfl) ?_
  generalize hL1 : (#[.val (.ref o), .val (.ref ao), .unset, .unset, .unset] : Array Slot) = L1
  refine own_pre (T' := s₁) (g' := (mkF m 1 L1 [(.double (0 : UInt64))])) (fun t k => XS.dconst0 X0.here hx rfl (v := (0 : UInt64)) (hb hby d4_0) (by decide) k) ?_
  refine own_pre (T' := s₁) (g' := (mkF m 2 #[.val (.ref o), .val (.ref ao), .val (.double (0 : UInt64)), .second, .unset] [])) (fun t k => XS.dstoreN X0.here hx rfl (hb hby d4_1) rfl (l' := #[.val (.ref o), .val (.ref ao), .val (.double (0 : UInt64)), .second, .unset]) (by rw [← hL1]; rfl) k) ?_
  generalize hL2 : (#[.val (.ref o), .val (.ref ao), .val (.double (0 : UInt64)), .second, .unset] : Array Slot) = L2
  refine own_pre (T' := s₁) (g' := (mkF m 3 L2 [(.int (0 : Int32))])) (fun t k => XS.iconst X0.here hx rfl (hb hby d4_2) k) ?_
  refine own_pre (T' := s₁) (g' := (mkF m 5 #[.val (.ref o), .val (.ref ao), .val (.double (0 : UInt64)), .second, .val (.int (0 : Int32))] [])) (fun t k => XS.istore X0.here hx rfl (hb hby d4_3) rfl (l' := #[.val (.ref o), .val (.ref ao), .val (.double (0 : UInt64)), .second, .val (.int (0 : Int32))]) (by rw [← hL2]; rfl) k) ?_
  generalize hL3 : (#[.val (.ref o), .val (.ref ao), .val (.double (0 : UInt64)), .second, .val (.int (0 : Int32))] : Array Slot) = L3
  refine own_pre (T' := s₁) (g' := (mkF m 7 L3 [(.int (0 : Int32))])) (fun t k => XS.iload X0.here hx rfl (v := (0 : Int32)) (hb hby d4_5) (by rw [← hL3]; rfl) k) ?_
  refine own_pre (T' := s₁) (g' := (mkF m 8 L3 [(.ref o), (.int (0 : Int32))])) (fun t k => XS.aloadN X0.here hx rfl (v := (.ref o)) (hb hby d4_7) (by rw [← hL3]; rfl) rfl k) ?_
  refine own_getf X0 hx hZ hown (hw _ (List.mem_of_getElem? (i := 17) rfl)) e0 F1 (hb hby d4_8) ?_
  intro T4 X4 e4
  show own_Go _ _ _ _ _ _ _ T4 (mkF m 11 L3 [(.ref ap), (.int (0 : Int32))])
  refine own_len X4 hx hZ e4 A1 (hb hby d4_11) (n := (3 : Int32)) rfl ?_
  show own_Go _ _ _ _ _ _ _ T4 (mkF m 12 L3 [(.int (3 : Int32)), (.int (0 : Int32))])
  refine own_pre (T' := T4) (g' := (mkF m 15 L3 [])) (fun t k => XS.icmpNo X4.here hx rfl (hb hby d4_12) rfl (by decide) k) ?_
  refine own_pre (T' := T4) (g' := (mkF m 16 L3 [(.double (0 : UInt64))])) (fun t k => XS.dloadN X4.here hx rfl (v := (0 : UInt64)) (hb hby d4_15) (by rw [← hL3]; rfl) k) ?_
  refine own_pre (T' := T4) (g' := (mkF m 17 L3 [(.ref o), (.double (0 : UInt64))])) (fun t k => XS.aloadN X4.here hx rfl (v := (.ref o)) (hb hby d4_16) (by rw [← hL3]; rfl) rfl k) ?_
  refine own_getf X4 hx hZ hown (hw _ (List.mem_of_getElem? (i := 19) rfl)) e4 F2 (hb hby d4_17) ?_
  intro T5 X5 e5
  show own_Go _ _ _ _ _ _ _ T5 (mkF m 20 L3 [(.ref av), (.double (0 : UInt64))])
  refine own_pre (T' := T5) (g' := (mkF m 22 L3 [(.int (0 : Int32)), (.ref av), (.double (0 : UInt64))])) (fun t k => XS.iload X5.here hx rfl (v := (0 : Int32)) (hb hby d4_20) (by rw [← hL3]; rfl) k) ?_
  refine own_daload X5 hx hZ e5 A2 (hb hby d4_22) (n := 0) (v := (.double x0)) (by decide) (by decide) rfl ?_
  show own_Go _ _ _ _ _ _ _ T5 (mkF m 23 L3 [(.double x0), (.double (0 : UInt64))])
  refine own_pre (T' := T5) (g' := (mkF m 24 L3 [(.ref ao), (.double x0), (.double (0 : UInt64))])) (fun t k => XS.aloadN X5.here hx rfl (v := (.ref ao)) (hb hby d4_23) (by rw [← hL3]; rfl) rfl k) ?_
  refine own_pre (T' := T5) (g' := (mkF m 25 L3 [(.ref o), (.ref ao), (.double x0), (.double (0 : UInt64))])) (fun t k => XS.aloadN X5.here hx rfl (v := (.ref o)) (hb hby d4_24) (by rw [← hL3]; rfl) rfl k) ?_
  refine own_getf X5 hx hZ hown (hw _ (List.mem_of_getElem? (i := 17) rfl)) e5 F1 (hb hby d4_25) ?_
  intro T6 X6 e6
  show own_Go _ _ _ _ _ _ _ T6 (mkF m 28 L3 [(.ref ap), (.ref ao), (.double x0), (.double (0 : UInt64))])
  refine own_pre (T' := T6) (g' := (mkF m 30 L3 [(.int (0 : Int32)), (.ref ap), (.ref ao), (.double x0), (.double (0 : UInt64))])) (fun t k => XS.iload X6.here hx rfl (v := (0 : Int32)) (hb hby d4_28) (by rw [← hL3]; rfl) k) ?_
  refine own_iaload X6 hx hZ e6 A1 (hb hby d4_30) (n := 0) (v := (.int p0)) (by decide) (by decide) rfl ?_
  show own_Go _ _ _ _ _ _ _ T6 (mkF m 31 L3 [(.int p0), (.ref ao), (.double x0), (.double (0 : UInt64))])
  refine own_daload X6 hx hZ e6 A3 (hb hby d4_31) (n := p0.toNatClampNeg) (v := (.double y0)) q0 rfl g0 ?_
  show own_Go _ _ _ _ _ _ _ T6 (mkF m 32 L3 [(.double y0), (.double x0), (.double (0 : UInt64))])
  obtain ⟨f7, hf7⟩ : ∃ z, FP.dmul x0 y0 = z := ⟨_, rfl⟩
  have Df7 : Jvm.FP.Core.DInt (i0 * j0) f7 := hf7 ▸ Jvm.FP.Core.dmul_int DX0 DY0 (by omega)
  refine own_pre (T' := T6) (g' := (mkF m 33 L3 [(.double f7), (.double (0 : UInt64))])) (fun t k => XS.dmulS X6.here hx rfl (hb hby d4_32) rfl (by rw [hf7]; exact own_DInt_nn Df7) hf7 k) ?_
  obtain ⟨f8, hf8⟩ : ∃ z, FP.dadd (0 : UInt64) f7 = z := ⟨_, rfl⟩
  have Df8 : Jvm.FP.Core.DInt (0 + (i0 * j0)) f8 := hf8 ▸ Jvm.FP.Core.dadd_int own_DInt0 Df7 (by omega)
  refine own_pre (T' := T6) (g' := (mkF m 34 L3 [(.double f8)])) (fun t k => XS.daddS X6.here hx rfl (hb hby d4_33) rfl (by rw [hf8]; exact own_DInt_nn Df8) hf8 k) ?_
  refine own_pre (T' := T6) (g' := (mkF m 35 #[.val (.ref o), .val (.ref ao), .val (.double f8), .second, .val (.int (0 : Int32))] [])) (fun t k => XS.dstoreN X6.here hx rfl (hb hby d4_34) rfl (l' := #[.val (.ref o), .val (.ref ao), .val (.double f8), .second, .val (.int (0 : Int32))]) (by rw [← hL3]; rfl) k) ?_
  generalize hL9 : (#[.val (.ref o), .val (.ref ao), .val (.double f8), .second, .val (.int (0 : Int32))] : Array Slot) = L9
  refine own_pre (T' := T6) (g' := (mkF m 38 #[.val (.ref o), .val (.ref ao), .val (.double f8), .second, .val (.int (1 : Int32))] [])) (fun t k => XS.iinc X6.here hx rfl (hb hby d4_35) (x := (0 : Int32)) (by rw [← hL9]; rfl) (l' := #[.val (.ref o), .val (.ref ao), .val (.double f8), .second, .val (.int (1 : Int32))]) (by rw [← hL9]; rfl) k) ?_
  generalize hL10 : (#[.val (.ref o), .val (.ref ao), .val (.double f8), .second, .val (.int (1 : Int32))] : Array Slot) = L10
  refine own_pre (T' := T6) (g' := (mkF m 5 L10 [])) (fun t k => XS.goto X6.here hx rfl (pc0 := 38) (pc' := 5) rfl (hb hby d4_38) (by decide) (by decide) k) ?_
  refine own_pre (T' := T6) (g' := (mkF m 7 L10 [(.int (1 : Int32))])) (fun t k => XS.iload X6.here hx rfl (v := (1 : Int32)) (hb hby d4_5) (by rw [← hL10]; rfl) k) ?_
  refine own_pre (T' := T6) (g' := (mkF m 8 L10 [(.ref o), (.int (1 : Int32))])) (fun t k => XS.aloadN X6.here hx rfl (v := (.ref o)) (hb hby d4_7) (by rw [← hL10]; rfl) rfl k) ?_
  refine own_getf X6 hx hZ hown (hw _ (List.mem_of_getElem? (i := 17) rfl)) e6 F1 (hb hby d4_8) ?_
  intro T11 X11 e11
  show own_Go _ _ _ _ _ _ _ T11 (mkF m 11 L10 [(.ref ap), (.int (1 : Int32))])
  refine own_len X11 hx hZ e11 A1 (hb hby d4_11) (n := (3 : Int32)) rfl ?_
  show own_Go _ _ _ _ _ _ _ T11 (mkF m 12 L10 [(.int (3 : Int32)), (.int (1 : Int32))])
  refine own_pre (T' := T11) (g' := (mkF m 15 L10 [])) (fun t k => XS.icmpNo X11.here hx rfl (hb hby d4_12) rfl (by decide) k) ?_
  refine own_pre (T' := T11) (g' := (mkF m 16 L10 [(.double f8)])) (fun t k => XS.dloadN X11.here hx rfl (v := f8) (hb hby d4_15) (by rw [← hL10]; rfl) k) ?_
  refine own_pre (T' := T11) (g' := (mkF m 17 L10 [(.ref o), (.double f8)])) (fun t k => XS.aloadN X11.here hx rfl (v := (.ref o)) (hb hby d4_16) (by rw [← hL10]; rfl) rfl k) ?_
  refine own_getf X11 hx hZ hown (hw _ (List.mem_of_getElem? (i := 19) rfl)) e11 F2 (hb hby d4_17) ?_
  intro T12 X12 e12
  show own_Go _ _ _ _ _ _ _ T12 (mkF m 20 L10 [(.ref av), (.double f8)])
  refine own_pre (T' := T12) (g' := (mkF m 22 L10 [(.int (1 : Int32)), (.ref av), (.double f8)])) (fun t k => XS.iload X12.here hx rfl (v := (1 : Int32)) (hb hby d4_20) (by rw [← hL10]; rfl) k) ?_
  refine own_daload X12 hx hZ e12 A2 (hb hby d4_22) (n := 1) (v := (.double x1)) (by decide) (by decide) rfl ?_
  show own_Go _ _ _ _ _ _ _ T12 (mkF m 23 L10 [(.double x1), (.double f8)])
  refine own_pre (T' := T12) (g' := (mkF m 24 L10 [(.ref ao), (.double x1), (.double f8)])) (fun t k => XS.aloadN X12.here hx rfl (v := (.ref ao)) (hb hby d4_23) (by rw [← hL10]; rfl) rfl k) ?_
  refine own_pre (T' := T12) (g' := (mkF m 25 L10 [(.ref o), (.ref ao), (.double x1), (.double f8)])) (fun t k => XS.aloadN X12.here hx rfl (v := (.ref o)) (hb hby d4_24) (by rw [← hL10]; rfl) rfl k) ?_
  refine own_getf X12 hx hZ hown (hw _ (List.mem_of_getElem? (i := 17) rfl)) e12 F1 (hb hby d4_25) ?_
  intro T13 X13 e13
  show own_Go _ _ _ _ _ _ _ T13 (mkF m 28 L10 [(.ref ap), (.ref ao), (.double x1), (.double f8)])
  refine own_pre (T' := T13) (g' := (mkF m 30 L10 [(.int (1 : Int32)), (.ref ap), (.ref ao), (.double x1), (.double f8)])) (fun t k => XS.iload X13.here hx rfl (v := (1 : Int32)) (hb hby d4_28) (by rw [← hL10]; rfl) k) ?_
  refine own_iaload X13 hx hZ e13 A1 (hb hby d4_30) (n := 1) (v := (.int p1)) (by decide) (by decide) rfl ?_
  show own_Go _ _ _ _ _ _ _ T13 (mkF m 31 L10 [(.int p1), (.ref ao), (.double x1), (.double f8)])
  refine own_daload X13 hx hZ e13 A3 (hb hby d4_31) (n := p1.toNatClampNeg) (v := (.double y1)) q1 rfl g1 ?_
  show own_Go _ _ _ _ _ _ _ T13 (mkF m 32 L10 [(.double y1), (.double x1), (.double f8)])
  obtain ⟨f14, hf14⟩ : ∃ z, FP.dmul x1 y1 = z := ⟨_, rfl⟩
  have Df14 : Jvm.FP.Core.DInt (i1 * j1) f14 := hf14 ▸ Jvm.FP.Core.dmul_int DX1 DY1 (by omega)
  refine own_pre (T' := T13) (g' := (mkF m 33 L10 [(.double f14), (.double f8)])) (fun t k => XS.dmulS X13.here hx rfl (hb hby d4_32) rfl (by rw [hf14]; exact own_DInt_nn Df14) hf14 k) ?_
  obtain ⟨f15, hf15⟩ : ∃ z, FP.dadd f8 f14 = z := ⟨_, rfl⟩
  have Df15 : Jvm.FP.Core.DInt ((0 + (i0 * j0)) + (i1 * j1)) f15 := hf15 ▸ Jvm.FP.Core.dadd_int Df8 Df14 (by omega)
  refine own_pre (T' := T13) (g' := (mkF m 34 L10 [(.double f15)])) (fun t k => XS.daddS X13.here hx rfl (hb hby d4_33) rfl (by rw [hf15]; exact own_DInt_nn Df15) hf15 k) ?_
  refine own_pre (T' := T13) (g' := (mkF m 35 #[.val (.ref o), .val (.ref ao), .val (.double f15), .second, .val (.int (1 : Int32))] [])) (fun t k => XS.dstoreN X13.here hx rfl (hb hby d4_34) rfl (l' := #[.val (.ref o), .val (.ref ao), .val (.double f15), .second, .val (.int (1 : Int32))]) (by rw [← hL10]; rfl) k) ?_
  generalize hL16 : (#[.val (.ref o), .val (.ref ao), .val (.double f15), .second, .val (.int (1 : Int32))] : Array Slot) = L16
  refine own_pre (T' := T13) (g' := (mkF m 38 #[.val (.ref o), .val (.ref ao), .val (.double f15), .second, .val (.int (2 : Int32))] [])) (fun t k => XS.iinc X13.here hx rfl (hb hby d4_35) (x := (1 : Int32)) (by rw [← hL16]; rfl) (l' := #[.val (.ref o), .val (.ref ao), .val (.double f15), .second, .val (.int (2 : Int32))]) (by rw [← hL16]; rfl) k) ?_
  generalize hL17 : (#[.val (.ref o), .val (.ref ao), .val (.double f15), .second, .val (.int (2 : Int32))] : Array Slot) = L17
  refine own_pre (T' := T13) (g' := (mkF m 5 L17 [])) (fun t k => XS.goto X13.here hx rfl (pc0 := 38) (pc' := 5) rfl (hb hby d4_38) (by decide) (by decide) k) ?_
  refine own_pre (T' := T13) (g' := (mkF m 7 L17 [(.int (2 : Int32))])) (fun t k => XS.iload X13.here hx rfl (v := (2 : Int32)) (hb hby d4_5) (by rw [← hL17]; rfl) k) ?_
  refine own_pre (T' := T13) (g' := (mkF m 8 L17 [(.ref o), (.int (2 : Int32))])) (fun t k => XS.aloadN X13.here hx rfl (v := (.ref o)) (hb hby d4_7) (by rw [← hL17]; rfl) rfl k) ?_
  refine own_getf X13 hx hZ hown (hw _ (List.mem_of_getElem? (i := 17) rfl)) e13 F1 (hb hby d4_8) ?_
  intro T18 X18 e18
  show own_Go _ _ _ _ _ _ _ T18 (mkF m 11 L17 [(.ref ap), (.int (2 : Int32))])
  refine own_len X18 hx hZ e18 A1 (hb hby d4_11) (n := (3 : Int32)) rfl ?_
  show own_Go _ _ _ _ _ _ _ T18 (mkF m 12 L17 [(.int (3 : Int32)), (.int (2 : Int32))])
  refine own_pre (T' := T18) (g' := (mkF m 15 L17 [])) (fun t k => XS.icmpNo X18.here hx rfl (hb hby d4_12) rfl (by decide) k) ?_
  refine own_pre (T' := T18) (g' := (mkF m 16 L17 [(.double f15)])) (fun t k => XS.dloadN X18.here hx rfl (v := f15) (hb hby d4_15) (by rw [← hL17]; rfl) k) ?_
  refine own_pre (T' := T18) (g' := (mkF m 17 L17 [(.ref o), (.double f15)])) (fun t k => XS.aloadN X18.here hx rfl (v := (.ref o)) (hb hby d4_16) (by rw [← hL17]; rfl) rfl k) ?_
  refine own_getf X18 hx hZ hown (hw _ (List.mem_of_getElem? (i := 19) rfl)) e18 F2 (hb hby d4_17) ?_
  intro T19 X19 e19
  show own_Go _ _ _ _ _ _ _ T19 (mkF m 20 L17 [(.ref av), (.double f15)])
  refine own_pre (T' := T19) (g' := (mkF m 22 L17 [(.int (2 : Int32)), (.ref av), (.double f15)])) (fun t k => XS.iload X19.here hx rfl (v := (2 : Int32)) (hb hby d4_20) (by rw [← hL17]; rfl) k) ?_
  refine own_daload X19 hx hZ e19 A2 (hb hby d4_22) (n := 2) (v := (.double x2)) (by decide) (by decide) rfl ?_
  show own_Go _ _ _ _ _ _ _ T19 (mkF m 23 L17 [(.double x2), (.double f15)])
  refine own_pre (T' := T19) (g' := (mkF m 24 L17 [(.ref ao), (.double x2), (.double f15)])) (fun t k => XS.aloadN X19.here hx rfl (v := (.ref ao)) (hb hby d4_23) (by rw [← hL17]; rfl) rfl k) ?_
  refine own_pre (T' := T19) (g' := (mkF m 25 L17 [(.ref o), (.ref ao), (.double x2), (.double f15)])) (fun t k => XS.aloadN X19.here hx rfl (v := (.ref o)) (hb hby d4_24) (by rw [← hL17]; rfl) rfl k) ?_
  refine own_getf X19 hx hZ hown (hw _ (List.mem_of_getElem? (i := 17) rfl)) e19 F1 (hb hby d4_25) ?_
  intro T20 X20 e20
  show own_Go _ _ _ _ _ _ _ T20 (mkF m 28 L17 [(.ref ap), (.ref ao), (.double x2), (.double f15)])
  refine own_pre (T' := T20) (g' := (mkF m 30 L17 [(.int (2 : Int32)), (.ref ap), (.ref ao), (.double x2), (.double f15)])) (fun t k => XS.iload X20.here hx rfl (v := (2 : Int32)) (hb hby d4_28) (by rw [← hL17]; rfl) k) ?_
  refine own_iaload X20 hx hZ e20 A1 (hb hby d4_30) (n := 2) (v := (.int p2)) (by decide) (by decide) rfl ?_
  show own_Go _ _ _ _ _ _ _ T20 (mkF m 31 L17 [(.int p2), (.ref ao), (.double x2), (.double f15)])
  refine own_daload X20 hx hZ e20 A3 (hb hby d4_31) (n := p2.toNatClampNeg) (v := (.double y2)) q2 rfl g2 ?_
  show own_Go _ _ _ _ _ _ _ T20 (mkF m 32 L17 [(.double y2), (.double x2), (.double f15)])
  obtain ⟨f21, hf21⟩ : ∃ z, FP.dmul x2 y2 = z := ⟨_, rfl⟩
  have Df21 : Jvm.FP.Core.DInt (i2 * j2) f21 := hf21 ▸ Jvm.FP.Core.dmul_int DX2 DY2 (by omega)
  refine own_pre (T' := T20) (g' := (mkF m 33 L17 [(.double f21), (.double f15)])) (fun t k => XS.dmulS X20.here hx rfl (hb hby d4_32) rfl (by rw [hf21]; exact own_DInt_nn Df21) hf21 k) ?_
  obtain ⟨f22, hf22⟩ : ∃ z, FP.dadd f15 f21 = z := ⟨_, rfl⟩
  have Df22 : Jvm.FP.Core.DInt (((0 + (i0 * j0)) + (i1 * j1)) + (i2 * j2)) f22 := hf22 ▸ Jvm.FP.Core.dadd_int Df15 Df21 (by omega)
  refine own_pre (T' := T20) (g' := (mkF m 34 L17 [(.double f22)])) (fun t k => XS.daddS X20.here hx rfl (hb hby d4_33) rfl (by rw [hf22]; exact own_DInt_nn Df22) hf22 k) ?_
  refine own_pre (T' := T20) (g' := (mkF m 35 #[.val (.ref o), .val (.ref ao), .val (.double f22), .second, .val (.int (2 : Int32))] [])) (fun t k => XS.dstoreN X20.here hx rfl (hb hby d4_34) rfl (l' := #[.val (.ref o), .val (.ref ao), .val (.double f22), .second, .val (.int (2 : Int32))]) (by rw [← hL17]; rfl) k) ?_
  generalize hL23 : (#[.val (.ref o), .val (.ref ao), .val (.double f22), .second, .val (.int (2 : Int32))] : Array Slot) = L23
  refine own_pre (T' := T20) (g' := (mkF m 38 #[.val (.ref o), .val (.ref ao), .val (.double f22), .second, .val (.int (3 : Int32))] [])) (fun t k => XS.iinc X20.here hx rfl (hb hby d4_35) (x := (2 : Int32)) (by rw [← hL23]; rfl) (l' := #[.val (.ref o), .val (.ref ao), .val (.double f22), .second, .val (.int (3 : Int32))]) (by rw [← hL23]; rfl) k) ?_
  generalize hL24 : (#[.val (.ref o), .val (.ref ao), .val (.double f22), .second, .val (.int (3 : Int32))] : Array Slot) = L24
  refine own_pre (T' := T20) (g' := (mkF m 5 L24 [])) (fun t k => XS.goto X20.here hx rfl (pc0 := 38) (pc' := 5) rfl (hb hby d4_38) (by decide) (by decide) k) ?_
  refine own_pre (T' := T20) (g' := (mkF m 7 L24 [(.int (3 : Int32))])) (fun t k => XS.iload X20.here hx rfl (v := (3 : Int32)) (hb hby d4_5) (by rw [← hL24]; rfl) k) ?_
  refine own_pre (T' := T20) (g' := (mkF m 8 L24 [(.ref o), (.int (3 : Int32))])) (fun t k => XS.aloadN X20.here hx rfl (v := (.ref o)) (hb hby d4_7) (by rw [← hL24]; rfl) rfl k) ?_
  refine own_getf X20 hx hZ hown (hw _ (List.mem_of_getElem? (i := 17) rfl)) e20 F1 (hb hby d4_8) ?_
  intro T25 X25 e25
  show own_Go _ _ _ _ _ _ _ T25 (mkF m 11 L24 [(.ref ap), (.int (3 : Int32))])
  refine own_len X25 hx hZ e25 A1 (hb hby d4_11) (n := (3 : Int32)) rfl ?_
  show own_Go _ _ _ _ _ _ _ T25 (mkF m 12 L24 [(.int (3 : Int32)), (.int (3 : Int32))])
  refine own_pre (T' := T25) (g' := (mkF m 41 L24 [])) (fun t k => XS.icmpYes X25.here hx rfl (pc0 := 12) (pc' := 41) rfl (hb hby d4_12) rfl (by decide) (by decide) (by decide) k) ?_
  refine own_pre (T' := T25) (g' := (mkF m 42 L24 [(.double f22)])) (fun t k => XS.dloadN X25.here hx rfl (v := f22) (hb hby d4_41) (by rw [← hL24]; rfl) k) ?_
  exact own_retD X25 hx hlk hret (hb hby d4_42) e25 ⟨_, rfl, Df22, N0, rfl⟩ (by decide) (by decide)
theorem own_pd1 : parseMethodDescriptor "([I[D)V" = some ⟨[(.array .int), (.array .double)], none⟩ := by decide +kernel
theorem own_pd2 : parseMethodDescriptor "([D)D" = some ⟨[(.array .double)], some .double⟩ := by decide +kernel
theorem own_pd3 : parseMethodDescriptor "(JJI)J" = some ⟨[.long, .long, .int], some .long⟩ := by decide +kernel
def own_law_Q (Z : State) (p0 p1 p2 p3 : Int32) (p4 p5 : Int64) (h0 : Heap) (n0 : Nat) (v_ : Option Value) (h_ : Heap) (L_ : List Loc) : Prop := (fun v h L => v = some (.int 1) ∧ Fr n0 L) v_ h_ L_
set_option maxRecDepth 65536 in
set_option maxHeartbeats 40000000 in
theorem own_law (l : Launch) (Z : State) (a0 : Array Value) (hw : ∀ d ∈ tables_1, d.before a0 Z = true) (wds : List Jvm.Cond) (p0 p1 p2 p3 : Int32) (p4 p5 : Int64) (h0 : Heap) (n0 : Nat) (Z0 : n0 ≤ h0.size)  :
    MetFree l x (head1 (Jvm.Cond.code x code maxLocals ret :: wds) room_1) (fun ar_ U_ => ar_ = #[(.int p0), (.int p1), (.int p2), (.int p3), (.long p4), (.long p5)] ∧ Z.Warmed39 U_.vm ∧ U_.heap = h0) (fun _ _ _ _ _ => True) (fun _ U_ o_ V_ => ∃ v_ L_, o_ = .returned v_ ∧ own_law_Q Z p0 p1 p2 p3 p4 p5 h0 n0 v_ V_.heap L_ ∧ FrameEnd U_ o_ V_ L_ room_1.cells room_1.slots) := by
  refine own_met (y := x) (Q := own_law_Q Z p0 p1 p2 p3 p4 p5 h0 n0) own_pn0 ?_
  intro p e s m below meth c s₁ hx hby hml hZ hown hnm hret hlk X0 e0
  have N0 := Fr.nil n0
  refine own_cast (g' := (mkF m 0 #[.val (.int p0), .val (.int p1), .val (.int p2), .val (.int p3), .val (.long p4), .second, .val (.long p5), .second, .unset, .unset, .unset, .unset, .unset, .unset, .unset, .unset, .unset, .unset, .unset] [])) (by first | (simp [entryFrame, mkF, argsToLocals, Value.category, maxLocals]; done) | rfl) ?_
  generalize hL1 : (#[.val (.int p0), .val (.int p1), .val (.int p2), .val (.int p3), .val (.long p4), .second, .val (.long p5), .second, .unset, .unset, .unset, .unset, .unset, .unset, .unset, .unset, .unset, .unset, .unset] : Array Slot) = L1
  refine own_pre (T' := s₁) (g' := (mkF m 1 L1 [(.int p0)])) (fun t k => XS.iloadN X0.here hx rfl (v := p0) (hb hby at_0) (by rw [← hL1]; rfl) k) ?_
  refine own_pre (T' := s₁) (g' := (mkF m 2 L1 [(.int (3 : Int32)), (.int p0)])) (fun t k => XS.iconst X0.here hx rfl (hb hby at_1) k) ?_
  refine own_pre (T' := s₁) (g' := (mkF m 3 L1 [(.int (p0 &&& (3 : Int32)))])) (fun t k => XS.iand X0.here hx rfl (hb hby at_2) rfl k) ?_
  generalize hv2 : p0 &&& (3 : Int32) = v2
  refine own_pre (T' := s₁) (g' := (mkF m 5 #[.val (.int p0), .val (.int p1), .val (.int p2), .val (.int p3), .val (.long p4), .second, .val (.long p5), .second, .val (.int v2), .unset, .unset, .unset, .unset, .unset, .unset, .unset, .unset, .unset, .unset] [])) (fun t k => XS.istore X0.here hx rfl (hb hby at_3) rfl (l' := #[.val (.int p0), .val (.int p1), .val (.int p2), .val (.int p3), .val (.long p4), .second, .val (.long p5), .second, .val (.int v2), .unset, .unset, .unset, .unset, .unset, .unset, .unset, .unset, .unset, .unset]) (by rw [← hL1]; rfl) k) ?_
  generalize hL3 : (#[.val (.int p0), .val (.int p1), .val (.int p2), .val (.int p3), .val (.long p4), .second, .val (.long p5), .second, .val (.int v2), .unset, .unset, .unset, .unset, .unset, .unset, .unset, .unset, .unset, .unset] : Array Slot) = L3
  refine own_pre (T' := s₁) (g' := (mkF m 6 L3 [(.int p0)])) (fun t k => XS.iloadN X0.here hx rfl (v := p0) (hb hby at_5) (by rw [← hL3]; rfl) k) ?_
  refine own_pre (T' := s₁) (g' := (mkF m 7 L3 [(.int (2 : Int32)), (.int p0)])) (fun t k => XS.iconst X0.here hx rfl (hb hby at_6) k) ?_
  refine own_pre (T' := s₁) (g' := (mkF m 8 L3 [(.int (XT.ushr p0 (2 : Int32)))])) (fun t k => XT.iushr X0.here hx rfl (hb hby at_7) rfl k) ?_
  refine own_pre (T' := s₁) (g' := (mkF m 9 L3 [(.int (3 : Int32)), (.int (XT.ushr p0 (2 : Int32)))])) (fun t k => XS.iconst X0.here hx rfl (hb hby at_8) k) ?_
  refine own_pre (T' := s₁) (g' := (mkF m 10 L3 [(.int ((XT.ushr p0 (2 : Int32)) &&& (3 : Int32)))])) (fun t k => XS.iand X0.here hx rfl (hb hby at_9) rfl k) ?_
  generalize hv4 : (XT.ushr p0 (2 : Int32)) &&& (3 : Int32) = v4
  refine own_pre (T' := s₁) (g' := (mkF m 12 #[.val (.int p0), .val (.int p1), .val (.int p2), .val (.int p3), .val (.long p4), .second, .val (.long p5), .second, .val (.int v2), .val (.int v4), .unset, .unset, .unset, .unset, .unset, .unset, .unset, .unset, .unset] [])) (fun t k => XS.istore X0.here hx rfl (hb hby at_10) rfl (l' := #[.val (.int p0), .val (.int p1), .val (.int p2), .val (.int p3), .val (.long p4), .second, .val (.long p5), .second, .val (.int v2), .val (.int v4), .unset, .unset, .unset, .unset, .unset, .unset, .unset, .unset, .unset]) (by rw [← hL3]; rfl) k) ?_
  generalize hL5 : (#[.val (.int p0), .val (.int p1), .val (.int p2), .val (.int p3), .val (.long p4), .second, .val (.long p5), .second, .val (.int v2), .val (.int v4), .unset, .unset, .unset, .unset, .unset, .unset, .unset, .unset, .unset] : Array Slot) = L5
  refine own_pre (T' := s₁) (g' := (mkF m 14 L5 [(.int v4)])) (fun t k => XS.iload X0.here hx rfl (v := v4) (hb hby at_12) (by rw [← hL5]; rfl) k) ?_
  refine own_pre (T' := s₁) (g' := (mkF m 15 L5 [(.int (1 : Int32)), (.int v4)])) (fun t k => XS.iconst X0.here hx rfl (hb hby at_14) k) ?_
  refine own_pre (T' := s₁) (g' := (mkF m 16 L5 [(.int (v4 + (1 : Int32)))])) (fun t k => XS.iadd X0.here hx rfl (hb hby at_15) rfl k) ?_
  refine own_pre (T' := s₁) (g' := (mkF m 17 L5 [(.int p0), (.int (v4 + (1 : Int32)))])) (fun t k => XS.iloadN X0.here hx rfl (v := p0) (hb hby at_16) (by rw [← hL5]; rfl) k) ?_
  refine own_pre (T' := s₁) (g' := (mkF m 18 L5 [(.int (4 : Int32)), (.int p0), (.int (v4 + (1 : Int32)))])) (fun t k => XS.iconst X0.here hx rfl (hb hby at_17) k) ?_
  refine own_pre (T' := s₁) (g' := (mkF m 19 L5 [(.int (XT.ushr p0 (4 : Int32))), (.int (v4 + (1 : Int32)))])) (fun t k => XT.iushr X0.here hx rfl (hb hby at_18) rfl k) ?_
  refine own_pre (T' := s₁) (g' := (mkF m 20 L5 [(.int (3 : Int32)), (.int (XT.ushr p0 (4 : Int32))), (.int (v4 + (1 : Int32)))])) (fun t k => XS.iconst X0.here hx rfl (hb hby at_19) k) ?_
  refine own_pre (T' := s₁) (g' := (mkF m 21 L5 [(.int ((XT.ushr p0 (4 : Int32)) &&& (3 : Int32))), (.int (v4 + (1 : Int32)))])) (fun t k => XS.iand X0.here hx rfl (hb hby at_20) rfl k) ?_
  refine own_pre (T' := s₁) (g' := (mkF m 22 L5 [(.int ((v4 + (1 : Int32)) + ((XT.ushr p0 (4 : Int32)) &&& (3 : Int32))))])) (fun t k => XS.iadd X0.here hx rfl (hb hby at_21) rfl k) ?_
  generalize hv6 : (v4 + (1 : Int32)) + ((XT.ushr p0 (4 : Int32)) &&& (3 : Int32)) = v6
  refine own_pre (T' := s₁) (g' := (mkF m 24 #[.val (.int p0), .val (.int p1), .val (.int p2), .val (.int p3), .val (.long p4), .second, .val (.long p5), .second, .val (.int v2), .val (.int v4), .val (.int v6), .unset, .unset, .unset, .unset, .unset, .unset, .unset, .unset] [])) (fun t k => XS.istore X0.here hx rfl (hb hby at_22) rfl (l' := #[.val (.int p0), .val (.int p1), .val (.int p2), .val (.int p3), .val (.long p4), .second, .val (.long p5), .second, .val (.int v2), .val (.int v4), .val (.int v6), .unset, .unset, .unset, .unset, .unset, .unset, .unset, .unset]) (by rw [← hL5]; rfl) k) ?_
  generalize hL7 : (#[.val (.int p0), .val (.int p1), .val (.int p2), .val (.int p3), .val (.long p4), .second, .val (.long p5), .second, .val (.int v2), .val (.int v4), .val (.int v6), .unset, .unset, .unset, .unset, .unset, .unset, .unset, .unset] : Array Slot) = L7
  refine own_pre (T' := s₁) (g' := (mkF m 26 L7 [(.int v6)])) (fun t k => XS.iload X0.here hx rfl (v := v6) (hb hby at_24) (by rw [← hL7]; rfl) k) ?_
  refine own_pre (T' := s₁) (g' := (mkF m 27 L7 [(.int (1 : Int32)), (.int v6)])) (fun t k => XS.iconst X0.here hx rfl (hb hby at_26) k) ?_
  refine own_pre (T' := s₁) (g' := (mkF m 28 L7 [(.int (v6 + (1 : Int32)))])) (fun t k => XS.iadd X0.here hx rfl (hb hby at_27) rfl k) ?_
  refine own_pre (T' := s₁) (g' := (mkF m 29 L7 [(.int p0), (.int (v6 + (1 : Int32)))])) (fun t k => XS.iloadN X0.here hx rfl (v := p0) (hb hby at_28) (by rw [← hL7]; rfl) k) ?_
  refine own_pre (T' := s₁) (g' := (mkF m 31 L7 [(.int (6 : Int32)), (.int p0), (.int (v6 + (1 : Int32)))])) (fun t k => XS.bipush X0.here hx rfl (hb hby at_29) k) ?_
  refine own_pre (T' := s₁) (g' := (mkF m 32 L7 [(.int (XT.ushr p0 (6 : Int32))), (.int (v6 + (1 : Int32)))])) (fun t k => XT.iushr X0.here hx rfl (hb hby at_31) rfl k) ?_
  refine own_pre (T' := s₁) (g' := (mkF m 33 L7 [(.int (3 : Int32)), (.int (XT.ushr p0 (6 : Int32))), (.int (v6 + (1 : Int32)))])) (fun t k => XS.iconst X0.here hx rfl (hb hby at_32) k) ?_
  refine own_pre (T' := s₁) (g' := (mkF m 34 L7 [(.int ((XT.ushr p0 (6 : Int32)) &&& (3 : Int32))), (.int (v6 + (1 : Int32)))])) (fun t k => XS.iand X0.here hx rfl (hb hby at_33) rfl k) ?_
  refine own_pre (T' := s₁) (g' := (mkF m 35 L7 [(.int ((v6 + (1 : Int32)) + ((XT.ushr p0 (6 : Int32)) &&& (3 : Int32))))])) (fun t k => XS.iadd X0.here hx rfl (hb hby at_34) rfl k) ?_
  generalize hv8 : (v6 + (1 : Int32)) + ((XT.ushr p0 (6 : Int32)) &&& (3 : Int32)) = v8
  refine own_pre (T' := s₁) (g' := (mkF m 37 #[.val (.int p0), .val (.int p1), .val (.int p2), .val (.int p3), .val (.long p4), .second, .val (.long p5), .second, .val (.int v2), .val (.int v4), .val (.int v6), .val (.int v8), .unset, .unset, .unset, .unset, .unset, .unset, .unset] [])) (fun t k => XS.istore X0.here hx rfl (hb hby at_35) rfl (l' := #[.val (.int p0), .val (.int p1), .val (.int p2), .val (.int p3), .val (.long p4), .second, .val (.long p5), .second, .val (.int v2), .val (.int v4), .val (.int v6), .val (.int v8), .unset, .unset, .unset, .unset, .unset, .unset, .unset]) (by rw [← hL7]; rfl) k) ?_
  generalize hL9 : (#[.val (.int p0), .val (.int p1), .val (.int p2), .val (.int p3), .val (.long p4), .second, .val (.long p5), .second, .val (.int v2), .val (.int v4), .val (.int v6), .val (.int v8), .unset, .unset, .unset, .unset, .unset, .unset, .unset] : Array Slot) = L9
  obtain ⟨hn, hq0, hq1, hq2⟩ := own_pos p0 v2 v4 v6 v8 hv2 hv4 hv6 hv8
  refine own_pre (T' := s₁) (g' := (mkF m 39 L9 [(.int (12 : Int32))])) (fun t k => XS.bipush X0.here hx rfl (hb hby at_37) k) ?_
  refine own_newarr X0 hx hZ (aty := .double) (hw _ (List.mem_of_getElem? (i := 0) rfl)) e0 (hb hby at_39) (n := 12) (by decide) (by decide) (by decide) (by decide) (by decide) (ad := "[D") rfl ?_
  intro T10 h10 a10 g10 X10 e10 E10 A10 B10
  have nw11 : n0 ≤ a10 := Nat.le_trans Z0 (Nat.le_of_eq g10.symm)
  have F12 : own_Ary Z h10 a10 .double [(.double (0 : UInt64)), (.double (0 : UInt64)), (.double (0 : UInt64)), (.double (0 : UInt64)), (.double (0 : UInt64)), (.double (0 : UInt64)), (.double (0 : UInt64)), (.double (0 : UInt64)), (.double (0 : UInt64)), (.double (0 : UInt64)), (.double (0 : UInt64)), (.double (0 : UInt64))] := A10
  show own_Go _ _ _ _ _ _ _ T10 (mkF m 41 L9 [(.ref a10)])
  refine own_pre (T' := T10) (g' := (mkF m 43 #[.val (.int p0), .val (.int p1), .val (.int p2), .val (.int p3), .val (.long p4), .second, .val (.long p5), .second, .val (.int v2), .val (.int v4), .val (.int v6), .val (.int v8), .val (.ref a10), .unset, .unset, .unset, .unset, .unset, .unset] [])) (fun t k => XS.astore X10.here hx rfl (hb hby at_41) rfl rfl (l' := #[.val (.int p0), .val (.int p1), .val (.int p2), .val (.int p3), .val (.long p4), .second, .val (.long p5), .second, .val (.int v2), .val (.int v4), .val (.int v6), .val (.int v8), .val (.ref a10), .unset, .unset, .unset, .unset, .unset, .unset]) (by rw [← hL9]; rfl) k) ?_
  generalize hL13 : (#[.val (.int p0), .val (.int p1), .val (.int p2), .val (.int p3), .val (.long p4), .second, .val (.long p5), .second, .val (.int v2), .val (.int v4), .val (.int v6), .val (.int v8), .val (.ref a10), .unset, .unset, .unset, .unset, .unset, .unset] : Array Slot) = L13
  refine own_pre (T' := T10) (g' := (mkF m 45 L13 [(.ref a10)])) (fun t k => XS.aload X10.here hx rfl (v := (.ref a10)) (hb hby at_43) (by rw [← hL13]; rfl) rfl k) ?_
  refine own_pre (T' := T10) (g' := (mkF m 46 L13 [(.int (0 : Int32)), (.ref a10)])) (fun t k => XS.iconst X10.here hx rfl (hb hby at_45) k) ?_
  refine own_pre (T' := T10) (g' := (mkF m 48 L13 [(.long p4), (.int (0 : Int32)), (.ref a10)])) (fun t k => XT.lload X10.here hx rfl (v := p4) (hb hby at_46) (by rw [← hL13]; rfl) k) ?_
  refine own_pre (T' := T10) (g' := (mkF m 49 L13 [(.int (0 : Int32)), (.long p4), (.int (0 : Int32)), (.ref a10)])) (fun t k => XS.iconst X10.here hx rfl (hb hby at_48) k) ?_
  have F14 : n0 ≤ h10.size := (Nat.le_trans Z0 E10.1)
  refine own_calls (argsL := [(.long p4), (.int (0 : Int32))]) (rest := [(.int (0 : Int32)), (.ref a10)]) X10 hx hZ hown (own_entT l Z a0 hw [] p4 (0 : Int32) h10 n0 F14) (hw _ (List.mem_of_getElem? (i := 1) rfl)) (hw _ (List.mem_of_getElem? (i := 2) rfl)) (hw _ (List.mem_of_getElem? (i := 4) rfl)) (hw _ (List.mem_of_getElem? (i := 3) rfl)) (by decide) e10 (hb hby at_49) (by rw [hml, ← hL13]; rfl) rfl (lenOf own_pd0 rfl) (by decide) (W := 2) (Nat.le_of_eq rfl) (by decide) (by decide) (by decide) ?_
  intro v15 T15 lo15 X15 Q15
  obtain ⟨h15, e15⟩ : ∃ h, T15.heap = h := ⟨_, rfl⟩
  rw [e15] at Q15
  obtain ⟨rfl, N15, q15⟩ := Q15
  have N15' := Fr.app N0 N15
  have e15' : T15.heap = h10 := e15.trans q15
  show own_Go _ _ _ _ _ _ _ T15 (mkF m 52 L13 [(.long (own_ent p4 (0 : Int32))), (.int (0 : Int32)), (.ref a10)])
  obtain ⟨f16, hf16⟩ : ∃ z, FP.l2d (own_ent p4 (0 : Int32)) = z := ⟨_, rfl⟩
  refine own_pre (T' := T15) (g' := (mkF m 53 L13 [(.double f16), (.int (0 : Int32)), (.ref a10)])) (fun t k => XS.l2dS X15.here hx rfl (hb hby at_52) rfl hf16 k) ?_
  have Df16 : Jvm.FP.Core.DInt (own_ent p4 (0 : Int32)).toInt f16 := hf16 ▸ Jvm.FP.Core.l2d_int (own_eabs _ _)
  refine own_dastore X15 hx hZ e15' N15' nw11 F12 (hb hby at_53) (n := 0) (by decide) (by decide) (by show 0 < 12; decide) ?_
  intro T17 h17 lo17 X17 e17 N17 W17
  have F18 : own_Ary Z h17 a10 .double [(.double f16), (.double (0 : UInt64)), (.double (0 : UInt64)), (.double (0 : UInt64)), (.double (0 : UInt64)), (.double (0 : UInt64)), (.double (0 : UInt64)), (.double (0 : UInt64)), (.double (0 : UInt64)), (.double (0 : UInt64)), (.double (0 : UInt64)), (.double (0 : UInt64))] := F12.set W17
  show own_Go _ _ _ _ _ _ _ T17 (mkF m 54 L13 [])
  refine own_pre (T' := T17) (g' := (mkF m 56 L13 [(.ref a10)])) (fun t k => XS.aload X17.here hx rfl (v := (.ref a10)) (hb hby at_54) (by rw [← hL13]; rfl) rfl k) ?_
  refine own_pre (T' := T17) (g' := (mkF m 57 L13 [(.int (1 : Int32)), (.ref a10)])) (fun t k => XS.iconst X17.here hx rfl (hb hby at_56) k) ?_
  refine own_pre (T' := T17) (g' := (mkF m 59 L13 [(.long p4), (.int (1 : Int32)), (.ref a10)])) (fun t k => XT.lload X17.here hx rfl (v := p4) (hb hby at_57) (by rw [← hL13]; rfl) k) ?_
  refine own_pre (T' := T17) (g' := (mkF m 60 L13 [(.int (1 : Int32)), (.long p4), (.int (1 : Int32)), (.ref a10)])) (fun t k => XS.iconst X17.here hx rfl (hb hby at_59) k) ?_
  have F19 : n0 ≤ h17.size := (Nat.le_trans F14 (Nat.le_of_eq W17.size.symm))
  refine own_calls (argsL := [(.long p4), (.int (1 : Int32))]) (rest := [(.int (1 : Int32)), (.ref a10)]) X17 hx hZ hown (own_entT l Z a0 hw [] p4 (1 : Int32) h17 n0 F19) (hw _ (List.mem_of_getElem? (i := 1) rfl)) (hw _ (List.mem_of_getElem? (i := 2) rfl)) (hw _ (List.mem_of_getElem? (i := 4) rfl)) (hw _ (List.mem_of_getElem? (i := 3) rfl)) (by decide) e17 (hb hby at_60) (by rw [hml, ← hL13]; rfl) rfl (lenOf own_pd0 rfl) (by decide) (W := 2) (Nat.le_of_eq rfl) (by decide) (by decide) (by decide) ?_
  intro v20 T20 lo20 X20 Q20
  obtain ⟨h20, e20⟩ : ∃ h, T20.heap = h := ⟨_, rfl⟩
  rw [e20] at Q20
  obtain ⟨rfl, N20, q20⟩ := Q20
  have N20' := Fr.app N17 N20
  have e20' : T20.heap = h17 := e20.trans q20
  show own_Go _ _ _ _ _ _ _ T20 (mkF m 63 L13 [(.long (own_ent p4 (1 : Int32))), (.int (1 : Int32)), (.ref a10)])
  obtain ⟨f21, hf21⟩ : ∃ z, FP.l2d (own_ent p4 (1 : Int32)) = z := ⟨_, rfl⟩
  refine own_pre (T' := T20) (g' := (mkF m 64 L13 [(.double f21), (.int (1 : Int32)), (.ref a10)])) (fun t k => XS.l2dS X20.here hx rfl (hb hby at_63) rfl hf21 k) ?_
  have Df21 : Jvm.FP.Core.DInt (own_ent p4 (1 : Int32)).toInt f21 := hf21 ▸ Jvm.FP.Core.l2d_int (own_eabs _ _)
  refine own_dastore X20 hx hZ e20' N20' nw11 F18 (hb hby at_64) (n := 1) (by decide) (by decide) (by show 1 < 12; decide) ?_
  intro T22 h22 lo22 X22 e22 N22 W22
  have F23 : own_Ary Z h22 a10 .double [(.double f16), (.double f21), (.double (0 : UInt64)), (.double (0 : UInt64)), (.double (0 : UInt64)), (.double (0 : UInt64)), (.double (0 : UInt64)), (.double (0 : UInt64)), (.double (0 : UInt64)), (.double (0 : UInt64)), (.double (0 : UInt64)), (.double (0 : UInt64))] := F18.set W22
  show own_Go _ _ _ _ _ _ _ T22 (mkF m 65 L13 [])
  refine own_pre (T' := T22) (g' := (mkF m 67 L13 [(.ref a10)])) (fun t k => XS.aload X22.here hx rfl (v := (.ref a10)) (hb hby at_65) (by rw [← hL13]; rfl) rfl k) ?_
  refine own_pre (T' := T22) (g' := (mkF m 68 L13 [(.int (2 : Int32)), (.ref a10)])) (fun t k => XS.iconst X22.here hx rfl (hb hby at_67) k) ?_
  refine own_pre (T' := T22) (g' := (mkF m 70 L13 [(.long p4), (.int (2 : Int32)), (.ref a10)])) (fun t k => XT.lload X22.here hx rfl (v := p4) (hb hby at_68) (by rw [← hL13]; rfl) k) ?_
  refine own_pre (T' := T22) (g' := (mkF m 71 L13 [(.int (2 : Int32)), (.long p4), (.int (2 : Int32)), (.ref a10)])) (fun t k => XS.iconst X22.here hx rfl (hb hby at_70) k) ?_
  have F24 : n0 ≤ h22.size := (Nat.le_trans F19 (Nat.le_of_eq W22.size.symm))
  refine own_calls (argsL := [(.long p4), (.int (2 : Int32))]) (rest := [(.int (2 : Int32)), (.ref a10)]) X22 hx hZ hown (own_entT l Z a0 hw [] p4 (2 : Int32) h22 n0 F24) (hw _ (List.mem_of_getElem? (i := 1) rfl)) (hw _ (List.mem_of_getElem? (i := 2) rfl)) (hw _ (List.mem_of_getElem? (i := 4) rfl)) (hw _ (List.mem_of_getElem? (i := 3) rfl)) (by decide) e22 (hb hby at_71) (by rw [hml, ← hL13]; rfl) rfl (lenOf own_pd0 rfl) (by decide) (W := 2) (Nat.le_of_eq rfl) (by decide) (by decide) (by decide) ?_
  intro v25 T25 lo25 X25 Q25
  obtain ⟨h25, e25⟩ : ∃ h, T25.heap = h := ⟨_, rfl⟩
  rw [e25] at Q25
  obtain ⟨rfl, N25, q25⟩ := Q25
  have N25' := Fr.app N22 N25
  have e25' : T25.heap = h22 := e25.trans q25
  show own_Go _ _ _ _ _ _ _ T25 (mkF m 74 L13 [(.long (own_ent p4 (2 : Int32))), (.int (2 : Int32)), (.ref a10)])
  obtain ⟨f26, hf26⟩ : ∃ z, FP.l2d (own_ent p4 (2 : Int32)) = z := ⟨_, rfl⟩
  refine own_pre (T' := T25) (g' := (mkF m 75 L13 [(.double f26), (.int (2 : Int32)), (.ref a10)])) (fun t k => XS.l2dS X25.here hx rfl (hb hby at_74) rfl hf26 k) ?_
  have Df26 : Jvm.FP.Core.DInt (own_ent p4 (2 : Int32)).toInt f26 := hf26 ▸ Jvm.FP.Core.l2d_int (own_eabs _ _)
  refine own_dastore X25 hx hZ e25' N25' nw11 F23 (hb hby at_75) (n := 2) (by decide) (by decide) (by show 2 < 12; decide) ?_
  intro T27 h27 lo27 X27 e27 N27 W27
  have F28 : own_Ary Z h27 a10 .double [(.double f16), (.double f21), (.double f26), (.double (0 : UInt64)), (.double (0 : UInt64)), (.double (0 : UInt64)), (.double (0 : UInt64)), (.double (0 : UInt64)), (.double (0 : UInt64)), (.double (0 : UInt64)), (.double (0 : UInt64)), (.double (0 : UInt64))] := F23.set W27
  show own_Go _ _ _ _ _ _ _ T27 (mkF m 76 L13 [])
  refine own_pre (T' := T27) (g' := (mkF m 78 L13 [(.ref a10)])) (fun t k => XS.aload X27.here hx rfl (v := (.ref a10)) (hb hby at_76) (by rw [← hL13]; rfl) rfl k) ?_
  refine own_pre (T' := T27) (g' := (mkF m 79 L13 [(.int (3 : Int32)), (.ref a10)])) (fun t k => XS.iconst X27.here hx rfl (hb hby at_78) k) ?_
  refine own_pre (T' := T27) (g' := (mkF m 81 L13 [(.long p4), (.int (3 : Int32)), (.ref a10)])) (fun t k => XT.lload X27.here hx rfl (v := p4) (hb hby at_79) (by rw [← hL13]; rfl) k) ?_
  refine own_pre (T' := T27) (g' := (mkF m 82 L13 [(.int (3 : Int32)), (.long p4), (.int (3 : Int32)), (.ref a10)])) (fun t k => XS.iconst X27.here hx rfl (hb hby at_81) k) ?_
  have F29 : n0 ≤ h27.size := (Nat.le_trans F24 (Nat.le_of_eq W27.size.symm))
  refine own_calls (argsL := [(.long p4), (.int (3 : Int32))]) (rest := [(.int (3 : Int32)), (.ref a10)]) X27 hx hZ hown (own_entT l Z a0 hw [] p4 (3 : Int32) h27 n0 F29) (hw _ (List.mem_of_getElem? (i := 1) rfl)) (hw _ (List.mem_of_getElem? (i := 2) rfl)) (hw _ (List.mem_of_getElem? (i := 4) rfl)) (hw _ (List.mem_of_getElem? (i := 3) rfl)) (by decide) e27 (hb hby at_82) (by rw [hml, ← hL13]; rfl) rfl (lenOf own_pd0 rfl) (by decide) (W := 2) (Nat.le_of_eq rfl) (by decide) (by decide) (by decide) ?_
  intro v30 T30 lo30 X30 Q30
  obtain ⟨h30, e30⟩ : ∃ h, T30.heap = h := ⟨_, rfl⟩
  rw [e30] at Q30
  obtain ⟨rfl, N30, q30⟩ := Q30
  have N30' := Fr.app N27 N30
  have e30' : T30.heap = h27 := e30.trans q30
  show own_Go _ _ _ _ _ _ _ T30 (mkF m 85 L13 [(.long (own_ent p4 (3 : Int32))), (.int (3 : Int32)), (.ref a10)])
  obtain ⟨f31, hf31⟩ : ∃ z, FP.l2d (own_ent p4 (3 : Int32)) = z := ⟨_, rfl⟩
  refine own_pre (T' := T30) (g' := (mkF m 86 L13 [(.double f31), (.int (3 : Int32)), (.ref a10)])) (fun t k => XS.l2dS X30.here hx rfl (hb hby at_85) rfl hf31 k) ?_
  have Df31 : Jvm.FP.Core.DInt (own_ent p4 (3 : Int32)).toInt f31 := hf31 ▸ Jvm.FP.Core.l2d_int (own_eabs _ _)
  refine own_dastore X30 hx hZ e30' N30' nw11 F28 (hb hby at_86) (n := 3) (by decide) (by decide) (by show 3 < 12; decide) ?_
  intro T32 h32 lo32 X32 e32 N32 W32
  have F33 : own_Ary Z h32 a10 .double [(.double f16), (.double f21), (.double f26), (.double f31), (.double (0 : UInt64)), (.double (0 : UInt64)), (.double (0 : UInt64)), (.double (0 : UInt64)), (.double (0 : UInt64)), (.double (0 : UInt64)), (.double (0 : UInt64)), (.double (0 : UInt64))] := F28.set W32
  show own_Go _ _ _ _ _ _ _ T32 (mkF m 87 L13 [])
  refine own_pre (T' := T32) (g' := (mkF m 89 L13 [(.ref a10)])) (fun t k => XS.aload X32.here hx rfl (v := (.ref a10)) (hb hby at_87) (by rw [← hL13]; rfl) rfl k) ?_
  refine own_pre (T' := T32) (g' := (mkF m 90 L13 [(.int (4 : Int32)), (.ref a10)])) (fun t k => XS.iconst X32.here hx rfl (hb hby at_89) k) ?_
  refine own_pre (T' := T32) (g' := (mkF m 92 L13 [(.long p4), (.int (4 : Int32)), (.ref a10)])) (fun t k => XT.lload X32.here hx rfl (v := p4) (hb hby at_90) (by rw [← hL13]; rfl) k) ?_
  refine own_pre (T' := T32) (g' := (mkF m 93 L13 [(.int (4 : Int32)), (.long p4), (.int (4 : Int32)), (.ref a10)])) (fun t k => XS.iconst X32.here hx rfl (hb hby at_92) k) ?_
  have F34 : n0 ≤ h32.size := (Nat.le_trans F29 (Nat.le_of_eq W32.size.symm))
  refine own_calls (argsL := [(.long p4), (.int (4 : Int32))]) (rest := [(.int (4 : Int32)), (.ref a10)]) X32 hx hZ hown (own_entT l Z a0 hw [] p4 (4 : Int32) h32 n0 F34) (hw _ (List.mem_of_getElem? (i := 1) rfl)) (hw _ (List.mem_of_getElem? (i := 2) rfl)) (hw _ (List.mem_of_getElem? (i := 4) rfl)) (hw _ (List.mem_of_getElem? (i := 3) rfl)) (by decide) e32 (hb hby at_93) (by rw [hml, ← hL13]; rfl) rfl (lenOf own_pd0 rfl) (by decide) (W := 2) (Nat.le_of_eq rfl) (by decide) (by decide) (by decide) ?_
  intro v35 T35 lo35 X35 Q35
  obtain ⟨h35, e35⟩ : ∃ h, T35.heap = h := ⟨_, rfl⟩
  rw [e35] at Q35
  obtain ⟨rfl, N35, q35⟩ := Q35
  have N35' := Fr.app N32 N35
  have e35' : T35.heap = h32 := e35.trans q35
  show own_Go _ _ _ _ _ _ _ T35 (mkF m 96 L13 [(.long (own_ent p4 (4 : Int32))), (.int (4 : Int32)), (.ref a10)])
  obtain ⟨f36, hf36⟩ : ∃ z, FP.l2d (own_ent p4 (4 : Int32)) = z := ⟨_, rfl⟩
  refine own_pre (T' := T35) (g' := (mkF m 97 L13 [(.double f36), (.int (4 : Int32)), (.ref a10)])) (fun t k => XS.l2dS X35.here hx rfl (hb hby at_96) rfl hf36 k) ?_
  have Df36 : Jvm.FP.Core.DInt (own_ent p4 (4 : Int32)).toInt f36 := hf36 ▸ Jvm.FP.Core.l2d_int (own_eabs _ _)
  refine own_dastore X35 hx hZ e35' N35' nw11 F33 (hb hby at_97) (n := 4) (by decide) (by decide) (by show 4 < 12; decide) ?_
  intro T37 h37 lo37 X37 e37 N37 W37
  have F38 : own_Ary Z h37 a10 .double [(.double f16), (.double f21), (.double f26), (.double f31), (.double f36), (.double (0 : UInt64)), (.double (0 : UInt64)), (.double (0 : UInt64)), (.double (0 : UInt64)), (.double (0 : UInt64)), (.double (0 : UInt64)), (.double (0 : UInt64))] := F33.set W37
  show own_Go _ _ _ _ _ _ _ T37 (mkF m 98 L13 [])
  refine own_pre (T' := T37) (g' := (mkF m 100 L13 [(.ref a10)])) (fun t k => XS.aload X37.here hx rfl (v := (.ref a10)) (hb hby at_98) (by rw [← hL13]; rfl) rfl k) ?_
  refine own_pre (T' := T37) (g' := (mkF m 101 L13 [(.int (5 : Int32)), (.ref a10)])) (fun t k => XS.iconst X37.here hx rfl (hb hby at_100) k) ?_
  refine own_pre (T' := T37) (g' := (mkF m 103 L13 [(.long p4), (.int (5 : Int32)), (.ref a10)])) (fun t k => XT.lload X37.here hx rfl (v := p4) (hb hby at_101) (by rw [← hL13]; rfl) k) ?_
  refine own_pre (T' := T37) (g' := (mkF m 104 L13 [(.int (5 : Int32)), (.long p4), (.int (5 : Int32)), (.ref a10)])) (fun t k => XS.iconst X37.here hx rfl (hb hby at_103) k) ?_
  have F39 : n0 ≤ h37.size := (Nat.le_trans F34 (Nat.le_of_eq W37.size.symm))
  refine own_calls (argsL := [(.long p4), (.int (5 : Int32))]) (rest := [(.int (5 : Int32)), (.ref a10)]) X37 hx hZ hown (own_entT l Z a0 hw [] p4 (5 : Int32) h37 n0 F39) (hw _ (List.mem_of_getElem? (i := 1) rfl)) (hw _ (List.mem_of_getElem? (i := 2) rfl)) (hw _ (List.mem_of_getElem? (i := 4) rfl)) (hw _ (List.mem_of_getElem? (i := 3) rfl)) (by decide) e37 (hb hby at_104) (by rw [hml, ← hL13]; rfl) rfl (lenOf own_pd0 rfl) (by decide) (W := 2) (Nat.le_of_eq rfl) (by decide) (by decide) (by decide) ?_
  intro v40 T40 lo40 X40 Q40
  obtain ⟨h40, e40⟩ : ∃ h, T40.heap = h := ⟨_, rfl⟩
  rw [e40] at Q40
  obtain ⟨rfl, N40, q40⟩ := Q40
  have N40' := Fr.app N37 N40
  have e40' : T40.heap = h37 := e40.trans q40
  show own_Go _ _ _ _ _ _ _ T40 (mkF m 107 L13 [(.long (own_ent p4 (5 : Int32))), (.int (5 : Int32)), (.ref a10)])
  obtain ⟨f41, hf41⟩ : ∃ z, FP.l2d (own_ent p4 (5 : Int32)) = z := ⟨_, rfl⟩
  refine own_pre (T' := T40) (g' := (mkF m 108 L13 [(.double f41), (.int (5 : Int32)), (.ref a10)])) (fun t k => XS.l2dS X40.here hx rfl (hb hby at_107) rfl hf41 k) ?_
  have Df41 : Jvm.FP.Core.DInt (own_ent p4 (5 : Int32)).toInt f41 := hf41 ▸ Jvm.FP.Core.l2d_int (own_eabs _ _)
  refine own_dastore X40 hx hZ e40' N40' nw11 F38 (hb hby at_108) (n := 5) (by decide) (by decide) (by show 5 < 12; decide) ?_
  intro T42 h42 lo42 X42 e42 N42 W42
  have F43 : own_Ary Z h42 a10 .double [(.double f16), (.double f21), (.double f26), (.double f31), (.double f36), (.double f41), (.double (0 : UInt64)), (.double (0 : UInt64)), (.double (0 : UInt64)), (.double (0 : UInt64)), (.double (0 : UInt64)), (.double (0 : UInt64))] := F38.set W42
  show own_Go _ _ _ _ _ _ _ T42 (mkF m 109 L13 [])
  refine own_pre (T' := T42) (g' := (mkF m 111 L13 [(.ref a10)])) (fun t k => XS.aload X42.here hx rfl (v := (.ref a10)) (hb hby at_109) (by rw [← hL13]; rfl) rfl k) ?_
  refine own_pre (T' := T42) (g' := (mkF m 113 L13 [(.int (6 : Int32)), (.ref a10)])) (fun t k => XS.bipush X42.here hx rfl (hb hby at_111) k) ?_
  refine own_pre (T' := T42) (g' := (mkF m 115 L13 [(.long p5), (.int (6 : Int32)), (.ref a10)])) (fun t k => XT.lload X42.here hx rfl (v := p5) (hb hby at_113) (by rw [← hL13]; rfl) k) ?_
  refine own_pre (T' := T42) (g' := (mkF m 116 L13 [(.int (0 : Int32)), (.long p5), (.int (6 : Int32)), (.ref a10)])) (fun t k => XS.iconst X42.here hx rfl (hb hby at_115) k) ?_
  have F44 : n0 ≤ h42.size := (Nat.le_trans F39 (Nat.le_of_eq W42.size.symm))
  refine own_calls (argsL := [(.long p5), (.int (0 : Int32))]) (rest := [(.int (6 : Int32)), (.ref a10)]) X42 hx hZ hown (own_entT l Z a0 hw [] p5 (0 : Int32) h42 n0 F44) (hw _ (List.mem_of_getElem? (i := 1) rfl)) (hw _ (List.mem_of_getElem? (i := 2) rfl)) (hw _ (List.mem_of_getElem? (i := 4) rfl)) (hw _ (List.mem_of_getElem? (i := 3) rfl)) (by decide) e42 (hb hby at_116) (by rw [hml, ← hL13]; rfl) rfl (lenOf own_pd0 rfl) (by decide) (W := 2) (Nat.le_of_eq rfl) (by decide) (by decide) (by decide) ?_
  intro v45 T45 lo45 X45 Q45
  obtain ⟨h45, e45⟩ : ∃ h, T45.heap = h := ⟨_, rfl⟩
  rw [e45] at Q45
  obtain ⟨rfl, N45, q45⟩ := Q45
  have N45' := Fr.app N42 N45
  have e45' : T45.heap = h42 := e45.trans q45
  show own_Go _ _ _ _ _ _ _ T45 (mkF m 119 L13 [(.long (own_ent p5 (0 : Int32))), (.int (6 : Int32)), (.ref a10)])
  obtain ⟨f46, hf46⟩ : ∃ z, FP.l2d (own_ent p5 (0 : Int32)) = z := ⟨_, rfl⟩
  refine own_pre (T' := T45) (g' := (mkF m 120 L13 [(.double f46), (.int (6 : Int32)), (.ref a10)])) (fun t k => XS.l2dS X45.here hx rfl (hb hby at_119) rfl hf46 k) ?_
  have Df46 : Jvm.FP.Core.DInt (own_ent p5 (0 : Int32)).toInt f46 := hf46 ▸ Jvm.FP.Core.l2d_int (own_eabs _ _)
  refine own_dastore X45 hx hZ e45' N45' nw11 F43 (hb hby at_120) (n := 6) (by decide) (by decide) (by show 6 < 12; decide) ?_
  intro T47 h47 lo47 X47 e47 N47 W47
  have F48 : own_Ary Z h47 a10 .double [(.double f16), (.double f21), (.double f26), (.double f31), (.double f36), (.double f41), (.double f46), (.double (0 : UInt64)), (.double (0 : UInt64)), (.double (0 : UInt64)), (.double (0 : UInt64)), (.double (0 : UInt64))] := F43.set W47
  show own_Go _ _ _ _ _ _ _ T47 (mkF m 121 L13 [])
  refine own_pre (T' := T47) (g' := (mkF m 123 L13 [(.ref a10)])) (fun t k => XS.aload X47.here hx rfl (v := (.ref a10)) (hb hby at_121) (by rw [← hL13]; rfl) rfl k) ?_
  refine own_pre (T' := T47) (g' := (mkF m 125 L13 [(.int (7 : Int32)), (.ref a10)])) (fun t k => XS.bipush X47.here hx rfl (hb hby at_123) k) ?_
  refine own_pre (T' := T47) (g' := (mkF m 127 L13 [(.long p5), (.int (7 : Int32)), (.ref a10)])) (fun t k => XT.lload X47.here hx rfl (v := p5) (hb hby at_125) (by rw [← hL13]; rfl) k) ?_
  refine own_pre (T' := T47) (g' := (mkF m 128 L13 [(.int (1 : Int32)), (.long p5), (.int (7 : Int32)), (.ref a10)])) (fun t k => XS.iconst X47.here hx rfl (hb hby at_127) k) ?_
  have F49 : n0 ≤ h47.size := (Nat.le_trans F44 (Nat.le_of_eq W47.size.symm))
  refine own_calls (argsL := [(.long p5), (.int (1 : Int32))]) (rest := [(.int (7 : Int32)), (.ref a10)]) X47 hx hZ hown (own_entT l Z a0 hw [] p5 (1 : Int32) h47 n0 F49) (hw _ (List.mem_of_getElem? (i := 1) rfl)) (hw _ (List.mem_of_getElem? (i := 2) rfl)) (hw _ (List.mem_of_getElem? (i := 4) rfl)) (hw _ (List.mem_of_getElem? (i := 3) rfl)) (by decide) e47 (hb hby at_128) (by rw [hml, ← hL13]; rfl) rfl (lenOf own_pd0 rfl) (by decide) (W := 2) (Nat.le_of_eq rfl) (by decide) (by decide) (by decide) ?_
  intro v50 T50 lo50 X50 Q50
  obtain ⟨h50, e50⟩ : ∃ h, T50.heap = h := ⟨_, rfl⟩
  rw [e50] at Q50
  obtain ⟨rfl, N50, q50⟩ := Q50
  have N50' := Fr.app N47 N50
  have e50' : T50.heap = h47 := e50.trans q50
  show own_Go _ _ _ _ _ _ _ T50 (mkF m 131 L13 [(.long (own_ent p5 (1 : Int32))), (.int (7 : Int32)), (.ref a10)])
  obtain ⟨f51, hf51⟩ : ∃ z, FP.l2d (own_ent p5 (1 : Int32)) = z := ⟨_, rfl⟩
  refine own_pre (T' := T50) (g' := (mkF m 132 L13 [(.double f51), (.int (7 : Int32)), (.ref a10)])) (fun t k => XS.l2dS X50.here hx rfl (hb hby at_131) rfl hf51 k) ?_
  have Df51 : Jvm.FP.Core.DInt (own_ent p5 (1 : Int32)).toInt f51 := hf51 ▸ Jvm.FP.Core.l2d_int (own_eabs _ _)
  refine own_dastore X50 hx hZ e50' N50' nw11 F48 (hb hby at_132) (n := 7) (by decide) (by decide) (by show 7 < 12; decide) ?_
  intro T52 h52 lo52 X52 e52 N52 W52
  have F53 : own_Ary Z h52 a10 .double [(.double f16), (.double f21), (.double f26), (.double f31), (.double f36), (.double f41), (.double f46), (.double f51), (.double (0 : UInt64)), (.double (0 : UInt64)), (.double (0 : UInt64)), (.double (0 : UInt64))] := F48.set W52
  show own_Go _ _ _ _ _ _ _ T52 (mkF m 133 L13 [])
  refine own_pre (T' := T52) (g' := (mkF m 135 L13 [(.ref a10)])) (fun t k => XS.aload X52.here hx rfl (v := (.ref a10)) (hb hby at_133) (by rw [← hL13]; rfl) rfl k) ?_
  refine own_pre (T' := T52) (g' := (mkF m 137 L13 [(.int (8 : Int32)), (.ref a10)])) (fun t k => XS.bipush X52.here hx rfl (hb hby at_135) k) ?_
  refine own_pre (T' := T52) (g' := (mkF m 139 L13 [(.long p5), (.int (8 : Int32)), (.ref a10)])) (fun t k => XT.lload X52.here hx rfl (v := p5) (hb hby at_137) (by rw [← hL13]; rfl) k) ?_
  refine own_pre (T' := T52) (g' := (mkF m 140 L13 [(.int (2 : Int32)), (.long p5), (.int (8 : Int32)), (.ref a10)])) (fun t k => XS.iconst X52.here hx rfl (hb hby at_139) k) ?_
  have F54 : n0 ≤ h52.size := (Nat.le_trans F49 (Nat.le_of_eq W52.size.symm))
  refine own_calls (argsL := [(.long p5), (.int (2 : Int32))]) (rest := [(.int (8 : Int32)), (.ref a10)]) X52 hx hZ hown (own_entT l Z a0 hw [] p5 (2 : Int32) h52 n0 F54) (hw _ (List.mem_of_getElem? (i := 1) rfl)) (hw _ (List.mem_of_getElem? (i := 2) rfl)) (hw _ (List.mem_of_getElem? (i := 4) rfl)) (hw _ (List.mem_of_getElem? (i := 3) rfl)) (by decide) e52 (hb hby at_140) (by rw [hml, ← hL13]; rfl) rfl (lenOf own_pd0 rfl) (by decide) (W := 2) (Nat.le_of_eq rfl) (by decide) (by decide) (by decide) ?_
  intro v55 T55 lo55 X55 Q55
  obtain ⟨h55, e55⟩ : ∃ h, T55.heap = h := ⟨_, rfl⟩
  rw [e55] at Q55
  obtain ⟨rfl, N55, q55⟩ := Q55
  have N55' := Fr.app N52 N55
  have e55' : T55.heap = h52 := e55.trans q55
  show own_Go _ _ _ _ _ _ _ T55 (mkF m 143 L13 [(.long (own_ent p5 (2 : Int32))), (.int (8 : Int32)), (.ref a10)])
  obtain ⟨f56, hf56⟩ : ∃ z, FP.l2d (own_ent p5 (2 : Int32)) = z := ⟨_, rfl⟩
  refine own_pre (T' := T55) (g' := (mkF m 144 L13 [(.double f56), (.int (8 : Int32)), (.ref a10)])) (fun t k => XS.l2dS X55.here hx rfl (hb hby at_143) rfl hf56 k) ?_
  have Df56 : Jvm.FP.Core.DInt (own_ent p5 (2 : Int32)).toInt f56 := hf56 ▸ Jvm.FP.Core.l2d_int (own_eabs _ _)
  refine own_dastore X55 hx hZ e55' N55' nw11 F53 (hb hby at_144) (n := 8) (by decide) (by decide) (by show 8 < 12; decide) ?_
  intro T57 h57 lo57 X57 e57 N57 W57
  have F58 : own_Ary Z h57 a10 .double [(.double f16), (.double f21), (.double f26), (.double f31), (.double f36), (.double f41), (.double f46), (.double f51), (.double f56), (.double (0 : UInt64)), (.double (0 : UInt64)), (.double (0 : UInt64))] := F53.set W57
  show own_Go _ _ _ _ _ _ _ T57 (mkF m 145 L13 [])
  refine own_pre (T' := T57) (g' := (mkF m 147 L13 [(.ref a10)])) (fun t k => XS.aload X57.here hx rfl (v := (.ref a10)) (hb hby at_145) (by rw [← hL13]; rfl) rfl k) ?_
  refine own_pre (T' := T57) (g' := (mkF m 149 L13 [(.int (9 : Int32)), (.ref a10)])) (fun t k => XS.bipush X57.here hx rfl (hb hby at_147) k) ?_
  refine own_pre (T' := T57) (g' := (mkF m 151 L13 [(.long p5), (.int (9 : Int32)), (.ref a10)])) (fun t k => XT.lload X57.here hx rfl (v := p5) (hb hby at_149) (by rw [← hL13]; rfl) k) ?_
  refine own_pre (T' := T57) (g' := (mkF m 152 L13 [(.int (3 : Int32)), (.long p5), (.int (9 : Int32)), (.ref a10)])) (fun t k => XS.iconst X57.here hx rfl (hb hby at_151) k) ?_
  have F59 : n0 ≤ h57.size := (Nat.le_trans F54 (Nat.le_of_eq W57.size.symm))
  refine own_calls (argsL := [(.long p5), (.int (3 : Int32))]) (rest := [(.int (9 : Int32)), (.ref a10)]) X57 hx hZ hown (own_entT l Z a0 hw [] p5 (3 : Int32) h57 n0 F59) (hw _ (List.mem_of_getElem? (i := 1) rfl)) (hw _ (List.mem_of_getElem? (i := 2) rfl)) (hw _ (List.mem_of_getElem? (i := 4) rfl)) (hw _ (List.mem_of_getElem? (i := 3) rfl)) (by decide) e57 (hb hby at_152) (by rw [hml, ← hL13]; rfl) rfl (lenOf own_pd0 rfl) (by decide) (W := 2) (Nat.le_of_eq rfl) (by decide) (by decide) (by decide) ?_
  intro v60 T60 lo60 X60 Q60
  obtain ⟨h60, e60⟩ : ∃ h, T60.heap = h := ⟨_, rfl⟩
  rw [e60] at Q60
  obtain ⟨rfl, N60, q60⟩ := Q60
  have N60' := Fr.app N57 N60
  have e60' : T60.heap = h57 := e60.trans q60
  show own_Go _ _ _ _ _ _ _ T60 (mkF m 155 L13 [(.long (own_ent p5 (3 : Int32))), (.int (9 : Int32)), (.ref a10)])
  obtain ⟨f61, hf61⟩ : ∃ z, FP.l2d (own_ent p5 (3 : Int32)) = z := ⟨_, rfl⟩
  refine own_pre (T' := T60) (g' := (mkF m 156 L13 [(.double f61), (.int (9 : Int32)), (.ref a10)])) (fun t k => XS.l2dS X60.here hx rfl (hb hby at_155) rfl hf61 k) ?_
  have Df61 : Jvm.FP.Core.DInt (own_ent p5 (3 : Int32)).toInt f61 := hf61 ▸ Jvm.FP.Core.l2d_int (own_eabs _ _)
  refine own_dastore X60 hx hZ e60' N60' nw11 F58 (hb hby at_156) (n := 9) (by decide) (by decide) (by show 9 < 12; decide) ?_
  intro T62 h62 lo62 X62 e62 N62 W62
  have F63 : own_Ary Z h62 a10 .double [(.double f16), (.double f21), (.double f26), (.double f31), (.double f36), (.double f41), (.double f46), (.double f51), (.double f56), (.double f61), (.double (0 : UInt64)), (.double (0 : UInt64))] := F58.set W62
  show own_Go _ _ _ _ _ _ _ T62 (mkF m 157 L13 [])
  refine own_pre (T' := T62) (g' := (mkF m 159 L13 [(.ref a10)])) (fun t k => XS.aload X62.here hx rfl (v := (.ref a10)) (hb hby at_157) (by rw [← hL13]; rfl) rfl k) ?_
  refine own_pre (T' := T62) (g' := (mkF m 161 L13 [(.int (10 : Int32)), (.ref a10)])) (fun t k => XS.bipush X62.here hx rfl (hb hby at_159) k) ?_
  refine own_pre (T' := T62) (g' := (mkF m 163 L13 [(.long p5), (.int (10 : Int32)), (.ref a10)])) (fun t k => XT.lload X62.here hx rfl (v := p5) (hb hby at_161) (by rw [← hL13]; rfl) k) ?_
  refine own_pre (T' := T62) (g' := (mkF m 164 L13 [(.int (4 : Int32)), (.long p5), (.int (10 : Int32)), (.ref a10)])) (fun t k => XS.iconst X62.here hx rfl (hb hby at_163) k) ?_
  have F64 : n0 ≤ h62.size := (Nat.le_trans F59 (Nat.le_of_eq W62.size.symm))
  refine own_calls (argsL := [(.long p5), (.int (4 : Int32))]) (rest := [(.int (10 : Int32)), (.ref a10)]) X62 hx hZ hown (own_entT l Z a0 hw [] p5 (4 : Int32) h62 n0 F64) (hw _ (List.mem_of_getElem? (i := 1) rfl)) (hw _ (List.mem_of_getElem? (i := 2) rfl)) (hw _ (List.mem_of_getElem? (i := 4) rfl)) (hw _ (List.mem_of_getElem? (i := 3) rfl)) (by decide) e62 (hb hby at_164) (by rw [hml, ← hL13]; rfl) rfl (lenOf own_pd0 rfl) (by decide) (W := 2) (Nat.le_of_eq rfl) (by decide) (by decide) (by decide) ?_
  intro v65 T65 lo65 X65 Q65
  obtain ⟨h65, e65⟩ : ∃ h, T65.heap = h := ⟨_, rfl⟩
  rw [e65] at Q65
  obtain ⟨rfl, N65, q65⟩ := Q65
  have N65' := Fr.app N62 N65
  have e65' : T65.heap = h62 := e65.trans q65
  show own_Go _ _ _ _ _ _ _ T65 (mkF m 167 L13 [(.long (own_ent p5 (4 : Int32))), (.int (10 : Int32)), (.ref a10)])
  obtain ⟨f66, hf66⟩ : ∃ z, FP.l2d (own_ent p5 (4 : Int32)) = z := ⟨_, rfl⟩
  refine own_pre (T' := T65) (g' := (mkF m 168 L13 [(.double f66), (.int (10 : Int32)), (.ref a10)])) (fun t k => XS.l2dS X65.here hx rfl (hb hby at_167) rfl hf66 k) ?_
  have Df66 : Jvm.FP.Core.DInt (own_ent p5 (4 : Int32)).toInt f66 := hf66 ▸ Jvm.FP.Core.l2d_int (own_eabs _ _)
  refine own_dastore X65 hx hZ e65' N65' nw11 F63 (hb hby at_168) (n := 10) (by decide) (by decide) (by show 10 < 12; decide) ?_
  intro T67 h67 lo67 X67 e67 N67 W67
  have F68 : own_Ary Z h67 a10 .double [(.double f16), (.double f21), (.double f26), (.double f31), (.double f36), (.double f41), (.double f46), (.double f51), (.double f56), (.double f61), (.double f66), (.double (0 : UInt64))] := F63.set W67
  show own_Go _ _ _ _ _ _ _ T67 (mkF m 169 L13 [])
  refine own_pre (T' := T67) (g' := (mkF m 171 L13 [(.ref a10)])) (fun t k => XS.aload X67.here hx rfl (v := (.ref a10)) (hb hby at_169) (by rw [← hL13]; rfl) rfl k) ?_
  refine own_pre (T' := T67) (g' := (mkF m 173 L13 [(.int (11 : Int32)), (.ref a10)])) (fun t k => XS.bipush X67.here hx rfl (hb hby at_171) k) ?_
  refine own_pre (T' := T67) (g' := (mkF m 175 L13 [(.long p5), (.int (11 : Int32)), (.ref a10)])) (fun t k => XT.lload X67.here hx rfl (v := p5) (hb hby at_173) (by rw [← hL13]; rfl) k) ?_
  refine own_pre (T' := T67) (g' := (mkF m 176 L13 [(.int (5 : Int32)), (.long p5), (.int (11 : Int32)), (.ref a10)])) (fun t k => XS.iconst X67.here hx rfl (hb hby at_175) k) ?_
  have F69 : n0 ≤ h67.size := (Nat.le_trans F64 (Nat.le_of_eq W67.size.symm))
  refine own_calls (argsL := [(.long p5), (.int (5 : Int32))]) (rest := [(.int (11 : Int32)), (.ref a10)]) X67 hx hZ hown (own_entT l Z a0 hw [] p5 (5 : Int32) h67 n0 F69) (hw _ (List.mem_of_getElem? (i := 1) rfl)) (hw _ (List.mem_of_getElem? (i := 2) rfl)) (hw _ (List.mem_of_getElem? (i := 4) rfl)) (hw _ (List.mem_of_getElem? (i := 3) rfl)) (by decide) e67 (hb hby at_176) (by rw [hml, ← hL13]; rfl) rfl (lenOf own_pd0 rfl) (by decide) (W := 2) (Nat.le_of_eq rfl) (by decide) (by decide) (by decide) ?_
  intro v70 T70 lo70 X70 Q70
  obtain ⟨h70, e70⟩ : ∃ h, T70.heap = h := ⟨_, rfl⟩
  rw [e70] at Q70
  obtain ⟨rfl, N70, q70⟩ := Q70
  have N70' := Fr.app N67 N70
  have e70' : T70.heap = h67 := e70.trans q70
  show own_Go _ _ _ _ _ _ _ T70 (mkF m 179 L13 [(.long (own_ent p5 (5 : Int32))), (.int (11 : Int32)), (.ref a10)])
  obtain ⟨f71, hf71⟩ : ∃ z, FP.l2d (own_ent p5 (5 : Int32)) = z := ⟨_, rfl⟩
  refine own_pre (T' := T70) (g' := (mkF m 180 L13 [(.double f71), (.int (11 : Int32)), (.ref a10)])) (fun t k => XS.l2dS X70.here hx rfl (hb hby at_179) rfl hf71 k) ?_
  have Df71 : Jvm.FP.Core.DInt (own_ent p5 (5 : Int32)).toInt f71 := hf71 ▸ Jvm.FP.Core.l2d_int (own_eabs _ _)
  refine own_dastore X70 hx hZ e70' N70' nw11 F68 (hb hby at_180) (n := 11) (by decide) (by decide) (by show 11 < 12; decide) ?_
  intro T72 h72 lo72 X72 e72 N72 W72
  have F73 : own_Ary Z h72 a10 .double [(.double f16), (.double f21), (.double f26), (.double f31), (.double f36), (.double f41), (.double f46), (.double f51), (.double f56), (.double f61), (.double f66), (.double f71)] := F68.set W72
  show own_Go _ _ _ _ _ _ _ T72 (mkF m 181 L13 [])
  have hpick : ∀ q : Int32, (0 ≤ q ∧ q.toInt < 12) → ∃ (f : UInt64), ([(.double f16), (.double f21), (.double f26), (.double f31), (.double f36), (.double f41), (.double f46), (.double f51), (.double f56), (.double f61), (.double f66), (.double f71)] : List Value)[q.toNatClampNeg]? = some (.double f) ∧ FP.Core.DInt (own_entAt p4 p5 q).toInt f := by
    intro q hq
    rcases own_twelve hq with rfl | rfl | rfl | rfl | rfl | rfl | rfl | rfl | rfl | rfl | rfl | rfl
    · exact ⟨f16, rfl, (own_eA0 p4 p5).symm ▸ Df16⟩
    · exact ⟨f21, rfl, (own_eA1 p4 p5).symm ▸ Df21⟩
    · exact ⟨f26, rfl, (own_eA2 p4 p5).symm ▸ Df26⟩
    · exact ⟨f31, rfl, (own_eA3 p4 p5).symm ▸ Df31⟩
    · exact ⟨f36, rfl, (own_eA4 p4 p5).symm ▸ Df36⟩
    · exact ⟨f41, rfl, (own_eA5 p4 p5).symm ▸ Df41⟩
    · exact ⟨f46, rfl, (own_eA6 p4 p5).symm ▸ Df46⟩
    · exact ⟨f51, rfl, (own_eA7 p4 p5).symm ▸ Df51⟩
    · exact ⟨f56, rfl, (own_eA8 p4 p5).symm ▸ Df56⟩
    · exact ⟨f61, rfl, (own_eA9 p4 p5).symm ▸ Df61⟩
    · exact ⟨f66, rfl, (own_eA10 p4 p5).symm ▸ Df66⟩
    · exact ⟨f71, rfl, (own_eA11 p4 p5).symm ▸ Df71⟩
  rcases own_four hn with hc | hc | hc | hc
  · skip
    subst hc
    show own_Go _ _ _ _ _ _ _ T72 (mkF m 181 L13 [])
    refine own_pre (T' := T72) (g' := (mkF m 183 L13 [(.int (0 : Int32))])) (fun t k => XS.iload X72.here hx rfl (v := (0 : Int32)) (hb hby at_181) (by rw [← hL13]; rfl) k) ?_
    have F74 : n0 ≤ h72.size := (Nat.le_trans F69 (Nat.le_of_eq W72.size.symm))
    refine own_newarr X72 hx hZ (aty := .int) (hw _ (List.mem_of_getElem? (i := 7) rfl)) e72 (hb hby at_183) (n := 0) (by decide) (by decide) (by decide) (by decide) (by decide) (ad := "[I") rfl ?_
    intro T75 h75 a75 g75 X75 e75 E75 A75 B75
    have lt76 : a10 < a75 := Nat.lt_of_lt_of_le F73.lt (Nat.le_of_eq g75.symm)
    have nw77 : n0 ≤ a75 := Nat.le_trans F74 (Nat.le_of_eq g75.symm)
    have F78 : own_Ary Z h75 a75 .int [] := A75
    show own_Go _ _ _ _ _ _ _ T75 (mkF m 185 L13 [(.ref a75)])
    refine own_pre (T' := T75) (g' := (mkF m 187 #[.val (.int p0), .val (.int p1), .val (.int p2), .val (.int p3), .val (.long p4), .second, .val (.long p5), .second, .val (.int (0 : Int32)), .val (.int v4), .val (.int v6), .val (.int v8), .val (.ref a10), .val (.ref a75), .unset, .unset, .unset, .unset, .unset] [])) (fun t k => XS.astore X75.here hx rfl (hb hby at_185) rfl rfl (l' := #[.val (.int p0), .val (.int p1), .val (.int p2), .val (.int p3), .val (.long p4), .second, .val (.long p5), .second, .val (.int (0 : Int32)), .val (.int v4), .val (.int v6), .val (.int v8), .val (.ref a10), .val (.ref a75), .unset, .unset, .unset, .unset, .unset]) (by rw [← hL13]; rfl) k) ?_
    generalize hL79 : (#[.val (.int p0), .val (.int p1), .val (.int p2), .val (.int p3), .val (.long p4), .second, .val (.long p5), .second, .val (.int (0 : Int32)), .val (.int v4), .val (.int v6), .val (.int v8), .val (.ref a10), .val (.ref a75), .unset, .unset, .unset, .unset, .unset] : Array Slot) = L79
    refine own_pre (T' := T75) (g' := (mkF m 189 L79 [(.int (0 : Int32))])) (fun t k => XS.iload X75.here hx rfl (v := (0 : Int32)) (hb hby at_187) (by rw [← hL79]; rfl) k) ?_
    have F80 : own_Ary Z h75 a10 .double [(.double f16), (.double f21), (.double f26), (.double f31), (.double f36), (.double f41), (.double f46), (.double f51), (.double f56), (.double f61), (.double f66), (.double f71)] := (F73.ext E75)
    have F81 : n0 ≤ h75.size := (Nat.le_trans F74 E75.1)
    refine own_newarr X75 hx hZ (aty := .double) (hw _ (List.mem_of_getElem? (i := 0) rfl)) e75 (hb hby at_189) (n := 0) (by decide) (by decide) (by decide) (by decide) (by decide) (ad := "[D") rfl ?_
    intro T82 h82 a82 g82 X82 e82 E82 A82 B82
    have lt83 : a10 < a82 := Nat.lt_of_lt_of_le F80.lt (Nat.le_of_eq g82.symm)
    have lt84 : a75 < a82 := Nat.lt_of_lt_of_le F78.lt (Nat.le_of_eq g82.symm)
    have nw85 : n0 ≤ a82 := Nat.le_trans F81 (Nat.le_of_eq g82.symm)
    have F86 : own_Ary Z h82 a82 .double [] := A82
    show own_Go _ _ _ _ _ _ _ T82 (mkF m 191 L79 [(.ref a82)])
    refine own_pre (T' := T82) (g' := (mkF m 193 #[.val (.int p0), .val (.int p1), .val (.int p2), .val (.int p3), .val (.long p4), .second, .val (.long p5), .second, .val (.int (0 : Int32)), .val (.int v4), .val (.int v6), .val (.int v8), .val (.ref a10), .val (.ref a75), .val (.ref a82), .unset, .unset, .unset, .unset] [])) (fun t k => XS.astore X82.here hx rfl (hb hby at_191) rfl rfl (l' := #[.val (.int p0), .val (.int p1), .val (.int p2), .val (.int p3), .val (.long p4), .second, .val (.long p5), .second, .val (.int (0 : Int32)), .val (.int v4), .val (.int v6), .val (.int v8), .val (.ref a10), .val (.ref a75), .val (.ref a82), .unset, .unset, .unset, .unset]) (by rw [← hL79]; rfl) k) ?_
    generalize hL87 : (#[.val (.int p0), .val (.int p1), .val (.int p2), .val (.int p3), .val (.long p4), .second, .val (.long p5), .second, .val (.int (0 : Int32)), .val (.int v4), .val (.int v6), .val (.int v8), .val (.ref a10), .val (.ref a75), .val (.ref a82), .unset, .unset, .unset, .unset] : Array Slot) = L87
    refine own_pre (T' := T82) (g' := (mkF m 194 L87 [(.long (0 : Int64))])) (fun t k => XT.lconst X82.here hx rfl (hb hby at_193) k) ?_
    refine own_pre (T' := T82) (g' := (mkF m 196 #[.val (.int p0), .val (.int p1), .val (.int p2), .val (.int p3), .val (.long p4), .second, .val (.long p5), .second, .val (.int (0 : Int32)), .val (.int v4), .val (.int v6), .val (.int v8), .val (.ref a10), .val (.ref a75), .val (.ref a82), .val (.long (0 : Int64)), .second, .unset, .unset] [])) (fun t k => XT.lstore X82.here hx rfl (hb hby at_194) rfl (l' := #[.val (.int p0), .val (.int p1), .val (.int p2), .val (.int p3), .val (.long p4), .second, .val (.long p5), .second, .val (.int (0 : Int32)), .val (.int v4), .val (.int v6), .val (.int v8), .val (.ref a10), .val (.ref a75), .val (.ref a82), .val (.long (0 : Int64)), .second, .unset, .unset]) (by rw [← hL87]; rfl) k) ?_
    generalize hL88 : (#[.val (.int p0), .val (.int p1), .val (.int p2), .val (.int p3), .val (.long p4), .second, .val (.long p5), .second, .val (.int (0 : Int32)), .val (.int v4), .val (.int v6), .val (.int v8), .val (.ref a10), .val (.ref a75), .val (.ref a82), .val (.long (0 : Int64)), .second, .unset, .unset] : Array Slot) = L88
    refine own_pre (T' := T82) (g' := (mkF m 198 L88 [(.int (0 : Int32))])) (fun t k => XS.iload X82.here hx rfl (v := (0 : Int32)) (hb hby at_196) (by rw [← hL88]; rfl) k) ?_
    refine own_pre (T' := T82) (g' := (mkF m 199 L88 [(.int (1 : Int32)), (.int (0 : Int32))])) (fun t k => XS.iconst X82.here hx rfl (hb hby at_198) k) ?_
    refine own_pre (T' := T82) (g' := (mkF m 231 L88 [])) (fun t k => XS.icmpYes X82.here hx rfl (pc0 := 199) (pc' := 231) rfl (hb hby at_199) rfl (by decide) (by decide) (by decide) k) ?_
    refine own_pre (T' := T82) (g' := (mkF m 233 L88 [(.int (0 : Int32))])) (fun t k => XS.iload X82.here hx rfl (v := (0 : Int32)) (hb hby at_231) (by rw [← hL88]; rfl) k) ?_
    refine own_pre (T' := T82) (g' := (mkF m 234 L88 [(.int (2 : Int32)), (.int (0 : Int32))])) (fun t k => XS.iconst X82.here hx rfl (hb hby at_233) k) ?_
    refine own_pre (T' := T82) (g' := (mkF m 266 L88 [])) (fun t k => XS.icmpYes X82.here hx rfl (pc0 := 234) (pc' := 266) rfl (hb hby at_234) rfl (by decide) (by decide) (by decide) k) ?_
    refine own_pre (T' := T82) (g' := (mkF m 268 L88 [(.int (0 : Int32))])) (fun t k => XS.iload X82.here hx rfl (v := (0 : Int32)) (hb hby at_266) (by rw [← hL88]; rfl) k) ?_
    refine own_pre (T' := T82) (g' := (mkF m 269 L88 [(.int (3 : Int32)), (.int (0 : Int32))])) (fun t k => XS.iconst X82.here hx rfl (hb hby at_268) k) ?_
    refine own_pre (T' := T82) (g' := (mkF m 301 L88 [])) (fun t k => XS.icmpYes X82.here hx rfl (pc0 := 269) (pc' := 301) rfl (hb hby at_269) rfl (by decide) (by decide) (by decide) k) ?_
    have F89 : own_Ary Z h82 a10 .double [(.double f16), (.double f21), (.double f26), (.double f31), (.double f36), (.double f41), (.double f46), (.double f51), (.double f56), (.double f61), (.double f66), (.double f71)] := (F80.ext E82)
    have F90 : own_Ary Z h82 a75 .int [] := (F78.ext E82)
    have F91 : n0 ≤ h82.size := (Nat.le_trans F81 E82.1)
    refine own_newobj X82 hx hZ hown (hw _ (List.mem_of_getElem? (i := 8) rfl)) (hw _ (List.mem_of_getElem? (i := 9) rfl)) (hw _ (List.mem_of_getElem? (i := 10) rfl)) e82 (hb hby at_301) (by decide) (by decide) ?_
    intro T92 h92 a92 g92 X92 e92 E92 A92 D92
    have lt93 : a10 < a92 := Nat.lt_of_lt_of_le F89.lt (Nat.le_of_eq g92.symm)
    have lt94 : a75 < a92 := Nat.lt_of_lt_of_le F90.lt (Nat.le_of_eq g92.symm)
    have lt95 : a82 < a92 := Nat.lt_of_lt_of_le F86.lt (Nat.le_of_eq g92.symm)
    have nw96 : n0 ≤ a92 := Nat.le_trans F91 (Nat.le_of_eq g92.symm)
    have F97 : Fld Z h92 a92 "com/example/galicia/galicia/lime/SparseVector" "positions" "[I" .null := D92 (Or.inr (hw _ (List.mem_of_getElem? (i := 18) rfl))) (ty := (.array .int)) (by decide)
    have F98 : Fld Z h92 a92 "com/example/galicia/galicia/lime/SparseVector" "values" "[D" .null := D92 (Or.inr (hw _ (List.mem_of_getElem? (i := 20) rfl))) (ty := (.array .double)) (by decide)
    show own_Go _ _ _ _ _ _ _ T92 (mkF m 304 L88 [(.ref a92)])
    refine own_pre (T' := T92) (g' := (mkF m 305 L88 [(.ref a92), (.ref a92)])) (fun t k => XS.dup X92.here hx rfl (hb hby at_304) rfl rfl k) ?_
    refine own_pre (T' := T92) (g' := (mkF m 307 L88 [(.ref a75), (.ref a92), (.ref a92)])) (fun t k => XS.aload X92.here hx rfl (v := (.ref a75)) (hb hby at_305) (by rw [← hL88]; rfl) rfl k) ?_
    refine own_pre (T' := T92) (g' := (mkF m 309 L88 [(.ref a82), (.ref a75), (.ref a92), (.ref a92)])) (fun t k => XS.aload X92.here hx rfl (v := (.ref a82)) (hb hby at_307) (by rw [← hL88]; rfl) rfl k) ?_
    have F99 : n0 ≤ h92.size := (Nat.le_trans F91 E92.1)
    refine own_init (a := a92) (argsL := [(.ref a75), (.ref a82)]) (rest := [(.ref a92)]) X92 hx hZ hown (own_svinit l Z a0 hw [] a92 a75 a82 h92 n0 F99 A92 F97 F98 nw96) rfl (hw _ (List.mem_of_getElem? (i := 11) rfl)) (hw _ (List.mem_of_getElem? (i := 12) rfl)) (hw _ (List.mem_of_getElem? (i := 13) rfl)) (hw _ (List.mem_of_getElem? (i := 10) rfl)) (by decide) e92 (hb hby at_309) (by rw [hml, ← hL88]; rfl) rfl (lenOf own_pd1 rfl) (by decide) (W := 1) (Nat.le_of_eq rfl) (by decide) (by decide) (by decide) ?_
    intro v100 T100 lo100 X100 Q100
    obtain ⟨h100, e100⟩ : ∃ h, T100.heap = h := ⟨_, rfl⟩
    rw [e100] at Q100
    obtain ⟨rfl, N100, K100, G1100, G2100⟩ := Q100
    have N100' := Fr.app N72 N100
    show own_Go _ _ _ _ _ _ _ T100 (mkF m 312 L88 [(.ref a92)])
    refine own_pre (T' := T100) (g' := (mkF m 314 L88 [(.ref a10), (.ref a92)])) (fun t k => XS.aload X100.here hx rfl (v := (.ref a10)) (hb hby at_312) (by rw [← hL88]; rfl) rfl k) ?_
    have F101 : n0 ≤ h100.size := (Nat.le_trans F99 K100.1)
    have F102 : own_Ary Z h100 a75 .int [] := ((F90.ext E92).keep K100 (ninS (Nat.ne_of_lt lt94) nin0))
    have F103 : own_Ary Z h100 a82 .double [] := ((F86.ext E92).keep K100 (ninS (Nat.ne_of_lt lt95) nin0))
    have F104 : own_Ary Z h100 a10 .double [(.double f16), (.double f21), (.double f26), (.double f31), (.double f36), (.double f41), (.double f46), (.double f51), (.double f56), (.double f61), (.double f66), (.double f71)] := ((F89.ext E92).keep K100 (ninS (Nat.ne_of_lt lt93) nin0))
    have F105 : Exa Z h100 a92 "com/example/galicia/galicia/lime/SparseVector" := (A92.keep K100)
    refine own_callv (a := a92) (argsL := [(.ref a10)]) (rest := []) X100 hx hZ hown (own_dot0 l Z a0 hw [] a92 a75 a82 a10 _  h100 n0 F101 G1100 G2100 F102 F103 F104 ) F105 (hw _ (List.mem_of_getElem? (i := 21) rfl)) (hw _ (List.mem_of_getElem? (i := 22) rfl)) (hw _ (List.mem_of_getElem? (i := 24) rfl)) (hw _ (List.mem_of_getElem? (i := 23) rfl)) (hw _ (List.mem_of_getElem? (i := 25) rfl)) (hw _ (List.mem_of_getElem? (i := 10) rfl)) (by decide) e100 (hb hby at_314) (by rw [hml, ← hL88]; rfl) rfl (lenOf own_pd2 rfl) (by decide) (W := 0) (Nat.le_of_eq rfl) (by decide) (by decide) (by decide) ?_
    intro v106 T106 lo106 X106 Q106
    obtain ⟨h106, e106⟩ : ∃ h, T106.heap = h := ⟨_, rfl⟩
    rw [e106] at Q106
    obtain ⟨r106, rfl, DR106, N106, q106⟩ := Q106
    have N106' := Fr.app N100' N106
    have e106' : T106.heap = h100 := e106.trans q106
    show own_Go _ _ _ _ _ _ _ T106 (mkF m 317 L88 [(.double r106)])
    refine own_pre (T' := T106) (g' := (mkF m 319 #[.val (.int p0), .val (.int p1), .val (.int p2), .val (.int p3), .val (.long p4), .second, .val (.long p5), .second, .val (.int (0 : Int32)), .val (.int v4), .val (.int v6), .val (.int v8), .val (.ref a10), .val (.ref a75), .val (.ref a82), .val (.long (0 : Int64)), .second, .val (.double r106), .second] [])) (fun t k => XS.dstore X106.here hx rfl (hb hby at_317) rfl (l' := #[.val (.int p0), .val (.int p1), .val (.int p2), .val (.int p3), .val (.long p4), .second, .val (.long p5), .second, .val (.int (0 : Int32)), .val (.int v4), .val (.int v6), .val (.int v8), .val (.ref a10), .val (.ref a75), .val (.ref a82), .val (.long (0 : Int64)), .second, .val (.double r106), .second]) (by rw [← hL88]; rfl) k) ?_
    generalize hL107 : (#[.val (.int p0), .val (.int p1), .val (.int p2), .val (.int p3), .val (.long p4), .second, .val (.long p5), .second, .val (.int (0 : Int32)), .val (.int v4), .val (.int v6), .val (.int v8), .val (.ref a10), .val (.ref a75), .val (.ref a82), .val (.long (0 : Int64)), .second, .val (.double r106), .second] : Array Slot) = L107
    refine own_pre (T' := T106) (g' := (mkF m 321 L107 [(.double r106)])) (fun t k => XS.dload X106.here hx rfl (v := r106) (hb hby at_319) (by rw [← hL107]; rfl) k) ?_
    refine own_pre (T' := T106) (g' := (mkF m 323 L107 [(.long (0 : Int64)), (.double r106)])) (fun t k => XT.lload X106.here hx rfl (v := (0 : Int64)) (hb hby at_321) (by rw [← hL107]; rfl) k) ?_
    obtain ⟨f108, hf108⟩ : ∃ z, FP.l2d (0 : Int64) = z := ⟨_, rfl⟩
    refine own_pre (T' := T106) (g' := (mkF m 324 L107 [(.double f108), (.double r106)])) (fun t k => XS.l2dS X106.here hx rfl (hb hby at_323) rfl hf108 k) ?_
    have hX : ((0 : Int64)).toInt = 0 := rfl
    have Df108 : Jvm.FP.Core.DInt (0 : Int64).toInt f108 := hf108 ▸ Jvm.FP.Core.l2d_int (by rw [hX]; omega)
    obtain ⟨k109, hk109⟩ : ∃ z, own_c 0 ((0 : Int64).toInt) = z := ⟨_, rfl⟩
    refine own_pre (T' := T106) (g' := (mkF m 325 L107 [(.int k109)])) (fun t k => XS.dcmpS X106.here hx rfl (hb hby at_324) rfl ((own_dcmp DR106 Df108 _).trans hk109) k) ?_
    have hk0 : k109 = (0 : Int32) := by rw [← hk109, own_c_eq, hX]
    refine own_pre (T' := T106) (g' := (mkF m 328 L107 [])) (fun t k => XS.ifNo X106.here hx rfl (hb hby at_325) rfl ((if0 _ _).trans (teq hk0).2) k) ?_
    refine own_pre (T' := T106) (g' := (mkF m 329 L107 [(.int (1 : Int32))])) (fun t k => XS.iconst X106.here hx rfl (hb hby at_328) k) ?_
    refine own_pre (T' := T106) (g' := (mkF m 333 L107 [(.int (1 : Int32))])) (fun t k => XS.goto X106.here hx rfl (pc0 := 329) (pc' := 333) rfl (hb hby at_329) (by decide) (by decide) k) ?_
    exact own_retZ X106 hx hlk hret rfl (hb hby at_333) e106' ⟨rfl, N106'⟩ (by decide) (by decide)
  · skip
    subst hc
    obtain ⟨y0, hy0, DY0⟩ := hpick v4 hq0
    have hB0 := own_prod p1 (own_eAb p4 p5 v4)
    show own_Go _ _ _ _ _ _ _ T72 (mkF m 181 L13 [])
    refine own_pre (T' := T72) (g' := (mkF m 183 L13 [(.int (1 : Int32))])) (fun t k => XS.iload X72.here hx rfl (v := (1 : Int32)) (hb hby at_181) (by rw [← hL13]; rfl) k) ?_
    have F110 : n0 ≤ h72.size := (Nat.le_trans F69 (Nat.le_of_eq W72.size.symm))
    refine own_newarr X72 hx hZ (aty := .int) (hw _ (List.mem_of_getElem? (i := 7) rfl)) e72 (hb hby at_183) (n := 1) (by decide) (by decide) (by decide) (by decide) (by decide) (ad := "[I") rfl ?_
    intro T111 h111 a111 g111 X111 e111 E111 A111 B111
    have lt112 : a10 < a111 := Nat.lt_of_lt_of_le F73.lt (Nat.le_of_eq g111.symm)
    have nw113 : n0 ≤ a111 := Nat.le_trans F110 (Nat.le_of_eq g111.symm)
    have F114 : own_Ary Z h111 a111 .int [(.int (0 : Int32))] := A111
    show own_Go _ _ _ _ _ _ _ T111 (mkF m 185 L13 [(.ref a111)])
    refine own_pre (T' := T111) (g' := (mkF m 187 #[.val (.int p0), .val (.int p1), .val (.int p2), .val (.int p3), .val (.long p4), .second, .val (.long p5), .second, .val (.int (1 : Int32)), .val (.int v4), .val (.int v6), .val (.int v8), .val (.ref a10), .val (.ref a111), .unset, .unset, .unset, .unset, .unset] [])) (fun t k => XS.astore X111.here hx rfl (hb hby at_185) rfl rfl (l' := #[.val (.int p0), .val (.int p1), .val (.int p2), .val (.int p3), .val (.long p4), .second, .val (.long p5), .second, .val (.int (1 : Int32)), .val (.int v4), .val (.int v6), .val (.int v8), .val (.ref a10), .val (.ref a111), .unset, .unset, .unset, .unset, .unset]) (by rw [← hL13]; rfl) k) ?_
    generalize hL115 : (#[.val (.int p0), .val (.int p1), .val (.int p2), .val (.int p3), .val (.long p4), .second, .val (.long p5), .second, .val (.int (1 : Int32)), .val (.int v4), .val (.int v6), .val (.int v8), .val (.ref a10), .val (.ref a111), .unset, .unset, .unset, .unset, .unset] : Array Slot) = L115
    refine own_pre (T' := T111) (g' := (mkF m 189 L115 [(.int (1 : Int32))])) (fun t k => XS.iload X111.here hx rfl (v := (1 : Int32)) (hb hby at_187) (by rw [← hL115]; rfl) k) ?_
    have F116 : own_Ary Z h111 a10 .double [(.double f16), (.double f21), (.double f26), (.double f31), (.double f36), (.double f41), (.double f46), (.double f51), (.double f56), (.double f61), (.double f66), (.double f71)] := (F73.ext E111)
    have F117 : n0 ≤ h111.size := (Nat.le_trans F110 E111.1)
    refine own_newarr X111 hx hZ (aty := .double) (hw _ (List.mem_of_getElem? (i := 0) rfl)) e111 (hb hby at_189) (n := 1) (by decide) (by decide) (by decide) (by decide) (by decide) (ad := "[D") rfl ?_
    intro T118 h118 a118 g118 X118 e118 E118 A118 B118
    have lt119 : a10 < a118 := Nat.lt_of_lt_of_le F116.lt (Nat.le_of_eq g118.symm)
    have lt120 : a111 < a118 := Nat.lt_of_lt_of_le F114.lt (Nat.le_of_eq g118.symm)
    have nw121 : n0 ≤ a118 := Nat.le_trans F117 (Nat.le_of_eq g118.symm)
    have F122 : own_Ary Z h118 a118 .double [(.double (0 : UInt64))] := A118
    show own_Go _ _ _ _ _ _ _ T118 (mkF m 191 L115 [(.ref a118)])
    refine own_pre (T' := T118) (g' := (mkF m 193 #[.val (.int p0), .val (.int p1), .val (.int p2), .val (.int p3), .val (.long p4), .second, .val (.long p5), .second, .val (.int (1 : Int32)), .val (.int v4), .val (.int v6), .val (.int v8), .val (.ref a10), .val (.ref a111), .val (.ref a118), .unset, .unset, .unset, .unset] [])) (fun t k => XS.astore X118.here hx rfl (hb hby at_191) rfl rfl (l' := #[.val (.int p0), .val (.int p1), .val (.int p2), .val (.int p3), .val (.long p4), .second, .val (.long p5), .second, .val (.int (1 : Int32)), .val (.int v4), .val (.int v6), .val (.int v8), .val (.ref a10), .val (.ref a111), .val (.ref a118), .unset, .unset, .unset, .unset]) (by rw [← hL115]; rfl) k) ?_
    generalize hL123 : (#[.val (.int p0), .val (.int p1), .val (.int p2), .val (.int p3), .val (.long p4), .second, .val (.long p5), .second, .val (.int (1 : Int32)), .val (.int v4), .val (.int v6), .val (.int v8), .val (.ref a10), .val (.ref a111), .val (.ref a118), .unset, .unset, .unset, .unset] : Array Slot) = L123
    refine own_pre (T' := T118) (g' := (mkF m 194 L123 [(.long (0 : Int64))])) (fun t k => XT.lconst X118.here hx rfl (hb hby at_193) k) ?_
    refine own_pre (T' := T118) (g' := (mkF m 196 #[.val (.int p0), .val (.int p1), .val (.int p2), .val (.int p3), .val (.long p4), .second, .val (.long p5), .second, .val (.int (1 : Int32)), .val (.int v4), .val (.int v6), .val (.int v8), .val (.ref a10), .val (.ref a111), .val (.ref a118), .val (.long (0 : Int64)), .second, .unset, .unset] [])) (fun t k => XT.lstore X118.here hx rfl (hb hby at_194) rfl (l' := #[.val (.int p0), .val (.int p1), .val (.int p2), .val (.int p3), .val (.long p4), .second, .val (.long p5), .second, .val (.int (1 : Int32)), .val (.int v4), .val (.int v6), .val (.int v8), .val (.ref a10), .val (.ref a111), .val (.ref a118), .val (.long (0 : Int64)), .second, .unset, .unset]) (by rw [← hL123]; rfl) k) ?_
    generalize hL124 : (#[.val (.int p0), .val (.int p1), .val (.int p2), .val (.int p3), .val (.long p4), .second, .val (.long p5), .second, .val (.int (1 : Int32)), .val (.int v4), .val (.int v6), .val (.int v8), .val (.ref a10), .val (.ref a111), .val (.ref a118), .val (.long (0 : Int64)), .second, .unset, .unset] : Array Slot) = L124
    refine own_pre (T' := T118) (g' := (mkF m 198 L124 [(.int (1 : Int32))])) (fun t k => XS.iload X118.here hx rfl (v := (1 : Int32)) (hb hby at_196) (by rw [← hL124]; rfl) k) ?_
    refine own_pre (T' := T118) (g' := (mkF m 199 L124 [(.int (1 : Int32)), (.int (1 : Int32))])) (fun t k => XS.iconst X118.here hx rfl (hb hby at_198) k) ?_
    refine own_pre (T' := T118) (g' := (mkF m 202 L124 [])) (fun t k => XS.icmpNo X118.here hx rfl (hb hby at_199) rfl (by decide) k) ?_
    refine own_pre (T' := T118) (g' := (mkF m 204 L124 [(.ref a111)])) (fun t k => XS.aload X118.here hx rfl (v := (.ref a111)) (hb hby at_202) (by rw [← hL124]; rfl) rfl k) ?_
    refine own_pre (T' := T118) (g' := (mkF m 205 L124 [(.int (0 : Int32)), (.ref a111)])) (fun t k => XS.iconst X118.here hx rfl (hb hby at_204) k) ?_
    refine own_pre (T' := T118) (g' := (mkF m 207 L124 [(.int v4), (.int (0 : Int32)), (.ref a111)])) (fun t k => XS.iload X118.here hx rfl (v := v4) (hb hby at_205) (by rw [← hL124]; rfl) k) ?_
    have F125 : own_Ary Z h118 a111 .int [(.int (0 : Int32))] := (F114.ext E118)
    refine own_iastore X118 hx hZ e118 N72 nw113 F125 (hb hby at_207) (n := 0) (by decide) (by decide) (by show 0 < 1; decide) ?_
    intro T126 h126 lo126 X126 e126 N126 W126
    have F127 : own_Ary Z h126 a111 .int [(.int v4)] := F125.set W126
    show own_Go _ _ _ _ _ _ _ T126 (mkF m 208 L124 [])
    refine own_pre (T' := T126) (g' := (mkF m 210 L124 [(.ref a118)])) (fun t k => XS.aload X126.here hx rfl (v := (.ref a118)) (hb hby at_208) (by rw [← hL124]; rfl) rfl k) ?_
    refine own_pre (T' := T126) (g' := (mkF m 211 L124 [(.int (0 : Int32)), (.ref a118)])) (fun t k => XS.iconst X126.here hx rfl (hb hby at_210) k) ?_
    refine own_pre (T' := T126) (g' := (mkF m 212 L124 [(.int p1), (.int (0 : Int32)), (.ref a118)])) (fun t k => XS.iloadN X126.here hx rfl (v := p1) (hb hby at_211) (by rw [← hL124]; rfl) k) ?_
    obtain ⟨f128, hf128⟩ : ∃ z, FP.i2d p1 = z := ⟨_, rfl⟩
    refine own_pre (T' := T126) (g' := (mkF m 213 L124 [(.double f128), (.int (0 : Int32)), (.ref a118)])) (fun t k => XS.i2dS X126.here hx rfl (hb hby at_212) rfl hf128 k) ?_
    have Df128 : Jvm.FP.Core.DInt p1.toInt f128 := hf128 ▸ Jvm.FP.Core.i2d_int _
    have F129 : own_Ary Z h126 a118 .double [(.double (0 : UInt64))] := (F122.other W126 (Nat.ne_of_gt lt120))
    refine own_dastore X126 hx hZ e126 N126 nw121 F129 (hb hby at_213) (n := 0) (by decide) (by decide) (by show 0 < 1; decide) ?_
    intro T130 h130 lo130 X130 e130 N130 W130
    have F131 : own_Ary Z h130 a118 .double [(.double f128)] := F129.set W130
    show own_Go _ _ _ _ _ _ _ T130 (mkF m 214 L124 [])
    refine own_pre (T' := T130) (g' := (mkF m 216 L124 [(.long (0 : Int64))])) (fun t k => XT.lload X130.here hx rfl (v := (0 : Int64)) (hb hby at_214) (by rw [← hL124]; rfl) k) ?_
    refine own_pre (T' := T130) (g' := (mkF m 217 L124 [(.int p1), (.long (0 : Int64))])) (fun t k => XS.iloadN X130.here hx rfl (v := p1) (hb hby at_216) (by rw [← hL124]; rfl) k) ?_
    refine own_pre (T' := T130) (g' := (mkF m 218 L124 [(.long p1.toInt64), (.long (0 : Int64))])) (fun t k => XT.i2l X130.here hx rfl (hb hby at_217) rfl k) ?_
    refine own_pre (T' := T130) (g' := (mkF m 220 L124 [(.long p4), (.long p1.toInt64), (.long (0 : Int64))])) (fun t k => XT.lload X130.here hx rfl (v := p4) (hb hby at_218) (by rw [← hL124]; rfl) k) ?_
    refine own_pre (T' := T130) (g' := (mkF m 222 L124 [(.long p5), (.long p4), (.long p1.toInt64), (.long (0 : Int64))])) (fun t k => XT.lload X130.here hx rfl (v := p5) (hb hby at_220) (by rw [← hL124]; rfl) k) ?_
    refine own_pre (T' := T130) (g' := (mkF m 224 L124 [(.int v4), (.long p5), (.long p4), (.long p1.toInt64), (.long (0 : Int64))])) (fun t k => XS.iload X130.here hx rfl (v := v4) (hb hby at_222) (by rw [← hL124]; rfl) k) ?_
    have F132 : n0 ≤ h130.size := (Nat.le_trans (Nat.le_trans (Nat.le_trans F117 E118.1) (Nat.le_of_eq W126.size.symm)) (Nat.le_of_eq W130.size.symm))
    refine own_calls (argsL := [(.long p4), (.long p5), (.int v4)]) (rest := [(.long p1.toInt64), (.long (0 : Int64))]) X130 hx hZ hown (own_entAtT l Z a0 hw [] p4 p5 v4 h130 n0 F132) (hw _ (List.mem_of_getElem? (i := 26) rfl)) (hw _ (List.mem_of_getElem? (i := 27) rfl)) (hw _ (List.mem_of_getElem? (i := 28) rfl)) (hw _ (List.mem_of_getElem? (i := 3) rfl)) (by decide) e130 (hb hby at_224) (by rw [hml, ← hL124]; rfl) rfl (lenOf own_pd3 rfl) (by decide) (W := 4) (Nat.le_of_eq rfl) (by decide) (by decide) (by decide) ?_
    intro v133 T133 lo133 X133 Q133
    obtain ⟨h133, e133⟩ : ∃ h, T133.heap = h := ⟨_, rfl⟩
    rw [e133] at Q133
    obtain ⟨rfl, N133, q133⟩ := Q133
    have N133' := Fr.app N130 N133
    have e133' : T133.heap = h130 := e133.trans q133
    show own_Go _ _ _ _ _ _ _ T133 (mkF m 227 L124 [(.long (own_entAt p4 p5 v4)), (.long p1.toInt64), (.long (0 : Int64))])
    refine own_pre (T' := T133) (g' := (mkF m 228 L124 [(.long (p1.toInt64 * (own_entAt p4 p5 v4))), (.long (0 : Int64))])) (fun t k => XT.lmul X133.here hx rfl (hb hby at_227) rfl k) ?_
    refine own_pre (T' := T133) (g' := (mkF m 229 L124 [(.long ((0 : Int64) + (p1.toInt64 * (own_entAt p4 p5 v4))))])) (fun t k => XT.ladd X133.here hx rfl (hb hby at_228) rfl k) ?_
    generalize hv134 : (0 : Int64) + (p1.toInt64 * (own_entAt p4 p5 v4)) = v134
    refine own_pre (T' := T133) (g' := (mkF m 231 #[.val (.int p0), .val (.int p1), .val (.int p2), .val (.int p3), .val (.long p4), .second, .val (.long p5), .second, .val (.int (1 : Int32)), .val (.int v4), .val (.int v6), .val (.int v8), .val (.ref a10), .val (.ref a111), .val (.ref a118), .val (.long v134), .second, .unset, .unset] [])) (fun t k => XT.lstore X133.here hx rfl (hb hby at_229) rfl (l' := #[.val (.int p0), .val (.int p1), .val (.int p2), .val (.int p3), .val (.long p4), .second, .val (.long p5), .second, .val (.int (1 : Int32)), .val (.int v4), .val (.int v6), .val (.int v8), .val (.ref a10), .val (.ref a111), .val (.ref a118), .val (.long v134), .second, .unset, .unset]) (by rw [← hL124]; rfl) k) ?_
    generalize hL135 : (#[.val (.int p0), .val (.int p1), .val (.int p2), .val (.int p3), .val (.long p4), .second, .val (.long p5), .second, .val (.int (1 : Int32)), .val (.int v4), .val (.int v6), .val (.int v8), .val (.ref a10), .val (.ref a111), .val (.ref a118), .val (.long v134), .second, .unset, .unset] : Array Slot) = L135
    refine own_pre (T' := T133) (g' := (mkF m 233 L135 [(.int (1 : Int32))])) (fun t k => XS.iload X133.here hx rfl (v := (1 : Int32)) (hb hby at_231) (by rw [← hL135]; rfl) k) ?_
    refine own_pre (T' := T133) (g' := (mkF m 234 L135 [(.int (2 : Int32)), (.int (1 : Int32))])) (fun t k => XS.iconst X133.here hx rfl (hb hby at_233) k) ?_
    refine own_pre (T' := T133) (g' := (mkF m 266 L135 [])) (fun t k => XS.icmpYes X133.here hx rfl (pc0 := 234) (pc' := 266) rfl (hb hby at_234) rfl (by decide) (by decide) (by decide) k) ?_
    refine own_pre (T' := T133) (g' := (mkF m 268 L135 [(.int (1 : Int32))])) (fun t k => XS.iload X133.here hx rfl (v := (1 : Int32)) (hb hby at_266) (by rw [← hL135]; rfl) k) ?_
    refine own_pre (T' := T133) (g' := (mkF m 269 L135 [(.int (3 : Int32)), (.int (1 : Int32))])) (fun t k => XS.iconst X133.here hx rfl (hb hby at_268) k) ?_
    refine own_pre (T' := T133) (g' := (mkF m 301 L135 [])) (fun t k => XS.icmpYes X133.here hx rfl (pc0 := 269) (pc' := 301) rfl (hb hby at_269) rfl (by decide) (by decide) (by decide) k) ?_
    have F136 : own_Ary Z h130 a10 .double [(.double f16), (.double f21), (.double f26), (.double f31), (.double f36), (.double f41), (.double f46), (.double f51), (.double f56), (.double f61), (.double f66), (.double f71)] := (((F116.ext E118).other W126 (Nat.ne_of_lt lt112)).other W130 (Nat.ne_of_lt lt119))
    have F137 : own_Ary Z h130 a111 .int [(.int v4)] := (F127.other W130 (Nat.ne_of_lt lt120))
    refine own_newobj X133 hx hZ hown (hw _ (List.mem_of_getElem? (i := 8) rfl)) (hw _ (List.mem_of_getElem? (i := 9) rfl)) (hw _ (List.mem_of_getElem? (i := 10) rfl)) e133' (hb hby at_301) (by decide) (by decide) ?_
    intro T138 h138 a138 g138 X138 e138 E138 A138 D138
    have lt139 : a10 < a138 := Nat.lt_of_lt_of_le F136.lt (Nat.le_of_eq g138.symm)
    have lt140 : a111 < a138 := Nat.lt_of_lt_of_le F137.lt (Nat.le_of_eq g138.symm)
    have lt141 : a118 < a138 := Nat.lt_of_lt_of_le F131.lt (Nat.le_of_eq g138.symm)
    have nw142 : n0 ≤ a138 := Nat.le_trans F132 (Nat.le_of_eq g138.symm)
    have F143 : Fld Z h138 a138 "com/example/galicia/galicia/lime/SparseVector" "positions" "[I" .null := D138 (Or.inr (hw _ (List.mem_of_getElem? (i := 18) rfl))) (ty := (.array .int)) (by decide)
    have F144 : Fld Z h138 a138 "com/example/galicia/galicia/lime/SparseVector" "values" "[D" .null := D138 (Or.inr (hw _ (List.mem_of_getElem? (i := 20) rfl))) (ty := (.array .double)) (by decide)
    show own_Go _ _ _ _ _ _ _ T138 (mkF m 304 L135 [(.ref a138)])
    refine own_pre (T' := T138) (g' := (mkF m 305 L135 [(.ref a138), (.ref a138)])) (fun t k => XS.dup X138.here hx rfl (hb hby at_304) rfl rfl k) ?_
    refine own_pre (T' := T138) (g' := (mkF m 307 L135 [(.ref a111), (.ref a138), (.ref a138)])) (fun t k => XS.aload X138.here hx rfl (v := (.ref a111)) (hb hby at_305) (by rw [← hL135]; rfl) rfl k) ?_
    refine own_pre (T' := T138) (g' := (mkF m 309 L135 [(.ref a118), (.ref a111), (.ref a138), (.ref a138)])) (fun t k => XS.aload X138.here hx rfl (v := (.ref a118)) (hb hby at_307) (by rw [← hL135]; rfl) rfl k) ?_
    have F145 : n0 ≤ h138.size := (Nat.le_trans F132 E138.1)
    refine own_init (a := a138) (argsL := [(.ref a111), (.ref a118)]) (rest := [(.ref a138)]) X138 hx hZ hown (own_svinit l Z a0 hw [] a138 a111 a118 h138 n0 F145 A138 F143 F144 nw142) rfl (hw _ (List.mem_of_getElem? (i := 11) rfl)) (hw _ (List.mem_of_getElem? (i := 12) rfl)) (hw _ (List.mem_of_getElem? (i := 13) rfl)) (hw _ (List.mem_of_getElem? (i := 10) rfl)) (by decide) e138 (hb hby at_309) (by rw [hml, ← hL135]; rfl) rfl (lenOf own_pd1 rfl) (by decide) (W := 1) (Nat.le_of_eq rfl) (by decide) (by decide) (by decide) ?_
    intro v146 T146 lo146 X146 Q146
    obtain ⟨h146, e146⟩ : ∃ h, T146.heap = h := ⟨_, rfl⟩
    rw [e146] at Q146
    obtain ⟨rfl, N146, K146, G1146, G2146⟩ := Q146
    have N146' := Fr.app N133' N146
    show own_Go _ _ _ _ _ _ _ T146 (mkF m 312 L135 [(.ref a138)])
    refine own_pre (T' := T146) (g' := (mkF m 314 L135 [(.ref a10), (.ref a138)])) (fun t k => XS.aload X146.here hx rfl (v := (.ref a10)) (hb hby at_312) (by rw [← hL135]; rfl) rfl k) ?_
    have F147 : n0 ≤ h146.size := (Nat.le_trans F145 K146.1)
    have F148 : own_Ary Z h146 a111 .int [(.int v4)] := ((F137.ext E138).keep K146 (ninS (Nat.ne_of_lt lt140) nin0))
    have F149 : own_Ary Z h146 a118 .double [(.double f128)] := ((F131.ext E138).keep K146 (ninS (Nat.ne_of_lt lt141) nin0))
    have F150 : own_Ary Z h146 a10 .double [(.double f16), (.double f21), (.double f26), (.double f31), (.double f36), (.double f41), (.double f46), (.double f51), (.double f56), (.double f61), (.double f66), (.double f71)] := ((F136.ext E138).keep K146 (ninS (Nat.ne_of_lt lt139) nin0))
    have F151 : Exa Z h146 a138 "com/example/galicia/galicia/lime/SparseVector" := (A138.keep K146)
    refine own_callv (a := a138) (argsL := [(.ref a10)]) (rest := []) X146 hx hZ hown (own_dot1 l Z a0 hw [] a138 a111 a118 a10 _ v4 f128 y0 p1.toInt (own_entAt p4 p5 v4).toInt h146 n0 F147 G1146 G2146 F148 F149 F150 hq0.1 hy0 Df128 DY0 hB0) F151 (hw _ (List.mem_of_getElem? (i := 21) rfl)) (hw _ (List.mem_of_getElem? (i := 22) rfl)) (hw _ (List.mem_of_getElem? (i := 24) rfl)) (hw _ (List.mem_of_getElem? (i := 23) rfl)) (hw _ (List.mem_of_getElem? (i := 25) rfl)) (hw _ (List.mem_of_getElem? (i := 10) rfl)) (by decide) e146 (hb hby at_314) (by rw [hml, ← hL135]; rfl) rfl (lenOf own_pd2 rfl) (by decide) (W := 0) (Nat.le_of_eq rfl) (by decide) (by decide) (by decide) ?_
    intro v152 T152 lo152 X152 Q152
    obtain ⟨h152, e152⟩ : ∃ h, T152.heap = h := ⟨_, rfl⟩
    rw [e152] at Q152
    obtain ⟨r152, rfl, DR152, N152, q152⟩ := Q152
    have N152' := Fr.app N146' N152
    have e152' : T152.heap = h146 := e152.trans q152
    show own_Go _ _ _ _ _ _ _ T152 (mkF m 317 L135 [(.double r152)])
    refine own_pre (T' := T152) (g' := (mkF m 319 #[.val (.int p0), .val (.int p1), .val (.int p2), .val (.int p3), .val (.long p4), .second, .val (.long p5), .second, .val (.int (1 : Int32)), .val (.int v4), .val (.int v6), .val (.int v8), .val (.ref a10), .val (.ref a111), .val (.ref a118), .val (.long v134), .second, .val (.double r152), .second] [])) (fun t k => XS.dstore X152.here hx rfl (hb hby at_317) rfl (l' := #[.val (.int p0), .val (.int p1), .val (.int p2), .val (.int p3), .val (.long p4), .second, .val (.long p5), .second, .val (.int (1 : Int32)), .val (.int v4), .val (.int v6), .val (.int v8), .val (.ref a10), .val (.ref a111), .val (.ref a118), .val (.long v134), .second, .val (.double r152), .second]) (by rw [← hL135]; rfl) k) ?_
    generalize hL153 : (#[.val (.int p0), .val (.int p1), .val (.int p2), .val (.int p3), .val (.long p4), .second, .val (.long p5), .second, .val (.int (1 : Int32)), .val (.int v4), .val (.int v6), .val (.int v8), .val (.ref a10), .val (.ref a111), .val (.ref a118), .val (.long v134), .second, .val (.double r152), .second] : Array Slot) = L153
    refine own_pre (T' := T152) (g' := (mkF m 321 L153 [(.double r152)])) (fun t k => XS.dload X152.here hx rfl (v := r152) (hb hby at_319) (by rw [← hL153]; rfl) k) ?_
    refine own_pre (T' := T152) (g' := (mkF m 323 L153 [(.long v134), (.double r152)])) (fun t k => XT.lload X152.here hx rfl (v := v134) (hb hby at_321) (by rw [← hL153]; rfl) k) ?_
    obtain ⟨f154, hf154⟩ : ∃ z, FP.l2d v134 = z := ⟨_, rfl⟩
    refine own_pre (T' := T152) (g' := (mkF m 324 L153 [(.double f154), (.double r152)])) (fun t k => XS.l2dS X152.here hx rfl (hb hby at_323) rfl hf154 k) ?_
    have hX : v134.toInt = (0 + (p1.toInt * (own_entAt p4 p5 v4).toInt)) := own_exp1 hB0 hv134
    have Df154 : Jvm.FP.Core.DInt v134.toInt f154 := hf154 ▸ Jvm.FP.Core.l2d_int (by rw [hX]; omega)
    obtain ⟨k155, hk155⟩ : ∃ z, own_c (0 + (p1.toInt * (own_entAt p4 p5 v4).toInt)) v134.toInt = z := ⟨_, rfl⟩
    refine own_pre (T' := T152) (g' := (mkF m 325 L153 [(.int k155)])) (fun t k => XS.dcmpS X152.here hx rfl (hb hby at_324) rfl ((own_dcmp DR152 Df154 _).trans hk155) k) ?_
    have hk0 : k155 = (0 : Int32) := by rw [← hk155, own_c_eq, hX]
    refine own_pre (T' := T152) (g' := (mkF m 328 L153 [])) (fun t k => XS.ifNo X152.here hx rfl (hb hby at_325) rfl ((if0 _ _).trans (teq hk0).2) k) ?_
    refine own_pre (T' := T152) (g' := (mkF m 329 L153 [(.int (1 : Int32))])) (fun t k => XS.iconst X152.here hx rfl (hb hby at_328) k) ?_
    refine own_pre (T' := T152) (g' := (mkF m 333 L153 [(.int (1 : Int32))])) (fun t k => XS.goto X152.here hx rfl (pc0 := 329) (pc' := 333) rfl (hb hby at_329) (by decide) (by decide) k) ?_
    exact own_retZ X152 hx hlk hret rfl (hb hby at_333) e152' ⟨rfl, N152'⟩ (by decide) (by decide)
  · skip
    subst hc
    obtain ⟨y0, hy0, DY0⟩ := hpick v4 hq0
    have hB0 := own_prod p1 (own_eAb p4 p5 v4)
    obtain ⟨y1, hy1, DY1⟩ := hpick v6 hq1
    have hB1 := own_prod p2 (own_eAb p4 p5 v6)
    show own_Go _ _ _ _ _ _ _ T72 (mkF m 181 L13 [])
    refine own_pre (T' := T72) (g' := (mkF m 183 L13 [(.int (2 : Int32))])) (fun t k => XS.iload X72.here hx rfl (v := (2 : Int32)) (hb hby at_181) (by rw [← hL13]; rfl) k) ?_
    have F156 : n0 ≤ h72.size := (Nat.le_trans F69 (Nat.le_of_eq W72.size.symm))
    refine own_newarr X72 hx hZ (aty := .int) (hw _ (List.mem_of_getElem? (i := 7) rfl)) e72 (hb hby at_183) (n := 2) (by decide) (by decide) (by decide) (by decide) (by decide) (ad := "[I") rfl ?_
    intro T157 h157 a157 g157 X157 e157 E157 A157 B157
    have lt158 : a10 < a157 := Nat.lt_of_lt_of_le F73.lt (Nat.le_of_eq g157.symm)
    have nw159 : n0 ≤ a157 := Nat.le_trans F156 (Nat.le_of_eq g157.symm)
    have F160 : own_Ary Z h157 a157 .int [(.int (0 : Int32)), (.int (0 : Int32))] := A157
    show own_Go _ _ _ _ _ _ _ T157 (mkF m 185 L13 [(.ref a157)])
    refine own_pre (T' := T157) (g' := (mkF m 187 #[.val (.int p0), .val (.int p1), .val (.int p2), .val (.int p3), .val (.long p4), .second, .val (.long p5), .second, .val (.int (2 : Int32)), .val (.int v4), .val (.int v6), .val (.int v8), .val (.ref a10), .val (.ref a157), .unset, .unset, .unset, .unset, .unset] [])) (fun t k => XS.astore X157.here hx rfl (hb hby at_185) rfl rfl (l' := #[.val (.int p0), .val (.int p1), .val (.int p2), .val (.int p3), .val (.long p4), .second, .val (.long p5), .second, .val (.int (2 : Int32)), .val (.int v4), .val (.int v6), .val (.int v8), .val (.ref a10), .val (.ref a157), .unset, .unset, .unset, .unset, .unset]) (by rw [← hL13]; rfl) k) ?_
    generalize hL161 : (#[.val (.int p0), .val (.int p1), .val (.int p2), .val (.int p3), .val (.long p4), .second, .val (.long p5), .second, .val (.int (2 : Int32)), .val (.int v4), .val (.int v6), .val (.int v8), .val (.ref a10), .val (.ref a157), .unset, .unset, .unset, .unset, .unset] : Array Slot) = L161
    refine own_pre (T' := T157) (g' := (mkF m 189 L161 [(.int (2 : Int32))])) (fun t k => XS.iload X157.here hx rfl (v := (2 : Int32)) (hb hby at_187) (by rw [← hL161]; rfl) k) ?_
    have F162 : own_Ary Z h157 a10 .double [(.double f16), (.double f21), (.double f26), (.double f31), (.double f36), (.double f41), (.double f46), (.double f51), (.double f56), (.double f61), (.double f66), (.double f71)] := (F73.ext E157)
    have F163 : n0 ≤ h157.size := (Nat.le_trans F156 E157.1)
    refine own_newarr X157 hx hZ (aty := .double) (hw _ (List.mem_of_getElem? (i := 0) rfl)) e157 (hb hby at_189) (n := 2) (by decide) (by decide) (by decide) (by decide) (by decide) (ad := "[D") rfl ?_
    intro T164 h164 a164 g164 X164 e164 E164 A164 B164
    have lt165 : a10 < a164 := Nat.lt_of_lt_of_le F162.lt (Nat.le_of_eq g164.symm)
    have lt166 : a157 < a164 := Nat.lt_of_lt_of_le F160.lt (Nat.le_of_eq g164.symm)
    have nw167 : n0 ≤ a164 := Nat.le_trans F163 (Nat.le_of_eq g164.symm)
    have F168 : own_Ary Z h164 a164 .double [(.double (0 : UInt64)), (.double (0 : UInt64))] := A164
    show own_Go _ _ _ _ _ _ _ T164 (mkF m 191 L161 [(.ref a164)])
    refine own_pre (T' := T164) (g' := (mkF m 193 #[.val (.int p0), .val (.int p1), .val (.int p2), .val (.int p3), .val (.long p4), .second, .val (.long p5), .second, .val (.int (2 : Int32)), .val (.int v4), .val (.int v6), .val (.int v8), .val (.ref a10), .val (.ref a157), .val (.ref a164), .unset, .unset, .unset, .unset] [])) (fun t k => XS.astore X164.here hx rfl (hb hby at_191) rfl rfl (l' := #[.val (.int p0), .val (.int p1), .val (.int p2), .val (.int p3), .val (.long p4), .second, .val (.long p5), .second, .val (.int (2 : Int32)), .val (.int v4), .val (.int v6), .val (.int v8), .val (.ref a10), .val (.ref a157), .val (.ref a164), .unset, .unset, .unset, .unset]) (by rw [← hL161]; rfl) k) ?_
    generalize hL169 : (#[.val (.int p0), .val (.int p1), .val (.int p2), .val (.int p3), .val (.long p4), .second, .val (.long p5), .second, .val (.int (2 : Int32)), .val (.int v4), .val (.int v6), .val (.int v8), .val (.ref a10), .val (.ref a157), .val (.ref a164), .unset, .unset, .unset, .unset] : Array Slot) = L169
    refine own_pre (T' := T164) (g' := (mkF m 194 L169 [(.long (0 : Int64))])) (fun t k => XT.lconst X164.here hx rfl (hb hby at_193) k) ?_
    refine own_pre (T' := T164) (g' := (mkF m 196 #[.val (.int p0), .val (.int p1), .val (.int p2), .val (.int p3), .val (.long p4), .second, .val (.long p5), .second, .val (.int (2 : Int32)), .val (.int v4), .val (.int v6), .val (.int v8), .val (.ref a10), .val (.ref a157), .val (.ref a164), .val (.long (0 : Int64)), .second, .unset, .unset] [])) (fun t k => XT.lstore X164.here hx rfl (hb hby at_194) rfl (l' := #[.val (.int p0), .val (.int p1), .val (.int p2), .val (.int p3), .val (.long p4), .second, .val (.long p5), .second, .val (.int (2 : Int32)), .val (.int v4), .val (.int v6), .val (.int v8), .val (.ref a10), .val (.ref a157), .val (.ref a164), .val (.long (0 : Int64)), .second, .unset, .unset]) (by rw [← hL169]; rfl) k) ?_
    generalize hL170 : (#[.val (.int p0), .val (.int p1), .val (.int p2), .val (.int p3), .val (.long p4), .second, .val (.long p5), .second, .val (.int (2 : Int32)), .val (.int v4), .val (.int v6), .val (.int v8), .val (.ref a10), .val (.ref a157), .val (.ref a164), .val (.long (0 : Int64)), .second, .unset, .unset] : Array Slot) = L170
    refine own_pre (T' := T164) (g' := (mkF m 198 L170 [(.int (2 : Int32))])) (fun t k => XS.iload X164.here hx rfl (v := (2 : Int32)) (hb hby at_196) (by rw [← hL170]; rfl) k) ?_
    refine own_pre (T' := T164) (g' := (mkF m 199 L170 [(.int (1 : Int32)), (.int (2 : Int32))])) (fun t k => XS.iconst X164.here hx rfl (hb hby at_198) k) ?_
    refine own_pre (T' := T164) (g' := (mkF m 202 L170 [])) (fun t k => XS.icmpNo X164.here hx rfl (hb hby at_199) rfl (by decide) k) ?_
    refine own_pre (T' := T164) (g' := (mkF m 204 L170 [(.ref a157)])) (fun t k => XS.aload X164.here hx rfl (v := (.ref a157)) (hb hby at_202) (by rw [← hL170]; rfl) rfl k) ?_
    refine own_pre (T' := T164) (g' := (mkF m 205 L170 [(.int (0 : Int32)), (.ref a157)])) (fun t k => XS.iconst X164.here hx rfl (hb hby at_204) k) ?_
    refine own_pre (T' := T164) (g' := (mkF m 207 L170 [(.int v4), (.int (0 : Int32)), (.ref a157)])) (fun t k => XS.iload X164.here hx rfl (v := v4) (hb hby at_205) (by rw [← hL170]; rfl) k) ?_
    have F171 : own_Ary Z h164 a157 .int [(.int (0 : Int32)), (.int (0 : Int32))] := (F160.ext E164)
    refine own_iastore X164 hx hZ e164 N72 nw159 F171 (hb hby at_207) (n := 0) (by decide) (by decide) (by show 0 < 2; decide) ?_
    intro T172 h172 lo172 X172 e172 N172 W172
    have F173 : own_Ary Z h172 a157 .int [(.int v4), (.int (0 : Int32))] := F171.set W172
    show own_Go _ _ _ _ _ _ _ T172 (mkF m 208 L170 [])
    refine own_pre (T' := T172) (g' := (mkF m 210 L170 [(.ref a164)])) (fun t k => XS.aload X172.here hx rfl (v := (.ref a164)) (hb hby at_208) (by rw [← hL170]; rfl) rfl k) ?_
    refine own_pre (T' := T172) (g' := (mkF m 211 L170 [(.int (0 : Int32)), (.ref a164)])) (fun t k => XS.iconst X172.here hx rfl (hb hby at_210) k) ?_
    refine own_pre (T' := T172) (g' := (mkF m 212 L170 [(.int p1), (.int (0 : Int32)), (.ref a164)])) (fun t k => XS.iloadN X172.here hx rfl (v := p1) (hb hby at_211) (by rw [← hL170]; rfl) k) ?_
    obtain ⟨f174, hf174⟩ : ∃ z, FP.i2d p1 = z := ⟨_, rfl⟩
    refine own_pre (T' := T172) (g' := (mkF m 213 L170 [(.double f174), (.int (0 : Int32)), (.ref a164)])) (fun t k => XS.i2dS X172.here hx rfl (hb hby at_212) rfl hf174 k) ?_
    have Df174 : Jvm.FP.Core.DInt p1.toInt f174 := hf174 ▸ Jvm.FP.Core.i2d_int _
    have F175 : own_Ary Z h172 a164 .double [(.double (0 : UInt64)), (.double (0 : UInt64))] := (F168.other W172 (Nat.ne_of_gt lt166))
    refine own_dastore X172 hx hZ e172 N172 nw167 F175 (hb hby at_213) (n := 0) (by decide) (by decide) (by show 0 < 2; decide) ?_
    intro T176 h176 lo176 X176 e176 N176 W176
    have F177 : own_Ary Z h176 a164 .double [(.double f174), (.double (0 : UInt64))] := F175.set W176
    show own_Go _ _ _ _ _ _ _ T176 (mkF m 214 L170 [])
    refine own_pre (T' := T176) (g' := (mkF m 216 L170 [(.long (0 : Int64))])) (fun t k => XT.lload X176.here hx rfl (v := (0 : Int64)) (hb hby at_214) (by rw [← hL170]; rfl) k) ?_
    refine own_pre (T' := T176) (g' := (mkF m 217 L170 [(.int p1), (.long (0 : Int64))])) (fun t k => XS.iloadN X176.here hx rfl (v := p1) (hb hby at_216) (by rw [← hL170]; rfl) k) ?_
    refine own_pre (T' := T176) (g' := (mkF m 218 L170 [(.long p1.toInt64), (.long (0 : Int64))])) (fun t k => XT.i2l X176.here hx rfl (hb hby at_217) rfl k) ?_
    refine own_pre (T' := T176) (g' := (mkF m 220 L170 [(.long p4), (.long p1.toInt64), (.long (0 : Int64))])) (fun t k => XT.lload X176.here hx rfl (v := p4) (hb hby at_218) (by rw [← hL170]; rfl) k) ?_
    refine own_pre (T' := T176) (g' := (mkF m 222 L170 [(.long p5), (.long p4), (.long p1.toInt64), (.long (0 : Int64))])) (fun t k => XT.lload X176.here hx rfl (v := p5) (hb hby at_220) (by rw [← hL170]; rfl) k) ?_
    refine own_pre (T' := T176) (g' := (mkF m 224 L170 [(.int v4), (.long p5), (.long p4), (.long p1.toInt64), (.long (0 : Int64))])) (fun t k => XS.iload X176.here hx rfl (v := v4) (hb hby at_222) (by rw [← hL170]; rfl) k) ?_
    have F178 : n0 ≤ h176.size := (Nat.le_trans (Nat.le_trans (Nat.le_trans F163 E164.1) (Nat.le_of_eq W172.size.symm)) (Nat.le_of_eq W176.size.symm))
    refine own_calls (argsL := [(.long p4), (.long p5), (.int v4)]) (rest := [(.long p1.toInt64), (.long (0 : Int64))]) X176 hx hZ hown (own_entAtT l Z a0 hw [] p4 p5 v4 h176 n0 F178) (hw _ (List.mem_of_getElem? (i := 26) rfl)) (hw _ (List.mem_of_getElem? (i := 27) rfl)) (hw _ (List.mem_of_getElem? (i := 28) rfl)) (hw _ (List.mem_of_getElem? (i := 3) rfl)) (by decide) e176 (hb hby at_224) (by rw [hml, ← hL170]; rfl) rfl (lenOf own_pd3 rfl) (by decide) (W := 4) (Nat.le_of_eq rfl) (by decide) (by decide) (by decide) ?_
    intro v179 T179 lo179 X179 Q179
    obtain ⟨h179, e179⟩ : ∃ h, T179.heap = h := ⟨_, rfl⟩
    rw [e179] at Q179
    obtain ⟨rfl, N179, q179⟩ := Q179
    have N179' := Fr.app N176 N179
    have e179' : T179.heap = h176 := e179.trans q179
    show own_Go _ _ _ _ _ _ _ T179 (mkF m 227 L170 [(.long (own_entAt p4 p5 v4)), (.long p1.toInt64), (.long (0 : Int64))])
    refine own_pre (T' := T179) (g' := (mkF m 228 L170 [(.long (p1.toInt64 * (own_entAt p4 p5 v4))), (.long (0 : Int64))])) (fun t k => XT.lmul X179.here hx rfl (hb hby at_227) rfl k) ?_
    refine own_pre (T' := T179) (g' := (mkF m 229 L170 [(.long ((0 : Int64) + (p1.toInt64 * (own_entAt p4 p5 v4))))])) (fun t k => XT.ladd X179.here hx rfl (hb hby at_228) rfl k) ?_
    generalize hv180 : (0 : Int64) + (p1.toInt64 * (own_entAt p4 p5 v4)) = v180
    refine own_pre (T' := T179) (g' := (mkF m 231 #[.val (.int p0), .val (.int p1), .val (.int p2), .val (.int p3), .val (.long p4), .second, .val (.long p5), .second, .val (.int (2 : Int32)), .val (.int v4), .val (.int v6), .val (.int v8), .val (.ref a10), .val (.ref a157), .val (.ref a164), .val (.long v180), .second, .unset, .unset] [])) (fun t k => XT.lstore X179.here hx rfl (hb hby at_229) rfl (l' := #[.val (.int p0), .val (.int p1), .val (.int p2), .val (.int p3), .val (.long p4), .second, .val (.long p5), .second, .val (.int (2 : Int32)), .val (.int v4), .val (.int v6), .val (.int v8), .val (.ref a10), .val (.ref a157), .val (.ref a164), .val (.long v180), .second, .unset, .unset]) (by rw [← hL170]; rfl) k) ?_
    generalize hL181 : (#[.val (.int p0), .val (.int p1), .val (.int p2), .val (.int p3), .val (.long p4), .second, .val (.long p5), .second, .val (.int (2 : Int32)), .val (.int v4), .val (.int v6), .val (.int v8), .val (.ref a10), .val (.ref a157), .val (.ref a164), .val (.long v180), .second, .unset, .unset] : Array Slot) = L181
    refine own_pre (T' := T179) (g' := (mkF m 233 L181 [(.int (2 : Int32))])) (fun t k => XS.iload X179.here hx rfl (v := (2 : Int32)) (hb hby at_231) (by rw [← hL181]; rfl) k) ?_
    refine own_pre (T' := T179) (g' := (mkF m 234 L181 [(.int (2 : Int32)), (.int (2 : Int32))])) (fun t k => XS.iconst X179.here hx rfl (hb hby at_233) k) ?_
    refine own_pre (T' := T179) (g' := (mkF m 237 L181 [])) (fun t k => XS.icmpNo X179.here hx rfl (hb hby at_234) rfl (by decide) k) ?_
    refine own_pre (T' := T179) (g' := (mkF m 239 L181 [(.ref a157)])) (fun t k => XS.aload X179.here hx rfl (v := (.ref a157)) (hb hby at_237) (by rw [← hL181]; rfl) rfl k) ?_
    refine own_pre (T' := T179) (g' := (mkF m 240 L181 [(.int (1 : Int32)), (.ref a157)])) (fun t k => XS.iconst X179.here hx rfl (hb hby at_239) k) ?_
    refine own_pre (T' := T179) (g' := (mkF m 242 L181 [(.int v6), (.int (1 : Int32)), (.ref a157)])) (fun t k => XS.iload X179.here hx rfl (v := v6) (hb hby at_240) (by rw [← hL181]; rfl) k) ?_
    have F182 : own_Ary Z h176 a157 .int [(.int v4), (.int (0 : Int32))] := (F173.other W176 (Nat.ne_of_lt lt166))
    refine own_iastore X179 hx hZ e179' N179' nw159 F182 (hb hby at_242) (n := 1) (by decide) (by decide) (by show 1 < 2; decide) ?_
    intro T183 h183 lo183 X183 e183 N183 W183
    have F184 : own_Ary Z h183 a157 .int [(.int v4), (.int v6)] := F182.set W183
    show own_Go _ _ _ _ _ _ _ T183 (mkF m 243 L181 [])
    refine own_pre (T' := T183) (g' := (mkF m 245 L181 [(.ref a164)])) (fun t k => XS.aload X183.here hx rfl (v := (.ref a164)) (hb hby at_243) (by rw [← hL181]; rfl) rfl k) ?_
    refine own_pre (T' := T183) (g' := (mkF m 246 L181 [(.int (1 : Int32)), (.ref a164)])) (fun t k => XS.iconst X183.here hx rfl (hb hby at_245) k) ?_
    refine own_pre (T' := T183) (g' := (mkF m 247 L181 [(.int p2), (.int (1 : Int32)), (.ref a164)])) (fun t k => XS.iloadN X183.here hx rfl (v := p2) (hb hby at_246) (by rw [← hL181]; rfl) k) ?_
    obtain ⟨f185, hf185⟩ : ∃ z, FP.i2d p2 = z := ⟨_, rfl⟩
    refine own_pre (T' := T183) (g' := (mkF m 248 L181 [(.double f185), (.int (1 : Int32)), (.ref a164)])) (fun t k => XS.i2dS X183.here hx rfl (hb hby at_247) rfl hf185 k) ?_
    have Df185 : Jvm.FP.Core.DInt p2.toInt f185 := hf185 ▸ Jvm.FP.Core.i2d_int _
    have F186 : own_Ary Z h183 a164 .double [(.double f174), (.double (0 : UInt64))] := (F177.other W183 (Nat.ne_of_gt lt166))
    refine own_dastore X183 hx hZ e183 N183 nw167 F186 (hb hby at_248) (n := 1) (by decide) (by decide) (by show 1 < 2; decide) ?_
    intro T187 h187 lo187 X187 e187 N187 W187
    have F188 : own_Ary Z h187 a164 .double [(.double f174), (.double f185)] := F186.set W187
    show own_Go _ _ _ _ _ _ _ T187 (mkF m 249 L181 [])
    refine own_pre (T' := T187) (g' := (mkF m 251 L181 [(.long v180)])) (fun t k => XT.lload X187.here hx rfl (v := v180) (hb hby at_249) (by rw [← hL181]; rfl) k) ?_
    refine own_pre (T' := T187) (g' := (mkF m 252 L181 [(.int p2), (.long v180)])) (fun t k => XS.iloadN X187.here hx rfl (v := p2) (hb hby at_251) (by rw [← hL181]; rfl) k) ?_
    refine own_pre (T' := T187) (g' := (mkF m 253 L181 [(.long p2.toInt64), (.long v180)])) (fun t k => XT.i2l X187.here hx rfl (hb hby at_252) rfl k) ?_
    refine own_pre (T' := T187) (g' := (mkF m 255 L181 [(.long p4), (.long p2.toInt64), (.long v180)])) (fun t k => XT.lload X187.here hx rfl (v := p4) (hb hby at_253) (by rw [← hL181]; rfl) k) ?_
    refine own_pre (T' := T187) (g' := (mkF m 257 L181 [(.long p5), (.long p4), (.long p2.toInt64), (.long v180)])) (fun t k => XT.lload X187.here hx rfl (v := p5) (hb hby at_255) (by rw [← hL181]; rfl) k) ?_
    refine own_pre (T' := T187) (g' := (mkF m 259 L181 [(.int v6), (.long p5), (.long p4), (.long p2.toInt64), (.long v180)])) (fun t k => XS.iload X187.here hx rfl (v := v6) (hb hby at_257) (by rw [← hL181]; rfl) k) ?_
    have F189 : n0 ≤ h187.size := (Nat.le_trans (Nat.le_trans F178 (Nat.le_of_eq W183.size.symm)) (Nat.le_of_eq W187.size.symm))
    refine own_calls (argsL := [(.long p4), (.long p5), (.int v6)]) (rest := [(.long p2.toInt64), (.long v180)]) X187 hx hZ hown (own_entAtT l Z a0 hw [] p4 p5 v6 h187 n0 F189) (hw _ (List.mem_of_getElem? (i := 26) rfl)) (hw _ (List.mem_of_getElem? (i := 27) rfl)) (hw _ (List.mem_of_getElem? (i := 28) rfl)) (hw _ (List.mem_of_getElem? (i := 3) rfl)) (by decide) e187 (hb hby at_259) (by rw [hml, ← hL181]; rfl) rfl (lenOf own_pd3 rfl) (by decide) (W := 4) (Nat.le_of_eq rfl) (by decide) (by decide) (by decide) ?_
    intro v190 T190 lo190 X190 Q190
    obtain ⟨h190, e190⟩ : ∃ h, T190.heap = h := ⟨_, rfl⟩
    rw [e190] at Q190
    obtain ⟨rfl, N190, q190⟩ := Q190
    have N190' := Fr.app N187 N190
    have e190' : T190.heap = h187 := e190.trans q190
    show own_Go _ _ _ _ _ _ _ T190 (mkF m 262 L181 [(.long (own_entAt p4 p5 v6)), (.long p2.toInt64), (.long v180)])
    refine own_pre (T' := T190) (g' := (mkF m 263 L181 [(.long (p2.toInt64 * (own_entAt p4 p5 v6))), (.long v180)])) (fun t k => XT.lmul X190.here hx rfl (hb hby at_262) rfl k) ?_
    refine own_pre (T' := T190) (g' := (mkF m 264 L181 [(.long (v180 + (p2.toInt64 * (own_entAt p4 p5 v6))))])) (fun t k => XT.ladd X190.here hx rfl (hb hby at_263) rfl k) ?_
    generalize hv191 : v180 + (p2.toInt64 * (own_entAt p4 p5 v6)) = v191
    refine own_pre (T' := T190) (g' := (mkF m 266 #[.val (.int p0), .val (.int p1), .val (.int p2), .val (.int p3), .val (.long p4), .second, .val (.long p5), .second, .val (.int (2 : Int32)), .val (.int v4), .val (.int v6), .val (.int v8), .val (.ref a10), .val (.ref a157), .val (.ref a164), .val (.long v191), .second, .unset, .unset] [])) (fun t k => XT.lstore X190.here hx rfl (hb hby at_264) rfl (l' := #[.val (.int p0), .val (.int p1), .val (.int p2), .val (.int p3), .val (.long p4), .second, .val (.long p5), .second, .val (.int (2 : Int32)), .val (.int v4), .val (.int v6), .val (.int v8), .val (.ref a10), .val (.ref a157), .val (.ref a164), .val (.long v191), .second, .unset, .unset]) (by rw [← hL181]; rfl) k) ?_
    generalize hL192 : (#[.val (.int p0), .val (.int p1), .val (.int p2), .val (.int p3), .val (.long p4), .second, .val (.long p5), .second, .val (.int (2 : Int32)), .val (.int v4), .val (.int v6), .val (.int v8), .val (.ref a10), .val (.ref a157), .val (.ref a164), .val (.long v191), .second, .unset, .unset] : Array Slot) = L192
    refine own_pre (T' := T190) (g' := (mkF m 268 L192 [(.int (2 : Int32))])) (fun t k => XS.iload X190.here hx rfl (v := (2 : Int32)) (hb hby at_266) (by rw [← hL192]; rfl) k) ?_
    refine own_pre (T' := T190) (g' := (mkF m 269 L192 [(.int (3 : Int32)), (.int (2 : Int32))])) (fun t k => XS.iconst X190.here hx rfl (hb hby at_268) k) ?_
    refine own_pre (T' := T190) (g' := (mkF m 301 L192 [])) (fun t k => XS.icmpYes X190.here hx rfl (pc0 := 269) (pc' := 301) rfl (hb hby at_269) rfl (by decide) (by decide) (by decide) k) ?_
    have F193 : own_Ary Z h187 a10 .double [(.double f16), (.double f21), (.double f26), (.double f31), (.double f36), (.double f41), (.double f46), (.double f51), (.double f56), (.double f61), (.double f66), (.double f71)] := (((((F162.ext E164).other W172 (Nat.ne_of_lt lt158)).other W176 (Nat.ne_of_lt lt165)).other W183 (Nat.ne_of_lt lt158)).other W187 (Nat.ne_of_lt lt165))
    have F194 : own_Ary Z h187 a157 .int [(.int v4), (.int v6)] := (F184.other W187 (Nat.ne_of_lt lt166))
    refine own_newobj X190 hx hZ hown (hw _ (List.mem_of_getElem? (i := 8) rfl)) (hw _ (List.mem_of_getElem? (i := 9) rfl)) (hw _ (List.mem_of_getElem? (i := 10) rfl)) e190' (hb hby at_301) (by decide) (by decide) ?_
    intro T195 h195 a195 g195 X195 e195 E195 A195 D195
    have lt196 : a10 < a195 := Nat.lt_of_lt_of_le F193.lt (Nat.le_of_eq g195.symm)
    have lt197 : a157 < a195 := Nat.lt_of_lt_of_le F194.lt (Nat.le_of_eq g195.symm)
    have lt198 : a164 < a195 := Nat.lt_of_lt_of_le F188.lt (Nat.le_of_eq g195.symm)
    have nw199 : n0 ≤ a195 := Nat.le_trans F189 (Nat.le_of_eq g195.symm)
    have F200 : Fld Z h195 a195 "com/example/galicia/galicia/lime/SparseVector" "positions" "[I" .null := D195 (Or.inr (hw _ (List.mem_of_getElem? (i := 18) rfl))) (ty := (.array .int)) (by decide)
    have F201 : Fld Z h195 a195 "com/example/galicia/galicia/lime/SparseVector" "values" "[D" .null := D195 (Or.inr (hw _ (List.mem_of_getElem? (i := 20) rfl))) (ty := (.array .double)) (by decide)
    show own_Go _ _ _ _ _ _ _ T195 (mkF m 304 L192 [(.ref a195)])
    refine own_pre (T' := T195) (g' := (mkF m 305 L192 [(.ref a195), (.ref a195)])) (fun t k => XS.dup X195.here hx rfl (hb hby at_304) rfl rfl k) ?_
    refine own_pre (T' := T195) (g' := (mkF m 307 L192 [(.ref a157), (.ref a195), (.ref a195)])) (fun t k => XS.aload X195.here hx rfl (v := (.ref a157)) (hb hby at_305) (by rw [← hL192]; rfl) rfl k) ?_
    refine own_pre (T' := T195) (g' := (mkF m 309 L192 [(.ref a164), (.ref a157), (.ref a195), (.ref a195)])) (fun t k => XS.aload X195.here hx rfl (v := (.ref a164)) (hb hby at_307) (by rw [← hL192]; rfl) rfl k) ?_
    have F202 : n0 ≤ h195.size := (Nat.le_trans F189 E195.1)
    refine own_init (a := a195) (argsL := [(.ref a157), (.ref a164)]) (rest := [(.ref a195)]) X195 hx hZ hown (own_svinit l Z a0 hw [] a195 a157 a164 h195 n0 F202 A195 F200 F201 nw199) rfl (hw _ (List.mem_of_getElem? (i := 11) rfl)) (hw _ (List.mem_of_getElem? (i := 12) rfl)) (hw _ (List.mem_of_getElem? (i := 13) rfl)) (hw _ (List.mem_of_getElem? (i := 10) rfl)) (by decide) e195 (hb hby at_309) (by rw [hml, ← hL192]; rfl) rfl (lenOf own_pd1 rfl) (by decide) (W := 1) (Nat.le_of_eq rfl) (by decide) (by decide) (by decide) ?_
    intro v203 T203 lo203 X203 Q203
    obtain ⟨h203, e203⟩ : ∃ h, T203.heap = h := ⟨_, rfl⟩
    rw [e203] at Q203
    obtain ⟨rfl, N203, K203, G1203, G2203⟩ := Q203
    have N203' := Fr.app N190' N203
    show own_Go _ _ _ _ _ _ _ T203 (mkF m 312 L192 [(.ref a195)])
    refine own_pre (T' := T203) (g' := (mkF m 314 L192 [(.ref a10), (.ref a195)])) (fun t k => XS.aload X203.here hx rfl (v := (.ref a10)) (hb hby at_312) (by rw [← hL192]; rfl) rfl k) ?_
    have F204 : n0 ≤ h203.size := (Nat.le_trans F202 K203.1)
    have F205 : own_Ary Z h203 a157 .int [(.int v4), (.int v6)] := ((F194.ext E195).keep K203 (ninS (Nat.ne_of_lt lt197) nin0))
    have F206 : own_Ary Z h203 a164 .double [(.double f174), (.double f185)] := ((F188.ext E195).keep K203 (ninS (Nat.ne_of_lt lt198) nin0))
    have F207 : own_Ary Z h203 a10 .double [(.double f16), (.double f21), (.double f26), (.double f31), (.double f36), (.double f41), (.double f46), (.double f51), (.double f56), (.double f61), (.double f66), (.double f71)] := ((F193.ext E195).keep K203 (ninS (Nat.ne_of_lt lt196) nin0))
    have F208 : Exa Z h203 a195 "com/example/galicia/galicia/lime/SparseVector" := (A195.keep K203)
    refine own_callv (a := a195) (argsL := [(.ref a10)]) (rest := []) X203 hx hZ hown (own_dot2 l Z a0 hw [] a195 a157 a164 a10 _ v4 f174 y0 p1.toInt (own_entAt p4 p5 v4).toInt v6 f185 y1 p2.toInt (own_entAt p4 p5 v6).toInt h203 n0 F204 G1203 G2203 F205 F206 F207 hq0.1 hy0 Df174 DY0 hB0 hq1.1 hy1 Df185 DY1 hB1) F208 (hw _ (List.mem_of_getElem? (i := 21) rfl)) (hw _ (List.mem_of_getElem? (i := 22) rfl)) (hw _ (List.mem_of_getElem? (i := 24) rfl)) (hw _ (List.mem_of_getElem? (i := 23) rfl)) (hw _ (List.mem_of_getElem? (i := 25) rfl)) (hw _ (List.mem_of_getElem? (i := 10) rfl)) (by decide) e203 (hb hby at_314) (by rw [hml, ← hL192]; rfl) rfl (lenOf own_pd2 rfl) (by decide) (W := 0) (Nat.le_of_eq rfl) (by decide) (by decide) (by decide) ?_
    intro v209 T209 lo209 X209 Q209
    obtain ⟨h209, e209⟩ : ∃ h, T209.heap = h := ⟨_, rfl⟩
    rw [e209] at Q209
    obtain ⟨r209, rfl, DR209, N209, q209⟩ := Q209
    have N209' := Fr.app N203' N209
    have e209' : T209.heap = h203 := e209.trans q209
    show own_Go _ _ _ _ _ _ _ T209 (mkF m 317 L192 [(.double r209)])
    refine own_pre (T' := T209) (g' := (mkF m 319 #[.val (.int p0), .val (.int p1), .val (.int p2), .val (.int p3), .val (.long p4), .second, .val (.long p5), .second, .val (.int (2 : Int32)), .val (.int v4), .val (.int v6), .val (.int v8), .val (.ref a10), .val (.ref a157), .val (.ref a164), .val (.long v191), .second, .val (.double r209), .second] [])) (fun t k => XS.dstore X209.here hx rfl (hb hby at_317) rfl (l' := #[.val (.int p0), .val (.int p1), .val (.int p2), .val (.int p3), .val (.long p4), .second, .val (.long p5), .second, .val (.int (2 : Int32)), .val (.int v4), .val (.int v6), .val (.int v8), .val (.ref a10), .val (.ref a157), .val (.ref a164), .val (.long v191), .second, .val (.double r209), .second]) (by rw [← hL192]; rfl) k) ?_
    generalize hL210 : (#[.val (.int p0), .val (.int p1), .val (.int p2), .val (.int p3), .val (.long p4), .second, .val (.long p5), .second, .val (.int (2 : Int32)), .val (.int v4), .val (.int v6), .val (.int v8), .val (.ref a10), .val (.ref a157), .val (.ref a164), .val (.long v191), .second, .val (.double r209), .second] : Array Slot) = L210
    refine own_pre (T' := T209) (g' := (mkF m 321 L210 [(.double r209)])) (fun t k => XS.dload X209.here hx rfl (v := r209) (hb hby at_319) (by rw [← hL210]; rfl) k) ?_
    refine own_pre (T' := T209) (g' := (mkF m 323 L210 [(.long v191), (.double r209)])) (fun t k => XT.lload X209.here hx rfl (v := v191) (hb hby at_321) (by rw [← hL210]; rfl) k) ?_
    obtain ⟨f211, hf211⟩ : ∃ z, FP.l2d v191 = z := ⟨_, rfl⟩
    refine own_pre (T' := T209) (g' := (mkF m 324 L210 [(.double f211), (.double r209)])) (fun t k => XS.l2dS X209.here hx rfl (hb hby at_323) rfl hf211 k) ?_
    have hX : v191.toInt = ((0 + (p1.toInt * (own_entAt p4 p5 v4).toInt)) + (p2.toInt * (own_entAt p4 p5 v6).toInt)) := own_exp2 hB0 hB1 hv180 hv191
    have Df211 : Jvm.FP.Core.DInt v191.toInt f211 := hf211 ▸ Jvm.FP.Core.l2d_int (by rw [hX]; omega)
    obtain ⟨k212, hk212⟩ : ∃ z, own_c ((0 + (p1.toInt * (own_entAt p4 p5 v4).toInt)) + (p2.toInt * (own_entAt p4 p5 v6).toInt)) v191.toInt = z := ⟨_, rfl⟩
    refine own_pre (T' := T209) (g' := (mkF m 325 L210 [(.int k212)])) (fun t k => XS.dcmpS X209.here hx rfl (hb hby at_324) rfl ((own_dcmp DR209 Df211 _).trans hk212) k) ?_
    have hk0 : k212 = (0 : Int32) := by rw [← hk212, own_c_eq, hX]
    refine own_pre (T' := T209) (g' := (mkF m 328 L210 [])) (fun t k => XS.ifNo X209.here hx rfl (hb hby at_325) rfl ((if0 _ _).trans (teq hk0).2) k) ?_
    refine own_pre (T' := T209) (g' := (mkF m 329 L210 [(.int (1 : Int32))])) (fun t k => XS.iconst X209.here hx rfl (hb hby at_328) k) ?_
    refine own_pre (T' := T209) (g' := (mkF m 333 L210 [(.int (1 : Int32))])) (fun t k => XS.goto X209.here hx rfl (pc0 := 329) (pc' := 333) rfl (hb hby at_329) (by decide) (by decide) k) ?_
    exact own_retZ X209 hx hlk hret rfl (hb hby at_333) e209' ⟨rfl, N209'⟩ (by decide) (by decide)
  · skip
    subst hc
    obtain ⟨y0, hy0, DY0⟩ := hpick v4 hq0
    have hB0 := own_prod p1 (own_eAb p4 p5 v4)
    obtain ⟨y1, hy1, DY1⟩ := hpick v6 hq1
    have hB1 := own_prod p2 (own_eAb p4 p5 v6)
    obtain ⟨y2, hy2, DY2⟩ := hpick v8 hq2
    have hB2 := own_prod p3 (own_eAb p4 p5 v8)
    show own_Go _ _ _ _ _ _ _ T72 (mkF m 181 L13 [])
    refine own_pre (T' := T72) (g' := (mkF m 183 L13 [(.int (3 : Int32))])) (fun t k => XS.iload X72.here hx rfl (v := (3 : Int32)) (hb hby at_181) (by rw [← hL13]; rfl) k) ?_
    have F213 : n0 ≤ h72.size := (Nat.le_trans F69 (Nat.le_of_eq W72.size.symm))
    refine own_newarr X72 hx hZ (aty := .int) (hw _ (List.mem_of_getElem? (i := 7) rfl)) e72 (hb hby at_183) (n := 3) (by decide) (by decide) (by decide) (by decide) (by decide) (ad := "[I") rfl ?_
    intro T214 h214 a214 g214 X214 e214 E214 A214 B214
    have lt215 : a10 < a214 := Nat.lt_of_lt_of_le F73.lt (Nat.le_of_eq g214.symm)
    have nw216 : n0 ≤ a214 := Nat.le_trans F213 (Nat.le_of_eq g214.symm)
    have F217 : own_Ary Z h214 a214 .int [(.int (0 : Int32)), (.int (0 : Int32)), (.int (0 : Int32))] := A214
    show own_Go _ _ _ _ _ _ _ T214 (mkF m 185 L13 [(.ref a214)])
    refine own_pre (T' := T214) (g' := (mkF m 187 #[.val (.int p0), .val (.int p1), .val (.int p2), .val (.int p3), .val (.long p4), .second, .val (.long p5), .second, .val (.int (3 : Int32)), .val (.int v4), .val (.int v6), .val (.int v8), .val (.ref a10), .val (.ref a214), .unset, .unset, .unset, .unset, .unset] [])) (fun t k => XS.astore X214.here hx rfl (hb hby at_185) rfl rfl (l' := #[.val (.int p0), .val (.int p1), .val (.int p2), .val (.int p3), .val (.long p4), .second, .val (.long p5), .second, .val (.int (3 : Int32)), .val (.int v4), .val (.int v6), .val (.int v8), .val (.ref a10), .val (.ref a214), .unset, .unset, .unset, .unset, .unset]) (by rw [← hL13]; rfl) k) ?_
    generalize hL218 : (#[.val (.int p0), .val (.int p1), .val (.int p2), .val (.int p3), .val (.long p4), .second, .val (.long p5), .second, .val (.int (3 : Int32)), .val (.int v4), .val (.int v6), .val (.int v8), .val (.ref a10), .val (.ref a214), .unset, .unset, .unset, .unset, .unset] : Array Slot) = L218
    refine own_pre (T' := T214) (g' := (mkF m 189 L218 [(.int (3 : Int32))])) (fun t k => XS.iload X214.here hx rfl (v := (3 : Int32)) (hb hby at_187) (by rw [← hL218]; rfl) k) ?_
    have F219 : own_Ary Z h214 a10 .double [(.double f16), (.double f21), (.double f26), (.double f31), (.double f36), (.double f41), (.double f46), (.double f51), (.double f56), (.double f61), (.double f66), (.double f71)] := (F73.ext E214)
    have F220 : n0 ≤ h214.size := (Nat.le_trans F213 E214.1)
    refine own_newarr X214 hx hZ (aty := .double) (hw _ (List.mem_of_getElem? (i := 0) rfl)) e214 (hb hby at_189) (n := 3) (by decide) (by decide) (by decide) (by decide) (by decide) (ad := "[D") rfl ?_
    intro T221 h221 a221 g221 X221 e221 E221 A221 B221
    have lt222 : a10 < a221 := Nat.lt_of_lt_of_le F219.lt (Nat.le_of_eq g221.symm)
    have lt223 : a214 < a221 := Nat.lt_of_lt_of_le F217.lt (Nat.le_of_eq g221.symm)
    have nw224 : n0 ≤ a221 := Nat.le_trans F220 (Nat.le_of_eq g221.symm)
    have F225 : own_Ary Z h221 a221 .double [(.double (0 : UInt64)), (.double (0 : UInt64)), (.double (0 : UInt64))] := A221
    show own_Go _ _ _ _ _ _ _ T221 (mkF m 191 L218 [(.ref a221)])
    refine own_pre (T' := T221) (g' := (mkF m 193 #[.val (.int p0), .val (.int p1), .val (.int p2), .val (.int p3), .val (.long p4), .second, .val (.long p5), .second, .val (.int (3 : Int32)), .val (.int v4), .val (.int v6), .val (.int v8), .val (.ref a10), .val (.ref a214), .val (.ref a221), .unset, .unset, .unset, .unset] [])) (fun t k => XS.astore X221.here hx rfl (hb hby at_191) rfl rfl (l' := #[.val (.int p0), .val (.int p1), .val (.int p2), .val (.int p3), .val (.long p4), .second, .val (.long p5), .second, .val (.int (3 : Int32)), .val (.int v4), .val (.int v6), .val (.int v8), .val (.ref a10), .val (.ref a214), .val (.ref a221), .unset, .unset, .unset, .unset]) (by rw [← hL218]; rfl) k) ?_
    generalize hL226 : (#[.val (.int p0), .val (.int p1), .val (.int p2), .val (.int p3), .val (.long p4), .second, .val (.long p5), .second, .val (.int (3 : Int32)), .val (.int v4), .val (.int v6), .val (.int v8), .val (.ref a10), .val (.ref a214), .val (.ref a221), .unset, .unset, .unset, .unset] : Array Slot) = L226
    refine own_pre (T' := T221) (g' := (mkF m 194 L226 [(.long (0 : Int64))])) (fun t k => XT.lconst X221.here hx rfl (hb hby at_193) k) ?_
    refine own_pre (T' := T221) (g' := (mkF m 196 #[.val (.int p0), .val (.int p1), .val (.int p2), .val (.int p3), .val (.long p4), .second, .val (.long p5), .second, .val (.int (3 : Int32)), .val (.int v4), .val (.int v6), .val (.int v8), .val (.ref a10), .val (.ref a214), .val (.ref a221), .val (.long (0 : Int64)), .second, .unset, .unset] [])) (fun t k => XT.lstore X221.here hx rfl (hb hby at_194) rfl (l' := #[.val (.int p0), .val (.int p1), .val (.int p2), .val (.int p3), .val (.long p4), .second, .val (.long p5), .second, .val (.int (3 : Int32)), .val (.int v4), .val (.int v6), .val (.int v8), .val (.ref a10), .val (.ref a214), .val (.ref a221), .val (.long (0 : Int64)), .second, .unset, .unset]) (by rw [← hL226]; rfl) k) ?_
    generalize hL227 : (#[.val (.int p0), .val (.int p1), .val (.int p2), .val (.int p3), .val (.long p4), .second, .val (.long p5), .second, .val (.int (3 : Int32)), .val (.int v4), .val (.int v6), .val (.int v8), .val (.ref a10), .val (.ref a214), .val (.ref a221), .val (.long (0 : Int64)), .second, .unset, .unset] : Array Slot) = L227
    refine own_pre (T' := T221) (g' := (mkF m 198 L227 [(.int (3 : Int32))])) (fun t k => XS.iload X221.here hx rfl (v := (3 : Int32)) (hb hby at_196) (by rw [← hL227]; rfl) k) ?_
    refine own_pre (T' := T221) (g' := (mkF m 199 L227 [(.int (1 : Int32)), (.int (3 : Int32))])) (fun t k => XS.iconst X221.here hx rfl (hb hby at_198) k) ?_
    refine own_pre (T' := T221) (g' := (mkF m 202 L227 [])) (fun t k => XS.icmpNo X221.here hx rfl (hb hby at_199) rfl (by decide) k) ?_
    refine own_pre (T' := T221) (g' := (mkF m 204 L227 [(.ref a214)])) (fun t k => XS.aload X221.here hx rfl (v := (.ref a214)) (hb hby at_202) (by rw [← hL227]; rfl) rfl k) ?_
    refine own_pre (T' := T221) (g' := (mkF m 205 L227 [(.int (0 : Int32)), (.ref a214)])) (fun t k => XS.iconst X221.here hx rfl (hb hby at_204) k) ?_
    refine own_pre (T' := T221) (g' := (mkF m 207 L227 [(.int v4), (.int (0 : Int32)), (.ref a214)])) (fun t k => XS.iload X221.here hx rfl (v := v4) (hb hby at_205) (by rw [← hL227]; rfl) k) ?_
    have F228 : own_Ary Z h221 a214 .int [(.int (0 : Int32)), (.int (0 : Int32)), (.int (0 : Int32))] := (F217.ext E221)
    refine own_iastore X221 hx hZ e221 N72 nw216 F228 (hb hby at_207) (n := 0) (by decide) (by decide) (by show 0 < 3; decide) ?_
    intro T229 h229 lo229 X229 e229 N229 W229
    have F230 : own_Ary Z h229 a214 .int [(.int v4), (.int (0 : Int32)), (.int (0 : Int32))] := F228.set W229
    show own_Go _ _ _ _ _ _ _ T229 (mkF m 208 L227 [])
    refine own_pre (T' := T229) (g' := (mkF m 210 L227 [(.ref a221)])) (fun t k => XS.aload X229.here hx rfl (v := (.ref a221)) (hb hby at_208) (by rw [← hL227]; rfl) rfl k) ?_
    refine own_pre (T' := T229) (g' := (mkF m 211 L227 [(.int (0 : Int32)), (.ref a221)])) (fun t k => XS.iconst X229.here hx rfl (hb hby at_210) k) ?_
    refine own_pre (T' := T229) (g' := (mkF m 212 L227 [(.int p1), (.int (0 : Int32)), (.ref a221)])) (fun t k => XS.iloadN X229.here hx rfl (v := p1) (hb hby at_211) (by rw [← hL227]; rfl) k) ?_
    obtain ⟨f231, hf231⟩ : ∃ z, FP.i2d p1 = z := ⟨_, rfl⟩
    refine own_pre (T' := T229) (g' := (mkF m 213 L227 [(.double f231), (.int (0 : Int32)), (.ref a221)])) (fun t k => XS.i2dS X229.here hx rfl (hb hby at_212) rfl hf231 k) ?_
    have Df231 : Jvm.FP.Core.DInt p1.toInt f231 := hf231 ▸ Jvm.FP.Core.i2d_int _
    have F232 : own_Ary Z h229 a221 .double [(.double (0 : UInt64)), (.double (0 : UInt64)), (.double (0 : UInt64))] := (F225.other W229 (Nat.ne_of_gt lt223))
    refine own_dastore X229 hx hZ e229 N229 nw224 F232 (hb hby at_213) (n := 0) (by decide) (by decide) (by show 0 < 3; decide) ?_
    intro T233 h233 lo233 X233 e233 N233 W233
    have F234 : own_Ary Z h233 a221 .double [(.double f231), (.double (0 : UInt64)), (.double (0 : UInt64))] := F232.set W233
    show own_Go _ _ _ _ _ _ _ T233 (mkF m 214 L227 [])
    refine own_pre (T' := T233) (g' := (mkF m 216 L227 [(.long (0 : Int64))])) (fun t k => XT.lload X233.here hx rfl (v := (0 : Int64)) (hb hby at_214) (by rw [← hL227]; rfl) k) ?_
    refine own_pre (T' := T233) (g' := (mkF m 217 L227 [(.int p1), (.long (0 : Int64))])) (fun t k => XS.iloadN X233.here hx rfl (v := p1) (hb hby at_216) (by rw [← hL227]; rfl) k) ?_
    refine own_pre (T' := T233) (g' := (mkF m 218 L227 [(.long p1.toInt64), (.long (0 : Int64))])) (fun t k => XT.i2l X233.here hx rfl (hb hby at_217) rfl k) ?_
    refine own_pre (T' := T233) (g' := (mkF m 220 L227 [(.long p4), (.long p1.toInt64), (.long (0 : Int64))])) (fun t k => XT.lload X233.here hx rfl (v := p4) (hb hby at_218) (by rw [← hL227]; rfl) k) ?_
    refine own_pre (T' := T233) (g' := (mkF m 222 L227 [(.long p5), (.long p4), (.long p1.toInt64), (.long (0 : Int64))])) (fun t k => XT.lload X233.here hx rfl (v := p5) (hb hby at_220) (by rw [← hL227]; rfl) k) ?_
    refine own_pre (T' := T233) (g' := (mkF m 224 L227 [(.int v4), (.long p5), (.long p4), (.long p1.toInt64), (.long (0 : Int64))])) (fun t k => XS.iload X233.here hx rfl (v := v4) (hb hby at_222) (by rw [← hL227]; rfl) k) ?_
    have F235 : n0 ≤ h233.size := (Nat.le_trans (Nat.le_trans (Nat.le_trans F220 E221.1) (Nat.le_of_eq W229.size.symm)) (Nat.le_of_eq W233.size.symm))
    refine own_calls (argsL := [(.long p4), (.long p5), (.int v4)]) (rest := [(.long p1.toInt64), (.long (0 : Int64))]) X233 hx hZ hown (own_entAtT l Z a0 hw [] p4 p5 v4 h233 n0 F235) (hw _ (List.mem_of_getElem? (i := 26) rfl)) (hw _ (List.mem_of_getElem? (i := 27) rfl)) (hw _ (List.mem_of_getElem? (i := 28) rfl)) (hw _ (List.mem_of_getElem? (i := 3) rfl)) (by decide) e233 (hb hby at_224) (by rw [hml, ← hL227]; rfl) rfl (lenOf own_pd3 rfl) (by decide) (W := 4) (Nat.le_of_eq rfl) (by decide) (by decide) (by decide) ?_
    intro v236 T236 lo236 X236 Q236
    obtain ⟨h236, e236⟩ : ∃ h, T236.heap = h := ⟨_, rfl⟩
    rw [e236] at Q236
    obtain ⟨rfl, N236, q236⟩ := Q236
    have N236' := Fr.app N233 N236
    have e236' : T236.heap = h233 := e236.trans q236
    show own_Go _ _ _ _ _ _ _ T236 (mkF m 227 L227 [(.long (own_entAt p4 p5 v4)), (.long p1.toInt64), (.long (0 : Int64))])
    refine own_pre (T' := T236) (g' := (mkF m 228 L227 [(.long (p1.toInt64 * (own_entAt p4 p5 v4))), (.long (0 : Int64))])) (fun t k => XT.lmul X236.here hx rfl (hb hby at_227) rfl k) ?_
    refine own_pre (T' := T236) (g' := (mkF m 229 L227 [(.long ((0 : Int64) + (p1.toInt64 * (own_entAt p4 p5 v4))))])) (fun t k => XT.ladd X236.here hx rfl (hb hby at_228) rfl k) ?_
    generalize hv237 : (0 : Int64) + (p1.toInt64 * (own_entAt p4 p5 v4)) = v237
    refine own_pre (T' := T236) (g' := (mkF m 231 #[.val (.int p0), .val (.int p1), .val (.int p2), .val (.int p3), .val (.long p4), .second, .val (.long p5), .second, .val (.int (3 : Int32)), .val (.int v4), .val (.int v6), .val (.int v8), .val (.ref a10), .val (.ref a214), .val (.ref a221), .val (.long v237), .second, .unset, .unset] [])) (fun t k => XT.lstore X236.here hx rfl (hb hby at_229) rfl (l' := #[.val (.int p0), .val (.int p1), .val (.int p2), .val (.int p3), .val (.long p4), .second, .val (.long p5), .second, .val (.int (3 : Int32)), .val (.int v4), .val (.int v6), .val (.int v8), .val (.ref a10), .val (.ref a214), .val (.ref a221), .val (.long v237), .second, .unset, .unset]) (by rw [← hL227]; rfl) k) ?_
    generalize hL238 : (#[.val (.int p0), .val (.int p1), .val (.int p2), .val (.int p3), .val (.long p4), .second, .val (.long p5), .second, .val (.int (3 : Int32)), .val (.int v4), .val (.int v6), .val (.int v8), .val (.ref a10), .val (.ref a214), .val (.ref a221), .val (.long v237), .second, .unset, .unset] : Array Slot) = L238
    refine own_pre (T' := T236) (g' := (mkF m 233 L238 [(.int (3 : Int32))])) (fun t k => XS.iload X236.here hx rfl (v := (3 : Int32)) (hb hby at_231) (by rw [← hL238]; rfl) k) ?_
    refine own_pre (T' := T236) (g' := (mkF m 234 L238 [(.int (2 : Int32)), (.int (3 : Int32))])) (fun t k => XS.iconst X236.here hx rfl (hb hby at_233) k) ?_
    refine own_pre (T' := T236) (g' := (mkF m 237 L238 [])) (fun t k => XS.icmpNo X236.here hx rfl (hb hby at_234) rfl (by decide) k) ?_
    refine own_pre (T' := T236) (g' := (mkF m 239 L238 [(.ref a214)])) (fun t k => XS.aload X236.here hx rfl (v := (.ref a214)) (hb hby at_237) (by rw [← hL238]; rfl) rfl k) ?_
    refine own_pre (T' := T236) (g' := (mkF m 240 L238 [(.int (1 : Int32)), (.ref a214)])) (fun t k => XS.iconst X236.here hx rfl (hb hby at_239) k) ?_
    refine own_pre (T' := T236) (g' := (mkF m 242 L238 [(.int v6), (.int (1 : Int32)), (.ref a214)])) (fun t k => XS.iload X236.here hx rfl (v := v6) (hb hby at_240) (by rw [← hL238]; rfl) k) ?_
    have F239 : own_Ary Z h233 a214 .int [(.int v4), (.int (0 : Int32)), (.int (0 : Int32))] := (F230.other W233 (Nat.ne_of_lt lt223))
    refine own_iastore X236 hx hZ e236' N236' nw216 F239 (hb hby at_242) (n := 1) (by decide) (by decide) (by show 1 < 3; decide) ?_
    intro T240 h240 lo240 X240 e240 N240 W240
    have F241 : own_Ary Z h240 a214 .int [(.int v4), (.int v6), (.int (0 : Int32))] := F239.set W240
    show own_Go _ _ _ _ _ _ _ T240 (mkF m 243 L238 [])
    refine own_pre (T' := T240) (g' := (mkF m 245 L238 [(.ref a221)])) (fun t k => XS.aload X240.here hx rfl (v := (.ref a221)) (hb hby at_243) (by rw [← hL238]; rfl) rfl k) ?_
    refine own_pre (T' := T240) (g' := (mkF m 246 L238 [(.int (1 : Int32)), (.ref a221)])) (fun t k => XS.iconst X240.here hx rfl (hb hby at_245) k) ?_
    refine own_pre (T' := T240) (g' := (mkF m 247 L238 [(.int p2), (.int (1 : Int32)), (.ref a221)])) (fun t k => XS.iloadN X240.here hx rfl (v := p2) (hb hby at_246) (by rw [← hL238]; rfl) k) ?_
    obtain ⟨f242, hf242⟩ : ∃ z, FP.i2d p2 = z := ⟨_, rfl⟩
    refine own_pre (T' := T240) (g' := (mkF m 248 L238 [(.double f242), (.int (1 : Int32)), (.ref a221)])) (fun t k => XS.i2dS X240.here hx rfl (hb hby at_247) rfl hf242 k) ?_
    have Df242 : Jvm.FP.Core.DInt p2.toInt f242 := hf242 ▸ Jvm.FP.Core.i2d_int _
    have F243 : own_Ary Z h240 a221 .double [(.double f231), (.double (0 : UInt64)), (.double (0 : UInt64))] := (F234.other W240 (Nat.ne_of_gt lt223))
    refine own_dastore X240 hx hZ e240 N240 nw224 F243 (hb hby at_248) (n := 1) (by decide) (by decide) (by show 1 < 3; decide) ?_
    intro T244 h244 lo244 X244 e244 N244 W244
    have F245 : own_Ary Z h244 a221 .double [(.double f231), (.double f242), (.double (0 : UInt64))] := F243.set W244
    show own_Go _ _ _ _ _ _ _ T244 (mkF m 249 L238 [])
    refine own_pre (T' := T244) (g' := (mkF m 251 L238 [(.long v237)])) (fun t k => XT.lload X244.here hx rfl (v := v237) (hb hby at_249) (by rw [← hL238]; rfl) k) ?_
    refine own_pre (T' := T244) (g' := (mkF m 252 L238 [(.int p2), (.long v237)])) (fun t k => XS.iloadN X244.here hx rfl (v := p2) (hb hby at_251) (by rw [← hL238]; rfl) k) ?_
    refine own_pre (T' := T244) (g' := (mkF m 253 L238 [(.long p2.toInt64), (.long v237)])) (fun t k => XT.i2l X244.here hx rfl (hb hby at_252) rfl k) ?_
    refine own_pre (T' := T244) (g' := (mkF m 255 L238 [(.long p4), (.long p2.toInt64), (.long v237)])) (fun t k => XT.lload X244.here hx rfl (v := p4) (hb hby at_253) (by rw [← hL238]; rfl) k) ?_
    refine own_pre (T' := T244) (g' := (mkF m 257 L238 [(.long p5), (.long p4), (.long p2.toInt64), (.long v237)])) (fun t k => XT.lload X244.here hx rfl (v := p5) (hb hby at_255) (by rw [← hL238]; rfl) k) ?_
    refine own_pre (T' := T244) (g' := (mkF m 259 L238 [(.int v6), (.long p5), (.long p4), (.long p2.toInt64), (.long v237)])) (fun t k => XS.iload X244.here hx rfl (v := v6) (hb hby at_257) (by rw [← hL238]; rfl) k) ?_
    have F246 : n0 ≤ h244.size := (Nat.le_trans (Nat.le_trans F235 (Nat.le_of_eq W240.size.symm)) (Nat.le_of_eq W244.size.symm))
    refine own_calls (argsL := [(.long p4), (.long p5), (.int v6)]) (rest := [(.long p2.toInt64), (.long v237)]) X244 hx hZ hown (own_entAtT l Z a0 hw [] p4 p5 v6 h244 n0 F246) (hw _ (List.mem_of_getElem? (i := 26) rfl)) (hw _ (List.mem_of_getElem? (i := 27) rfl)) (hw _ (List.mem_of_getElem? (i := 28) rfl)) (hw _ (List.mem_of_getElem? (i := 3) rfl)) (by decide) e244 (hb hby at_259) (by rw [hml, ← hL238]; rfl) rfl (lenOf own_pd3 rfl) (by decide) (W := 4) (Nat.le_of_eq rfl) (by decide) (by decide) (by decide) ?_
    intro v247 T247 lo247 X247 Q247
    obtain ⟨h247, e247⟩ : ∃ h, T247.heap = h := ⟨_, rfl⟩
    rw [e247] at Q247
    obtain ⟨rfl, N247, q247⟩ := Q247
    have N247' := Fr.app N244 N247
    have e247' : T247.heap = h244 := e247.trans q247
    show own_Go _ _ _ _ _ _ _ T247 (mkF m 262 L238 [(.long (own_entAt p4 p5 v6)), (.long p2.toInt64), (.long v237)])
    refine own_pre (T' := T247) (g' := (mkF m 263 L238 [(.long (p2.toInt64 * (own_entAt p4 p5 v6))), (.long v237)])) (fun t k => XT.lmul X247.here hx rfl (hb hby at_262) rfl k) ?_
    refine own_pre (T' := T247) (g' := (mkF m 264 L238 [(.long (v237 + (p2.toInt64 * (own_entAt p4 p5 v6))))])) (fun t k => XT.ladd X247.here hx rfl (hb hby at_263) rfl k) ?_
    generalize hv248 : v237 + (p2.toInt64 * (own_entAt p4 p5 v6)) = v248
    refine own_pre (T' := T247) (g' := (mkF m 266 #[.val (.int p0), .val (.int p1), .val (.int p2), .val (.int p3), .val (.long p4), .second, .val (.long p5), .second, .val (.int (3 : Int32)), .val (.int v4), .val (.int v6), .val (.int v8), .val (.ref a10), .val (.ref a214), .val (.ref a221), .val (.long v248), .second, .unset, .unset] [])) (fun t k => XT.lstore X247.here hx rfl (hb hby at_264) rfl (l' := #[.val (.int p0), .val (.int p1), .val (.int p2), .val (.int p3), .val (.long p4), .second, .val (.long p5), .second, .val (.int (3 : Int32)), .val (.int v4), .val (.int v6), .val (.int v8), .val (.ref a10), .val (.ref a214), .val (.ref a221), .val (.long v248), .second, .unset, .unset]) (by rw [← hL238]; rfl) k) ?_
    generalize hL249 : (#[.val (.int p0), .val (.int p1), .val (.int p2), .val (.int p3), .val (.long p4), .second, .val (.long p5), .second, .val (.int (3 : Int32)), .val (.int v4), .val (.int v6), .val (.int v8), .val (.ref a10), .val (.ref a214), .val (.ref a221), .val (.long v248), .second, .unset, .unset] : Array Slot) = L249
    refine own_pre (T' := T247) (g' := (mkF m 268 L249 [(.int (3 : Int32))])) (fun t k => XS.iload X247.here hx rfl (v := (3 : Int32)) (hb hby at_266) (by rw [← hL249]; rfl) k) ?_
    refine own_pre (T' := T247) (g' := (mkF m 269 L249 [(.int (3 : Int32)), (.int (3 : Int32))])) (fun t k => XS.iconst X247.here hx rfl (hb hby at_268) k) ?_
    refine own_pre (T' := T247) (g' := (mkF m 272 L249 [])) (fun t k => XS.icmpNo X247.here hx rfl (hb hby at_269) rfl (by decide) k) ?_
    refine own_pre (T' := T247) (g' := (mkF m 274 L249 [(.ref a214)])) (fun t k => XS.aload X247.here hx rfl (v := (.ref a214)) (hb hby at_272) (by rw [← hL249]; rfl) rfl k) ?_
    refine own_pre (T' := T247) (g' := (mkF m 275 L249 [(.int (2 : Int32)), (.ref a214)])) (fun t k => XS.iconst X247.here hx rfl (hb hby at_274) k) ?_
    refine own_pre (T' := T247) (g' := (mkF m 277 L249 [(.int v8), (.int (2 : Int32)), (.ref a214)])) (fun t k => XS.iload X247.here hx rfl (v := v8) (hb hby at_275) (by rw [← hL249]; rfl) k) ?_
    have F250 : own_Ary Z h244 a214 .int [(.int v4), (.int v6), (.int (0 : Int32))] := (F241.other W244 (Nat.ne_of_lt lt223))
    refine own_iastore X247 hx hZ e247' N247' nw216 F250 (hb hby at_277) (n := 2) (by decide) (by decide) (by show 2 < 3; decide) ?_
    intro T251 h251 lo251 X251 e251 N251 W251
    have F252 : own_Ary Z h251 a214 .int [(.int v4), (.int v6), (.int v8)] := F250.set W251
    show own_Go _ _ _ _ _ _ _ T251 (mkF m 278 L249 [])
    refine own_pre (T' := T251) (g' := (mkF m 280 L249 [(.ref a221)])) (fun t k => XS.aload X251.here hx rfl (v := (.ref a221)) (hb hby at_278) (by rw [← hL249]; rfl) rfl k) ?_
    refine own_pre (T' := T251) (g' := (mkF m 281 L249 [(.int (2 : Int32)), (.ref a221)])) (fun t k => XS.iconst X251.here hx rfl (hb hby at_280) k) ?_
    refine own_pre (T' := T251) (g' := (mkF m 282 L249 [(.int p3), (.int (2 : Int32)), (.ref a221)])) (fun t k => XS.iloadN X251.here hx rfl (v := p3) (hb hby at_281) (by rw [← hL249]; rfl) k) ?_
    obtain ⟨f253, hf253⟩ : ∃ z, FP.i2d p3 = z := ⟨_, rfl⟩
    refine own_pre (T' := T251) (g' := (mkF m 283 L249 [(.double f253), (.int (2 : Int32)), (.ref a221)])) (fun t k => XS.i2dS X251.here hx rfl (hb hby at_282) rfl hf253 k) ?_
    have Df253 : Jvm.FP.Core.DInt p3.toInt f253 := hf253 ▸ Jvm.FP.Core.i2d_int _
    have F254 : own_Ary Z h251 a221 .double [(.double f231), (.double f242), (.double (0 : UInt64))] := (F245.other W251 (Nat.ne_of_gt lt223))
    refine own_dastore X251 hx hZ e251 N251 nw224 F254 (hb hby at_283) (n := 2) (by decide) (by decide) (by show 2 < 3; decide) ?_
    intro T255 h255 lo255 X255 e255 N255 W255
    have F256 : own_Ary Z h255 a221 .double [(.double f231), (.double f242), (.double f253)] := F254.set W255
    show own_Go _ _ _ _ _ _ _ T255 (mkF m 284 L249 [])
    refine own_pre (T' := T255) (g' := (mkF m 286 L249 [(.long v248)])) (fun t k => XT.lload X255.here hx rfl (v := v248) (hb hby at_284) (by rw [← hL249]; rfl) k) ?_
    refine own_pre (T' := T255) (g' := (mkF m 287 L249 [(.int p3), (.long v248)])) (fun t k => XS.iloadN X255.here hx rfl (v := p3) (hb hby at_286) (by rw [← hL249]; rfl) k) ?_
    refine own_pre (T' := T255) (g' := (mkF m 288 L249 [(.long p3.toInt64), (.long v248)])) (fun t k => XT.i2l X255.here hx rfl (hb hby at_287) rfl k) ?_
    refine own_pre (T' := T255) (g' := (mkF m 290 L249 [(.long p4), (.long p3.toInt64), (.long v248)])) (fun t k => XT.lload X255.here hx rfl (v := p4) (hb hby at_288) (by rw [← hL249]; rfl) k) ?_
    refine own_pre (T' := T255) (g' := (mkF m 292 L249 [(.long p5), (.long p4), (.long p3.toInt64), (.long v248)])) (fun t k => XT.lload X255.here hx rfl (v := p5) (hb hby at_290) (by rw [← hL249]; rfl) k) ?_
    refine own_pre (T' := T255) (g' := (mkF m 294 L249 [(.int v8), (.long p5), (.long p4), (.long p3.toInt64), (.long v248)])) (fun t k => XS.iload X255.here hx rfl (v := v8) (hb hby at_292) (by rw [← hL249]; rfl) k) ?_
    have F257 : n0 ≤ h255.size := (Nat.le_trans (Nat.le_trans F246 (Nat.le_of_eq W251.size.symm)) (Nat.le_of_eq W255.size.symm))
    refine own_calls (argsL := [(.long p4), (.long p5), (.int v8)]) (rest := [(.long p3.toInt64), (.long v248)]) X255 hx hZ hown (own_entAtT l Z a0 hw [] p4 p5 v8 h255 n0 F257) (hw _ (List.mem_of_getElem? (i := 26) rfl)) (hw _ (List.mem_of_getElem? (i := 27) rfl)) (hw _ (List.mem_of_getElem? (i := 28) rfl)) (hw _ (List.mem_of_getElem? (i := 3) rfl)) (by decide) e255 (hb hby at_294) (by rw [hml, ← hL249]; rfl) rfl (lenOf own_pd3 rfl) (by decide) (W := 4) (Nat.le_of_eq rfl) (by decide) (by decide) (by decide) ?_
    intro v258 T258 lo258 X258 Q258
    obtain ⟨h258, e258⟩ : ∃ h, T258.heap = h := ⟨_, rfl⟩
    rw [e258] at Q258
    obtain ⟨rfl, N258, q258⟩ := Q258
    have N258' := Fr.app N255 N258
    have e258' : T258.heap = h255 := e258.trans q258
    show own_Go _ _ _ _ _ _ _ T258 (mkF m 297 L249 [(.long (own_entAt p4 p5 v8)), (.long p3.toInt64), (.long v248)])
    refine own_pre (T' := T258) (g' := (mkF m 298 L249 [(.long (p3.toInt64 * (own_entAt p4 p5 v8))), (.long v248)])) (fun t k => XT.lmul X258.here hx rfl (hb hby at_297) rfl k) ?_
    refine own_pre (T' := T258) (g' := (mkF m 299 L249 [(.long (v248 + (p3.toInt64 * (own_entAt p4 p5 v8))))])) (fun t k => XT.ladd X258.here hx rfl (hb hby at_298) rfl k) ?_
    generalize hv259 : v248 + (p3.toInt64 * (own_entAt p4 p5 v8)) = v259
    refine own_pre (T' := T258) (g' := (mkF m 301 #[.val (.int p0), .val (.int p1), .val (.int p2), .val (.int p3), .val (.long p4), .second, .val (.long p5), .second, .val (.int (3 : Int32)), .val (.int v4), .val (.int v6), .val (.int v8), .val (.ref a10), .val (.ref a214), .val (.ref a221), .val (.long v259), .second, .unset, .unset] [])) (fun t k => XT.lstore X258.here hx rfl (hb hby at_299) rfl (l' := #[.val (.int p0), .val (.int p1), .val (.int p2), .val (.int p3), .val (.long p4), .second, .val (.long p5), .second, .val (.int (3 : Int32)), .val (.int v4), .val (.int v6), .val (.int v8), .val (.ref a10), .val (.ref a214), .val (.ref a221), .val (.long v259), .second, .unset, .unset]) (by rw [← hL249]; rfl) k) ?_
    generalize hL260 : (#[.val (.int p0), .val (.int p1), .val (.int p2), .val (.int p3), .val (.long p4), .second, .val (.long p5), .second, .val (.int (3 : Int32)), .val (.int v4), .val (.int v6), .val (.int v8), .val (.ref a10), .val (.ref a214), .val (.ref a221), .val (.long v259), .second, .unset, .unset] : Array Slot) = L260
    have F261 : own_Ary Z h255 a10 .double [(.double f16), (.double f21), (.double f26), (.double f31), (.double f36), (.double f41), (.double f46), (.double f51), (.double f56), (.double f61), (.double f66), (.double f71)] := (((((((F219.ext E221).other W229 (Nat.ne_of_lt lt215)).other W233 (Nat.ne_of_lt lt222)).other W240 (Nat.ne_of_lt lt215)).other W244 (Nat.ne_of_lt lt222)).other W251 (Nat.ne_of_lt lt215)).other W255 (Nat.ne_of_lt lt222))
    have F262 : own_Ary Z h255 a214 .int [(.int v4), (.int v6), (.int v8)] := (F252.other W255 (Nat.ne_of_lt lt223))
    refine own_newobj X258 hx hZ hown (hw _ (List.mem_of_getElem? (i := 8) rfl)) (hw _ (List.mem_of_getElem? (i := 9) rfl)) (hw _ (List.mem_of_getElem? (i := 10) rfl)) e258' (hb hby at_301) (by decide) (by decide) ?_
    intro T263 h263 a263 g263 X263 e263 E263 A263 D263
    have lt264 : a10 < a263 := Nat.lt_of_lt_of_le F261.lt (Nat.le_of_eq g263.symm)
    have lt265 : a214 < a263 := Nat.lt_of_lt_of_le F262.lt (Nat.le_of_eq g263.symm)
    have lt266 : a221 < a263 := Nat.lt_of_lt_of_le F256.lt (Nat.le_of_eq g263.symm)
    have nw267 : n0 ≤ a263 := Nat.le_trans F257 (Nat.le_of_eq g263.symm)
    have F268 : Fld Z h263 a263 "com/example/galicia/galicia/lime/SparseVector" "positions" "[I" .null := D263 (Or.inr (hw _ (List.mem_of_getElem? (i := 18) rfl))) (ty := (.array .int)) (by decide)
    have F269 : Fld Z h263 a263 "com/example/galicia/galicia/lime/SparseVector" "values" "[D" .null := D263 (Or.inr (hw _ (List.mem_of_getElem? (i := 20) rfl))) (ty := (.array .double)) (by decide)
    show own_Go _ _ _ _ _ _ _ T263 (mkF m 304 L260 [(.ref a263)])
    refine own_pre (T' := T263) (g' := (mkF m 305 L260 [(.ref a263), (.ref a263)])) (fun t k => XS.dup X263.here hx rfl (hb hby at_304) rfl rfl k) ?_
    refine own_pre (T' := T263) (g' := (mkF m 307 L260 [(.ref a214), (.ref a263), (.ref a263)])) (fun t k => XS.aload X263.here hx rfl (v := (.ref a214)) (hb hby at_305) (by rw [← hL260]; rfl) rfl k) ?_
    refine own_pre (T' := T263) (g' := (mkF m 309 L260 [(.ref a221), (.ref a214), (.ref a263), (.ref a263)])) (fun t k => XS.aload X263.here hx rfl (v := (.ref a221)) (hb hby at_307) (by rw [← hL260]; rfl) rfl k) ?_
    have F270 : n0 ≤ h263.size := (Nat.le_trans F257 E263.1)
    refine own_init (a := a263) (argsL := [(.ref a214), (.ref a221)]) (rest := [(.ref a263)]) X263 hx hZ hown (own_svinit l Z a0 hw [] a263 a214 a221 h263 n0 F270 A263 F268 F269 nw267) rfl (hw _ (List.mem_of_getElem? (i := 11) rfl)) (hw _ (List.mem_of_getElem? (i := 12) rfl)) (hw _ (List.mem_of_getElem? (i := 13) rfl)) (hw _ (List.mem_of_getElem? (i := 10) rfl)) (by decide) e263 (hb hby at_309) (by rw [hml, ← hL260]; rfl) rfl (lenOf own_pd1 rfl) (by decide) (W := 1) (Nat.le_of_eq rfl) (by decide) (by decide) (by decide) ?_
    intro v271 T271 lo271 X271 Q271
    obtain ⟨h271, e271⟩ : ∃ h, T271.heap = h := ⟨_, rfl⟩
    rw [e271] at Q271
    obtain ⟨rfl, N271, K271, G1271, G2271⟩ := Q271
    have N271' := Fr.app N258' N271
    show own_Go _ _ _ _ _ _ _ T271 (mkF m 312 L260 [(.ref a263)])
    refine own_pre (T' := T271) (g' := (mkF m 314 L260 [(.ref a10), (.ref a263)])) (fun t k => XS.aload X271.here hx rfl (v := (.ref a10)) (hb hby at_312) (by rw [← hL260]; rfl) rfl k) ?_
    have F272 : n0 ≤ h271.size := (Nat.le_trans F270 K271.1)
    have F273 : own_Ary Z h271 a214 .int [(.int v4), (.int v6), (.int v8)] := ((F262.ext E263).keep K271 (ninS (Nat.ne_of_lt lt265) nin0))
    have F274 : own_Ary Z h271 a221 .double [(.double f231), (.double f242), (.double f253)] := ((F256.ext E263).keep K271 (ninS (Nat.ne_of_lt lt266) nin0))
    have F275 : own_Ary Z h271 a10 .double [(.double f16), (.double f21), (.double f26), (.double f31), (.double f36), (.double f41), (.double f46), (.double f51), (.double f56), (.double f61), (.double f66), (.double f71)] := ((F261.ext E263).keep K271 (ninS (Nat.ne_of_lt lt264) nin0))
    have F276 : Exa Z h271 a263 "com/example/galicia/galicia/lime/SparseVector" := (A263.keep K271)
    refine own_callv (a := a263) (argsL := [(.ref a10)]) (rest := []) X271 hx hZ hown (own_dot3 l Z a0 hw [] a263 a214 a221 a10 _ v4 f231 y0 p1.toInt (own_entAt p4 p5 v4).toInt v6 f242 y1 p2.toInt (own_entAt p4 p5 v6).toInt v8 f253 y2 p3.toInt (own_entAt p4 p5 v8).toInt h271 n0 F272 G1271 G2271 F273 F274 F275 hq0.1 hy0 Df231 DY0 hB0 hq1.1 hy1 Df242 DY1 hB1 hq2.1 hy2 Df253 DY2 hB2) F276 (hw _ (List.mem_of_getElem? (i := 21) rfl)) (hw _ (List.mem_of_getElem? (i := 22) rfl)) (hw _ (List.mem_of_getElem? (i := 24) rfl)) (hw _ (List.mem_of_getElem? (i := 23) rfl)) (hw _ (List.mem_of_getElem? (i := 25) rfl)) (hw _ (List.mem_of_getElem? (i := 10) rfl)) (by decide) e271 (hb hby at_314) (by rw [hml, ← hL260]; rfl) rfl (lenOf own_pd2 rfl) (by decide) (W := 0) (Nat.le_of_eq rfl) (by decide) (by decide) (by decide) ?_
    intro v277 T277 lo277 X277 Q277
    obtain ⟨h277, e277⟩ : ∃ h, T277.heap = h := ⟨_, rfl⟩
    rw [e277] at Q277
    obtain ⟨r277, rfl, DR277, N277, q277⟩ := Q277
    have N277' := Fr.app N271' N277
    have e277' : T277.heap = h271 := e277.trans q277
    show own_Go _ _ _ _ _ _ _ T277 (mkF m 317 L260 [(.double r277)])
    refine own_pre (T' := T277) (g' := (mkF m 319 #[.val (.int p0), .val (.int p1), .val (.int p2), .val (.int p3), .val (.long p4), .second, .val (.long p5), .second, .val (.int (3 : Int32)), .val (.int v4), .val (.int v6), .val (.int v8), .val (.ref a10), .val (.ref a214), .val (.ref a221), .val (.long v259), .second, .val (.double r277), .second] [])) (fun t k => XS.dstore X277.here hx rfl (hb hby at_317) rfl (l' := #[.val (.int p0), .val (.int p1), .val (.int p2), .val (.int p3), .val (.long p4), .second, .val (.long p5), .second, .val (.int (3 : Int32)), .val (.int v4), .val (.int v6), .val (.int v8), .val (.ref a10), .val (.ref a214), .val (.ref a221), .val (.long v259), .second, .val (.double r277), .second]) (by rw [← hL260]; rfl) k) ?_
    generalize hL278 : (#[.val (.int p0), .val (.int p1), .val (.int p2), .val (.int p3), .val (.long p4), .second, .val (.long p5), .second, .val (.int (3 : Int32)), .val (.int v4), .val (.int v6), .val (.int v8), .val (.ref a10), .val (.ref a214), .val (.ref a221), .val (.long v259), .second, .val (.double r277), .second] : Array Slot) = L278
    refine own_pre (T' := T277) (g' := (mkF m 321 L278 [(.double r277)])) (fun t k => XS.dload X277.here hx rfl (v := r277) (hb hby at_319) (by rw [← hL278]; rfl) k) ?_
    refine own_pre (T' := T277) (g' := (mkF m 323 L278 [(.long v259), (.double r277)])) (fun t k => XT.lload X277.here hx rfl (v := v259) (hb hby at_321) (by rw [← hL278]; rfl) k) ?_
    obtain ⟨f279, hf279⟩ : ∃ z, FP.l2d v259 = z := ⟨_, rfl⟩
    refine own_pre (T' := T277) (g' := (mkF m 324 L278 [(.double f279), (.double r277)])) (fun t k => XS.l2dS X277.here hx rfl (hb hby at_323) rfl hf279 k) ?_
    have hX : v259.toInt = (((0 + (p1.toInt * (own_entAt p4 p5 v4).toInt)) + (p2.toInt * (own_entAt p4 p5 v6).toInt)) + (p3.toInt * (own_entAt p4 p5 v8).toInt)) := own_exp3 hB0 hB1 hB2 hv237 hv248 hv259
    have Df279 : Jvm.FP.Core.DInt v259.toInt f279 := hf279 ▸ Jvm.FP.Core.l2d_int (by rw [hX]; omega)
    obtain ⟨k280, hk280⟩ : ∃ z, own_c (((0 + (p1.toInt * (own_entAt p4 p5 v4).toInt)) + (p2.toInt * (own_entAt p4 p5 v6).toInt)) + (p3.toInt * (own_entAt p4 p5 v8).toInt)) v259.toInt = z := ⟨_, rfl⟩
    refine own_pre (T' := T277) (g' := (mkF m 325 L278 [(.int k280)])) (fun t k => XS.dcmpS X277.here hx rfl (hb hby at_324) rfl ((own_dcmp DR277 Df279 _).trans hk280) k) ?_
    have hk0 : k280 = (0 : Int32) := by rw [← hk280, own_c_eq, hX]
    refine own_pre (T' := T277) (g' := (mkF m 328 L278 [])) (fun t k => XS.ifNo X277.here hx rfl (hb hby at_325) rfl ((if0 _ _).trans (teq hk0).2) k) ?_
    refine own_pre (T' := T277) (g' := (mkF m 329 L278 [(.int (1 : Int32))])) (fun t k => XS.iconst X277.here hx rfl (hb hby at_328) k) ?_
    refine own_pre (T' := T277) (g' := (mkF m 333 L278 [(.int (1 : Int32))])) (fun t k => XS.goto X277.here hx rfl (pc0 := 329) (pc' := 333) rfl (hb hby at_329) (by decide) (by decide) k) ?_
    exact own_retZ X277 hx hlk hret rfl (hb hby at_333) e277' ⟨rfl, N277'⟩ (by decide) (by decide)
set_option maxRecDepth 65536 in
set_option maxHeartbeats 40000000 in
theorem own_comes {Post : Tables → Env → Array Value → State → Outcome → State → Prop} (hpost : ∀ tb e args s v u, (limb_1_1.after args s (.returned v) u = true ∧ limb_1_2.after args s (.returned v) u = true ∧ True) → FrameEnd s (.returned v) u (Jvm.fieldLocs frame_1_writes args s ++ Jvm.arrayLocs frame_1_arrays args s ++ Jvm.staticLocs frame_1_statics s) 16 128 → Post tb e args s (.returned v) u) :
    ArmFor flags0 classFile x code maxLocals ret World_1 tables_1 room_1 Calls_1 rest_1 Pre_1 Post := by
  intro l hfl _ _ p e ha hc hk s m args below hf hA hF happ hP
  obtain ⟨hcalls, hrest, hpre⟩ := hP
  obtain ⟨-, -, -, hnamed, -, -, -, hat⟩ := (Spec.applies_iff hf).mp happ
  obtain ⟨hg, hn⟩ := and_e (Cond.before_iff.mp (show (Jvm.Cond.and given_1 narrow_1).before args s = true from hpre))
  obtain ⟨hcount, g0⟩ := and_e hg
  obtain ⟨k0, g1⟩ := and_e g0
  obtain ⟨k1, g2⟩ := and_e g1
  obtain ⟨k2, g3⟩ := and_e g2
  obtain ⟨k3, g4⟩ := and_e g3
  obtain ⟨k4, g5⟩ := and_e g4
  have k5 := g5
  obtain ⟨w0, w1, w2, w3, w4, w5, rfl⟩ : ∃ w0 w1 w2 w3 w4 w5, args = #[w0, w1, w2, w3, w4, w5] := by
    have hs : args.size = 6 := by simpa [Cond.value, given_1] using hcount
    obtain ⟨L⟩ := args
    match L, hs with
    | [w0, w1, w2, w3, w4, w5], _ => exact ⟨w0, w1, w2, w3, w4, w5, rfl⟩
  have hw := fun d (hd : d ∈ tables_1) => atoms_spec (ws := Jvm.Cond.code x code maxLocals ret :: tables_1) hat d (List.mem_cons_of_mem _ hd)
  obtain ⟨i0, e0⟩ := is_v k0
  obtain rfl : w0 = (.int i0) := Option.some.inj e0
  obtain ⟨i1, e1⟩ := is_v k1
  obtain rfl : w1 = (.int i1) := Option.some.inj e1
  obtain ⟨i2, e2⟩ := is_v k2
  obtain rfl : w2 = (.int i2) := Option.some.inj e2
  obtain ⟨i3, e3⟩ := is_v k3
  obtain rfl : w3 = (.int i3) := Option.some.inj e3
  obtain ⟨i4, e4⟩ := isL_v k4
  obtain rfl : w4 = (.long i4) := Option.some.inj e4
  obtain ⟨i5, e5⟩ := isL_v k5
  obtain rfl : w5 = (.long i5) := Option.some.inj e5
  obtain ⟨n, o, h1, h2, h3, _, L, rfl, ⟨rfl, N⟩, hq⟩ := own_law l s _ hw tables_1 i0 i1 i2 i3 i4 i5 s.heap s.heap.size (Nat.le_refl _)  p e ha hc hk s m _ below hf ((Spec.applies_iff_loose hf).mp happ).1 ⟨rfl, State.Warmed39.refl s, rfl⟩ trivial
  refine ⟨n, _, h1, h2, h3, hpost _ _ _ _ _ _ ⟨Cond.after_iff.mpr rfl, Cond.after_iff.mpr (eq_i res_at (Term.int_eval (1)) rfl), trivial⟩ ⟨hq.1, hq.2.1, (hq.2.2.sift fun y hy => Or.inr (N y hy)).mono (by decide) (by decide)⟩⟩
theorem main_1_1 : Claimed_1_1 := own_comes fun _ _ _ _ _ _ h hF => ⟨h.1, hF⟩
theorem main_1_2 : Claimed_1_2 := own_comes fun _ _ _ _ _ _ h hF => ⟨h.2.1, hF⟩
end Jvm.Pilot.@@N@@
namespace Jvm.Pilot.@@N@@
open Jvm Jvm.ClassFile Sem Op Lib Jvm.Free Jvm.Stand Jvm.Pilot.@@N@@.Jvm.D
/-! MADE BY PROGRAM (witnessworld.py) out of the Statement's table words and the real class files: 11 classes; the members and pool entries that the words name. The judged class is class 1, her method 1. -/
namespace start1
open Jvm.ClassFile
def u (s : String) : CpInfo := .utf8 (stringToUtf16 s)
/-- a pool by its gaps: so many unusable entries, then the entry; so many at the end -/
def gap : Nat → List CpInfo → List CpInfo
  | 0, r => r
  | n + 1, r => .unusable :: gap n r
def poolList (es : List (Nat × CpInfo)) (last : Nat) : List CpInfo := es.foldr (fun e r => gap e.1 (e.2 :: r)) (gap last [])
def pool (es : List (Nat × CpInfo)) (last : Nat) : Array CpInfo := ⟨poolList es last⟩
def fileOf (pool : Array CpInfo) (this : Nat) (attrs : Array Attribute := #[]) (ms : Array MethodInfo := #[]) (fl : Nat := 33) (sup : Nat := 0) (ifs : Array Nat := #[]) (fds : Array FieldInfo := #[]) : ClassFile where
  minorVersion := 0
  majorVersion := 65
  constantPool := pool
  accessFlags := fl
  thisClass := this
  superClass := sup
  interfaces := ifs
  fields := fds
  methods := ms
  attributes := attrs
def plain (name : String) (sup : Option ClassId) : Class where
  name := name
  kind := .ordinary
  loader := none
  accessFlags := 33
  super := sup
  interfaces := #[]
  cf := none
  fields := #[]
  methods := #[]
  instanceTypes := #[]
  staticTypes := #[]
  resolved := #[]
  callSites := []
  init := .initialized
  statics := none
  mirror := none

def pool0 : Array CpInfo := pool [(5, u "<init>"), (0, u "()V"), (1, .class_ 10), (1, u "java/lang/Object")] 113

def k0c0 : Code := { maxStack := 0, maxLocals := 1, code := object_method_1_code, exceptionTable := #[], attributes := #[] }
def k0m0 : Method := { name := "<init>", desc := "()V", sig := { parameters := [], returnType := none }, accessFlags := 1, code := some k0c0 }
/-- java/lang/Object -/
def k0 : Class := { plain "java/lang/Object" none with
  accessFlags := 33
  interfaces := #[]
  cf := some (fileOf pool0 8 #[] #[{ accessFlags := 1, nameIndex := 5, descriptorIndex := 6, attributes := #[] }] 33 0 #[] #[])
  fields := #[]
  methods := #[k0m0]
  instanceTypes := #[]
  staticTypes := #[]
  resolved := Array.replicate 124 none
  statics := none }

def pool1 : Array CpInfo := pool [(2, .class_ 4), (1, u "java/lang/Object"), (0, u "<init>"), (0, u "()V"), (0, .methodref 8 9), (0, .class_ 10), (0, .nameAndType 11 12), (0, u "com/example/galicia/galicia/lime/SparseVectorDotPinLaw"), (0, u "ent"), (0, u "(JI)J"), (0, .methodref 8 14), (0, .nameAndType 15 16), (0, u "entAt"), (0, u "(JJI)J"), (0, .class_ 18), (0, u "com/example/galicia/galicia/lime/SparseVector"), (0, .methodref 17 20), (0, .nameAndType 5 21), (0, u "([I[D)V"), (0, .methodref 17 23), (0, .nameAndType 24 25), (0, u "dot"), (0, u "([D)D"), (0, .long 1023), (1, .long 512), (3, u "law"), (0, u "(IIIIJJ)Z")] 7

def k1m0 : Method := { name := "<init>", desc := "()V", sig := { parameters := [], returnType := none }, accessFlags := 1, code := none }
def k1c1 : Code := { maxStack := 9, maxLocals := 19, code := code, exceptionTable := #[], attributes := #[] }
def k1m1 : Method := { name := "law", desc := "(IIIIJJ)Z", sig := { parameters := [.int, .int, .int, .int, .long, .long], returnType := some .boolean }, accessFlags := 9, code := some k1c1 }
def k1c2 : Code := { maxStack := 4, maxLocals := 3, code := method_3_code, exceptionTable := #[], attributes := #[] }
def k1m2 : Method := { name := "ent", desc := "(JI)J", sig := { parameters := [.long, .int], returnType := some .long }, accessFlags := 10, code := some k1c2 }
def k1c3 : Code := { maxStack := 4, maxLocals := 5, code := method_4_code, exceptionTable := #[], attributes := #[] }
def k1m3 : Method := { name := "entAt", desc := "(JJI)J", sig := { parameters := [.long, .long, .int], returnType := some .long }, accessFlags := 10, code := some k1c3 }
/-- com/example/galicia/galicia/lime/SparseVectorDotPinLaw -/
def k1 : Class := { plain "com/example/galicia/galicia/lime/SparseVectorDotPinLaw" (some 0) with
  accessFlags := 49
  interfaces := #[]
  cf := some (fileOf pool1 8 #[] #[{ accessFlags := 1, nameIndex := 5, descriptorIndex := 6, attributes := #[] }, { accessFlags := 9, nameIndex := 32, descriptorIndex := 33, attributes := #[] }, { accessFlags := 10, nameIndex := 11, descriptorIndex := 12, attributes := #[] }, { accessFlags := 10, nameIndex := 15, descriptorIndex := 16, attributes := #[] }] 49 2 #[] #[])
  fields := #[]
  methods := #[k1m0, k1m1, k1m2, k1m3]
  instanceTypes := #[]
  staticTypes := #[]
  resolved := Array.replicate 41 none
  statics := none }

def pool2 : Array CpInfo := pool [(1, .methodref 2 3), (0, .class_ 4), (0, .nameAndType 5 6), (0, u "java/lang/Object"), (0, u "<init>"), (0, u "()V"), (0, .fieldref 8 9), (0, .class_ 10), (0, .nameAndType 11 12), (0, u "com/example/galicia/galicia/lime/SparseVector"), (0, u "positions"), (0, u "[I"), (0, .fieldref 8 14), (0, .nameAndType 15 16), (0, u "values"), (0, u "[D"), (12, u "([I[D)V"), (16, u "ROUNDING"), (0, u "D"), (13, u "dot"), (0, u "([D)D")] 8

def k2c0 : Code := { maxStack := 2, maxLocals := 3, code := prog_32_method_1_code, exceptionTable := #[], attributes := #[] }
def k2m0 : Method := { name := "<init>", desc := "([I[D)V", sig := { parameters := [(.array .int), (.array .double)], returnType := none }, accessFlags := 0, code := some k2c0 }
def k2c1 : Code := { maxStack := 7, maxLocals := 5, code := prog_32_method_6_code, exceptionTable := #[], attributes := #[] }
def k2m1 : Method := { name := "dot", desc := "([D)D", sig := { parameters := [(.array .double)], returnType := some .double }, accessFlags := 0, code := some k2c1 }
/-- com/example/galicia/galicia/lime/SparseVector -/
def k2 : Class := { plain "com/example/galicia/galicia/lime/SparseVector" (some 0) with
  accessFlags := 48
  interfaces := #[]
  cf := some (fileOf pool2 8 #[] #[{ accessFlags := 0, nameIndex := 5, descriptorIndex := 29, attributes := #[] }, { accessFlags := 0, nameIndex := 61, descriptorIndex := 62, attributes := #[] }] 48 2 #[] #[{ accessFlags := 24, nameIndex := 46, descriptorIndex := 47, attributes := #[] }, { accessFlags := 18, nameIndex := 11, descriptorIndex := 12, attributes := #[] }, { accessFlags := 18, nameIndex := 15, descriptorIndex := 16, attributes := #[] }])
  fields := #[{ name := "ROUNDING", type := .double, accessFlags := 24, slot := 0, constantValue := 0 }, { name := "positions", type := (.array .int), accessFlags := 18, slot := 0, constantValue := 0 }, { name := "values", type := (.array .double), accessFlags := 18, slot := 1, constantValue := 0 }]
  methods := #[k2m0, k2m1]
  instanceTypes := #[(.array .int), (.array .double)]
  staticTypes := #[.double]
  resolved := Array.replicate 71 none
  statics := none }

def pool3 : Array CpInfo := pool [(1, u "java/lang/Cloneable"), (0, .class_ 1), (0, u "java/lang/Object"), (0, .class_ 3)] 3

/-- java/lang/Cloneable -/
def k3 : Class := { plain "java/lang/Cloneable" (some 0) with
  accessFlags := 1537
  interfaces := #[]
  cf := some (fileOf pool3 2 #[] #[] 1537 4 #[] #[])
  fields := #[]
  methods := #[]
  instanceTypes := #[]
  staticTypes := #[]
  resolved := Array.replicate 8 none
  statics := none }

def pool4 : Array CpInfo := pool [(1, u "java/io/Serializable"), (0, .class_ 1), (0, u "java/lang/Object"), (0, .class_ 3)] 3

/-- java/io/Serializable -/
def k4 : Class := { plain "java/io/Serializable" (some 0) with
  accessFlags := 1537
  interfaces := #[]
  cf := some (fileOf pool4 2 #[] #[] 1537 4 #[] #[])
  fields := #[]
  methods := #[]
  instanceTypes := #[]
  staticTypes := #[]
  resolved := Array.replicate 8 none
  statics := none }

/-- the primitive byte -/
def k5 : Class := { plain "byte" none with kind := .primitive 'B', accessFlags := 0x411 }
/-- [B -/
def k6 : Class := { plain "[B" (some 0) with kind := .array 5 .byte, interfaces := #[3, 4], accessFlags := 1041 }

/-- the primitive double -/
def k7 : Class := { plain "double" none with kind := .primitive 'D', accessFlags := 0x411 }
/-- [D -/
def k8 : Class := { plain "[D" (some 0) with kind := .array 7 .double, interfaces := #[3, 4], accessFlags := 1041 }

/-- the primitive int -/
def k9 : Class := { plain "int" none with kind := .primitive 'I', accessFlags := 0x411 }
/-- [I -/
def k10 : Class := { plain "[I" (some 0) with kind := .array 9 .int, interfaces := #[3, 4], accessFlags := 1041 }

def heap : Heap := #[]
def classes : Array Class := #[k0, k1, k2, k3, k4, k5, k6, k7, k8, k9, k10]
def interned : List (Array UInt16 × Addr) := []
def slotsUsed : Nat := 0
def theMethod : MethodId := ⟨1, 1⟩
def args0 : Array Value := #[.int 5, .int 7, .int 9, .int 9, .long 9, .long 9]
def aboutOver (below : List Frame) : State where
  vm := { classes := classes, interned := interned.toArray }
  heap := heap
  slotsUsed := slotsUsed
  threads := #[{ frames := .invoking theMethod args0 :: below }]
def below0 : List Frame := [.native { method := ⟨0, 0⟩, args := #[] }]
def about1 : State := aboutOver below0
def p0 : Program := .bare "" "" ""
def e0 : Env := launch0.env 0 0 0
theorem w_frames : about1.frames = Frame.invoking theMethod args0 :: below0 := rfl
set_option maxRecDepth 65536 in
theorem w_args : argsFit about1.vm theMethod args0 = true := by decide +kernel
set_option maxRecDepth 65536 in
theorem w_heap : heapFits about1 = true := by decide +kernel
set_option maxRecDepth 65536 in
theorem w_runnable : about1.curStatus? = some .runnable := by decide +kernel
set_option maxRecDepth 65536 in
theorem w_alone : about1.alone = true := by decide +kernel
set_option maxRecDepth 65536 in
theorem w_named : about1.methodNamed? x = some theMethod := by decide +kernel
set_option maxRecDepth 65536 in
theorem w_hears : about1.hears theMethod below0 = true := by decide +kernel
set_option maxRecDepth 65536 in
theorem w_ripe : about1.ripe theMethod args0 below0 = true := by decide +kernel
theorem w_running : about1.status = .running := rfl
set_option maxRecDepth 65536 in
theorem w_room : about1.hasRoom e0.platform room_1 = true :=
  launch0.hasRoom_least _ room_1 (by decide +kernel) (by decide +kernel) (by decide +kernel) (by decide +kernel) (by decide +kernel) (by decide +kernel)
theorem allAtoms_all (ts : List Jvm.Cond) (a : Array Jvm.Value) (st : Jvm.State) : (allAtoms ts).before a st = ts.all (fun c => c.before a st) := by
  induction ts with
  | nil => rfl
  | cons c t ih =>
    show (Jvm.Cond.and c (allAtoms t)).before a st = _
    rw [Jvm.Cond.before_and, ih, List.all_cons]
def words1 : List Jvm.Cond := Jvm.Cond.code x code maxLocals ret :: tables_1
/-- a 'code' word, met by the world's own term for the bytes: nothing is compared byte by byte -/
theorem code_word {y : MethodName} {bytes : ByteArray} {mx : Nat} {rt : Option FieldType} {a : Array Value} {s : State} {m : MethodId} {meth : Method} {c : Code} (h1 : s.methodNamed? y = some m) (h2 : s.vm.method? m = some meth) (h3 : meth.code = some c) (h4 : c.code = bytes)
    (h5 : (c.maxLocals == mx && c.exceptionTable.isEmpty && decide (c.maxStack ≤ mostOperands) && decide (meth.sig.returnType = rt) && !meth.locks && decide (parseMethodDescriptor y.desc = some meth.sig)) = true) : (Jvm.Cond.code y bytes mx rt).before a s = true := by
  simp only [Bool.and_eq_true, beq_iff_eq, Bool.not_eq_true', decide_eq_true_eq] at h5
  obtain ⟨⟨⟨⟨⟨g1, g2⟩, g3⟩, g4⟩, g5⟩, g6⟩ := h5
  simp [Cond.before, Cond.holds, Cond.value, h1, h2, h3, h4, g1, g2, g3, g4, g5, g6]
def isCode : Jvm.Cond → Bool
  | .code _ _ _ _ => true
  | _ => false
theorem all_split {L : List Jvm.Cond} {P : Jvm.Cond → Bool} (h1 : L.all (fun c => isCode c || P c) = true) (h2 : ∀ c ∈ L.filter isCode, P c = true) : L.all P = true := by
  refine List.all_eq_true.mpr fun c hc => ?_
  have h := List.all_eq_true.mp h1 c hc
  rcases Bool.eq_false_or_eq_true (isCode c) with hi | hi
  · exact h2 c (List.mem_filter.mpr ⟨hc, hi⟩)
  · simpa [hi] using h
set_option maxRecDepth 65536 in
theorem w_c0 : (Jvm.Cond.code x code maxLocals ret).before args0 about1 = true := code_word (m := ⟨1, 1⟩) (meth := k1m1) (c := k1c1) (by decide +kernel) rfl rfl rfl (by decide +kernel)
set_option maxRecDepth 65536 in
theorem w_c1 : (Jvm.Cond.code ({ cls := "com/example/galicia/galicia/lime/SparseVectorDotPinLaw", name := "ent", desc := "(JI)J" } : Jvm.MethodName) method_3_code (3 : Nat) (Option.some Jvm.ClassFile.FieldType.long)).before args0 about1 = true := code_word (m := ⟨1, 2⟩) (meth := k1m2) (c := k1c2) (by decide +kernel) rfl rfl rfl (by decide +kernel)
set_option maxRecDepth 65536 in
theorem w_c2 : (Jvm.Cond.code ({ cls := "com/example/galicia/galicia/lime/SparseVector", name := "<init>", desc := "([I[D)V" } : Jvm.MethodName) prog_32_method_1_code (3 : Nat) (Option.none : Option Jvm.ClassFile.FieldType)).before args0 about1 = true := code_word (m := ⟨2, 0⟩) (meth := k2m0) (c := k2c0) (by decide +kernel) rfl rfl rfl (by decide +kernel)
set_option maxRecDepth 65536 in
theorem w_c3 : (Jvm.Cond.code ({ cls := "java/lang/Object", name := "<init>", desc := "()V" } : Jvm.MethodName) object_method_1_code (1 : Nat) (Option.none : Option Jvm.ClassFile.FieldType)).before args0 about1 = true := code_word (m := ⟨0, 0⟩) (meth := k0m0) (c := k0c0) (by decide +kernel) rfl rfl rfl (by decide +kernel)
set_option maxRecDepth 65536 in
theorem w_c4 : (Jvm.Cond.code ({ cls := "com/example/galicia/galicia/lime/SparseVector", name := "dot", desc := "([D)D" } : Jvm.MethodName) prog_32_method_6_code (5 : Nat) (Option.some Jvm.ClassFile.FieldType.double)).before args0 about1 = true := code_word (m := ⟨2, 1⟩) (meth := k2m1) (c := k2c1) (by decide +kernel) rfl rfl rfl (by decide +kernel)
set_option maxRecDepth 65536 in
theorem w_c5 : (Jvm.Cond.code ({ cls := "com/example/galicia/galicia/lime/SparseVectorDotPinLaw", name := "entAt", desc := "(JJI)J" } : Jvm.MethodName) method_4_code (5 : Nat) (Option.some Jvm.ClassFile.FieldType.long)).before args0 about1 = true := code_word (m := ⟨1, 3⟩) (meth := k1m3) (c := k1c3) (by decide +kernel) rfl rfl rfl (by decide +kernel)
def codes1 : List Jvm.Cond := [Jvm.Cond.code x code maxLocals ret, Jvm.Cond.code ({ cls := "com/example/galicia/galicia/lime/SparseVectorDotPinLaw", name := "ent", desc := "(JI)J" } : Jvm.MethodName) method_3_code (3 : Nat) (Option.some Jvm.ClassFile.FieldType.long), Jvm.Cond.code ({ cls := "com/example/galicia/galicia/lime/SparseVector", name := "<init>", desc := "([I[D)V" } : Jvm.MethodName) prog_32_method_1_code (3 : Nat) (Option.none : Option Jvm.ClassFile.FieldType), Jvm.Cond.code ({ cls := "java/lang/Object", name := "<init>", desc := "()V" } : Jvm.MethodName) object_method_1_code (1 : Nat) (Option.none : Option Jvm.ClassFile.FieldType), Jvm.Cond.code ({ cls := "com/example/galicia/galicia/lime/SparseVector", name := "dot", desc := "([D)D" } : Jvm.MethodName) prog_32_method_6_code (5 : Nat) (Option.some Jvm.ClassFile.FieldType.double), Jvm.Cond.code ({ cls := "com/example/galicia/galicia/lime/SparseVectorDotPinLaw", name := "entAt", desc := "(JJI)J" } : Jvm.MethodName) method_4_code (5 : Nat) (Option.some Jvm.ClassFile.FieldType.long)]
set_option maxRecDepth 65536 in
theorem codes_eq : words1.filter isCode = codes1 := rfl
theorem w_codes : ∀ c ∈ words1.filter isCode, c.before args0 about1 = true := by
  rw [codes_eq]
  intro c hc
  simp only [codes1, List.mem_cons, List.not_mem_nil, or_false] at hc
  rcases hc with rfl | rfl | rfl | rfl | rfl | rfl
  · exact w_c0
  · exact w_c1
  · exact w_c2
  · exact w_c3
  · exact w_c4
  · exact w_c5
set_option maxRecDepth 65536 in
theorem w_t1 : (words1.take 24).all (fun c => isCode c || c.before args0 about1) = true := by decide +kernel
set_option maxRecDepth 65536 in
theorem w_t2 : (words1.drop 24).all (fun c => isCode c || c.before args0 about1) = true := by decide +kernel
theorem w_tables : (allAtoms (Jvm.Cond.code x code maxLocals ret :: tables_1)).before args0 about1 = true := by
  rw [allAtoms_all]
  show words1.all (fun c => c.before args0 about1) = true
  refine all_split ?_ w_codes
  rw [← List.take_append_drop 24 words1, List.all_append, w_t1, w_t2]
  rfl
set_option maxRecDepth 65536 in
theorem w_case : (Jvm.Cond.and given_1 narrow_1).before args0 about1 = true := by decide +kernel
theorem w_applies : (headSpec (Jvm.Cond.code x code maxLocals ret :: tables_1) room_1).applies x e0.platform about1 = true :=
  (Spec.applies_iff w_frames).mpr ⟨w_running, w_runnable, w_alone, w_named, w_hears, w_ripe, w_room, w_tables⟩
theorem atStart : AtStart classFile x code maxLocals ret World_1 tables_1 room_1 Calls_1 rest_1 Pre_1 launch0 p0 e0 about1 theMethod args0 below0 :=
  ⟨lists_1, trivial, launch0.admits_env _ _ _, launch0.least_env, fairChoices_fair.cas, fairChoices_fair.clock, w_frames, w_args, w_heap, w_applies, trivial, trivial, w_case⟩
end start1
theorem witness_1 : WitnessClaimed_1 := ⟨start1.p0, start1.e0, start1.about1, start1.theMethod, start1.args0, start1.below0, start1.atStart⟩
end Jvm.Pilot.@@N@@
