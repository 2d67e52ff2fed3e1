import JvmDerived
import JvmDerived.Pilot.@@N@@Statement
import JvmDerived.Pilot.@@N@@Code
set_option linter.unusedVariables false
set_option linter.unusedSimpArgs false
namespace Jvm.RoadKit
open Sem ClassFile Op Lib Jvm.Stand Jvm.Free Jvm.LawKit
/-- what is left of a walk: from this frame the method returns, and what it leaves is as Q says -/
def own_Go (p : Program) (e : Env) (below : List Frame) (s : State) (Q : Option Value → Heap → List Loc → Prop) (kc ks : Nat) (T : State) (g : JFrame) : Prop :=
  ∃ s₂ o, Steps p.tables e below (T.setTop g) s₂ ∧ s₂.status = .running ∧ Ended s₂ below o ∧ ∃ v L, o = .returned v ∧ Q v s₂.heap L ∧ FrameEnd s o s₂ L kc ks
section Own
variable {p : Program} {l : Launch} {e : Env} {R : Room} {s : State} {m : MethodId} {args : Array Value} {below : List Frame} {meth : Method} {c : Code} {T T' : State} {locs : List Loc} {cells slots : Nat} {Z : State} {h h' h0 : Heap} {Q : Option Value → Heap → List Loc → Prop} {kc ks : Nat} {g g' : JFrame} {a0 : Array Value} {pc : Nat} {Ls : Array Slot} {rest : List Value} {a b : Addr} {n0 : Nat} {ty : FieldType} {vs : List Value} {C : String} {sl : Nat} {v : Value} {ws : List Addr}
theorem own_pre (st : ∀ t, Steps p.tables e below (T'.setTop g') t → Steps p.tables e below (T.setTop g) t) (k : own_Go p e below s Q kc ks T' g') : own_Go p e below s Q kc ks T g := by
  obtain ⟨s₂, o, h1, r⟩ := k
  exact ⟨s₂, o, st _ h1, r⟩
theorem own_tr (st : Steps p.tables e below (T.setTop g) (T'.setTop g')) (k : own_Go p e below s Q kc ks T' g') : own_Go p e below s Q kc ks T g := by
  obtain ⟨s₂, o, h1, r⟩ := k
  exact ⟨s₂, o, st.trans h1, r⟩
theorem own_cast (q : g = g') (k : own_Go p e below s Q kc ks T g') : own_Go p e below s Q kc ks T g := q ▸ k
theorem own_ret (X : Stand p l e R s m args below meth c T locs cells slots) (hlk : meth.locks = false) {v : Option Value} (hv : meth.sig.returnType = none → v = none) (eT : T.heap = h)
    (st : ∀ fs, (∀ (f : JFrame) (acts : List Action), f.method = m → f.locked = none → f.entered = [] → (doReturn e (T.setTop f) acts v).1 = T.setFrames fs) → Steps p.tables e below (T.setTop g) (T.setFrames fs))
    (hq : Q v h locs) (hc : cells ≤ kc) (hs : slots ≤ ks) : own_Go p e below s Q kc ks T g := by
  obtain ⟨fs, hr, hrun, hended, hW, hsame⟩ := X.leave (v := v) hv hlk
  exact ⟨_, _, st fs hr, hrun, hended, _, _, rfl, (by show Q v T.heap _; rw [eT]; exact hq), ⟨_, rfl⟩, hW, hsame.mono hc hs⟩
theorem own_ret0 (X : Stand p l e R s m args below meth c T locs cells slots) (hx : p.tables.exec = Jvm.exec) (hlk : meth.locks = false) (hret : meth.sig.returnType = none) (hd : decode c.code pc = .ok (.return_, 1)) (eT : T.heap = h) (hq : Q none h locs) (hc : cells ≤ kc) (hs : slots ≤ ks) : own_Go p e below s Q kc ks T (mkF m pc Ls []) :=
  own_ret X hlk (fun _ => rfl) eT (fun _ hr => X.returnOut hx hret hd hr) hq hc hs
theorem own_ret1 (X : Stand p l e R s m args below meth c T locs cells slots) (hx : p.tables.exec = Jvm.exec) (hlk : meth.locks = false) {w : Value} {t : FieldType} {i : Instr} (hret : meth.sig.returnType = some t) (hn : narrow t w = w)
    (hi : (i = .ireturn ∧ (t = .int ∨ t = .boolean ∨ t = .byte ∨ t = .char ∨ t = .short) ∧ ∃ z, w = .int z) ∨ (i = .lreturn ∧ t = .long ∧ ∃ z, w = .long z) ∨ (i = .dreturn ∧ t = .double ∧ ∃ z, w = .double z) ∨ (i = .freturn ∧ t = .float ∧ ∃ z, w = .float z) ∨ (i = .areturn ∧ t.isReference = true ∧ w.isRef = true))
    (hd : decode c.code pc = .ok (i, 1)) (eT : T.heap = h) (hq : Q (some w) h locs) (hc : cells ≤ kc) (hs : slots ≤ ks) : own_Go p e below s Q kc ks T (mkF m pc Ls (w :: rest)) :=
  own_ret X hlk (fun q => by rw [hret] at q; cases q) eT (fun _ hr => retOut X hx hret hn hi hd hr) hq hc hs
theorem own_retI (X : Stand p l e R s m args below meth c T locs cells slots) (hx : p.tables.exec = Jvm.exec) (hlk : meth.locks = false) {z : Int32} (hret : meth.sig.returnType = some .int) (hd : decode c.code pc = .ok (.ireturn, 1)) (eT : T.heap = h) (hq : Q (some (.int z)) h locs) (hc : cells ≤ kc) (hs : slots ≤ ks) : own_Go p e below s Q kc ks T (mkF m pc Ls (.int z :: rest)) :=
  own_ret1 X hx hlk hret rfl (Or.inl ⟨rfl, Or.inl rfl, _, rfl⟩) hd eT hq hc hs
theorem own_retZ (X : Stand p l e R s m args below meth c T locs cells slots) (hx : p.tables.exec = Jvm.exec) (hlk : meth.locks = false) {z : Int32} (hret : meth.sig.returnType = some .boolean) (hn : narrow .boolean (.int z) = .int z) (hd : decode c.code pc = .ok (.ireturn, 1)) (eT : T.heap = h) (hq : Q (some (.int z)) h locs) (hc : cells ≤ kc) (hs : slots ≤ ks) : own_Go p e below s Q kc ks T (mkF m pc Ls (.int z :: rest)) :=
  own_ret1 X hx hlk hret hn (Or.inl ⟨rfl, Or.inr (Or.inl rfl), _, rfl⟩) hd eT hq hc hs
theorem own_retL (X : Stand p l e R s m args below meth c T locs cells slots) (hx : p.tables.exec = Jvm.exec) (hlk : meth.locks = false) {z : Int64} (hret : meth.sig.returnType = some .long) (hd : decode c.code pc = .ok (.lreturn, 1)) (eT : T.heap = h) (hq : Q (some (.long z)) h locs) (hc : cells ≤ kc) (hs : slots ≤ ks) : own_Go p e below s Q kc ks T (mkF m pc Ls (.long z :: rest)) :=
  own_ret1 X hx hlk hret rfl (Or.inr (Or.inl ⟨rfl, rfl, _, rfl⟩)) hd eT hq hc hs
theorem own_retD (X : Stand p l e R s m args below meth c T locs cells slots) (hx : p.tables.exec = Jvm.exec) (hlk : meth.locks = false) {z : UInt64} (hret : meth.sig.returnType = some .double) (hd : decode c.code pc = .ok (.dreturn, 1)) (eT : T.heap = h) (hq : Q (some (.double z)) h locs) (hc : cells ≤ kc) (hs : slots ≤ ks) : own_Go p e below s Q kc ks T (mkF m pc Ls (.double z :: rest)) :=
  own_ret1 X hx hlk hret rfl (Or.inr (Or.inr (Or.inl ⟨rfl, rfl, _, rfl⟩))) hd eT hq hc hs
theorem own_retA (X : Stand p l e R s m args below meth c T locs cells slots) (hx : p.tables.exec = Jvm.exec) (hlk : meth.locks = false) {w : Value} {t : FieldType} (hret : meth.sig.returnType = some t) (ht : t.isReference = true) (hw : w.isRef = true) (hn : narrow t w = w) (hd : decode c.code pc = .ok (.areturn, 1)) (eT : T.heap = h) (hq : Q (some w) h locs) (hc : cells ≤ kc) (hs : slots ≤ ks) : own_Go p e below s Q kc ks T (mkF m pc Ls (w :: rest)) :=
  own_ret1 X hx hlk hret hn (Or.inr (Or.inr (Or.inr (Or.inr ⟨rfl, ht, hw⟩)))) hd eT hq hc hs
/-- a contract out of a walk -/
theorem own_met {y : MethodName} {bytes : ByteArray} {maxL : Nat} {ret : Option FieldType} {wds : List Cond} {rm : Room} {as' : Array Value} (hpl : plainName y.cls = true)
    (body : ∀ p e s m below meth c s₁, p.tables.exec = Jvm.exec → c.code = bytes → c.maxLocals = maxL → Z.Warmed39 s.vm → s.vm.findClass y.cls = some m.cls → meth.name = y.name → meth.sig.returnType = ret → meth.locks = false → Stand p l e rm s m as' below meth c s₁ [] 0 0 → s₁.heap = h → own_Go p e below s Q rm.cells rm.slots s₁ (entryFrame m as' maxL)) :
    MetFree l y (head1 (Cond.code y bytes maxL ret :: wds) rm) (fun a U => a = as' ∧ Z.Warmed39 U.vm ∧ U.heap = h) (fun _ _ _ _ _ => True) (fun _ U o U' => ∃ v L, o = .returned v ∧ Q v U'.heap L ∧ FrameEnd U o U' L rm.cells rm.slots) := by
  refine MetFree.of_bodySF (plainFor_of_name hpl) hisR ?_
  intro p e s m args below meth c s₁ Bd hml0 hP hK
  obtain ⟨rfl, hZ, hh⟩ := hP
  exact body p e s m below meth c s₁ Bd.exec Bd.bytes hml0 hZ (findClass_of_methodNamed Bd.named) (name_of_methodNamed Bd.named Bd.method).1 Bd.returns Bd.notSynchronized (Stand.of_body Bd) (by rw [← hh, Bd.state]; rfl)
/-! arrays by their list -/
def own_Ary (Z : State) (h : Heap) (a : Addr) (ty : FieldType) (vs : List Value) : Prop := ∃ c : Cell, Arr Z h a c ty ∧ c.slots.toList = vs ∧ vs.length < 2 ^ 31
theorem own_Ary.lt (F : own_Ary Z h a ty vs) : a < h.size := by obtain ⟨c, A, -⟩ := F; exact A.lt
theorem own_Ary.ext (F : own_Ary Z h a ty vs) (E : Ext h h') : own_Ary Z h' a ty vs := by obtain ⟨c, A, r⟩ := F; exact ⟨c, A.ext E, r⟩
theorem own_Ary.other (F : own_Ary Z h b ty vs) (W : Wr h h' a sl v) (q : b ≠ a) : own_Ary Z h' b ty vs := by obtain ⟨c, A, r⟩ := F; exact ⟨c, A.other W q, r⟩
theorem own_Ary.keep (F : own_Ary Z h a ty vs) (K : Keep h h' ws) (q : a ∉ ws) : own_Ary Z h' a ty vs := by obtain ⟨c, A, r⟩ := F; exact ⟨c, ⟨K.2.1 a c A.1 q, A.2⟩, r⟩
theorem own_Ary.set (F : own_Ary Z h a ty vs) (W : Wr h h' a sl v) : own_Ary Z h' a ty (vs.set sl v) := by
  obtain ⟨c, A, r1, r2⟩ := F
  refine ⟨_, A.same W, ?_, by simpa using r2⟩
  simp [Cell.setSlot, r1]
theorem own_Ary.new {k : ClassId} {z : Int32} {n : Nat} (A : Arr Z h a (newA k ty z) ty) (q : z.toNatClampNeg = n) : own_Ary Z h a ty (List.replicate n (defaultValue ty)) := by
  refine ⟨_, A, ?_, ?_⟩
  · simp [newA, q]
  · have h1 := Int32.toInt_lt z
    simp only [Int32.toNatClampNeg] at q
    simp only [List.length_replicate]; omega
theorem own_inb {j : Int32} {n : Nat} {c : Cell} (h0 : 0 ≤ j) (hc : c.slots.toList = vs) (hj : j.toNatClampNeg = n) (hn : n < vs.length) : ¬ (j < 0 ∨ c.slots.size ≤ j.toNatClampNeg) := by
  subst hc hj
  rw [Array.length_toList] at hn
  intro q
  rcases q with q | q
  · exact absurd q (Int32.not_lt.mpr h0)
  · omega
theorem own_idx {n : Nat} {c : Cell} (hc : c.slots.toList = vs) (hv : vs[n]? = some v) : c.slots[n]? = some v := by
  subst hc; simpa using hv
theorem own_len (X : Stand p l e R s m args below meth c T locs cells slots) (hx : p.tables.exec = Jvm.exec) (hZ : Z.Warmed39 s.vm) (eT : T.heap = h) (F : own_Ary Z h a ty vs) (hd : decode c.code pc = .ok (.arraylength, 1)) {n : Int32} (hn : vs.length.toInt32 = n)
    (k : own_Go p e below s Q kc ks T (mkF m (pc + 1) Ls (.int n :: rest))) : own_Go p e below s Q kc ks T (mkF m pc Ls (.ref a :: rest)) := by
  obtain ⟨cl, A, r1, r2⟩ := F
  refine own_pre (fun t k => X.arraylength hx (cell := cl) (by rw [eT]; exact A.1) (State.isArrayOf_alike hZ.alike A.2.1) (g := mkF m pc Ls (.ref a :: rest)) rfl (rest := rest) rfl hd _ k) ?_
  have q : cl.slots.size = vs.length := by rw [← r1, Array.length_toList]
  rw [q, hn]; exact k
theorem own_iaload (X : Stand p l e R s m args below meth c T locs cells slots) (hx : p.tables.exec = Jvm.exec) (hZ : Z.Warmed39 s.vm) (eT : T.heap = h) (F : own_Ary Z h a .int vs) (hd : decode c.code pc = .ok (.iaload, 1)) {j : Int32} {n : Nat} (h0 : 0 ≤ j) (hj : j.toNatClampNeg = n) (hv : vs[n]? = some v)
    (k : own_Go p e below s Q kc ks T (mkF m (pc + 1) Ls (v :: rest))) : own_Go p e below s Q kc ks T (mkF m pc Ls (.int j :: .ref a :: rest)) := by
  obtain ⟨cl, A, r1, r2⟩ := F
  exact own_pre (fun t k => X.iaload hx (j := j) (v := v) (by rw [eT]; exact A.1) (State.isArrayOf_alike hZ.alike A.2.1) A.2.2 (own_inb h0 r1 hj (List.getElem?_eq_some_iff.mp hv).1) (own_idx r1 (hj ▸ hv)) (g := mkF m pc Ls (.int j :: .ref a :: rest)) rfl rfl hd _ k) k
theorem own_laload (X : Stand p l e R s m args below meth c T locs cells slots) (hx : p.tables.exec = Jvm.exec) (hZ : Z.Warmed39 s.vm) (eT : T.heap = h) (F : own_Ary Z h a .long vs) (hd : decode c.code pc = .ok (.laload, 1)) {j : Int32} {n : Nat} (h0 : 0 ≤ j) (hj : j.toNatClampNeg = n) (hv : vs[n]? = some v)
    (k : own_Go p e below s Q kc ks T (mkF m (pc + 1) Ls (v :: rest))) : own_Go p e below s Q kc ks T (mkF m pc Ls (.int j :: .ref a :: rest)) := by
  obtain ⟨cl, A, r1, r2⟩ := F
  exact own_pre (fun t k => X.laload hx (j := j) (v := v) (by rw [eT]; exact A.1) (State.isArrayOf_alike hZ.alike A.2.1) A.2.2 (own_inb h0 r1 hj (List.getElem?_eq_some_iff.mp hv).1) (own_idx r1 (hj ▸ hv)) (g := mkF m pc Ls (.int j :: .ref a :: rest)) rfl rfl hd _ k) k
theorem own_daload (X : Stand p l e R s m args below meth c T locs cells slots) (hx : p.tables.exec = Jvm.exec) (hZ : Z.Warmed39 s.vm) (eT : T.heap = h) (F : own_Ary Z h a .double vs) (hd : decode c.code pc = .ok (.daload, 1)) {j : Int32} {n : Nat} (h0 : 0 ≤ j) (hj : j.toNatClampNeg = n) (hv : vs[n]? = some v)
    (k : own_Go p e below s Q kc ks T (mkF m (pc + 1) Ls (v :: rest))) : own_Go p e below s Q kc ks T (mkF m pc Ls (.int j :: .ref a :: rest)) := by
  obtain ⟨cl, A, r1, r2⟩ := F
  exact own_pre (fun t k => X.daload hx (j := j) (v := v) (by rw [eT]; exact A.1) (State.isArrayOf_alike hZ.alike A.2.1) A.2.2 (own_inb h0 r1 hj (List.getElem?_eq_some_iff.mp hv).1) (own_idx r1 (hj ▸ hv)) (g := mkF m pc Ls (.int j :: .ref a :: rest)) rfl rfl hd _ k) k
theorem own_zaload (X : Stand p l e R s m args below meth c T locs cells slots) (hx : p.tables.exec = Jvm.exec) (hZ : Z.Warmed39 s.vm) (eT : T.heap = h) (F : own_Ary Z h a .boolean vs) (hd : decode c.code pc = .ok (.baload, 1)) {j : Int32} {n : Nat} (h0 : 0 ≤ j) (hj : j.toNatClampNeg = n) (hv : vs[n]? = some v)
    (k : own_Go p e below s Q kc ks T (mkF m (pc + 1) Ls (v :: rest))) : own_Go p e below s Q kc ks T (mkF m pc Ls (.int j :: .ref a :: rest)) := by
  obtain ⟨cl, A, r1, r2⟩ := F
  exact own_pre (fun t k => X.baloadBooleans hx (j := j) (v := v) (by rw [eT]; exact A.1) (State.isArrayOf_alike hZ.alike A.2.1) A.2.2 (own_inb h0 r1 hj (List.getElem?_eq_some_iff.mp hv).1) (own_idx r1 (hj ▸ hv)) (g := mkF m pc Ls (.int j :: .ref a :: rest)) rfl rfl hd _ k) k
theorem own_aaload (X : Stand p l e R s m args below meth c T locs cells slots) (hx : p.tables.exec = Jvm.exec) (hZ : Z.Warmed39 s.vm) (eT : T.heap = h) (F : own_Ary Z h a ty vs) (ht : ty.isReference = true) (hd : decode c.code pc = .ok (.aaload, 1)) {j : Int32} {n : Nat} (h0 : 0 ≤ j) (hj : j.toNatClampNeg = n) (hv : vs[n]? = some v)
    (k : own_Go p e below s Q kc ks T (mkF m (pc + 1) Ls (v :: rest))) : own_Go p e below s Q kc ks T (mkF m pc Ls (.int j :: .ref a :: rest)) := by
  obtain ⟨cl, A, r1, r2⟩ := F
  exact own_pre (fun t k => X.aaload hx (j := j) (v := v) (by rw [eT]; exact A.1) (State.isArrayOf_alike hZ.alike A.2.1) ht A.2.2 (own_inb h0 r1 hj (List.getElem?_eq_some_iff.mp hv).1) (own_idx r1 (hj ▸ hv)) (g := mkF m pc Ls (.int j :: .ref a :: rest)) rfl rfl hd _ k) k
theorem own_iastore (X : Stand p l e R s m args below meth c T locs cells slots) (hx : p.tables.exec = Jvm.exec) (hZ : Z.Warmed39 s.vm) (eT : T.heap = h) (N : Fr n0 locs) (q : n0 ≤ a) (F : own_Ary Z h a .int vs) (hd : decode c.code pc = .ok (.iastore, 1)) {j x : Int32} {n : Nat} (h0 : 0 ≤ j) (hj : j.toNatClampNeg = n) (hv : n < vs.length)
    (k : ∀ T' h' locs', Stand p l e R s m args below meth c T' locs' cells slots → T'.heap = h' → Fr n0 locs' → Wr h h' a n (.int x) → own_Go p e below s Q kc ks T' (mkF m (pc + 1) Ls rest)) : own_Go p e below s Q kc ks T (mkF m pc Ls (.int x :: .int j :: .ref a :: rest)) := by
  obtain ⟨cl, A, r1, r2⟩ := F
  obtain ⟨T', h', X', e', W, st⟩ := stI X hx hZ eT A (j := j) (x := x) (own_inb h0 r1 hj hv) (g := mkF m pc Ls (.int x :: .int j :: .ref a :: rest)) rfl rfl hd
  exact own_pre st (k T' h' _ X' e' (Fr.snoc X' N q) (hj ▸ W))
theorem own_lastore (X : Stand p l e R s m args below meth c T locs cells slots) (hx : p.tables.exec = Jvm.exec) (hZ : Z.Warmed39 s.vm) (eT : T.heap = h) (N : Fr n0 locs) (q : n0 ≤ a) (F : own_Ary Z h a .long vs) (hd : decode c.code pc = .ok (.lastore, 1)) {j : Int32} {x : Int64} {n : Nat} (h0 : 0 ≤ j) (hj : j.toNatClampNeg = n) (hv : n < vs.length)
    (k : ∀ T' h' locs', Stand p l e R s m args below meth c T' locs' cells slots → T'.heap = h' → Fr n0 locs' → Wr h h' a n (.long x) → own_Go p e below s Q kc ks T' (mkF m (pc + 1) Ls rest)) : own_Go p e below s Q kc ks T (mkF m pc Ls (.long x :: .int j :: .ref a :: rest)) := by
  obtain ⟨cl, A, r1, r2⟩ := F
  obtain ⟨T', h', X', e', W, st⟩ := stJ X hx hZ eT A (j := j) (x := x) (own_inb h0 r1 hj hv) (g := mkF m pc Ls (.long x :: .int j :: .ref a :: rest)) rfl rfl hd
  exact own_pre st (k T' h' _ X' e' (Fr.snoc X' N q) (hj ▸ W))
theorem own_dastore (X : Stand p l e R s m args below meth c T locs cells slots) (hx : p.tables.exec = Jvm.exec) (hZ : Z.Warmed39 s.vm) (eT : T.heap = h) (N : Fr n0 locs) (q : n0 ≤ a) (F : own_Ary Z h a .double vs) (hd : decode c.code pc = .ok (.dastore, 1)) {j : Int32} {x : UInt64} {n : Nat} (h0 : 0 ≤ j) (hj : j.toNatClampNeg = n) (hv : n < vs.length)
    (k : ∀ T' h' locs', Stand p l e R s m args below meth c T' locs' cells slots → T'.heap = h' → Fr n0 locs' → Wr h h' a n (.double x) → own_Go p e below s Q kc ks T' (mkF m (pc + 1) Ls rest)) : own_Go p e below s Q kc ks T (mkF m pc Ls (.double x :: .int j :: .ref a :: rest)) := by
  obtain ⟨cl, A, r1, r2⟩ := F
  obtain ⟨T', h', X', e', W, st⟩ := stD X hx hZ eT A (j := j) (x := x) (own_inb h0 r1 hj hv) (g := mkF m pc Ls (.double x :: .int j :: .ref a :: rest)) rfl rfl hd
  exact own_pre st (k T' h' _ X' e' (Fr.snoc X' N q) (hj ▸ W))
theorem own_newarr (X : Stand p l e R s m args below meth c T locs cells slots) (hx : p.tables.exec = Jvm.exec) (hZ : Z.Warmed39 s.vm) {aty : ArrayType} (w : (Cond.arrayClass (newarray.typeOf aty)).before a0 Z = true) (eT : T.heap = h) (hd : decode c.code pc = .ok (.newarray aty, 2)) {z : Int32} {n : Nat} (h0 : 0 ≤ z) (hz : z.toNatClampNeg = n) (hb : n * 8 ≤ 536870912) (hc : cells + 1 ≤ R.cells) (hl : slots + n ≤ R.slots) {ad : String} (had : "[" ++ (newarray.typeOf aty).toString = ad)
    (k : ∀ T' h' a, a = h.size → Stand p l e R s m args below meth c T' locs (cells + 1) (slots + n) → T'.heap = h' → Ext h h' → own_Ary Z h' a (newarray.typeOf aty) (List.replicate n (defaultValue (newarray.typeOf aty))) → Exa Z h' a ad → own_Go p e below s Q kc ks T' (mkF m (pc + 2) Ls (.ref a :: rest))) : own_Go p e below s Q kc ks T (mkF m pc Ls (.int z :: rest)) := by
  obtain ⟨T', h', cA, X', e', E, A, E2, st⟩ := newPE X hx hZ w eT (g := mkF m pc Ls (.int z :: rest)) rfl hd rfl (Int32.not_lt.mpr h0) (cap := n) (Nat.le_of_eq hz) hb hc hl had
  exact own_pre st (k T' h' _ rfl X' e' E (own_Ary.new A hz) E2)
theorem own_newobj (X : Stand p l e R s m args below meth c T locs cells slots) (hx : p.tables.exec = Jvm.exec) (hZ : Z.Warmed39 s.vm) {own : String} {index n : Nat} (hown : s.vm.findClass own = some m.cls) (w : (Cond.classLink own index C).before a0 Z = true) (wi : (Cond.instantiable C n).before a0 Z = true) (wz : (Cond.initialized C).before a0 Z = true) (eT : T.heap = h) (hd : decode c.code pc = .ok (.new index, 3)) (hc : cells + 1 ≤ R.cells) (hl : slots + n ≤ R.slots)
    (k : ∀ T' h' a, a = h.size → Stand p l e R s m args below meth c T' locs (cells + 1) (slots + n) → T'.heap = h' → Ext h h' → Exa Z h' a C → (∀ {O nm d : String} {ty : FieldType}, Laid Z a0 C O nm d → parseFieldDescriptor d = some ty → Fld Z h' a O nm d (defaultValue ty)) → own_Go p e below s Q kc ks T' (mkF m (pc + 3) Ls (.ref a :: rest))) : own_Go p e below s Q kc ks T (mkF m pc Ls rest) := by
  obtain ⟨T', h', X', e', E, A, D, -, st⟩ := newO X hx hZ hown w wi wz eT (g := mkF m pc Ls rest) rfl hd hc hl
  exact own_pre st (k T' h' _ rfl X' e' E A D)
theorem own_getf (X : Stand p l e R s m args below meth c T locs cells slots) (hx : p.tables.exec = Jvm.exec) (hZ : Z.Warmed39 s.vm) {own O n d : String} {index : Nat} (hown : s.vm.findClass own = some m.cls) (w : (Cond.fieldLink own index O n d).before a0 Z = true) (eT : T.heap = h) (F : Fld Z h a O n d v) (hd : decode c.code pc = .ok (.getfield index, 3))
    (k : ∀ T', Stand p l e R s m args below meth c T' locs cells slots → T'.heap = h → own_Go p e below s Q kc ks T' (mkF m (pc + 3) Ls (v :: rest))) : own_Go p e below s Q kc ks T (mkF m pc Ls (.ref a :: rest)) := by
  obtain ⟨T', X', e', st⟩ := getF X hx hZ hown (host := "") (Or.inl w) Via.refl eT F (g := mkF m pc Ls (.ref a :: rest)) rfl rfl hd
  exact own_pre st (k T' X' e')
theorem own_gets (X : Stand p l e R s m args below meth c T locs cells slots) (hx : p.tables.exec = Jvm.exec) (hZ : Z.Warmed39 s.vm) {own O n d : String} {index : Nat} (hown : s.vm.findClass own = some m.cls) (w : (Cond.fieldLink own index O n d).before a0 Z = true) (eT : T.heap = h) (F : Sta Z h O n d v) (hd : decode c.code pc = .ok (.getstatic index, 3))
    (k : ∀ T', Stand p l e R s m args below meth c T' locs cells slots → T'.heap = h → own_Go p e below s Q kc ks T' (mkF m (pc + 3) Ls (v :: rest))) : own_Go p e below s Q kc ks T (mkF m pc Ls rest) := by
  obtain ⟨T', X', e', st⟩ := getS X hx hZ (host := "") hown w Via.refl eT F (g := mkF m pc Ls rest) rfl hd
  exact own_pre st (k T' X' e')
theorem own_putf (X : Stand p l e R s m args below meth c T locs cells slots) (hx : p.tables.exec = Jvm.exec) (hZ : Z.Warmed39 s.vm) {own O n d : String} {index kk : Nat} (hown : s.vm.findClass own = some m.cls) (w : (Cond.fieldLink own index O n d).before a0 Z = true) (eT : T.heap = h) (N : Fr n0 locs) (q : n0 ≤ a) {old : Value} (F : Fld Z h a O n d old) (E : Exa Z h a C) (L : (Cond.lays C O n d).before a0 Z = true ∨ ((Cond.laysFinal C O n d).before a0 Z = true ∧ own = O ∧ meth.name = "<init>")) (wi : (Cond.instantiable C kk).before a0 Z = true) (hty : parseFieldDescriptor d = some ty) (hn : narrow ty v = v) (hf : fits ty v = true) (hd : decode c.code pc = .ok (.putfield index, 3))
    (k : ∀ T' h' locs', Stand p l e R s m args below meth c T' locs' cells slots → T'.heap = h' → Fr n0 locs' → Wr h h' a (slotOf Z O n d) v → own_Go p e below s Q kc ks T' (mkF m (pc + 3) Ls rest)) : own_Go p e below s Q kc ks T (mkF m pc Ls (v :: .ref a :: rest)) := by
  obtain ⟨T', h', X', e', W, st⟩ := putF X hx hZ hown (host := "") (Or.inl w) Via.refl eT F E L wi hty hn hf (g := mkF m pc Ls (v :: .ref a :: rest)) rfl rfl hd
  exact own_pre st (k T' h' _ X' e' (Fr.snoc X' N q) W)
theorem own_ldci (X : Stand p l e R s m args below meth c T locs cells slots) (hx : p.tables.exec = Jvm.exec) (hZ : Z.Warmed39 s.vm) {own : String} {index : Nat} {z : Int32} (hown : s.vm.findClass own = some m.cls) (w : (Cond.constant own index z).before a0 Z = true) (hd : decode c.code pc = .ok (.ldc index, 2))
    (k : own_Go p e below s Q kc ks T (mkF m (pc + 2) Ls (.int z :: rest))) : own_Go p e below s Q kc ks T (mkF m pc Ls rest) :=
  own_pre (X.ldcInt hx hown (mv hZ w) (g := mkF m pc Ls rest) rfl hd) k
theorem own_ldcl (X : Stand p l e R s m args below meth c T locs cells slots) (hx : p.tables.exec = Jvm.exec) (hZ : Z.Warmed39 s.vm) {own : String} {index : Nat} {z : Int64} (hown : s.vm.findClass own = some m.cls) (w : (Cond.constantLong own index z).before a0 Z = true) (hd : decode c.code pc = .ok (.ldc2_w index, 3))
    (k : own_Go p e below s Q kc ks T (mkF m (pc + 3) Ls (.long z :: rest))) : own_Go p e below s Q kc ks T (mkF m pc Ls rest) :=
  own_pre (X.ldc2Long hx hown (mv hZ w) (g := mkF m pc Ls rest) rfl hd) k
theorem own_ldcd (X : Stand p l e R s m args below meth c T locs cells slots) (hx : p.tables.exec = Jvm.exec) (hZ : Z.Warmed39 s.vm) {own : String} {index : Nat} {z : UInt64} (hown : s.vm.findClass own = some m.cls) (w : (Cond.constantDouble own index z).before a0 Z = true) (hd : decode c.code pc = .ok (.ldc2_w index, 3))
    (k : own_Go p e below s Q kc ks T (mkF m (pc + 3) Ls (.double z :: rest))) : own_Go p e below s Q kc ks T (mkF m pc Ls rest) :=
  own_pre (X.ldc2DoubleC hx hown (mv hZ w) (g := mkF m pc Ls rest) rfl hd) k
theorem own_init0 (X : Stand p l e R s m args below meth c T locs cells slots) (hx : p.tables.exec = Jvm.exec) (hZ : Z.Warmed39 s.vm) {own : String} {index : Nat} (hown : s.vm.findClass own = some m.cls) (w1 : (Cond.methodLink own index Lib.objectInit).before a0 Z = true) (w2 : (Cond.instanceMethod Lib.objectInit).before a0 Z = true) (w3 : (Cond.code Lib.objectInit ⟨#[0xb1]⟩ 1 none).before a0 Z = true) (eT : T.heap = h) (hd : decode c.code pc = .ok (.invokespecial index, 3)) (hsz : Ls.size = c.maxLocals) (hf : 1 ≤ R.frames) {W : Nat} (hW : (rest.map fun v => v.category).sum ≤ W) (hl : W + 12 ≤ R.locals)
    (k : ∀ T', Stand p l e R s m args below meth c T' locs cells slots → T'.heap = h → own_Go p e below s Q kc ks T' (mkF m (pc + 3) Ls rest)) : own_Go p e below s Q kc ks T (mkF m pc Ls (.ref a :: rest)) := by
  obtain ⟨T', X', e', st⟩ := initO X hx hZ hown w1 w2 w3 eT (g := mkF m pc Ls (.ref a :: rest)) rfl hsz rfl hd hf (W := W) (by show 2 * 0 + _ ≤ _; omega) hl
  exact own_pre st (k T' X' e')
theorem own_init (X : Stand p l e R s m args below meth c T locs cells slots) (hx : p.tables.exec = Jvm.exec) (hZ : Z.Warmed39 s.vm) {own : String} {index : Nat} (hown : s.vm.findClass own = some m.cls) {y : MethodName} {bytes : ByteArray} {maxL : Nat} {rm : Room} {argsL : List Value} {Qc : Option Value → Heap → List Loc → Prop}
    (hM : MetFree l y (head1 [Cond.code y bytes maxL none] rm) (fun a' U => a' = (.ref a :: argsL).toArray ∧ Z.Warmed39 U.vm ∧ U.heap = h) (fun _ _ _ _ _ => True) (fun _ U o U' => ∃ v L, o = .returned v ∧ Qc v U'.heap L ∧ FrameEnd U o U' L rm.cells rm.slots))
    (hy1 : y.name = "<init>") (w1 : (Cond.methodLink own index y).before a0 Z = true) (w2 : (Cond.instanceMethod y).before a0 Z = true) (w3 : (Cond.code y bytes maxL none).before a0 Z = true) (w4 : (Cond.initialized y.cls).before a0 Z = true) (hy : y.cls ≠ "java/lang/invoke/MethodHandle" ∧ y.cls ≠ "java/lang/invoke/VarHandle")
    (eT : T.heap = h) (hd : decode c.code pc = .ok (.invokespecial index, 3)) (hsz : Ls.size = c.maxLocals) {stk : List Value} (hstk : stk = argsL.reverse ++ .ref a :: rest) (hlen : ∀ sig, parseMethodDescriptor y.desc = some sig → argsL.length = sig.parameters.length) (hf : rm.frames + 1 ≤ R.frames) {W : Nat} (hW : (rest.map fun v => v.category).sum ≤ W) (hl : W + (maxL + 11) + rm.locals ≤ R.locals) (hc : cells + rm.cells ≤ R.cells) (hs : slots + rm.slots ≤ R.slots)
    (k : ∀ v T' L, Stand p l e R s m args below meth c T' (locs ++ L) (cells + rm.cells) (slots + rm.slots) → Qc v T'.heap L → own_Go p e below s Q kc ks T' (mkF m (pc + 3) Ls (v.toList ++ rest))) : own_Go p e below s Q kc ks T (mkF m pc Ls stk) := by
  obtain ⟨v, _, ⟨T', L', k', n'⟩, -, X', ⟨L, hQ, e1, e2, e3⟩, st⟩ := X.specialBack hx (y := y) hy1 hown (mvT hZ w1) (mvT hZ w2) (mvT hZ w3) hy (backOf (W := W) hM hZ w3 w4 hf hl) (g := mkF m pc Ls stk) rfl hsz (Steps.refl _) (a := a) (argsL := argsL) (rest := rest) hlen hstk (by show 2 * 0 + _ ≤ _; omega) hd (fun _ _ => ⟨rfl, eT, hc, hs⟩)
  dsimp only at X' e1 e2 e3 st hQ
  subst e1 e2 e3
  exact own_tr st (k v T' L X' hQ)
theorem own_callv (X : Stand p l e R s m args below meth c T locs cells slots) (hx : p.tables.exec = Jvm.exec) (hZ : Z.Warmed39 s.vm) {own : String} {index : Nat} (hown : s.vm.findClass own = some m.cls) {y : MethodName} {bytes : ByteArray} {maxL : Nat} {ret : Option FieldType} {rm : Room} {argsL : List Value} {Qc : Option Value → Heap → List Loc → Prop}
    (hM : MetFree l y (head1 [Cond.code y bytes maxL ret] rm) (fun a' U => a' = (.ref a :: argsL).toArray ∧ Z.Warmed39 U.vm ∧ U.heap = h) (fun _ _ _ _ _ => True) (fun _ U o U' => ∃ v L, o = .returned v ∧ Qc v U'.heap L ∧ FrameEnd U o U' L rm.cells rm.slots))
    (E : Exa Z h a C) (w1 : (Cond.methodLink own index y).before a0 Z = true) (w2 : (Cond.declares y).before a0 Z = true) (w5 : (Cond.selects C y y).before a0 Z = true) (w6 : (Cond.instanceMethod y).before a0 Z = true) (w3 : (Cond.code y bytes maxL ret).before a0 Z = true) (w4 : (Cond.initialized y.cls).before a0 Z = true) (hy : y.cls ≠ "java/lang/invoke/MethodHandle" ∧ y.cls ≠ "java/lang/invoke/VarHandle")
    (eT : T.heap = h) (hd : decode c.code pc = .ok (.invokevirtual index, 3)) (hsz : Ls.size = c.maxLocals) {stk : List Value} (hstk : stk = argsL.reverse ++ .ref a :: rest) (hlen : ∀ sig, parseMethodDescriptor y.desc = some sig → argsL.length = sig.parameters.length) (hf : rm.frames + 1 ≤ R.frames) {W : Nat} (hW : (rest.map fun v => v.category).sum ≤ W) (hl : W + (maxL + 11) + rm.locals ≤ R.locals) (hc : cells + rm.cells ≤ R.cells) (hs : slots + rm.slots ≤ R.slots)
    (k : ∀ v T' L, Stand p l e R s m args below meth c T' (locs ++ L) (cells + rm.cells) (slots + rm.slots) → Qc v T'.heap L → own_Go p e below s Q kc ks T' (mkF m (pc + 3) Ls (v.toList ++ rest))) : own_Go p e below s Q kc ks T (mkF m pc Ls stk) := by
  obtain ⟨cq, kq, q1, q2, q3⟩ := isOf hZ eT E
  obtain ⟨v, _, ⟨T', L', k', n'⟩, -, X', ⟨L, hQ, e1, e2, e3⟩, st⟩ := X.virtualBack hx (y := y) (z := y) hown (mvT hZ w1) (mvT hZ w2) (notFace_of_selects (args := #[]) (mvT hZ w5)) (mvT hZ w5) (mvT hZ w6) hy (backOf (W := W) hM hZ w3 w4 hf hl) q1 q3 (g := mkF m pc Ls stk) rfl hsz (Steps.refl _) (argsL := argsL) (rest := rest) hlen hstk (by show 2 * 0 + _ ≤ _; omega) hd (fun _ _ => ⟨rfl, eT, hc, hs⟩)
  dsimp only at X' e1 e2 e3 st hQ
  subst e1 e2 e3
  exact own_tr st (k v T' L X' hQ)
theorem own_calls (X : Stand p l e R s m args below meth c T locs cells slots) (hx : p.tables.exec = Jvm.exec) (hZ : Z.Warmed39 s.vm) {own : String} {index : Nat} (hown : s.vm.findClass own = some m.cls) {y : MethodName} {bytes : ByteArray} {maxL : Nat} {ret : Option FieldType} {rm : Room} {argsL : List Value} {Qc : Option Value → Heap → List Loc → Prop}
    (hM : MetFree l y (head1 [Cond.code y bytes maxL ret] rm) (fun a' U => a' = argsL.toArray ∧ Z.Warmed39 U.vm ∧ U.heap = h) (fun _ _ _ _ _ => True) (fun _ U o U' => ∃ v L, o = .returned v ∧ Qc v U'.heap L ∧ FrameEnd U o U' L rm.cells rm.slots))
    (w1 : (Cond.methodLink own index y).before a0 Z = true) (w2 : (Cond.static y).before a0 Z = true) (w3 : (Cond.code y bytes maxL ret).before a0 Z = true) (w4 : (Cond.initialized y.cls).before a0 Z = true) (hy : y.cls ≠ "java/lang/invoke/MethodHandle" ∧ y.cls ≠ "java/lang/invoke/VarHandle")
    (eT : T.heap = h) (hd : decode c.code pc = .ok (.invokestatic index, 3)) (hsz : Ls.size = c.maxLocals) {stk : List Value} (hstk : stk = argsL.reverse ++ rest) (hlen : ∀ sig, parseMethodDescriptor y.desc = some sig → argsL.length = sig.parameters.length) (hf : rm.frames + 1 ≤ R.frames) {W : Nat} (hW : (rest.map fun v => v.category).sum ≤ W) (hl : W + (maxL + 11) + rm.locals ≤ R.locals) (hc : cells + rm.cells ≤ R.cells) (hs : slots + rm.slots ≤ R.slots)
    (k : ∀ v T' L, Stand p l e R s m args below meth c T' (locs ++ L) (cells + rm.cells) (slots + rm.slots) → Qc v T'.heap L → own_Go p e below s Q kc ks T' (mkF m (pc + 3) Ls (v.toList ++ rest))) : own_Go p e below s Q kc ks T (mkF m pc Ls stk) := by
  obtain ⟨v, _, ⟨T', L', k', n'⟩, -, X', ⟨L, hQ, e1, e2, e3⟩, st⟩ := Jvm.LawKit.callS X hx (y := y) hown (mvT hZ w1) (mvT hZ w2) (mvT hZ w4) (mvT hZ w3) hy (backOf (W := W) hM hZ w3 w4 hf hl) (g := mkF m pc Ls stk) rfl hsz (argsL := argsL) (rest := rest) hlen hstk (by show 2 * 0 + _ ≤ _; omega) hd (fun _ _ => ⟨rfl, eT, hc, hs⟩)
  dsimp only at X' e1 e2 e3 st hQ
  subst e1 e2 e3
  exact own_pre st (k v T' L X' hQ)
theorem own_cl_lt (x y : Int64) : XT.cmpL x y < 0 ↔ x < y := by unfold XT.cmpL; split <;> (try split) <;> simp_all [Int64.lt_iff_toInt_lt, ← Int64.toInt_inj] <;> omega
theorem own_cl_gt (x y : Int64) : 0 < XT.cmpL x y ↔ y < x := by unfold XT.cmpL; split <;> (try split) <;> simp_all [Int64.lt_iff_toInt_lt, ← Int64.toInt_inj]
theorem own_cl_eq (x y : Int64) : XT.cmpL x y = 0 ↔ x = y := by unfold XT.cmpL; split <;> (try split) <;> simp_all [Int64.lt_iff_toInt_lt, ← Int64.toInt_inj] <;> omega
end Own
end Jvm.RoadKit
namespace Jvm.FP.Core
theorem own_cross {c d I J qp qm rp rm kp km : Nat} (h1 : c * 2 ^ qp = I * 2 ^ qm) (h2 : d * 2 ^ rp = J * 2 ^ rm) (e : kp + qm + rp = km + qp + rm) : c * J * 2 ^ kp = I * d * 2 ^ km := by
  have e' : 2 ^ kp * 2 ^ qm * 2 ^ rp = 2 ^ km * 2 ^ qp * 2 ^ rm := by rw [← Nat.pow_add, ← Nat.pow_add, ← Nat.pow_add, ← Nat.pow_add, e]
  have p1 := Nat.two_pow_pos qp
  have p2 := Nat.two_pow_pos rm
  generalize 2 ^ qp = a1 at *
  generalize 2 ^ qm = a2 at *
  generalize 2 ^ rp = a3 at *
  generalize 2 ^ rm = a4 at *
  generalize 2 ^ kp = a5 at *
  generalize 2 ^ km = a6 at *
  refine Nat.eq_of_mul_eq_mul_right (Nat.mul_pos p1 p2) ?_
  calc c * J * a5 * (a1 * a4) = (c * a1) * (J * a4) * a5 := by ac_rfl
    _ = (I * a2) * (d * a3) * a5 := by rw [h1, h2]
    _ = I * d * (a5 * a2 * a3) := by ac_rfl
    _ = I * d * (a6 * a1 * a4) := by rw [e']
    _ = I * d * a6 * (a1 * a4) := by ac_rfl
/-- a quotient of two whole doubles: the rounded ratio of the two -/
theorem own_ddiv_round {i j : Int} {a b : UInt64} (ha : DInt i a) (hb : DInt j b) (hj : 0 < j) : ∃ sg, val64 (ddiv a b) = roundRatio b64 sg i.natAbs j.natAbs 0 ∧ (i ≠ 0 → sg = decide (i < 0)) := by
  rw [val64_ddiv]
  unfold DInt at ha hb
  generalize val64 a = x at *
  generalize val64 b = y at *
  cases x with
  | nan => exact ha.elim
  | inf => exact ha.elim
  | fin s c q =>
  cases y with
  | nan => exact hb.elim
  | inf => exact hb.elim
  | fin t d r =>
    have h1 := whole_natAbs ha
    have h2 := whole_natAbs hb
    have hd : d ≠ 0 := by have := whole_zero hb; omega
    refine ⟨s != t, ?_, fun hi => ?_⟩
    · show (if d = 0 then (if c = 0 then Datum.nan else .inf (s != t)) else roundRatio b64 (s != t) c d (q - r)) = _
      rw [if_neg hd]
      exact roundRatio_congr (by omega) (by omega) (own_cross h1 h2 (by omega))
    · rw [whole_sign ha hi, whole_sign hb (by omega)]
      simp [show ¬ j < 0 by omega]
theorem own_div_le {sg : Bool} {A B : Nat} {V : UInt64} (hB : 0 < B) (hV : val64 V ≠ .nan) (h : A * one64 ≤ zmag b64 (val64 V) * B) : zmag b64 (roundRatio b64 sg A B 0) ≤ zmag b64 (val64 V) := by
  refine zmag_roundRatio_le good_b64 hB (val64_fits V) hV (e0 := b64.qmin) (Int.le_refl _) (by decide) ?_
  show A * 2 ^ (0 - b64.qmin).toNat ≤ _ * 2 ^ (b64.qmin - b64.qmin).toNat * B
  rw [Int.zero_sub, pow_qmin64, Int.sub_self]
  simpa using h
theorem own_div_ge {sg : Bool} {A B : Nat} {V : UInt64} (hB : 0 < B) (h : zmag b64 (val64 V) * B ≤ A * one64) : zmag b64 (val64 V) ≤ zmag b64 (roundRatio b64 sg A B 0) := by
  refine zmag_roundRatio_ge good_b64 hB (val64_fits V) (e0 := b64.qmin) (Int.le_refl _) (by decide) ?_
  show _ * 2 ^ (b64.qmin - b64.qmin).toNat * B ≤ A * 2 ^ (0 - b64.qmin).toNat
  rw [Int.zero_sub, pow_qmin64, Int.sub_self]
  simpa using h
theorem own_scale {A B x y u : Nat} (h : A * x ≤ y * B) : A * (x * u) ≤ (y * u) * B := by
  have h2 := Nat.mul_le_mul_right u h
  calc A * (x * u) = A * x * u := by ac_rfl
    _ ≤ y * B * u := h2
    _ = (y * u) * B := by ac_rfl
theorem own_scale' {A B x y u : Nat} (h : y * B ≤ A * x) : (y * u) * B ≤ A * (x * u) := by
  have h2 := Nat.mul_le_mul_right u h
  calc (y * u) * B = y * B * u := by ac_rfl
    _ ≤ A * x * u := h2
    _ = A * (x * u) := by ac_rfl
end Jvm.FP.Core
namespace Jvm.RoadKit
open Sem ClassFile Op Lib Jvm.Stand Jvm.Free Jvm.LawKit
theorem own_DInt_nn {i : Int} {a : UInt64} (h : FP.Core.DInt i a) : Jvm.Free.Fl.NoNaN64 a := Jvm.Free.Fl.val64_no.mpr (FP.Core.DInt_ne_nan h)
/-- the int that a comparison of two whole doubles pushes -/
def own_c (i j : Int) : Int32 := if i < j then -1 else if i = j then 0 else 1
theorem own_c_lt (i j : Int) : own_c i j < 0 ↔ i < j := by unfold own_c; split <;> (try split) <;> first | (simp; omega) | simp_all
theorem own_c_gt (i j : Int) : 0 < own_c i j ↔ j < i := by unfold own_c; split <;> (try split) <;> first | (simp; omega) | (simp_all; done) | (simp_all; omega)
theorem own_c_eq (i j : Int) : own_c i j = 0 ↔ i = j := by unfold own_c; split <;> (try split) <;> first | (simp; omega) | (simp_all; done) | (simp_all; omega)
theorem own_cmpv (i j : Int) (o : CmpOp) : cmpValue (some (compare i j)) o = own_c i j := by
  unfold own_c
  rw [FP.Core.compare_ite]
  split <;> (try split) <;> cases o <;> rfl
theorem own_dcmp {i j : Int} {a b : UInt64} (ha : FP.Core.DInt i a) (hb : FP.Core.DInt j b) (o : CmpOp) : cmpValue (FP.dcmp a b) o = own_c i j := by
  rw [show FP.dcmp a b = some (compare i j) from FP.Core.dcmp_int ha hb, own_cmpv]
theorem own_dcmpz {a b : UInt64} (ha : Jvm.Free.Fl.NoNaN64 a) (hb : Jvm.Free.Fl.NoNaN64 b) (o : CmpOp) : cmpValue (FP.dcmp a b) o = own_c (FP.Core.zval FP.Core.b64 (FP.Core.val64 a)) (FP.Core.zval FP.Core.b64 (FP.Core.val64 b)) := by
  rw [show FP.dcmp a b = some (compare _ _) from FP.Core.dcmp_zval (Jvm.Free.Fl.val64_no.mp ha) (Jvm.Free.Fl.val64_no.mp hb), own_cmpv]
end Jvm.RoadKit
namespace Jvm.Pilot.@@N@@
open Jvm Jvm.ClassFile Sem Op Lib Jvm.Free Jvm.Stand Jvm.LawKit Jvm.RoadKit Bundle Jvm.Pilot.@@N@@.Jvm.D
def own_nz (p : Int32) : Int64 := if p = 0 then 512 else p.toInt64
theorem own_DInt0 : FP.Core.DInt 0 0 := by
  show FP.Core.Whole 0 (FP.Core.val64 0)
  rw [FP.Core.val64_zero]
  simp [FP.Core.Whole, FP.Core.signed]
theorem own_ushr (x q : Int32) (k : Nat) (hk : q.toBitVec.toNat % 32 = k) (h0 : 0 < k) : (XT.ushr x q).toInt = (x.toInt % 4294967296) / (2 ^ k : Nat) := c_iushr x q k hk h0
theorem own_pos (s n q0 q1 q2 : Int32) (hn : s &&& (3 : Int32) = n) (h0 : XT.ushr s (2 : Int32) &&& (1 : Int32) = q0) (h1 : q0 + (1 : Int32) + (XT.ushr s (3 : Int32) &&& (1 : Int32)) = q1) (h2 : q1 + (1 : Int32) + (XT.ushr s (4 : Int32) &&& (3 : Int32)) = q2) :
    (0 ≤ n.toInt ∧ n.toInt ≤ 3) ∧ (0 ≤ q0 ∧ q0.toInt < 8) ∧ (0 ≤ q1 ∧ q1.toInt < 8) ∧ (0 ≤ q2 ∧ q2.toInt < 8) := by
  have a1 := c_mask s 3 2 (by decide) (by decide)
  have a2 := c_mask (XT.ushr s 2) 1 1 (by decide) (by decide)
  have a3 := c_mask (XT.ushr s 3) 1 1 (by decide) (by decide)
  have a4 := c_mask (XT.ushr s 4) 3 2 (by decide) (by decide)
  rw [hn] at a1
  rw [h0] at a2
  have b1 := c_iadd q0 1
  have b2 := c_iadd (q0 + 1) (XT.ushr s (3 : Int32) &&& (1 : Int32))
  have b3 := c_iadd q1 1
  have b4 := c_iadd (q1 + 1) (XT.ushr s (4 : Int32) &&& (3 : Int32))
  rw [h1] at b2
  rw [h2] at b4
  have r1 := rng32 q1
  have r2 := rng32 q2
  have r3 := rng32 (q0 + 1)
  have r4 := rng32 (q1 + 1)
  have o1 : (1 : Int32).toInt = 1 := rfl
  have o0 : (0 : Int32).toInt = 0 := rfl
  rw [o1] at b1 b3
  simp only [Int32.le_iff_toInt_le, o0]
  omega
theorem own_t22 {p z : Int32} (h : (p <<< ((22 : Int32) &&& 31)) >>> ((22 : Int32) &&& 31) = z) : -512 ≤ z.toInt ∧ z.toInt ≤ 512 := by
  have h1 := c_ishr (p <<< ((22 : Int32) &&& 31)) 22 22 (by decide)
  have h2 := rng32 (p <<< ((22 : Int32) &&& 31))
  rw [h] at h1
  omega
theorem own_t12 {p z : Int32} (h : (p <<< ((12 : Int32) &&& 31)) >>> ((22 : Int32) &&& 31) = z) : -512 ≤ z.toInt ∧ z.toInt ≤ 512 := by
  have h1 := c_ishr (p <<< ((12 : Int32) &&& 31)) 22 22 (by decide)
  have h2 := rng32 (p <<< ((12 : Int32) &&& 31))
  rw [h] at h1
  omega
theorem own_t2 {p z : Int32} (h : (p <<< ((2 : Int32) &&& 31)) >>> ((22 : Int32) &&& 31) = z) : -512 ≤ z.toInt ∧ z.toInt ≤ 512 := by
  have h1 := c_ishr (p <<< ((2 : Int32) &&& 31)) 22 22 (by decide)
  have h2 := rng32 (p <<< ((2 : Int32) &&& 31))
  rw [h] at h1
  omega
theorem own_vb (z : Int32) (v : Int64) (hz : -512 ≤ z.toInt ∧ z.toInt ≤ 512) (h : own_nz z = v) : -512 ≤ v.toInt ∧ v.toInt ≤ 512 := by
  subst h
  unfold own_nz
  split
  · exact ⟨by decide, by decide⟩
  · rw [c_i2l]; exact hz
theorem own_db (x : Int32) (v : Int64) (h : x.toInt8.toInt32.toInt64 = v) : -512 ≤ v.toInt ∧ v.toInt ≤ 512 := by
  subst h
  have := c_i2b x
  rw [c_i2l]
  omega
theorem own_abs {v : Int64} (h : -512 ≤ v.toInt ∧ v.toInt ≤ 512) : v.toInt.natAbs ≤ 2 ^ 53 := by omega
theorem own_lt8 {q : Int32} (h : 0 ≤ q ∧ q.toInt < 8) : q.toNatClampNeg < 8 := by
  have := h.2
  simp only [Int32.toNatClampNeg]; omega
theorem own_prod {v e : Int64} (hv : -512 ≤ v.toInt ∧ v.toInt ≤ 512) (he : -512 ≤ e.toInt ∧ e.toInt ≤ 512) : (v.toInt * e.toInt).natAbs ≤ 2 ^ 50 := by
  have := mc hv.1 hv.2 he.1 he.2
  omega
theorem own_lm {v e : Int64} (h : (v.toInt * e.toInt).natAbs ≤ 2 ^ 50) : (v * e).toInt = v.toInt * e.toInt := by
  have h1 := c_lmul v e
  have h2 := rng64 (v * e)
  generalize v.toInt * e.toInt = t at *
  omega
theorem own_la {v e : Int64} (h : (v.toInt + e.toInt).natAbs ≤ 2 ^ 55) : (v + e).toInt = v.toInt + e.toInt := by
  have h1 := c_ladd v e
  have h2 := rng64 (v + e)
  omega
theorem own_exp1 {v0 e0 x : Int64} (h0 : (v0.toInt * e0.toInt).natAbs ≤ 2 ^ 50) (h : v0 * e0 = x) : x.toInt = (0 + (v0.toInt * e0.toInt)) := by
  subst h; rw [own_lm h0]; omega
theorem own_exp2 {v0 e0 v1 e1 x : Int64} (h0 : (v0.toInt * e0.toInt).natAbs ≤ 2 ^ 50) (h1 : (v1.toInt * e1.toInt).natAbs ≤ 2 ^ 50) (h : v0 * e0 + v1 * e1 = x) : x.toInt = ((0 + (v0.toInt * e0.toInt)) + (v1.toInt * e1.toInt)) := by
  subst h; rw [own_la (by rw [own_lm h0, own_lm h1]; omega), own_lm h0, own_lm h1]; omega
theorem own_exp3 {v0 e0 v1 e1 v2 e2 x : Int64} (h0 : (v0.toInt * e0.toInt).natAbs ≤ 2 ^ 50) (h1 : (v1.toInt * e1.toInt).natAbs ≤ 2 ^ 50) (h2 : (v2.toInt * e2.toInt).natAbs ≤ 2 ^ 50) (h : v0 * e0 + v1 * e1 + v2 * e2 = x) : x.toInt = (((0 + (v0.toInt * e0.toInt)) + (v1.toInt * e1.toInt)) + (v2.toInt * e2.toInt)) := by
  have q : (v0 * e0 + v1 * e1).toInt = v0.toInt * e0.toInt + v1.toInt * e1.toInt := by rw [own_la (by rw [own_lm h0, own_lm h1]; omega), own_lm h0, own_lm h1]
  subst h; rw [own_la (by rw [q, own_lm h2]; omega), q, own_lm h2]; omega

theorem d1_0 : decode method_3_code 0 = .ok (.iload_n 0, 1) := by decide +kernel
theorem d1_1 : decode method_3_code 1 = .ok (.ifCond .ne 9, 3) := by decide +kernel
theorem d1_4 : decode method_3_code 4 = .ok (.ldc2_w 22, 3) := by decide +kernel
theorem d1_7 : decode method_3_code 7 = .ok (.goto 5, 3) := by decide +kernel
theorem d1_10 : decode method_3_code 10 = .ok (.iload_n 0, 1) := by decide +kernel
theorem d1_11 : decode method_3_code 11 = .ok (.i2l, 1) := by decide +kernel
theorem d1_12 : decode method_3_code 12 = .ok (.lreturn, 1) := by decide +kernel
theorem own_pn0 : plainName "com/example/galicia/galicia/lime/SparseVectorDot145PinLaw" = true := by first | (simp [plainName, overriddenIn]; done) | decide +kernel
def own_nzT_Q (Z : State) (p0 : Int32) (h0 : Heap) (n0 : Nat) (v_ : Option Value) (h_ : Heap) (L_ : List Loc) : Prop := (fun v h L => v = some (.long (own_nz p0)) ∧ Fr n0 L ∧ h = h0) v_ h_ L_
set_option maxRecDepth 65536 in
set_option maxHeartbeats 40000000 in
theorem own_nzT (l : Launch) (Z : State) (a0 : Array Value) (hw : ∀ d ∈ tables_1, d.before a0 Z = true) (wds : List Jvm.Cond) (p0 : Int32) (h0 : Heap) (n0 : Nat) (Z0 : n0 ≤ h0.size)  :
    MetFree l (⟨"com/example/galicia/galicia/lime/SparseVectorDot145PinLaw", "nz", "(I)J"⟩ : MethodName) (head1 (Jvm.Cond.code (⟨"com/example/galicia/galicia/lime/SparseVectorDot145PinLaw", "nz", "(I)J"⟩ : MethodName) method_3_code 1 (some .long) :: wds) ({ frames := 0, cells := 0, slots := 0, locals := 0 } : Room)) (fun ar_ U_ => ar_ = #[(.int p0)] ∧ Z.Warmed39 U_.vm ∧ U_.heap = h0) (fun _ _ _ _ _ => True) (fun _ U_ o_ V_ => ∃ v_ L_, o_ = .returned v_ ∧ own_nzT_Q Z p0 h0 n0 v_ V_.heap L_ ∧ FrameEnd U_ o_ V_ L_ ({ frames := 0, cells := 0, slots := 0, locals := 0 } : Room).cells ({ frames := 0, cells := 0, slots := 0, locals := 0 } : Room).slots) := by
  refine own_met (y := ⟨"com/example/galicia/galicia/lime/SparseVectorDot145PinLaw", "nz", "(I)J"⟩) (Q := own_nzT_Q Z p0 h0 n0) own_pn0 ?_
  intro p e s m below meth c s₁ hx hby hml hZ hown hnm hret hlk X0 e0
  have N0 := Fr.nil n0
  refine own_cast (g' := (mkF m 0 #[.val (.int p0)] [])) (by first | (simp [entryFrame, mkF, argsToLocals, Value.category]; done) | rfl) ?_
  refine own_pre (T' := s₁) (g' := (mkF m 1 #[.val (.int p0)] [(.int p0)])) (fun t k => XS.iloadN X0.here hx rfl (v := p0) (hb hby d1_0) rfl k) ?_
  by_cases hz : p0 = (0 : Int32)
  · skip
    refine own_pre (T' := s₁) (g' := (mkF m 4 #[.val (.int p0)] [])) (fun t k => XS.ifNo X0.here hx rfl (hb hby d1_1) rfl ((if0 _ _).trans (teq hz).2) k) ?_
    refine own_ldcl X0 hx hZ hown (hw _ (List.mem_of_getElem? (i := 4) rfl)) (hb hby d1_4) ?_
    show own_Go _ _ _ _ _ _ _ s₁ (mkF m 7 #[.val (.int p0)] [(.long (512 : Int64))])
    refine own_pre (T' := s₁) (g' := (mkF m 12 #[.val (.int p0)] [(.long (512 : Int64))])) (fun t k => XS.goto X0.here hx rfl (pc0 := 7) (pc' := 12) rfl (hb hby d1_7) (by decide) (by decide) k) ?_
    exact own_retL X0 hx hlk hret (hb hby d1_12) e0 ⟨by unfold own_nz; rw [if_pos hz], N0, rfl⟩ (by decide) (by decide)
  · skip
    refine own_pre (T' := s₁) (g' := (mkF m 10 #[.val (.int p0)] [])) (fun t k => XS.ifYes X0.here hx rfl (pc0 := 1) (pc' := 10) rfl (hb hby d1_1) rfl ((if0 _ _).trans (feq hz).2) (by decide) (by decide) k) ?_
    refine own_pre (T' := s₁) (g' := (mkF m 11 #[.val (.int p0)] [(.int p0)])) (fun t k => XS.iloadN X0.here hx rfl (v := p0) (hb hby d1_10) rfl k) ?_
    refine own_pre (T' := s₁) (g' := (mkF m 12 #[.val (.int p0)] [(.long p0.toInt64)])) (fun t k => XT.i2l X0.here hx rfl (hb hby d1_11) rfl k) ?_
    exact own_retL X0 hx hlk hret (hb hby d1_12) e0 ⟨by unfold own_nz; rw [if_neg hz], N0, rfl⟩ (by decide) (by decide)
theorem d2_0 : decode prog_32_method_1_code 0 = .ok (.aload_n 0, 1) := by decide +kernel
theorem d2_1 : decode prog_32_method_1_code 1 = .ok (.invokespecial 1, 3) := by decide +kernel
theorem d2_4 : decode prog_32_method_1_code 4 = .ok (.aload_n 0, 1) := by decide +kernel
theorem d2_5 : decode prog_32_method_1_code 5 = .ok (.aload_n 1, 1) := by decide +kernel
theorem d2_6 : decode prog_32_method_1_code 6 = .ok (.putfield 7, 3) := by decide +kernel
theorem d2_9 : decode prog_32_method_1_code 9 = .ok (.aload_n 0, 1) := by decide +kernel
theorem d2_10 : decode prog_32_method_1_code 10 = .ok (.aload_n 2, 1) := by decide +kernel
theorem d2_11 : decode prog_32_method_1_code 11 = .ok (.putfield 13, 3) := by decide +kernel
theorem d2_14 : decode prog_32_method_1_code 14 = .ok (.return_, 1) := by decide +kernel
theorem own_pn1 : plainName "com/example/galicia/galicia/lime/SparseVector" = true := by first | (simp [plainName, overriddenIn]; done) | decide +kernel
def own_svinit_Q (Z : State) (o ap av : Addr) (h0 : Heap) (n0 : Nat) (v_ : Option Value) (h_ : Heap) (L_ : List Loc) : Prop := (fun v h L => v = none ∧ Fr n0 L ∧ Keep h0 h [o] ∧ Fld Z h o "com/example/galicia/galicia/lime/SparseVector" "positions" "[I" (.ref ap) ∧ Fld Z h o "com/example/galicia/galicia/lime/SparseVector" "values" "[D" (.ref av)) v_ h_ L_
set_option maxRecDepth 65536 in
set_option maxHeartbeats 40000000 in
theorem own_svinit (l : Launch) (Z : State) (a0 : Array Value) (hw : ∀ d ∈ tables_1, d.before a0 Z = true) (wds : List Jvm.Cond) (o ap av : Addr) (h0 : Heap) (n0 : Nat) (Z0 : n0 ≤ h0.size) (E : Exa Z h0 o "com/example/galicia/galicia/lime/SparseVector") (F1 : Fld Z h0 o "com/example/galicia/galicia/lime/SparseVector" "positions" "[I" .null) (F2 : Fld Z h0 o "com/example/galicia/galicia/lime/SparseVector" "values" "[D" .null) (hnew : n0 ≤ o) :
    MetFree l (⟨"com/example/galicia/galicia/lime/SparseVector", "<init>", "([I[D)V"⟩ : MethodName) (head1 (Jvm.Cond.code (⟨"com/example/galicia/galicia/lime/SparseVector", "<init>", "([I[D)V"⟩ : MethodName) prog_32_method_1_code 3 none :: wds) ({ frames := 1, cells := 0, slots := 0, locals := 12 } : Room)) (fun ar_ U_ => ar_ = #[(.ref o), (.ref ap), (.ref av)] ∧ Z.Warmed39 U_.vm ∧ U_.heap = h0) (fun _ _ _ _ _ => True) (fun _ U_ o_ V_ => ∃ v_ L_, o_ = .returned v_ ∧ own_svinit_Q Z o ap av h0 n0 v_ V_.heap L_ ∧ FrameEnd U_ o_ V_ L_ ({ frames := 1, cells := 0, slots := 0, locals := 12 } : Room).cells ({ frames := 1, cells := 0, slots := 0, locals := 12 } : Room).slots) := by
  refine own_met (y := ⟨"com/example/galicia/galicia/lime/SparseVector", "<init>", "([I[D)V"⟩) (Q := own_svinit_Q Z o ap av h0 n0) own_pn1 ?_
  intro p e s m below meth c s₁ hx hby hml hZ hown hnm hret hlk X0 e0
  have N0 := Fr.nil n0
  refine own_cast (g' := (mkF m 0 #[.val (.ref o), .val (.ref ap), .val (.ref av)] [])) (by first | (simp [entryFrame, mkF, argsToLocals, Value.category]; done) | rfl) ?_
  refine own_pre (T' := s₁) (g' := (mkF m 1 #[.val (.ref o), .val (.ref ap), .val (.ref av)] [(.ref o)])) (fun t k => XS.aloadN X0.here hx rfl (v := (.ref o)) (hb hby d2_0) rfl rfl k) ?_
  refine own_init0 X0 hx hZ hown (hw _ (List.mem_of_getElem? (i := 14) rfl)) (hw _ (List.mem_of_getElem? (i := 15) rfl)) (hw _ (List.mem_of_getElem? (i := 16) rfl)) e0 (hb hby d2_1) (by rw [hml]; rfl) (by decide) (W := 0) (Nat.le_of_eq rfl) (by decide) ?_
  intro T1 X1 e1
  show own_Go _ _ _ _ _ _ _ T1 (mkF m 4 #[.val (.ref o), .val (.ref ap), .val (.ref av)] [])
  refine own_pre (T' := T1) (g' := (mkF m 5 #[.val (.ref o), .val (.ref ap), .val (.ref av)] [(.ref o)])) (fun t k => XS.aloadN X1.here hx rfl (v := (.ref o)) (hb hby d2_4) rfl rfl k) ?_
  refine own_pre (T' := T1) (g' := (mkF m 6 #[.val (.ref o), .val (.ref ap), .val (.ref av)] [(.ref ap), (.ref o)])) (fun t k => XS.aloadN X1.here hx rfl (v := (.ref ap)) (hb hby d2_5) rfl rfl k) ?_
  refine own_putf X1 hx hZ hown (hw _ (List.mem_of_getElem? (i := 17) rfl)) e1 N0 hnew F1 E (Or.inr ⟨(hw _ (List.mem_of_getElem? (i := 18) rfl)), rfl, hnm⟩) (hw _ (List.mem_of_getElem? (i := 9) rfl)) (ty := (.array .int)) (by decide) rfl rfl (hb hby d2_6) ?_
  intro T2 h2 lo2 X2 e2 N2 W2
  have F3 : Fld Z h2 o "com/example/galicia/galicia/lime/SparseVector" "positions" "[I" (.ref ap) := F1.same W2
  show own_Go _ _ _ _ _ _ _ T2 (mkF m 9 #[.val (.ref o), .val (.ref ap), .val (.ref av)] [])
  refine own_pre (T' := T2) (g' := (mkF m 10 #[.val (.ref o), .val (.ref ap), .val (.ref av)] [(.ref o)])) (fun t k => XS.aloadN X2.here hx rfl (v := (.ref o)) (hb hby d2_9) rfl rfl k) ?_
  refine own_pre (T' := T2) (g' := (mkF m 11 #[.val (.ref o), .val (.ref ap), .val (.ref av)] [(.ref av), (.ref o)])) (fun t k => XS.aloadN X2.here hx rfl (v := (.ref av)) (hb hby d2_10) rfl rfl k) ?_
  have F4 : Fld Z h2 o "com/example/galicia/galicia/lime/SparseVector" "values" "[D" .null := (F2.other W2 (Or.inr (slot_ne (C := "com/example/galicia/galicia/lime/SparseVector") (Or.inr (hw _ (List.mem_of_getElem? (i := 20) rfl))) (Or.inr (hw _ (List.mem_of_getElem? (i := 18) rfl))) (by decide) (t := (.array .double)) (t' := (.array .int)) (by decide) (by decide))))
  have F5 : Exa Z h2 o "com/example/galicia/galicia/lime/SparseVector" := (E.wr W2)
  refine own_putf X2 hx hZ hown (hw _ (List.mem_of_getElem? (i := 19) rfl)) e2 N2 hnew F4 F5 (Or.inr ⟨(hw _ (List.mem_of_getElem? (i := 20) rfl)), rfl, hnm⟩) (hw _ (List.mem_of_getElem? (i := 9) rfl)) (ty := (.array .double)) (by decide) rfl rfl (hb hby d2_11) ?_
  intro T6 h6 lo6 X6 e6 N6 W6
  have F7 : Fld Z h6 o "com/example/galicia/galicia/lime/SparseVector" "values" "[D" (.ref av) := F4.same W6
  show own_Go _ _ _ _ _ _ _ T6 (mkF m 14 #[.val (.ref o), .val (.ref ap), .val (.ref av)] [])
  have F8 : Fld Z h6 o "com/example/galicia/galicia/lime/SparseVector" "positions" "[I" (.ref ap) := (F3.other W6 (Or.inr (slot_ne (C := "com/example/galicia/galicia/lime/SparseVector") (Or.inr (hw _ (List.mem_of_getElem? (i := 18) rfl))) (Or.inr (hw _ (List.mem_of_getElem? (i := 20) rfl))) (by decide) (t := (.array .int)) (t' := (.array .double)) (by decide) (by decide))))
  exact own_ret0 X6 hx hlk hret (hb hby d2_14) e6 ⟨rfl, N6, ((Keep.refl _ _).wr W2 (Or.inl (List.mem_cons_self ..))).wr W6 (Or.inl (List.mem_cons_self ..)), F8, F7⟩ (by decide) (by decide)
theorem d4_0 : decode prog_32_method_6_code 0 = .ok (.dconst 0, 1) := by decide +kernel
theorem d4_1 : decode prog_32_method_6_code 1 = .ok (.dstore_n 2, 1) := by decide +kernel
theorem d4_2 : decode prog_32_method_6_code 2 = .ok (.iconst 0, 1) := by decide +kernel
theorem d4_3 : decode prog_32_method_6_code 3 = .ok (.istore 4, 2) := by decide +kernel
theorem d4_5 : decode prog_32_method_6_code 5 = .ok (.iload 4, 2) := by decide +kernel
theorem d4_7 : decode prog_32_method_6_code 7 = .ok (.aload_n 0, 1) := by decide +kernel
theorem d4_8 : decode prog_32_method_6_code 8 = .ok (.getfield 7, 3) := by decide +kernel
theorem d4_11 : decode prog_32_method_6_code 11 = .ok (.arraylength, 1) := by decide +kernel
theorem d4_12 : decode prog_32_method_6_code 12 = .ok (.if_icmp .ge 29, 3) := by decide +kernel
theorem d4_15 : decode prog_32_method_6_code 15 = .ok (.dload_n 2, 1) := by decide +kernel
theorem d4_16 : decode prog_32_method_6_code 16 = .ok (.aload_n 0, 1) := by decide +kernel
theorem d4_17 : decode prog_32_method_6_code 17 = .ok (.getfield 13, 3) := by decide +kernel
theorem d4_20 : decode prog_32_method_6_code 20 = .ok (.iload 4, 2) := by decide +kernel
theorem d4_22 : decode prog_32_method_6_code 22 = .ok (.daload, 1) := by decide +kernel
theorem d4_23 : decode prog_32_method_6_code 23 = .ok (.aload_n 1, 1) := by decide +kernel
theorem d4_24 : decode prog_32_method_6_code 24 = .ok (.aload_n 0, 1) := by decide +kernel
theorem d4_25 : decode prog_32_method_6_code 25 = .ok (.getfield 7, 3) := by decide +kernel
theorem d4_28 : decode prog_32_method_6_code 28 = .ok (.iload 4, 2) := by decide +kernel
theorem d4_30 : decode prog_32_method_6_code 30 = .ok (.iaload, 1) := by decide +kernel
theorem d4_31 : decode prog_32_method_6_code 31 = .ok (.daload, 1) := by decide +kernel
theorem d4_32 : decode prog_32_method_6_code 32 = .ok (.dmul, 1) := by decide +kernel
theorem d4_33 : decode prog_32_method_6_code 33 = .ok (.dadd, 1) := by decide +kernel
theorem d4_34 : decode prog_32_method_6_code 34 = .ok (.dstore_n 2, 1) := by decide +kernel
theorem d4_35 : decode prog_32_method_6_code 35 = .ok (.iinc 4 1, 3) := by decide +kernel
theorem d4_38 : decode prog_32_method_6_code 38 = .ok (.goto (-33), 3) := by decide +kernel
theorem d4_41 : decode prog_32_method_6_code 41 = .ok (.dload_n 2, 1) := by decide +kernel
theorem d4_42 : decode prog_32_method_6_code 42 = .ok (.dreturn, 1) := by decide +kernel
def own_dot0_Q (Z : State) (o ap av ao : Addr) (O : List Value)  (h0 : Heap) (n0 : Nat) (v_ : Option Value) (h_ : Heap) (L_ : List Loc) : Prop := (fun v h L => ∃ r, v = some (.double r) ∧ FP.Core.DInt 0 r ∧ Fr n0 L ∧ h = h0) v_ h_ L_
set_option maxRecDepth 65536 in
set_option maxHeartbeats 40000000 in
theorem own_dot0 (l : Launch) (Z : State) (a0 : Array Value) (hw : ∀ d ∈ tables_1, d.before a0 Z = true) (wds : List Jvm.Cond) (o ap av ao : Addr) (O : List Value)  (h0 : Heap) (n0 : Nat) (Z0 : n0 ≤ h0.size) (F1 : Fld Z h0 o "com/example/galicia/galicia/lime/SparseVector" "positions" "[I" (.ref ap)) (F2 : Fld Z h0 o "com/example/galicia/galicia/lime/SparseVector" "values" "[D" (.ref av)) (A1 : own_Ary Z h0 ap .int []) (A2 : own_Ary Z h0 av .double []) (A3 : own_Ary Z h0 ao .double O)  :
    MetFree l (⟨"com/example/galicia/galicia/lime/SparseVector", "dot", "([D)D"⟩ : MethodName) (head1 (Jvm.Cond.code (⟨"com/example/galicia/galicia/lime/SparseVector", "dot", "([D)D"⟩ : MethodName) prog_32_method_6_code 5 (some .double) :: wds) ({ frames := 0, cells := 0, slots := 0, locals := 0 } : Room)) (fun ar_ U_ => ar_ = #[(.ref o), (.ref ao)] ∧ Z.Warmed39 U_.vm ∧ U_.heap = h0) (fun _ _ _ _ _ => True) (fun _ U_ o_ V_ => ∃ v_ L_, o_ = .returned v_ ∧ own_dot0_Q Z o ap av ao O h0 n0 v_ V_.heap L_ ∧ FrameEnd U_ o_ V_ L_ ({ frames := 0, cells := 0, slots := 0, locals := 0 } : Room).cells ({ frames := 0, cells := 0, slots := 0, locals := 0 } : Room).slots) := by
  refine own_met (y := ⟨"com/example/galicia/galicia/lime/SparseVector", "dot", "([D)D"⟩) (Q := own_dot0_Q Z o ap av ao O h0 n0) own_pn1 ?_
  intro p e s m below meth c s₁ hx hby hml hZ hown hnm hret hlk X0 e0
  have N0 := Fr.nil n0
  refine own_cast (g' := (mkF m 0 #[.val (.ref o), .val (.ref ao), .unset, .unset, .unset] [])) (by first | (simp [entryFrame, mkF, argsToLocals, Value.category]; done) | rfl) ?_
  generalize hL1 : (#[.val (.ref o), .val (.ref ao), .unset, .unset, .unset] : Array Slot) = L1
  refine own_pre (T' := s₁) (g' := (mkF m 1 L1 [(.double (0 : UInt64))])) (fun t k => XS.dconst0 X0.here hx rfl (v := (0 : UInt64)) (hb hby d4_0) (by decide) k) ?_
  refine own_pre (T' := s₁) (g' := (mkF m 2 #[.val (.ref o), .val (.ref ao), .val (.double (0 : UInt64)), .second, .unset] [])) (fun t k => XS.dstoreN X0.here hx rfl (hb hby d4_1) rfl (l' := #[.val (.ref o), .val (.ref ao), .val (.double (0 : UInt64)), .second, .unset]) (by rw [← hL1]; rfl) k) ?_
  generalize hL2 : (#[.val (.ref o), .val (.ref ao), .val (.double (0 : UInt64)), .second, .unset] : Array Slot) = L2
  refine own_pre (T' := s₁) (g' := (mkF m 3 L2 [(.int (0 : Int32))])) (fun t k => XS.iconst X0.here hx rfl (hb hby d4_2) k) ?_
  refine own_pre (T' := s₁) (g' := (mkF m 5 #[.val (.ref o), .val (.ref ao), .val (.double (0 : UInt64)), .second, .val (.int (0 : Int32))] [])) (fun t k => XS.istore X0.here hx rfl (hb hby d4_3) rfl (l' := #[.val (.ref o), .val (.ref ao), .val (.double (0 : UInt64)), .second, .val (.int (0 : Int32))]) (by rw [← hL2]; rfl) k) ?_
  generalize hL3 : (#[.val (.ref o), .val (.ref ao), .val (.double (0 : UInt64)), .second, .val (.int (0 : Int32))] : Array Slot) = L3
  refine own_pre (T' := s₁) (g' := (mkF m 7 L3 [(.int (0 : Int32))])) (fun t k => XS.iload X0.here hx rfl (v := (0 : Int32)) (hb hby d4_5) (by rw [← hL3]; rfl) k) ?_
  refine own_pre (T' := s₁) (g' := (mkF m 8 L3 [(.ref o), (.int (0 : Int32))])) (fun t k => XS.aloadN X0.here hx rfl (v := (.ref o)) (hb hby d4_7) (by rw [← hL3]; rfl) rfl k) ?_
  refine own_getf X0 hx hZ hown (hw _ (List.mem_of_getElem? (i := 17) rfl)) e0 F1 (hb hby d4_8) ?_
  intro T4 X4 e4
  show own_Go _ _ _ _ _ _ _ T4 (mkF m 11 L3 [(.ref ap), (.int (0 : Int32))])
  refine own_len X4 hx hZ e4 A1 (hb hby d4_11) (n := (0 : Int32)) rfl ?_
  show own_Go _ _ _ _ _ _ _ T4 (mkF m 12 L3 [(.int (0 : Int32)), (.int (0 : Int32))])
  refine own_pre (T' := T4) (g' := (mkF m 41 L3 [])) (fun t k => XS.icmpYes X4.here hx rfl (pc0 := 12) (pc' := 41) rfl (hb hby d4_12) rfl (by decide) (by decide) (by decide) k) ?_
  refine own_pre (T' := T4) (g' := (mkF m 42 L3 [(.double (0 : UInt64))])) (fun t k => XS.dloadN X4.here hx rfl (v := (0 : UInt64)) (hb hby d4_41) (by rw [← hL3]; rfl) k) ?_
  exact own_retD X4 hx hlk hret (hb hby d4_42) e4 ⟨_, rfl, own_DInt0, N0, rfl⟩ (by decide) (by decide)
def own_dot1_Q (Z : State) (o ap av ao : Addr) (O : List Value) (p0 : Int32) (x0 y0 : UInt64) (i0 j0 : Int) (h0 : Heap) (n0 : Nat) (v_ : Option Value) (h_ : Heap) (L_ : List Loc) : Prop := (fun v h L => ∃ r, v = some (.double r) ∧ FP.Core.DInt (0 + (i0 * j0)) r ∧ Fr n0 L ∧ h = h0) v_ h_ L_
set_option maxRecDepth 65536 in
set_option maxHeartbeats 40000000 in
theorem own_dot1 (l : Launch) (Z : State) (a0 : Array Value) (hw : ∀ d ∈ tables_1, d.before a0 Z = true) (wds : List Jvm.Cond) (o ap av ao : Addr) (O : List Value) (p0 : Int32) (x0 y0 : UInt64) (i0 j0 : Int) (h0 : Heap) (n0 : Nat) (Z0 : n0 ≤ h0.size) (F1 : Fld Z h0 o "com/example/galicia/galicia/lime/SparseVector" "positions" "[I" (.ref ap)) (F2 : Fld Z h0 o "com/example/galicia/galicia/lime/SparseVector" "values" "[D" (.ref av)) (A1 : own_Ary Z h0 ap .int [.int p0]) (A2 : own_Ary Z h0 av .double [.double x0]) (A3 : own_Ary Z h0 ao .double O) (q0 : 0 ≤ p0) (g0 : O[p0.toNatClampNeg]? = some (.double y0)) (DX0 : FP.Core.DInt i0 x0) (DY0 : FP.Core.DInt j0 y0) (b0 : (i0 * j0).natAbs ≤ 2 ^ 50) :
    MetFree l (⟨"com/example/galicia/galicia/lime/SparseVector", "dot", "([D)D"⟩ : MethodName) (head1 (Jvm.Cond.code (⟨"com/example/galicia/galicia/lime/SparseVector", "dot", "([D)D"⟩ : MethodName) prog_32_method_6_code 5 (some .double) :: wds) ({ frames := 0, cells := 0, slots := 0, locals := 0 } : Room)) (fun ar_ U_ => ar_ = #[(.ref o), (.ref ao)] ∧ Z.Warmed39 U_.vm ∧ U_.heap = h0) (fun _ _ _ _ _ => True) (fun _ U_ o_ V_ => ∃ v_ L_, o_ = .returned v_ ∧ own_dot1_Q Z o ap av ao O p0 x0 y0 i0 j0 h0 n0 v_ V_.heap L_ ∧ FrameEnd U_ o_ V_ L_ ({ frames := 0, cells := 0, slots := 0, locals := 0 } : Room).cells ({ frames := 0, cells := 0, slots := 0, locals := 0 } : Room).slots) := by
  refine own_met (y := ⟨"com/example/galicia/galicia/lime/SparseVector", "dot", "([D)D"⟩) (Q := own_dot1_Q Z o ap av ao O p0 x0 y0 i0 j0 h0 n0) own_pn1 ?_
  intro p e s m below meth c s₁ hx hby hml hZ hown hnm hret hlk X0 e0
  have N0 := Fr.nil n0
  refine own_cast (g' := (mkF m 0 #[.val (.ref o), .val (.ref ao), .unset, .unset, .unset] [])) (by first | (simp [entryFrame, mkF, argsToLocals, Value.category]; done) | rfl) ?_
  generalize hL1 : (#[.val (.ref o), .val (.ref ao), .unset, .unset, .unset] : Array Slot) = L1
  refine own_pre (T' := s₁) (g' := (mkF m 1 L1 [(.double (0 : UInt64))])) (fun t k => XS.dconst0 X0.here hx rfl (v := (0 : UInt64)) (hb hby d4_0) (by decide) k) ?_
  refine own_pre (T' := s₁) (g' := (mkF m 2 #[.val (.ref o), .val (.ref ao), .val (.double (0 : UInt64)), .second, .unset] [])) (fun t k => XS.dstoreN X0.here hx rfl (hb hby d4_1) rfl (l' := #[.val (.ref o), .val (.ref ao), .val (.double (0 : UInt64)), .second, .unset]) (by rw [← hL1]; rfl) k) ?_
  generalize hL2 : (#[.val (.ref o), .val (.ref ao), .val (.double (0 : UInt64)), .second, .unset] : Array Slot) = L2
  refine own_pre (T' := s₁) (g' := (mkF m 3 L2 [(.int (0 : Int32))])) (fun t k => XS.iconst X0.here hx rfl (hb hby d4_2) k) ?_
  refine own_pre (T' := s₁) (g' := (mkF m 5 #[.val (.ref o), .val (.ref ao), .val (.double (0 : UInt64)), .second, .val (.int (0 : Int32))] [])) (fun t k => XS.istore X0.here hx rfl (hb hby d4_3) rfl (l' := #[.val (.ref o), .val (.ref ao), .val (.double (0 : UInt64)), .second, .val (.int (0 : Int32))]) (by rw [← hL2]; rfl) k) ?_
  generalize hL3 : (#[.val (.ref o), .val (.ref ao), .val (.double (0 : UInt64)), .second, .val (.int (0 : Int32))] : Array Slot) = L3
  refine own_pre (T' := s₁) (g' := (mkF m 7 L3 [(.int (0 : Int32))])) (fun t k => XS.iload X0.here hx rfl (v := (0 : Int32)) (hb hby d4_5) (by rw [← hL3]; rfl) k) ?_
  refine own_pre (T' := s₁) (g' := (mkF m 8 L3 [(.ref o), (.int (0 : Int32))])) (fun t k => XS.aloadN X0.here hx rfl (v := (.ref o)) (hb hby d4_7) (by rw [← hL3]; rfl) rfl k) ?_
  refine own_getf X0 hx hZ hown (hw _ (List.mem_of_getElem? (i := 17) rfl)) e0 F1 (hb hby d4_8) ?_
  intro T4 X4 e4
  show own_Go _ _ _ _ _ _ _ T4 (mkF m 11 L3 [(.ref ap), (.int (0 : Int32))])
  refine own_len X4 hx hZ e4 A1 (hb hby d4_11) (n := (1 : Int32)) rfl ?_
  show own_Go _ _ _ _ _ _ _ T4 (mkF m 12 L3 [(.int (1 : Int32)), (.int (0 : Int32))])
  refine own_pre (T' := T4) (g' := (mkF m 15 L3 [])) (fun t k => XS.icmpNo X4.here hx rfl (hb hby d4_12) rfl (by decide) k) ?_
  refine own_pre (T' := T4) (g' := (mkF m 16 L3 [(.double (0 : UInt64))])) (fun t k => XS.dloadN X4.here hx rfl (v := (0 : UInt64)) (hb hby d4_15) (by rw [← hL3]; rfl) k) ?_
  refine own_pre (T' := T4) (g' := (mkF m 17 L3 [(.ref o), (.double (0 : UInt64))])) (fun t k => XS.aloadN X4.here hx rfl (v := (.ref o)) (hb hby d4_16) (by rw [← hL3]; rfl) rfl k) ?_
  refine own_getf X4 hx hZ hown (hw _ (List.mem_of_getElem? (i := 19) rfl)) e4 F2 (hb hby d4_17) ?_
  intro T5 X5 e5
  show own_Go _ _ _ _ _ _ _ T5 (mkF m 20 L3 [(.ref av), (.double (0 : UInt64))])
  refine own_pre (T' := T5) (g' := (mkF m 22 L3 [(.int (0 : Int32)), (.ref av), (.double (0 : UInt64))])) (fun t k => XS.iload X5.here hx rfl (v := (0 : Int32)) (hb hby d4_20) (by rw [← hL3]; rfl) k) ?_
  refine own_daload X5 hx hZ e5 A2 (hb hby d4_22) (n := 0) (v := (.double x0)) (by decide) (by decide) rfl ?_
  show own_Go _ _ _ _ _ _ _ T5 (mkF m 23 L3 [(.double x0), (.double (0 : UInt64))])
  refine own_pre (T' := T5) (g' := (mkF m 24 L3 [(.ref ao), (.double x0), (.double (0 : UInt64))])) (fun t k => XS.aloadN X5.here hx rfl (v := (.ref ao)) (hb hby d4_23) (by rw [← hL3]; rfl) rfl k) ?_
  refine own_pre (T' := T5) (g' := (mkF m 25 L3 [(.ref o), (.ref ao), (.double x0), (.double (0 : UInt64))])) (fun t k => XS.aloadN X5.here hx rfl (v := (.ref o)) (hb hby d4_24) (by rw [← hL3]; rfl) rfl k) ?_
  refine own_getf X5 hx hZ hown (hw _ (List.mem_of_getElem? (i := 17) rfl)) e5 F1 (hb hby d4_25) ?_
  intro T6 X6 e6
  show own_Go _ _ _ _ _ _ _ T6 (mkF m 28 L3 [(.ref ap), (.ref ao), (.double x0), (.double (0 : UInt64))])
  refine own_pre (T' := T6) (g' := (mkF m 30 L3 [(.int (0 : Int32)), (.ref ap), (.ref ao), (.double x0), (.double (0 : UInt64))])) (fun t k => XS.iload X6.here hx rfl (v := (0 : Int32)) (hb hby d4_28) (by rw [← hL3]; rfl) k) ?_
  refine own_iaload X6 hx hZ e6 A1 (hb hby d4_30) (n := 0) (v := (.int p0)) (by decide) (by decide) rfl ?_
  show own_Go _ _ _ _ _ _ _ T6 (mkF m 31 L3 [(.int p0), (.ref ao), (.double x0), (.double (0 : UInt64))])
  refine own_daload X6 hx hZ e6 A3 (hb hby d4_31) (n := p0.toNatClampNeg) (v := (.double y0)) q0 rfl g0 ?_
  show own_Go _ _ _ _ _ _ _ T6 (mkF m 32 L3 [(.double y0), (.double x0), (.double (0 : UInt64))])
  obtain ⟨f7, hf7⟩ : ∃ z, FP.dmul x0 y0 = z := ⟨_, rfl⟩
  have Df7 : Jvm.FP.Core.DInt (i0 * j0) f7 := hf7 ▸ Jvm.FP.Core.dmul_int DX0 DY0 (by omega)
  refine own_pre (T' := T6) (g' := (mkF m 33 L3 [(.double f7), (.double (0 : UInt64))])) (fun t k => XS.dmulS X6.here hx rfl (hb hby d4_32) rfl (by rw [hf7]; exact own_DInt_nn Df7) hf7 k) ?_
  obtain ⟨f8, hf8⟩ : ∃ z, FP.dadd (0 : UInt64) f7 = z := ⟨_, rfl⟩
  have Df8 : Jvm.FP.Core.DInt (0 + (i0 * j0)) f8 := hf8 ▸ Jvm.FP.Core.dadd_int own_DInt0 Df7 (by omega)
  refine own_pre (T' := T6) (g' := (mkF m 34 L3 [(.double f8)])) (fun t k => XS.daddS X6.here hx rfl (hb hby d4_33) rfl (by rw [hf8]; exact own_DInt_nn Df8) hf8 k) ?_
  refine own_pre (T' := T6) (g' := (mkF m 35 #[.val (.ref o), .val (.ref ao), .val (.double f8), .second, .val (.int (0 : Int32))] [])) (fun t k => XS.dstoreN X6.here hx rfl (hb hby d4_34) rfl (l' := #[.val (.ref o), .val (.ref ao), .val (.double f8), .second, .val (.int (0 : Int32))]) (by rw [← hL3]; rfl) k) ?_
  generalize hL9 : (#[.val (.ref o), .val (.ref ao), .val (.double f8), .second, .val (.int (0 : Int32))] : Array Slot) = L9
  refine own_pre (T' := T6) (g' := (mkF m 38 #[.val (.ref o), .val (.ref ao), .val (.double f8), .second, .val (.int (1 : Int32))] [])) (fun t k => XS.iinc X6.here hx rfl (hb hby d4_35) (x := (0 : Int32)) (by rw [← hL9]; rfl) (l' := #[.val (.ref o), .val (.ref ao), .val (.double f8), .second, .val (.int (1 : Int32))]) (by rw [← hL9]; rfl) k) ?_
  generalize hL10 : (#[.val (.ref o), .val (.ref ao), .val (.double f8), .second, .val (.int (1 : Int32))] : Array Slot) = L10
  refine own_pre (T' := T6) (g' := (mkF m 5 L10 [])) (fun t k => XS.goto X6.here hx rfl (pc0 := 38) (pc' := 5) rfl (hb hby d4_38) (by decide) (by decide) k) ?_
  refine own_pre (T' := T6) (g' := (mkF m 7 L10 [(.int (1 : Int32))])) (fun t k => XS.iload X6.here hx rfl (v := (1 : Int32)) (hb hby d4_5) (by rw [← hL10]; rfl) k) ?_
  refine own_pre (T' := T6) (g' := (mkF m 8 L10 [(.ref o), (.int (1 : Int32))])) (fun t k => XS.aloadN X6.here hx rfl (v := (.ref o)) (hb hby d4_7) (by rw [← hL10]; rfl) rfl k) ?_
  refine own_getf X6 hx hZ hown (hw _ (List.mem_of_getElem? (i := 17) rfl)) e6 F1 (hb hby d4_8) ?_
  intro T11 X11 e11
  show own_Go _ _ _ _ _ _ _ T11 (mkF m 11 L10 [(.ref ap), (.int (1 : Int32))])
  refine own_len X11 hx hZ e11 A1 (hb hby d4_11) (n := (1 : Int32)) rfl ?_
  show own_Go _ _ _ _ _ _ _ T11 (mkF m 12 L10 [(.int (1 : Int32)), (.int (1 : Int32))])
  refine own_pre (T' := T11) (g' := (mkF m 41 L10 [])) (fun t k => XS.icmpYes X11.here hx rfl (pc0 := 12) (pc' := 41) rfl (hb hby d4_12) rfl (by decide) (by decide) (by decide) k) ?_
  refine own_pre (T' := T11) (g' := (mkF m 42 L10 [(.double f8)])) (fun t k => XS.dloadN X11.here hx rfl (v := f8) (hb hby d4_41) (by rw [← hL10]; rfl) k) ?_
  exact own_retD X11 hx hlk hret (hb hby d4_42) e11 ⟨_, rfl, Df8, N0, rfl⟩ (by decide) (by decide)
def own_dot2_Q (Z : State) (o ap av ao : Addr) (O : List Value) (p0 : Int32) (x0 y0 : UInt64) (i0 j0 : Int) (p1 : Int32) (x1 y1 : UInt64) (i1 j1 : Int) (h0 : Heap) (n0 : Nat) (v_ : Option Value) (h_ : Heap) (L_ : List Loc) : Prop := (fun v h L => ∃ r, v = some (.double r) ∧ FP.Core.DInt ((0 + (i0 * j0)) + (i1 * j1)) r ∧ Fr n0 L ∧ h = h0) v_ h_ L_
set_option maxRecDepth 65536 in
set_option maxHeartbeats 40000000 in
theorem own_dot2 (l : Launch) (Z : State) (a0 : Array Value) (hw : ∀ d ∈ tables_1, d.before a0 Z = true) (wds : List Jvm.Cond) (o ap av ao : Addr) (O : List Value) (p0 : Int32) (x0 y0 : UInt64) (i0 j0 : Int) (p1 : Int32) (x1 y1 : UInt64) (i1 j1 : Int) (h0 : Heap) (n0 : Nat) (Z0 : n0 ≤ h0.size) (F1 : Fld Z h0 o "com/example/galicia/galicia/lime/SparseVector" "positions" "[I" (.ref ap)) (F2 : Fld Z h0 o "com/example/galicia/galicia/lime/SparseVector" "values" "[D" (.ref av)) (A1 : own_Ary Z h0 ap .int [.int p0, .int p1]) (A2 : own_Ary Z h0 av .double [.double x0, .double x1]) (A3 : own_Ary Z h0 ao .double O) (q0 : 0 ≤ p0) (g0 : O[p0.toNatClampNeg]? = some (.double y0)) (DX0 : FP.Core.DInt i0 x0) (DY0 : FP.Core.DInt j0 y0) (b0 : (i0 * j0).natAbs ≤ 2 ^ 50) (q1 : 0 ≤ p1) (g1 : O[p1.toNatClampNeg]? = some (.double y1)) (DX1 : FP.Core.DInt i1 x1) (DY1 : FP.Core.DInt j1 y1) (b1 : (i1 * j1).natAbs ≤ 2 ^ 50) :
    MetFree l (⟨"com/example/galicia/galicia/lime/SparseVector", "dot", "([D)D"⟩ : MethodName) (head1 (Jvm.Cond.code (⟨"com/example/galicia/galicia/lime/SparseVector", "dot", "([D)D"⟩ : MethodName) prog_32_method_6_code 5 (some .double) :: wds) ({ frames := 0, cells := 0, slots := 0, locals := 0 } : Room)) (fun ar_ U_ => ar_ = #[(.ref o), (.ref ao)] ∧ Z.Warmed39 U_.vm ∧ U_.heap = h0) (fun _ _ _ _ _ => True) (fun _ U_ o_ V_ => ∃ v_ L_, o_ = .returned v_ ∧ own_dot2_Q Z o ap av ao O p0 x0 y0 i0 j0 p1 x1 y1 i1 j1 h0 n0 v_ V_.heap L_ ∧ FrameEnd U_ o_ V_ L_ ({ frames := 0, cells := 0, slots := 0, locals := 0 } : Room).cells ({ frames := 0, cells := 0, slots := 0, locals := 0 } : Room).slots) := by
  refine own_met (y := ⟨"com/example/galicia/galicia/lime/SparseVector", "dot", "([D)D"⟩) (Q := own_dot2_Q Z o ap av ao O p0 x0 y0 i0 j0 p1 x1 y1 i1 j1 h0 n0) own_pn1 ?_
  intro p e s m below meth c s₁ hx hby hml hZ hown hnm hret hlk X0 e0
  have N0 := Fr.nil n0
  refine own_cast (g' := (mkF m 0 #[.val (.ref o), .val (.ref ao), .unset, .unset, .unset] [])) (by first | (simp [entryFrame, mkF, argsToLocals, Value.category]; done) | rfl) ?_
  generalize hL1 : (#[.val (.ref o), .val (.ref ao), .unset, .unset, .unset] : Array Slot) = L1
  refine own_pre (T' := s₁) (g' := (mkF m 1 L1 [(.double (0 : UInt64))])) (fun t k => XS.dconst0 X0.here hx rfl (v := (0 : UInt64)) (hb hby d4_0) (by decide) k) ?_
  refine own_pre (T' := s₁) (g' := (mkF m 2 #[.val (.ref o), .val (.ref ao), .val (.double (0 : UInt64)), .second, .unset] [])) (fun t k => XS.dstoreN X0.here hx rfl (hb hby d4_1) rfl (l' := #[.val (.ref o), .val (.ref ao), .val (.double (0 : UInt64)), .second, .unset]) (by rw [← hL1]; rfl) k) ?_
  generalize hL2 : (#[.val (.ref o), .val (.ref ao), .val (.double (0 : UInt64)), .second, .unset] : Array Slot) = L2
  refine own_pre (T' := s₁) (g' := (mkF m 3 L2 [(.int (0 : Int32))])) (fun t k => XS.iconst X0.here hx rfl (hb hby d4_2) k) ?_
  refine own_pre (T' := s₁) (g' := (mkF m 5 #[.val (.ref o), .val (.ref ao), .val (.double (0 : UInt64)), .second, .val (.int (0 : Int32))] [])) (fun t k => XS.istore X0.here hx rfl (hb hby d4_3) rfl (l' := #[.val (.ref o), .val (.ref ao), .val (.double (0 : UInt64)), .second, .val (.int (0 : Int32))]) (by rw [← hL2]; rfl) k) ?_
  generalize hL3 : (#[.val (.ref o), .val (.ref ao), .val (.double (0 : UInt64)), .second, .val (.int (0 : Int32))] : Array Slot) = L3
  refine own_pre (T' := s₁) (g' := (mkF m 7 L3 [(.int (0 : Int32))])) (fun t k => XS.iload X0.here hx rfl (v := (0 : Int32)) (hb hby d4_5) (by rw [← hL3]; rfl) k) ?_
  refine own_pre (T' := s₁) (g' := (mkF m 8 L3 [(.ref o), (.int (0 : Int32))])) (fun t k => XS.aloadN X0.here hx rfl (v := (.ref o)) (hb hby d4_7) (by rw [← hL3]; rfl) rfl k) ?_
  refine own_getf X0 hx hZ hown (hw _ (List.mem_of_getElem? (i := 17) rfl)) e0 F1 (hb hby d4_8) ?_
  intro T4 X4 e4
  show own_Go _ _ _ _ _ _ _ T4 (mkF m 11 L3 [(.ref ap), (.int (0 : Int32))])
  refine own_len X4 hx hZ e4 A1 (hb hby d4_11) (n := (2 : Int32)) rfl ?_
  show own_Go _ _ _ _ _ _ _ T4 (mkF m 12 L3 [(.int (2 : Int32)), (.int (0 : Int32))])
  refine own_pre (T' := T4) (g' := (mkF m 15 L3 [])) (fun t k => XS.icmpNo X4.here hx rfl (hb hby d4_12) rfl (by decide) k) ?_
  refine own_pre (T' := T4) (g' := (mkF m 16 L3 [(.double (0 : UInt64))])) (fun t k => XS.dloadN X4.here hx rfl (v := (0 : UInt64)) (hb hby d4_15) (by rw [← hL3]; rfl) k) ?_
  refine own_pre (T' := T4) (g' := (mkF m 17 L3 [(.ref o), (.double (0 : UInt64))])) (fun t k => XS.aloadN X4.here hx rfl (v := (.ref o)) (hb hby d4_16) (by rw [← hL3]; rfl) rfl k) ?_
  refine own_getf X4 hx hZ hown (hw _ (List.mem_of_getElem? (i := 19) rfl)) e4 F2 (hb hby d4_17) ?_
  intro T5 X5 e5
  show own_Go _ _ _ _ _ _ _ T5 (mkF m 20 L3 [(.ref av), (.double (0 : UInt64))])
  refine own_pre (T' := T5) (g' := (mkF m 22 L3 [(.int (0 : Int32)), (.ref av), (.double (0 : UInt64))])) (fun t k => XS.iload X5.here hx rfl (v := (0 : Int32)) (hb hby d4_20) (by rw [← hL3]; rfl) k) ?_
  refine own_daload X5 hx hZ e5 A2 (hb hby d4_22) (n := 0) (v := (.double x0)) (by decide) (by decide) rfl ?_
  show own_Go _ _ _ _ _ _ _ T5 (mkF m 23 L3 [(.double x0), (.double (0 : UInt64))])
  refine own_pre (T' := T5) (g' := (mkF m 24 L3 [(.ref ao), (.double x0), (.double (0 : UInt64))])) (fun t k => XS.aloadN X5.here hx rfl (v := (.ref ao)) (hb hby d4_23) (by rw [← hL3]; rfl) rfl k) ?_
  refine own_pre (T' := T5) (g' := (mkF m 25 L3 [(.ref o), (.ref ao), (.double x0), (.double (0 : UInt64))])) (fun t k => XS.aloadN X5.here hx rfl (v := (.ref o)) (hb hby d4_24) (by rw [← hL3]; rfl) rfl k) ?_
  refine own_getf X5 hx hZ hown (hw _ (List.mem_of_getElem? (i := 17) rfl)) e5 F1 (hb hby d4_25) ?_
  intro T6 X6 e6
  show own_Go _ _ _ _ _ _ _ T6 (mkF m 28 L3 [(.ref ap), (.ref ao), (.double x0), (.double (0 : UInt64))])
  refine own_pre (T' := T6) (g' := (mkF m 30 L3 [(.int (0 : Int32)), (.ref ap), (.ref ao), (.double x0), (.double (0 : UInt64))])) (fun t k => XS.iload X6.here hx rfl (v := (0 : Int32)) (hb hby d4_28) (by rw [← hL3]; rfl) k) ?_
  refine own_iaload X6 hx hZ e6 A1 (hb hby d4_30) (n := 0) (v := (.int p0)) (by decide) (by decide) rfl ?_
  show own_Go _ _ _ _ _ _ _ T6 (mkF m 31 L3 [(.int p0), (.ref ao), (.double x0), (.double (0 : UInt64))])
  refine own_daload X6 hx hZ e6 A3 (hb hby d4_31) (n := p0.toNatClampNeg) (v := (.double y0)) q0 rfl g0 ?_
  show own_Go _ _ _ _ _ _ _ T6 (mkF m 32 L3 [(.double y0), (.double x0), (.double (0 : UInt64))])
  obtain ⟨f7, hf7⟩ : ∃ z, FP.dmul x0 y0 = z := ⟨_, rfl⟩
  have Df7 : Jvm.FP.Core.DInt (i0 * j0) f7 := hf7 ▸ Jvm.FP.Core.dmul_int DX0 DY0 (by omega)
  refine own_pre (T' := T6) (g' := (mkF m 33 L3 [(.double f7), (.double (0 : UInt64))])) (fun t k => XS.dmulS X6.here hx rfl (hb hby d4_32) rfl (by rw [hf7]; exact own_DInt_nn Df7) hf7 k) ?_
  obtain ⟨f8, hf8⟩ : ∃ z, FP.dadd (0 : UInt64) f7 = z := ⟨_, rfl⟩
  have Df8 : Jvm.FP.Core.DInt (0 + (i0 * j0)) f8 := hf8 ▸ Jvm.FP.Core.dadd_int own_DInt0 Df7 (by omega)
  refine own_pre (T' := T6) (g' := (mkF m 34 L3 [(.double f8)])) (fun t k => XS.daddS X6.here hx rfl (hb hby d4_33) rfl (by rw [hf8]; exact own_DInt_nn Df8) hf8 k) ?_
  refine own_pre (T' := T6) (g' := (mkF m 35 #[.val (.ref o), .val (.ref ao), .val (.double f8), .second, .val (.int (0 : Int32))] [])) (fun t k => XS.dstoreN X6.here hx rfl (hb hby d4_34) rfl (l' := #[.val (.ref o), .val (.ref ao), .val (.double f8), .second, .val (.int (0 : Int32))]) (by rw [← hL3]; rfl) k) ?_
  generalize hL9 : (#[.val (.ref o), .val (.ref ao), .val (.double f8), .second, .val (.int (0 : Int32))] : Array Slot) = L9
  refine own_pre (T' := T6) (g' := (mkF m 38 #[.val (.ref o), .val (.ref ao), .val (.double f8), .second, .val (.int (1 : Int32))] [])) (fun t k => XS.iinc X6.here hx rfl (hb hby d4_35) (x := (0 : Int32)) (by rw [← hL9]; rfl) (l' := #[.val (.ref o), .val (.ref ao), .val (.double f8), .second, .val (.int (1 : Int32))]) (by rw [← hL9]; rfl) k) ?_
  generalize hL10 : (#[.val (.ref o), .val (.ref ao), .val (.double f8), .second, .val (.int (1 : Int32))] : Array Slot) = L10
  refine own_pre (T' := T6) (g' := (mkF m 5 L10 [])) (fun t k => XS.goto X6.here hx rfl (pc0 := 38) (pc' := 5) rfl (hb hby d4_38) (by decide) (by decide) k) ?_
  refine own_pre (T' := T6) (g' := (mkF m 7 L10 [(.int (1 : Int32))])) (fun t k => XS.iload X6.here hx rfl (v := (1 : Int32)) (hb hby d4_5) (by rw [← hL10]; rfl) k) ?_
  refine own_pre (T' := T6) (g' := (mkF m 8 L10 [(.ref o), (.int (1 : Int32))])) (fun t k => XS.aloadN X6.here hx rfl (v := (.ref o)) (hb hby d4_7) (by rw [← hL10]; rfl) rfl k) ?_
  refine own_getf X6 hx hZ hown (hw _ (List.mem_of_getElem? (i := 17) rfl)) e6 F1 (hb hby d4_8) ?_
  intro T11 X11 e11
  show own_Go _ _ _ _ _ _ _ T11 (mkF m 11 L10 [(.ref ap), (.int (1 : Int32))])
  refine own_len X11 hx hZ e11 A1 (hb hby d4_11) (n := (2 : Int32)) rfl ?_
  show own_Go _ _ _ _ _ _ _ T11 (mkF m 12 L10 [(.int (2 : Int32)), (.int (1 : Int32))])
  refine own_pre (T' := T11) (g' := (mkF m 15 L10 [])) (fun t k => XS.icmpNo X11.here hx rfl (hb hby d4_12) rfl (by decide) k) ?_
  refine own_pre (T' := T11) (g' := (mkF m 16 L10 [(.double f8)])) (fun t k => XS.dloadN X11.here hx rfl (v := f8) (hb hby d4_15) (by rw [← hL10]; rfl) k) ?_
  refine own_pre (T' := T11) (g' := (mkF m 17 L10 [(.ref o), (.double f8)])) (fun t k => XS.aloadN X11.here hx rfl (v := (.ref o)) (hb hby d4_16) (by rw [← hL10]; rfl) rfl k) ?_
  refine own_getf X11 hx hZ hown (hw _ (List.mem_of_getElem? (i := 19) rfl)) e11 F2 (hb hby d4_17) ?_
  intro T12 X12 e12
  show own_Go _ _ _ _ _ _ _ T12 (mkF m 20 L10 [(.ref av), (.double f8)])
  refine own_pre (T' := T12) (g' := (mkF m 22 L10 [(.int (1 : Int32)), (.ref av), (.double f8)])) (fun t k => XS.iload X12.here hx rfl (v := (1 : Int32)) (hb hby d4_20) (by rw [← hL10]; rfl) k) ?_
  refine own_daload X12 hx hZ e12 A2 (hb hby d4_22) (n := 1) (v := (.double x1)) (by decide) (by decide) rfl ?_
  show own_Go _ _ _ _ _ _ _ T12 (mkF m 23 L10 [(.double x1), (.double f8)])
  refine own_pre (T' := T12) (g' := (mkF m 24 L10 [(.ref ao), (.double x1), (.double f8)])) (fun t k => XS.aloadN X12.here hx rfl (v := (.ref ao)) (hb hby d4_23) (by rw [← hL10]; rfl) rfl k) ?_
  refine own_pre (T' := T12) (g' := (mkF m 25 L10 [(.ref o), (.ref ao), (.double x1), (.double f8)])) (fun t k => XS.aloadN X12.here hx rfl (v := (.ref o)) (hb hby d4_24) (by rw [← hL10]; rfl) rfl k) ?_
  refine own_getf X12 hx hZ hown (hw _ (List.mem_of_getElem? (i := 17) rfl)) e12 F1 (hb hby d4_25) ?_
  intro T13 X13 e13
  show own_Go _ _ _ _ _ _ _ T13 (mkF m 28 L10 [(.ref ap), (.ref ao), (.double x1), (.double f8)])
  refine own_pre (T' := T13) (g' := (mkF m 30 L10 [(.int (1 : Int32)), (.ref ap), (.ref ao), (.double x1), (.double f8)])) (fun t k => XS.iload X13.here hx rfl (v := (1 : Int32)) (hb hby d4_28) (by rw [← hL10]; rfl) k) ?_
  refine own_iaload X13 hx hZ e13 A1 (hb hby d4_30) (n := 1) (v := (.int p1)) (by decide) (by decide) rfl ?_
  show own_Go _ _ _ _ _ _ _ T13 (mkF m 31 L10 [(.int p1), (.ref ao), (.double x1), (.double f8)])
  refine own_daload X13 hx hZ e13 A3 (hb hby d4_31) (n := p1.toNatClampNeg) (v := (.double y1)) q1 rfl g1 ?_
  show own_Go _ _ _ _ _ _ _ T13 (mkF m 32 L10 [(.double y1), (.double x1), (.double f8)])
  obtain ⟨f14, hf14⟩ : ∃ z, FP.dmul x1 y1 = z := ⟨_, rfl⟩
  have Df14 : Jvm.FP.Core.DInt (i1 * j1) f14 := hf14 ▸ Jvm.FP.Core.dmul_int DX1 DY1 (by omega)
  refine own_pre (T' := T13) (g' := (mkF m 33 L10 [(.double f14), (.double f8)])) (fun t k => XS.dmulS X13.here hx rfl (hb hby d4_32) rfl (by rw [hf14]; exact own_DInt_nn Df14) hf14 k) ?_
  obtain ⟨f15, hf15⟩ : ∃ z, FP.dadd f8 f14 = z := ⟨_, rfl⟩
  have Df15 : Jvm.FP.Core.DInt ((0 + (i0 * j0)) + (i1 * j1)) f15 := hf15 ▸ Jvm.FP.Core.dadd_int Df8 Df14 (by omega)
  refine own_pre (T' := T13) (g' := (mkF m 34 L10 [(.double f15)])) (fun t k => XS.daddS X13.here hx rfl (hb hby d4_33) rfl (by rw [hf15]; exact own_DInt_nn Df15) hf15 k) ?_
  refine own_pre (T' := T13) (g' := (mkF m 35 #[.val (.ref o), .val (.ref ao), .val (.double f15), .second, .val (.int (1 : Int32))] [])) (fun t k => XS.dstoreN X13.here hx rfl (hb hby d4_34) rfl (l' := #[.val (.ref o), .val (.ref ao), .val (.double f15), .second, .val (.int (1 : Int32))]) (by rw [← hL10]; rfl) k) ?_
  generalize hL16 : (#[.val (.ref o), .val (.ref ao), .val (.double f15), .second, .val (.int (1 : Int32))] : Array Slot) = L16
  refine own_pre (T' := T13) (g' := (mkF m 38 #[.val (.ref o), .val (.ref ao), .val (.double f15), .second, .val (.int (2 : Int32))] [])) (fun t k => XS.iinc X13.here hx rfl (hb hby d4_35) (x := (1 : Int32)) (by rw [← hL16]; rfl) (l' := #[.val (.ref o), .val (.ref ao), .val (.double f15), .second, .val (.int (2 : Int32))]) (by rw [← hL16]; rfl) k) ?_
  generalize hL17 : (#[.val (.ref o), .val (.ref ao), .val (.double f15), .second, .val (.int (2 : Int32))] : Array Slot) = L17
  refine own_pre (T' := T13) (g' := (mkF m 5 L17 [])) (fun t k => XS.goto X13.here hx rfl (pc0 := 38) (pc' := 5) rfl (hb hby d4_38) (by decide) (by decide) k) ?_
  refine own_pre (T' := T13) (g' := (mkF m 7 L17 [(.int (2 : Int32))])) (fun t k => XS.iload X13.here hx rfl (v := (2 : Int32)) (hb hby d4_5) (by rw [← hL17]; rfl) k) ?_
  refine own_pre (T' := T13) (g' := (mkF m 8 L17 [(.ref o), (.int (2 : Int32))])) (fun t k => XS.aloadN X13.here hx rfl (v := (.ref o)) (hb hby d4_7) (by rw [← hL17]; rfl) rfl k) ?_
  refine own_getf X13 hx hZ hown (hw _ (List.mem_of_getElem? (i := 17) rfl)) e13 F1 (hb hby d4_8) ?_
  intro T18 X18 e18
  show own_Go _ _ _ _ _ _ _ T18 (mkF m 11 L17 [(.ref ap), (.int (2 : Int32))])
  refine own_len X18 hx hZ e18 A1 (hb hby d4_11) (n := (2 : Int32)) rfl ?_
  show own_Go _ _ _ _ _ _ _ T18 (mkF m 12 L17 [(.int (2 : Int32)), (.int (2 : Int32))])
  refine own_pre (T' := T18) (g' := (mkF m 41 L17 [])) (fun t k => XS.icmpYes X18.here hx rfl (pc0 := 12) (pc' := 41) rfl (hb hby d4_12) rfl (by decide) (by decide) (by decide) k) ?_
  refine own_pre (T' := T18) (g' := (mkF m 42 L17 [(.double f15)])) (fun t k => XS.dloadN X18.here hx rfl (v := f15) (hb hby d4_41) (by rw [← hL17]; rfl) k) ?_
  exact own_retD X18 hx hlk hret (hb hby d4_42) e18 ⟨_, rfl, Df15, N0, rfl⟩ (by decide) (by decide)
def own_dot3_Q (Z : State) (o ap av ao : Addr) (O : List Value) (p0 : Int32) (x0 y0 : UInt64) (i0 j0 : Int) (p1 : Int32) (x1 y1 : UInt64) (i1 j1 : Int) (p2 : Int32) (x2 y2 : UInt64) (i2 j2 : Int) (h0 : Heap) (n0 : Nat) (v_ : Option Value) (h_ : Heap) (L_ : List Loc) : Prop := (fun v h L => ∃ r, v = some (.double r) ∧ FP.Core.DInt (((0 + (i0 * j0)) + (i1 * j1)) + (i2 * j2)) r ∧ Fr n0 L ∧ h = h0) v_ h_ L_
set_option maxRecDepth 65536 in
set_option maxHeartbeats 40000000 in
theorem own_dot3 (l : Launch) (Z : State) (a0 : Array Value) (hw : ∀ d ∈ tables_1, d.before a0 Z = true) (wds : List Jvm.Cond) (o ap av ao : Addr) (O : List Value) (p0 : Int32) (x0 y0 : UInt64) (i0 j0 : Int) (p1 : Int32) (x1 y1 : UInt64) (i1 j1 : Int) (p2 : Int32) (x2 y2 : UInt64) (i2 j2 : Int) (h0 : Heap) (n0 : Nat) (Z0 : n0 ≤ h0.size) (F1 : Fld Z h0 o "com/example/galicia/galicia/lime/SparseVector" "positions" "[I" (.ref ap)) (F2 : Fld Z h0 o "com/example/galicia/galicia/lime/SparseVector" "values" "[D" (.ref av)) (A1 : own_Ary Z h0 ap .int [.int p0, .int p1, .int p2]) (A2 : own_Ary Z h0 av .double [.double x0, .double x1, .double x2]) (A3 : own_Ary Z h0 ao .double O) (q0 : 0 ≤ p0) (g0 : O[p0.toNatClampNeg]? = some (.double y0)) (DX0 : FP.Core.DInt i0 x0) (DY0 : FP.Core.DInt j0 y0) (b0 : (i0 * j0).natAbs ≤ 2 ^ 50) (q1 : 0 ≤ p1) (g1 : O[p1.toNatClampNeg]? = some (.double y1)) (DX1 : FP.Core.DInt i1 x1) (DY1 : FP.Core.DInt j1 y1) (b1 : (i1 * j1).natAbs ≤ 2 ^ 50) (q2 : 0 ≤ p2) (g2 : O[p2.toNatClampNeg]? = some (.double y2)) (DX2 : FP.Core.DInt i2 x2) (DY2 : FP.Core.DInt j2 y2) (b2 : (i2 * j2).natAbs ≤ 2 ^ 50) :
    MetFree l (⟨"com/example/galicia/galicia/lime/SparseVector", "dot", "([D)D"⟩ : MethodName) (head1 (Jvm.Cond.code (⟨"com/example/galicia/galicia/lime/SparseVector", "dot", "([D)D"⟩ : MethodName) prog_32_method_6_code 5 (some .double) :: wds) ({ frames := 0, cells := 0, slots := 0, locals := 0 } : Room)) (fun ar_ U_ => ar_ = #[(.ref o), (.ref ao)] ∧ Z.Warmed39 U_.vm ∧ U_.heap = h0) (fun _ _ _ _ _ => True) (fun _ U_ o_ V_ => ∃ v_ L_, o_ = .returned v_ ∧ own_dot3_Q Z o ap av ao O p0 x0 y0 i0 j0 p1 x1 y1 i1 j1 p2 x2 y2 i2 j2 h0 n0 v_ V_.heap L_ ∧ FrameEnd U_ o_ V_ L_ ({ frames := 0, cells := 0, slots := 0, locals := 0 } : Room).cells ({ frames := 0, cells := 0, slots := 0, locals := 0 } : Room).slots) := by
  refine own_met (y := ⟨"com/example/galicia/galicia/lime/SparseVector", "dot", "([D)D"⟩) (Q := own_dot3_Q Z o ap av ao O p0 x0 y0 i0 j0 p1 x1 y1 i1 j1 p2 x2 y2 i2 j2 h0 n0) own_pn1 ?_
  intro p e s m below meth c s₁ hx hby hml hZ hown hnm hret hlk X0 e0
  have N0 := Fr.nil n0
  refine own_cast (g' := (mkF m 0 #[.val (.ref o), .val (.ref ao), .unset, .unset, .unset] [])) (by first | (simp [entryFrame, mkF, argsToLocals, Value.category]; done) | rfl) ?_
  generalize hL1 : (#[.val (.ref o), .val (.ref ao), .unset, .unset, .unset] : Array Slot) = L1
  refine own_pre (T' := s₁) (g' := (mkF m 1 L1 [(.double (0 : UInt64))])) (fun t k => XS.dconst0 X0.here hx rfl (v := (0 : UInt64)) (hb hby d4_0) (by decide) k) ?_
  refine own_pre (T' := s₁) (g' := (mkF m 2 #[.val (.ref o), .val (.ref ao), .val (.double (0 : UInt64)), .second, .unset] [])) (fun t k => XS.dstoreN X0.here hx rfl (hb hby d4_1) rfl (l' := #[.val (.ref o), .val (.ref ao), .val (.double (0 : UInt64)), .second, .unset]) (by rw [← hL1]; rfl) k) ?_
  generalize hL2 : (#[.val (.ref o), .val (.ref ao), .val (.double (0 : UInt64)), .second, .unset] : Array Slot) = L2
  refine own_pre (T' := s₁) (g' := (mkF m 3 L2 [(.int (0 : Int32))])) (fun t k => XS.iconst X0.here hx rfl (hb hby d4_2) k) ?_
  refine own_pre (T' := s₁) (g' := (mkF m 5 #[.val (.ref o), .val (.ref ao), .val (.double (0 : UInt64)), .second, .val (.int (0 : Int32))] [])) (fun t k => XS.istore X0.here hx rfl (hb hby d4_3) rfl (l' := #[.val (.ref o), .val (.ref ao), .val (.double (0 : UInt64)), .second, .val (.int (0 : Int32))]) (by rw [← hL2]; rfl) k) ?_
  generalize hL3 : (#[.val (.ref o), .val (.ref ao), .val (.double (0 : UInt64)), .second, .val (.int (0 : Int32))] : Array Slot) = L3
  refine own_pre (T' := s₁) (g' := (mkF m 7 L3 [(.int (0 : Int32))])) (fun t k => XS.iload X0.here hx rfl (v := (0 : Int32)) (hb hby d4_5) (by rw [← hL3]; rfl) k) ?_
  refine own_pre (T' := s₁) (g' := (mkF m 8 L3 [(.ref o), (.int (0 : Int32))])) (fun t k => XS.aloadN X0.here hx rfl (v := (.ref o)) (hb hby d4_7) (by rw [← hL3]; rfl) rfl k) ?_
  refine own_getf X0 hx hZ hown (hw _ (List.mem_of_getElem? (i := 17) rfl)) e0 F1 (hb hby d4_8) ?_
  intro T4 X4 e4
  show own_Go _ _ _ _ _ _ _ T4 (mkF m 11 L3 [(.ref ap), (.int (0 : Int32))])
  refine own_len X4 hx hZ e4 A1 (hb hby d4_11) (n := (3 : Int32)) rfl ?_
  show own_Go _ _ _ _ _ _ _ T4 (mkF m 12 L3 [(.int (3 : Int32)), (.int (0 : Int32))])
  refine own_pre (T' := T4) (g' := (mkF m 15 L3 [])) (fun t k => XS.icmpNo X4.here hx rfl (hb hby d4_12) rfl (by decide) k) ?_
  refine own_pre (T' := T4) (g' := (mkF m 16 L3 [(.double (0 : UInt64))])) (fun t k => XS.dloadN X4.here hx rfl (v := (0 : UInt64)) (hb hby d4_15) (by rw [← hL3]; rfl) k) ?_
  refine own_pre (T' := T4) (g' := (mkF m 17 L3 [(.ref o), (.double (0 : UInt64))])) (fun t k => XS.aloadN X4.here hx rfl (v := (.ref o)) (hb hby d4_16) (by rw [← hL3]; rfl) rfl k) ?_
  refine own_getf X4 hx hZ hown (hw _ (List.mem_of_getElem? (i := 19) rfl)) e4 F2 (hb hby d4_17) ?_
  intro T5 X5 e5
  show own_Go _ _ _ _ _ _ _ T5 (mkF m 20 L3 [(.ref av), (.double (0 : UInt64))])
  refine own_pre (T' := T5) (g' := (mkF m 22 L3 [(.int (0 : Int32)), (.ref av), (.double (0 : UInt64))])) (fun t k => XS.iload X5.here hx rfl (v := (0 : Int32)) (hb hby d4_20) (by rw [← hL3]; rfl) k) ?_
  refine own_daload X5 hx hZ e5 A2 (hb hby d4_22) (n := 0) (v := (.double x0)) (by decide) (by decide) rfl ?_
  show own_Go _ _ _ _ _ _ _ T5 (mkF m 23 L3 [(.double x0), (.double (0 : UInt64))])
  refine own_pre (T' := T5) (g' := (mkF m 24 L3 [(.ref ao), (.double x0), (.double (0 : UInt64))])) (fun t k => XS.aloadN X5.here hx rfl (v := (.ref ao)) (hb hby d4_23) (by rw [← hL3]; rfl) rfl k) ?_
  refine own_pre (T' := T5) (g' := (mkF m 25 L3 [(.ref o), (.ref ao), (.double x0), (.double (0 : UInt64))])) (fun t k => XS.aloadN X5.here hx rfl (v := (.ref o)) (hb hby d4_24) (by rw [← hL3]; rfl) rfl k) ?_
  refine own_getf X5 hx hZ hown (hw _ (List.mem_of_getElem? (i := 17) rfl)) e5 F1 (hb hby d4_25) ?_
  intro T6 X6 e6
  show own_Go _ _ _ _ _ _ _ T6 (mkF m 28 L3 [(.ref ap), (.ref ao), (.double x0), (.double (0 : UInt64))])
  refine own_pre (T' := T6) (g' := (mkF m 30 L3 [(.int (0 : Int32)), (.ref ap), (.ref ao), (.double x0), (.double (0 : UInt64))])) (fun t k => XS.iload X6.here hx rfl (v := (0 : Int32)) (hb hby d4_28) (by rw [← hL3]; rfl) k) ?_
  refine own_iaload X6 hx hZ e6 A1 (hb hby d4_30) (n := 0) (v := (.int p0)) (by decide) (by decide) rfl ?_
  show own_Go _ _ _ _ _ _ _ T6 (mkF m 31 L3 [(.int p0), (.ref ao), (.double x0), (.double (0 : UInt64))])
  refine own_daload X6 hx hZ e6 A3 (hb hby d4_31) (n := p0.toNatClampNeg) (v := (.double y0)) q0 rfl g0 ?_
  show own_Go _ _ _ _ _ _ _ T6 (mkF m 32 L3 [(.double y0), (.double x0), (.double (0 : UInt64))])
  obtain ⟨f7, hf7⟩ : ∃ z, FP.dmul x0 y0 = z := ⟨_, rfl⟩
  have Df7 : Jvm.FP.Core.DInt (i0 * j0) f7 := hf7 ▸ Jvm.FP.Core.dmul_int DX0 DY0 (by omega)
  refine own_pre (T' := T6) (g' := (mkF m 33 L3 [(.double f7), (.double (0 : UInt64))])) (fun t k => XS.dmulS X6.here hx rfl (hb hby d4_32) rfl (by rw [hf7]; exact own_DInt_nn Df7) hf7 k) ?_
  obtain ⟨f8, hf8⟩ : ∃ z, FP.dadd (0 : UInt64) f7 = z := ⟨_, rfl⟩
  have Df8 : Jvm.FP.Core.DInt (0 + (i0 * j0)) f8 := hf8 ▸ Jvm.FP.Core.dadd_int own_DInt0 Df7 (by omega)
  refine own_pre (T' := T6) (g' := (mkF m 34 L3 [(.double f8)])) (fun t k => XS.daddS X6.here hx rfl (hb hby d4_33) rfl (by rw [hf8]; exact own_DInt_nn Df8) hf8 k) ?_
  refine own_pre (T' := T6) (g' := (mkF m 35 #[.val (.ref o), .val (.ref ao), .val (.double f8), .second, .val (.int (0 : Int32))] [])) (fun t k => XS.dstoreN X6.here hx rfl (hb hby d4_34) rfl (l' := #[.val (.ref o), .val (.ref ao), .val (.double f8), .second, .val (.int (0 : Int32))]) (by rw [← hL3]; rfl) k) ?_
  generalize hL9 : (#[.val (.ref o), .val (.ref ao), .val (.double f8), .second, .val (.int (0 : Int32))] : Array Slot) = L9
  refine own_pre (T' := T6) (g' := (mkF m 38 #[.val (.ref o), .val (.ref ao), .val (.double f8), .second, .val (.int (1 : Int32))] [])) (fun t k => XS.iinc X6.here hx rfl (hb hby d4_35) (x := (0 : Int32)) (by rw [← hL9]; rfl) (l' := #[.val (.ref o), .val (.ref ao), .val (.double f8), .second, .val (.int (1 : Int32))]) (by rw [← hL9]; rfl) k) ?_
  generalize hL10 : (#[.val (.ref o), .val (.ref ao), .val (.double f8), .second, .val (.int (1 : Int32))] : Array Slot) = L10
  refine own_pre (T' := T6) (g' := (mkF m 5 L10 [])) (fun t k => XS.goto X6.here hx rfl (pc0 := 38) (pc' := 5) rfl (hb hby d4_38) (by decide) (by decide) k) ?_
  refine own_pre (T' := T6) (g' := (mkF m 7 L10 [(.int (1 : Int32))])) (fun t k => XS.iload X6.here hx rfl (v := (1 : Int32)) (hb hby d4_5) (by rw [← hL10]; rfl) k) ?_
  refine own_pre (T' := T6) (g' := (mkF m 8 L10 [(.ref o), (.int (1 : Int32))])) (fun t k => XS.aloadN X6.here hx rfl (v := (.ref o)) (hb hby d4_7) (by rw [← hL10]; rfl) rfl k) ?_
  refine own_getf X6 hx hZ hown (hw _ (List.mem_of_getElem? (i := 17) rfl)) e6 F1 (hb hby d4_8) ?_
  intro T11 X11 e11
  show own_Go _ _ _ _ _ _ _ T11 (mkF m 11 L10 [(.ref ap), (.int (1 : Int32))])
  refine own_len X11 hx hZ e11 A1 (hb hby d4_11) (n := (3 : Int32)) rfl ?_
  show own_Go _ _ _ _ _ _ _ T11 (mkF m 12 L10 [(.int (3 : Int32)), (.int (1 : Int32))])
  refine own_pre (T' := T11) (g' := (mkF m 15 L10 [])) (fun t k => XS.icmpNo X11.here hx rfl (hb hby d4_12) rfl (by decide) k) ?_
  refine own_pre (T' := T11) (g' := (mkF m 16 L10 [(.double f8)])) (fun t k => XS.dloadN X11.here hx rfl (v := f8) (hb hby d4_15) (by rw [← hL10]; rfl) k) ?_
  refine own_pre (T' := T11) (g' := (mkF m 17 L10 [(.ref o), (.double f8)])) (fun t k => XS.aloadN X11.here hx rfl (v := (.ref o)) (hb hby d4_16) (by rw [← hL10]; rfl) rfl k) ?_
  refine own_getf X11 hx hZ hown (hw _ (List.mem_of_getElem? (i := 19) rfl)) e11 F2 (hb hby d4_17) ?_
  intro T12 X12 e12
  show own_Go _ _ _ _ _ _ _ T12 (mkF m 20 L10 [(.ref av), (.double f8)])
  refine own_pre (T' := T12) (g' := (mkF m 22 L10 [(.int (1 : Int32)), (.ref av), (.double f8)])) (fun t k => XS.iload X12.here hx rfl (v := (1 : Int32)) (hb hby d4_20) (by rw [← hL10]; rfl) k) ?_
  refine own_daload X12 hx hZ e12 A2 (hb hby d4_22) (n := 1) (v := (.double x1)) (by decide) (by decide) rfl ?_
  show own_Go _ _ _ _ _ _ _ T12 (mkF m 23 L10 [(.double x1), (.double f8)])
  refine own_pre (T' := T12) (g' := (mkF m 24 L10 [(.ref ao), (.double x1), (.double f8)])) (fun t k => XS.aloadN X12.here hx rfl (v := (.ref ao)) (hb hby d4_23) (by rw [← hL10]; rfl) rfl k) ?_
  refine own_pre (T' := T12) (g' := (mkF m 25 L10 [(.ref o), (.ref ao), (.double x1), (.double f8)])) (fun t k => XS.aloadN X12.here hx rfl (v := (.ref o)) (hb hby d4_24) (by rw [← hL10]; rfl) rfl k) ?_
  refine own_getf X12 hx hZ hown (hw _ (List.mem_of_getElem? (i := 17) rfl)) e12 F1 (hb hby d4_25) ?_
  intro T13 X13 e13
  show own_Go _ _ _ _ _ _ _ T13 (mkF m 28 L10 [(.ref ap), (.ref ao), (.double x1), (.double f8)])
  refine own_pre (T' := T13) (g' := (mkF m 30 L10 [(.int (1 : Int32)), (.ref ap), (.ref ao), (.double x1), (.double f8)])) (fun t k => XS.iload X13.here hx rfl (v := (1 : Int32)) (hb hby d4_28) (by rw [← hL10]; rfl) k) ?_
  refine own_iaload X13 hx hZ e13 A1 (hb hby d4_30) (n := 1) (v := (.int p1)) (by decide) (by decide) rfl ?_
  show own_Go _ _ _ _ _ _ _ T13 (mkF m 31 L10 [(.int p1), (.ref ao), (.double x1), (.double f8)])
  refine own_daload X13 hx hZ e13 A3 (hb hby d4_31) (n := p1.toNatClampNeg) (v := (.double y1)) q1 rfl g1 ?_
  show own_Go _ _ _ _ _ _ _ T13 (mkF m 32 L10 [(.double y1), (.double x1), (.double f8)])
  obtain ⟨f14, hf14⟩ : ∃ z, FP.dmul x1 y1 = z := ⟨_, rfl⟩
  have Df14 : Jvm.FP.Core.DInt (i1 * j1) f14 := hf14 ▸ Jvm.FP.Core.dmul_int DX1 DY1 (by omega)
  refine own_pre (T' := T13) (g' := (mkF m 33 L10 [(.double f14), (.double f8)])) (fun t k => XS.dmulS X13.here hx rfl (hb hby d4_32) rfl (by rw [hf14]; exact own_DInt_nn Df14) hf14 k) ?_
  obtain ⟨f15, hf15⟩ : ∃ z, FP.dadd f8 f14 = z := ⟨_, rfl⟩
  have Df15 : Jvm.FP.Core.DInt ((0 + (i0 * j0)) + (i1 * j1)) f15 := hf15 ▸ Jvm.FP.Core.dadd_int Df8 Df14 (by omega)
  refine own_pre (T' := T13) (g' := (mkF m 34 L10 [(.double f15)])) (fun t k => XS.daddS X13.here hx rfl (hb hby d4_33) rfl (by rw [hf15]; exact own_DInt_nn Df15) hf15 k) ?_
  refine own_pre (T' := T13) (g' := (mkF m 35 #[.val (.ref o), .val (.ref ao), .val (.double f15), .second, .val (.int (1 : Int32))] [])) (fun t k => XS.dstoreN X13.here hx rfl (hb hby d4_34) rfl (l' := #[.val (.ref o), .val (.ref ao), .val (.double f15), .second, .val (.int (1 : Int32))]) (by rw [← hL10]; rfl) k) ?_
  generalize hL16 : (#[.val (.ref o), .val (.ref ao), .val (.double f15), .second, .val (.int (1 : Int32))] : Array Slot) = L16
  refine own_pre (T' := T13) (g' := (mkF m 38 #[.val (.ref o), .val (.ref ao), .val (.double f15), .second, .val (.int (2 : Int32))] [])) (fun t k => XS.iinc X13.here hx rfl (hb hby d4_35) (x := (1 : Int32)) (by rw [← hL16]; rfl) (l' := #[.val (.ref o), .val (.ref ao), .val (.double f15), .second, .val (.int (2 : Int32))]) (by rw [← hL16]; rfl) k) ?_
  generalize hL17 : (#[.val (.ref o), .val (.ref ao), .val (.double f15), .second, .val (.int (2 : Int32))] : Array Slot) = L17
  refine own_pre (T' := T13) (g' := (mkF m 5 L17 [])) (fun t k => XS.goto X13.here hx rfl (pc0 := 38) (pc' := 5) rfl (hb hby d4_38) (by decide) (by decide) k) ?_
  refine own_pre (T' := T13) (g' := (mkF m 7 L17 [(.int (2 : Int32))])) (fun t k => XS.iload X13.here hx rfl (v := (2 : Int32)) (hb hby d4_5) (by rw [← hL17]; rfl) k) ?_
  refine own_pre (T' := T13) (g' := (mkF m 8 L17 [(.ref o), (.int (2 : Int32))])) (fun t k => XS.aloadN X13.here hx rfl (v := (.ref o)) (hb hby d4_7) (by rw [← hL17]; rfl) rfl k) ?_
  refine own_getf X13 hx hZ hown (hw _ (List.mem_of_getElem? (i := 17) rfl)) e13 F1 (hb hby d4_8) ?_
  intro T18 X18 e18
  show own_Go _ _ _ _ _ _ _ T18 (mkF m 11 L17 [(.ref ap), (.int (2 : Int32))])
  refine own_len X18 hx hZ e18 A1 (hb hby d4_11) (n := (3 : Int32)) rfl ?_
  show own_Go _ _ _ _ _ _ _ T18 (mkF m 12 L17 [(.int (3 : Int32)), (.int (2 : Int32))])
  refine own_pre (T' := T18) (g' := (mkF m 15 L17 [])) (fun t k => XS.icmpNo X18.here hx rfl (hb hby d4_12) rfl (by decide) k) ?_
  refine own_pre (T' := T18) (g' := (mkF m 16 L17 [(.double f15)])) (fun t k => XS.dloadN X18.here hx rfl (v := f15) (hb hby d4_15) (by rw [← hL17]; rfl) k) ?_
  refine own_pre (T' := T18) (g' := (mkF m 17 L17 [(.ref o), (.double f15)])) (fun t k => XS.aloadN X18.here hx rfl (v := (.ref o)) (hb hby d4_16) (by rw [← hL17]; rfl) rfl k) ?_
  refine own_getf X18 hx hZ hown (hw _ (List.mem_of_getElem? (i := 19) rfl)) e18 F2 (hb hby d4_17) ?_
  intro T19 X19 e19
  show own_Go _ _ _ _ _ _ _ T19 (mkF m 20 L17 [(.ref av), (.double f15)])
  refine own_pre (T' := T19) (g' := (mkF m 22 L17 [(.int (2 : Int32)), (.ref av), (.double f15)])) (fun t k => XS.iload X19.here hx rfl (v := (2 : Int32)) (hb hby d4_20) (by rw [← hL17]; rfl) k) ?_
  refine own_daload X19 hx hZ e19 A2 (hb hby d4_22) (n := 2) (v := (.double x2)) (by decide) (by decide) rfl ?_
  show own_Go _ _ _ _ _ _ _ T19 (mkF m 23 L17 [(.double x2), (.double f15)])
  refine own_pre (T' := T19) (g' := (mkF m 24 L17 [(.ref ao), (.double x2), (.double f15)])) (fun t k => XS.aloadN X19.here hx rfl (v := (.ref ao)) (hb hby d4_23) (by rw [← hL17]; rfl) rfl k) ?_
  refine own_pre (T' := T19) (g' := (mkF m 25 L17 [(.ref o), (.ref ao), (.double x2), (.double f15)])) (fun t k => XS.aloadN X19.here hx rfl (v := (.ref o)) (hb hby d4_24) (by rw [← hL17]; rfl) rfl k) ?_
  refine own_getf X19 hx hZ hown (hw _ (List.mem_of_getElem? (i := 17) rfl)) e19 F1 (hb hby d4_25) ?_
  intro T20 X20 e20
  show own_Go _ _ _ _ _ _ _ T20 (mkF m 28 L17 [(.ref ap), (.ref ao), (.double x2), (.double f15)])
  refine own_pre (T' := T20) (g' := (mkF m 30 L17 [(.int (2 : Int32)), (.ref ap), (.ref ao), (.double x2), (.double f15)])) (fun t k => XS.iload X20.here hx rfl (v := (2 : Int32)) (hb hby d4_28) (by rw [← hL17]; rfl) k) ?_
  refine own_iaload X20 hx hZ e20 A1 (hb hby d4_30) (n := 2) (v := (.int p2)) (by decide) (by decide) rfl ?_
  show own_Go _ _ _ _ _ _ _ T20 (mkF m 31 L17 [(.int p2), (.ref ao), (.double x2), (.double f15)])
  refine own_daload X20 hx hZ e20 A3 (hb hby d4_31) (n := p2.toNatClampNeg) (v := (.double y2)) q2 rfl g2 ?_
  show own_Go _ _ _ _ _ _ _ T20 (mkF m 32 L17 [(.double y2), (.double x2), (.double f15)])
  obtain ⟨f21, hf21⟩ : ∃ z, FP.dmul x2 y2 = z := ⟨_, rfl⟩
  have Df21 : Jvm.FP.Core.DInt (i2 * j2) f21 := hf21 ▸ Jvm.FP.Core.dmul_int DX2 DY2 (by omega)
  refine own_pre (T' := T20) (g' := (mkF m 33 L17 [(.double f21), (.double f15)])) (fun t k => XS.dmulS X20.here hx rfl (hb hby d4_32) rfl (by rw [hf21]; exact own_DInt_nn Df21) hf21 k) ?_
  obtain ⟨f22, hf22⟩ : ∃ z, FP.dadd f15 f21 = z := ⟨_, rfl⟩
  have Df22 : Jvm.FP.Core.DInt (((0 + (i0 * j0)) + (i1 * j1)) + (i2 * j2)) f22 := hf22 ▸ Jvm.FP.Core.dadd_int Df15 Df21 (by omega)
  refine own_pre (T' := T20) (g' := (mkF m 34 L17 [(.double f22)])) (fun t k => XS.daddS X20.here hx rfl (hb hby d4_33) rfl (by rw [hf22]; exact own_DInt_nn Df22) hf22 k) ?_
  refine own_pre (T' := T20) (g' := (mkF m 35 #[.val (.ref o), .val (.ref ao), .val (.double f22), .second, .val (.int (2 : Int32))] [])) (fun t k => XS.dstoreN X20.here hx rfl (hb hby d4_34) rfl (l' := #[.val (.ref o), .val (.ref ao), .val (.double f22), .second, .val (.int (2 : Int32))]) (by rw [← hL17]; rfl) k) ?_
  generalize hL23 : (#[.val (.ref o), .val (.ref ao), .val (.double f22), .second, .val (.int (2 : Int32))] : Array Slot) = L23
  refine own_pre (T' := T20) (g' := (mkF m 38 #[.val (.ref o), .val (.ref ao), .val (.double f22), .second, .val (.int (3 : Int32))] [])) (fun t k => XS.iinc X20.here hx rfl (hb hby d4_35) (x := (2 : Int32)) (by rw [← hL23]; rfl) (l' := #[.val (.ref o), .val (.ref ao), .val (.double f22), .second, .val (.int (3 : Int32))]) (by rw [← hL23]; rfl) k) ?_
  generalize hL24 : (#[.val (.ref o), .val (.ref ao), .val (.double f22), .second, .val (.int (3 : Int32))] : Array Slot) = L24
  refine own_pre (T' := T20) (g' := (mkF m 5 L24 [])) (fun t k => XS.goto X20.here hx rfl (pc0 := 38) (pc' := 5) rfl (hb hby d4_38) (by decide) (by decide) k) ?_
  refine own_pre (T' := T20) (g' := (mkF m 7 L24 [(.int (3 : Int32))])) (fun t k => XS.iload X20.here hx rfl (v := (3 : Int32)) (hb hby d4_5) (by rw [← hL24]; rfl) k) ?_
  refine own_pre (T' := T20) (g' := (mkF m 8 L24 [(.ref o), (.int (3 : Int32))])) (fun t k => XS.aloadN X20.here hx rfl (v := (.ref o)) (hb hby d4_7) (by rw [← hL24]; rfl) rfl k) ?_
  refine own_getf X20 hx hZ hown (hw _ (List.mem_of_getElem? (i := 17) rfl)) e20 F1 (hb hby d4_8) ?_
  intro T25 X25 e25
  show own_Go _ _ _ _ _ _ _ T25 (mkF m 11 L24 [(.ref ap), (.int (3 : Int32))])
  refine own_len X25 hx hZ e25 A1 (hb hby d4_11) (n := (3 : Int32)) rfl ?_
  show own_Go _ _ _ _ _ _ _ T25 (mkF m 12 L24 [(.int (3 : Int32)), (.int (3 : Int32))])
  refine own_pre (T' := T25) (g' := (mkF m 41 L24 [])) (fun t k => XS.icmpYes X25.here hx rfl (pc0 := 12) (pc' := 41) rfl (hb hby d4_12) rfl (by decide) (by decide) (by decide) k) ?_
  refine own_pre (T' := T25) (g' := (mkF m 42 L24 [(.double f22)])) (fun t k => XS.dloadN X25.here hx rfl (v := f22) (hb hby d4_41) (by rw [← hL24]; rfl) k) ?_
  exact own_retD X25 hx hlk hret (hb hby d4_42) e25 ⟨_, rfl, Df22, N0, rfl⟩ (by decide) (by decide)
theorem own_pd0 : parseMethodDescriptor "(I)J" = some ⟨[.int], some .long⟩ := by decide +kernel
theorem own_pd1 : parseMethodDescriptor "([I[D)V" = some ⟨[(.array .int), (.array .double)], none⟩ := by decide +kernel
theorem own_pd2 : parseMethodDescriptor "([D)D" = some ⟨[(.array .double)], some .double⟩ := by decide +kernel
def own_law_Q (Z : State) (p0 p1 : Int32) (p2 : Int64) (h0 : Heap) (n0 : Nat) (v_ : Option Value) (h_ : Heap) (L_ : List Loc) : Prop := (fun v h L => v = some (.int 1) ∧ Fr n0 L) v_ h_ L_
set_option maxRecDepth 65536 in
set_option maxHeartbeats 40000000 in
theorem own_law (l : Launch) (Z : State) (a0 : Array Value) (hw : ∀ d ∈ tables_1, d.before a0 Z = true) (wds : List Jvm.Cond) (p0 p1 : Int32) (p2 : Int64) (h0 : Heap) (n0 : Nat) (Z0 : n0 ≤ h0.size)  :
    MetFree l x (head1 (Jvm.Cond.code x code maxLocals ret :: wds) room_1) (fun ar_ U_ => ar_ = #[(.int p0), (.int p1), (.long p2)] ∧ Z.Warmed39 U_.vm ∧ U_.heap = h0) (fun _ _ _ _ _ => True) (fun _ U_ o_ V_ => ∃ v_ L_, o_ = .returned v_ ∧ own_law_Q Z p0 p1 p2 h0 n0 v_ V_.heap L_ ∧ FrameEnd U_ o_ V_ L_ room_1.cells room_1.slots) := by
  refine own_met (y := x) (Q := own_law_Q Z p0 p1 p2 h0 n0) own_pn0 ?_
  intro p e s m below meth c s₁ hx hby hml hZ hown hnm hret hlk X0 e0
  have N0 := Fr.nil n0
  refine own_cast (g' := (mkF m 0 #[.val (.int p0), .val (.int p1), .val (.long p2), .second, .unset, .unset, .unset, .unset, .unset, .unset, .unset, .unset, .unset, .unset, .unset, .unset, .unset, .unset, .unset, .unset, .unset, .unset, .unset, .unset, .unset, .unset, .unset, .unset, .unset, .unset, .unset, .unset, .unset, .unset, .unset, .unset, .unset, .unset, .unset] [])) (by first | (simp [entryFrame, mkF, argsToLocals, Value.category, maxLocals]; done) | rfl) ?_
  generalize hL1 : (#[.val (.int p0), .val (.int p1), .val (.long p2), .second, .unset, .unset, .unset, .unset, .unset, .unset, .unset, .unset, .unset, .unset, .unset, .unset, .unset, .unset, .unset, .unset, .unset, .unset, .unset, .unset, .unset, .unset, .unset, .unset, .unset, .unset, .unset, .unset, .unset, .unset, .unset, .unset, .unset, .unset, .unset] : Array Slot) = L1
  refine own_pre (T' := s₁) (g' := (mkF m 1 L1 [(.int p0)])) (fun t k => XS.iloadN X0.here hx rfl (v := p0) (hb hby at_0) (by rw [← hL1]; rfl) k) ?_
  refine own_pre (T' := s₁) (g' := (mkF m 2 L1 [(.int (3 : Int32)), (.int p0)])) (fun t k => XS.iconst X0.here hx rfl (hb hby at_1) k) ?_
  refine own_pre (T' := s₁) (g' := (mkF m 3 L1 [(.int (p0 &&& (3 : Int32)))])) (fun t k => XS.iand X0.here hx rfl (hb hby at_2) rfl k) ?_
  generalize hv2 : p0 &&& (3 : Int32) = v2
  refine own_pre (T' := s₁) (g' := (mkF m 5 #[.val (.int p0), .val (.int p1), .val (.long p2), .second, .val (.int v2), .unset, .unset, .unset, .unset, .unset, .unset, .unset, .unset, .unset, .unset, .unset, .unset, .unset, .unset, .unset, .unset, .unset, .unset, .unset, .unset, .unset, .unset, .unset, .unset, .unset, .unset, .unset, .unset, .unset, .unset, .unset, .unset, .unset, .unset] [])) (fun t k => XS.istore X0.here hx rfl (hb hby at_3) rfl (l' := #[.val (.int p0), .val (.int p1), .val (.long p2), .second, .val (.int v2), .unset, .unset, .unset, .unset, .unset, .unset, .unset, .unset, .unset, .unset, .unset, .unset, .unset, .unset, .unset, .unset, .unset, .unset, .unset, .unset, .unset, .unset, .unset, .unset, .unset, .unset, .unset, .unset, .unset, .unset, .unset, .unset, .unset, .unset]) (by rw [← hL1]; rfl) k) ?_
  generalize hL3 : (#[.val (.int p0), .val (.int p1), .val (.long p2), .second, .val (.int v2), .unset, .unset, .unset, .unset, .unset, .unset, .unset, .unset, .unset, .unset, .unset, .unset, .unset, .unset, .unset, .unset, .unset, .unset, .unset, .unset, .unset, .unset, .unset, .unset, .unset, .unset, .unset, .unset, .unset, .unset, .unset, .unset, .unset, .unset] : Array Slot) = L3
  refine own_pre (T' := s₁) (g' := (mkF m 6 L3 [(.int p0)])) (fun t k => XS.iloadN X0.here hx rfl (v := p0) (hb hby at_5) (by rw [← hL3]; rfl) k) ?_
  refine own_pre (T' := s₁) (g' := (mkF m 7 L3 [(.int (2 : Int32)), (.int p0)])) (fun t k => XS.iconst X0.here hx rfl (hb hby at_6) k) ?_
  refine own_pre (T' := s₁) (g' := (mkF m 8 L3 [(.int (XT.ushr p0 (2 : Int32)))])) (fun t k => XT.iushr X0.here hx rfl (hb hby at_7) rfl k) ?_
  refine own_pre (T' := s₁) (g' := (mkF m 9 L3 [(.int (1 : Int32)), (.int (XT.ushr p0 (2 : Int32)))])) (fun t k => XS.iconst X0.here hx rfl (hb hby at_8) k) ?_
  refine own_pre (T' := s₁) (g' := (mkF m 10 L3 [(.int ((XT.ushr p0 (2 : Int32)) &&& (1 : Int32)))])) (fun t k => XS.iand X0.here hx rfl (hb hby at_9) rfl k) ?_
  generalize hv4 : (XT.ushr p0 (2 : Int32)) &&& (1 : Int32) = v4
  refine own_pre (T' := s₁) (g' := (mkF m 12 #[.val (.int p0), .val (.int p1), .val (.long p2), .second, .val (.int v2), .val (.int v4), .unset, .unset, .unset, .unset, .unset, .unset, .unset, .unset, .unset, .unset, .unset, .unset, .unset, .unset, .unset, .unset, .unset, .unset, .unset, .unset, .unset, .unset, .unset, .unset, .unset, .unset, .unset, .unset, .unset, .unset, .unset, .unset, .unset] [])) (fun t k => XS.istore X0.here hx rfl (hb hby at_10) rfl (l' := #[.val (.int p0), .val (.int p1), .val (.long p2), .second, .val (.int v2), .val (.int v4), .unset, .unset, .unset, .unset, .unset, .unset, .unset, .unset, .unset, .unset, .unset, .unset, .unset, .unset, .unset, .unset, .unset, .unset, .unset, .unset, .unset, .unset, .unset, .unset, .unset, .unset, .unset, .unset, .unset, .unset, .unset, .unset, .unset]) (by rw [← hL3]; rfl) k) ?_
  generalize hL5 : (#[.val (.int p0), .val (.int p1), .val (.long p2), .second, .val (.int v2), .val (.int v4), .unset, .unset, .unset, .unset, .unset, .unset, .unset, .unset, .unset, .unset, .unset, .unset, .unset, .unset, .unset, .unset, .unset, .unset, .unset, .unset, .unset, .unset, .unset, .unset, .unset, .unset, .unset, .unset, .unset, .unset, .unset, .unset, .unset] : Array Slot) = L5
  refine own_pre (T' := s₁) (g' := (mkF m 14 L5 [(.int v4)])) (fun t k => XS.iload X0.here hx rfl (v := v4) (hb hby at_12) (by rw [← hL5]; rfl) k) ?_
  refine own_pre (T' := s₁) (g' := (mkF m 15 L5 [(.int (1 : Int32)), (.int v4)])) (fun t k => XS.iconst X0.here hx rfl (hb hby at_14) k) ?_
  refine own_pre (T' := s₁) (g' := (mkF m 16 L5 [(.int (v4 + (1 : Int32)))])) (fun t k => XS.iadd X0.here hx rfl (hb hby at_15) rfl k) ?_
  refine own_pre (T' := s₁) (g' := (mkF m 17 L5 [(.int p0), (.int (v4 + (1 : Int32)))])) (fun t k => XS.iloadN X0.here hx rfl (v := p0) (hb hby at_16) (by rw [← hL5]; rfl) k) ?_
  refine own_pre (T' := s₁) (g' := (mkF m 18 L5 [(.int (3 : Int32)), (.int p0), (.int (v4 + (1 : Int32)))])) (fun t k => XS.iconst X0.here hx rfl (hb hby at_17) k) ?_
  refine own_pre (T' := s₁) (g' := (mkF m 19 L5 [(.int (XT.ushr p0 (3 : Int32))), (.int (v4 + (1 : Int32)))])) (fun t k => XT.iushr X0.here hx rfl (hb hby at_18) rfl k) ?_
  refine own_pre (T' := s₁) (g' := (mkF m 20 L5 [(.int (1 : Int32)), (.int (XT.ushr p0 (3 : Int32))), (.int (v4 + (1 : Int32)))])) (fun t k => XS.iconst X0.here hx rfl (hb hby at_19) k) ?_
  refine own_pre (T' := s₁) (g' := (mkF m 21 L5 [(.int ((XT.ushr p0 (3 : Int32)) &&& (1 : Int32))), (.int (v4 + (1 : Int32)))])) (fun t k => XS.iand X0.here hx rfl (hb hby at_20) rfl k) ?_
  refine own_pre (T' := s₁) (g' := (mkF m 22 L5 [(.int ((v4 + (1 : Int32)) + ((XT.ushr p0 (3 : Int32)) &&& (1 : Int32))))])) (fun t k => XS.iadd X0.here hx rfl (hb hby at_21) rfl k) ?_
  generalize hv6 : (v4 + (1 : Int32)) + ((XT.ushr p0 (3 : Int32)) &&& (1 : Int32)) = v6
  refine own_pre (T' := s₁) (g' := (mkF m 24 #[.val (.int p0), .val (.int p1), .val (.long p2), .second, .val (.int v2), .val (.int v4), .val (.int v6), .unset, .unset, .unset, .unset, .unset, .unset, .unset, .unset, .unset, .unset, .unset, .unset, .unset, .unset, .unset, .unset, .unset, .unset, .unset, .unset, .unset, .unset, .unset, .unset, .unset, .unset, .unset, .unset, .unset, .unset, .unset, .unset] [])) (fun t k => XS.istore X0.here hx rfl (hb hby at_22) rfl (l' := #[.val (.int p0), .val (.int p1), .val (.long p2), .second, .val (.int v2), .val (.int v4), .val (.int v6), .unset, .unset, .unset, .unset, .unset, .unset, .unset, .unset, .unset, .unset, .unset, .unset, .unset, .unset, .unset, .unset, .unset, .unset, .unset, .unset, .unset, .unset, .unset, .unset, .unset, .unset, .unset, .unset, .unset, .unset, .unset, .unset]) (by rw [← hL5]; rfl) k) ?_
  generalize hL7 : (#[.val (.int p0), .val (.int p1), .val (.long p2), .second, .val (.int v2), .val (.int v4), .val (.int v6), .unset, .unset, .unset, .unset, .unset, .unset, .unset, .unset, .unset, .unset, .unset, .unset, .unset, .unset, .unset, .unset, .unset, .unset, .unset, .unset, .unset, .unset, .unset, .unset, .unset, .unset, .unset, .unset, .unset, .unset, .unset, .unset] : Array Slot) = L7
  refine own_pre (T' := s₁) (g' := (mkF m 26 L7 [(.int v6)])) (fun t k => XS.iload X0.here hx rfl (v := v6) (hb hby at_24) (by rw [← hL7]; rfl) k) ?_
  refine own_pre (T' := s₁) (g' := (mkF m 27 L7 [(.int (1 : Int32)), (.int v6)])) (fun t k => XS.iconst X0.here hx rfl (hb hby at_26) k) ?_
  refine own_pre (T' := s₁) (g' := (mkF m 28 L7 [(.int (v6 + (1 : Int32)))])) (fun t k => XS.iadd X0.here hx rfl (hb hby at_27) rfl k) ?_
  refine own_pre (T' := s₁) (g' := (mkF m 29 L7 [(.int p0), (.int (v6 + (1 : Int32)))])) (fun t k => XS.iloadN X0.here hx rfl (v := p0) (hb hby at_28) (by rw [← hL7]; rfl) k) ?_
  refine own_pre (T' := s₁) (g' := (mkF m 30 L7 [(.int (4 : Int32)), (.int p0), (.int (v6 + (1 : Int32)))])) (fun t k => XS.iconst X0.here hx rfl (hb hby at_29) k) ?_
  refine own_pre (T' := s₁) (g' := (mkF m 31 L7 [(.int (XT.ushr p0 (4 : Int32))), (.int (v6 + (1 : Int32)))])) (fun t k => XT.iushr X0.here hx rfl (hb hby at_30) rfl k) ?_
  refine own_pre (T' := s₁) (g' := (mkF m 32 L7 [(.int (3 : Int32)), (.int (XT.ushr p0 (4 : Int32))), (.int (v6 + (1 : Int32)))])) (fun t k => XS.iconst X0.here hx rfl (hb hby at_31) k) ?_
  refine own_pre (T' := s₁) (g' := (mkF m 33 L7 [(.int ((XT.ushr p0 (4 : Int32)) &&& (3 : Int32))), (.int (v6 + (1 : Int32)))])) (fun t k => XS.iand X0.here hx rfl (hb hby at_32) rfl k) ?_
  refine own_pre (T' := s₁) (g' := (mkF m 34 L7 [(.int ((v6 + (1 : Int32)) + ((XT.ushr p0 (4 : Int32)) &&& (3 : Int32))))])) (fun t k => XS.iadd X0.here hx rfl (hb hby at_33) rfl k) ?_
  generalize hv8 : (v6 + (1 : Int32)) + ((XT.ushr p0 (4 : Int32)) &&& (3 : Int32)) = v8
  refine own_pre (T' := s₁) (g' := (mkF m 36 #[.val (.int p0), .val (.int p1), .val (.long p2), .second, .val (.int v2), .val (.int v4), .val (.int v6), .val (.int v8), .unset, .unset, .unset, .unset, .unset, .unset, .unset, .unset, .unset, .unset, .unset, .unset, .unset, .unset, .unset, .unset, .unset, .unset, .unset, .unset, .unset, .unset, .unset, .unset, .unset, .unset, .unset, .unset, .unset, .unset, .unset] [])) (fun t k => XS.istore X0.here hx rfl (hb hby at_34) rfl (l' := #[.val (.int p0), .val (.int p1), .val (.long p2), .second, .val (.int v2), .val (.int v4), .val (.int v6), .val (.int v8), .unset, .unset, .unset, .unset, .unset, .unset, .unset, .unset, .unset, .unset, .unset, .unset, .unset, .unset, .unset, .unset, .unset, .unset, .unset, .unset, .unset, .unset, .unset, .unset, .unset, .unset, .unset, .unset, .unset, .unset, .unset]) (by rw [← hL7]; rfl) k) ?_
  generalize hL9 : (#[.val (.int p0), .val (.int p1), .val (.long p2), .second, .val (.int v2), .val (.int v4), .val (.int v6), .val (.int v8), .unset, .unset, .unset, .unset, .unset, .unset, .unset, .unset, .unset, .unset, .unset, .unset, .unset, .unset, .unset, .unset, .unset, .unset, .unset, .unset, .unset, .unset, .unset, .unset, .unset, .unset, .unset, .unset, .unset, .unset, .unset] : Array Slot) = L9
  refine own_pre (T' := s₁) (g' := (mkF m 37 L9 [(.int p1)])) (fun t k => XS.iloadN X0.here hx rfl (v := p1) (hb hby at_36) (by rw [← hL9]; rfl) k) ?_
  refine own_pre (T' := s₁) (g' := (mkF m 39 L9 [(.int (22 : Int32)), (.int p1)])) (fun t k => XS.bipush X0.here hx rfl (hb hby at_37) k) ?_
  refine own_pre (T' := s₁) (g' := (mkF m 40 L9 [(.int (p1 <<< ((22 : Int32) &&& 31)))])) (fun t k => XT.ishl X0.here hx rfl (hb hby at_39) rfl k) ?_
  refine own_pre (T' := s₁) (g' := (mkF m 42 L9 [(.int (22 : Int32)), (.int (p1 <<< ((22 : Int32) &&& 31)))])) (fun t k => XS.bipush X0.here hx rfl (hb hby at_40) k) ?_
  refine own_pre (T' := s₁) (g' := (mkF m 43 L9 [(.int ((p1 <<< ((22 : Int32) &&& 31)) >>> ((22 : Int32) &&& 31)))])) (fun t k => XT.ishr X0.here hx rfl (hb hby at_42) rfl k) ?_
  generalize hz10 : (p1 <<< ((22 : Int32) &&& 31)) >>> ((22 : Int32) &&& 31) = z10
  refine own_calls (argsL := [(.int z10)]) (rest := []) X0 hx hZ hown (own_nzT l Z a0 hw [] z10 h0 n0 Z0) (hw _ (List.mem_of_getElem? (i := 0) rfl)) (hw _ (List.mem_of_getElem? (i := 1) rfl)) (hw _ (List.mem_of_getElem? (i := 3) rfl)) (hw _ (List.mem_of_getElem? (i := 2) rfl)) (by decide) e0 (hb hby at_43) (by rw [hml, ← hL9]; rfl) rfl (lenOf own_pd0 rfl) (by decide) (W := 0) (Nat.le_of_eq rfl) (by decide) (by decide) (by decide) ?_
  intro v11 T11 lo11 X11 Q11
  obtain ⟨h11, e11⟩ : ∃ h, T11.heap = h := ⟨_, rfl⟩
  rw [e11] at Q11
  obtain ⟨rfl, N11, q11⟩ := Q11
  have N11' := Fr.app N0 N11
  have e11' : T11.heap = h0 := e11.trans q11
  show own_Go _ _ _ _ _ _ _ T11 (mkF m 46 L9 [(.long (own_nz z10))])
  generalize hv12 : own_nz z10 = v12
  refine own_pre (T' := T11) (g' := (mkF m 48 #[.val (.int p0), .val (.int p1), .val (.long p2), .second, .val (.int v2), .val (.int v4), .val (.int v6), .val (.int v8), .val (.long v12), .second, .unset, .unset, .unset, .unset, .unset, .unset, .unset, .unset, .unset, .unset, .unset, .unset, .unset, .unset, .unset, .unset, .unset, .unset, .unset, .unset, .unset, .unset, .unset, .unset, .unset, .unset, .unset, .unset, .unset] [])) (fun t k => XT.lstore X11.here hx rfl (hb hby at_46) rfl (l' := #[.val (.int p0), .val (.int p1), .val (.long p2), .second, .val (.int v2), .val (.int v4), .val (.int v6), .val (.int v8), .val (.long v12), .second, .unset, .unset, .unset, .unset, .unset, .unset, .unset, .unset, .unset, .unset, .unset, .unset, .unset, .unset, .unset, .unset, .unset, .unset, .unset, .unset, .unset, .unset, .unset, .unset, .unset, .unset, .unset, .unset, .unset]) (by rw [← hL9]; rfl) k) ?_
  generalize hL13 : (#[.val (.int p0), .val (.int p1), .val (.long p2), .second, .val (.int v2), .val (.int v4), .val (.int v6), .val (.int v8), .val (.long v12), .second, .unset, .unset, .unset, .unset, .unset, .unset, .unset, .unset, .unset, .unset, .unset, .unset, .unset, .unset, .unset, .unset, .unset, .unset, .unset, .unset, .unset, .unset, .unset, .unset, .unset, .unset, .unset, .unset, .unset] : Array Slot) = L13
  refine own_pre (T' := T11) (g' := (mkF m 49 L13 [(.int p1)])) (fun t k => XS.iloadN X11.here hx rfl (v := p1) (hb hby at_48) (by rw [← hL13]; rfl) k) ?_
  refine own_pre (T' := T11) (g' := (mkF m 51 L13 [(.int (12 : Int32)), (.int p1)])) (fun t k => XS.bipush X11.here hx rfl (hb hby at_49) k) ?_
  refine own_pre (T' := T11) (g' := (mkF m 52 L13 [(.int (p1 <<< ((12 : Int32) &&& 31)))])) (fun t k => XT.ishl X11.here hx rfl (hb hby at_51) rfl k) ?_
  refine own_pre (T' := T11) (g' := (mkF m 54 L13 [(.int (22 : Int32)), (.int (p1 <<< ((12 : Int32) &&& 31)))])) (fun t k => XS.bipush X11.here hx rfl (hb hby at_52) k) ?_
  refine own_pre (T' := T11) (g' := (mkF m 55 L13 [(.int ((p1 <<< ((12 : Int32) &&& 31)) >>> ((22 : Int32) &&& 31)))])) (fun t k => XT.ishr X11.here hx rfl (hb hby at_54) rfl k) ?_
  generalize hz14 : (p1 <<< ((12 : Int32) &&& 31)) >>> ((22 : Int32) &&& 31) = z14
  refine own_calls (argsL := [(.int z14)]) (rest := []) X11 hx hZ hown (own_nzT l Z a0 hw [] z14 h0 n0 Z0) (hw _ (List.mem_of_getElem? (i := 0) rfl)) (hw _ (List.mem_of_getElem? (i := 1) rfl)) (hw _ (List.mem_of_getElem? (i := 3) rfl)) (hw _ (List.mem_of_getElem? (i := 2) rfl)) (by decide) e11' (hb hby at_55) (by rw [hml, ← hL13]; rfl) rfl (lenOf own_pd0 rfl) (by decide) (W := 0) (Nat.le_of_eq rfl) (by decide) (by decide) (by decide) ?_
  intro v15 T15 lo15 X15 Q15
  obtain ⟨h15, e15⟩ : ∃ h, T15.heap = h := ⟨_, rfl⟩
  rw [e15] at Q15
  obtain ⟨rfl, N15, q15⟩ := Q15
  have N15' := Fr.app N11' N15
  have e15' : T15.heap = h0 := e15.trans q15
  show own_Go _ _ _ _ _ _ _ T15 (mkF m 58 L13 [(.long (own_nz z14))])
  generalize hv16 : own_nz z14 = v16
  refine own_pre (T' := T15) (g' := (mkF m 60 #[.val (.int p0), .val (.int p1), .val (.long p2), .second, .val (.int v2), .val (.int v4), .val (.int v6), .val (.int v8), .val (.long v12), .second, .val (.long v16), .second, .unset, .unset, .unset, .unset, .unset, .unset, .unset, .unset, .unset, .unset, .unset, .unset, .unset, .unset, .unset, .unset, .unset, .unset, .unset, .unset, .unset, .unset, .unset, .unset, .unset, .unset, .unset] [])) (fun t k => XT.lstore X15.here hx rfl (hb hby at_58) rfl (l' := #[.val (.int p0), .val (.int p1), .val (.long p2), .second, .val (.int v2), .val (.int v4), .val (.int v6), .val (.int v8), .val (.long v12), .second, .val (.long v16), .second, .unset, .unset, .unset, .unset, .unset, .unset, .unset, .unset, .unset, .unset, .unset, .unset, .unset, .unset, .unset, .unset, .unset, .unset, .unset, .unset, .unset, .unset, .unset, .unset, .unset, .unset, .unset]) (by rw [← hL13]; rfl) k) ?_
  generalize hL17 : (#[.val (.int p0), .val (.int p1), .val (.long p2), .second, .val (.int v2), .val (.int v4), .val (.int v6), .val (.int v8), .val (.long v12), .second, .val (.long v16), .second, .unset, .unset, .unset, .unset, .unset, .unset, .unset, .unset, .unset, .unset, .unset, .unset, .unset, .unset, .unset, .unset, .unset, .unset, .unset, .unset, .unset, .unset, .unset, .unset, .unset, .unset, .unset] : Array Slot) = L17
  refine own_pre (T' := T15) (g' := (mkF m 61 L17 [(.int p1)])) (fun t k => XS.iloadN X15.here hx rfl (v := p1) (hb hby at_60) (by rw [← hL17]; rfl) k) ?_
  refine own_pre (T' := T15) (g' := (mkF m 62 L17 [(.int (2 : Int32)), (.int p1)])) (fun t k => XS.iconst X15.here hx rfl (hb hby at_61) k) ?_
  refine own_pre (T' := T15) (g' := (mkF m 63 L17 [(.int (p1 <<< ((2 : Int32) &&& 31)))])) (fun t k => XT.ishl X15.here hx rfl (hb hby at_62) rfl k) ?_
  refine own_pre (T' := T15) (g' := (mkF m 65 L17 [(.int (22 : Int32)), (.int (p1 <<< ((2 : Int32) &&& 31)))])) (fun t k => XS.bipush X15.here hx rfl (hb hby at_63) k) ?_
  refine own_pre (T' := T15) (g' := (mkF m 66 L17 [(.int ((p1 <<< ((2 : Int32) &&& 31)) >>> ((22 : Int32) &&& 31)))])) (fun t k => XT.ishr X15.here hx rfl (hb hby at_65) rfl k) ?_
  generalize hz18 : (p1 <<< ((2 : Int32) &&& 31)) >>> ((22 : Int32) &&& 31) = z18
  refine own_calls (argsL := [(.int z18)]) (rest := []) X15 hx hZ hown (own_nzT l Z a0 hw [] z18 h0 n0 Z0) (hw _ (List.mem_of_getElem? (i := 0) rfl)) (hw _ (List.mem_of_getElem? (i := 1) rfl)) (hw _ (List.mem_of_getElem? (i := 3) rfl)) (hw _ (List.mem_of_getElem? (i := 2) rfl)) (by decide) e15' (hb hby at_66) (by rw [hml, ← hL17]; rfl) rfl (lenOf own_pd0 rfl) (by decide) (W := 0) (Nat.le_of_eq rfl) (by decide) (by decide) (by decide) ?_
  intro v19 T19 lo19 X19 Q19
  obtain ⟨h19, e19⟩ : ∃ h, T19.heap = h := ⟨_, rfl⟩
  rw [e19] at Q19
  obtain ⟨rfl, N19, q19⟩ := Q19
  have N19' := Fr.app N15' N19
  have e19' : T19.heap = h0 := e19.trans q19
  show own_Go _ _ _ _ _ _ _ T19 (mkF m 69 L17 [(.long (own_nz z18))])
  generalize hv20 : own_nz z18 = v20
  refine own_pre (T' := T19) (g' := (mkF m 71 #[.val (.int p0), .val (.int p1), .val (.long p2), .second, .val (.int v2), .val (.int v4), .val (.int v6), .val (.int v8), .val (.long v12), .second, .val (.long v16), .second, .val (.long v20), .second, .unset, .unset, .unset, .unset, .unset, .unset, .unset, .unset, .unset, .unset, .unset, .unset, .unset, .unset, .unset, .unset, .unset, .unset, .unset, .unset, .unset, .unset, .unset, .unset, .unset] [])) (fun t k => XT.lstore X19.here hx rfl (hb hby at_69) rfl (l' := #[.val (.int p0), .val (.int p1), .val (.long p2), .second, .val (.int v2), .val (.int v4), .val (.int v6), .val (.int v8), .val (.long v12), .second, .val (.long v16), .second, .val (.long v20), .second, .unset, .unset, .unset, .unset, .unset, .unset, .unset, .unset, .unset, .unset, .unset, .unset, .unset, .unset, .unset, .unset, .unset, .unset, .unset, .unset, .unset, .unset, .unset, .unset, .unset]) (by rw [← hL17]; rfl) k) ?_
  generalize hL21 : (#[.val (.int p0), .val (.int p1), .val (.long p2), .second, .val (.int v2), .val (.int v4), .val (.int v6), .val (.int v8), .val (.long v12), .second, .val (.long v16), .second, .val (.long v20), .second, .unset, .unset, .unset, .unset, .unset, .unset, .unset, .unset, .unset, .unset, .unset, .unset, .unset, .unset, .unset, .unset, .unset, .unset, .unset, .unset, .unset, .unset, .unset, .unset, .unset] : Array Slot) = L21
  refine own_pre (T' := T19) (g' := (mkF m 72 L21 [(.long p2)])) (fun t k => XT.lloadN X19.here hx rfl (v := p2) (hb hby at_71) (by rw [← hL21]; rfl) k) ?_
  refine own_pre (T' := T19) (g' := (mkF m 73 L21 [(.int p2.toInt32)])) (fun t k => XT.l2i X19.here hx rfl (hb hby at_72) rfl k) ?_
  refine own_pre (T' := T19) (g' := (mkF m 74 L21 [(.int p2.toInt32.toInt8.toInt32)])) (fun t k => XT.i2b X19.here hx rfl (hb hby at_73) rfl k) ?_
  refine own_pre (T' := T19) (g' := (mkF m 75 L21 [(.long p2.toInt32.toInt8.toInt32.toInt64)])) (fun t k => XT.i2l X19.here hx rfl (hb hby at_74) rfl k) ?_
  generalize hv22 : p2.toInt32.toInt8.toInt32.toInt64 = v22
  refine own_pre (T' := T19) (g' := (mkF m 77 #[.val (.int p0), .val (.int p1), .val (.long p2), .second, .val (.int v2), .val (.int v4), .val (.int v6), .val (.int v8), .val (.long v12), .second, .val (.long v16), .second, .val (.long v20), .second, .val (.long v22), .second, .unset, .unset, .unset, .unset, .unset, .unset, .unset, .unset, .unset, .unset, .unset, .unset, .unset, .unset, .unset, .unset, .unset, .unset, .unset, .unset, .unset, .unset, .unset] [])) (fun t k => XT.lstore X19.here hx rfl (hb hby at_75) rfl (l' := #[.val (.int p0), .val (.int p1), .val (.long p2), .second, .val (.int v2), .val (.int v4), .val (.int v6), .val (.int v8), .val (.long v12), .second, .val (.long v16), .second, .val (.long v20), .second, .val (.long v22), .second, .unset, .unset, .unset, .unset, .unset, .unset, .unset, .unset, .unset, .unset, .unset, .unset, .unset, .unset, .unset, .unset, .unset, .unset, .unset, .unset, .unset, .unset, .unset]) (by rw [← hL21]; rfl) k) ?_
  generalize hL23 : (#[.val (.int p0), .val (.int p1), .val (.long p2), .second, .val (.int v2), .val (.int v4), .val (.int v6), .val (.int v8), .val (.long v12), .second, .val (.long v16), .second, .val (.long v20), .second, .val (.long v22), .second, .unset, .unset, .unset, .unset, .unset, .unset, .unset, .unset, .unset, .unset, .unset, .unset, .unset, .unset, .unset, .unset, .unset, .unset, .unset, .unset, .unset, .unset, .unset] : Array Slot) = L23
  refine own_pre (T' := T19) (g' := (mkF m 78 L23 [(.long p2)])) (fun t k => XT.lloadN X19.here hx rfl (v := p2) (hb hby at_77) (by rw [← hL23]; rfl) k) ?_
  refine own_pre (T' := T19) (g' := (mkF m 80 L23 [(.int (8 : Int32)), (.long p2)])) (fun t k => XS.bipush X19.here hx rfl (hb hby at_78) k) ?_
  refine own_pre (T' := T19) (g' := (mkF m 81 L23 [(.long (XT.ushrL p2 (8 : Int32)))])) (fun t k => XT.lushr X19.here hx rfl (hb hby at_80) rfl k) ?_
  refine own_pre (T' := T19) (g' := (mkF m 82 L23 [(.int ((XT.ushrL p2 (8 : Int32)).toInt32))])) (fun t k => XT.l2i X19.here hx rfl (hb hby at_81) rfl k) ?_
  refine own_pre (T' := T19) (g' := (mkF m 83 L23 [(.int (((XT.ushrL p2 (8 : Int32)).toInt32).toInt8.toInt32))])) (fun t k => XT.i2b X19.here hx rfl (hb hby at_82) rfl k) ?_
  refine own_pre (T' := T19) (g' := (mkF m 84 L23 [(.long ((((XT.ushrL p2 (8 : Int32)).toInt32).toInt8.toInt32).toInt64))])) (fun t k => XT.i2l X19.here hx rfl (hb hby at_83) rfl k) ?_
  generalize hv24 : (((XT.ushrL p2 (8 : Int32)).toInt32).toInt8.toInt32).toInt64 = v24
  refine own_pre (T' := T19) (g' := (mkF m 86 #[.val (.int p0), .val (.int p1), .val (.long p2), .second, .val (.int v2), .val (.int v4), .val (.int v6), .val (.int v8), .val (.long v12), .second, .val (.long v16), .second, .val (.long v20), .second, .val (.long v22), .second, .val (.long v24), .second, .unset, .unset, .unset, .unset, .unset, .unset, .unset, .unset, .unset, .unset, .unset, .unset, .unset, .unset, .unset, .unset, .unset, .unset, .unset, .unset, .unset] [])) (fun t k => XT.lstore X19.here hx rfl (hb hby at_84) rfl (l' := #[.val (.int p0), .val (.int p1), .val (.long p2), .second, .val (.int v2), .val (.int v4), .val (.int v6), .val (.int v8), .val (.long v12), .second, .val (.long v16), .second, .val (.long v20), .second, .val (.long v22), .second, .val (.long v24), .second, .unset, .unset, .unset, .unset, .unset, .unset, .unset, .unset, .unset, .unset, .unset, .unset, .unset, .unset, .unset, .unset, .unset, .unset, .unset, .unset, .unset]) (by rw [← hL23]; rfl) k) ?_
  generalize hL25 : (#[.val (.int p0), .val (.int p1), .val (.long p2), .second, .val (.int v2), .val (.int v4), .val (.int v6), .val (.int v8), .val (.long v12), .second, .val (.long v16), .second, .val (.long v20), .second, .val (.long v22), .second, .val (.long v24), .second, .unset, .unset, .unset, .unset, .unset, .unset, .unset, .unset, .unset, .unset, .unset, .unset, .unset, .unset, .unset, .unset, .unset, .unset, .unset, .unset, .unset] : Array Slot) = L25
  refine own_pre (T' := T19) (g' := (mkF m 87 L25 [(.long p2)])) (fun t k => XT.lloadN X19.here hx rfl (v := p2) (hb hby at_86) (by rw [← hL25]; rfl) k) ?_
  refine own_pre (T' := T19) (g' := (mkF m 89 L25 [(.int (16 : Int32)), (.long p2)])) (fun t k => XS.bipush X19.here hx rfl (hb hby at_87) k) ?_
  refine own_pre (T' := T19) (g' := (mkF m 90 L25 [(.long (XT.ushrL p2 (16 : Int32)))])) (fun t k => XT.lushr X19.here hx rfl (hb hby at_89) rfl k) ?_
  refine own_pre (T' := T19) (g' := (mkF m 91 L25 [(.int ((XT.ushrL p2 (16 : Int32)).toInt32))])) (fun t k => XT.l2i X19.here hx rfl (hb hby at_90) rfl k) ?_
  refine own_pre (T' := T19) (g' := (mkF m 92 L25 [(.int (((XT.ushrL p2 (16 : Int32)).toInt32).toInt8.toInt32))])) (fun t k => XT.i2b X19.here hx rfl (hb hby at_91) rfl k) ?_
  refine own_pre (T' := T19) (g' := (mkF m 93 L25 [(.long ((((XT.ushrL p2 (16 : Int32)).toInt32).toInt8.toInt32).toInt64))])) (fun t k => XT.i2l X19.here hx rfl (hb hby at_92) rfl k) ?_
  generalize hv26 : (((XT.ushrL p2 (16 : Int32)).toInt32).toInt8.toInt32).toInt64 = v26
  refine own_pre (T' := T19) (g' := (mkF m 95 #[.val (.int p0), .val (.int p1), .val (.long p2), .second, .val (.int v2), .val (.int v4), .val (.int v6), .val (.int v8), .val (.long v12), .second, .val (.long v16), .second, .val (.long v20), .second, .val (.long v22), .second, .val (.long v24), .second, .val (.long v26), .second, .unset, .unset, .unset, .unset, .unset, .unset, .unset, .unset, .unset, .unset, .unset, .unset, .unset, .unset, .unset, .unset, .unset, .unset, .unset] [])) (fun t k => XT.lstore X19.here hx rfl (hb hby at_93) rfl (l' := #[.val (.int p0), .val (.int p1), .val (.long p2), .second, .val (.int v2), .val (.int v4), .val (.int v6), .val (.int v8), .val (.long v12), .second, .val (.long v16), .second, .val (.long v20), .second, .val (.long v22), .second, .val (.long v24), .second, .val (.long v26), .second, .unset, .unset, .unset, .unset, .unset, .unset, .unset, .unset, .unset, .unset, .unset, .unset, .unset, .unset, .unset, .unset, .unset, .unset, .unset]) (by rw [← hL25]; rfl) k) ?_
  generalize hL27 : (#[.val (.int p0), .val (.int p1), .val (.long p2), .second, .val (.int v2), .val (.int v4), .val (.int v6), .val (.int v8), .val (.long v12), .second, .val (.long v16), .second, .val (.long v20), .second, .val (.long v22), .second, .val (.long v24), .second, .val (.long v26), .second, .unset, .unset, .unset, .unset, .unset, .unset, .unset, .unset, .unset, .unset, .unset, .unset, .unset, .unset, .unset, .unset, .unset, .unset, .unset] : Array Slot) = L27
  refine own_pre (T' := T19) (g' := (mkF m 96 L27 [(.long p2)])) (fun t k => XT.lloadN X19.here hx rfl (v := p2) (hb hby at_95) (by rw [← hL27]; rfl) k) ?_
  refine own_pre (T' := T19) (g' := (mkF m 98 L27 [(.int (24 : Int32)), (.long p2)])) (fun t k => XS.bipush X19.here hx rfl (hb hby at_96) k) ?_
  refine own_pre (T' := T19) (g' := (mkF m 99 L27 [(.long (XT.ushrL p2 (24 : Int32)))])) (fun t k => XT.lushr X19.here hx rfl (hb hby at_98) rfl k) ?_
  refine own_pre (T' := T19) (g' := (mkF m 100 L27 [(.int ((XT.ushrL p2 (24 : Int32)).toInt32))])) (fun t k => XT.l2i X19.here hx rfl (hb hby at_99) rfl k) ?_
  refine own_pre (T' := T19) (g' := (mkF m 101 L27 [(.int (((XT.ushrL p2 (24 : Int32)).toInt32).toInt8.toInt32))])) (fun t k => XT.i2b X19.here hx rfl (hb hby at_100) rfl k) ?_
  refine own_pre (T' := T19) (g' := (mkF m 102 L27 [(.long ((((XT.ushrL p2 (24 : Int32)).toInt32).toInt8.toInt32).toInt64))])) (fun t k => XT.i2l X19.here hx rfl (hb hby at_101) rfl k) ?_
  generalize hv28 : (((XT.ushrL p2 (24 : Int32)).toInt32).toInt8.toInt32).toInt64 = v28
  refine own_pre (T' := T19) (g' := (mkF m 104 #[.val (.int p0), .val (.int p1), .val (.long p2), .second, .val (.int v2), .val (.int v4), .val (.int v6), .val (.int v8), .val (.long v12), .second, .val (.long v16), .second, .val (.long v20), .second, .val (.long v22), .second, .val (.long v24), .second, .val (.long v26), .second, .val (.long v28), .second, .unset, .unset, .unset, .unset, .unset, .unset, .unset, .unset, .unset, .unset, .unset, .unset, .unset, .unset, .unset, .unset, .unset] [])) (fun t k => XT.lstore X19.here hx rfl (hb hby at_102) rfl (l' := #[.val (.int p0), .val (.int p1), .val (.long p2), .second, .val (.int v2), .val (.int v4), .val (.int v6), .val (.int v8), .val (.long v12), .second, .val (.long v16), .second, .val (.long v20), .second, .val (.long v22), .second, .val (.long v24), .second, .val (.long v26), .second, .val (.long v28), .second, .unset, .unset, .unset, .unset, .unset, .unset, .unset, .unset, .unset, .unset, .unset, .unset, .unset, .unset, .unset, .unset, .unset]) (by rw [← hL27]; rfl) k) ?_
  generalize hL29 : (#[.val (.int p0), .val (.int p1), .val (.long p2), .second, .val (.int v2), .val (.int v4), .val (.int v6), .val (.int v8), .val (.long v12), .second, .val (.long v16), .second, .val (.long v20), .second, .val (.long v22), .second, .val (.long v24), .second, .val (.long v26), .second, .val (.long v28), .second, .unset, .unset, .unset, .unset, .unset, .unset, .unset, .unset, .unset, .unset, .unset, .unset, .unset, .unset, .unset, .unset, .unset] : Array Slot) = L29
  refine own_pre (T' := T19) (g' := (mkF m 105 L29 [(.long p2)])) (fun t k => XT.lloadN X19.here hx rfl (v := p2) (hb hby at_104) (by rw [← hL29]; rfl) k) ?_
  refine own_pre (T' := T19) (g' := (mkF m 107 L29 [(.int (32 : Int32)), (.long p2)])) (fun t k => XS.bipush X19.here hx rfl (hb hby at_105) k) ?_
  refine own_pre (T' := T19) (g' := (mkF m 108 L29 [(.long (XT.ushrL p2 (32 : Int32)))])) (fun t k => XT.lushr X19.here hx rfl (hb hby at_107) rfl k) ?_
  refine own_pre (T' := T19) (g' := (mkF m 109 L29 [(.int ((XT.ushrL p2 (32 : Int32)).toInt32))])) (fun t k => XT.l2i X19.here hx rfl (hb hby at_108) rfl k) ?_
  refine own_pre (T' := T19) (g' := (mkF m 110 L29 [(.int (((XT.ushrL p2 (32 : Int32)).toInt32).toInt8.toInt32))])) (fun t k => XT.i2b X19.here hx rfl (hb hby at_109) rfl k) ?_
  refine own_pre (T' := T19) (g' := (mkF m 111 L29 [(.long ((((XT.ushrL p2 (32 : Int32)).toInt32).toInt8.toInt32).toInt64))])) (fun t k => XT.i2l X19.here hx rfl (hb hby at_110) rfl k) ?_
  generalize hv30 : (((XT.ushrL p2 (32 : Int32)).toInt32).toInt8.toInt32).toInt64 = v30
  refine own_pre (T' := T19) (g' := (mkF m 113 #[.val (.int p0), .val (.int p1), .val (.long p2), .second, .val (.int v2), .val (.int v4), .val (.int v6), .val (.int v8), .val (.long v12), .second, .val (.long v16), .second, .val (.long v20), .second, .val (.long v22), .second, .val (.long v24), .second, .val (.long v26), .second, .val (.long v28), .second, .val (.long v30), .second, .unset, .unset, .unset, .unset, .unset, .unset, .unset, .unset, .unset, .unset, .unset, .unset, .unset, .unset, .unset] [])) (fun t k => XT.lstore X19.here hx rfl (hb hby at_111) rfl (l' := #[.val (.int p0), .val (.int p1), .val (.long p2), .second, .val (.int v2), .val (.int v4), .val (.int v6), .val (.int v8), .val (.long v12), .second, .val (.long v16), .second, .val (.long v20), .second, .val (.long v22), .second, .val (.long v24), .second, .val (.long v26), .second, .val (.long v28), .second, .val (.long v30), .second, .unset, .unset, .unset, .unset, .unset, .unset, .unset, .unset, .unset, .unset, .unset, .unset, .unset, .unset, .unset]) (by rw [← hL29]; rfl) k) ?_
  generalize hL31 : (#[.val (.int p0), .val (.int p1), .val (.long p2), .second, .val (.int v2), .val (.int v4), .val (.int v6), .val (.int v8), .val (.long v12), .second, .val (.long v16), .second, .val (.long v20), .second, .val (.long v22), .second, .val (.long v24), .second, .val (.long v26), .second, .val (.long v28), .second, .val (.long v30), .second, .unset, .unset, .unset, .unset, .unset, .unset, .unset, .unset, .unset, .unset, .unset, .unset, .unset, .unset, .unset] : Array Slot) = L31
  refine own_pre (T' := T19) (g' := (mkF m 114 L31 [(.long p2)])) (fun t k => XT.lloadN X19.here hx rfl (v := p2) (hb hby at_113) (by rw [← hL31]; rfl) k) ?_
  refine own_pre (T' := T19) (g' := (mkF m 116 L31 [(.int (40 : Int32)), (.long p2)])) (fun t k => XS.bipush X19.here hx rfl (hb hby at_114) k) ?_
  refine own_pre (T' := T19) (g' := (mkF m 117 L31 [(.long (XT.ushrL p2 (40 : Int32)))])) (fun t k => XT.lushr X19.here hx rfl (hb hby at_116) rfl k) ?_
  refine own_pre (T' := T19) (g' := (mkF m 118 L31 [(.int ((XT.ushrL p2 (40 : Int32)).toInt32))])) (fun t k => XT.l2i X19.here hx rfl (hb hby at_117) rfl k) ?_
  refine own_pre (T' := T19) (g' := (mkF m 119 L31 [(.int (((XT.ushrL p2 (40 : Int32)).toInt32).toInt8.toInt32))])) (fun t k => XT.i2b X19.here hx rfl (hb hby at_118) rfl k) ?_
  refine own_pre (T' := T19) (g' := (mkF m 120 L31 [(.long ((((XT.ushrL p2 (40 : Int32)).toInt32).toInt8.toInt32).toInt64))])) (fun t k => XT.i2l X19.here hx rfl (hb hby at_119) rfl k) ?_
  generalize hv32 : (((XT.ushrL p2 (40 : Int32)).toInt32).toInt8.toInt32).toInt64 = v32
  refine own_pre (T' := T19) (g' := (mkF m 122 #[.val (.int p0), .val (.int p1), .val (.long p2), .second, .val (.int v2), .val (.int v4), .val (.int v6), .val (.int v8), .val (.long v12), .second, .val (.long v16), .second, .val (.long v20), .second, .val (.long v22), .second, .val (.long v24), .second, .val (.long v26), .second, .val (.long v28), .second, .val (.long v30), .second, .val (.long v32), .second, .unset, .unset, .unset, .unset, .unset, .unset, .unset, .unset, .unset, .unset, .unset, .unset, .unset] [])) (fun t k => XT.lstore X19.here hx rfl (hb hby at_120) rfl (l' := #[.val (.int p0), .val (.int p1), .val (.long p2), .second, .val (.int v2), .val (.int v4), .val (.int v6), .val (.int v8), .val (.long v12), .second, .val (.long v16), .second, .val (.long v20), .second, .val (.long v22), .second, .val (.long v24), .second, .val (.long v26), .second, .val (.long v28), .second, .val (.long v30), .second, .val (.long v32), .second, .unset, .unset, .unset, .unset, .unset, .unset, .unset, .unset, .unset, .unset, .unset, .unset, .unset]) (by rw [← hL31]; rfl) k) ?_
  generalize hL33 : (#[.val (.int p0), .val (.int p1), .val (.long p2), .second, .val (.int v2), .val (.int v4), .val (.int v6), .val (.int v8), .val (.long v12), .second, .val (.long v16), .second, .val (.long v20), .second, .val (.long v22), .second, .val (.long v24), .second, .val (.long v26), .second, .val (.long v28), .second, .val (.long v30), .second, .val (.long v32), .second, .unset, .unset, .unset, .unset, .unset, .unset, .unset, .unset, .unset, .unset, .unset, .unset, .unset] : Array Slot) = L33
  refine own_pre (T' := T19) (g' := (mkF m 123 L33 [(.long p2)])) (fun t k => XT.lloadN X19.here hx rfl (v := p2) (hb hby at_122) (by rw [← hL33]; rfl) k) ?_
  refine own_pre (T' := T19) (g' := (mkF m 125 L33 [(.int (48 : Int32)), (.long p2)])) (fun t k => XS.bipush X19.here hx rfl (hb hby at_123) k) ?_
  refine own_pre (T' := T19) (g' := (mkF m 126 L33 [(.long (XT.ushrL p2 (48 : Int32)))])) (fun t k => XT.lushr X19.here hx rfl (hb hby at_125) rfl k) ?_
  refine own_pre (T' := T19) (g' := (mkF m 127 L33 [(.int ((XT.ushrL p2 (48 : Int32)).toInt32))])) (fun t k => XT.l2i X19.here hx rfl (hb hby at_126) rfl k) ?_
  refine own_pre (T' := T19) (g' := (mkF m 128 L33 [(.int (((XT.ushrL p2 (48 : Int32)).toInt32).toInt8.toInt32))])) (fun t k => XT.i2b X19.here hx rfl (hb hby at_127) rfl k) ?_
  refine own_pre (T' := T19) (g' := (mkF m 129 L33 [(.long ((((XT.ushrL p2 (48 : Int32)).toInt32).toInt8.toInt32).toInt64))])) (fun t k => XT.i2l X19.here hx rfl (hb hby at_128) rfl k) ?_
  generalize hv34 : (((XT.ushrL p2 (48 : Int32)).toInt32).toInt8.toInt32).toInt64 = v34
  refine own_pre (T' := T19) (g' := (mkF m 131 #[.val (.int p0), .val (.int p1), .val (.long p2), .second, .val (.int v2), .val (.int v4), .val (.int v6), .val (.int v8), .val (.long v12), .second, .val (.long v16), .second, .val (.long v20), .second, .val (.long v22), .second, .val (.long v24), .second, .val (.long v26), .second, .val (.long v28), .second, .val (.long v30), .second, .val (.long v32), .second, .val (.long v34), .second, .unset, .unset, .unset, .unset, .unset, .unset, .unset, .unset, .unset, .unset, .unset] [])) (fun t k => XT.lstore X19.here hx rfl (hb hby at_129) rfl (l' := #[.val (.int p0), .val (.int p1), .val (.long p2), .second, .val (.int v2), .val (.int v4), .val (.int v6), .val (.int v8), .val (.long v12), .second, .val (.long v16), .second, .val (.long v20), .second, .val (.long v22), .second, .val (.long v24), .second, .val (.long v26), .second, .val (.long v28), .second, .val (.long v30), .second, .val (.long v32), .second, .val (.long v34), .second, .unset, .unset, .unset, .unset, .unset, .unset, .unset, .unset, .unset, .unset, .unset]) (by rw [← hL33]; rfl) k) ?_
  generalize hL35 : (#[.val (.int p0), .val (.int p1), .val (.long p2), .second, .val (.int v2), .val (.int v4), .val (.int v6), .val (.int v8), .val (.long v12), .second, .val (.long v16), .second, .val (.long v20), .second, .val (.long v22), .second, .val (.long v24), .second, .val (.long v26), .second, .val (.long v28), .second, .val (.long v30), .second, .val (.long v32), .second, .val (.long v34), .second, .unset, .unset, .unset, .unset, .unset, .unset, .unset, .unset, .unset, .unset, .unset] : Array Slot) = L35
  refine own_pre (T' := T19) (g' := (mkF m 132 L35 [(.long p2)])) (fun t k => XT.lloadN X19.here hx rfl (v := p2) (hb hby at_131) (by rw [← hL35]; rfl) k) ?_
  refine own_pre (T' := T19) (g' := (mkF m 134 L35 [(.int (56 : Int32)), (.long p2)])) (fun t k => XS.bipush X19.here hx rfl (hb hby at_132) k) ?_
  refine own_pre (T' := T19) (g' := (mkF m 135 L35 [(.long (XT.ushrL p2 (56 : Int32)))])) (fun t k => XT.lushr X19.here hx rfl (hb hby at_134) rfl k) ?_
  refine own_pre (T' := T19) (g' := (mkF m 136 L35 [(.int ((XT.ushrL p2 (56 : Int32)).toInt32))])) (fun t k => XT.l2i X19.here hx rfl (hb hby at_135) rfl k) ?_
  refine own_pre (T' := T19) (g' := (mkF m 137 L35 [(.int (((XT.ushrL p2 (56 : Int32)).toInt32).toInt8.toInt32))])) (fun t k => XT.i2b X19.here hx rfl (hb hby at_136) rfl k) ?_
  refine own_pre (T' := T19) (g' := (mkF m 138 L35 [(.long ((((XT.ushrL p2 (56 : Int32)).toInt32).toInt8.toInt32).toInt64))])) (fun t k => XT.i2l X19.here hx rfl (hb hby at_137) rfl k) ?_
  generalize hv36 : (((XT.ushrL p2 (56 : Int32)).toInt32).toInt8.toInt32).toInt64 = v36
  refine own_pre (T' := T19) (g' := (mkF m 140 #[.val (.int p0), .val (.int p1), .val (.long p2), .second, .val (.int v2), .val (.int v4), .val (.int v6), .val (.int v8), .val (.long v12), .second, .val (.long v16), .second, .val (.long v20), .second, .val (.long v22), .second, .val (.long v24), .second, .val (.long v26), .second, .val (.long v28), .second, .val (.long v30), .second, .val (.long v32), .second, .val (.long v34), .second, .val (.long v36), .second, .unset, .unset, .unset, .unset, .unset, .unset, .unset, .unset, .unset] [])) (fun t k => XT.lstore X19.here hx rfl (hb hby at_138) rfl (l' := #[.val (.int p0), .val (.int p1), .val (.long p2), .second, .val (.int v2), .val (.int v4), .val (.int v6), .val (.int v8), .val (.long v12), .second, .val (.long v16), .second, .val (.long v20), .second, .val (.long v22), .second, .val (.long v24), .second, .val (.long v26), .second, .val (.long v28), .second, .val (.long v30), .second, .val (.long v32), .second, .val (.long v34), .second, .val (.long v36), .second, .unset, .unset, .unset, .unset, .unset, .unset, .unset, .unset, .unset]) (by rw [← hL35]; rfl) k) ?_
  generalize hL37 : (#[.val (.int p0), .val (.int p1), .val (.long p2), .second, .val (.int v2), .val (.int v4), .val (.int v6), .val (.int v8), .val (.long v12), .second, .val (.long v16), .second, .val (.long v20), .second, .val (.long v22), .second, .val (.long v24), .second, .val (.long v26), .second, .val (.long v28), .second, .val (.long v30), .second, .val (.long v32), .second, .val (.long v34), .second, .val (.long v36), .second, .unset, .unset, .unset, .unset, .unset, .unset, .unset, .unset, .unset] : Array Slot) = L37
  obtain ⟨hn, hq0, hq1, hq2⟩ := own_pos p0 v2 v4 v6 v8 hv2 hv4 hv6 hv8
  have hV0 := own_vb z10 v12 (own_t22 hz10) hv12
  have hV1 := own_vb z14 v16 (own_t12 hz14) hv16
  have hV2 := own_vb z18 v20 (own_t2 hz18) hv20
  have hD0 := own_db _ v22 hv22
  have hD1 := own_db _ v24 hv24
  have hD2 := own_db _ v26 hv26
  have hD3 := own_db _ v28 hv28
  have hD4 := own_db _ v30 hv30
  have hD5 := own_db _ v32 hv32
  have hD6 := own_db _ v34 hv34
  have hD7 := own_db _ v36 hv36
  refine own_pre (T' := T19) (g' := (mkF m 142 L37 [(.int (8 : Int32))])) (fun t k => XS.bipush X19.here hx rfl (hb hby at_140) k) ?_
  refine own_newarr X19 hx hZ (aty := .double) (hw _ (List.mem_of_getElem? (i := 5) rfl)) e19' (hb hby at_142) (n := 8) (by decide) (by decide) (by decide) (by decide) (by decide) (ad := "[D") rfl ?_
  intro T38 h38 a38 g38 X38 e38 E38 A38 B38
  have nw39 : n0 ≤ a38 := Nat.le_trans Z0 (Nat.le_of_eq g38.symm)
  have F40 : own_Ary Z h38 a38 .double [(.double (0 : UInt64)), (.double (0 : UInt64)), (.double (0 : UInt64)), (.double (0 : UInt64)), (.double (0 : UInt64)), (.double (0 : UInt64)), (.double (0 : UInt64)), (.double (0 : UInt64))] := A38
  show own_Go _ _ _ _ _ _ _ T38 (mkF m 144 L37 [(.ref a38)])
  refine own_pre (T' := T38) (g' := (mkF m 145 L37 [(.ref a38), (.ref a38)])) (fun t k => XS.dup X38.here hx rfl (hb hby at_144) rfl rfl k) ?_
  refine own_pre (T' := T38) (g' := (mkF m 146 L37 [(.int (0 : Int32)), (.ref a38), (.ref a38)])) (fun t k => XS.iconst X38.here hx rfl (hb hby at_145) k) ?_
  refine own_pre (T' := T38) (g' := (mkF m 148 L37 [(.long v22), (.int (0 : Int32)), (.ref a38), (.ref a38)])) (fun t k => XT.lload X38.here hx rfl (v := v22) (hb hby at_146) (by rw [← hL37]; rfl) k) ?_
  obtain ⟨f41, hf41⟩ : ∃ z, FP.l2d v22 = z := ⟨_, rfl⟩
  refine own_pre (T' := T38) (g' := (mkF m 149 L37 [(.double f41), (.int (0 : Int32)), (.ref a38), (.ref a38)])) (fun t k => XS.l2dS X38.here hx rfl (hb hby at_148) rfl hf41 k) ?_
  have Df41 : Jvm.FP.Core.DInt v22.toInt f41 := hf41 ▸ Jvm.FP.Core.l2d_int (own_abs hD0)
  refine own_dastore X38 hx hZ e38 N19' nw39 F40 (hb hby at_149) (n := 0) (by decide) (by decide) (by show 0 < 8; decide) ?_
  intro T42 h42 lo42 X42 e42 N42 W42
  have F43 : own_Ary Z h42 a38 .double [(.double f41), (.double (0 : UInt64)), (.double (0 : UInt64)), (.double (0 : UInt64)), (.double (0 : UInt64)), (.double (0 : UInt64)), (.double (0 : UInt64)), (.double (0 : UInt64))] := F40.set W42
  show own_Go _ _ _ _ _ _ _ T42 (mkF m 150 L37 [(.ref a38)])
  refine own_pre (T' := T42) (g' := (mkF m 151 L37 [(.ref a38), (.ref a38)])) (fun t k => XS.dup X42.here hx rfl (hb hby at_150) rfl rfl k) ?_
  refine own_pre (T' := T42) (g' := (mkF m 152 L37 [(.int (1 : Int32)), (.ref a38), (.ref a38)])) (fun t k => XS.iconst X42.here hx rfl (hb hby at_151) k) ?_
  refine own_pre (T' := T42) (g' := (mkF m 154 L37 [(.long v24), (.int (1 : Int32)), (.ref a38), (.ref a38)])) (fun t k => XT.lload X42.here hx rfl (v := v24) (hb hby at_152) (by rw [← hL37]; rfl) k) ?_
  obtain ⟨f44, hf44⟩ : ∃ z, FP.l2d v24 = z := ⟨_, rfl⟩
  refine own_pre (T' := T42) (g' := (mkF m 155 L37 [(.double f44), (.int (1 : Int32)), (.ref a38), (.ref a38)])) (fun t k => XS.l2dS X42.here hx rfl (hb hby at_154) rfl hf44 k) ?_
  have Df44 : Jvm.FP.Core.DInt v24.toInt f44 := hf44 ▸ Jvm.FP.Core.l2d_int (own_abs hD1)
  refine own_dastore X42 hx hZ e42 N42 nw39 F43 (hb hby at_155) (n := 1) (by decide) (by decide) (by show 1 < 8; decide) ?_
  intro T45 h45 lo45 X45 e45 N45 W45
  have F46 : own_Ary Z h45 a38 .double [(.double f41), (.double f44), (.double (0 : UInt64)), (.double (0 : UInt64)), (.double (0 : UInt64)), (.double (0 : UInt64)), (.double (0 : UInt64)), (.double (0 : UInt64))] := F43.set W45
  show own_Go _ _ _ _ _ _ _ T45 (mkF m 156 L37 [(.ref a38)])
  refine own_pre (T' := T45) (g' := (mkF m 157 L37 [(.ref a38), (.ref a38)])) (fun t k => XS.dup X45.here hx rfl (hb hby at_156) rfl rfl k) ?_
  refine own_pre (T' := T45) (g' := (mkF m 158 L37 [(.int (2 : Int32)), (.ref a38), (.ref a38)])) (fun t k => XS.iconst X45.here hx rfl (hb hby at_157) k) ?_
  refine own_pre (T' := T45) (g' := (mkF m 160 L37 [(.long v26), (.int (2 : Int32)), (.ref a38), (.ref a38)])) (fun t k => XT.lload X45.here hx rfl (v := v26) (hb hby at_158) (by rw [← hL37]; rfl) k) ?_
  obtain ⟨f47, hf47⟩ : ∃ z, FP.l2d v26 = z := ⟨_, rfl⟩
  refine own_pre (T' := T45) (g' := (mkF m 161 L37 [(.double f47), (.int (2 : Int32)), (.ref a38), (.ref a38)])) (fun t k => XS.l2dS X45.here hx rfl (hb hby at_160) rfl hf47 k) ?_
  have Df47 : Jvm.FP.Core.DInt v26.toInt f47 := hf47 ▸ Jvm.FP.Core.l2d_int (own_abs hD2)
  refine own_dastore X45 hx hZ e45 N45 nw39 F46 (hb hby at_161) (n := 2) (by decide) (by decide) (by show 2 < 8; decide) ?_
  intro T48 h48 lo48 X48 e48 N48 W48
  have F49 : own_Ary Z h48 a38 .double [(.double f41), (.double f44), (.double f47), (.double (0 : UInt64)), (.double (0 : UInt64)), (.double (0 : UInt64)), (.double (0 : UInt64)), (.double (0 : UInt64))] := F46.set W48
  show own_Go _ _ _ _ _ _ _ T48 (mkF m 162 L37 [(.ref a38)])
  refine own_pre (T' := T48) (g' := (mkF m 163 L37 [(.ref a38), (.ref a38)])) (fun t k => XS.dup X48.here hx rfl (hb hby at_162) rfl rfl k) ?_
  refine own_pre (T' := T48) (g' := (mkF m 164 L37 [(.int (3 : Int32)), (.ref a38), (.ref a38)])) (fun t k => XS.iconst X48.here hx rfl (hb hby at_163) k) ?_
  refine own_pre (T' := T48) (g' := (mkF m 166 L37 [(.long v28), (.int (3 : Int32)), (.ref a38), (.ref a38)])) (fun t k => XT.lload X48.here hx rfl (v := v28) (hb hby at_164) (by rw [← hL37]; rfl) k) ?_
  obtain ⟨f50, hf50⟩ : ∃ z, FP.l2d v28 = z := ⟨_, rfl⟩
  refine own_pre (T' := T48) (g' := (mkF m 167 L37 [(.double f50), (.int (3 : Int32)), (.ref a38), (.ref a38)])) (fun t k => XS.l2dS X48.here hx rfl (hb hby at_166) rfl hf50 k) ?_
  have Df50 : Jvm.FP.Core.DInt v28.toInt f50 := hf50 ▸ Jvm.FP.Core.l2d_int (own_abs hD3)
  refine own_dastore X48 hx hZ e48 N48 nw39 F49 (hb hby at_167) (n := 3) (by decide) (by decide) (by show 3 < 8; decide) ?_
  intro T51 h51 lo51 X51 e51 N51 W51
  have F52 : own_Ary Z h51 a38 .double [(.double f41), (.double f44), (.double f47), (.double f50), (.double (0 : UInt64)), (.double (0 : UInt64)), (.double (0 : UInt64)), (.double (0 : UInt64))] := F49.set W51
  show own_Go _ _ _ _ _ _ _ T51 (mkF m 168 L37 [(.ref a38)])
  refine own_pre (T' := T51) (g' := (mkF m 169 L37 [(.ref a38), (.ref a38)])) (fun t k => XS.dup X51.here hx rfl (hb hby at_168) rfl rfl k) ?_
  refine own_pre (T' := T51) (g' := (mkF m 170 L37 [(.int (4 : Int32)), (.ref a38), (.ref a38)])) (fun t k => XS.iconst X51.here hx rfl (hb hby at_169) k) ?_
  refine own_pre (T' := T51) (g' := (mkF m 172 L37 [(.long v30), (.int (4 : Int32)), (.ref a38), (.ref a38)])) (fun t k => XT.lload X51.here hx rfl (v := v30) (hb hby at_170) (by rw [← hL37]; rfl) k) ?_
  obtain ⟨f53, hf53⟩ : ∃ z, FP.l2d v30 = z := ⟨_, rfl⟩
  refine own_pre (T' := T51) (g' := (mkF m 173 L37 [(.double f53), (.int (4 : Int32)), (.ref a38), (.ref a38)])) (fun t k => XS.l2dS X51.here hx rfl (hb hby at_172) rfl hf53 k) ?_
  have Df53 : Jvm.FP.Core.DInt v30.toInt f53 := hf53 ▸ Jvm.FP.Core.l2d_int (own_abs hD4)
  refine own_dastore X51 hx hZ e51 N51 nw39 F52 (hb hby at_173) (n := 4) (by decide) (by decide) (by show 4 < 8; decide) ?_
  intro T54 h54 lo54 X54 e54 N54 W54
  have F55 : own_Ary Z h54 a38 .double [(.double f41), (.double f44), (.double f47), (.double f50), (.double f53), (.double (0 : UInt64)), (.double (0 : UInt64)), (.double (0 : UInt64))] := F52.set W54
  show own_Go _ _ _ _ _ _ _ T54 (mkF m 174 L37 [(.ref a38)])
  refine own_pre (T' := T54) (g' := (mkF m 175 L37 [(.ref a38), (.ref a38)])) (fun t k => XS.dup X54.here hx rfl (hb hby at_174) rfl rfl k) ?_
  refine own_pre (T' := T54) (g' := (mkF m 176 L37 [(.int (5 : Int32)), (.ref a38), (.ref a38)])) (fun t k => XS.iconst X54.here hx rfl (hb hby at_175) k) ?_
  refine own_pre (T' := T54) (g' := (mkF m 178 L37 [(.long v32), (.int (5 : Int32)), (.ref a38), (.ref a38)])) (fun t k => XT.lload X54.here hx rfl (v := v32) (hb hby at_176) (by rw [← hL37]; rfl) k) ?_
  obtain ⟨f56, hf56⟩ : ∃ z, FP.l2d v32 = z := ⟨_, rfl⟩
  refine own_pre (T' := T54) (g' := (mkF m 179 L37 [(.double f56), (.int (5 : Int32)), (.ref a38), (.ref a38)])) (fun t k => XS.l2dS X54.here hx rfl (hb hby at_178) rfl hf56 k) ?_
  have Df56 : Jvm.FP.Core.DInt v32.toInt f56 := hf56 ▸ Jvm.FP.Core.l2d_int (own_abs hD5)
  refine own_dastore X54 hx hZ e54 N54 nw39 F55 (hb hby at_179) (n := 5) (by decide) (by decide) (by show 5 < 8; decide) ?_
  intro T57 h57 lo57 X57 e57 N57 W57
  have F58 : own_Ary Z h57 a38 .double [(.double f41), (.double f44), (.double f47), (.double f50), (.double f53), (.double f56), (.double (0 : UInt64)), (.double (0 : UInt64))] := F55.set W57
  show own_Go _ _ _ _ _ _ _ T57 (mkF m 180 L37 [(.ref a38)])
  refine own_pre (T' := T57) (g' := (mkF m 181 L37 [(.ref a38), (.ref a38)])) (fun t k => XS.dup X57.here hx rfl (hb hby at_180) rfl rfl k) ?_
  refine own_pre (T' := T57) (g' := (mkF m 183 L37 [(.int (6 : Int32)), (.ref a38), (.ref a38)])) (fun t k => XS.bipush X57.here hx rfl (hb hby at_181) k) ?_
  refine own_pre (T' := T57) (g' := (mkF m 185 L37 [(.long v34), (.int (6 : Int32)), (.ref a38), (.ref a38)])) (fun t k => XT.lload X57.here hx rfl (v := v34) (hb hby at_183) (by rw [← hL37]; rfl) k) ?_
  obtain ⟨f59, hf59⟩ : ∃ z, FP.l2d v34 = z := ⟨_, rfl⟩
  refine own_pre (T' := T57) (g' := (mkF m 186 L37 [(.double f59), (.int (6 : Int32)), (.ref a38), (.ref a38)])) (fun t k => XS.l2dS X57.here hx rfl (hb hby at_185) rfl hf59 k) ?_
  have Df59 : Jvm.FP.Core.DInt v34.toInt f59 := hf59 ▸ Jvm.FP.Core.l2d_int (own_abs hD6)
  refine own_dastore X57 hx hZ e57 N57 nw39 F58 (hb hby at_186) (n := 6) (by decide) (by decide) (by show 6 < 8; decide) ?_
  intro T60 h60 lo60 X60 e60 N60 W60
  have F61 : own_Ary Z h60 a38 .double [(.double f41), (.double f44), (.double f47), (.double f50), (.double f53), (.double f56), (.double f59), (.double (0 : UInt64))] := F58.set W60
  show own_Go _ _ _ _ _ _ _ T60 (mkF m 187 L37 [(.ref a38)])
  refine own_pre (T' := T60) (g' := (mkF m 188 L37 [(.ref a38), (.ref a38)])) (fun t k => XS.dup X60.here hx rfl (hb hby at_187) rfl rfl k) ?_
  refine own_pre (T' := T60) (g' := (mkF m 190 L37 [(.int (7 : Int32)), (.ref a38), (.ref a38)])) (fun t k => XS.bipush X60.here hx rfl (hb hby at_188) k) ?_
  refine own_pre (T' := T60) (g' := (mkF m 192 L37 [(.long v36), (.int (7 : Int32)), (.ref a38), (.ref a38)])) (fun t k => XT.lload X60.here hx rfl (v := v36) (hb hby at_190) (by rw [← hL37]; rfl) k) ?_
  obtain ⟨f62, hf62⟩ : ∃ z, FP.l2d v36 = z := ⟨_, rfl⟩
  refine own_pre (T' := T60) (g' := (mkF m 193 L37 [(.double f62), (.int (7 : Int32)), (.ref a38), (.ref a38)])) (fun t k => XS.l2dS X60.here hx rfl (hb hby at_192) rfl hf62 k) ?_
  have Df62 : Jvm.FP.Core.DInt v36.toInt f62 := hf62 ▸ Jvm.FP.Core.l2d_int (own_abs hD7)
  refine own_dastore X60 hx hZ e60 N60 nw39 F61 (hb hby at_193) (n := 7) (by decide) (by decide) (by show 7 < 8; decide) ?_
  intro T63 h63 lo63 X63 e63 N63 W63
  have F64 : own_Ary Z h63 a38 .double [(.double f41), (.double f44), (.double f47), (.double f50), (.double f53), (.double f56), (.double f59), (.double f62)] := F61.set W63
  show own_Go _ _ _ _ _ _ _ T63 (mkF m 194 L37 [(.ref a38)])
  refine own_pre (T' := T63) (g' := (mkF m 196 #[.val (.int p0), .val (.int p1), .val (.long p2), .second, .val (.int v2), .val (.int v4), .val (.int v6), .val (.int v8), .val (.long v12), .second, .val (.long v16), .second, .val (.long v20), .second, .val (.long v22), .second, .val (.long v24), .second, .val (.long v26), .second, .val (.long v28), .second, .val (.long v30), .second, .val (.long v32), .second, .val (.long v34), .second, .val (.long v36), .second, .val (.ref a38), .unset, .unset, .unset, .unset, .unset, .unset, .unset, .unset] [])) (fun t k => XS.astore X63.here hx rfl (hb hby at_194) rfl rfl (l' := #[.val (.int p0), .val (.int p1), .val (.long p2), .second, .val (.int v2), .val (.int v4), .val (.int v6), .val (.int v8), .val (.long v12), .second, .val (.long v16), .second, .val (.long v20), .second, .val (.long v22), .second, .val (.long v24), .second, .val (.long v26), .second, .val (.long v28), .second, .val (.long v30), .second, .val (.long v32), .second, .val (.long v34), .second, .val (.long v36), .second, .val (.ref a38), .unset, .unset, .unset, .unset, .unset, .unset, .unset, .unset]) (by rw [← hL37]; rfl) k) ?_
  generalize hL65 : (#[.val (.int p0), .val (.int p1), .val (.long p2), .second, .val (.int v2), .val (.int v4), .val (.int v6), .val (.int v8), .val (.long v12), .second, .val (.long v16), .second, .val (.long v20), .second, .val (.long v22), .second, .val (.long v24), .second, .val (.long v26), .second, .val (.long v28), .second, .val (.long v30), .second, .val (.long v32), .second, .val (.long v34), .second, .val (.long v36), .second, .val (.ref a38), .unset, .unset, .unset, .unset, .unset, .unset, .unset, .unset] : Array Slot) = L65
  refine own_pre (T' := T63) (g' := (mkF m 198 L65 [(.int (8 : Int32))])) (fun t k => XS.bipush X63.here hx rfl (hb hby at_196) k) ?_
  have F66 : n0 ≤ h63.size := (Nat.le_trans (Nat.le_trans (Nat.le_trans (Nat.le_trans (Nat.le_trans (Nat.le_trans (Nat.le_trans (Nat.le_trans (Nat.le_trans Z0 E38.1) (Nat.le_of_eq W42.size.symm)) (Nat.le_of_eq W45.size.symm)) (Nat.le_of_eq W48.size.symm)) (Nat.le_of_eq W51.size.symm)) (Nat.le_of_eq W54.size.symm)) (Nat.le_of_eq W57.size.symm)) (Nat.le_of_eq W60.size.symm)) (Nat.le_of_eq W63.size.symm))
  refine own_newarr X63 hx hZ (aty := .long) (hw _ (List.mem_of_getElem? (i := 6) rfl)) e63 (hb hby at_198) (n := 8) (by decide) (by decide) (by decide) (by decide) (by decide) (ad := "[J") rfl ?_
  intro T67 h67 a67 g67 X67 e67 E67 A67 B67
  have lt68 : a38 < a67 := Nat.lt_of_lt_of_le F64.lt (Nat.le_of_eq g67.symm)
  have nw69 : n0 ≤ a67 := Nat.le_trans F66 (Nat.le_of_eq g67.symm)
  have F70 : own_Ary Z h67 a67 .long [(.long (0 : Int64)), (.long (0 : Int64)), (.long (0 : Int64)), (.long (0 : Int64)), (.long (0 : Int64)), (.long (0 : Int64)), (.long (0 : Int64)), (.long (0 : Int64))] := A67
  show own_Go _ _ _ _ _ _ _ T67 (mkF m 200 L65 [(.ref a67)])
  refine own_pre (T' := T67) (g' := (mkF m 201 L65 [(.ref a67), (.ref a67)])) (fun t k => XS.dup X67.here hx rfl (hb hby at_200) rfl rfl k) ?_
  refine own_pre (T' := T67) (g' := (mkF m 202 L65 [(.int (0 : Int32)), (.ref a67), (.ref a67)])) (fun t k => XS.iconst X67.here hx rfl (hb hby at_201) k) ?_
  refine own_pre (T' := T67) (g' := (mkF m 204 L65 [(.long v22), (.int (0 : Int32)), (.ref a67), (.ref a67)])) (fun t k => XT.lload X67.here hx rfl (v := v22) (hb hby at_202) (by rw [← hL65]; rfl) k) ?_
  refine own_lastore X67 hx hZ e67 N63 nw69 F70 (hb hby at_204) (n := 0) (by decide) (by decide) (by show 0 < 8; decide) ?_
  intro T71 h71 lo71 X71 e71 N71 W71
  have F72 : own_Ary Z h71 a67 .long [(.long v22), (.long (0 : Int64)), (.long (0 : Int64)), (.long (0 : Int64)), (.long (0 : Int64)), (.long (0 : Int64)), (.long (0 : Int64)), (.long (0 : Int64))] := F70.set W71
  show own_Go _ _ _ _ _ _ _ T71 (mkF m 205 L65 [(.ref a67)])
  refine own_pre (T' := T71) (g' := (mkF m 206 L65 [(.ref a67), (.ref a67)])) (fun t k => XS.dup X71.here hx rfl (hb hby at_205) rfl rfl k) ?_
  refine own_pre (T' := T71) (g' := (mkF m 207 L65 [(.int (1 : Int32)), (.ref a67), (.ref a67)])) (fun t k => XS.iconst X71.here hx rfl (hb hby at_206) k) ?_
  refine own_pre (T' := T71) (g' := (mkF m 209 L65 [(.long v24), (.int (1 : Int32)), (.ref a67), (.ref a67)])) (fun t k => XT.lload X71.here hx rfl (v := v24) (hb hby at_207) (by rw [← hL65]; rfl) k) ?_
  refine own_lastore X71 hx hZ e71 N71 nw69 F72 (hb hby at_209) (n := 1) (by decide) (by decide) (by show 1 < 8; decide) ?_
  intro T73 h73 lo73 X73 e73 N73 W73
  have F74 : own_Ary Z h73 a67 .long [(.long v22), (.long v24), (.long (0 : Int64)), (.long (0 : Int64)), (.long (0 : Int64)), (.long (0 : Int64)), (.long (0 : Int64)), (.long (0 : Int64))] := F72.set W73
  show own_Go _ _ _ _ _ _ _ T73 (mkF m 210 L65 [(.ref a67)])
  refine own_pre (T' := T73) (g' := (mkF m 211 L65 [(.ref a67), (.ref a67)])) (fun t k => XS.dup X73.here hx rfl (hb hby at_210) rfl rfl k) ?_
  refine own_pre (T' := T73) (g' := (mkF m 212 L65 [(.int (2 : Int32)), (.ref a67), (.ref a67)])) (fun t k => XS.iconst X73.here hx rfl (hb hby at_211) k) ?_
  refine own_pre (T' := T73) (g' := (mkF m 214 L65 [(.long v26), (.int (2 : Int32)), (.ref a67), (.ref a67)])) (fun t k => XT.lload X73.here hx rfl (v := v26) (hb hby at_212) (by rw [← hL65]; rfl) k) ?_
  refine own_lastore X73 hx hZ e73 N73 nw69 F74 (hb hby at_214) (n := 2) (by decide) (by decide) (by show 2 < 8; decide) ?_
  intro T75 h75 lo75 X75 e75 N75 W75
  have F76 : own_Ary Z h75 a67 .long [(.long v22), (.long v24), (.long v26), (.long (0 : Int64)), (.long (0 : Int64)), (.long (0 : Int64)), (.long (0 : Int64)), (.long (0 : Int64))] := F74.set W75
  show own_Go _ _ _ _ _ _ _ T75 (mkF m 215 L65 [(.ref a67)])
  refine own_pre (T' := T75) (g' := (mkF m 216 L65 [(.ref a67), (.ref a67)])) (fun t k => XS.dup X75.here hx rfl (hb hby at_215) rfl rfl k) ?_
  refine own_pre (T' := T75) (g' := (mkF m 217 L65 [(.int (3 : Int32)), (.ref a67), (.ref a67)])) (fun t k => XS.iconst X75.here hx rfl (hb hby at_216) k) ?_
  refine own_pre (T' := T75) (g' := (mkF m 219 L65 [(.long v28), (.int (3 : Int32)), (.ref a67), (.ref a67)])) (fun t k => XT.lload X75.here hx rfl (v := v28) (hb hby at_217) (by rw [← hL65]; rfl) k) ?_
  refine own_lastore X75 hx hZ e75 N75 nw69 F76 (hb hby at_219) (n := 3) (by decide) (by decide) (by show 3 < 8; decide) ?_
  intro T77 h77 lo77 X77 e77 N77 W77
  have F78 : own_Ary Z h77 a67 .long [(.long v22), (.long v24), (.long v26), (.long v28), (.long (0 : Int64)), (.long (0 : Int64)), (.long (0 : Int64)), (.long (0 : Int64))] := F76.set W77
  show own_Go _ _ _ _ _ _ _ T77 (mkF m 220 L65 [(.ref a67)])
  refine own_pre (T' := T77) (g' := (mkF m 221 L65 [(.ref a67), (.ref a67)])) (fun t k => XS.dup X77.here hx rfl (hb hby at_220) rfl rfl k) ?_
  refine own_pre (T' := T77) (g' := (mkF m 222 L65 [(.int (4 : Int32)), (.ref a67), (.ref a67)])) (fun t k => XS.iconst X77.here hx rfl (hb hby at_221) k) ?_
  refine own_pre (T' := T77) (g' := (mkF m 224 L65 [(.long v30), (.int (4 : Int32)), (.ref a67), (.ref a67)])) (fun t k => XT.lload X77.here hx rfl (v := v30) (hb hby at_222) (by rw [← hL65]; rfl) k) ?_
  refine own_lastore X77 hx hZ e77 N77 nw69 F78 (hb hby at_224) (n := 4) (by decide) (by decide) (by show 4 < 8; decide) ?_
  intro T79 h79 lo79 X79 e79 N79 W79
  have F80 : own_Ary Z h79 a67 .long [(.long v22), (.long v24), (.long v26), (.long v28), (.long v30), (.long (0 : Int64)), (.long (0 : Int64)), (.long (0 : Int64))] := F78.set W79
  show own_Go _ _ _ _ _ _ _ T79 (mkF m 225 L65 [(.ref a67)])
  refine own_pre (T' := T79) (g' := (mkF m 226 L65 [(.ref a67), (.ref a67)])) (fun t k => XS.dup X79.here hx rfl (hb hby at_225) rfl rfl k) ?_
  refine own_pre (T' := T79) (g' := (mkF m 227 L65 [(.int (5 : Int32)), (.ref a67), (.ref a67)])) (fun t k => XS.iconst X79.here hx rfl (hb hby at_226) k) ?_
  refine own_pre (T' := T79) (g' := (mkF m 229 L65 [(.long v32), (.int (5 : Int32)), (.ref a67), (.ref a67)])) (fun t k => XT.lload X79.here hx rfl (v := v32) (hb hby at_227) (by rw [← hL65]; rfl) k) ?_
  refine own_lastore X79 hx hZ e79 N79 nw69 F80 (hb hby at_229) (n := 5) (by decide) (by decide) (by show 5 < 8; decide) ?_
  intro T81 h81 lo81 X81 e81 N81 W81
  have F82 : own_Ary Z h81 a67 .long [(.long v22), (.long v24), (.long v26), (.long v28), (.long v30), (.long v32), (.long (0 : Int64)), (.long (0 : Int64))] := F80.set W81
  show own_Go _ _ _ _ _ _ _ T81 (mkF m 230 L65 [(.ref a67)])
  refine own_pre (T' := T81) (g' := (mkF m 231 L65 [(.ref a67), (.ref a67)])) (fun t k => XS.dup X81.here hx rfl (hb hby at_230) rfl rfl k) ?_
  refine own_pre (T' := T81) (g' := (mkF m 233 L65 [(.int (6 : Int32)), (.ref a67), (.ref a67)])) (fun t k => XS.bipush X81.here hx rfl (hb hby at_231) k) ?_
  refine own_pre (T' := T81) (g' := (mkF m 235 L65 [(.long v34), (.int (6 : Int32)), (.ref a67), (.ref a67)])) (fun t k => XT.lload X81.here hx rfl (v := v34) (hb hby at_233) (by rw [← hL65]; rfl) k) ?_
  refine own_lastore X81 hx hZ e81 N81 nw69 F82 (hb hby at_235) (n := 6) (by decide) (by decide) (by show 6 < 8; decide) ?_
  intro T83 h83 lo83 X83 e83 N83 W83
  have F84 : own_Ary Z h83 a67 .long [(.long v22), (.long v24), (.long v26), (.long v28), (.long v30), (.long v32), (.long v34), (.long (0 : Int64))] := F82.set W83
  show own_Go _ _ _ _ _ _ _ T83 (mkF m 236 L65 [(.ref a67)])
  refine own_pre (T' := T83) (g' := (mkF m 237 L65 [(.ref a67), (.ref a67)])) (fun t k => XS.dup X83.here hx rfl (hb hby at_236) rfl rfl k) ?_
  refine own_pre (T' := T83) (g' := (mkF m 239 L65 [(.int (7 : Int32)), (.ref a67), (.ref a67)])) (fun t k => XS.bipush X83.here hx rfl (hb hby at_237) k) ?_
  refine own_pre (T' := T83) (g' := (mkF m 241 L65 [(.long v36), (.int (7 : Int32)), (.ref a67), (.ref a67)])) (fun t k => XT.lload X83.here hx rfl (v := v36) (hb hby at_239) (by rw [← hL65]; rfl) k) ?_
  refine own_lastore X83 hx hZ e83 N83 nw69 F84 (hb hby at_241) (n := 7) (by decide) (by decide) (by show 7 < 8; decide) ?_
  intro T85 h85 lo85 X85 e85 N85 W85
  have F86 : own_Ary Z h85 a67 .long [(.long v22), (.long v24), (.long v26), (.long v28), (.long v30), (.long v32), (.long v34), (.long v36)] := F84.set W85
  show own_Go _ _ _ _ _ _ _ T85 (mkF m 242 L65 [(.ref a67)])
  refine own_pre (T' := T85) (g' := (mkF m 244 #[.val (.int p0), .val (.int p1), .val (.long p2), .second, .val (.int v2), .val (.int v4), .val (.int v6), .val (.int v8), .val (.long v12), .second, .val (.long v16), .second, .val (.long v20), .second, .val (.long v22), .second, .val (.long v24), .second, .val (.long v26), .second, .val (.long v28), .second, .val (.long v30), .second, .val (.long v32), .second, .val (.long v34), .second, .val (.long v36), .second, .val (.ref a38), .val (.ref a67), .unset, .unset, .unset, .unset, .unset, .unset, .unset] [])) (fun t k => XS.astore X85.here hx rfl (hb hby at_242) rfl rfl (l' := #[.val (.int p0), .val (.int p1), .val (.long p2), .second, .val (.int v2), .val (.int v4), .val (.int v6), .val (.int v8), .val (.long v12), .second, .val (.long v16), .second, .val (.long v20), .second, .val (.long v22), .second, .val (.long v24), .second, .val (.long v26), .second, .val (.long v28), .second, .val (.long v30), .second, .val (.long v32), .second, .val (.long v34), .second, .val (.long v36), .second, .val (.ref a38), .val (.ref a67), .unset, .unset, .unset, .unset, .unset, .unset, .unset]) (by rw [← hL65]; rfl) k) ?_
  generalize hL87 : (#[.val (.int p0), .val (.int p1), .val (.long p2), .second, .val (.int v2), .val (.int v4), .val (.int v6), .val (.int v8), .val (.long v12), .second, .val (.long v16), .second, .val (.long v20), .second, .val (.long v22), .second, .val (.long v24), .second, .val (.long v26), .second, .val (.long v28), .second, .val (.long v30), .second, .val (.long v32), .second, .val (.long v34), .second, .val (.long v36), .second, .val (.ref a38), .val (.ref a67), .unset, .unset, .unset, .unset, .unset, .unset, .unset] : Array Slot) = L87
  refine own_pre (T' := T85) (g' := (mkF m 245 L87 [(.long (0 : Int64))])) (fun t k => XT.lconst X85.here hx rfl (hb hby at_244) k) ?_
  refine own_pre (T' := T85) (g' := (mkF m 247 #[.val (.int p0), .val (.int p1), .val (.long p2), .second, .val (.int v2), .val (.int v4), .val (.int v6), .val (.int v8), .val (.long v12), .second, .val (.long v16), .second, .val (.long v20), .second, .val (.long v22), .second, .val (.long v24), .second, .val (.long v26), .second, .val (.long v28), .second, .val (.long v30), .second, .val (.long v32), .second, .val (.long v34), .second, .val (.long v36), .second, .val (.ref a38), .val (.ref a67), .unset, .unset, .val (.long (0 : Int64)), .second, .unset, .unset, .unset] [])) (fun t k => XT.lstore X85.here hx rfl (hb hby at_245) rfl (l' := #[.val (.int p0), .val (.int p1), .val (.long p2), .second, .val (.int v2), .val (.int v4), .val (.int v6), .val (.int v8), .val (.long v12), .second, .val (.long v16), .second, .val (.long v20), .second, .val (.long v22), .second, .val (.long v24), .second, .val (.long v26), .second, .val (.long v28), .second, .val (.long v30), .second, .val (.long v32), .second, .val (.long v34), .second, .val (.long v36), .second, .val (.ref a38), .val (.ref a67), .unset, .unset, .val (.long (0 : Int64)), .second, .unset, .unset, .unset]) (by rw [← hL87]; rfl) k) ?_
  generalize hL88 : (#[.val (.int p0), .val (.int p1), .val (.long p2), .second, .val (.int v2), .val (.int v4), .val (.int v6), .val (.int v8), .val (.long v12), .second, .val (.long v16), .second, .val (.long v20), .second, .val (.long v22), .second, .val (.long v24), .second, .val (.long v26), .second, .val (.long v28), .second, .val (.long v30), .second, .val (.long v32), .second, .val (.long v34), .second, .val (.long v36), .second, .val (.ref a38), .val (.ref a67), .unset, .unset, .val (.long (0 : Int64)), .second, .unset, .unset, .unset] : Array Slot) = L88
  refine own_pre (T' := T85) (g' := (mkF m 249 L88 [(.int v2)])) (fun t k => XS.iload X85.here hx rfl (v := v2) (hb hby at_247) (by rw [← hL88]; rfl) k) ?_
  have hpick : ∀ k, k < 8 → ∃ (f : UInt64) (e : Int64), ([(.double f41), (.double f44), (.double f47), (.double f50), (.double f53), (.double f56), (.double f59), (.double f62)] : List Value)[k]? = some (.double f) ∧ ([(.long v22), (.long v24), (.long v26), (.long v28), (.long v30), (.long v32), (.long v34), (.long v36)] : List Value)[k]? = some (.long e) ∧ FP.Core.DInt e.toInt f ∧ (-512 ≤ e.toInt ∧ e.toInt ≤ 512) := by
    intro k hk
    match k, hk with
    | 0, _ => exact ⟨f41, v22, rfl, rfl, Df41, hD0⟩
    | 1, _ => exact ⟨f44, v24, rfl, rfl, Df44, hD1⟩
    | 2, _ => exact ⟨f47, v26, rfl, rfl, Df47, hD2⟩
    | 3, _ => exact ⟨f50, v28, rfl, rfl, Df50, hD3⟩
    | 4, _ => exact ⟨f53, v30, rfl, rfl, Df53, hD4⟩
    | 5, _ => exact ⟨f56, v32, rfl, rfl, Df56, hD5⟩
    | 6, _ => exact ⟨f59, v34, rfl, rfl, Df59, hD6⟩
    | 7, _ => exact ⟨f62, v36, rfl, rfl, Df62, hD7⟩
  by_cases hn0 : v2 = (0 : Int32)
  · skip
    refine own_pre (T' := T85) (g' := (mkF m 252 L88 [])) (fun t k => XS.ifNo X85.here hx rfl (hb hby at_249) rfl ((if0 _ _).trans (teq hn0).2) k) ?_
    refine own_pre (T' := T85) (g' := (mkF m 253 L88 [(.int (0 : Int32))])) (fun t k => XS.iconst X85.here hx rfl (hb hby at_252) k) ?_
    have F89 : own_Ary Z h85 a38 .double [(.double f41), (.double f44), (.double f47), (.double f50), (.double f53), (.double f56), (.double f59), (.double f62)] := (((((((((F64.ext E67).other W71 (Nat.ne_of_lt lt68)).other W73 (Nat.ne_of_lt lt68)).other W75 (Nat.ne_of_lt lt68)).other W77 (Nat.ne_of_lt lt68)).other W79 (Nat.ne_of_lt lt68)).other W81 (Nat.ne_of_lt lt68)).other W83 (Nat.ne_of_lt lt68)).other W85 (Nat.ne_of_lt lt68))
    have F90 : n0 ≤ h85.size := (Nat.le_trans (Nat.le_trans (Nat.le_trans (Nat.le_trans (Nat.le_trans (Nat.le_trans (Nat.le_trans (Nat.le_trans (Nat.le_trans F66 E67.1) (Nat.le_of_eq W71.size.symm)) (Nat.le_of_eq W73.size.symm)) (Nat.le_of_eq W75.size.symm)) (Nat.le_of_eq W77.size.symm)) (Nat.le_of_eq W79.size.symm)) (Nat.le_of_eq W81.size.symm)) (Nat.le_of_eq W83.size.symm)) (Nat.le_of_eq W85.size.symm))
    refine own_newarr X85 hx hZ (aty := .int) (hw _ (List.mem_of_getElem? (i := 7) rfl)) e85 (hb hby at_253) (n := 0) (by decide) (by decide) (by decide) (by decide) (by decide) (ad := "[I") rfl ?_
    intro T91 h91 a91 g91 X91 e91 E91 A91 B91
    have lt92 : a38 < a91 := Nat.lt_of_lt_of_le F89.lt (Nat.le_of_eq g91.symm)
    have lt93 : a67 < a91 := Nat.lt_of_lt_of_le F86.lt (Nat.le_of_eq g91.symm)
    have nw94 : n0 ≤ a91 := Nat.le_trans F90 (Nat.le_of_eq g91.symm)
    have F95 : own_Ary Z h91 a91 .int [] := A91
    show own_Go _ _ _ _ _ _ _ T91 (mkF m 255 L88 [(.ref a91)])
    refine own_pre (T' := T91) (g' := (mkF m 257 #[.val (.int p0), .val (.int p1), .val (.long p2), .second, .val (.int v2), .val (.int v4), .val (.int v6), .val (.int v8), .val (.long v12), .second, .val (.long v16), .second, .val (.long v20), .second, .val (.long v22), .second, .val (.long v24), .second, .val (.long v26), .second, .val (.long v28), .second, .val (.long v30), .second, .val (.long v32), .second, .val (.long v34), .second, .val (.long v36), .second, .val (.ref a38), .val (.ref a67), .val (.ref a91), .unset, .val (.long (0 : Int64)), .second, .unset, .unset, .unset] [])) (fun t k => XS.astore X91.here hx rfl (hb hby at_255) rfl rfl (l' := #[.val (.int p0), .val (.int p1), .val (.long p2), .second, .val (.int v2), .val (.int v4), .val (.int v6), .val (.int v8), .val (.long v12), .second, .val (.long v16), .second, .val (.long v20), .second, .val (.long v22), .second, .val (.long v24), .second, .val (.long v26), .second, .val (.long v28), .second, .val (.long v30), .second, .val (.long v32), .second, .val (.long v34), .second, .val (.long v36), .second, .val (.ref a38), .val (.ref a67), .val (.ref a91), .unset, .val (.long (0 : Int64)), .second, .unset, .unset, .unset]) (by rw [← hL88]; rfl) k) ?_
    generalize hL96 : (#[.val (.int p0), .val (.int p1), .val (.long p2), .second, .val (.int v2), .val (.int v4), .val (.int v6), .val (.int v8), .val (.long v12), .second, .val (.long v16), .second, .val (.long v20), .second, .val (.long v22), .second, .val (.long v24), .second, .val (.long v26), .second, .val (.long v28), .second, .val (.long v30), .second, .val (.long v32), .second, .val (.long v34), .second, .val (.long v36), .second, .val (.ref a38), .val (.ref a67), .val (.ref a91), .unset, .val (.long (0 : Int64)), .second, .unset, .unset, .unset] : Array Slot) = L96
    refine own_pre (T' := T91) (g' := (mkF m 258 L96 [(.int (0 : Int32))])) (fun t k => XS.iconst X91.here hx rfl (hb hby at_257) k) ?_
    have F97 : own_Ary Z h91 a38 .double [(.double f41), (.double f44), (.double f47), (.double f50), (.double f53), (.double f56), (.double f59), (.double f62)] := (F89.ext E91)
    have F98 : own_Ary Z h91 a67 .long [(.long v22), (.long v24), (.long v26), (.long v28), (.long v30), (.long v32), (.long v34), (.long v36)] := (F86.ext E91)
    have F99 : n0 ≤ h91.size := (Nat.le_trans F90 E91.1)
    refine own_newarr X91 hx hZ (aty := .double) (hw _ (List.mem_of_getElem? (i := 5) rfl)) e91 (hb hby at_258) (n := 0) (by decide) (by decide) (by decide) (by decide) (by decide) (ad := "[D") rfl ?_
    intro T100 h100 a100 g100 X100 e100 E100 A100 B100
    have lt101 : a38 < a100 := Nat.lt_of_lt_of_le F97.lt (Nat.le_of_eq g100.symm)
    have lt102 : a67 < a100 := Nat.lt_of_lt_of_le F98.lt (Nat.le_of_eq g100.symm)
    have lt103 : a91 < a100 := Nat.lt_of_lt_of_le F95.lt (Nat.le_of_eq g100.symm)
    have nw104 : n0 ≤ a100 := Nat.le_trans F99 (Nat.le_of_eq g100.symm)
    have F105 : own_Ary Z h100 a100 .double [] := A100
    show own_Go _ _ _ _ _ _ _ T100 (mkF m 260 L96 [(.ref a100)])
    refine own_pre (T' := T100) (g' := (mkF m 262 #[.val (.int p0), .val (.int p1), .val (.long p2), .second, .val (.int v2), .val (.int v4), .val (.int v6), .val (.int v8), .val (.long v12), .second, .val (.long v16), .second, .val (.long v20), .second, .val (.long v22), .second, .val (.long v24), .second, .val (.long v26), .second, .val (.long v28), .second, .val (.long v30), .second, .val (.long v32), .second, .val (.long v34), .second, .val (.long v36), .second, .val (.ref a38), .val (.ref a67), .val (.ref a91), .val (.ref a100), .val (.long (0 : Int64)), .second, .unset, .unset, .unset] [])) (fun t k => XS.astore X100.here hx rfl (hb hby at_260) rfl rfl (l' := #[.val (.int p0), .val (.int p1), .val (.long p2), .second, .val (.int v2), .val (.int v4), .val (.int v6), .val (.int v8), .val (.long v12), .second, .val (.long v16), .second, .val (.long v20), .second, .val (.long v22), .second, .val (.long v24), .second, .val (.long v26), .second, .val (.long v28), .second, .val (.long v30), .second, .val (.long v32), .second, .val (.long v34), .second, .val (.long v36), .second, .val (.ref a38), .val (.ref a67), .val (.ref a91), .val (.ref a100), .val (.long (0 : Int64)), .second, .unset, .unset, .unset]) (by rw [← hL96]; rfl) k) ?_
    generalize hL106 : (#[.val (.int p0), .val (.int p1), .val (.long p2), .second, .val (.int v2), .val (.int v4), .val (.int v6), .val (.int v8), .val (.long v12), .second, .val (.long v16), .second, .val (.long v20), .second, .val (.long v22), .second, .val (.long v24), .second, .val (.long v26), .second, .val (.long v28), .second, .val (.long v30), .second, .val (.long v32), .second, .val (.long v34), .second, .val (.long v36), .second, .val (.ref a38), .val (.ref a67), .val (.ref a91), .val (.ref a100), .val (.long (0 : Int64)), .second, .unset, .unset, .unset] : Array Slot) = L106
    refine own_pre (T' := T100) (g' := (mkF m 436 L106 [])) (fun t k => XS.goto X100.here hx rfl (pc0 := 262) (pc' := 436) rfl (hb hby at_262) (by decide) (by decide) k) ?_
    have F107 : own_Ary Z h100 a38 .double [(.double f41), (.double f44), (.double f47), (.double f50), (.double f53), (.double f56), (.double f59), (.double f62)] := (F97.ext E100)
    have F108 : own_Ary Z h100 a67 .long [(.long v22), (.long v24), (.long v26), (.long v28), (.long v30), (.long v32), (.long v34), (.long v36)] := (F98.ext E100)
    have F109 : own_Ary Z h100 a91 .int [] := (F95.ext E100)
    have F110 : n0 ≤ h100.size := (Nat.le_trans F99 E100.1)
    refine own_newobj X100 hx hZ hown (hw _ (List.mem_of_getElem? (i := 8) rfl)) (hw _ (List.mem_of_getElem? (i := 9) rfl)) (hw _ (List.mem_of_getElem? (i := 10) rfl)) e100 (hb hby at_436) (by decide) (by decide) ?_
    intro T111 h111 a111 g111 X111 e111 E111 A111 D111
    have lt112 : a38 < a111 := Nat.lt_of_lt_of_le F107.lt (Nat.le_of_eq g111.symm)
    have lt113 : a67 < a111 := Nat.lt_of_lt_of_le F108.lt (Nat.le_of_eq g111.symm)
    have lt114 : a91 < a111 := Nat.lt_of_lt_of_le F109.lt (Nat.le_of_eq g111.symm)
    have lt115 : a100 < a111 := Nat.lt_of_lt_of_le F105.lt (Nat.le_of_eq g111.symm)
    have nw116 : n0 ≤ a111 := Nat.le_trans F110 (Nat.le_of_eq g111.symm)
    have F117 : Fld Z h111 a111 "com/example/galicia/galicia/lime/SparseVector" "positions" "[I" .null := D111 (Or.inr (hw _ (List.mem_of_getElem? (i := 18) rfl))) (ty := (.array .int)) (by decide)
    have F118 : Fld Z h111 a111 "com/example/galicia/galicia/lime/SparseVector" "values" "[D" .null := D111 (Or.inr (hw _ (List.mem_of_getElem? (i := 20) rfl))) (ty := (.array .double)) (by decide)
    show own_Go _ _ _ _ _ _ _ T111 (mkF m 439 L106 [(.ref a111)])
    refine own_pre (T' := T111) (g' := (mkF m 440 L106 [(.ref a111), (.ref a111)])) (fun t k => XS.dup X111.here hx rfl (hb hby at_439) rfl rfl k) ?_
    refine own_pre (T' := T111) (g' := (mkF m 442 L106 [(.ref a91), (.ref a111), (.ref a111)])) (fun t k => XS.aload X111.here hx rfl (v := (.ref a91)) (hb hby at_440) (by rw [← hL106]; rfl) rfl k) ?_
    refine own_pre (T' := T111) (g' := (mkF m 444 L106 [(.ref a100), (.ref a91), (.ref a111), (.ref a111)])) (fun t k => XS.aload X111.here hx rfl (v := (.ref a100)) (hb hby at_442) (by rw [← hL106]; rfl) rfl k) ?_
    have F119 : n0 ≤ h111.size := (Nat.le_trans F110 E111.1)
    refine own_init (a := a111) (argsL := [(.ref a91), (.ref a100)]) (rest := [(.ref a111)]) X111 hx hZ hown (own_svinit l Z a0 hw [] a111 a91 a100 h111 n0 F119 A111 F117 F118 nw116) rfl (hw _ (List.mem_of_getElem? (i := 11) rfl)) (hw _ (List.mem_of_getElem? (i := 12) rfl)) (hw _ (List.mem_of_getElem? (i := 13) rfl)) (hw _ (List.mem_of_getElem? (i := 10) rfl)) (by decide) e111 (hb hby at_444) (by rw [hml, ← hL106]; rfl) rfl (lenOf own_pd1 rfl) (by decide) (W := 1) (Nat.le_of_eq rfl) (by decide) (by decide) (by decide) ?_
    intro v120 T120 lo120 X120 Q120
    obtain ⟨h120, e120⟩ : ∃ h, T120.heap = h := ⟨_, rfl⟩
    rw [e120] at Q120
    obtain ⟨rfl, N120, K120, G1120, G2120⟩ := Q120
    have N120' := Fr.app N85 N120
    show own_Go _ _ _ _ _ _ _ T120 (mkF m 447 L106 [(.ref a111)])
    refine own_pre (T' := T120) (g' := (mkF m 449 #[.val (.int p0), .val (.int p1), .val (.long p2), .second, .val (.int v2), .val (.int v4), .val (.int v6), .val (.int v8), .val (.long v12), .second, .val (.long v16), .second, .val (.long v20), .second, .val (.long v22), .second, .val (.long v24), .second, .val (.long v26), .second, .val (.long v28), .second, .val (.long v30), .second, .val (.long v32), .second, .val (.long v34), .second, .val (.long v36), .second, .val (.ref a38), .val (.ref a67), .val (.ref a91), .val (.ref a100), .val (.long (0 : Int64)), .second, .val (.ref a111), .unset, .unset] [])) (fun t k => XS.astore X120.here hx rfl (hb hby at_447) rfl rfl (l' := #[.val (.int p0), .val (.int p1), .val (.long p2), .second, .val (.int v2), .val (.int v4), .val (.int v6), .val (.int v8), .val (.long v12), .second, .val (.long v16), .second, .val (.long v20), .second, .val (.long v22), .second, .val (.long v24), .second, .val (.long v26), .second, .val (.long v28), .second, .val (.long v30), .second, .val (.long v32), .second, .val (.long v34), .second, .val (.long v36), .second, .val (.ref a38), .val (.ref a67), .val (.ref a91), .val (.ref a100), .val (.long (0 : Int64)), .second, .val (.ref a111), .unset, .unset]) (by rw [← hL106]; rfl) k) ?_
    generalize hL121 : (#[.val (.int p0), .val (.int p1), .val (.long p2), .second, .val (.int v2), .val (.int v4), .val (.int v6), .val (.int v8), .val (.long v12), .second, .val (.long v16), .second, .val (.long v20), .second, .val (.long v22), .second, .val (.long v24), .second, .val (.long v26), .second, .val (.long v28), .second, .val (.long v30), .second, .val (.long v32), .second, .val (.long v34), .second, .val (.long v36), .second, .val (.ref a38), .val (.ref a67), .val (.ref a91), .val (.ref a100), .val (.long (0 : Int64)), .second, .val (.ref a111), .unset, .unset] : Array Slot) = L121
    refine own_pre (T' := T120) (g' := (mkF m 451 L121 [(.ref a111)])) (fun t k => XS.aload X120.here hx rfl (v := (.ref a111)) (hb hby at_449) (by rw [← hL121]; rfl) rfl k) ?_
    refine own_pre (T' := T120) (g' := (mkF m 453 L121 [(.ref a38), (.ref a111)])) (fun t k => XS.aload X120.here hx rfl (v := (.ref a38)) (hb hby at_451) (by rw [← hL121]; rfl) rfl k) ?_
    have F122 : n0 ≤ h120.size := (Nat.le_trans F119 K120.1)
    have F123 : own_Ary Z h120 a91 .int [] := ((F109.ext E111).keep K120 (ninS (Nat.ne_of_lt lt114) nin0))
    have F124 : own_Ary Z h120 a100 .double [] := ((F105.ext E111).keep K120 (ninS (Nat.ne_of_lt lt115) nin0))
    have F125 : own_Ary Z h120 a38 .double [(.double f41), (.double f44), (.double f47), (.double f50), (.double f53), (.double f56), (.double f59), (.double f62)] := ((F107.ext E111).keep K120 (ninS (Nat.ne_of_lt lt112) nin0))
    have F126 : Exa Z h120 a111 "com/example/galicia/galicia/lime/SparseVector" := (A111.keep K120)
    refine own_callv (a := a111) (argsL := [(.ref a38)]) (rest := []) X120 hx hZ hown (own_dot0 l Z a0 hw [] a111 a91 a100 a38 _  h120 n0 F122 G1120 G2120 F123 F124 F125 ) F126 (hw _ (List.mem_of_getElem? (i := 21) rfl)) (hw _ (List.mem_of_getElem? (i := 22) rfl)) (hw _ (List.mem_of_getElem? (i := 24) rfl)) (hw _ (List.mem_of_getElem? (i := 23) rfl)) (hw _ (List.mem_of_getElem? (i := 25) rfl)) (hw _ (List.mem_of_getElem? (i := 10) rfl)) (by decide) e120 (hb hby at_453) (by rw [hml, ← hL121]; rfl) rfl (lenOf own_pd2 rfl) (by decide) (W := 0) (Nat.le_of_eq rfl) (by decide) (by decide) (by decide) ?_
    intro v127 T127 lo127 X127 Q127
    obtain ⟨h127, e127⟩ : ∃ h, T127.heap = h := ⟨_, rfl⟩
    rw [e127] at Q127
    obtain ⟨r127, rfl, DR127, N127, q127⟩ := Q127
    have N127' := Fr.app N120' N127
    have e127' : T127.heap = h120 := e127.trans q127
    show own_Go _ _ _ _ _ _ _ T127 (mkF m 456 L121 [(.double r127)])
    refine own_pre (T' := T127) (g' := (mkF m 458 #[.val (.int p0), .val (.int p1), .val (.long p2), .second, .val (.int v2), .val (.int v4), .val (.int v6), .val (.int v8), .val (.long v12), .second, .val (.long v16), .second, .val (.long v20), .second, .val (.long v22), .second, .val (.long v24), .second, .val (.long v26), .second, .val (.long v28), .second, .val (.long v30), .second, .val (.long v32), .second, .val (.long v34), .second, .val (.long v36), .second, .val (.ref a38), .val (.ref a67), .val (.ref a91), .val (.ref a100), .val (.long (0 : Int64)), .second, .val (.ref a111), .val (.double r127), .second] [])) (fun t k => XS.dstore X127.here hx rfl (hb hby at_456) rfl (l' := #[.val (.int p0), .val (.int p1), .val (.long p2), .second, .val (.int v2), .val (.int v4), .val (.int v6), .val (.int v8), .val (.long v12), .second, .val (.long v16), .second, .val (.long v20), .second, .val (.long v22), .second, .val (.long v24), .second, .val (.long v26), .second, .val (.long v28), .second, .val (.long v30), .second, .val (.long v32), .second, .val (.long v34), .second, .val (.long v36), .second, .val (.ref a38), .val (.ref a67), .val (.ref a91), .val (.ref a100), .val (.long (0 : Int64)), .second, .val (.ref a111), .val (.double r127), .second]) (by rw [← hL121]; rfl) k) ?_
    generalize hL128 : (#[.val (.int p0), .val (.int p1), .val (.long p2), .second, .val (.int v2), .val (.int v4), .val (.int v6), .val (.int v8), .val (.long v12), .second, .val (.long v16), .second, .val (.long v20), .second, .val (.long v22), .second, .val (.long v24), .second, .val (.long v26), .second, .val (.long v28), .second, .val (.long v30), .second, .val (.long v32), .second, .val (.long v34), .second, .val (.long v36), .second, .val (.ref a38), .val (.ref a67), .val (.ref a91), .val (.ref a100), .val (.long (0 : Int64)), .second, .val (.ref a111), .val (.double r127), .second] : Array Slot) = L128
    refine own_pre (T' := T127) (g' := (mkF m 460 L128 [(.double r127)])) (fun t k => XS.dload X127.here hx rfl (v := r127) (hb hby at_458) (by rw [← hL128]; rfl) k) ?_
    refine own_pre (T' := T127) (g' := (mkF m 462 L128 [(.long (0 : Int64)), (.double r127)])) (fun t k => XT.lload X127.here hx rfl (v := (0 : Int64)) (hb hby at_460) (by rw [← hL128]; rfl) k) ?_
    obtain ⟨f129, hf129⟩ : ∃ z, FP.l2d (0 : Int64) = z := ⟨_, rfl⟩
    refine own_pre (T' := T127) (g' := (mkF m 463 L128 [(.double f129), (.double r127)])) (fun t k => XS.l2dS X127.here hx rfl (hb hby at_462) rfl hf129 k) ?_
    have hX : ((0 : Int64)).toInt = 0 := rfl
    have Df129 : Jvm.FP.Core.DInt (0 : Int64).toInt f129 := hf129 ▸ Jvm.FP.Core.l2d_int (by rw [hX]; omega)
    obtain ⟨k130, hk130⟩ : ∃ z, own_c 0 ((0 : Int64).toInt) = z := ⟨_, rfl⟩
    refine own_pre (T' := T127) (g' := (mkF m 464 L128 [(.int k130)])) (fun t k => XS.dcmpS X127.here hx rfl (hb hby at_463) rfl ((own_dcmp DR127 Df129 _).trans hk130) k) ?_
    have hk0 : k130 = (0 : Int32) := by rw [← hk130, own_c_eq, hX]
    refine own_pre (T' := T127) (g' := (mkF m 467 L128 [])) (fun t k => XS.ifNo X127.here hx rfl (hb hby at_464) rfl ((if0 _ _).trans (teq hk0).2) k) ?_
    refine own_pre (T' := T127) (g' := (mkF m 468 L128 [(.int (1 : Int32))])) (fun t k => XS.iconst X127.here hx rfl (hb hby at_467) k) ?_
    refine own_pre (T' := T127) (g' := (mkF m 472 L128 [(.int (1 : Int32))])) (fun t k => XS.goto X127.here hx rfl (pc0 := 468) (pc' := 472) rfl (hb hby at_468) (by decide) (by decide) k) ?_
    exact own_retZ X127 hx hlk hret rfl (hb hby at_472) e127' ⟨rfl, N127'⟩ (by decide) (by decide)
  · skip
    refine own_pre (T' := T85) (g' := (mkF m 265 L88 [])) (fun t k => XS.ifYes X85.here hx rfl (pc0 := 249) (pc' := 265) rfl (hb hby at_249) rfl ((if0 _ _).trans (feq hn0).2) (by decide) (by decide) k) ?_
    refine own_pre (T' := T85) (g' := (mkF m 267 L88 [(.int v2)])) (fun t k => XS.iload X85.here hx rfl (v := v2) (hb hby at_265) (by rw [← hL88]; rfl) k) ?_
    refine own_pre (T' := T85) (g' := (mkF m 268 L88 [(.int (1 : Int32)), (.int v2)])) (fun t k => XS.iconst X85.here hx rfl (hb hby at_267) k) ?_
    by_cases hn1 : v2 = (1 : Int32)
    · skip
      refine own_pre (T' := T85) (g' := (mkF m 271 L88 [])) (fun t k => XS.icmpNo X85.here hx rfl (hb hby at_268) rfl (teq hn1).2 k) ?_
      obtain ⟨y0, e0, hy0, he0, DY0, hE0⟩ := hpick v4.toNatClampNeg (own_lt8 hq0)
      have hB0 := own_prod hV0 hE0
      refine own_pre (T' := T85) (g' := (mkF m 272 L88 [(.int (1 : Int32))])) (fun t k => XS.iconst X85.here hx rfl (hb hby at_271) k) ?_
      have F131 : own_Ary Z h85 a38 .double [(.double f41), (.double f44), (.double f47), (.double f50), (.double f53), (.double f56), (.double f59), (.double f62)] := (((((((((F64.ext E67).other W71 (Nat.ne_of_lt lt68)).other W73 (Nat.ne_of_lt lt68)).other W75 (Nat.ne_of_lt lt68)).other W77 (Nat.ne_of_lt lt68)).other W79 (Nat.ne_of_lt lt68)).other W81 (Nat.ne_of_lt lt68)).other W83 (Nat.ne_of_lt lt68)).other W85 (Nat.ne_of_lt lt68))
      have F132 : n0 ≤ h85.size := (Nat.le_trans (Nat.le_trans (Nat.le_trans (Nat.le_trans (Nat.le_trans (Nat.le_trans (Nat.le_trans (Nat.le_trans (Nat.le_trans F66 E67.1) (Nat.le_of_eq W71.size.symm)) (Nat.le_of_eq W73.size.symm)) (Nat.le_of_eq W75.size.symm)) (Nat.le_of_eq W77.size.symm)) (Nat.le_of_eq W79.size.symm)) (Nat.le_of_eq W81.size.symm)) (Nat.le_of_eq W83.size.symm)) (Nat.le_of_eq W85.size.symm))
      refine own_newarr X85 hx hZ (aty := .int) (hw _ (List.mem_of_getElem? (i := 7) rfl)) e85 (hb hby at_272) (n := 1) (by decide) (by decide) (by decide) (by decide) (by decide) (ad := "[I") rfl ?_
      intro T133 h133 a133 g133 X133 e133 E133 A133 B133
      have lt134 : a38 < a133 := Nat.lt_of_lt_of_le F131.lt (Nat.le_of_eq g133.symm)
      have lt135 : a67 < a133 := Nat.lt_of_lt_of_le F86.lt (Nat.le_of_eq g133.symm)
      have nw136 : n0 ≤ a133 := Nat.le_trans F132 (Nat.le_of_eq g133.symm)
      have F137 : own_Ary Z h133 a133 .int [(.int (0 : Int32))] := A133
      show own_Go _ _ _ _ _ _ _ T133 (mkF m 274 L88 [(.ref a133)])
      refine own_pre (T' := T133) (g' := (mkF m 275 L88 [(.ref a133), (.ref a133)])) (fun t k => XS.dup X133.here hx rfl (hb hby at_274) rfl rfl k) ?_
      refine own_pre (T' := T133) (g' := (mkF m 276 L88 [(.int (0 : Int32)), (.ref a133), (.ref a133)])) (fun t k => XS.iconst X133.here hx rfl (hb hby at_275) k) ?_
      refine own_pre (T' := T133) (g' := (mkF m 278 L88 [(.int v4), (.int (0 : Int32)), (.ref a133), (.ref a133)])) (fun t k => XS.iload X133.here hx rfl (v := v4) (hb hby at_276) (by rw [← hL88]; rfl) k) ?_
      refine own_iastore X133 hx hZ e133 N85 nw136 F137 (hb hby at_278) (n := 0) (by decide) (by decide) (by show 0 < 1; decide) ?_
      intro T138 h138 lo138 X138 e138 N138 W138
      have F139 : own_Ary Z h138 a133 .int [(.int v4)] := F137.set W138
      show own_Go _ _ _ _ _ _ _ T138 (mkF m 279 L88 [(.ref a133)])
      refine own_pre (T' := T138) (g' := (mkF m 281 #[.val (.int p0), .val (.int p1), .val (.long p2), .second, .val (.int v2), .val (.int v4), .val (.int v6), .val (.int v8), .val (.long v12), .second, .val (.long v16), .second, .val (.long v20), .second, .val (.long v22), .second, .val (.long v24), .second, .val (.long v26), .second, .val (.long v28), .second, .val (.long v30), .second, .val (.long v32), .second, .val (.long v34), .second, .val (.long v36), .second, .val (.ref a38), .val (.ref a67), .val (.ref a133), .unset, .val (.long (0 : Int64)), .second, .unset, .unset, .unset] [])) (fun t k => XS.astore X138.here hx rfl (hb hby at_279) rfl rfl (l' := #[.val (.int p0), .val (.int p1), .val (.long p2), .second, .val (.int v2), .val (.int v4), .val (.int v6), .val (.int v8), .val (.long v12), .second, .val (.long v16), .second, .val (.long v20), .second, .val (.long v22), .second, .val (.long v24), .second, .val (.long v26), .second, .val (.long v28), .second, .val (.long v30), .second, .val (.long v32), .second, .val (.long v34), .second, .val (.long v36), .second, .val (.ref a38), .val (.ref a67), .val (.ref a133), .unset, .val (.long (0 : Int64)), .second, .unset, .unset, .unset]) (by rw [← hL88]; rfl) k) ?_
      generalize hL140 : (#[.val (.int p0), .val (.int p1), .val (.long p2), .second, .val (.int v2), .val (.int v4), .val (.int v6), .val (.int v8), .val (.long v12), .second, .val (.long v16), .second, .val (.long v20), .second, .val (.long v22), .second, .val (.long v24), .second, .val (.long v26), .second, .val (.long v28), .second, .val (.long v30), .second, .val (.long v32), .second, .val (.long v34), .second, .val (.long v36), .second, .val (.ref a38), .val (.ref a67), .val (.ref a133), .unset, .val (.long (0 : Int64)), .second, .unset, .unset, .unset] : Array Slot) = L140
      refine own_pre (T' := T138) (g' := (mkF m 282 L140 [(.int (1 : Int32))])) (fun t k => XS.iconst X138.here hx rfl (hb hby at_281) k) ?_
      have F141 : own_Ary Z h138 a38 .double [(.double f41), (.double f44), (.double f47), (.double f50), (.double f53), (.double f56), (.double f59), (.double f62)] := ((F131.ext E133).other W138 (Nat.ne_of_lt lt134))
      have F142 : own_Ary Z h138 a67 .long [(.long v22), (.long v24), (.long v26), (.long v28), (.long v30), (.long v32), (.long v34), (.long v36)] := ((F86.ext E133).other W138 (Nat.ne_of_lt lt135))
      have F143 : n0 ≤ h138.size := (Nat.le_trans (Nat.le_trans F132 E133.1) (Nat.le_of_eq W138.size.symm))
      refine own_newarr X138 hx hZ (aty := .double) (hw _ (List.mem_of_getElem? (i := 5) rfl)) e138 (hb hby at_282) (n := 1) (by decide) (by decide) (by decide) (by decide) (by decide) (ad := "[D") rfl ?_
      intro T144 h144 a144 g144 X144 e144 E144 A144 B144
      have lt145 : a38 < a144 := Nat.lt_of_lt_of_le F141.lt (Nat.le_of_eq g144.symm)
      have lt146 : a67 < a144 := Nat.lt_of_lt_of_le F142.lt (Nat.le_of_eq g144.symm)
      have lt147 : a133 < a144 := Nat.lt_of_lt_of_le F139.lt (Nat.le_of_eq g144.symm)
      have nw148 : n0 ≤ a144 := Nat.le_trans F143 (Nat.le_of_eq g144.symm)
      have F149 : own_Ary Z h144 a144 .double [(.double (0 : UInt64))] := A144
      show own_Go _ _ _ _ _ _ _ T144 (mkF m 284 L140 [(.ref a144)])
      refine own_pre (T' := T144) (g' := (mkF m 285 L140 [(.ref a144), (.ref a144)])) (fun t k => XS.dup X144.here hx rfl (hb hby at_284) rfl rfl k) ?_
      refine own_pre (T' := T144) (g' := (mkF m 286 L140 [(.int (0 : Int32)), (.ref a144), (.ref a144)])) (fun t k => XS.iconst X144.here hx rfl (hb hby at_285) k) ?_
      refine own_pre (T' := T144) (g' := (mkF m 288 L140 [(.long v12), (.int (0 : Int32)), (.ref a144), (.ref a144)])) (fun t k => XT.lload X144.here hx rfl (v := v12) (hb hby at_286) (by rw [← hL140]; rfl) k) ?_
      obtain ⟨f150, hf150⟩ : ∃ z, FP.l2d v12 = z := ⟨_, rfl⟩
      refine own_pre (T' := T144) (g' := (mkF m 289 L140 [(.double f150), (.int (0 : Int32)), (.ref a144), (.ref a144)])) (fun t k => XS.l2dS X144.here hx rfl (hb hby at_288) rfl hf150 k) ?_
      have Df150 : Jvm.FP.Core.DInt v12.toInt f150 := hf150 ▸ Jvm.FP.Core.l2d_int (own_abs hV0)
      refine own_dastore X144 hx hZ e144 N138 nw148 F149 (hb hby at_289) (n := 0) (by decide) (by decide) (by show 0 < 1; decide) ?_
      intro T151 h151 lo151 X151 e151 N151 W151
      have F152 : own_Ary Z h151 a144 .double [(.double f150)] := F149.set W151
      show own_Go _ _ _ _ _ _ _ T151 (mkF m 290 L140 [(.ref a144)])
      refine own_pre (T' := T151) (g' := (mkF m 292 #[.val (.int p0), .val (.int p1), .val (.long p2), .second, .val (.int v2), .val (.int v4), .val (.int v6), .val (.int v8), .val (.long v12), .second, .val (.long v16), .second, .val (.long v20), .second, .val (.long v22), .second, .val (.long v24), .second, .val (.long v26), .second, .val (.long v28), .second, .val (.long v30), .second, .val (.long v32), .second, .val (.long v34), .second, .val (.long v36), .second, .val (.ref a38), .val (.ref a67), .val (.ref a133), .val (.ref a144), .val (.long (0 : Int64)), .second, .unset, .unset, .unset] [])) (fun t k => XS.astore X151.here hx rfl (hb hby at_290) rfl rfl (l' := #[.val (.int p0), .val (.int p1), .val (.long p2), .second, .val (.int v2), .val (.int v4), .val (.int v6), .val (.int v8), .val (.long v12), .second, .val (.long v16), .second, .val (.long v20), .second, .val (.long v22), .second, .val (.long v24), .second, .val (.long v26), .second, .val (.long v28), .second, .val (.long v30), .second, .val (.long v32), .second, .val (.long v34), .second, .val (.long v36), .second, .val (.ref a38), .val (.ref a67), .val (.ref a133), .val (.ref a144), .val (.long (0 : Int64)), .second, .unset, .unset, .unset]) (by rw [← hL140]; rfl) k) ?_
      generalize hL153 : (#[.val (.int p0), .val (.int p1), .val (.long p2), .second, .val (.int v2), .val (.int v4), .val (.int v6), .val (.int v8), .val (.long v12), .second, .val (.long v16), .second, .val (.long v20), .second, .val (.long v22), .second, .val (.long v24), .second, .val (.long v26), .second, .val (.long v28), .second, .val (.long v30), .second, .val (.long v32), .second, .val (.long v34), .second, .val (.long v36), .second, .val (.ref a38), .val (.ref a67), .val (.ref a133), .val (.ref a144), .val (.long (0 : Int64)), .second, .unset, .unset, .unset] : Array Slot) = L153
      refine own_pre (T' := T151) (g' := (mkF m 294 L153 [(.long v12)])) (fun t k => XT.lload X151.here hx rfl (v := v12) (hb hby at_292) (by rw [← hL153]; rfl) k) ?_
      refine own_pre (T' := T151) (g' := (mkF m 296 L153 [(.ref a67), (.long v12)])) (fun t k => XS.aload X151.here hx rfl (v := (.ref a67)) (hb hby at_294) (by rw [← hL153]; rfl) rfl k) ?_
      refine own_pre (T' := T151) (g' := (mkF m 298 L153 [(.int v4), (.ref a67), (.long v12)])) (fun t k => XS.iload X151.here hx rfl (v := v4) (hb hby at_296) (by rw [← hL153]; rfl) k) ?_
      have F154 : own_Ary Z h151 a67 .long [(.long v22), (.long v24), (.long v26), (.long v28), (.long v30), (.long v32), (.long v34), (.long v36)] := ((F142.ext E144).other W151 (Nat.ne_of_lt lt146))
      refine own_laload X151 hx hZ e151 F154 (hb hby at_298) (n := v4.toNatClampNeg) (v := (.long e0)) hq0.1 rfl he0 ?_
      show own_Go _ _ _ _ _ _ _ T151 (mkF m 299 L153 [(.long e0), (.long v12)])
      refine own_pre (T' := T151) (g' := (mkF m 300 L153 [(.long (v12 * e0))])) (fun t k => XT.lmul X151.here hx rfl (hb hby at_299) rfl k) ?_
      generalize hv155 : v12 * e0 = v155
      refine own_pre (T' := T151) (g' := (mkF m 302 #[.val (.int p0), .val (.int p1), .val (.long p2), .second, .val (.int v2), .val (.int v4), .val (.int v6), .val (.int v8), .val (.long v12), .second, .val (.long v16), .second, .val (.long v20), .second, .val (.long v22), .second, .val (.long v24), .second, .val (.long v26), .second, .val (.long v28), .second, .val (.long v30), .second, .val (.long v32), .second, .val (.long v34), .second, .val (.long v36), .second, .val (.ref a38), .val (.ref a67), .val (.ref a133), .val (.ref a144), .val (.long v155), .second, .unset, .unset, .unset] [])) (fun t k => XT.lstore X151.here hx rfl (hb hby at_300) rfl (l' := #[.val (.int p0), .val (.int p1), .val (.long p2), .second, .val (.int v2), .val (.int v4), .val (.int v6), .val (.int v8), .val (.long v12), .second, .val (.long v16), .second, .val (.long v20), .second, .val (.long v22), .second, .val (.long v24), .second, .val (.long v26), .second, .val (.long v28), .second, .val (.long v30), .second, .val (.long v32), .second, .val (.long v34), .second, .val (.long v36), .second, .val (.ref a38), .val (.ref a67), .val (.ref a133), .val (.ref a144), .val (.long v155), .second, .unset, .unset, .unset]) (by rw [← hL153]; rfl) k) ?_
      generalize hL156 : (#[.val (.int p0), .val (.int p1), .val (.long p2), .second, .val (.int v2), .val (.int v4), .val (.int v6), .val (.int v8), .val (.long v12), .second, .val (.long v16), .second, .val (.long v20), .second, .val (.long v22), .second, .val (.long v24), .second, .val (.long v26), .second, .val (.long v28), .second, .val (.long v30), .second, .val (.long v32), .second, .val (.long v34), .second, .val (.long v36), .second, .val (.ref a38), .val (.ref a67), .val (.ref a133), .val (.ref a144), .val (.long v155), .second, .unset, .unset, .unset] : Array Slot) = L156
      refine own_pre (T' := T151) (g' := (mkF m 436 L156 [])) (fun t k => XS.goto X151.here hx rfl (pc0 := 302) (pc' := 436) rfl (hb hby at_302) (by decide) (by decide) k) ?_
      have F157 : own_Ary Z h151 a38 .double [(.double f41), (.double f44), (.double f47), (.double f50), (.double f53), (.double f56), (.double f59), (.double f62)] := ((F141.ext E144).other W151 (Nat.ne_of_lt lt145))
      have F158 : own_Ary Z h151 a133 .int [(.int v4)] := ((F139.ext E144).other W151 (Nat.ne_of_lt lt147))
      have F159 : n0 ≤ h151.size := (Nat.le_trans (Nat.le_trans F143 E144.1) (Nat.le_of_eq W151.size.symm))
      refine own_newobj X151 hx hZ hown (hw _ (List.mem_of_getElem? (i := 8) rfl)) (hw _ (List.mem_of_getElem? (i := 9) rfl)) (hw _ (List.mem_of_getElem? (i := 10) rfl)) e151 (hb hby at_436) (by decide) (by decide) ?_
      intro T160 h160 a160 g160 X160 e160 E160 A160 D160
      have lt161 : a38 < a160 := Nat.lt_of_lt_of_le F157.lt (Nat.le_of_eq g160.symm)
      have lt162 : a67 < a160 := Nat.lt_of_lt_of_le F154.lt (Nat.le_of_eq g160.symm)
      have lt163 : a133 < a160 := Nat.lt_of_lt_of_le F158.lt (Nat.le_of_eq g160.symm)
      have lt164 : a144 < a160 := Nat.lt_of_lt_of_le F152.lt (Nat.le_of_eq g160.symm)
      have nw165 : n0 ≤ a160 := Nat.le_trans F159 (Nat.le_of_eq g160.symm)
      have F166 : Fld Z h160 a160 "com/example/galicia/galicia/lime/SparseVector" "positions" "[I" .null := D160 (Or.inr (hw _ (List.mem_of_getElem? (i := 18) rfl))) (ty := (.array .int)) (by decide)
      have F167 : Fld Z h160 a160 "com/example/galicia/galicia/lime/SparseVector" "values" "[D" .null := D160 (Or.inr (hw _ (List.mem_of_getElem? (i := 20) rfl))) (ty := (.array .double)) (by decide)
      show own_Go _ _ _ _ _ _ _ T160 (mkF m 439 L156 [(.ref a160)])
      refine own_pre (T' := T160) (g' := (mkF m 440 L156 [(.ref a160), (.ref a160)])) (fun t k => XS.dup X160.here hx rfl (hb hby at_439) rfl rfl k) ?_
      refine own_pre (T' := T160) (g' := (mkF m 442 L156 [(.ref a133), (.ref a160), (.ref a160)])) (fun t k => XS.aload X160.here hx rfl (v := (.ref a133)) (hb hby at_440) (by rw [← hL156]; rfl) rfl k) ?_
      refine own_pre (T' := T160) (g' := (mkF m 444 L156 [(.ref a144), (.ref a133), (.ref a160), (.ref a160)])) (fun t k => XS.aload X160.here hx rfl (v := (.ref a144)) (hb hby at_442) (by rw [← hL156]; rfl) rfl k) ?_
      have F168 : n0 ≤ h160.size := (Nat.le_trans F159 E160.1)
      refine own_init (a := a160) (argsL := [(.ref a133), (.ref a144)]) (rest := [(.ref a160)]) X160 hx hZ hown (own_svinit l Z a0 hw [] a160 a133 a144 h160 n0 F168 A160 F166 F167 nw165) rfl (hw _ (List.mem_of_getElem? (i := 11) rfl)) (hw _ (List.mem_of_getElem? (i := 12) rfl)) (hw _ (List.mem_of_getElem? (i := 13) rfl)) (hw _ (List.mem_of_getElem? (i := 10) rfl)) (by decide) e160 (hb hby at_444) (by rw [hml, ← hL156]; rfl) rfl (lenOf own_pd1 rfl) (by decide) (W := 1) (Nat.le_of_eq rfl) (by decide) (by decide) (by decide) ?_
      intro v169 T169 lo169 X169 Q169
      obtain ⟨h169, e169⟩ : ∃ h, T169.heap = h := ⟨_, rfl⟩
      rw [e169] at Q169
      obtain ⟨rfl, N169, K169, G1169, G2169⟩ := Q169
      have N169' := Fr.app N151 N169
      show own_Go _ _ _ _ _ _ _ T169 (mkF m 447 L156 [(.ref a160)])
      refine own_pre (T' := T169) (g' := (mkF m 449 #[.val (.int p0), .val (.int p1), .val (.long p2), .second, .val (.int v2), .val (.int v4), .val (.int v6), .val (.int v8), .val (.long v12), .second, .val (.long v16), .second, .val (.long v20), .second, .val (.long v22), .second, .val (.long v24), .second, .val (.long v26), .second, .val (.long v28), .second, .val (.long v30), .second, .val (.long v32), .second, .val (.long v34), .second, .val (.long v36), .second, .val (.ref a38), .val (.ref a67), .val (.ref a133), .val (.ref a144), .val (.long v155), .second, .val (.ref a160), .unset, .unset] [])) (fun t k => XS.astore X169.here hx rfl (hb hby at_447) rfl rfl (l' := #[.val (.int p0), .val (.int p1), .val (.long p2), .second, .val (.int v2), .val (.int v4), .val (.int v6), .val (.int v8), .val (.long v12), .second, .val (.long v16), .second, .val (.long v20), .second, .val (.long v22), .second, .val (.long v24), .second, .val (.long v26), .second, .val (.long v28), .second, .val (.long v30), .second, .val (.long v32), .second, .val (.long v34), .second, .val (.long v36), .second, .val (.ref a38), .val (.ref a67), .val (.ref a133), .val (.ref a144), .val (.long v155), .second, .val (.ref a160), .unset, .unset]) (by rw [← hL156]; rfl) k) ?_
      generalize hL170 : (#[.val (.int p0), .val (.int p1), .val (.long p2), .second, .val (.int v2), .val (.int v4), .val (.int v6), .val (.int v8), .val (.long v12), .second, .val (.long v16), .second, .val (.long v20), .second, .val (.long v22), .second, .val (.long v24), .second, .val (.long v26), .second, .val (.long v28), .second, .val (.long v30), .second, .val (.long v32), .second, .val (.long v34), .second, .val (.long v36), .second, .val (.ref a38), .val (.ref a67), .val (.ref a133), .val (.ref a144), .val (.long v155), .second, .val (.ref a160), .unset, .unset] : Array Slot) = L170
      refine own_pre (T' := T169) (g' := (mkF m 451 L170 [(.ref a160)])) (fun t k => XS.aload X169.here hx rfl (v := (.ref a160)) (hb hby at_449) (by rw [← hL170]; rfl) rfl k) ?_
      refine own_pre (T' := T169) (g' := (mkF m 453 L170 [(.ref a38), (.ref a160)])) (fun t k => XS.aload X169.here hx rfl (v := (.ref a38)) (hb hby at_451) (by rw [← hL170]; rfl) rfl k) ?_
      have F171 : n0 ≤ h169.size := (Nat.le_trans F168 K169.1)
      have F172 : own_Ary Z h169 a133 .int [(.int v4)] := ((F158.ext E160).keep K169 (ninS (Nat.ne_of_lt lt163) nin0))
      have F173 : own_Ary Z h169 a144 .double [(.double f150)] := ((F152.ext E160).keep K169 (ninS (Nat.ne_of_lt lt164) nin0))
      have F174 : own_Ary Z h169 a38 .double [(.double f41), (.double f44), (.double f47), (.double f50), (.double f53), (.double f56), (.double f59), (.double f62)] := ((F157.ext E160).keep K169 (ninS (Nat.ne_of_lt lt161) nin0))
      have F175 : Exa Z h169 a160 "com/example/galicia/galicia/lime/SparseVector" := (A160.keep K169)
      refine own_callv (a := a160) (argsL := [(.ref a38)]) (rest := []) X169 hx hZ hown (own_dot1 l Z a0 hw [] a160 a133 a144 a38 _ v4 f150 y0 v12.toInt e0.toInt h169 n0 F171 G1169 G2169 F172 F173 F174 hq0.1 hy0 Df150 DY0 hB0) F175 (hw _ (List.mem_of_getElem? (i := 21) rfl)) (hw _ (List.mem_of_getElem? (i := 22) rfl)) (hw _ (List.mem_of_getElem? (i := 24) rfl)) (hw _ (List.mem_of_getElem? (i := 23) rfl)) (hw _ (List.mem_of_getElem? (i := 25) rfl)) (hw _ (List.mem_of_getElem? (i := 10) rfl)) (by decide) e169 (hb hby at_453) (by rw [hml, ← hL170]; rfl) rfl (lenOf own_pd2 rfl) (by decide) (W := 0) (Nat.le_of_eq rfl) (by decide) (by decide) (by decide) ?_
      intro v176 T176 lo176 X176 Q176
      obtain ⟨h176, e176⟩ : ∃ h, T176.heap = h := ⟨_, rfl⟩
      rw [e176] at Q176
      obtain ⟨r176, rfl, DR176, N176, q176⟩ := Q176
      have N176' := Fr.app N169' N176
      have e176' : T176.heap = h169 := e176.trans q176
      show own_Go _ _ _ _ _ _ _ T176 (mkF m 456 L170 [(.double r176)])
      refine own_pre (T' := T176) (g' := (mkF m 458 #[.val (.int p0), .val (.int p1), .val (.long p2), .second, .val (.int v2), .val (.int v4), .val (.int v6), .val (.int v8), .val (.long v12), .second, .val (.long v16), .second, .val (.long v20), .second, .val (.long v22), .second, .val (.long v24), .second, .val (.long v26), .second, .val (.long v28), .second, .val (.long v30), .second, .val (.long v32), .second, .val (.long v34), .second, .val (.long v36), .second, .val (.ref a38), .val (.ref a67), .val (.ref a133), .val (.ref a144), .val (.long v155), .second, .val (.ref a160), .val (.double r176), .second] [])) (fun t k => XS.dstore X176.here hx rfl (hb hby at_456) rfl (l' := #[.val (.int p0), .val (.int p1), .val (.long p2), .second, .val (.int v2), .val (.int v4), .val (.int v6), .val (.int v8), .val (.long v12), .second, .val (.long v16), .second, .val (.long v20), .second, .val (.long v22), .second, .val (.long v24), .second, .val (.long v26), .second, .val (.long v28), .second, .val (.long v30), .second, .val (.long v32), .second, .val (.long v34), .second, .val (.long v36), .second, .val (.ref a38), .val (.ref a67), .val (.ref a133), .val (.ref a144), .val (.long v155), .second, .val (.ref a160), .val (.double r176), .second]) (by rw [← hL170]; rfl) k) ?_
      generalize hL177 : (#[.val (.int p0), .val (.int p1), .val (.long p2), .second, .val (.int v2), .val (.int v4), .val (.int v6), .val (.int v8), .val (.long v12), .second, .val (.long v16), .second, .val (.long v20), .second, .val (.long v22), .second, .val (.long v24), .second, .val (.long v26), .second, .val (.long v28), .second, .val (.long v30), .second, .val (.long v32), .second, .val (.long v34), .second, .val (.long v36), .second, .val (.ref a38), .val (.ref a67), .val (.ref a133), .val (.ref a144), .val (.long v155), .second, .val (.ref a160), .val (.double r176), .second] : Array Slot) = L177
      refine own_pre (T' := T176) (g' := (mkF m 460 L177 [(.double r176)])) (fun t k => XS.dload X176.here hx rfl (v := r176) (hb hby at_458) (by rw [← hL177]; rfl) k) ?_
      refine own_pre (T' := T176) (g' := (mkF m 462 L177 [(.long v155), (.double r176)])) (fun t k => XT.lload X176.here hx rfl (v := v155) (hb hby at_460) (by rw [← hL177]; rfl) k) ?_
      obtain ⟨f178, hf178⟩ : ∃ z, FP.l2d v155 = z := ⟨_, rfl⟩
      refine own_pre (T' := T176) (g' := (mkF m 463 L177 [(.double f178), (.double r176)])) (fun t k => XS.l2dS X176.here hx rfl (hb hby at_462) rfl hf178 k) ?_
      have hX : v155.toInt = (0 + (v12.toInt * e0.toInt)) := own_exp1 hB0 hv155
      have Df178 : Jvm.FP.Core.DInt v155.toInt f178 := hf178 ▸ Jvm.FP.Core.l2d_int (by rw [hX]; omega)
      obtain ⟨k179, hk179⟩ : ∃ z, own_c (0 + (v12.toInt * e0.toInt)) v155.toInt = z := ⟨_, rfl⟩
      refine own_pre (T' := T176) (g' := (mkF m 464 L177 [(.int k179)])) (fun t k => XS.dcmpS X176.here hx rfl (hb hby at_463) rfl ((own_dcmp DR176 Df178 _).trans hk179) k) ?_
      have hk0 : k179 = (0 : Int32) := by rw [← hk179, own_c_eq, hX]
      refine own_pre (T' := T176) (g' := (mkF m 467 L177 [])) (fun t k => XS.ifNo X176.here hx rfl (hb hby at_464) rfl ((if0 _ _).trans (teq hk0).2) k) ?_
      refine own_pre (T' := T176) (g' := (mkF m 468 L177 [(.int (1 : Int32))])) (fun t k => XS.iconst X176.here hx rfl (hb hby at_467) k) ?_
      refine own_pre (T' := T176) (g' := (mkF m 472 L177 [(.int (1 : Int32))])) (fun t k => XS.goto X176.here hx rfl (pc0 := 468) (pc' := 472) rfl (hb hby at_468) (by decide) (by decide) k) ?_
      exact own_retZ X176 hx hlk hret rfl (hb hby at_472) e176' ⟨rfl, N176'⟩ (by decide) (by decide)
    · skip
      refine own_pre (T' := T85) (g' := (mkF m 305 L88 [])) (fun t k => XS.icmpYes X85.here hx rfl (pc0 := 268) (pc' := 305) rfl (hb hby at_268) rfl (feq hn1).2 (by decide) (by decide) k) ?_
      refine own_pre (T' := T85) (g' := (mkF m 307 L88 [(.int v2)])) (fun t k => XS.iload X85.here hx rfl (v := v2) (hb hby at_305) (by rw [← hL88]; rfl) k) ?_
      refine own_pre (T' := T85) (g' := (mkF m 308 L88 [(.int (2 : Int32)), (.int v2)])) (fun t k => XS.iconst X85.here hx rfl (hb hby at_307) k) ?_
      by_cases hn2 : v2 = (2 : Int32)
      · skip
        refine own_pre (T' := T85) (g' := (mkF m 311 L88 [])) (fun t k => XS.icmpNo X85.here hx rfl (hb hby at_308) rfl (teq hn2).2 k) ?_
        obtain ⟨y0, e0, hy0, he0, DY0, hE0⟩ := hpick v4.toNatClampNeg (own_lt8 hq0)
        have hB0 := own_prod hV0 hE0
        obtain ⟨y1, e1, hy1, he1, DY1, hE1⟩ := hpick v6.toNatClampNeg (own_lt8 hq1)
        have hB1 := own_prod hV1 hE1
        refine own_pre (T' := T85) (g' := (mkF m 312 L88 [(.int (2 : Int32))])) (fun t k => XS.iconst X85.here hx rfl (hb hby at_311) k) ?_
        have F180 : own_Ary Z h85 a38 .double [(.double f41), (.double f44), (.double f47), (.double f50), (.double f53), (.double f56), (.double f59), (.double f62)] := (((((((((F64.ext E67).other W71 (Nat.ne_of_lt lt68)).other W73 (Nat.ne_of_lt lt68)).other W75 (Nat.ne_of_lt lt68)).other W77 (Nat.ne_of_lt lt68)).other W79 (Nat.ne_of_lt lt68)).other W81 (Nat.ne_of_lt lt68)).other W83 (Nat.ne_of_lt lt68)).other W85 (Nat.ne_of_lt lt68))
        have F181 : n0 ≤ h85.size := (Nat.le_trans (Nat.le_trans (Nat.le_trans (Nat.le_trans (Nat.le_trans (Nat.le_trans (Nat.le_trans (Nat.le_trans (Nat.le_trans F66 E67.1) (Nat.le_of_eq W71.size.symm)) (Nat.le_of_eq W73.size.symm)) (Nat.le_of_eq W75.size.symm)) (Nat.le_of_eq W77.size.symm)) (Nat.le_of_eq W79.size.symm)) (Nat.le_of_eq W81.size.symm)) (Nat.le_of_eq W83.size.symm)) (Nat.le_of_eq W85.size.symm))
        refine own_newarr X85 hx hZ (aty := .int) (hw _ (List.mem_of_getElem? (i := 7) rfl)) e85 (hb hby at_312) (n := 2) (by decide) (by decide) (by decide) (by decide) (by decide) (ad := "[I") rfl ?_
        intro T182 h182 a182 g182 X182 e182 E182 A182 B182
        have lt183 : a38 < a182 := Nat.lt_of_lt_of_le F180.lt (Nat.le_of_eq g182.symm)
        have lt184 : a67 < a182 := Nat.lt_of_lt_of_le F86.lt (Nat.le_of_eq g182.symm)
        have nw185 : n0 ≤ a182 := Nat.le_trans F181 (Nat.le_of_eq g182.symm)
        have F186 : own_Ary Z h182 a182 .int [(.int (0 : Int32)), (.int (0 : Int32))] := A182
        show own_Go _ _ _ _ _ _ _ T182 (mkF m 314 L88 [(.ref a182)])
        refine own_pre (T' := T182) (g' := (mkF m 315 L88 [(.ref a182), (.ref a182)])) (fun t k => XS.dup X182.here hx rfl (hb hby at_314) rfl rfl k) ?_
        refine own_pre (T' := T182) (g' := (mkF m 316 L88 [(.int (0 : Int32)), (.ref a182), (.ref a182)])) (fun t k => XS.iconst X182.here hx rfl (hb hby at_315) k) ?_
        refine own_pre (T' := T182) (g' := (mkF m 318 L88 [(.int v4), (.int (0 : Int32)), (.ref a182), (.ref a182)])) (fun t k => XS.iload X182.here hx rfl (v := v4) (hb hby at_316) (by rw [← hL88]; rfl) k) ?_
        refine own_iastore X182 hx hZ e182 N85 nw185 F186 (hb hby at_318) (n := 0) (by decide) (by decide) (by show 0 < 2; decide) ?_
        intro T187 h187 lo187 X187 e187 N187 W187
        have F188 : own_Ary Z h187 a182 .int [(.int v4), (.int (0 : Int32))] := F186.set W187
        show own_Go _ _ _ _ _ _ _ T187 (mkF m 319 L88 [(.ref a182)])
        refine own_pre (T' := T187) (g' := (mkF m 320 L88 [(.ref a182), (.ref a182)])) (fun t k => XS.dup X187.here hx rfl (hb hby at_319) rfl rfl k) ?_
        refine own_pre (T' := T187) (g' := (mkF m 321 L88 [(.int (1 : Int32)), (.ref a182), (.ref a182)])) (fun t k => XS.iconst X187.here hx rfl (hb hby at_320) k) ?_
        refine own_pre (T' := T187) (g' := (mkF m 323 L88 [(.int v6), (.int (1 : Int32)), (.ref a182), (.ref a182)])) (fun t k => XS.iload X187.here hx rfl (v := v6) (hb hby at_321) (by rw [← hL88]; rfl) k) ?_
        refine own_iastore X187 hx hZ e187 N187 nw185 F188 (hb hby at_323) (n := 1) (by decide) (by decide) (by show 1 < 2; decide) ?_
        intro T189 h189 lo189 X189 e189 N189 W189
        have F190 : own_Ary Z h189 a182 .int [(.int v4), (.int v6)] := F188.set W189
        show own_Go _ _ _ _ _ _ _ T189 (mkF m 324 L88 [(.ref a182)])
        refine own_pre (T' := T189) (g' := (mkF m 326 #[.val (.int p0), .val (.int p1), .val (.long p2), .second, .val (.int v2), .val (.int v4), .val (.int v6), .val (.int v8), .val (.long v12), .second, .val (.long v16), .second, .val (.long v20), .second, .val (.long v22), .second, .val (.long v24), .second, .val (.long v26), .second, .val (.long v28), .second, .val (.long v30), .second, .val (.long v32), .second, .val (.long v34), .second, .val (.long v36), .second, .val (.ref a38), .val (.ref a67), .val (.ref a182), .unset, .val (.long (0 : Int64)), .second, .unset, .unset, .unset] [])) (fun t k => XS.astore X189.here hx rfl (hb hby at_324) rfl rfl (l' := #[.val (.int p0), .val (.int p1), .val (.long p2), .second, .val (.int v2), .val (.int v4), .val (.int v6), .val (.int v8), .val (.long v12), .second, .val (.long v16), .second, .val (.long v20), .second, .val (.long v22), .second, .val (.long v24), .second, .val (.long v26), .second, .val (.long v28), .second, .val (.long v30), .second, .val (.long v32), .second, .val (.long v34), .second, .val (.long v36), .second, .val (.ref a38), .val (.ref a67), .val (.ref a182), .unset, .val (.long (0 : Int64)), .second, .unset, .unset, .unset]) (by rw [← hL88]; rfl) k) ?_
        generalize hL191 : (#[.val (.int p0), .val (.int p1), .val (.long p2), .second, .val (.int v2), .val (.int v4), .val (.int v6), .val (.int v8), .val (.long v12), .second, .val (.long v16), .second, .val (.long v20), .second, .val (.long v22), .second, .val (.long v24), .second, .val (.long v26), .second, .val (.long v28), .second, .val (.long v30), .second, .val (.long v32), .second, .val (.long v34), .second, .val (.long v36), .second, .val (.ref a38), .val (.ref a67), .val (.ref a182), .unset, .val (.long (0 : Int64)), .second, .unset, .unset, .unset] : Array Slot) = L191
        refine own_pre (T' := T189) (g' := (mkF m 327 L191 [(.int (2 : Int32))])) (fun t k => XS.iconst X189.here hx rfl (hb hby at_326) k) ?_
        have F192 : own_Ary Z h189 a38 .double [(.double f41), (.double f44), (.double f47), (.double f50), (.double f53), (.double f56), (.double f59), (.double f62)] := (((F180.ext E182).other W187 (Nat.ne_of_lt lt183)).other W189 (Nat.ne_of_lt lt183))
        have F193 : own_Ary Z h189 a67 .long [(.long v22), (.long v24), (.long v26), (.long v28), (.long v30), (.long v32), (.long v34), (.long v36)] := (((F86.ext E182).other W187 (Nat.ne_of_lt lt184)).other W189 (Nat.ne_of_lt lt184))
        have F194 : n0 ≤ h189.size := (Nat.le_trans (Nat.le_trans (Nat.le_trans F181 E182.1) (Nat.le_of_eq W187.size.symm)) (Nat.le_of_eq W189.size.symm))
        refine own_newarr X189 hx hZ (aty := .double) (hw _ (List.mem_of_getElem? (i := 5) rfl)) e189 (hb hby at_327) (n := 2) (by decide) (by decide) (by decide) (by decide) (by decide) (ad := "[D") rfl ?_
        intro T195 h195 a195 g195 X195 e195 E195 A195 B195
        have lt196 : a38 < a195 := Nat.lt_of_lt_of_le F192.lt (Nat.le_of_eq g195.symm)
        have lt197 : a67 < a195 := Nat.lt_of_lt_of_le F193.lt (Nat.le_of_eq g195.symm)
        have lt198 : a182 < a195 := Nat.lt_of_lt_of_le F190.lt (Nat.le_of_eq g195.symm)
        have nw199 : n0 ≤ a195 := Nat.le_trans F194 (Nat.le_of_eq g195.symm)
        have F200 : own_Ary Z h195 a195 .double [(.double (0 : UInt64)), (.double (0 : UInt64))] := A195
        show own_Go _ _ _ _ _ _ _ T195 (mkF m 329 L191 [(.ref a195)])
        refine own_pre (T' := T195) (g' := (mkF m 330 L191 [(.ref a195), (.ref a195)])) (fun t k => XS.dup X195.here hx rfl (hb hby at_329) rfl rfl k) ?_
        refine own_pre (T' := T195) (g' := (mkF m 331 L191 [(.int (0 : Int32)), (.ref a195), (.ref a195)])) (fun t k => XS.iconst X195.here hx rfl (hb hby at_330) k) ?_
        refine own_pre (T' := T195) (g' := (mkF m 333 L191 [(.long v12), (.int (0 : Int32)), (.ref a195), (.ref a195)])) (fun t k => XT.lload X195.here hx rfl (v := v12) (hb hby at_331) (by rw [← hL191]; rfl) k) ?_
        obtain ⟨f201, hf201⟩ : ∃ z, FP.l2d v12 = z := ⟨_, rfl⟩
        refine own_pre (T' := T195) (g' := (mkF m 334 L191 [(.double f201), (.int (0 : Int32)), (.ref a195), (.ref a195)])) (fun t k => XS.l2dS X195.here hx rfl (hb hby at_333) rfl hf201 k) ?_
        have Df201 : Jvm.FP.Core.DInt v12.toInt f201 := hf201 ▸ Jvm.FP.Core.l2d_int (own_abs hV0)
        refine own_dastore X195 hx hZ e195 N189 nw199 F200 (hb hby at_334) (n := 0) (by decide) (by decide) (by show 0 < 2; decide) ?_
        intro T202 h202 lo202 X202 e202 N202 W202
        have F203 : own_Ary Z h202 a195 .double [(.double f201), (.double (0 : UInt64))] := F200.set W202
        show own_Go _ _ _ _ _ _ _ T202 (mkF m 335 L191 [(.ref a195)])
        refine own_pre (T' := T202) (g' := (mkF m 336 L191 [(.ref a195), (.ref a195)])) (fun t k => XS.dup X202.here hx rfl (hb hby at_335) rfl rfl k) ?_
        refine own_pre (T' := T202) (g' := (mkF m 337 L191 [(.int (1 : Int32)), (.ref a195), (.ref a195)])) (fun t k => XS.iconst X202.here hx rfl (hb hby at_336) k) ?_
        refine own_pre (T' := T202) (g' := (mkF m 339 L191 [(.long v16), (.int (1 : Int32)), (.ref a195), (.ref a195)])) (fun t k => XT.lload X202.here hx rfl (v := v16) (hb hby at_337) (by rw [← hL191]; rfl) k) ?_
        obtain ⟨f204, hf204⟩ : ∃ z, FP.l2d v16 = z := ⟨_, rfl⟩
        refine own_pre (T' := T202) (g' := (mkF m 340 L191 [(.double f204), (.int (1 : Int32)), (.ref a195), (.ref a195)])) (fun t k => XS.l2dS X202.here hx rfl (hb hby at_339) rfl hf204 k) ?_
        have Df204 : Jvm.FP.Core.DInt v16.toInt f204 := hf204 ▸ Jvm.FP.Core.l2d_int (own_abs hV1)
        refine own_dastore X202 hx hZ e202 N202 nw199 F203 (hb hby at_340) (n := 1) (by decide) (by decide) (by show 1 < 2; decide) ?_
        intro T205 h205 lo205 X205 e205 N205 W205
        have F206 : own_Ary Z h205 a195 .double [(.double f201), (.double f204)] := F203.set W205
        show own_Go _ _ _ _ _ _ _ T205 (mkF m 341 L191 [(.ref a195)])
        refine own_pre (T' := T205) (g' := (mkF m 343 #[.val (.int p0), .val (.int p1), .val (.long p2), .second, .val (.int v2), .val (.int v4), .val (.int v6), .val (.int v8), .val (.long v12), .second, .val (.long v16), .second, .val (.long v20), .second, .val (.long v22), .second, .val (.long v24), .second, .val (.long v26), .second, .val (.long v28), .second, .val (.long v30), .second, .val (.long v32), .second, .val (.long v34), .second, .val (.long v36), .second, .val (.ref a38), .val (.ref a67), .val (.ref a182), .val (.ref a195), .val (.long (0 : Int64)), .second, .unset, .unset, .unset] [])) (fun t k => XS.astore X205.here hx rfl (hb hby at_341) rfl rfl (l' := #[.val (.int p0), .val (.int p1), .val (.long p2), .second, .val (.int v2), .val (.int v4), .val (.int v6), .val (.int v8), .val (.long v12), .second, .val (.long v16), .second, .val (.long v20), .second, .val (.long v22), .second, .val (.long v24), .second, .val (.long v26), .second, .val (.long v28), .second, .val (.long v30), .second, .val (.long v32), .second, .val (.long v34), .second, .val (.long v36), .second, .val (.ref a38), .val (.ref a67), .val (.ref a182), .val (.ref a195), .val (.long (0 : Int64)), .second, .unset, .unset, .unset]) (by rw [← hL191]; rfl) k) ?_
        generalize hL207 : (#[.val (.int p0), .val (.int p1), .val (.long p2), .second, .val (.int v2), .val (.int v4), .val (.int v6), .val (.int v8), .val (.long v12), .second, .val (.long v16), .second, .val (.long v20), .second, .val (.long v22), .second, .val (.long v24), .second, .val (.long v26), .second, .val (.long v28), .second, .val (.long v30), .second, .val (.long v32), .second, .val (.long v34), .second, .val (.long v36), .second, .val (.ref a38), .val (.ref a67), .val (.ref a182), .val (.ref a195), .val (.long (0 : Int64)), .second, .unset, .unset, .unset] : Array Slot) = L207
        refine own_pre (T' := T205) (g' := (mkF m 345 L207 [(.long v12)])) (fun t k => XT.lload X205.here hx rfl (v := v12) (hb hby at_343) (by rw [← hL207]; rfl) k) ?_
        refine own_pre (T' := T205) (g' := (mkF m 347 L207 [(.ref a67), (.long v12)])) (fun t k => XS.aload X205.here hx rfl (v := (.ref a67)) (hb hby at_345) (by rw [← hL207]; rfl) rfl k) ?_
        refine own_pre (T' := T205) (g' := (mkF m 349 L207 [(.int v4), (.ref a67), (.long v12)])) (fun t k => XS.iload X205.here hx rfl (v := v4) (hb hby at_347) (by rw [← hL207]; rfl) k) ?_
        have F208 : own_Ary Z h205 a67 .long [(.long v22), (.long v24), (.long v26), (.long v28), (.long v30), (.long v32), (.long v34), (.long v36)] := (((F193.ext E195).other W202 (Nat.ne_of_lt lt197)).other W205 (Nat.ne_of_lt lt197))
        refine own_laload X205 hx hZ e205 F208 (hb hby at_349) (n := v4.toNatClampNeg) (v := (.long e0)) hq0.1 rfl he0 ?_
        show own_Go _ _ _ _ _ _ _ T205 (mkF m 350 L207 [(.long e0), (.long v12)])
        refine own_pre (T' := T205) (g' := (mkF m 351 L207 [(.long (v12 * e0))])) (fun t k => XT.lmul X205.here hx rfl (hb hby at_350) rfl k) ?_
        refine own_pre (T' := T205) (g' := (mkF m 353 L207 [(.long v16), (.long (v12 * e0))])) (fun t k => XT.lload X205.here hx rfl (v := v16) (hb hby at_351) (by rw [← hL207]; rfl) k) ?_
        refine own_pre (T' := T205) (g' := (mkF m 355 L207 [(.ref a67), (.long v16), (.long (v12 * e0))])) (fun t k => XS.aload X205.here hx rfl (v := (.ref a67)) (hb hby at_353) (by rw [← hL207]; rfl) rfl k) ?_
        refine own_pre (T' := T205) (g' := (mkF m 357 L207 [(.int v6), (.ref a67), (.long v16), (.long (v12 * e0))])) (fun t k => XS.iload X205.here hx rfl (v := v6) (hb hby at_355) (by rw [← hL207]; rfl) k) ?_
        refine own_laload X205 hx hZ e205 F208 (hb hby at_357) (n := v6.toNatClampNeg) (v := (.long e1)) hq1.1 rfl he1 ?_
        show own_Go _ _ _ _ _ _ _ T205 (mkF m 358 L207 [(.long e1), (.long v16), (.long (v12 * e0))])
        refine own_pre (T' := T205) (g' := (mkF m 359 L207 [(.long (v16 * e1)), (.long (v12 * e0))])) (fun t k => XT.lmul X205.here hx rfl (hb hby at_358) rfl k) ?_
        refine own_pre (T' := T205) (g' := (mkF m 360 L207 [(.long ((v12 * e0) + (v16 * e1)))])) (fun t k => XT.ladd X205.here hx rfl (hb hby at_359) rfl k) ?_
        generalize hv209 : (v12 * e0) + (v16 * e1) = v209
        refine own_pre (T' := T205) (g' := (mkF m 362 #[.val (.int p0), .val (.int p1), .val (.long p2), .second, .val (.int v2), .val (.int v4), .val (.int v6), .val (.int v8), .val (.long v12), .second, .val (.long v16), .second, .val (.long v20), .second, .val (.long v22), .second, .val (.long v24), .second, .val (.long v26), .second, .val (.long v28), .second, .val (.long v30), .second, .val (.long v32), .second, .val (.long v34), .second, .val (.long v36), .second, .val (.ref a38), .val (.ref a67), .val (.ref a182), .val (.ref a195), .val (.long v209), .second, .unset, .unset, .unset] [])) (fun t k => XT.lstore X205.here hx rfl (hb hby at_360) rfl (l' := #[.val (.int p0), .val (.int p1), .val (.long p2), .second, .val (.int v2), .val (.int v4), .val (.int v6), .val (.int v8), .val (.long v12), .second, .val (.long v16), .second, .val (.long v20), .second, .val (.long v22), .second, .val (.long v24), .second, .val (.long v26), .second, .val (.long v28), .second, .val (.long v30), .second, .val (.long v32), .second, .val (.long v34), .second, .val (.long v36), .second, .val (.ref a38), .val (.ref a67), .val (.ref a182), .val (.ref a195), .val (.long v209), .second, .unset, .unset, .unset]) (by rw [← hL207]; rfl) k) ?_
        generalize hL210 : (#[.val (.int p0), .val (.int p1), .val (.long p2), .second, .val (.int v2), .val (.int v4), .val (.int v6), .val (.int v8), .val (.long v12), .second, .val (.long v16), .second, .val (.long v20), .second, .val (.long v22), .second, .val (.long v24), .second, .val (.long v26), .second, .val (.long v28), .second, .val (.long v30), .second, .val (.long v32), .second, .val (.long v34), .second, .val (.long v36), .second, .val (.ref a38), .val (.ref a67), .val (.ref a182), .val (.ref a195), .val (.long v209), .second, .unset, .unset, .unset] : Array Slot) = L210
        refine own_pre (T' := T205) (g' := (mkF m 436 L210 [])) (fun t k => XS.goto X205.here hx rfl (pc0 := 362) (pc' := 436) rfl (hb hby at_362) (by decide) (by decide) k) ?_
        have F211 : own_Ary Z h205 a38 .double [(.double f41), (.double f44), (.double f47), (.double f50), (.double f53), (.double f56), (.double f59), (.double f62)] := (((F192.ext E195).other W202 (Nat.ne_of_lt lt196)).other W205 (Nat.ne_of_lt lt196))
        have F212 : own_Ary Z h205 a182 .int [(.int v4), (.int v6)] := (((F190.ext E195).other W202 (Nat.ne_of_lt lt198)).other W205 (Nat.ne_of_lt lt198))
        have F213 : n0 ≤ h205.size := (Nat.le_trans (Nat.le_trans (Nat.le_trans F194 E195.1) (Nat.le_of_eq W202.size.symm)) (Nat.le_of_eq W205.size.symm))
        refine own_newobj X205 hx hZ hown (hw _ (List.mem_of_getElem? (i := 8) rfl)) (hw _ (List.mem_of_getElem? (i := 9) rfl)) (hw _ (List.mem_of_getElem? (i := 10) rfl)) e205 (hb hby at_436) (by decide) (by decide) ?_
        intro T214 h214 a214 g214 X214 e214 E214 A214 D214
        have lt215 : a38 < a214 := Nat.lt_of_lt_of_le F211.lt (Nat.le_of_eq g214.symm)
        have lt216 : a67 < a214 := Nat.lt_of_lt_of_le F208.lt (Nat.le_of_eq g214.symm)
        have lt217 : a182 < a214 := Nat.lt_of_lt_of_le F212.lt (Nat.le_of_eq g214.symm)
        have lt218 : a195 < a214 := Nat.lt_of_lt_of_le F206.lt (Nat.le_of_eq g214.symm)
        have nw219 : n0 ≤ a214 := Nat.le_trans F213 (Nat.le_of_eq g214.symm)
        have F220 : Fld Z h214 a214 "com/example/galicia/galicia/lime/SparseVector" "positions" "[I" .null := D214 (Or.inr (hw _ (List.mem_of_getElem? (i := 18) rfl))) (ty := (.array .int)) (by decide)
        have F221 : Fld Z h214 a214 "com/example/galicia/galicia/lime/SparseVector" "values" "[D" .null := D214 (Or.inr (hw _ (List.mem_of_getElem? (i := 20) rfl))) (ty := (.array .double)) (by decide)
        show own_Go _ _ _ _ _ _ _ T214 (mkF m 439 L210 [(.ref a214)])
        refine own_pre (T' := T214) (g' := (mkF m 440 L210 [(.ref a214), (.ref a214)])) (fun t k => XS.dup X214.here hx rfl (hb hby at_439) rfl rfl k) ?_
        refine own_pre (T' := T214) (g' := (mkF m 442 L210 [(.ref a182), (.ref a214), (.ref a214)])) (fun t k => XS.aload X214.here hx rfl (v := (.ref a182)) (hb hby at_440) (by rw [← hL210]; rfl) rfl k) ?_
        refine own_pre (T' := T214) (g' := (mkF m 444 L210 [(.ref a195), (.ref a182), (.ref a214), (.ref a214)])) (fun t k => XS.aload X214.here hx rfl (v := (.ref a195)) (hb hby at_442) (by rw [← hL210]; rfl) rfl k) ?_
        have F222 : n0 ≤ h214.size := (Nat.le_trans F213 E214.1)
        refine own_init (a := a214) (argsL := [(.ref a182), (.ref a195)]) (rest := [(.ref a214)]) X214 hx hZ hown (own_svinit l Z a0 hw [] a214 a182 a195 h214 n0 F222 A214 F220 F221 nw219) rfl (hw _ (List.mem_of_getElem? (i := 11) rfl)) (hw _ (List.mem_of_getElem? (i := 12) rfl)) (hw _ (List.mem_of_getElem? (i := 13) rfl)) (hw _ (List.mem_of_getElem? (i := 10) rfl)) (by decide) e214 (hb hby at_444) (by rw [hml, ← hL210]; rfl) rfl (lenOf own_pd1 rfl) (by decide) (W := 1) (Nat.le_of_eq rfl) (by decide) (by decide) (by decide) ?_
        intro v223 T223 lo223 X223 Q223
        obtain ⟨h223, e223⟩ : ∃ h, T223.heap = h := ⟨_, rfl⟩
        rw [e223] at Q223
        obtain ⟨rfl, N223, K223, G1223, G2223⟩ := Q223
        have N223' := Fr.app N205 N223
        show own_Go _ _ _ _ _ _ _ T223 (mkF m 447 L210 [(.ref a214)])
        refine own_pre (T' := T223) (g' := (mkF m 449 #[.val (.int p0), .val (.int p1), .val (.long p2), .second, .val (.int v2), .val (.int v4), .val (.int v6), .val (.int v8), .val (.long v12), .second, .val (.long v16), .second, .val (.long v20), .second, .val (.long v22), .second, .val (.long v24), .second, .val (.long v26), .second, .val (.long v28), .second, .val (.long v30), .second, .val (.long v32), .second, .val (.long v34), .second, .val (.long v36), .second, .val (.ref a38), .val (.ref a67), .val (.ref a182), .val (.ref a195), .val (.long v209), .second, .val (.ref a214), .unset, .unset] [])) (fun t k => XS.astore X223.here hx rfl (hb hby at_447) rfl rfl (l' := #[.val (.int p0), .val (.int p1), .val (.long p2), .second, .val (.int v2), .val (.int v4), .val (.int v6), .val (.int v8), .val (.long v12), .second, .val (.long v16), .second, .val (.long v20), .second, .val (.long v22), .second, .val (.long v24), .second, .val (.long v26), .second, .val (.long v28), .second, .val (.long v30), .second, .val (.long v32), .second, .val (.long v34), .second, .val (.long v36), .second, .val (.ref a38), .val (.ref a67), .val (.ref a182), .val (.ref a195), .val (.long v209), .second, .val (.ref a214), .unset, .unset]) (by rw [← hL210]; rfl) k) ?_
        generalize hL224 : (#[.val (.int p0), .val (.int p1), .val (.long p2), .second, .val (.int v2), .val (.int v4), .val (.int v6), .val (.int v8), .val (.long v12), .second, .val (.long v16), .second, .val (.long v20), .second, .val (.long v22), .second, .val (.long v24), .second, .val (.long v26), .second, .val (.long v28), .second, .val (.long v30), .second, .val (.long v32), .second, .val (.long v34), .second, .val (.long v36), .second, .val (.ref a38), .val (.ref a67), .val (.ref a182), .val (.ref a195), .val (.long v209), .second, .val (.ref a214), .unset, .unset] : Array Slot) = L224
        refine own_pre (T' := T223) (g' := (mkF m 451 L224 [(.ref a214)])) (fun t k => XS.aload X223.here hx rfl (v := (.ref a214)) (hb hby at_449) (by rw [← hL224]; rfl) rfl k) ?_
        refine own_pre (T' := T223) (g' := (mkF m 453 L224 [(.ref a38), (.ref a214)])) (fun t k => XS.aload X223.here hx rfl (v := (.ref a38)) (hb hby at_451) (by rw [← hL224]; rfl) rfl k) ?_
        have F225 : n0 ≤ h223.size := (Nat.le_trans F222 K223.1)
        have F226 : own_Ary Z h223 a182 .int [(.int v4), (.int v6)] := ((F212.ext E214).keep K223 (ninS (Nat.ne_of_lt lt217) nin0))
        have F227 : own_Ary Z h223 a195 .double [(.double f201), (.double f204)] := ((F206.ext E214).keep K223 (ninS (Nat.ne_of_lt lt218) nin0))
        have F228 : own_Ary Z h223 a38 .double [(.double f41), (.double f44), (.double f47), (.double f50), (.double f53), (.double f56), (.double f59), (.double f62)] := ((F211.ext E214).keep K223 (ninS (Nat.ne_of_lt lt215) nin0))
        have F229 : Exa Z h223 a214 "com/example/galicia/galicia/lime/SparseVector" := (A214.keep K223)
        refine own_callv (a := a214) (argsL := [(.ref a38)]) (rest := []) X223 hx hZ hown (own_dot2 l Z a0 hw [] a214 a182 a195 a38 _ v4 f201 y0 v12.toInt e0.toInt v6 f204 y1 v16.toInt e1.toInt h223 n0 F225 G1223 G2223 F226 F227 F228 hq0.1 hy0 Df201 DY0 hB0 hq1.1 hy1 Df204 DY1 hB1) F229 (hw _ (List.mem_of_getElem? (i := 21) rfl)) (hw _ (List.mem_of_getElem? (i := 22) rfl)) (hw _ (List.mem_of_getElem? (i := 24) rfl)) (hw _ (List.mem_of_getElem? (i := 23) rfl)) (hw _ (List.mem_of_getElem? (i := 25) rfl)) (hw _ (List.mem_of_getElem? (i := 10) rfl)) (by decide) e223 (hb hby at_453) (by rw [hml, ← hL224]; rfl) rfl (lenOf own_pd2 rfl) (by decide) (W := 0) (Nat.le_of_eq rfl) (by decide) (by decide) (by decide) ?_
        intro v230 T230 lo230 X230 Q230
        obtain ⟨h230, e230⟩ : ∃ h, T230.heap = h := ⟨_, rfl⟩
        rw [e230] at Q230
        obtain ⟨r230, rfl, DR230, N230, q230⟩ := Q230
        have N230' := Fr.app N223' N230
        have e230' : T230.heap = h223 := e230.trans q230
        show own_Go _ _ _ _ _ _ _ T230 (mkF m 456 L224 [(.double r230)])
        refine own_pre (T' := T230) (g' := (mkF m 458 #[.val (.int p0), .val (.int p1), .val (.long p2), .second, .val (.int v2), .val (.int v4), .val (.int v6), .val (.int v8), .val (.long v12), .second, .val (.long v16), .second, .val (.long v20), .second, .val (.long v22), .second, .val (.long v24), .second, .val (.long v26), .second, .val (.long v28), .second, .val (.long v30), .second, .val (.long v32), .second, .val (.long v34), .second, .val (.long v36), .second, .val (.ref a38), .val (.ref a67), .val (.ref a182), .val (.ref a195), .val (.long v209), .second, .val (.ref a214), .val (.double r230), .second] [])) (fun t k => XS.dstore X230.here hx rfl (hb hby at_456) rfl (l' := #[.val (.int p0), .val (.int p1), .val (.long p2), .second, .val (.int v2), .val (.int v4), .val (.int v6), .val (.int v8), .val (.long v12), .second, .val (.long v16), .second, .val (.long v20), .second, .val (.long v22), .second, .val (.long v24), .second, .val (.long v26), .second, .val (.long v28), .second, .val (.long v30), .second, .val (.long v32), .second, .val (.long v34), .second, .val (.long v36), .second, .val (.ref a38), .val (.ref a67), .val (.ref a182), .val (.ref a195), .val (.long v209), .second, .val (.ref a214), .val (.double r230), .second]) (by rw [← hL224]; rfl) k) ?_
        generalize hL231 : (#[.val (.int p0), .val (.int p1), .val (.long p2), .second, .val (.int v2), .val (.int v4), .val (.int v6), .val (.int v8), .val (.long v12), .second, .val (.long v16), .second, .val (.long v20), .second, .val (.long v22), .second, .val (.long v24), .second, .val (.long v26), .second, .val (.long v28), .second, .val (.long v30), .second, .val (.long v32), .second, .val (.long v34), .second, .val (.long v36), .second, .val (.ref a38), .val (.ref a67), .val (.ref a182), .val (.ref a195), .val (.long v209), .second, .val (.ref a214), .val (.double r230), .second] : Array Slot) = L231
        refine own_pre (T' := T230) (g' := (mkF m 460 L231 [(.double r230)])) (fun t k => XS.dload X230.here hx rfl (v := r230) (hb hby at_458) (by rw [← hL231]; rfl) k) ?_
        refine own_pre (T' := T230) (g' := (mkF m 462 L231 [(.long v209), (.double r230)])) (fun t k => XT.lload X230.here hx rfl (v := v209) (hb hby at_460) (by rw [← hL231]; rfl) k) ?_
        obtain ⟨f232, hf232⟩ : ∃ z, FP.l2d v209 = z := ⟨_, rfl⟩
        refine own_pre (T' := T230) (g' := (mkF m 463 L231 [(.double f232), (.double r230)])) (fun t k => XS.l2dS X230.here hx rfl (hb hby at_462) rfl hf232 k) ?_
        have hX : v209.toInt = ((0 + (v12.toInt * e0.toInt)) + (v16.toInt * e1.toInt)) := own_exp2 hB0 hB1 hv209
        have Df232 : Jvm.FP.Core.DInt v209.toInt f232 := hf232 ▸ Jvm.FP.Core.l2d_int (by rw [hX]; omega)
        obtain ⟨k233, hk233⟩ : ∃ z, own_c ((0 + (v12.toInt * e0.toInt)) + (v16.toInt * e1.toInt)) v209.toInt = z := ⟨_, rfl⟩
        refine own_pre (T' := T230) (g' := (mkF m 464 L231 [(.int k233)])) (fun t k => XS.dcmpS X230.here hx rfl (hb hby at_463) rfl ((own_dcmp DR230 Df232 _).trans hk233) k) ?_
        have hk0 : k233 = (0 : Int32) := by rw [← hk233, own_c_eq, hX]
        refine own_pre (T' := T230) (g' := (mkF m 467 L231 [])) (fun t k => XS.ifNo X230.here hx rfl (hb hby at_464) rfl ((if0 _ _).trans (teq hk0).2) k) ?_
        refine own_pre (T' := T230) (g' := (mkF m 468 L231 [(.int (1 : Int32))])) (fun t k => XS.iconst X230.here hx rfl (hb hby at_467) k) ?_
        refine own_pre (T' := T230) (g' := (mkF m 472 L231 [(.int (1 : Int32))])) (fun t k => XS.goto X230.here hx rfl (pc0 := 468) (pc' := 472) rfl (hb hby at_468) (by decide) (by decide) k) ?_
        exact own_retZ X230 hx hlk hret rfl (hb hby at_472) e230' ⟨rfl, N230'⟩ (by decide) (by decide)
      · skip
        refine own_pre (T' := T85) (g' := (mkF m 365 L88 [])) (fun t k => XS.icmpYes X85.here hx rfl (pc0 := 308) (pc' := 365) rfl (hb hby at_308) rfl (feq hn2).2 (by decide) (by decide) k) ?_
        obtain ⟨y0, e0, hy0, he0, DY0, hE0⟩ := hpick v4.toNatClampNeg (own_lt8 hq0)
        have hB0 := own_prod hV0 hE0
        obtain ⟨y1, e1, hy1, he1, DY1, hE1⟩ := hpick v6.toNatClampNeg (own_lt8 hq1)
        have hB1 := own_prod hV1 hE1
        obtain ⟨y2, e2, hy2, he2, DY2, hE2⟩ := hpick v8.toNatClampNeg (own_lt8 hq2)
        have hB2 := own_prod hV2 hE2
        refine own_pre (T' := T85) (g' := (mkF m 366 L88 [(.int (3 : Int32))])) (fun t k => XS.iconst X85.here hx rfl (hb hby at_365) k) ?_
        have F234 : own_Ary Z h85 a38 .double [(.double f41), (.double f44), (.double f47), (.double f50), (.double f53), (.double f56), (.double f59), (.double f62)] := (((((((((F64.ext E67).other W71 (Nat.ne_of_lt lt68)).other W73 (Nat.ne_of_lt lt68)).other W75 (Nat.ne_of_lt lt68)).other W77 (Nat.ne_of_lt lt68)).other W79 (Nat.ne_of_lt lt68)).other W81 (Nat.ne_of_lt lt68)).other W83 (Nat.ne_of_lt lt68)).other W85 (Nat.ne_of_lt lt68))
        have F235 : n0 ≤ h85.size := (Nat.le_trans (Nat.le_trans (Nat.le_trans (Nat.le_trans (Nat.le_trans (Nat.le_trans (Nat.le_trans (Nat.le_trans (Nat.le_trans F66 E67.1) (Nat.le_of_eq W71.size.symm)) (Nat.le_of_eq W73.size.symm)) (Nat.le_of_eq W75.size.symm)) (Nat.le_of_eq W77.size.symm)) (Nat.le_of_eq W79.size.symm)) (Nat.le_of_eq W81.size.symm)) (Nat.le_of_eq W83.size.symm)) (Nat.le_of_eq W85.size.symm))
        refine own_newarr X85 hx hZ (aty := .int) (hw _ (List.mem_of_getElem? (i := 7) rfl)) e85 (hb hby at_366) (n := 3) (by decide) (by decide) (by decide) (by decide) (by decide) (ad := "[I") rfl ?_
        intro T236 h236 a236 g236 X236 e236 E236 A236 B236
        have lt237 : a38 < a236 := Nat.lt_of_lt_of_le F234.lt (Nat.le_of_eq g236.symm)
        have lt238 : a67 < a236 := Nat.lt_of_lt_of_le F86.lt (Nat.le_of_eq g236.symm)
        have nw239 : n0 ≤ a236 := Nat.le_trans F235 (Nat.le_of_eq g236.symm)
        have F240 : own_Ary Z h236 a236 .int [(.int (0 : Int32)), (.int (0 : Int32)), (.int (0 : Int32))] := A236
        show own_Go _ _ _ _ _ _ _ T236 (mkF m 368 L88 [(.ref a236)])
        refine own_pre (T' := T236) (g' := (mkF m 369 L88 [(.ref a236), (.ref a236)])) (fun t k => XS.dup X236.here hx rfl (hb hby at_368) rfl rfl k) ?_
        refine own_pre (T' := T236) (g' := (mkF m 370 L88 [(.int (0 : Int32)), (.ref a236), (.ref a236)])) (fun t k => XS.iconst X236.here hx rfl (hb hby at_369) k) ?_
        refine own_pre (T' := T236) (g' := (mkF m 372 L88 [(.int v4), (.int (0 : Int32)), (.ref a236), (.ref a236)])) (fun t k => XS.iload X236.here hx rfl (v := v4) (hb hby at_370) (by rw [← hL88]; rfl) k) ?_
        refine own_iastore X236 hx hZ e236 N85 nw239 F240 (hb hby at_372) (n := 0) (by decide) (by decide) (by show 0 < 3; decide) ?_
        intro T241 h241 lo241 X241 e241 N241 W241
        have F242 : own_Ary Z h241 a236 .int [(.int v4), (.int (0 : Int32)), (.int (0 : Int32))] := F240.set W241
        show own_Go _ _ _ _ _ _ _ T241 (mkF m 373 L88 [(.ref a236)])
        refine own_pre (T' := T241) (g' := (mkF m 374 L88 [(.ref a236), (.ref a236)])) (fun t k => XS.dup X241.here hx rfl (hb hby at_373) rfl rfl k) ?_
        refine own_pre (T' := T241) (g' := (mkF m 375 L88 [(.int (1 : Int32)), (.ref a236), (.ref a236)])) (fun t k => XS.iconst X241.here hx rfl (hb hby at_374) k) ?_
        refine own_pre (T' := T241) (g' := (mkF m 377 L88 [(.int v6), (.int (1 : Int32)), (.ref a236), (.ref a236)])) (fun t k => XS.iload X241.here hx rfl (v := v6) (hb hby at_375) (by rw [← hL88]; rfl) k) ?_
        refine own_iastore X241 hx hZ e241 N241 nw239 F242 (hb hby at_377) (n := 1) (by decide) (by decide) (by show 1 < 3; decide) ?_
        intro T243 h243 lo243 X243 e243 N243 W243
        have F244 : own_Ary Z h243 a236 .int [(.int v4), (.int v6), (.int (0 : Int32))] := F242.set W243
        show own_Go _ _ _ _ _ _ _ T243 (mkF m 378 L88 [(.ref a236)])
        refine own_pre (T' := T243) (g' := (mkF m 379 L88 [(.ref a236), (.ref a236)])) (fun t k => XS.dup X243.here hx rfl (hb hby at_378) rfl rfl k) ?_
        refine own_pre (T' := T243) (g' := (mkF m 380 L88 [(.int (2 : Int32)), (.ref a236), (.ref a236)])) (fun t k => XS.iconst X243.here hx rfl (hb hby at_379) k) ?_
        refine own_pre (T' := T243) (g' := (mkF m 382 L88 [(.int v8), (.int (2 : Int32)), (.ref a236), (.ref a236)])) (fun t k => XS.iload X243.here hx rfl (v := v8) (hb hby at_380) (by rw [← hL88]; rfl) k) ?_
        refine own_iastore X243 hx hZ e243 N243 nw239 F244 (hb hby at_382) (n := 2) (by decide) (by decide) (by show 2 < 3; decide) ?_
        intro T245 h245 lo245 X245 e245 N245 W245
        have F246 : own_Ary Z h245 a236 .int [(.int v4), (.int v6), (.int v8)] := F244.set W245
        show own_Go _ _ _ _ _ _ _ T245 (mkF m 383 L88 [(.ref a236)])
        refine own_pre (T' := T245) (g' := (mkF m 385 #[.val (.int p0), .val (.int p1), .val (.long p2), .second, .val (.int v2), .val (.int v4), .val (.int v6), .val (.int v8), .val (.long v12), .second, .val (.long v16), .second, .val (.long v20), .second, .val (.long v22), .second, .val (.long v24), .second, .val (.long v26), .second, .val (.long v28), .second, .val (.long v30), .second, .val (.long v32), .second, .val (.long v34), .second, .val (.long v36), .second, .val (.ref a38), .val (.ref a67), .val (.ref a236), .unset, .val (.long (0 : Int64)), .second, .unset, .unset, .unset] [])) (fun t k => XS.astore X245.here hx rfl (hb hby at_383) rfl rfl (l' := #[.val (.int p0), .val (.int p1), .val (.long p2), .second, .val (.int v2), .val (.int v4), .val (.int v6), .val (.int v8), .val (.long v12), .second, .val (.long v16), .second, .val (.long v20), .second, .val (.long v22), .second, .val (.long v24), .second, .val (.long v26), .second, .val (.long v28), .second, .val (.long v30), .second, .val (.long v32), .second, .val (.long v34), .second, .val (.long v36), .second, .val (.ref a38), .val (.ref a67), .val (.ref a236), .unset, .val (.long (0 : Int64)), .second, .unset, .unset, .unset]) (by rw [← hL88]; rfl) k) ?_
        generalize hL247 : (#[.val (.int p0), .val (.int p1), .val (.long p2), .second, .val (.int v2), .val (.int v4), .val (.int v6), .val (.int v8), .val (.long v12), .second, .val (.long v16), .second, .val (.long v20), .second, .val (.long v22), .second, .val (.long v24), .second, .val (.long v26), .second, .val (.long v28), .second, .val (.long v30), .second, .val (.long v32), .second, .val (.long v34), .second, .val (.long v36), .second, .val (.ref a38), .val (.ref a67), .val (.ref a236), .unset, .val (.long (0 : Int64)), .second, .unset, .unset, .unset] : Array Slot) = L247
        refine own_pre (T' := T245) (g' := (mkF m 386 L247 [(.int (3 : Int32))])) (fun t k => XS.iconst X245.here hx rfl (hb hby at_385) k) ?_
        have F248 : own_Ary Z h245 a38 .double [(.double f41), (.double f44), (.double f47), (.double f50), (.double f53), (.double f56), (.double f59), (.double f62)] := ((((F234.ext E236).other W241 (Nat.ne_of_lt lt237)).other W243 (Nat.ne_of_lt lt237)).other W245 (Nat.ne_of_lt lt237))
        have F249 : own_Ary Z h245 a67 .long [(.long v22), (.long v24), (.long v26), (.long v28), (.long v30), (.long v32), (.long v34), (.long v36)] := ((((F86.ext E236).other W241 (Nat.ne_of_lt lt238)).other W243 (Nat.ne_of_lt lt238)).other W245 (Nat.ne_of_lt lt238))
        have F250 : n0 ≤ h245.size := (Nat.le_trans (Nat.le_trans (Nat.le_trans (Nat.le_trans F235 E236.1) (Nat.le_of_eq W241.size.symm)) (Nat.le_of_eq W243.size.symm)) (Nat.le_of_eq W245.size.symm))
        refine own_newarr X245 hx hZ (aty := .double) (hw _ (List.mem_of_getElem? (i := 5) rfl)) e245 (hb hby at_386) (n := 3) (by decide) (by decide) (by decide) (by decide) (by decide) (ad := "[D") rfl ?_
        intro T251 h251 a251 g251 X251 e251 E251 A251 B251
        have lt252 : a38 < a251 := Nat.lt_of_lt_of_le F248.lt (Nat.le_of_eq g251.symm)
        have lt253 : a67 < a251 := Nat.lt_of_lt_of_le F249.lt (Nat.le_of_eq g251.symm)
        have lt254 : a236 < a251 := Nat.lt_of_lt_of_le F246.lt (Nat.le_of_eq g251.symm)
        have nw255 : n0 ≤ a251 := Nat.le_trans F250 (Nat.le_of_eq g251.symm)
        have F256 : own_Ary Z h251 a251 .double [(.double (0 : UInt64)), (.double (0 : UInt64)), (.double (0 : UInt64))] := A251
        show own_Go _ _ _ _ _ _ _ T251 (mkF m 388 L247 [(.ref a251)])
        refine own_pre (T' := T251) (g' := (mkF m 389 L247 [(.ref a251), (.ref a251)])) (fun t k => XS.dup X251.here hx rfl (hb hby at_388) rfl rfl k) ?_
        refine own_pre (T' := T251) (g' := (mkF m 390 L247 [(.int (0 : Int32)), (.ref a251), (.ref a251)])) (fun t k => XS.iconst X251.here hx rfl (hb hby at_389) k) ?_
        refine own_pre (T' := T251) (g' := (mkF m 392 L247 [(.long v12), (.int (0 : Int32)), (.ref a251), (.ref a251)])) (fun t k => XT.lload X251.here hx rfl (v := v12) (hb hby at_390) (by rw [← hL247]; rfl) k) ?_
        obtain ⟨f257, hf257⟩ : ∃ z, FP.l2d v12 = z := ⟨_, rfl⟩
        refine own_pre (T' := T251) (g' := (mkF m 393 L247 [(.double f257), (.int (0 : Int32)), (.ref a251), (.ref a251)])) (fun t k => XS.l2dS X251.here hx rfl (hb hby at_392) rfl hf257 k) ?_
        have Df257 : Jvm.FP.Core.DInt v12.toInt f257 := hf257 ▸ Jvm.FP.Core.l2d_int (own_abs hV0)
        refine own_dastore X251 hx hZ e251 N245 nw255 F256 (hb hby at_393) (n := 0) (by decide) (by decide) (by show 0 < 3; decide) ?_
        intro T258 h258 lo258 X258 e258 N258 W258
        have F259 : own_Ary Z h258 a251 .double [(.double f257), (.double (0 : UInt64)), (.double (0 : UInt64))] := F256.set W258
        show own_Go _ _ _ _ _ _ _ T258 (mkF m 394 L247 [(.ref a251)])
        refine own_pre (T' := T258) (g' := (mkF m 395 L247 [(.ref a251), (.ref a251)])) (fun t k => XS.dup X258.here hx rfl (hb hby at_394) rfl rfl k) ?_
        refine own_pre (T' := T258) (g' := (mkF m 396 L247 [(.int (1 : Int32)), (.ref a251), (.ref a251)])) (fun t k => XS.iconst X258.here hx rfl (hb hby at_395) k) ?_
        refine own_pre (T' := T258) (g' := (mkF m 398 L247 [(.long v16), (.int (1 : Int32)), (.ref a251), (.ref a251)])) (fun t k => XT.lload X258.here hx rfl (v := v16) (hb hby at_396) (by rw [← hL247]; rfl) k) ?_
        obtain ⟨f260, hf260⟩ : ∃ z, FP.l2d v16 = z := ⟨_, rfl⟩
        refine own_pre (T' := T258) (g' := (mkF m 399 L247 [(.double f260), (.int (1 : Int32)), (.ref a251), (.ref a251)])) (fun t k => XS.l2dS X258.here hx rfl (hb hby at_398) rfl hf260 k) ?_
        have Df260 : Jvm.FP.Core.DInt v16.toInt f260 := hf260 ▸ Jvm.FP.Core.l2d_int (own_abs hV1)
        refine own_dastore X258 hx hZ e258 N258 nw255 F259 (hb hby at_399) (n := 1) (by decide) (by decide) (by show 1 < 3; decide) ?_
        intro T261 h261 lo261 X261 e261 N261 W261
        have F262 : own_Ary Z h261 a251 .double [(.double f257), (.double f260), (.double (0 : UInt64))] := F259.set W261
        show own_Go _ _ _ _ _ _ _ T261 (mkF m 400 L247 [(.ref a251)])
        refine own_pre (T' := T261) (g' := (mkF m 401 L247 [(.ref a251), (.ref a251)])) (fun t k => XS.dup X261.here hx rfl (hb hby at_400) rfl rfl k) ?_
        refine own_pre (T' := T261) (g' := (mkF m 402 L247 [(.int (2 : Int32)), (.ref a251), (.ref a251)])) (fun t k => XS.iconst X261.here hx rfl (hb hby at_401) k) ?_
        refine own_pre (T' := T261) (g' := (mkF m 404 L247 [(.long v20), (.int (2 : Int32)), (.ref a251), (.ref a251)])) (fun t k => XT.lload X261.here hx rfl (v := v20) (hb hby at_402) (by rw [← hL247]; rfl) k) ?_
        obtain ⟨f263, hf263⟩ : ∃ z, FP.l2d v20 = z := ⟨_, rfl⟩
        refine own_pre (T' := T261) (g' := (mkF m 405 L247 [(.double f263), (.int (2 : Int32)), (.ref a251), (.ref a251)])) (fun t k => XS.l2dS X261.here hx rfl (hb hby at_404) rfl hf263 k) ?_
        have Df263 : Jvm.FP.Core.DInt v20.toInt f263 := hf263 ▸ Jvm.FP.Core.l2d_int (own_abs hV2)
        refine own_dastore X261 hx hZ e261 N261 nw255 F262 (hb hby at_405) (n := 2) (by decide) (by decide) (by show 2 < 3; decide) ?_
        intro T264 h264 lo264 X264 e264 N264 W264
        have F265 : own_Ary Z h264 a251 .double [(.double f257), (.double f260), (.double f263)] := F262.set W264
        show own_Go _ _ _ _ _ _ _ T264 (mkF m 406 L247 [(.ref a251)])
        refine own_pre (T' := T264) (g' := (mkF m 408 #[.val (.int p0), .val (.int p1), .val (.long p2), .second, .val (.int v2), .val (.int v4), .val (.int v6), .val (.int v8), .val (.long v12), .second, .val (.long v16), .second, .val (.long v20), .second, .val (.long v22), .second, .val (.long v24), .second, .val (.long v26), .second, .val (.long v28), .second, .val (.long v30), .second, .val (.long v32), .second, .val (.long v34), .second, .val (.long v36), .second, .val (.ref a38), .val (.ref a67), .val (.ref a236), .val (.ref a251), .val (.long (0 : Int64)), .second, .unset, .unset, .unset] [])) (fun t k => XS.astore X264.here hx rfl (hb hby at_406) rfl rfl (l' := #[.val (.int p0), .val (.int p1), .val (.long p2), .second, .val (.int v2), .val (.int v4), .val (.int v6), .val (.int v8), .val (.long v12), .second, .val (.long v16), .second, .val (.long v20), .second, .val (.long v22), .second, .val (.long v24), .second, .val (.long v26), .second, .val (.long v28), .second, .val (.long v30), .second, .val (.long v32), .second, .val (.long v34), .second, .val (.long v36), .second, .val (.ref a38), .val (.ref a67), .val (.ref a236), .val (.ref a251), .val (.long (0 : Int64)), .second, .unset, .unset, .unset]) (by rw [← hL247]; rfl) k) ?_
        generalize hL266 : (#[.val (.int p0), .val (.int p1), .val (.long p2), .second, .val (.int v2), .val (.int v4), .val (.int v6), .val (.int v8), .val (.long v12), .second, .val (.long v16), .second, .val (.long v20), .second, .val (.long v22), .second, .val (.long v24), .second, .val (.long v26), .second, .val (.long v28), .second, .val (.long v30), .second, .val (.long v32), .second, .val (.long v34), .second, .val (.long v36), .second, .val (.ref a38), .val (.ref a67), .val (.ref a236), .val (.ref a251), .val (.long (0 : Int64)), .second, .unset, .unset, .unset] : Array Slot) = L266
        refine own_pre (T' := T264) (g' := (mkF m 410 L266 [(.long v12)])) (fun t k => XT.lload X264.here hx rfl (v := v12) (hb hby at_408) (by rw [← hL266]; rfl) k) ?_
        refine own_pre (T' := T264) (g' := (mkF m 412 L266 [(.ref a67), (.long v12)])) (fun t k => XS.aload X264.here hx rfl (v := (.ref a67)) (hb hby at_410) (by rw [← hL266]; rfl) rfl k) ?_
        refine own_pre (T' := T264) (g' := (mkF m 414 L266 [(.int v4), (.ref a67), (.long v12)])) (fun t k => XS.iload X264.here hx rfl (v := v4) (hb hby at_412) (by rw [← hL266]; rfl) k) ?_
        have F267 : own_Ary Z h264 a67 .long [(.long v22), (.long v24), (.long v26), (.long v28), (.long v30), (.long v32), (.long v34), (.long v36)] := ((((F249.ext E251).other W258 (Nat.ne_of_lt lt253)).other W261 (Nat.ne_of_lt lt253)).other W264 (Nat.ne_of_lt lt253))
        refine own_laload X264 hx hZ e264 F267 (hb hby at_414) (n := v4.toNatClampNeg) (v := (.long e0)) hq0.1 rfl he0 ?_
        show own_Go _ _ _ _ _ _ _ T264 (mkF m 415 L266 [(.long e0), (.long v12)])
        refine own_pre (T' := T264) (g' := (mkF m 416 L266 [(.long (v12 * e0))])) (fun t k => XT.lmul X264.here hx rfl (hb hby at_415) rfl k) ?_
        refine own_pre (T' := T264) (g' := (mkF m 418 L266 [(.long v16), (.long (v12 * e0))])) (fun t k => XT.lload X264.here hx rfl (v := v16) (hb hby at_416) (by rw [← hL266]; rfl) k) ?_
        refine own_pre (T' := T264) (g' := (mkF m 420 L266 [(.ref a67), (.long v16), (.long (v12 * e0))])) (fun t k => XS.aload X264.here hx rfl (v := (.ref a67)) (hb hby at_418) (by rw [← hL266]; rfl) rfl k) ?_
        refine own_pre (T' := T264) (g' := (mkF m 422 L266 [(.int v6), (.ref a67), (.long v16), (.long (v12 * e0))])) (fun t k => XS.iload X264.here hx rfl (v := v6) (hb hby at_420) (by rw [← hL266]; rfl) k) ?_
        refine own_laload X264 hx hZ e264 F267 (hb hby at_422) (n := v6.toNatClampNeg) (v := (.long e1)) hq1.1 rfl he1 ?_
        show own_Go _ _ _ _ _ _ _ T264 (mkF m 423 L266 [(.long e1), (.long v16), (.long (v12 * e0))])
        refine own_pre (T' := T264) (g' := (mkF m 424 L266 [(.long (v16 * e1)), (.long (v12 * e0))])) (fun t k => XT.lmul X264.here hx rfl (hb hby at_423) rfl k) ?_
        refine own_pre (T' := T264) (g' := (mkF m 425 L266 [(.long ((v12 * e0) + (v16 * e1)))])) (fun t k => XT.ladd X264.here hx rfl (hb hby at_424) rfl k) ?_
        refine own_pre (T' := T264) (g' := (mkF m 427 L266 [(.long v20), (.long ((v12 * e0) + (v16 * e1)))])) (fun t k => XT.lload X264.here hx rfl (v := v20) (hb hby at_425) (by rw [← hL266]; rfl) k) ?_
        refine own_pre (T' := T264) (g' := (mkF m 429 L266 [(.ref a67), (.long v20), (.long ((v12 * e0) + (v16 * e1)))])) (fun t k => XS.aload X264.here hx rfl (v := (.ref a67)) (hb hby at_427) (by rw [← hL266]; rfl) rfl k) ?_
        refine own_pre (T' := T264) (g' := (mkF m 431 L266 [(.int v8), (.ref a67), (.long v20), (.long ((v12 * e0) + (v16 * e1)))])) (fun t k => XS.iload X264.here hx rfl (v := v8) (hb hby at_429) (by rw [← hL266]; rfl) k) ?_
        refine own_laload X264 hx hZ e264 F267 (hb hby at_431) (n := v8.toNatClampNeg) (v := (.long e2)) hq2.1 rfl he2 ?_
        show own_Go _ _ _ _ _ _ _ T264 (mkF m 432 L266 [(.long e2), (.long v20), (.long ((v12 * e0) + (v16 * e1)))])
        refine own_pre (T' := T264) (g' := (mkF m 433 L266 [(.long (v20 * e2)), (.long ((v12 * e0) + (v16 * e1)))])) (fun t k => XT.lmul X264.here hx rfl (hb hby at_432) rfl k) ?_
        refine own_pre (T' := T264) (g' := (mkF m 434 L266 [(.long (((v12 * e0) + (v16 * e1)) + (v20 * e2)))])) (fun t k => XT.ladd X264.here hx rfl (hb hby at_433) rfl k) ?_
        generalize hv268 : ((v12 * e0) + (v16 * e1)) + (v20 * e2) = v268
        refine own_pre (T' := T264) (g' := (mkF m 436 #[.val (.int p0), .val (.int p1), .val (.long p2), .second, .val (.int v2), .val (.int v4), .val (.int v6), .val (.int v8), .val (.long v12), .second, .val (.long v16), .second, .val (.long v20), .second, .val (.long v22), .second, .val (.long v24), .second, .val (.long v26), .second, .val (.long v28), .second, .val (.long v30), .second, .val (.long v32), .second, .val (.long v34), .second, .val (.long v36), .second, .val (.ref a38), .val (.ref a67), .val (.ref a236), .val (.ref a251), .val (.long v268), .second, .unset, .unset, .unset] [])) (fun t k => XT.lstore X264.here hx rfl (hb hby at_434) rfl (l' := #[.val (.int p0), .val (.int p1), .val (.long p2), .second, .val (.int v2), .val (.int v4), .val (.int v6), .val (.int v8), .val (.long v12), .second, .val (.long v16), .second, .val (.long v20), .second, .val (.long v22), .second, .val (.long v24), .second, .val (.long v26), .second, .val (.long v28), .second, .val (.long v30), .second, .val (.long v32), .second, .val (.long v34), .second, .val (.long v36), .second, .val (.ref a38), .val (.ref a67), .val (.ref a236), .val (.ref a251), .val (.long v268), .second, .unset, .unset, .unset]) (by rw [← hL266]; rfl) k) ?_
        generalize hL269 : (#[.val (.int p0), .val (.int p1), .val (.long p2), .second, .val (.int v2), .val (.int v4), .val (.int v6), .val (.int v8), .val (.long v12), .second, .val (.long v16), .second, .val (.long v20), .second, .val (.long v22), .second, .val (.long v24), .second, .val (.long v26), .second, .val (.long v28), .second, .val (.long v30), .second, .val (.long v32), .second, .val (.long v34), .second, .val (.long v36), .second, .val (.ref a38), .val (.ref a67), .val (.ref a236), .val (.ref a251), .val (.long v268), .second, .unset, .unset, .unset] : Array Slot) = L269
        have F270 : own_Ary Z h264 a38 .double [(.double f41), (.double f44), (.double f47), (.double f50), (.double f53), (.double f56), (.double f59), (.double f62)] := ((((F248.ext E251).other W258 (Nat.ne_of_lt lt252)).other W261 (Nat.ne_of_lt lt252)).other W264 (Nat.ne_of_lt lt252))
        have F271 : own_Ary Z h264 a236 .int [(.int v4), (.int v6), (.int v8)] := ((((F246.ext E251).other W258 (Nat.ne_of_lt lt254)).other W261 (Nat.ne_of_lt lt254)).other W264 (Nat.ne_of_lt lt254))
        have F272 : n0 ≤ h264.size := (Nat.le_trans (Nat.le_trans (Nat.le_trans (Nat.le_trans F250 E251.1) (Nat.le_of_eq W258.size.symm)) (Nat.le_of_eq W261.size.symm)) (Nat.le_of_eq W264.size.symm))
        refine own_newobj X264 hx hZ hown (hw _ (List.mem_of_getElem? (i := 8) rfl)) (hw _ (List.mem_of_getElem? (i := 9) rfl)) (hw _ (List.mem_of_getElem? (i := 10) rfl)) e264 (hb hby at_436) (by decide) (by decide) ?_
        intro T273 h273 a273 g273 X273 e273 E273 A273 D273
        have lt274 : a38 < a273 := Nat.lt_of_lt_of_le F270.lt (Nat.le_of_eq g273.symm)
        have lt275 : a67 < a273 := Nat.lt_of_lt_of_le F267.lt (Nat.le_of_eq g273.symm)
        have lt276 : a236 < a273 := Nat.lt_of_lt_of_le F271.lt (Nat.le_of_eq g273.symm)
        have lt277 : a251 < a273 := Nat.lt_of_lt_of_le F265.lt (Nat.le_of_eq g273.symm)
        have nw278 : n0 ≤ a273 := Nat.le_trans F272 (Nat.le_of_eq g273.symm)
        have F279 : Fld Z h273 a273 "com/example/galicia/galicia/lime/SparseVector" "positions" "[I" .null := D273 (Or.inr (hw _ (List.mem_of_getElem? (i := 18) rfl))) (ty := (.array .int)) (by decide)
        have F280 : Fld Z h273 a273 "com/example/galicia/galicia/lime/SparseVector" "values" "[D" .null := D273 (Or.inr (hw _ (List.mem_of_getElem? (i := 20) rfl))) (ty := (.array .double)) (by decide)
        show own_Go _ _ _ _ _ _ _ T273 (mkF m 439 L269 [(.ref a273)])
        refine own_pre (T' := T273) (g' := (mkF m 440 L269 [(.ref a273), (.ref a273)])) (fun t k => XS.dup X273.here hx rfl (hb hby at_439) rfl rfl k) ?_
        refine own_pre (T' := T273) (g' := (mkF m 442 L269 [(.ref a236), (.ref a273), (.ref a273)])) (fun t k => XS.aload X273.here hx rfl (v := (.ref a236)) (hb hby at_440) (by rw [← hL269]; rfl) rfl k) ?_
        refine own_pre (T' := T273) (g' := (mkF m 444 L269 [(.ref a251), (.ref a236), (.ref a273), (.ref a273)])) (fun t k => XS.aload X273.here hx rfl (v := (.ref a251)) (hb hby at_442) (by rw [← hL269]; rfl) rfl k) ?_
        have F281 : n0 ≤ h273.size := (Nat.le_trans F272 E273.1)
        refine own_init (a := a273) (argsL := [(.ref a236), (.ref a251)]) (rest := [(.ref a273)]) X273 hx hZ hown (own_svinit l Z a0 hw [] a273 a236 a251 h273 n0 F281 A273 F279 F280 nw278) rfl (hw _ (List.mem_of_getElem? (i := 11) rfl)) (hw _ (List.mem_of_getElem? (i := 12) rfl)) (hw _ (List.mem_of_getElem? (i := 13) rfl)) (hw _ (List.mem_of_getElem? (i := 10) rfl)) (by decide) e273 (hb hby at_444) (by rw [hml, ← hL269]; rfl) rfl (lenOf own_pd1 rfl) (by decide) (W := 1) (Nat.le_of_eq rfl) (by decide) (by decide) (by decide) ?_
        intro v282 T282 lo282 X282 Q282
        obtain ⟨h282, e282⟩ : ∃ h, T282.heap = h := ⟨_, rfl⟩
        rw [e282] at Q282
        obtain ⟨rfl, N282, K282, G1282, G2282⟩ := Q282
        have N282' := Fr.app N264 N282
        show own_Go _ _ _ _ _ _ _ T282 (mkF m 447 L269 [(.ref a273)])
        refine own_pre (T' := T282) (g' := (mkF m 449 #[.val (.int p0), .val (.int p1), .val (.long p2), .second, .val (.int v2), .val (.int v4), .val (.int v6), .val (.int v8), .val (.long v12), .second, .val (.long v16), .second, .val (.long v20), .second, .val (.long v22), .second, .val (.long v24), .second, .val (.long v26), .second, .val (.long v28), .second, .val (.long v30), .second, .val (.long v32), .second, .val (.long v34), .second, .val (.long v36), .second, .val (.ref a38), .val (.ref a67), .val (.ref a236), .val (.ref a251), .val (.long v268), .second, .val (.ref a273), .unset, .unset] [])) (fun t k => XS.astore X282.here hx rfl (hb hby at_447) rfl rfl (l' := #[.val (.int p0), .val (.int p1), .val (.long p2), .second, .val (.int v2), .val (.int v4), .val (.int v6), .val (.int v8), .val (.long v12), .second, .val (.long v16), .second, .val (.long v20), .second, .val (.long v22), .second, .val (.long v24), .second, .val (.long v26), .second, .val (.long v28), .second, .val (.long v30), .second, .val (.long v32), .second, .val (.long v34), .second, .val (.long v36), .second, .val (.ref a38), .val (.ref a67), .val (.ref a236), .val (.ref a251), .val (.long v268), .second, .val (.ref a273), .unset, .unset]) (by rw [← hL269]; rfl) k) ?_
        generalize hL283 : (#[.val (.int p0), .val (.int p1), .val (.long p2), .second, .val (.int v2), .val (.int v4), .val (.int v6), .val (.int v8), .val (.long v12), .second, .val (.long v16), .second, .val (.long v20), .second, .val (.long v22), .second, .val (.long v24), .second, .val (.long v26), .second, .val (.long v28), .second, .val (.long v30), .second, .val (.long v32), .second, .val (.long v34), .second, .val (.long v36), .second, .val (.ref a38), .val (.ref a67), .val (.ref a236), .val (.ref a251), .val (.long v268), .second, .val (.ref a273), .unset, .unset] : Array Slot) = L283
        refine own_pre (T' := T282) (g' := (mkF m 451 L283 [(.ref a273)])) (fun t k => XS.aload X282.here hx rfl (v := (.ref a273)) (hb hby at_449) (by rw [← hL283]; rfl) rfl k) ?_
        refine own_pre (T' := T282) (g' := (mkF m 453 L283 [(.ref a38), (.ref a273)])) (fun t k => XS.aload X282.here hx rfl (v := (.ref a38)) (hb hby at_451) (by rw [← hL283]; rfl) rfl k) ?_
        have F284 : n0 ≤ h282.size := (Nat.le_trans F281 K282.1)
        have F285 : own_Ary Z h282 a236 .int [(.int v4), (.int v6), (.int v8)] := ((F271.ext E273).keep K282 (ninS (Nat.ne_of_lt lt276) nin0))
        have F286 : own_Ary Z h282 a251 .double [(.double f257), (.double f260), (.double f263)] := ((F265.ext E273).keep K282 (ninS (Nat.ne_of_lt lt277) nin0))
        have F287 : own_Ary Z h282 a38 .double [(.double f41), (.double f44), (.double f47), (.double f50), (.double f53), (.double f56), (.double f59), (.double f62)] := ((F270.ext E273).keep K282 (ninS (Nat.ne_of_lt lt274) nin0))
        have F288 : Exa Z h282 a273 "com/example/galicia/galicia/lime/SparseVector" := (A273.keep K282)
        refine own_callv (a := a273) (argsL := [(.ref a38)]) (rest := []) X282 hx hZ hown (own_dot3 l Z a0 hw [] a273 a236 a251 a38 _ v4 f257 y0 v12.toInt e0.toInt v6 f260 y1 v16.toInt e1.toInt v8 f263 y2 v20.toInt e2.toInt h282 n0 F284 G1282 G2282 F285 F286 F287 hq0.1 hy0 Df257 DY0 hB0 hq1.1 hy1 Df260 DY1 hB1 hq2.1 hy2 Df263 DY2 hB2) F288 (hw _ (List.mem_of_getElem? (i := 21) rfl)) (hw _ (List.mem_of_getElem? (i := 22) rfl)) (hw _ (List.mem_of_getElem? (i := 24) rfl)) (hw _ (List.mem_of_getElem? (i := 23) rfl)) (hw _ (List.mem_of_getElem? (i := 25) rfl)) (hw _ (List.mem_of_getElem? (i := 10) rfl)) (by decide) e282 (hb hby at_453) (by rw [hml, ← hL283]; rfl) rfl (lenOf own_pd2 rfl) (by decide) (W := 0) (Nat.le_of_eq rfl) (by decide) (by decide) (by decide) ?_
        intro v289 T289 lo289 X289 Q289
        obtain ⟨h289, e289⟩ : ∃ h, T289.heap = h := ⟨_, rfl⟩
        rw [e289] at Q289
        obtain ⟨r289, rfl, DR289, N289, q289⟩ := Q289
        have N289' := Fr.app N282' N289
        have e289' : T289.heap = h282 := e289.trans q289
        show own_Go _ _ _ _ _ _ _ T289 (mkF m 456 L283 [(.double r289)])
        refine own_pre (T' := T289) (g' := (mkF m 458 #[.val (.int p0), .val (.int p1), .val (.long p2), .second, .val (.int v2), .val (.int v4), .val (.int v6), .val (.int v8), .val (.long v12), .second, .val (.long v16), .second, .val (.long v20), .second, .val (.long v22), .second, .val (.long v24), .second, .val (.long v26), .second, .val (.long v28), .second, .val (.long v30), .second, .val (.long v32), .second, .val (.long v34), .second, .val (.long v36), .second, .val (.ref a38), .val (.ref a67), .val (.ref a236), .val (.ref a251), .val (.long v268), .second, .val (.ref a273), .val (.double r289), .second] [])) (fun t k => XS.dstore X289.here hx rfl (hb hby at_456) rfl (l' := #[.val (.int p0), .val (.int p1), .val (.long p2), .second, .val (.int v2), .val (.int v4), .val (.int v6), .val (.int v8), .val (.long v12), .second, .val (.long v16), .second, .val (.long v20), .second, .val (.long v22), .second, .val (.long v24), .second, .val (.long v26), .second, .val (.long v28), .second, .val (.long v30), .second, .val (.long v32), .second, .val (.long v34), .second, .val (.long v36), .second, .val (.ref a38), .val (.ref a67), .val (.ref a236), .val (.ref a251), .val (.long v268), .second, .val (.ref a273), .val (.double r289), .second]) (by rw [← hL283]; rfl) k) ?_
        generalize hL290 : (#[.val (.int p0), .val (.int p1), .val (.long p2), .second, .val (.int v2), .val (.int v4), .val (.int v6), .val (.int v8), .val (.long v12), .second, .val (.long v16), .second, .val (.long v20), .second, .val (.long v22), .second, .val (.long v24), .second, .val (.long v26), .second, .val (.long v28), .second, .val (.long v30), .second, .val (.long v32), .second, .val (.long v34), .second, .val (.long v36), .second, .val (.ref a38), .val (.ref a67), .val (.ref a236), .val (.ref a251), .val (.long v268), .second, .val (.ref a273), .val (.double r289), .second] : Array Slot) = L290
        refine own_pre (T' := T289) (g' := (mkF m 460 L290 [(.double r289)])) (fun t k => XS.dload X289.here hx rfl (v := r289) (hb hby at_458) (by rw [← hL290]; rfl) k) ?_
        refine own_pre (T' := T289) (g' := (mkF m 462 L290 [(.long v268), (.double r289)])) (fun t k => XT.lload X289.here hx rfl (v := v268) (hb hby at_460) (by rw [← hL290]; rfl) k) ?_
        obtain ⟨f291, hf291⟩ : ∃ z, FP.l2d v268 = z := ⟨_, rfl⟩
        refine own_pre (T' := T289) (g' := (mkF m 463 L290 [(.double f291), (.double r289)])) (fun t k => XS.l2dS X289.here hx rfl (hb hby at_462) rfl hf291 k) ?_
        have hX : v268.toInt = (((0 + (v12.toInt * e0.toInt)) + (v16.toInt * e1.toInt)) + (v20.toInt * e2.toInt)) := own_exp3 hB0 hB1 hB2 hv268
        have Df291 : Jvm.FP.Core.DInt v268.toInt f291 := hf291 ▸ Jvm.FP.Core.l2d_int (by rw [hX]; omega)
        obtain ⟨k292, hk292⟩ : ∃ z, own_c (((0 + (v12.toInt * e0.toInt)) + (v16.toInt * e1.toInt)) + (v20.toInt * e2.toInt)) v268.toInt = z := ⟨_, rfl⟩
        refine own_pre (T' := T289) (g' := (mkF m 464 L290 [(.int k292)])) (fun t k => XS.dcmpS X289.here hx rfl (hb hby at_463) rfl ((own_dcmp DR289 Df291 _).trans hk292) k) ?_
        have hk0 : k292 = (0 : Int32) := by rw [← hk292, own_c_eq, hX]
        refine own_pre (T' := T289) (g' := (mkF m 467 L290 [])) (fun t k => XS.ifNo X289.here hx rfl (hb hby at_464) rfl ((if0 _ _).trans (teq hk0).2) k) ?_
        refine own_pre (T' := T289) (g' := (mkF m 468 L290 [(.int (1 : Int32))])) (fun t k => XS.iconst X289.here hx rfl (hb hby at_467) k) ?_
        refine own_pre (T' := T289) (g' := (mkF m 472 L290 [(.int (1 : Int32))])) (fun t k => XS.goto X289.here hx rfl (pc0 := 468) (pc' := 472) rfl (hb hby at_468) (by decide) (by decide) k) ?_
        exact own_retZ X289 hx hlk hret rfl (hb hby at_472) e289' ⟨rfl, N289'⟩ (by decide) (by decide)
set_option maxRecDepth 65536 in
set_option maxHeartbeats 40000000 in
theorem own_comes {Post : Tables → Env → Array Value → State → Outcome → State → Prop} (hpost : ∀ tb e args s v u, (limb_1_1.after args s (.returned v) u = true ∧ limb_1_2.after args s (.returned v) u = true ∧ True) → FrameEnd s (.returned v) u (Jvm.fieldLocs frame_1_writes args s ++ Jvm.arrayLocs frame_1_arrays args s ++ Jvm.staticLocs frame_1_statics s) 24 128 → Post tb e args s (.returned v) u) :
    ArmFor flags0 classFile x code maxLocals ret World_1 tables_1 room_1 Calls_1 rest_1 Pre_1 Post := by
  intro l hfl _ _ p e ha hc hk s m args below hf hA hF happ hP
  obtain ⟨hcalls, hrest, hpre⟩ := hP
  obtain ⟨-, -, -, hnamed, -, -, -, hat⟩ := (Spec.applies_iff hf).mp happ
  obtain ⟨hg, hn⟩ := and_e (Cond.before_iff.mp (show (Jvm.Cond.and given_1 narrow_1).before args s = true from hpre))
  obtain ⟨hcount, g0⟩ := and_e hg
  obtain ⟨k0, g1⟩ := and_e g0
  obtain ⟨k1, g2⟩ := and_e g1
  have k2 := g2
  obtain ⟨w0, w1, w2, rfl⟩ : ∃ w0 w1 w2, args = #[w0, w1, w2] := by
    have hs : args.size = 3 := by simpa [Cond.value, given_1] using hcount
    obtain ⟨L⟩ := args
    match L, hs with
    | [w0, w1, w2], _ => exact ⟨w0, w1, w2, rfl⟩
  have hw := fun d (hd : d ∈ tables_1) => atoms_spec (ws := Jvm.Cond.code x code maxLocals ret :: tables_1) hat d (List.mem_cons_of_mem _ hd)
  obtain ⟨i0, e0⟩ := is_v k0
  obtain rfl : w0 = (.int i0) := Option.some.inj e0
  obtain ⟨i1, e1⟩ := is_v k1
  obtain rfl : w1 = (.int i1) := Option.some.inj e1
  obtain ⟨i2, e2⟩ := isL_v k2
  obtain rfl : w2 = (.long i2) := Option.some.inj e2
  obtain ⟨n, o, h1, h2, h3, _, L, rfl, ⟨rfl, N⟩, hq⟩ := own_law l s _ hw tables_1 i0 i1 i2 s.heap s.heap.size (Nat.le_refl _)  p e ha hc hk s m _ below hf ((Spec.applies_iff_loose hf).mp happ).1 ⟨rfl, State.Warmed39.refl s, rfl⟩ trivial
  refine ⟨n, _, h1, h2, h3, hpost _ _ _ _ _ _ ⟨Cond.after_iff.mpr rfl, Cond.after_iff.mpr (eq_i res_at (Term.int_eval (1)) rfl), trivial⟩ ⟨hq.1, hq.2.1, (hq.2.2.sift fun y hy => Or.inr (N y hy)).mono (by decide) (by decide)⟩⟩
theorem main_1_1 : Claimed_1_1 := own_comes fun _ _ _ _ _ _ h hF => ⟨h.1, hF⟩
theorem main_1_2 : Claimed_1_2 := own_comes fun _ _ _ _ _ _ h hF => ⟨h.2.1, hF⟩
end Jvm.Pilot.@@N@@
namespace Jvm.Pilot.@@N@@
open Jvm Jvm.ClassFile Sem Op Lib Jvm.Free Jvm.Stand Jvm.Pilot.@@N@@.Jvm.D
/-! MADE BY PROGRAM (witnessworld.py) out of the Statement's table words and the real class files: 13 classes; the members and pool entries that the words name. The judged class is class 1, her method 1. -/
namespace start1
open Jvm.ClassFile
def u (s : String) : CpInfo := .utf8 (stringToUtf16 s)
/-- a pool by its gaps: so many unusable entries, then the entry; so many at the end -/
def gap : Nat → List CpInfo → List CpInfo
  | 0, r => r
  | n + 1, r => .unusable :: gap n r
def poolList (es : List (Nat × CpInfo)) (last : Nat) : List CpInfo := es.foldr (fun e r => gap e.1 (e.2 :: r)) (gap last [])
def pool (es : List (Nat × CpInfo)) (last : Nat) : Array CpInfo := ⟨poolList es last⟩
def fileOf (pool : Array CpInfo) (this : Nat) (attrs : Array Attribute := #[]) (ms : Array MethodInfo := #[]) (fl : Nat := 33) (sup : Nat := 0) (ifs : Array Nat := #[]) (fds : Array FieldInfo := #[]) : ClassFile where
  minorVersion := 0
  majorVersion := 65
  constantPool := pool
  accessFlags := fl
  thisClass := this
  superClass := sup
  interfaces := ifs
  fields := fds
  methods := ms
  attributes := attrs
def plain (name : String) (sup : Option ClassId) : Class where
  name := name
  kind := .ordinary
  loader := none
  accessFlags := 33
  super := sup
  interfaces := #[]
  cf := none
  fields := #[]
  methods := #[]
  instanceTypes := #[]
  staticTypes := #[]
  resolved := #[]
  callSites := []
  init := .initialized
  statics := none
  mirror := none

def pool0 : Array CpInfo := pool [(5, u "<init>"), (0, u "()V"), (1, .class_ 10), (1, u "java/lang/Object")] 113

def k0c0 : Code := { maxStack := 0, maxLocals := 1, code := object_method_1_code, exceptionTable := #[], attributes := #[] }
def k0m0 : Method := { name := "<init>", desc := "()V", sig := { parameters := [], returnType := none }, accessFlags := 1, code := some k0c0 }
/-- java/lang/Object -/
def k0 : Class := { plain "java/lang/Object" none with
  accessFlags := 33
  interfaces := #[]
  cf := some (fileOf pool0 8 #[] #[{ accessFlags := 1, nameIndex := 5, descriptorIndex := 6, attributes := #[] }] 33 0 #[] #[])
  fields := #[]
  methods := #[k0m0]
  instanceTypes := #[]
  staticTypes := #[]
  resolved := Array.replicate 124 none
  statics := none }

def pool1 : Array CpInfo := pool [(2, .class_ 4), (1, u "java/lang/Object"), (0, u "<init>"), (0, u "()V"), (0, .methodref 8 9), (0, .class_ 10), (0, .nameAndType 11 12), (0, u "com/example/galicia/galicia/lime/SparseVectorDot145PinLaw"), (0, u "nz"), (0, u "(I)J"), (0, .class_ 14), (0, u "com/example/galicia/galicia/lime/SparseVector"), (0, .methodref 13 16), (0, .nameAndType 5 17), (0, u "([I[D)V"), (0, .methodref 13 19), (0, .nameAndType 20 21), (0, u "dot"), (0, u "([D)D"), (0, .long 512), (3, u "law"), (0, u "(IIJ)Z")] 9

def k1m0 : Method := { name := "<init>", desc := "()V", sig := { parameters := [], returnType := none }, accessFlags := 1, code := none }
def k1c1 : Code := { maxStack := 6, maxLocals := 39, code := code, exceptionTable := #[], attributes := #[] }
def k1m1 : Method := { name := "law", desc := "(IIJ)Z", sig := { parameters := [.int, .int, .long], returnType := some .boolean }, accessFlags := 9, code := some k1c1 }
def k1c2 : Code := { maxStack := 2, maxLocals := 1, code := method_3_code, exceptionTable := #[], attributes := #[] }
def k1m2 : Method := { name := "nz", desc := "(I)J", sig := { parameters := [.int], returnType := some .long }, accessFlags := 10, code := some k1c2 }
/-- com/example/galicia/galicia/lime/SparseVectorDot145PinLaw -/
def k1 : Class := { plain "com/example/galicia/galicia/lime/SparseVectorDot145PinLaw" (some 0) with
  accessFlags := 49
  interfaces := #[]
  cf := some (fileOf pool1 8 #[] #[{ accessFlags := 1, nameIndex := 5, descriptorIndex := 6, attributes := #[] }, { accessFlags := 9, nameIndex := 26, descriptorIndex := 27, attributes := #[] }, { accessFlags := 10, nameIndex := 11, descriptorIndex := 12, attributes := #[] }] 49 2 #[] #[])
  fields := #[]
  methods := #[k1m0, k1m1, k1m2]
  instanceTypes := #[]
  staticTypes := #[]
  resolved := Array.replicate 37 none
  statics := none }

def pool2 : Array CpInfo := pool [(1, .methodref 2 3), (0, .class_ 4), (0, .nameAndType 5 6), (0, u "java/lang/Object"), (0, u "<init>"), (0, u "()V"), (0, .fieldref 8 9), (0, .class_ 10), (0, .nameAndType 11 12), (0, u "com/example/galicia/galicia/lime/SparseVector"), (0, u "positions"), (0, u "[I"), (0, .fieldref 8 14), (0, .nameAndType 15 16), (0, u "values"), (0, u "[D"), (12, u "([I[D)V"), (16, u "ROUNDING"), (0, u "D"), (13, u "dot"), (0, u "([D)D")] 8

def k2c0 : Code := { maxStack := 2, maxLocals := 3, code := prog_32_method_1_code, exceptionTable := #[], attributes := #[] }
def k2m0 : Method := { name := "<init>", desc := "([I[D)V", sig := { parameters := [(.array .int), (.array .double)], returnType := none }, accessFlags := 0, code := some k2c0 }
def k2c1 : Code := { maxStack := 7, maxLocals := 5, code := prog_32_method_6_code, exceptionTable := #[], attributes := #[] }
def k2m1 : Method := { name := "dot", desc := "([D)D", sig := { parameters := [(.array .double)], returnType := some .double }, accessFlags := 0, code := some k2c1 }
/-- com/example/galicia/galicia/lime/SparseVector -/
def k2 : Class := { plain "com/example/galicia/galicia/lime/SparseVector" (some 0) with
  accessFlags := 48
  interfaces := #[]
  cf := some (fileOf pool2 8 #[] #[{ accessFlags := 0, nameIndex := 5, descriptorIndex := 29, attributes := #[] }, { accessFlags := 0, nameIndex := 61, descriptorIndex := 62, attributes := #[] }] 48 2 #[] #[{ accessFlags := 24, nameIndex := 46, descriptorIndex := 47, attributes := #[] }, { accessFlags := 18, nameIndex := 11, descriptorIndex := 12, attributes := #[] }, { accessFlags := 18, nameIndex := 15, descriptorIndex := 16, attributes := #[] }])
  fields := #[{ name := "ROUNDING", type := .double, accessFlags := 24, slot := 0, constantValue := 0 }, { name := "positions", type := (.array .int), accessFlags := 18, slot := 0, constantValue := 0 }, { name := "values", type := (.array .double), accessFlags := 18, slot := 1, constantValue := 0 }]
  methods := #[k2m0, k2m1]
  instanceTypes := #[(.array .int), (.array .double)]
  staticTypes := #[.double]
  resolved := Array.replicate 71 none
  statics := none }

def pool3 : Array CpInfo := pool [(1, u "java/lang/Cloneable"), (0, .class_ 1), (0, u "java/lang/Object"), (0, .class_ 3)] 3

/-- java/lang/Cloneable -/
def k3 : Class := { plain "java/lang/Cloneable" (some 0) with
  accessFlags := 1537
  interfaces := #[]
  cf := some (fileOf pool3 2 #[] #[] 1537 4 #[] #[])
  fields := #[]
  methods := #[]
  instanceTypes := #[]
  staticTypes := #[]
  resolved := Array.replicate 8 none
  statics := none }

def pool4 : Array CpInfo := pool [(1, u "java/io/Serializable"), (0, .class_ 1), (0, u "java/lang/Object"), (0, .class_ 3)] 3

/-- java/io/Serializable -/
def k4 : Class := { plain "java/io/Serializable" (some 0) with
  accessFlags := 1537
  interfaces := #[]
  cf := some (fileOf pool4 2 #[] #[] 1537 4 #[] #[])
  fields := #[]
  methods := #[]
  instanceTypes := #[]
  staticTypes := #[]
  resolved := Array.replicate 8 none
  statics := none }

/-- the primitive byte -/
def k5 : Class := { plain "byte" none with kind := .primitive 'B', accessFlags := 0x411 }
/-- [B -/
def k6 : Class := { plain "[B" (some 0) with kind := .array 5 .byte, interfaces := #[3, 4], accessFlags := 1041 }

/-- the primitive double -/
def k7 : Class := { plain "double" none with kind := .primitive 'D', accessFlags := 0x411 }
/-- [D -/
def k8 : Class := { plain "[D" (some 0) with kind := .array 7 .double, interfaces := #[3, 4], accessFlags := 1041 }

/-- the primitive int -/
def k9 : Class := { plain "int" none with kind := .primitive 'I', accessFlags := 0x411 }
/-- [I -/
def k10 : Class := { plain "[I" (some 0) with kind := .array 9 .int, interfaces := #[3, 4], accessFlags := 1041 }

/-- the primitive long -/
def k11 : Class := { plain "long" none with kind := .primitive 'J', accessFlags := 0x411 }
/-- [J -/
def k12 : Class := { plain "[J" (some 0) with kind := .array 11 .long, interfaces := #[3, 4], accessFlags := 1041 }

def heap : Heap := #[]
def classes : Array Class := #[k0, k1, k2, k3, k4, k5, k6, k7, k8, k9, k10, k11, k12]
def interned : List (Array UInt16 × Addr) := []
def slotsUsed : Nat := 0
def theMethod : MethodId := ⟨1, 1⟩
def args0 : Array Value := #[.int 5, .int 7, .long 9]
def aboutOver (below : List Frame) : State where
  vm := { classes := classes, interned := interned.toArray }
  heap := heap
  slotsUsed := slotsUsed
  threads := #[{ frames := .invoking theMethod args0 :: below }]
def below0 : List Frame := [.native { method := ⟨0, 0⟩, args := #[] }]
def about1 : State := aboutOver below0
def p0 : Program := .bare "" "" ""
def e0 : Env := launch0.env 0 0 0
theorem w_frames : about1.frames = Frame.invoking theMethod args0 :: below0 := rfl
set_option maxRecDepth 65536 in
theorem w_args : argsFit about1.vm theMethod args0 = true := by decide +kernel
set_option maxRecDepth 65536 in
theorem w_heap : heapFits about1 = true := by decide +kernel
set_option maxRecDepth 65536 in
theorem w_runnable : about1.curStatus? = some .runnable := by decide +kernel
set_option maxRecDepth 65536 in
theorem w_alone : about1.alone = true := by decide +kernel
set_option maxRecDepth 65536 in
theorem w_named : about1.methodNamed? x = some theMethod := by decide +kernel
set_option maxRecDepth 65536 in
theorem w_hears : about1.hears theMethod below0 = true := by decide +kernel
set_option maxRecDepth 65536 in
theorem w_ripe : about1.ripe theMethod args0 below0 = true := by decide +kernel
theorem w_running : about1.status = .running := rfl
set_option maxRecDepth 65536 in
theorem w_room : about1.hasRoom e0.platform room_1 = true :=
  launch0.hasRoom_least _ room_1 (by decide +kernel) (by decide +kernel) (by decide +kernel) (by decide +kernel) (by decide +kernel) (by decide +kernel)
theorem allAtoms_all (ts : List Jvm.Cond) (a : Array Jvm.Value) (st : Jvm.State) : (allAtoms ts).before a st = ts.all (fun c => c.before a st) := by
  induction ts with
  | nil => rfl
  | cons c t ih =>
    show (Jvm.Cond.and c (allAtoms t)).before a st = _
    rw [Jvm.Cond.before_and, ih, List.all_cons]
def words1 : List Jvm.Cond := Jvm.Cond.code x code maxLocals ret :: tables_1
/-- a 'code' word, met by the world's own term for the bytes: nothing is compared byte by byte -/
theorem code_word {y : MethodName} {bytes : ByteArray} {mx : Nat} {rt : Option FieldType} {a : Array Value} {s : State} {m : MethodId} {meth : Method} {c : Code} (h1 : s.methodNamed? y = some m) (h2 : s.vm.method? m = some meth) (h3 : meth.code = some c) (h4 : c.code = bytes)
    (h5 : (c.maxLocals == mx && c.exceptionTable.isEmpty && decide (c.maxStack ≤ mostOperands) && decide (meth.sig.returnType = rt) && !meth.locks && decide (parseMethodDescriptor y.desc = some meth.sig)) = true) : (Jvm.Cond.code y bytes mx rt).before a s = true := by
  simp only [Bool.and_eq_true, beq_iff_eq, Bool.not_eq_true', decide_eq_true_eq] at h5
  obtain ⟨⟨⟨⟨⟨g1, g2⟩, g3⟩, g4⟩, g5⟩, g6⟩ := h5
  simp [Cond.before, Cond.holds, Cond.value, h1, h2, h3, h4, g1, g2, g3, g4, g5, g6]
def isCode : Jvm.Cond → Bool
  | .code _ _ _ _ => true
  | _ => false
theorem all_split {L : List Jvm.Cond} {P : Jvm.Cond → Bool} (h1 : L.all (fun c => isCode c || P c) = true) (h2 : ∀ c ∈ L.filter isCode, P c = true) : L.all P = true := by
  refine List.all_eq_true.mpr fun c hc => ?_
  have h := List.all_eq_true.mp h1 c hc
  rcases Bool.eq_false_or_eq_true (isCode c) with hi | hi
  · exact h2 c (List.mem_filter.mpr ⟨hc, hi⟩)
  · simpa [hi] using h
set_option maxRecDepth 65536 in
theorem w_c0 : (Jvm.Cond.code x code maxLocals ret).before args0 about1 = true := code_word (m := ⟨1, 1⟩) (meth := k1m1) (c := k1c1) (by decide +kernel) rfl rfl rfl (by decide +kernel)
set_option maxRecDepth 65536 in
theorem w_c1 : (Jvm.Cond.code ({ cls := "com/example/galicia/galicia/lime/SparseVectorDot145PinLaw", name := "nz", desc := "(I)J" } : Jvm.MethodName) method_3_code (1 : Nat) (Option.some Jvm.ClassFile.FieldType.long)).before args0 about1 = true := code_word (m := ⟨1, 2⟩) (meth := k1m2) (c := k1c2) (by decide +kernel) rfl rfl rfl (by decide +kernel)
set_option maxRecDepth 65536 in
theorem w_c2 : (Jvm.Cond.code ({ cls := "com/example/galicia/galicia/lime/SparseVector", name := "<init>", desc := "([I[D)V" } : Jvm.MethodName) prog_32_method_1_code (3 : Nat) (Option.none : Option Jvm.ClassFile.FieldType)).before args0 about1 = true := code_word (m := ⟨2, 0⟩) (meth := k2m0) (c := k2c0) (by decide +kernel) rfl rfl rfl (by decide +kernel)
set_option maxRecDepth 65536 in
theorem w_c3 : (Jvm.Cond.code ({ cls := "java/lang/Object", name := "<init>", desc := "()V" } : Jvm.MethodName) object_method_1_code (1 : Nat) (Option.none : Option Jvm.ClassFile.FieldType)).before args0 about1 = true := code_word (m := ⟨0, 0⟩) (meth := k0m0) (c := k0c0) (by decide +kernel) rfl rfl rfl (by decide +kernel)
set_option maxRecDepth 65536 in
theorem w_c4 : (Jvm.Cond.code ({ cls := "com/example/galicia/galicia/lime/SparseVector", name := "dot", desc := "([D)D" } : Jvm.MethodName) prog_32_method_6_code (5 : Nat) (Option.some Jvm.ClassFile.FieldType.double)).before args0 about1 = true := code_word (m := ⟨2, 1⟩) (meth := k2m1) (c := k2c1) (by decide +kernel) rfl rfl rfl (by decide +kernel)
def codes1 : List Jvm.Cond := [Jvm.Cond.code x code maxLocals ret, Jvm.Cond.code ({ cls := "com/example/galicia/galicia/lime/SparseVectorDot145PinLaw", name := "nz", desc := "(I)J" } : Jvm.MethodName) method_3_code (1 : Nat) (Option.some Jvm.ClassFile.FieldType.long), Jvm.Cond.code ({ cls := "com/example/galicia/galicia/lime/SparseVector", name := "<init>", desc := "([I[D)V" } : Jvm.MethodName) prog_32_method_1_code (3 : Nat) (Option.none : Option Jvm.ClassFile.FieldType), Jvm.Cond.code ({ cls := "java/lang/Object", name := "<init>", desc := "()V" } : Jvm.MethodName) object_method_1_code (1 : Nat) (Option.none : Option Jvm.ClassFile.FieldType), Jvm.Cond.code ({ cls := "com/example/galicia/galicia/lime/SparseVector", name := "dot", desc := "([D)D" } : Jvm.MethodName) prog_32_method_6_code (5 : Nat) (Option.some Jvm.ClassFile.FieldType.double)]
set_option maxRecDepth 65536 in
theorem codes_eq : words1.filter isCode = codes1 := rfl
theorem w_codes : ∀ c ∈ words1.filter isCode, c.before args0 about1 = true := by
  rw [codes_eq]
  intro c hc
  simp only [codes1, List.mem_cons, List.not_mem_nil, or_false] at hc
  rcases hc with rfl | rfl | rfl | rfl | rfl
  · exact w_c0
  · exact w_c1
  · exact w_c2
  · exact w_c3
  · exact w_c4
set_option maxRecDepth 65536 in
theorem w_t1 : (words1.take 24).all (fun c => isCode c || c.before args0 about1) = true := by decide +kernel
set_option maxRecDepth 65536 in
theorem w_t2 : (words1.drop 24).all (fun c => isCode c || c.before args0 about1) = true := by decide +kernel
theorem w_tables : (allAtoms (Jvm.Cond.code x code maxLocals ret :: tables_1)).before args0 about1 = true := by
  rw [allAtoms_all]
  show words1.all (fun c => c.before args0 about1) = true
  refine all_split ?_ w_codes
  rw [← List.take_append_drop 24 words1, List.all_append, w_t1, w_t2]
  rfl
set_option maxRecDepth 65536 in
theorem w_case : (Jvm.Cond.and given_1 narrow_1).before args0 about1 = true := by decide +kernel
theorem w_applies : (headSpec (Jvm.Cond.code x code maxLocals ret :: tables_1) room_1).applies x e0.platform about1 = true :=
  (Spec.applies_iff w_frames).mpr ⟨w_running, w_runnable, w_alone, w_named, w_hears, w_ripe, w_room, w_tables⟩
theorem atStart : AtStart classFile x code maxLocals ret World_1 tables_1 room_1 Calls_1 rest_1 Pre_1 launch0 p0 e0 about1 theMethod args0 below0 :=
  ⟨lists_1, trivial, launch0.admits_env _ _ _, launch0.least_env, fairChoices_fair.cas, fairChoices_fair.clock, w_frames, w_args, w_heap, w_applies, trivial, trivial, w_case⟩
end start1
theorem witness_1 : WitnessClaimed_1 := ⟨start1.p0, start1.e0, start1.about1, start1.theMethod, start1.args0, start1.below0, start1.atStart⟩
end Jvm.Pilot.@@N@@
