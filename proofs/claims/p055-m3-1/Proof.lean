import JvmDerived
import JvmDerived.Pilot.@@N@@Statement
import JvmDerived.Pilot.@@N@@Code
set_option linter.unusedVariables false
set_option linter.unusedSimpArgs false
namespace Jvm.RoadKit
open Sem ClassFile Op Lib Jvm.Stand Jvm.Free Jvm.LawKit
/-- what is left of a walk: from this frame the method returns, and what it leaves is as Q says -/
def own_Go (p : Program) (e : Env) (below : List Frame) (s : State) (Q : Option Value → Heap → List Loc → Prop) (kc ks : Nat) (T : State) (g : JFrame) : Prop :=
  ∃ s₂ o, Steps p.tables e below (T.setTop g) s₂ ∧ s₂.status = .running ∧ Ended s₂ below o ∧ ∃ v L, o = .returned v ∧ Q v s₂.heap L ∧ FrameEnd s o s₂ L kc ks
section Own
variable {p : Program} {l : Launch} {e : Env} {R : Room} {s : State} {m : MethodId} {args : Array Value} {below : List Frame} {meth : Method} {c : Code} {T T' : State} {locs : List Loc} {cells slots : Nat} {Z : State} {h h' h0 : Heap} {Q : Option Value → Heap → List Loc → Prop} {kc ks : Nat} {g g' : JFrame} {a0 : Array Value} {pc : Nat} {Ls : Array Slot} {rest : List Value} {a b : Addr} {n0 : Nat} {ty : FieldType} {vs : List Value} {C : String} {sl : Nat} {v : Value} {ws : List Addr}
theorem own_pre (st : ∀ t, Steps p.tables e below (T'.setTop g') t → Steps p.tables e below (T.setTop g) t) (k : own_Go p e below s Q kc ks T' g') : own_Go p e below s Q kc ks T g := by
  obtain ⟨s₂, o, h1, r⟩ := k
  exact ⟨s₂, o, st _ h1, r⟩
theorem own_tr (st : Steps p.tables e below (T.setTop g) (T'.setTop g')) (k : own_Go p e below s Q kc ks T' g') : own_Go p e below s Q kc ks T g := by
  obtain ⟨s₂, o, h1, r⟩ := k
  exact ⟨s₂, o, st.trans h1, r⟩
theorem own_cast (q : g = g') (k : own_Go p e below s Q kc ks T g') : own_Go p e below s Q kc ks T g := q ▸ k
theorem own_ret (X : Stand p l e R s m args below meth c T locs cells slots) (hlk : meth.locks = false) {v : Option Value} (hv : meth.sig.returnType = none → v = none) (eT : T.heap = h)
    (st : ∀ fs, (∀ (f : JFrame) (acts : List Action), f.method = m → f.locked = none → f.entered = [] → (doReturn e (T.setTop f) acts v).1 = T.setFrames fs) → Steps p.tables e below (T.setTop g) (T.setFrames fs))
    (hq : Q v h locs) (hc : cells ≤ kc) (hs : slots ≤ ks) : own_Go p e below s Q kc ks T g := by
  obtain ⟨fs, hr, hrun, hended, hW, hsame⟩ := X.leave (v := v) hv hlk
  exact ⟨_, _, st fs hr, hrun, hended, _, _, rfl, (by show Q v T.heap _; rw [eT]; exact hq), ⟨_, rfl⟩, hW, hsame.mono hc hs⟩
theorem own_ret0 (X : Stand p l e R s m args below meth c T locs cells slots) (hx : p.tables.exec = Jvm.exec) (hlk : meth.locks = false) (hret : meth.sig.returnType = none) (hd : decode c.code pc = .ok (.return_, 1)) (eT : T.heap = h) (hq : Q none h locs) (hc : cells ≤ kc) (hs : slots ≤ ks) : own_Go p e below s Q kc ks T (mkF m pc Ls []) :=
  own_ret X hlk (fun _ => rfl) eT (fun _ hr => X.returnOut hx hret hd hr) hq hc hs
theorem own_ret1 (X : Stand p l e R s m args below meth c T locs cells slots) (hx : p.tables.exec = Jvm.exec) (hlk : meth.locks = false) {w : Value} {t : FieldType} {i : Instr} (hret : meth.sig.returnType = some t) (hn : narrow t w = w)
    (hi : (i = .ireturn ∧ (t = .int ∨ t = .boolean ∨ t = .byte ∨ t = .char ∨ t = .short) ∧ ∃ z, w = .int z) ∨ (i = .lreturn ∧ t = .long ∧ ∃ z, w = .long z) ∨ (i = .dreturn ∧ t = .double ∧ ∃ z, w = .double z) ∨ (i = .freturn ∧ t = .float ∧ ∃ z, w = .float z) ∨ (i = .areturn ∧ t.isReference = true ∧ w.isRef = true))
    (hd : decode c.code pc = .ok (i, 1)) (eT : T.heap = h) (hq : Q (some w) h locs) (hc : cells ≤ kc) (hs : slots ≤ ks) : own_Go p e below s Q kc ks T (mkF m pc Ls (w :: rest)) :=
  own_ret X hlk (fun q => by rw [hret] at q; cases q) eT (fun _ hr => retOut X hx hret hn hi hd hr) hq hc hs
theorem own_retI (X : Stand p l e R s m args below meth c T locs cells slots) (hx : p.tables.exec = Jvm.exec) (hlk : meth.locks = false) {z : Int32} (hret : meth.sig.returnType = some .int) (hd : decode c.code pc = .ok (.ireturn, 1)) (eT : T.heap = h) (hq : Q (some (.int z)) h locs) (hc : cells ≤ kc) (hs : slots ≤ ks) : own_Go p e below s Q kc ks T (mkF m pc Ls (.int z :: rest)) :=
  own_ret1 X hx hlk hret rfl (Or.inl ⟨rfl, Or.inl rfl, _, rfl⟩) hd eT hq hc hs
theorem own_retZ (X : Stand p l e R s m args below meth c T locs cells slots) (hx : p.tables.exec = Jvm.exec) (hlk : meth.locks = false) {z : Int32} (hret : meth.sig.returnType = some .boolean) (hn : narrow .boolean (.int z) = .int z) (hd : decode c.code pc = .ok (.ireturn, 1)) (eT : T.heap = h) (hq : Q (some (.int z)) h locs) (hc : cells ≤ kc) (hs : slots ≤ ks) : own_Go p e below s Q kc ks T (mkF m pc Ls (.int z :: rest)) :=
  own_ret1 X hx hlk hret hn (Or.inl ⟨rfl, Or.inr (Or.inl rfl), _, rfl⟩) hd eT hq hc hs
theorem own_retL (X : Stand p l e R s m args below meth c T locs cells slots) (hx : p.tables.exec = Jvm.exec) (hlk : meth.locks = false) {z : Int64} (hret : meth.sig.returnType = some .long) (hd : decode c.code pc = .ok (.lreturn, 1)) (eT : T.heap = h) (hq : Q (some (.long z)) h locs) (hc : cells ≤ kc) (hs : slots ≤ ks) : own_Go p e below s Q kc ks T (mkF m pc Ls (.long z :: rest)) :=
  own_ret1 X hx hlk hret rfl (Or.inr (Or.inl ⟨rfl, rfl, _, rfl⟩)) hd eT hq hc hs
theorem own_retD (X : Stand p l e R s m args below meth c T locs cells slots) (hx : p.tables.exec = Jvm.exec) (hlk : meth.locks = false) {z : UInt64} (hret : meth.sig.returnType = some .double) (hd : decode c.code pc = .ok (.dreturn, 1)) (eT : T.heap = h) (hq : Q (some (.double z)) h locs) (hc : cells ≤ kc) (hs : slots ≤ ks) : own_Go p e below s Q kc ks T (mkF m pc Ls (.double z :: rest)) :=
  own_ret1 X hx hlk hret rfl (Or.inr (Or.inr (Or.inl ⟨rfl, rfl, _, rfl⟩))) hd eT hq hc hs
theorem own_retA (X : Stand p l e R s m args below meth c T locs cells slots) (hx : p.tables.exec = Jvm.exec) (hlk : meth.locks = false) {w : Value} {t : FieldType} (hret : meth.sig.returnType = some t) (ht : t.isReference = true) (hw : w.isRef = true) (hn : narrow t w = w) (hd : decode c.code pc = .ok (.areturn, 1)) (eT : T.heap = h) (hq : Q (some w) h locs) (hc : cells ≤ kc) (hs : slots ≤ ks) : own_Go p e below s Q kc ks T (mkF m pc Ls (w :: rest)) :=
  own_ret1 X hx hlk hret hn (Or.inr (Or.inr (Or.inr (Or.inr ⟨rfl, ht, hw⟩)))) hd eT hq hc hs
/-- a contract out of a walk -/
theorem own_met {y : MethodName} {bytes : ByteArray} {maxL : Nat} {ret : Option FieldType} {wds : List Cond} {rm : Room} {as' : Array Value} (hpl : plainName y.cls = true)
    (body : ∀ p e s m below meth c s₁, p.tables.exec = Jvm.exec → c.code = bytes → c.maxLocals = maxL → Z.Warmed39 s.vm → s.vm.findClass y.cls = some m.cls → meth.name = y.name → meth.sig.returnType = ret → meth.locks = false → Stand p l e rm s m as' below meth c s₁ [] 0 0 → s₁.heap = h → own_Go p e below s Q rm.cells rm.slots s₁ (entryFrame m as' maxL)) :
    MetFree l y (head1 (Cond.code y bytes maxL ret :: wds) rm) (fun a U => a = as' ∧ Z.Warmed39 U.vm ∧ U.heap = h) (fun _ _ _ _ _ => True) (fun _ U o U' => ∃ v L, o = .returned v ∧ Q v U'.heap L ∧ FrameEnd U o U' L rm.cells rm.slots) := by
  refine MetFree.of_bodySF (plainFor_of_name hpl) hisR ?_
  intro p e s m args below meth c s₁ Bd hml0 hP hK
  obtain ⟨rfl, hZ, hh⟩ := hP
  exact body p e s m below meth c s₁ Bd.exec Bd.bytes hml0 hZ (findClass_of_methodNamed Bd.named) (name_of_methodNamed Bd.named Bd.method).1 Bd.returns Bd.notSynchronized (Stand.of_body Bd) (by rw [← hh, Bd.state]; rfl)
/-! arrays by their list -/
def own_Ary (Z : State) (h : Heap) (a : Addr) (ty : FieldType) (vs : List Value) : Prop := ∃ c : Cell, Arr Z h a c ty ∧ c.slots.toList = vs ∧ vs.length < 2 ^ 31
theorem own_Ary.lt (F : own_Ary Z h a ty vs) : a < h.size := by obtain ⟨c, A, -⟩ := F; exact A.lt
theorem own_Ary.ext (F : own_Ary Z h a ty vs) (E : Ext h h') : own_Ary Z h' a ty vs := by obtain ⟨c, A, r⟩ := F; exact ⟨c, A.ext E, r⟩
theorem own_Ary.other (F : own_Ary Z h b ty vs) (W : Wr h h' a sl v) (q : b ≠ a) : own_Ary Z h' b ty vs := by obtain ⟨c, A, r⟩ := F; exact ⟨c, A.other W q, r⟩
theorem own_Ary.keep (F : own_Ary Z h a ty vs) (K : Keep h h' ws) (q : a ∉ ws) : own_Ary Z h' a ty vs := by obtain ⟨c, A, r⟩ := F; exact ⟨c, ⟨K.2.1 a c A.1 q, A.2⟩, r⟩
theorem own_Ary.set (F : own_Ary Z h a ty vs) (W : Wr h h' a sl v) : own_Ary Z h' a ty (vs.set sl v) := by
  obtain ⟨c, A, r1, r2⟩ := F
  refine ⟨_, A.same W, ?_, by simpa using r2⟩
  simp [Cell.setSlot, r1]
theorem own_Ary.new {k : ClassId} {z : Int32} {n : Nat} (A : Arr Z h a (newA k ty z) ty) (q : z.toNatClampNeg = n) : own_Ary Z h a ty (List.replicate n (defaultValue ty)) := by
  refine ⟨_, A, ?_, ?_⟩
  · simp [newA, q]
  · have h1 := Int32.toInt_lt z
    simp only [Int32.toNatClampNeg] at q
    simp only [List.length_replicate]; omega
theorem own_inb {j : Int32} {n : Nat} {c : Cell} (h0 : 0 ≤ j) (hc : c.slots.toList = vs) (hj : j.toNatClampNeg = n) (hn : n < vs.length) : ¬ (j < 0 ∨ c.slots.size ≤ j.toNatClampNeg) := by
  subst hc hj
  rw [Array.length_toList] at hn
  intro q
  rcases q with q | q
  · exact absurd q (Int32.not_lt.mpr h0)
  · omega
theorem own_idx {n : Nat} {c : Cell} (hc : c.slots.toList = vs) (hv : vs[n]? = some v) : c.slots[n]? = some v := by
  subst hc; simpa using hv
theorem own_len (X : Stand p l e R s m args below meth c T locs cells slots) (hx : p.tables.exec = Jvm.exec) (hZ : Z.Warmed39 s.vm) (eT : T.heap = h) (F : own_Ary Z h a ty vs) (hd : decode c.code pc = .ok (.arraylength, 1)) {n : Int32} (hn : vs.length.toInt32 = n)
    (k : own_Go p e below s Q kc ks T (mkF m (pc + 1) Ls (.int n :: rest))) : own_Go p e below s Q kc ks T (mkF m pc Ls (.ref a :: rest)) := by
  obtain ⟨cl, A, r1, r2⟩ := F
  refine own_pre (fun t k => X.arraylength hx (cell := cl) (by rw [eT]; exact A.1) (State.isArrayOf_alike hZ.alike A.2.1) (g := mkF m pc Ls (.ref a :: rest)) rfl (rest := rest) rfl hd _ k) ?_
  have q : cl.slots.size = vs.length := by rw [← r1, Array.length_toList]
  rw [q, hn]; exact k
theorem own_iaload (X : Stand p l e R s m args below meth c T locs cells slots) (hx : p.tables.exec = Jvm.exec) (hZ : Z.Warmed39 s.vm) (eT : T.heap = h) (F : own_Ary Z h a .int vs) (hd : decode c.code pc = .ok (.iaload, 1)) {j : Int32} {n : Nat} (h0 : 0 ≤ j) (hj : j.toNatClampNeg = n) (hv : vs[n]? = some v)
    (k : own_Go p e below s Q kc ks T (mkF m (pc + 1) Ls (v :: rest))) : own_Go p e below s Q kc ks T (mkF m pc Ls (.int j :: .ref a :: rest)) := by
  obtain ⟨cl, A, r1, r2⟩ := F
  exact own_pre (fun t k => X.iaload hx (j := j) (v := v) (by rw [eT]; exact A.1) (State.isArrayOf_alike hZ.alike A.2.1) A.2.2 (own_inb h0 r1 hj (List.getElem?_eq_some_iff.mp hv).1) (own_idx r1 (hj ▸ hv)) (g := mkF m pc Ls (.int j :: .ref a :: rest)) rfl rfl hd _ k) k
theorem own_laload (X : Stand p l e R s m args below meth c T locs cells slots) (hx : p.tables.exec = Jvm.exec) (hZ : Z.Warmed39 s.vm) (eT : T.heap = h) (F : own_Ary Z h a .long vs) (hd : decode c.code pc = .ok (.laload, 1)) {j : Int32} {n : Nat} (h0 : 0 ≤ j) (hj : j.toNatClampNeg = n) (hv : vs[n]? = some v)
    (k : own_Go p e below s Q kc ks T (mkF m (pc + 1) Ls (v :: rest))) : own_Go p e below s Q kc ks T (mkF m pc Ls (.int j :: .ref a :: rest)) := by
  obtain ⟨cl, A, r1, r2⟩ := F
  exact own_pre (fun t k => X.laload hx (j := j) (v := v) (by rw [eT]; exact A.1) (State.isArrayOf_alike hZ.alike A.2.1) A.2.2 (own_inb h0 r1 hj (List.getElem?_eq_some_iff.mp hv).1) (own_idx r1 (hj ▸ hv)) (g := mkF m pc Ls (.int j :: .ref a :: rest)) rfl rfl hd _ k) k
theorem own_daload (X : Stand p l e R s m args below meth c T locs cells slots) (hx : p.tables.exec = Jvm.exec) (hZ : Z.Warmed39 s.vm) (eT : T.heap = h) (F : own_Ary Z h a .double vs) (hd : decode c.code pc = .ok (.daload, 1)) {j : Int32} {n : Nat} (h0 : 0 ≤ j) (hj : j.toNatClampNeg = n) (hv : vs[n]? = some v)
    (k : own_Go p e below s Q kc ks T (mkF m (pc + 1) Ls (v :: rest))) : own_Go p e below s Q kc ks T (mkF m pc Ls (.int j :: .ref a :: rest)) := by
  obtain ⟨cl, A, r1, r2⟩ := F
  exact own_pre (fun t k => X.daload hx (j := j) (v := v) (by rw [eT]; exact A.1) (State.isArrayOf_alike hZ.alike A.2.1) A.2.2 (own_inb h0 r1 hj (List.getElem?_eq_some_iff.mp hv).1) (own_idx r1 (hj ▸ hv)) (g := mkF m pc Ls (.int j :: .ref a :: rest)) rfl rfl hd _ k) k
theorem own_zaload (X : Stand p l e R s m args below meth c T locs cells slots) (hx : p.tables.exec = Jvm.exec) (hZ : Z.Warmed39 s.vm) (eT : T.heap = h) (F : own_Ary Z h a .boolean vs) (hd : decode c.code pc = .ok (.baload, 1)) {j : Int32} {n : Nat} (h0 : 0 ≤ j) (hj : j.toNatClampNeg = n) (hv : vs[n]? = some v)
    (k : own_Go p e below s Q kc ks T (mkF m (pc + 1) Ls (v :: rest))) : own_Go p e below s Q kc ks T (mkF m pc Ls (.int j :: .ref a :: rest)) := by
  obtain ⟨cl, A, r1, r2⟩ := F
  exact own_pre (fun t k => X.baloadBooleans hx (j := j) (v := v) (by rw [eT]; exact A.1) (State.isArrayOf_alike hZ.alike A.2.1) A.2.2 (own_inb h0 r1 hj (List.getElem?_eq_some_iff.mp hv).1) (own_idx r1 (hj ▸ hv)) (g := mkF m pc Ls (.int j :: .ref a :: rest)) rfl rfl hd _ k) k
theorem own_aaload (X : Stand p l e R s m args below meth c T locs cells slots) (hx : p.tables.exec = Jvm.exec) (hZ : Z.Warmed39 s.vm) (eT : T.heap = h) (F : own_Ary Z h a ty vs) (ht : ty.isReference = true) (hd : decode c.code pc = .ok (.aaload, 1)) {j : Int32} {n : Nat} (h0 : 0 ≤ j) (hj : j.toNatClampNeg = n) (hv : vs[n]? = some v)
    (k : own_Go p e below s Q kc ks T (mkF m (pc + 1) Ls (v :: rest))) : own_Go p e below s Q kc ks T (mkF m pc Ls (.int j :: .ref a :: rest)) := by
  obtain ⟨cl, A, r1, r2⟩ := F
  exact own_pre (fun t k => X.aaload hx (j := j) (v := v) (by rw [eT]; exact A.1) (State.isArrayOf_alike hZ.alike A.2.1) ht A.2.2 (own_inb h0 r1 hj (List.getElem?_eq_some_iff.mp hv).1) (own_idx r1 (hj ▸ hv)) (g := mkF m pc Ls (.int j :: .ref a :: rest)) rfl rfl hd _ k) k
theorem own_iastore (X : Stand p l e R s m args below meth c T locs cells slots) (hx : p.tables.exec = Jvm.exec) (hZ : Z.Warmed39 s.vm) (eT : T.heap = h) (N : Fr n0 locs) (q : n0 ≤ a) (F : own_Ary Z h a .int vs) (hd : decode c.code pc = .ok (.iastore, 1)) {j x : Int32} {n : Nat} (h0 : 0 ≤ j) (hj : j.toNatClampNeg = n) (hv : n < vs.length)
    (k : ∀ T' h' locs', Stand p l e R s m args below meth c T' locs' cells slots → T'.heap = h' → Fr n0 locs' → Wr h h' a n (.int x) → own_Go p e below s Q kc ks T' (mkF m (pc + 1) Ls rest)) : own_Go p e below s Q kc ks T (mkF m pc Ls (.int x :: .int j :: .ref a :: rest)) := by
  obtain ⟨cl, A, r1, r2⟩ := F
  obtain ⟨T', h', X', e', W, st⟩ := stI X hx hZ eT A (j := j) (x := x) (own_inb h0 r1 hj hv) (g := mkF m pc Ls (.int x :: .int j :: .ref a :: rest)) rfl rfl hd
  exact own_pre st (k T' h' _ X' e' (Fr.snoc X' N q) (hj ▸ W))
theorem own_lastore (X : Stand p l e R s m args below meth c T locs cells slots) (hx : p.tables.exec = Jvm.exec) (hZ : Z.Warmed39 s.vm) (eT : T.heap = h) (N : Fr n0 locs) (q : n0 ≤ a) (F : own_Ary Z h a .long vs) (hd : decode c.code pc = .ok (.lastore, 1)) {j : Int32} {x : Int64} {n : Nat} (h0 : 0 ≤ j) (hj : j.toNatClampNeg = n) (hv : n < vs.length)
    (k : ∀ T' h' locs', Stand p l e R s m args below meth c T' locs' cells slots → T'.heap = h' → Fr n0 locs' → Wr h h' a n (.long x) → own_Go p e below s Q kc ks T' (mkF m (pc + 1) Ls rest)) : own_Go p e below s Q kc ks T (mkF m pc Ls (.long x :: .int j :: .ref a :: rest)) := by
  obtain ⟨cl, A, r1, r2⟩ := F
  obtain ⟨T', h', X', e', W, st⟩ := stJ X hx hZ eT A (j := j) (x := x) (own_inb h0 r1 hj hv) (g := mkF m pc Ls (.long x :: .int j :: .ref a :: rest)) rfl rfl hd
  exact own_pre st (k T' h' _ X' e' (Fr.snoc X' N q) (hj ▸ W))
theorem own_dastore (X : Stand p l e R s m args below meth c T locs cells slots) (hx : p.tables.exec = Jvm.exec) (hZ : Z.Warmed39 s.vm) (eT : T.heap = h) (N : Fr n0 locs) (q : n0 ≤ a) (F : own_Ary Z h a .double vs) (hd : decode c.code pc = .ok (.dastore, 1)) {j : Int32} {x : UInt64} {n : Nat} (h0 : 0 ≤ j) (hj : j.toNatClampNeg = n) (hv : n < vs.length)
    (k : ∀ T' h' locs', Stand p l e R s m args below meth c T' locs' cells slots → T'.heap = h' → Fr n0 locs' → Wr h h' a n (.double x) → own_Go p e below s Q kc ks T' (mkF m (pc + 1) Ls rest)) : own_Go p e below s Q kc ks T (mkF m pc Ls (.double x :: .int j :: .ref a :: rest)) := by
  obtain ⟨cl, A, r1, r2⟩ := F
  obtain ⟨T', h', X', e', W, st⟩ := stD X hx hZ eT A (j := j) (x := x) (own_inb h0 r1 hj hv) (g := mkF m pc Ls (.double x :: .int j :: .ref a :: rest)) rfl rfl hd
  exact own_pre st (k T' h' _ X' e' (Fr.snoc X' N q) (hj ▸ W))
theorem own_newarr (X : Stand p l e R s m args below meth c T locs cells slots) (hx : p.tables.exec = Jvm.exec) (hZ : Z.Warmed39 s.vm) {aty : ArrayType} (w : (Cond.arrayClass (newarray.typeOf aty)).before a0 Z = true) (eT : T.heap = h) (hd : decode c.code pc = .ok (.newarray aty, 2)) {z : Int32} {n : Nat} (h0 : 0 ≤ z) (hz : z.toNatClampNeg = n) (hb : n * 8 ≤ 536870912) (hc : cells + 1 ≤ R.cells) (hl : slots + n ≤ R.slots) {ad : String} (had : "[" ++ (newarray.typeOf aty).toString = ad)
    (k : ∀ T' h' a, a = h.size → Stand p l e R s m args below meth c T' locs (cells + 1) (slots + n) → T'.heap = h' → Ext h h' → own_Ary Z h' a (newarray.typeOf aty) (List.replicate n (defaultValue (newarray.typeOf aty))) → Exa Z h' a ad → own_Go p e below s Q kc ks T' (mkF m (pc + 2) Ls (.ref a :: rest))) : own_Go p e below s Q kc ks T (mkF m pc Ls (.int z :: rest)) := by
  obtain ⟨T', h', cA, X', e', E, A, E2, st⟩ := newPE X hx hZ w eT (g := mkF m pc Ls (.int z :: rest)) rfl hd rfl (Int32.not_lt.mpr h0) (cap := n) (Nat.le_of_eq hz) hb hc hl had
  exact own_pre st (k T' h' _ rfl X' e' E (own_Ary.new A hz) E2)
theorem own_newobj (X : Stand p l e R s m args below meth c T locs cells slots) (hx : p.tables.exec = Jvm.exec) (hZ : Z.Warmed39 s.vm) {own : String} {index n : Nat} (hown : s.vm.findClass own = some m.cls) (w : (Cond.classLink own index C).before a0 Z = true) (wi : (Cond.instantiable C n).before a0 Z = true) (wz : (Cond.initialized C).before a0 Z = true) (eT : T.heap = h) (hd : decode c.code pc = .ok (.new index, 3)) (hc : cells + 1 ≤ R.cells) (hl : slots + n ≤ R.slots)
    (k : ∀ T' h' a, a = h.size → Stand p l e R s m args below meth c T' locs (cells + 1) (slots + n) → T'.heap = h' → Ext h h' → Exa Z h' a C → (∀ {O nm d : String} {ty : FieldType}, Laid Z a0 C O nm d → parseFieldDescriptor d = some ty → Fld Z h' a O nm d (defaultValue ty)) → own_Go p e below s Q kc ks T' (mkF m (pc + 3) Ls (.ref a :: rest))) : own_Go p e below s Q kc ks T (mkF m pc Ls rest) := by
  obtain ⟨T', h', X', e', E, A, D, -, st⟩ := newO X hx hZ hown w wi wz eT (g := mkF m pc Ls rest) rfl hd hc hl
  exact own_pre st (k T' h' _ rfl X' e' E A D)
theorem own_getf (X : Stand p l e R s m args below meth c T locs cells slots) (hx : p.tables.exec = Jvm.exec) (hZ : Z.Warmed39 s.vm) {own O n d : String} {index : Nat} (hown : s.vm.findClass own = some m.cls) (w : (Cond.fieldLink own index O n d).before a0 Z = true) (eT : T.heap = h) (F : Fld Z h a O n d v) (hd : decode c.code pc = .ok (.getfield index, 3))
    (k : ∀ T', Stand p l e R s m args below meth c T' locs cells slots → T'.heap = h → own_Go p e below s Q kc ks T' (mkF m (pc + 3) Ls (v :: rest))) : own_Go p e below s Q kc ks T (mkF m pc Ls (.ref a :: rest)) := by
  obtain ⟨T', X', e', st⟩ := getF X hx hZ hown (host := "") (Or.inl w) Via.refl eT F (g := mkF m pc Ls (.ref a :: rest)) rfl rfl hd
  exact own_pre st (k T' X' e')
theorem own_gets (X : Stand p l e R s m args below meth c T locs cells slots) (hx : p.tables.exec = Jvm.exec) (hZ : Z.Warmed39 s.vm) {own O n d : String} {index : Nat} (hown : s.vm.findClass own = some m.cls) (w : (Cond.fieldLink own index O n d).before a0 Z = true) (eT : T.heap = h) (F : Sta Z h O n d v) (hd : decode c.code pc = .ok (.getstatic index, 3))
    (k : ∀ T', Stand p l e R s m args below meth c T' locs cells slots → T'.heap = h → own_Go p e below s Q kc ks T' (mkF m (pc + 3) Ls (v :: rest))) : own_Go p e below s Q kc ks T (mkF m pc Ls rest) := by
  obtain ⟨T', X', e', st⟩ := getS X hx hZ (host := "") hown w Via.refl eT F (g := mkF m pc Ls rest) rfl hd
  exact own_pre st (k T' X' e')
theorem own_putf (X : Stand p l e R s m args below meth c T locs cells slots) (hx : p.tables.exec = Jvm.exec) (hZ : Z.Warmed39 s.vm) {own O n d : String} {index kk : Nat} (hown : s.vm.findClass own = some m.cls) (w : (Cond.fieldLink own index O n d).before a0 Z = true) (eT : T.heap = h) (N : Fr n0 locs) (q : n0 ≤ a) {old : Value} (F : Fld Z h a O n d old) (E : Exa Z h a C) (L : (Cond.lays C O n d).before a0 Z = true ∨ ((Cond.laysFinal C O n d).before a0 Z = true ∧ own = O ∧ meth.name = "<init>")) (wi : (Cond.instantiable C kk).before a0 Z = true) (hty : parseFieldDescriptor d = some ty) (hn : narrow ty v = v) (hf : fits ty v = true) (hd : decode c.code pc = .ok (.putfield index, 3))
    (k : ∀ T' h' locs', Stand p l e R s m args below meth c T' locs' cells slots → T'.heap = h' → Fr n0 locs' → Wr h h' a (slotOf Z O n d) v → own_Go p e below s Q kc ks T' (mkF m (pc + 3) Ls rest)) : own_Go p e below s Q kc ks T (mkF m pc Ls (v :: .ref a :: rest)) := by
  obtain ⟨T', h', X', e', W, st⟩ := putF X hx hZ hown (host := "") (Or.inl w) Via.refl eT F E L wi hty hn hf (g := mkF m pc Ls (v :: .ref a :: rest)) rfl rfl hd
  exact own_pre st (k T' h' _ X' e' (Fr.snoc X' N q) W)
theorem own_ldci (X : Stand p l e R s m args below meth c T locs cells slots) (hx : p.tables.exec = Jvm.exec) (hZ : Z.Warmed39 s.vm) {own : String} {index : Nat} {z : Int32} (hown : s.vm.findClass own = some m.cls) (w : (Cond.constant own index z).before a0 Z = true) (hd : decode c.code pc = .ok (.ldc index, 2))
    (k : own_Go p e below s Q kc ks T (mkF m (pc + 2) Ls (.int z :: rest))) : own_Go p e below s Q kc ks T (mkF m pc Ls rest) :=
  own_pre (X.ldcInt hx hown (mv hZ w) (g := mkF m pc Ls rest) rfl hd) k
theorem own_ldcl (X : Stand p l e R s m args below meth c T locs cells slots) (hx : p.tables.exec = Jvm.exec) (hZ : Z.Warmed39 s.vm) {own : String} {index : Nat} {z : Int64} (hown : s.vm.findClass own = some m.cls) (w : (Cond.constantLong own index z).before a0 Z = true) (hd : decode c.code pc = .ok (.ldc2_w index, 3))
    (k : own_Go p e below s Q kc ks T (mkF m (pc + 3) Ls (.long z :: rest))) : own_Go p e below s Q kc ks T (mkF m pc Ls rest) :=
  own_pre (X.ldc2Long hx hown (mv hZ w) (g := mkF m pc Ls rest) rfl hd) k
theorem own_ldcd (X : Stand p l e R s m args below meth c T locs cells slots) (hx : p.tables.exec = Jvm.exec) (hZ : Z.Warmed39 s.vm) {own : String} {index : Nat} {z : UInt64} (hown : s.vm.findClass own = some m.cls) (w : (Cond.constantDouble own index z).before a0 Z = true) (hd : decode c.code pc = .ok (.ldc2_w index, 3))
    (k : own_Go p e below s Q kc ks T (mkF m (pc + 3) Ls (.double z :: rest))) : own_Go p e below s Q kc ks T (mkF m pc Ls rest) :=
  own_pre (X.ldc2DoubleC hx hown (mv hZ w) (g := mkF m pc Ls rest) rfl hd) k
theorem own_init0 (X : Stand p l e R s m args below meth c T locs cells slots) (hx : p.tables.exec = Jvm.exec) (hZ : Z.Warmed39 s.vm) {own : String} {index : Nat} (hown : s.vm.findClass own = some m.cls) (w1 : (Cond.methodLink own index Lib.objectInit).before a0 Z = true) (w2 : (Cond.instanceMethod Lib.objectInit).before a0 Z = true) (w3 : (Cond.code Lib.objectInit ⟨#[0xb1]⟩ 1 none).before a0 Z = true) (eT : T.heap = h) (hd : decode c.code pc = .ok (.invokespecial index, 3)) (hsz : Ls.size = c.maxLocals) (hf : 1 ≤ R.frames) {W : Nat} (hW : (rest.map fun v => v.category).sum ≤ W) (hl : W + 12 ≤ R.locals)
    (k : ∀ T', Stand p l e R s m args below meth c T' locs cells slots → T'.heap = h → own_Go p e below s Q kc ks T' (mkF m (pc + 3) Ls rest)) : own_Go p e below s Q kc ks T (mkF m pc Ls (.ref a :: rest)) := by
  obtain ⟨T', X', e', st⟩ := initO X hx hZ hown w1 w2 w3 eT (g := mkF m pc Ls (.ref a :: rest)) rfl hsz rfl hd hf (W := W) (by show 2 * 0 + _ ≤ _; omega) hl
  exact own_pre st (k T' X' e')
theorem own_init (X : Stand p l e R s m args below meth c T locs cells slots) (hx : p.tables.exec = Jvm.exec) (hZ : Z.Warmed39 s.vm) {own : String} {index : Nat} (hown : s.vm.findClass own = some m.cls) {y : MethodName} {bytes : ByteArray} {maxL : Nat} {rm : Room} {argsL : List Value} {Qc : Option Value → Heap → List Loc → Prop}
    (hM : MetFree l y (head1 [Cond.code y bytes maxL none] rm) (fun a' U => a' = (.ref a :: argsL).toArray ∧ Z.Warmed39 U.vm ∧ U.heap = h) (fun _ _ _ _ _ => True) (fun _ U o U' => ∃ v L, o = .returned v ∧ Qc v U'.heap L ∧ FrameEnd U o U' L rm.cells rm.slots))
    (hy1 : y.name = "<init>") (w1 : (Cond.methodLink own index y).before a0 Z = true) (w2 : (Cond.instanceMethod y).before a0 Z = true) (w3 : (Cond.code y bytes maxL none).before a0 Z = true) (w4 : (Cond.initialized y.cls).before a0 Z = true) (hy : y.cls ≠ "java/lang/invoke/MethodHandle" ∧ y.cls ≠ "java/lang/invoke/VarHandle")
    (eT : T.heap = h) (hd : decode c.code pc = .ok (.invokespecial index, 3)) (hsz : Ls.size = c.maxLocals) {stk : List Value} (hstk : stk = argsL.reverse ++ .ref a :: rest) (hlen : ∀ sig, parseMethodDescriptor y.desc = some sig → argsL.length = sig.parameters.length) (hf : rm.frames + 1 ≤ R.frames) {W : Nat} (hW : (rest.map fun v => v.category).sum ≤ W) (hl : W + (maxL + 11) + rm.locals ≤ R.locals) (hc : cells + rm.cells ≤ R.cells) (hs : slots + rm.slots ≤ R.slots)
    (k : ∀ v T' L, Stand p l e R s m args below meth c T' (locs ++ L) (cells + rm.cells) (slots + rm.slots) → Qc v T'.heap L → own_Go p e below s Q kc ks T' (mkF m (pc + 3) Ls (v.toList ++ rest))) : own_Go p e below s Q kc ks T (mkF m pc Ls stk) := by
  obtain ⟨v, _, ⟨T', L', k', n'⟩, -, X', ⟨L, hQ, e1, e2, e3⟩, st⟩ := X.specialBack hx (y := y) hy1 hown (mvT hZ w1) (mvT hZ w2) (mvT hZ w3) hy (backOf (W := W) hM hZ w3 w4 hf hl) (g := mkF m pc Ls stk) rfl hsz (Steps.refl _) (a := a) (argsL := argsL) (rest := rest) hlen hstk (by show 2 * 0 + _ ≤ _; omega) hd (fun _ _ => ⟨rfl, eT, hc, hs⟩)
  dsimp only at X' e1 e2 e3 st hQ
  subst e1 e2 e3
  exact own_tr st (k v T' L X' hQ)
theorem own_callv (X : Stand p l e R s m args below meth c T locs cells slots) (hx : p.tables.exec = Jvm.exec) (hZ : Z.Warmed39 s.vm) {own : String} {index : Nat} (hown : s.vm.findClass own = some m.cls) {y : MethodName} {bytes : ByteArray} {maxL : Nat} {ret : Option FieldType} {rm : Room} {argsL : List Value} {Qc : Option Value → Heap → List Loc → Prop}
    (hM : MetFree l y (head1 [Cond.code y bytes maxL ret] rm) (fun a' U => a' = (.ref a :: argsL).toArray ∧ Z.Warmed39 U.vm ∧ U.heap = h) (fun _ _ _ _ _ => True) (fun _ U o U' => ∃ v L, o = .returned v ∧ Qc v U'.heap L ∧ FrameEnd U o U' L rm.cells rm.slots))
    (E : Exa Z h a C) (w1 : (Cond.methodLink own index y).before a0 Z = true) (w2 : (Cond.declares y).before a0 Z = true) (w5 : (Cond.selects C y y).before a0 Z = true) (w6 : (Cond.instanceMethod y).before a0 Z = true) (w3 : (Cond.code y bytes maxL ret).before a0 Z = true) (w4 : (Cond.initialized y.cls).before a0 Z = true) (hy : y.cls ≠ "java/lang/invoke/MethodHandle" ∧ y.cls ≠ "java/lang/invoke/VarHandle")
    (eT : T.heap = h) (hd : decode c.code pc = .ok (.invokevirtual index, 3)) (hsz : Ls.size = c.maxLocals) {stk : List Value} (hstk : stk = argsL.reverse ++ .ref a :: rest) (hlen : ∀ sig, parseMethodDescriptor y.desc = some sig → argsL.length = sig.parameters.length) (hf : rm.frames + 1 ≤ R.frames) {W : Nat} (hW : (rest.map fun v => v.category).sum ≤ W) (hl : W + (maxL + 11) + rm.locals ≤ R.locals) (hc : cells + rm.cells ≤ R.cells) (hs : slots + rm.slots ≤ R.slots)
    (k : ∀ v T' L, Stand p l e R s m args below meth c T' (locs ++ L) (cells + rm.cells) (slots + rm.slots) → Qc v T'.heap L → own_Go p e below s Q kc ks T' (mkF m (pc + 3) Ls (v.toList ++ rest))) : own_Go p e below s Q kc ks T (mkF m pc Ls stk) := by
  obtain ⟨cq, kq, q1, q2, q3⟩ := isOf hZ eT E
  obtain ⟨v, _, ⟨T', L', k', n'⟩, -, X', ⟨L, hQ, e1, e2, e3⟩, st⟩ := X.virtualBack hx (y := y) (z := y) hown (mvT hZ w1) (mvT hZ w2) (notFace_of_selects (args := #[]) (mvT hZ w5)) (mvT hZ w5) (mvT hZ w6) hy (backOf (W := W) hM hZ w3 w4 hf hl) q1 q3 (g := mkF m pc Ls stk) rfl hsz (Steps.refl _) (argsL := argsL) (rest := rest) hlen hstk (by show 2 * 0 + _ ≤ _; omega) hd (fun _ _ => ⟨rfl, eT, hc, hs⟩)
  dsimp only at X' e1 e2 e3 st hQ
  subst e1 e2 e3
  exact own_tr st (k v T' L X' hQ)
theorem own_calls (X : Stand p l e R s m args below meth c T locs cells slots) (hx : p.tables.exec = Jvm.exec) (hZ : Z.Warmed39 s.vm) {own : String} {index : Nat} (hown : s.vm.findClass own = some m.cls) {y : MethodName} {bytes : ByteArray} {maxL : Nat} {ret : Option FieldType} {rm : Room} {argsL : List Value} {Qc : Option Value → Heap → List Loc → Prop}
    (hM : MetFree l y (head1 [Cond.code y bytes maxL ret] rm) (fun a' U => a' = argsL.toArray ∧ Z.Warmed39 U.vm ∧ U.heap = h) (fun _ _ _ _ _ => True) (fun _ U o U' => ∃ v L, o = .returned v ∧ Qc v U'.heap L ∧ FrameEnd U o U' L rm.cells rm.slots))
    (w1 : (Cond.methodLink own index y).before a0 Z = true) (w2 : (Cond.static y).before a0 Z = true) (w3 : (Cond.code y bytes maxL ret).before a0 Z = true) (w4 : (Cond.initialized y.cls).before a0 Z = true) (hy : y.cls ≠ "java/lang/invoke/MethodHandle" ∧ y.cls ≠ "java/lang/invoke/VarHandle")
    (eT : T.heap = h) (hd : decode c.code pc = .ok (.invokestatic index, 3)) (hsz : Ls.size = c.maxLocals) {stk : List Value} (hstk : stk = argsL.reverse ++ rest) (hlen : ∀ sig, parseMethodDescriptor y.desc = some sig → argsL.length = sig.parameters.length) (hf : rm.frames + 1 ≤ R.frames) {W : Nat} (hW : (rest.map fun v => v.category).sum ≤ W) (hl : W + (maxL + 11) + rm.locals ≤ R.locals) (hc : cells + rm.cells ≤ R.cells) (hs : slots + rm.slots ≤ R.slots)
    (k : ∀ v T' L, Stand p l e R s m args below meth c T' (locs ++ L) (cells + rm.cells) (slots + rm.slots) → Qc v T'.heap L → own_Go p e below s Q kc ks T' (mkF m (pc + 3) Ls (v.toList ++ rest))) : own_Go p e below s Q kc ks T (mkF m pc Ls stk) := by
  obtain ⟨v, _, ⟨T', L', k', n'⟩, -, X', ⟨L, hQ, e1, e2, e3⟩, st⟩ := Jvm.LawKit.callS X hx (y := y) hown (mvT hZ w1) (mvT hZ w2) (mvT hZ w4) (mvT hZ w3) hy (backOf (W := W) hM hZ w3 w4 hf hl) (g := mkF m pc Ls stk) rfl hsz (argsL := argsL) (rest := rest) hlen hstk (by show 2 * 0 + _ ≤ _; omega) hd (fun _ _ => ⟨rfl, eT, hc, hs⟩)
  dsimp only at X' e1 e2 e3 st hQ
  subst e1 e2 e3
  exact own_pre st (k v T' L X' hQ)
theorem own_cl_lt (x y : Int64) : XT.cmpL x y < 0 ↔ x < y := by unfold XT.cmpL; split <;> (try split) <;> simp_all [Int64.lt_iff_toInt_lt, ← Int64.toInt_inj] <;> omega
theorem own_cl_gt (x y : Int64) : 0 < XT.cmpL x y ↔ y < x := by unfold XT.cmpL; split <;> (try split) <;> simp_all [Int64.lt_iff_toInt_lt, ← Int64.toInt_inj]
theorem own_cl_eq (x y : Int64) : XT.cmpL x y = 0 ↔ x = y := by unfold XT.cmpL; split <;> (try split) <;> simp_all [Int64.lt_iff_toInt_lt, ← Int64.toInt_inj] <;> omega
end Own
end Jvm.RoadKit
namespace Jvm.FP.Core
theorem own_cross {c d I J qp qm rp rm kp km : Nat} (h1 : c * 2 ^ qp = I * 2 ^ qm) (h2 : d * 2 ^ rp = J * 2 ^ rm) (e : kp + qm + rp = km + qp + rm) : c * J * 2 ^ kp = I * d * 2 ^ km := by
  have e' : 2 ^ kp * 2 ^ qm * 2 ^ rp = 2 ^ km * 2 ^ qp * 2 ^ rm := by rw [← Nat.pow_add, ← Nat.pow_add, ← Nat.pow_add, ← Nat.pow_add, e]
  have p1 := Nat.two_pow_pos qp
  have p2 := Nat.two_pow_pos rm
  generalize 2 ^ qp = a1 at *
  generalize 2 ^ qm = a2 at *
  generalize 2 ^ rp = a3 at *
  generalize 2 ^ rm = a4 at *
  generalize 2 ^ kp = a5 at *
  generalize 2 ^ km = a6 at *
  refine Nat.eq_of_mul_eq_mul_right (Nat.mul_pos p1 p2) ?_
  calc c * J * a5 * (a1 * a4) = (c * a1) * (J * a4) * a5 := by ac_rfl
    _ = (I * a2) * (d * a3) * a5 := by rw [h1, h2]
    _ = I * d * (a5 * a2 * a3) := by ac_rfl
    _ = I * d * (a6 * a1 * a4) := by rw [e']
    _ = I * d * a6 * (a1 * a4) := by ac_rfl
/-- a quotient of two whole doubles: the rounded ratio of the two -/
theorem own_ddiv_round {i j : Int} {a b : UInt64} (ha : DInt i a) (hb : DInt j b) (hj : 0 < j) : ∃ sg, val64 (ddiv a b) = roundRatio b64 sg i.natAbs j.natAbs 0 ∧ (i ≠ 0 → sg = decide (i < 0)) := by
  rw [val64_ddiv]
  unfold DInt at ha hb
  generalize val64 a = x at *
  generalize val64 b = y at *
  cases x with
  | nan => exact ha.elim
  | inf => exact ha.elim
  | fin s c q =>
  cases y with
  | nan => exact hb.elim
  | inf => exact hb.elim
  | fin t d r =>
    have h1 := whole_natAbs ha
    have h2 := whole_natAbs hb
    have hd : d ≠ 0 := by have := whole_zero hb; omega
    refine ⟨s != t, ?_, fun hi => ?_⟩
    · show (if d = 0 then (if c = 0 then Datum.nan else .inf (s != t)) else roundRatio b64 (s != t) c d (q - r)) = _
      rw [if_neg hd]
      exact roundRatio_congr (by omega) (by omega) (own_cross h1 h2 (by omega))
    · rw [whole_sign ha hi, whole_sign hb (by omega)]
      simp [show ¬ j < 0 by omega]
theorem own_div_le {sg : Bool} {A B : Nat} {V : UInt64} (hB : 0 < B) (hV : val64 V ≠ .nan) (h : A * one64 ≤ zmag b64 (val64 V) * B) : zmag b64 (roundRatio b64 sg A B 0) ≤ zmag b64 (val64 V) := by
  refine zmag_roundRatio_le good_b64 hB (val64_fits V) hV (e0 := b64.qmin) (Int.le_refl _) (by decide) ?_
  show A * 2 ^ (0 - b64.qmin).toNat ≤ _ * 2 ^ (b64.qmin - b64.qmin).toNat * B
  rw [Int.zero_sub, pow_qmin64, Int.sub_self]
  simpa using h
theorem own_div_ge {sg : Bool} {A B : Nat} {V : UInt64} (hB : 0 < B) (h : zmag b64 (val64 V) * B ≤ A * one64) : zmag b64 (val64 V) ≤ zmag b64 (roundRatio b64 sg A B 0) := by
  refine zmag_roundRatio_ge good_b64 hB (val64_fits V) (e0 := b64.qmin) (Int.le_refl _) (by decide) ?_
  show _ * 2 ^ (b64.qmin - b64.qmin).toNat * B ≤ A * 2 ^ (0 - b64.qmin).toNat
  rw [Int.zero_sub, pow_qmin64, Int.sub_self]
  simpa using h
theorem own_scale {A B x y u : Nat} (h : A * x ≤ y * B) : A * (x * u) ≤ (y * u) * B := by
  have h2 := Nat.mul_le_mul_right u h
  calc A * (x * u) = A * x * u := by ac_rfl
    _ ≤ y * B * u := h2
    _ = (y * u) * B := by ac_rfl
theorem own_scale' {A B x y u : Nat} (h : y * B ≤ A * x) : (y * u) * B ≤ A * (x * u) := by
  have h2 := Nat.mul_le_mul_right u h
  calc (y * u) * B = y * B * u := by ac_rfl
    _ ≤ A * x * u := h2
    _ = A * (x * u) := by ac_rfl
end Jvm.FP.Core
namespace Jvm.RoadKit
open Sem ClassFile Op Lib Jvm.Stand Jvm.Free Jvm.LawKit
theorem own_DInt_nn {i : Int} {a : UInt64} (h : FP.Core.DInt i a) : Jvm.Free.Fl.NoNaN64 a := Jvm.Free.Fl.val64_no.mpr (FP.Core.DInt_ne_nan h)
/-- the int that a comparison of two whole doubles pushes -/
def own_c (i j : Int) : Int32 := if i < j then -1 else if i = j then 0 else 1
theorem own_c_lt (i j : Int) : own_c i j < 0 ↔ i < j := by unfold own_c; split <;> (try split) <;> first | (simp; omega) | simp_all
theorem own_c_gt (i j : Int) : 0 < own_c i j ↔ j < i := by unfold own_c; split <;> (try split) <;> first | (simp; omega) | (simp_all; done) | (simp_all; omega)
theorem own_c_eq (i j : Int) : own_c i j = 0 ↔ i = j := by unfold own_c; split <;> (try split) <;> first | (simp; omega) | (simp_all; done) | (simp_all; omega)
theorem own_cmpv (i j : Int) (o : CmpOp) : cmpValue (some (compare i j)) o = own_c i j := by
  unfold own_c
  rw [FP.Core.compare_ite]
  split <;> (try split) <;> cases o <;> rfl
theorem own_dcmp {i j : Int} {a b : UInt64} (ha : FP.Core.DInt i a) (hb : FP.Core.DInt j b) (o : CmpOp) : cmpValue (FP.dcmp a b) o = own_c i j := by
  rw [show FP.dcmp a b = some (compare i j) from FP.Core.dcmp_int ha hb, own_cmpv]
theorem own_dcmpz {a b : UInt64} (ha : Jvm.Free.Fl.NoNaN64 a) (hb : Jvm.Free.Fl.NoNaN64 b) (o : CmpOp) : cmpValue (FP.dcmp a b) o = own_c (FP.Core.zval FP.Core.b64 (FP.Core.val64 a)) (FP.Core.zval FP.Core.b64 (FP.Core.val64 b)) := by
  rw [show FP.dcmp a b = some (compare _ _) from FP.Core.dcmp_zval (Jvm.Free.Fl.val64_no.mp ha) (Jvm.Free.Fl.val64_no.mp hb), own_cmpv]
end Jvm.RoadKit
namespace Jvm.Pilot.@@N@@
open Jvm Jvm.ClassFile Sem Op Lib Jvm.Free Jvm.Stand Jvm.LawKit Jvm.RoadKit Bundle Jvm.Pilot.@@N@@.Jvm.D
theorem own_DInt0 : FP.Core.DInt 0 0 := by
  show FP.Core.Whole 0 (FP.Core.val64 0)
  rw [FP.Core.val64_zero]
  simp [FP.Core.Whole, FP.Core.signed]
theorem own_n3 {s n : Int32} (hn : s &&& (3 : Int32) = n) : 0 ≤ n.toInt ∧ n.toInt ≤ 3 := by
  have a1 := c_mask s 3 2 (by decide) (by decide)
  rw [hn] at a1; omega
theorem own_four {n : Int32} (h : 0 ≤ n.toInt ∧ n.toInt ≤ 3) : n = 0 ∨ n = 1 ∨ n = 2 ∨ n = 3 := by
  simp only [← Int32.toInt_inj, Int32.reduceToInt]; omega
theorem own_pos (s q0 q1 : Int32) (h0 : XT.ushr s (2 : Int32) &&& (3 : Int32) = q0) (h1 : q0 + (1 : Int32) + (XT.ushr s (4 : Int32) &&& (1 : Int32)) = q1) :
    (0 ≤ q0 ∧ q0.toInt < 6) ∧ (0 ≤ q1 ∧ q1.toInt < 6) ∧ q0.toNatClampNeg ≠ q1.toNatClampNeg := by
  have a2 := c_mask (XT.ushr s 2) 3 2 (by decide) (by decide)
  have a3 := c_mask (XT.ushr s 4) 1 1 (by decide) (by decide)
  rw [h0] at a2
  have b1 := c_iadd q0 1
  have b2 := c_iadd (q0 + 1) (XT.ushr s (4 : Int32) &&& (1 : Int32))
  rw [h1] at b2
  have r1 := rng32 q1
  have r3 := rng32 (q0 + 1)
  have o1 : (1 : Int32).toInt = 1 := rfl
  have o0 : (0 : Int32).toInt = 0 := rfl
  rw [o1] at b1
  simp only [Int32.le_iff_toInt_le, o0, Int32.toNatClampNeg]
  omega
theorem own_sb (x : Int32) (v : Int64) (h : x.toInt16.toInt32.toInt64 = v) : -32768 ≤ v.toInt ∧ v.toInt ≤ 32768 := by
  subst h
  have := c_i2s x
  rw [c_i2l]
  omega
theorem own_abs {v : Int64} (h : -32768 ≤ v.toInt ∧ v.toInt ≤ 32768) : v.toInt.natAbs ≤ 2 ^ 53 := by omega
theorem own_abs50 {v : Int64} (h : -32768 ≤ v.toInt ∧ v.toInt ≤ 32768) : v.toInt.natAbs ≤ 2 ^ 50 := by omega
theorem own_lt6 {q : Int32} (h : 0 ≤ q ∧ q.toInt < 6) : q.toNatClampNeg < 6 := by
  have := h.2
  simp only [Int32.toNatClampNeg]; omega
theorem own_prod {v e : Int64} (hv : -32768 ≤ v.toInt ∧ v.toInt ≤ 32768) (he : -32768 ≤ e.toInt ∧ e.toInt ≤ 32768) : (v.toInt * e.toInt).natAbs ≤ 2 ^ 50 := by
  have := mc hv.1 hv.2 he.1 he.2
  omega
theorem own_lm {v e : Int64} (h : (v.toInt * e.toInt).natAbs ≤ 2 ^ 50) : (v * e).toInt = v.toInt * e.toInt := by
  have h1 := c_lmul v e
  have h2 := rng64 (v * e)
  generalize v.toInt * e.toInt = t at *
  omega
theorem own_la {v e : Int64} (h : (v.toInt + e.toInt).natAbs ≤ 2 ^ 55) : (v + e).toInt = v.toInt + e.toInt := by
  have h1 := c_ladd v e
  have h2 := rng64 (v + e)
  omega
theorem own_set1 {O : List Value} {P k : Nat} {r f y : UInt64} {a b t : Int} (hO : O[k]? = some (.double f)) (Df : FP.Core.DInt b f) (hP : O[P]? = some (.double y)) (Dr : FP.Core.DInt (a + t) r) (hab : k = P → a = b) : ∃ g, (O.set P (.double r))[k]? = some (.double g) ∧ FP.Core.DInt (b + if k = P then t else 0) g := by
  by_cases h : k = P
  · subst h
    exact ⟨r, List.getElem?_set_self (List.getElem?_eq_some_iff.mp hP).1, by rw [if_pos rfl, ← hab rfl]; exact Dr⟩
  · exact ⟨f, by rw [List.getElem?_set_ne (Ne.symm h)]; exact hO, by rw [if_neg h]; simpa using Df⟩
theorem own_ifa {n m i q : Int32} {t : Int} (h : n < m) : (if ¬ n < m ∧ i = q then t else 0) = 0 := if_neg (fun x => x.1 h)
theorem own_ifb {n m i q : Int32} {t : Int} {k : Nat} (h : ¬ n < m) (hi : i.toNatClampNeg = k) (h0 : 0 ≤ i) (hq : 0 ≤ q) : (if ¬ n < m ∧ i = q then t else 0) = (if k = q.toNatClampNeg then t else 0) := by
  have e : i = q ↔ k = q.toNatClampNeg := by
    rw [← hi, ← Int32.toInt_inj]
    simp only [Int32.le_iff_toInt_le, Int32.reduceToInt] at h0 hq
    simp only [Int32.toNatClampNeg]
    omega
  by_cases q1 : i = q
  · rw [if_pos ⟨h, q1⟩, if_pos (e.mp q1)]
  · rw [if_neg (fun x => q1 x.2), if_neg (fun x => q1 (e.mpr x))]
theorem own_x {x b c0 c1 d0 d1 : Int} (h0 : c0 = d0) (h1 : c1 = d1) (hx : x = b + d0 + d1) : x = b + c0 + c1 := by rw [hx, h0, h1]
theorem own_bnd {x b c0 c1 : Int} (hx : x = b + c0 + c1) (hb : b.natAbs ≤ 2 ^ 50) (h0 : c0.natAbs ≤ 2 ^ 50) (h1 : c1.natAbs ≤ 2 ^ 50) : x.natAbs ≤ 2 ^ 53 := by omega
theorem own_ifb0 {P : Prop} [Decidable P] {t c : Int} (h : (if P then t else 0) = c) (ht : t.natAbs ≤ 2 ^ 50) : c.natAbs ≤ 2 ^ 50 := by subst h; split <;> omega
theorem own_y0 {b : Int} : b = b + 0 + 0 := by omega
theorem own_y1 {z b p : Int} (h : z = b + p) : z = b + p + 0 := by omega
theorem own_y2 {z b p : Int} (h : z = b + p) : z = b + 0 + p := by omega
theorem own_y3 {x z b p q : Int} (hz : z = b + p) (h : x = z + q) : x = b + p + q := by omega
theorem own_ab2 {b p : Int} (hb : b.natAbs ≤ 2 ^ 50) (hp : p.natAbs ≤ 2 ^ 50) : (b + p).natAbs ≤ 2 ^ 55 := by omega
theorem own_ab3 {z b p q : Int} (hz : z = b + p) (hb : b.natAbs ≤ 2 ^ 50) (hp : p.natAbs ≤ 2 ^ 50) (hq : q.natAbs ≤ 2 ^ 50) : (z + q).natAbs ≤ 2 ^ 55 := by omega
theorem own_acc {b s v z : Int64} (h : b + s * v = z) (hb : b.toInt.natAbs ≤ 2 ^ 52) (hp : (s.toInt * v.toInt).natAbs ≤ 2 ^ 50) : z.toInt = b.toInt + s.toInt * v.toInt := by
  subst h
  rw [own_la (by rw [own_lm hp]; omega), own_lm hp]
theorem own_zb {z b p : Int} (hz : z = b + p) (hb : b.natAbs ≤ 2 ^ 50) (hp : p.natAbs ≤ 2 ^ 50) : z.natAbs ≤ 2 ^ 52 := by omega
theorem own_b52 {b : Int} (hb : b.natAbs ≤ 2 ^ 50) : b.natAbs ≤ 2 ^ 52 := by omega

theorem d1_0 : decode prog_32_method_1_code 0 = .ok (.aload_n 0, 1) := by decide +kernel
theorem d1_1 : decode prog_32_method_1_code 1 = .ok (.invokespecial 1, 3) := by decide +kernel
theorem d1_4 : decode prog_32_method_1_code 4 = .ok (.aload_n 0, 1) := by decide +kernel
theorem d1_5 : decode prog_32_method_1_code 5 = .ok (.aload_n 1, 1) := by decide +kernel
theorem d1_6 : decode prog_32_method_1_code 6 = .ok (.putfield 7, 3) := by decide +kernel
theorem d1_9 : decode prog_32_method_1_code 9 = .ok (.aload_n 0, 1) := by decide +kernel
theorem d1_10 : decode prog_32_method_1_code 10 = .ok (.aload_n 2, 1) := by decide +kernel
theorem d1_11 : decode prog_32_method_1_code 11 = .ok (.putfield 13, 3) := by decide +kernel
theorem d1_14 : decode prog_32_method_1_code 14 = .ok (.return_, 1) := by decide +kernel
theorem own_pn0 : plainName "com/example/galicia/galicia/lime/SparseVector" = true := by first | (simp [plainName, overriddenIn]; done) | decide +kernel
def own_svinit_Q (Z : State) (o ap av : Addr) (h0 : Heap) (n0 : Nat) (v_ : Option Value) (h_ : Heap) (L_ : List Loc) : Prop := (fun v h L => v = none ∧ Fr n0 L ∧ Keep h0 h [o] ∧ Fld Z h o "com/example/galicia/galicia/lime/SparseVector" "positions" "[I" (.ref ap) ∧ Fld Z h o "com/example/galicia/galicia/lime/SparseVector" "values" "[D" (.ref av)) v_ h_ L_
set_option maxRecDepth 65536 in
set_option maxHeartbeats 40000000 in
theorem own_svinit (l : Launch) (Z : State) (a0 : Array Value) (hw : ∀ d ∈ tables_1, d.before a0 Z = true) (wds : List Jvm.Cond) (o ap av : Addr) (h0 : Heap) (n0 : Nat) (Z0 : n0 ≤ h0.size) (E : Exa Z h0 o "com/example/galicia/galicia/lime/SparseVector") (F1 : Fld Z h0 o "com/example/galicia/galicia/lime/SparseVector" "positions" "[I" .null) (F2 : Fld Z h0 o "com/example/galicia/galicia/lime/SparseVector" "values" "[D" .null) (hnew : n0 ≤ o) :
    MetFree l (⟨"com/example/galicia/galicia/lime/SparseVector", "<init>", "([I[D)V"⟩ : MethodName) (head1 (Jvm.Cond.code (⟨"com/example/galicia/galicia/lime/SparseVector", "<init>", "([I[D)V"⟩ : MethodName) prog_32_method_1_code 3 none :: wds) ({ frames := 1, cells := 0, slots := 0, locals := 12 } : Room)) (fun ar_ U_ => ar_ = #[(.ref o), (.ref ap), (.ref av)] ∧ Z.Warmed39 U_.vm ∧ U_.heap = h0) (fun _ _ _ _ _ => True) (fun _ U_ o_ V_ => ∃ v_ L_, o_ = .returned v_ ∧ own_svinit_Q Z o ap av h0 n0 v_ V_.heap L_ ∧ FrameEnd U_ o_ V_ L_ ({ frames := 1, cells := 0, slots := 0, locals := 12 } : Room).cells ({ frames := 1, cells := 0, slots := 0, locals := 12 } : Room).slots) := by
  refine own_met (y := ⟨"com/example/galicia/galicia/lime/SparseVector", "<init>", "([I[D)V"⟩) (Q := own_svinit_Q Z o ap av h0 n0) own_pn0 ?_
  intro p e s m below meth c s₁ hx hby hml hZ hown hnm hret hlk X0 e0
  have N0 := Fr.nil n0
  refine own_cast (g' := (mkF m 0 #[.val (.ref o), .val (.ref ap), .val (.ref av)] [])) (by first | (simp [entryFrame, mkF, argsToLocals, Value.category]; done) | rfl) ?_
  refine own_pre (T' := s₁) (g' := (mkF m 1 #[.val (.ref o), .val (.ref ap), .val (.ref av)] [(.ref o)])) (fun t k => XS.aloadN X0.here hx rfl (v := (.ref o)) (hb hby d1_0) rfl rfl k) ?_
  refine own_init0 X0 hx hZ hown (hw _ (List.mem_of_getElem? (i := 8) rfl)) (hw _ (List.mem_of_getElem? (i := 9) rfl)) (hw _ (List.mem_of_getElem? (i := 10) rfl)) e0 (hb hby d1_1) (by rw [hml]; rfl) (by decide) (W := 0) (Nat.le_of_eq rfl) (by decide) ?_
  intro T1 X1 e1
  show own_Go _ _ _ _ _ _ _ T1 (mkF m 4 #[.val (.ref o), .val (.ref ap), .val (.ref av)] [])
  refine own_pre (T' := T1) (g' := (mkF m 5 #[.val (.ref o), .val (.ref ap), .val (.ref av)] [(.ref o)])) (fun t k => XS.aloadN X1.here hx rfl (v := (.ref o)) (hb hby d1_4) rfl rfl k) ?_
  refine own_pre (T' := T1) (g' := (mkF m 6 #[.val (.ref o), .val (.ref ap), .val (.ref av)] [(.ref ap), (.ref o)])) (fun t k => XS.aloadN X1.here hx rfl (v := (.ref ap)) (hb hby d1_5) rfl rfl k) ?_
  refine own_putf X1 hx hZ hown (hw _ (List.mem_of_getElem? (i := 11) rfl)) e1 N0 hnew F1 E (Or.inr ⟨(hw _ (List.mem_of_getElem? (i := 12) rfl)), rfl, hnm⟩) (hw _ (List.mem_of_getElem? (i := 3) rfl)) (ty := (.array .int)) (by decide) rfl rfl (hb hby d1_6) ?_
  intro T2 h2 lo2 X2 e2 N2 W2
  have F3 : Fld Z h2 o "com/example/galicia/galicia/lime/SparseVector" "positions" "[I" (.ref ap) := F1.same W2
  show own_Go _ _ _ _ _ _ _ T2 (mkF m 9 #[.val (.ref o), .val (.ref ap), .val (.ref av)] [])
  refine own_pre (T' := T2) (g' := (mkF m 10 #[.val (.ref o), .val (.ref ap), .val (.ref av)] [(.ref o)])) (fun t k => XS.aloadN X2.here hx rfl (v := (.ref o)) (hb hby d1_9) rfl rfl k) ?_
  refine own_pre (T' := T2) (g' := (mkF m 11 #[.val (.ref o), .val (.ref ap), .val (.ref av)] [(.ref av), (.ref o)])) (fun t k => XS.aloadN X2.here hx rfl (v := (.ref av)) (hb hby d1_10) rfl rfl k) ?_
  have F4 : Fld Z h2 o "com/example/galicia/galicia/lime/SparseVector" "values" "[D" .null := (F2.other W2 (Or.inr (slot_ne (C := "com/example/galicia/galicia/lime/SparseVector") (Or.inr (hw _ (List.mem_of_getElem? (i := 14) rfl))) (Or.inr (hw _ (List.mem_of_getElem? (i := 12) rfl))) (by decide) (t := (.array .double)) (t' := (.array .int)) (by decide) (by decide))))
  have F5 : Exa Z h2 o "com/example/galicia/galicia/lime/SparseVector" := (E.wr W2)
  refine own_putf X2 hx hZ hown (hw _ (List.mem_of_getElem? (i := 13) rfl)) e2 N2 hnew F4 F5 (Or.inr ⟨(hw _ (List.mem_of_getElem? (i := 14) rfl)), rfl, hnm⟩) (hw _ (List.mem_of_getElem? (i := 3) rfl)) (ty := (.array .double)) (by decide) rfl rfl (hb hby d1_11) ?_
  intro T6 h6 lo6 X6 e6 N6 W6
  have F7 : Fld Z h6 o "com/example/galicia/galicia/lime/SparseVector" "values" "[D" (.ref av) := F4.same W6
  show own_Go _ _ _ _ _ _ _ T6 (mkF m 14 #[.val (.ref o), .val (.ref ap), .val (.ref av)] [])
  have F8 : Fld Z h6 o "com/example/galicia/galicia/lime/SparseVector" "positions" "[I" (.ref ap) := (F3.other W6 (Or.inr (slot_ne (C := "com/example/galicia/galicia/lime/SparseVector") (Or.inr (hw _ (List.mem_of_getElem? (i := 12) rfl))) (Or.inr (hw _ (List.mem_of_getElem? (i := 14) rfl))) (by decide) (t := (.array .int)) (t' := (.array .double)) (by decide) (by decide))))
  exact own_ret0 X6 hx hlk hret (hb hby d1_14) e6 ⟨rfl, N6, ((Keep.refl _ _).wr W2 (Or.inl (List.mem_cons_self ..))).wr W6 (Or.inl (List.mem_cons_self ..)), F8, F7⟩ (by decide) (by decide)
theorem d3_0 : decode prog_32_method_11_code 0 = .ok (.iconst 0, 1) := by decide +kernel
theorem d3_1 : decode prog_32_method_11_code 1 = .ok (.istore 4, 2) := by decide +kernel
theorem d3_3 : decode prog_32_method_11_code 3 = .ok (.iload 4, 2) := by decide +kernel
theorem d3_5 : decode prog_32_method_11_code 5 = .ok (.aload_n 0, 1) := by decide +kernel
theorem d3_6 : decode prog_32_method_11_code 6 = .ok (.getfield 7, 3) := by decide +kernel
theorem d3_9 : decode prog_32_method_11_code 9 = .ok (.arraylength, 1) := by decide +kernel
theorem d3_10 : decode prog_32_method_11_code 10 = .ok (.if_icmp .ge 30, 3) := by decide +kernel
theorem d3_13 : decode prog_32_method_11_code 13 = .ok (.aload_n 1, 1) := by decide +kernel
theorem d3_14 : decode prog_32_method_11_code 14 = .ok (.aload_n 0, 1) := by decide +kernel
theorem d3_15 : decode prog_32_method_11_code 15 = .ok (.getfield 7, 3) := by decide +kernel
theorem d3_18 : decode prog_32_method_11_code 18 = .ok (.iload 4, 2) := by decide +kernel
theorem d3_20 : decode prog_32_method_11_code 20 = .ok (.iaload, 1) := by decide +kernel
theorem d3_21 : decode prog_32_method_11_code 21 = .ok (.dup2, 1) := by decide +kernel
theorem d3_22 : decode prog_32_method_11_code 22 = .ok (.daload, 1) := by decide +kernel
theorem d3_23 : decode prog_32_method_11_code 23 = .ok (.dload_n 2, 1) := by decide +kernel
theorem d3_24 : decode prog_32_method_11_code 24 = .ok (.aload_n 0, 1) := by decide +kernel
theorem d3_25 : decode prog_32_method_11_code 25 = .ok (.getfield 13, 3) := by decide +kernel
theorem d3_28 : decode prog_32_method_11_code 28 = .ok (.iload 4, 2) := by decide +kernel
theorem d3_30 : decode prog_32_method_11_code 30 = .ok (.daload, 1) := by decide +kernel
theorem d3_31 : decode prog_32_method_11_code 31 = .ok (.dmul, 1) := by decide +kernel
theorem d3_32 : decode prog_32_method_11_code 32 = .ok (.dadd, 1) := by decide +kernel
theorem d3_33 : decode prog_32_method_11_code 33 = .ok (.dastore, 1) := by decide +kernel
theorem d3_34 : decode prog_32_method_11_code 34 = .ok (.iinc 4 1, 3) := by decide +kernel
theorem d3_37 : decode prog_32_method_11_code 37 = .ok (.goto (-34), 3) := by decide +kernel
theorem d3_40 : decode prog_32_method_11_code 40 = .ok (.return_, 1) := by decide +kernel
def own_addto0_Q (Z : State) (o ap av ao : Addr) (O : List Value) (x : UInt64) (i : Int)  (h0 : Heap) (n0 : Nat) (v_ : Option Value) (h_ : Heap) (L_ : List Loc) : Prop := (fun v h L => v = none ∧ Fr n0 L ∧ Keep h0 h [ao] ∧ own_Ary Z h ao .double O) v_ h_ L_
set_option maxRecDepth 65536 in
set_option maxHeartbeats 40000000 in
theorem own_addto0 (l : Launch) (Z : State) (a0 : Array Value) (hw : ∀ d ∈ tables_1, d.before a0 Z = true) (wds : List Jvm.Cond) (o ap av ao : Addr) (O : List Value) (x : UInt64) (i : Int)  (h0 : Heap) (n0 : Nat) (Z0 : n0 ≤ h0.size) (F1 : Fld Z h0 o "com/example/galicia/galicia/lime/SparseVector" "positions" "[I" (.ref ap)) (F2 : Fld Z h0 o "com/example/galicia/galicia/lime/SparseVector" "values" "[D" (.ref av)) (A1 : own_Ary Z h0 ap .int []) (A2 : own_Ary Z h0 av .double []) (A3 : own_Ary Z h0 ao .double O) (ne1 : o ≠ ao) (ne2 : ap ≠ ao) (ne3 : av ≠ ao) (hnew : n0 ≤ ao) (DX : FP.Core.DInt i x)  :
    MetFree l (⟨"com/example/galicia/galicia/lime/SparseVector", "addTo", "([DD)V"⟩ : MethodName) (head1 (Jvm.Cond.code (⟨"com/example/galicia/galicia/lime/SparseVector", "addTo", "([DD)V"⟩ : MethodName) prog_32_method_11_code 5 none :: wds) ({ frames := 0, cells := 0, slots := 0, locals := 0 } : Room)) (fun ar_ U_ => ar_ = #[(.ref o), (.ref ao), (.double x)] ∧ Z.Warmed39 U_.vm ∧ U_.heap = h0) (fun _ _ _ _ _ => True) (fun _ U_ o_ V_ => ∃ v_ L_, o_ = .returned v_ ∧ own_addto0_Q Z o ap av ao O x i h0 n0 v_ V_.heap L_ ∧ FrameEnd U_ o_ V_ L_ ({ frames := 0, cells := 0, slots := 0, locals := 0 } : Room).cells ({ frames := 0, cells := 0, slots := 0, locals := 0 } : Room).slots) := by
  refine own_met (y := ⟨"com/example/galicia/galicia/lime/SparseVector", "addTo", "([DD)V"⟩) (Q := own_addto0_Q Z o ap av ao O x i h0 n0) own_pn0 ?_
  intro p e s m below meth c s₁ hx hby hml hZ hown hnm hret hlk X0 e0
  have N0 := Fr.nil n0
  refine own_cast (g' := (mkF m 0 #[.val (.ref o), .val (.ref ao), .val (.double x), .second, .unset] [])) (by first | (simp [entryFrame, mkF, argsToLocals, Value.category]; done) | rfl) ?_
  generalize hL1 : (#[.val (.ref o), .val (.ref ao), .val (.double x), .second, .unset] : Array Slot) = L1
  refine own_pre (T' := s₁) (g' := (mkF m 1 L1 [(.int (0 : Int32))])) (fun t k => XS.iconst X0.here hx rfl (hb hby d3_0) k) ?_
  refine own_pre (T' := s₁) (g' := (mkF m 3 #[.val (.ref o), .val (.ref ao), .val (.double x), .second, .val (.int (0 : Int32))] [])) (fun t k => XS.istore X0.here hx rfl (hb hby d3_1) rfl (l' := #[.val (.ref o), .val (.ref ao), .val (.double x), .second, .val (.int (0 : Int32))]) (by rw [← hL1]; rfl) k) ?_
  generalize hL2 : (#[.val (.ref o), .val (.ref ao), .val (.double x), .second, .val (.int (0 : Int32))] : Array Slot) = L2
  refine own_pre (T' := s₁) (g' := (mkF m 5 L2 [(.int (0 : Int32))])) (fun t k => XS.iload X0.here hx rfl (v := (0 : Int32)) (hb hby d3_3) (by rw [← hL2]; rfl) k) ?_
  refine own_pre (T' := s₁) (g' := (mkF m 6 L2 [(.ref o), (.int (0 : Int32))])) (fun t k => XS.aloadN X0.here hx rfl (v := (.ref o)) (hb hby d3_5) (by rw [← hL2]; rfl) rfl k) ?_
  refine own_getf X0 hx hZ hown (hw _ (List.mem_of_getElem? (i := 11) rfl)) e0 F1 (hb hby d3_6) ?_
  intro T3 X3 e3
  show own_Go _ _ _ _ _ _ _ T3 (mkF m 9 L2 [(.ref ap), (.int (0 : Int32))])
  refine own_len X3 hx hZ e3 A1 (hb hby d3_9) (n := (0 : Int32)) rfl ?_
  show own_Go _ _ _ _ _ _ _ T3 (mkF m 10 L2 [(.int (0 : Int32)), (.int (0 : Int32))])
  refine own_pre (T' := T3) (g' := (mkF m 40 L2 [])) (fun t k => XS.icmpYes X3.here hx rfl (pc0 := 10) (pc' := 40) rfl (hb hby d3_10) rfl (by decide) (by decide) (by decide) k) ?_
  exact own_ret0 X3 hx hlk hret (hb hby d3_40) e3 ⟨rfl, N0, (Keep.refl _ _), A3⟩ (by decide) (by decide)
def own_addto1_Q (Z : State) (o ap av ao : Addr) (O : List Value) (x : UInt64) (i : Int) (p0 : Int32) (x0 y0 : UInt64) (i0 j0 : Int) (h0 : Heap) (n0 : Nat) (v_ : Option Value) (h_ : Heap) (L_ : List Loc) : Prop := (fun v h L => ∃ (r0 : UInt64), v = none ∧ Fr n0 L ∧ Keep h0 h [ao] ∧ own_Ary Z h ao .double (O.set p0.toNatClampNeg (.double r0)) ∧ FP.Core.DInt (j0 + (i * i0)) r0) v_ h_ L_
set_option maxRecDepth 65536 in
set_option maxHeartbeats 40000000 in
theorem own_addto1 (l : Launch) (Z : State) (a0 : Array Value) (hw : ∀ d ∈ tables_1, d.before a0 Z = true) (wds : List Jvm.Cond) (o ap av ao : Addr) (O : List Value) (x : UInt64) (i : Int) (p0 : Int32) (x0 y0 : UInt64) (i0 j0 : Int) (h0 : Heap) (n0 : Nat) (Z0 : n0 ≤ h0.size) (F1 : Fld Z h0 o "com/example/galicia/galicia/lime/SparseVector" "positions" "[I" (.ref ap)) (F2 : Fld Z h0 o "com/example/galicia/galicia/lime/SparseVector" "values" "[D" (.ref av)) (A1 : own_Ary Z h0 ap .int [.int p0]) (A2 : own_Ary Z h0 av .double [.double x0]) (A3 : own_Ary Z h0 ao .double O) (ne1 : o ≠ ao) (ne2 : ap ≠ ao) (ne3 : av ≠ ao) (hnew : n0 ≤ ao) (DX : FP.Core.DInt i x) (q0 : 0 ≤ p0) (g0 : O[p0.toNatClampNeg]? = some (.double y0)) (DX0 : FP.Core.DInt i0 x0) (DY0 : FP.Core.DInt j0 y0) (b0 : (i * i0).natAbs ≤ 2 ^ 50) (b'0 : j0.natAbs ≤ 2 ^ 50) :
    MetFree l (⟨"com/example/galicia/galicia/lime/SparseVector", "addTo", "([DD)V"⟩ : MethodName) (head1 (Jvm.Cond.code (⟨"com/example/galicia/galicia/lime/SparseVector", "addTo", "([DD)V"⟩ : MethodName) prog_32_method_11_code 5 none :: wds) ({ frames := 0, cells := 0, slots := 0, locals := 0 } : Room)) (fun ar_ U_ => ar_ = #[(.ref o), (.ref ao), (.double x)] ∧ Z.Warmed39 U_.vm ∧ U_.heap = h0) (fun _ _ _ _ _ => True) (fun _ U_ o_ V_ => ∃ v_ L_, o_ = .returned v_ ∧ own_addto1_Q Z o ap av ao O x i p0 x0 y0 i0 j0 h0 n0 v_ V_.heap L_ ∧ FrameEnd U_ o_ V_ L_ ({ frames := 0, cells := 0, slots := 0, locals := 0 } : Room).cells ({ frames := 0, cells := 0, slots := 0, locals := 0 } : Room).slots) := by
  refine own_met (y := ⟨"com/example/galicia/galicia/lime/SparseVector", "addTo", "([DD)V"⟩) (Q := own_addto1_Q Z o ap av ao O x i p0 x0 y0 i0 j0 h0 n0) own_pn0 ?_
  intro p e s m below meth c s₁ hx hby hml hZ hown hnm hret hlk X0 e0
  have N0 := Fr.nil n0
  refine own_cast (g' := (mkF m 0 #[.val (.ref o), .val (.ref ao), .val (.double x), .second, .unset] [])) (by first | (simp [entryFrame, mkF, argsToLocals, Value.category]; done) | rfl) ?_
  generalize hL1 : (#[.val (.ref o), .val (.ref ao), .val (.double x), .second, .unset] : Array Slot) = L1
  refine own_pre (T' := s₁) (g' := (mkF m 1 L1 [(.int (0 : Int32))])) (fun t k => XS.iconst X0.here hx rfl (hb hby d3_0) k) ?_
  refine own_pre (T' := s₁) (g' := (mkF m 3 #[.val (.ref o), .val (.ref ao), .val (.double x), .second, .val (.int (0 : Int32))] [])) (fun t k => XS.istore X0.here hx rfl (hb hby d3_1) rfl (l' := #[.val (.ref o), .val (.ref ao), .val (.double x), .second, .val (.int (0 : Int32))]) (by rw [← hL1]; rfl) k) ?_
  generalize hL2 : (#[.val (.ref o), .val (.ref ao), .val (.double x), .second, .val (.int (0 : Int32))] : Array Slot) = L2
  refine own_pre (T' := s₁) (g' := (mkF m 5 L2 [(.int (0 : Int32))])) (fun t k => XS.iload X0.here hx rfl (v := (0 : Int32)) (hb hby d3_3) (by rw [← hL2]; rfl) k) ?_
  refine own_pre (T' := s₁) (g' := (mkF m 6 L2 [(.ref o), (.int (0 : Int32))])) (fun t k => XS.aloadN X0.here hx rfl (v := (.ref o)) (hb hby d3_5) (by rw [← hL2]; rfl) rfl k) ?_
  refine own_getf X0 hx hZ hown (hw _ (List.mem_of_getElem? (i := 11) rfl)) e0 F1 (hb hby d3_6) ?_
  intro T3 X3 e3
  show own_Go _ _ _ _ _ _ _ T3 (mkF m 9 L2 [(.ref ap), (.int (0 : Int32))])
  refine own_len X3 hx hZ e3 A1 (hb hby d3_9) (n := (1 : Int32)) rfl ?_
  show own_Go _ _ _ _ _ _ _ T3 (mkF m 10 L2 [(.int (1 : Int32)), (.int (0 : Int32))])
  refine own_pre (T' := T3) (g' := (mkF m 13 L2 [])) (fun t k => XS.icmpNo X3.here hx rfl (hb hby d3_10) rfl (by decide) k) ?_
  refine own_pre (T' := T3) (g' := (mkF m 14 L2 [(.ref ao)])) (fun t k => XS.aloadN X3.here hx rfl (v := (.ref ao)) (hb hby d3_13) (by rw [← hL2]; rfl) rfl k) ?_
  refine own_pre (T' := T3) (g' := (mkF m 15 L2 [(.ref o), (.ref ao)])) (fun t k => XS.aloadN X3.here hx rfl (v := (.ref o)) (hb hby d3_14) (by rw [← hL2]; rfl) rfl k) ?_
  refine own_getf X3 hx hZ hown (hw _ (List.mem_of_getElem? (i := 11) rfl)) e3 F1 (hb hby d3_15) ?_
  intro T4 X4 e4
  show own_Go _ _ _ _ _ _ _ T4 (mkF m 18 L2 [(.ref ap), (.ref ao)])
  refine own_pre (T' := T4) (g' := (mkF m 20 L2 [(.int (0 : Int32)), (.ref ap), (.ref ao)])) (fun t k => XS.iload X4.here hx rfl (v := (0 : Int32)) (hb hby d3_18) (by rw [← hL2]; rfl) k) ?_
  refine own_iaload X4 hx hZ e4 A1 (hb hby d3_20) (n := 0) (v := (.int p0)) (by decide) (by decide) rfl ?_
  show own_Go _ _ _ _ _ _ _ T4 (mkF m 21 L2 [(.int p0), (.ref ao)])
  refine own_pre (T' := T4) (g' := (mkF m 22 L2 [(.int p0), (.ref ao), (.int p0), (.ref ao)])) (fun t k => XT.dup2 X4.here hx rfl (hb hby d3_21) rfl rfl rfl k) ?_
  refine own_daload X4 hx hZ e4 A3 (hb hby d3_22) (n := p0.toNatClampNeg) (v := (.double y0)) q0 rfl g0 ?_
  show own_Go _ _ _ _ _ _ _ T4 (mkF m 23 L2 [(.double y0), (.int p0), (.ref ao)])
  refine own_pre (T' := T4) (g' := (mkF m 24 L2 [(.double x), (.double y0), (.int p0), (.ref ao)])) (fun t k => XS.dloadN X4.here hx rfl (v := x) (hb hby d3_23) (by rw [← hL2]; rfl) k) ?_
  refine own_pre (T' := T4) (g' := (mkF m 25 L2 [(.ref o), (.double x), (.double y0), (.int p0), (.ref ao)])) (fun t k => XS.aloadN X4.here hx rfl (v := (.ref o)) (hb hby d3_24) (by rw [← hL2]; rfl) rfl k) ?_
  refine own_getf X4 hx hZ hown (hw _ (List.mem_of_getElem? (i := 13) rfl)) e4 F2 (hb hby d3_25) ?_
  intro T5 X5 e5
  show own_Go _ _ _ _ _ _ _ T5 (mkF m 28 L2 [(.ref av), (.double x), (.double y0), (.int p0), (.ref ao)])
  refine own_pre (T' := T5) (g' := (mkF m 30 L2 [(.int (0 : Int32)), (.ref av), (.double x), (.double y0), (.int p0), (.ref ao)])) (fun t k => XS.iload X5.here hx rfl (v := (0 : Int32)) (hb hby d3_28) (by rw [← hL2]; rfl) k) ?_
  refine own_daload X5 hx hZ e5 A2 (hb hby d3_30) (n := 0) (v := (.double x0)) (by decide) (by decide) rfl ?_
  show own_Go _ _ _ _ _ _ _ T5 (mkF m 31 L2 [(.double x0), (.double x), (.double y0), (.int p0), (.ref ao)])
  obtain ⟨f6, hf6⟩ : ∃ z, FP.dmul x x0 = z := ⟨_, rfl⟩
  have Df6 : Jvm.FP.Core.DInt (i * i0) f6 := hf6 ▸ Jvm.FP.Core.dmul_int DX DX0 (by omega)
  refine own_pre (T' := T5) (g' := (mkF m 32 L2 [(.double f6), (.double y0), (.int p0), (.ref ao)])) (fun t k => XS.dmulS X5.here hx rfl (hb hby d3_31) rfl (by rw [hf6]; exact own_DInt_nn Df6) hf6 k) ?_
  obtain ⟨f7, hf7⟩ : ∃ z, FP.dadd y0 f6 = z := ⟨_, rfl⟩
  have Df7 : Jvm.FP.Core.DInt (j0 + (i * i0)) f7 := hf7 ▸ Jvm.FP.Core.dadd_int DY0 Df6 (by omega)
  refine own_pre (T' := T5) (g' := (mkF m 33 L2 [(.double f7), (.int p0), (.ref ao)])) (fun t k => XS.daddS X5.here hx rfl (hb hby d3_32) rfl (by rw [hf7]; exact own_DInt_nn Df7) hf7 k) ?_
  refine own_dastore X5 hx hZ e5 N0 hnew A3 (hb hby d3_33) (n := p0.toNatClampNeg) q0 rfl (List.getElem?_eq_some_iff.mp g0).1 ?_
  intro T8 h8 lo8 X8 e8 N8 W8
  have F9 : own_Ary Z h8 ao .double (O.set p0.toNatClampNeg (.double f7)) := A3.set W8
  show own_Go _ _ _ _ _ _ _ T8 (mkF m 34 L2 [])
  refine own_pre (T' := T8) (g' := (mkF m 37 #[.val (.ref o), .val (.ref ao), .val (.double x), .second, .val (.int (1 : Int32))] [])) (fun t k => XS.iinc X8.here hx rfl (hb hby d3_34) (x := (0 : Int32)) (by rw [← hL2]; rfl) (l' := #[.val (.ref o), .val (.ref ao), .val (.double x), .second, .val (.int (1 : Int32))]) (by rw [← hL2]; rfl) k) ?_
  generalize hL10 : (#[.val (.ref o), .val (.ref ao), .val (.double x), .second, .val (.int (1 : Int32))] : Array Slot) = L10
  refine own_pre (T' := T8) (g' := (mkF m 3 L10 [])) (fun t k => XS.goto X8.here hx rfl (pc0 := 37) (pc' := 3) rfl (hb hby d3_37) (by decide) (by decide) k) ?_
  refine own_pre (T' := T8) (g' := (mkF m 5 L10 [(.int (1 : Int32))])) (fun t k => XS.iload X8.here hx rfl (v := (1 : Int32)) (hb hby d3_3) (by rw [← hL10]; rfl) k) ?_
  refine own_pre (T' := T8) (g' := (mkF m 6 L10 [(.ref o), (.int (1 : Int32))])) (fun t k => XS.aloadN X8.here hx rfl (v := (.ref o)) (hb hby d3_5) (by rw [← hL10]; rfl) rfl k) ?_
  have F11 : Fld Z h8 o "com/example/galicia/galicia/lime/SparseVector" "positions" "[I" (.ref ap) := (F1.other W8 (Or.inl ne1))
  refine own_getf X8 hx hZ hown (hw _ (List.mem_of_getElem? (i := 11) rfl)) e8 F11 (hb hby d3_6) ?_
  intro T12 X12 e12
  show own_Go _ _ _ _ _ _ _ T12 (mkF m 9 L10 [(.ref ap), (.int (1 : Int32))])
  have F13 : own_Ary Z h8 ap .int [(.int p0)] := (A1.other W8 ne2)
  refine own_len X12 hx hZ e12 F13 (hb hby d3_9) (n := (1 : Int32)) rfl ?_
  show own_Go _ _ _ _ _ _ _ T12 (mkF m 10 L10 [(.int (1 : Int32)), (.int (1 : Int32))])
  refine own_pre (T' := T12) (g' := (mkF m 40 L10 [])) (fun t k => XS.icmpYes X12.here hx rfl (pc0 := 10) (pc' := 40) rfl (hb hby d3_10) rfl (by decide) (by decide) (by decide) k) ?_
  exact own_ret0 X12 hx hlk hret (hb hby d3_40) e12 ⟨f7, rfl, N8, ((Keep.refl _ _).wr W8 (Or.inl (List.mem_cons_self ..))), F9, Df7⟩ (by decide) (by decide)
def own_addto2_Q (Z : State) (o ap av ao : Addr) (O : List Value) (x : UInt64) (i : Int) (p0 : Int32) (x0 y0 : UInt64) (i0 j0 : Int) (p1 : Int32) (x1 y1 : UInt64) (i1 j1 : Int) (h0 : Heap) (n0 : Nat) (v_ : Option Value) (h_ : Heap) (L_ : List Loc) : Prop := (fun v h L => ∃ (r0 : UInt64) (r1 : UInt64), v = none ∧ Fr n0 L ∧ Keep h0 h [ao] ∧ own_Ary Z h ao .double ((O.set p0.toNatClampNeg (.double r0)).set p1.toNatClampNeg (.double r1)) ∧ FP.Core.DInt (j0 + (i * i0)) r0 ∧ FP.Core.DInt (j1 + (i * i1)) r1) v_ h_ L_
set_option maxRecDepth 65536 in
set_option maxHeartbeats 40000000 in
theorem own_addto2 (l : Launch) (Z : State) (a0 : Array Value) (hw : ∀ d ∈ tables_1, d.before a0 Z = true) (wds : List Jvm.Cond) (o ap av ao : Addr) (O : List Value) (x : UInt64) (i : Int) (p0 : Int32) (x0 y0 : UInt64) (i0 j0 : Int) (p1 : Int32) (x1 y1 : UInt64) (i1 j1 : Int) (h0 : Heap) (n0 : Nat) (Z0 : n0 ≤ h0.size) (F1 : Fld Z h0 o "com/example/galicia/galicia/lime/SparseVector" "positions" "[I" (.ref ap)) (F2 : Fld Z h0 o "com/example/galicia/galicia/lime/SparseVector" "values" "[D" (.ref av)) (A1 : own_Ary Z h0 ap .int [.int p0, .int p1]) (A2 : own_Ary Z h0 av .double [.double x0, .double x1]) (A3 : own_Ary Z h0 ao .double O) (ne1 : o ≠ ao) (ne2 : ap ≠ ao) (ne3 : av ≠ ao) (hnew : n0 ≤ ao) (DX : FP.Core.DInt i x) (q0 : 0 ≤ p0) (g0 : O[p0.toNatClampNeg]? = some (.double y0)) (DX0 : FP.Core.DInt i0 x0) (DY0 : FP.Core.DInt j0 y0) (b0 : (i * i0).natAbs ≤ 2 ^ 50) (b'0 : j0.natAbs ≤ 2 ^ 50) (q1 : 0 ≤ p1) (g1 : O[p1.toNatClampNeg]? = some (.double y1)) (DX1 : FP.Core.DInt i1 x1) (DY1 : FP.Core.DInt j1 y1) (b1 : (i * i1).natAbs ≤ 2 ^ 50) (b'1 : j1.natAbs ≤ 2 ^ 50) (hne : p0.toNatClampNeg ≠ p1.toNatClampNeg) :
    MetFree l (⟨"com/example/galicia/galicia/lime/SparseVector", "addTo", "([DD)V"⟩ : MethodName) (head1 (Jvm.Cond.code (⟨"com/example/galicia/galicia/lime/SparseVector", "addTo", "([DD)V"⟩ : MethodName) prog_32_method_11_code 5 none :: wds) ({ frames := 0, cells := 0, slots := 0, locals := 0 } : Room)) (fun ar_ U_ => ar_ = #[(.ref o), (.ref ao), (.double x)] ∧ Z.Warmed39 U_.vm ∧ U_.heap = h0) (fun _ _ _ _ _ => True) (fun _ U_ o_ V_ => ∃ v_ L_, o_ = .returned v_ ∧ own_addto2_Q Z o ap av ao O x i p0 x0 y0 i0 j0 p1 x1 y1 i1 j1 h0 n0 v_ V_.heap L_ ∧ FrameEnd U_ o_ V_ L_ ({ frames := 0, cells := 0, slots := 0, locals := 0 } : Room).cells ({ frames := 0, cells := 0, slots := 0, locals := 0 } : Room).slots) := by
  refine own_met (y := ⟨"com/example/galicia/galicia/lime/SparseVector", "addTo", "([DD)V"⟩) (Q := own_addto2_Q Z o ap av ao O x i p0 x0 y0 i0 j0 p1 x1 y1 i1 j1 h0 n0) own_pn0 ?_
  intro p e s m below meth c s₁ hx hby hml hZ hown hnm hret hlk X0 e0
  have N0 := Fr.nil n0
  refine own_cast (g' := (mkF m 0 #[.val (.ref o), .val (.ref ao), .val (.double x), .second, .unset] [])) (by first | (simp [entryFrame, mkF, argsToLocals, Value.category]; done) | rfl) ?_
  generalize hL1 : (#[.val (.ref o), .val (.ref ao), .val (.double x), .second, .unset] : Array Slot) = L1
  refine own_pre (T' := s₁) (g' := (mkF m 1 L1 [(.int (0 : Int32))])) (fun t k => XS.iconst X0.here hx rfl (hb hby d3_0) k) ?_
  refine own_pre (T' := s₁) (g' := (mkF m 3 #[.val (.ref o), .val (.ref ao), .val (.double x), .second, .val (.int (0 : Int32))] [])) (fun t k => XS.istore X0.here hx rfl (hb hby d3_1) rfl (l' := #[.val (.ref o), .val (.ref ao), .val (.double x), .second, .val (.int (0 : Int32))]) (by rw [← hL1]; rfl) k) ?_
  generalize hL2 : (#[.val (.ref o), .val (.ref ao), .val (.double x), .second, .val (.int (0 : Int32))] : Array Slot) = L2
  refine own_pre (T' := s₁) (g' := (mkF m 5 L2 [(.int (0 : Int32))])) (fun t k => XS.iload X0.here hx rfl (v := (0 : Int32)) (hb hby d3_3) (by rw [← hL2]; rfl) k) ?_
  refine own_pre (T' := s₁) (g' := (mkF m 6 L2 [(.ref o), (.int (0 : Int32))])) (fun t k => XS.aloadN X0.here hx rfl (v := (.ref o)) (hb hby d3_5) (by rw [← hL2]; rfl) rfl k) ?_
  refine own_getf X0 hx hZ hown (hw _ (List.mem_of_getElem? (i := 11) rfl)) e0 F1 (hb hby d3_6) ?_
  intro T3 X3 e3
  show own_Go _ _ _ _ _ _ _ T3 (mkF m 9 L2 [(.ref ap), (.int (0 : Int32))])
  refine own_len X3 hx hZ e3 A1 (hb hby d3_9) (n := (2 : Int32)) rfl ?_
  show own_Go _ _ _ _ _ _ _ T3 (mkF m 10 L2 [(.int (2 : Int32)), (.int (0 : Int32))])
  refine own_pre (T' := T3) (g' := (mkF m 13 L2 [])) (fun t k => XS.icmpNo X3.here hx rfl (hb hby d3_10) rfl (by decide) k) ?_
  refine own_pre (T' := T3) (g' := (mkF m 14 L2 [(.ref ao)])) (fun t k => XS.aloadN X3.here hx rfl (v := (.ref ao)) (hb hby d3_13) (by rw [← hL2]; rfl) rfl k) ?_
  refine own_pre (T' := T3) (g' := (mkF m 15 L2 [(.ref o), (.ref ao)])) (fun t k => XS.aloadN X3.here hx rfl (v := (.ref o)) (hb hby d3_14) (by rw [← hL2]; rfl) rfl k) ?_
  refine own_getf X3 hx hZ hown (hw _ (List.mem_of_getElem? (i := 11) rfl)) e3 F1 (hb hby d3_15) ?_
  intro T4 X4 e4
  show own_Go _ _ _ _ _ _ _ T4 (mkF m 18 L2 [(.ref ap), (.ref ao)])
  refine own_pre (T' := T4) (g' := (mkF m 20 L2 [(.int (0 : Int32)), (.ref ap), (.ref ao)])) (fun t k => XS.iload X4.here hx rfl (v := (0 : Int32)) (hb hby d3_18) (by rw [← hL2]; rfl) k) ?_
  refine own_iaload X4 hx hZ e4 A1 (hb hby d3_20) (n := 0) (v := (.int p0)) (by decide) (by decide) rfl ?_
  show own_Go _ _ _ _ _ _ _ T4 (mkF m 21 L2 [(.int p0), (.ref ao)])
  refine own_pre (T' := T4) (g' := (mkF m 22 L2 [(.int p0), (.ref ao), (.int p0), (.ref ao)])) (fun t k => XT.dup2 X4.here hx rfl (hb hby d3_21) rfl rfl rfl k) ?_
  refine own_daload X4 hx hZ e4 A3 (hb hby d3_22) (n := p0.toNatClampNeg) (v := (.double y0)) q0 rfl g0 ?_
  show own_Go _ _ _ _ _ _ _ T4 (mkF m 23 L2 [(.double y0), (.int p0), (.ref ao)])
  refine own_pre (T' := T4) (g' := (mkF m 24 L2 [(.double x), (.double y0), (.int p0), (.ref ao)])) (fun t k => XS.dloadN X4.here hx rfl (v := x) (hb hby d3_23) (by rw [← hL2]; rfl) k) ?_
  refine own_pre (T' := T4) (g' := (mkF m 25 L2 [(.ref o), (.double x), (.double y0), (.int p0), (.ref ao)])) (fun t k => XS.aloadN X4.here hx rfl (v := (.ref o)) (hb hby d3_24) (by rw [← hL2]; rfl) rfl k) ?_
  refine own_getf X4 hx hZ hown (hw _ (List.mem_of_getElem? (i := 13) rfl)) e4 F2 (hb hby d3_25) ?_
  intro T5 X5 e5
  show own_Go _ _ _ _ _ _ _ T5 (mkF m 28 L2 [(.ref av), (.double x), (.double y0), (.int p0), (.ref ao)])
  refine own_pre (T' := T5) (g' := (mkF m 30 L2 [(.int (0 : Int32)), (.ref av), (.double x), (.double y0), (.int p0), (.ref ao)])) (fun t k => XS.iload X5.here hx rfl (v := (0 : Int32)) (hb hby d3_28) (by rw [← hL2]; rfl) k) ?_
  refine own_daload X5 hx hZ e5 A2 (hb hby d3_30) (n := 0) (v := (.double x0)) (by decide) (by decide) rfl ?_
  show own_Go _ _ _ _ _ _ _ T5 (mkF m 31 L2 [(.double x0), (.double x), (.double y0), (.int p0), (.ref ao)])
  obtain ⟨f6, hf6⟩ : ∃ z, FP.dmul x x0 = z := ⟨_, rfl⟩
  have Df6 : Jvm.FP.Core.DInt (i * i0) f6 := hf6 ▸ Jvm.FP.Core.dmul_int DX DX0 (by omega)
  refine own_pre (T' := T5) (g' := (mkF m 32 L2 [(.double f6), (.double y0), (.int p0), (.ref ao)])) (fun t k => XS.dmulS X5.here hx rfl (hb hby d3_31) rfl (by rw [hf6]; exact own_DInt_nn Df6) hf6 k) ?_
  obtain ⟨f7, hf7⟩ : ∃ z, FP.dadd y0 f6 = z := ⟨_, rfl⟩
  have Df7 : Jvm.FP.Core.DInt (j0 + (i * i0)) f7 := hf7 ▸ Jvm.FP.Core.dadd_int DY0 Df6 (by omega)
  refine own_pre (T' := T5) (g' := (mkF m 33 L2 [(.double f7), (.int p0), (.ref ao)])) (fun t k => XS.daddS X5.here hx rfl (hb hby d3_32) rfl (by rw [hf7]; exact own_DInt_nn Df7) hf7 k) ?_
  refine own_dastore X5 hx hZ e5 N0 hnew A3 (hb hby d3_33) (n := p0.toNatClampNeg) q0 rfl (List.getElem?_eq_some_iff.mp g0).1 ?_
  intro T8 h8 lo8 X8 e8 N8 W8
  have F9 : own_Ary Z h8 ao .double (O.set p0.toNatClampNeg (.double f7)) := A3.set W8
  show own_Go _ _ _ _ _ _ _ T8 (mkF m 34 L2 [])
  have g1' : (O.set p0.toNatClampNeg (.double f7))[p1.toNatClampNeg]? = some (.double y1) := by rw [List.getElem?_set_ne hne]; exact g1
  refine own_pre (T' := T8) (g' := (mkF m 37 #[.val (.ref o), .val (.ref ao), .val (.double x), .second, .val (.int (1 : Int32))] [])) (fun t k => XS.iinc X8.here hx rfl (hb hby d3_34) (x := (0 : Int32)) (by rw [← hL2]; rfl) (l' := #[.val (.ref o), .val (.ref ao), .val (.double x), .second, .val (.int (1 : Int32))]) (by rw [← hL2]; rfl) k) ?_
  generalize hL10 : (#[.val (.ref o), .val (.ref ao), .val (.double x), .second, .val (.int (1 : Int32))] : Array Slot) = L10
  refine own_pre (T' := T8) (g' := (mkF m 3 L10 [])) (fun t k => XS.goto X8.here hx rfl (pc0 := 37) (pc' := 3) rfl (hb hby d3_37) (by decide) (by decide) k) ?_
  refine own_pre (T' := T8) (g' := (mkF m 5 L10 [(.int (1 : Int32))])) (fun t k => XS.iload X8.here hx rfl (v := (1 : Int32)) (hb hby d3_3) (by rw [← hL10]; rfl) k) ?_
  refine own_pre (T' := T8) (g' := (mkF m 6 L10 [(.ref o), (.int (1 : Int32))])) (fun t k => XS.aloadN X8.here hx rfl (v := (.ref o)) (hb hby d3_5) (by rw [← hL10]; rfl) rfl k) ?_
  have F11 : Fld Z h8 o "com/example/galicia/galicia/lime/SparseVector" "positions" "[I" (.ref ap) := (F1.other W8 (Or.inl ne1))
  refine own_getf X8 hx hZ hown (hw _ (List.mem_of_getElem? (i := 11) rfl)) e8 F11 (hb hby d3_6) ?_
  intro T12 X12 e12
  show own_Go _ _ _ _ _ _ _ T12 (mkF m 9 L10 [(.ref ap), (.int (1 : Int32))])
  have F13 : own_Ary Z h8 ap .int [(.int p0), (.int p1)] := (A1.other W8 ne2)
  refine own_len X12 hx hZ e12 F13 (hb hby d3_9) (n := (2 : Int32)) rfl ?_
  show own_Go _ _ _ _ _ _ _ T12 (mkF m 10 L10 [(.int (2 : Int32)), (.int (1 : Int32))])
  refine own_pre (T' := T12) (g' := (mkF m 13 L10 [])) (fun t k => XS.icmpNo X12.here hx rfl (hb hby d3_10) rfl (by decide) k) ?_
  refine own_pre (T' := T12) (g' := (mkF m 14 L10 [(.ref ao)])) (fun t k => XS.aloadN X12.here hx rfl (v := (.ref ao)) (hb hby d3_13) (by rw [← hL10]; rfl) rfl k) ?_
  refine own_pre (T' := T12) (g' := (mkF m 15 L10 [(.ref o), (.ref ao)])) (fun t k => XS.aloadN X12.here hx rfl (v := (.ref o)) (hb hby d3_14) (by rw [← hL10]; rfl) rfl k) ?_
  refine own_getf X12 hx hZ hown (hw _ (List.mem_of_getElem? (i := 11) rfl)) e12 F11 (hb hby d3_15) ?_
  intro T14 X14 e14
  show own_Go _ _ _ _ _ _ _ T14 (mkF m 18 L10 [(.ref ap), (.ref ao)])
  refine own_pre (T' := T14) (g' := (mkF m 20 L10 [(.int (1 : Int32)), (.ref ap), (.ref ao)])) (fun t k => XS.iload X14.here hx rfl (v := (1 : Int32)) (hb hby d3_18) (by rw [← hL10]; rfl) k) ?_
  refine own_iaload X14 hx hZ e14 F13 (hb hby d3_20) (n := 1) (v := (.int p1)) (by decide) (by decide) rfl ?_
  show own_Go _ _ _ _ _ _ _ T14 (mkF m 21 L10 [(.int p1), (.ref ao)])
  refine own_pre (T' := T14) (g' := (mkF m 22 L10 [(.int p1), (.ref ao), (.int p1), (.ref ao)])) (fun t k => XT.dup2 X14.here hx rfl (hb hby d3_21) rfl rfl rfl k) ?_
  refine own_daload X14 hx hZ e14 F9 (hb hby d3_22) (n := p1.toNatClampNeg) (v := (.double y1)) q1 rfl g1' ?_
  show own_Go _ _ _ _ _ _ _ T14 (mkF m 23 L10 [(.double y1), (.int p1), (.ref ao)])
  refine own_pre (T' := T14) (g' := (mkF m 24 L10 [(.double x), (.double y1), (.int p1), (.ref ao)])) (fun t k => XS.dloadN X14.here hx rfl (v := x) (hb hby d3_23) (by rw [← hL10]; rfl) k) ?_
  refine own_pre (T' := T14) (g' := (mkF m 25 L10 [(.ref o), (.double x), (.double y1), (.int p1), (.ref ao)])) (fun t k => XS.aloadN X14.here hx rfl (v := (.ref o)) (hb hby d3_24) (by rw [← hL10]; rfl) rfl k) ?_
  have F15 : Fld Z h8 o "com/example/galicia/galicia/lime/SparseVector" "values" "[D" (.ref av) := (F2.other W8 (Or.inl ne1))
  refine own_getf X14 hx hZ hown (hw _ (List.mem_of_getElem? (i := 13) rfl)) e14 F15 (hb hby d3_25) ?_
  intro T16 X16 e16
  show own_Go _ _ _ _ _ _ _ T16 (mkF m 28 L10 [(.ref av), (.double x), (.double y1), (.int p1), (.ref ao)])
  refine own_pre (T' := T16) (g' := (mkF m 30 L10 [(.int (1 : Int32)), (.ref av), (.double x), (.double y1), (.int p1), (.ref ao)])) (fun t k => XS.iload X16.here hx rfl (v := (1 : Int32)) (hb hby d3_28) (by rw [← hL10]; rfl) k) ?_
  have F17 : own_Ary Z h8 av .double [(.double x0), (.double x1)] := (A2.other W8 ne3)
  refine own_daload X16 hx hZ e16 F17 (hb hby d3_30) (n := 1) (v := (.double x1)) (by decide) (by decide) rfl ?_
  show own_Go _ _ _ _ _ _ _ T16 (mkF m 31 L10 [(.double x1), (.double x), (.double y1), (.int p1), (.ref ao)])
  obtain ⟨f18, hf18⟩ : ∃ z, FP.dmul x x1 = z := ⟨_, rfl⟩
  have Df18 : Jvm.FP.Core.DInt (i * i1) f18 := hf18 ▸ Jvm.FP.Core.dmul_int DX DX1 (by omega)
  refine own_pre (T' := T16) (g' := (mkF m 32 L10 [(.double f18), (.double y1), (.int p1), (.ref ao)])) (fun t k => XS.dmulS X16.here hx rfl (hb hby d3_31) rfl (by rw [hf18]; exact own_DInt_nn Df18) hf18 k) ?_
  obtain ⟨f19, hf19⟩ : ∃ z, FP.dadd y1 f18 = z := ⟨_, rfl⟩
  have Df19 : Jvm.FP.Core.DInt (j1 + (i * i1)) f19 := hf19 ▸ Jvm.FP.Core.dadd_int DY1 Df18 (by omega)
  refine own_pre (T' := T16) (g' := (mkF m 33 L10 [(.double f19), (.int p1), (.ref ao)])) (fun t k => XS.daddS X16.here hx rfl (hb hby d3_32) rfl (by rw [hf19]; exact own_DInt_nn Df19) hf19 k) ?_
  refine own_dastore X16 hx hZ e16 N8 hnew F9 (hb hby d3_33) (n := p1.toNatClampNeg) q1 rfl (List.getElem?_eq_some_iff.mp g1').1 ?_
  intro T20 h20 lo20 X20 e20 N20 W20
  have F21 : own_Ary Z h20 ao .double ((O.set p0.toNatClampNeg (.double f7)).set p1.toNatClampNeg (.double f19)) := F9.set W20
  show own_Go _ _ _ _ _ _ _ T20 (mkF m 34 L10 [])
  refine own_pre (T' := T20) (g' := (mkF m 37 #[.val (.ref o), .val (.ref ao), .val (.double x), .second, .val (.int (2 : Int32))] [])) (fun t k => XS.iinc X20.here hx rfl (hb hby d3_34) (x := (1 : Int32)) (by rw [← hL10]; rfl) (l' := #[.val (.ref o), .val (.ref ao), .val (.double x), .second, .val (.int (2 : Int32))]) (by rw [← hL10]; rfl) k) ?_
  generalize hL22 : (#[.val (.ref o), .val (.ref ao), .val (.double x), .second, .val (.int (2 : Int32))] : Array Slot) = L22
  refine own_pre (T' := T20) (g' := (mkF m 3 L22 [])) (fun t k => XS.goto X20.here hx rfl (pc0 := 37) (pc' := 3) rfl (hb hby d3_37) (by decide) (by decide) k) ?_
  refine own_pre (T' := T20) (g' := (mkF m 5 L22 [(.int (2 : Int32))])) (fun t k => XS.iload X20.here hx rfl (v := (2 : Int32)) (hb hby d3_3) (by rw [← hL22]; rfl) k) ?_
  refine own_pre (T' := T20) (g' := (mkF m 6 L22 [(.ref o), (.int (2 : Int32))])) (fun t k => XS.aloadN X20.here hx rfl (v := (.ref o)) (hb hby d3_5) (by rw [← hL22]; rfl) rfl k) ?_
  have F23 : Fld Z h20 o "com/example/galicia/galicia/lime/SparseVector" "positions" "[I" (.ref ap) := (F11.other W20 (Or.inl ne1))
  refine own_getf X20 hx hZ hown (hw _ (List.mem_of_getElem? (i := 11) rfl)) e20 F23 (hb hby d3_6) ?_
  intro T24 X24 e24
  show own_Go _ _ _ _ _ _ _ T24 (mkF m 9 L22 [(.ref ap), (.int (2 : Int32))])
  have F25 : own_Ary Z h20 ap .int [(.int p0), (.int p1)] := (F13.other W20 ne2)
  refine own_len X24 hx hZ e24 F25 (hb hby d3_9) (n := (2 : Int32)) rfl ?_
  show own_Go _ _ _ _ _ _ _ T24 (mkF m 10 L22 [(.int (2 : Int32)), (.int (2 : Int32))])
  refine own_pre (T' := T24) (g' := (mkF m 40 L22 [])) (fun t k => XS.icmpYes X24.here hx rfl (pc0 := 10) (pc' := 40) rfl (hb hby d3_10) rfl (by decide) (by decide) (by decide) k) ?_
  exact own_ret0 X24 hx hlk hret (hb hby d3_40) e24 ⟨f7, f19, rfl, N20, (((Keep.refl _ _).wr W8 (Or.inl (List.mem_cons_self ..))).wr W20 (Or.inl (List.mem_cons_self ..))), F21, Df7, Df19⟩ (by decide) (by decide)
theorem d4_0 : decode method_3_code 0 = .ok (.lload_n 2, 1) := by decide +kernel
theorem d4_1 : decode method_3_code 1 = .ok (.lstore 14, 2) := by decide +kernel
theorem d4_3 : decode method_3_code 3 = .ok (.iload 5, 2) := by decide +kernel
theorem d4_5 : decode method_3_code 5 = .ok (.iconst 1, 1) := by decide +kernel
theorem d4_6 : decode method_3_code 6 = .ok (.if_icmp .lt 20, 3) := by decide +kernel
theorem d4_9 : decode method_3_code 9 = .ok (.iload 4, 2) := by decide +kernel
theorem d4_11 : decode method_3_code 11 = .ok (.iload 6, 2) := by decide +kernel
theorem d4_13 : decode method_3_code 13 = .ok (.if_icmp .ne 13, 3) := by decide +kernel
theorem d4_16 : decode method_3_code 16 = .ok (.lload 14, 2) := by decide +kernel
theorem d4_18 : decode method_3_code 18 = .ok (.lload 8, 2) := by decide +kernel
theorem d4_20 : decode method_3_code 20 = .ok (.lload 10, 2) := by decide +kernel
theorem d4_22 : decode method_3_code 22 = .ok (.lmul, 1) := by decide +kernel
theorem d4_23 : decode method_3_code 23 = .ok (.ladd, 1) := by decide +kernel
theorem d4_24 : decode method_3_code 24 = .ok (.lstore 14, 2) := by decide +kernel
theorem d4_26 : decode method_3_code 26 = .ok (.iload 5, 2) := by decide +kernel
theorem d4_28 : decode method_3_code 28 = .ok (.iconst 2, 1) := by decide +kernel
theorem d4_29 : decode method_3_code 29 = .ok (.if_icmp .lt 20, 3) := by decide +kernel
theorem d4_32 : decode method_3_code 32 = .ok (.iload 4, 2) := by decide +kernel
theorem d4_34 : decode method_3_code 34 = .ok (.iload 7, 2) := by decide +kernel
theorem d4_36 : decode method_3_code 36 = .ok (.if_icmp .ne 13, 3) := by decide +kernel
theorem d4_39 : decode method_3_code 39 = .ok (.lload 14, 2) := by decide +kernel
theorem d4_41 : decode method_3_code 41 = .ok (.lload 8, 2) := by decide +kernel
theorem d4_43 : decode method_3_code 43 = .ok (.lload 12, 2) := by decide +kernel
theorem d4_45 : decode method_3_code 45 = .ok (.lmul, 1) := by decide +kernel
theorem d4_46 : decode method_3_code 46 = .ok (.ladd, 1) := by decide +kernel
theorem d4_47 : decode method_3_code 47 = .ok (.lstore 14, 2) := by decide +kernel
theorem d4_49 : decode method_3_code 49 = .ok (.dload_n 0, 1) := by decide +kernel
theorem d4_50 : decode method_3_code 50 = .ok (.lload 14, 2) := by decide +kernel
theorem d4_52 : decode method_3_code 52 = .ok (.l2d, 1) := by decide +kernel
theorem d4_53 : decode method_3_code 53 = .ok (.dcmp .l, 1) := by decide +kernel
theorem d4_54 : decode method_3_code 54 = .ok (.ifCond .ne 7, 3) := by decide +kernel
theorem d4_57 : decode method_3_code 57 = .ok (.iconst 1, 1) := by decide +kernel
theorem d4_58 : decode method_3_code 58 = .ok (.goto 4, 3) := by decide +kernel
theorem d4_61 : decode method_3_code 61 = .ok (.iconst 0, 1) := by decide +kernel
theorem d4_62 : decode method_3_code 62 = .ok (.ireturn, 1) := by decide +kernel
theorem own_pn1 : plainName "com/example/galicia/galicia/lime/SparseVectorAddToPinLaw" = true := by first | (simp [plainName, overriddenIn]; done) | decide +kernel
def own_okT_Q (Z : State) (g : UInt64) (b : Int64) (i n q0 q1 : Int32) (sc v0 v1 : Int64) (c0 c1 : Int) (h0 : Heap) (n0 : Nat) (v_ : Option Value) (h_ : Heap) (L_ : List Loc) : Prop := (fun v h L => v = some (.int 1) ∧ Fr n0 L ∧ h = h0) v_ h_ L_
set_option maxRecDepth 65536 in
set_option maxHeartbeats 40000000 in
theorem own_okT (l : Launch) (Z : State) (a0 : Array Value) (hw : ∀ d ∈ tables_1, d.before a0 Z = true) (wds : List Jvm.Cond) (g : UInt64) (b : Int64) (i n q0 q1 : Int32) (sc v0 v1 : Int64) (c0 c1 : Int) (h0 : Heap) (n0 : Nat) (Z0 : n0 ≤ h0.size) (hc0 : (if ¬ n < 1 ∧ i = q0 then sc.toInt * v0.toInt else 0) = c0) (hc1 : (if ¬ n < 2 ∧ i = q1 then sc.toInt * v1.toInt else 0) = c1) (D : FP.Core.DInt (b.toInt + c0 + c1) g) (hbb : b.toInt.natAbs ≤ 2 ^ 50) (h1 : (sc.toInt * v0.toInt).natAbs ≤ 2 ^ 50) (h2 : (sc.toInt * v1.toInt).natAbs ≤ 2 ^ 50) :
    MetFree l (⟨"com/example/galicia/galicia/lime/SparseVectorAddToPinLaw", "ok", "(DJIIIIJJJ)Z"⟩ : MethodName) (head1 (Jvm.Cond.code (⟨"com/example/galicia/galicia/lime/SparseVectorAddToPinLaw", "ok", "(DJIIIIJJJ)Z"⟩ : MethodName) method_3_code 16 (some .boolean) :: wds) ({ frames := 0, cells := 0, slots := 0, locals := 0 } : Room)) (fun ar_ U_ => ar_ = #[(.double g), (.long b), (.int i), (.int n), (.int q0), (.int q1), (.long sc), (.long v0), (.long v1)] ∧ Z.Warmed39 U_.vm ∧ U_.heap = h0) (fun _ _ _ _ _ => True) (fun _ U_ o_ V_ => ∃ v_ L_, o_ = .returned v_ ∧ own_okT_Q Z g b i n q0 q1 sc v0 v1 c0 c1 h0 n0 v_ V_.heap L_ ∧ FrameEnd U_ o_ V_ L_ ({ frames := 0, cells := 0, slots := 0, locals := 0 } : Room).cells ({ frames := 0, cells := 0, slots := 0, locals := 0 } : Room).slots) := by
  refine own_met (y := ⟨"com/example/galicia/galicia/lime/SparseVectorAddToPinLaw", "ok", "(DJIIIIJJJ)Z"⟩) (Q := own_okT_Q Z g b i n q0 q1 sc v0 v1 c0 c1 h0 n0) own_pn1 ?_
  intro p e s m below meth c s₁ hx hby hml hZ hown hnm hret hlk X0 e0
  have N0 := Fr.nil n0
  refine own_cast (g' := (mkF m 0 #[.val (.double g), .second, .val (.long b), .second, .val (.int i), .val (.int n), .val (.int q0), .val (.int q1), .val (.long sc), .second, .val (.long v0), .second, .val (.long v1), .second, .unset, .unset] [])) (by first | (simp [entryFrame, mkF, argsToLocals, Value.category]; done) | rfl) ?_
  generalize hL1 : (#[.val (.double g), .second, .val (.long b), .second, .val (.int i), .val (.int n), .val (.int q0), .val (.int q1), .val (.long sc), .second, .val (.long v0), .second, .val (.long v1), .second, .unset, .unset] : Array Slot) = L1
  have kb0 := own_ifb0 hc0 h1
  have kb1 := own_ifb0 hc1 h2
  refine own_pre (T' := s₁) (g' := (mkF m 1 L1 [(.long b)])) (fun t k => XT.lloadN X0.here hx rfl (v := b) (hb hby d4_0) (by rw [← hL1]; rfl) k) ?_
  refine own_pre (T' := s₁) (g' := (mkF m 3 #[.val (.double g), .second, .val (.long b), .second, .val (.int i), .val (.int n), .val (.int q0), .val (.int q1), .val (.long sc), .second, .val (.long v0), .second, .val (.long v1), .second, .val (.long b), .second] [])) (fun t k => XT.lstore X0.here hx rfl (hb hby d4_1) rfl (l' := #[.val (.double g), .second, .val (.long b), .second, .val (.int i), .val (.int n), .val (.int q0), .val (.int q1), .val (.long sc), .second, .val (.long v0), .second, .val (.long v1), .second, .val (.long b), .second]) (by rw [← hL1]; rfl) k) ?_
  generalize hL2 : (#[.val (.double g), .second, .val (.long b), .second, .val (.int i), .val (.int n), .val (.int q0), .val (.int q1), .val (.long sc), .second, .val (.long v0), .second, .val (.long v1), .second, .val (.long b), .second] : Array Slot) = L2
  refine own_pre (T' := s₁) (g' := (mkF m 5 L2 [(.int n)])) (fun t k => XS.iload X0.here hx rfl (v := n) (hb hby d4_3) (by rw [← hL2]; rfl) k) ?_
  refine own_pre (T' := s₁) (g' := (mkF m 6 L2 [(.int (1 : Int32)), (.int n)])) (fun t k => XS.iconst X0.here hx rfl (hb hby d4_5) k) ?_
  by_cases hn1 : n < (1 : Int32)
  · skip
    refine own_pre (T' := s₁) (g' := (mkF m 26 L2 [])) (fun t k => XS.icmpYes X0.here hx rfl (pc0 := 6) (pc' := 26) rfl (hb hby d4_6) rfl (tlt hn1).1 (by decide) (by decide) k) ?_
    have hC0 := hc0.symm.trans (if_neg (fun q => q.1 hn1))
    refine own_pre (T' := s₁) (g' := (mkF m 28 L2 [(.int n)])) (fun t k => XS.iload X0.here hx rfl (v := n) (hb hby d4_26) (by rw [← hL2]; rfl) k) ?_
    refine own_pre (T' := s₁) (g' := (mkF m 29 L2 [(.int (2 : Int32)), (.int n)])) (fun t k => XS.iconst X0.here hx rfl (hb hby d4_28) k) ?_
    by_cases hn2 : n < (2 : Int32)
    · skip
      refine own_pre (T' := s₁) (g' := (mkF m 49 L2 [])) (fun t k => XS.icmpYes X0.here hx rfl (pc0 := 29) (pc' := 49) rfl (hb hby d4_29) rfl (tlt hn2).1 (by decide) (by decide) k) ?_
      have hC1 := hc1.symm.trans (if_neg (fun q => q.1 hn2))
      refine own_pre (T' := s₁) (g' := (mkF m 50 L2 [(.double g)])) (fun t k => XS.dloadN X0.here hx rfl (v := g) (hb hby d4_49) (by rw [← hL2]; rfl) k) ?_
      refine own_pre (T' := s₁) (g' := (mkF m 52 L2 [(.long b), (.double g)])) (fun t k => XT.lload X0.here hx rfl (v := b) (hb hby d4_50) (by rw [← hL2]; rfl) k) ?_
      obtain ⟨f3, hf3⟩ : ∃ z, FP.l2d b = z := ⟨_, rfl⟩
      refine own_pre (T' := s₁) (g' := (mkF m 53 L2 [(.double f3), (.double g)])) (fun t k => XS.l2dS X0.here hx rfl (hb hby d4_52) rfl hf3 k) ?_
      have hX : b.toInt = b.toInt + c0 + c1 := own_x hC0 hC1 own_y0
      have Df3 : Jvm.FP.Core.DInt b.toInt f3 := hf3 ▸ Jvm.FP.Core.l2d_int (own_bnd hX hbb kb0 kb1)
      obtain ⟨k4, hk4⟩ : ∃ z, own_c (b.toInt + c0 + c1) b.toInt = z := ⟨_, rfl⟩
      refine own_pre (T' := s₁) (g' := (mkF m 54 L2 [(.int k4)])) (fun t k => XS.dcmpS X0.here hx rfl (hb hby d4_53) rfl ((own_dcmp D Df3 _).trans hk4) k) ?_
      have hk0 : k4 = (0 : Int32) := by rw [← hk4, own_c_eq]; exact hX.symm
      refine own_pre (T' := s₁) (g' := (mkF m 57 L2 [])) (fun t k => XS.ifNo X0.here hx rfl (hb hby d4_54) rfl ((if0 _ _).trans (teq hk0).2) k) ?_
      refine own_pre (T' := s₁) (g' := (mkF m 58 L2 [(.int (1 : Int32))])) (fun t k => XS.iconst X0.here hx rfl (hb hby d4_57) k) ?_
      refine own_pre (T' := s₁) (g' := (mkF m 62 L2 [(.int (1 : Int32))])) (fun t k => XS.goto X0.here hx rfl (pc0 := 58) (pc' := 62) rfl (hb hby d4_58) (by decide) (by decide) k) ?_
      exact own_retZ X0 hx hlk hret rfl (hb hby d4_62) e0 ⟨rfl, N0, rfl⟩ (by decide) (by decide)
    · skip
      refine own_pre (T' := s₁) (g' := (mkF m 32 L2 [])) (fun t k => XS.icmpNo X0.here hx rfl (hb hby d4_29) rfl (flt hn2).1 k) ?_
      refine own_pre (T' := s₁) (g' := (mkF m 34 L2 [(.int i)])) (fun t k => XS.iload X0.here hx rfl (v := i) (hb hby d4_32) (by rw [← hL2]; rfl) k) ?_
      refine own_pre (T' := s₁) (g' := (mkF m 36 L2 [(.int q1), (.int i)])) (fun t k => XS.iload X0.here hx rfl (v := q1) (hb hby d4_34) (by rw [← hL2]; rfl) k) ?_
      by_cases hi1 : i = q1
      · skip
        refine own_pre (T' := s₁) (g' := (mkF m 39 L2 [])) (fun t k => XS.icmpNo X0.here hx rfl (hb hby d4_36) rfl (teq hi1).2 k) ?_
        refine own_pre (T' := s₁) (g' := (mkF m 41 L2 [(.long b)])) (fun t k => XT.lload X0.here hx rfl (v := b) (hb hby d4_39) (by rw [← hL2]; rfl) k) ?_
        refine own_pre (T' := s₁) (g' := (mkF m 43 L2 [(.long sc), (.long b)])) (fun t k => XT.lload X0.here hx rfl (v := sc) (hb hby d4_41) (by rw [← hL2]; rfl) k) ?_
        refine own_pre (T' := s₁) (g' := (mkF m 45 L2 [(.long v1), (.long sc), (.long b)])) (fun t k => XT.lload X0.here hx rfl (v := v1) (hb hby d4_43) (by rw [← hL2]; rfl) k) ?_
        refine own_pre (T' := s₁) (g' := (mkF m 46 L2 [(.long (sc * v1)), (.long b)])) (fun t k => XT.lmul X0.here hx rfl (hb hby d4_45) rfl k) ?_
        refine own_pre (T' := s₁) (g' := (mkF m 47 L2 [(.long (b + (sc * v1)))])) (fun t k => XT.ladd X0.here hx rfl (hb hby d4_46) rfl k) ?_
        generalize hv5 : b + (sc * v1) = v5
        refine own_pre (T' := s₁) (g' := (mkF m 49 #[.val (.double g), .second, .val (.long b), .second, .val (.int i), .val (.int n), .val (.int q0), .val (.int q1), .val (.long sc), .second, .val (.long v0), .second, .val (.long v1), .second, .val (.long v5), .second] [])) (fun t k => XT.lstore X0.here hx rfl (hb hby d4_47) rfl (l' := #[.val (.double g), .second, .val (.long b), .second, .val (.int i), .val (.int n), .val (.int q0), .val (.int q1), .val (.long sc), .second, .val (.long v0), .second, .val (.long v1), .second, .val (.long v5), .second]) (by rw [← hL2]; rfl) k) ?_
        generalize hL6 : (#[.val (.double g), .second, .val (.long b), .second, .val (.int i), .val (.int n), .val (.int q0), .val (.int q1), .val (.long sc), .second, .val (.long v0), .second, .val (.long v1), .second, .val (.long v5), .second] : Array Slot) = L6
        have hC1 := hc1.symm.trans (if_pos ⟨hn2, hi1⟩)
        have hu := own_acc hv5 (own_b52 hbb) h2
        refine own_pre (T' := s₁) (g' := (mkF m 50 L6 [(.double g)])) (fun t k => XS.dloadN X0.here hx rfl (v := g) (hb hby d4_49) (by rw [← hL6]; rfl) k) ?_
        refine own_pre (T' := s₁) (g' := (mkF m 52 L6 [(.long v5), (.double g)])) (fun t k => XT.lload X0.here hx rfl (v := v5) (hb hby d4_50) (by rw [← hL6]; rfl) k) ?_
        obtain ⟨f7, hf7⟩ : ∃ z, FP.l2d v5 = z := ⟨_, rfl⟩
        refine own_pre (T' := s₁) (g' := (mkF m 53 L6 [(.double f7), (.double g)])) (fun t k => XS.l2dS X0.here hx rfl (hb hby d4_52) rfl hf7 k) ?_
        have hX : v5.toInt = b.toInt + c0 + c1 := own_x hC0 hC1 (own_y2 hu)
        have Df7 : Jvm.FP.Core.DInt v5.toInt f7 := hf7 ▸ Jvm.FP.Core.l2d_int (own_bnd hX hbb kb0 kb1)
        obtain ⟨k8, hk8⟩ : ∃ z, own_c (b.toInt + c0 + c1) v5.toInt = z := ⟨_, rfl⟩
        refine own_pre (T' := s₁) (g' := (mkF m 54 L6 [(.int k8)])) (fun t k => XS.dcmpS X0.here hx rfl (hb hby d4_53) rfl ((own_dcmp D Df7 _).trans hk8) k) ?_
        have hk0 : k8 = (0 : Int32) := by rw [← hk8, own_c_eq]; exact hX.symm
        refine own_pre (T' := s₁) (g' := (mkF m 57 L6 [])) (fun t k => XS.ifNo X0.here hx rfl (hb hby d4_54) rfl ((if0 _ _).trans (teq hk0).2) k) ?_
        refine own_pre (T' := s₁) (g' := (mkF m 58 L6 [(.int (1 : Int32))])) (fun t k => XS.iconst X0.here hx rfl (hb hby d4_57) k) ?_
        refine own_pre (T' := s₁) (g' := (mkF m 62 L6 [(.int (1 : Int32))])) (fun t k => XS.goto X0.here hx rfl (pc0 := 58) (pc' := 62) rfl (hb hby d4_58) (by decide) (by decide) k) ?_
        exact own_retZ X0 hx hlk hret rfl (hb hby d4_62) e0 ⟨rfl, N0, rfl⟩ (by decide) (by decide)
      · skip
        refine own_pre (T' := s₁) (g' := (mkF m 49 L2 [])) (fun t k => XS.icmpYes X0.here hx rfl (pc0 := 36) (pc' := 49) rfl (hb hby d4_36) rfl (feq hi1).2 (by decide) (by decide) k) ?_
        have hC1 := hc1.symm.trans (if_neg (fun q => hi1 q.2))
        refine own_pre (T' := s₁) (g' := (mkF m 50 L2 [(.double g)])) (fun t k => XS.dloadN X0.here hx rfl (v := g) (hb hby d4_49) (by rw [← hL2]; rfl) k) ?_
        refine own_pre (T' := s₁) (g' := (mkF m 52 L2 [(.long b), (.double g)])) (fun t k => XT.lload X0.here hx rfl (v := b) (hb hby d4_50) (by rw [← hL2]; rfl) k) ?_
        obtain ⟨f9, hf9⟩ : ∃ z, FP.l2d b = z := ⟨_, rfl⟩
        refine own_pre (T' := s₁) (g' := (mkF m 53 L2 [(.double f9), (.double g)])) (fun t k => XS.l2dS X0.here hx rfl (hb hby d4_52) rfl hf9 k) ?_
        have hX : b.toInt = b.toInt + c0 + c1 := own_x hC0 hC1 own_y0
        have Df9 : Jvm.FP.Core.DInt b.toInt f9 := hf9 ▸ Jvm.FP.Core.l2d_int (own_bnd hX hbb kb0 kb1)
        obtain ⟨k10, hk10⟩ : ∃ z, own_c (b.toInt + c0 + c1) b.toInt = z := ⟨_, rfl⟩
        refine own_pre (T' := s₁) (g' := (mkF m 54 L2 [(.int k10)])) (fun t k => XS.dcmpS X0.here hx rfl (hb hby d4_53) rfl ((own_dcmp D Df9 _).trans hk10) k) ?_
        have hk0 : k10 = (0 : Int32) := by rw [← hk10, own_c_eq]; exact hX.symm
        refine own_pre (T' := s₁) (g' := (mkF m 57 L2 [])) (fun t k => XS.ifNo X0.here hx rfl (hb hby d4_54) rfl ((if0 _ _).trans (teq hk0).2) k) ?_
        refine own_pre (T' := s₁) (g' := (mkF m 58 L2 [(.int (1 : Int32))])) (fun t k => XS.iconst X0.here hx rfl (hb hby d4_57) k) ?_
        refine own_pre (T' := s₁) (g' := (mkF m 62 L2 [(.int (1 : Int32))])) (fun t k => XS.goto X0.here hx rfl (pc0 := 58) (pc' := 62) rfl (hb hby d4_58) (by decide) (by decide) k) ?_
        exact own_retZ X0 hx hlk hret rfl (hb hby d4_62) e0 ⟨rfl, N0, rfl⟩ (by decide) (by decide)
  · skip
    refine own_pre (T' := s₁) (g' := (mkF m 9 L2 [])) (fun t k => XS.icmpNo X0.here hx rfl (hb hby d4_6) rfl (flt hn1).1 k) ?_
    refine own_pre (T' := s₁) (g' := (mkF m 11 L2 [(.int i)])) (fun t k => XS.iload X0.here hx rfl (v := i) (hb hby d4_9) (by rw [← hL2]; rfl) k) ?_
    refine own_pre (T' := s₁) (g' := (mkF m 13 L2 [(.int q0), (.int i)])) (fun t k => XS.iload X0.here hx rfl (v := q0) (hb hby d4_11) (by rw [← hL2]; rfl) k) ?_
    by_cases hi0 : i = q0
    · skip
      refine own_pre (T' := s₁) (g' := (mkF m 16 L2 [])) (fun t k => XS.icmpNo X0.here hx rfl (hb hby d4_13) rfl (teq hi0).2 k) ?_
      refine own_pre (T' := s₁) (g' := (mkF m 18 L2 [(.long b)])) (fun t k => XT.lload X0.here hx rfl (v := b) (hb hby d4_16) (by rw [← hL2]; rfl) k) ?_
      refine own_pre (T' := s₁) (g' := (mkF m 20 L2 [(.long sc), (.long b)])) (fun t k => XT.lload X0.here hx rfl (v := sc) (hb hby d4_18) (by rw [← hL2]; rfl) k) ?_
      refine own_pre (T' := s₁) (g' := (mkF m 22 L2 [(.long v0), (.long sc), (.long b)])) (fun t k => XT.lload X0.here hx rfl (v := v0) (hb hby d4_20) (by rw [← hL2]; rfl) k) ?_
      refine own_pre (T' := s₁) (g' := (mkF m 23 L2 [(.long (sc * v0)), (.long b)])) (fun t k => XT.lmul X0.here hx rfl (hb hby d4_22) rfl k) ?_
      refine own_pre (T' := s₁) (g' := (mkF m 24 L2 [(.long (b + (sc * v0)))])) (fun t k => XT.ladd X0.here hx rfl (hb hby d4_23) rfl k) ?_
      generalize hv11 : b + (sc * v0) = v11
      refine own_pre (T' := s₁) (g' := (mkF m 26 #[.val (.double g), .second, .val (.long b), .second, .val (.int i), .val (.int n), .val (.int q0), .val (.int q1), .val (.long sc), .second, .val (.long v0), .second, .val (.long v1), .second, .val (.long v11), .second] [])) (fun t k => XT.lstore X0.here hx rfl (hb hby d4_24) rfl (l' := #[.val (.double g), .second, .val (.long b), .second, .val (.int i), .val (.int n), .val (.int q0), .val (.int q1), .val (.long sc), .second, .val (.long v0), .second, .val (.long v1), .second, .val (.long v11), .second]) (by rw [← hL2]; rfl) k) ?_
      generalize hL12 : (#[.val (.double g), .second, .val (.long b), .second, .val (.int i), .val (.int n), .val (.int q0), .val (.int q1), .val (.long sc), .second, .val (.long v0), .second, .val (.long v1), .second, .val (.long v11), .second] : Array Slot) = L12
      have hz := own_acc hv11 (own_b52 hbb) h1
      have hC0 := hc0.symm.trans (if_pos ⟨hn1, hi0⟩)
      refine own_pre (T' := s₁) (g' := (mkF m 28 L12 [(.int n)])) (fun t k => XS.iload X0.here hx rfl (v := n) (hb hby d4_26) (by rw [← hL12]; rfl) k) ?_
      refine own_pre (T' := s₁) (g' := (mkF m 29 L12 [(.int (2 : Int32)), (.int n)])) (fun t k => XS.iconst X0.here hx rfl (hb hby d4_28) k) ?_
      by_cases hn2 : n < (2 : Int32)
      · skip
        refine own_pre (T' := s₁) (g' := (mkF m 49 L12 [])) (fun t k => XS.icmpYes X0.here hx rfl (pc0 := 29) (pc' := 49) rfl (hb hby d4_29) rfl (tlt hn2).1 (by decide) (by decide) k) ?_
        have hC1 := hc1.symm.trans (if_neg (fun q => q.1 hn2))
        refine own_pre (T' := s₁) (g' := (mkF m 50 L12 [(.double g)])) (fun t k => XS.dloadN X0.here hx rfl (v := g) (hb hby d4_49) (by rw [← hL12]; rfl) k) ?_
        refine own_pre (T' := s₁) (g' := (mkF m 52 L12 [(.long v11), (.double g)])) (fun t k => XT.lload X0.here hx rfl (v := v11) (hb hby d4_50) (by rw [← hL12]; rfl) k) ?_
        obtain ⟨f13, hf13⟩ : ∃ z, FP.l2d v11 = z := ⟨_, rfl⟩
        refine own_pre (T' := s₁) (g' := (mkF m 53 L12 [(.double f13), (.double g)])) (fun t k => XS.l2dS X0.here hx rfl (hb hby d4_52) rfl hf13 k) ?_
        have hX : v11.toInt = b.toInt + c0 + c1 := own_x hC0 hC1 (own_y1 hz)
        have Df13 : Jvm.FP.Core.DInt v11.toInt f13 := hf13 ▸ Jvm.FP.Core.l2d_int (own_bnd hX hbb kb0 kb1)
        obtain ⟨k14, hk14⟩ : ∃ z, own_c (b.toInt + c0 + c1) v11.toInt = z := ⟨_, rfl⟩
        refine own_pre (T' := s₁) (g' := (mkF m 54 L12 [(.int k14)])) (fun t k => XS.dcmpS X0.here hx rfl (hb hby d4_53) rfl ((own_dcmp D Df13 _).trans hk14) k) ?_
        have hk0 : k14 = (0 : Int32) := by rw [← hk14, own_c_eq]; exact hX.symm
        refine own_pre (T' := s₁) (g' := (mkF m 57 L12 [])) (fun t k => XS.ifNo X0.here hx rfl (hb hby d4_54) rfl ((if0 _ _).trans (teq hk0).2) k) ?_
        refine own_pre (T' := s₁) (g' := (mkF m 58 L12 [(.int (1 : Int32))])) (fun t k => XS.iconst X0.here hx rfl (hb hby d4_57) k) ?_
        refine own_pre (T' := s₁) (g' := (mkF m 62 L12 [(.int (1 : Int32))])) (fun t k => XS.goto X0.here hx rfl (pc0 := 58) (pc' := 62) rfl (hb hby d4_58) (by decide) (by decide) k) ?_
        exact own_retZ X0 hx hlk hret rfl (hb hby d4_62) e0 ⟨rfl, N0, rfl⟩ (by decide) (by decide)
      · skip
        refine own_pre (T' := s₁) (g' := (mkF m 32 L12 [])) (fun t k => XS.icmpNo X0.here hx rfl (hb hby d4_29) rfl (flt hn2).1 k) ?_
        refine own_pre (T' := s₁) (g' := (mkF m 34 L12 [(.int i)])) (fun t k => XS.iload X0.here hx rfl (v := i) (hb hby d4_32) (by rw [← hL12]; rfl) k) ?_
        refine own_pre (T' := s₁) (g' := (mkF m 36 L12 [(.int q1), (.int i)])) (fun t k => XS.iload X0.here hx rfl (v := q1) (hb hby d4_34) (by rw [← hL12]; rfl) k) ?_
        by_cases hi1 : i = q1
        · skip
          refine own_pre (T' := s₁) (g' := (mkF m 39 L12 [])) (fun t k => XS.icmpNo X0.here hx rfl (hb hby d4_36) rfl (teq hi1).2 k) ?_
          refine own_pre (T' := s₁) (g' := (mkF m 41 L12 [(.long v11)])) (fun t k => XT.lload X0.here hx rfl (v := v11) (hb hby d4_39) (by rw [← hL12]; rfl) k) ?_
          refine own_pre (T' := s₁) (g' := (mkF m 43 L12 [(.long sc), (.long v11)])) (fun t k => XT.lload X0.here hx rfl (v := sc) (hb hby d4_41) (by rw [← hL12]; rfl) k) ?_
          refine own_pre (T' := s₁) (g' := (mkF m 45 L12 [(.long v1), (.long sc), (.long v11)])) (fun t k => XT.lload X0.here hx rfl (v := v1) (hb hby d4_43) (by rw [← hL12]; rfl) k) ?_
          refine own_pre (T' := s₁) (g' := (mkF m 46 L12 [(.long (sc * v1)), (.long v11)])) (fun t k => XT.lmul X0.here hx rfl (hb hby d4_45) rfl k) ?_
          refine own_pre (T' := s₁) (g' := (mkF m 47 L12 [(.long (v11 + (sc * v1)))])) (fun t k => XT.ladd X0.here hx rfl (hb hby d4_46) rfl k) ?_
          generalize hv15 : v11 + (sc * v1) = v15
          refine own_pre (T' := s₁) (g' := (mkF m 49 #[.val (.double g), .second, .val (.long b), .second, .val (.int i), .val (.int n), .val (.int q0), .val (.int q1), .val (.long sc), .second, .val (.long v0), .second, .val (.long v1), .second, .val (.long v15), .second] [])) (fun t k => XT.lstore X0.here hx rfl (hb hby d4_47) rfl (l' := #[.val (.double g), .second, .val (.long b), .second, .val (.int i), .val (.int n), .val (.int q0), .val (.int q1), .val (.long sc), .second, .val (.long v0), .second, .val (.long v1), .second, .val (.long v15), .second]) (by rw [← hL12]; rfl) k) ?_
          generalize hL16 : (#[.val (.double g), .second, .val (.long b), .second, .val (.int i), .val (.int n), .val (.int q0), .val (.int q1), .val (.long sc), .second, .val (.long v0), .second, .val (.long v1), .second, .val (.long v15), .second] : Array Slot) = L16
          have hC1 := hc1.symm.trans (if_pos ⟨hn2, hi1⟩)
          have hu := own_acc hv15 (own_zb hz hbb h1) h2
          refine own_pre (T' := s₁) (g' := (mkF m 50 L16 [(.double g)])) (fun t k => XS.dloadN X0.here hx rfl (v := g) (hb hby d4_49) (by rw [← hL16]; rfl) k) ?_
          refine own_pre (T' := s₁) (g' := (mkF m 52 L16 [(.long v15), (.double g)])) (fun t k => XT.lload X0.here hx rfl (v := v15) (hb hby d4_50) (by rw [← hL16]; rfl) k) ?_
          obtain ⟨f17, hf17⟩ : ∃ z, FP.l2d v15 = z := ⟨_, rfl⟩
          refine own_pre (T' := s₁) (g' := (mkF m 53 L16 [(.double f17), (.double g)])) (fun t k => XS.l2dS X0.here hx rfl (hb hby d4_52) rfl hf17 k) ?_
          have hX : v15.toInt = b.toInt + c0 + c1 := own_x hC0 hC1 (own_y3 hz hu)
          have Df17 : Jvm.FP.Core.DInt v15.toInt f17 := hf17 ▸ Jvm.FP.Core.l2d_int (own_bnd hX hbb kb0 kb1)
          obtain ⟨k18, hk18⟩ : ∃ z, own_c (b.toInt + c0 + c1) v15.toInt = z := ⟨_, rfl⟩
          refine own_pre (T' := s₁) (g' := (mkF m 54 L16 [(.int k18)])) (fun t k => XS.dcmpS X0.here hx rfl (hb hby d4_53) rfl ((own_dcmp D Df17 _).trans hk18) k) ?_
          have hk0 : k18 = (0 : Int32) := by rw [← hk18, own_c_eq]; exact hX.symm
          refine own_pre (T' := s₁) (g' := (mkF m 57 L16 [])) (fun t k => XS.ifNo X0.here hx rfl (hb hby d4_54) rfl ((if0 _ _).trans (teq hk0).2) k) ?_
          refine own_pre (T' := s₁) (g' := (mkF m 58 L16 [(.int (1 : Int32))])) (fun t k => XS.iconst X0.here hx rfl (hb hby d4_57) k) ?_
          refine own_pre (T' := s₁) (g' := (mkF m 62 L16 [(.int (1 : Int32))])) (fun t k => XS.goto X0.here hx rfl (pc0 := 58) (pc' := 62) rfl (hb hby d4_58) (by decide) (by decide) k) ?_
          exact own_retZ X0 hx hlk hret rfl (hb hby d4_62) e0 ⟨rfl, N0, rfl⟩ (by decide) (by decide)
        · skip
          refine own_pre (T' := s₁) (g' := (mkF m 49 L12 [])) (fun t k => XS.icmpYes X0.here hx rfl (pc0 := 36) (pc' := 49) rfl (hb hby d4_36) rfl (feq hi1).2 (by decide) (by decide) k) ?_
          have hC1 := hc1.symm.trans (if_neg (fun q => hi1 q.2))
          refine own_pre (T' := s₁) (g' := (mkF m 50 L12 [(.double g)])) (fun t k => XS.dloadN X0.here hx rfl (v := g) (hb hby d4_49) (by rw [← hL12]; rfl) k) ?_
          refine own_pre (T' := s₁) (g' := (mkF m 52 L12 [(.long v11), (.double g)])) (fun t k => XT.lload X0.here hx rfl (v := v11) (hb hby d4_50) (by rw [← hL12]; rfl) k) ?_
          obtain ⟨f19, hf19⟩ : ∃ z, FP.l2d v11 = z := ⟨_, rfl⟩
          refine own_pre (T' := s₁) (g' := (mkF m 53 L12 [(.double f19), (.double g)])) (fun t k => XS.l2dS X0.here hx rfl (hb hby d4_52) rfl hf19 k) ?_
          have hX : v11.toInt = b.toInt + c0 + c1 := own_x hC0 hC1 (own_y1 hz)
          have Df19 : Jvm.FP.Core.DInt v11.toInt f19 := hf19 ▸ Jvm.FP.Core.l2d_int (own_bnd hX hbb kb0 kb1)
          obtain ⟨k20, hk20⟩ : ∃ z, own_c (b.toInt + c0 + c1) v11.toInt = z := ⟨_, rfl⟩
          refine own_pre (T' := s₁) (g' := (mkF m 54 L12 [(.int k20)])) (fun t k => XS.dcmpS X0.here hx rfl (hb hby d4_53) rfl ((own_dcmp D Df19 _).trans hk20) k) ?_
          have hk0 : k20 = (0 : Int32) := by rw [← hk20, own_c_eq]; exact hX.symm
          refine own_pre (T' := s₁) (g' := (mkF m 57 L12 [])) (fun t k => XS.ifNo X0.here hx rfl (hb hby d4_54) rfl ((if0 _ _).trans (teq hk0).2) k) ?_
          refine own_pre (T' := s₁) (g' := (mkF m 58 L12 [(.int (1 : Int32))])) (fun t k => XS.iconst X0.here hx rfl (hb hby d4_57) k) ?_
          refine own_pre (T' := s₁) (g' := (mkF m 62 L12 [(.int (1 : Int32))])) (fun t k => XS.goto X0.here hx rfl (pc0 := 58) (pc' := 62) rfl (hb hby d4_58) (by decide) (by decide) k) ?_
          exact own_retZ X0 hx hlk hret rfl (hb hby d4_62) e0 ⟨rfl, N0, rfl⟩ (by decide) (by decide)
    · skip
      refine own_pre (T' := s₁) (g' := (mkF m 26 L2 [])) (fun t k => XS.icmpYes X0.here hx rfl (pc0 := 13) (pc' := 26) rfl (hb hby d4_13) rfl (feq hi0).2 (by decide) (by decide) k) ?_
      have hC0 := hc0.symm.trans (if_neg (fun q => hi0 q.2))
      refine own_pre (T' := s₁) (g' := (mkF m 28 L2 [(.int n)])) (fun t k => XS.iload X0.here hx rfl (v := n) (hb hby d4_26) (by rw [← hL2]; rfl) k) ?_
      refine own_pre (T' := s₁) (g' := (mkF m 29 L2 [(.int (2 : Int32)), (.int n)])) (fun t k => XS.iconst X0.here hx rfl (hb hby d4_28) k) ?_
      by_cases hn2 : n < (2 : Int32)
      · skip
        refine own_pre (T' := s₁) (g' := (mkF m 49 L2 [])) (fun t k => XS.icmpYes X0.here hx rfl (pc0 := 29) (pc' := 49) rfl (hb hby d4_29) rfl (tlt hn2).1 (by decide) (by decide) k) ?_
        have hC1 := hc1.symm.trans (if_neg (fun q => q.1 hn2))
        refine own_pre (T' := s₁) (g' := (mkF m 50 L2 [(.double g)])) (fun t k => XS.dloadN X0.here hx rfl (v := g) (hb hby d4_49) (by rw [← hL2]; rfl) k) ?_
        refine own_pre (T' := s₁) (g' := (mkF m 52 L2 [(.long b), (.double g)])) (fun t k => XT.lload X0.here hx rfl (v := b) (hb hby d4_50) (by rw [← hL2]; rfl) k) ?_
        obtain ⟨f21, hf21⟩ : ∃ z, FP.l2d b = z := ⟨_, rfl⟩
        refine own_pre (T' := s₁) (g' := (mkF m 53 L2 [(.double f21), (.double g)])) (fun t k => XS.l2dS X0.here hx rfl (hb hby d4_52) rfl hf21 k) ?_
        have hX : b.toInt = b.toInt + c0 + c1 := own_x hC0 hC1 own_y0
        have Df21 : Jvm.FP.Core.DInt b.toInt f21 := hf21 ▸ Jvm.FP.Core.l2d_int (own_bnd hX hbb kb0 kb1)
        obtain ⟨k22, hk22⟩ : ∃ z, own_c (b.toInt + c0 + c1) b.toInt = z := ⟨_, rfl⟩
        refine own_pre (T' := s₁) (g' := (mkF m 54 L2 [(.int k22)])) (fun t k => XS.dcmpS X0.here hx rfl (hb hby d4_53) rfl ((own_dcmp D Df21 _).trans hk22) k) ?_
        have hk0 : k22 = (0 : Int32) := by rw [← hk22, own_c_eq]; exact hX.symm
        refine own_pre (T' := s₁) (g' := (mkF m 57 L2 [])) (fun t k => XS.ifNo X0.here hx rfl (hb hby d4_54) rfl ((if0 _ _).trans (teq hk0).2) k) ?_
        refine own_pre (T' := s₁) (g' := (mkF m 58 L2 [(.int (1 : Int32))])) (fun t k => XS.iconst X0.here hx rfl (hb hby d4_57) k) ?_
        refine own_pre (T' := s₁) (g' := (mkF m 62 L2 [(.int (1 : Int32))])) (fun t k => XS.goto X0.here hx rfl (pc0 := 58) (pc' := 62) rfl (hb hby d4_58) (by decide) (by decide) k) ?_
        exact own_retZ X0 hx hlk hret rfl (hb hby d4_62) e0 ⟨rfl, N0, rfl⟩ (by decide) (by decide)
      · skip
        refine own_pre (T' := s₁) (g' := (mkF m 32 L2 [])) (fun t k => XS.icmpNo X0.here hx rfl (hb hby d4_29) rfl (flt hn2).1 k) ?_
        refine own_pre (T' := s₁) (g' := (mkF m 34 L2 [(.int i)])) (fun t k => XS.iload X0.here hx rfl (v := i) (hb hby d4_32) (by rw [← hL2]; rfl) k) ?_
        refine own_pre (T' := s₁) (g' := (mkF m 36 L2 [(.int q1), (.int i)])) (fun t k => XS.iload X0.here hx rfl (v := q1) (hb hby d4_34) (by rw [← hL2]; rfl) k) ?_
        by_cases hi1 : i = q1
        · skip
          refine own_pre (T' := s₁) (g' := (mkF m 39 L2 [])) (fun t k => XS.icmpNo X0.here hx rfl (hb hby d4_36) rfl (teq hi1).2 k) ?_
          refine own_pre (T' := s₁) (g' := (mkF m 41 L2 [(.long b)])) (fun t k => XT.lload X0.here hx rfl (v := b) (hb hby d4_39) (by rw [← hL2]; rfl) k) ?_
          refine own_pre (T' := s₁) (g' := (mkF m 43 L2 [(.long sc), (.long b)])) (fun t k => XT.lload X0.here hx rfl (v := sc) (hb hby d4_41) (by rw [← hL2]; rfl) k) ?_
          refine own_pre (T' := s₁) (g' := (mkF m 45 L2 [(.long v1), (.long sc), (.long b)])) (fun t k => XT.lload X0.here hx rfl (v := v1) (hb hby d4_43) (by rw [← hL2]; rfl) k) ?_
          refine own_pre (T' := s₁) (g' := (mkF m 46 L2 [(.long (sc * v1)), (.long b)])) (fun t k => XT.lmul X0.here hx rfl (hb hby d4_45) rfl k) ?_
          refine own_pre (T' := s₁) (g' := (mkF m 47 L2 [(.long (b + (sc * v1)))])) (fun t k => XT.ladd X0.here hx rfl (hb hby d4_46) rfl k) ?_
          generalize hv23 : b + (sc * v1) = v23
          refine own_pre (T' := s₁) (g' := (mkF m 49 #[.val (.double g), .second, .val (.long b), .second, .val (.int i), .val (.int n), .val (.int q0), .val (.int q1), .val (.long sc), .second, .val (.long v0), .second, .val (.long v1), .second, .val (.long v23), .second] [])) (fun t k => XT.lstore X0.here hx rfl (hb hby d4_47) rfl (l' := #[.val (.double g), .second, .val (.long b), .second, .val (.int i), .val (.int n), .val (.int q0), .val (.int q1), .val (.long sc), .second, .val (.long v0), .second, .val (.long v1), .second, .val (.long v23), .second]) (by rw [← hL2]; rfl) k) ?_
          generalize hL24 : (#[.val (.double g), .second, .val (.long b), .second, .val (.int i), .val (.int n), .val (.int q0), .val (.int q1), .val (.long sc), .second, .val (.long v0), .second, .val (.long v1), .second, .val (.long v23), .second] : Array Slot) = L24
          have hC1 := hc1.symm.trans (if_pos ⟨hn2, hi1⟩)
          have hu := own_acc hv23 (own_b52 hbb) h2
          refine own_pre (T' := s₁) (g' := (mkF m 50 L24 [(.double g)])) (fun t k => XS.dloadN X0.here hx rfl (v := g) (hb hby d4_49) (by rw [← hL24]; rfl) k) ?_
          refine own_pre (T' := s₁) (g' := (mkF m 52 L24 [(.long v23), (.double g)])) (fun t k => XT.lload X0.here hx rfl (v := v23) (hb hby d4_50) (by rw [← hL24]; rfl) k) ?_
          obtain ⟨f25, hf25⟩ : ∃ z, FP.l2d v23 = z := ⟨_, rfl⟩
          refine own_pre (T' := s₁) (g' := (mkF m 53 L24 [(.double f25), (.double g)])) (fun t k => XS.l2dS X0.here hx rfl (hb hby d4_52) rfl hf25 k) ?_
          have hX : v23.toInt = b.toInt + c0 + c1 := own_x hC0 hC1 (own_y2 hu)
          have Df25 : Jvm.FP.Core.DInt v23.toInt f25 := hf25 ▸ Jvm.FP.Core.l2d_int (own_bnd hX hbb kb0 kb1)
          obtain ⟨k26, hk26⟩ : ∃ z, own_c (b.toInt + c0 + c1) v23.toInt = z := ⟨_, rfl⟩
          refine own_pre (T' := s₁) (g' := (mkF m 54 L24 [(.int k26)])) (fun t k => XS.dcmpS X0.here hx rfl (hb hby d4_53) rfl ((own_dcmp D Df25 _).trans hk26) k) ?_
          have hk0 : k26 = (0 : Int32) := by rw [← hk26, own_c_eq]; exact hX.symm
          refine own_pre (T' := s₁) (g' := (mkF m 57 L24 [])) (fun t k => XS.ifNo X0.here hx rfl (hb hby d4_54) rfl ((if0 _ _).trans (teq hk0).2) k) ?_
          refine own_pre (T' := s₁) (g' := (mkF m 58 L24 [(.int (1 : Int32))])) (fun t k => XS.iconst X0.here hx rfl (hb hby d4_57) k) ?_
          refine own_pre (T' := s₁) (g' := (mkF m 62 L24 [(.int (1 : Int32))])) (fun t k => XS.goto X0.here hx rfl (pc0 := 58) (pc' := 62) rfl (hb hby d4_58) (by decide) (by decide) k) ?_
          exact own_retZ X0 hx hlk hret rfl (hb hby d4_62) e0 ⟨rfl, N0, rfl⟩ (by decide) (by decide)
        · skip
          refine own_pre (T' := s₁) (g' := (mkF m 49 L2 [])) (fun t k => XS.icmpYes X0.here hx rfl (pc0 := 36) (pc' := 49) rfl (hb hby d4_36) rfl (feq hi1).2 (by decide) (by decide) k) ?_
          have hC1 := hc1.symm.trans (if_neg (fun q => hi1 q.2))
          refine own_pre (T' := s₁) (g' := (mkF m 50 L2 [(.double g)])) (fun t k => XS.dloadN X0.here hx rfl (v := g) (hb hby d4_49) (by rw [← hL2]; rfl) k) ?_
          refine own_pre (T' := s₁) (g' := (mkF m 52 L2 [(.long b), (.double g)])) (fun t k => XT.lload X0.here hx rfl (v := b) (hb hby d4_50) (by rw [← hL2]; rfl) k) ?_
          obtain ⟨f27, hf27⟩ : ∃ z, FP.l2d b = z := ⟨_, rfl⟩
          refine own_pre (T' := s₁) (g' := (mkF m 53 L2 [(.double f27), (.double g)])) (fun t k => XS.l2dS X0.here hx rfl (hb hby d4_52) rfl hf27 k) ?_
          have hX : b.toInt = b.toInt + c0 + c1 := own_x hC0 hC1 own_y0
          have Df27 : Jvm.FP.Core.DInt b.toInt f27 := hf27 ▸ Jvm.FP.Core.l2d_int (own_bnd hX hbb kb0 kb1)
          obtain ⟨k28, hk28⟩ : ∃ z, own_c (b.toInt + c0 + c1) b.toInt = z := ⟨_, rfl⟩
          refine own_pre (T' := s₁) (g' := (mkF m 54 L2 [(.int k28)])) (fun t k => XS.dcmpS X0.here hx rfl (hb hby d4_53) rfl ((own_dcmp D Df27 _).trans hk28) k) ?_
          have hk0 : k28 = (0 : Int32) := by rw [← hk28, own_c_eq]; exact hX.symm
          refine own_pre (T' := s₁) (g' := (mkF m 57 L2 [])) (fun t k => XS.ifNo X0.here hx rfl (hb hby d4_54) rfl ((if0 _ _).trans (teq hk0).2) k) ?_
          refine own_pre (T' := s₁) (g' := (mkF m 58 L2 [(.int (1 : Int32))])) (fun t k => XS.iconst X0.here hx rfl (hb hby d4_57) k) ?_
          refine own_pre (T' := s₁) (g' := (mkF m 62 L2 [(.int (1 : Int32))])) (fun t k => XS.goto X0.here hx rfl (pc0 := 58) (pc' := 62) rfl (hb hby d4_58) (by decide) (by decide) k) ?_
          exact own_retZ X0 hx hlk hret rfl (hb hby d4_62) e0 ⟨rfl, N0, rfl⟩ (by decide) (by decide)
theorem own_pd0 : parseMethodDescriptor "([I[D)V" = some ⟨[(.array .int), (.array .double)], none⟩ := by decide +kernel
theorem own_pd1 : parseMethodDescriptor "([DD)V" = some ⟨[(.array .double), .double], none⟩ := by decide +kernel
theorem own_pd2 : parseMethodDescriptor "(DJIIIIJJJ)Z" = some ⟨[.double, .long, .int, .int, .int, .int, .long, .long, .long], some .boolean⟩ := by decide +kernel
def own_law_Q (Z : State) (p0 p1 p2 p3 : Int32) (p4 : Int64) (h0 : Heap) (n0 : Nat) (v_ : Option Value) (h_ : Heap) (L_ : List Loc) : Prop := (fun v h L => v = some (.int 1) ∧ Fr n0 L) v_ h_ L_
set_option maxRecDepth 65536 in
set_option maxHeartbeats 40000000 in
theorem own_law (l : Launch) (Z : State) (a0 : Array Value) (hw : ∀ d ∈ tables_1, d.before a0 Z = true) (wds : List Jvm.Cond) (p0 p1 p2 p3 : Int32) (p4 : Int64) (h0 : Heap) (n0 : Nat) (Z0 : n0 ≤ h0.size)  :
    MetFree l x (head1 (Jvm.Cond.code x code maxLocals ret :: wds) room_1) (fun ar_ U_ => ar_ = #[(.int p0), (.int p1), (.int p2), (.int p3), (.long p4)] ∧ Z.Warmed39 U_.vm ∧ U_.heap = h0) (fun _ _ _ _ _ => True) (fun _ U_ o_ V_ => ∃ v_ L_, o_ = .returned v_ ∧ own_law_Q Z p0 p1 p2 p3 p4 h0 n0 v_ V_.heap L_ ∧ FrameEnd U_ o_ V_ L_ room_1.cells room_1.slots) := by
  refine own_met (y := x) (Q := own_law_Q Z p0 p1 p2 p3 p4 h0 n0) own_pn1 ?_
  intro p e s m below meth c s₁ hx hby hml hZ hown hnm hret hlk X0 e0
  have N0 := Fr.nil n0
  refine own_cast (g' := (mkF m 0 #[.val (.int p0), .val (.int p1), .val (.int p2), .val (.int p3), .val (.long p4), .second, .unset, .unset, .unset, .unset, .unset, .unset, .unset, .unset, .unset, .unset, .unset, .unset, .unset, .unset, .unset, .unset, .unset, .unset, .unset, .unset, .unset, .unset, .unset, .unset, .unset] [])) (by first | (simp [entryFrame, mkF, argsToLocals, Value.category, maxLocals]; done) | rfl) ?_
  generalize hL1 : (#[.val (.int p0), .val (.int p1), .val (.int p2), .val (.int p3), .val (.long p4), .second, .unset, .unset, .unset, .unset, .unset, .unset, .unset, .unset, .unset, .unset, .unset, .unset, .unset, .unset, .unset, .unset, .unset, .unset, .unset, .unset, .unset, .unset, .unset, .unset, .unset] : Array Slot) = L1
  refine own_pre (T' := s₁) (g' := (mkF m 1 L1 [(.int p0)])) (fun t k => XS.iloadN X0.here hx rfl (v := p0) (hb hby at_0) (by rw [← hL1]; rfl) k) ?_
  refine own_pre (T' := s₁) (g' := (mkF m 2 L1 [(.int (3 : Int32)), (.int p0)])) (fun t k => XS.iconst X0.here hx rfl (hb hby at_1) k) ?_
  refine own_pre (T' := s₁) (g' := (mkF m 3 L1 [(.int (p0 &&& (3 : Int32)))])) (fun t k => XS.iand X0.here hx rfl (hb hby at_2) rfl k) ?_
  generalize hv2 : p0 &&& (3 : Int32) = v2
  refine own_pre (T' := s₁) (g' := (mkF m 5 #[.val (.int p0), .val (.int p1), .val (.int p2), .val (.int p3), .val (.long p4), .second, .val (.int v2), .unset, .unset, .unset, .unset, .unset, .unset, .unset, .unset, .unset, .unset, .unset, .unset, .unset, .unset, .unset, .unset, .unset, .unset, .unset, .unset, .unset, .unset, .unset, .unset] [])) (fun t k => XS.istore X0.here hx rfl (hb hby at_3) rfl (l' := #[.val (.int p0), .val (.int p1), .val (.int p2), .val (.int p3), .val (.long p4), .second, .val (.int v2), .unset, .unset, .unset, .unset, .unset, .unset, .unset, .unset, .unset, .unset, .unset, .unset, .unset, .unset, .unset, .unset, .unset, .unset, .unset, .unset, .unset, .unset, .unset, .unset]) (by rw [← hL1]; rfl) k) ?_
  generalize hL3 : (#[.val (.int p0), .val (.int p1), .val (.int p2), .val (.int p3), .val (.long p4), .second, .val (.int v2), .unset, .unset, .unset, .unset, .unset, .unset, .unset, .unset, .unset, .unset, .unset, .unset, .unset, .unset, .unset, .unset, .unset, .unset, .unset, .unset, .unset, .unset, .unset, .unset] : Array Slot) = L3
  refine own_pre (T' := s₁) (g' := (mkF m 7 L3 [(.int v2)])) (fun t k => XS.iload X0.here hx rfl (v := v2) (hb hby at_5) (by rw [← hL3]; rfl) k) ?_
  refine own_pre (T' := s₁) (g' := (mkF m 8 L3 [(.int (3 : Int32)), (.int v2)])) (fun t k => XS.iconst X0.here hx rfl (hb hby at_7) k) ?_
  rcases own_four (own_n3 hv2) with hc | hc | hc | hc
  · skip
    subst hc
    show own_Go _ _ _ _ _ _ _ s₁ (mkF m 8 L3 [(.int (3 : Int32)), (.int (0 : Int32))])
    refine own_pre (T' := s₁) (g' := (mkF m 14 L3 [])) (fun t k => XS.icmpYes X0.here hx rfl (pc0 := 8) (pc' := 14) rfl (hb hby at_8) rfl (by decide) (by decide) (by decide) k) ?_
    refine own_pre (T' := s₁) (g' := (mkF m 15 L3 [(.int p0)])) (fun t k => XS.iloadN X0.here hx rfl (v := p0) (hb hby at_14) (by rw [← hL3]; rfl) k) ?_
    refine own_pre (T' := s₁) (g' := (mkF m 16 L3 [(.int (2 : Int32)), (.int p0)])) (fun t k => XS.iconst X0.here hx rfl (hb hby at_15) k) ?_
    refine own_pre (T' := s₁) (g' := (mkF m 17 L3 [(.int (XT.ushr p0 (2 : Int32)))])) (fun t k => XT.iushr X0.here hx rfl (hb hby at_16) rfl k) ?_
    refine own_pre (T' := s₁) (g' := (mkF m 18 L3 [(.int (3 : Int32)), (.int (XT.ushr p0 (2 : Int32)))])) (fun t k => XS.iconst X0.here hx rfl (hb hby at_17) k) ?_
    refine own_pre (T' := s₁) (g' := (mkF m 19 L3 [(.int ((XT.ushr p0 (2 : Int32)) &&& (3 : Int32)))])) (fun t k => XS.iand X0.here hx rfl (hb hby at_18) rfl k) ?_
    generalize hv4 : (XT.ushr p0 (2 : Int32)) &&& (3 : Int32) = v4
    refine own_pre (T' := s₁) (g' := (mkF m 21 #[.val (.int p0), .val (.int p1), .val (.int p2), .val (.int p3), .val (.long p4), .second, .val (.int (0 : Int32)), .val (.int v4), .unset, .unset, .unset, .unset, .unset, .unset, .unset, .unset, .unset, .unset, .unset, .unset, .unset, .unset, .unset, .unset, .unset, .unset, .unset, .unset, .unset, .unset, .unset] [])) (fun t k => XS.istore X0.here hx rfl (hb hby at_19) rfl (l' := #[.val (.int p0), .val (.int p1), .val (.int p2), .val (.int p3), .val (.long p4), .second, .val (.int (0 : Int32)), .val (.int v4), .unset, .unset, .unset, .unset, .unset, .unset, .unset, .unset, .unset, .unset, .unset, .unset, .unset, .unset, .unset, .unset, .unset, .unset, .unset, .unset, .unset, .unset, .unset]) (by rw [← hL3]; rfl) k) ?_
    generalize hL5 : (#[.val (.int p0), .val (.int p1), .val (.int p2), .val (.int p3), .val (.long p4), .second, .val (.int (0 : Int32)), .val (.int v4), .unset, .unset, .unset, .unset, .unset, .unset, .unset, .unset, .unset, .unset, .unset, .unset, .unset, .unset, .unset, .unset, .unset, .unset, .unset, .unset, .unset, .unset, .unset] : Array Slot) = L5
    refine own_pre (T' := s₁) (g' := (mkF m 23 L5 [(.int v4)])) (fun t k => XS.iload X0.here hx rfl (v := v4) (hb hby at_21) (by rw [← hL5]; rfl) k) ?_
    refine own_pre (T' := s₁) (g' := (mkF m 24 L5 [(.int (1 : Int32)), (.int v4)])) (fun t k => XS.iconst X0.here hx rfl (hb hby at_23) k) ?_
    refine own_pre (T' := s₁) (g' := (mkF m 25 L5 [(.int (v4 + (1 : Int32)))])) (fun t k => XS.iadd X0.here hx rfl (hb hby at_24) rfl k) ?_
    refine own_pre (T' := s₁) (g' := (mkF m 26 L5 [(.int p0), (.int (v4 + (1 : Int32)))])) (fun t k => XS.iloadN X0.here hx rfl (v := p0) (hb hby at_25) (by rw [← hL5]; rfl) k) ?_
    refine own_pre (T' := s₁) (g' := (mkF m 27 L5 [(.int (4 : Int32)), (.int p0), (.int (v4 + (1 : Int32)))])) (fun t k => XS.iconst X0.here hx rfl (hb hby at_26) k) ?_
    refine own_pre (T' := s₁) (g' := (mkF m 28 L5 [(.int (XT.ushr p0 (4 : Int32))), (.int (v4 + (1 : Int32)))])) (fun t k => XT.iushr X0.here hx rfl (hb hby at_27) rfl k) ?_
    refine own_pre (T' := s₁) (g' := (mkF m 29 L5 [(.int (1 : Int32)), (.int (XT.ushr p0 (4 : Int32))), (.int (v4 + (1 : Int32)))])) (fun t k => XS.iconst X0.here hx rfl (hb hby at_28) k) ?_
    refine own_pre (T' := s₁) (g' := (mkF m 30 L5 [(.int ((XT.ushr p0 (4 : Int32)) &&& (1 : Int32))), (.int (v4 + (1 : Int32)))])) (fun t k => XS.iand X0.here hx rfl (hb hby at_29) rfl k) ?_
    refine own_pre (T' := s₁) (g' := (mkF m 31 L5 [(.int ((v4 + (1 : Int32)) + ((XT.ushr p0 (4 : Int32)) &&& (1 : Int32))))])) (fun t k => XS.iadd X0.here hx rfl (hb hby at_30) rfl k) ?_
    generalize hv6 : (v4 + (1 : Int32)) + ((XT.ushr p0 (4 : Int32)) &&& (1 : Int32)) = v6
    refine own_pre (T' := s₁) (g' := (mkF m 33 #[.val (.int p0), .val (.int p1), .val (.int p2), .val (.int p3), .val (.long p4), .second, .val (.int (0 : Int32)), .val (.int v4), .val (.int v6), .unset, .unset, .unset, .unset, .unset, .unset, .unset, .unset, .unset, .unset, .unset, .unset, .unset, .unset, .unset, .unset, .unset, .unset, .unset, .unset, .unset, .unset] [])) (fun t k => XS.istore X0.here hx rfl (hb hby at_31) rfl (l' := #[.val (.int p0), .val (.int p1), .val (.int p2), .val (.int p3), .val (.long p4), .second, .val (.int (0 : Int32)), .val (.int v4), .val (.int v6), .unset, .unset, .unset, .unset, .unset, .unset, .unset, .unset, .unset, .unset, .unset, .unset, .unset, .unset, .unset, .unset, .unset, .unset, .unset, .unset, .unset, .unset]) (by rw [← hL5]; rfl) k) ?_
    generalize hL7 : (#[.val (.int p0), .val (.int p1), .val (.int p2), .val (.int p3), .val (.long p4), .second, .val (.int (0 : Int32)), .val (.int v4), .val (.int v6), .unset, .unset, .unset, .unset, .unset, .unset, .unset, .unset, .unset, .unset, .unset, .unset, .unset, .unset, .unset, .unset, .unset, .unset, .unset, .unset, .unset, .unset] : Array Slot) = L7
    refine own_pre (T' := s₁) (g' := (mkF m 34 L7 [(.int p1)])) (fun t k => XS.iloadN X0.here hx rfl (v := p1) (hb hby at_33) (by rw [← hL7]; rfl) k) ?_
    refine own_pre (T' := s₁) (g' := (mkF m 35 L7 [(.int p1.toInt16.toInt32)])) (fun t k => XT.i2s X0.here hx rfl (hb hby at_34) rfl k) ?_
    refine own_pre (T' := s₁) (g' := (mkF m 36 L7 [(.long p1.toInt16.toInt32.toInt64)])) (fun t k => XT.i2l X0.here hx rfl (hb hby at_35) rfl k) ?_
    generalize hv8 : p1.toInt16.toInt32.toInt64 = v8
    refine own_pre (T' := s₁) (g' := (mkF m 38 #[.val (.int p0), .val (.int p1), .val (.int p2), .val (.int p3), .val (.long p4), .second, .val (.int (0 : Int32)), .val (.int v4), .val (.int v6), .val (.long v8), .second, .unset, .unset, .unset, .unset, .unset, .unset, .unset, .unset, .unset, .unset, .unset, .unset, .unset, .unset, .unset, .unset, .unset, .unset, .unset, .unset] [])) (fun t k => XT.lstore X0.here hx rfl (hb hby at_36) rfl (l' := #[.val (.int p0), .val (.int p1), .val (.int p2), .val (.int p3), .val (.long p4), .second, .val (.int (0 : Int32)), .val (.int v4), .val (.int v6), .val (.long v8), .second, .unset, .unset, .unset, .unset, .unset, .unset, .unset, .unset, .unset, .unset, .unset, .unset, .unset, .unset, .unset, .unset, .unset, .unset, .unset, .unset]) (by rw [← hL7]; rfl) k) ?_
    generalize hL9 : (#[.val (.int p0), .val (.int p1), .val (.int p2), .val (.int p3), .val (.long p4), .second, .val (.int (0 : Int32)), .val (.int v4), .val (.int v6), .val (.long v8), .second, .unset, .unset, .unset, .unset, .unset, .unset, .unset, .unset, .unset, .unset, .unset, .unset, .unset, .unset, .unset, .unset, .unset, .unset, .unset, .unset] : Array Slot) = L9
    refine own_pre (T' := s₁) (g' := (mkF m 39 L9 [(.int p1)])) (fun t k => XS.iloadN X0.here hx rfl (v := p1) (hb hby at_38) (by rw [← hL9]; rfl) k) ?_
    refine own_pre (T' := s₁) (g' := (mkF m 41 L9 [(.int (16 : Int32)), (.int p1)])) (fun t k => XS.bipush X0.here hx rfl (hb hby at_39) k) ?_
    refine own_pre (T' := s₁) (g' := (mkF m 42 L9 [(.int (p1 >>> ((16 : Int32) &&& 31)))])) (fun t k => XT.ishr X0.here hx rfl (hb hby at_41) rfl k) ?_
    refine own_pre (T' := s₁) (g' := (mkF m 43 L9 [(.int ((p1 >>> ((16 : Int32) &&& 31)).toInt16.toInt32))])) (fun t k => XT.i2s X0.here hx rfl (hb hby at_42) rfl k) ?_
    refine own_pre (T' := s₁) (g' := (mkF m 44 L9 [(.long (((p1 >>> ((16 : Int32) &&& 31)).toInt16.toInt32).toInt64))])) (fun t k => XT.i2l X0.here hx rfl (hb hby at_43) rfl k) ?_
    generalize hv10 : ((p1 >>> ((16 : Int32) &&& 31)).toInt16.toInt32).toInt64 = v10
    refine own_pre (T' := s₁) (g' := (mkF m 46 #[.val (.int p0), .val (.int p1), .val (.int p2), .val (.int p3), .val (.long p4), .second, .val (.int (0 : Int32)), .val (.int v4), .val (.int v6), .val (.long v8), .second, .val (.long v10), .second, .unset, .unset, .unset, .unset, .unset, .unset, .unset, .unset, .unset, .unset, .unset, .unset, .unset, .unset, .unset, .unset, .unset, .unset] [])) (fun t k => XT.lstore X0.here hx rfl (hb hby at_44) rfl (l' := #[.val (.int p0), .val (.int p1), .val (.int p2), .val (.int p3), .val (.long p4), .second, .val (.int (0 : Int32)), .val (.int v4), .val (.int v6), .val (.long v8), .second, .val (.long v10), .second, .unset, .unset, .unset, .unset, .unset, .unset, .unset, .unset, .unset, .unset, .unset, .unset, .unset, .unset, .unset, .unset, .unset, .unset]) (by rw [← hL9]; rfl) k) ?_
    generalize hL11 : (#[.val (.int p0), .val (.int p1), .val (.int p2), .val (.int p3), .val (.long p4), .second, .val (.int (0 : Int32)), .val (.int v4), .val (.int v6), .val (.long v8), .second, .val (.long v10), .second, .unset, .unset, .unset, .unset, .unset, .unset, .unset, .unset, .unset, .unset, .unset, .unset, .unset, .unset, .unset, .unset, .unset, .unset] : Array Slot) = L11
    refine own_pre (T' := s₁) (g' := (mkF m 47 L11 [(.int p2)])) (fun t k => XS.iloadN X0.here hx rfl (v := p2) (hb hby at_46) (by rw [← hL11]; rfl) k) ?_
    refine own_pre (T' := s₁) (g' := (mkF m 48 L11 [(.int p2.toInt16.toInt32)])) (fun t k => XT.i2s X0.here hx rfl (hb hby at_47) rfl k) ?_
    refine own_pre (T' := s₁) (g' := (mkF m 49 L11 [(.long p2.toInt16.toInt32.toInt64)])) (fun t k => XT.i2l X0.here hx rfl (hb hby at_48) rfl k) ?_
    generalize hv12 : p2.toInt16.toInt32.toInt64 = v12
    refine own_pre (T' := s₁) (g' := (mkF m 51 #[.val (.int p0), .val (.int p1), .val (.int p2), .val (.int p3), .val (.long p4), .second, .val (.int (0 : Int32)), .val (.int v4), .val (.int v6), .val (.long v8), .second, .val (.long v10), .second, .val (.long v12), .second, .unset, .unset, .unset, .unset, .unset, .unset, .unset, .unset, .unset, .unset, .unset, .unset, .unset, .unset, .unset, .unset] [])) (fun t k => XT.lstore X0.here hx rfl (hb hby at_49) rfl (l' := #[.val (.int p0), .val (.int p1), .val (.int p2), .val (.int p3), .val (.long p4), .second, .val (.int (0 : Int32)), .val (.int v4), .val (.int v6), .val (.long v8), .second, .val (.long v10), .second, .val (.long v12), .second, .unset, .unset, .unset, .unset, .unset, .unset, .unset, .unset, .unset, .unset, .unset, .unset, .unset, .unset, .unset, .unset]) (by rw [← hL11]; rfl) k) ?_
    generalize hL13 : (#[.val (.int p0), .val (.int p1), .val (.int p2), .val (.int p3), .val (.long p4), .second, .val (.int (0 : Int32)), .val (.int v4), .val (.int v6), .val (.long v8), .second, .val (.long v10), .second, .val (.long v12), .second, .unset, .unset, .unset, .unset, .unset, .unset, .unset, .unset, .unset, .unset, .unset, .unset, .unset, .unset, .unset, .unset] : Array Slot) = L13
    refine own_pre (T' := s₁) (g' := (mkF m 53 L13 [(.long p4)])) (fun t k => XT.lload X0.here hx rfl (v := p4) (hb hby at_51) (by rw [← hL13]; rfl) k) ?_
    refine own_pre (T' := s₁) (g' := (mkF m 54 L13 [(.int p4.toInt32)])) (fun t k => XT.l2i X0.here hx rfl (hb hby at_53) rfl k) ?_
    refine own_pre (T' := s₁) (g' := (mkF m 55 L13 [(.int p4.toInt32.toInt16.toInt32)])) (fun t k => XT.i2s X0.here hx rfl (hb hby at_54) rfl k) ?_
    refine own_pre (T' := s₁) (g' := (mkF m 56 L13 [(.long p4.toInt32.toInt16.toInt32.toInt64)])) (fun t k => XT.i2l X0.here hx rfl (hb hby at_55) rfl k) ?_
    generalize hv14 : p4.toInt32.toInt16.toInt32.toInt64 = v14
    refine own_pre (T' := s₁) (g' := (mkF m 58 #[.val (.int p0), .val (.int p1), .val (.int p2), .val (.int p3), .val (.long p4), .second, .val (.int (0 : Int32)), .val (.int v4), .val (.int v6), .val (.long v8), .second, .val (.long v10), .second, .val (.long v12), .second, .val (.long v14), .second, .unset, .unset, .unset, .unset, .unset, .unset, .unset, .unset, .unset, .unset, .unset, .unset, .unset, .unset] [])) (fun t k => XT.lstore X0.here hx rfl (hb hby at_56) rfl (l' := #[.val (.int p0), .val (.int p1), .val (.int p2), .val (.int p3), .val (.long p4), .second, .val (.int (0 : Int32)), .val (.int v4), .val (.int v6), .val (.long v8), .second, .val (.long v10), .second, .val (.long v12), .second, .val (.long v14), .second, .unset, .unset, .unset, .unset, .unset, .unset, .unset, .unset, .unset, .unset, .unset, .unset, .unset, .unset]) (by rw [← hL13]; rfl) k) ?_
    generalize hL15 : (#[.val (.int p0), .val (.int p1), .val (.int p2), .val (.int p3), .val (.long p4), .second, .val (.int (0 : Int32)), .val (.int v4), .val (.int v6), .val (.long v8), .second, .val (.long v10), .second, .val (.long v12), .second, .val (.long v14), .second, .unset, .unset, .unset, .unset, .unset, .unset, .unset, .unset, .unset, .unset, .unset, .unset, .unset, .unset] : Array Slot) = L15
    refine own_pre (T' := s₁) (g' := (mkF m 60 L15 [(.long p4)])) (fun t k => XT.lload X0.here hx rfl (v := p4) (hb hby at_58) (by rw [← hL15]; rfl) k) ?_
    refine own_pre (T' := s₁) (g' := (mkF m 62 L15 [(.int (16 : Int32)), (.long p4)])) (fun t k => XS.bipush X0.here hx rfl (hb hby at_60) k) ?_
    refine own_pre (T' := s₁) (g' := (mkF m 63 L15 [(.long (p4 >>> ((16 : Int32).toInt64 &&& 63)))])) (fun t k => XT.lshr X0.here hx rfl (hb hby at_62) rfl k) ?_
    refine own_pre (T' := s₁) (g' := (mkF m 64 L15 [(.int ((p4 >>> ((16 : Int32).toInt64 &&& 63)).toInt32))])) (fun t k => XT.l2i X0.here hx rfl (hb hby at_63) rfl k) ?_
    refine own_pre (T' := s₁) (g' := (mkF m 65 L15 [(.int (((p4 >>> ((16 : Int32).toInt64 &&& 63)).toInt32).toInt16.toInt32))])) (fun t k => XT.i2s X0.here hx rfl (hb hby at_64) rfl k) ?_
    refine own_pre (T' := s₁) (g' := (mkF m 66 L15 [(.long ((((p4 >>> ((16 : Int32).toInt64 &&& 63)).toInt32).toInt16.toInt32).toInt64))])) (fun t k => XT.i2l X0.here hx rfl (hb hby at_65) rfl k) ?_
    generalize hv16 : (((p4 >>> ((16 : Int32).toInt64 &&& 63)).toInt32).toInt16.toInt32).toInt64 = v16
    refine own_pre (T' := s₁) (g' := (mkF m 68 #[.val (.int p0), .val (.int p1), .val (.int p2), .val (.int p3), .val (.long p4), .second, .val (.int (0 : Int32)), .val (.int v4), .val (.int v6), .val (.long v8), .second, .val (.long v10), .second, .val (.long v12), .second, .val (.long v14), .second, .val (.long v16), .second, .unset, .unset, .unset, .unset, .unset, .unset, .unset, .unset, .unset, .unset, .unset, .unset] [])) (fun t k => XT.lstore X0.here hx rfl (hb hby at_66) rfl (l' := #[.val (.int p0), .val (.int p1), .val (.int p2), .val (.int p3), .val (.long p4), .second, .val (.int (0 : Int32)), .val (.int v4), .val (.int v6), .val (.long v8), .second, .val (.long v10), .second, .val (.long v12), .second, .val (.long v14), .second, .val (.long v16), .second, .unset, .unset, .unset, .unset, .unset, .unset, .unset, .unset, .unset, .unset, .unset, .unset]) (by rw [← hL15]; rfl) k) ?_
    generalize hL17 : (#[.val (.int p0), .val (.int p1), .val (.int p2), .val (.int p3), .val (.long p4), .second, .val (.int (0 : Int32)), .val (.int v4), .val (.int v6), .val (.long v8), .second, .val (.long v10), .second, .val (.long v12), .second, .val (.long v14), .second, .val (.long v16), .second, .unset, .unset, .unset, .unset, .unset, .unset, .unset, .unset, .unset, .unset, .unset, .unset] : Array Slot) = L17
    refine own_pre (T' := s₁) (g' := (mkF m 70 L17 [(.long p4)])) (fun t k => XT.lload X0.here hx rfl (v := p4) (hb hby at_68) (by rw [← hL17]; rfl) k) ?_
    refine own_pre (T' := s₁) (g' := (mkF m 72 L17 [(.int (32 : Int32)), (.long p4)])) (fun t k => XS.bipush X0.here hx rfl (hb hby at_70) k) ?_
    refine own_pre (T' := s₁) (g' := (mkF m 73 L17 [(.long (p4 >>> ((32 : Int32).toInt64 &&& 63)))])) (fun t k => XT.lshr X0.here hx rfl (hb hby at_72) rfl k) ?_
    refine own_pre (T' := s₁) (g' := (mkF m 74 L17 [(.int ((p4 >>> ((32 : Int32).toInt64 &&& 63)).toInt32))])) (fun t k => XT.l2i X0.here hx rfl (hb hby at_73) rfl k) ?_
    refine own_pre (T' := s₁) (g' := (mkF m 75 L17 [(.int (((p4 >>> ((32 : Int32).toInt64 &&& 63)).toInt32).toInt16.toInt32))])) (fun t k => XT.i2s X0.here hx rfl (hb hby at_74) rfl k) ?_
    refine own_pre (T' := s₁) (g' := (mkF m 76 L17 [(.long ((((p4 >>> ((32 : Int32).toInt64 &&& 63)).toInt32).toInt16.toInt32).toInt64))])) (fun t k => XT.i2l X0.here hx rfl (hb hby at_75) rfl k) ?_
    generalize hv18 : (((p4 >>> ((32 : Int32).toInt64 &&& 63)).toInt32).toInt16.toInt32).toInt64 = v18
    refine own_pre (T' := s₁) (g' := (mkF m 78 #[.val (.int p0), .val (.int p1), .val (.int p2), .val (.int p3), .val (.long p4), .second, .val (.int (0 : Int32)), .val (.int v4), .val (.int v6), .val (.long v8), .second, .val (.long v10), .second, .val (.long v12), .second, .val (.long v14), .second, .val (.long v16), .second, .val (.long v18), .second, .unset, .unset, .unset, .unset, .unset, .unset, .unset, .unset, .unset, .unset] [])) (fun t k => XT.lstore X0.here hx rfl (hb hby at_76) rfl (l' := #[.val (.int p0), .val (.int p1), .val (.int p2), .val (.int p3), .val (.long p4), .second, .val (.int (0 : Int32)), .val (.int v4), .val (.int v6), .val (.long v8), .second, .val (.long v10), .second, .val (.long v12), .second, .val (.long v14), .second, .val (.long v16), .second, .val (.long v18), .second, .unset, .unset, .unset, .unset, .unset, .unset, .unset, .unset, .unset, .unset]) (by rw [← hL17]; rfl) k) ?_
    generalize hL19 : (#[.val (.int p0), .val (.int p1), .val (.int p2), .val (.int p3), .val (.long p4), .second, .val (.int (0 : Int32)), .val (.int v4), .val (.int v6), .val (.long v8), .second, .val (.long v10), .second, .val (.long v12), .second, .val (.long v14), .second, .val (.long v16), .second, .val (.long v18), .second, .unset, .unset, .unset, .unset, .unset, .unset, .unset, .unset, .unset, .unset] : Array Slot) = L19
    refine own_pre (T' := s₁) (g' := (mkF m 80 L19 [(.long p4)])) (fun t k => XT.lload X0.here hx rfl (v := p4) (hb hby at_78) (by rw [← hL19]; rfl) k) ?_
    refine own_pre (T' := s₁) (g' := (mkF m 82 L19 [(.int (48 : Int32)), (.long p4)])) (fun t k => XS.bipush X0.here hx rfl (hb hby at_80) k) ?_
    refine own_pre (T' := s₁) (g' := (mkF m 83 L19 [(.long (p4 >>> ((48 : Int32).toInt64 &&& 63)))])) (fun t k => XT.lshr X0.here hx rfl (hb hby at_82) rfl k) ?_
    refine own_pre (T' := s₁) (g' := (mkF m 84 L19 [(.int ((p4 >>> ((48 : Int32).toInt64 &&& 63)).toInt32))])) (fun t k => XT.l2i X0.here hx rfl (hb hby at_83) rfl k) ?_
    refine own_pre (T' := s₁) (g' := (mkF m 85 L19 [(.int (((p4 >>> ((48 : Int32).toInt64 &&& 63)).toInt32).toInt16.toInt32))])) (fun t k => XT.i2s X0.here hx rfl (hb hby at_84) rfl k) ?_
    refine own_pre (T' := s₁) (g' := (mkF m 86 L19 [(.long ((((p4 >>> ((48 : Int32).toInt64 &&& 63)).toInt32).toInt16.toInt32).toInt64))])) (fun t k => XT.i2l X0.here hx rfl (hb hby at_85) rfl k) ?_
    generalize hv20 : (((p4 >>> ((48 : Int32).toInt64 &&& 63)).toInt32).toInt16.toInt32).toInt64 = v20
    refine own_pre (T' := s₁) (g' := (mkF m 88 #[.val (.int p0), .val (.int p1), .val (.int p2), .val (.int p3), .val (.long p4), .second, .val (.int (0 : Int32)), .val (.int v4), .val (.int v6), .val (.long v8), .second, .val (.long v10), .second, .val (.long v12), .second, .val (.long v14), .second, .val (.long v16), .second, .val (.long v18), .second, .val (.long v20), .second, .unset, .unset, .unset, .unset, .unset, .unset, .unset, .unset] [])) (fun t k => XT.lstore X0.here hx rfl (hb hby at_86) rfl (l' := #[.val (.int p0), .val (.int p1), .val (.int p2), .val (.int p3), .val (.long p4), .second, .val (.int (0 : Int32)), .val (.int v4), .val (.int v6), .val (.long v8), .second, .val (.long v10), .second, .val (.long v12), .second, .val (.long v14), .second, .val (.long v16), .second, .val (.long v18), .second, .val (.long v20), .second, .unset, .unset, .unset, .unset, .unset, .unset, .unset, .unset]) (by rw [← hL19]; rfl) k) ?_
    generalize hL21 : (#[.val (.int p0), .val (.int p1), .val (.int p2), .val (.int p3), .val (.long p4), .second, .val (.int (0 : Int32)), .val (.int v4), .val (.int v6), .val (.long v8), .second, .val (.long v10), .second, .val (.long v12), .second, .val (.long v14), .second, .val (.long v16), .second, .val (.long v18), .second, .val (.long v20), .second, .unset, .unset, .unset, .unset, .unset, .unset, .unset, .unset] : Array Slot) = L21
    refine own_pre (T' := s₁) (g' := (mkF m 89 L21 [(.int p3)])) (fun t k => XS.iloadN X0.here hx rfl (v := p3) (hb hby at_88) (by rw [← hL21]; rfl) k) ?_
    refine own_pre (T' := s₁) (g' := (mkF m 90 L21 [(.int p3.toInt16.toInt32)])) (fun t k => XT.i2s X0.here hx rfl (hb hby at_89) rfl k) ?_
    refine own_pre (T' := s₁) (g' := (mkF m 91 L21 [(.long p3.toInt16.toInt32.toInt64)])) (fun t k => XT.i2l X0.here hx rfl (hb hby at_90) rfl k) ?_
    generalize hv22 : p3.toInt16.toInt32.toInt64 = v22
    refine own_pre (T' := s₁) (g' := (mkF m 93 #[.val (.int p0), .val (.int p1), .val (.int p2), .val (.int p3), .val (.long p4), .second, .val (.int (0 : Int32)), .val (.int v4), .val (.int v6), .val (.long v8), .second, .val (.long v10), .second, .val (.long v12), .second, .val (.long v14), .second, .val (.long v16), .second, .val (.long v18), .second, .val (.long v20), .second, .val (.long v22), .second, .unset, .unset, .unset, .unset, .unset, .unset] [])) (fun t k => XT.lstore X0.here hx rfl (hb hby at_91) rfl (l' := #[.val (.int p0), .val (.int p1), .val (.int p2), .val (.int p3), .val (.long p4), .second, .val (.int (0 : Int32)), .val (.int v4), .val (.int v6), .val (.long v8), .second, .val (.long v10), .second, .val (.long v12), .second, .val (.long v14), .second, .val (.long v16), .second, .val (.long v18), .second, .val (.long v20), .second, .val (.long v22), .second, .unset, .unset, .unset, .unset, .unset, .unset]) (by rw [← hL21]; rfl) k) ?_
    generalize hL23 : (#[.val (.int p0), .val (.int p1), .val (.int p2), .val (.int p3), .val (.long p4), .second, .val (.int (0 : Int32)), .val (.int v4), .val (.int v6), .val (.long v8), .second, .val (.long v10), .second, .val (.long v12), .second, .val (.long v14), .second, .val (.long v16), .second, .val (.long v18), .second, .val (.long v20), .second, .val (.long v22), .second, .unset, .unset, .unset, .unset, .unset, .unset] : Array Slot) = L23
    refine own_pre (T' := s₁) (g' := (mkF m 94 L23 [(.int p3)])) (fun t k => XS.iloadN X0.here hx rfl (v := p3) (hb hby at_93) (by rw [← hL23]; rfl) k) ?_
    refine own_pre (T' := s₁) (g' := (mkF m 96 L23 [(.int (16 : Int32)), (.int p3)])) (fun t k => XS.bipush X0.here hx rfl (hb hby at_94) k) ?_
    refine own_pre (T' := s₁) (g' := (mkF m 97 L23 [(.int (p3 >>> ((16 : Int32) &&& 31)))])) (fun t k => XT.ishr X0.here hx rfl (hb hby at_96) rfl k) ?_
    refine own_pre (T' := s₁) (g' := (mkF m 98 L23 [(.int ((p3 >>> ((16 : Int32) &&& 31)).toInt16.toInt32))])) (fun t k => XT.i2s X0.here hx rfl (hb hby at_97) rfl k) ?_
    refine own_pre (T' := s₁) (g' := (mkF m 99 L23 [(.long (((p3 >>> ((16 : Int32) &&& 31)).toInt16.toInt32).toInt64))])) (fun t k => XT.i2l X0.here hx rfl (hb hby at_98) rfl k) ?_
    generalize hv24 : ((p3 >>> ((16 : Int32) &&& 31)).toInt16.toInt32).toInt64 = v24
    refine own_pre (T' := s₁) (g' := (mkF m 101 #[.val (.int p0), .val (.int p1), .val (.int p2), .val (.int p3), .val (.long p4), .second, .val (.int (0 : Int32)), .val (.int v4), .val (.int v6), .val (.long v8), .second, .val (.long v10), .second, .val (.long v12), .second, .val (.long v14), .second, .val (.long v16), .second, .val (.long v18), .second, .val (.long v20), .second, .val (.long v22), .second, .val (.long v24), .second, .unset, .unset, .unset, .unset] [])) (fun t k => XT.lstore X0.here hx rfl (hb hby at_99) rfl (l' := #[.val (.int p0), .val (.int p1), .val (.int p2), .val (.int p3), .val (.long p4), .second, .val (.int (0 : Int32)), .val (.int v4), .val (.int v6), .val (.long v8), .second, .val (.long v10), .second, .val (.long v12), .second, .val (.long v14), .second, .val (.long v16), .second, .val (.long v18), .second, .val (.long v20), .second, .val (.long v22), .second, .val (.long v24), .second, .unset, .unset, .unset, .unset]) (by rw [← hL23]; rfl) k) ?_
    generalize hL25 : (#[.val (.int p0), .val (.int p1), .val (.int p2), .val (.int p3), .val (.long p4), .second, .val (.int (0 : Int32)), .val (.int v4), .val (.int v6), .val (.long v8), .second, .val (.long v10), .second, .val (.long v12), .second, .val (.long v14), .second, .val (.long v16), .second, .val (.long v18), .second, .val (.long v20), .second, .val (.long v22), .second, .val (.long v24), .second, .unset, .unset, .unset, .unset] : Array Slot) = L25
    obtain ⟨hq0, hq1, hqq⟩ := own_pos p0 v4 v6 hv4 hv6
    have Bv8 := own_sb _ v8 hv8
    have Bv10 := own_sb _ v10 hv10
    have Bv12 := own_sb _ v12 hv12
    have Bv14 := own_sb _ v14 hv14
    have Bv16 := own_sb _ v16 hv16
    have Bv18 := own_sb _ v18 hv18
    have Bv20 := own_sb _ v20 hv20
    have Bv22 := own_sb _ v22 hv22
    have Bv24 := own_sb _ v24 hv24
    have P0 := own_prod Bv12 Bv8
    have P1 := own_prod Bv12 Bv10
    refine own_pre (T' := s₁) (g' := (mkF m 103 L25 [(.int (0 : Int32))])) (fun t k => XS.iload X0.here hx rfl (v := (0 : Int32)) (hb hby at_101) (by rw [← hL25]; rfl) k) ?_
    refine own_pre (T' := s₁) (g' := (mkF m 106 L25 [])) (fun t k => XS.ifNo X0.here hx rfl (hb hby at_103) rfl (by decide) k) ?_
    refine own_pre (T' := s₁) (g' := (mkF m 107 L25 [(.int (0 : Int32))])) (fun t k => XS.iconst X0.here hx rfl (hb hby at_106) k) ?_
    refine own_newarr X0 hx hZ (aty := .int) (hw _ (List.mem_of_getElem? (i := 0) rfl)) e0 (hb hby at_107) (n := 0) (by decide) (by decide) (by decide) (by decide) (by decide) (ad := "[I") rfl ?_
    intro T26 h26 a26 g26 X26 e26 E26 A26 B26
    have nw27 : n0 ≤ a26 := Nat.le_trans Z0 (Nat.le_of_eq g26.symm)
    have F28 : own_Ary Z h26 a26 .int [] := A26
    show own_Go _ _ _ _ _ _ _ T26 (mkF m 109 L25 [(.ref a26)])
    refine own_pre (T' := T26) (g' := (mkF m 111 #[.val (.int p0), .val (.int p1), .val (.int p2), .val (.int p3), .val (.long p4), .second, .val (.int (0 : Int32)), .val (.int v4), .val (.int v6), .val (.long v8), .second, .val (.long v10), .second, .val (.long v12), .second, .val (.long v14), .second, .val (.long v16), .second, .val (.long v18), .second, .val (.long v20), .second, .val (.long v22), .second, .val (.long v24), .second, .val (.ref a26), .unset, .unset, .unset] [])) (fun t k => XS.astore X26.here hx rfl (hb hby at_109) rfl rfl (l' := #[.val (.int p0), .val (.int p1), .val (.int p2), .val (.int p3), .val (.long p4), .second, .val (.int (0 : Int32)), .val (.int v4), .val (.int v6), .val (.long v8), .second, .val (.long v10), .second, .val (.long v12), .second, .val (.long v14), .second, .val (.long v16), .second, .val (.long v18), .second, .val (.long v20), .second, .val (.long v22), .second, .val (.long v24), .second, .val (.ref a26), .unset, .unset, .unset]) (by rw [← hL25]; rfl) k) ?_
    generalize hL29 : (#[.val (.int p0), .val (.int p1), .val (.int p2), .val (.int p3), .val (.long p4), .second, .val (.int (0 : Int32)), .val (.int v4), .val (.int v6), .val (.long v8), .second, .val (.long v10), .second, .val (.long v12), .second, .val (.long v14), .second, .val (.long v16), .second, .val (.long v18), .second, .val (.long v20), .second, .val (.long v22), .second, .val (.long v24), .second, .val (.ref a26), .unset, .unset, .unset] : Array Slot) = L29
    refine own_pre (T' := T26) (g' := (mkF m 112 L29 [(.int (0 : Int32))])) (fun t k => XS.iconst X26.here hx rfl (hb hby at_111) k) ?_
    have F30 : n0 ≤ h26.size := (Nat.le_trans Z0 E26.1)
    refine own_newarr X26 hx hZ (aty := .double) (hw _ (List.mem_of_getElem? (i := 1) rfl)) e26 (hb hby at_112) (n := 0) (by decide) (by decide) (by decide) (by decide) (by decide) (ad := "[D") rfl ?_
    intro T31 h31 a31 g31 X31 e31 E31 A31 B31
    have lt32 : a26 < a31 := Nat.lt_of_lt_of_le F28.lt (Nat.le_of_eq g31.symm)
    have nw33 : n0 ≤ a31 := Nat.le_trans F30 (Nat.le_of_eq g31.symm)
    have F34 : own_Ary Z h31 a31 .double [] := A31
    show own_Go _ _ _ _ _ _ _ T31 (mkF m 114 L29 [(.ref a31)])
    refine own_pre (T' := T31) (g' := (mkF m 116 #[.val (.int p0), .val (.int p1), .val (.int p2), .val (.int p3), .val (.long p4), .second, .val (.int (0 : Int32)), .val (.int v4), .val (.int v6), .val (.long v8), .second, .val (.long v10), .second, .val (.long v12), .second, .val (.long v14), .second, .val (.long v16), .second, .val (.long v18), .second, .val (.long v20), .second, .val (.long v22), .second, .val (.long v24), .second, .val (.ref a26), .val (.ref a31), .unset, .unset] [])) (fun t k => XS.astore X31.here hx rfl (hb hby at_114) rfl rfl (l' := #[.val (.int p0), .val (.int p1), .val (.int p2), .val (.int p3), .val (.long p4), .second, .val (.int (0 : Int32)), .val (.int v4), .val (.int v6), .val (.long v8), .second, .val (.long v10), .second, .val (.long v12), .second, .val (.long v14), .second, .val (.long v16), .second, .val (.long v18), .second, .val (.long v20), .second, .val (.long v22), .second, .val (.long v24), .second, .val (.ref a26), .val (.ref a31), .unset, .unset]) (by rw [← hL29]; rfl) k) ?_
    generalize hL35 : (#[.val (.int p0), .val (.int p1), .val (.int p2), .val (.int p3), .val (.long p4), .second, .val (.int (0 : Int32)), .val (.int v4), .val (.int v6), .val (.long v8), .second, .val (.long v10), .second, .val (.long v12), .second, .val (.long v14), .second, .val (.long v16), .second, .val (.long v18), .second, .val (.long v20), .second, .val (.long v22), .second, .val (.long v24), .second, .val (.ref a26), .val (.ref a31), .unset, .unset] : Array Slot) = L35
    refine own_pre (T' := T31) (g' := (mkF m 181 L35 [])) (fun t k => XS.goto X31.here hx rfl (pc0 := 116) (pc' := 181) rfl (hb hby at_116) (by decide) (by decide) k) ?_
    refine own_pre (T' := T31) (g' := (mkF m 183 L35 [(.int (6 : Int32))])) (fun t k => XS.bipush X31.here hx rfl (hb hby at_181) k) ?_
    have F36 : own_Ary Z h31 a26 .int [] := (F28.ext E31)
    have F37 : n0 ≤ h31.size := (Nat.le_trans F30 E31.1)
    refine own_newarr X31 hx hZ (aty := .double) (hw _ (List.mem_of_getElem? (i := 1) rfl)) e31 (hb hby at_183) (n := 6) (by decide) (by decide) (by decide) (by decide) (by decide) (ad := "[D") rfl ?_
    intro T38 h38 a38 g38 X38 e38 E38 A38 B38
    have lt39 : a26 < a38 := Nat.lt_of_lt_of_le F36.lt (Nat.le_of_eq g38.symm)
    have lt40 : a31 < a38 := Nat.lt_of_lt_of_le F34.lt (Nat.le_of_eq g38.symm)
    have nw41 : n0 ≤ a38 := Nat.le_trans F37 (Nat.le_of_eq g38.symm)
    have F42 : own_Ary Z h38 a38 .double [(.double (0 : UInt64)), (.double (0 : UInt64)), (.double (0 : UInt64)), (.double (0 : UInt64)), (.double (0 : UInt64)), (.double (0 : UInt64))] := A38
    show own_Go _ _ _ _ _ _ _ T38 (mkF m 185 L35 [(.ref a38)])
    refine own_pre (T' := T38) (g' := (mkF m 186 L35 [(.ref a38), (.ref a38)])) (fun t k => XS.dup X38.here hx rfl (hb hby at_185) rfl rfl k) ?_
    refine own_pre (T' := T38) (g' := (mkF m 187 L35 [(.int (0 : Int32)), (.ref a38), (.ref a38)])) (fun t k => XS.iconst X38.here hx rfl (hb hby at_186) k) ?_
    refine own_pre (T' := T38) (g' := (mkF m 189 L35 [(.long v14), (.int (0 : Int32)), (.ref a38), (.ref a38)])) (fun t k => XT.lload X38.here hx rfl (v := v14) (hb hby at_187) (by rw [← hL35]; rfl) k) ?_
    obtain ⟨f43, hf43⟩ : ∃ z, FP.l2d v14 = z := ⟨_, rfl⟩
    refine own_pre (T' := T38) (g' := (mkF m 190 L35 [(.double f43), (.int (0 : Int32)), (.ref a38), (.ref a38)])) (fun t k => XS.l2dS X38.here hx rfl (hb hby at_189) rfl hf43 k) ?_
    have Df43 : Jvm.FP.Core.DInt v14.toInt f43 := hf43 ▸ Jvm.FP.Core.l2d_int (own_abs Bv14)
    refine own_dastore X38 hx hZ e38 N0 nw41 F42 (hb hby at_190) (n := 0) (by decide) (by decide) (by show 0 < 6; decide) ?_
    intro T44 h44 lo44 X44 e44 N44 W44
    have F45 : own_Ary Z h44 a38 .double [(.double f43), (.double (0 : UInt64)), (.double (0 : UInt64)), (.double (0 : UInt64)), (.double (0 : UInt64)), (.double (0 : UInt64))] := F42.set W44
    show own_Go _ _ _ _ _ _ _ T44 (mkF m 191 L35 [(.ref a38)])
    refine own_pre (T' := T44) (g' := (mkF m 192 L35 [(.ref a38), (.ref a38)])) (fun t k => XS.dup X44.here hx rfl (hb hby at_191) rfl rfl k) ?_
    refine own_pre (T' := T44) (g' := (mkF m 193 L35 [(.int (1 : Int32)), (.ref a38), (.ref a38)])) (fun t k => XS.iconst X44.here hx rfl (hb hby at_192) k) ?_
    refine own_pre (T' := T44) (g' := (mkF m 195 L35 [(.long v16), (.int (1 : Int32)), (.ref a38), (.ref a38)])) (fun t k => XT.lload X44.here hx rfl (v := v16) (hb hby at_193) (by rw [← hL35]; rfl) k) ?_
    obtain ⟨f46, hf46⟩ : ∃ z, FP.l2d v16 = z := ⟨_, rfl⟩
    refine own_pre (T' := T44) (g' := (mkF m 196 L35 [(.double f46), (.int (1 : Int32)), (.ref a38), (.ref a38)])) (fun t k => XS.l2dS X44.here hx rfl (hb hby at_195) rfl hf46 k) ?_
    have Df46 : Jvm.FP.Core.DInt v16.toInt f46 := hf46 ▸ Jvm.FP.Core.l2d_int (own_abs Bv16)
    refine own_dastore X44 hx hZ e44 N44 nw41 F45 (hb hby at_196) (n := 1) (by decide) (by decide) (by show 1 < 6; decide) ?_
    intro T47 h47 lo47 X47 e47 N47 W47
    have F48 : own_Ary Z h47 a38 .double [(.double f43), (.double f46), (.double (0 : UInt64)), (.double (0 : UInt64)), (.double (0 : UInt64)), (.double (0 : UInt64))] := F45.set W47
    show own_Go _ _ _ _ _ _ _ T47 (mkF m 197 L35 [(.ref a38)])
    refine own_pre (T' := T47) (g' := (mkF m 198 L35 [(.ref a38), (.ref a38)])) (fun t k => XS.dup X47.here hx rfl (hb hby at_197) rfl rfl k) ?_
    refine own_pre (T' := T47) (g' := (mkF m 199 L35 [(.int (2 : Int32)), (.ref a38), (.ref a38)])) (fun t k => XS.iconst X47.here hx rfl (hb hby at_198) k) ?_
    refine own_pre (T' := T47) (g' := (mkF m 201 L35 [(.long v18), (.int (2 : Int32)), (.ref a38), (.ref a38)])) (fun t k => XT.lload X47.here hx rfl (v := v18) (hb hby at_199) (by rw [← hL35]; rfl) k) ?_
    obtain ⟨f49, hf49⟩ : ∃ z, FP.l2d v18 = z := ⟨_, rfl⟩
    refine own_pre (T' := T47) (g' := (mkF m 202 L35 [(.double f49), (.int (2 : Int32)), (.ref a38), (.ref a38)])) (fun t k => XS.l2dS X47.here hx rfl (hb hby at_201) rfl hf49 k) ?_
    have Df49 : Jvm.FP.Core.DInt v18.toInt f49 := hf49 ▸ Jvm.FP.Core.l2d_int (own_abs Bv18)
    refine own_dastore X47 hx hZ e47 N47 nw41 F48 (hb hby at_202) (n := 2) (by decide) (by decide) (by show 2 < 6; decide) ?_
    intro T50 h50 lo50 X50 e50 N50 W50
    have F51 : own_Ary Z h50 a38 .double [(.double f43), (.double f46), (.double f49), (.double (0 : UInt64)), (.double (0 : UInt64)), (.double (0 : UInt64))] := F48.set W50
    show own_Go _ _ _ _ _ _ _ T50 (mkF m 203 L35 [(.ref a38)])
    refine own_pre (T' := T50) (g' := (mkF m 204 L35 [(.ref a38), (.ref a38)])) (fun t k => XS.dup X50.here hx rfl (hb hby at_203) rfl rfl k) ?_
    refine own_pre (T' := T50) (g' := (mkF m 205 L35 [(.int (3 : Int32)), (.ref a38), (.ref a38)])) (fun t k => XS.iconst X50.here hx rfl (hb hby at_204) k) ?_
    refine own_pre (T' := T50) (g' := (mkF m 207 L35 [(.long v20), (.int (3 : Int32)), (.ref a38), (.ref a38)])) (fun t k => XT.lload X50.here hx rfl (v := v20) (hb hby at_205) (by rw [← hL35]; rfl) k) ?_
    obtain ⟨f52, hf52⟩ : ∃ z, FP.l2d v20 = z := ⟨_, rfl⟩
    refine own_pre (T' := T50) (g' := (mkF m 208 L35 [(.double f52), (.int (3 : Int32)), (.ref a38), (.ref a38)])) (fun t k => XS.l2dS X50.here hx rfl (hb hby at_207) rfl hf52 k) ?_
    have Df52 : Jvm.FP.Core.DInt v20.toInt f52 := hf52 ▸ Jvm.FP.Core.l2d_int (own_abs Bv20)
    refine own_dastore X50 hx hZ e50 N50 nw41 F51 (hb hby at_208) (n := 3) (by decide) (by decide) (by show 3 < 6; decide) ?_
    intro T53 h53 lo53 X53 e53 N53 W53
    have F54 : own_Ary Z h53 a38 .double [(.double f43), (.double f46), (.double f49), (.double f52), (.double (0 : UInt64)), (.double (0 : UInt64))] := F51.set W53
    show own_Go _ _ _ _ _ _ _ T53 (mkF m 209 L35 [(.ref a38)])
    refine own_pre (T' := T53) (g' := (mkF m 210 L35 [(.ref a38), (.ref a38)])) (fun t k => XS.dup X53.here hx rfl (hb hby at_209) rfl rfl k) ?_
    refine own_pre (T' := T53) (g' := (mkF m 211 L35 [(.int (4 : Int32)), (.ref a38), (.ref a38)])) (fun t k => XS.iconst X53.here hx rfl (hb hby at_210) k) ?_
    refine own_pre (T' := T53) (g' := (mkF m 213 L35 [(.long v22), (.int (4 : Int32)), (.ref a38), (.ref a38)])) (fun t k => XT.lload X53.here hx rfl (v := v22) (hb hby at_211) (by rw [← hL35]; rfl) k) ?_
    obtain ⟨f55, hf55⟩ : ∃ z, FP.l2d v22 = z := ⟨_, rfl⟩
    refine own_pre (T' := T53) (g' := (mkF m 214 L35 [(.double f55), (.int (4 : Int32)), (.ref a38), (.ref a38)])) (fun t k => XS.l2dS X53.here hx rfl (hb hby at_213) rfl hf55 k) ?_
    have Df55 : Jvm.FP.Core.DInt v22.toInt f55 := hf55 ▸ Jvm.FP.Core.l2d_int (own_abs Bv22)
    refine own_dastore X53 hx hZ e53 N53 nw41 F54 (hb hby at_214) (n := 4) (by decide) (by decide) (by show 4 < 6; decide) ?_
    intro T56 h56 lo56 X56 e56 N56 W56
    have F57 : own_Ary Z h56 a38 .double [(.double f43), (.double f46), (.double f49), (.double f52), (.double f55), (.double (0 : UInt64))] := F54.set W56
    show own_Go _ _ _ _ _ _ _ T56 (mkF m 215 L35 [(.ref a38)])
    refine own_pre (T' := T56) (g' := (mkF m 216 L35 [(.ref a38), (.ref a38)])) (fun t k => XS.dup X56.here hx rfl (hb hby at_215) rfl rfl k) ?_
    refine own_pre (T' := T56) (g' := (mkF m 217 L35 [(.int (5 : Int32)), (.ref a38), (.ref a38)])) (fun t k => XS.iconst X56.here hx rfl (hb hby at_216) k) ?_
    refine own_pre (T' := T56) (g' := (mkF m 219 L35 [(.long v24), (.int (5 : Int32)), (.ref a38), (.ref a38)])) (fun t k => XT.lload X56.here hx rfl (v := v24) (hb hby at_217) (by rw [← hL35]; rfl) k) ?_
    obtain ⟨f58, hf58⟩ : ∃ z, FP.l2d v24 = z := ⟨_, rfl⟩
    refine own_pre (T' := T56) (g' := (mkF m 220 L35 [(.double f58), (.int (5 : Int32)), (.ref a38), (.ref a38)])) (fun t k => XS.l2dS X56.here hx rfl (hb hby at_219) rfl hf58 k) ?_
    have Df58 : Jvm.FP.Core.DInt v24.toInt f58 := hf58 ▸ Jvm.FP.Core.l2d_int (own_abs Bv24)
    refine own_dastore X56 hx hZ e56 N56 nw41 F57 (hb hby at_220) (n := 5) (by decide) (by decide) (by show 5 < 6; decide) ?_
    intro T59 h59 lo59 X59 e59 N59 W59
    have F60 : own_Ary Z h59 a38 .double [(.double f43), (.double f46), (.double f49), (.double f52), (.double f55), (.double f58)] := F57.set W59
    show own_Go _ _ _ _ _ _ _ T59 (mkF m 221 L35 [(.ref a38)])
    refine own_pre (T' := T59) (g' := (mkF m 223 #[.val (.int p0), .val (.int p1), .val (.int p2), .val (.int p3), .val (.long p4), .second, .val (.int (0 : Int32)), .val (.int v4), .val (.int v6), .val (.long v8), .second, .val (.long v10), .second, .val (.long v12), .second, .val (.long v14), .second, .val (.long v16), .second, .val (.long v18), .second, .val (.long v20), .second, .val (.long v22), .second, .val (.long v24), .second, .val (.ref a26), .val (.ref a31), .val (.ref a38), .unset] [])) (fun t k => XS.astore X59.here hx rfl (hb hby at_221) rfl rfl (l' := #[.val (.int p0), .val (.int p1), .val (.int p2), .val (.int p3), .val (.long p4), .second, .val (.int (0 : Int32)), .val (.int v4), .val (.int v6), .val (.long v8), .second, .val (.long v10), .second, .val (.long v12), .second, .val (.long v14), .second, .val (.long v16), .second, .val (.long v18), .second, .val (.long v20), .second, .val (.long v22), .second, .val (.long v24), .second, .val (.ref a26), .val (.ref a31), .val (.ref a38), .unset]) (by rw [← hL35]; rfl) k) ?_
    generalize hL61 : (#[.val (.int p0), .val (.int p1), .val (.int p2), .val (.int p3), .val (.long p4), .second, .val (.int (0 : Int32)), .val (.int v4), .val (.int v6), .val (.long v8), .second, .val (.long v10), .second, .val (.long v12), .second, .val (.long v14), .second, .val (.long v16), .second, .val (.long v18), .second, .val (.long v20), .second, .val (.long v22), .second, .val (.long v24), .second, .val (.ref a26), .val (.ref a31), .val (.ref a38), .unset] : Array Slot) = L61
    have F62 : own_Ary Z h59 a26 .int [] := (((((((F36.ext E38).other W44 (Nat.ne_of_lt lt39)).other W47 (Nat.ne_of_lt lt39)).other W50 (Nat.ne_of_lt lt39)).other W53 (Nat.ne_of_lt lt39)).other W56 (Nat.ne_of_lt lt39)).other W59 (Nat.ne_of_lt lt39))
    have F63 : own_Ary Z h59 a31 .double [] := (((((((F34.ext E38).other W44 (Nat.ne_of_lt lt40)).other W47 (Nat.ne_of_lt lt40)).other W50 (Nat.ne_of_lt lt40)).other W53 (Nat.ne_of_lt lt40)).other W56 (Nat.ne_of_lt lt40)).other W59 (Nat.ne_of_lt lt40))
    have F64 : n0 ≤ h59.size := (Nat.le_trans (Nat.le_trans (Nat.le_trans (Nat.le_trans (Nat.le_trans (Nat.le_trans (Nat.le_trans F37 E38.1) (Nat.le_of_eq W44.size.symm)) (Nat.le_of_eq W47.size.symm)) (Nat.le_of_eq W50.size.symm)) (Nat.le_of_eq W53.size.symm)) (Nat.le_of_eq W56.size.symm)) (Nat.le_of_eq W59.size.symm))
    refine own_newobj X59 hx hZ hown (hw _ (List.mem_of_getElem? (i := 2) rfl)) (hw _ (List.mem_of_getElem? (i := 3) rfl)) (hw _ (List.mem_of_getElem? (i := 4) rfl)) e59 (hb hby at_223) (by decide) (by decide) ?_
    intro T65 h65 a65 g65 X65 e65 E65 A65 D65
    have lt66 : a26 < a65 := Nat.lt_of_lt_of_le F62.lt (Nat.le_of_eq g65.symm)
    have lt67 : a31 < a65 := Nat.lt_of_lt_of_le F63.lt (Nat.le_of_eq g65.symm)
    have lt68 : a38 < a65 := Nat.lt_of_lt_of_le F60.lt (Nat.le_of_eq g65.symm)
    have nw69 : n0 ≤ a65 := Nat.le_trans F64 (Nat.le_of_eq g65.symm)
    have F70 : Fld Z h65 a65 "com/example/galicia/galicia/lime/SparseVector" "positions" "[I" .null := D65 (Or.inr (hw _ (List.mem_of_getElem? (i := 12) rfl))) (ty := (.array .int)) (by decide)
    have F71 : Fld Z h65 a65 "com/example/galicia/galicia/lime/SparseVector" "values" "[D" .null := D65 (Or.inr (hw _ (List.mem_of_getElem? (i := 14) rfl))) (ty := (.array .double)) (by decide)
    show own_Go _ _ _ _ _ _ _ T65 (mkF m 226 L61 [(.ref a65)])
    refine own_pre (T' := T65) (g' := (mkF m 227 L61 [(.ref a65), (.ref a65)])) (fun t k => XS.dup X65.here hx rfl (hb hby at_226) rfl rfl k) ?_
    refine own_pre (T' := T65) (g' := (mkF m 229 L61 [(.ref a26), (.ref a65), (.ref a65)])) (fun t k => XS.aload X65.here hx rfl (v := (.ref a26)) (hb hby at_227) (by rw [← hL61]; rfl) rfl k) ?_
    refine own_pre (T' := T65) (g' := (mkF m 231 L61 [(.ref a31), (.ref a26), (.ref a65), (.ref a65)])) (fun t k => XS.aload X65.here hx rfl (v := (.ref a31)) (hb hby at_229) (by rw [← hL61]; rfl) rfl k) ?_
    have F72 : n0 ≤ h65.size := (Nat.le_trans F64 E65.1)
    refine own_init (a := a65) (argsL := [(.ref a26), (.ref a31)]) (rest := [(.ref a65)]) X65 hx hZ hown (own_svinit l Z a0 hw [] a65 a26 a31 h65 n0 F72 A65 F70 F71 nw69) rfl (hw _ (List.mem_of_getElem? (i := 5) rfl)) (hw _ (List.mem_of_getElem? (i := 6) rfl)) (hw _ (List.mem_of_getElem? (i := 7) rfl)) (hw _ (List.mem_of_getElem? (i := 4) rfl)) (by decide) e65 (hb hby at_231) (by rw [hml, ← hL61]; rfl) rfl (lenOf own_pd0 rfl) (by decide) (W := 1) (Nat.le_of_eq rfl) (by decide) (by decide) (by decide) ?_
    intro v73 T73 lo73 X73 Q73
    obtain ⟨h73, e73⟩ : ∃ h, T73.heap = h := ⟨_, rfl⟩
    rw [e73] at Q73
    obtain ⟨rfl, N73, K73, G173, G273⟩ := Q73
    have N73' := Fr.app N59 N73
    show own_Go _ _ _ _ _ _ _ T73 (mkF m 234 L61 [(.ref a65)])
    refine own_pre (T' := T73) (g' := (mkF m 236 #[.val (.int p0), .val (.int p1), .val (.int p2), .val (.int p3), .val (.long p4), .second, .val (.int (0 : Int32)), .val (.int v4), .val (.int v6), .val (.long v8), .second, .val (.long v10), .second, .val (.long v12), .second, .val (.long v14), .second, .val (.long v16), .second, .val (.long v18), .second, .val (.long v20), .second, .val (.long v22), .second, .val (.long v24), .second, .val (.ref a26), .val (.ref a31), .val (.ref a38), .val (.ref a65)] [])) (fun t k => XS.astore X73.here hx rfl (hb hby at_234) rfl rfl (l' := #[.val (.int p0), .val (.int p1), .val (.int p2), .val (.int p3), .val (.long p4), .second, .val (.int (0 : Int32)), .val (.int v4), .val (.int v6), .val (.long v8), .second, .val (.long v10), .second, .val (.long v12), .second, .val (.long v14), .second, .val (.long v16), .second, .val (.long v18), .second, .val (.long v20), .second, .val (.long v22), .second, .val (.long v24), .second, .val (.ref a26), .val (.ref a31), .val (.ref a38), .val (.ref a65)]) (by rw [← hL61]; rfl) k) ?_
    generalize hL74 : (#[.val (.int p0), .val (.int p1), .val (.int p2), .val (.int p3), .val (.long p4), .second, .val (.int (0 : Int32)), .val (.int v4), .val (.int v6), .val (.long v8), .second, .val (.long v10), .second, .val (.long v12), .second, .val (.long v14), .second, .val (.long v16), .second, .val (.long v18), .second, .val (.long v20), .second, .val (.long v22), .second, .val (.long v24), .second, .val (.ref a26), .val (.ref a31), .val (.ref a38), .val (.ref a65)] : Array Slot) = L74
    refine own_pre (T' := T73) (g' := (mkF m 238 L74 [(.ref a65)])) (fun t k => XS.aload X73.here hx rfl (v := (.ref a65)) (hb hby at_236) (by rw [← hL74]; rfl) rfl k) ?_
    refine own_pre (T' := T73) (g' := (mkF m 240 L74 [(.ref a38), (.ref a65)])) (fun t k => XS.aload X73.here hx rfl (v := (.ref a38)) (hb hby at_238) (by rw [← hL74]; rfl) rfl k) ?_
    refine own_pre (T' := T73) (g' := (mkF m 242 L74 [(.long v12), (.ref a38), (.ref a65)])) (fun t k => XT.lload X73.here hx rfl (v := v12) (hb hby at_240) (by rw [← hL74]; rfl) k) ?_
    obtain ⟨f75, hf75⟩ : ∃ z, FP.l2d v12 = z := ⟨_, rfl⟩
    refine own_pre (T' := T73) (g' := (mkF m 243 L74 [(.double f75), (.ref a38), (.ref a65)])) (fun t k => XS.l2dS X73.here hx rfl (hb hby at_242) rfl hf75 k) ?_
    have Df75 : Jvm.FP.Core.DInt v12.toInt f75 := hf75 ▸ Jvm.FP.Core.l2d_int (own_abs Bv12)
    have F76 : n0 ≤ h73.size := (Nat.le_trans F72 K73.1)
    have F77 : own_Ary Z h73 a26 .int [] := ((F62.ext E65).keep K73 (ninS (Nat.ne_of_lt lt66) nin0))
    have F78 : own_Ary Z h73 a31 .double [] := ((F63.ext E65).keep K73 (ninS (Nat.ne_of_lt lt67) nin0))
    have F79 : own_Ary Z h73 a38 .double [(.double f43), (.double f46), (.double f49), (.double f52), (.double f55), (.double f58)] := ((F60.ext E65).keep K73 (ninS (Nat.ne_of_lt lt68) nin0))
    have F80 : Exa Z h73 a65 "com/example/galicia/galicia/lime/SparseVector" := (A65.keep K73)
    refine own_callv (a := a65) (argsL := [(.ref a38), (.double f75)]) (rest := []) X73 hx hZ hown (own_addto0 l Z a0 hw [] a65 a26 a31 a38 _ f75 v12.toInt  h73 n0 F76 G173 G273 F77 F78 F79 (Nat.ne_of_gt lt68) (Nat.ne_of_lt lt39) (Nat.ne_of_lt lt40) nw41 Df75 ) F80 (hw _ (List.mem_of_getElem? (i := 15) rfl)) (hw _ (List.mem_of_getElem? (i := 16) rfl)) (hw _ (List.mem_of_getElem? (i := 18) rfl)) (hw _ (List.mem_of_getElem? (i := 17) rfl)) (hw _ (List.mem_of_getElem? (i := 19) rfl)) (hw _ (List.mem_of_getElem? (i := 4) rfl)) (by decide) e73 (hb hby at_243) (by rw [hml, ← hL74]; rfl) rfl (lenOf own_pd1 rfl) (by decide) (W := 0) (Nat.le_of_eq rfl) (by decide) (by decide) (by decide) ?_
    intro v81 T81 lo81 X81 Q81
    obtain ⟨h81, e81⟩ : ∃ h, T81.heap = h := ⟨_, rfl⟩
    rw [e81] at Q81
    obtain ⟨rfl, N81, K81, A81⟩ := Q81
    have N81' := Fr.app N73' N81
    show own_Go _ _ _ _ _ _ _ T81 (mkF m 246 L74 [])
    obtain ⟨g82, hg82, Dg82⟩ : ∃ g, ([(.double f43), (.double f46), (.double f49), (.double f52), (.double f55), (.double f58)] : List Value)[0]? = some (.double g) ∧ FP.Core.DInt (v14.toInt + 0 + 0) g := ⟨f43, rfl, by simpa using Df43⟩
    refine own_pre (T' := T81) (g' := (mkF m 248 L74 [(.ref a38)])) (fun t k => XS.aload X81.here hx rfl (v := (.ref a38)) (hb hby at_246) (by rw [← hL74]; rfl) rfl k) ?_
    refine own_pre (T' := T81) (g' := (mkF m 249 L74 [(.int (0 : Int32)), (.ref a38)])) (fun t k => XS.iconst X81.here hx rfl (hb hby at_248) k) ?_
    refine own_daload X81 hx hZ e81 A81 (hb hby at_249) (n := 0) (v := (.double g82)) (by decide) (by decide) hg82 ?_
    show own_Go _ _ _ _ _ _ _ T81 (mkF m 250 L74 [(.double g82)])
    refine own_pre (T' := T81) (g' := (mkF m 252 L74 [(.long v14), (.double g82)])) (fun t k => XT.lload X81.here hx rfl (v := v14) (hb hby at_250) (by rw [← hL74]; rfl) k) ?_
    refine own_pre (T' := T81) (g' := (mkF m 253 L74 [(.int (0 : Int32)), (.long v14), (.double g82)])) (fun t k => XS.iconst X81.here hx rfl (hb hby at_252) k) ?_
    refine own_pre (T' := T81) (g' := (mkF m 255 L74 [(.int (0 : Int32)), (.int (0 : Int32)), (.long v14), (.double g82)])) (fun t k => XS.iload X81.here hx rfl (v := (0 : Int32)) (hb hby at_253) (by rw [← hL74]; rfl) k) ?_
    refine own_pre (T' := T81) (g' := (mkF m 257 L74 [(.int v4), (.int (0 : Int32)), (.int (0 : Int32)), (.long v14), (.double g82)])) (fun t k => XS.iload X81.here hx rfl (v := v4) (hb hby at_255) (by rw [← hL74]; rfl) k) ?_
    refine own_pre (T' := T81) (g' := (mkF m 259 L74 [(.int v6), (.int v4), (.int (0 : Int32)), (.int (0 : Int32)), (.long v14), (.double g82)])) (fun t k => XS.iload X81.here hx rfl (v := v6) (hb hby at_257) (by rw [← hL74]; rfl) k) ?_
    refine own_pre (T' := T81) (g' := (mkF m 261 L74 [(.long v12), (.int v6), (.int v4), (.int (0 : Int32)), (.int (0 : Int32)), (.long v14), (.double g82)])) (fun t k => XT.lload X81.here hx rfl (v := v12) (hb hby at_259) (by rw [← hL74]; rfl) k) ?_
    refine own_pre (T' := T81) (g' := (mkF m 263 L74 [(.long v8), (.long v12), (.int v6), (.int v4), (.int (0 : Int32)), (.int (0 : Int32)), (.long v14), (.double g82)])) (fun t k => XT.lload X81.here hx rfl (v := v8) (hb hby at_261) (by rw [← hL74]; rfl) k) ?_
    refine own_pre (T' := T81) (g' := (mkF m 265 L74 [(.long v10), (.long v8), (.long v12), (.int v6), (.int v4), (.int (0 : Int32)), (.int (0 : Int32)), (.long v14), (.double g82)])) (fun t k => XT.lload X81.here hx rfl (v := v10) (hb hby at_263) (by rw [← hL74]; rfl) k) ?_
    have F83 : n0 ≤ h81.size := (Nat.le_trans F76 K81.1)
    refine own_calls (argsL := [(.double g82), (.long v14), (.int (0 : Int32)), (.int (0 : Int32)), (.int v4), (.int v6), (.long v12), (.long v8), (.long v10)]) (rest := []) X81 hx hZ hown (own_okT l Z a0 hw [] g82 v14 (0 : Int32) (0 : Int32) v4 v6 v12 v8 v10 0 0 h81 n0 F83 (own_ifa (by decide)) (own_ifa (by decide)) Dg82 (own_abs50 Bv14) P0 P1) (hw _ (List.mem_of_getElem? (i := 20) rfl)) (hw _ (List.mem_of_getElem? (i := 21) rfl)) (hw _ (List.mem_of_getElem? (i := 23) rfl)) (hw _ (List.mem_of_getElem? (i := 22) rfl)) (by decide) e81 (hb hby at_265) (by rw [hml, ← hL74]; rfl) rfl (lenOf own_pd2 rfl) (by decide) (W := 0) (Nat.le_of_eq rfl) (by decide) (by decide) (by decide) ?_
    intro v84 T84 lo84 X84 Q84
    obtain ⟨h84, e84⟩ : ∃ h, T84.heap = h := ⟨_, rfl⟩
    rw [e84] at Q84
    obtain ⟨rfl, N84, q84⟩ := Q84
    have N84' := Fr.app N81' N84
    have e84' : T84.heap = h81 := e84.trans q84
    show own_Go _ _ _ _ _ _ _ T84 (mkF m 268 L74 [(.int (1 : Int32))])
    refine own_pre (T' := T84) (g' := (mkF m 271 L74 [])) (fun t k => XS.ifNo X84.here hx rfl (hb hby at_268) rfl (by decide) k) ?_
    refine own_pre (T' := T84) (g' := (mkF m 273 L74 [(.ref a38)])) (fun t k => XS.aload X84.here hx rfl (v := (.ref a38)) (hb hby at_271) (by rw [← hL74]; rfl) rfl k) ?_
    refine own_pre (T' := T84) (g' := (mkF m 274 L74 [(.int (1 : Int32)), (.ref a38)])) (fun t k => XS.iconst X84.here hx rfl (hb hby at_273) k) ?_
    obtain ⟨g85, hg85, Dg85⟩ : ∃ g, ([(.double f43), (.double f46), (.double f49), (.double f52), (.double f55), (.double f58)] : List Value)[1]? = some (.double g) ∧ FP.Core.DInt (v16.toInt + 0 + 0) g := ⟨f46, rfl, by simpa using Df46⟩
    refine own_daload X84 hx hZ e84' A81 (hb hby at_274) (n := 1) (v := (.double g85)) (by decide) (by decide) hg85 ?_
    show own_Go _ _ _ _ _ _ _ T84 (mkF m 275 L74 [(.double g85)])
    refine own_pre (T' := T84) (g' := (mkF m 277 L74 [(.long v16), (.double g85)])) (fun t k => XT.lload X84.here hx rfl (v := v16) (hb hby at_275) (by rw [← hL74]; rfl) k) ?_
    refine own_pre (T' := T84) (g' := (mkF m 278 L74 [(.int (1 : Int32)), (.long v16), (.double g85)])) (fun t k => XS.iconst X84.here hx rfl (hb hby at_277) k) ?_
    refine own_pre (T' := T84) (g' := (mkF m 280 L74 [(.int (0 : Int32)), (.int (1 : Int32)), (.long v16), (.double g85)])) (fun t k => XS.iload X84.here hx rfl (v := (0 : Int32)) (hb hby at_278) (by rw [← hL74]; rfl) k) ?_
    refine own_pre (T' := T84) (g' := (mkF m 282 L74 [(.int v4), (.int (0 : Int32)), (.int (1 : Int32)), (.long v16), (.double g85)])) (fun t k => XS.iload X84.here hx rfl (v := v4) (hb hby at_280) (by rw [← hL74]; rfl) k) ?_
    refine own_pre (T' := T84) (g' := (mkF m 284 L74 [(.int v6), (.int v4), (.int (0 : Int32)), (.int (1 : Int32)), (.long v16), (.double g85)])) (fun t k => XS.iload X84.here hx rfl (v := v6) (hb hby at_282) (by rw [← hL74]; rfl) k) ?_
    refine own_pre (T' := T84) (g' := (mkF m 286 L74 [(.long v12), (.int v6), (.int v4), (.int (0 : Int32)), (.int (1 : Int32)), (.long v16), (.double g85)])) (fun t k => XT.lload X84.here hx rfl (v := v12) (hb hby at_284) (by rw [← hL74]; rfl) k) ?_
    refine own_pre (T' := T84) (g' := (mkF m 288 L74 [(.long v8), (.long v12), (.int v6), (.int v4), (.int (0 : Int32)), (.int (1 : Int32)), (.long v16), (.double g85)])) (fun t k => XT.lload X84.here hx rfl (v := v8) (hb hby at_286) (by rw [← hL74]; rfl) k) ?_
    refine own_pre (T' := T84) (g' := (mkF m 290 L74 [(.long v10), (.long v8), (.long v12), (.int v6), (.int v4), (.int (0 : Int32)), (.int (1 : Int32)), (.long v16), (.double g85)])) (fun t k => XT.lload X84.here hx rfl (v := v10) (hb hby at_288) (by rw [← hL74]; rfl) k) ?_
    refine own_calls (argsL := [(.double g85), (.long v16), (.int (1 : Int32)), (.int (0 : Int32)), (.int v4), (.int v6), (.long v12), (.long v8), (.long v10)]) (rest := []) X84 hx hZ hown (own_okT l Z a0 hw [] g85 v16 (1 : Int32) (0 : Int32) v4 v6 v12 v8 v10 0 0 h81 n0 F83 (own_ifa (by decide)) (own_ifa (by decide)) Dg85 (own_abs50 Bv16) P0 P1) (hw _ (List.mem_of_getElem? (i := 20) rfl)) (hw _ (List.mem_of_getElem? (i := 21) rfl)) (hw _ (List.mem_of_getElem? (i := 23) rfl)) (hw _ (List.mem_of_getElem? (i := 22) rfl)) (by decide) e84' (hb hby at_290) (by rw [hml, ← hL74]; rfl) rfl (lenOf own_pd2 rfl) (by decide) (W := 0) (Nat.le_of_eq rfl) (by decide) (by decide) (by decide) ?_
    intro v86 T86 lo86 X86 Q86
    obtain ⟨h86, e86⟩ : ∃ h, T86.heap = h := ⟨_, rfl⟩
    rw [e86] at Q86
    obtain ⟨rfl, N86, q86⟩ := Q86
    have N86' := Fr.app N84' N86
    have e86' : T86.heap = h81 := e86.trans q86
    show own_Go _ _ _ _ _ _ _ T86 (mkF m 293 L74 [(.int (1 : Int32))])
    refine own_pre (T' := T86) (g' := (mkF m 296 L74 [])) (fun t k => XS.ifNo X86.here hx rfl (hb hby at_293) rfl (by decide) k) ?_
    refine own_pre (T' := T86) (g' := (mkF m 298 L74 [(.ref a38)])) (fun t k => XS.aload X86.here hx rfl (v := (.ref a38)) (hb hby at_296) (by rw [← hL74]; rfl) rfl k) ?_
    refine own_pre (T' := T86) (g' := (mkF m 299 L74 [(.int (2 : Int32)), (.ref a38)])) (fun t k => XS.iconst X86.here hx rfl (hb hby at_298) k) ?_
    obtain ⟨g87, hg87, Dg87⟩ : ∃ g, ([(.double f43), (.double f46), (.double f49), (.double f52), (.double f55), (.double f58)] : List Value)[2]? = some (.double g) ∧ FP.Core.DInt (v18.toInt + 0 + 0) g := ⟨f49, rfl, by simpa using Df49⟩
    refine own_daload X86 hx hZ e86' A81 (hb hby at_299) (n := 2) (v := (.double g87)) (by decide) (by decide) hg87 ?_
    show own_Go _ _ _ _ _ _ _ T86 (mkF m 300 L74 [(.double g87)])
    refine own_pre (T' := T86) (g' := (mkF m 302 L74 [(.long v18), (.double g87)])) (fun t k => XT.lload X86.here hx rfl (v := v18) (hb hby at_300) (by rw [← hL74]; rfl) k) ?_
    refine own_pre (T' := T86) (g' := (mkF m 303 L74 [(.int (2 : Int32)), (.long v18), (.double g87)])) (fun t k => XS.iconst X86.here hx rfl (hb hby at_302) k) ?_
    refine own_pre (T' := T86) (g' := (mkF m 305 L74 [(.int (0 : Int32)), (.int (2 : Int32)), (.long v18), (.double g87)])) (fun t k => XS.iload X86.here hx rfl (v := (0 : Int32)) (hb hby at_303) (by rw [← hL74]; rfl) k) ?_
    refine own_pre (T' := T86) (g' := (mkF m 307 L74 [(.int v4), (.int (0 : Int32)), (.int (2 : Int32)), (.long v18), (.double g87)])) (fun t k => XS.iload X86.here hx rfl (v := v4) (hb hby at_305) (by rw [← hL74]; rfl) k) ?_
    refine own_pre (T' := T86) (g' := (mkF m 309 L74 [(.int v6), (.int v4), (.int (0 : Int32)), (.int (2 : Int32)), (.long v18), (.double g87)])) (fun t k => XS.iload X86.here hx rfl (v := v6) (hb hby at_307) (by rw [← hL74]; rfl) k) ?_
    refine own_pre (T' := T86) (g' := (mkF m 311 L74 [(.long v12), (.int v6), (.int v4), (.int (0 : Int32)), (.int (2 : Int32)), (.long v18), (.double g87)])) (fun t k => XT.lload X86.here hx rfl (v := v12) (hb hby at_309) (by rw [← hL74]; rfl) k) ?_
    refine own_pre (T' := T86) (g' := (mkF m 313 L74 [(.long v8), (.long v12), (.int v6), (.int v4), (.int (0 : Int32)), (.int (2 : Int32)), (.long v18), (.double g87)])) (fun t k => XT.lload X86.here hx rfl (v := v8) (hb hby at_311) (by rw [← hL74]; rfl) k) ?_
    refine own_pre (T' := T86) (g' := (mkF m 315 L74 [(.long v10), (.long v8), (.long v12), (.int v6), (.int v4), (.int (0 : Int32)), (.int (2 : Int32)), (.long v18), (.double g87)])) (fun t k => XT.lload X86.here hx rfl (v := v10) (hb hby at_313) (by rw [← hL74]; rfl) k) ?_
    refine own_calls (argsL := [(.double g87), (.long v18), (.int (2 : Int32)), (.int (0 : Int32)), (.int v4), (.int v6), (.long v12), (.long v8), (.long v10)]) (rest := []) X86 hx hZ hown (own_okT l Z a0 hw [] g87 v18 (2 : Int32) (0 : Int32) v4 v6 v12 v8 v10 0 0 h81 n0 F83 (own_ifa (by decide)) (own_ifa (by decide)) Dg87 (own_abs50 Bv18) P0 P1) (hw _ (List.mem_of_getElem? (i := 20) rfl)) (hw _ (List.mem_of_getElem? (i := 21) rfl)) (hw _ (List.mem_of_getElem? (i := 23) rfl)) (hw _ (List.mem_of_getElem? (i := 22) rfl)) (by decide) e86' (hb hby at_315) (by rw [hml, ← hL74]; rfl) rfl (lenOf own_pd2 rfl) (by decide) (W := 0) (Nat.le_of_eq rfl) (by decide) (by decide) (by decide) ?_
    intro v88 T88 lo88 X88 Q88
    obtain ⟨h88, e88⟩ : ∃ h, T88.heap = h := ⟨_, rfl⟩
    rw [e88] at Q88
    obtain ⟨rfl, N88, q88⟩ := Q88
    have N88' := Fr.app N86' N88
    have e88' : T88.heap = h81 := e88.trans q88
    show own_Go _ _ _ _ _ _ _ T88 (mkF m 318 L74 [(.int (1 : Int32))])
    refine own_pre (T' := T88) (g' := (mkF m 321 L74 [])) (fun t k => XS.ifNo X88.here hx rfl (hb hby at_318) rfl (by decide) k) ?_
    refine own_pre (T' := T88) (g' := (mkF m 323 L74 [(.ref a38)])) (fun t k => XS.aload X88.here hx rfl (v := (.ref a38)) (hb hby at_321) (by rw [← hL74]; rfl) rfl k) ?_
    refine own_pre (T' := T88) (g' := (mkF m 324 L74 [(.int (3 : Int32)), (.ref a38)])) (fun t k => XS.iconst X88.here hx rfl (hb hby at_323) k) ?_
    obtain ⟨g89, hg89, Dg89⟩ : ∃ g, ([(.double f43), (.double f46), (.double f49), (.double f52), (.double f55), (.double f58)] : List Value)[3]? = some (.double g) ∧ FP.Core.DInt (v20.toInt + 0 + 0) g := ⟨f52, rfl, by simpa using Df52⟩
    refine own_daload X88 hx hZ e88' A81 (hb hby at_324) (n := 3) (v := (.double g89)) (by decide) (by decide) hg89 ?_
    show own_Go _ _ _ _ _ _ _ T88 (mkF m 325 L74 [(.double g89)])
    refine own_pre (T' := T88) (g' := (mkF m 327 L74 [(.long v20), (.double g89)])) (fun t k => XT.lload X88.here hx rfl (v := v20) (hb hby at_325) (by rw [← hL74]; rfl) k) ?_
    refine own_pre (T' := T88) (g' := (mkF m 328 L74 [(.int (3 : Int32)), (.long v20), (.double g89)])) (fun t k => XS.iconst X88.here hx rfl (hb hby at_327) k) ?_
    refine own_pre (T' := T88) (g' := (mkF m 330 L74 [(.int (0 : Int32)), (.int (3 : Int32)), (.long v20), (.double g89)])) (fun t k => XS.iload X88.here hx rfl (v := (0 : Int32)) (hb hby at_328) (by rw [← hL74]; rfl) k) ?_
    refine own_pre (T' := T88) (g' := (mkF m 332 L74 [(.int v4), (.int (0 : Int32)), (.int (3 : Int32)), (.long v20), (.double g89)])) (fun t k => XS.iload X88.here hx rfl (v := v4) (hb hby at_330) (by rw [← hL74]; rfl) k) ?_
    refine own_pre (T' := T88) (g' := (mkF m 334 L74 [(.int v6), (.int v4), (.int (0 : Int32)), (.int (3 : Int32)), (.long v20), (.double g89)])) (fun t k => XS.iload X88.here hx rfl (v := v6) (hb hby at_332) (by rw [← hL74]; rfl) k) ?_
    refine own_pre (T' := T88) (g' := (mkF m 336 L74 [(.long v12), (.int v6), (.int v4), (.int (0 : Int32)), (.int (3 : Int32)), (.long v20), (.double g89)])) (fun t k => XT.lload X88.here hx rfl (v := v12) (hb hby at_334) (by rw [← hL74]; rfl) k) ?_
    refine own_pre (T' := T88) (g' := (mkF m 338 L74 [(.long v8), (.long v12), (.int v6), (.int v4), (.int (0 : Int32)), (.int (3 : Int32)), (.long v20), (.double g89)])) (fun t k => XT.lload X88.here hx rfl (v := v8) (hb hby at_336) (by rw [← hL74]; rfl) k) ?_
    refine own_pre (T' := T88) (g' := (mkF m 340 L74 [(.long v10), (.long v8), (.long v12), (.int v6), (.int v4), (.int (0 : Int32)), (.int (3 : Int32)), (.long v20), (.double g89)])) (fun t k => XT.lload X88.here hx rfl (v := v10) (hb hby at_338) (by rw [← hL74]; rfl) k) ?_
    refine own_calls (argsL := [(.double g89), (.long v20), (.int (3 : Int32)), (.int (0 : Int32)), (.int v4), (.int v6), (.long v12), (.long v8), (.long v10)]) (rest := []) X88 hx hZ hown (own_okT l Z a0 hw [] g89 v20 (3 : Int32) (0 : Int32) v4 v6 v12 v8 v10 0 0 h81 n0 F83 (own_ifa (by decide)) (own_ifa (by decide)) Dg89 (own_abs50 Bv20) P0 P1) (hw _ (List.mem_of_getElem? (i := 20) rfl)) (hw _ (List.mem_of_getElem? (i := 21) rfl)) (hw _ (List.mem_of_getElem? (i := 23) rfl)) (hw _ (List.mem_of_getElem? (i := 22) rfl)) (by decide) e88' (hb hby at_340) (by rw [hml, ← hL74]; rfl) rfl (lenOf own_pd2 rfl) (by decide) (W := 0) (Nat.le_of_eq rfl) (by decide) (by decide) (by decide) ?_
    intro v90 T90 lo90 X90 Q90
    obtain ⟨h90, e90⟩ : ∃ h, T90.heap = h := ⟨_, rfl⟩
    rw [e90] at Q90
    obtain ⟨rfl, N90, q90⟩ := Q90
    have N90' := Fr.app N88' N90
    have e90' : T90.heap = h81 := e90.trans q90
    show own_Go _ _ _ _ _ _ _ T90 (mkF m 343 L74 [(.int (1 : Int32))])
    refine own_pre (T' := T90) (g' := (mkF m 346 L74 [])) (fun t k => XS.ifNo X90.here hx rfl (hb hby at_343) rfl (by decide) k) ?_
    refine own_pre (T' := T90) (g' := (mkF m 348 L74 [(.ref a38)])) (fun t k => XS.aload X90.here hx rfl (v := (.ref a38)) (hb hby at_346) (by rw [← hL74]; rfl) rfl k) ?_
    refine own_pre (T' := T90) (g' := (mkF m 349 L74 [(.int (4 : Int32)), (.ref a38)])) (fun t k => XS.iconst X90.here hx rfl (hb hby at_348) k) ?_
    obtain ⟨g91, hg91, Dg91⟩ : ∃ g, ([(.double f43), (.double f46), (.double f49), (.double f52), (.double f55), (.double f58)] : List Value)[4]? = some (.double g) ∧ FP.Core.DInt (v22.toInt + 0 + 0) g := ⟨f55, rfl, by simpa using Df55⟩
    refine own_daload X90 hx hZ e90' A81 (hb hby at_349) (n := 4) (v := (.double g91)) (by decide) (by decide) hg91 ?_
    show own_Go _ _ _ _ _ _ _ T90 (mkF m 350 L74 [(.double g91)])
    refine own_pre (T' := T90) (g' := (mkF m 352 L74 [(.long v22), (.double g91)])) (fun t k => XT.lload X90.here hx rfl (v := v22) (hb hby at_350) (by rw [← hL74]; rfl) k) ?_
    refine own_pre (T' := T90) (g' := (mkF m 353 L74 [(.int (4 : Int32)), (.long v22), (.double g91)])) (fun t k => XS.iconst X90.here hx rfl (hb hby at_352) k) ?_
    refine own_pre (T' := T90) (g' := (mkF m 355 L74 [(.int (0 : Int32)), (.int (4 : Int32)), (.long v22), (.double g91)])) (fun t k => XS.iload X90.here hx rfl (v := (0 : Int32)) (hb hby at_353) (by rw [← hL74]; rfl) k) ?_
    refine own_pre (T' := T90) (g' := (mkF m 357 L74 [(.int v4), (.int (0 : Int32)), (.int (4 : Int32)), (.long v22), (.double g91)])) (fun t k => XS.iload X90.here hx rfl (v := v4) (hb hby at_355) (by rw [← hL74]; rfl) k) ?_
    refine own_pre (T' := T90) (g' := (mkF m 359 L74 [(.int v6), (.int v4), (.int (0 : Int32)), (.int (4 : Int32)), (.long v22), (.double g91)])) (fun t k => XS.iload X90.here hx rfl (v := v6) (hb hby at_357) (by rw [← hL74]; rfl) k) ?_
    refine own_pre (T' := T90) (g' := (mkF m 361 L74 [(.long v12), (.int v6), (.int v4), (.int (0 : Int32)), (.int (4 : Int32)), (.long v22), (.double g91)])) (fun t k => XT.lload X90.here hx rfl (v := v12) (hb hby at_359) (by rw [← hL74]; rfl) k) ?_
    refine own_pre (T' := T90) (g' := (mkF m 363 L74 [(.long v8), (.long v12), (.int v6), (.int v4), (.int (0 : Int32)), (.int (4 : Int32)), (.long v22), (.double g91)])) (fun t k => XT.lload X90.here hx rfl (v := v8) (hb hby at_361) (by rw [← hL74]; rfl) k) ?_
    refine own_pre (T' := T90) (g' := (mkF m 365 L74 [(.long v10), (.long v8), (.long v12), (.int v6), (.int v4), (.int (0 : Int32)), (.int (4 : Int32)), (.long v22), (.double g91)])) (fun t k => XT.lload X90.here hx rfl (v := v10) (hb hby at_363) (by rw [← hL74]; rfl) k) ?_
    refine own_calls (argsL := [(.double g91), (.long v22), (.int (4 : Int32)), (.int (0 : Int32)), (.int v4), (.int v6), (.long v12), (.long v8), (.long v10)]) (rest := []) X90 hx hZ hown (own_okT l Z a0 hw [] g91 v22 (4 : Int32) (0 : Int32) v4 v6 v12 v8 v10 0 0 h81 n0 F83 (own_ifa (by decide)) (own_ifa (by decide)) Dg91 (own_abs50 Bv22) P0 P1) (hw _ (List.mem_of_getElem? (i := 20) rfl)) (hw _ (List.mem_of_getElem? (i := 21) rfl)) (hw _ (List.mem_of_getElem? (i := 23) rfl)) (hw _ (List.mem_of_getElem? (i := 22) rfl)) (by decide) e90' (hb hby at_365) (by rw [hml, ← hL74]; rfl) rfl (lenOf own_pd2 rfl) (by decide) (W := 0) (Nat.le_of_eq rfl) (by decide) (by decide) (by decide) ?_
    intro v92 T92 lo92 X92 Q92
    obtain ⟨h92, e92⟩ : ∃ h, T92.heap = h := ⟨_, rfl⟩
    rw [e92] at Q92
    obtain ⟨rfl, N92, q92⟩ := Q92
    have N92' := Fr.app N90' N92
    have e92' : T92.heap = h81 := e92.trans q92
    show own_Go _ _ _ _ _ _ _ T92 (mkF m 368 L74 [(.int (1 : Int32))])
    refine own_pre (T' := T92) (g' := (mkF m 371 L74 [])) (fun t k => XS.ifNo X92.here hx rfl (hb hby at_368) rfl (by decide) k) ?_
    refine own_pre (T' := T92) (g' := (mkF m 373 L74 [(.ref a38)])) (fun t k => XS.aload X92.here hx rfl (v := (.ref a38)) (hb hby at_371) (by rw [← hL74]; rfl) rfl k) ?_
    refine own_pre (T' := T92) (g' := (mkF m 374 L74 [(.int (5 : Int32)), (.ref a38)])) (fun t k => XS.iconst X92.here hx rfl (hb hby at_373) k) ?_
    obtain ⟨g93, hg93, Dg93⟩ : ∃ g, ([(.double f43), (.double f46), (.double f49), (.double f52), (.double f55), (.double f58)] : List Value)[5]? = some (.double g) ∧ FP.Core.DInt (v24.toInt + 0 + 0) g := ⟨f58, rfl, by simpa using Df58⟩
    refine own_daload X92 hx hZ e92' A81 (hb hby at_374) (n := 5) (v := (.double g93)) (by decide) (by decide) hg93 ?_
    show own_Go _ _ _ _ _ _ _ T92 (mkF m 375 L74 [(.double g93)])
    refine own_pre (T' := T92) (g' := (mkF m 377 L74 [(.long v24), (.double g93)])) (fun t k => XT.lload X92.here hx rfl (v := v24) (hb hby at_375) (by rw [← hL74]; rfl) k) ?_
    refine own_pre (T' := T92) (g' := (mkF m 378 L74 [(.int (5 : Int32)), (.long v24), (.double g93)])) (fun t k => XS.iconst X92.here hx rfl (hb hby at_377) k) ?_
    refine own_pre (T' := T92) (g' := (mkF m 380 L74 [(.int (0 : Int32)), (.int (5 : Int32)), (.long v24), (.double g93)])) (fun t k => XS.iload X92.here hx rfl (v := (0 : Int32)) (hb hby at_378) (by rw [← hL74]; rfl) k) ?_
    refine own_pre (T' := T92) (g' := (mkF m 382 L74 [(.int v4), (.int (0 : Int32)), (.int (5 : Int32)), (.long v24), (.double g93)])) (fun t k => XS.iload X92.here hx rfl (v := v4) (hb hby at_380) (by rw [← hL74]; rfl) k) ?_
    refine own_pre (T' := T92) (g' := (mkF m 384 L74 [(.int v6), (.int v4), (.int (0 : Int32)), (.int (5 : Int32)), (.long v24), (.double g93)])) (fun t k => XS.iload X92.here hx rfl (v := v6) (hb hby at_382) (by rw [← hL74]; rfl) k) ?_
    refine own_pre (T' := T92) (g' := (mkF m 386 L74 [(.long v12), (.int v6), (.int v4), (.int (0 : Int32)), (.int (5 : Int32)), (.long v24), (.double g93)])) (fun t k => XT.lload X92.here hx rfl (v := v12) (hb hby at_384) (by rw [← hL74]; rfl) k) ?_
    refine own_pre (T' := T92) (g' := (mkF m 388 L74 [(.long v8), (.long v12), (.int v6), (.int v4), (.int (0 : Int32)), (.int (5 : Int32)), (.long v24), (.double g93)])) (fun t k => XT.lload X92.here hx rfl (v := v8) (hb hby at_386) (by rw [← hL74]; rfl) k) ?_
    refine own_pre (T' := T92) (g' := (mkF m 390 L74 [(.long v10), (.long v8), (.long v12), (.int v6), (.int v4), (.int (0 : Int32)), (.int (5 : Int32)), (.long v24), (.double g93)])) (fun t k => XT.lload X92.here hx rfl (v := v10) (hb hby at_388) (by rw [← hL74]; rfl) k) ?_
    refine own_calls (argsL := [(.double g93), (.long v24), (.int (5 : Int32)), (.int (0 : Int32)), (.int v4), (.int v6), (.long v12), (.long v8), (.long v10)]) (rest := []) X92 hx hZ hown (own_okT l Z a0 hw [] g93 v24 (5 : Int32) (0 : Int32) v4 v6 v12 v8 v10 0 0 h81 n0 F83 (own_ifa (by decide)) (own_ifa (by decide)) Dg93 (own_abs50 Bv24) P0 P1) (hw _ (List.mem_of_getElem? (i := 20) rfl)) (hw _ (List.mem_of_getElem? (i := 21) rfl)) (hw _ (List.mem_of_getElem? (i := 23) rfl)) (hw _ (List.mem_of_getElem? (i := 22) rfl)) (by decide) e92' (hb hby at_390) (by rw [hml, ← hL74]; rfl) rfl (lenOf own_pd2 rfl) (by decide) (W := 0) (Nat.le_of_eq rfl) (by decide) (by decide) (by decide) ?_
    intro v94 T94 lo94 X94 Q94
    obtain ⟨h94, e94⟩ : ∃ h, T94.heap = h := ⟨_, rfl⟩
    rw [e94] at Q94
    obtain ⟨rfl, N94, q94⟩ := Q94
    have N94' := Fr.app N92' N94
    have e94' : T94.heap = h81 := e94.trans q94
    show own_Go _ _ _ _ _ _ _ T94 (mkF m 393 L74 [(.int (1 : Int32))])
    refine own_pre (T' := T94) (g' := (mkF m 396 L74 [])) (fun t k => XS.ifNo X94.here hx rfl (hb hby at_393) rfl (by decide) k) ?_
    refine own_pre (T' := T94) (g' := (mkF m 397 L74 [(.int (1 : Int32))])) (fun t k => XS.iconst X94.here hx rfl (hb hby at_396) k) ?_
    refine own_pre (T' := T94) (g' := (mkF m 401 L74 [(.int (1 : Int32))])) (fun t k => XS.goto X94.here hx rfl (pc0 := 397) (pc' := 401) rfl (hb hby at_397) (by decide) (by decide) k) ?_
    exact own_retZ X94 hx hlk hret rfl (hb hby at_401) e94' ⟨rfl, N94'⟩ (by decide) (by decide)
  · skip
    subst hc
    show own_Go _ _ _ _ _ _ _ s₁ (mkF m 8 L3 [(.int (3 : Int32)), (.int (1 : Int32))])
    refine own_pre (T' := s₁) (g' := (mkF m 14 L3 [])) (fun t k => XS.icmpYes X0.here hx rfl (pc0 := 8) (pc' := 14) rfl (hb hby at_8) rfl (by decide) (by decide) (by decide) k) ?_
    refine own_pre (T' := s₁) (g' := (mkF m 15 L3 [(.int p0)])) (fun t k => XS.iloadN X0.here hx rfl (v := p0) (hb hby at_14) (by rw [← hL3]; rfl) k) ?_
    refine own_pre (T' := s₁) (g' := (mkF m 16 L3 [(.int (2 : Int32)), (.int p0)])) (fun t k => XS.iconst X0.here hx rfl (hb hby at_15) k) ?_
    refine own_pre (T' := s₁) (g' := (mkF m 17 L3 [(.int (XT.ushr p0 (2 : Int32)))])) (fun t k => XT.iushr X0.here hx rfl (hb hby at_16) rfl k) ?_
    refine own_pre (T' := s₁) (g' := (mkF m 18 L3 [(.int (3 : Int32)), (.int (XT.ushr p0 (2 : Int32)))])) (fun t k => XS.iconst X0.here hx rfl (hb hby at_17) k) ?_
    refine own_pre (T' := s₁) (g' := (mkF m 19 L3 [(.int ((XT.ushr p0 (2 : Int32)) &&& (3 : Int32)))])) (fun t k => XS.iand X0.here hx rfl (hb hby at_18) rfl k) ?_
    generalize hv95 : (XT.ushr p0 (2 : Int32)) &&& (3 : Int32) = v95
    refine own_pre (T' := s₁) (g' := (mkF m 21 #[.val (.int p0), .val (.int p1), .val (.int p2), .val (.int p3), .val (.long p4), .second, .val (.int (1 : Int32)), .val (.int v95), .unset, .unset, .unset, .unset, .unset, .unset, .unset, .unset, .unset, .unset, .unset, .unset, .unset, .unset, .unset, .unset, .unset, .unset, .unset, .unset, .unset, .unset, .unset] [])) (fun t k => XS.istore X0.here hx rfl (hb hby at_19) rfl (l' := #[.val (.int p0), .val (.int p1), .val (.int p2), .val (.int p3), .val (.long p4), .second, .val (.int (1 : Int32)), .val (.int v95), .unset, .unset, .unset, .unset, .unset, .unset, .unset, .unset, .unset, .unset, .unset, .unset, .unset, .unset, .unset, .unset, .unset, .unset, .unset, .unset, .unset, .unset, .unset]) (by rw [← hL3]; rfl) k) ?_
    generalize hL96 : (#[.val (.int p0), .val (.int p1), .val (.int p2), .val (.int p3), .val (.long p4), .second, .val (.int (1 : Int32)), .val (.int v95), .unset, .unset, .unset, .unset, .unset, .unset, .unset, .unset, .unset, .unset, .unset, .unset, .unset, .unset, .unset, .unset, .unset, .unset, .unset, .unset, .unset, .unset, .unset] : Array Slot) = L96
    refine own_pre (T' := s₁) (g' := (mkF m 23 L96 [(.int v95)])) (fun t k => XS.iload X0.here hx rfl (v := v95) (hb hby at_21) (by rw [← hL96]; rfl) k) ?_
    refine own_pre (T' := s₁) (g' := (mkF m 24 L96 [(.int (1 : Int32)), (.int v95)])) (fun t k => XS.iconst X0.here hx rfl (hb hby at_23) k) ?_
    refine own_pre (T' := s₁) (g' := (mkF m 25 L96 [(.int (v95 + (1 : Int32)))])) (fun t k => XS.iadd X0.here hx rfl (hb hby at_24) rfl k) ?_
    refine own_pre (T' := s₁) (g' := (mkF m 26 L96 [(.int p0), (.int (v95 + (1 : Int32)))])) (fun t k => XS.iloadN X0.here hx rfl (v := p0) (hb hby at_25) (by rw [← hL96]; rfl) k) ?_
    refine own_pre (T' := s₁) (g' := (mkF m 27 L96 [(.int (4 : Int32)), (.int p0), (.int (v95 + (1 : Int32)))])) (fun t k => XS.iconst X0.here hx rfl (hb hby at_26) k) ?_
    refine own_pre (T' := s₁) (g' := (mkF m 28 L96 [(.int (XT.ushr p0 (4 : Int32))), (.int (v95 + (1 : Int32)))])) (fun t k => XT.iushr X0.here hx rfl (hb hby at_27) rfl k) ?_
    refine own_pre (T' := s₁) (g' := (mkF m 29 L96 [(.int (1 : Int32)), (.int (XT.ushr p0 (4 : Int32))), (.int (v95 + (1 : Int32)))])) (fun t k => XS.iconst X0.here hx rfl (hb hby at_28) k) ?_
    refine own_pre (T' := s₁) (g' := (mkF m 30 L96 [(.int ((XT.ushr p0 (4 : Int32)) &&& (1 : Int32))), (.int (v95 + (1 : Int32)))])) (fun t k => XS.iand X0.here hx rfl (hb hby at_29) rfl k) ?_
    refine own_pre (T' := s₁) (g' := (mkF m 31 L96 [(.int ((v95 + (1 : Int32)) + ((XT.ushr p0 (4 : Int32)) &&& (1 : Int32))))])) (fun t k => XS.iadd X0.here hx rfl (hb hby at_30) rfl k) ?_
    generalize hv97 : (v95 + (1 : Int32)) + ((XT.ushr p0 (4 : Int32)) &&& (1 : Int32)) = v97
    refine own_pre (T' := s₁) (g' := (mkF m 33 #[.val (.int p0), .val (.int p1), .val (.int p2), .val (.int p3), .val (.long p4), .second, .val (.int (1 : Int32)), .val (.int v95), .val (.int v97), .unset, .unset, .unset, .unset, .unset, .unset, .unset, .unset, .unset, .unset, .unset, .unset, .unset, .unset, .unset, .unset, .unset, .unset, .unset, .unset, .unset, .unset] [])) (fun t k => XS.istore X0.here hx rfl (hb hby at_31) rfl (l' := #[.val (.int p0), .val (.int p1), .val (.int p2), .val (.int p3), .val (.long p4), .second, .val (.int (1 : Int32)), .val (.int v95), .val (.int v97), .unset, .unset, .unset, .unset, .unset, .unset, .unset, .unset, .unset, .unset, .unset, .unset, .unset, .unset, .unset, .unset, .unset, .unset, .unset, .unset, .unset, .unset]) (by rw [← hL96]; rfl) k) ?_
    generalize hL98 : (#[.val (.int p0), .val (.int p1), .val (.int p2), .val (.int p3), .val (.long p4), .second, .val (.int (1 : Int32)), .val (.int v95), .val (.int v97), .unset, .unset, .unset, .unset, .unset, .unset, .unset, .unset, .unset, .unset, .unset, .unset, .unset, .unset, .unset, .unset, .unset, .unset, .unset, .unset, .unset, .unset] : Array Slot) = L98
    refine own_pre (T' := s₁) (g' := (mkF m 34 L98 [(.int p1)])) (fun t k => XS.iloadN X0.here hx rfl (v := p1) (hb hby at_33) (by rw [← hL98]; rfl) k) ?_
    refine own_pre (T' := s₁) (g' := (mkF m 35 L98 [(.int p1.toInt16.toInt32)])) (fun t k => XT.i2s X0.here hx rfl (hb hby at_34) rfl k) ?_
    refine own_pre (T' := s₁) (g' := (mkF m 36 L98 [(.long p1.toInt16.toInt32.toInt64)])) (fun t k => XT.i2l X0.here hx rfl (hb hby at_35) rfl k) ?_
    generalize hv99 : p1.toInt16.toInt32.toInt64 = v99
    refine own_pre (T' := s₁) (g' := (mkF m 38 #[.val (.int p0), .val (.int p1), .val (.int p2), .val (.int p3), .val (.long p4), .second, .val (.int (1 : Int32)), .val (.int v95), .val (.int v97), .val (.long v99), .second, .unset, .unset, .unset, .unset, .unset, .unset, .unset, .unset, .unset, .unset, .unset, .unset, .unset, .unset, .unset, .unset, .unset, .unset, .unset, .unset] [])) (fun t k => XT.lstore X0.here hx rfl (hb hby at_36) rfl (l' := #[.val (.int p0), .val (.int p1), .val (.int p2), .val (.int p3), .val (.long p4), .second, .val (.int (1 : Int32)), .val (.int v95), .val (.int v97), .val (.long v99), .second, .unset, .unset, .unset, .unset, .unset, .unset, .unset, .unset, .unset, .unset, .unset, .unset, .unset, .unset, .unset, .unset, .unset, .unset, .unset, .unset]) (by rw [← hL98]; rfl) k) ?_
    generalize hL100 : (#[.val (.int p0), .val (.int p1), .val (.int p2), .val (.int p3), .val (.long p4), .second, .val (.int (1 : Int32)), .val (.int v95), .val (.int v97), .val (.long v99), .second, .unset, .unset, .unset, .unset, .unset, .unset, .unset, .unset, .unset, .unset, .unset, .unset, .unset, .unset, .unset, .unset, .unset, .unset, .unset, .unset] : Array Slot) = L100
    refine own_pre (T' := s₁) (g' := (mkF m 39 L100 [(.int p1)])) (fun t k => XS.iloadN X0.here hx rfl (v := p1) (hb hby at_38) (by rw [← hL100]; rfl) k) ?_
    refine own_pre (T' := s₁) (g' := (mkF m 41 L100 [(.int (16 : Int32)), (.int p1)])) (fun t k => XS.bipush X0.here hx rfl (hb hby at_39) k) ?_
    refine own_pre (T' := s₁) (g' := (mkF m 42 L100 [(.int (p1 >>> ((16 : Int32) &&& 31)))])) (fun t k => XT.ishr X0.here hx rfl (hb hby at_41) rfl k) ?_
    refine own_pre (T' := s₁) (g' := (mkF m 43 L100 [(.int ((p1 >>> ((16 : Int32) &&& 31)).toInt16.toInt32))])) (fun t k => XT.i2s X0.here hx rfl (hb hby at_42) rfl k) ?_
    refine own_pre (T' := s₁) (g' := (mkF m 44 L100 [(.long (((p1 >>> ((16 : Int32) &&& 31)).toInt16.toInt32).toInt64))])) (fun t k => XT.i2l X0.here hx rfl (hb hby at_43) rfl k) ?_
    generalize hv101 : ((p1 >>> ((16 : Int32) &&& 31)).toInt16.toInt32).toInt64 = v101
    refine own_pre (T' := s₁) (g' := (mkF m 46 #[.val (.int p0), .val (.int p1), .val (.int p2), .val (.int p3), .val (.long p4), .second, .val (.int (1 : Int32)), .val (.int v95), .val (.int v97), .val (.long v99), .second, .val (.long v101), .second, .unset, .unset, .unset, .unset, .unset, .unset, .unset, .unset, .unset, .unset, .unset, .unset, .unset, .unset, .unset, .unset, .unset, .unset] [])) (fun t k => XT.lstore X0.here hx rfl (hb hby at_44) rfl (l' := #[.val (.int p0), .val (.int p1), .val (.int p2), .val (.int p3), .val (.long p4), .second, .val (.int (1 : Int32)), .val (.int v95), .val (.int v97), .val (.long v99), .second, .val (.long v101), .second, .unset, .unset, .unset, .unset, .unset, .unset, .unset, .unset, .unset, .unset, .unset, .unset, .unset, .unset, .unset, .unset, .unset, .unset]) (by rw [← hL100]; rfl) k) ?_
    generalize hL102 : (#[.val (.int p0), .val (.int p1), .val (.int p2), .val (.int p3), .val (.long p4), .second, .val (.int (1 : Int32)), .val (.int v95), .val (.int v97), .val (.long v99), .second, .val (.long v101), .second, .unset, .unset, .unset, .unset, .unset, .unset, .unset, .unset, .unset, .unset, .unset, .unset, .unset, .unset, .unset, .unset, .unset, .unset] : Array Slot) = L102
    refine own_pre (T' := s₁) (g' := (mkF m 47 L102 [(.int p2)])) (fun t k => XS.iloadN X0.here hx rfl (v := p2) (hb hby at_46) (by rw [← hL102]; rfl) k) ?_
    refine own_pre (T' := s₁) (g' := (mkF m 48 L102 [(.int p2.toInt16.toInt32)])) (fun t k => XT.i2s X0.here hx rfl (hb hby at_47) rfl k) ?_
    refine own_pre (T' := s₁) (g' := (mkF m 49 L102 [(.long p2.toInt16.toInt32.toInt64)])) (fun t k => XT.i2l X0.here hx rfl (hb hby at_48) rfl k) ?_
    generalize hv103 : p2.toInt16.toInt32.toInt64 = v103
    refine own_pre (T' := s₁) (g' := (mkF m 51 #[.val (.int p0), .val (.int p1), .val (.int p2), .val (.int p3), .val (.long p4), .second, .val (.int (1 : Int32)), .val (.int v95), .val (.int v97), .val (.long v99), .second, .val (.long v101), .second, .val (.long v103), .second, .unset, .unset, .unset, .unset, .unset, .unset, .unset, .unset, .unset, .unset, .unset, .unset, .unset, .unset, .unset, .unset] [])) (fun t k => XT.lstore X0.here hx rfl (hb hby at_49) rfl (l' := #[.val (.int p0), .val (.int p1), .val (.int p2), .val (.int p3), .val (.long p4), .second, .val (.int (1 : Int32)), .val (.int v95), .val (.int v97), .val (.long v99), .second, .val (.long v101), .second, .val (.long v103), .second, .unset, .unset, .unset, .unset, .unset, .unset, .unset, .unset, .unset, .unset, .unset, .unset, .unset, .unset, .unset, .unset]) (by rw [← hL102]; rfl) k) ?_
    generalize hL104 : (#[.val (.int p0), .val (.int p1), .val (.int p2), .val (.int p3), .val (.long p4), .second, .val (.int (1 : Int32)), .val (.int v95), .val (.int v97), .val (.long v99), .second, .val (.long v101), .second, .val (.long v103), .second, .unset, .unset, .unset, .unset, .unset, .unset, .unset, .unset, .unset, .unset, .unset, .unset, .unset, .unset, .unset, .unset] : Array Slot) = L104
    refine own_pre (T' := s₁) (g' := (mkF m 53 L104 [(.long p4)])) (fun t k => XT.lload X0.here hx rfl (v := p4) (hb hby at_51) (by rw [← hL104]; rfl) k) ?_
    refine own_pre (T' := s₁) (g' := (mkF m 54 L104 [(.int p4.toInt32)])) (fun t k => XT.l2i X0.here hx rfl (hb hby at_53) rfl k) ?_
    refine own_pre (T' := s₁) (g' := (mkF m 55 L104 [(.int p4.toInt32.toInt16.toInt32)])) (fun t k => XT.i2s X0.here hx rfl (hb hby at_54) rfl k) ?_
    refine own_pre (T' := s₁) (g' := (mkF m 56 L104 [(.long p4.toInt32.toInt16.toInt32.toInt64)])) (fun t k => XT.i2l X0.here hx rfl (hb hby at_55) rfl k) ?_
    generalize hv105 : p4.toInt32.toInt16.toInt32.toInt64 = v105
    refine own_pre (T' := s₁) (g' := (mkF m 58 #[.val (.int p0), .val (.int p1), .val (.int p2), .val (.int p3), .val (.long p4), .second, .val (.int (1 : Int32)), .val (.int v95), .val (.int v97), .val (.long v99), .second, .val (.long v101), .second, .val (.long v103), .second, .val (.long v105), .second, .unset, .unset, .unset, .unset, .unset, .unset, .unset, .unset, .unset, .unset, .unset, .unset, .unset, .unset] [])) (fun t k => XT.lstore X0.here hx rfl (hb hby at_56) rfl (l' := #[.val (.int p0), .val (.int p1), .val (.int p2), .val (.int p3), .val (.long p4), .second, .val (.int (1 : Int32)), .val (.int v95), .val (.int v97), .val (.long v99), .second, .val (.long v101), .second, .val (.long v103), .second, .val (.long v105), .second, .unset, .unset, .unset, .unset, .unset, .unset, .unset, .unset, .unset, .unset, .unset, .unset, .unset, .unset]) (by rw [← hL104]; rfl) k) ?_
    generalize hL106 : (#[.val (.int p0), .val (.int p1), .val (.int p2), .val (.int p3), .val (.long p4), .second, .val (.int (1 : Int32)), .val (.int v95), .val (.int v97), .val (.long v99), .second, .val (.long v101), .second, .val (.long v103), .second, .val (.long v105), .second, .unset, .unset, .unset, .unset, .unset, .unset, .unset, .unset, .unset, .unset, .unset, .unset, .unset, .unset] : Array Slot) = L106
    refine own_pre (T' := s₁) (g' := (mkF m 60 L106 [(.long p4)])) (fun t k => XT.lload X0.here hx rfl (v := p4) (hb hby at_58) (by rw [← hL106]; rfl) k) ?_
    refine own_pre (T' := s₁) (g' := (mkF m 62 L106 [(.int (16 : Int32)), (.long p4)])) (fun t k => XS.bipush X0.here hx rfl (hb hby at_60) k) ?_
    refine own_pre (T' := s₁) (g' := (mkF m 63 L106 [(.long (p4 >>> ((16 : Int32).toInt64 &&& 63)))])) (fun t k => XT.lshr X0.here hx rfl (hb hby at_62) rfl k) ?_
    refine own_pre (T' := s₁) (g' := (mkF m 64 L106 [(.int ((p4 >>> ((16 : Int32).toInt64 &&& 63)).toInt32))])) (fun t k => XT.l2i X0.here hx rfl (hb hby at_63) rfl k) ?_
    refine own_pre (T' := s₁) (g' := (mkF m 65 L106 [(.int (((p4 >>> ((16 : Int32).toInt64 &&& 63)).toInt32).toInt16.toInt32))])) (fun t k => XT.i2s X0.here hx rfl (hb hby at_64) rfl k) ?_
    refine own_pre (T' := s₁) (g' := (mkF m 66 L106 [(.long ((((p4 >>> ((16 : Int32).toInt64 &&& 63)).toInt32).toInt16.toInt32).toInt64))])) (fun t k => XT.i2l X0.here hx rfl (hb hby at_65) rfl k) ?_
    generalize hv107 : (((p4 >>> ((16 : Int32).toInt64 &&& 63)).toInt32).toInt16.toInt32).toInt64 = v107
    refine own_pre (T' := s₁) (g' := (mkF m 68 #[.val (.int p0), .val (.int p1), .val (.int p2), .val (.int p3), .val (.long p4), .second, .val (.int (1 : Int32)), .val (.int v95), .val (.int v97), .val (.long v99), .second, .val (.long v101), .second, .val (.long v103), .second, .val (.long v105), .second, .val (.long v107), .second, .unset, .unset, .unset, .unset, .unset, .unset, .unset, .unset, .unset, .unset, .unset, .unset] [])) (fun t k => XT.lstore X0.here hx rfl (hb hby at_66) rfl (l' := #[.val (.int p0), .val (.int p1), .val (.int p2), .val (.int p3), .val (.long p4), .second, .val (.int (1 : Int32)), .val (.int v95), .val (.int v97), .val (.long v99), .second, .val (.long v101), .second, .val (.long v103), .second, .val (.long v105), .second, .val (.long v107), .second, .unset, .unset, .unset, .unset, .unset, .unset, .unset, .unset, .unset, .unset, .unset, .unset]) (by rw [← hL106]; rfl) k) ?_
    generalize hL108 : (#[.val (.int p0), .val (.int p1), .val (.int p2), .val (.int p3), .val (.long p4), .second, .val (.int (1 : Int32)), .val (.int v95), .val (.int v97), .val (.long v99), .second, .val (.long v101), .second, .val (.long v103), .second, .val (.long v105), .second, .val (.long v107), .second, .unset, .unset, .unset, .unset, .unset, .unset, .unset, .unset, .unset, .unset, .unset, .unset] : Array Slot) = L108
    refine own_pre (T' := s₁) (g' := (mkF m 70 L108 [(.long p4)])) (fun t k => XT.lload X0.here hx rfl (v := p4) (hb hby at_68) (by rw [← hL108]; rfl) k) ?_
    refine own_pre (T' := s₁) (g' := (mkF m 72 L108 [(.int (32 : Int32)), (.long p4)])) (fun t k => XS.bipush X0.here hx rfl (hb hby at_70) k) ?_
    refine own_pre (T' := s₁) (g' := (mkF m 73 L108 [(.long (p4 >>> ((32 : Int32).toInt64 &&& 63)))])) (fun t k => XT.lshr X0.here hx rfl (hb hby at_72) rfl k) ?_
    refine own_pre (T' := s₁) (g' := (mkF m 74 L108 [(.int ((p4 >>> ((32 : Int32).toInt64 &&& 63)).toInt32))])) (fun t k => XT.l2i X0.here hx rfl (hb hby at_73) rfl k) ?_
    refine own_pre (T' := s₁) (g' := (mkF m 75 L108 [(.int (((p4 >>> ((32 : Int32).toInt64 &&& 63)).toInt32).toInt16.toInt32))])) (fun t k => XT.i2s X0.here hx rfl (hb hby at_74) rfl k) ?_
    refine own_pre (T' := s₁) (g' := (mkF m 76 L108 [(.long ((((p4 >>> ((32 : Int32).toInt64 &&& 63)).toInt32).toInt16.toInt32).toInt64))])) (fun t k => XT.i2l X0.here hx rfl (hb hby at_75) rfl k) ?_
    generalize hv109 : (((p4 >>> ((32 : Int32).toInt64 &&& 63)).toInt32).toInt16.toInt32).toInt64 = v109
    refine own_pre (T' := s₁) (g' := (mkF m 78 #[.val (.int p0), .val (.int p1), .val (.int p2), .val (.int p3), .val (.long p4), .second, .val (.int (1 : Int32)), .val (.int v95), .val (.int v97), .val (.long v99), .second, .val (.long v101), .second, .val (.long v103), .second, .val (.long v105), .second, .val (.long v107), .second, .val (.long v109), .second, .unset, .unset, .unset, .unset, .unset, .unset, .unset, .unset, .unset, .unset] [])) (fun t k => XT.lstore X0.here hx rfl (hb hby at_76) rfl (l' := #[.val (.int p0), .val (.int p1), .val (.int p2), .val (.int p3), .val (.long p4), .second, .val (.int (1 : Int32)), .val (.int v95), .val (.int v97), .val (.long v99), .second, .val (.long v101), .second, .val (.long v103), .second, .val (.long v105), .second, .val (.long v107), .second, .val (.long v109), .second, .unset, .unset, .unset, .unset, .unset, .unset, .unset, .unset, .unset, .unset]) (by rw [← hL108]; rfl) k) ?_
    generalize hL110 : (#[.val (.int p0), .val (.int p1), .val (.int p2), .val (.int p3), .val (.long p4), .second, .val (.int (1 : Int32)), .val (.int v95), .val (.int v97), .val (.long v99), .second, .val (.long v101), .second, .val (.long v103), .second, .val (.long v105), .second, .val (.long v107), .second, .val (.long v109), .second, .unset, .unset, .unset, .unset, .unset, .unset, .unset, .unset, .unset, .unset] : Array Slot) = L110
    refine own_pre (T' := s₁) (g' := (mkF m 80 L110 [(.long p4)])) (fun t k => XT.lload X0.here hx rfl (v := p4) (hb hby at_78) (by rw [← hL110]; rfl) k) ?_
    refine own_pre (T' := s₁) (g' := (mkF m 82 L110 [(.int (48 : Int32)), (.long p4)])) (fun t k => XS.bipush X0.here hx rfl (hb hby at_80) k) ?_
    refine own_pre (T' := s₁) (g' := (mkF m 83 L110 [(.long (p4 >>> ((48 : Int32).toInt64 &&& 63)))])) (fun t k => XT.lshr X0.here hx rfl (hb hby at_82) rfl k) ?_
    refine own_pre (T' := s₁) (g' := (mkF m 84 L110 [(.int ((p4 >>> ((48 : Int32).toInt64 &&& 63)).toInt32))])) (fun t k => XT.l2i X0.here hx rfl (hb hby at_83) rfl k) ?_
    refine own_pre (T' := s₁) (g' := (mkF m 85 L110 [(.int (((p4 >>> ((48 : Int32).toInt64 &&& 63)).toInt32).toInt16.toInt32))])) (fun t k => XT.i2s X0.here hx rfl (hb hby at_84) rfl k) ?_
    refine own_pre (T' := s₁) (g' := (mkF m 86 L110 [(.long ((((p4 >>> ((48 : Int32).toInt64 &&& 63)).toInt32).toInt16.toInt32).toInt64))])) (fun t k => XT.i2l X0.here hx rfl (hb hby at_85) rfl k) ?_
    generalize hv111 : (((p4 >>> ((48 : Int32).toInt64 &&& 63)).toInt32).toInt16.toInt32).toInt64 = v111
    refine own_pre (T' := s₁) (g' := (mkF m 88 #[.val (.int p0), .val (.int p1), .val (.int p2), .val (.int p3), .val (.long p4), .second, .val (.int (1 : Int32)), .val (.int v95), .val (.int v97), .val (.long v99), .second, .val (.long v101), .second, .val (.long v103), .second, .val (.long v105), .second, .val (.long v107), .second, .val (.long v109), .second, .val (.long v111), .second, .unset, .unset, .unset, .unset, .unset, .unset, .unset, .unset] [])) (fun t k => XT.lstore X0.here hx rfl (hb hby at_86) rfl (l' := #[.val (.int p0), .val (.int p1), .val (.int p2), .val (.int p3), .val (.long p4), .second, .val (.int (1 : Int32)), .val (.int v95), .val (.int v97), .val (.long v99), .second, .val (.long v101), .second, .val (.long v103), .second, .val (.long v105), .second, .val (.long v107), .second, .val (.long v109), .second, .val (.long v111), .second, .unset, .unset, .unset, .unset, .unset, .unset, .unset, .unset]) (by rw [← hL110]; rfl) k) ?_
    generalize hL112 : (#[.val (.int p0), .val (.int p1), .val (.int p2), .val (.int p3), .val (.long p4), .second, .val (.int (1 : Int32)), .val (.int v95), .val (.int v97), .val (.long v99), .second, .val (.long v101), .second, .val (.long v103), .second, .val (.long v105), .second, .val (.long v107), .second, .val (.long v109), .second, .val (.long v111), .second, .unset, .unset, .unset, .unset, .unset, .unset, .unset, .unset] : Array Slot) = L112
    refine own_pre (T' := s₁) (g' := (mkF m 89 L112 [(.int p3)])) (fun t k => XS.iloadN X0.here hx rfl (v := p3) (hb hby at_88) (by rw [← hL112]; rfl) k) ?_
    refine own_pre (T' := s₁) (g' := (mkF m 90 L112 [(.int p3.toInt16.toInt32)])) (fun t k => XT.i2s X0.here hx rfl (hb hby at_89) rfl k) ?_
    refine own_pre (T' := s₁) (g' := (mkF m 91 L112 [(.long p3.toInt16.toInt32.toInt64)])) (fun t k => XT.i2l X0.here hx rfl (hb hby at_90) rfl k) ?_
    generalize hv113 : p3.toInt16.toInt32.toInt64 = v113
    refine own_pre (T' := s₁) (g' := (mkF m 93 #[.val (.int p0), .val (.int p1), .val (.int p2), .val (.int p3), .val (.long p4), .second, .val (.int (1 : Int32)), .val (.int v95), .val (.int v97), .val (.long v99), .second, .val (.long v101), .second, .val (.long v103), .second, .val (.long v105), .second, .val (.long v107), .second, .val (.long v109), .second, .val (.long v111), .second, .val (.long v113), .second, .unset, .unset, .unset, .unset, .unset, .unset] [])) (fun t k => XT.lstore X0.here hx rfl (hb hby at_91) rfl (l' := #[.val (.int p0), .val (.int p1), .val (.int p2), .val (.int p3), .val (.long p4), .second, .val (.int (1 : Int32)), .val (.int v95), .val (.int v97), .val (.long v99), .second, .val (.long v101), .second, .val (.long v103), .second, .val (.long v105), .second, .val (.long v107), .second, .val (.long v109), .second, .val (.long v111), .second, .val (.long v113), .second, .unset, .unset, .unset, .unset, .unset, .unset]) (by rw [← hL112]; rfl) k) ?_
    generalize hL114 : (#[.val (.int p0), .val (.int p1), .val (.int p2), .val (.int p3), .val (.long p4), .second, .val (.int (1 : Int32)), .val (.int v95), .val (.int v97), .val (.long v99), .second, .val (.long v101), .second, .val (.long v103), .second, .val (.long v105), .second, .val (.long v107), .second, .val (.long v109), .second, .val (.long v111), .second, .val (.long v113), .second, .unset, .unset, .unset, .unset, .unset, .unset] : Array Slot) = L114
    refine own_pre (T' := s₁) (g' := (mkF m 94 L114 [(.int p3)])) (fun t k => XS.iloadN X0.here hx rfl (v := p3) (hb hby at_93) (by rw [← hL114]; rfl) k) ?_
    refine own_pre (T' := s₁) (g' := (mkF m 96 L114 [(.int (16 : Int32)), (.int p3)])) (fun t k => XS.bipush X0.here hx rfl (hb hby at_94) k) ?_
    refine own_pre (T' := s₁) (g' := (mkF m 97 L114 [(.int (p3 >>> ((16 : Int32) &&& 31)))])) (fun t k => XT.ishr X0.here hx rfl (hb hby at_96) rfl k) ?_
    refine own_pre (T' := s₁) (g' := (mkF m 98 L114 [(.int ((p3 >>> ((16 : Int32) &&& 31)).toInt16.toInt32))])) (fun t k => XT.i2s X0.here hx rfl (hb hby at_97) rfl k) ?_
    refine own_pre (T' := s₁) (g' := (mkF m 99 L114 [(.long (((p3 >>> ((16 : Int32) &&& 31)).toInt16.toInt32).toInt64))])) (fun t k => XT.i2l X0.here hx rfl (hb hby at_98) rfl k) ?_
    generalize hv115 : ((p3 >>> ((16 : Int32) &&& 31)).toInt16.toInt32).toInt64 = v115
    refine own_pre (T' := s₁) (g' := (mkF m 101 #[.val (.int p0), .val (.int p1), .val (.int p2), .val (.int p3), .val (.long p4), .second, .val (.int (1 : Int32)), .val (.int v95), .val (.int v97), .val (.long v99), .second, .val (.long v101), .second, .val (.long v103), .second, .val (.long v105), .second, .val (.long v107), .second, .val (.long v109), .second, .val (.long v111), .second, .val (.long v113), .second, .val (.long v115), .second, .unset, .unset, .unset, .unset] [])) (fun t k => XT.lstore X0.here hx rfl (hb hby at_99) rfl (l' := #[.val (.int p0), .val (.int p1), .val (.int p2), .val (.int p3), .val (.long p4), .second, .val (.int (1 : Int32)), .val (.int v95), .val (.int v97), .val (.long v99), .second, .val (.long v101), .second, .val (.long v103), .second, .val (.long v105), .second, .val (.long v107), .second, .val (.long v109), .second, .val (.long v111), .second, .val (.long v113), .second, .val (.long v115), .second, .unset, .unset, .unset, .unset]) (by rw [← hL114]; rfl) k) ?_
    generalize hL116 : (#[.val (.int p0), .val (.int p1), .val (.int p2), .val (.int p3), .val (.long p4), .second, .val (.int (1 : Int32)), .val (.int v95), .val (.int v97), .val (.long v99), .second, .val (.long v101), .second, .val (.long v103), .second, .val (.long v105), .second, .val (.long v107), .second, .val (.long v109), .second, .val (.long v111), .second, .val (.long v113), .second, .val (.long v115), .second, .unset, .unset, .unset, .unset] : Array Slot) = L116
    obtain ⟨hq0, hq1, hqq⟩ := own_pos p0 v95 v97 hv95 hv97
    have Bv99 := own_sb _ v99 hv99
    have Bv101 := own_sb _ v101 hv101
    have Bv103 := own_sb _ v103 hv103
    have Bv105 := own_sb _ v105 hv105
    have Bv107 := own_sb _ v107 hv107
    have Bv109 := own_sb _ v109 hv109
    have Bv111 := own_sb _ v111 hv111
    have Bv113 := own_sb _ v113 hv113
    have Bv115 := own_sb _ v115 hv115
    have P0 := own_prod Bv103 Bv99
    have P1 := own_prod Bv103 Bv101
    refine own_pre (T' := s₁) (g' := (mkF m 103 L116 [(.int (1 : Int32))])) (fun t k => XS.iload X0.here hx rfl (v := (1 : Int32)) (hb hby at_101) (by rw [← hL116]; rfl) k) ?_
    refine own_pre (T' := s₁) (g' := (mkF m 119 L116 [])) (fun t k => XS.ifYes X0.here hx rfl (pc0 := 103) (pc' := 119) rfl (hb hby at_103) rfl (by decide) (by decide) (by decide) k) ?_
    refine own_pre (T' := s₁) (g' := (mkF m 121 L116 [(.int (1 : Int32))])) (fun t k => XS.iload X0.here hx rfl (v := (1 : Int32)) (hb hby at_119) (by rw [← hL116]; rfl) k) ?_
    refine own_pre (T' := s₁) (g' := (mkF m 122 L116 [(.int (1 : Int32)), (.int (1 : Int32))])) (fun t k => XS.iconst X0.here hx rfl (hb hby at_121) k) ?_
    refine own_pre (T' := s₁) (g' := (mkF m 125 L116 [])) (fun t k => XS.icmpNo X0.here hx rfl (hb hby at_122) rfl (by decide) k) ?_
    refine own_pre (T' := s₁) (g' := (mkF m 126 L116 [(.int (1 : Int32))])) (fun t k => XS.iconst X0.here hx rfl (hb hby at_125) k) ?_
    refine own_newarr X0 hx hZ (aty := .int) (hw _ (List.mem_of_getElem? (i := 0) rfl)) e0 (hb hby at_126) (n := 1) (by decide) (by decide) (by decide) (by decide) (by decide) (ad := "[I") rfl ?_
    intro T117 h117 a117 g117 X117 e117 E117 A117 B117
    have nw118 : n0 ≤ a117 := Nat.le_trans Z0 (Nat.le_of_eq g117.symm)
    have F119 : own_Ary Z h117 a117 .int [(.int (0 : Int32))] := A117
    show own_Go _ _ _ _ _ _ _ T117 (mkF m 128 L116 [(.ref a117)])
    refine own_pre (T' := T117) (g' := (mkF m 129 L116 [(.ref a117), (.ref a117)])) (fun t k => XS.dup X117.here hx rfl (hb hby at_128) rfl rfl k) ?_
    refine own_pre (T' := T117) (g' := (mkF m 130 L116 [(.int (0 : Int32)), (.ref a117), (.ref a117)])) (fun t k => XS.iconst X117.here hx rfl (hb hby at_129) k) ?_
    refine own_pre (T' := T117) (g' := (mkF m 132 L116 [(.int v95), (.int (0 : Int32)), (.ref a117), (.ref a117)])) (fun t k => XS.iload X117.here hx rfl (v := v95) (hb hby at_130) (by rw [← hL116]; rfl) k) ?_
    refine own_iastore X117 hx hZ e117 N0 nw118 F119 (hb hby at_132) (n := 0) (by decide) (by decide) (by show 0 < 1; decide) ?_
    intro T120 h120 lo120 X120 e120 N120 W120
    have F121 : own_Ary Z h120 a117 .int [(.int v95)] := F119.set W120
    show own_Go _ _ _ _ _ _ _ T120 (mkF m 133 L116 [(.ref a117)])
    refine own_pre (T' := T120) (g' := (mkF m 135 #[.val (.int p0), .val (.int p1), .val (.int p2), .val (.int p3), .val (.long p4), .second, .val (.int (1 : Int32)), .val (.int v95), .val (.int v97), .val (.long v99), .second, .val (.long v101), .second, .val (.long v103), .second, .val (.long v105), .second, .val (.long v107), .second, .val (.long v109), .second, .val (.long v111), .second, .val (.long v113), .second, .val (.long v115), .second, .val (.ref a117), .unset, .unset, .unset] [])) (fun t k => XS.astore X120.here hx rfl (hb hby at_133) rfl rfl (l' := #[.val (.int p0), .val (.int p1), .val (.int p2), .val (.int p3), .val (.long p4), .second, .val (.int (1 : Int32)), .val (.int v95), .val (.int v97), .val (.long v99), .second, .val (.long v101), .second, .val (.long v103), .second, .val (.long v105), .second, .val (.long v107), .second, .val (.long v109), .second, .val (.long v111), .second, .val (.long v113), .second, .val (.long v115), .second, .val (.ref a117), .unset, .unset, .unset]) (by rw [← hL116]; rfl) k) ?_
    generalize hL122 : (#[.val (.int p0), .val (.int p1), .val (.int p2), .val (.int p3), .val (.long p4), .second, .val (.int (1 : Int32)), .val (.int v95), .val (.int v97), .val (.long v99), .second, .val (.long v101), .second, .val (.long v103), .second, .val (.long v105), .second, .val (.long v107), .second, .val (.long v109), .second, .val (.long v111), .second, .val (.long v113), .second, .val (.long v115), .second, .val (.ref a117), .unset, .unset, .unset] : Array Slot) = L122
    refine own_pre (T' := T120) (g' := (mkF m 136 L122 [(.int (1 : Int32))])) (fun t k => XS.iconst X120.here hx rfl (hb hby at_135) k) ?_
    have F123 : n0 ≤ h120.size := (Nat.le_trans (Nat.le_trans Z0 E117.1) (Nat.le_of_eq W120.size.symm))
    refine own_newarr X120 hx hZ (aty := .double) (hw _ (List.mem_of_getElem? (i := 1) rfl)) e120 (hb hby at_136) (n := 1) (by decide) (by decide) (by decide) (by decide) (by decide) (ad := "[D") rfl ?_
    intro T124 h124 a124 g124 X124 e124 E124 A124 B124
    have lt125 : a117 < a124 := Nat.lt_of_lt_of_le F121.lt (Nat.le_of_eq g124.symm)
    have nw126 : n0 ≤ a124 := Nat.le_trans F123 (Nat.le_of_eq g124.symm)
    have F127 : own_Ary Z h124 a124 .double [(.double (0 : UInt64))] := A124
    show own_Go _ _ _ _ _ _ _ T124 (mkF m 138 L122 [(.ref a124)])
    refine own_pre (T' := T124) (g' := (mkF m 139 L122 [(.ref a124), (.ref a124)])) (fun t k => XS.dup X124.here hx rfl (hb hby at_138) rfl rfl k) ?_
    refine own_pre (T' := T124) (g' := (mkF m 140 L122 [(.int (0 : Int32)), (.ref a124), (.ref a124)])) (fun t k => XS.iconst X124.here hx rfl (hb hby at_139) k) ?_
    refine own_pre (T' := T124) (g' := (mkF m 142 L122 [(.long v99), (.int (0 : Int32)), (.ref a124), (.ref a124)])) (fun t k => XT.lload X124.here hx rfl (v := v99) (hb hby at_140) (by rw [← hL122]; rfl) k) ?_
    obtain ⟨f128, hf128⟩ : ∃ z, FP.l2d v99 = z := ⟨_, rfl⟩
    refine own_pre (T' := T124) (g' := (mkF m 143 L122 [(.double f128), (.int (0 : Int32)), (.ref a124), (.ref a124)])) (fun t k => XS.l2dS X124.here hx rfl (hb hby at_142) rfl hf128 k) ?_
    have Df128 : Jvm.FP.Core.DInt v99.toInt f128 := hf128 ▸ Jvm.FP.Core.l2d_int (own_abs Bv99)
    refine own_dastore X124 hx hZ e124 N120 nw126 F127 (hb hby at_143) (n := 0) (by decide) (by decide) (by show 0 < 1; decide) ?_
    intro T129 h129 lo129 X129 e129 N129 W129
    have F130 : own_Ary Z h129 a124 .double [(.double f128)] := F127.set W129
    show own_Go _ _ _ _ _ _ _ T129 (mkF m 144 L122 [(.ref a124)])
    refine own_pre (T' := T129) (g' := (mkF m 146 #[.val (.int p0), .val (.int p1), .val (.int p2), .val (.int p3), .val (.long p4), .second, .val (.int (1 : Int32)), .val (.int v95), .val (.int v97), .val (.long v99), .second, .val (.long v101), .second, .val (.long v103), .second, .val (.long v105), .second, .val (.long v107), .second, .val (.long v109), .second, .val (.long v111), .second, .val (.long v113), .second, .val (.long v115), .second, .val (.ref a117), .val (.ref a124), .unset, .unset] [])) (fun t k => XS.astore X129.here hx rfl (hb hby at_144) rfl rfl (l' := #[.val (.int p0), .val (.int p1), .val (.int p2), .val (.int p3), .val (.long p4), .second, .val (.int (1 : Int32)), .val (.int v95), .val (.int v97), .val (.long v99), .second, .val (.long v101), .second, .val (.long v103), .second, .val (.long v105), .second, .val (.long v107), .second, .val (.long v109), .second, .val (.long v111), .second, .val (.long v113), .second, .val (.long v115), .second, .val (.ref a117), .val (.ref a124), .unset, .unset]) (by rw [← hL122]; rfl) k) ?_
    generalize hL131 : (#[.val (.int p0), .val (.int p1), .val (.int p2), .val (.int p3), .val (.long p4), .second, .val (.int (1 : Int32)), .val (.int v95), .val (.int v97), .val (.long v99), .second, .val (.long v101), .second, .val (.long v103), .second, .val (.long v105), .second, .val (.long v107), .second, .val (.long v109), .second, .val (.long v111), .second, .val (.long v113), .second, .val (.long v115), .second, .val (.ref a117), .val (.ref a124), .unset, .unset] : Array Slot) = L131
    refine own_pre (T' := T129) (g' := (mkF m 181 L131 [])) (fun t k => XS.goto X129.here hx rfl (pc0 := 146) (pc' := 181) rfl (hb hby at_146) (by decide) (by decide) k) ?_
    refine own_pre (T' := T129) (g' := (mkF m 183 L131 [(.int (6 : Int32))])) (fun t k => XS.bipush X129.here hx rfl (hb hby at_181) k) ?_
    have F132 : own_Ary Z h129 a117 .int [(.int v95)] := ((F121.ext E124).other W129 (Nat.ne_of_lt lt125))
    have F133 : n0 ≤ h129.size := (Nat.le_trans (Nat.le_trans F123 E124.1) (Nat.le_of_eq W129.size.symm))
    refine own_newarr X129 hx hZ (aty := .double) (hw _ (List.mem_of_getElem? (i := 1) rfl)) e129 (hb hby at_183) (n := 6) (by decide) (by decide) (by decide) (by decide) (by decide) (ad := "[D") rfl ?_
    intro T134 h134 a134 g134 X134 e134 E134 A134 B134
    have lt135 : a117 < a134 := Nat.lt_of_lt_of_le F132.lt (Nat.le_of_eq g134.symm)
    have lt136 : a124 < a134 := Nat.lt_of_lt_of_le F130.lt (Nat.le_of_eq g134.symm)
    have nw137 : n0 ≤ a134 := Nat.le_trans F133 (Nat.le_of_eq g134.symm)
    have F138 : own_Ary Z h134 a134 .double [(.double (0 : UInt64)), (.double (0 : UInt64)), (.double (0 : UInt64)), (.double (0 : UInt64)), (.double (0 : UInt64)), (.double (0 : UInt64))] := A134
    show own_Go _ _ _ _ _ _ _ T134 (mkF m 185 L131 [(.ref a134)])
    refine own_pre (T' := T134) (g' := (mkF m 186 L131 [(.ref a134), (.ref a134)])) (fun t k => XS.dup X134.here hx rfl (hb hby at_185) rfl rfl k) ?_
    refine own_pre (T' := T134) (g' := (mkF m 187 L131 [(.int (0 : Int32)), (.ref a134), (.ref a134)])) (fun t k => XS.iconst X134.here hx rfl (hb hby at_186) k) ?_
    refine own_pre (T' := T134) (g' := (mkF m 189 L131 [(.long v105), (.int (0 : Int32)), (.ref a134), (.ref a134)])) (fun t k => XT.lload X134.here hx rfl (v := v105) (hb hby at_187) (by rw [← hL131]; rfl) k) ?_
    obtain ⟨f139, hf139⟩ : ∃ z, FP.l2d v105 = z := ⟨_, rfl⟩
    refine own_pre (T' := T134) (g' := (mkF m 190 L131 [(.double f139), (.int (0 : Int32)), (.ref a134), (.ref a134)])) (fun t k => XS.l2dS X134.here hx rfl (hb hby at_189) rfl hf139 k) ?_
    have Df139 : Jvm.FP.Core.DInt v105.toInt f139 := hf139 ▸ Jvm.FP.Core.l2d_int (own_abs Bv105)
    refine own_dastore X134 hx hZ e134 N129 nw137 F138 (hb hby at_190) (n := 0) (by decide) (by decide) (by show 0 < 6; decide) ?_
    intro T140 h140 lo140 X140 e140 N140 W140
    have F141 : own_Ary Z h140 a134 .double [(.double f139), (.double (0 : UInt64)), (.double (0 : UInt64)), (.double (0 : UInt64)), (.double (0 : UInt64)), (.double (0 : UInt64))] := F138.set W140
    show own_Go _ _ _ _ _ _ _ T140 (mkF m 191 L131 [(.ref a134)])
    refine own_pre (T' := T140) (g' := (mkF m 192 L131 [(.ref a134), (.ref a134)])) (fun t k => XS.dup X140.here hx rfl (hb hby at_191) rfl rfl k) ?_
    refine own_pre (T' := T140) (g' := (mkF m 193 L131 [(.int (1 : Int32)), (.ref a134), (.ref a134)])) (fun t k => XS.iconst X140.here hx rfl (hb hby at_192) k) ?_
    refine own_pre (T' := T140) (g' := (mkF m 195 L131 [(.long v107), (.int (1 : Int32)), (.ref a134), (.ref a134)])) (fun t k => XT.lload X140.here hx rfl (v := v107) (hb hby at_193) (by rw [← hL131]; rfl) k) ?_
    obtain ⟨f142, hf142⟩ : ∃ z, FP.l2d v107 = z := ⟨_, rfl⟩
    refine own_pre (T' := T140) (g' := (mkF m 196 L131 [(.double f142), (.int (1 : Int32)), (.ref a134), (.ref a134)])) (fun t k => XS.l2dS X140.here hx rfl (hb hby at_195) rfl hf142 k) ?_
    have Df142 : Jvm.FP.Core.DInt v107.toInt f142 := hf142 ▸ Jvm.FP.Core.l2d_int (own_abs Bv107)
    refine own_dastore X140 hx hZ e140 N140 nw137 F141 (hb hby at_196) (n := 1) (by decide) (by decide) (by show 1 < 6; decide) ?_
    intro T143 h143 lo143 X143 e143 N143 W143
    have F144 : own_Ary Z h143 a134 .double [(.double f139), (.double f142), (.double (0 : UInt64)), (.double (0 : UInt64)), (.double (0 : UInt64)), (.double (0 : UInt64))] := F141.set W143
    show own_Go _ _ _ _ _ _ _ T143 (mkF m 197 L131 [(.ref a134)])
    refine own_pre (T' := T143) (g' := (mkF m 198 L131 [(.ref a134), (.ref a134)])) (fun t k => XS.dup X143.here hx rfl (hb hby at_197) rfl rfl k) ?_
    refine own_pre (T' := T143) (g' := (mkF m 199 L131 [(.int (2 : Int32)), (.ref a134), (.ref a134)])) (fun t k => XS.iconst X143.here hx rfl (hb hby at_198) k) ?_
    refine own_pre (T' := T143) (g' := (mkF m 201 L131 [(.long v109), (.int (2 : Int32)), (.ref a134), (.ref a134)])) (fun t k => XT.lload X143.here hx rfl (v := v109) (hb hby at_199) (by rw [← hL131]; rfl) k) ?_
    obtain ⟨f145, hf145⟩ : ∃ z, FP.l2d v109 = z := ⟨_, rfl⟩
    refine own_pre (T' := T143) (g' := (mkF m 202 L131 [(.double f145), (.int (2 : Int32)), (.ref a134), (.ref a134)])) (fun t k => XS.l2dS X143.here hx rfl (hb hby at_201) rfl hf145 k) ?_
    have Df145 : Jvm.FP.Core.DInt v109.toInt f145 := hf145 ▸ Jvm.FP.Core.l2d_int (own_abs Bv109)
    refine own_dastore X143 hx hZ e143 N143 nw137 F144 (hb hby at_202) (n := 2) (by decide) (by decide) (by show 2 < 6; decide) ?_
    intro T146 h146 lo146 X146 e146 N146 W146
    have F147 : own_Ary Z h146 a134 .double [(.double f139), (.double f142), (.double f145), (.double (0 : UInt64)), (.double (0 : UInt64)), (.double (0 : UInt64))] := F144.set W146
    show own_Go _ _ _ _ _ _ _ T146 (mkF m 203 L131 [(.ref a134)])
    refine own_pre (T' := T146) (g' := (mkF m 204 L131 [(.ref a134), (.ref a134)])) (fun t k => XS.dup X146.here hx rfl (hb hby at_203) rfl rfl k) ?_
    refine own_pre (T' := T146) (g' := (mkF m 205 L131 [(.int (3 : Int32)), (.ref a134), (.ref a134)])) (fun t k => XS.iconst X146.here hx rfl (hb hby at_204) k) ?_
    refine own_pre (T' := T146) (g' := (mkF m 207 L131 [(.long v111), (.int (3 : Int32)), (.ref a134), (.ref a134)])) (fun t k => XT.lload X146.here hx rfl (v := v111) (hb hby at_205) (by rw [← hL131]; rfl) k) ?_
    obtain ⟨f148, hf148⟩ : ∃ z, FP.l2d v111 = z := ⟨_, rfl⟩
    refine own_pre (T' := T146) (g' := (mkF m 208 L131 [(.double f148), (.int (3 : Int32)), (.ref a134), (.ref a134)])) (fun t k => XS.l2dS X146.here hx rfl (hb hby at_207) rfl hf148 k) ?_
    have Df148 : Jvm.FP.Core.DInt v111.toInt f148 := hf148 ▸ Jvm.FP.Core.l2d_int (own_abs Bv111)
    refine own_dastore X146 hx hZ e146 N146 nw137 F147 (hb hby at_208) (n := 3) (by decide) (by decide) (by show 3 < 6; decide) ?_
    intro T149 h149 lo149 X149 e149 N149 W149
    have F150 : own_Ary Z h149 a134 .double [(.double f139), (.double f142), (.double f145), (.double f148), (.double (0 : UInt64)), (.double (0 : UInt64))] := F147.set W149
    show own_Go _ _ _ _ _ _ _ T149 (mkF m 209 L131 [(.ref a134)])
    refine own_pre (T' := T149) (g' := (mkF m 210 L131 [(.ref a134), (.ref a134)])) (fun t k => XS.dup X149.here hx rfl (hb hby at_209) rfl rfl k) ?_
    refine own_pre (T' := T149) (g' := (mkF m 211 L131 [(.int (4 : Int32)), (.ref a134), (.ref a134)])) (fun t k => XS.iconst X149.here hx rfl (hb hby at_210) k) ?_
    refine own_pre (T' := T149) (g' := (mkF m 213 L131 [(.long v113), (.int (4 : Int32)), (.ref a134), (.ref a134)])) (fun t k => XT.lload X149.here hx rfl (v := v113) (hb hby at_211) (by rw [← hL131]; rfl) k) ?_
    obtain ⟨f151, hf151⟩ : ∃ z, FP.l2d v113 = z := ⟨_, rfl⟩
    refine own_pre (T' := T149) (g' := (mkF m 214 L131 [(.double f151), (.int (4 : Int32)), (.ref a134), (.ref a134)])) (fun t k => XS.l2dS X149.here hx rfl (hb hby at_213) rfl hf151 k) ?_
    have Df151 : Jvm.FP.Core.DInt v113.toInt f151 := hf151 ▸ Jvm.FP.Core.l2d_int (own_abs Bv113)
    refine own_dastore X149 hx hZ e149 N149 nw137 F150 (hb hby at_214) (n := 4) (by decide) (by decide) (by show 4 < 6; decide) ?_
    intro T152 h152 lo152 X152 e152 N152 W152
    have F153 : own_Ary Z h152 a134 .double [(.double f139), (.double f142), (.double f145), (.double f148), (.double f151), (.double (0 : UInt64))] := F150.set W152
    show own_Go _ _ _ _ _ _ _ T152 (mkF m 215 L131 [(.ref a134)])
    refine own_pre (T' := T152) (g' := (mkF m 216 L131 [(.ref a134), (.ref a134)])) (fun t k => XS.dup X152.here hx rfl (hb hby at_215) rfl rfl k) ?_
    refine own_pre (T' := T152) (g' := (mkF m 217 L131 [(.int (5 : Int32)), (.ref a134), (.ref a134)])) (fun t k => XS.iconst X152.here hx rfl (hb hby at_216) k) ?_
    refine own_pre (T' := T152) (g' := (mkF m 219 L131 [(.long v115), (.int (5 : Int32)), (.ref a134), (.ref a134)])) (fun t k => XT.lload X152.here hx rfl (v := v115) (hb hby at_217) (by rw [← hL131]; rfl) k) ?_
    obtain ⟨f154, hf154⟩ : ∃ z, FP.l2d v115 = z := ⟨_, rfl⟩
    refine own_pre (T' := T152) (g' := (mkF m 220 L131 [(.double f154), (.int (5 : Int32)), (.ref a134), (.ref a134)])) (fun t k => XS.l2dS X152.here hx rfl (hb hby at_219) rfl hf154 k) ?_
    have Df154 : Jvm.FP.Core.DInt v115.toInt f154 := hf154 ▸ Jvm.FP.Core.l2d_int (own_abs Bv115)
    refine own_dastore X152 hx hZ e152 N152 nw137 F153 (hb hby at_220) (n := 5) (by decide) (by decide) (by show 5 < 6; decide) ?_
    intro T155 h155 lo155 X155 e155 N155 W155
    have F156 : own_Ary Z h155 a134 .double [(.double f139), (.double f142), (.double f145), (.double f148), (.double f151), (.double f154)] := F153.set W155
    show own_Go _ _ _ _ _ _ _ T155 (mkF m 221 L131 [(.ref a134)])
    refine own_pre (T' := T155) (g' := (mkF m 223 #[.val (.int p0), .val (.int p1), .val (.int p2), .val (.int p3), .val (.long p4), .second, .val (.int (1 : Int32)), .val (.int v95), .val (.int v97), .val (.long v99), .second, .val (.long v101), .second, .val (.long v103), .second, .val (.long v105), .second, .val (.long v107), .second, .val (.long v109), .second, .val (.long v111), .second, .val (.long v113), .second, .val (.long v115), .second, .val (.ref a117), .val (.ref a124), .val (.ref a134), .unset] [])) (fun t k => XS.astore X155.here hx rfl (hb hby at_221) rfl rfl (l' := #[.val (.int p0), .val (.int p1), .val (.int p2), .val (.int p3), .val (.long p4), .second, .val (.int (1 : Int32)), .val (.int v95), .val (.int v97), .val (.long v99), .second, .val (.long v101), .second, .val (.long v103), .second, .val (.long v105), .second, .val (.long v107), .second, .val (.long v109), .second, .val (.long v111), .second, .val (.long v113), .second, .val (.long v115), .second, .val (.ref a117), .val (.ref a124), .val (.ref a134), .unset]) (by rw [← hL131]; rfl) k) ?_
    generalize hL157 : (#[.val (.int p0), .val (.int p1), .val (.int p2), .val (.int p3), .val (.long p4), .second, .val (.int (1 : Int32)), .val (.int v95), .val (.int v97), .val (.long v99), .second, .val (.long v101), .second, .val (.long v103), .second, .val (.long v105), .second, .val (.long v107), .second, .val (.long v109), .second, .val (.long v111), .second, .val (.long v113), .second, .val (.long v115), .second, .val (.ref a117), .val (.ref a124), .val (.ref a134), .unset] : Array Slot) = L157
    have F158 : own_Ary Z h155 a117 .int [(.int v95)] := (((((((F132.ext E134).other W140 (Nat.ne_of_lt lt135)).other W143 (Nat.ne_of_lt lt135)).other W146 (Nat.ne_of_lt lt135)).other W149 (Nat.ne_of_lt lt135)).other W152 (Nat.ne_of_lt lt135)).other W155 (Nat.ne_of_lt lt135))
    have F159 : own_Ary Z h155 a124 .double [(.double f128)] := (((((((F130.ext E134).other W140 (Nat.ne_of_lt lt136)).other W143 (Nat.ne_of_lt lt136)).other W146 (Nat.ne_of_lt lt136)).other W149 (Nat.ne_of_lt lt136)).other W152 (Nat.ne_of_lt lt136)).other W155 (Nat.ne_of_lt lt136))
    have F160 : n0 ≤ h155.size := (Nat.le_trans (Nat.le_trans (Nat.le_trans (Nat.le_trans (Nat.le_trans (Nat.le_trans (Nat.le_trans F133 E134.1) (Nat.le_of_eq W140.size.symm)) (Nat.le_of_eq W143.size.symm)) (Nat.le_of_eq W146.size.symm)) (Nat.le_of_eq W149.size.symm)) (Nat.le_of_eq W152.size.symm)) (Nat.le_of_eq W155.size.symm))
    refine own_newobj X155 hx hZ hown (hw _ (List.mem_of_getElem? (i := 2) rfl)) (hw _ (List.mem_of_getElem? (i := 3) rfl)) (hw _ (List.mem_of_getElem? (i := 4) rfl)) e155 (hb hby at_223) (by decide) (by decide) ?_
    intro T161 h161 a161 g161 X161 e161 E161 A161 D161
    have lt162 : a117 < a161 := Nat.lt_of_lt_of_le F158.lt (Nat.le_of_eq g161.symm)
    have lt163 : a124 < a161 := Nat.lt_of_lt_of_le F159.lt (Nat.le_of_eq g161.symm)
    have lt164 : a134 < a161 := Nat.lt_of_lt_of_le F156.lt (Nat.le_of_eq g161.symm)
    have nw165 : n0 ≤ a161 := Nat.le_trans F160 (Nat.le_of_eq g161.symm)
    have F166 : Fld Z h161 a161 "com/example/galicia/galicia/lime/SparseVector" "positions" "[I" .null := D161 (Or.inr (hw _ (List.mem_of_getElem? (i := 12) rfl))) (ty := (.array .int)) (by decide)
    have F167 : Fld Z h161 a161 "com/example/galicia/galicia/lime/SparseVector" "values" "[D" .null := D161 (Or.inr (hw _ (List.mem_of_getElem? (i := 14) rfl))) (ty := (.array .double)) (by decide)
    show own_Go _ _ _ _ _ _ _ T161 (mkF m 226 L157 [(.ref a161)])
    refine own_pre (T' := T161) (g' := (mkF m 227 L157 [(.ref a161), (.ref a161)])) (fun t k => XS.dup X161.here hx rfl (hb hby at_226) rfl rfl k) ?_
    refine own_pre (T' := T161) (g' := (mkF m 229 L157 [(.ref a117), (.ref a161), (.ref a161)])) (fun t k => XS.aload X161.here hx rfl (v := (.ref a117)) (hb hby at_227) (by rw [← hL157]; rfl) rfl k) ?_
    refine own_pre (T' := T161) (g' := (mkF m 231 L157 [(.ref a124), (.ref a117), (.ref a161), (.ref a161)])) (fun t k => XS.aload X161.here hx rfl (v := (.ref a124)) (hb hby at_229) (by rw [← hL157]; rfl) rfl k) ?_
    have F168 : n0 ≤ h161.size := (Nat.le_trans F160 E161.1)
    refine own_init (a := a161) (argsL := [(.ref a117), (.ref a124)]) (rest := [(.ref a161)]) X161 hx hZ hown (own_svinit l Z a0 hw [] a161 a117 a124 h161 n0 F168 A161 F166 F167 nw165) rfl (hw _ (List.mem_of_getElem? (i := 5) rfl)) (hw _ (List.mem_of_getElem? (i := 6) rfl)) (hw _ (List.mem_of_getElem? (i := 7) rfl)) (hw _ (List.mem_of_getElem? (i := 4) rfl)) (by decide) e161 (hb hby at_231) (by rw [hml, ← hL157]; rfl) rfl (lenOf own_pd0 rfl) (by decide) (W := 1) (Nat.le_of_eq rfl) (by decide) (by decide) (by decide) ?_
    intro v169 T169 lo169 X169 Q169
    obtain ⟨h169, e169⟩ : ∃ h, T169.heap = h := ⟨_, rfl⟩
    rw [e169] at Q169
    obtain ⟨rfl, N169, K169, G1169, G2169⟩ := Q169
    have N169' := Fr.app N155 N169
    show own_Go _ _ _ _ _ _ _ T169 (mkF m 234 L157 [(.ref a161)])
    refine own_pre (T' := T169) (g' := (mkF m 236 #[.val (.int p0), .val (.int p1), .val (.int p2), .val (.int p3), .val (.long p4), .second, .val (.int (1 : Int32)), .val (.int v95), .val (.int v97), .val (.long v99), .second, .val (.long v101), .second, .val (.long v103), .second, .val (.long v105), .second, .val (.long v107), .second, .val (.long v109), .second, .val (.long v111), .second, .val (.long v113), .second, .val (.long v115), .second, .val (.ref a117), .val (.ref a124), .val (.ref a134), .val (.ref a161)] [])) (fun t k => XS.astore X169.here hx rfl (hb hby at_234) rfl rfl (l' := #[.val (.int p0), .val (.int p1), .val (.int p2), .val (.int p3), .val (.long p4), .second, .val (.int (1 : Int32)), .val (.int v95), .val (.int v97), .val (.long v99), .second, .val (.long v101), .second, .val (.long v103), .second, .val (.long v105), .second, .val (.long v107), .second, .val (.long v109), .second, .val (.long v111), .second, .val (.long v113), .second, .val (.long v115), .second, .val (.ref a117), .val (.ref a124), .val (.ref a134), .val (.ref a161)]) (by rw [← hL157]; rfl) k) ?_
    generalize hL170 : (#[.val (.int p0), .val (.int p1), .val (.int p2), .val (.int p3), .val (.long p4), .second, .val (.int (1 : Int32)), .val (.int v95), .val (.int v97), .val (.long v99), .second, .val (.long v101), .second, .val (.long v103), .second, .val (.long v105), .second, .val (.long v107), .second, .val (.long v109), .second, .val (.long v111), .second, .val (.long v113), .second, .val (.long v115), .second, .val (.ref a117), .val (.ref a124), .val (.ref a134), .val (.ref a161)] : Array Slot) = L170
    refine own_pre (T' := T169) (g' := (mkF m 238 L170 [(.ref a161)])) (fun t k => XS.aload X169.here hx rfl (v := (.ref a161)) (hb hby at_236) (by rw [← hL170]; rfl) rfl k) ?_
    refine own_pre (T' := T169) (g' := (mkF m 240 L170 [(.ref a134), (.ref a161)])) (fun t k => XS.aload X169.here hx rfl (v := (.ref a134)) (hb hby at_238) (by rw [← hL170]; rfl) rfl k) ?_
    refine own_pre (T' := T169) (g' := (mkF m 242 L170 [(.long v103), (.ref a134), (.ref a161)])) (fun t k => XT.lload X169.here hx rfl (v := v103) (hb hby at_240) (by rw [← hL170]; rfl) k) ?_
    obtain ⟨f171, hf171⟩ : ∃ z, FP.l2d v103 = z := ⟨_, rfl⟩
    refine own_pre (T' := T169) (g' := (mkF m 243 L170 [(.double f171), (.ref a134), (.ref a161)])) (fun t k => XS.l2dS X169.here hx rfl (hb hby at_242) rfl hf171 k) ?_
    have Df171 : Jvm.FP.Core.DInt v103.toInt f171 := hf171 ▸ Jvm.FP.Core.l2d_int (own_abs Bv103)
    have hpick : ∀ k, k < 6 → ∃ (f : UInt64) (e : Int64), ([(.double f139), (.double f142), (.double f145), (.double f148), (.double f151), (.double f154)] : List Value)[k]? = some (.double f) ∧ ([v105, v107, v109, v111, v113, v115] : List Int64)[k]? = some e ∧ FP.Core.DInt e.toInt f ∧ (-32768 ≤ e.toInt ∧ e.toInt ≤ 32768) := by
      intro k hk
      match k, hk with
      | 0, _ => exact ⟨f139, v105, rfl, rfl, Df139, Bv105⟩
      | 1, _ => exact ⟨f142, v107, rfl, rfl, Df142, Bv107⟩
      | 2, _ => exact ⟨f145, v109, rfl, rfl, Df145, Bv109⟩
      | 3, _ => exact ⟨f148, v111, rfl, rfl, Df148, Bv111⟩
      | 4, _ => exact ⟨f151, v113, rfl, rfl, Df151, Bv113⟩
      | 5, _ => exact ⟨f154, v115, rfl, rfl, Df154, Bv115⟩
    obtain ⟨y0, e0, hy0, he0, DY0, hE0⟩ := hpick v95.toNatClampNeg (own_lt6 hq0)
    have F172 : n0 ≤ h169.size := (Nat.le_trans F168 K169.1)
    have F173 : own_Ary Z h169 a117 .int [(.int v95)] := ((F158.ext E161).keep K169 (ninS (Nat.ne_of_lt lt162) nin0))
    have F174 : own_Ary Z h169 a124 .double [(.double f128)] := ((F159.ext E161).keep K169 (ninS (Nat.ne_of_lt lt163) nin0))
    have F175 : own_Ary Z h169 a134 .double [(.double f139), (.double f142), (.double f145), (.double f148), (.double f151), (.double f154)] := ((F156.ext E161).keep K169 (ninS (Nat.ne_of_lt lt164) nin0))
    have F176 : Exa Z h169 a161 "com/example/galicia/galicia/lime/SparseVector" := (A161.keep K169)
    refine own_callv (a := a161) (argsL := [(.ref a134), (.double f171)]) (rest := []) X169 hx hZ hown (own_addto1 l Z a0 hw [] a161 a117 a124 a134 _ f171 v103.toInt v95 f128 y0 v99.toInt e0.toInt h169 n0 F172 G1169 G2169 F173 F174 F175 (Nat.ne_of_gt lt164) (Nat.ne_of_lt lt135) (Nat.ne_of_lt lt136) nw137 Df171 hq0.1 hy0 Df128 DY0 P0 (own_abs50 hE0)) F176 (hw _ (List.mem_of_getElem? (i := 15) rfl)) (hw _ (List.mem_of_getElem? (i := 16) rfl)) (hw _ (List.mem_of_getElem? (i := 18) rfl)) (hw _ (List.mem_of_getElem? (i := 17) rfl)) (hw _ (List.mem_of_getElem? (i := 19) rfl)) (hw _ (List.mem_of_getElem? (i := 4) rfl)) (by decide) e169 (hb hby at_243) (by rw [hml, ← hL170]; rfl) rfl (lenOf own_pd1 rfl) (by decide) (W := 0) (Nat.le_of_eq rfl) (by decide) (by decide) (by decide) ?_
    intro v177 T177 lo177 X177 Q177
    obtain ⟨h177, e177⟩ : ∃ h, T177.heap = h := ⟨_, rfl⟩
    rw [e177] at Q177
    obtain ⟨r0_177, rfl, N177, K177, A177, DR0_177⟩ := Q177
    have N177' := Fr.app N169' N177
    show own_Go _ _ _ _ _ _ _ T177 (mkF m 246 L170 [])
    have hab0 : 0 = v95.toNatClampNeg → e0.toInt = v105.toInt := fun q => by rw [← q] at he0; exact congrArg Int64.toInt (Option.some.inj he0).symm
    obtain ⟨g1781, hg1781, Dg1781⟩ := own_set1 (k := 0) (O := [(.double f139), (.double f142), (.double f145), (.double f148), (.double f151), (.double f154)]) (f := f139) rfl Df139 hy0 DR0_177 hab0
    obtain ⟨g178, hg178, Dg178⟩ : ∃ g, (([(.double f139), (.double f142), (.double f145), (.double f148), (.double f151), (.double f154)].set v95.toNatClampNeg (.double r0_177)) : List Value)[0]? = some (.double g) ∧ FP.Core.DInt (v105.toInt + (if 0 = v95.toNatClampNeg then v103.toInt * v99.toInt else 0) + 0) g := ⟨g1781, hg1781, by simpa using Dg1781⟩
    refine own_pre (T' := T177) (g' := (mkF m 248 L170 [(.ref a134)])) (fun t k => XS.aload X177.here hx rfl (v := (.ref a134)) (hb hby at_246) (by rw [← hL170]; rfl) rfl k) ?_
    refine own_pre (T' := T177) (g' := (mkF m 249 L170 [(.int (0 : Int32)), (.ref a134)])) (fun t k => XS.iconst X177.here hx rfl (hb hby at_248) k) ?_
    refine own_daload X177 hx hZ e177 A177 (hb hby at_249) (n := 0) (v := (.double g178)) (by decide) (by decide) hg178 ?_
    show own_Go _ _ _ _ _ _ _ T177 (mkF m 250 L170 [(.double g178)])
    refine own_pre (T' := T177) (g' := (mkF m 252 L170 [(.long v105), (.double g178)])) (fun t k => XT.lload X177.here hx rfl (v := v105) (hb hby at_250) (by rw [← hL170]; rfl) k) ?_
    refine own_pre (T' := T177) (g' := (mkF m 253 L170 [(.int (0 : Int32)), (.long v105), (.double g178)])) (fun t k => XS.iconst X177.here hx rfl (hb hby at_252) k) ?_
    refine own_pre (T' := T177) (g' := (mkF m 255 L170 [(.int (1 : Int32)), (.int (0 : Int32)), (.long v105), (.double g178)])) (fun t k => XS.iload X177.here hx rfl (v := (1 : Int32)) (hb hby at_253) (by rw [← hL170]; rfl) k) ?_
    refine own_pre (T' := T177) (g' := (mkF m 257 L170 [(.int v95), (.int (1 : Int32)), (.int (0 : Int32)), (.long v105), (.double g178)])) (fun t k => XS.iload X177.here hx rfl (v := v95) (hb hby at_255) (by rw [← hL170]; rfl) k) ?_
    refine own_pre (T' := T177) (g' := (mkF m 259 L170 [(.int v97), (.int v95), (.int (1 : Int32)), (.int (0 : Int32)), (.long v105), (.double g178)])) (fun t k => XS.iload X177.here hx rfl (v := v97) (hb hby at_257) (by rw [← hL170]; rfl) k) ?_
    refine own_pre (T' := T177) (g' := (mkF m 261 L170 [(.long v103), (.int v97), (.int v95), (.int (1 : Int32)), (.int (0 : Int32)), (.long v105), (.double g178)])) (fun t k => XT.lload X177.here hx rfl (v := v103) (hb hby at_259) (by rw [← hL170]; rfl) k) ?_
    refine own_pre (T' := T177) (g' := (mkF m 263 L170 [(.long v99), (.long v103), (.int v97), (.int v95), (.int (1 : Int32)), (.int (0 : Int32)), (.long v105), (.double g178)])) (fun t k => XT.lload X177.here hx rfl (v := v99) (hb hby at_261) (by rw [← hL170]; rfl) k) ?_
    refine own_pre (T' := T177) (g' := (mkF m 265 L170 [(.long v101), (.long v99), (.long v103), (.int v97), (.int v95), (.int (1 : Int32)), (.int (0 : Int32)), (.long v105), (.double g178)])) (fun t k => XT.lload X177.here hx rfl (v := v101) (hb hby at_263) (by rw [← hL170]; rfl) k) ?_
    have F179 : n0 ≤ h177.size := (Nat.le_trans F172 K177.1)
    refine own_calls (argsL := [(.double g178), (.long v105), (.int (0 : Int32)), (.int (1 : Int32)), (.int v95), (.int v97), (.long v103), (.long v99), (.long v101)]) (rest := []) X177 hx hZ hown (own_okT l Z a0 hw [] g178 v105 (0 : Int32) (1 : Int32) v95 v97 v103 v99 v101 (if 0 = v95.toNatClampNeg then v103.toInt * v99.toInt else 0) 0 h177 n0 F179 (own_ifb (i := 0) (by decide) (by decide) (by decide) hq0.1) (own_ifa (by decide)) Dg178 (own_abs50 Bv105) P0 P1) (hw _ (List.mem_of_getElem? (i := 20) rfl)) (hw _ (List.mem_of_getElem? (i := 21) rfl)) (hw _ (List.mem_of_getElem? (i := 23) rfl)) (hw _ (List.mem_of_getElem? (i := 22) rfl)) (by decide) e177 (hb hby at_265) (by rw [hml, ← hL170]; rfl) rfl (lenOf own_pd2 rfl) (by decide) (W := 0) (Nat.le_of_eq rfl) (by decide) (by decide) (by decide) ?_
    intro v180 T180 lo180 X180 Q180
    obtain ⟨h180, e180⟩ : ∃ h, T180.heap = h := ⟨_, rfl⟩
    rw [e180] at Q180
    obtain ⟨rfl, N180, q180⟩ := Q180
    have N180' := Fr.app N177' N180
    have e180' : T180.heap = h177 := e180.trans q180
    show own_Go _ _ _ _ _ _ _ T180 (mkF m 268 L170 [(.int (1 : Int32))])
    refine own_pre (T' := T180) (g' := (mkF m 271 L170 [])) (fun t k => XS.ifNo X180.here hx rfl (hb hby at_268) rfl (by decide) k) ?_
    refine own_pre (T' := T180) (g' := (mkF m 273 L170 [(.ref a134)])) (fun t k => XS.aload X180.here hx rfl (v := (.ref a134)) (hb hby at_271) (by rw [← hL170]; rfl) rfl k) ?_
    refine own_pre (T' := T180) (g' := (mkF m 274 L170 [(.int (1 : Int32)), (.ref a134)])) (fun t k => XS.iconst X180.here hx rfl (hb hby at_273) k) ?_
    have hab0 : 1 = v95.toNatClampNeg → e0.toInt = v107.toInt := fun q => by rw [← q] at he0; exact congrArg Int64.toInt (Option.some.inj he0).symm
    obtain ⟨g1811, hg1811, Dg1811⟩ := own_set1 (k := 1) (O := [(.double f139), (.double f142), (.double f145), (.double f148), (.double f151), (.double f154)]) (f := f142) rfl Df142 hy0 DR0_177 hab0
    obtain ⟨g181, hg181, Dg181⟩ : ∃ g, (([(.double f139), (.double f142), (.double f145), (.double f148), (.double f151), (.double f154)].set v95.toNatClampNeg (.double r0_177)) : List Value)[1]? = some (.double g) ∧ FP.Core.DInt (v107.toInt + (if 1 = v95.toNatClampNeg then v103.toInt * v99.toInt else 0) + 0) g := ⟨g1811, hg1811, by simpa using Dg1811⟩
    refine own_daload X180 hx hZ e180' A177 (hb hby at_274) (n := 1) (v := (.double g181)) (by decide) (by decide) hg181 ?_
    show own_Go _ _ _ _ _ _ _ T180 (mkF m 275 L170 [(.double g181)])
    refine own_pre (T' := T180) (g' := (mkF m 277 L170 [(.long v107), (.double g181)])) (fun t k => XT.lload X180.here hx rfl (v := v107) (hb hby at_275) (by rw [← hL170]; rfl) k) ?_
    refine own_pre (T' := T180) (g' := (mkF m 278 L170 [(.int (1 : Int32)), (.long v107), (.double g181)])) (fun t k => XS.iconst X180.here hx rfl (hb hby at_277) k) ?_
    refine own_pre (T' := T180) (g' := (mkF m 280 L170 [(.int (1 : Int32)), (.int (1 : Int32)), (.long v107), (.double g181)])) (fun t k => XS.iload X180.here hx rfl (v := (1 : Int32)) (hb hby at_278) (by rw [← hL170]; rfl) k) ?_
    refine own_pre (T' := T180) (g' := (mkF m 282 L170 [(.int v95), (.int (1 : Int32)), (.int (1 : Int32)), (.long v107), (.double g181)])) (fun t k => XS.iload X180.here hx rfl (v := v95) (hb hby at_280) (by rw [← hL170]; rfl) k) ?_
    refine own_pre (T' := T180) (g' := (mkF m 284 L170 [(.int v97), (.int v95), (.int (1 : Int32)), (.int (1 : Int32)), (.long v107), (.double g181)])) (fun t k => XS.iload X180.here hx rfl (v := v97) (hb hby at_282) (by rw [← hL170]; rfl) k) ?_
    refine own_pre (T' := T180) (g' := (mkF m 286 L170 [(.long v103), (.int v97), (.int v95), (.int (1 : Int32)), (.int (1 : Int32)), (.long v107), (.double g181)])) (fun t k => XT.lload X180.here hx rfl (v := v103) (hb hby at_284) (by rw [← hL170]; rfl) k) ?_
    refine own_pre (T' := T180) (g' := (mkF m 288 L170 [(.long v99), (.long v103), (.int v97), (.int v95), (.int (1 : Int32)), (.int (1 : Int32)), (.long v107), (.double g181)])) (fun t k => XT.lload X180.here hx rfl (v := v99) (hb hby at_286) (by rw [← hL170]; rfl) k) ?_
    refine own_pre (T' := T180) (g' := (mkF m 290 L170 [(.long v101), (.long v99), (.long v103), (.int v97), (.int v95), (.int (1 : Int32)), (.int (1 : Int32)), (.long v107), (.double g181)])) (fun t k => XT.lload X180.here hx rfl (v := v101) (hb hby at_288) (by rw [← hL170]; rfl) k) ?_
    refine own_calls (argsL := [(.double g181), (.long v107), (.int (1 : Int32)), (.int (1 : Int32)), (.int v95), (.int v97), (.long v103), (.long v99), (.long v101)]) (rest := []) X180 hx hZ hown (own_okT l Z a0 hw [] g181 v107 (1 : Int32) (1 : Int32) v95 v97 v103 v99 v101 (if 1 = v95.toNatClampNeg then v103.toInt * v99.toInt else 0) 0 h177 n0 F179 (own_ifb (i := 1) (by decide) (by decide) (by decide) hq0.1) (own_ifa (by decide)) Dg181 (own_abs50 Bv107) P0 P1) (hw _ (List.mem_of_getElem? (i := 20) rfl)) (hw _ (List.mem_of_getElem? (i := 21) rfl)) (hw _ (List.mem_of_getElem? (i := 23) rfl)) (hw _ (List.mem_of_getElem? (i := 22) rfl)) (by decide) e180' (hb hby at_290) (by rw [hml, ← hL170]; rfl) rfl (lenOf own_pd2 rfl) (by decide) (W := 0) (Nat.le_of_eq rfl) (by decide) (by decide) (by decide) ?_
    intro v182 T182 lo182 X182 Q182
    obtain ⟨h182, e182⟩ : ∃ h, T182.heap = h := ⟨_, rfl⟩
    rw [e182] at Q182
    obtain ⟨rfl, N182, q182⟩ := Q182
    have N182' := Fr.app N180' N182
    have e182' : T182.heap = h177 := e182.trans q182
    show own_Go _ _ _ _ _ _ _ T182 (mkF m 293 L170 [(.int (1 : Int32))])
    refine own_pre (T' := T182) (g' := (mkF m 296 L170 [])) (fun t k => XS.ifNo X182.here hx rfl (hb hby at_293) rfl (by decide) k) ?_
    refine own_pre (T' := T182) (g' := (mkF m 298 L170 [(.ref a134)])) (fun t k => XS.aload X182.here hx rfl (v := (.ref a134)) (hb hby at_296) (by rw [← hL170]; rfl) rfl k) ?_
    refine own_pre (T' := T182) (g' := (mkF m 299 L170 [(.int (2 : Int32)), (.ref a134)])) (fun t k => XS.iconst X182.here hx rfl (hb hby at_298) k) ?_
    have hab0 : 2 = v95.toNatClampNeg → e0.toInt = v109.toInt := fun q => by rw [← q] at he0; exact congrArg Int64.toInt (Option.some.inj he0).symm
    obtain ⟨g1831, hg1831, Dg1831⟩ := own_set1 (k := 2) (O := [(.double f139), (.double f142), (.double f145), (.double f148), (.double f151), (.double f154)]) (f := f145) rfl Df145 hy0 DR0_177 hab0
    obtain ⟨g183, hg183, Dg183⟩ : ∃ g, (([(.double f139), (.double f142), (.double f145), (.double f148), (.double f151), (.double f154)].set v95.toNatClampNeg (.double r0_177)) : List Value)[2]? = some (.double g) ∧ FP.Core.DInt (v109.toInt + (if 2 = v95.toNatClampNeg then v103.toInt * v99.toInt else 0) + 0) g := ⟨g1831, hg1831, by simpa using Dg1831⟩
    refine own_daload X182 hx hZ e182' A177 (hb hby at_299) (n := 2) (v := (.double g183)) (by decide) (by decide) hg183 ?_
    show own_Go _ _ _ _ _ _ _ T182 (mkF m 300 L170 [(.double g183)])
    refine own_pre (T' := T182) (g' := (mkF m 302 L170 [(.long v109), (.double g183)])) (fun t k => XT.lload X182.here hx rfl (v := v109) (hb hby at_300) (by rw [← hL170]; rfl) k) ?_
    refine own_pre (T' := T182) (g' := (mkF m 303 L170 [(.int (2 : Int32)), (.long v109), (.double g183)])) (fun t k => XS.iconst X182.here hx rfl (hb hby at_302) k) ?_
    refine own_pre (T' := T182) (g' := (mkF m 305 L170 [(.int (1 : Int32)), (.int (2 : Int32)), (.long v109), (.double g183)])) (fun t k => XS.iload X182.here hx rfl (v := (1 : Int32)) (hb hby at_303) (by rw [← hL170]; rfl) k) ?_
    refine own_pre (T' := T182) (g' := (mkF m 307 L170 [(.int v95), (.int (1 : Int32)), (.int (2 : Int32)), (.long v109), (.double g183)])) (fun t k => XS.iload X182.here hx rfl (v := v95) (hb hby at_305) (by rw [← hL170]; rfl) k) ?_
    refine own_pre (T' := T182) (g' := (mkF m 309 L170 [(.int v97), (.int v95), (.int (1 : Int32)), (.int (2 : Int32)), (.long v109), (.double g183)])) (fun t k => XS.iload X182.here hx rfl (v := v97) (hb hby at_307) (by rw [← hL170]; rfl) k) ?_
    refine own_pre (T' := T182) (g' := (mkF m 311 L170 [(.long v103), (.int v97), (.int v95), (.int (1 : Int32)), (.int (2 : Int32)), (.long v109), (.double g183)])) (fun t k => XT.lload X182.here hx rfl (v := v103) (hb hby at_309) (by rw [← hL170]; rfl) k) ?_
    refine own_pre (T' := T182) (g' := (mkF m 313 L170 [(.long v99), (.long v103), (.int v97), (.int v95), (.int (1 : Int32)), (.int (2 : Int32)), (.long v109), (.double g183)])) (fun t k => XT.lload X182.here hx rfl (v := v99) (hb hby at_311) (by rw [← hL170]; rfl) k) ?_
    refine own_pre (T' := T182) (g' := (mkF m 315 L170 [(.long v101), (.long v99), (.long v103), (.int v97), (.int v95), (.int (1 : Int32)), (.int (2 : Int32)), (.long v109), (.double g183)])) (fun t k => XT.lload X182.here hx rfl (v := v101) (hb hby at_313) (by rw [← hL170]; rfl) k) ?_
    refine own_calls (argsL := [(.double g183), (.long v109), (.int (2 : Int32)), (.int (1 : Int32)), (.int v95), (.int v97), (.long v103), (.long v99), (.long v101)]) (rest := []) X182 hx hZ hown (own_okT l Z a0 hw [] g183 v109 (2 : Int32) (1 : Int32) v95 v97 v103 v99 v101 (if 2 = v95.toNatClampNeg then v103.toInt * v99.toInt else 0) 0 h177 n0 F179 (own_ifb (i := 2) (by decide) (by decide) (by decide) hq0.1) (own_ifa (by decide)) Dg183 (own_abs50 Bv109) P0 P1) (hw _ (List.mem_of_getElem? (i := 20) rfl)) (hw _ (List.mem_of_getElem? (i := 21) rfl)) (hw _ (List.mem_of_getElem? (i := 23) rfl)) (hw _ (List.mem_of_getElem? (i := 22) rfl)) (by decide) e182' (hb hby at_315) (by rw [hml, ← hL170]; rfl) rfl (lenOf own_pd2 rfl) (by decide) (W := 0) (Nat.le_of_eq rfl) (by decide) (by decide) (by decide) ?_
    intro v184 T184 lo184 X184 Q184
    obtain ⟨h184, e184⟩ : ∃ h, T184.heap = h := ⟨_, rfl⟩
    rw [e184] at Q184
    obtain ⟨rfl, N184, q184⟩ := Q184
    have N184' := Fr.app N182' N184
    have e184' : T184.heap = h177 := e184.trans q184
    show own_Go _ _ _ _ _ _ _ T184 (mkF m 318 L170 [(.int (1 : Int32))])
    refine own_pre (T' := T184) (g' := (mkF m 321 L170 [])) (fun t k => XS.ifNo X184.here hx rfl (hb hby at_318) rfl (by decide) k) ?_
    refine own_pre (T' := T184) (g' := (mkF m 323 L170 [(.ref a134)])) (fun t k => XS.aload X184.here hx rfl (v := (.ref a134)) (hb hby at_321) (by rw [← hL170]; rfl) rfl k) ?_
    refine own_pre (T' := T184) (g' := (mkF m 324 L170 [(.int (3 : Int32)), (.ref a134)])) (fun t k => XS.iconst X184.here hx rfl (hb hby at_323) k) ?_
    have hab0 : 3 = v95.toNatClampNeg → e0.toInt = v111.toInt := fun q => by rw [← q] at he0; exact congrArg Int64.toInt (Option.some.inj he0).symm
    obtain ⟨g1851, hg1851, Dg1851⟩ := own_set1 (k := 3) (O := [(.double f139), (.double f142), (.double f145), (.double f148), (.double f151), (.double f154)]) (f := f148) rfl Df148 hy0 DR0_177 hab0
    obtain ⟨g185, hg185, Dg185⟩ : ∃ g, (([(.double f139), (.double f142), (.double f145), (.double f148), (.double f151), (.double f154)].set v95.toNatClampNeg (.double r0_177)) : List Value)[3]? = some (.double g) ∧ FP.Core.DInt (v111.toInt + (if 3 = v95.toNatClampNeg then v103.toInt * v99.toInt else 0) + 0) g := ⟨g1851, hg1851, by simpa using Dg1851⟩
    refine own_daload X184 hx hZ e184' A177 (hb hby at_324) (n := 3) (v := (.double g185)) (by decide) (by decide) hg185 ?_
    show own_Go _ _ _ _ _ _ _ T184 (mkF m 325 L170 [(.double g185)])
    refine own_pre (T' := T184) (g' := (mkF m 327 L170 [(.long v111), (.double g185)])) (fun t k => XT.lload X184.here hx rfl (v := v111) (hb hby at_325) (by rw [← hL170]; rfl) k) ?_
    refine own_pre (T' := T184) (g' := (mkF m 328 L170 [(.int (3 : Int32)), (.long v111), (.double g185)])) (fun t k => XS.iconst X184.here hx rfl (hb hby at_327) k) ?_
    refine own_pre (T' := T184) (g' := (mkF m 330 L170 [(.int (1 : Int32)), (.int (3 : Int32)), (.long v111), (.double g185)])) (fun t k => XS.iload X184.here hx rfl (v := (1 : Int32)) (hb hby at_328) (by rw [← hL170]; rfl) k) ?_
    refine own_pre (T' := T184) (g' := (mkF m 332 L170 [(.int v95), (.int (1 : Int32)), (.int (3 : Int32)), (.long v111), (.double g185)])) (fun t k => XS.iload X184.here hx rfl (v := v95) (hb hby at_330) (by rw [← hL170]; rfl) k) ?_
    refine own_pre (T' := T184) (g' := (mkF m 334 L170 [(.int v97), (.int v95), (.int (1 : Int32)), (.int (3 : Int32)), (.long v111), (.double g185)])) (fun t k => XS.iload X184.here hx rfl (v := v97) (hb hby at_332) (by rw [← hL170]; rfl) k) ?_
    refine own_pre (T' := T184) (g' := (mkF m 336 L170 [(.long v103), (.int v97), (.int v95), (.int (1 : Int32)), (.int (3 : Int32)), (.long v111), (.double g185)])) (fun t k => XT.lload X184.here hx rfl (v := v103) (hb hby at_334) (by rw [← hL170]; rfl) k) ?_
    refine own_pre (T' := T184) (g' := (mkF m 338 L170 [(.long v99), (.long v103), (.int v97), (.int v95), (.int (1 : Int32)), (.int (3 : Int32)), (.long v111), (.double g185)])) (fun t k => XT.lload X184.here hx rfl (v := v99) (hb hby at_336) (by rw [← hL170]; rfl) k) ?_
    refine own_pre (T' := T184) (g' := (mkF m 340 L170 [(.long v101), (.long v99), (.long v103), (.int v97), (.int v95), (.int (1 : Int32)), (.int (3 : Int32)), (.long v111), (.double g185)])) (fun t k => XT.lload X184.here hx rfl (v := v101) (hb hby at_338) (by rw [← hL170]; rfl) k) ?_
    refine own_calls (argsL := [(.double g185), (.long v111), (.int (3 : Int32)), (.int (1 : Int32)), (.int v95), (.int v97), (.long v103), (.long v99), (.long v101)]) (rest := []) X184 hx hZ hown (own_okT l Z a0 hw [] g185 v111 (3 : Int32) (1 : Int32) v95 v97 v103 v99 v101 (if 3 = v95.toNatClampNeg then v103.toInt * v99.toInt else 0) 0 h177 n0 F179 (own_ifb (i := 3) (by decide) (by decide) (by decide) hq0.1) (own_ifa (by decide)) Dg185 (own_abs50 Bv111) P0 P1) (hw _ (List.mem_of_getElem? (i := 20) rfl)) (hw _ (List.mem_of_getElem? (i := 21) rfl)) (hw _ (List.mem_of_getElem? (i := 23) rfl)) (hw _ (List.mem_of_getElem? (i := 22) rfl)) (by decide) e184' (hb hby at_340) (by rw [hml, ← hL170]; rfl) rfl (lenOf own_pd2 rfl) (by decide) (W := 0) (Nat.le_of_eq rfl) (by decide) (by decide) (by decide) ?_
    intro v186 T186 lo186 X186 Q186
    obtain ⟨h186, e186⟩ : ∃ h, T186.heap = h := ⟨_, rfl⟩
    rw [e186] at Q186
    obtain ⟨rfl, N186, q186⟩ := Q186
    have N186' := Fr.app N184' N186
    have e186' : T186.heap = h177 := e186.trans q186
    show own_Go _ _ _ _ _ _ _ T186 (mkF m 343 L170 [(.int (1 : Int32))])
    refine own_pre (T' := T186) (g' := (mkF m 346 L170 [])) (fun t k => XS.ifNo X186.here hx rfl (hb hby at_343) rfl (by decide) k) ?_
    refine own_pre (T' := T186) (g' := (mkF m 348 L170 [(.ref a134)])) (fun t k => XS.aload X186.here hx rfl (v := (.ref a134)) (hb hby at_346) (by rw [← hL170]; rfl) rfl k) ?_
    refine own_pre (T' := T186) (g' := (mkF m 349 L170 [(.int (4 : Int32)), (.ref a134)])) (fun t k => XS.iconst X186.here hx rfl (hb hby at_348) k) ?_
    have hab0 : 4 = v95.toNatClampNeg → e0.toInt = v113.toInt := fun q => by rw [← q] at he0; exact congrArg Int64.toInt (Option.some.inj he0).symm
    obtain ⟨g1871, hg1871, Dg1871⟩ := own_set1 (k := 4) (O := [(.double f139), (.double f142), (.double f145), (.double f148), (.double f151), (.double f154)]) (f := f151) rfl Df151 hy0 DR0_177 hab0
    obtain ⟨g187, hg187, Dg187⟩ : ∃ g, (([(.double f139), (.double f142), (.double f145), (.double f148), (.double f151), (.double f154)].set v95.toNatClampNeg (.double r0_177)) : List Value)[4]? = some (.double g) ∧ FP.Core.DInt (v113.toInt + (if 4 = v95.toNatClampNeg then v103.toInt * v99.toInt else 0) + 0) g := ⟨g1871, hg1871, by simpa using Dg1871⟩
    refine own_daload X186 hx hZ e186' A177 (hb hby at_349) (n := 4) (v := (.double g187)) (by decide) (by decide) hg187 ?_
    show own_Go _ _ _ _ _ _ _ T186 (mkF m 350 L170 [(.double g187)])
    refine own_pre (T' := T186) (g' := (mkF m 352 L170 [(.long v113), (.double g187)])) (fun t k => XT.lload X186.here hx rfl (v := v113) (hb hby at_350) (by rw [← hL170]; rfl) k) ?_
    refine own_pre (T' := T186) (g' := (mkF m 353 L170 [(.int (4 : Int32)), (.long v113), (.double g187)])) (fun t k => XS.iconst X186.here hx rfl (hb hby at_352) k) ?_
    refine own_pre (T' := T186) (g' := (mkF m 355 L170 [(.int (1 : Int32)), (.int (4 : Int32)), (.long v113), (.double g187)])) (fun t k => XS.iload X186.here hx rfl (v := (1 : Int32)) (hb hby at_353) (by rw [← hL170]; rfl) k) ?_
    refine own_pre (T' := T186) (g' := (mkF m 357 L170 [(.int v95), (.int (1 : Int32)), (.int (4 : Int32)), (.long v113), (.double g187)])) (fun t k => XS.iload X186.here hx rfl (v := v95) (hb hby at_355) (by rw [← hL170]; rfl) k) ?_
    refine own_pre (T' := T186) (g' := (mkF m 359 L170 [(.int v97), (.int v95), (.int (1 : Int32)), (.int (4 : Int32)), (.long v113), (.double g187)])) (fun t k => XS.iload X186.here hx rfl (v := v97) (hb hby at_357) (by rw [← hL170]; rfl) k) ?_
    refine own_pre (T' := T186) (g' := (mkF m 361 L170 [(.long v103), (.int v97), (.int v95), (.int (1 : Int32)), (.int (4 : Int32)), (.long v113), (.double g187)])) (fun t k => XT.lload X186.here hx rfl (v := v103) (hb hby at_359) (by rw [← hL170]; rfl) k) ?_
    refine own_pre (T' := T186) (g' := (mkF m 363 L170 [(.long v99), (.long v103), (.int v97), (.int v95), (.int (1 : Int32)), (.int (4 : Int32)), (.long v113), (.double g187)])) (fun t k => XT.lload X186.here hx rfl (v := v99) (hb hby at_361) (by rw [← hL170]; rfl) k) ?_
    refine own_pre (T' := T186) (g' := (mkF m 365 L170 [(.long v101), (.long v99), (.long v103), (.int v97), (.int v95), (.int (1 : Int32)), (.int (4 : Int32)), (.long v113), (.double g187)])) (fun t k => XT.lload X186.here hx rfl (v := v101) (hb hby at_363) (by rw [← hL170]; rfl) k) ?_
    refine own_calls (argsL := [(.double g187), (.long v113), (.int (4 : Int32)), (.int (1 : Int32)), (.int v95), (.int v97), (.long v103), (.long v99), (.long v101)]) (rest := []) X186 hx hZ hown (own_okT l Z a0 hw [] g187 v113 (4 : Int32) (1 : Int32) v95 v97 v103 v99 v101 (if 4 = v95.toNatClampNeg then v103.toInt * v99.toInt else 0) 0 h177 n0 F179 (own_ifb (i := 4) (by decide) (by decide) (by decide) hq0.1) (own_ifa (by decide)) Dg187 (own_abs50 Bv113) P0 P1) (hw _ (List.mem_of_getElem? (i := 20) rfl)) (hw _ (List.mem_of_getElem? (i := 21) rfl)) (hw _ (List.mem_of_getElem? (i := 23) rfl)) (hw _ (List.mem_of_getElem? (i := 22) rfl)) (by decide) e186' (hb hby at_365) (by rw [hml, ← hL170]; rfl) rfl (lenOf own_pd2 rfl) (by decide) (W := 0) (Nat.le_of_eq rfl) (by decide) (by decide) (by decide) ?_
    intro v188 T188 lo188 X188 Q188
    obtain ⟨h188, e188⟩ : ∃ h, T188.heap = h := ⟨_, rfl⟩
    rw [e188] at Q188
    obtain ⟨rfl, N188, q188⟩ := Q188
    have N188' := Fr.app N186' N188
    have e188' : T188.heap = h177 := e188.trans q188
    show own_Go _ _ _ _ _ _ _ T188 (mkF m 368 L170 [(.int (1 : Int32))])
    refine own_pre (T' := T188) (g' := (mkF m 371 L170 [])) (fun t k => XS.ifNo X188.here hx rfl (hb hby at_368) rfl (by decide) k) ?_
    refine own_pre (T' := T188) (g' := (mkF m 373 L170 [(.ref a134)])) (fun t k => XS.aload X188.here hx rfl (v := (.ref a134)) (hb hby at_371) (by rw [← hL170]; rfl) rfl k) ?_
    refine own_pre (T' := T188) (g' := (mkF m 374 L170 [(.int (5 : Int32)), (.ref a134)])) (fun t k => XS.iconst X188.here hx rfl (hb hby at_373) k) ?_
    have hab0 : 5 = v95.toNatClampNeg → e0.toInt = v115.toInt := fun q => by rw [← q] at he0; exact congrArg Int64.toInt (Option.some.inj he0).symm
    obtain ⟨g1891, hg1891, Dg1891⟩ := own_set1 (k := 5) (O := [(.double f139), (.double f142), (.double f145), (.double f148), (.double f151), (.double f154)]) (f := f154) rfl Df154 hy0 DR0_177 hab0
    obtain ⟨g189, hg189, Dg189⟩ : ∃ g, (([(.double f139), (.double f142), (.double f145), (.double f148), (.double f151), (.double f154)].set v95.toNatClampNeg (.double r0_177)) : List Value)[5]? = some (.double g) ∧ FP.Core.DInt (v115.toInt + (if 5 = v95.toNatClampNeg then v103.toInt * v99.toInt else 0) + 0) g := ⟨g1891, hg1891, by simpa using Dg1891⟩
    refine own_daload X188 hx hZ e188' A177 (hb hby at_374) (n := 5) (v := (.double g189)) (by decide) (by decide) hg189 ?_
    show own_Go _ _ _ _ _ _ _ T188 (mkF m 375 L170 [(.double g189)])
    refine own_pre (T' := T188) (g' := (mkF m 377 L170 [(.long v115), (.double g189)])) (fun t k => XT.lload X188.here hx rfl (v := v115) (hb hby at_375) (by rw [← hL170]; rfl) k) ?_
    refine own_pre (T' := T188) (g' := (mkF m 378 L170 [(.int (5 : Int32)), (.long v115), (.double g189)])) (fun t k => XS.iconst X188.here hx rfl (hb hby at_377) k) ?_
    refine own_pre (T' := T188) (g' := (mkF m 380 L170 [(.int (1 : Int32)), (.int (5 : Int32)), (.long v115), (.double g189)])) (fun t k => XS.iload X188.here hx rfl (v := (1 : Int32)) (hb hby at_378) (by rw [← hL170]; rfl) k) ?_
    refine own_pre (T' := T188) (g' := (mkF m 382 L170 [(.int v95), (.int (1 : Int32)), (.int (5 : Int32)), (.long v115), (.double g189)])) (fun t k => XS.iload X188.here hx rfl (v := v95) (hb hby at_380) (by rw [← hL170]; rfl) k) ?_
    refine own_pre (T' := T188) (g' := (mkF m 384 L170 [(.int v97), (.int v95), (.int (1 : Int32)), (.int (5 : Int32)), (.long v115), (.double g189)])) (fun t k => XS.iload X188.here hx rfl (v := v97) (hb hby at_382) (by rw [← hL170]; rfl) k) ?_
    refine own_pre (T' := T188) (g' := (mkF m 386 L170 [(.long v103), (.int v97), (.int v95), (.int (1 : Int32)), (.int (5 : Int32)), (.long v115), (.double g189)])) (fun t k => XT.lload X188.here hx rfl (v := v103) (hb hby at_384) (by rw [← hL170]; rfl) k) ?_
    refine own_pre (T' := T188) (g' := (mkF m 388 L170 [(.long v99), (.long v103), (.int v97), (.int v95), (.int (1 : Int32)), (.int (5 : Int32)), (.long v115), (.double g189)])) (fun t k => XT.lload X188.here hx rfl (v := v99) (hb hby at_386) (by rw [← hL170]; rfl) k) ?_
    refine own_pre (T' := T188) (g' := (mkF m 390 L170 [(.long v101), (.long v99), (.long v103), (.int v97), (.int v95), (.int (1 : Int32)), (.int (5 : Int32)), (.long v115), (.double g189)])) (fun t k => XT.lload X188.here hx rfl (v := v101) (hb hby at_388) (by rw [← hL170]; rfl) k) ?_
    refine own_calls (argsL := [(.double g189), (.long v115), (.int (5 : Int32)), (.int (1 : Int32)), (.int v95), (.int v97), (.long v103), (.long v99), (.long v101)]) (rest := []) X188 hx hZ hown (own_okT l Z a0 hw [] g189 v115 (5 : Int32) (1 : Int32) v95 v97 v103 v99 v101 (if 5 = v95.toNatClampNeg then v103.toInt * v99.toInt else 0) 0 h177 n0 F179 (own_ifb (i := 5) (by decide) (by decide) (by decide) hq0.1) (own_ifa (by decide)) Dg189 (own_abs50 Bv115) P0 P1) (hw _ (List.mem_of_getElem? (i := 20) rfl)) (hw _ (List.mem_of_getElem? (i := 21) rfl)) (hw _ (List.mem_of_getElem? (i := 23) rfl)) (hw _ (List.mem_of_getElem? (i := 22) rfl)) (by decide) e188' (hb hby at_390) (by rw [hml, ← hL170]; rfl) rfl (lenOf own_pd2 rfl) (by decide) (W := 0) (Nat.le_of_eq rfl) (by decide) (by decide) (by decide) ?_
    intro v190 T190 lo190 X190 Q190
    obtain ⟨h190, e190⟩ : ∃ h, T190.heap = h := ⟨_, rfl⟩
    rw [e190] at Q190
    obtain ⟨rfl, N190, q190⟩ := Q190
    have N190' := Fr.app N188' N190
    have e190' : T190.heap = h177 := e190.trans q190
    show own_Go _ _ _ _ _ _ _ T190 (mkF m 393 L170 [(.int (1 : Int32))])
    refine own_pre (T' := T190) (g' := (mkF m 396 L170 [])) (fun t k => XS.ifNo X190.here hx rfl (hb hby at_393) rfl (by decide) k) ?_
    refine own_pre (T' := T190) (g' := (mkF m 397 L170 [(.int (1 : Int32))])) (fun t k => XS.iconst X190.here hx rfl (hb hby at_396) k) ?_
    refine own_pre (T' := T190) (g' := (mkF m 401 L170 [(.int (1 : Int32))])) (fun t k => XS.goto X190.here hx rfl (pc0 := 397) (pc' := 401) rfl (hb hby at_397) (by decide) (by decide) k) ?_
    exact own_retZ X190 hx hlk hret rfl (hb hby at_401) e190' ⟨rfl, N190'⟩ (by decide) (by decide)
  · skip
    subst hc
    show own_Go _ _ _ _ _ _ _ s₁ (mkF m 8 L3 [(.int (3 : Int32)), (.int (2 : Int32))])
    refine own_pre (T' := s₁) (g' := (mkF m 14 L3 [])) (fun t k => XS.icmpYes X0.here hx rfl (pc0 := 8) (pc' := 14) rfl (hb hby at_8) rfl (by decide) (by decide) (by decide) k) ?_
    refine own_pre (T' := s₁) (g' := (mkF m 15 L3 [(.int p0)])) (fun t k => XS.iloadN X0.here hx rfl (v := p0) (hb hby at_14) (by rw [← hL3]; rfl) k) ?_
    refine own_pre (T' := s₁) (g' := (mkF m 16 L3 [(.int (2 : Int32)), (.int p0)])) (fun t k => XS.iconst X0.here hx rfl (hb hby at_15) k) ?_
    refine own_pre (T' := s₁) (g' := (mkF m 17 L3 [(.int (XT.ushr p0 (2 : Int32)))])) (fun t k => XT.iushr X0.here hx rfl (hb hby at_16) rfl k) ?_
    refine own_pre (T' := s₁) (g' := (mkF m 18 L3 [(.int (3 : Int32)), (.int (XT.ushr p0 (2 : Int32)))])) (fun t k => XS.iconst X0.here hx rfl (hb hby at_17) k) ?_
    refine own_pre (T' := s₁) (g' := (mkF m 19 L3 [(.int ((XT.ushr p0 (2 : Int32)) &&& (3 : Int32)))])) (fun t k => XS.iand X0.here hx rfl (hb hby at_18) rfl k) ?_
    generalize hv191 : (XT.ushr p0 (2 : Int32)) &&& (3 : Int32) = v191
    refine own_pre (T' := s₁) (g' := (mkF m 21 #[.val (.int p0), .val (.int p1), .val (.int p2), .val (.int p3), .val (.long p4), .second, .val (.int (2 : Int32)), .val (.int v191), .unset, .unset, .unset, .unset, .unset, .unset, .unset, .unset, .unset, .unset, .unset, .unset, .unset, .unset, .unset, .unset, .unset, .unset, .unset, .unset, .unset, .unset, .unset] [])) (fun t k => XS.istore X0.here hx rfl (hb hby at_19) rfl (l' := #[.val (.int p0), .val (.int p1), .val (.int p2), .val (.int p3), .val (.long p4), .second, .val (.int (2 : Int32)), .val (.int v191), .unset, .unset, .unset, .unset, .unset, .unset, .unset, .unset, .unset, .unset, .unset, .unset, .unset, .unset, .unset, .unset, .unset, .unset, .unset, .unset, .unset, .unset, .unset]) (by rw [← hL3]; rfl) k) ?_
    generalize hL192 : (#[.val (.int p0), .val (.int p1), .val (.int p2), .val (.int p3), .val (.long p4), .second, .val (.int (2 : Int32)), .val (.int v191), .unset, .unset, .unset, .unset, .unset, .unset, .unset, .unset, .unset, .unset, .unset, .unset, .unset, .unset, .unset, .unset, .unset, .unset, .unset, .unset, .unset, .unset, .unset] : Array Slot) = L192
    refine own_pre (T' := s₁) (g' := (mkF m 23 L192 [(.int v191)])) (fun t k => XS.iload X0.here hx rfl (v := v191) (hb hby at_21) (by rw [← hL192]; rfl) k) ?_
    refine own_pre (T' := s₁) (g' := (mkF m 24 L192 [(.int (1 : Int32)), (.int v191)])) (fun t k => XS.iconst X0.here hx rfl (hb hby at_23) k) ?_
    refine own_pre (T' := s₁) (g' := (mkF m 25 L192 [(.int (v191 + (1 : Int32)))])) (fun t k => XS.iadd X0.here hx rfl (hb hby at_24) rfl k) ?_
    refine own_pre (T' := s₁) (g' := (mkF m 26 L192 [(.int p0), (.int (v191 + (1 : Int32)))])) (fun t k => XS.iloadN X0.here hx rfl (v := p0) (hb hby at_25) (by rw [← hL192]; rfl) k) ?_
    refine own_pre (T' := s₁) (g' := (mkF m 27 L192 [(.int (4 : Int32)), (.int p0), (.int (v191 + (1 : Int32)))])) (fun t k => XS.iconst X0.here hx rfl (hb hby at_26) k) ?_
    refine own_pre (T' := s₁) (g' := (mkF m 28 L192 [(.int (XT.ushr p0 (4 : Int32))), (.int (v191 + (1 : Int32)))])) (fun t k => XT.iushr X0.here hx rfl (hb hby at_27) rfl k) ?_
    refine own_pre (T' := s₁) (g' := (mkF m 29 L192 [(.int (1 : Int32)), (.int (XT.ushr p0 (4 : Int32))), (.int (v191 + (1 : Int32)))])) (fun t k => XS.iconst X0.here hx rfl (hb hby at_28) k) ?_
    refine own_pre (T' := s₁) (g' := (mkF m 30 L192 [(.int ((XT.ushr p0 (4 : Int32)) &&& (1 : Int32))), (.int (v191 + (1 : Int32)))])) (fun t k => XS.iand X0.here hx rfl (hb hby at_29) rfl k) ?_
    refine own_pre (T' := s₁) (g' := (mkF m 31 L192 [(.int ((v191 + (1 : Int32)) + ((XT.ushr p0 (4 : Int32)) &&& (1 : Int32))))])) (fun t k => XS.iadd X0.here hx rfl (hb hby at_30) rfl k) ?_
    generalize hv193 : (v191 + (1 : Int32)) + ((XT.ushr p0 (4 : Int32)) &&& (1 : Int32)) = v193
    refine own_pre (T' := s₁) (g' := (mkF m 33 #[.val (.int p0), .val (.int p1), .val (.int p2), .val (.int p3), .val (.long p4), .second, .val (.int (2 : Int32)), .val (.int v191), .val (.int v193), .unset, .unset, .unset, .unset, .unset, .unset, .unset, .unset, .unset, .unset, .unset, .unset, .unset, .unset, .unset, .unset, .unset, .unset, .unset, .unset, .unset, .unset] [])) (fun t k => XS.istore X0.here hx rfl (hb hby at_31) rfl (l' := #[.val (.int p0), .val (.int p1), .val (.int p2), .val (.int p3), .val (.long p4), .second, .val (.int (2 : Int32)), .val (.int v191), .val (.int v193), .unset, .unset, .unset, .unset, .unset, .unset, .unset, .unset, .unset, .unset, .unset, .unset, .unset, .unset, .unset, .unset, .unset, .unset, .unset, .unset, .unset, .unset]) (by rw [← hL192]; rfl) k) ?_
    generalize hL194 : (#[.val (.int p0), .val (.int p1), .val (.int p2), .val (.int p3), .val (.long p4), .second, .val (.int (2 : Int32)), .val (.int v191), .val (.int v193), .unset, .unset, .unset, .unset, .unset, .unset, .unset, .unset, .unset, .unset, .unset, .unset, .unset, .unset, .unset, .unset, .unset, .unset, .unset, .unset, .unset, .unset] : Array Slot) = L194
    refine own_pre (T' := s₁) (g' := (mkF m 34 L194 [(.int p1)])) (fun t k => XS.iloadN X0.here hx rfl (v := p1) (hb hby at_33) (by rw [← hL194]; rfl) k) ?_
    refine own_pre (T' := s₁) (g' := (mkF m 35 L194 [(.int p1.toInt16.toInt32)])) (fun t k => XT.i2s X0.here hx rfl (hb hby at_34) rfl k) ?_
    refine own_pre (T' := s₁) (g' := (mkF m 36 L194 [(.long p1.toInt16.toInt32.toInt64)])) (fun t k => XT.i2l X0.here hx rfl (hb hby at_35) rfl k) ?_
    generalize hv195 : p1.toInt16.toInt32.toInt64 = v195
    refine own_pre (T' := s₁) (g' := (mkF m 38 #[.val (.int p0), .val (.int p1), .val (.int p2), .val (.int p3), .val (.long p4), .second, .val (.int (2 : Int32)), .val (.int v191), .val (.int v193), .val (.long v195), .second, .unset, .unset, .unset, .unset, .unset, .unset, .unset, .unset, .unset, .unset, .unset, .unset, .unset, .unset, .unset, .unset, .unset, .unset, .unset, .unset] [])) (fun t k => XT.lstore X0.here hx rfl (hb hby at_36) rfl (l' := #[.val (.int p0), .val (.int p1), .val (.int p2), .val (.int p3), .val (.long p4), .second, .val (.int (2 : Int32)), .val (.int v191), .val (.int v193), .val (.long v195), .second, .unset, .unset, .unset, .unset, .unset, .unset, .unset, .unset, .unset, .unset, .unset, .unset, .unset, .unset, .unset, .unset, .unset, .unset, .unset, .unset]) (by rw [← hL194]; rfl) k) ?_
    generalize hL196 : (#[.val (.int p0), .val (.int p1), .val (.int p2), .val (.int p3), .val (.long p4), .second, .val (.int (2 : Int32)), .val (.int v191), .val (.int v193), .val (.long v195), .second, .unset, .unset, .unset, .unset, .unset, .unset, .unset, .unset, .unset, .unset, .unset, .unset, .unset, .unset, .unset, .unset, .unset, .unset, .unset, .unset] : Array Slot) = L196
    refine own_pre (T' := s₁) (g' := (mkF m 39 L196 [(.int p1)])) (fun t k => XS.iloadN X0.here hx rfl (v := p1) (hb hby at_38) (by rw [← hL196]; rfl) k) ?_
    refine own_pre (T' := s₁) (g' := (mkF m 41 L196 [(.int (16 : Int32)), (.int p1)])) (fun t k => XS.bipush X0.here hx rfl (hb hby at_39) k) ?_
    refine own_pre (T' := s₁) (g' := (mkF m 42 L196 [(.int (p1 >>> ((16 : Int32) &&& 31)))])) (fun t k => XT.ishr X0.here hx rfl (hb hby at_41) rfl k) ?_
    refine own_pre (T' := s₁) (g' := (mkF m 43 L196 [(.int ((p1 >>> ((16 : Int32) &&& 31)).toInt16.toInt32))])) (fun t k => XT.i2s X0.here hx rfl (hb hby at_42) rfl k) ?_
    refine own_pre (T' := s₁) (g' := (mkF m 44 L196 [(.long (((p1 >>> ((16 : Int32) &&& 31)).toInt16.toInt32).toInt64))])) (fun t k => XT.i2l X0.here hx rfl (hb hby at_43) rfl k) ?_
    generalize hv197 : ((p1 >>> ((16 : Int32) &&& 31)).toInt16.toInt32).toInt64 = v197
    refine own_pre (T' := s₁) (g' := (mkF m 46 #[.val (.int p0), .val (.int p1), .val (.int p2), .val (.int p3), .val (.long p4), .second, .val (.int (2 : Int32)), .val (.int v191), .val (.int v193), .val (.long v195), .second, .val (.long v197), .second, .unset, .unset, .unset, .unset, .unset, .unset, .unset, .unset, .unset, .unset, .unset, .unset, .unset, .unset, .unset, .unset, .unset, .unset] [])) (fun t k => XT.lstore X0.here hx rfl (hb hby at_44) rfl (l' := #[.val (.int p0), .val (.int p1), .val (.int p2), .val (.int p3), .val (.long p4), .second, .val (.int (2 : Int32)), .val (.int v191), .val (.int v193), .val (.long v195), .second, .val (.long v197), .second, .unset, .unset, .unset, .unset, .unset, .unset, .unset, .unset, .unset, .unset, .unset, .unset, .unset, .unset, .unset, .unset, .unset, .unset]) (by rw [← hL196]; rfl) k) ?_
    generalize hL198 : (#[.val (.int p0), .val (.int p1), .val (.int p2), .val (.int p3), .val (.long p4), .second, .val (.int (2 : Int32)), .val (.int v191), .val (.int v193), .val (.long v195), .second, .val (.long v197), .second, .unset, .unset, .unset, .unset, .unset, .unset, .unset, .unset, .unset, .unset, .unset, .unset, .unset, .unset, .unset, .unset, .unset, .unset] : Array Slot) = L198
    refine own_pre (T' := s₁) (g' := (mkF m 47 L198 [(.int p2)])) (fun t k => XS.iloadN X0.here hx rfl (v := p2) (hb hby at_46) (by rw [← hL198]; rfl) k) ?_
    refine own_pre (T' := s₁) (g' := (mkF m 48 L198 [(.int p2.toInt16.toInt32)])) (fun t k => XT.i2s X0.here hx rfl (hb hby at_47) rfl k) ?_
    refine own_pre (T' := s₁) (g' := (mkF m 49 L198 [(.long p2.toInt16.toInt32.toInt64)])) (fun t k => XT.i2l X0.here hx rfl (hb hby at_48) rfl k) ?_
    generalize hv199 : p2.toInt16.toInt32.toInt64 = v199
    refine own_pre (T' := s₁) (g' := (mkF m 51 #[.val (.int p0), .val (.int p1), .val (.int p2), .val (.int p3), .val (.long p4), .second, .val (.int (2 : Int32)), .val (.int v191), .val (.int v193), .val (.long v195), .second, .val (.long v197), .second, .val (.long v199), .second, .unset, .unset, .unset, .unset, .unset, .unset, .unset, .unset, .unset, .unset, .unset, .unset, .unset, .unset, .unset, .unset] [])) (fun t k => XT.lstore X0.here hx rfl (hb hby at_49) rfl (l' := #[.val (.int p0), .val (.int p1), .val (.int p2), .val (.int p3), .val (.long p4), .second, .val (.int (2 : Int32)), .val (.int v191), .val (.int v193), .val (.long v195), .second, .val (.long v197), .second, .val (.long v199), .second, .unset, .unset, .unset, .unset, .unset, .unset, .unset, .unset, .unset, .unset, .unset, .unset, .unset, .unset, .unset, .unset]) (by rw [← hL198]; rfl) k) ?_
    generalize hL200 : (#[.val (.int p0), .val (.int p1), .val (.int p2), .val (.int p3), .val (.long p4), .second, .val (.int (2 : Int32)), .val (.int v191), .val (.int v193), .val (.long v195), .second, .val (.long v197), .second, .val (.long v199), .second, .unset, .unset, .unset, .unset, .unset, .unset, .unset, .unset, .unset, .unset, .unset, .unset, .unset, .unset, .unset, .unset] : Array Slot) = L200
    refine own_pre (T' := s₁) (g' := (mkF m 53 L200 [(.long p4)])) (fun t k => XT.lload X0.here hx rfl (v := p4) (hb hby at_51) (by rw [← hL200]; rfl) k) ?_
    refine own_pre (T' := s₁) (g' := (mkF m 54 L200 [(.int p4.toInt32)])) (fun t k => XT.l2i X0.here hx rfl (hb hby at_53) rfl k) ?_
    refine own_pre (T' := s₁) (g' := (mkF m 55 L200 [(.int p4.toInt32.toInt16.toInt32)])) (fun t k => XT.i2s X0.here hx rfl (hb hby at_54) rfl k) ?_
    refine own_pre (T' := s₁) (g' := (mkF m 56 L200 [(.long p4.toInt32.toInt16.toInt32.toInt64)])) (fun t k => XT.i2l X0.here hx rfl (hb hby at_55) rfl k) ?_
    generalize hv201 : p4.toInt32.toInt16.toInt32.toInt64 = v201
    refine own_pre (T' := s₁) (g' := (mkF m 58 #[.val (.int p0), .val (.int p1), .val (.int p2), .val (.int p3), .val (.long p4), .second, .val (.int (2 : Int32)), .val (.int v191), .val (.int v193), .val (.long v195), .second, .val (.long v197), .second, .val (.long v199), .second, .val (.long v201), .second, .unset, .unset, .unset, .unset, .unset, .unset, .unset, .unset, .unset, .unset, .unset, .unset, .unset, .unset] [])) (fun t k => XT.lstore X0.here hx rfl (hb hby at_56) rfl (l' := #[.val (.int p0), .val (.int p1), .val (.int p2), .val (.int p3), .val (.long p4), .second, .val (.int (2 : Int32)), .val (.int v191), .val (.int v193), .val (.long v195), .second, .val (.long v197), .second, .val (.long v199), .second, .val (.long v201), .second, .unset, .unset, .unset, .unset, .unset, .unset, .unset, .unset, .unset, .unset, .unset, .unset, .unset, .unset]) (by rw [← hL200]; rfl) k) ?_
    generalize hL202 : (#[.val (.int p0), .val (.int p1), .val (.int p2), .val (.int p3), .val (.long p4), .second, .val (.int (2 : Int32)), .val (.int v191), .val (.int v193), .val (.long v195), .second, .val (.long v197), .second, .val (.long v199), .second, .val (.long v201), .second, .unset, .unset, .unset, .unset, .unset, .unset, .unset, .unset, .unset, .unset, .unset, .unset, .unset, .unset] : Array Slot) = L202
    refine own_pre (T' := s₁) (g' := (mkF m 60 L202 [(.long p4)])) (fun t k => XT.lload X0.here hx rfl (v := p4) (hb hby at_58) (by rw [← hL202]; rfl) k) ?_
    refine own_pre (T' := s₁) (g' := (mkF m 62 L202 [(.int (16 : Int32)), (.long p4)])) (fun t k => XS.bipush X0.here hx rfl (hb hby at_60) k) ?_
    refine own_pre (T' := s₁) (g' := (mkF m 63 L202 [(.long (p4 >>> ((16 : Int32).toInt64 &&& 63)))])) (fun t k => XT.lshr X0.here hx rfl (hb hby at_62) rfl k) ?_
    refine own_pre (T' := s₁) (g' := (mkF m 64 L202 [(.int ((p4 >>> ((16 : Int32).toInt64 &&& 63)).toInt32))])) (fun t k => XT.l2i X0.here hx rfl (hb hby at_63) rfl k) ?_
    refine own_pre (T' := s₁) (g' := (mkF m 65 L202 [(.int (((p4 >>> ((16 : Int32).toInt64 &&& 63)).toInt32).toInt16.toInt32))])) (fun t k => XT.i2s X0.here hx rfl (hb hby at_64) rfl k) ?_
    refine own_pre (T' := s₁) (g' := (mkF m 66 L202 [(.long ((((p4 >>> ((16 : Int32).toInt64 &&& 63)).toInt32).toInt16.toInt32).toInt64))])) (fun t k => XT.i2l X0.here hx rfl (hb hby at_65) rfl k) ?_
    generalize hv203 : (((p4 >>> ((16 : Int32).toInt64 &&& 63)).toInt32).toInt16.toInt32).toInt64 = v203
    refine own_pre (T' := s₁) (g' := (mkF m 68 #[.val (.int p0), .val (.int p1), .val (.int p2), .val (.int p3), .val (.long p4), .second, .val (.int (2 : Int32)), .val (.int v191), .val (.int v193), .val (.long v195), .second, .val (.long v197), .second, .val (.long v199), .second, .val (.long v201), .second, .val (.long v203), .second, .unset, .unset, .unset, .unset, .unset, .unset, .unset, .unset, .unset, .unset, .unset, .unset] [])) (fun t k => XT.lstore X0.here hx rfl (hb hby at_66) rfl (l' := #[.val (.int p0), .val (.int p1), .val (.int p2), .val (.int p3), .val (.long p4), .second, .val (.int (2 : Int32)), .val (.int v191), .val (.int v193), .val (.long v195), .second, .val (.long v197), .second, .val (.long v199), .second, .val (.long v201), .second, .val (.long v203), .second, .unset, .unset, .unset, .unset, .unset, .unset, .unset, .unset, .unset, .unset, .unset, .unset]) (by rw [← hL202]; rfl) k) ?_
    generalize hL204 : (#[.val (.int p0), .val (.int p1), .val (.int p2), .val (.int p3), .val (.long p4), .second, .val (.int (2 : Int32)), .val (.int v191), .val (.int v193), .val (.long v195), .second, .val (.long v197), .second, .val (.long v199), .second, .val (.long v201), .second, .val (.long v203), .second, .unset, .unset, .unset, .unset, .unset, .unset, .unset, .unset, .unset, .unset, .unset, .unset] : Array Slot) = L204
    refine own_pre (T' := s₁) (g' := (mkF m 70 L204 [(.long p4)])) (fun t k => XT.lload X0.here hx rfl (v := p4) (hb hby at_68) (by rw [← hL204]; rfl) k) ?_
    refine own_pre (T' := s₁) (g' := (mkF m 72 L204 [(.int (32 : Int32)), (.long p4)])) (fun t k => XS.bipush X0.here hx rfl (hb hby at_70) k) ?_
    refine own_pre (T' := s₁) (g' := (mkF m 73 L204 [(.long (p4 >>> ((32 : Int32).toInt64 &&& 63)))])) (fun t k => XT.lshr X0.here hx rfl (hb hby at_72) rfl k) ?_
    refine own_pre (T' := s₁) (g' := (mkF m 74 L204 [(.int ((p4 >>> ((32 : Int32).toInt64 &&& 63)).toInt32))])) (fun t k => XT.l2i X0.here hx rfl (hb hby at_73) rfl k) ?_
    refine own_pre (T' := s₁) (g' := (mkF m 75 L204 [(.int (((p4 >>> ((32 : Int32).toInt64 &&& 63)).toInt32).toInt16.toInt32))])) (fun t k => XT.i2s X0.here hx rfl (hb hby at_74) rfl k) ?_
    refine own_pre (T' := s₁) (g' := (mkF m 76 L204 [(.long ((((p4 >>> ((32 : Int32).toInt64 &&& 63)).toInt32).toInt16.toInt32).toInt64))])) (fun t k => XT.i2l X0.here hx rfl (hb hby at_75) rfl k) ?_
    generalize hv205 : (((p4 >>> ((32 : Int32).toInt64 &&& 63)).toInt32).toInt16.toInt32).toInt64 = v205
    refine own_pre (T' := s₁) (g' := (mkF m 78 #[.val (.int p0), .val (.int p1), .val (.int p2), .val (.int p3), .val (.long p4), .second, .val (.int (2 : Int32)), .val (.int v191), .val (.int v193), .val (.long v195), .second, .val (.long v197), .second, .val (.long v199), .second, .val (.long v201), .second, .val (.long v203), .second, .val (.long v205), .second, .unset, .unset, .unset, .unset, .unset, .unset, .unset, .unset, .unset, .unset] [])) (fun t k => XT.lstore X0.here hx rfl (hb hby at_76) rfl (l' := #[.val (.int p0), .val (.int p1), .val (.int p2), .val (.int p3), .val (.long p4), .second, .val (.int (2 : Int32)), .val (.int v191), .val (.int v193), .val (.long v195), .second, .val (.long v197), .second, .val (.long v199), .second, .val (.long v201), .second, .val (.long v203), .second, .val (.long v205), .second, .unset, .unset, .unset, .unset, .unset, .unset, .unset, .unset, .unset, .unset]) (by rw [← hL204]; rfl) k) ?_
    generalize hL206 : (#[.val (.int p0), .val (.int p1), .val (.int p2), .val (.int p3), .val (.long p4), .second, .val (.int (2 : Int32)), .val (.int v191), .val (.int v193), .val (.long v195), .second, .val (.long v197), .second, .val (.long v199), .second, .val (.long v201), .second, .val (.long v203), .second, .val (.long v205), .second, .unset, .unset, .unset, .unset, .unset, .unset, .unset, .unset, .unset, .unset] : Array Slot) = L206
    refine own_pre (T' := s₁) (g' := (mkF m 80 L206 [(.long p4)])) (fun t k => XT.lload X0.here hx rfl (v := p4) (hb hby at_78) (by rw [← hL206]; rfl) k) ?_
    refine own_pre (T' := s₁) (g' := (mkF m 82 L206 [(.int (48 : Int32)), (.long p4)])) (fun t k => XS.bipush X0.here hx rfl (hb hby at_80) k) ?_
    refine own_pre (T' := s₁) (g' := (mkF m 83 L206 [(.long (p4 >>> ((48 : Int32).toInt64 &&& 63)))])) (fun t k => XT.lshr X0.here hx rfl (hb hby at_82) rfl k) ?_
    refine own_pre (T' := s₁) (g' := (mkF m 84 L206 [(.int ((p4 >>> ((48 : Int32).toInt64 &&& 63)).toInt32))])) (fun t k => XT.l2i X0.here hx rfl (hb hby at_83) rfl k) ?_
    refine own_pre (T' := s₁) (g' := (mkF m 85 L206 [(.int (((p4 >>> ((48 : Int32).toInt64 &&& 63)).toInt32).toInt16.toInt32))])) (fun t k => XT.i2s X0.here hx rfl (hb hby at_84) rfl k) ?_
    refine own_pre (T' := s₁) (g' := (mkF m 86 L206 [(.long ((((p4 >>> ((48 : Int32).toInt64 &&& 63)).toInt32).toInt16.toInt32).toInt64))])) (fun t k => XT.i2l X0.here hx rfl (hb hby at_85) rfl k) ?_
    generalize hv207 : (((p4 >>> ((48 : Int32).toInt64 &&& 63)).toInt32).toInt16.toInt32).toInt64 = v207
    refine own_pre (T' := s₁) (g' := (mkF m 88 #[.val (.int p0), .val (.int p1), .val (.int p2), .val (.int p3), .val (.long p4), .second, .val (.int (2 : Int32)), .val (.int v191), .val (.int v193), .val (.long v195), .second, .val (.long v197), .second, .val (.long v199), .second, .val (.long v201), .second, .val (.long v203), .second, .val (.long v205), .second, .val (.long v207), .second, .unset, .unset, .unset, .unset, .unset, .unset, .unset, .unset] [])) (fun t k => XT.lstore X0.here hx rfl (hb hby at_86) rfl (l' := #[.val (.int p0), .val (.int p1), .val (.int p2), .val (.int p3), .val (.long p4), .second, .val (.int (2 : Int32)), .val (.int v191), .val (.int v193), .val (.long v195), .second, .val (.long v197), .second, .val (.long v199), .second, .val (.long v201), .second, .val (.long v203), .second, .val (.long v205), .second, .val (.long v207), .second, .unset, .unset, .unset, .unset, .unset, .unset, .unset, .unset]) (by rw [← hL206]; rfl) k) ?_
    generalize hL208 : (#[.val (.int p0), .val (.int p1), .val (.int p2), .val (.int p3), .val (.long p4), .second, .val (.int (2 : Int32)), .val (.int v191), .val (.int v193), .val (.long v195), .second, .val (.long v197), .second, .val (.long v199), .second, .val (.long v201), .second, .val (.long v203), .second, .val (.long v205), .second, .val (.long v207), .second, .unset, .unset, .unset, .unset, .unset, .unset, .unset, .unset] : Array Slot) = L208
    refine own_pre (T' := s₁) (g' := (mkF m 89 L208 [(.int p3)])) (fun t k => XS.iloadN X0.here hx rfl (v := p3) (hb hby at_88) (by rw [← hL208]; rfl) k) ?_
    refine own_pre (T' := s₁) (g' := (mkF m 90 L208 [(.int p3.toInt16.toInt32)])) (fun t k => XT.i2s X0.here hx rfl (hb hby at_89) rfl k) ?_
    refine own_pre (T' := s₁) (g' := (mkF m 91 L208 [(.long p3.toInt16.toInt32.toInt64)])) (fun t k => XT.i2l X0.here hx rfl (hb hby at_90) rfl k) ?_
    generalize hv209 : p3.toInt16.toInt32.toInt64 = v209
    refine own_pre (T' := s₁) (g' := (mkF m 93 #[.val (.int p0), .val (.int p1), .val (.int p2), .val (.int p3), .val (.long p4), .second, .val (.int (2 : Int32)), .val (.int v191), .val (.int v193), .val (.long v195), .second, .val (.long v197), .second, .val (.long v199), .second, .val (.long v201), .second, .val (.long v203), .second, .val (.long v205), .second, .val (.long v207), .second, .val (.long v209), .second, .unset, .unset, .unset, .unset, .unset, .unset] [])) (fun t k => XT.lstore X0.here hx rfl (hb hby at_91) rfl (l' := #[.val (.int p0), .val (.int p1), .val (.int p2), .val (.int p3), .val (.long p4), .second, .val (.int (2 : Int32)), .val (.int v191), .val (.int v193), .val (.long v195), .second, .val (.long v197), .second, .val (.long v199), .second, .val (.long v201), .second, .val (.long v203), .second, .val (.long v205), .second, .val (.long v207), .second, .val (.long v209), .second, .unset, .unset, .unset, .unset, .unset, .unset]) (by rw [← hL208]; rfl) k) ?_
    generalize hL210 : (#[.val (.int p0), .val (.int p1), .val (.int p2), .val (.int p3), .val (.long p4), .second, .val (.int (2 : Int32)), .val (.int v191), .val (.int v193), .val (.long v195), .second, .val (.long v197), .second, .val (.long v199), .second, .val (.long v201), .second, .val (.long v203), .second, .val (.long v205), .second, .val (.long v207), .second, .val (.long v209), .second, .unset, .unset, .unset, .unset, .unset, .unset] : Array Slot) = L210
    refine own_pre (T' := s₁) (g' := (mkF m 94 L210 [(.int p3)])) (fun t k => XS.iloadN X0.here hx rfl (v := p3) (hb hby at_93) (by rw [← hL210]; rfl) k) ?_
    refine own_pre (T' := s₁) (g' := (mkF m 96 L210 [(.int (16 : Int32)), (.int p3)])) (fun t k => XS.bipush X0.here hx rfl (hb hby at_94) k) ?_
    refine own_pre (T' := s₁) (g' := (mkF m 97 L210 [(.int (p3 >>> ((16 : Int32) &&& 31)))])) (fun t k => XT.ishr X0.here hx rfl (hb hby at_96) rfl k) ?_
    refine own_pre (T' := s₁) (g' := (mkF m 98 L210 [(.int ((p3 >>> ((16 : Int32) &&& 31)).toInt16.toInt32))])) (fun t k => XT.i2s X0.here hx rfl (hb hby at_97) rfl k) ?_
    refine own_pre (T' := s₁) (g' := (mkF m 99 L210 [(.long (((p3 >>> ((16 : Int32) &&& 31)).toInt16.toInt32).toInt64))])) (fun t k => XT.i2l X0.here hx rfl (hb hby at_98) rfl k) ?_
    generalize hv211 : ((p3 >>> ((16 : Int32) &&& 31)).toInt16.toInt32).toInt64 = v211
    refine own_pre (T' := s₁) (g' := (mkF m 101 #[.val (.int p0), .val (.int p1), .val (.int p2), .val (.int p3), .val (.long p4), .second, .val (.int (2 : Int32)), .val (.int v191), .val (.int v193), .val (.long v195), .second, .val (.long v197), .second, .val (.long v199), .second, .val (.long v201), .second, .val (.long v203), .second, .val (.long v205), .second, .val (.long v207), .second, .val (.long v209), .second, .val (.long v211), .second, .unset, .unset, .unset, .unset] [])) (fun t k => XT.lstore X0.here hx rfl (hb hby at_99) rfl (l' := #[.val (.int p0), .val (.int p1), .val (.int p2), .val (.int p3), .val (.long p4), .second, .val (.int (2 : Int32)), .val (.int v191), .val (.int v193), .val (.long v195), .second, .val (.long v197), .second, .val (.long v199), .second, .val (.long v201), .second, .val (.long v203), .second, .val (.long v205), .second, .val (.long v207), .second, .val (.long v209), .second, .val (.long v211), .second, .unset, .unset, .unset, .unset]) (by rw [← hL210]; rfl) k) ?_
    generalize hL212 : (#[.val (.int p0), .val (.int p1), .val (.int p2), .val (.int p3), .val (.long p4), .second, .val (.int (2 : Int32)), .val (.int v191), .val (.int v193), .val (.long v195), .second, .val (.long v197), .second, .val (.long v199), .second, .val (.long v201), .second, .val (.long v203), .second, .val (.long v205), .second, .val (.long v207), .second, .val (.long v209), .second, .val (.long v211), .second, .unset, .unset, .unset, .unset] : Array Slot) = L212
    obtain ⟨hq0, hq1, hqq⟩ := own_pos p0 v191 v193 hv191 hv193
    have Bv195 := own_sb _ v195 hv195
    have Bv197 := own_sb _ v197 hv197
    have Bv199 := own_sb _ v199 hv199
    have Bv201 := own_sb _ v201 hv201
    have Bv203 := own_sb _ v203 hv203
    have Bv205 := own_sb _ v205 hv205
    have Bv207 := own_sb _ v207 hv207
    have Bv209 := own_sb _ v209 hv209
    have Bv211 := own_sb _ v211 hv211
    have P0 := own_prod Bv199 Bv195
    have P1 := own_prod Bv199 Bv197
    refine own_pre (T' := s₁) (g' := (mkF m 103 L212 [(.int (2 : Int32))])) (fun t k => XS.iload X0.here hx rfl (v := (2 : Int32)) (hb hby at_101) (by rw [← hL212]; rfl) k) ?_
    refine own_pre (T' := s₁) (g' := (mkF m 119 L212 [])) (fun t k => XS.ifYes X0.here hx rfl (pc0 := 103) (pc' := 119) rfl (hb hby at_103) rfl (by decide) (by decide) (by decide) k) ?_
    refine own_pre (T' := s₁) (g' := (mkF m 121 L212 [(.int (2 : Int32))])) (fun t k => XS.iload X0.here hx rfl (v := (2 : Int32)) (hb hby at_119) (by rw [← hL212]; rfl) k) ?_
    refine own_pre (T' := s₁) (g' := (mkF m 122 L212 [(.int (1 : Int32)), (.int (2 : Int32))])) (fun t k => XS.iconst X0.here hx rfl (hb hby at_121) k) ?_
    refine own_pre (T' := s₁) (g' := (mkF m 149 L212 [])) (fun t k => XS.icmpYes X0.here hx rfl (pc0 := 122) (pc' := 149) rfl (hb hby at_122) rfl (by decide) (by decide) (by decide) k) ?_
    refine own_pre (T' := s₁) (g' := (mkF m 150 L212 [(.int (2 : Int32))])) (fun t k => XS.iconst X0.here hx rfl (hb hby at_149) k) ?_
    refine own_newarr X0 hx hZ (aty := .int) (hw _ (List.mem_of_getElem? (i := 0) rfl)) e0 (hb hby at_150) (n := 2) (by decide) (by decide) (by decide) (by decide) (by decide) (ad := "[I") rfl ?_
    intro T213 h213 a213 g213 X213 e213 E213 A213 B213
    have nw214 : n0 ≤ a213 := Nat.le_trans Z0 (Nat.le_of_eq g213.symm)
    have F215 : own_Ary Z h213 a213 .int [(.int (0 : Int32)), (.int (0 : Int32))] := A213
    show own_Go _ _ _ _ _ _ _ T213 (mkF m 152 L212 [(.ref a213)])
    refine own_pre (T' := T213) (g' := (mkF m 153 L212 [(.ref a213), (.ref a213)])) (fun t k => XS.dup X213.here hx rfl (hb hby at_152) rfl rfl k) ?_
    refine own_pre (T' := T213) (g' := (mkF m 154 L212 [(.int (0 : Int32)), (.ref a213), (.ref a213)])) (fun t k => XS.iconst X213.here hx rfl (hb hby at_153) k) ?_
    refine own_pre (T' := T213) (g' := (mkF m 156 L212 [(.int v191), (.int (0 : Int32)), (.ref a213), (.ref a213)])) (fun t k => XS.iload X213.here hx rfl (v := v191) (hb hby at_154) (by rw [← hL212]; rfl) k) ?_
    refine own_iastore X213 hx hZ e213 N0 nw214 F215 (hb hby at_156) (n := 0) (by decide) (by decide) (by show 0 < 2; decide) ?_
    intro T216 h216 lo216 X216 e216 N216 W216
    have F217 : own_Ary Z h216 a213 .int [(.int v191), (.int (0 : Int32))] := F215.set W216
    show own_Go _ _ _ _ _ _ _ T216 (mkF m 157 L212 [(.ref a213)])
    refine own_pre (T' := T216) (g' := (mkF m 158 L212 [(.ref a213), (.ref a213)])) (fun t k => XS.dup X216.here hx rfl (hb hby at_157) rfl rfl k) ?_
    refine own_pre (T' := T216) (g' := (mkF m 159 L212 [(.int (1 : Int32)), (.ref a213), (.ref a213)])) (fun t k => XS.iconst X216.here hx rfl (hb hby at_158) k) ?_
    refine own_pre (T' := T216) (g' := (mkF m 161 L212 [(.int v193), (.int (1 : Int32)), (.ref a213), (.ref a213)])) (fun t k => XS.iload X216.here hx rfl (v := v193) (hb hby at_159) (by rw [← hL212]; rfl) k) ?_
    refine own_iastore X216 hx hZ e216 N216 nw214 F217 (hb hby at_161) (n := 1) (by decide) (by decide) (by show 1 < 2; decide) ?_
    intro T218 h218 lo218 X218 e218 N218 W218
    have F219 : own_Ary Z h218 a213 .int [(.int v191), (.int v193)] := F217.set W218
    show own_Go _ _ _ _ _ _ _ T218 (mkF m 162 L212 [(.ref a213)])
    refine own_pre (T' := T218) (g' := (mkF m 164 #[.val (.int p0), .val (.int p1), .val (.int p2), .val (.int p3), .val (.long p4), .second, .val (.int (2 : Int32)), .val (.int v191), .val (.int v193), .val (.long v195), .second, .val (.long v197), .second, .val (.long v199), .second, .val (.long v201), .second, .val (.long v203), .second, .val (.long v205), .second, .val (.long v207), .second, .val (.long v209), .second, .val (.long v211), .second, .val (.ref a213), .unset, .unset, .unset] [])) (fun t k => XS.astore X218.here hx rfl (hb hby at_162) rfl rfl (l' := #[.val (.int p0), .val (.int p1), .val (.int p2), .val (.int p3), .val (.long p4), .second, .val (.int (2 : Int32)), .val (.int v191), .val (.int v193), .val (.long v195), .second, .val (.long v197), .second, .val (.long v199), .second, .val (.long v201), .second, .val (.long v203), .second, .val (.long v205), .second, .val (.long v207), .second, .val (.long v209), .second, .val (.long v211), .second, .val (.ref a213), .unset, .unset, .unset]) (by rw [← hL212]; rfl) k) ?_
    generalize hL220 : (#[.val (.int p0), .val (.int p1), .val (.int p2), .val (.int p3), .val (.long p4), .second, .val (.int (2 : Int32)), .val (.int v191), .val (.int v193), .val (.long v195), .second, .val (.long v197), .second, .val (.long v199), .second, .val (.long v201), .second, .val (.long v203), .second, .val (.long v205), .second, .val (.long v207), .second, .val (.long v209), .second, .val (.long v211), .second, .val (.ref a213), .unset, .unset, .unset] : Array Slot) = L220
    refine own_pre (T' := T218) (g' := (mkF m 165 L220 [(.int (2 : Int32))])) (fun t k => XS.iconst X218.here hx rfl (hb hby at_164) k) ?_
    have F221 : n0 ≤ h218.size := (Nat.le_trans (Nat.le_trans (Nat.le_trans Z0 E213.1) (Nat.le_of_eq W216.size.symm)) (Nat.le_of_eq W218.size.symm))
    refine own_newarr X218 hx hZ (aty := .double) (hw _ (List.mem_of_getElem? (i := 1) rfl)) e218 (hb hby at_165) (n := 2) (by decide) (by decide) (by decide) (by decide) (by decide) (ad := "[D") rfl ?_
    intro T222 h222 a222 g222 X222 e222 E222 A222 B222
    have lt223 : a213 < a222 := Nat.lt_of_lt_of_le F219.lt (Nat.le_of_eq g222.symm)
    have nw224 : n0 ≤ a222 := Nat.le_trans F221 (Nat.le_of_eq g222.symm)
    have F225 : own_Ary Z h222 a222 .double [(.double (0 : UInt64)), (.double (0 : UInt64))] := A222
    show own_Go _ _ _ _ _ _ _ T222 (mkF m 167 L220 [(.ref a222)])
    refine own_pre (T' := T222) (g' := (mkF m 168 L220 [(.ref a222), (.ref a222)])) (fun t k => XS.dup X222.here hx rfl (hb hby at_167) rfl rfl k) ?_
    refine own_pre (T' := T222) (g' := (mkF m 169 L220 [(.int (0 : Int32)), (.ref a222), (.ref a222)])) (fun t k => XS.iconst X222.here hx rfl (hb hby at_168) k) ?_
    refine own_pre (T' := T222) (g' := (mkF m 171 L220 [(.long v195), (.int (0 : Int32)), (.ref a222), (.ref a222)])) (fun t k => XT.lload X222.here hx rfl (v := v195) (hb hby at_169) (by rw [← hL220]; rfl) k) ?_
    obtain ⟨f226, hf226⟩ : ∃ z, FP.l2d v195 = z := ⟨_, rfl⟩
    refine own_pre (T' := T222) (g' := (mkF m 172 L220 [(.double f226), (.int (0 : Int32)), (.ref a222), (.ref a222)])) (fun t k => XS.l2dS X222.here hx rfl (hb hby at_171) rfl hf226 k) ?_
    have Df226 : Jvm.FP.Core.DInt v195.toInt f226 := hf226 ▸ Jvm.FP.Core.l2d_int (own_abs Bv195)
    refine own_dastore X222 hx hZ e222 N218 nw224 F225 (hb hby at_172) (n := 0) (by decide) (by decide) (by show 0 < 2; decide) ?_
    intro T227 h227 lo227 X227 e227 N227 W227
    have F228 : own_Ary Z h227 a222 .double [(.double f226), (.double (0 : UInt64))] := F225.set W227
    show own_Go _ _ _ _ _ _ _ T227 (mkF m 173 L220 [(.ref a222)])
    refine own_pre (T' := T227) (g' := (mkF m 174 L220 [(.ref a222), (.ref a222)])) (fun t k => XS.dup X227.here hx rfl (hb hby at_173) rfl rfl k) ?_
    refine own_pre (T' := T227) (g' := (mkF m 175 L220 [(.int (1 : Int32)), (.ref a222), (.ref a222)])) (fun t k => XS.iconst X227.here hx rfl (hb hby at_174) k) ?_
    refine own_pre (T' := T227) (g' := (mkF m 177 L220 [(.long v197), (.int (1 : Int32)), (.ref a222), (.ref a222)])) (fun t k => XT.lload X227.here hx rfl (v := v197) (hb hby at_175) (by rw [← hL220]; rfl) k) ?_
    obtain ⟨f229, hf229⟩ : ∃ z, FP.l2d v197 = z := ⟨_, rfl⟩
    refine own_pre (T' := T227) (g' := (mkF m 178 L220 [(.double f229), (.int (1 : Int32)), (.ref a222), (.ref a222)])) (fun t k => XS.l2dS X227.here hx rfl (hb hby at_177) rfl hf229 k) ?_
    have Df229 : Jvm.FP.Core.DInt v197.toInt f229 := hf229 ▸ Jvm.FP.Core.l2d_int (own_abs Bv197)
    refine own_dastore X227 hx hZ e227 N227 nw224 F228 (hb hby at_178) (n := 1) (by decide) (by decide) (by show 1 < 2; decide) ?_
    intro T230 h230 lo230 X230 e230 N230 W230
    have F231 : own_Ary Z h230 a222 .double [(.double f226), (.double f229)] := F228.set W230
    show own_Go _ _ _ _ _ _ _ T230 (mkF m 179 L220 [(.ref a222)])
    refine own_pre (T' := T230) (g' := (mkF m 181 #[.val (.int p0), .val (.int p1), .val (.int p2), .val (.int p3), .val (.long p4), .second, .val (.int (2 : Int32)), .val (.int v191), .val (.int v193), .val (.long v195), .second, .val (.long v197), .second, .val (.long v199), .second, .val (.long v201), .second, .val (.long v203), .second, .val (.long v205), .second, .val (.long v207), .second, .val (.long v209), .second, .val (.long v211), .second, .val (.ref a213), .val (.ref a222), .unset, .unset] [])) (fun t k => XS.astore X230.here hx rfl (hb hby at_179) rfl rfl (l' := #[.val (.int p0), .val (.int p1), .val (.int p2), .val (.int p3), .val (.long p4), .second, .val (.int (2 : Int32)), .val (.int v191), .val (.int v193), .val (.long v195), .second, .val (.long v197), .second, .val (.long v199), .second, .val (.long v201), .second, .val (.long v203), .second, .val (.long v205), .second, .val (.long v207), .second, .val (.long v209), .second, .val (.long v211), .second, .val (.ref a213), .val (.ref a222), .unset, .unset]) (by rw [← hL220]; rfl) k) ?_
    generalize hL232 : (#[.val (.int p0), .val (.int p1), .val (.int p2), .val (.int p3), .val (.long p4), .second, .val (.int (2 : Int32)), .val (.int v191), .val (.int v193), .val (.long v195), .second, .val (.long v197), .second, .val (.long v199), .second, .val (.long v201), .second, .val (.long v203), .second, .val (.long v205), .second, .val (.long v207), .second, .val (.long v209), .second, .val (.long v211), .second, .val (.ref a213), .val (.ref a222), .unset, .unset] : Array Slot) = L232
    refine own_pre (T' := T230) (g' := (mkF m 183 L232 [(.int (6 : Int32))])) (fun t k => XS.bipush X230.here hx rfl (hb hby at_181) k) ?_
    have F233 : own_Ary Z h230 a213 .int [(.int v191), (.int v193)] := (((F219.ext E222).other W227 (Nat.ne_of_lt lt223)).other W230 (Nat.ne_of_lt lt223))
    have F234 : n0 ≤ h230.size := (Nat.le_trans (Nat.le_trans (Nat.le_trans F221 E222.1) (Nat.le_of_eq W227.size.symm)) (Nat.le_of_eq W230.size.symm))
    refine own_newarr X230 hx hZ (aty := .double) (hw _ (List.mem_of_getElem? (i := 1) rfl)) e230 (hb hby at_183) (n := 6) (by decide) (by decide) (by decide) (by decide) (by decide) (ad := "[D") rfl ?_
    intro T235 h235 a235 g235 X235 e235 E235 A235 B235
    have lt236 : a213 < a235 := Nat.lt_of_lt_of_le F233.lt (Nat.le_of_eq g235.symm)
    have lt237 : a222 < a235 := Nat.lt_of_lt_of_le F231.lt (Nat.le_of_eq g235.symm)
    have nw238 : n0 ≤ a235 := Nat.le_trans F234 (Nat.le_of_eq g235.symm)
    have F239 : own_Ary Z h235 a235 .double [(.double (0 : UInt64)), (.double (0 : UInt64)), (.double (0 : UInt64)), (.double (0 : UInt64)), (.double (0 : UInt64)), (.double (0 : UInt64))] := A235
    show own_Go _ _ _ _ _ _ _ T235 (mkF m 185 L232 [(.ref a235)])
    refine own_pre (T' := T235) (g' := (mkF m 186 L232 [(.ref a235), (.ref a235)])) (fun t k => XS.dup X235.here hx rfl (hb hby at_185) rfl rfl k) ?_
    refine own_pre (T' := T235) (g' := (mkF m 187 L232 [(.int (0 : Int32)), (.ref a235), (.ref a235)])) (fun t k => XS.iconst X235.here hx rfl (hb hby at_186) k) ?_
    refine own_pre (T' := T235) (g' := (mkF m 189 L232 [(.long v201), (.int (0 : Int32)), (.ref a235), (.ref a235)])) (fun t k => XT.lload X235.here hx rfl (v := v201) (hb hby at_187) (by rw [← hL232]; rfl) k) ?_
    obtain ⟨f240, hf240⟩ : ∃ z, FP.l2d v201 = z := ⟨_, rfl⟩
    refine own_pre (T' := T235) (g' := (mkF m 190 L232 [(.double f240), (.int (0 : Int32)), (.ref a235), (.ref a235)])) (fun t k => XS.l2dS X235.here hx rfl (hb hby at_189) rfl hf240 k) ?_
    have Df240 : Jvm.FP.Core.DInt v201.toInt f240 := hf240 ▸ Jvm.FP.Core.l2d_int (own_abs Bv201)
    refine own_dastore X235 hx hZ e235 N230 nw238 F239 (hb hby at_190) (n := 0) (by decide) (by decide) (by show 0 < 6; decide) ?_
    intro T241 h241 lo241 X241 e241 N241 W241
    have F242 : own_Ary Z h241 a235 .double [(.double f240), (.double (0 : UInt64)), (.double (0 : UInt64)), (.double (0 : UInt64)), (.double (0 : UInt64)), (.double (0 : UInt64))] := F239.set W241
    show own_Go _ _ _ _ _ _ _ T241 (mkF m 191 L232 [(.ref a235)])
    refine own_pre (T' := T241) (g' := (mkF m 192 L232 [(.ref a235), (.ref a235)])) (fun t k => XS.dup X241.here hx rfl (hb hby at_191) rfl rfl k) ?_
    refine own_pre (T' := T241) (g' := (mkF m 193 L232 [(.int (1 : Int32)), (.ref a235), (.ref a235)])) (fun t k => XS.iconst X241.here hx rfl (hb hby at_192) k) ?_
    refine own_pre (T' := T241) (g' := (mkF m 195 L232 [(.long v203), (.int (1 : Int32)), (.ref a235), (.ref a235)])) (fun t k => XT.lload X241.here hx rfl (v := v203) (hb hby at_193) (by rw [← hL232]; rfl) k) ?_
    obtain ⟨f243, hf243⟩ : ∃ z, FP.l2d v203 = z := ⟨_, rfl⟩
    refine own_pre (T' := T241) (g' := (mkF m 196 L232 [(.double f243), (.int (1 : Int32)), (.ref a235), (.ref a235)])) (fun t k => XS.l2dS X241.here hx rfl (hb hby at_195) rfl hf243 k) ?_
    have Df243 : Jvm.FP.Core.DInt v203.toInt f243 := hf243 ▸ Jvm.FP.Core.l2d_int (own_abs Bv203)
    refine own_dastore X241 hx hZ e241 N241 nw238 F242 (hb hby at_196) (n := 1) (by decide) (by decide) (by show 1 < 6; decide) ?_
    intro T244 h244 lo244 X244 e244 N244 W244
    have F245 : own_Ary Z h244 a235 .double [(.double f240), (.double f243), (.double (0 : UInt64)), (.double (0 : UInt64)), (.double (0 : UInt64)), (.double (0 : UInt64))] := F242.set W244
    show own_Go _ _ _ _ _ _ _ T244 (mkF m 197 L232 [(.ref a235)])
    refine own_pre (T' := T244) (g' := (mkF m 198 L232 [(.ref a235), (.ref a235)])) (fun t k => XS.dup X244.here hx rfl (hb hby at_197) rfl rfl k) ?_
    refine own_pre (T' := T244) (g' := (mkF m 199 L232 [(.int (2 : Int32)), (.ref a235), (.ref a235)])) (fun t k => XS.iconst X244.here hx rfl (hb hby at_198) k) ?_
    refine own_pre (T' := T244) (g' := (mkF m 201 L232 [(.long v205), (.int (2 : Int32)), (.ref a235), (.ref a235)])) (fun t k => XT.lload X244.here hx rfl (v := v205) (hb hby at_199) (by rw [← hL232]; rfl) k) ?_
    obtain ⟨f246, hf246⟩ : ∃ z, FP.l2d v205 = z := ⟨_, rfl⟩
    refine own_pre (T' := T244) (g' := (mkF m 202 L232 [(.double f246), (.int (2 : Int32)), (.ref a235), (.ref a235)])) (fun t k => XS.l2dS X244.here hx rfl (hb hby at_201) rfl hf246 k) ?_
    have Df246 : Jvm.FP.Core.DInt v205.toInt f246 := hf246 ▸ Jvm.FP.Core.l2d_int (own_abs Bv205)
    refine own_dastore X244 hx hZ e244 N244 nw238 F245 (hb hby at_202) (n := 2) (by decide) (by decide) (by show 2 < 6; decide) ?_
    intro T247 h247 lo247 X247 e247 N247 W247
    have F248 : own_Ary Z h247 a235 .double [(.double f240), (.double f243), (.double f246), (.double (0 : UInt64)), (.double (0 : UInt64)), (.double (0 : UInt64))] := F245.set W247
    show own_Go _ _ _ _ _ _ _ T247 (mkF m 203 L232 [(.ref a235)])
    refine own_pre (T' := T247) (g' := (mkF m 204 L232 [(.ref a235), (.ref a235)])) (fun t k => XS.dup X247.here hx rfl (hb hby at_203) rfl rfl k) ?_
    refine own_pre (T' := T247) (g' := (mkF m 205 L232 [(.int (3 : Int32)), (.ref a235), (.ref a235)])) (fun t k => XS.iconst X247.here hx rfl (hb hby at_204) k) ?_
    refine own_pre (T' := T247) (g' := (mkF m 207 L232 [(.long v207), (.int (3 : Int32)), (.ref a235), (.ref a235)])) (fun t k => XT.lload X247.here hx rfl (v := v207) (hb hby at_205) (by rw [← hL232]; rfl) k) ?_
    obtain ⟨f249, hf249⟩ : ∃ z, FP.l2d v207 = z := ⟨_, rfl⟩
    refine own_pre (T' := T247) (g' := (mkF m 208 L232 [(.double f249), (.int (3 : Int32)), (.ref a235), (.ref a235)])) (fun t k => XS.l2dS X247.here hx rfl (hb hby at_207) rfl hf249 k) ?_
    have Df249 : Jvm.FP.Core.DInt v207.toInt f249 := hf249 ▸ Jvm.FP.Core.l2d_int (own_abs Bv207)
    refine own_dastore X247 hx hZ e247 N247 nw238 F248 (hb hby at_208) (n := 3) (by decide) (by decide) (by show 3 < 6; decide) ?_
    intro T250 h250 lo250 X250 e250 N250 W250
    have F251 : own_Ary Z h250 a235 .double [(.double f240), (.double f243), (.double f246), (.double f249), (.double (0 : UInt64)), (.double (0 : UInt64))] := F248.set W250
    show own_Go _ _ _ _ _ _ _ T250 (mkF m 209 L232 [(.ref a235)])
    refine own_pre (T' := T250) (g' := (mkF m 210 L232 [(.ref a235), (.ref a235)])) (fun t k => XS.dup X250.here hx rfl (hb hby at_209) rfl rfl k) ?_
    refine own_pre (T' := T250) (g' := (mkF m 211 L232 [(.int (4 : Int32)), (.ref a235), (.ref a235)])) (fun t k => XS.iconst X250.here hx rfl (hb hby at_210) k) ?_
    refine own_pre (T' := T250) (g' := (mkF m 213 L232 [(.long v209), (.int (4 : Int32)), (.ref a235), (.ref a235)])) (fun t k => XT.lload X250.here hx rfl (v := v209) (hb hby at_211) (by rw [← hL232]; rfl) k) ?_
    obtain ⟨f252, hf252⟩ : ∃ z, FP.l2d v209 = z := ⟨_, rfl⟩
    refine own_pre (T' := T250) (g' := (mkF m 214 L232 [(.double f252), (.int (4 : Int32)), (.ref a235), (.ref a235)])) (fun t k => XS.l2dS X250.here hx rfl (hb hby at_213) rfl hf252 k) ?_
    have Df252 : Jvm.FP.Core.DInt v209.toInt f252 := hf252 ▸ Jvm.FP.Core.l2d_int (own_abs Bv209)
    refine own_dastore X250 hx hZ e250 N250 nw238 F251 (hb hby at_214) (n := 4) (by decide) (by decide) (by show 4 < 6; decide) ?_
    intro T253 h253 lo253 X253 e253 N253 W253
    have F254 : own_Ary Z h253 a235 .double [(.double f240), (.double f243), (.double f246), (.double f249), (.double f252), (.double (0 : UInt64))] := F251.set W253
    show own_Go _ _ _ _ _ _ _ T253 (mkF m 215 L232 [(.ref a235)])
    refine own_pre (T' := T253) (g' := (mkF m 216 L232 [(.ref a235), (.ref a235)])) (fun t k => XS.dup X253.here hx rfl (hb hby at_215) rfl rfl k) ?_
    refine own_pre (T' := T253) (g' := (mkF m 217 L232 [(.int (5 : Int32)), (.ref a235), (.ref a235)])) (fun t k => XS.iconst X253.here hx rfl (hb hby at_216) k) ?_
    refine own_pre (T' := T253) (g' := (mkF m 219 L232 [(.long v211), (.int (5 : Int32)), (.ref a235), (.ref a235)])) (fun t k => XT.lload X253.here hx rfl (v := v211) (hb hby at_217) (by rw [← hL232]; rfl) k) ?_
    obtain ⟨f255, hf255⟩ : ∃ z, FP.l2d v211 = z := ⟨_, rfl⟩
    refine own_pre (T' := T253) (g' := (mkF m 220 L232 [(.double f255), (.int (5 : Int32)), (.ref a235), (.ref a235)])) (fun t k => XS.l2dS X253.here hx rfl (hb hby at_219) rfl hf255 k) ?_
    have Df255 : Jvm.FP.Core.DInt v211.toInt f255 := hf255 ▸ Jvm.FP.Core.l2d_int (own_abs Bv211)
    refine own_dastore X253 hx hZ e253 N253 nw238 F254 (hb hby at_220) (n := 5) (by decide) (by decide) (by show 5 < 6; decide) ?_
    intro T256 h256 lo256 X256 e256 N256 W256
    have F257 : own_Ary Z h256 a235 .double [(.double f240), (.double f243), (.double f246), (.double f249), (.double f252), (.double f255)] := F254.set W256
    show own_Go _ _ _ _ _ _ _ T256 (mkF m 221 L232 [(.ref a235)])
    refine own_pre (T' := T256) (g' := (mkF m 223 #[.val (.int p0), .val (.int p1), .val (.int p2), .val (.int p3), .val (.long p4), .second, .val (.int (2 : Int32)), .val (.int v191), .val (.int v193), .val (.long v195), .second, .val (.long v197), .second, .val (.long v199), .second, .val (.long v201), .second, .val (.long v203), .second, .val (.long v205), .second, .val (.long v207), .second, .val (.long v209), .second, .val (.long v211), .second, .val (.ref a213), .val (.ref a222), .val (.ref a235), .unset] [])) (fun t k => XS.astore X256.here hx rfl (hb hby at_221) rfl rfl (l' := #[.val (.int p0), .val (.int p1), .val (.int p2), .val (.int p3), .val (.long p4), .second, .val (.int (2 : Int32)), .val (.int v191), .val (.int v193), .val (.long v195), .second, .val (.long v197), .second, .val (.long v199), .second, .val (.long v201), .second, .val (.long v203), .second, .val (.long v205), .second, .val (.long v207), .second, .val (.long v209), .second, .val (.long v211), .second, .val (.ref a213), .val (.ref a222), .val (.ref a235), .unset]) (by rw [← hL232]; rfl) k) ?_
    generalize hL258 : (#[.val (.int p0), .val (.int p1), .val (.int p2), .val (.int p3), .val (.long p4), .second, .val (.int (2 : Int32)), .val (.int v191), .val (.int v193), .val (.long v195), .second, .val (.long v197), .second, .val (.long v199), .second, .val (.long v201), .second, .val (.long v203), .second, .val (.long v205), .second, .val (.long v207), .second, .val (.long v209), .second, .val (.long v211), .second, .val (.ref a213), .val (.ref a222), .val (.ref a235), .unset] : Array Slot) = L258
    have F259 : own_Ary Z h256 a213 .int [(.int v191), (.int v193)] := (((((((F233.ext E235).other W241 (Nat.ne_of_lt lt236)).other W244 (Nat.ne_of_lt lt236)).other W247 (Nat.ne_of_lt lt236)).other W250 (Nat.ne_of_lt lt236)).other W253 (Nat.ne_of_lt lt236)).other W256 (Nat.ne_of_lt lt236))
    have F260 : own_Ary Z h256 a222 .double [(.double f226), (.double f229)] := (((((((F231.ext E235).other W241 (Nat.ne_of_lt lt237)).other W244 (Nat.ne_of_lt lt237)).other W247 (Nat.ne_of_lt lt237)).other W250 (Nat.ne_of_lt lt237)).other W253 (Nat.ne_of_lt lt237)).other W256 (Nat.ne_of_lt lt237))
    have F261 : n0 ≤ h256.size := (Nat.le_trans (Nat.le_trans (Nat.le_trans (Nat.le_trans (Nat.le_trans (Nat.le_trans (Nat.le_trans F234 E235.1) (Nat.le_of_eq W241.size.symm)) (Nat.le_of_eq W244.size.symm)) (Nat.le_of_eq W247.size.symm)) (Nat.le_of_eq W250.size.symm)) (Nat.le_of_eq W253.size.symm)) (Nat.le_of_eq W256.size.symm))
    refine own_newobj X256 hx hZ hown (hw _ (List.mem_of_getElem? (i := 2) rfl)) (hw _ (List.mem_of_getElem? (i := 3) rfl)) (hw _ (List.mem_of_getElem? (i := 4) rfl)) e256 (hb hby at_223) (by decide) (by decide) ?_
    intro T262 h262 a262 g262 X262 e262 E262 A262 D262
    have lt263 : a213 < a262 := Nat.lt_of_lt_of_le F259.lt (Nat.le_of_eq g262.symm)
    have lt264 : a222 < a262 := Nat.lt_of_lt_of_le F260.lt (Nat.le_of_eq g262.symm)
    have lt265 : a235 < a262 := Nat.lt_of_lt_of_le F257.lt (Nat.le_of_eq g262.symm)
    have nw266 : n0 ≤ a262 := Nat.le_trans F261 (Nat.le_of_eq g262.symm)
    have F267 : Fld Z h262 a262 "com/example/galicia/galicia/lime/SparseVector" "positions" "[I" .null := D262 (Or.inr (hw _ (List.mem_of_getElem? (i := 12) rfl))) (ty := (.array .int)) (by decide)
    have F268 : Fld Z h262 a262 "com/example/galicia/galicia/lime/SparseVector" "values" "[D" .null := D262 (Or.inr (hw _ (List.mem_of_getElem? (i := 14) rfl))) (ty := (.array .double)) (by decide)
    show own_Go _ _ _ _ _ _ _ T262 (mkF m 226 L258 [(.ref a262)])
    refine own_pre (T' := T262) (g' := (mkF m 227 L258 [(.ref a262), (.ref a262)])) (fun t k => XS.dup X262.here hx rfl (hb hby at_226) rfl rfl k) ?_
    refine own_pre (T' := T262) (g' := (mkF m 229 L258 [(.ref a213), (.ref a262), (.ref a262)])) (fun t k => XS.aload X262.here hx rfl (v := (.ref a213)) (hb hby at_227) (by rw [← hL258]; rfl) rfl k) ?_
    refine own_pre (T' := T262) (g' := (mkF m 231 L258 [(.ref a222), (.ref a213), (.ref a262), (.ref a262)])) (fun t k => XS.aload X262.here hx rfl (v := (.ref a222)) (hb hby at_229) (by rw [← hL258]; rfl) rfl k) ?_
    have F269 : n0 ≤ h262.size := (Nat.le_trans F261 E262.1)
    refine own_init (a := a262) (argsL := [(.ref a213), (.ref a222)]) (rest := [(.ref a262)]) X262 hx hZ hown (own_svinit l Z a0 hw [] a262 a213 a222 h262 n0 F269 A262 F267 F268 nw266) rfl (hw _ (List.mem_of_getElem? (i := 5) rfl)) (hw _ (List.mem_of_getElem? (i := 6) rfl)) (hw _ (List.mem_of_getElem? (i := 7) rfl)) (hw _ (List.mem_of_getElem? (i := 4) rfl)) (by decide) e262 (hb hby at_231) (by rw [hml, ← hL258]; rfl) rfl (lenOf own_pd0 rfl) (by decide) (W := 1) (Nat.le_of_eq rfl) (by decide) (by decide) (by decide) ?_
    intro v270 T270 lo270 X270 Q270
    obtain ⟨h270, e270⟩ : ∃ h, T270.heap = h := ⟨_, rfl⟩
    rw [e270] at Q270
    obtain ⟨rfl, N270, K270, G1270, G2270⟩ := Q270
    have N270' := Fr.app N256 N270
    show own_Go _ _ _ _ _ _ _ T270 (mkF m 234 L258 [(.ref a262)])
    refine own_pre (T' := T270) (g' := (mkF m 236 #[.val (.int p0), .val (.int p1), .val (.int p2), .val (.int p3), .val (.long p4), .second, .val (.int (2 : Int32)), .val (.int v191), .val (.int v193), .val (.long v195), .second, .val (.long v197), .second, .val (.long v199), .second, .val (.long v201), .second, .val (.long v203), .second, .val (.long v205), .second, .val (.long v207), .second, .val (.long v209), .second, .val (.long v211), .second, .val (.ref a213), .val (.ref a222), .val (.ref a235), .val (.ref a262)] [])) (fun t k => XS.astore X270.here hx rfl (hb hby at_234) rfl rfl (l' := #[.val (.int p0), .val (.int p1), .val (.int p2), .val (.int p3), .val (.long p4), .second, .val (.int (2 : Int32)), .val (.int v191), .val (.int v193), .val (.long v195), .second, .val (.long v197), .second, .val (.long v199), .second, .val (.long v201), .second, .val (.long v203), .second, .val (.long v205), .second, .val (.long v207), .second, .val (.long v209), .second, .val (.long v211), .second, .val (.ref a213), .val (.ref a222), .val (.ref a235), .val (.ref a262)]) (by rw [← hL258]; rfl) k) ?_
    generalize hL271 : (#[.val (.int p0), .val (.int p1), .val (.int p2), .val (.int p3), .val (.long p4), .second, .val (.int (2 : Int32)), .val (.int v191), .val (.int v193), .val (.long v195), .second, .val (.long v197), .second, .val (.long v199), .second, .val (.long v201), .second, .val (.long v203), .second, .val (.long v205), .second, .val (.long v207), .second, .val (.long v209), .second, .val (.long v211), .second, .val (.ref a213), .val (.ref a222), .val (.ref a235), .val (.ref a262)] : Array Slot) = L271
    refine own_pre (T' := T270) (g' := (mkF m 238 L271 [(.ref a262)])) (fun t k => XS.aload X270.here hx rfl (v := (.ref a262)) (hb hby at_236) (by rw [← hL271]; rfl) rfl k) ?_
    refine own_pre (T' := T270) (g' := (mkF m 240 L271 [(.ref a235), (.ref a262)])) (fun t k => XS.aload X270.here hx rfl (v := (.ref a235)) (hb hby at_238) (by rw [← hL271]; rfl) rfl k) ?_
    refine own_pre (T' := T270) (g' := (mkF m 242 L271 [(.long v199), (.ref a235), (.ref a262)])) (fun t k => XT.lload X270.here hx rfl (v := v199) (hb hby at_240) (by rw [← hL271]; rfl) k) ?_
    obtain ⟨f272, hf272⟩ : ∃ z, FP.l2d v199 = z := ⟨_, rfl⟩
    refine own_pre (T' := T270) (g' := (mkF m 243 L271 [(.double f272), (.ref a235), (.ref a262)])) (fun t k => XS.l2dS X270.here hx rfl (hb hby at_242) rfl hf272 k) ?_
    have Df272 : Jvm.FP.Core.DInt v199.toInt f272 := hf272 ▸ Jvm.FP.Core.l2d_int (own_abs Bv199)
    have hpick : ∀ k, k < 6 → ∃ (f : UInt64) (e : Int64), ([(.double f240), (.double f243), (.double f246), (.double f249), (.double f252), (.double f255)] : List Value)[k]? = some (.double f) ∧ ([v201, v203, v205, v207, v209, v211] : List Int64)[k]? = some e ∧ FP.Core.DInt e.toInt f ∧ (-32768 ≤ e.toInt ∧ e.toInt ≤ 32768) := by
      intro k hk
      match k, hk with
      | 0, _ => exact ⟨f240, v201, rfl, rfl, Df240, Bv201⟩
      | 1, _ => exact ⟨f243, v203, rfl, rfl, Df243, Bv203⟩
      | 2, _ => exact ⟨f246, v205, rfl, rfl, Df246, Bv205⟩
      | 3, _ => exact ⟨f249, v207, rfl, rfl, Df249, Bv207⟩
      | 4, _ => exact ⟨f252, v209, rfl, rfl, Df252, Bv209⟩
      | 5, _ => exact ⟨f255, v211, rfl, rfl, Df255, Bv211⟩
    obtain ⟨y0, e0, hy0, he0, DY0, hE0⟩ := hpick v191.toNatClampNeg (own_lt6 hq0)
    obtain ⟨y1, e1, hy1, he1, DY1, hE1⟩ := hpick v193.toNatClampNeg (own_lt6 hq1)
    have F273 : n0 ≤ h270.size := (Nat.le_trans F269 K270.1)
    have F274 : own_Ary Z h270 a213 .int [(.int v191), (.int v193)] := ((F259.ext E262).keep K270 (ninS (Nat.ne_of_lt lt263) nin0))
    have F275 : own_Ary Z h270 a222 .double [(.double f226), (.double f229)] := ((F260.ext E262).keep K270 (ninS (Nat.ne_of_lt lt264) nin0))
    have F276 : own_Ary Z h270 a235 .double [(.double f240), (.double f243), (.double f246), (.double f249), (.double f252), (.double f255)] := ((F257.ext E262).keep K270 (ninS (Nat.ne_of_lt lt265) nin0))
    have F277 : Exa Z h270 a262 "com/example/galicia/galicia/lime/SparseVector" := (A262.keep K270)
    refine own_callv (a := a262) (argsL := [(.ref a235), (.double f272)]) (rest := []) X270 hx hZ hown (own_addto2 l Z a0 hw [] a262 a213 a222 a235 _ f272 v199.toInt v191 f226 y0 v195.toInt e0.toInt v193 f229 y1 v197.toInt e1.toInt h270 n0 F273 G1270 G2270 F274 F275 F276 (Nat.ne_of_gt lt265) (Nat.ne_of_lt lt236) (Nat.ne_of_lt lt237) nw238 Df272 hq0.1 hy0 Df226 DY0 P0 (own_abs50 hE0) hq1.1 hy1 Df229 DY1 P1 (own_abs50 hE1) hqq) F277 (hw _ (List.mem_of_getElem? (i := 15) rfl)) (hw _ (List.mem_of_getElem? (i := 16) rfl)) (hw _ (List.mem_of_getElem? (i := 18) rfl)) (hw _ (List.mem_of_getElem? (i := 17) rfl)) (hw _ (List.mem_of_getElem? (i := 19) rfl)) (hw _ (List.mem_of_getElem? (i := 4) rfl)) (by decide) e270 (hb hby at_243) (by rw [hml, ← hL271]; rfl) rfl (lenOf own_pd1 rfl) (by decide) (W := 0) (Nat.le_of_eq rfl) (by decide) (by decide) (by decide) ?_
    intro v278 T278 lo278 X278 Q278
    obtain ⟨h278, e278⟩ : ∃ h, T278.heap = h := ⟨_, rfl⟩
    rw [e278] at Q278
    obtain ⟨r0_278, r1_278, rfl, N278, K278, A278, DR0_278, DR1_278⟩ := Q278
    have N278' := Fr.app N270' N278
    show own_Go _ _ _ _ _ _ _ T278 (mkF m 246 L271 [])
    have hab0 : 0 = v191.toNatClampNeg → e0.toInt = v201.toInt := fun q => by rw [← q] at he0; exact congrArg Int64.toInt (Option.some.inj he0).symm
    obtain ⟨g2791, hg2791, Dg2791⟩ := own_set1 (k := 0) (O := [(.double f240), (.double f243), (.double f246), (.double f249), (.double f252), (.double f255)]) (f := f240) rfl Df240 hy0 DR0_278 hab0
    have hab1 : 0 = v193.toNatClampNeg → e1.toInt = v201.toInt + (if 0 = v191.toNatClampNeg then v199.toInt * v195.toInt else 0) := fun q => by rw [if_neg (fun q2 => hqq (q2.symm.trans q))]; rw [← q] at he1; rw [Int.add_zero]; exact congrArg Int64.toInt (Option.some.inj he1).symm
    obtain ⟨g279, hg279, Dg279⟩ := own_set1 (y := y1) hg2791 Dg2791 (by rw [List.getElem?_set_ne hqq]; exact hy1) DR1_278 hab1
    refine own_pre (T' := T278) (g' := (mkF m 248 L271 [(.ref a235)])) (fun t k => XS.aload X278.here hx rfl (v := (.ref a235)) (hb hby at_246) (by rw [← hL271]; rfl) rfl k) ?_
    refine own_pre (T' := T278) (g' := (mkF m 249 L271 [(.int (0 : Int32)), (.ref a235)])) (fun t k => XS.iconst X278.here hx rfl (hb hby at_248) k) ?_
    refine own_daload X278 hx hZ e278 A278 (hb hby at_249) (n := 0) (v := (.double g279)) (by decide) (by decide) hg279 ?_
    show own_Go _ _ _ _ _ _ _ T278 (mkF m 250 L271 [(.double g279)])
    refine own_pre (T' := T278) (g' := (mkF m 252 L271 [(.long v201), (.double g279)])) (fun t k => XT.lload X278.here hx rfl (v := v201) (hb hby at_250) (by rw [← hL271]; rfl) k) ?_
    refine own_pre (T' := T278) (g' := (mkF m 253 L271 [(.int (0 : Int32)), (.long v201), (.double g279)])) (fun t k => XS.iconst X278.here hx rfl (hb hby at_252) k) ?_
    refine own_pre (T' := T278) (g' := (mkF m 255 L271 [(.int (2 : Int32)), (.int (0 : Int32)), (.long v201), (.double g279)])) (fun t k => XS.iload X278.here hx rfl (v := (2 : Int32)) (hb hby at_253) (by rw [← hL271]; rfl) k) ?_
    refine own_pre (T' := T278) (g' := (mkF m 257 L271 [(.int v191), (.int (2 : Int32)), (.int (0 : Int32)), (.long v201), (.double g279)])) (fun t k => XS.iload X278.here hx rfl (v := v191) (hb hby at_255) (by rw [← hL271]; rfl) k) ?_
    refine own_pre (T' := T278) (g' := (mkF m 259 L271 [(.int v193), (.int v191), (.int (2 : Int32)), (.int (0 : Int32)), (.long v201), (.double g279)])) (fun t k => XS.iload X278.here hx rfl (v := v193) (hb hby at_257) (by rw [← hL271]; rfl) k) ?_
    refine own_pre (T' := T278) (g' := (mkF m 261 L271 [(.long v199), (.int v193), (.int v191), (.int (2 : Int32)), (.int (0 : Int32)), (.long v201), (.double g279)])) (fun t k => XT.lload X278.here hx rfl (v := v199) (hb hby at_259) (by rw [← hL271]; rfl) k) ?_
    refine own_pre (T' := T278) (g' := (mkF m 263 L271 [(.long v195), (.long v199), (.int v193), (.int v191), (.int (2 : Int32)), (.int (0 : Int32)), (.long v201), (.double g279)])) (fun t k => XT.lload X278.here hx rfl (v := v195) (hb hby at_261) (by rw [← hL271]; rfl) k) ?_
    refine own_pre (T' := T278) (g' := (mkF m 265 L271 [(.long v197), (.long v195), (.long v199), (.int v193), (.int v191), (.int (2 : Int32)), (.int (0 : Int32)), (.long v201), (.double g279)])) (fun t k => XT.lload X278.here hx rfl (v := v197) (hb hby at_263) (by rw [← hL271]; rfl) k) ?_
    have F280 : n0 ≤ h278.size := (Nat.le_trans F273 K278.1)
    refine own_calls (argsL := [(.double g279), (.long v201), (.int (0 : Int32)), (.int (2 : Int32)), (.int v191), (.int v193), (.long v199), (.long v195), (.long v197)]) (rest := []) X278 hx hZ hown (own_okT l Z a0 hw [] g279 v201 (0 : Int32) (2 : Int32) v191 v193 v199 v195 v197 (if 0 = v191.toNatClampNeg then v199.toInt * v195.toInt else 0) (if 0 = v193.toNatClampNeg then v199.toInt * v197.toInt else 0) h278 n0 F280 (own_ifb (i := 0) (by decide) (by decide) (by decide) hq0.1) (own_ifb (i := 0) (by decide) (by decide) (by decide) hq1.1) Dg279 (own_abs50 Bv201) P0 P1) (hw _ (List.mem_of_getElem? (i := 20) rfl)) (hw _ (List.mem_of_getElem? (i := 21) rfl)) (hw _ (List.mem_of_getElem? (i := 23) rfl)) (hw _ (List.mem_of_getElem? (i := 22) rfl)) (by decide) e278 (hb hby at_265) (by rw [hml, ← hL271]; rfl) rfl (lenOf own_pd2 rfl) (by decide) (W := 0) (Nat.le_of_eq rfl) (by decide) (by decide) (by decide) ?_
    intro v281 T281 lo281 X281 Q281
    obtain ⟨h281, e281⟩ : ∃ h, T281.heap = h := ⟨_, rfl⟩
    rw [e281] at Q281
    obtain ⟨rfl, N281, q281⟩ := Q281
    have N281' := Fr.app N278' N281
    have e281' : T281.heap = h278 := e281.trans q281
    show own_Go _ _ _ _ _ _ _ T281 (mkF m 268 L271 [(.int (1 : Int32))])
    refine own_pre (T' := T281) (g' := (mkF m 271 L271 [])) (fun t k => XS.ifNo X281.here hx rfl (hb hby at_268) rfl (by decide) k) ?_
    refine own_pre (T' := T281) (g' := (mkF m 273 L271 [(.ref a235)])) (fun t k => XS.aload X281.here hx rfl (v := (.ref a235)) (hb hby at_271) (by rw [← hL271]; rfl) rfl k) ?_
    refine own_pre (T' := T281) (g' := (mkF m 274 L271 [(.int (1 : Int32)), (.ref a235)])) (fun t k => XS.iconst X281.here hx rfl (hb hby at_273) k) ?_
    have hab0 : 1 = v191.toNatClampNeg → e0.toInt = v203.toInt := fun q => by rw [← q] at he0; exact congrArg Int64.toInt (Option.some.inj he0).symm
    obtain ⟨g2821, hg2821, Dg2821⟩ := own_set1 (k := 1) (O := [(.double f240), (.double f243), (.double f246), (.double f249), (.double f252), (.double f255)]) (f := f243) rfl Df243 hy0 DR0_278 hab0
    have hab1 : 1 = v193.toNatClampNeg → e1.toInt = v203.toInt + (if 1 = v191.toNatClampNeg then v199.toInt * v195.toInt else 0) := fun q => by rw [if_neg (fun q2 => hqq (q2.symm.trans q))]; rw [← q] at he1; rw [Int.add_zero]; exact congrArg Int64.toInt (Option.some.inj he1).symm
    obtain ⟨g282, hg282, Dg282⟩ := own_set1 (y := y1) hg2821 Dg2821 (by rw [List.getElem?_set_ne hqq]; exact hy1) DR1_278 hab1
    refine own_daload X281 hx hZ e281' A278 (hb hby at_274) (n := 1) (v := (.double g282)) (by decide) (by decide) hg282 ?_
    show own_Go _ _ _ _ _ _ _ T281 (mkF m 275 L271 [(.double g282)])
    refine own_pre (T' := T281) (g' := (mkF m 277 L271 [(.long v203), (.double g282)])) (fun t k => XT.lload X281.here hx rfl (v := v203) (hb hby at_275) (by rw [← hL271]; rfl) k) ?_
    refine own_pre (T' := T281) (g' := (mkF m 278 L271 [(.int (1 : Int32)), (.long v203), (.double g282)])) (fun t k => XS.iconst X281.here hx rfl (hb hby at_277) k) ?_
    refine own_pre (T' := T281) (g' := (mkF m 280 L271 [(.int (2 : Int32)), (.int (1 : Int32)), (.long v203), (.double g282)])) (fun t k => XS.iload X281.here hx rfl (v := (2 : Int32)) (hb hby at_278) (by rw [← hL271]; rfl) k) ?_
    refine own_pre (T' := T281) (g' := (mkF m 282 L271 [(.int v191), (.int (2 : Int32)), (.int (1 : Int32)), (.long v203), (.double g282)])) (fun t k => XS.iload X281.here hx rfl (v := v191) (hb hby at_280) (by rw [← hL271]; rfl) k) ?_
    refine own_pre (T' := T281) (g' := (mkF m 284 L271 [(.int v193), (.int v191), (.int (2 : Int32)), (.int (1 : Int32)), (.long v203), (.double g282)])) (fun t k => XS.iload X281.here hx rfl (v := v193) (hb hby at_282) (by rw [← hL271]; rfl) k) ?_
    refine own_pre (T' := T281) (g' := (mkF m 286 L271 [(.long v199), (.int v193), (.int v191), (.int (2 : Int32)), (.int (1 : Int32)), (.long v203), (.double g282)])) (fun t k => XT.lload X281.here hx rfl (v := v199) (hb hby at_284) (by rw [← hL271]; rfl) k) ?_
    refine own_pre (T' := T281) (g' := (mkF m 288 L271 [(.long v195), (.long v199), (.int v193), (.int v191), (.int (2 : Int32)), (.int (1 : Int32)), (.long v203), (.double g282)])) (fun t k => XT.lload X281.here hx rfl (v := v195) (hb hby at_286) (by rw [← hL271]; rfl) k) ?_
    refine own_pre (T' := T281) (g' := (mkF m 290 L271 [(.long v197), (.long v195), (.long v199), (.int v193), (.int v191), (.int (2 : Int32)), (.int (1 : Int32)), (.long v203), (.double g282)])) (fun t k => XT.lload X281.here hx rfl (v := v197) (hb hby at_288) (by rw [← hL271]; rfl) k) ?_
    refine own_calls (argsL := [(.double g282), (.long v203), (.int (1 : Int32)), (.int (2 : Int32)), (.int v191), (.int v193), (.long v199), (.long v195), (.long v197)]) (rest := []) X281 hx hZ hown (own_okT l Z a0 hw [] g282 v203 (1 : Int32) (2 : Int32) v191 v193 v199 v195 v197 (if 1 = v191.toNatClampNeg then v199.toInt * v195.toInt else 0) (if 1 = v193.toNatClampNeg then v199.toInt * v197.toInt else 0) h278 n0 F280 (own_ifb (i := 1) (by decide) (by decide) (by decide) hq0.1) (own_ifb (i := 1) (by decide) (by decide) (by decide) hq1.1) Dg282 (own_abs50 Bv203) P0 P1) (hw _ (List.mem_of_getElem? (i := 20) rfl)) (hw _ (List.mem_of_getElem? (i := 21) rfl)) (hw _ (List.mem_of_getElem? (i := 23) rfl)) (hw _ (List.mem_of_getElem? (i := 22) rfl)) (by decide) e281' (hb hby at_290) (by rw [hml, ← hL271]; rfl) rfl (lenOf own_pd2 rfl) (by decide) (W := 0) (Nat.le_of_eq rfl) (by decide) (by decide) (by decide) ?_
    intro v283 T283 lo283 X283 Q283
    obtain ⟨h283, e283⟩ : ∃ h, T283.heap = h := ⟨_, rfl⟩
    rw [e283] at Q283
    obtain ⟨rfl, N283, q283⟩ := Q283
    have N283' := Fr.app N281' N283
    have e283' : T283.heap = h278 := e283.trans q283
    show own_Go _ _ _ _ _ _ _ T283 (mkF m 293 L271 [(.int (1 : Int32))])
    refine own_pre (T' := T283) (g' := (mkF m 296 L271 [])) (fun t k => XS.ifNo X283.here hx rfl (hb hby at_293) rfl (by decide) k) ?_
    refine own_pre (T' := T283) (g' := (mkF m 298 L271 [(.ref a235)])) (fun t k => XS.aload X283.here hx rfl (v := (.ref a235)) (hb hby at_296) (by rw [← hL271]; rfl) rfl k) ?_
    refine own_pre (T' := T283) (g' := (mkF m 299 L271 [(.int (2 : Int32)), (.ref a235)])) (fun t k => XS.iconst X283.here hx rfl (hb hby at_298) k) ?_
    have hab0 : 2 = v191.toNatClampNeg → e0.toInt = v205.toInt := fun q => by rw [← q] at he0; exact congrArg Int64.toInt (Option.some.inj he0).symm
    obtain ⟨g2841, hg2841, Dg2841⟩ := own_set1 (k := 2) (O := [(.double f240), (.double f243), (.double f246), (.double f249), (.double f252), (.double f255)]) (f := f246) rfl Df246 hy0 DR0_278 hab0
    have hab1 : 2 = v193.toNatClampNeg → e1.toInt = v205.toInt + (if 2 = v191.toNatClampNeg then v199.toInt * v195.toInt else 0) := fun q => by rw [if_neg (fun q2 => hqq (q2.symm.trans q))]; rw [← q] at he1; rw [Int.add_zero]; exact congrArg Int64.toInt (Option.some.inj he1).symm
    obtain ⟨g284, hg284, Dg284⟩ := own_set1 (y := y1) hg2841 Dg2841 (by rw [List.getElem?_set_ne hqq]; exact hy1) DR1_278 hab1
    refine own_daload X283 hx hZ e283' A278 (hb hby at_299) (n := 2) (v := (.double g284)) (by decide) (by decide) hg284 ?_
    show own_Go _ _ _ _ _ _ _ T283 (mkF m 300 L271 [(.double g284)])
    refine own_pre (T' := T283) (g' := (mkF m 302 L271 [(.long v205), (.double g284)])) (fun t k => XT.lload X283.here hx rfl (v := v205) (hb hby at_300) (by rw [← hL271]; rfl) k) ?_
    refine own_pre (T' := T283) (g' := (mkF m 303 L271 [(.int (2 : Int32)), (.long v205), (.double g284)])) (fun t k => XS.iconst X283.here hx rfl (hb hby at_302) k) ?_
    refine own_pre (T' := T283) (g' := (mkF m 305 L271 [(.int (2 : Int32)), (.int (2 : Int32)), (.long v205), (.double g284)])) (fun t k => XS.iload X283.here hx rfl (v := (2 : Int32)) (hb hby at_303) (by rw [← hL271]; rfl) k) ?_
    refine own_pre (T' := T283) (g' := (mkF m 307 L271 [(.int v191), (.int (2 : Int32)), (.int (2 : Int32)), (.long v205), (.double g284)])) (fun t k => XS.iload X283.here hx rfl (v := v191) (hb hby at_305) (by rw [← hL271]; rfl) k) ?_
    refine own_pre (T' := T283) (g' := (mkF m 309 L271 [(.int v193), (.int v191), (.int (2 : Int32)), (.int (2 : Int32)), (.long v205), (.double g284)])) (fun t k => XS.iload X283.here hx rfl (v := v193) (hb hby at_307) (by rw [← hL271]; rfl) k) ?_
    refine own_pre (T' := T283) (g' := (mkF m 311 L271 [(.long v199), (.int v193), (.int v191), (.int (2 : Int32)), (.int (2 : Int32)), (.long v205), (.double g284)])) (fun t k => XT.lload X283.here hx rfl (v := v199) (hb hby at_309) (by rw [← hL271]; rfl) k) ?_
    refine own_pre (T' := T283) (g' := (mkF m 313 L271 [(.long v195), (.long v199), (.int v193), (.int v191), (.int (2 : Int32)), (.int (2 : Int32)), (.long v205), (.double g284)])) (fun t k => XT.lload X283.here hx rfl (v := v195) (hb hby at_311) (by rw [← hL271]; rfl) k) ?_
    refine own_pre (T' := T283) (g' := (mkF m 315 L271 [(.long v197), (.long v195), (.long v199), (.int v193), (.int v191), (.int (2 : Int32)), (.int (2 : Int32)), (.long v205), (.double g284)])) (fun t k => XT.lload X283.here hx rfl (v := v197) (hb hby at_313) (by rw [← hL271]; rfl) k) ?_
    refine own_calls (argsL := [(.double g284), (.long v205), (.int (2 : Int32)), (.int (2 : Int32)), (.int v191), (.int v193), (.long v199), (.long v195), (.long v197)]) (rest := []) X283 hx hZ hown (own_okT l Z a0 hw [] g284 v205 (2 : Int32) (2 : Int32) v191 v193 v199 v195 v197 (if 2 = v191.toNatClampNeg then v199.toInt * v195.toInt else 0) (if 2 = v193.toNatClampNeg then v199.toInt * v197.toInt else 0) h278 n0 F280 (own_ifb (i := 2) (by decide) (by decide) (by decide) hq0.1) (own_ifb (i := 2) (by decide) (by decide) (by decide) hq1.1) Dg284 (own_abs50 Bv205) P0 P1) (hw _ (List.mem_of_getElem? (i := 20) rfl)) (hw _ (List.mem_of_getElem? (i := 21) rfl)) (hw _ (List.mem_of_getElem? (i := 23) rfl)) (hw _ (List.mem_of_getElem? (i := 22) rfl)) (by decide) e283' (hb hby at_315) (by rw [hml, ← hL271]; rfl) rfl (lenOf own_pd2 rfl) (by decide) (W := 0) (Nat.le_of_eq rfl) (by decide) (by decide) (by decide) ?_
    intro v285 T285 lo285 X285 Q285
    obtain ⟨h285, e285⟩ : ∃ h, T285.heap = h := ⟨_, rfl⟩
    rw [e285] at Q285
    obtain ⟨rfl, N285, q285⟩ := Q285
    have N285' := Fr.app N283' N285
    have e285' : T285.heap = h278 := e285.trans q285
    show own_Go _ _ _ _ _ _ _ T285 (mkF m 318 L271 [(.int (1 : Int32))])
    refine own_pre (T' := T285) (g' := (mkF m 321 L271 [])) (fun t k => XS.ifNo X285.here hx rfl (hb hby at_318) rfl (by decide) k) ?_
    refine own_pre (T' := T285) (g' := (mkF m 323 L271 [(.ref a235)])) (fun t k => XS.aload X285.here hx rfl (v := (.ref a235)) (hb hby at_321) (by rw [← hL271]; rfl) rfl k) ?_
    refine own_pre (T' := T285) (g' := (mkF m 324 L271 [(.int (3 : Int32)), (.ref a235)])) (fun t k => XS.iconst X285.here hx rfl (hb hby at_323) k) ?_
    have hab0 : 3 = v191.toNatClampNeg → e0.toInt = v207.toInt := fun q => by rw [← q] at he0; exact congrArg Int64.toInt (Option.some.inj he0).symm
    obtain ⟨g2861, hg2861, Dg2861⟩ := own_set1 (k := 3) (O := [(.double f240), (.double f243), (.double f246), (.double f249), (.double f252), (.double f255)]) (f := f249) rfl Df249 hy0 DR0_278 hab0
    have hab1 : 3 = v193.toNatClampNeg → e1.toInt = v207.toInt + (if 3 = v191.toNatClampNeg then v199.toInt * v195.toInt else 0) := fun q => by rw [if_neg (fun q2 => hqq (q2.symm.trans q))]; rw [← q] at he1; rw [Int.add_zero]; exact congrArg Int64.toInt (Option.some.inj he1).symm
    obtain ⟨g286, hg286, Dg286⟩ := own_set1 (y := y1) hg2861 Dg2861 (by rw [List.getElem?_set_ne hqq]; exact hy1) DR1_278 hab1
    refine own_daload X285 hx hZ e285' A278 (hb hby at_324) (n := 3) (v := (.double g286)) (by decide) (by decide) hg286 ?_
    show own_Go _ _ _ _ _ _ _ T285 (mkF m 325 L271 [(.double g286)])
    refine own_pre (T' := T285) (g' := (mkF m 327 L271 [(.long v207), (.double g286)])) (fun t k => XT.lload X285.here hx rfl (v := v207) (hb hby at_325) (by rw [← hL271]; rfl) k) ?_
    refine own_pre (T' := T285) (g' := (mkF m 328 L271 [(.int (3 : Int32)), (.long v207), (.double g286)])) (fun t k => XS.iconst X285.here hx rfl (hb hby at_327) k) ?_
    refine own_pre (T' := T285) (g' := (mkF m 330 L271 [(.int (2 : Int32)), (.int (3 : Int32)), (.long v207), (.double g286)])) (fun t k => XS.iload X285.here hx rfl (v := (2 : Int32)) (hb hby at_328) (by rw [← hL271]; rfl) k) ?_
    refine own_pre (T' := T285) (g' := (mkF m 332 L271 [(.int v191), (.int (2 : Int32)), (.int (3 : Int32)), (.long v207), (.double g286)])) (fun t k => XS.iload X285.here hx rfl (v := v191) (hb hby at_330) (by rw [← hL271]; rfl) k) ?_
    refine own_pre (T' := T285) (g' := (mkF m 334 L271 [(.int v193), (.int v191), (.int (2 : Int32)), (.int (3 : Int32)), (.long v207), (.double g286)])) (fun t k => XS.iload X285.here hx rfl (v := v193) (hb hby at_332) (by rw [← hL271]; rfl) k) ?_
    refine own_pre (T' := T285) (g' := (mkF m 336 L271 [(.long v199), (.int v193), (.int v191), (.int (2 : Int32)), (.int (3 : Int32)), (.long v207), (.double g286)])) (fun t k => XT.lload X285.here hx rfl (v := v199) (hb hby at_334) (by rw [← hL271]; rfl) k) ?_
    refine own_pre (T' := T285) (g' := (mkF m 338 L271 [(.long v195), (.long v199), (.int v193), (.int v191), (.int (2 : Int32)), (.int (3 : Int32)), (.long v207), (.double g286)])) (fun t k => XT.lload X285.here hx rfl (v := v195) (hb hby at_336) (by rw [← hL271]; rfl) k) ?_
    refine own_pre (T' := T285) (g' := (mkF m 340 L271 [(.long v197), (.long v195), (.long v199), (.int v193), (.int v191), (.int (2 : Int32)), (.int (3 : Int32)), (.long v207), (.double g286)])) (fun t k => XT.lload X285.here hx rfl (v := v197) (hb hby at_338) (by rw [← hL271]; rfl) k) ?_
    refine own_calls (argsL := [(.double g286), (.long v207), (.int (3 : Int32)), (.int (2 : Int32)), (.int v191), (.int v193), (.long v199), (.long v195), (.long v197)]) (rest := []) X285 hx hZ hown (own_okT l Z a0 hw [] g286 v207 (3 : Int32) (2 : Int32) v191 v193 v199 v195 v197 (if 3 = v191.toNatClampNeg then v199.toInt * v195.toInt else 0) (if 3 = v193.toNatClampNeg then v199.toInt * v197.toInt else 0) h278 n0 F280 (own_ifb (i := 3) (by decide) (by decide) (by decide) hq0.1) (own_ifb (i := 3) (by decide) (by decide) (by decide) hq1.1) Dg286 (own_abs50 Bv207) P0 P1) (hw _ (List.mem_of_getElem? (i := 20) rfl)) (hw _ (List.mem_of_getElem? (i := 21) rfl)) (hw _ (List.mem_of_getElem? (i := 23) rfl)) (hw _ (List.mem_of_getElem? (i := 22) rfl)) (by decide) e285' (hb hby at_340) (by rw [hml, ← hL271]; rfl) rfl (lenOf own_pd2 rfl) (by decide) (W := 0) (Nat.le_of_eq rfl) (by decide) (by decide) (by decide) ?_
    intro v287 T287 lo287 X287 Q287
    obtain ⟨h287, e287⟩ : ∃ h, T287.heap = h := ⟨_, rfl⟩
    rw [e287] at Q287
    obtain ⟨rfl, N287, q287⟩ := Q287
    have N287' := Fr.app N285' N287
    have e287' : T287.heap = h278 := e287.trans q287
    show own_Go _ _ _ _ _ _ _ T287 (mkF m 343 L271 [(.int (1 : Int32))])
    refine own_pre (T' := T287) (g' := (mkF m 346 L271 [])) (fun t k => XS.ifNo X287.here hx rfl (hb hby at_343) rfl (by decide) k) ?_
    refine own_pre (T' := T287) (g' := (mkF m 348 L271 [(.ref a235)])) (fun t k => XS.aload X287.here hx rfl (v := (.ref a235)) (hb hby at_346) (by rw [← hL271]; rfl) rfl k) ?_
    refine own_pre (T' := T287) (g' := (mkF m 349 L271 [(.int (4 : Int32)), (.ref a235)])) (fun t k => XS.iconst X287.here hx rfl (hb hby at_348) k) ?_
    have hab0 : 4 = v191.toNatClampNeg → e0.toInt = v209.toInt := fun q => by rw [← q] at he0; exact congrArg Int64.toInt (Option.some.inj he0).symm
    obtain ⟨g2881, hg2881, Dg2881⟩ := own_set1 (k := 4) (O := [(.double f240), (.double f243), (.double f246), (.double f249), (.double f252), (.double f255)]) (f := f252) rfl Df252 hy0 DR0_278 hab0
    have hab1 : 4 = v193.toNatClampNeg → e1.toInt = v209.toInt + (if 4 = v191.toNatClampNeg then v199.toInt * v195.toInt else 0) := fun q => by rw [if_neg (fun q2 => hqq (q2.symm.trans q))]; rw [← q] at he1; rw [Int.add_zero]; exact congrArg Int64.toInt (Option.some.inj he1).symm
    obtain ⟨g288, hg288, Dg288⟩ := own_set1 (y := y1) hg2881 Dg2881 (by rw [List.getElem?_set_ne hqq]; exact hy1) DR1_278 hab1
    refine own_daload X287 hx hZ e287' A278 (hb hby at_349) (n := 4) (v := (.double g288)) (by decide) (by decide) hg288 ?_
    show own_Go _ _ _ _ _ _ _ T287 (mkF m 350 L271 [(.double g288)])
    refine own_pre (T' := T287) (g' := (mkF m 352 L271 [(.long v209), (.double g288)])) (fun t k => XT.lload X287.here hx rfl (v := v209) (hb hby at_350) (by rw [← hL271]; rfl) k) ?_
    refine own_pre (T' := T287) (g' := (mkF m 353 L271 [(.int (4 : Int32)), (.long v209), (.double g288)])) (fun t k => XS.iconst X287.here hx rfl (hb hby at_352) k) ?_
    refine own_pre (T' := T287) (g' := (mkF m 355 L271 [(.int (2 : Int32)), (.int (4 : Int32)), (.long v209), (.double g288)])) (fun t k => XS.iload X287.here hx rfl (v := (2 : Int32)) (hb hby at_353) (by rw [← hL271]; rfl) k) ?_
    refine own_pre (T' := T287) (g' := (mkF m 357 L271 [(.int v191), (.int (2 : Int32)), (.int (4 : Int32)), (.long v209), (.double g288)])) (fun t k => XS.iload X287.here hx rfl (v := v191) (hb hby at_355) (by rw [← hL271]; rfl) k) ?_
    refine own_pre (T' := T287) (g' := (mkF m 359 L271 [(.int v193), (.int v191), (.int (2 : Int32)), (.int (4 : Int32)), (.long v209), (.double g288)])) (fun t k => XS.iload X287.here hx rfl (v := v193) (hb hby at_357) (by rw [← hL271]; rfl) k) ?_
    refine own_pre (T' := T287) (g' := (mkF m 361 L271 [(.long v199), (.int v193), (.int v191), (.int (2 : Int32)), (.int (4 : Int32)), (.long v209), (.double g288)])) (fun t k => XT.lload X287.here hx rfl (v := v199) (hb hby at_359) (by rw [← hL271]; rfl) k) ?_
    refine own_pre (T' := T287) (g' := (mkF m 363 L271 [(.long v195), (.long v199), (.int v193), (.int v191), (.int (2 : Int32)), (.int (4 : Int32)), (.long v209), (.double g288)])) (fun t k => XT.lload X287.here hx rfl (v := v195) (hb hby at_361) (by rw [← hL271]; rfl) k) ?_
    refine own_pre (T' := T287) (g' := (mkF m 365 L271 [(.long v197), (.long v195), (.long v199), (.int v193), (.int v191), (.int (2 : Int32)), (.int (4 : Int32)), (.long v209), (.double g288)])) (fun t k => XT.lload X287.here hx rfl (v := v197) (hb hby at_363) (by rw [← hL271]; rfl) k) ?_
    refine own_calls (argsL := [(.double g288), (.long v209), (.int (4 : Int32)), (.int (2 : Int32)), (.int v191), (.int v193), (.long v199), (.long v195), (.long v197)]) (rest := []) X287 hx hZ hown (own_okT l Z a0 hw [] g288 v209 (4 : Int32) (2 : Int32) v191 v193 v199 v195 v197 (if 4 = v191.toNatClampNeg then v199.toInt * v195.toInt else 0) (if 4 = v193.toNatClampNeg then v199.toInt * v197.toInt else 0) h278 n0 F280 (own_ifb (i := 4) (by decide) (by decide) (by decide) hq0.1) (own_ifb (i := 4) (by decide) (by decide) (by decide) hq1.1) Dg288 (own_abs50 Bv209) P0 P1) (hw _ (List.mem_of_getElem? (i := 20) rfl)) (hw _ (List.mem_of_getElem? (i := 21) rfl)) (hw _ (List.mem_of_getElem? (i := 23) rfl)) (hw _ (List.mem_of_getElem? (i := 22) rfl)) (by decide) e287' (hb hby at_365) (by rw [hml, ← hL271]; rfl) rfl (lenOf own_pd2 rfl) (by decide) (W := 0) (Nat.le_of_eq rfl) (by decide) (by decide) (by decide) ?_
    intro v289 T289 lo289 X289 Q289
    obtain ⟨h289, e289⟩ : ∃ h, T289.heap = h := ⟨_, rfl⟩
    rw [e289] at Q289
    obtain ⟨rfl, N289, q289⟩ := Q289
    have N289' := Fr.app N287' N289
    have e289' : T289.heap = h278 := e289.trans q289
    show own_Go _ _ _ _ _ _ _ T289 (mkF m 368 L271 [(.int (1 : Int32))])
    refine own_pre (T' := T289) (g' := (mkF m 371 L271 [])) (fun t k => XS.ifNo X289.here hx rfl (hb hby at_368) rfl (by decide) k) ?_
    refine own_pre (T' := T289) (g' := (mkF m 373 L271 [(.ref a235)])) (fun t k => XS.aload X289.here hx rfl (v := (.ref a235)) (hb hby at_371) (by rw [← hL271]; rfl) rfl k) ?_
    refine own_pre (T' := T289) (g' := (mkF m 374 L271 [(.int (5 : Int32)), (.ref a235)])) (fun t k => XS.iconst X289.here hx rfl (hb hby at_373) k) ?_
    have hab0 : 5 = v191.toNatClampNeg → e0.toInt = v211.toInt := fun q => by rw [← q] at he0; exact congrArg Int64.toInt (Option.some.inj he0).symm
    obtain ⟨g2901, hg2901, Dg2901⟩ := own_set1 (k := 5) (O := [(.double f240), (.double f243), (.double f246), (.double f249), (.double f252), (.double f255)]) (f := f255) rfl Df255 hy0 DR0_278 hab0
    have hab1 : 5 = v193.toNatClampNeg → e1.toInt = v211.toInt + (if 5 = v191.toNatClampNeg then v199.toInt * v195.toInt else 0) := fun q => by rw [if_neg (fun q2 => hqq (q2.symm.trans q))]; rw [← q] at he1; rw [Int.add_zero]; exact congrArg Int64.toInt (Option.some.inj he1).symm
    obtain ⟨g290, hg290, Dg290⟩ := own_set1 (y := y1) hg2901 Dg2901 (by rw [List.getElem?_set_ne hqq]; exact hy1) DR1_278 hab1
    refine own_daload X289 hx hZ e289' A278 (hb hby at_374) (n := 5) (v := (.double g290)) (by decide) (by decide) hg290 ?_
    show own_Go _ _ _ _ _ _ _ T289 (mkF m 375 L271 [(.double g290)])
    refine own_pre (T' := T289) (g' := (mkF m 377 L271 [(.long v211), (.double g290)])) (fun t k => XT.lload X289.here hx rfl (v := v211) (hb hby at_375) (by rw [← hL271]; rfl) k) ?_
    refine own_pre (T' := T289) (g' := (mkF m 378 L271 [(.int (5 : Int32)), (.long v211), (.double g290)])) (fun t k => XS.iconst X289.here hx rfl (hb hby at_377) k) ?_
    refine own_pre (T' := T289) (g' := (mkF m 380 L271 [(.int (2 : Int32)), (.int (5 : Int32)), (.long v211), (.double g290)])) (fun t k => XS.iload X289.here hx rfl (v := (2 : Int32)) (hb hby at_378) (by rw [← hL271]; rfl) k) ?_
    refine own_pre (T' := T289) (g' := (mkF m 382 L271 [(.int v191), (.int (2 : Int32)), (.int (5 : Int32)), (.long v211), (.double g290)])) (fun t k => XS.iload X289.here hx rfl (v := v191) (hb hby at_380) (by rw [← hL271]; rfl) k) ?_
    refine own_pre (T' := T289) (g' := (mkF m 384 L271 [(.int v193), (.int v191), (.int (2 : Int32)), (.int (5 : Int32)), (.long v211), (.double g290)])) (fun t k => XS.iload X289.here hx rfl (v := v193) (hb hby at_382) (by rw [← hL271]; rfl) k) ?_
    refine own_pre (T' := T289) (g' := (mkF m 386 L271 [(.long v199), (.int v193), (.int v191), (.int (2 : Int32)), (.int (5 : Int32)), (.long v211), (.double g290)])) (fun t k => XT.lload X289.here hx rfl (v := v199) (hb hby at_384) (by rw [← hL271]; rfl) k) ?_
    refine own_pre (T' := T289) (g' := (mkF m 388 L271 [(.long v195), (.long v199), (.int v193), (.int v191), (.int (2 : Int32)), (.int (5 : Int32)), (.long v211), (.double g290)])) (fun t k => XT.lload X289.here hx rfl (v := v195) (hb hby at_386) (by rw [← hL271]; rfl) k) ?_
    refine own_pre (T' := T289) (g' := (mkF m 390 L271 [(.long v197), (.long v195), (.long v199), (.int v193), (.int v191), (.int (2 : Int32)), (.int (5 : Int32)), (.long v211), (.double g290)])) (fun t k => XT.lload X289.here hx rfl (v := v197) (hb hby at_388) (by rw [← hL271]; rfl) k) ?_
    refine own_calls (argsL := [(.double g290), (.long v211), (.int (5 : Int32)), (.int (2 : Int32)), (.int v191), (.int v193), (.long v199), (.long v195), (.long v197)]) (rest := []) X289 hx hZ hown (own_okT l Z a0 hw [] g290 v211 (5 : Int32) (2 : Int32) v191 v193 v199 v195 v197 (if 5 = v191.toNatClampNeg then v199.toInt * v195.toInt else 0) (if 5 = v193.toNatClampNeg then v199.toInt * v197.toInt else 0) h278 n0 F280 (own_ifb (i := 5) (by decide) (by decide) (by decide) hq0.1) (own_ifb (i := 5) (by decide) (by decide) (by decide) hq1.1) Dg290 (own_abs50 Bv211) P0 P1) (hw _ (List.mem_of_getElem? (i := 20) rfl)) (hw _ (List.mem_of_getElem? (i := 21) rfl)) (hw _ (List.mem_of_getElem? (i := 23) rfl)) (hw _ (List.mem_of_getElem? (i := 22) rfl)) (by decide) e289' (hb hby at_390) (by rw [hml, ← hL271]; rfl) rfl (lenOf own_pd2 rfl) (by decide) (W := 0) (Nat.le_of_eq rfl) (by decide) (by decide) (by decide) ?_
    intro v291 T291 lo291 X291 Q291
    obtain ⟨h291, e291⟩ : ∃ h, T291.heap = h := ⟨_, rfl⟩
    rw [e291] at Q291
    obtain ⟨rfl, N291, q291⟩ := Q291
    have N291' := Fr.app N289' N291
    have e291' : T291.heap = h278 := e291.trans q291
    show own_Go _ _ _ _ _ _ _ T291 (mkF m 393 L271 [(.int (1 : Int32))])
    refine own_pre (T' := T291) (g' := (mkF m 396 L271 [])) (fun t k => XS.ifNo X291.here hx rfl (hb hby at_393) rfl (by decide) k) ?_
    refine own_pre (T' := T291) (g' := (mkF m 397 L271 [(.int (1 : Int32))])) (fun t k => XS.iconst X291.here hx rfl (hb hby at_396) k) ?_
    refine own_pre (T' := T291) (g' := (mkF m 401 L271 [(.int (1 : Int32))])) (fun t k => XS.goto X291.here hx rfl (pc0 := 397) (pc' := 401) rfl (hb hby at_397) (by decide) (by decide) k) ?_
    exact own_retZ X291 hx hlk hret rfl (hb hby at_401) e291' ⟨rfl, N291'⟩ (by decide) (by decide)
  · skip
    subst hc
    show own_Go _ _ _ _ _ _ _ s₁ (mkF m 8 L3 [(.int (3 : Int32)), (.int (3 : Int32))])
    refine own_pre (T' := s₁) (g' := (mkF m 11 L3 [])) (fun t k => XS.icmpNo X0.here hx rfl (hb hby at_8) rfl (by decide) k) ?_
    refine own_pre (T' := s₁) (g' := (mkF m 12 L3 [(.int (2 : Int32))])) (fun t k => XS.iconst X0.here hx rfl (hb hby at_11) k) ?_
    refine own_pre (T' := s₁) (g' := (mkF m 14 #[.val (.int p0), .val (.int p1), .val (.int p2), .val (.int p3), .val (.long p4), .second, .val (.int (2 : Int32)), .unset, .unset, .unset, .unset, .unset, .unset, .unset, .unset, .unset, .unset, .unset, .unset, .unset, .unset, .unset, .unset, .unset, .unset, .unset, .unset, .unset, .unset, .unset, .unset] [])) (fun t k => XS.istore X0.here hx rfl (hb hby at_12) rfl (l' := #[.val (.int p0), .val (.int p1), .val (.int p2), .val (.int p3), .val (.long p4), .second, .val (.int (2 : Int32)), .unset, .unset, .unset, .unset, .unset, .unset, .unset, .unset, .unset, .unset, .unset, .unset, .unset, .unset, .unset, .unset, .unset, .unset, .unset, .unset, .unset, .unset, .unset, .unset]) (by rw [← hL3]; rfl) k) ?_
    generalize hL292 : (#[.val (.int p0), .val (.int p1), .val (.int p2), .val (.int p3), .val (.long p4), .second, .val (.int (2 : Int32)), .unset, .unset, .unset, .unset, .unset, .unset, .unset, .unset, .unset, .unset, .unset, .unset, .unset, .unset, .unset, .unset, .unset, .unset, .unset, .unset, .unset, .unset, .unset, .unset] : Array Slot) = L292
    refine own_pre (T' := s₁) (g' := (mkF m 15 L292 [(.int p0)])) (fun t k => XS.iloadN X0.here hx rfl (v := p0) (hb hby at_14) (by rw [← hL292]; rfl) k) ?_
    refine own_pre (T' := s₁) (g' := (mkF m 16 L292 [(.int (2 : Int32)), (.int p0)])) (fun t k => XS.iconst X0.here hx rfl (hb hby at_15) k) ?_
    refine own_pre (T' := s₁) (g' := (mkF m 17 L292 [(.int (XT.ushr p0 (2 : Int32)))])) (fun t k => XT.iushr X0.here hx rfl (hb hby at_16) rfl k) ?_
    refine own_pre (T' := s₁) (g' := (mkF m 18 L292 [(.int (3 : Int32)), (.int (XT.ushr p0 (2 : Int32)))])) (fun t k => XS.iconst X0.here hx rfl (hb hby at_17) k) ?_
    refine own_pre (T' := s₁) (g' := (mkF m 19 L292 [(.int ((XT.ushr p0 (2 : Int32)) &&& (3 : Int32)))])) (fun t k => XS.iand X0.here hx rfl (hb hby at_18) rfl k) ?_
    generalize hv293 : (XT.ushr p0 (2 : Int32)) &&& (3 : Int32) = v293
    refine own_pre (T' := s₁) (g' := (mkF m 21 #[.val (.int p0), .val (.int p1), .val (.int p2), .val (.int p3), .val (.long p4), .second, .val (.int (2 : Int32)), .val (.int v293), .unset, .unset, .unset, .unset, .unset, .unset, .unset, .unset, .unset, .unset, .unset, .unset, .unset, .unset, .unset, .unset, .unset, .unset, .unset, .unset, .unset, .unset, .unset] [])) (fun t k => XS.istore X0.here hx rfl (hb hby at_19) rfl (l' := #[.val (.int p0), .val (.int p1), .val (.int p2), .val (.int p3), .val (.long p4), .second, .val (.int (2 : Int32)), .val (.int v293), .unset, .unset, .unset, .unset, .unset, .unset, .unset, .unset, .unset, .unset, .unset, .unset, .unset, .unset, .unset, .unset, .unset, .unset, .unset, .unset, .unset, .unset, .unset]) (by rw [← hL292]; rfl) k) ?_
    generalize hL294 : (#[.val (.int p0), .val (.int p1), .val (.int p2), .val (.int p3), .val (.long p4), .second, .val (.int (2 : Int32)), .val (.int v293), .unset, .unset, .unset, .unset, .unset, .unset, .unset, .unset, .unset, .unset, .unset, .unset, .unset, .unset, .unset, .unset, .unset, .unset, .unset, .unset, .unset, .unset, .unset] : Array Slot) = L294
    refine own_pre (T' := s₁) (g' := (mkF m 23 L294 [(.int v293)])) (fun t k => XS.iload X0.here hx rfl (v := v293) (hb hby at_21) (by rw [← hL294]; rfl) k) ?_
    refine own_pre (T' := s₁) (g' := (mkF m 24 L294 [(.int (1 : Int32)), (.int v293)])) (fun t k => XS.iconst X0.here hx rfl (hb hby at_23) k) ?_
    refine own_pre (T' := s₁) (g' := (mkF m 25 L294 [(.int (v293 + (1 : Int32)))])) (fun t k => XS.iadd X0.here hx rfl (hb hby at_24) rfl k) ?_
    refine own_pre (T' := s₁) (g' := (mkF m 26 L294 [(.int p0), (.int (v293 + (1 : Int32)))])) (fun t k => XS.iloadN X0.here hx rfl (v := p0) (hb hby at_25) (by rw [← hL294]; rfl) k) ?_
    refine own_pre (T' := s₁) (g' := (mkF m 27 L294 [(.int (4 : Int32)), (.int p0), (.int (v293 + (1 : Int32)))])) (fun t k => XS.iconst X0.here hx rfl (hb hby at_26) k) ?_
    refine own_pre (T' := s₁) (g' := (mkF m 28 L294 [(.int (XT.ushr p0 (4 : Int32))), (.int (v293 + (1 : Int32)))])) (fun t k => XT.iushr X0.here hx rfl (hb hby at_27) rfl k) ?_
    refine own_pre (T' := s₁) (g' := (mkF m 29 L294 [(.int (1 : Int32)), (.int (XT.ushr p0 (4 : Int32))), (.int (v293 + (1 : Int32)))])) (fun t k => XS.iconst X0.here hx rfl (hb hby at_28) k) ?_
    refine own_pre (T' := s₁) (g' := (mkF m 30 L294 [(.int ((XT.ushr p0 (4 : Int32)) &&& (1 : Int32))), (.int (v293 + (1 : Int32)))])) (fun t k => XS.iand X0.here hx rfl (hb hby at_29) rfl k) ?_
    refine own_pre (T' := s₁) (g' := (mkF m 31 L294 [(.int ((v293 + (1 : Int32)) + ((XT.ushr p0 (4 : Int32)) &&& (1 : Int32))))])) (fun t k => XS.iadd X0.here hx rfl (hb hby at_30) rfl k) ?_
    generalize hv295 : (v293 + (1 : Int32)) + ((XT.ushr p0 (4 : Int32)) &&& (1 : Int32)) = v295
    refine own_pre (T' := s₁) (g' := (mkF m 33 #[.val (.int p0), .val (.int p1), .val (.int p2), .val (.int p3), .val (.long p4), .second, .val (.int (2 : Int32)), .val (.int v293), .val (.int v295), .unset, .unset, .unset, .unset, .unset, .unset, .unset, .unset, .unset, .unset, .unset, .unset, .unset, .unset, .unset, .unset, .unset, .unset, .unset, .unset, .unset, .unset] [])) (fun t k => XS.istore X0.here hx rfl (hb hby at_31) rfl (l' := #[.val (.int p0), .val (.int p1), .val (.int p2), .val (.int p3), .val (.long p4), .second, .val (.int (2 : Int32)), .val (.int v293), .val (.int v295), .unset, .unset, .unset, .unset, .unset, .unset, .unset, .unset, .unset, .unset, .unset, .unset, .unset, .unset, .unset, .unset, .unset, .unset, .unset, .unset, .unset, .unset]) (by rw [← hL294]; rfl) k) ?_
    generalize hL296 : (#[.val (.int p0), .val (.int p1), .val (.int p2), .val (.int p3), .val (.long p4), .second, .val (.int (2 : Int32)), .val (.int v293), .val (.int v295), .unset, .unset, .unset, .unset, .unset, .unset, .unset, .unset, .unset, .unset, .unset, .unset, .unset, .unset, .unset, .unset, .unset, .unset, .unset, .unset, .unset, .unset] : Array Slot) = L296
    refine own_pre (T' := s₁) (g' := (mkF m 34 L296 [(.int p1)])) (fun t k => XS.iloadN X0.here hx rfl (v := p1) (hb hby at_33) (by rw [← hL296]; rfl) k) ?_
    refine own_pre (T' := s₁) (g' := (mkF m 35 L296 [(.int p1.toInt16.toInt32)])) (fun t k => XT.i2s X0.here hx rfl (hb hby at_34) rfl k) ?_
    refine own_pre (T' := s₁) (g' := (mkF m 36 L296 [(.long p1.toInt16.toInt32.toInt64)])) (fun t k => XT.i2l X0.here hx rfl (hb hby at_35) rfl k) ?_
    generalize hv297 : p1.toInt16.toInt32.toInt64 = v297
    refine own_pre (T' := s₁) (g' := (mkF m 38 #[.val (.int p0), .val (.int p1), .val (.int p2), .val (.int p3), .val (.long p4), .second, .val (.int (2 : Int32)), .val (.int v293), .val (.int v295), .val (.long v297), .second, .unset, .unset, .unset, .unset, .unset, .unset, .unset, .unset, .unset, .unset, .unset, .unset, .unset, .unset, .unset, .unset, .unset, .unset, .unset, .unset] [])) (fun t k => XT.lstore X0.here hx rfl (hb hby at_36) rfl (l' := #[.val (.int p0), .val (.int p1), .val (.int p2), .val (.int p3), .val (.long p4), .second, .val (.int (2 : Int32)), .val (.int v293), .val (.int v295), .val (.long v297), .second, .unset, .unset, .unset, .unset, .unset, .unset, .unset, .unset, .unset, .unset, .unset, .unset, .unset, .unset, .unset, .unset, .unset, .unset, .unset, .unset]) (by rw [← hL296]; rfl) k) ?_
    generalize hL298 : (#[.val (.int p0), .val (.int p1), .val (.int p2), .val (.int p3), .val (.long p4), .second, .val (.int (2 : Int32)), .val (.int v293), .val (.int v295), .val (.long v297), .second, .unset, .unset, .unset, .unset, .unset, .unset, .unset, .unset, .unset, .unset, .unset, .unset, .unset, .unset, .unset, .unset, .unset, .unset, .unset, .unset] : Array Slot) = L298
    refine own_pre (T' := s₁) (g' := (mkF m 39 L298 [(.int p1)])) (fun t k => XS.iloadN X0.here hx rfl (v := p1) (hb hby at_38) (by rw [← hL298]; rfl) k) ?_
    refine own_pre (T' := s₁) (g' := (mkF m 41 L298 [(.int (16 : Int32)), (.int p1)])) (fun t k => XS.bipush X0.here hx rfl (hb hby at_39) k) ?_
    refine own_pre (T' := s₁) (g' := (mkF m 42 L298 [(.int (p1 >>> ((16 : Int32) &&& 31)))])) (fun t k => XT.ishr X0.here hx rfl (hb hby at_41) rfl k) ?_
    refine own_pre (T' := s₁) (g' := (mkF m 43 L298 [(.int ((p1 >>> ((16 : Int32) &&& 31)).toInt16.toInt32))])) (fun t k => XT.i2s X0.here hx rfl (hb hby at_42) rfl k) ?_
    refine own_pre (T' := s₁) (g' := (mkF m 44 L298 [(.long (((p1 >>> ((16 : Int32) &&& 31)).toInt16.toInt32).toInt64))])) (fun t k => XT.i2l X0.here hx rfl (hb hby at_43) rfl k) ?_
    generalize hv299 : ((p1 >>> ((16 : Int32) &&& 31)).toInt16.toInt32).toInt64 = v299
    refine own_pre (T' := s₁) (g' := (mkF m 46 #[.val (.int p0), .val (.int p1), .val (.int p2), .val (.int p3), .val (.long p4), .second, .val (.int (2 : Int32)), .val (.int v293), .val (.int v295), .val (.long v297), .second, .val (.long v299), .second, .unset, .unset, .unset, .unset, .unset, .unset, .unset, .unset, .unset, .unset, .unset, .unset, .unset, .unset, .unset, .unset, .unset, .unset] [])) (fun t k => XT.lstore X0.here hx rfl (hb hby at_44) rfl (l' := #[.val (.int p0), .val (.int p1), .val (.int p2), .val (.int p3), .val (.long p4), .second, .val (.int (2 : Int32)), .val (.int v293), .val (.int v295), .val (.long v297), .second, .val (.long v299), .second, .unset, .unset, .unset, .unset, .unset, .unset, .unset, .unset, .unset, .unset, .unset, .unset, .unset, .unset, .unset, .unset, .unset, .unset]) (by rw [← hL298]; rfl) k) ?_
    generalize hL300 : (#[.val (.int p0), .val (.int p1), .val (.int p2), .val (.int p3), .val (.long p4), .second, .val (.int (2 : Int32)), .val (.int v293), .val (.int v295), .val (.long v297), .second, .val (.long v299), .second, .unset, .unset, .unset, .unset, .unset, .unset, .unset, .unset, .unset, .unset, .unset, .unset, .unset, .unset, .unset, .unset, .unset, .unset] : Array Slot) = L300
    refine own_pre (T' := s₁) (g' := (mkF m 47 L300 [(.int p2)])) (fun t k => XS.iloadN X0.here hx rfl (v := p2) (hb hby at_46) (by rw [← hL300]; rfl) k) ?_
    refine own_pre (T' := s₁) (g' := (mkF m 48 L300 [(.int p2.toInt16.toInt32)])) (fun t k => XT.i2s X0.here hx rfl (hb hby at_47) rfl k) ?_
    refine own_pre (T' := s₁) (g' := (mkF m 49 L300 [(.long p2.toInt16.toInt32.toInt64)])) (fun t k => XT.i2l X0.here hx rfl (hb hby at_48) rfl k) ?_
    generalize hv301 : p2.toInt16.toInt32.toInt64 = v301
    refine own_pre (T' := s₁) (g' := (mkF m 51 #[.val (.int p0), .val (.int p1), .val (.int p2), .val (.int p3), .val (.long p4), .second, .val (.int (2 : Int32)), .val (.int v293), .val (.int v295), .val (.long v297), .second, .val (.long v299), .second, .val (.long v301), .second, .unset, .unset, .unset, .unset, .unset, .unset, .unset, .unset, .unset, .unset, .unset, .unset, .unset, .unset, .unset, .unset] [])) (fun t k => XT.lstore X0.here hx rfl (hb hby at_49) rfl (l' := #[.val (.int p0), .val (.int p1), .val (.int p2), .val (.int p3), .val (.long p4), .second, .val (.int (2 : Int32)), .val (.int v293), .val (.int v295), .val (.long v297), .second, .val (.long v299), .second, .val (.long v301), .second, .unset, .unset, .unset, .unset, .unset, .unset, .unset, .unset, .unset, .unset, .unset, .unset, .unset, .unset, .unset, .unset]) (by rw [← hL300]; rfl) k) ?_
    generalize hL302 : (#[.val (.int p0), .val (.int p1), .val (.int p2), .val (.int p3), .val (.long p4), .second, .val (.int (2 : Int32)), .val (.int v293), .val (.int v295), .val (.long v297), .second, .val (.long v299), .second, .val (.long v301), .second, .unset, .unset, .unset, .unset, .unset, .unset, .unset, .unset, .unset, .unset, .unset, .unset, .unset, .unset, .unset, .unset] : Array Slot) = L302
    refine own_pre (T' := s₁) (g' := (mkF m 53 L302 [(.long p4)])) (fun t k => XT.lload X0.here hx rfl (v := p4) (hb hby at_51) (by rw [← hL302]; rfl) k) ?_
    refine own_pre (T' := s₁) (g' := (mkF m 54 L302 [(.int p4.toInt32)])) (fun t k => XT.l2i X0.here hx rfl (hb hby at_53) rfl k) ?_
    refine own_pre (T' := s₁) (g' := (mkF m 55 L302 [(.int p4.toInt32.toInt16.toInt32)])) (fun t k => XT.i2s X0.here hx rfl (hb hby at_54) rfl k) ?_
    refine own_pre (T' := s₁) (g' := (mkF m 56 L302 [(.long p4.toInt32.toInt16.toInt32.toInt64)])) (fun t k => XT.i2l X0.here hx rfl (hb hby at_55) rfl k) ?_
    generalize hv303 : p4.toInt32.toInt16.toInt32.toInt64 = v303
    refine own_pre (T' := s₁) (g' := (mkF m 58 #[.val (.int p0), .val (.int p1), .val (.int p2), .val (.int p3), .val (.long p4), .second, .val (.int (2 : Int32)), .val (.int v293), .val (.int v295), .val (.long v297), .second, .val (.long v299), .second, .val (.long v301), .second, .val (.long v303), .second, .unset, .unset, .unset, .unset, .unset, .unset, .unset, .unset, .unset, .unset, .unset, .unset, .unset, .unset] [])) (fun t k => XT.lstore X0.here hx rfl (hb hby at_56) rfl (l' := #[.val (.int p0), .val (.int p1), .val (.int p2), .val (.int p3), .val (.long p4), .second, .val (.int (2 : Int32)), .val (.int v293), .val (.int v295), .val (.long v297), .second, .val (.long v299), .second, .val (.long v301), .second, .val (.long v303), .second, .unset, .unset, .unset, .unset, .unset, .unset, .unset, .unset, .unset, .unset, .unset, .unset, .unset, .unset]) (by rw [← hL302]; rfl) k) ?_
    generalize hL304 : (#[.val (.int p0), .val (.int p1), .val (.int p2), .val (.int p3), .val (.long p4), .second, .val (.int (2 : Int32)), .val (.int v293), .val (.int v295), .val (.long v297), .second, .val (.long v299), .second, .val (.long v301), .second, .val (.long v303), .second, .unset, .unset, .unset, .unset, .unset, .unset, .unset, .unset, .unset, .unset, .unset, .unset, .unset, .unset] : Array Slot) = L304
    refine own_pre (T' := s₁) (g' := (mkF m 60 L304 [(.long p4)])) (fun t k => XT.lload X0.here hx rfl (v := p4) (hb hby at_58) (by rw [← hL304]; rfl) k) ?_
    refine own_pre (T' := s₁) (g' := (mkF m 62 L304 [(.int (16 : Int32)), (.long p4)])) (fun t k => XS.bipush X0.here hx rfl (hb hby at_60) k) ?_
    refine own_pre (T' := s₁) (g' := (mkF m 63 L304 [(.long (p4 >>> ((16 : Int32).toInt64 &&& 63)))])) (fun t k => XT.lshr X0.here hx rfl (hb hby at_62) rfl k) ?_
    refine own_pre (T' := s₁) (g' := (mkF m 64 L304 [(.int ((p4 >>> ((16 : Int32).toInt64 &&& 63)).toInt32))])) (fun t k => XT.l2i X0.here hx rfl (hb hby at_63) rfl k) ?_
    refine own_pre (T' := s₁) (g' := (mkF m 65 L304 [(.int (((p4 >>> ((16 : Int32).toInt64 &&& 63)).toInt32).toInt16.toInt32))])) (fun t k => XT.i2s X0.here hx rfl (hb hby at_64) rfl k) ?_
    refine own_pre (T' := s₁) (g' := (mkF m 66 L304 [(.long ((((p4 >>> ((16 : Int32).toInt64 &&& 63)).toInt32).toInt16.toInt32).toInt64))])) (fun t k => XT.i2l X0.here hx rfl (hb hby at_65) rfl k) ?_
    generalize hv305 : (((p4 >>> ((16 : Int32).toInt64 &&& 63)).toInt32).toInt16.toInt32).toInt64 = v305
    refine own_pre (T' := s₁) (g' := (mkF m 68 #[.val (.int p0), .val (.int p1), .val (.int p2), .val (.int p3), .val (.long p4), .second, .val (.int (2 : Int32)), .val (.int v293), .val (.int v295), .val (.long v297), .second, .val (.long v299), .second, .val (.long v301), .second, .val (.long v303), .second, .val (.long v305), .second, .unset, .unset, .unset, .unset, .unset, .unset, .unset, .unset, .unset, .unset, .unset, .unset] [])) (fun t k => XT.lstore X0.here hx rfl (hb hby at_66) rfl (l' := #[.val (.int p0), .val (.int p1), .val (.int p2), .val (.int p3), .val (.long p4), .second, .val (.int (2 : Int32)), .val (.int v293), .val (.int v295), .val (.long v297), .second, .val (.long v299), .second, .val (.long v301), .second, .val (.long v303), .second, .val (.long v305), .second, .unset, .unset, .unset, .unset, .unset, .unset, .unset, .unset, .unset, .unset, .unset, .unset]) (by rw [← hL304]; rfl) k) ?_
    generalize hL306 : (#[.val (.int p0), .val (.int p1), .val (.int p2), .val (.int p3), .val (.long p4), .second, .val (.int (2 : Int32)), .val (.int v293), .val (.int v295), .val (.long v297), .second, .val (.long v299), .second, .val (.long v301), .second, .val (.long v303), .second, .val (.long v305), .second, .unset, .unset, .unset, .unset, .unset, .unset, .unset, .unset, .unset, .unset, .unset, .unset] : Array Slot) = L306
    refine own_pre (T' := s₁) (g' := (mkF m 70 L306 [(.long p4)])) (fun t k => XT.lload X0.here hx rfl (v := p4) (hb hby at_68) (by rw [← hL306]; rfl) k) ?_
    refine own_pre (T' := s₁) (g' := (mkF m 72 L306 [(.int (32 : Int32)), (.long p4)])) (fun t k => XS.bipush X0.here hx rfl (hb hby at_70) k) ?_
    refine own_pre (T' := s₁) (g' := (mkF m 73 L306 [(.long (p4 >>> ((32 : Int32).toInt64 &&& 63)))])) (fun t k => XT.lshr X0.here hx rfl (hb hby at_72) rfl k) ?_
    refine own_pre (T' := s₁) (g' := (mkF m 74 L306 [(.int ((p4 >>> ((32 : Int32).toInt64 &&& 63)).toInt32))])) (fun t k => XT.l2i X0.here hx rfl (hb hby at_73) rfl k) ?_
    refine own_pre (T' := s₁) (g' := (mkF m 75 L306 [(.int (((p4 >>> ((32 : Int32).toInt64 &&& 63)).toInt32).toInt16.toInt32))])) (fun t k => XT.i2s X0.here hx rfl (hb hby at_74) rfl k) ?_
    refine own_pre (T' := s₁) (g' := (mkF m 76 L306 [(.long ((((p4 >>> ((32 : Int32).toInt64 &&& 63)).toInt32).toInt16.toInt32).toInt64))])) (fun t k => XT.i2l X0.here hx rfl (hb hby at_75) rfl k) ?_
    generalize hv307 : (((p4 >>> ((32 : Int32).toInt64 &&& 63)).toInt32).toInt16.toInt32).toInt64 = v307
    refine own_pre (T' := s₁) (g' := (mkF m 78 #[.val (.int p0), .val (.int p1), .val (.int p2), .val (.int p3), .val (.long p4), .second, .val (.int (2 : Int32)), .val (.int v293), .val (.int v295), .val (.long v297), .second, .val (.long v299), .second, .val (.long v301), .second, .val (.long v303), .second, .val (.long v305), .second, .val (.long v307), .second, .unset, .unset, .unset, .unset, .unset, .unset, .unset, .unset, .unset, .unset] [])) (fun t k => XT.lstore X0.here hx rfl (hb hby at_76) rfl (l' := #[.val (.int p0), .val (.int p1), .val (.int p2), .val (.int p3), .val (.long p4), .second, .val (.int (2 : Int32)), .val (.int v293), .val (.int v295), .val (.long v297), .second, .val (.long v299), .second, .val (.long v301), .second, .val (.long v303), .second, .val (.long v305), .second, .val (.long v307), .second, .unset, .unset, .unset, .unset, .unset, .unset, .unset, .unset, .unset, .unset]) (by rw [← hL306]; rfl) k) ?_
    generalize hL308 : (#[.val (.int p0), .val (.int p1), .val (.int p2), .val (.int p3), .val (.long p4), .second, .val (.int (2 : Int32)), .val (.int v293), .val (.int v295), .val (.long v297), .second, .val (.long v299), .second, .val (.long v301), .second, .val (.long v303), .second, .val (.long v305), .second, .val (.long v307), .second, .unset, .unset, .unset, .unset, .unset, .unset, .unset, .unset, .unset, .unset] : Array Slot) = L308
    refine own_pre (T' := s₁) (g' := (mkF m 80 L308 [(.long p4)])) (fun t k => XT.lload X0.here hx rfl (v := p4) (hb hby at_78) (by rw [← hL308]; rfl) k) ?_
    refine own_pre (T' := s₁) (g' := (mkF m 82 L308 [(.int (48 : Int32)), (.long p4)])) (fun t k => XS.bipush X0.here hx rfl (hb hby at_80) k) ?_
    refine own_pre (T' := s₁) (g' := (mkF m 83 L308 [(.long (p4 >>> ((48 : Int32).toInt64 &&& 63)))])) (fun t k => XT.lshr X0.here hx rfl (hb hby at_82) rfl k) ?_
    refine own_pre (T' := s₁) (g' := (mkF m 84 L308 [(.int ((p4 >>> ((48 : Int32).toInt64 &&& 63)).toInt32))])) (fun t k => XT.l2i X0.here hx rfl (hb hby at_83) rfl k) ?_
    refine own_pre (T' := s₁) (g' := (mkF m 85 L308 [(.int (((p4 >>> ((48 : Int32).toInt64 &&& 63)).toInt32).toInt16.toInt32))])) (fun t k => XT.i2s X0.here hx rfl (hb hby at_84) rfl k) ?_
    refine own_pre (T' := s₁) (g' := (mkF m 86 L308 [(.long ((((p4 >>> ((48 : Int32).toInt64 &&& 63)).toInt32).toInt16.toInt32).toInt64))])) (fun t k => XT.i2l X0.here hx rfl (hb hby at_85) rfl k) ?_
    generalize hv309 : (((p4 >>> ((48 : Int32).toInt64 &&& 63)).toInt32).toInt16.toInt32).toInt64 = v309
    refine own_pre (T' := s₁) (g' := (mkF m 88 #[.val (.int p0), .val (.int p1), .val (.int p2), .val (.int p3), .val (.long p4), .second, .val (.int (2 : Int32)), .val (.int v293), .val (.int v295), .val (.long v297), .second, .val (.long v299), .second, .val (.long v301), .second, .val (.long v303), .second, .val (.long v305), .second, .val (.long v307), .second, .val (.long v309), .second, .unset, .unset, .unset, .unset, .unset, .unset, .unset, .unset] [])) (fun t k => XT.lstore X0.here hx rfl (hb hby at_86) rfl (l' := #[.val (.int p0), .val (.int p1), .val (.int p2), .val (.int p3), .val (.long p4), .second, .val (.int (2 : Int32)), .val (.int v293), .val (.int v295), .val (.long v297), .second, .val (.long v299), .second, .val (.long v301), .second, .val (.long v303), .second, .val (.long v305), .second, .val (.long v307), .second, .val (.long v309), .second, .unset, .unset, .unset, .unset, .unset, .unset, .unset, .unset]) (by rw [← hL308]; rfl) k) ?_
    generalize hL310 : (#[.val (.int p0), .val (.int p1), .val (.int p2), .val (.int p3), .val (.long p4), .second, .val (.int (2 : Int32)), .val (.int v293), .val (.int v295), .val (.long v297), .second, .val (.long v299), .second, .val (.long v301), .second, .val (.long v303), .second, .val (.long v305), .second, .val (.long v307), .second, .val (.long v309), .second, .unset, .unset, .unset, .unset, .unset, .unset, .unset, .unset] : Array Slot) = L310
    refine own_pre (T' := s₁) (g' := (mkF m 89 L310 [(.int p3)])) (fun t k => XS.iloadN X0.here hx rfl (v := p3) (hb hby at_88) (by rw [← hL310]; rfl) k) ?_
    refine own_pre (T' := s₁) (g' := (mkF m 90 L310 [(.int p3.toInt16.toInt32)])) (fun t k => XT.i2s X0.here hx rfl (hb hby at_89) rfl k) ?_
    refine own_pre (T' := s₁) (g' := (mkF m 91 L310 [(.long p3.toInt16.toInt32.toInt64)])) (fun t k => XT.i2l X0.here hx rfl (hb hby at_90) rfl k) ?_
    generalize hv311 : p3.toInt16.toInt32.toInt64 = v311
    refine own_pre (T' := s₁) (g' := (mkF m 93 #[.val (.int p0), .val (.int p1), .val (.int p2), .val (.int p3), .val (.long p4), .second, .val (.int (2 : Int32)), .val (.int v293), .val (.int v295), .val (.long v297), .second, .val (.long v299), .second, .val (.long v301), .second, .val (.long v303), .second, .val (.long v305), .second, .val (.long v307), .second, .val (.long v309), .second, .val (.long v311), .second, .unset, .unset, .unset, .unset, .unset, .unset] [])) (fun t k => XT.lstore X0.here hx rfl (hb hby at_91) rfl (l' := #[.val (.int p0), .val (.int p1), .val (.int p2), .val (.int p3), .val (.long p4), .second, .val (.int (2 : Int32)), .val (.int v293), .val (.int v295), .val (.long v297), .second, .val (.long v299), .second, .val (.long v301), .second, .val (.long v303), .second, .val (.long v305), .second, .val (.long v307), .second, .val (.long v309), .second, .val (.long v311), .second, .unset, .unset, .unset, .unset, .unset, .unset]) (by rw [← hL310]; rfl) k) ?_
    generalize hL312 : (#[.val (.int p0), .val (.int p1), .val (.int p2), .val (.int p3), .val (.long p4), .second, .val (.int (2 : Int32)), .val (.int v293), .val (.int v295), .val (.long v297), .second, .val (.long v299), .second, .val (.long v301), .second, .val (.long v303), .second, .val (.long v305), .second, .val (.long v307), .second, .val (.long v309), .second, .val (.long v311), .second, .unset, .unset, .unset, .unset, .unset, .unset] : Array Slot) = L312
    refine own_pre (T' := s₁) (g' := (mkF m 94 L312 [(.int p3)])) (fun t k => XS.iloadN X0.here hx rfl (v := p3) (hb hby at_93) (by rw [← hL312]; rfl) k) ?_
    refine own_pre (T' := s₁) (g' := (mkF m 96 L312 [(.int (16 : Int32)), (.int p3)])) (fun t k => XS.bipush X0.here hx rfl (hb hby at_94) k) ?_
    refine own_pre (T' := s₁) (g' := (mkF m 97 L312 [(.int (p3 >>> ((16 : Int32) &&& 31)))])) (fun t k => XT.ishr X0.here hx rfl (hb hby at_96) rfl k) ?_
    refine own_pre (T' := s₁) (g' := (mkF m 98 L312 [(.int ((p3 >>> ((16 : Int32) &&& 31)).toInt16.toInt32))])) (fun t k => XT.i2s X0.here hx rfl (hb hby at_97) rfl k) ?_
    refine own_pre (T' := s₁) (g' := (mkF m 99 L312 [(.long (((p3 >>> ((16 : Int32) &&& 31)).toInt16.toInt32).toInt64))])) (fun t k => XT.i2l X0.here hx rfl (hb hby at_98) rfl k) ?_
    generalize hv313 : ((p3 >>> ((16 : Int32) &&& 31)).toInt16.toInt32).toInt64 = v313
    refine own_pre (T' := s₁) (g' := (mkF m 101 #[.val (.int p0), .val (.int p1), .val (.int p2), .val (.int p3), .val (.long p4), .second, .val (.int (2 : Int32)), .val (.int v293), .val (.int v295), .val (.long v297), .second, .val (.long v299), .second, .val (.long v301), .second, .val (.long v303), .second, .val (.long v305), .second, .val (.long v307), .second, .val (.long v309), .second, .val (.long v311), .second, .val (.long v313), .second, .unset, .unset, .unset, .unset] [])) (fun t k => XT.lstore X0.here hx rfl (hb hby at_99) rfl (l' := #[.val (.int p0), .val (.int p1), .val (.int p2), .val (.int p3), .val (.long p4), .second, .val (.int (2 : Int32)), .val (.int v293), .val (.int v295), .val (.long v297), .second, .val (.long v299), .second, .val (.long v301), .second, .val (.long v303), .second, .val (.long v305), .second, .val (.long v307), .second, .val (.long v309), .second, .val (.long v311), .second, .val (.long v313), .second, .unset, .unset, .unset, .unset]) (by rw [← hL312]; rfl) k) ?_
    generalize hL314 : (#[.val (.int p0), .val (.int p1), .val (.int p2), .val (.int p3), .val (.long p4), .second, .val (.int (2 : Int32)), .val (.int v293), .val (.int v295), .val (.long v297), .second, .val (.long v299), .second, .val (.long v301), .second, .val (.long v303), .second, .val (.long v305), .second, .val (.long v307), .second, .val (.long v309), .second, .val (.long v311), .second, .val (.long v313), .second, .unset, .unset, .unset, .unset] : Array Slot) = L314
    obtain ⟨hq0, hq1, hqq⟩ := own_pos p0 v293 v295 hv293 hv295
    have Bv297 := own_sb _ v297 hv297
    have Bv299 := own_sb _ v299 hv299
    have Bv301 := own_sb _ v301 hv301
    have Bv303 := own_sb _ v303 hv303
    have Bv305 := own_sb _ v305 hv305
    have Bv307 := own_sb _ v307 hv307
    have Bv309 := own_sb _ v309 hv309
    have Bv311 := own_sb _ v311 hv311
    have Bv313 := own_sb _ v313 hv313
    have P0 := own_prod Bv301 Bv297
    have P1 := own_prod Bv301 Bv299
    refine own_pre (T' := s₁) (g' := (mkF m 103 L314 [(.int (2 : Int32))])) (fun t k => XS.iload X0.here hx rfl (v := (2 : Int32)) (hb hby at_101) (by rw [← hL314]; rfl) k) ?_
    refine own_pre (T' := s₁) (g' := (mkF m 119 L314 [])) (fun t k => XS.ifYes X0.here hx rfl (pc0 := 103) (pc' := 119) rfl (hb hby at_103) rfl (by decide) (by decide) (by decide) k) ?_
    refine own_pre (T' := s₁) (g' := (mkF m 121 L314 [(.int (2 : Int32))])) (fun t k => XS.iload X0.here hx rfl (v := (2 : Int32)) (hb hby at_119) (by rw [← hL314]; rfl) k) ?_
    refine own_pre (T' := s₁) (g' := (mkF m 122 L314 [(.int (1 : Int32)), (.int (2 : Int32))])) (fun t k => XS.iconst X0.here hx rfl (hb hby at_121) k) ?_
    refine own_pre (T' := s₁) (g' := (mkF m 149 L314 [])) (fun t k => XS.icmpYes X0.here hx rfl (pc0 := 122) (pc' := 149) rfl (hb hby at_122) rfl (by decide) (by decide) (by decide) k) ?_
    refine own_pre (T' := s₁) (g' := (mkF m 150 L314 [(.int (2 : Int32))])) (fun t k => XS.iconst X0.here hx rfl (hb hby at_149) k) ?_
    refine own_newarr X0 hx hZ (aty := .int) (hw _ (List.mem_of_getElem? (i := 0) rfl)) e0 (hb hby at_150) (n := 2) (by decide) (by decide) (by decide) (by decide) (by decide) (ad := "[I") rfl ?_
    intro T315 h315 a315 g315 X315 e315 E315 A315 B315
    have nw316 : n0 ≤ a315 := Nat.le_trans Z0 (Nat.le_of_eq g315.symm)
    have F317 : own_Ary Z h315 a315 .int [(.int (0 : Int32)), (.int (0 : Int32))] := A315
    show own_Go _ _ _ _ _ _ _ T315 (mkF m 152 L314 [(.ref a315)])
    refine own_pre (T' := T315) (g' := (mkF m 153 L314 [(.ref a315), (.ref a315)])) (fun t k => XS.dup X315.here hx rfl (hb hby at_152) rfl rfl k) ?_
    refine own_pre (T' := T315) (g' := (mkF m 154 L314 [(.int (0 : Int32)), (.ref a315), (.ref a315)])) (fun t k => XS.iconst X315.here hx rfl (hb hby at_153) k) ?_
    refine own_pre (T' := T315) (g' := (mkF m 156 L314 [(.int v293), (.int (0 : Int32)), (.ref a315), (.ref a315)])) (fun t k => XS.iload X315.here hx rfl (v := v293) (hb hby at_154) (by rw [← hL314]; rfl) k) ?_
    refine own_iastore X315 hx hZ e315 N0 nw316 F317 (hb hby at_156) (n := 0) (by decide) (by decide) (by show 0 < 2; decide) ?_
    intro T318 h318 lo318 X318 e318 N318 W318
    have F319 : own_Ary Z h318 a315 .int [(.int v293), (.int (0 : Int32))] := F317.set W318
    show own_Go _ _ _ _ _ _ _ T318 (mkF m 157 L314 [(.ref a315)])
    refine own_pre (T' := T318) (g' := (mkF m 158 L314 [(.ref a315), (.ref a315)])) (fun t k => XS.dup X318.here hx rfl (hb hby at_157) rfl rfl k) ?_
    refine own_pre (T' := T318) (g' := (mkF m 159 L314 [(.int (1 : Int32)), (.ref a315), (.ref a315)])) (fun t k => XS.iconst X318.here hx rfl (hb hby at_158) k) ?_
    refine own_pre (T' := T318) (g' := (mkF m 161 L314 [(.int v295), (.int (1 : Int32)), (.ref a315), (.ref a315)])) (fun t k => XS.iload X318.here hx rfl (v := v295) (hb hby at_159) (by rw [← hL314]; rfl) k) ?_
    refine own_iastore X318 hx hZ e318 N318 nw316 F319 (hb hby at_161) (n := 1) (by decide) (by decide) (by show 1 < 2; decide) ?_
    intro T320 h320 lo320 X320 e320 N320 W320
    have F321 : own_Ary Z h320 a315 .int [(.int v293), (.int v295)] := F319.set W320
    show own_Go _ _ _ _ _ _ _ T320 (mkF m 162 L314 [(.ref a315)])
    refine own_pre (T' := T320) (g' := (mkF m 164 #[.val (.int p0), .val (.int p1), .val (.int p2), .val (.int p3), .val (.long p4), .second, .val (.int (2 : Int32)), .val (.int v293), .val (.int v295), .val (.long v297), .second, .val (.long v299), .second, .val (.long v301), .second, .val (.long v303), .second, .val (.long v305), .second, .val (.long v307), .second, .val (.long v309), .second, .val (.long v311), .second, .val (.long v313), .second, .val (.ref a315), .unset, .unset, .unset] [])) (fun t k => XS.astore X320.here hx rfl (hb hby at_162) rfl rfl (l' := #[.val (.int p0), .val (.int p1), .val (.int p2), .val (.int p3), .val (.long p4), .second, .val (.int (2 : Int32)), .val (.int v293), .val (.int v295), .val (.long v297), .second, .val (.long v299), .second, .val (.long v301), .second, .val (.long v303), .second, .val (.long v305), .second, .val (.long v307), .second, .val (.long v309), .second, .val (.long v311), .second, .val (.long v313), .second, .val (.ref a315), .unset, .unset, .unset]) (by rw [← hL314]; rfl) k) ?_
    generalize hL322 : (#[.val (.int p0), .val (.int p1), .val (.int p2), .val (.int p3), .val (.long p4), .second, .val (.int (2 : Int32)), .val (.int v293), .val (.int v295), .val (.long v297), .second, .val (.long v299), .second, .val (.long v301), .second, .val (.long v303), .second, .val (.long v305), .second, .val (.long v307), .second, .val (.long v309), .second, .val (.long v311), .second, .val (.long v313), .second, .val (.ref a315), .unset, .unset, .unset] : Array Slot) = L322
    refine own_pre (T' := T320) (g' := (mkF m 165 L322 [(.int (2 : Int32))])) (fun t k => XS.iconst X320.here hx rfl (hb hby at_164) k) ?_
    have F323 : n0 ≤ h320.size := (Nat.le_trans (Nat.le_trans (Nat.le_trans Z0 E315.1) (Nat.le_of_eq W318.size.symm)) (Nat.le_of_eq W320.size.symm))
    refine own_newarr X320 hx hZ (aty := .double) (hw _ (List.mem_of_getElem? (i := 1) rfl)) e320 (hb hby at_165) (n := 2) (by decide) (by decide) (by decide) (by decide) (by decide) (ad := "[D") rfl ?_
    intro T324 h324 a324 g324 X324 e324 E324 A324 B324
    have lt325 : a315 < a324 := Nat.lt_of_lt_of_le F321.lt (Nat.le_of_eq g324.symm)
    have nw326 : n0 ≤ a324 := Nat.le_trans F323 (Nat.le_of_eq g324.symm)
    have F327 : own_Ary Z h324 a324 .double [(.double (0 : UInt64)), (.double (0 : UInt64))] := A324
    show own_Go _ _ _ _ _ _ _ T324 (mkF m 167 L322 [(.ref a324)])
    refine own_pre (T' := T324) (g' := (mkF m 168 L322 [(.ref a324), (.ref a324)])) (fun t k => XS.dup X324.here hx rfl (hb hby at_167) rfl rfl k) ?_
    refine own_pre (T' := T324) (g' := (mkF m 169 L322 [(.int (0 : Int32)), (.ref a324), (.ref a324)])) (fun t k => XS.iconst X324.here hx rfl (hb hby at_168) k) ?_
    refine own_pre (T' := T324) (g' := (mkF m 171 L322 [(.long v297), (.int (0 : Int32)), (.ref a324), (.ref a324)])) (fun t k => XT.lload X324.here hx rfl (v := v297) (hb hby at_169) (by rw [← hL322]; rfl) k) ?_
    obtain ⟨f328, hf328⟩ : ∃ z, FP.l2d v297 = z := ⟨_, rfl⟩
    refine own_pre (T' := T324) (g' := (mkF m 172 L322 [(.double f328), (.int (0 : Int32)), (.ref a324), (.ref a324)])) (fun t k => XS.l2dS X324.here hx rfl (hb hby at_171) rfl hf328 k) ?_
    have Df328 : Jvm.FP.Core.DInt v297.toInt f328 := hf328 ▸ Jvm.FP.Core.l2d_int (own_abs Bv297)
    refine own_dastore X324 hx hZ e324 N320 nw326 F327 (hb hby at_172) (n := 0) (by decide) (by decide) (by show 0 < 2; decide) ?_
    intro T329 h329 lo329 X329 e329 N329 W329
    have F330 : own_Ary Z h329 a324 .double [(.double f328), (.double (0 : UInt64))] := F327.set W329
    show own_Go _ _ _ _ _ _ _ T329 (mkF m 173 L322 [(.ref a324)])
    refine own_pre (T' := T329) (g' := (mkF m 174 L322 [(.ref a324), (.ref a324)])) (fun t k => XS.dup X329.here hx rfl (hb hby at_173) rfl rfl k) ?_
    refine own_pre (T' := T329) (g' := (mkF m 175 L322 [(.int (1 : Int32)), (.ref a324), (.ref a324)])) (fun t k => XS.iconst X329.here hx rfl (hb hby at_174) k) ?_
    refine own_pre (T' := T329) (g' := (mkF m 177 L322 [(.long v299), (.int (1 : Int32)), (.ref a324), (.ref a324)])) (fun t k => XT.lload X329.here hx rfl (v := v299) (hb hby at_175) (by rw [← hL322]; rfl) k) ?_
    obtain ⟨f331, hf331⟩ : ∃ z, FP.l2d v299 = z := ⟨_, rfl⟩
    refine own_pre (T' := T329) (g' := (mkF m 178 L322 [(.double f331), (.int (1 : Int32)), (.ref a324), (.ref a324)])) (fun t k => XS.l2dS X329.here hx rfl (hb hby at_177) rfl hf331 k) ?_
    have Df331 : Jvm.FP.Core.DInt v299.toInt f331 := hf331 ▸ Jvm.FP.Core.l2d_int (own_abs Bv299)
    refine own_dastore X329 hx hZ e329 N329 nw326 F330 (hb hby at_178) (n := 1) (by decide) (by decide) (by show 1 < 2; decide) ?_
    intro T332 h332 lo332 X332 e332 N332 W332
    have F333 : own_Ary Z h332 a324 .double [(.double f328), (.double f331)] := F330.set W332
    show own_Go _ _ _ _ _ _ _ T332 (mkF m 179 L322 [(.ref a324)])
    refine own_pre (T' := T332) (g' := (mkF m 181 #[.val (.int p0), .val (.int p1), .val (.int p2), .val (.int p3), .val (.long p4), .second, .val (.int (2 : Int32)), .val (.int v293), .val (.int v295), .val (.long v297), .second, .val (.long v299), .second, .val (.long v301), .second, .val (.long v303), .second, .val (.long v305), .second, .val (.long v307), .second, .val (.long v309), .second, .val (.long v311), .second, .val (.long v313), .second, .val (.ref a315), .val (.ref a324), .unset, .unset] [])) (fun t k => XS.astore X332.here hx rfl (hb hby at_179) rfl rfl (l' := #[.val (.int p0), .val (.int p1), .val (.int p2), .val (.int p3), .val (.long p4), .second, .val (.int (2 : Int32)), .val (.int v293), .val (.int v295), .val (.long v297), .second, .val (.long v299), .second, .val (.long v301), .second, .val (.long v303), .second, .val (.long v305), .second, .val (.long v307), .second, .val (.long v309), .second, .val (.long v311), .second, .val (.long v313), .second, .val (.ref a315), .val (.ref a324), .unset, .unset]) (by rw [← hL322]; rfl) k) ?_
    generalize hL334 : (#[.val (.int p0), .val (.int p1), .val (.int p2), .val (.int p3), .val (.long p4), .second, .val (.int (2 : Int32)), .val (.int v293), .val (.int v295), .val (.long v297), .second, .val (.long v299), .second, .val (.long v301), .second, .val (.long v303), .second, .val (.long v305), .second, .val (.long v307), .second, .val (.long v309), .second, .val (.long v311), .second, .val (.long v313), .second, .val (.ref a315), .val (.ref a324), .unset, .unset] : Array Slot) = L334
    refine own_pre (T' := T332) (g' := (mkF m 183 L334 [(.int (6 : Int32))])) (fun t k => XS.bipush X332.here hx rfl (hb hby at_181) k) ?_
    have F335 : own_Ary Z h332 a315 .int [(.int v293), (.int v295)] := (((F321.ext E324).other W329 (Nat.ne_of_lt lt325)).other W332 (Nat.ne_of_lt lt325))
    have F336 : n0 ≤ h332.size := (Nat.le_trans (Nat.le_trans (Nat.le_trans F323 E324.1) (Nat.le_of_eq W329.size.symm)) (Nat.le_of_eq W332.size.symm))
    refine own_newarr X332 hx hZ (aty := .double) (hw _ (List.mem_of_getElem? (i := 1) rfl)) e332 (hb hby at_183) (n := 6) (by decide) (by decide) (by decide) (by decide) (by decide) (ad := "[D") rfl ?_
    intro T337 h337 a337 g337 X337 e337 E337 A337 B337
    have lt338 : a315 < a337 := Nat.lt_of_lt_of_le F335.lt (Nat.le_of_eq g337.symm)
    have lt339 : a324 < a337 := Nat.lt_of_lt_of_le F333.lt (Nat.le_of_eq g337.symm)
    have nw340 : n0 ≤ a337 := Nat.le_trans F336 (Nat.le_of_eq g337.symm)
    have F341 : own_Ary Z h337 a337 .double [(.double (0 : UInt64)), (.double (0 : UInt64)), (.double (0 : UInt64)), (.double (0 : UInt64)), (.double (0 : UInt64)), (.double (0 : UInt64))] := A337
    show own_Go _ _ _ _ _ _ _ T337 (mkF m 185 L334 [(.ref a337)])
    refine own_pre (T' := T337) (g' := (mkF m 186 L334 [(.ref a337), (.ref a337)])) (fun t k => XS.dup X337.here hx rfl (hb hby at_185) rfl rfl k) ?_
    refine own_pre (T' := T337) (g' := (mkF m 187 L334 [(.int (0 : Int32)), (.ref a337), (.ref a337)])) (fun t k => XS.iconst X337.here hx rfl (hb hby at_186) k) ?_
    refine own_pre (T' := T337) (g' := (mkF m 189 L334 [(.long v303), (.int (0 : Int32)), (.ref a337), (.ref a337)])) (fun t k => XT.lload X337.here hx rfl (v := v303) (hb hby at_187) (by rw [← hL334]; rfl) k) ?_
    obtain ⟨f342, hf342⟩ : ∃ z, FP.l2d v303 = z := ⟨_, rfl⟩
    refine own_pre (T' := T337) (g' := (mkF m 190 L334 [(.double f342), (.int (0 : Int32)), (.ref a337), (.ref a337)])) (fun t k => XS.l2dS X337.here hx rfl (hb hby at_189) rfl hf342 k) ?_
    have Df342 : Jvm.FP.Core.DInt v303.toInt f342 := hf342 ▸ Jvm.FP.Core.l2d_int (own_abs Bv303)
    refine own_dastore X337 hx hZ e337 N332 nw340 F341 (hb hby at_190) (n := 0) (by decide) (by decide) (by show 0 < 6; decide) ?_
    intro T343 h343 lo343 X343 e343 N343 W343
    have F344 : own_Ary Z h343 a337 .double [(.double f342), (.double (0 : UInt64)), (.double (0 : UInt64)), (.double (0 : UInt64)), (.double (0 : UInt64)), (.double (0 : UInt64))] := F341.set W343
    show own_Go _ _ _ _ _ _ _ T343 (mkF m 191 L334 [(.ref a337)])
    refine own_pre (T' := T343) (g' := (mkF m 192 L334 [(.ref a337), (.ref a337)])) (fun t k => XS.dup X343.here hx rfl (hb hby at_191) rfl rfl k) ?_
    refine own_pre (T' := T343) (g' := (mkF m 193 L334 [(.int (1 : Int32)), (.ref a337), (.ref a337)])) (fun t k => XS.iconst X343.here hx rfl (hb hby at_192) k) ?_
    refine own_pre (T' := T343) (g' := (mkF m 195 L334 [(.long v305), (.int (1 : Int32)), (.ref a337), (.ref a337)])) (fun t k => XT.lload X343.here hx rfl (v := v305) (hb hby at_193) (by rw [← hL334]; rfl) k) ?_
    obtain ⟨f345, hf345⟩ : ∃ z, FP.l2d v305 = z := ⟨_, rfl⟩
    refine own_pre (T' := T343) (g' := (mkF m 196 L334 [(.double f345), (.int (1 : Int32)), (.ref a337), (.ref a337)])) (fun t k => XS.l2dS X343.here hx rfl (hb hby at_195) rfl hf345 k) ?_
    have Df345 : Jvm.FP.Core.DInt v305.toInt f345 := hf345 ▸ Jvm.FP.Core.l2d_int (own_abs Bv305)
    refine own_dastore X343 hx hZ e343 N343 nw340 F344 (hb hby at_196) (n := 1) (by decide) (by decide) (by show 1 < 6; decide) ?_
    intro T346 h346 lo346 X346 e346 N346 W346
    have F347 : own_Ary Z h346 a337 .double [(.double f342), (.double f345), (.double (0 : UInt64)), (.double (0 : UInt64)), (.double (0 : UInt64)), (.double (0 : UInt64))] := F344.set W346
    show own_Go _ _ _ _ _ _ _ T346 (mkF m 197 L334 [(.ref a337)])
    refine own_pre (T' := T346) (g' := (mkF m 198 L334 [(.ref a337), (.ref a337)])) (fun t k => XS.dup X346.here hx rfl (hb hby at_197) rfl rfl k) ?_
    refine own_pre (T' := T346) (g' := (mkF m 199 L334 [(.int (2 : Int32)), (.ref a337), (.ref a337)])) (fun t k => XS.iconst X346.here hx rfl (hb hby at_198) k) ?_
    refine own_pre (T' := T346) (g' := (mkF m 201 L334 [(.long v307), (.int (2 : Int32)), (.ref a337), (.ref a337)])) (fun t k => XT.lload X346.here hx rfl (v := v307) (hb hby at_199) (by rw [← hL334]; rfl) k) ?_
    obtain ⟨f348, hf348⟩ : ∃ z, FP.l2d v307 = z := ⟨_, rfl⟩
    refine own_pre (T' := T346) (g' := (mkF m 202 L334 [(.double f348), (.int (2 : Int32)), (.ref a337), (.ref a337)])) (fun t k => XS.l2dS X346.here hx rfl (hb hby at_201) rfl hf348 k) ?_
    have Df348 : Jvm.FP.Core.DInt v307.toInt f348 := hf348 ▸ Jvm.FP.Core.l2d_int (own_abs Bv307)
    refine own_dastore X346 hx hZ e346 N346 nw340 F347 (hb hby at_202) (n := 2) (by decide) (by decide) (by show 2 < 6; decide) ?_
    intro T349 h349 lo349 X349 e349 N349 W349
    have F350 : own_Ary Z h349 a337 .double [(.double f342), (.double f345), (.double f348), (.double (0 : UInt64)), (.double (0 : UInt64)), (.double (0 : UInt64))] := F347.set W349
    show own_Go _ _ _ _ _ _ _ T349 (mkF m 203 L334 [(.ref a337)])
    refine own_pre (T' := T349) (g' := (mkF m 204 L334 [(.ref a337), (.ref a337)])) (fun t k => XS.dup X349.here hx rfl (hb hby at_203) rfl rfl k) ?_
    refine own_pre (T' := T349) (g' := (mkF m 205 L334 [(.int (3 : Int32)), (.ref a337), (.ref a337)])) (fun t k => XS.iconst X349.here hx rfl (hb hby at_204) k) ?_
    refine own_pre (T' := T349) (g' := (mkF m 207 L334 [(.long v309), (.int (3 : Int32)), (.ref a337), (.ref a337)])) (fun t k => XT.lload X349.here hx rfl (v := v309) (hb hby at_205) (by rw [← hL334]; rfl) k) ?_
    obtain ⟨f351, hf351⟩ : ∃ z, FP.l2d v309 = z := ⟨_, rfl⟩
    refine own_pre (T' := T349) (g' := (mkF m 208 L334 [(.double f351), (.int (3 : Int32)), (.ref a337), (.ref a337)])) (fun t k => XS.l2dS X349.here hx rfl (hb hby at_207) rfl hf351 k) ?_
    have Df351 : Jvm.FP.Core.DInt v309.toInt f351 := hf351 ▸ Jvm.FP.Core.l2d_int (own_abs Bv309)
    refine own_dastore X349 hx hZ e349 N349 nw340 F350 (hb hby at_208) (n := 3) (by decide) (by decide) (by show 3 < 6; decide) ?_
    intro T352 h352 lo352 X352 e352 N352 W352
    have F353 : own_Ary Z h352 a337 .double [(.double f342), (.double f345), (.double f348), (.double f351), (.double (0 : UInt64)), (.double (0 : UInt64))] := F350.set W352
    show own_Go _ _ _ _ _ _ _ T352 (mkF m 209 L334 [(.ref a337)])
    refine own_pre (T' := T352) (g' := (mkF m 210 L334 [(.ref a337), (.ref a337)])) (fun t k => XS.dup X352.here hx rfl (hb hby at_209) rfl rfl k) ?_
    refine own_pre (T' := T352) (g' := (mkF m 211 L334 [(.int (4 : Int32)), (.ref a337), (.ref a337)])) (fun t k => XS.iconst X352.here hx rfl (hb hby at_210) k) ?_
    refine own_pre (T' := T352) (g' := (mkF m 213 L334 [(.long v311), (.int (4 : Int32)), (.ref a337), (.ref a337)])) (fun t k => XT.lload X352.here hx rfl (v := v311) (hb hby at_211) (by rw [← hL334]; rfl) k) ?_
    obtain ⟨f354, hf354⟩ : ∃ z, FP.l2d v311 = z := ⟨_, rfl⟩
    refine own_pre (T' := T352) (g' := (mkF m 214 L334 [(.double f354), (.int (4 : Int32)), (.ref a337), (.ref a337)])) (fun t k => XS.l2dS X352.here hx rfl (hb hby at_213) rfl hf354 k) ?_
    have Df354 : Jvm.FP.Core.DInt v311.toInt f354 := hf354 ▸ Jvm.FP.Core.l2d_int (own_abs Bv311)
    refine own_dastore X352 hx hZ e352 N352 nw340 F353 (hb hby at_214) (n := 4) (by decide) (by decide) (by show 4 < 6; decide) ?_
    intro T355 h355 lo355 X355 e355 N355 W355
    have F356 : own_Ary Z h355 a337 .double [(.double f342), (.double f345), (.double f348), (.double f351), (.double f354), (.double (0 : UInt64))] := F353.set W355
    show own_Go _ _ _ _ _ _ _ T355 (mkF m 215 L334 [(.ref a337)])
    refine own_pre (T' := T355) (g' := (mkF m 216 L334 [(.ref a337), (.ref a337)])) (fun t k => XS.dup X355.here hx rfl (hb hby at_215) rfl rfl k) ?_
    refine own_pre (T' := T355) (g' := (mkF m 217 L334 [(.int (5 : Int32)), (.ref a337), (.ref a337)])) (fun t k => XS.iconst X355.here hx rfl (hb hby at_216) k) ?_
    refine own_pre (T' := T355) (g' := (mkF m 219 L334 [(.long v313), (.int (5 : Int32)), (.ref a337), (.ref a337)])) (fun t k => XT.lload X355.here hx rfl (v := v313) (hb hby at_217) (by rw [← hL334]; rfl) k) ?_
    obtain ⟨f357, hf357⟩ : ∃ z, FP.l2d v313 = z := ⟨_, rfl⟩
    refine own_pre (T' := T355) (g' := (mkF m 220 L334 [(.double f357), (.int (5 : Int32)), (.ref a337), (.ref a337)])) (fun t k => XS.l2dS X355.here hx rfl (hb hby at_219) rfl hf357 k) ?_
    have Df357 : Jvm.FP.Core.DInt v313.toInt f357 := hf357 ▸ Jvm.FP.Core.l2d_int (own_abs Bv313)
    refine own_dastore X355 hx hZ e355 N355 nw340 F356 (hb hby at_220) (n := 5) (by decide) (by decide) (by show 5 < 6; decide) ?_
    intro T358 h358 lo358 X358 e358 N358 W358
    have F359 : own_Ary Z h358 a337 .double [(.double f342), (.double f345), (.double f348), (.double f351), (.double f354), (.double f357)] := F356.set W358
    show own_Go _ _ _ _ _ _ _ T358 (mkF m 221 L334 [(.ref a337)])
    refine own_pre (T' := T358) (g' := (mkF m 223 #[.val (.int p0), .val (.int p1), .val (.int p2), .val (.int p3), .val (.long p4), .second, .val (.int (2 : Int32)), .val (.int v293), .val (.int v295), .val (.long v297), .second, .val (.long v299), .second, .val (.long v301), .second, .val (.long v303), .second, .val (.long v305), .second, .val (.long v307), .second, .val (.long v309), .second, .val (.long v311), .second, .val (.long v313), .second, .val (.ref a315), .val (.ref a324), .val (.ref a337), .unset] [])) (fun t k => XS.astore X358.here hx rfl (hb hby at_221) rfl rfl (l' := #[.val (.int p0), .val (.int p1), .val (.int p2), .val (.int p3), .val (.long p4), .second, .val (.int (2 : Int32)), .val (.int v293), .val (.int v295), .val (.long v297), .second, .val (.long v299), .second, .val (.long v301), .second, .val (.long v303), .second, .val (.long v305), .second, .val (.long v307), .second, .val (.long v309), .second, .val (.long v311), .second, .val (.long v313), .second, .val (.ref a315), .val (.ref a324), .val (.ref a337), .unset]) (by rw [← hL334]; rfl) k) ?_
    generalize hL360 : (#[.val (.int p0), .val (.int p1), .val (.int p2), .val (.int p3), .val (.long p4), .second, .val (.int (2 : Int32)), .val (.int v293), .val (.int v295), .val (.long v297), .second, .val (.long v299), .second, .val (.long v301), .second, .val (.long v303), .second, .val (.long v305), .second, .val (.long v307), .second, .val (.long v309), .second, .val (.long v311), .second, .val (.long v313), .second, .val (.ref a315), .val (.ref a324), .val (.ref a337), .unset] : Array Slot) = L360
    have F361 : own_Ary Z h358 a315 .int [(.int v293), (.int v295)] := (((((((F335.ext E337).other W343 (Nat.ne_of_lt lt338)).other W346 (Nat.ne_of_lt lt338)).other W349 (Nat.ne_of_lt lt338)).other W352 (Nat.ne_of_lt lt338)).other W355 (Nat.ne_of_lt lt338)).other W358 (Nat.ne_of_lt lt338))
    have F362 : own_Ary Z h358 a324 .double [(.double f328), (.double f331)] := (((((((F333.ext E337).other W343 (Nat.ne_of_lt lt339)).other W346 (Nat.ne_of_lt lt339)).other W349 (Nat.ne_of_lt lt339)).other W352 (Nat.ne_of_lt lt339)).other W355 (Nat.ne_of_lt lt339)).other W358 (Nat.ne_of_lt lt339))
    have F363 : n0 ≤ h358.size := (Nat.le_trans (Nat.le_trans (Nat.le_trans (Nat.le_trans (Nat.le_trans (Nat.le_trans (Nat.le_trans F336 E337.1) (Nat.le_of_eq W343.size.symm)) (Nat.le_of_eq W346.size.symm)) (Nat.le_of_eq W349.size.symm)) (Nat.le_of_eq W352.size.symm)) (Nat.le_of_eq W355.size.symm)) (Nat.le_of_eq W358.size.symm))
    refine own_newobj X358 hx hZ hown (hw _ (List.mem_of_getElem? (i := 2) rfl)) (hw _ (List.mem_of_getElem? (i := 3) rfl)) (hw _ (List.mem_of_getElem? (i := 4) rfl)) e358 (hb hby at_223) (by decide) (by decide) ?_
    intro T364 h364 a364 g364 X364 e364 E364 A364 D364
    have lt365 : a315 < a364 := Nat.lt_of_lt_of_le F361.lt (Nat.le_of_eq g364.symm)
    have lt366 : a324 < a364 := Nat.lt_of_lt_of_le F362.lt (Nat.le_of_eq g364.symm)
    have lt367 : a337 < a364 := Nat.lt_of_lt_of_le F359.lt (Nat.le_of_eq g364.symm)
    have nw368 : n0 ≤ a364 := Nat.le_trans F363 (Nat.le_of_eq g364.symm)
    have F369 : Fld Z h364 a364 "com/example/galicia/galicia/lime/SparseVector" "positions" "[I" .null := D364 (Or.inr (hw _ (List.mem_of_getElem? (i := 12) rfl))) (ty := (.array .int)) (by decide)
    have F370 : Fld Z h364 a364 "com/example/galicia/galicia/lime/SparseVector" "values" "[D" .null := D364 (Or.inr (hw _ (List.mem_of_getElem? (i := 14) rfl))) (ty := (.array .double)) (by decide)
    show own_Go _ _ _ _ _ _ _ T364 (mkF m 226 L360 [(.ref a364)])
    refine own_pre (T' := T364) (g' := (mkF m 227 L360 [(.ref a364), (.ref a364)])) (fun t k => XS.dup X364.here hx rfl (hb hby at_226) rfl rfl k) ?_
    refine own_pre (T' := T364) (g' := (mkF m 229 L360 [(.ref a315), (.ref a364), (.ref a364)])) (fun t k => XS.aload X364.here hx rfl (v := (.ref a315)) (hb hby at_227) (by rw [← hL360]; rfl) rfl k) ?_
    refine own_pre (T' := T364) (g' := (mkF m 231 L360 [(.ref a324), (.ref a315), (.ref a364), (.ref a364)])) (fun t k => XS.aload X364.here hx rfl (v := (.ref a324)) (hb hby at_229) (by rw [← hL360]; rfl) rfl k) ?_
    have F371 : n0 ≤ h364.size := (Nat.le_trans F363 E364.1)
    refine own_init (a := a364) (argsL := [(.ref a315), (.ref a324)]) (rest := [(.ref a364)]) X364 hx hZ hown (own_svinit l Z a0 hw [] a364 a315 a324 h364 n0 F371 A364 F369 F370 nw368) rfl (hw _ (List.mem_of_getElem? (i := 5) rfl)) (hw _ (List.mem_of_getElem? (i := 6) rfl)) (hw _ (List.mem_of_getElem? (i := 7) rfl)) (hw _ (List.mem_of_getElem? (i := 4) rfl)) (by decide) e364 (hb hby at_231) (by rw [hml, ← hL360]; rfl) rfl (lenOf own_pd0 rfl) (by decide) (W := 1) (Nat.le_of_eq rfl) (by decide) (by decide) (by decide) ?_
    intro v372 T372 lo372 X372 Q372
    obtain ⟨h372, e372⟩ : ∃ h, T372.heap = h := ⟨_, rfl⟩
    rw [e372] at Q372
    obtain ⟨rfl, N372, K372, G1372, G2372⟩ := Q372
    have N372' := Fr.app N358 N372
    show own_Go _ _ _ _ _ _ _ T372 (mkF m 234 L360 [(.ref a364)])
    refine own_pre (T' := T372) (g' := (mkF m 236 #[.val (.int p0), .val (.int p1), .val (.int p2), .val (.int p3), .val (.long p4), .second, .val (.int (2 : Int32)), .val (.int v293), .val (.int v295), .val (.long v297), .second, .val (.long v299), .second, .val (.long v301), .second, .val (.long v303), .second, .val (.long v305), .second, .val (.long v307), .second, .val (.long v309), .second, .val (.long v311), .second, .val (.long v313), .second, .val (.ref a315), .val (.ref a324), .val (.ref a337), .val (.ref a364)] [])) (fun t k => XS.astore X372.here hx rfl (hb hby at_234) rfl rfl (l' := #[.val (.int p0), .val (.int p1), .val (.int p2), .val (.int p3), .val (.long p4), .second, .val (.int (2 : Int32)), .val (.int v293), .val (.int v295), .val (.long v297), .second, .val (.long v299), .second, .val (.long v301), .second, .val (.long v303), .second, .val (.long v305), .second, .val (.long v307), .second, .val (.long v309), .second, .val (.long v311), .second, .val (.long v313), .second, .val (.ref a315), .val (.ref a324), .val (.ref a337), .val (.ref a364)]) (by rw [← hL360]; rfl) k) ?_
    generalize hL373 : (#[.val (.int p0), .val (.int p1), .val (.int p2), .val (.int p3), .val (.long p4), .second, .val (.int (2 : Int32)), .val (.int v293), .val (.int v295), .val (.long v297), .second, .val (.long v299), .second, .val (.long v301), .second, .val (.long v303), .second, .val (.long v305), .second, .val (.long v307), .second, .val (.long v309), .second, .val (.long v311), .second, .val (.long v313), .second, .val (.ref a315), .val (.ref a324), .val (.ref a337), .val (.ref a364)] : Array Slot) = L373
    refine own_pre (T' := T372) (g' := (mkF m 238 L373 [(.ref a364)])) (fun t k => XS.aload X372.here hx rfl (v := (.ref a364)) (hb hby at_236) (by rw [← hL373]; rfl) rfl k) ?_
    refine own_pre (T' := T372) (g' := (mkF m 240 L373 [(.ref a337), (.ref a364)])) (fun t k => XS.aload X372.here hx rfl (v := (.ref a337)) (hb hby at_238) (by rw [← hL373]; rfl) rfl k) ?_
    refine own_pre (T' := T372) (g' := (mkF m 242 L373 [(.long v301), (.ref a337), (.ref a364)])) (fun t k => XT.lload X372.here hx rfl (v := v301) (hb hby at_240) (by rw [← hL373]; rfl) k) ?_
    obtain ⟨f374, hf374⟩ : ∃ z, FP.l2d v301 = z := ⟨_, rfl⟩
    refine own_pre (T' := T372) (g' := (mkF m 243 L373 [(.double f374), (.ref a337), (.ref a364)])) (fun t k => XS.l2dS X372.here hx rfl (hb hby at_242) rfl hf374 k) ?_
    have Df374 : Jvm.FP.Core.DInt v301.toInt f374 := hf374 ▸ Jvm.FP.Core.l2d_int (own_abs Bv301)
    have hpick : ∀ k, k < 6 → ∃ (f : UInt64) (e : Int64), ([(.double f342), (.double f345), (.double f348), (.double f351), (.double f354), (.double f357)] : List Value)[k]? = some (.double f) ∧ ([v303, v305, v307, v309, v311, v313] : List Int64)[k]? = some e ∧ FP.Core.DInt e.toInt f ∧ (-32768 ≤ e.toInt ∧ e.toInt ≤ 32768) := by
      intro k hk
      match k, hk with
      | 0, _ => exact ⟨f342, v303, rfl, rfl, Df342, Bv303⟩
      | 1, _ => exact ⟨f345, v305, rfl, rfl, Df345, Bv305⟩
      | 2, _ => exact ⟨f348, v307, rfl, rfl, Df348, Bv307⟩
      | 3, _ => exact ⟨f351, v309, rfl, rfl, Df351, Bv309⟩
      | 4, _ => exact ⟨f354, v311, rfl, rfl, Df354, Bv311⟩
      | 5, _ => exact ⟨f357, v313, rfl, rfl, Df357, Bv313⟩
    obtain ⟨y0, e0, hy0, he0, DY0, hE0⟩ := hpick v293.toNatClampNeg (own_lt6 hq0)
    obtain ⟨y1, e1, hy1, he1, DY1, hE1⟩ := hpick v295.toNatClampNeg (own_lt6 hq1)
    have F375 : n0 ≤ h372.size := (Nat.le_trans F371 K372.1)
    have F376 : own_Ary Z h372 a315 .int [(.int v293), (.int v295)] := ((F361.ext E364).keep K372 (ninS (Nat.ne_of_lt lt365) nin0))
    have F377 : own_Ary Z h372 a324 .double [(.double f328), (.double f331)] := ((F362.ext E364).keep K372 (ninS (Nat.ne_of_lt lt366) nin0))
    have F378 : own_Ary Z h372 a337 .double [(.double f342), (.double f345), (.double f348), (.double f351), (.double f354), (.double f357)] := ((F359.ext E364).keep K372 (ninS (Nat.ne_of_lt lt367) nin0))
    have F379 : Exa Z h372 a364 "com/example/galicia/galicia/lime/SparseVector" := (A364.keep K372)
    refine own_callv (a := a364) (argsL := [(.ref a337), (.double f374)]) (rest := []) X372 hx hZ hown (own_addto2 l Z a0 hw [] a364 a315 a324 a337 _ f374 v301.toInt v293 f328 y0 v297.toInt e0.toInt v295 f331 y1 v299.toInt e1.toInt h372 n0 F375 G1372 G2372 F376 F377 F378 (Nat.ne_of_gt lt367) (Nat.ne_of_lt lt338) (Nat.ne_of_lt lt339) nw340 Df374 hq0.1 hy0 Df328 DY0 P0 (own_abs50 hE0) hq1.1 hy1 Df331 DY1 P1 (own_abs50 hE1) hqq) F379 (hw _ (List.mem_of_getElem? (i := 15) rfl)) (hw _ (List.mem_of_getElem? (i := 16) rfl)) (hw _ (List.mem_of_getElem? (i := 18) rfl)) (hw _ (List.mem_of_getElem? (i := 17) rfl)) (hw _ (List.mem_of_getElem? (i := 19) rfl)) (hw _ (List.mem_of_getElem? (i := 4) rfl)) (by decide) e372 (hb hby at_243) (by rw [hml, ← hL373]; rfl) rfl (lenOf own_pd1 rfl) (by decide) (W := 0) (Nat.le_of_eq rfl) (by decide) (by decide) (by decide) ?_
    intro v380 T380 lo380 X380 Q380
    obtain ⟨h380, e380⟩ : ∃ h, T380.heap = h := ⟨_, rfl⟩
    rw [e380] at Q380
    obtain ⟨r0_380, r1_380, rfl, N380, K380, A380, DR0_380, DR1_380⟩ := Q380
    have N380' := Fr.app N372' N380
    show own_Go _ _ _ _ _ _ _ T380 (mkF m 246 L373 [])
    have hab0 : 0 = v293.toNatClampNeg → e0.toInt = v303.toInt := fun q => by rw [← q] at he0; exact congrArg Int64.toInt (Option.some.inj he0).symm
    obtain ⟨g3811, hg3811, Dg3811⟩ := own_set1 (k := 0) (O := [(.double f342), (.double f345), (.double f348), (.double f351), (.double f354), (.double f357)]) (f := f342) rfl Df342 hy0 DR0_380 hab0
    have hab1 : 0 = v295.toNatClampNeg → e1.toInt = v303.toInt + (if 0 = v293.toNatClampNeg then v301.toInt * v297.toInt else 0) := fun q => by rw [if_neg (fun q2 => hqq (q2.symm.trans q))]; rw [← q] at he1; rw [Int.add_zero]; exact congrArg Int64.toInt (Option.some.inj he1).symm
    obtain ⟨g381, hg381, Dg381⟩ := own_set1 (y := y1) hg3811 Dg3811 (by rw [List.getElem?_set_ne hqq]; exact hy1) DR1_380 hab1
    refine own_pre (T' := T380) (g' := (mkF m 248 L373 [(.ref a337)])) (fun t k => XS.aload X380.here hx rfl (v := (.ref a337)) (hb hby at_246) (by rw [← hL373]; rfl) rfl k) ?_
    refine own_pre (T' := T380) (g' := (mkF m 249 L373 [(.int (0 : Int32)), (.ref a337)])) (fun t k => XS.iconst X380.here hx rfl (hb hby at_248) k) ?_
    refine own_daload X380 hx hZ e380 A380 (hb hby at_249) (n := 0) (v := (.double g381)) (by decide) (by decide) hg381 ?_
    show own_Go _ _ _ _ _ _ _ T380 (mkF m 250 L373 [(.double g381)])
    refine own_pre (T' := T380) (g' := (mkF m 252 L373 [(.long v303), (.double g381)])) (fun t k => XT.lload X380.here hx rfl (v := v303) (hb hby at_250) (by rw [← hL373]; rfl) k) ?_
    refine own_pre (T' := T380) (g' := (mkF m 253 L373 [(.int (0 : Int32)), (.long v303), (.double g381)])) (fun t k => XS.iconst X380.here hx rfl (hb hby at_252) k) ?_
    refine own_pre (T' := T380) (g' := (mkF m 255 L373 [(.int (2 : Int32)), (.int (0 : Int32)), (.long v303), (.double g381)])) (fun t k => XS.iload X380.here hx rfl (v := (2 : Int32)) (hb hby at_253) (by rw [← hL373]; rfl) k) ?_
    refine own_pre (T' := T380) (g' := (mkF m 257 L373 [(.int v293), (.int (2 : Int32)), (.int (0 : Int32)), (.long v303), (.double g381)])) (fun t k => XS.iload X380.here hx rfl (v := v293) (hb hby at_255) (by rw [← hL373]; rfl) k) ?_
    refine own_pre (T' := T380) (g' := (mkF m 259 L373 [(.int v295), (.int v293), (.int (2 : Int32)), (.int (0 : Int32)), (.long v303), (.double g381)])) (fun t k => XS.iload X380.here hx rfl (v := v295) (hb hby at_257) (by rw [← hL373]; rfl) k) ?_
    refine own_pre (T' := T380) (g' := (mkF m 261 L373 [(.long v301), (.int v295), (.int v293), (.int (2 : Int32)), (.int (0 : Int32)), (.long v303), (.double g381)])) (fun t k => XT.lload X380.here hx rfl (v := v301) (hb hby at_259) (by rw [← hL373]; rfl) k) ?_
    refine own_pre (T' := T380) (g' := (mkF m 263 L373 [(.long v297), (.long v301), (.int v295), (.int v293), (.int (2 : Int32)), (.int (0 : Int32)), (.long v303), (.double g381)])) (fun t k => XT.lload X380.here hx rfl (v := v297) (hb hby at_261) (by rw [← hL373]; rfl) k) ?_
    refine own_pre (T' := T380) (g' := (mkF m 265 L373 [(.long v299), (.long v297), (.long v301), (.int v295), (.int v293), (.int (2 : Int32)), (.int (0 : Int32)), (.long v303), (.double g381)])) (fun t k => XT.lload X380.here hx rfl (v := v299) (hb hby at_263) (by rw [← hL373]; rfl) k) ?_
    have F382 : n0 ≤ h380.size := (Nat.le_trans F375 K380.1)
    refine own_calls (argsL := [(.double g381), (.long v303), (.int (0 : Int32)), (.int (2 : Int32)), (.int v293), (.int v295), (.long v301), (.long v297), (.long v299)]) (rest := []) X380 hx hZ hown (own_okT l Z a0 hw [] g381 v303 (0 : Int32) (2 : Int32) v293 v295 v301 v297 v299 (if 0 = v293.toNatClampNeg then v301.toInt * v297.toInt else 0) (if 0 = v295.toNatClampNeg then v301.toInt * v299.toInt else 0) h380 n0 F382 (own_ifb (i := 0) (by decide) (by decide) (by decide) hq0.1) (own_ifb (i := 0) (by decide) (by decide) (by decide) hq1.1) Dg381 (own_abs50 Bv303) P0 P1) (hw _ (List.mem_of_getElem? (i := 20) rfl)) (hw _ (List.mem_of_getElem? (i := 21) rfl)) (hw _ (List.mem_of_getElem? (i := 23) rfl)) (hw _ (List.mem_of_getElem? (i := 22) rfl)) (by decide) e380 (hb hby at_265) (by rw [hml, ← hL373]; rfl) rfl (lenOf own_pd2 rfl) (by decide) (W := 0) (Nat.le_of_eq rfl) (by decide) (by decide) (by decide) ?_
    intro v383 T383 lo383 X383 Q383
    obtain ⟨h383, e383⟩ : ∃ h, T383.heap = h := ⟨_, rfl⟩
    rw [e383] at Q383
    obtain ⟨rfl, N383, q383⟩ := Q383
    have N383' := Fr.app N380' N383
    have e383' : T383.heap = h380 := e383.trans q383
    show own_Go _ _ _ _ _ _ _ T383 (mkF m 268 L373 [(.int (1 : Int32))])
    refine own_pre (T' := T383) (g' := (mkF m 271 L373 [])) (fun t k => XS.ifNo X383.here hx rfl (hb hby at_268) rfl (by decide) k) ?_
    refine own_pre (T' := T383) (g' := (mkF m 273 L373 [(.ref a337)])) (fun t k => XS.aload X383.here hx rfl (v := (.ref a337)) (hb hby at_271) (by rw [← hL373]; rfl) rfl k) ?_
    refine own_pre (T' := T383) (g' := (mkF m 274 L373 [(.int (1 : Int32)), (.ref a337)])) (fun t k => XS.iconst X383.here hx rfl (hb hby at_273) k) ?_
    have hab0 : 1 = v293.toNatClampNeg → e0.toInt = v305.toInt := fun q => by rw [← q] at he0; exact congrArg Int64.toInt (Option.some.inj he0).symm
    obtain ⟨g3841, hg3841, Dg3841⟩ := own_set1 (k := 1) (O := [(.double f342), (.double f345), (.double f348), (.double f351), (.double f354), (.double f357)]) (f := f345) rfl Df345 hy0 DR0_380 hab0
    have hab1 : 1 = v295.toNatClampNeg → e1.toInt = v305.toInt + (if 1 = v293.toNatClampNeg then v301.toInt * v297.toInt else 0) := fun q => by rw [if_neg (fun q2 => hqq (q2.symm.trans q))]; rw [← q] at he1; rw [Int.add_zero]; exact congrArg Int64.toInt (Option.some.inj he1).symm
    obtain ⟨g384, hg384, Dg384⟩ := own_set1 (y := y1) hg3841 Dg3841 (by rw [List.getElem?_set_ne hqq]; exact hy1) DR1_380 hab1
    refine own_daload X383 hx hZ e383' A380 (hb hby at_274) (n := 1) (v := (.double g384)) (by decide) (by decide) hg384 ?_
    show own_Go _ _ _ _ _ _ _ T383 (mkF m 275 L373 [(.double g384)])
    refine own_pre (T' := T383) (g' := (mkF m 277 L373 [(.long v305), (.double g384)])) (fun t k => XT.lload X383.here hx rfl (v := v305) (hb hby at_275) (by rw [← hL373]; rfl) k) ?_
    refine own_pre (T' := T383) (g' := (mkF m 278 L373 [(.int (1 : Int32)), (.long v305), (.double g384)])) (fun t k => XS.iconst X383.here hx rfl (hb hby at_277) k) ?_
    refine own_pre (T' := T383) (g' := (mkF m 280 L373 [(.int (2 : Int32)), (.int (1 : Int32)), (.long v305), (.double g384)])) (fun t k => XS.iload X383.here hx rfl (v := (2 : Int32)) (hb hby at_278) (by rw [← hL373]; rfl) k) ?_
    refine own_pre (T' := T383) (g' := (mkF m 282 L373 [(.int v293), (.int (2 : Int32)), (.int (1 : Int32)), (.long v305), (.double g384)])) (fun t k => XS.iload X383.here hx rfl (v := v293) (hb hby at_280) (by rw [← hL373]; rfl) k) ?_
    refine own_pre (T' := T383) (g' := (mkF m 284 L373 [(.int v295), (.int v293), (.int (2 : Int32)), (.int (1 : Int32)), (.long v305), (.double g384)])) (fun t k => XS.iload X383.here hx rfl (v := v295) (hb hby at_282) (by rw [← hL373]; rfl) k) ?_
    refine own_pre (T' := T383) (g' := (mkF m 286 L373 [(.long v301), (.int v295), (.int v293), (.int (2 : Int32)), (.int (1 : Int32)), (.long v305), (.double g384)])) (fun t k => XT.lload X383.here hx rfl (v := v301) (hb hby at_284) (by rw [← hL373]; rfl) k) ?_
    refine own_pre (T' := T383) (g' := (mkF m 288 L373 [(.long v297), (.long v301), (.int v295), (.int v293), (.int (2 : Int32)), (.int (1 : Int32)), (.long v305), (.double g384)])) (fun t k => XT.lload X383.here hx rfl (v := v297) (hb hby at_286) (by rw [← hL373]; rfl) k) ?_
    refine own_pre (T' := T383) (g' := (mkF m 290 L373 [(.long v299), (.long v297), (.long v301), (.int v295), (.int v293), (.int (2 : Int32)), (.int (1 : Int32)), (.long v305), (.double g384)])) (fun t k => XT.lload X383.here hx rfl (v := v299) (hb hby at_288) (by rw [← hL373]; rfl) k) ?_
    refine own_calls (argsL := [(.double g384), (.long v305), (.int (1 : Int32)), (.int (2 : Int32)), (.int v293), (.int v295), (.long v301), (.long v297), (.long v299)]) (rest := []) X383 hx hZ hown (own_okT l Z a0 hw [] g384 v305 (1 : Int32) (2 : Int32) v293 v295 v301 v297 v299 (if 1 = v293.toNatClampNeg then v301.toInt * v297.toInt else 0) (if 1 = v295.toNatClampNeg then v301.toInt * v299.toInt else 0) h380 n0 F382 (own_ifb (i := 1) (by decide) (by decide) (by decide) hq0.1) (own_ifb (i := 1) (by decide) (by decide) (by decide) hq1.1) Dg384 (own_abs50 Bv305) P0 P1) (hw _ (List.mem_of_getElem? (i := 20) rfl)) (hw _ (List.mem_of_getElem? (i := 21) rfl)) (hw _ (List.mem_of_getElem? (i := 23) rfl)) (hw _ (List.mem_of_getElem? (i := 22) rfl)) (by decide) e383' (hb hby at_290) (by rw [hml, ← hL373]; rfl) rfl (lenOf own_pd2 rfl) (by decide) (W := 0) (Nat.le_of_eq rfl) (by decide) (by decide) (by decide) ?_
    intro v385 T385 lo385 X385 Q385
    obtain ⟨h385, e385⟩ : ∃ h, T385.heap = h := ⟨_, rfl⟩
    rw [e385] at Q385
    obtain ⟨rfl, N385, q385⟩ := Q385
    have N385' := Fr.app N383' N385
    have e385' : T385.heap = h380 := e385.trans q385
    show own_Go _ _ _ _ _ _ _ T385 (mkF m 293 L373 [(.int (1 : Int32))])
    refine own_pre (T' := T385) (g' := (mkF m 296 L373 [])) (fun t k => XS.ifNo X385.here hx rfl (hb hby at_293) rfl (by decide) k) ?_
    refine own_pre (T' := T385) (g' := (mkF m 298 L373 [(.ref a337)])) (fun t k => XS.aload X385.here hx rfl (v := (.ref a337)) (hb hby at_296) (by rw [← hL373]; rfl) rfl k) ?_
    refine own_pre (T' := T385) (g' := (mkF m 299 L373 [(.int (2 : Int32)), (.ref a337)])) (fun t k => XS.iconst X385.here hx rfl (hb hby at_298) k) ?_
    have hab0 : 2 = v293.toNatClampNeg → e0.toInt = v307.toInt := fun q => by rw [← q] at he0; exact congrArg Int64.toInt (Option.some.inj he0).symm
    obtain ⟨g3861, hg3861, Dg3861⟩ := own_set1 (k := 2) (O := [(.double f342), (.double f345), (.double f348), (.double f351), (.double f354), (.double f357)]) (f := f348) rfl Df348 hy0 DR0_380 hab0
    have hab1 : 2 = v295.toNatClampNeg → e1.toInt = v307.toInt + (if 2 = v293.toNatClampNeg then v301.toInt * v297.toInt else 0) := fun q => by rw [if_neg (fun q2 => hqq (q2.symm.trans q))]; rw [← q] at he1; rw [Int.add_zero]; exact congrArg Int64.toInt (Option.some.inj he1).symm
    obtain ⟨g386, hg386, Dg386⟩ := own_set1 (y := y1) hg3861 Dg3861 (by rw [List.getElem?_set_ne hqq]; exact hy1) DR1_380 hab1
    refine own_daload X385 hx hZ e385' A380 (hb hby at_299) (n := 2) (v := (.double g386)) (by decide) (by decide) hg386 ?_
    show own_Go _ _ _ _ _ _ _ T385 (mkF m 300 L373 [(.double g386)])
    refine own_pre (T' := T385) (g' := (mkF m 302 L373 [(.long v307), (.double g386)])) (fun t k => XT.lload X385.here hx rfl (v := v307) (hb hby at_300) (by rw [← hL373]; rfl) k) ?_
    refine own_pre (T' := T385) (g' := (mkF m 303 L373 [(.int (2 : Int32)), (.long v307), (.double g386)])) (fun t k => XS.iconst X385.here hx rfl (hb hby at_302) k) ?_
    refine own_pre (T' := T385) (g' := (mkF m 305 L373 [(.int (2 : Int32)), (.int (2 : Int32)), (.long v307), (.double g386)])) (fun t k => XS.iload X385.here hx rfl (v := (2 : Int32)) (hb hby at_303) (by rw [← hL373]; rfl) k) ?_
    refine own_pre (T' := T385) (g' := (mkF m 307 L373 [(.int v293), (.int (2 : Int32)), (.int (2 : Int32)), (.long v307), (.double g386)])) (fun t k => XS.iload X385.here hx rfl (v := v293) (hb hby at_305) (by rw [← hL373]; rfl) k) ?_
    refine own_pre (T' := T385) (g' := (mkF m 309 L373 [(.int v295), (.int v293), (.int (2 : Int32)), (.int (2 : Int32)), (.long v307), (.double g386)])) (fun t k => XS.iload X385.here hx rfl (v := v295) (hb hby at_307) (by rw [← hL373]; rfl) k) ?_
    refine own_pre (T' := T385) (g' := (mkF m 311 L373 [(.long v301), (.int v295), (.int v293), (.int (2 : Int32)), (.int (2 : Int32)), (.long v307), (.double g386)])) (fun t k => XT.lload X385.here hx rfl (v := v301) (hb hby at_309) (by rw [← hL373]; rfl) k) ?_
    refine own_pre (T' := T385) (g' := (mkF m 313 L373 [(.long v297), (.long v301), (.int v295), (.int v293), (.int (2 : Int32)), (.int (2 : Int32)), (.long v307), (.double g386)])) (fun t k => XT.lload X385.here hx rfl (v := v297) (hb hby at_311) (by rw [← hL373]; rfl) k) ?_
    refine own_pre (T' := T385) (g' := (mkF m 315 L373 [(.long v299), (.long v297), (.long v301), (.int v295), (.int v293), (.int (2 : Int32)), (.int (2 : Int32)), (.long v307), (.double g386)])) (fun t k => XT.lload X385.here hx rfl (v := v299) (hb hby at_313) (by rw [← hL373]; rfl) k) ?_
    refine own_calls (argsL := [(.double g386), (.long v307), (.int (2 : Int32)), (.int (2 : Int32)), (.int v293), (.int v295), (.long v301), (.long v297), (.long v299)]) (rest := []) X385 hx hZ hown (own_okT l Z a0 hw [] g386 v307 (2 : Int32) (2 : Int32) v293 v295 v301 v297 v299 (if 2 = v293.toNatClampNeg then v301.toInt * v297.toInt else 0) (if 2 = v295.toNatClampNeg then v301.toInt * v299.toInt else 0) h380 n0 F382 (own_ifb (i := 2) (by decide) (by decide) (by decide) hq0.1) (own_ifb (i := 2) (by decide) (by decide) (by decide) hq1.1) Dg386 (own_abs50 Bv307) P0 P1) (hw _ (List.mem_of_getElem? (i := 20) rfl)) (hw _ (List.mem_of_getElem? (i := 21) rfl)) (hw _ (List.mem_of_getElem? (i := 23) rfl)) (hw _ (List.mem_of_getElem? (i := 22) rfl)) (by decide) e385' (hb hby at_315) (by rw [hml, ← hL373]; rfl) rfl (lenOf own_pd2 rfl) (by decide) (W := 0) (Nat.le_of_eq rfl) (by decide) (by decide) (by decide) ?_
    intro v387 T387 lo387 X387 Q387
    obtain ⟨h387, e387⟩ : ∃ h, T387.heap = h := ⟨_, rfl⟩
    rw [e387] at Q387
    obtain ⟨rfl, N387, q387⟩ := Q387
    have N387' := Fr.app N385' N387
    have e387' : T387.heap = h380 := e387.trans q387
    show own_Go _ _ _ _ _ _ _ T387 (mkF m 318 L373 [(.int (1 : Int32))])
    refine own_pre (T' := T387) (g' := (mkF m 321 L373 [])) (fun t k => XS.ifNo X387.here hx rfl (hb hby at_318) rfl (by decide) k) ?_
    refine own_pre (T' := T387) (g' := (mkF m 323 L373 [(.ref a337)])) (fun t k => XS.aload X387.here hx rfl (v := (.ref a337)) (hb hby at_321) (by rw [← hL373]; rfl) rfl k) ?_
    refine own_pre (T' := T387) (g' := (mkF m 324 L373 [(.int (3 : Int32)), (.ref a337)])) (fun t k => XS.iconst X387.here hx rfl (hb hby at_323) k) ?_
    have hab0 : 3 = v293.toNatClampNeg → e0.toInt = v309.toInt := fun q => by rw [← q] at he0; exact congrArg Int64.toInt (Option.some.inj he0).symm
    obtain ⟨g3881, hg3881, Dg3881⟩ := own_set1 (k := 3) (O := [(.double f342), (.double f345), (.double f348), (.double f351), (.double f354), (.double f357)]) (f := f351) rfl Df351 hy0 DR0_380 hab0
    have hab1 : 3 = v295.toNatClampNeg → e1.toInt = v309.toInt + (if 3 = v293.toNatClampNeg then v301.toInt * v297.toInt else 0) := fun q => by rw [if_neg (fun q2 => hqq (q2.symm.trans q))]; rw [← q] at he1; rw [Int.add_zero]; exact congrArg Int64.toInt (Option.some.inj he1).symm
    obtain ⟨g388, hg388, Dg388⟩ := own_set1 (y := y1) hg3881 Dg3881 (by rw [List.getElem?_set_ne hqq]; exact hy1) DR1_380 hab1
    refine own_daload X387 hx hZ e387' A380 (hb hby at_324) (n := 3) (v := (.double g388)) (by decide) (by decide) hg388 ?_
    show own_Go _ _ _ _ _ _ _ T387 (mkF m 325 L373 [(.double g388)])
    refine own_pre (T' := T387) (g' := (mkF m 327 L373 [(.long v309), (.double g388)])) (fun t k => XT.lload X387.here hx rfl (v := v309) (hb hby at_325) (by rw [← hL373]; rfl) k) ?_
    refine own_pre (T' := T387) (g' := (mkF m 328 L373 [(.int (3 : Int32)), (.long v309), (.double g388)])) (fun t k => XS.iconst X387.here hx rfl (hb hby at_327) k) ?_
    refine own_pre (T' := T387) (g' := (mkF m 330 L373 [(.int (2 : Int32)), (.int (3 : Int32)), (.long v309), (.double g388)])) (fun t k => XS.iload X387.here hx rfl (v := (2 : Int32)) (hb hby at_328) (by rw [← hL373]; rfl) k) ?_
    refine own_pre (T' := T387) (g' := (mkF m 332 L373 [(.int v293), (.int (2 : Int32)), (.int (3 : Int32)), (.long v309), (.double g388)])) (fun t k => XS.iload X387.here hx rfl (v := v293) (hb hby at_330) (by rw [← hL373]; rfl) k) ?_
    refine own_pre (T' := T387) (g' := (mkF m 334 L373 [(.int v295), (.int v293), (.int (2 : Int32)), (.int (3 : Int32)), (.long v309), (.double g388)])) (fun t k => XS.iload X387.here hx rfl (v := v295) (hb hby at_332) (by rw [← hL373]; rfl) k) ?_
    refine own_pre (T' := T387) (g' := (mkF m 336 L373 [(.long v301), (.int v295), (.int v293), (.int (2 : Int32)), (.int (3 : Int32)), (.long v309), (.double g388)])) (fun t k => XT.lload X387.here hx rfl (v := v301) (hb hby at_334) (by rw [← hL373]; rfl) k) ?_
    refine own_pre (T' := T387) (g' := (mkF m 338 L373 [(.long v297), (.long v301), (.int v295), (.int v293), (.int (2 : Int32)), (.int (3 : Int32)), (.long v309), (.double g388)])) (fun t k => XT.lload X387.here hx rfl (v := v297) (hb hby at_336) (by rw [← hL373]; rfl) k) ?_
    refine own_pre (T' := T387) (g' := (mkF m 340 L373 [(.long v299), (.long v297), (.long v301), (.int v295), (.int v293), (.int (2 : Int32)), (.int (3 : Int32)), (.long v309), (.double g388)])) (fun t k => XT.lload X387.here hx rfl (v := v299) (hb hby at_338) (by rw [← hL373]; rfl) k) ?_
    refine own_calls (argsL := [(.double g388), (.long v309), (.int (3 : Int32)), (.int (2 : Int32)), (.int v293), (.int v295), (.long v301), (.long v297), (.long v299)]) (rest := []) X387 hx hZ hown (own_okT l Z a0 hw [] g388 v309 (3 : Int32) (2 : Int32) v293 v295 v301 v297 v299 (if 3 = v293.toNatClampNeg then v301.toInt * v297.toInt else 0) (if 3 = v295.toNatClampNeg then v301.toInt * v299.toInt else 0) h380 n0 F382 (own_ifb (i := 3) (by decide) (by decide) (by decide) hq0.1) (own_ifb (i := 3) (by decide) (by decide) (by decide) hq1.1) Dg388 (own_abs50 Bv309) P0 P1) (hw _ (List.mem_of_getElem? (i := 20) rfl)) (hw _ (List.mem_of_getElem? (i := 21) rfl)) (hw _ (List.mem_of_getElem? (i := 23) rfl)) (hw _ (List.mem_of_getElem? (i := 22) rfl)) (by decide) e387' (hb hby at_340) (by rw [hml, ← hL373]; rfl) rfl (lenOf own_pd2 rfl) (by decide) (W := 0) (Nat.le_of_eq rfl) (by decide) (by decide) (by decide) ?_
    intro v389 T389 lo389 X389 Q389
    obtain ⟨h389, e389⟩ : ∃ h, T389.heap = h := ⟨_, rfl⟩
    rw [e389] at Q389
    obtain ⟨rfl, N389, q389⟩ := Q389
    have N389' := Fr.app N387' N389
    have e389' : T389.heap = h380 := e389.trans q389
    show own_Go _ _ _ _ _ _ _ T389 (mkF m 343 L373 [(.int (1 : Int32))])
    refine own_pre (T' := T389) (g' := (mkF m 346 L373 [])) (fun t k => XS.ifNo X389.here hx rfl (hb hby at_343) rfl (by decide) k) ?_
    refine own_pre (T' := T389) (g' := (mkF m 348 L373 [(.ref a337)])) (fun t k => XS.aload X389.here hx rfl (v := (.ref a337)) (hb hby at_346) (by rw [← hL373]; rfl) rfl k) ?_
    refine own_pre (T' := T389) (g' := (mkF m 349 L373 [(.int (4 : Int32)), (.ref a337)])) (fun t k => XS.iconst X389.here hx rfl (hb hby at_348) k) ?_
    have hab0 : 4 = v293.toNatClampNeg → e0.toInt = v311.toInt := fun q => by rw [← q] at he0; exact congrArg Int64.toInt (Option.some.inj he0).symm
    obtain ⟨g3901, hg3901, Dg3901⟩ := own_set1 (k := 4) (O := [(.double f342), (.double f345), (.double f348), (.double f351), (.double f354), (.double f357)]) (f := f354) rfl Df354 hy0 DR0_380 hab0
    have hab1 : 4 = v295.toNatClampNeg → e1.toInt = v311.toInt + (if 4 = v293.toNatClampNeg then v301.toInt * v297.toInt else 0) := fun q => by rw [if_neg (fun q2 => hqq (q2.symm.trans q))]; rw [← q] at he1; rw [Int.add_zero]; exact congrArg Int64.toInt (Option.some.inj he1).symm
    obtain ⟨g390, hg390, Dg390⟩ := own_set1 (y := y1) hg3901 Dg3901 (by rw [List.getElem?_set_ne hqq]; exact hy1) DR1_380 hab1
    refine own_daload X389 hx hZ e389' A380 (hb hby at_349) (n := 4) (v := (.double g390)) (by decide) (by decide) hg390 ?_
    show own_Go _ _ _ _ _ _ _ T389 (mkF m 350 L373 [(.double g390)])
    refine own_pre (T' := T389) (g' := (mkF m 352 L373 [(.long v311), (.double g390)])) (fun t k => XT.lload X389.here hx rfl (v := v311) (hb hby at_350) (by rw [← hL373]; rfl) k) ?_
    refine own_pre (T' := T389) (g' := (mkF m 353 L373 [(.int (4 : Int32)), (.long v311), (.double g390)])) (fun t k => XS.iconst X389.here hx rfl (hb hby at_352) k) ?_
    refine own_pre (T' := T389) (g' := (mkF m 355 L373 [(.int (2 : Int32)), (.int (4 : Int32)), (.long v311), (.double g390)])) (fun t k => XS.iload X389.here hx rfl (v := (2 : Int32)) (hb hby at_353) (by rw [← hL373]; rfl) k) ?_
    refine own_pre (T' := T389) (g' := (mkF m 357 L373 [(.int v293), (.int (2 : Int32)), (.int (4 : Int32)), (.long v311), (.double g390)])) (fun t k => XS.iload X389.here hx rfl (v := v293) (hb hby at_355) (by rw [← hL373]; rfl) k) ?_
    refine own_pre (T' := T389) (g' := (mkF m 359 L373 [(.int v295), (.int v293), (.int (2 : Int32)), (.int (4 : Int32)), (.long v311), (.double g390)])) (fun t k => XS.iload X389.here hx rfl (v := v295) (hb hby at_357) (by rw [← hL373]; rfl) k) ?_
    refine own_pre (T' := T389) (g' := (mkF m 361 L373 [(.long v301), (.int v295), (.int v293), (.int (2 : Int32)), (.int (4 : Int32)), (.long v311), (.double g390)])) (fun t k => XT.lload X389.here hx rfl (v := v301) (hb hby at_359) (by rw [← hL373]; rfl) k) ?_
    refine own_pre (T' := T389) (g' := (mkF m 363 L373 [(.long v297), (.long v301), (.int v295), (.int v293), (.int (2 : Int32)), (.int (4 : Int32)), (.long v311), (.double g390)])) (fun t k => XT.lload X389.here hx rfl (v := v297) (hb hby at_361) (by rw [← hL373]; rfl) k) ?_
    refine own_pre (T' := T389) (g' := (mkF m 365 L373 [(.long v299), (.long v297), (.long v301), (.int v295), (.int v293), (.int (2 : Int32)), (.int (4 : Int32)), (.long v311), (.double g390)])) (fun t k => XT.lload X389.here hx rfl (v := v299) (hb hby at_363) (by rw [← hL373]; rfl) k) ?_
    refine own_calls (argsL := [(.double g390), (.long v311), (.int (4 : Int32)), (.int (2 : Int32)), (.int v293), (.int v295), (.long v301), (.long v297), (.long v299)]) (rest := []) X389 hx hZ hown (own_okT l Z a0 hw [] g390 v311 (4 : Int32) (2 : Int32) v293 v295 v301 v297 v299 (if 4 = v293.toNatClampNeg then v301.toInt * v297.toInt else 0) (if 4 = v295.toNatClampNeg then v301.toInt * v299.toInt else 0) h380 n0 F382 (own_ifb (i := 4) (by decide) (by decide) (by decide) hq0.1) (own_ifb (i := 4) (by decide) (by decide) (by decide) hq1.1) Dg390 (own_abs50 Bv311) P0 P1) (hw _ (List.mem_of_getElem? (i := 20) rfl)) (hw _ (List.mem_of_getElem? (i := 21) rfl)) (hw _ (List.mem_of_getElem? (i := 23) rfl)) (hw _ (List.mem_of_getElem? (i := 22) rfl)) (by decide) e389' (hb hby at_365) (by rw [hml, ← hL373]; rfl) rfl (lenOf own_pd2 rfl) (by decide) (W := 0) (Nat.le_of_eq rfl) (by decide) (by decide) (by decide) ?_
    intro v391 T391 lo391 X391 Q391
    obtain ⟨h391, e391⟩ : ∃ h, T391.heap = h := ⟨_, rfl⟩
    rw [e391] at Q391
    obtain ⟨rfl, N391, q391⟩ := Q391
    have N391' := Fr.app N389' N391
    have e391' : T391.heap = h380 := e391.trans q391
    show own_Go _ _ _ _ _ _ _ T391 (mkF m 368 L373 [(.int (1 : Int32))])
    refine own_pre (T' := T391) (g' := (mkF m 371 L373 [])) (fun t k => XS.ifNo X391.here hx rfl (hb hby at_368) rfl (by decide) k) ?_
    refine own_pre (T' := T391) (g' := (mkF m 373 L373 [(.ref a337)])) (fun t k => XS.aload X391.here hx rfl (v := (.ref a337)) (hb hby at_371) (by rw [← hL373]; rfl) rfl k) ?_
    refine own_pre (T' := T391) (g' := (mkF m 374 L373 [(.int (5 : Int32)), (.ref a337)])) (fun t k => XS.iconst X391.here hx rfl (hb hby at_373) k) ?_
    have hab0 : 5 = v293.toNatClampNeg → e0.toInt = v313.toInt := fun q => by rw [← q] at he0; exact congrArg Int64.toInt (Option.some.inj he0).symm
    obtain ⟨g3921, hg3921, Dg3921⟩ := own_set1 (k := 5) (O := [(.double f342), (.double f345), (.double f348), (.double f351), (.double f354), (.double f357)]) (f := f357) rfl Df357 hy0 DR0_380 hab0
    have hab1 : 5 = v295.toNatClampNeg → e1.toInt = v313.toInt + (if 5 = v293.toNatClampNeg then v301.toInt * v297.toInt else 0) := fun q => by rw [if_neg (fun q2 => hqq (q2.symm.trans q))]; rw [← q] at he1; rw [Int.add_zero]; exact congrArg Int64.toInt (Option.some.inj he1).symm
    obtain ⟨g392, hg392, Dg392⟩ := own_set1 (y := y1) hg3921 Dg3921 (by rw [List.getElem?_set_ne hqq]; exact hy1) DR1_380 hab1
    refine own_daload X391 hx hZ e391' A380 (hb hby at_374) (n := 5) (v := (.double g392)) (by decide) (by decide) hg392 ?_
    show own_Go _ _ _ _ _ _ _ T391 (mkF m 375 L373 [(.double g392)])
    refine own_pre (T' := T391) (g' := (mkF m 377 L373 [(.long v313), (.double g392)])) (fun t k => XT.lload X391.here hx rfl (v := v313) (hb hby at_375) (by rw [← hL373]; rfl) k) ?_
    refine own_pre (T' := T391) (g' := (mkF m 378 L373 [(.int (5 : Int32)), (.long v313), (.double g392)])) (fun t k => XS.iconst X391.here hx rfl (hb hby at_377) k) ?_
    refine own_pre (T' := T391) (g' := (mkF m 380 L373 [(.int (2 : Int32)), (.int (5 : Int32)), (.long v313), (.double g392)])) (fun t k => XS.iload X391.here hx rfl (v := (2 : Int32)) (hb hby at_378) (by rw [← hL373]; rfl) k) ?_
    refine own_pre (T' := T391) (g' := (mkF m 382 L373 [(.int v293), (.int (2 : Int32)), (.int (5 : Int32)), (.long v313), (.double g392)])) (fun t k => XS.iload X391.here hx rfl (v := v293) (hb hby at_380) (by rw [← hL373]; rfl) k) ?_
    refine own_pre (T' := T391) (g' := (mkF m 384 L373 [(.int v295), (.int v293), (.int (2 : Int32)), (.int (5 : Int32)), (.long v313), (.double g392)])) (fun t k => XS.iload X391.here hx rfl (v := v295) (hb hby at_382) (by rw [← hL373]; rfl) k) ?_
    refine own_pre (T' := T391) (g' := (mkF m 386 L373 [(.long v301), (.int v295), (.int v293), (.int (2 : Int32)), (.int (5 : Int32)), (.long v313), (.double g392)])) (fun t k => XT.lload X391.here hx rfl (v := v301) (hb hby at_384) (by rw [← hL373]; rfl) k) ?_
    refine own_pre (T' := T391) (g' := (mkF m 388 L373 [(.long v297), (.long v301), (.int v295), (.int v293), (.int (2 : Int32)), (.int (5 : Int32)), (.long v313), (.double g392)])) (fun t k => XT.lload X391.here hx rfl (v := v297) (hb hby at_386) (by rw [← hL373]; rfl) k) ?_
    refine own_pre (T' := T391) (g' := (mkF m 390 L373 [(.long v299), (.long v297), (.long v301), (.int v295), (.int v293), (.int (2 : Int32)), (.int (5 : Int32)), (.long v313), (.double g392)])) (fun t k => XT.lload X391.here hx rfl (v := v299) (hb hby at_388) (by rw [← hL373]; rfl) k) ?_
    refine own_calls (argsL := [(.double g392), (.long v313), (.int (5 : Int32)), (.int (2 : Int32)), (.int v293), (.int v295), (.long v301), (.long v297), (.long v299)]) (rest := []) X391 hx hZ hown (own_okT l Z a0 hw [] g392 v313 (5 : Int32) (2 : Int32) v293 v295 v301 v297 v299 (if 5 = v293.toNatClampNeg then v301.toInt * v297.toInt else 0) (if 5 = v295.toNatClampNeg then v301.toInt * v299.toInt else 0) h380 n0 F382 (own_ifb (i := 5) (by decide) (by decide) (by decide) hq0.1) (own_ifb (i := 5) (by decide) (by decide) (by decide) hq1.1) Dg392 (own_abs50 Bv313) P0 P1) (hw _ (List.mem_of_getElem? (i := 20) rfl)) (hw _ (List.mem_of_getElem? (i := 21) rfl)) (hw _ (List.mem_of_getElem? (i := 23) rfl)) (hw _ (List.mem_of_getElem? (i := 22) rfl)) (by decide) e391' (hb hby at_390) (by rw [hml, ← hL373]; rfl) rfl (lenOf own_pd2 rfl) (by decide) (W := 0) (Nat.le_of_eq rfl) (by decide) (by decide) (by decide) ?_
    intro v393 T393 lo393 X393 Q393
    obtain ⟨h393, e393⟩ : ∃ h, T393.heap = h := ⟨_, rfl⟩
    rw [e393] at Q393
    obtain ⟨rfl, N393, q393⟩ := Q393
    have N393' := Fr.app N391' N393
    have e393' : T393.heap = h380 := e393.trans q393
    show own_Go _ _ _ _ _ _ _ T393 (mkF m 393 L373 [(.int (1 : Int32))])
    refine own_pre (T' := T393) (g' := (mkF m 396 L373 [])) (fun t k => XS.ifNo X393.here hx rfl (hb hby at_393) rfl (by decide) k) ?_
    refine own_pre (T' := T393) (g' := (mkF m 397 L373 [(.int (1 : Int32))])) (fun t k => XS.iconst X393.here hx rfl (hb hby at_396) k) ?_
    refine own_pre (T' := T393) (g' := (mkF m 401 L373 [(.int (1 : Int32))])) (fun t k => XS.goto X393.here hx rfl (pc0 := 397) (pc' := 401) rfl (hb hby at_397) (by decide) (by decide) k) ?_
    exact own_retZ X393 hx hlk hret rfl (hb hby at_401) e393' ⟨rfl, N393'⟩ (by decide) (by decide)
set_option maxRecDepth 65536 in
set_option maxHeartbeats 40000000 in
theorem own_comes {Post : Tables → Env → Array Value → State → Outcome → State → Prop} (hpost : ∀ tb e args s v u, (limb_1_1.after args s (.returned v) u = true ∧ limb_1_2.after args s (.returned v) u = true ∧ True) → FrameEnd s (.returned v) u (Jvm.fieldLocs frame_1_writes args s ++ Jvm.arrayLocs frame_1_arrays args s ++ Jvm.staticLocs frame_1_statics s) 16 128 → Post tb e args s (.returned v) u) :
    ArmFor flags0 classFile x code maxLocals ret World_1 tables_1 room_1 Calls_1 rest_1 Pre_1 Post := by
  intro l hfl _ _ p e ha hc hk s m args below hf hA hF happ hP
  obtain ⟨hcalls, hrest, hpre⟩ := hP
  obtain ⟨-, -, -, hnamed, -, -, -, hat⟩ := (Spec.applies_iff hf).mp happ
  obtain ⟨hg, hn⟩ := and_e (Cond.before_iff.mp (show (Jvm.Cond.and given_1 narrow_1).before args s = true from hpre))
  obtain ⟨hcount, g0⟩ := and_e hg
  obtain ⟨k0, g1⟩ := and_e g0
  obtain ⟨k1, g2⟩ := and_e g1
  obtain ⟨k2, g3⟩ := and_e g2
  obtain ⟨k3, g4⟩ := and_e g3
  have k4 := g4
  obtain ⟨w0, w1, w2, w3, w4, rfl⟩ : ∃ w0 w1 w2 w3 w4, args = #[w0, w1, w2, w3, w4] := by
    have hs : args.size = 5 := by simpa [Cond.value, given_1] using hcount
    obtain ⟨L⟩ := args
    match L, hs with
    | [w0, w1, w2, w3, w4], _ => exact ⟨w0, w1, w2, w3, w4, rfl⟩
  have hw := fun d (hd : d ∈ tables_1) => atoms_spec (ws := Jvm.Cond.code x code maxLocals ret :: tables_1) hat d (List.mem_cons_of_mem _ hd)
  obtain ⟨i0, e0⟩ := is_v k0
  obtain rfl : w0 = (.int i0) := Option.some.inj e0
  obtain ⟨i1, e1⟩ := is_v k1
  obtain rfl : w1 = (.int i1) := Option.some.inj e1
  obtain ⟨i2, e2⟩ := is_v k2
  obtain rfl : w2 = (.int i2) := Option.some.inj e2
  obtain ⟨i3, e3⟩ := is_v k3
  obtain rfl : w3 = (.int i3) := Option.some.inj e3
  obtain ⟨i4, e4⟩ := isL_v k4
  obtain rfl : w4 = (.long i4) := Option.some.inj e4
  obtain ⟨n, o, h1, h2, h3, _, L, rfl, ⟨rfl, N⟩, hq⟩ := own_law l s _ hw tables_1 i0 i1 i2 i3 i4 s.heap s.heap.size (Nat.le_refl _)  p e ha hc hk s m _ below hf ((Spec.applies_iff_loose hf).mp happ).1 ⟨rfl, State.Warmed39.refl s, rfl⟩ trivial
  refine ⟨n, _, h1, h2, h3, hpost _ _ _ _ _ _ ⟨Cond.after_iff.mpr rfl, Cond.after_iff.mpr (eq_i res_at (Term.int_eval (1)) rfl), trivial⟩ ⟨hq.1, hq.2.1, (hq.2.2.sift fun y hy => Or.inr (N y hy)).mono (by decide) (by decide)⟩⟩
theorem main_1_1 : Claimed_1_1 := own_comes fun _ _ _ _ _ _ h hF => ⟨h.1, hF⟩
theorem main_1_2 : Claimed_1_2 := own_comes fun _ _ _ _ _ _ h hF => ⟨h.2.1, hF⟩
end Jvm.Pilot.@@N@@
namespace Jvm.Pilot.@@N@@
open Jvm Jvm.ClassFile Sem Op Lib Jvm.Free Jvm.Stand Jvm.Pilot.@@N@@.Jvm.D
/-! MADE BY PROGRAM (witnessworld.py) out of the Statement's table words and the real class files: 11 classes; the members and pool entries that the words name. The judged class is class 1, her method 1. -/
namespace start1
open Jvm.ClassFile
def u (s : String) : CpInfo := .utf8 (stringToUtf16 s)
/-- a pool by its gaps: so many unusable entries, then the entry; so many at the end -/
def gap : Nat → List CpInfo → List CpInfo
  | 0, r => r
  | n + 1, r => .unusable :: gap n r
def poolList (es : List (Nat × CpInfo)) (last : Nat) : List CpInfo := es.foldr (fun e r => gap e.1 (e.2 :: r)) (gap last [])
def pool (es : List (Nat × CpInfo)) (last : Nat) : Array CpInfo := ⟨poolList es last⟩
def fileOf (pool : Array CpInfo) (this : Nat) (attrs : Array Attribute := #[]) (ms : Array MethodInfo := #[]) (fl : Nat := 33) (sup : Nat := 0) (ifs : Array Nat := #[]) (fds : Array FieldInfo := #[]) : ClassFile where
  minorVersion := 0
  majorVersion := 65
  constantPool := pool
  accessFlags := fl
  thisClass := this
  superClass := sup
  interfaces := ifs
  fields := fds
  methods := ms
  attributes := attrs
def plain (name : String) (sup : Option ClassId) : Class where
  name := name
  kind := .ordinary
  loader := none
  accessFlags := 33
  super := sup
  interfaces := #[]
  cf := none
  fields := #[]
  methods := #[]
  instanceTypes := #[]
  staticTypes := #[]
  resolved := #[]
  callSites := []
  init := .initialized
  statics := none
  mirror := none

def pool0 : Array CpInfo := pool [(5, u "<init>"), (0, u "()V"), (1, .class_ 10), (1, u "java/lang/Object")] 113

def k0c0 : Code := { maxStack := 0, maxLocals := 1, code := object_method_1_code, exceptionTable := #[], attributes := #[] }
def k0m0 : Method := { name := "<init>", desc := "()V", sig := { parameters := [], returnType := none }, accessFlags := 1, code := some k0c0 }
/-- java/lang/Object -/
def k0 : Class := { plain "java/lang/Object" none with
  accessFlags := 33
  interfaces := #[]
  cf := some (fileOf pool0 8 #[] #[{ accessFlags := 1, nameIndex := 5, descriptorIndex := 6, attributes := #[] }] 33 0 #[] #[])
  fields := #[]
  methods := #[k0m0]
  instanceTypes := #[]
  staticTypes := #[]
  resolved := Array.replicate 124 none
  statics := none }

def pool1 : Array CpInfo := pool [(2, .class_ 4), (1, u "java/lang/Object"), (0, u "<init>"), (0, u "()V"), (0, .class_ 8), (0, u "com/example/galicia/galicia/lime/SparseVector"), (0, .methodref 7 10), (0, .nameAndType 5 11), (0, u "([I[D)V"), (0, .methodref 7 13), (0, .nameAndType 14 15), (0, u "addTo"), (0, u "([DD)V"), (0, .methodref 17 18), (0, .class_ 19), (0, .nameAndType 20 21), (0, u "com/example/galicia/galicia/lime/SparseVectorAddToPinLaw"), (0, u "ok"), (0, u "(DJIIIIJJJ)Z"), (2, u "law"), (0, u "(IIIIJ)Z")] 7

def k1m0 : Method := { name := "<init>", desc := "()V", sig := { parameters := [], returnType := none }, accessFlags := 1, code := none }
def k1c1 : Code := { maxStack := 14, maxLocals := 31, code := code, exceptionTable := #[], attributes := #[] }
def k1m1 : Method := { name := "law", desc := "(IIIIJ)Z", sig := { parameters := [.int, .int, .int, .int, .long], returnType := some .boolean }, accessFlags := 9, code := some k1c1 }
def k1c2 : Code := { maxStack := 6, maxLocals := 16, code := method_3_code, exceptionTable := #[], attributes := #[] }
def k1m2 : Method := { name := "ok", desc := "(DJIIIIJJJ)Z", sig := { parameters := [.double, .long, .int, .int, .int, .int, .long, .long, .long], returnType := some .boolean }, accessFlags := 10, code := some k1c2 }
/-- com/example/galicia/galicia/lime/SparseVectorAddToPinLaw -/
def k1 : Class := { plain "com/example/galicia/galicia/lime/SparseVectorAddToPinLaw" (some 0) with
  accessFlags := 49
  interfaces := #[]
  cf := some (fileOf pool1 17 #[] #[{ accessFlags := 1, nameIndex := 5, descriptorIndex := 6, attributes := #[] }, { accessFlags := 9, nameIndex := 24, descriptorIndex := 25, attributes := #[] }, { accessFlags := 10, nameIndex := 20, descriptorIndex := 21, attributes := #[] }] 49 2 #[] #[])
  fields := #[]
  methods := #[k1m0, k1m1, k1m2]
  instanceTypes := #[]
  staticTypes := #[]
  resolved := Array.replicate 33 none
  statics := none }

def pool2 : Array CpInfo := pool [(1, .methodref 2 3), (0, .class_ 4), (0, .nameAndType 5 6), (0, u "java/lang/Object"), (0, u "<init>"), (0, u "()V"), (0, .fieldref 8 9), (0, .class_ 10), (0, .nameAndType 11 12), (0, u "com/example/galicia/galicia/lime/SparseVector"), (0, u "positions"), (0, u "[I"), (0, .fieldref 8 14), (0, .nameAndType 15 16), (0, u "values"), (0, u "[D"), (2, u "addTo"), (0, u "([DD)V"), (8, u "([I[D)V"), (16, u "ROUNDING"), (0, u "D")] 23

def k2c0 : Code := { maxStack := 2, maxLocals := 3, code := prog_32_method_1_code, exceptionTable := #[], attributes := #[] }
def k2m0 : Method := { name := "<init>", desc := "([I[D)V", sig := { parameters := [(.array .int), (.array .double)], returnType := none }, accessFlags := 0, code := some k2c0 }
def k2c1 : Code := { maxStack := 8, maxLocals := 5, code := prog_32_method_11_code, exceptionTable := #[], attributes := #[] }
def k2m1 : Method := { name := "addTo", desc := "([DD)V", sig := { parameters := [(.array .double), .double], returnType := none }, accessFlags := 0, code := some k2c1 }
/-- com/example/galicia/galicia/lime/SparseVector -/
def k2 : Class := { plain "com/example/galicia/galicia/lime/SparseVector" (some 0) with
  accessFlags := 48
  interfaces := #[]
  cf := some (fileOf pool2 8 #[] #[{ accessFlags := 0, nameIndex := 5, descriptorIndex := 29, attributes := #[] }, { accessFlags := 0, nameIndex := 19, descriptorIndex := 20, attributes := #[] }] 48 2 #[] #[{ accessFlags := 24, nameIndex := 46, descriptorIndex := 47, attributes := #[] }, { accessFlags := 18, nameIndex := 11, descriptorIndex := 12, attributes := #[] }, { accessFlags := 18, nameIndex := 15, descriptorIndex := 16, attributes := #[] }])
  fields := #[{ name := "ROUNDING", type := .double, accessFlags := 24, slot := 0, constantValue := 0 }, { name := "positions", type := (.array .int), accessFlags := 18, slot := 0, constantValue := 0 }, { name := "values", type := (.array .double), accessFlags := 18, slot := 1, constantValue := 0 }]
  methods := #[k2m0, k2m1]
  instanceTypes := #[(.array .int), (.array .double)]
  staticTypes := #[.double]
  resolved := Array.replicate 71 none
  statics := none }

def pool3 : Array CpInfo := pool [(1, u "java/lang/Cloneable"), (0, .class_ 1), (0, u "java/lang/Object"), (0, .class_ 3)] 3

/-- java/lang/Cloneable -/
def k3 : Class := { plain "java/lang/Cloneable" (some 0) with
  accessFlags := 1537
  interfaces := #[]
  cf := some (fileOf pool3 2 #[] #[] 1537 4 #[] #[])
  fields := #[]
  methods := #[]
  instanceTypes := #[]
  staticTypes := #[]
  resolved := Array.replicate 8 none
  statics := none }

def pool4 : Array CpInfo := pool [(1, u "java/io/Serializable"), (0, .class_ 1), (0, u "java/lang/Object"), (0, .class_ 3)] 3

/-- java/io/Serializable -/
def k4 : Class := { plain "java/io/Serializable" (some 0) with
  accessFlags := 1537
  interfaces := #[]
  cf := some (fileOf pool4 2 #[] #[] 1537 4 #[] #[])
  fields := #[]
  methods := #[]
  instanceTypes := #[]
  staticTypes := #[]
  resolved := Array.replicate 8 none
  statics := none }

/-- the primitive byte -/
def k5 : Class := { plain "byte" none with kind := .primitive 'B', accessFlags := 0x411 }
/-- [B -/
def k6 : Class := { plain "[B" (some 0) with kind := .array 5 .byte, interfaces := #[3, 4], accessFlags := 1041 }

/-- the primitive double -/
def k7 : Class := { plain "double" none with kind := .primitive 'D', accessFlags := 0x411 }
/-- [D -/
def k8 : Class := { plain "[D" (some 0) with kind := .array 7 .double, interfaces := #[3, 4], accessFlags := 1041 }

/-- the primitive int -/
def k9 : Class := { plain "int" none with kind := .primitive 'I', accessFlags := 0x411 }
/-- [I -/
def k10 : Class := { plain "[I" (some 0) with kind := .array 9 .int, interfaces := #[3, 4], accessFlags := 1041 }

def heap : Heap := #[]
def classes : Array Class := #[k0, k1, k2, k3, k4, k5, k6, k7, k8, k9, k10]
def interned : List (Array UInt16 × Addr) := []
def slotsUsed : Nat := 0
def theMethod : MethodId := ⟨1, 1⟩
def args0 : Array Value := #[.int 5, .int 7, .int 9, .int 9, .long 9]
def aboutOver (below : List Frame) : State where
  vm := { classes := classes, interned := interned.toArray }
  heap := heap
  slotsUsed := slotsUsed
  threads := #[{ frames := .invoking theMethod args0 :: below }]
def below0 : List Frame := [.native { method := ⟨0, 0⟩, args := #[] }]
def about1 : State := aboutOver below0
def p0 : Program := .bare "" "" ""
def e0 : Env := launch0.env 0 0 0
theorem w_frames : about1.frames = Frame.invoking theMethod args0 :: below0 := rfl
set_option maxRecDepth 65536 in
theorem w_args : argsFit about1.vm theMethod args0 = true := by decide +kernel
set_option maxRecDepth 65536 in
theorem w_heap : heapFits about1 = true := by decide +kernel
set_option maxRecDepth 65536 in
theorem w_runnable : about1.curStatus? = some .runnable := by decide +kernel
set_option maxRecDepth 65536 in
theorem w_alone : about1.alone = true := by decide +kernel
set_option maxRecDepth 65536 in
theorem w_named : about1.methodNamed? x = some theMethod := by decide +kernel
set_option maxRecDepth 65536 in
theorem w_hears : about1.hears theMethod below0 = true := by decide +kernel
set_option maxRecDepth 65536 in
theorem w_ripe : about1.ripe theMethod args0 below0 = true := by decide +kernel
theorem w_running : about1.status = .running := rfl
set_option maxRecDepth 65536 in
theorem w_room : about1.hasRoom e0.platform room_1 = true :=
  launch0.hasRoom_least _ room_1 (by decide +kernel) (by decide +kernel) (by decide +kernel) (by decide +kernel) (by decide +kernel) (by decide +kernel)
theorem allAtoms_all (ts : List Jvm.Cond) (a : Array Jvm.Value) (st : Jvm.State) : (allAtoms ts).before a st = ts.all (fun c => c.before a st) := by
  induction ts with
  | nil => rfl
  | cons c t ih =>
    show (Jvm.Cond.and c (allAtoms t)).before a st = _
    rw [Jvm.Cond.before_and, ih, List.all_cons]
def words1 : List Jvm.Cond := Jvm.Cond.code x code maxLocals ret :: tables_1
/-- a 'code' word, met by the world's own term for the bytes: nothing is compared byte by byte -/
theorem code_word {y : MethodName} {bytes : ByteArray} {mx : Nat} {rt : Option FieldType} {a : Array Value} {s : State} {m : MethodId} {meth : Method} {c : Code} (h1 : s.methodNamed? y = some m) (h2 : s.vm.method? m = some meth) (h3 : meth.code = some c) (h4 : c.code = bytes)
    (h5 : (c.maxLocals == mx && c.exceptionTable.isEmpty && decide (c.maxStack ≤ mostOperands) && decide (meth.sig.returnType = rt) && !meth.locks && decide (parseMethodDescriptor y.desc = some meth.sig)) = true) : (Jvm.Cond.code y bytes mx rt).before a s = true := by
  simp only [Bool.and_eq_true, beq_iff_eq, Bool.not_eq_true', decide_eq_true_eq] at h5
  obtain ⟨⟨⟨⟨⟨g1, g2⟩, g3⟩, g4⟩, g5⟩, g6⟩ := h5
  simp [Cond.before, Cond.holds, Cond.value, h1, h2, h3, h4, g1, g2, g3, g4, g5, g6]
def isCode : Jvm.Cond → Bool
  | .code _ _ _ _ => true
  | _ => false
theorem all_split {L : List Jvm.Cond} {P : Jvm.Cond → Bool} (h1 : L.all (fun c => isCode c || P c) = true) (h2 : ∀ c ∈ L.filter isCode, P c = true) : L.all P = true := by
  refine List.all_eq_true.mpr fun c hc => ?_
  have h := List.all_eq_true.mp h1 c hc
  rcases Bool.eq_false_or_eq_true (isCode c) with hi | hi
  · exact h2 c (List.mem_filter.mpr ⟨hc, hi⟩)
  · simpa [hi] using h
set_option maxRecDepth 65536 in
theorem w_c0 : (Jvm.Cond.code x code maxLocals ret).before args0 about1 = true := code_word (m := ⟨1, 1⟩) (meth := k1m1) (c := k1c1) (by decide +kernel) rfl rfl rfl (by decide +kernel)
set_option maxRecDepth 65536 in
theorem w_c1 : (Jvm.Cond.code ({ cls := "com/example/galicia/galicia/lime/SparseVector", name := "<init>", desc := "([I[D)V" } : Jvm.MethodName) prog_32_method_1_code (3 : Nat) (Option.none : Option Jvm.ClassFile.FieldType)).before args0 about1 = true := code_word (m := ⟨2, 0⟩) (meth := k2m0) (c := k2c0) (by decide +kernel) rfl rfl rfl (by decide +kernel)
set_option maxRecDepth 65536 in
theorem w_c2 : (Jvm.Cond.code ({ cls := "java/lang/Object", name := "<init>", desc := "()V" } : Jvm.MethodName) object_method_1_code (1 : Nat) (Option.none : Option Jvm.ClassFile.FieldType)).before args0 about1 = true := code_word (m := ⟨0, 0⟩) (meth := k0m0) (c := k0c0) (by decide +kernel) rfl rfl rfl (by decide +kernel)
set_option maxRecDepth 65536 in
theorem w_c3 : (Jvm.Cond.code ({ cls := "com/example/galicia/galicia/lime/SparseVector", name := "addTo", desc := "([DD)V" } : Jvm.MethodName) prog_32_method_11_code (5 : Nat) (Option.none : Option Jvm.ClassFile.FieldType)).before args0 about1 = true := code_word (m := ⟨2, 1⟩) (meth := k2m1) (c := k2c1) (by decide +kernel) rfl rfl rfl (by decide +kernel)
set_option maxRecDepth 65536 in
theorem w_c4 : (Jvm.Cond.code ({ cls := "com/example/galicia/galicia/lime/SparseVectorAddToPinLaw", name := "ok", desc := "(DJIIIIJJJ)Z" } : Jvm.MethodName) method_3_code (16 : Nat) (Option.some Jvm.ClassFile.FieldType.boolean)).before args0 about1 = true := code_word (m := ⟨1, 2⟩) (meth := k1m2) (c := k1c2) (by decide +kernel) rfl rfl rfl (by decide +kernel)
def codes1 : List Jvm.Cond := [Jvm.Cond.code x code maxLocals ret, Jvm.Cond.code ({ cls := "com/example/galicia/galicia/lime/SparseVector", name := "<init>", desc := "([I[D)V" } : Jvm.MethodName) prog_32_method_1_code (3 : Nat) (Option.none : Option Jvm.ClassFile.FieldType), Jvm.Cond.code ({ cls := "java/lang/Object", name := "<init>", desc := "()V" } : Jvm.MethodName) object_method_1_code (1 : Nat) (Option.none : Option Jvm.ClassFile.FieldType), Jvm.Cond.code ({ cls := "com/example/galicia/galicia/lime/SparseVector", name := "addTo", desc := "([DD)V" } : Jvm.MethodName) prog_32_method_11_code (5 : Nat) (Option.none : Option Jvm.ClassFile.FieldType), Jvm.Cond.code ({ cls := "com/example/galicia/galicia/lime/SparseVectorAddToPinLaw", name := "ok", desc := "(DJIIIIJJJ)Z" } : Jvm.MethodName) method_3_code (16 : Nat) (Option.some Jvm.ClassFile.FieldType.boolean)]
set_option maxRecDepth 65536 in
theorem codes_eq : words1.filter isCode = codes1 := rfl
theorem w_codes : ∀ c ∈ words1.filter isCode, c.before args0 about1 = true := by
  rw [codes_eq]
  intro c hc
  simp only [codes1, List.mem_cons, List.not_mem_nil, or_false] at hc
  rcases hc with rfl | rfl | rfl | rfl | rfl
  · exact w_c0
  · exact w_c1
  · exact w_c2
  · exact w_c3
  · exact w_c4
set_option maxRecDepth 65536 in
theorem w_t1 : (words1.take 24).all (fun c => isCode c || c.before args0 about1) = true := by decide +kernel
set_option maxRecDepth 65536 in
theorem w_t2 : (words1.drop 24).all (fun c => isCode c || c.before args0 about1) = true := by decide +kernel
theorem w_tables : (allAtoms (Jvm.Cond.code x code maxLocals ret :: tables_1)).before args0 about1 = true := by
  rw [allAtoms_all]
  show words1.all (fun c => c.before args0 about1) = true
  refine all_split ?_ w_codes
  rw [← List.take_append_drop 24 words1, List.all_append, w_t1, w_t2]
  rfl
set_option maxRecDepth 65536 in
theorem w_case : (Jvm.Cond.and given_1 narrow_1).before args0 about1 = true := by decide +kernel
theorem w_applies : (headSpec (Jvm.Cond.code x code maxLocals ret :: tables_1) room_1).applies x e0.platform about1 = true :=
  (Spec.applies_iff w_frames).mpr ⟨w_running, w_runnable, w_alone, w_named, w_hears, w_ripe, w_room, w_tables⟩
theorem atStart : AtStart classFile x code maxLocals ret World_1 tables_1 room_1 Calls_1 rest_1 Pre_1 launch0 p0 e0 about1 theMethod args0 below0 :=
  ⟨lists_1, trivial, launch0.admits_env _ _ _, launch0.least_env, fairChoices_fair.cas, fairChoices_fair.clock, w_frames, w_args, w_heap, w_applies, trivial, trivial, w_case⟩
end start1
theorem witness_1 : WitnessClaimed_1 := ⟨start1.p0, start1.e0, start1.about1, start1.theMethod, start1.args0, start1.below0, start1.atStart⟩
end Jvm.Pilot.@@N@@
