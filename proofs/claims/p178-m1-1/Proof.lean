import JvmDerived
import JvmDerived.Pilot.@@N@@Statement
import JvmDerived.Pilot.@@N@@Code
set_option linter.unusedVariables false
set_option linter.unusedSimpArgs false
namespace Jvm.RoadKit
open Sem ClassFile Op Lib Jvm.Stand Jvm.Free Jvm.LawKit
/-- what is left of a walk: from this frame the method returns, and what it leaves is as Q says -/
def own_Go (p : Program) (e : Env) (below : List Frame) (s : State) (Q : Option Value → Heap → List Loc → Prop) (kc ks : Nat) (T : State) (g : JFrame) : Prop :=
  ∃ s₂ o, Steps p.tables e below (T.setTop g) s₂ ∧ s₂.status = .running ∧ Ended s₂ below o ∧ ∃ v L, o = .returned v ∧ Q v s₂.heap L ∧ FrameEnd s o s₂ L kc ks
section Own
variable {p : Program} {l : Launch} {e : Env} {R : Room} {s : State} {m : MethodId} {args : Array Value} {below : List Frame} {meth : Method} {c : Code} {T T' : State} {locs : List Loc} {cells slots : Nat} {Z : State} {h h' h0 : Heap} {Q : Option Value → Heap → List Loc → Prop} {kc ks : Nat} {g g' : JFrame} {a0 : Array Value} {pc : Nat} {Ls : Array Slot} {rest : List Value} {a b : Addr} {n0 : Nat} {ty : FieldType} {vs : List Value} {C : String} {sl : Nat} {v : Value} {ws : List Addr}
theorem own_pre (st : ∀ t, Steps p.tables e below (T'.setTop g') t → Steps p.tables e below (T.setTop g) t) (k : own_Go p e below s Q kc ks T' g') : own_Go p e below s Q kc ks T g := by
  obtain ⟨s₂, o, h1, r⟩ := k
  exact ⟨s₂, o, st _ h1, r⟩
theorem own_tr (st : Steps p.tables e below (T.setTop g) (T'.setTop g')) (k : own_Go p e below s Q kc ks T' g') : own_Go p e below s Q kc ks T g := by
  obtain ⟨s₂, o, h1, r⟩ := k
  exact ⟨s₂, o, st.trans h1, r⟩
theorem own_cast (q : g = g') (k : own_Go p e below s Q kc ks T g') : own_Go p e below s Q kc ks T g := q ▸ k
theorem own_ret (X : Stand p l e R s m args below meth c T locs cells slots) (hlk : meth.locks = false) {v : Option Value} (hv : meth.sig.returnType = none → v = none) (eT : T.heap = h)
    (st : ∀ fs, (∀ (f : JFrame) (acts : List Action), f.method = m → f.locked = none → f.entered = [] → (doReturn e (T.setTop f) acts v).1 = T.setFrames fs) → Steps p.tables e below (T.setTop g) (T.setFrames fs))
    (hq : Q v h locs) (hc : cells ≤ kc) (hs : slots ≤ ks) : own_Go p e below s Q kc ks T g := by
  obtain ⟨fs, hr, hrun, hended, hW, hsame⟩ := X.leave (v := v) hv hlk
  exact ⟨_, _, st fs hr, hrun, hended, _, _, rfl, (by show Q v T.heap _; rw [eT]; exact hq), ⟨_, rfl⟩, hW, hsame.mono hc hs⟩
theorem own_ret0 (X : Stand p l e R s m args below meth c T locs cells slots) (hx : p.tables.exec = Jvm.exec) (hlk : meth.locks = false) (hret : meth.sig.returnType = none) (hd : decode c.code pc = .ok (.return_, 1)) (eT : T.heap = h) (hq : Q none h locs) (hc : cells ≤ kc) (hs : slots ≤ ks) : own_Go p e below s Q kc ks T (mkF m pc Ls []) :=
  own_ret X hlk (fun _ => rfl) eT (fun _ hr => X.returnOut hx hret hd hr) hq hc hs
theorem own_ret1 (X : Stand p l e R s m args below meth c T locs cells slots) (hx : p.tables.exec = Jvm.exec) (hlk : meth.locks = false) {w : Value} {t : FieldType} {i : Instr} (hret : meth.sig.returnType = some t) (hn : narrow t w = w)
    (hi : (i = .ireturn ∧ (t = .int ∨ t = .boolean ∨ t = .byte ∨ t = .char ∨ t = .short) ∧ ∃ z, w = .int z) ∨ (i = .lreturn ∧ t = .long ∧ ∃ z, w = .long z) ∨ (i = .dreturn ∧ t = .double ∧ ∃ z, w = .double z) ∨ (i = .freturn ∧ t = .float ∧ ∃ z, w = .float z) ∨ (i = .areturn ∧ t.isReference = true ∧ w.isRef = true))
    (hd : decode c.code pc = .ok (i, 1)) (eT : T.heap = h) (hq : Q (some w) h locs) (hc : cells ≤ kc) (hs : slots ≤ ks) : own_Go p e below s Q kc ks T (mkF m pc Ls (w :: rest)) :=
  own_ret X hlk (fun q => by rw [hret] at q; cases q) eT (fun _ hr => retOut X hx hret hn hi hd hr) hq hc hs
theorem own_retI (X : Stand p l e R s m args below meth c T locs cells slots) (hx : p.tables.exec = Jvm.exec) (hlk : meth.locks = false) {z : Int32} (hret : meth.sig.returnType = some .int) (hd : decode c.code pc = .ok (.ireturn, 1)) (eT : T.heap = h) (hq : Q (some (.int z)) h locs) (hc : cells ≤ kc) (hs : slots ≤ ks) : own_Go p e below s Q kc ks T (mkF m pc Ls (.int z :: rest)) :=
  own_ret1 X hx hlk hret rfl (Or.inl ⟨rfl, Or.inl rfl, _, rfl⟩) hd eT hq hc hs
theorem own_retZ (X : Stand p l e R s m args below meth c T locs cells slots) (hx : p.tables.exec = Jvm.exec) (hlk : meth.locks = false) {z : Int32} (hret : meth.sig.returnType = some .boolean) (hn : narrow .boolean (.int z) = .int z) (hd : decode c.code pc = .ok (.ireturn, 1)) (eT : T.heap = h) (hq : Q (some (.int z)) h locs) (hc : cells ≤ kc) (hs : slots ≤ ks) : own_Go p e below s Q kc ks T (mkF m pc Ls (.int z :: rest)) :=
  own_ret1 X hx hlk hret hn (Or.inl ⟨rfl, Or.inr (Or.inl rfl), _, rfl⟩) hd eT hq hc hs
theorem own_retL (X : Stand p l e R s m args below meth c T locs cells slots) (hx : p.tables.exec = Jvm.exec) (hlk : meth.locks = false) {z : Int64} (hret : meth.sig.returnType = some .long) (hd : decode c.code pc = .ok (.lreturn, 1)) (eT : T.heap = h) (hq : Q (some (.long z)) h locs) (hc : cells ≤ kc) (hs : slots ≤ ks) : own_Go p e below s Q kc ks T (mkF m pc Ls (.long z :: rest)) :=
  own_ret1 X hx hlk hret rfl (Or.inr (Or.inl ⟨rfl, rfl, _, rfl⟩)) hd eT hq hc hs
theorem own_retD (X : Stand p l e R s m args below meth c T locs cells slots) (hx : p.tables.exec = Jvm.exec) (hlk : meth.locks = false) {z : UInt64} (hret : meth.sig.returnType = some .double) (hd : decode c.code pc = .ok (.dreturn, 1)) (eT : T.heap = h) (hq : Q (some (.double z)) h locs) (hc : cells ≤ kc) (hs : slots ≤ ks) : own_Go p e below s Q kc ks T (mkF m pc Ls (.double z :: rest)) :=
  own_ret1 X hx hlk hret rfl (Or.inr (Or.inr (Or.inl ⟨rfl, rfl, _, rfl⟩))) hd eT hq hc hs
theorem own_retA (X : Stand p l e R s m args below meth c T locs cells slots) (hx : p.tables.exec = Jvm.exec) (hlk : meth.locks = false) {w : Value} {t : FieldType} (hret : meth.sig.returnType = some t) (ht : t.isReference = true) (hw : w.isRef = true) (hn : narrow t w = w) (hd : decode c.code pc = .ok (.areturn, 1)) (eT : T.heap = h) (hq : Q (some w) h locs) (hc : cells ≤ kc) (hs : slots ≤ ks) : own_Go p e below s Q kc ks T (mkF m pc Ls (w :: rest)) :=
  own_ret1 X hx hlk hret hn (Or.inr (Or.inr (Or.inr (Or.inr ⟨rfl, ht, hw⟩)))) hd eT hq hc hs
/-- a contract out of a walk -/
theorem own_met {y : MethodName} {bytes : ByteArray} {maxL : Nat} {ret : Option FieldType} {wds : List Cond} {rm : Room} {as' : Array Value} (hpl : plainName y.cls = true)
    (body : ∀ p e s m below meth c s₁, p.tables.exec = Jvm.exec → c.code = bytes → c.maxLocals = maxL → Z.Warmed39 s.vm → s.vm.findClass y.cls = some m.cls → meth.name = y.name → meth.sig.returnType = ret → meth.locks = false → Stand p l e rm s m as' below meth c s₁ [] 0 0 → s₁.heap = h → own_Go p e below s Q rm.cells rm.slots s₁ (entryFrame m as' maxL)) :
    MetFree l y (head1 (Cond.code y bytes maxL ret :: wds) rm) (fun a U => a = as' ∧ Z.Warmed39 U.vm ∧ U.heap = h) (fun _ _ _ _ _ => True) (fun _ U o U' => ∃ v L, o = .returned v ∧ Q v U'.heap L ∧ FrameEnd U o U' L rm.cells rm.slots) := by
  refine MetFree.of_bodySF (plainFor_of_name hpl) hisR ?_
  intro p e s m args below meth c s₁ Bd hml0 hP hK
  obtain ⟨rfl, hZ, hh⟩ := hP
  exact body p e s m below meth c s₁ Bd.exec Bd.bytes hml0 hZ (findClass_of_methodNamed Bd.named) (name_of_methodNamed Bd.named Bd.method).1 Bd.returns Bd.notSynchronized (Stand.of_body Bd) (by rw [← hh, Bd.state]; rfl)
/-! arrays by their list -/
def own_Ary (Z : State) (h : Heap) (a : Addr) (ty : FieldType) (vs : List Value) : Prop := ∃ c : Cell, Arr Z h a c ty ∧ c.slots.toList = vs ∧ vs.length < 2 ^ 31
theorem own_Ary.lt (F : own_Ary Z h a ty vs) : a < h.size := by obtain ⟨c, A, -⟩ := F; exact A.lt
theorem own_Ary.ext (F : own_Ary Z h a ty vs) (E : Ext h h') : own_Ary Z h' a ty vs := by obtain ⟨c, A, r⟩ := F; exact ⟨c, A.ext E, r⟩
theorem own_Ary.other (F : own_Ary Z h b ty vs) (W : Wr h h' a sl v) (q : b ≠ a) : own_Ary Z h' b ty vs := by obtain ⟨c, A, r⟩ := F; exact ⟨c, A.other W q, r⟩
theorem own_Ary.keep (F : own_Ary Z h a ty vs) (K : Keep h h' ws) (q : a ∉ ws) : own_Ary Z h' a ty vs := by obtain ⟨c, A, r⟩ := F; exact ⟨c, ⟨K.2.1 a c A.1 q, A.2⟩, r⟩
theorem own_Ary.set (F : own_Ary Z h a ty vs) (W : Wr h h' a sl v) : own_Ary Z h' a ty (vs.set sl v) := by
  obtain ⟨c, A, r1, r2⟩ := F
  refine ⟨_, A.same W, ?_, by simpa using r2⟩
  simp [Cell.setSlot, r1]
theorem own_Ary.new {k : ClassId} {z : Int32} {n : Nat} (A : Arr Z h a (newA k ty z) ty) (q : z.toNatClampNeg = n) : own_Ary Z h a ty (List.replicate n (defaultValue ty)) := by
  refine ⟨_, A, ?_, ?_⟩
  · simp [newA, q]
  · have h1 := Int32.toInt_lt z
    simp only [Int32.toNatClampNeg] at q
    simp only [List.length_replicate]; omega
theorem own_inb {j : Int32} {n : Nat} {c : Cell} (h0 : 0 ≤ j) (hc : c.slots.toList = vs) (hj : j.toNatClampNeg = n) (hn : n < vs.length) : ¬ (j < 0 ∨ c.slots.size ≤ j.toNatClampNeg) := by
  subst hc hj
  rw [Array.length_toList] at hn
  intro q
  rcases q with q | q
  · exact absurd q (Int32.not_lt.mpr h0)
  · omega
theorem own_idx {n : Nat} {c : Cell} (hc : c.slots.toList = vs) (hv : vs[n]? = some v) : c.slots[n]? = some v := by
  subst hc; simpa using hv
theorem own_len (X : Stand p l e R s m args below meth c T locs cells slots) (hx : p.tables.exec = Jvm.exec) (hZ : Z.Warmed39 s.vm) (eT : T.heap = h) (F : own_Ary Z h a ty vs) (hd : decode c.code pc = .ok (.arraylength, 1)) {n : Int32} (hn : vs.length.toInt32 = n)
    (k : own_Go p e below s Q kc ks T (mkF m (pc + 1) Ls (.int n :: rest))) : own_Go p e below s Q kc ks T (mkF m pc Ls (.ref a :: rest)) := by
  obtain ⟨cl, A, r1, r2⟩ := F
  refine own_pre (fun t k => X.arraylength hx (cell := cl) (by rw [eT]; exact A.1) (State.isArrayOf_alike hZ.alike A.2.1) (g := mkF m pc Ls (.ref a :: rest)) rfl (rest := rest) rfl hd _ k) ?_
  have q : cl.slots.size = vs.length := by rw [← r1, Array.length_toList]
  rw [q, hn]; exact k
theorem own_iaload (X : Stand p l e R s m args below meth c T locs cells slots) (hx : p.tables.exec = Jvm.exec) (hZ : Z.Warmed39 s.vm) (eT : T.heap = h) (F : own_Ary Z h a .int vs) (hd : decode c.code pc = .ok (.iaload, 1)) {j : Int32} {n : Nat} (h0 : 0 ≤ j) (hj : j.toNatClampNeg = n) (hv : vs[n]? = some v)
    (k : own_Go p e below s Q kc ks T (mkF m (pc + 1) Ls (v :: rest))) : own_Go p e below s Q kc ks T (mkF m pc Ls (.int j :: .ref a :: rest)) := by
  obtain ⟨cl, A, r1, r2⟩ := F
  exact own_pre (fun t k => X.iaload hx (j := j) (v := v) (by rw [eT]; exact A.1) (State.isArrayOf_alike hZ.alike A.2.1) A.2.2 (own_inb h0 r1 hj (List.getElem?_eq_some_iff.mp hv).1) (own_idx r1 (hj ▸ hv)) (g := mkF m pc Ls (.int j :: .ref a :: rest)) rfl rfl hd _ k) k
theorem own_laload (X : Stand p l e R s m args below meth c T locs cells slots) (hx : p.tables.exec = Jvm.exec) (hZ : Z.Warmed39 s.vm) (eT : T.heap = h) (F : own_Ary Z h a .long vs) (hd : decode c.code pc = .ok (.laload, 1)) {j : Int32} {n : Nat} (h0 : 0 ≤ j) (hj : j.toNatClampNeg = n) (hv : vs[n]? = some v)
    (k : own_Go p e below s Q kc ks T (mkF m (pc + 1) Ls (v :: rest))) : own_Go p e below s Q kc ks T (mkF m pc Ls (.int j :: .ref a :: rest)) := by
  obtain ⟨cl, A, r1, r2⟩ := F
  exact own_pre (fun t k => X.laload hx (j := j) (v := v) (by rw [eT]; exact A.1) (State.isArrayOf_alike hZ.alike A.2.1) A.2.2 (own_inb h0 r1 hj (List.getElem?_eq_some_iff.mp hv).1) (own_idx r1 (hj ▸ hv)) (g := mkF m pc Ls (.int j :: .ref a :: rest)) rfl rfl hd _ k) k
theorem own_daload (X : Stand p l e R s m args below meth c T locs cells slots) (hx : p.tables.exec = Jvm.exec) (hZ : Z.Warmed39 s.vm) (eT : T.heap = h) (F : own_Ary Z h a .double vs) (hd : decode c.code pc = .ok (.daload, 1)) {j : Int32} {n : Nat} (h0 : 0 ≤ j) (hj : j.toNatClampNeg = n) (hv : vs[n]? = some v)
    (k : own_Go p e below s Q kc ks T (mkF m (pc + 1) Ls (v :: rest))) : own_Go p e below s Q kc ks T (mkF m pc Ls (.int j :: .ref a :: rest)) := by
  obtain ⟨cl, A, r1, r2⟩ := F
  exact own_pre (fun t k => X.daload hx (j := j) (v := v) (by rw [eT]; exact A.1) (State.isArrayOf_alike hZ.alike A.2.1) A.2.2 (own_inb h0 r1 hj (List.getElem?_eq_some_iff.mp hv).1) (own_idx r1 (hj ▸ hv)) (g := mkF m pc Ls (.int j :: .ref a :: rest)) rfl rfl hd _ k) k
theorem own_zaload (X : Stand p l e R s m args below meth c T locs cells slots) (hx : p.tables.exec = Jvm.exec) (hZ : Z.Warmed39 s.vm) (eT : T.heap = h) (F : own_Ary Z h a .boolean vs) (hd : decode c.code pc = .ok (.baload, 1)) {j : Int32} {n : Nat} (h0 : 0 ≤ j) (hj : j.toNatClampNeg = n) (hv : vs[n]? = some v)
    (k : own_Go p e below s Q kc ks T (mkF m (pc + 1) Ls (v :: rest))) : own_Go p e below s Q kc ks T (mkF m pc Ls (.int j :: .ref a :: rest)) := by
  obtain ⟨cl, A, r1, r2⟩ := F
  exact own_pre (fun t k => X.baloadBooleans hx (j := j) (v := v) (by rw [eT]; exact A.1) (State.isArrayOf_alike hZ.alike A.2.1) A.2.2 (own_inb h0 r1 hj (List.getElem?_eq_some_iff.mp hv).1) (own_idx r1 (hj ▸ hv)) (g := mkF m pc Ls (.int j :: .ref a :: rest)) rfl rfl hd _ k) k
theorem own_aaload (X : Stand p l e R s m args below meth c T locs cells slots) (hx : p.tables.exec = Jvm.exec) (hZ : Z.Warmed39 s.vm) (eT : T.heap = h) (F : own_Ary Z h a ty vs) (ht : ty.isReference = true) (hd : decode c.code pc = .ok (.aaload, 1)) {j : Int32} {n : Nat} (h0 : 0 ≤ j) (hj : j.toNatClampNeg = n) (hv : vs[n]? = some v)
    (k : own_Go p e below s Q kc ks T (mkF m (pc + 1) Ls (v :: rest))) : own_Go p e below s Q kc ks T (mkF m pc Ls (.int j :: .ref a :: rest)) := by
  obtain ⟨cl, A, r1, r2⟩ := F
  exact own_pre (fun t k => X.aaload hx (j := j) (v := v) (by rw [eT]; exact A.1) (State.isArrayOf_alike hZ.alike A.2.1) ht A.2.2 (own_inb h0 r1 hj (List.getElem?_eq_some_iff.mp hv).1) (own_idx r1 (hj ▸ hv)) (g := mkF m pc Ls (.int j :: .ref a :: rest)) rfl rfl hd _ k) k
theorem own_iastore (X : Stand p l e R s m args below meth c T locs cells slots) (hx : p.tables.exec = Jvm.exec) (hZ : Z.Warmed39 s.vm) (eT : T.heap = h) (N : Fr n0 locs) (q : n0 ≤ a) (F : own_Ary Z h a .int vs) (hd : decode c.code pc = .ok (.iastore, 1)) {j x : Int32} {n : Nat} (h0 : 0 ≤ j) (hj : j.toNatClampNeg = n) (hv : n < vs.length)
    (k : ∀ T' h' locs', Stand p l e R s m args below meth c T' locs' cells slots → T'.heap = h' → Fr n0 locs' → Wr h h' a n (.int x) → own_Go p e below s Q kc ks T' (mkF m (pc + 1) Ls rest)) : own_Go p e below s Q kc ks T (mkF m pc Ls (.int x :: .int j :: .ref a :: rest)) := by
  obtain ⟨cl, A, r1, r2⟩ := F
  obtain ⟨T', h', X', e', W, st⟩ := stI X hx hZ eT A (j := j) (x := x) (own_inb h0 r1 hj hv) (g := mkF m pc Ls (.int x :: .int j :: .ref a :: rest)) rfl rfl hd
  exact own_pre st (k T' h' _ X' e' (Fr.snoc X' N q) (hj ▸ W))
theorem own_lastore (X : Stand p l e R s m args below meth c T locs cells slots) (hx : p.tables.exec = Jvm.exec) (hZ : Z.Warmed39 s.vm) (eT : T.heap = h) (N : Fr n0 locs) (q : n0 ≤ a) (F : own_Ary Z h a .long vs) (hd : decode c.code pc = .ok (.lastore, 1)) {j : Int32} {x : Int64} {n : Nat} (h0 : 0 ≤ j) (hj : j.toNatClampNeg = n) (hv : n < vs.length)
    (k : ∀ T' h' locs', Stand p l e R s m args below meth c T' locs' cells slots → T'.heap = h' → Fr n0 locs' → Wr h h' a n (.long x) → own_Go p e below s Q kc ks T' (mkF m (pc + 1) Ls rest)) : own_Go p e below s Q kc ks T (mkF m pc Ls (.long x :: .int j :: .ref a :: rest)) := by
  obtain ⟨cl, A, r1, r2⟩ := F
  obtain ⟨T', h', X', e', W, st⟩ := stJ X hx hZ eT A (j := j) (x := x) (own_inb h0 r1 hj hv) (g := mkF m pc Ls (.long x :: .int j :: .ref a :: rest)) rfl rfl hd
  exact own_pre st (k T' h' _ X' e' (Fr.snoc X' N q) (hj ▸ W))
theorem own_dastore (X : Stand p l e R s m args below meth c T locs cells slots) (hx : p.tables.exec = Jvm.exec) (hZ : Z.Warmed39 s.vm) (eT : T.heap = h) (N : Fr n0 locs) (q : n0 ≤ a) (F : own_Ary Z h a .double vs) (hd : decode c.code pc = .ok (.dastore, 1)) {j : Int32} {x : UInt64} {n : Nat} (h0 : 0 ≤ j) (hj : j.toNatClampNeg = n) (hv : n < vs.length)
    (k : ∀ T' h' locs', Stand p l e R s m args below meth c T' locs' cells slots → T'.heap = h' → Fr n0 locs' → Wr h h' a n (.double x) → own_Go p e below s Q kc ks T' (mkF m (pc + 1) Ls rest)) : own_Go p e below s Q kc ks T (mkF m pc Ls (.double x :: .int j :: .ref a :: rest)) := by
  obtain ⟨cl, A, r1, r2⟩ := F
  obtain ⟨T', h', X', e', W, st⟩ := stD X hx hZ eT A (j := j) (x := x) (own_inb h0 r1 hj hv) (g := mkF m pc Ls (.double x :: .int j :: .ref a :: rest)) rfl rfl hd
  exact own_pre st (k T' h' _ X' e' (Fr.snoc X' N q) (hj ▸ W))
theorem own_newarr (X : Stand p l e R s m args below meth c T locs cells slots) (hx : p.tables.exec = Jvm.exec) (hZ : Z.Warmed39 s.vm) {aty : ArrayType} (w : (Cond.arrayClass (newarray.typeOf aty)).before a0 Z = true) (eT : T.heap = h) (hd : decode c.code pc = .ok (.newarray aty, 2)) {z : Int32} {n : Nat} (h0 : 0 ≤ z) (hz : z.toNatClampNeg = n) (hb : n * 8 ≤ 536870912) (hc : cells + 1 ≤ R.cells) (hl : slots + n ≤ R.slots) {ad : String} (had : "[" ++ (newarray.typeOf aty).toString = ad)
    (k : ∀ T' h' a, a = h.size → Stand p l e R s m args below meth c T' locs (cells + 1) (slots + n) → T'.heap = h' → Ext h h' → own_Ary Z h' a (newarray.typeOf aty) (List.replicate n (defaultValue (newarray.typeOf aty))) → Exa Z h' a ad → own_Go p e below s Q kc ks T' (mkF m (pc + 2) Ls (.ref a :: rest))) : own_Go p e below s Q kc ks T (mkF m pc Ls (.int z :: rest)) := by
  obtain ⟨T', h', cA, X', e', E, A, E2, st⟩ := newPE X hx hZ w eT (g := mkF m pc Ls (.int z :: rest)) rfl hd rfl (Int32.not_lt.mpr h0) (cap := n) (Nat.le_of_eq hz) hb hc hl had
  exact own_pre st (k T' h' _ rfl X' e' E (own_Ary.new A hz) E2)
theorem own_newobj (X : Stand p l e R s m args below meth c T locs cells slots) (hx : p.tables.exec = Jvm.exec) (hZ : Z.Warmed39 s.vm) {own : String} {index n : Nat} (hown : s.vm.findClass own = some m.cls) (w : (Cond.classLink own index C).before a0 Z = true) (wi : (Cond.instantiable C n).before a0 Z = true) (wz : (Cond.initialized C).before a0 Z = true) (eT : T.heap = h) (hd : decode c.code pc = .ok (.new index, 3)) (hc : cells + 1 ≤ R.cells) (hl : slots + n ≤ R.slots)
    (k : ∀ T' h' a, a = h.size → Stand p l e R s m args below meth c T' locs (cells + 1) (slots + n) → T'.heap = h' → Ext h h' → Exa Z h' a C → (∀ {O nm d : String} {ty : FieldType}, Laid Z a0 C O nm d → parseFieldDescriptor d = some ty → Fld Z h' a O nm d (defaultValue ty)) → own_Go p e below s Q kc ks T' (mkF m (pc + 3) Ls (.ref a :: rest))) : own_Go p e below s Q kc ks T (mkF m pc Ls rest) := by
  obtain ⟨T', h', X', e', E, A, D, -, st⟩ := newO X hx hZ hown w wi wz eT (g := mkF m pc Ls rest) rfl hd hc hl
  exact own_pre st (k T' h' _ rfl X' e' E A D)
theorem own_getf (X : Stand p l e R s m args below meth c T locs cells slots) (hx : p.tables.exec = Jvm.exec) (hZ : Z.Warmed39 s.vm) {own O n d : String} {index : Nat} (hown : s.vm.findClass own = some m.cls) (w : (Cond.fieldLink own index O n d).before a0 Z = true) (eT : T.heap = h) (F : Fld Z h a O n d v) (hd : decode c.code pc = .ok (.getfield index, 3))
    (k : ∀ T', Stand p l e R s m args below meth c T' locs cells slots → T'.heap = h → own_Go p e below s Q kc ks T' (mkF m (pc + 3) Ls (v :: rest))) : own_Go p e below s Q kc ks T (mkF m pc Ls (.ref a :: rest)) := by
  obtain ⟨T', X', e', st⟩ := getF X hx hZ hown (host := "") (Or.inl w) Via.refl eT F (g := mkF m pc Ls (.ref a :: rest)) rfl rfl hd
  exact own_pre st (k T' X' e')
theorem own_gets (X : Stand p l e R s m args below meth c T locs cells slots) (hx : p.tables.exec = Jvm.exec) (hZ : Z.Warmed39 s.vm) {own O n d : String} {index : Nat} (hown : s.vm.findClass own = some m.cls) (w : (Cond.fieldLink own index O n d).before a0 Z = true) (eT : T.heap = h) (F : Sta Z h O n d v) (hd : decode c.code pc = .ok (.getstatic index, 3))
    (k : ∀ T', Stand p l e R s m args below meth c T' locs cells slots → T'.heap = h → own_Go p e below s Q kc ks T' (mkF m (pc + 3) Ls (v :: rest))) : own_Go p e below s Q kc ks T (mkF m pc Ls rest) := by
  obtain ⟨T', X', e', st⟩ := getS X hx hZ (host := "") hown w Via.refl eT F (g := mkF m pc Ls rest) rfl hd
  exact own_pre st (k T' X' e')
theorem own_putf (X : Stand p l e R s m args below meth c T locs cells slots) (hx : p.tables.exec = Jvm.exec) (hZ : Z.Warmed39 s.vm) {own O n d : String} {index kk : Nat} (hown : s.vm.findClass own = some m.cls) (w : (Cond.fieldLink own index O n d).before a0 Z = true) (eT : T.heap = h) (N : Fr n0 locs) (q : n0 ≤ a) {old : Value} (F : Fld Z h a O n d old) (E : Exa Z h a C) (L : (Cond.lays C O n d).before a0 Z = true ∨ ((Cond.laysFinal C O n d).before a0 Z = true ∧ own = O ∧ meth.name = "<init>")) (wi : (Cond.instantiable C kk).before a0 Z = true) (hty : parseFieldDescriptor d = some ty) (hn : narrow ty v = v) (hf : fits ty v = true) (hd : decode c.code pc = .ok (.putfield index, 3))
    (k : ∀ T' h' locs', Stand p l e R s m args below meth c T' locs' cells slots → T'.heap = h' → Fr n0 locs' → Wr h h' a (slotOf Z O n d) v → own_Go p e below s Q kc ks T' (mkF m (pc + 3) Ls rest)) : own_Go p e below s Q kc ks T (mkF m pc Ls (v :: .ref a :: rest)) := by
  obtain ⟨T', h', X', e', W, st⟩ := putF X hx hZ hown (host := "") (Or.inl w) Via.refl eT F E L wi hty hn hf (g := mkF m pc Ls (v :: .ref a :: rest)) rfl rfl hd
  exact own_pre st (k T' h' _ X' e' (Fr.snoc X' N q) W)
theorem own_ldci (X : Stand p l e R s m args below meth c T locs cells slots) (hx : p.tables.exec = Jvm.exec) (hZ : Z.Warmed39 s.vm) {own : String} {index : Nat} {z : Int32} (hown : s.vm.findClass own = some m.cls) (w : (Cond.constant own index z).before a0 Z = true) (hd : decode c.code pc = .ok (.ldc index, 2))
    (k : own_Go p e below s Q kc ks T (mkF m (pc + 2) Ls (.int z :: rest))) : own_Go p e below s Q kc ks T (mkF m pc Ls rest) :=
  own_pre (X.ldcInt hx hown (mv hZ w) (g := mkF m pc Ls rest) rfl hd) k
theorem own_ldcl (X : Stand p l e R s m args below meth c T locs cells slots) (hx : p.tables.exec = Jvm.exec) (hZ : Z.Warmed39 s.vm) {own : String} {index : Nat} {z : Int64} (hown : s.vm.findClass own = some m.cls) (w : (Cond.constantLong own index z).before a0 Z = true) (hd : decode c.code pc = .ok (.ldc2_w index, 3))
    (k : own_Go p e below s Q kc ks T (mkF m (pc + 3) Ls (.long z :: rest))) : own_Go p e below s Q kc ks T (mkF m pc Ls rest) :=
  own_pre (X.ldc2Long hx hown (mv hZ w) (g := mkF m pc Ls rest) rfl hd) k
theorem own_ldcd (X : Stand p l e R s m args below meth c T locs cells slots) (hx : p.tables.exec = Jvm.exec) (hZ : Z.Warmed39 s.vm) {own : String} {index : Nat} {z : UInt64} (hown : s.vm.findClass own = some m.cls) (w : (Cond.constantDouble own index z).before a0 Z = true) (hd : decode c.code pc = .ok (.ldc2_w index, 3))
    (k : own_Go p e below s Q kc ks T (mkF m (pc + 3) Ls (.double z :: rest))) : own_Go p e below s Q kc ks T (mkF m pc Ls rest) :=
  own_pre (X.ldc2DoubleC hx hown (mv hZ w) (g := mkF m pc Ls rest) rfl hd) k
theorem own_init0 (X : Stand p l e R s m args below meth c T locs cells slots) (hx : p.tables.exec = Jvm.exec) (hZ : Z.Warmed39 s.vm) {own : String} {index : Nat} (hown : s.vm.findClass own = some m.cls) (w1 : (Cond.methodLink own index Lib.objectInit).before a0 Z = true) (w2 : (Cond.instanceMethod Lib.objectInit).before a0 Z = true) (w3 : (Cond.code Lib.objectInit ⟨#[0xb1]⟩ 1 none).before a0 Z = true) (eT : T.heap = h) (hd : decode c.code pc = .ok (.invokespecial index, 3)) (hsz : Ls.size = c.maxLocals) (hf : 1 ≤ R.frames) {W : Nat} (hW : (rest.map fun v => v.category).sum ≤ W) (hl : W + 12 ≤ R.locals)
    (k : ∀ T', Stand p l e R s m args below meth c T' locs cells slots → T'.heap = h → own_Go p e below s Q kc ks T' (mkF m (pc + 3) Ls rest)) : own_Go p e below s Q kc ks T (mkF m pc Ls (.ref a :: rest)) := by
  obtain ⟨T', X', e', st⟩ := initO X hx hZ hown w1 w2 w3 eT (g := mkF m pc Ls (.ref a :: rest)) rfl hsz rfl hd hf (W := W) (by show 2 * 0 + _ ≤ _; omega) hl
  exact own_pre st (k T' X' e')
theorem own_init (X : Stand p l e R s m args below meth c T locs cells slots) (hx : p.tables.exec = Jvm.exec) (hZ : Z.Warmed39 s.vm) {own : String} {index : Nat} (hown : s.vm.findClass own = some m.cls) {y : MethodName} {bytes : ByteArray} {maxL : Nat} {rm : Room} {argsL : List Value} {Qc : Option Value → Heap → List Loc → Prop}
    (hM : MetFree l y (head1 [Cond.code y bytes maxL none] rm) (fun a' U => a' = (.ref a :: argsL).toArray ∧ Z.Warmed39 U.vm ∧ U.heap = h) (fun _ _ _ _ _ => True) (fun _ U o U' => ∃ v L, o = .returned v ∧ Qc v U'.heap L ∧ FrameEnd U o U' L rm.cells rm.slots))
    (hy1 : y.name = "<init>") (w1 : (Cond.methodLink own index y).before a0 Z = true) (w2 : (Cond.instanceMethod y).before a0 Z = true) (w3 : (Cond.code y bytes maxL none).before a0 Z = true) (w4 : (Cond.initialized y.cls).before a0 Z = true) (hy : y.cls ≠ "java/lang/invoke/MethodHandle" ∧ y.cls ≠ "java/lang/invoke/VarHandle")
    (eT : T.heap = h) (hd : decode c.code pc = .ok (.invokespecial index, 3)) (hsz : Ls.size = c.maxLocals) {stk : List Value} (hstk : stk = argsL.reverse ++ .ref a :: rest) (hlen : ∀ sig, parseMethodDescriptor y.desc = some sig → argsL.length = sig.parameters.length) (hf : rm.frames + 1 ≤ R.frames) {W : Nat} (hW : (rest.map fun v => v.category).sum ≤ W) (hl : W + (maxL + 11) + rm.locals ≤ R.locals) (hc : cells + rm.cells ≤ R.cells) (hs : slots + rm.slots ≤ R.slots)
    (k : ∀ v T' L, Stand p l e R s m args below meth c T' (locs ++ L) (cells + rm.cells) (slots + rm.slots) → Qc v T'.heap L → own_Go p e below s Q kc ks T' (mkF m (pc + 3) Ls (v.toList ++ rest))) : own_Go p e below s Q kc ks T (mkF m pc Ls stk) := by
  obtain ⟨v, _, ⟨T', L', k', n'⟩, -, X', ⟨L, hQ, e1, e2, e3⟩, st⟩ := X.specialBack hx (y := y) hy1 hown (mvT hZ w1) (mvT hZ w2) (mvT hZ w3) hy (backOf (W := W) hM hZ w3 w4 hf hl) (g := mkF m pc Ls stk) rfl hsz (Steps.refl _) (a := a) (argsL := argsL) (rest := rest) hlen hstk (by show 2 * 0 + _ ≤ _; omega) hd (fun _ _ => ⟨rfl, eT, hc, hs⟩)
  dsimp only at X' e1 e2 e3 st hQ
  subst e1 e2 e3
  exact own_tr st (k v T' L X' hQ)
theorem own_callv (X : Stand p l e R s m args below meth c T locs cells slots) (hx : p.tables.exec = Jvm.exec) (hZ : Z.Warmed39 s.vm) {own : String} {index : Nat} (hown : s.vm.findClass own = some m.cls) {y : MethodName} {bytes : ByteArray} {maxL : Nat} {ret : Option FieldType} {rm : Room} {argsL : List Value} {Qc : Option Value → Heap → List Loc → Prop}
    (hM : MetFree l y (head1 [Cond.code y bytes maxL ret] rm) (fun a' U => a' = (.ref a :: argsL).toArray ∧ Z.Warmed39 U.vm ∧ U.heap = h) (fun _ _ _ _ _ => True) (fun _ U o U' => ∃ v L, o = .returned v ∧ Qc v U'.heap L ∧ FrameEnd U o U' L rm.cells rm.slots))
    (E : Exa Z h a C) (w1 : (Cond.methodLink own index y).before a0 Z = true) (w2 : (Cond.declares y).before a0 Z = true) (w5 : (Cond.selects C y y).before a0 Z = true) (w6 : (Cond.instanceMethod y).before a0 Z = true) (w3 : (Cond.code y bytes maxL ret).before a0 Z = true) (w4 : (Cond.initialized y.cls).before a0 Z = true) (hy : y.cls ≠ "java/lang/invoke/MethodHandle" ∧ y.cls ≠ "java/lang/invoke/VarHandle")
    (eT : T.heap = h) (hd : decode c.code pc = .ok (.invokevirtual index, 3)) (hsz : Ls.size = c.maxLocals) {stk : List Value} (hstk : stk = argsL.reverse ++ .ref a :: rest) (hlen : ∀ sig, parseMethodDescriptor y.desc = some sig → argsL.length = sig.parameters.length) (hf : rm.frames + 1 ≤ R.frames) {W : Nat} (hW : (rest.map fun v => v.category).sum ≤ W) (hl : W + (maxL + 11) + rm.locals ≤ R.locals) (hc : cells + rm.cells ≤ R.cells) (hs : slots + rm.slots ≤ R.slots)
    (k : ∀ v T' L, Stand p l e R s m args below meth c T' (locs ++ L) (cells + rm.cells) (slots + rm.slots) → Qc v T'.heap L → own_Go p e below s Q kc ks T' (mkF m (pc + 3) Ls (v.toList ++ rest))) : own_Go p e below s Q kc ks T (mkF m pc Ls stk) := by
  obtain ⟨cq, kq, q1, q2, q3⟩ := isOf hZ eT E
  obtain ⟨v, _, ⟨T', L', k', n'⟩, -, X', ⟨L, hQ, e1, e2, e3⟩, st⟩ := X.virtualBack hx (y := y) (z := y) hown (mvT hZ w1) (mvT hZ w2) (notFace_of_selects (args := #[]) (mvT hZ w5)) (mvT hZ w5) (mvT hZ w6) hy (backOf (W := W) hM hZ w3 w4 hf hl) q1 q3 (g := mkF m pc Ls stk) rfl hsz (Steps.refl _) (argsL := argsL) (rest := rest) hlen hstk (by show 2 * 0 + _ ≤ _; omega) hd (fun _ _ => ⟨rfl, eT, hc, hs⟩)
  dsimp only at X' e1 e2 e3 st hQ
  subst e1 e2 e3
  exact own_tr st (k v T' L X' hQ)
theorem own_calls (X : Stand p l e R s m args below meth c T locs cells slots) (hx : p.tables.exec = Jvm.exec) (hZ : Z.Warmed39 s.vm) {own : String} {index : Nat} (hown : s.vm.findClass own = some m.cls) {y : MethodName} {bytes : ByteArray} {maxL : Nat} {ret : Option FieldType} {rm : Room} {argsL : List Value} {Qc : Option Value → Heap → List Loc → Prop}
    (hM : MetFree l y (head1 [Cond.code y bytes maxL ret] rm) (fun a' U => a' = argsL.toArray ∧ Z.Warmed39 U.vm ∧ U.heap = h) (fun _ _ _ _ _ => True) (fun _ U o U' => ∃ v L, o = .returned v ∧ Qc v U'.heap L ∧ FrameEnd U o U' L rm.cells rm.slots))
    (w1 : (Cond.methodLink own index y).before a0 Z = true) (w2 : (Cond.static y).before a0 Z = true) (w3 : (Cond.code y bytes maxL ret).before a0 Z = true) (w4 : (Cond.initialized y.cls).before a0 Z = true) (hy : y.cls ≠ "java/lang/invoke/MethodHandle" ∧ y.cls ≠ "java/lang/invoke/VarHandle")
    (eT : T.heap = h) (hd : decode c.code pc = .ok (.invokestatic index, 3)) (hsz : Ls.size = c.maxLocals) {stk : List Value} (hstk : stk = argsL.reverse ++ rest) (hlen : ∀ sig, parseMethodDescriptor y.desc = some sig → argsL.length = sig.parameters.length) (hf : rm.frames + 1 ≤ R.frames) {W : Nat} (hW : (rest.map fun v => v.category).sum ≤ W) (hl : W + (maxL + 11) + rm.locals ≤ R.locals) (hc : cells + rm.cells ≤ R.cells) (hs : slots + rm.slots ≤ R.slots)
    (k : ∀ v T' L, Stand p l e R s m args below meth c T' (locs ++ L) (cells + rm.cells) (slots + rm.slots) → Qc v T'.heap L → own_Go p e below s Q kc ks T' (mkF m (pc + 3) Ls (v.toList ++ rest))) : own_Go p e below s Q kc ks T (mkF m pc Ls stk) := by
  obtain ⟨v, _, ⟨T', L', k', n'⟩, -, X', ⟨L, hQ, e1, e2, e3⟩, st⟩ := Jvm.LawKit.callS X hx (y := y) hown (mvT hZ w1) (mvT hZ w2) (mvT hZ w4) (mvT hZ w3) hy (backOf (W := W) hM hZ w3 w4 hf hl) (g := mkF m pc Ls stk) rfl hsz (argsL := argsL) (rest := rest) hlen hstk (by show 2 * 0 + _ ≤ _; omega) hd (fun _ _ => ⟨rfl, eT, hc, hs⟩)
  dsimp only at X' e1 e2 e3 st hQ
  subst e1 e2 e3
  exact own_pre st (k v T' L X' hQ)
theorem own_cl_lt (x y : Int64) : XT.cmpL x y < 0 ↔ x < y := by unfold XT.cmpL; split <;> (try split) <;> simp_all [Int64.lt_iff_toInt_lt, ← Int64.toInt_inj] <;> omega
theorem own_cl_gt (x y : Int64) : 0 < XT.cmpL x y ↔ y < x := by unfold XT.cmpL; split <;> (try split) <;> simp_all [Int64.lt_iff_toInt_lt, ← Int64.toInt_inj]
theorem own_cl_eq (x y : Int64) : XT.cmpL x y = 0 ↔ x = y := by unfold XT.cmpL; split <;> (try split) <;> simp_all [Int64.lt_iff_toInt_lt, ← Int64.toInt_inj] <;> omega
end Own
end Jvm.RoadKit
namespace Jvm.FP.Core
theorem own_cross {c d I J qp qm rp rm kp km : Nat} (h1 : c * 2 ^ qp = I * 2 ^ qm) (h2 : d * 2 ^ rp = J * 2 ^ rm) (e : kp + qm + rp = km + qp + rm) : c * J * 2 ^ kp = I * d * 2 ^ km := by
  have e' : 2 ^ kp * 2 ^ qm * 2 ^ rp = 2 ^ km * 2 ^ qp * 2 ^ rm := by rw [← Nat.pow_add, ← Nat.pow_add, ← Nat.pow_add, ← Nat.pow_add, e]
  have p1 := Nat.two_pow_pos qp
  have p2 := Nat.two_pow_pos rm
  generalize 2 ^ qp = a1 at *
  generalize 2 ^ qm = a2 at *
  generalize 2 ^ rp = a3 at *
  generalize 2 ^ rm = a4 at *
  generalize 2 ^ kp = a5 at *
  generalize 2 ^ km = a6 at *
  refine Nat.eq_of_mul_eq_mul_right (Nat.mul_pos p1 p2) ?_
  calc c * J * a5 * (a1 * a4) = (c * a1) * (J * a4) * a5 := by ac_rfl
    _ = (I * a2) * (d * a3) * a5 := by rw [h1, h2]
    _ = I * d * (a5 * a2 * a3) := by ac_rfl
    _ = I * d * (a6 * a1 * a4) := by rw [e']
    _ = I * d * a6 * (a1 * a4) := by ac_rfl
/-- a quotient of two whole doubles: the rounded ratio of the two -/
theorem own_ddiv_round {i j : Int} {a b : UInt64} (ha : DInt i a) (hb : DInt j b) (hj : 0 < j) : ∃ sg, val64 (ddiv a b) = roundRatio b64 sg i.natAbs j.natAbs 0 ∧ (i ≠ 0 → sg = decide (i < 0)) := by
  rw [val64_ddiv]
  unfold DInt at ha hb
  generalize val64 a = x at *
  generalize val64 b = y at *
  cases x with
  | nan => exact ha.elim
  | inf => exact ha.elim
  | fin s c q =>
  cases y with
  | nan => exact hb.elim
  | inf => exact hb.elim
  | fin t d r =>
    have h1 := whole_natAbs ha
    have h2 := whole_natAbs hb
    have hd : d ≠ 0 := by have := whole_zero hb; omega
    refine ⟨s != t, ?_, fun hi => ?_⟩
    · show (if d = 0 then (if c = 0 then Datum.nan else .inf (s != t)) else roundRatio b64 (s != t) c d (q - r)) = _
      rw [if_neg hd]
      exact roundRatio_congr (by omega) (by omega) (own_cross h1 h2 (by omega))
    · rw [whole_sign ha hi, whole_sign hb (by omega)]
      simp [show ¬ j < 0 by omega]
theorem own_div_le {sg : Bool} {A B : Nat} {V : UInt64} (hB : 0 < B) (hV : val64 V ≠ .nan) (h : A * one64 ≤ zmag b64 (val64 V) * B) : zmag b64 (roundRatio b64 sg A B 0) ≤ zmag b64 (val64 V) := by
  refine zmag_roundRatio_le good_b64 hB (val64_fits V) hV (e0 := b64.qmin) (Int.le_refl _) (by decide) ?_
  show A * 2 ^ (0 - b64.qmin).toNat ≤ _ * 2 ^ (b64.qmin - b64.qmin).toNat * B
  rw [Int.zero_sub, pow_qmin64, Int.sub_self]
  simpa using h
theorem own_div_ge {sg : Bool} {A B : Nat} {V : UInt64} (hB : 0 < B) (h : zmag b64 (val64 V) * B ≤ A * one64) : zmag b64 (val64 V) ≤ zmag b64 (roundRatio b64 sg A B 0) := by
  refine zmag_roundRatio_ge good_b64 hB (val64_fits V) (e0 := b64.qmin) (Int.le_refl _) (by decide) ?_
  show _ * 2 ^ (b64.qmin - b64.qmin).toNat * B ≤ A * 2 ^ (0 - b64.qmin).toNat
  rw [Int.zero_sub, pow_qmin64, Int.sub_self]
  simpa using h
theorem own_scale {A B x y u : Nat} (h : A * x ≤ y * B) : A * (x * u) ≤ (y * u) * B := by
  have h2 := Nat.mul_le_mul_right u h
  calc A * (x * u) = A * x * u := by ac_rfl
    _ ≤ y * B * u := h2
    _ = (y * u) * B := by ac_rfl
theorem own_scale' {A B x y u : Nat} (h : y * B ≤ A * x) : (y * u) * B ≤ A * (x * u) := by
  have h2 := Nat.mul_le_mul_right u h
  calc (y * u) * B = y * B * u := by ac_rfl
    _ ≤ A * x * u := h2
    _ = A * (x * u) := by ac_rfl
end Jvm.FP.Core
namespace Jvm.RoadKit
open Sem ClassFile Op Lib Jvm.Stand Jvm.Free Jvm.LawKit
theorem own_DInt_nn {i : Int} {a : UInt64} (h : FP.Core.DInt i a) : Jvm.Free.Fl.NoNaN64 a := Jvm.Free.Fl.val64_no.mpr (FP.Core.DInt_ne_nan h)
/-- the int that a comparison of two whole doubles pushes -/
def own_c (i j : Int) : Int32 := if i < j then -1 else if i = j then 0 else 1
theorem own_c_lt (i j : Int) : own_c i j < 0 ↔ i < j := by unfold own_c; split <;> (try split) <;> first | (simp; omega) | simp_all
theorem own_c_gt (i j : Int) : 0 < own_c i j ↔ j < i := by unfold own_c; split <;> (try split) <;> first | (simp; omega) | (simp_all; done) | (simp_all; omega)
theorem own_c_eq (i j : Int) : own_c i j = 0 ↔ i = j := by unfold own_c; split <;> (try split) <;> first | (simp; omega) | (simp_all; done) | (simp_all; omega)
theorem own_cmpv (i j : Int) (o : CmpOp) : cmpValue (some (compare i j)) o = own_c i j := by
  unfold own_c
  rw [FP.Core.compare_ite]
  split <;> (try split) <;> cases o <;> rfl
theorem own_dcmp {i j : Int} {a b : UInt64} (ha : FP.Core.DInt i a) (hb : FP.Core.DInt j b) (o : CmpOp) : cmpValue (FP.dcmp a b) o = own_c i j := by
  rw [show FP.dcmp a b = some (compare i j) from FP.Core.dcmp_int ha hb, own_cmpv]
theorem own_dcmpz {a b : UInt64} (ha : Jvm.Free.Fl.NoNaN64 a) (hb : Jvm.Free.Fl.NoNaN64 b) (o : CmpOp) : cmpValue (FP.dcmp a b) o = own_c (FP.Core.zval FP.Core.b64 (FP.Core.val64 a)) (FP.Core.zval FP.Core.b64 (FP.Core.val64 b)) := by
  rw [show FP.dcmp a b = some (compare _ _) from FP.Core.dcmp_zval (Jvm.Free.Fl.val64_no.mp ha) (Jvm.Free.Fl.val64_no.mp hb), own_cmpv]
end Jvm.RoadKit
namespace Jvm.RoadKit
open Sem ClassFile Op Lib Jvm.Stand Jvm.Free Jvm.LawKit
section Own2
variable {p : Program} {l : Launch} {e : Env} {R : Room} {s : State} {m : MethodId} {args : Array Value} {below : List Frame} {meth : Method} {c : Code} {T T' : State} {locs : List Loc} {cells slots : Nat} {Z : State} {h h' h0 : Heap} {Q : Option Value → Heap → List Loc → Prop} {kc ks : Nat} {g g' : JFrame} {a0 : Array Value} {pc : Nat} {Ls : Array Slot} {rest : List Value} {a b : Addr} {n0 : Nat} {ty : FieldType} {vs : List Value} {C : String} {sl : Nat} {v : Value} {ws : List Addr}
theorem own_clone (X : Stand p l e R s m args below meth c T locs cells slots) (hx : p.tables.exec = Jvm.exec) (hZ : Z.Warmed39 s.vm) {own ad : String} {index : Nat} (hown : s.vm.findClass own = some m.cls)
    (w1 : (Cond.methodLink own index ⟨ad, "clone", "()Ljava/lang/Object;"⟩).before a0 Z = true) (w2 : (Cond.sameMethod ad "java/lang/Object" "clone" "()Ljava/lang/Object;").before a0 Z = true) (w3 : (Cond.native ⟨"java/lang/Object", "clone", "()Ljava/lang/Object;"⟩).before a0 Z = true)
    (w4 : (Cond.instanceMethod ⟨"java/lang/Object", "clone", "()Ljava/lang/Object;"⟩).before a0 Z = true) (w5 : (Cond.selects ad ⟨ad, "clone", "()Ljava/lang/Object;"⟩ ⟨"java/lang/Object", "clone", "()Ljava/lang/Object;"⟩).before a0 Z = true) (w6 : (Cond.castable ad "java/lang/Cloneable").before a0 Z = true)
    (eT : T.heap = h) (F : own_Ary Z h a ty vs) (E : Exa Z h a ad) (hfit : ∀ v ∈ vs, fits ty v = true) (hd : decode c.code pc = .ok (.invokevirtual index, 3)) (hsz : Ls.size = c.maxLocals) (hf : 1 ≤ R.frames) {W n : Nat} (hW : (rest.map fun v => v.category).sum ≤ W) (hl : W + 14 ≤ R.locals) (hn : vs.length = n) (hc : cells + 1 ≤ R.cells) (hsl : slots + n ≤ R.slots)
    (k : ∀ T' h' a', a' = h.size → Stand p l e R s m args below meth c T' locs (cells + 1) (slots + n) → T'.heap = h' → Ext h h' → own_Ary Z h' a' ty vs → Exa Z h' a' ad → own_Go p e below s Q kc ks T' (mkF m (pc + 3) Ls (.ref a' :: rest))) : own_Go p e below s Q kc ks T (mkF m pc Ls (.ref a :: rest)) := by
  obtain ⟨cl, A, r1, r2⟩ := F
  have hfc : FitC Z cl := fitC_of A fun i hi v hv => hfit v (by
    rw [← r1]
    exact List.mem_of_getElem? (i := i) (by simpa using hv))
  obtain ⟨T', h', X', e', Ex, A', E', st⟩ := cloneA X hx hZ hown w1 w2 w3 w4 w5 w6 eT A E hfc (g := mkF m pc Ls (.ref a :: rest)) rfl hsz rfl hd hf (W := W) (cap := n) (by show 2 * 0 + _ ≤ _; omega) hl (by rw [← hn, ← r1, Array.length_toList]; exact Nat.le_refl _) hc hsl
  exact own_pre st (k T' h' _ rfl X' e' Ex ⟨_, A', r1, r2⟩ E')
theorem own_cast1 (X : Stand p l e R s m args below meth c T locs cells slots) (hx : p.tables.exec = Jvm.exec) (hZ : Z.Warmed39 s.vm) {own K : String} {index : Nat} (hown : s.vm.findClass own = some m.cls) (w : (Cond.classLink own index K).before a0 Z = true) (eT : T.heap = h) (F : Ins Z h a K true) (hd : decode c.code pc = .ok (.checkcast index, 3))
    (k : ∀ T', Stand p l e R s m args below meth c T' locs cells slots → T'.heap = h → own_Go p e below s Q kc ks T' (mkF m (pc + 3) Ls (.ref a :: rest))) : own_Go p e below s Q kc ks T (mkF m pc Ls (.ref a :: rest)) := by
  obtain ⟨T', X', e', st⟩ := castY X hx hZ hown w eT F (g := mkF m pc Ls (.ref a :: rest)) rfl rfl hd
  exact own_pre st (k T' X' e')
theorem own_inst1 (X : Stand p l e R s m args below meth c T locs cells slots) (hx : p.tables.exec = Jvm.exec) (hZ : Z.Warmed39 s.vm) {own K : String} {index : Nat} (hown : s.vm.findClass own = some m.cls) (w : (Cond.classLink own index K).before a0 Z = true) (eT : T.heap = h) (F : Ins Z h a K true) (hd : decode c.code pc = .ok (.instanceof index, 3))
    (k : ∀ T', Stand p l e R s m args below meth c T' locs cells slots → T'.heap = h → own_Go p e below s Q kc ks T' (mkF m (pc + 3) Ls (.int 1 :: rest))) : own_Go p e below s Q kc ks T (mkF m pc Ls (.ref a :: rest)) := by
  obtain ⟨T', X', e', st⟩ := instY X hx hZ hown w eT F (g := mkF m pc Ls (.ref a :: rest)) rfl rfl hd
  exact own_pre st (k T' X' e')
theorem own_zastore (X : Stand p l e R s m args below meth c T locs cells slots) (hx : p.tables.exec = Jvm.exec) (hZ : Z.Warmed39 s.vm) (eT : T.heap = h) (N : Fr n0 locs) (q : n0 ≤ a) (F : own_Ary Z h a .boolean vs) (hd : decode c.code pc = .ok (.bastore, 1)) {j x x' : Int32} {n : Nat} (h0 : 0 ≤ j) (hj : j.toNatClampNeg = n) (hv : n < vs.length) (hnar : nar .boolean x = x')
    (k : ∀ T' h' locs', Stand p l e R s m args below meth c T' locs' cells slots → T'.heap = h' → Fr n0 locs' → Wr h h' a n (.int x') → own_Go p e below s Q kc ks T' (mkF m (pc + 1) Ls rest)) : own_Go p e below s Q kc ks T (mkF m pc Ls (.int x :: .int j :: .ref a :: rest)) := by
  obtain ⟨cl, A, r1, r2⟩ := F
  obtain ⟨T', h', X', e', W, st⟩ := stZ X hx hZ eT A (j := j) (x := x) (own_inb h0 r1 hj hv) (g := mkF m pc Ls (.int x :: .int j :: .ref a :: rest)) rfl rfl hd
  exact own_pre st (k T' h' _ X' e' (Fr.snoc X' N q) (hnar ▸ hj ▸ W))
/-- the array's class is that of arrays over C -/
def own_Ovr (Z : State) (h : Heap) (a : Addr) (C : String) : Prop := ∃ c : Cell, h[a]? = some c ∧ Ovr Z c.cls C
theorem own_Ovr.lt (F : own_Ovr Z h a C) : a < h.size := by obtain ⟨c, h1, -⟩ := F; exact (Array.getElem?_eq_some_iff.mp h1).1
theorem own_Ovr.ext (F : own_Ovr Z h a C) (E : Ext h h') : own_Ovr Z h' a C := by obtain ⟨c, h1, r⟩ := F; exact ⟨c, E.2 _ _ h1, r⟩
theorem own_Ovr.wr (F : own_Ovr Z h b C) (W : Wr h h' a sl v) : own_Ovr Z h' b C := by
  obtain ⟨c, h1, r⟩ := F
  obtain ⟨c', e1, e2, -⟩ := wr_at W h1
  exact ⟨c', e1, by rw [e2]; exact r⟩
theorem own_Ovr.keep (F : own_Ovr Z h a C) (K : Keep h h' ws) : own_Ovr Z h' a C := by
  obtain ⟨c, h1, r⟩ := F
  obtain ⟨c', e1, e2, -⟩ := K.2.2 a c h1
  exact ⟨c', e1, by rw [e2]; exact r⟩
theorem own_anewarr (X : Stand p l e R s m args below meth c T locs cells slots) (hx : p.tables.exec = Jvm.exec) (hZ : Z.Warmed39 s.vm) {own : String} {index : Nat} (hown : s.vm.findClass own = some m.cls) (w1 : (Cond.classLink own index C).before a0 Z = true) (w2 : (Cond.arrayOver (.object C)).before a0 Z = true) (eT : T.heap = h) (hd : decode c.code pc = .ok (.anewarray index, 3)) {z : Int32} {n : Nat} (h0 : 0 ≤ z) (hz : z.toNatClampNeg = n) (hb : n * 8 ≤ 536870912) (hc : cells + 1 ≤ R.cells) (hl : slots + n ≤ R.slots) {ad : String} (had : "[" ++ (FieldType.object C).toString = ad)
    (k : ∀ T' h' a, a = h.size → Stand p l e R s m args below meth c T' locs (cells + 1) (slots + n) → T'.heap = h' → Ext h h' → own_Ary Z h' a (.object C) (List.replicate n .null) → Exa Z h' a ad → own_Ovr Z h' a C → own_Go p e below s Q kc ks T' (mkF m (pc + 3) Ls (.ref a :: rest))) : own_Go p e below s Q kc ks T (mkF m pc Ls (.int z :: rest)) := by
  obtain ⟨T', h', cA, X', e', E, A, E2, O, st⟩ := newRE X hx hZ hown w1 w2 eT (g := mkF m pc Ls (.int z :: rest)) rfl hd rfl (Int32.not_lt.mpr h0) (cap := n) (Nat.le_of_eq hz) hb hc hl had
  exact own_pre st (k T' h' _ rfl X' e' E (own_Ary.new A hz) E2 ⟨_, A.1, O⟩)
theorem own_aastore (X : Stand p l e R s m args below meth c T locs cells slots) (hx : p.tables.exec = Jvm.exec) (hZ : Z.Warmed39 s.vm) (eT : T.heap = h) (N : Fr n0 locs) (q : n0 ≤ a) (F : own_Ary Z h a (.object C) vs) (O : own_Ovr Z h a C) (I : Ins Z h b C true) (hd : decode c.code pc = .ok (.aastore, 1)) {j : Int32} {n : Nat} (h0 : 0 ≤ j) (hj : j.toNatClampNeg = n) (hv : n < vs.length)
    (k : ∀ T' h' locs', Stand p l e R s m args below meth c T' locs' cells slots → T'.heap = h' → Fr n0 locs' → Wr h h' a n (.ref b) → own_Go p e below s Q kc ks T' (mkF m (pc + 1) Ls rest)) : own_Go p e below s Q kc ks T (mkF m pc Ls (.ref b :: .int j :: .ref a :: rest)) := by
  obtain ⟨cl, A, r1, r2⟩ := F
  obtain ⟨c', o1, o2⟩ := O
  cases o1.symm.trans A.1
  obtain ⟨T', h', X', e', W, st⟩ := stR X hx hZ eT A (j := j) (v := .ref b) (own_inb h0 r1 hj hv) rfl (Sto.of A o2 I) (g := mkF m pc Ls (.ref b :: .int j :: .ref a :: rest)) rfl rfl hd
  exact own_pre st (k T' h' _ X' e' (Fr.snoc X' N q) (hj ▸ W))
theorem own_aastore0 (X : Stand p l e R s m args below meth c T locs cells slots) (hx : p.tables.exec = Jvm.exec) (hZ : Z.Warmed39 s.vm) (eT : T.heap = h) (N : Fr n0 locs) (q : n0 ≤ a) (F : own_Ary Z h a (.object C) vs) (hd : decode c.code pc = .ok (.aastore, 1)) {j : Int32} {n : Nat} (h0 : 0 ≤ j) (hj : j.toNatClampNeg = n) (hv : n < vs.length)
    (k : ∀ T' h' locs', Stand p l e R s m args below meth c T' locs' cells slots → T'.heap = h' → Fr n0 locs' → Wr h h' a n .null → own_Go p e below s Q kc ks T' (mkF m (pc + 1) Ls rest)) : own_Go p e below s Q kc ks T (mkF m pc Ls (.null :: .int j :: .ref a :: rest)) := by
  obtain ⟨cl, A, r1, r2⟩ := F
  obtain ⟨T', h', X', e', W, st⟩ := stR X hx hZ eT A (j := j) (v := .null) (own_inb h0 r1 hj hv) rfl (Or.inl rfl) (g := mkF m pc Ls (.null :: .int j :: .ref a :: rest)) rfl rfl hd
  exact own_pre st (k T' h' _ X' e' (Fr.snoc X' N q) (hj ▸ W))
end Own2
end Jvm.RoadKit
namespace Jvm.Pilot.@@N@@
open Jvm Jvm.ClassFile Sem Op Lib Jvm.Free Jvm.Stand Jvm.LawKit Jvm.RoadKit Bundle Jvm.Pilot.@@N@@.Jvm.D
def own_t (l h : Int32) : UInt64 := if 0 < h then FP.ddiv (FP.i2d l) (FP.i2d h) else 0
section Prec
open Jvm.FP.Core
/-- a double from 0 to 1, no negative nought -/
def own_U (t : UInt64) : Prop := (∃ c q, val64 t = .fin false c q) ∧ zval b64 (val64 t) ≤ (one64 : Int)
theorem own_U.nn {t : UInt64} (h : own_U t) : Jvm.Free.Fl.NoNaN64 t := Jvm.Free.Fl.val64_no.mpr (by obtain ⟨⟨c, q, e⟩, -⟩ := h; rw [e]; intro x; cases x)
theorem own_U.pos {t : UInt64} (h : own_U t) : 0 ≤ zval b64 (val64 t) := by
  obtain ⟨⟨c, q, e⟩, -⟩ := h
  rw [e]; show (0 : Int) ≤ signed false _
  simp only [signed, Bool.false_eq_true, if_false]; omega
theorem own_U.nz {t : UInt64} (h : own_U t) : t ≠ dzeroNeg := fun q => by
  obtain ⟨⟨c, x, e⟩, -⟩ := h
  rw [q, val64_dzeroNeg] at e; cases e
theorem own_one : zval b64 (val64 4607182418800017408) = (one64 : Int) := by decide +kernel
theorem own_two : zval b64 (val64 4611686018427387904) = 2 * (one64 : Int) := by decide +kernel
theorem own_zero : zval b64 (val64 0) = 0 := zval64_zero
theorem own_one_lt : (one64 : Int) < ((zmag b64 (.inf false) : Nat) : Int) ∧ 2 * (one64 : Int) < ((zmag b64 (.inf false) : Nat) : Int) := by decide +kernel
theorem own_nn1 : Jvm.Free.Fl.NoNaN64 4607182418800017408 := by unfold Jvm.Free.Fl.NoNaN64; decide
theorem own_nn0 : Jvm.Free.Fl.NoNaN64 0 := by unfold Jvm.Free.Fl.NoNaN64; decide
theorem own_U0 : own_U 0 := ⟨⟨_, _, val64_zero⟩, by rw [own_zero]; have := one64_pos; omega⟩
theorem own_i2d_shape (a : Int32) : ∃ c q, val64 (i2d a) = .fin (decide (a.toInt < 0)) c q := by
  obtain ⟨c, q, h⟩ := l2d_shape a.toInt64
  refine ⟨c, q, ?_⟩
  rw [i2d_l2d, h, Int32.toInt_toInt64]
theorem own_div {l h : Int32} (h0 : 0 ≤ l.toInt) (h1 : 0 < h.toInt) : val64 (FP.ddiv (FP.i2d l) (FP.i2d h)) = roundRatio b64 false l.toInt.natAbs h.toInt.natAbs 0 := by
  have ha := i2d_int l
  have hb := i2d_int h
  obtain ⟨c, q, e1⟩ := own_i2d_shape l
  obtain ⟨d, r, e2⟩ := own_i2d_shape h
  show val64 (ddiv (i2d l) (i2d h)) = _
  rw [val64_ddiv]
  unfold DInt at ha hb
  rw [e1] at ha ⊢
  rw [e2] at hb ⊢
  have g1 := whole_natAbs ha
  have g2 := whole_natAbs hb
  have hd : d ≠ 0 := by have := whole_zero hb; omega
  rw [show decide (l.toInt < 0) = false by simp; omega, show decide (h.toInt < 0) = false by simp; omega]
  show (if d = 0 then (if c = 0 then Datum.nan else .inf (false != false)) else roundRatio b64 (false != false) c d (q - r)) = _
  rw [if_neg hd]
  exact roundRatio_congr (by omega) (by omega) (own_cross g1 g2 (by omega))
theorem own_fin_of {A B : Nat} (hB : 0 < B) (h : A ≤ B) : ∃ c q, roundRatio b64 false A B 0 = .fin false c q := by
  have h1 := own_div_le (sg := false) (A := A) (B := B) (V := 4607182418800017408) hB (by decide +kernel) (by rw [show zmag b64 (val64 4607182418800017408) = one64 by decide +kernel, Nat.mul_comm]; exact Nat.mul_le_mul_left _ h)
  rw [show zmag b64 (val64 4607182418800017408) = one64 by decide +kernel] at h1
  rcases roundRatio_cases b64 false A B 0 with ⟨c, q, e⟩ | e
  · exact ⟨c, q, e⟩
  · rw [e] at h1
    have := own_one_lt.1
    omega
theorem own_tU {l h : Int32} (h0 : 0 ≤ l.toInt) (h1 : l.toInt ≤ h.toInt) : own_U (own_t l h) := by
  unfold own_t
  split
  · rename_i hp
    rw [Int32.lt_iff_toInt_lt, show (0 : Int32).toInt = 0 from rfl] at hp
    have e := own_div (l := l) (h := h) h0 hp
    obtain ⟨c, q, e2⟩ := own_fin_of (A := l.toInt.natAbs) (B := h.toInt.natAbs) (by omega) (by omega)
    refine ⟨⟨c, q, e.trans e2⟩, ?_⟩
    have h3 := own_div_le (sg := false) (A := l.toInt.natAbs) (B := h.toInt.natAbs) (V := 4607182418800017408) (by omega) (by decide +kernel) (by rw [show zmag b64 (val64 4607182418800017408) = one64 by decide +kernel, Nat.mul_comm]; exact Nat.mul_le_mul_left _ (by omega))
    rw [show zmag b64 (val64 4607182418800017408) = one64 by decide +kernel] at h3
    rw [e]
    unfold zval
    rw [sgn_roundRatio]
    simp only [signed, Bool.false_eq_true, if_false]
    omega
  · exact own_U0
theorem own_t1 {l h : Int32} (h0 : 0 < h) (h1 : l = h) : own_t l h = 4607182418800017408 := by
  subst h1
  unfold own_t
  rw [if_pos h0]
  rw [Int32.lt_iff_toInt_lt, show (0 : Int32).toInt = 0 from rfl] at h0
  have e := own_div (l := l) (h := l) (by omega) h0
  rw [roundRatio_congr (A' := 1) (B' := 1) (e' := 0) (by omega) (by decide) (by simp)] at e
  have e2 : roundRatio b64 false 1 1 0 = val64 4607182418800017408 := by decide +kernel
  rw [e2] at e
  exact val64_inj (by rw [e]; decide +kernel) e
theorem own_t0 {h : Int32} (h1 : 0 ≤ h.toInt) : own_t 0 h = 0 := by
  unfold own_t
  split
  · rename_i hp
    rw [Int32.lt_iff_toInt_lt, show (0 : Int32).toInt = 0 from rfl] at hp
    have e := own_div (l := 0) (h := h) (by decide) hp
    have e2 : roundRatio b64 false (0 : Int32).toInt.natAbs h.toInt.natAbs 0 = val64 0 := by
      rw [val64_zero]; rfl
    rw [e2] at e
    exact val64_inj (by rw [e]; decide +kernel) e
  · rfl
theorem own_add0 {t : UInt64} (h : own_U t) : FP.dadd 0 t = t := by
  have := dadd_zero (Jvm.Free.Fl.val64_no.mp h.nn) h.nz
  rw [dadd_comm] at this
  exact this
theorem own_add0' {t : UInt64} (h : own_U t) : FP.dadd t 0 = t := dadd_zero (Jvm.Free.Fl.val64_no.mp h.nn) h.nz
theorem own_div1 {t : UInt64} (h : own_U t) : FP.ddiv t (FP.i2d 1) = t := by
  rw [show FP.i2d 1 = dconst1 by decide +kernel]
  exact ddiv_one (Jvm.Free.Fl.val64_no.mp h.nn)
theorem own_i2 : FP.i2d 2 = 4611686018427387904 := by decide +kernel
/-- the half of a sum of two -/
theorem own_sum {t u : UInt64} (ht : own_U t) (hu : own_U u) : (∃ s c q, val64 (FP.dadd t u) = .fin s c q) ∧ 0 ≤ zval b64 (val64 (FP.dadd t u)) ∧ zval b64 (val64 (FP.dadd t u)) ≤ 2 * (one64 : Int) := by
  obtain ⟨⟨c, q, e1⟩, b1⟩ := id ht
  obtain ⟨⟨d, r, e2⟩, b2⟩ := id hu
  have p1 := ht.pos
  have p2 := hu.pos
  have e : val64 (FP.dadd t u) = round b64 (exactSum (val64 t) (val64 u)) := val64_dadd t u
  have lo := sum_ge good_b64 (x := val64 t) (y := val64 u) (V := val64 0) ⟨_, _, _, e1⟩ ⟨_, _, _, e2⟩ (val64_fits _) (val64_fits _) (val64_fits _) (by decide +kernel) (by rw [own_zero]; omega)
  have hi := sum_le good_b64 (x := val64 t) (y := val64 u) (V := val64 4611686018427387904) ⟨_, _, _, e1⟩ ⟨_, _, _, e2⟩ (val64_fits _) (val64_fits _) (val64_fits _) (by decide +kernel) (by rw [own_two]; omega)
  rw [← e, own_zero] at lo
  rw [← e, own_two] at hi
  refine ⟨?_, lo, hi⟩
  have nn : val64 (FP.dadd t u) ≠ .nan := by
    rw [e, e1, e2]
    intro x
    have := (round_nan (f := b64)).mp x
    cases this
  cases hv : val64 (FP.dadd t u) with
  | nan => exact absurd hv nn
  | fin s c q => exact ⟨s, c, q, rfl⟩
  | inf s =>
    rw [hv] at lo hi
    have := own_one_lt.2
    cases s
    · simp only [zval, FP.Core.sgn, signed, Bool.false_eq_true, if_false] at hi
      have e : zmag b64 (.inf false) = zmag b64 (.inf false) := rfl
      omega
    · simp only [zval, FP.Core.sgn, signed, if_true] at lo
      have e : zmag b64 (.inf true) = zmag b64 (.inf false) := rfl
      have := one64_pos
      omega
theorem own_half {x : UInt64} (hf : ∃ s c q, val64 x = .fin s c q) (h0 : 0 ≤ zval b64 (val64 x)) (h2 : zval b64 (val64 x) ≤ 2 * (one64 : Int)) :
    Jvm.Free.Fl.NoNaN64 (FP.ddiv x 4611686018427387904) ∧ 0 ≤ zval b64 (val64 (FP.ddiv x 4611686018427387904)) ∧ zval b64 (val64 (FP.ddiv x 4611686018427387904)) ≤ (one64 : Int) := by
  obtain ⟨s, c, q, e⟩ := hf
  have et : val64 4611686018427387904 = .fin false (2 ^ 52) (-51) := by decide +kernel
  have ev : val64 (FP.ddiv x 4611686018427387904) = roundRatio b64 (s != false) c (2 ^ 52) (q - (-51)) := by
    show val64 (ddiv x 4611686018427387904) = _
    rw [val64_ddiv, e, et]; rfl
  have fx := val64_fits x
  rw [e] at fx h0 h2
  have hq : b64.qmin ≤ q := fx.2.1
  have hz : zmag b64 (.fin s c q) ≤ 2 * one64 := by
    have : zval b64 (.fin s c q) = signed s (zmag b64 (.fin s c q)) := rfl
    rw [this] at h0 h2
    cases s <;> simp only [signed, Bool.false_eq_true, if_false, if_true] at h0 h2 <;> omega
  have hle : zmag b64 (roundRatio b64 (s != false) c (2 ^ 52) (q - (-51))) ≤ zmag b64 (val64 4607182418800017408) := by
    refine zmag_roundRatio_le good_b64 (by decide) (val64_fits _) (by decide +kernel) (e0 := b64.qmin) (Int.le_refl _) (by omega) ?_
    rw [show zmag b64 (val64 4607182418800017408) = one64 by decide +kernel, Int.sub_self]
    have e3 : inUnits c (q - (-51)) b64.qmin = zmag b64 (.fin s c q) * 2 ^ 51 := by
      show c * 2 ^ (q - (-51) - b64.qmin).toNat = c * 2 ^ (q - b64.qmin).toNat * 2 ^ 51
      rw [Nat.mul_assoc, ← Nat.pow_add]
      congr 2
      omega
    rw [e3]
    calc zmag b64 (.fin s c q) * 2 ^ 51 ≤ (2 * one64) * 2 ^ 51 := Nat.mul_le_mul_right _ hz
      _ = one64 * 2 ^ (0 : Int).toNat * 2 ^ 52 := by rw [show (0 : Int).toNat = 0 from rfl, Nat.pow_zero, Nat.mul_one, Nat.mul_comm 2 one64, Nat.mul_assoc]
  rw [show zmag b64 (val64 4607182418800017408) = one64 by decide +kernel] at hle
  refine ⟨Jvm.Free.Fl.val64_no.mpr (by rw [ev]; exact roundRatio_ne_nan _ _ _ _ _), ?_⟩
  rw [ev]
  have e4 : zval b64 (roundRatio b64 (s != false) c (2 ^ 52) (q - (-51))) = signed (s != false) (zmag b64 (roundRatio b64 (s != false) c (2 ^ 52) (q - (-51)))) := by unfold zval; rw [sgn_roundRatio]
  rw [e4]
  cases s
  · simp only [bne_self_eq_false, signed, Bool.false_eq_true, if_false]
    simp only [bne_self_eq_false] at hle
    omega
  · have hc : c = 0 := by
      have : zval b64 (.fin true c q) = -((c * 2 ^ (q - b64.qmin).toNat : Nat) : Int) := rfl
      rw [this] at h0
      have p := Nat.two_pow_pos (q - b64.qmin).toNat
      rcases Nat.eq_zero_or_pos c with z | z
      · exact z
      · have := Nat.mul_pos z p; omega
    subst hc
    have : roundRatio b64 (true != false) 0 (2 ^ 52) (q - (-51)) = .fin true 0 b64.qmin := rfl
    rw [this]
    have := one64_pos
    simp only [signed, zmag, inUnits, if_true, Nat.zero_mul]
    omega
theorem own_nnf {x : UInt64} (h : ∃ s c q, val64 x = .fin s c q) : Jvm.Free.Fl.NoNaN64 x := Jvm.Free.Fl.val64_no.mpr (by obtain ⟨s, c, q, e⟩ := h; rw [e]; intro y; cases y)
end Prec
def own_height (x m : Int32) : Int32 := if m &&& (3 : Int32) = 0 then 0 else x &&& (2147483647 : Int32)
def own_level (y h m : Int32) : Int32 := if m &&& (3 : Int32) = 1 then h else if m &&& (3 : Int32) = 2 then 0 else ((y.toInt64 &&& (2147483647 : Int64)) - ((y.toInt64 &&& (2147483647 : Int64)) / (h.toInt64 + (1 : Int64))) * (h.toInt64 + (1 : Int64))).toInt32
theorem own_hb (x m : Int32) : 0 ≤ (own_height x m).toInt := by
  unfold own_height
  split
  · decide
  · exact (c_and x 2147483647 (by decide)).1
theorem own_lb (y m : Int32) {h : Int32} (hh : 0 ≤ h.toInt) : 0 ≤ (own_level y h m).toInt ∧ (own_level y h m).toInt ≤ h.toInt := by
  unfold own_level
  split
  · omega
  · split
    · exact ⟨by decide, by simpa using hh⟩
    · have a1 := c_maskL y.toInt64 2147483647 31 (by decide) (by decide)
      have r := rng32 h
      have a2 : (h.toInt64 + (1 : Int64)).toInt = h.toInt + 1 := by
        have b1 := c_ladd h.toInt64 1
        have b2 := rng64 (h.toInt64 + 1)
        rw [c_i2l] at b1
        have o1 : (1 : Int64).toInt = 1 := rfl
        rw [o1] at b1
        omega
      have a3 := (c_lrem (y.toInt64 &&& (2147483647 : Int64)) (h.toInt64 + (1 : Int64)) (h.toInt + 1) a2).1 (by omega)
      have a4 := Int.emod_nonneg (y.toInt64 &&& (2147483647 : Int64)).toInt (b := h.toInt + 1) (by omega)
      have a5 := Int.emod_lt_of_pos (y.toInt64 &&& (2147483647 : Int64)).toInt (b := h.toInt + 1) (by omega)
      rw [← a3] at a4 a5
      generalize (y.toInt64 &&& (2147483647 : Int64)) - ((y.toInt64 &&& (2147483647 : Int64)) / (h.toInt64 + (1 : Int64))) * (h.toInt64 + (1 : Int64)) = z at *
      have a6 := c_l2i z
      have a7 := rng32 z.toInt32
      omega
theorem own_nz1 {h : Int32} (hh : 0 ≤ h.toInt) : h.toInt64 + (1 : Int64) ≠ 0 := fun q => by
  have b1 := c_ladd h.toInt64 1
  have r := rng32 h
  rw [q, c_i2l] at b1
  have o1 : (1 : Int64).toInt = 1 := rfl
  have o0 : (0 : Int64).toInt = 0 := rfl
  rw [o1, o0] at b1
  omega

theorem d1_0 : decode method_2_code 0 = .ok (.iload_n 1, 1) := by decide +kernel
theorem d1_1 : decode method_2_code 1 = .ok (.iconst 3, 1) := by decide +kernel
theorem d1_2 : decode method_2_code 2 = .ok (.iand, 1) := by decide +kernel
theorem d1_3 : decode method_2_code 3 = .ok (.ifCond .ne 5, 3) := by decide +kernel
theorem d1_6 : decode method_2_code 6 = .ok (.iconst 0, 1) := by decide +kernel
theorem d1_7 : decode method_2_code 7 = .ok (.ireturn, 1) := by decide +kernel
theorem d1_8 : decode method_2_code 8 = .ok (.iload_n 0, 1) := by decide +kernel
theorem d1_9 : decode method_2_code 9 = .ok (.ldc 7, 2) := by decide +kernel
theorem d1_11 : decode method_2_code 11 = .ok (.iand, 1) := by decide +kernel
theorem d1_12 : decode method_2_code 12 = .ok (.ireturn, 1) := by decide +kernel
theorem own_pn0 : plainName "com/example/gyges/gyges/model/LevelsGetPrecisionPinLaw" = true := by first | (simp [plainName, overriddenIn]; done) | decide +kernel
def own_heightT_Q (Z : State) (x y : Int32) (h0 : Heap) (n0 : Nat) (v_ : Option Value) (h_ : Heap) (L_ : List Loc) : Prop := (fun v h L => v = some (.int (own_height x y)) ∧ Fr n0 L ∧ h = h0) v_ h_ L_
set_option maxRecDepth 65536 in
set_option maxHeartbeats 40000000 in
theorem own_heightT (l : Launch) (Z : State) (a0 : Array Value) (hw : ∀ d ∈ tables_1, d.before a0 Z = true) (wds : List Jvm.Cond) (x y : Int32) (h0 : Heap) (n0 : Nat) (Z0 : n0 ≤ h0.size)  :
    MetFree l (⟨"com/example/gyges/gyges/model/LevelsGetPrecisionPinLaw", "height", "(II)I"⟩ : MethodName) (head1 (Jvm.Cond.code (⟨"com/example/gyges/gyges/model/LevelsGetPrecisionPinLaw", "height", "(II)I"⟩ : MethodName) method_2_code 2 (some .int) :: wds) ({ frames := 0, cells := 0, slots := 0, locals := 0 } : Room)) (fun ar_ U_ => ar_ = #[(.int x), (.int y)] ∧ Z.Warmed39 U_.vm ∧ U_.heap = h0) (fun _ _ _ _ _ => True) (fun _ U_ o_ V_ => ∃ v_ L_, o_ = .returned v_ ∧ own_heightT_Q Z x y h0 n0 v_ V_.heap L_ ∧ FrameEnd U_ o_ V_ L_ ({ frames := 0, cells := 0, slots := 0, locals := 0 } : Room).cells ({ frames := 0, cells := 0, slots := 0, locals := 0 } : Room).slots) := by
  refine own_met (y := ⟨"com/example/gyges/gyges/model/LevelsGetPrecisionPinLaw", "height", "(II)I"⟩) (Q := own_heightT_Q Z x y h0 n0) own_pn0 ?_
  intro p e s m below meth c s₁ hx hby hml hZ hown hnm hret hlk X0 e0
  have N0 := Fr.nil n0
  refine own_cast (g' := (mkF m 0 #[.val (.int x), .val (.int y)] [])) (by first | (simp [entryFrame, mkF, argsToLocals, Value.category]; done) | rfl) ?_
  refine own_pre (T' := s₁) (g' := (mkF m 1 #[.val (.int x), .val (.int y)] [(.int y)])) (fun t k => XS.iloadN X0.here hx rfl (v := y) (hb hby d1_0) rfl k) ?_
  refine own_pre (T' := s₁) (g' := (mkF m 2 #[.val (.int x), .val (.int y)] [(.int (3 : Int32)), (.int y)])) (fun t k => XS.iconst X0.here hx rfl (hb hby d1_1) k) ?_
  refine own_pre (T' := s₁) (g' := (mkF m 3 #[.val (.int x), .val (.int y)] [(.int (y &&& (3 : Int32)))])) (fun t k => XS.iand X0.here hx rfl (hb hby d1_2) rfl k) ?_
  by_cases hz : (y &&& (3 : Int32)) = (0 : Int32)
  · skip
    refine own_pre (T' := s₁) (g' := (mkF m 6 #[.val (.int x), .val (.int y)] [])) (fun t k => XS.ifNo X0.here hx rfl (hb hby d1_3) rfl ((if0 _ _).trans (teq hz).2) k) ?_
    refine own_pre (T' := s₁) (g' := (mkF m 7 #[.val (.int x), .val (.int y)] [(.int (0 : Int32))])) (fun t k => XS.iconst X0.here hx rfl (hb hby d1_6) k) ?_
    exact own_retI X0 hx hlk hret (hb hby d1_7) e0 ⟨by unfold own_height; rw [if_pos hz], N0, rfl⟩ (by decide) (by decide)
  · skip
    refine own_pre (T' := s₁) (g' := (mkF m 8 #[.val (.int x), .val (.int y)] [])) (fun t k => XS.ifYes X0.here hx rfl (pc0 := 3) (pc' := 8) rfl (hb hby d1_3) rfl ((if0 _ _).trans (feq hz).2) (by decide) (by decide) k) ?_
    refine own_pre (T' := s₁) (g' := (mkF m 9 #[.val (.int x), .val (.int y)] [(.int x)])) (fun t k => XS.iloadN X0.here hx rfl (v := x) (hb hby d1_8) rfl k) ?_
    refine own_ldci X0 hx hZ hown (hw _ (List.mem_of_getElem? (i := 46) rfl)) (hb hby d1_9) ?_
    show own_Go _ _ _ _ _ _ _ s₁ (mkF m 11 #[.val (.int x), .val (.int y)] [(.int (2147483647 : Int32)), (.int x)])
    refine own_pre (T' := s₁) (g' := (mkF m 12 #[.val (.int x), .val (.int y)] [(.int (x &&& (2147483647 : Int32)))])) (fun t k => XS.iand X0.here hx rfl (hb hby d1_11) rfl k) ?_
    exact own_retI X0 hx hlk hret (hb hby d1_12) e0 ⟨by unfold own_height; rw [if_neg hz], N0, rfl⟩ (by decide) (by decide)
theorem d2_0 : decode method_3_code 0 = .ok (.iload_n 2, 1) := by decide +kernel
theorem d2_1 : decode method_3_code 1 = .ok (.iconst 3, 1) := by decide +kernel
theorem d2_2 : decode method_3_code 2 = .ok (.iand, 1) := by decide +kernel
theorem d2_3 : decode method_3_code 3 = .ok (.iconst 1, 1) := by decide +kernel
theorem d2_4 : decode method_3_code 4 = .ok (.if_icmp .ne 5, 3) := by decide +kernel
theorem d2_7 : decode method_3_code 7 = .ok (.iload_n 1, 1) := by decide +kernel
theorem d2_8 : decode method_3_code 8 = .ok (.ireturn, 1) := by decide +kernel
theorem d2_9 : decode method_3_code 9 = .ok (.iload_n 2, 1) := by decide +kernel
theorem d2_10 : decode method_3_code 10 = .ok (.iconst 3, 1) := by decide +kernel
theorem d2_11 : decode method_3_code 11 = .ok (.iand, 1) := by decide +kernel
theorem d2_12 : decode method_3_code 12 = .ok (.iconst 2, 1) := by decide +kernel
theorem d2_13 : decode method_3_code 13 = .ok (.if_icmp .ne 5, 3) := by decide +kernel
theorem d2_16 : decode method_3_code 16 = .ok (.iconst 0, 1) := by decide +kernel
theorem d2_17 : decode method_3_code 17 = .ok (.ireturn, 1) := by decide +kernel
theorem d2_18 : decode method_3_code 18 = .ok (.iload_n 0, 1) := by decide +kernel
theorem d2_19 : decode method_3_code 19 = .ok (.i2l, 1) := by decide +kernel
theorem d2_20 : decode method_3_code 20 = .ok (.ldc2_w 8, 3) := by decide +kernel
theorem d2_23 : decode method_3_code 23 = .ok (.land, 1) := by decide +kernel
theorem d2_24 : decode method_3_code 24 = .ok (.iload_n 1, 1) := by decide +kernel
theorem d2_25 : decode method_3_code 25 = .ok (.i2l, 1) := by decide +kernel
theorem d2_26 : decode method_3_code 26 = .ok (.lconst 1, 1) := by decide +kernel
theorem d2_27 : decode method_3_code 27 = .ok (.ladd, 1) := by decide +kernel
theorem d2_28 : decode method_3_code 28 = .ok (.lrem, 1) := by decide +kernel
theorem d2_29 : decode method_3_code 29 = .ok (.l2i, 1) := by decide +kernel
theorem d2_30 : decode method_3_code 30 = .ok (.ireturn, 1) := by decide +kernel
def own_levelT_Q (Z : State) (y h m3 : Int32) (h0 : Heap) (n0 : Nat) (v_ : Option Value) (h_ : Heap) (L_ : List Loc) : Prop := (fun v hp L => v = some (.int (own_level y h m3)) ∧ Fr n0 L ∧ hp = h0) v_ h_ L_
set_option maxRecDepth 65536 in
set_option maxHeartbeats 40000000 in
theorem own_levelT (l : Launch) (Z : State) (a0 : Array Value) (hw : ∀ d ∈ tables_1, d.before a0 Z = true) (wds : List Jvm.Cond) (y h m3 : Int32) (h0 : Heap) (n0 : Nat) (Z0 : n0 ≤ h0.size) (hh : 0 ≤ h.toInt) :
    MetFree l (⟨"com/example/gyges/gyges/model/LevelsGetPrecisionPinLaw", "level", "(III)I"⟩ : MethodName) (head1 (Jvm.Cond.code (⟨"com/example/gyges/gyges/model/LevelsGetPrecisionPinLaw", "level", "(III)I"⟩ : MethodName) method_3_code 3 (some .int) :: wds) ({ frames := 0, cells := 0, slots := 0, locals := 0 } : Room)) (fun ar_ U_ => ar_ = #[(.int y), (.int h), (.int m3)] ∧ Z.Warmed39 U_.vm ∧ U_.heap = h0) (fun _ _ _ _ _ => True) (fun _ U_ o_ V_ => ∃ v_ L_, o_ = .returned v_ ∧ own_levelT_Q Z y h m3 h0 n0 v_ V_.heap L_ ∧ FrameEnd U_ o_ V_ L_ ({ frames := 0, cells := 0, slots := 0, locals := 0 } : Room).cells ({ frames := 0, cells := 0, slots := 0, locals := 0 } : Room).slots) := by
  refine own_met (y := ⟨"com/example/gyges/gyges/model/LevelsGetPrecisionPinLaw", "level", "(III)I"⟩) (Q := own_levelT_Q Z y h m3 h0 n0) own_pn0 ?_
  intro p e s m below meth c s₁ hx hby hml hZ hown hnm hret hlk X0 e0
  have N0 := Fr.nil n0
  refine own_cast (g' := (mkF m 0 #[.val (.int y), .val (.int h), .val (.int m3)] [])) (by first | (simp [entryFrame, mkF, argsToLocals, Value.category]; done) | rfl) ?_
  refine own_pre (T' := s₁) (g' := (mkF m 1 #[.val (.int y), .val (.int h), .val (.int m3)] [(.int m3)])) (fun t k => XS.iloadN X0.here hx rfl (v := m3) (hb hby d2_0) rfl k) ?_
  refine own_pre (T' := s₁) (g' := (mkF m 2 #[.val (.int y), .val (.int h), .val (.int m3)] [(.int (3 : Int32)), (.int m3)])) (fun t k => XS.iconst X0.here hx rfl (hb hby d2_1) k) ?_
  refine own_pre (T' := s₁) (g' := (mkF m 3 #[.val (.int y), .val (.int h), .val (.int m3)] [(.int (m3 &&& (3 : Int32)))])) (fun t k => XS.iand X0.here hx rfl (hb hby d2_2) rfl k) ?_
  refine own_pre (T' := s₁) (g' := (mkF m 4 #[.val (.int y), .val (.int h), .val (.int m3)] [(.int (1 : Int32)), (.int (m3 &&& (3 : Int32)))])) (fun t k => XS.iconst X0.here hx rfl (hb hby d2_3) k) ?_
  by_cases h1 : (m3 &&& (3 : Int32)) = (1 : Int32)
  · skip
    refine own_pre (T' := s₁) (g' := (mkF m 7 #[.val (.int y), .val (.int h), .val (.int m3)] [])) (fun t k => XS.icmpNo X0.here hx rfl (hb hby d2_4) rfl (teq h1).2 k) ?_
    refine own_pre (T' := s₁) (g' := (mkF m 8 #[.val (.int y), .val (.int h), .val (.int m3)] [(.int h)])) (fun t k => XS.iloadN X0.here hx rfl (v := h) (hb hby d2_7) rfl k) ?_
    exact own_retI X0 hx hlk hret (hb hby d2_8) e0 ⟨by unfold own_level; rw [if_pos h1], N0, rfl⟩ (by decide) (by decide)
  · skip
    refine own_pre (T' := s₁) (g' := (mkF m 9 #[.val (.int y), .val (.int h), .val (.int m3)] [])) (fun t k => XS.icmpYes X0.here hx rfl (pc0 := 4) (pc' := 9) rfl (hb hby d2_4) rfl (feq h1).2 (by decide) (by decide) k) ?_
    refine own_pre (T' := s₁) (g' := (mkF m 10 #[.val (.int y), .val (.int h), .val (.int m3)] [(.int m3)])) (fun t k => XS.iloadN X0.here hx rfl (v := m3) (hb hby d2_9) rfl k) ?_
    refine own_pre (T' := s₁) (g' := (mkF m 11 #[.val (.int y), .val (.int h), .val (.int m3)] [(.int (3 : Int32)), (.int m3)])) (fun t k => XS.iconst X0.here hx rfl (hb hby d2_10) k) ?_
    refine own_pre (T' := s₁) (g' := (mkF m 12 #[.val (.int y), .val (.int h), .val (.int m3)] [(.int (m3 &&& (3 : Int32)))])) (fun t k => XS.iand X0.here hx rfl (hb hby d2_11) rfl k) ?_
    refine own_pre (T' := s₁) (g' := (mkF m 13 #[.val (.int y), .val (.int h), .val (.int m3)] [(.int (2 : Int32)), (.int (m3 &&& (3 : Int32)))])) (fun t k => XS.iconst X0.here hx rfl (hb hby d2_12) k) ?_
    by_cases h2 : (m3 &&& (3 : Int32)) = (2 : Int32)
    · skip
      refine own_pre (T' := s₁) (g' := (mkF m 16 #[.val (.int y), .val (.int h), .val (.int m3)] [])) (fun t k => XS.icmpNo X0.here hx rfl (hb hby d2_13) rfl (teq h2).2 k) ?_
      refine own_pre (T' := s₁) (g' := (mkF m 17 #[.val (.int y), .val (.int h), .val (.int m3)] [(.int (0 : Int32))])) (fun t k => XS.iconst X0.here hx rfl (hb hby d2_16) k) ?_
      exact own_retI X0 hx hlk hret (hb hby d2_17) e0 ⟨by unfold own_level; rw [if_neg h1, if_pos h2], N0, rfl⟩ (by decide) (by decide)
    · skip
      refine own_pre (T' := s₁) (g' := (mkF m 18 #[.val (.int y), .val (.int h), .val (.int m3)] [])) (fun t k => XS.icmpYes X0.here hx rfl (pc0 := 13) (pc' := 18) rfl (hb hby d2_13) rfl (feq h2).2 (by decide) (by decide) k) ?_
      refine own_pre (T' := s₁) (g' := (mkF m 19 #[.val (.int y), .val (.int h), .val (.int m3)] [(.int y)])) (fun t k => XS.iloadN X0.here hx rfl (v := y) (hb hby d2_18) rfl k) ?_
      refine own_pre (T' := s₁) (g' := (mkF m 20 #[.val (.int y), .val (.int h), .val (.int m3)] [(.long y.toInt64)])) (fun t k => XT.i2l X0.here hx rfl (hb hby d2_19) rfl k) ?_
      refine own_ldcl X0 hx hZ hown (hw _ (List.mem_of_getElem? (i := 7) rfl)) (hb hby d2_20) ?_
      show own_Go _ _ _ _ _ _ _ s₁ (mkF m 23 #[.val (.int y), .val (.int h), .val (.int m3)] [(.long (2147483647 : Int64)), (.long y.toInt64)])
      refine own_pre (T' := s₁) (g' := (mkF m 24 #[.val (.int y), .val (.int h), .val (.int m3)] [(.long (y.toInt64 &&& (2147483647 : Int64)))])) (fun t k => XT.land X0.here hx rfl (hb hby d2_23) rfl k) ?_
      refine own_pre (T' := s₁) (g' := (mkF m 25 #[.val (.int y), .val (.int h), .val (.int m3)] [(.int h), (.long (y.toInt64 &&& (2147483647 : Int64)))])) (fun t k => XS.iloadN X0.here hx rfl (v := h) (hb hby d2_24) rfl k) ?_
      refine own_pre (T' := s₁) (g' := (mkF m 26 #[.val (.int y), .val (.int h), .val (.int m3)] [(.long h.toInt64), (.long (y.toInt64 &&& (2147483647 : Int64)))])) (fun t k => XT.i2l X0.here hx rfl (hb hby d2_25) rfl k) ?_
      refine own_pre (T' := s₁) (g' := (mkF m 27 #[.val (.int y), .val (.int h), .val (.int m3)] [(.long (1 : Int64)), (.long h.toInt64), (.long (y.toInt64 &&& (2147483647 : Int64)))])) (fun t k => XT.lconst X0.here hx rfl (hb hby d2_26) k) ?_
      refine own_pre (T' := s₁) (g' := (mkF m 28 #[.val (.int y), .val (.int h), .val (.int m3)] [(.long (h.toInt64 + (1 : Int64))), (.long (y.toInt64 &&& (2147483647 : Int64)))])) (fun t k => XT.ladd X0.here hx rfl (hb hby d2_27) rfl k) ?_
      refine own_pre (T' := s₁) (g' := (mkF m 29 #[.val (.int y), .val (.int h), .val (.int m3)] [(.long ((y.toInt64 &&& (2147483647 : Int64)) - ((y.toInt64 &&& (2147483647 : Int64)) / (h.toInt64 + (1 : Int64))) * (h.toInt64 + (1 : Int64))))])) (fun t k => XT.lrem X0.here hx rfl (hb hby d2_28) rfl (own_nz1 hh) k) ?_
      refine own_pre (T' := s₁) (g' := (mkF m 30 #[.val (.int y), .val (.int h), .val (.int m3)] [(.int (((y.toInt64 &&& (2147483647 : Int64)) - ((y.toInt64 &&& (2147483647 : Int64)) / (h.toInt64 + (1 : Int64))) * (h.toInt64 + (1 : Int64))).toInt32))])) (fun t k => XT.l2i X0.here hx rfl (hb hby d2_29) rfl k) ?_
      exact own_retI X0 hx hlk hret (hb hby d2_30) e0 ⟨by unfold own_level; rw [if_neg h1, if_neg h2], N0, rfl⟩ (by decide) (by decide)
theorem d3_0 : decode method_4_code 0 = .ok (.iload_n 1, 1) := by decide +kernel
theorem d3_1 : decode method_4_code 1 = .ok (.ifCond .le 9, 3) := by decide +kernel
theorem d3_4 : decode method_4_code 4 = .ok (.iload_n 0, 1) := by decide +kernel
theorem d3_5 : decode method_4_code 5 = .ok (.i2d, 1) := by decide +kernel
theorem d3_6 : decode method_4_code 6 = .ok (.iload_n 1, 1) := by decide +kernel
theorem d3_7 : decode method_4_code 7 = .ok (.i2d, 1) := by decide +kernel
theorem d3_8 : decode method_4_code 8 = .ok (.ddiv, 1) := by decide +kernel
theorem d3_9 : decode method_4_code 9 = .ok (.dreturn, 1) := by decide +kernel
theorem d3_10 : decode method_4_code 10 = .ok (.dconst 0, 1) := by decide +kernel
theorem d3_11 : decode method_4_code 11 = .ok (.dreturn, 1) := by decide +kernel
def own_termT_Q (Z : State) (x y : Int32) (h0 : Heap) (n0 : Nat) (v_ : Option Value) (h_ : Heap) (L_ : List Loc) : Prop := (fun v h L => v = some (.double (own_t x y)) ∧ Fr n0 L ∧ h = h0) v_ h_ L_
set_option maxRecDepth 65536 in
set_option maxHeartbeats 40000000 in
theorem own_termT (l : Launch) (Z : State) (a0 : Array Value) (hw : ∀ d ∈ tables_1, d.before a0 Z = true) (wds : List Jvm.Cond) (x y : Int32) (h0 : Heap) (n0 : Nat) (Z0 : n0 ≤ h0.size) (h0x : 0 ≤ x.toInt) (hxy : x.toInt ≤ y.toInt) :
    MetFree l (⟨"com/example/gyges/gyges/model/LevelsGetPrecisionPinLaw", "term", "(II)D"⟩ : MethodName) (head1 (Jvm.Cond.code (⟨"com/example/gyges/gyges/model/LevelsGetPrecisionPinLaw", "term", "(II)D"⟩ : MethodName) method_4_code 2 (some .double) :: wds) ({ frames := 0, cells := 0, slots := 0, locals := 0 } : Room)) (fun ar_ U_ => ar_ = #[(.int x), (.int y)] ∧ Z.Warmed39 U_.vm ∧ U_.heap = h0) (fun _ _ _ _ _ => True) (fun _ U_ o_ V_ => ∃ v_ L_, o_ = .returned v_ ∧ own_termT_Q Z x y h0 n0 v_ V_.heap L_ ∧ FrameEnd U_ o_ V_ L_ ({ frames := 0, cells := 0, slots := 0, locals := 0 } : Room).cells ({ frames := 0, cells := 0, slots := 0, locals := 0 } : Room).slots) := by
  refine own_met (y := ⟨"com/example/gyges/gyges/model/LevelsGetPrecisionPinLaw", "term", "(II)D"⟩) (Q := own_termT_Q Z x y h0 n0) own_pn0 ?_
  intro p e s m below meth c s₁ hx hby hml hZ hown hnm hret hlk X0 e0
  have N0 := Fr.nil n0
  refine own_cast (g' := (mkF m 0 #[.val (.int x), .val (.int y)] [])) (by first | (simp [entryFrame, mkF, argsToLocals, Value.category]; done) | rfl) ?_
  refine own_pre (T' := s₁) (g' := (mkF m 1 #[.val (.int x), .val (.int y)] [(.int y)])) (fun t k => XS.iloadN X0.here hx rfl (v := y) (hb hby d3_0) rfl k) ?_
  by_cases hp : (0 : Int32) < y
  · skip
    refine own_pre (T' := s₁) (g' := (mkF m 4 #[.val (.int x), .val (.int y)] [])) (fun t k => XS.ifNo X0.here hx rfl (hb hby d3_1) rfl ((if0 _ _).trans (tlt hp).2.2.2) k) ?_
    refine own_pre (T' := s₁) (g' := (mkF m 5 #[.val (.int x), .val (.int y)] [(.int x)])) (fun t k => XS.iloadN X0.here hx rfl (v := x) (hb hby d3_4) rfl k) ?_
    obtain ⟨f1, hf1⟩ : ∃ z, FP.i2d x = z := ⟨_, rfl⟩
    refine own_pre (T' := s₁) (g' := (mkF m 6 #[.val (.int x), .val (.int y)] [(.double f1)])) (fun t k => XS.i2dS X0.here hx rfl (hb hby d3_5) rfl hf1 k) ?_
    have Df1 : Jvm.FP.Core.DInt x.toInt f1 := hf1 ▸ Jvm.FP.Core.i2d_int _
    refine own_pre (T' := s₁) (g' := (mkF m 7 #[.val (.int x), .val (.int y)] [(.int y), (.double f1)])) (fun t k => XS.iloadN X0.here hx rfl (v := y) (hb hby d3_6) rfl k) ?_
    obtain ⟨f2, hf2⟩ : ∃ z, FP.i2d y = z := ⟨_, rfl⟩
    refine own_pre (T' := s₁) (g' := (mkF m 8 #[.val (.int x), .val (.int y)] [(.double f2), (.double f1)])) (fun t k => XS.i2dS X0.here hx rfl (hb hby d3_7) rfl hf2 k) ?_
    have Df2 : Jvm.FP.Core.DInt y.toInt f2 := hf2 ▸ Jvm.FP.Core.i2d_int _
    have ht : FP.ddiv f1 f2 = own_t x y := by unfold own_t; rw [if_pos hp, hf1, hf2]
    refine own_pre (T' := s₁) (g' := (mkF m 9 #[.val (.int x), .val (.int y)] [(.double (own_t x y))])) (fun t k => XS.ddivS X0.here hx rfl (v := (own_t x y)) (hb hby d3_8) rfl (by rw [ht]; exact (own_tU h0x hxy).nn) ht k) ?_
    exact own_retD X0 hx hlk hret (hb hby d3_9) e0 ⟨rfl, N0, rfl⟩ (by decide) (by decide)
  · skip
    refine own_pre (T' := s₁) (g' := (mkF m 10 #[.val (.int x), .val (.int y)] [])) (fun t k => XS.ifYes X0.here hx rfl (pc0 := 1) (pc' := 10) rfl (hb hby d3_1) rfl ((if0 _ _).trans (flt hp).2.2.2) (by decide) (by decide) k) ?_
    refine own_pre (T' := s₁) (g' := (mkF m 11 #[.val (.int x), .val (.int y)] [(.double (0 : UInt64))])) (fun t k => XS.dconst0 X0.here hx rfl (v := (0 : UInt64)) (hb hby d3_10) (by decide) k) ?_
    exact own_retD X0 hx hlk hret (hb hby d3_11) e0 ⟨by unfold own_t; rw [if_neg hp], N0, rfl⟩ (by decide) (by decide)
theorem d5_0 : decode prog_43_method_3_code 0 = .ok (.aload_n 0, 1) := by decide +kernel
theorem d5_1 : decode prog_43_method_3_code 1 = .ok (.invokespecial 18, 3) := by decide +kernel
theorem d5_4 : decode prog_43_method_3_code 4 = .ok (.aload_n 1, 1) := by decide +kernel
theorem d5_5 : decode prog_43_method_3_code 5 = .ok (.arraylength, 1) := by decide +kernel
theorem d5_6 : decode prog_43_method_3_code 6 = .ok (.ifCond .eq 10, 3) := by decide +kernel
theorem d5_9 : decode prog_43_method_3_code 9 = .ok (.aload_n 2, 1) := by decide +kernel
theorem d5_10 : decode prog_43_method_3_code 10 = .ok (.arraylength, 1) := by decide +kernel
theorem d5_11 : decode prog_43_method_3_code 11 = .ok (.aload_n 1, 1) := by decide +kernel
theorem d5_12 : decode prog_43_method_3_code 12 = .ok (.arraylength, 1) := by decide +kernel
theorem d5_13 : decode prog_43_method_3_code 13 = .ok (.if_icmp .eq 20, 3) := by decide +kernel
theorem d5_16 : decode prog_43_method_3_code 16 = .ok (.new 9, 3) := by decide +kernel
theorem d5_19 : decode prog_43_method_3_code 19 = .ok (.dup, 1) := by decide +kernel
theorem d5_20 : decode prog_43_method_3_code 20 = .ok (.aload_n 1, 1) := by decide +kernel
theorem d5_21 : decode prog_43_method_3_code 21 = .ok (.arraylength, 1) := by decide +kernel
theorem d5_22 : decode prog_43_method_3_code 22 = .ok (.aload_n 2, 1) := by decide +kernel
theorem d5_23 : decode prog_43_method_3_code 23 = .ok (.arraylength, 1) := by decide +kernel
theorem d5_24 : decode prog_43_method_3_code 24 = .ok (.invokedynamic 23, 5) := by decide +kernel
theorem d5_29 : decode prog_43_method_3_code 29 = .ok (.invokespecial 15, 3) := by decide +kernel
theorem d5_32 : decode prog_43_method_3_code 32 = .ok (.athrow, 1) := by decide +kernel
theorem d5_33 : decode prog_43_method_3_code 33 = .ok (.iconst 0, 1) := by decide +kernel
theorem d5_34 : decode prog_43_method_3_code 34 = .ok (.istore 5, 2) := by decide +kernel
theorem d5_36 : decode prog_43_method_3_code 36 = .ok (.iload 5, 2) := by decide +kernel
theorem d5_38 : decode prog_43_method_3_code 38 = .ok (.aload_n 1, 1) := by decide +kernel
theorem d5_39 : decode prog_43_method_3_code 39 = .ok (.arraylength, 1) := by decide +kernel
theorem d5_40 : decode prog_43_method_3_code 40 = .ok (.if_icmp .ge 48, 3) := by decide +kernel
theorem d5_43 : decode prog_43_method_3_code 43 = .ok (.aload_n 1, 1) := by decide +kernel
theorem d5_44 : decode prog_43_method_3_code 44 = .ok (.iload 5, 2) := by decide +kernel
theorem d5_46 : decode prog_43_method_3_code 46 = .ok (.iaload, 1) := by decide +kernel
theorem d5_47 : decode prog_43_method_3_code 47 = .ok (.ifCond .lt 14, 3) := by decide +kernel
theorem d5_50 : decode prog_43_method_3_code 50 = .ok (.aload_n 1, 1) := by decide +kernel
theorem d5_51 : decode prog_43_method_3_code 51 = .ok (.iload 5, 2) := by decide +kernel
theorem d5_53 : decode prog_43_method_3_code 53 = .ok (.iaload, 1) := by decide +kernel
theorem d5_54 : decode prog_43_method_3_code 54 = .ok (.aload_n 2, 1) := by decide +kernel
theorem d5_55 : decode prog_43_method_3_code 55 = .ok (.iload 5, 2) := by decide +kernel
theorem d5_57 : decode prog_43_method_3_code 57 = .ok (.iaload, 1) := by decide +kernel
theorem d5_58 : decode prog_43_method_3_code 58 = .ok (.if_icmp .le 24, 3) := by decide +kernel
theorem d5_61 : decode prog_43_method_3_code 61 = .ok (.new 9, 3) := by decide +kernel
theorem d5_64 : decode prog_43_method_3_code 64 = .ok (.dup, 1) := by decide +kernel
theorem d5_65 : decode prog_43_method_3_code 65 = .ok (.aload_n 1, 1) := by decide +kernel
theorem d5_66 : decode prog_43_method_3_code 66 = .ok (.iload 5, 2) := by decide +kernel
theorem d5_68 : decode prog_43_method_3_code 68 = .ok (.iaload, 1) := by decide +kernel
theorem d5_69 : decode prog_43_method_3_code 69 = .ok (.aload_n 2, 1) := by decide +kernel
theorem d5_70 : decode prog_43_method_3_code 70 = .ok (.iload 5, 2) := by decide +kernel
theorem d5_72 : decode prog_43_method_3_code 72 = .ok (.iaload, 1) := by decide +kernel
theorem d5_73 : decode prog_43_method_3_code 73 = .ok (.invokedynamic 26, 5) := by decide +kernel
theorem d5_78 : decode prog_43_method_3_code 78 = .ok (.invokespecial 15, 3) := by decide +kernel
theorem d5_81 : decode prog_43_method_3_code 81 = .ok (.athrow, 1) := by decide +kernel
theorem d5_82 : decode prog_43_method_3_code 82 = .ok (.iinc 5 1, 3) := by decide +kernel
theorem d5_85 : decode prog_43_method_3_code 85 = .ok (.goto (-49), 3) := by decide +kernel
theorem d5_88 : decode prog_43_method_3_code 88 = .ok (.aload_n 0, 1) := by decide +kernel
theorem d5_89 : decode prog_43_method_3_code 89 = .ok (.aload_n 1, 1) := by decide +kernel
theorem d5_90 : decode prog_43_method_3_code 90 = .ok (.invokevirtual 27, 3) := by decide +kernel
theorem d5_93 : decode prog_43_method_3_code 93 = .ok (.checkcast 28, 3) := by decide +kernel
theorem d5_96 : decode prog_43_method_3_code 96 = .ok (.putfield 33, 3) := by decide +kernel
theorem d5_99 : decode prog_43_method_3_code 99 = .ok (.aload_n 0, 1) := by decide +kernel
theorem d5_100 : decode prog_43_method_3_code 100 = .ok (.aload_n 2, 1) := by decide +kernel
theorem d5_101 : decode prog_43_method_3_code 101 = .ok (.invokevirtual 27, 3) := by decide +kernel
theorem d5_104 : decode prog_43_method_3_code 104 = .ok (.checkcast 28, 3) := by decide +kernel
theorem d5_107 : decode prog_43_method_3_code 107 = .ok (.putfield 36, 3) := by decide +kernel
theorem d5_110 : decode prog_43_method_3_code 110 = .ok (.aload_n 0, 1) := by decide +kernel
theorem d5_111 : decode prog_43_method_3_code 111 = .ok (.lload_n 3, 1) := by decide +kernel
theorem d5_112 : decode prog_43_method_3_code 112 = .ok (.putfield 39, 3) := by decide +kernel
theorem d5_115 : decode prog_43_method_3_code 115 = .ok (.return_, 1) := by decide +kernel
theorem own_pn1 : plainName "com/example/gyges/gyges/model/Levels" = true := by first | (simp [plainName, overriddenIn]; done) | decide +kernel
def own_ini3_1_Q (Z : State) (o al ah : Addr) (l0 t0 : Int32) (nc : Int64) (h0 : Heap) (n0 : Nat) (v_ : Option Value) (h_ : Heap) (L_ : List Loc) : Prop := (fun v h L => v = none ∧ Fr n0 L ∧ Keep h0 h [o] ∧ ∃ (bl bh : Addr), (h0.size ≤ bl ∧ bl < bh) ∧ Fld Z h o "com/example/gyges/gyges/model/Levels" "levels" "[I" (.ref bl) ∧ Fld Z h o "com/example/gyges/gyges/model/Levels" "heights" "[I" (.ref bh) ∧ own_Ary Z h bl .int [.int l0] ∧ own_Ary Z h bh .int [.int t0]) v_ h_ L_
set_option maxRecDepth 65536 in
set_option maxHeartbeats 40000000 in
theorem own_ini3_1 (l : Launch) (Z : State) (a0 : Array Value) (hw : ∀ d ∈ tables_1, d.before a0 Z = true) (wds : List Jvm.Cond) (o al ah : Addr) (l0 t0 : Int32) (nc : Int64) (h0 : Heap) (n0 : Nat) (Z0 : n0 ≤ h0.size) (E : Exa Z h0 o "com/example/gyges/gyges/model/Levels") (F1 : Fld Z h0 o "com/example/gyges/gyges/model/Levels" "levels" "[I" .null) (F2 : Fld Z h0 o "com/example/gyges/gyges/model/Levels" "heights" "[I" .null) (F3 : Fld Z h0 o "com/example/gyges/gyges/model/Levels" "nodesChecked" "J" (.long (0 : Int64))) (A1 : own_Ary Z h0 al .int [.int l0]) (A2 : own_Ary Z h0 ah .int [.int t0]) (B1 : Exa Z h0 al "[I") (B2 : Exa Z h0 ah "[I") (hnew : n0 ≤ o) (ne1 : al ≠ o) (ne2 : ah ≠ o) (c0 : 0 ≤ l0.toInt) (d0 : l0.toInt ≤ t0.toInt) :
    MetFree l (⟨"com/example/gyges/gyges/model/Levels", "<init>", "([I[IJ)V"⟩ : MethodName) (head1 (Jvm.Cond.code (⟨"com/example/gyges/gyges/model/Levels", "<init>", "([I[IJ)V"⟩ : MethodName) prog_43_method_3_code 6 none :: wds) ({ frames := 1, cells := 2, slots := 2, locals := 15 } : Room)) (fun ar_ U_ => ar_ = #[(.ref o), (.ref al), (.ref ah), (.long nc)] ∧ Z.Warmed39 U_.vm ∧ U_.heap = h0) (fun _ _ _ _ _ => True) (fun _ U_ o_ V_ => ∃ v_ L_, o_ = .returned v_ ∧ own_ini3_1_Q Z o al ah l0 t0 nc h0 n0 v_ V_.heap L_ ∧ FrameEnd U_ o_ V_ L_ ({ frames := 1, cells := 2, slots := 2, locals := 15 } : Room).cells ({ frames := 1, cells := 2, slots := 2, locals := 15 } : Room).slots) := by
  refine own_met (y := ⟨"com/example/gyges/gyges/model/Levels", "<init>", "([I[IJ)V"⟩) (Q := own_ini3_1_Q Z o al ah l0 t0 nc h0 n0) own_pn1 ?_
  intro p e s m below meth c s₁ hx hby hml hZ hown hnm hret hlk X0 e0
  have N0 := Fr.nil n0
  refine own_cast (g' := (mkF m 0 #[.val (.ref o), .val (.ref al), .val (.ref ah), .val (.long nc), .second, .unset] [])) (by first | (simp [entryFrame, mkF, argsToLocals, Value.category]; done) | rfl) ?_
  generalize hL1 : (#[.val (.ref o), .val (.ref al), .val (.ref ah), .val (.long nc), .second, .unset] : Array Slot) = L1
  refine own_pre (T' := s₁) (g' := (mkF m 1 L1 [(.ref o)])) (fun t k => XS.aloadN X0.here hx rfl (v := (.ref o)) (hb hby d5_0) (by rw [← hL1]; rfl) rfl k) ?_
  refine own_init0 X0 hx hZ hown (hw _ (List.mem_of_getElem? (i := 22) rfl)) (hw _ (List.mem_of_getElem? (i := 23) rfl)) (hw _ (List.mem_of_getElem? (i := 24) rfl)) e0 (hb hby d5_1) (by rw [hml, ← hL1]; rfl) (by decide) (W := 0) (Nat.le_of_eq rfl) (by decide) ?_
  intro T2 X2 e2
  show own_Go _ _ _ _ _ _ _ T2 (mkF m 4 L1 [])
  refine own_pre (T' := T2) (g' := (mkF m 5 L1 [(.ref al)])) (fun t k => XS.aloadN X2.here hx rfl (v := (.ref al)) (hb hby d5_4) (by rw [← hL1]; rfl) rfl k) ?_
  refine own_len X2 hx hZ e2 A1 (hb hby d5_5) (n := (1 : Int32)) rfl ?_
  show own_Go _ _ _ _ _ _ _ T2 (mkF m 6 L1 [(.int (1 : Int32))])
  refine own_pre (T' := T2) (g' := (mkF m 9 L1 [])) (fun t k => XS.ifNo X2.here hx rfl (hb hby d5_6) rfl (by decide) k) ?_
  refine own_pre (T' := T2) (g' := (mkF m 10 L1 [(.ref ah)])) (fun t k => XS.aloadN X2.here hx rfl (v := (.ref ah)) (hb hby d5_9) (by rw [← hL1]; rfl) rfl k) ?_
  refine own_len X2 hx hZ e2 A2 (hb hby d5_10) (n := (1 : Int32)) rfl ?_
  show own_Go _ _ _ _ _ _ _ T2 (mkF m 11 L1 [(.int (1 : Int32))])
  refine own_pre (T' := T2) (g' := (mkF m 12 L1 [(.ref al), (.int (1 : Int32))])) (fun t k => XS.aloadN X2.here hx rfl (v := (.ref al)) (hb hby d5_11) (by rw [← hL1]; rfl) rfl k) ?_
  refine own_len X2 hx hZ e2 A1 (hb hby d5_12) (n := (1 : Int32)) rfl ?_
  show own_Go _ _ _ _ _ _ _ T2 (mkF m 13 L1 [(.int (1 : Int32)), (.int (1 : Int32))])
  refine own_pre (T' := T2) (g' := (mkF m 33 L1 [])) (fun t k => XS.icmpYes X2.here hx rfl (pc0 := 13) (pc' := 33) rfl (hb hby d5_13) rfl (by decide) (by decide) (by decide) k) ?_
  refine own_pre (T' := T2) (g' := (mkF m 34 L1 [(.int (0 : Int32))])) (fun t k => XS.iconst X2.here hx rfl (hb hby d5_33) k) ?_
  refine own_pre (T' := T2) (g' := (mkF m 36 #[.val (.ref o), .val (.ref al), .val (.ref ah), .val (.long nc), .second, .val (.int (0 : Int32))] [])) (fun t k => XS.istore X2.here hx rfl (hb hby d5_34) rfl (l' := #[.val (.ref o), .val (.ref al), .val (.ref ah), .val (.long nc), .second, .val (.int (0 : Int32))]) (by rw [← hL1]; rfl) k) ?_
  generalize hL3 : (#[.val (.ref o), .val (.ref al), .val (.ref ah), .val (.long nc), .second, .val (.int (0 : Int32))] : Array Slot) = L3
  refine own_pre (T' := T2) (g' := (mkF m 38 L3 [(.int (0 : Int32))])) (fun t k => XS.iload X2.here hx rfl (v := (0 : Int32)) (hb hby d5_36) (by rw [← hL3]; rfl) k) ?_
  refine own_pre (T' := T2) (g' := (mkF m 39 L3 [(.ref al), (.int (0 : Int32))])) (fun t k => XS.aloadN X2.here hx rfl (v := (.ref al)) (hb hby d5_38) (by rw [← hL3]; rfl) rfl k) ?_
  refine own_len X2 hx hZ e2 A1 (hb hby d5_39) (n := (1 : Int32)) rfl ?_
  show own_Go _ _ _ _ _ _ _ T2 (mkF m 40 L3 [(.int (1 : Int32)), (.int (0 : Int32))])
  refine own_pre (T' := T2) (g' := (mkF m 43 L3 [])) (fun t k => XS.icmpNo X2.here hx rfl (hb hby d5_40) rfl (by decide) k) ?_
  refine own_pre (T' := T2) (g' := (mkF m 44 L3 [(.ref al)])) (fun t k => XS.aloadN X2.here hx rfl (v := (.ref al)) (hb hby d5_43) (by rw [← hL3]; rfl) rfl k) ?_
  refine own_pre (T' := T2) (g' := (mkF m 46 L3 [(.int (0 : Int32)), (.ref al)])) (fun t k => XS.iload X2.here hx rfl (v := (0 : Int32)) (hb hby d5_44) (by rw [← hL3]; rfl) k) ?_
  refine own_iaload X2 hx hZ e2 A1 (hb hby d5_46) (n := 0) (v := (.int l0)) (by decide) (by decide) rfl ?_
  show own_Go _ _ _ _ _ _ _ T2 (mkF m 47 L3 [(.int l0)])
  have zl0 : ¬ l0 < (0 : Int32) := by rw [Int32.lt_iff_toInt_lt, show (0 : Int32).toInt = 0 from rfl]; omega
  refine own_pre (T' := T2) (g' := (mkF m 50 L3 [])) (fun t k => XS.ifNo X2.here hx rfl (hb hby d5_47) rfl ((if0 _ _).trans (flt zl0).1) k) ?_
  refine own_pre (T' := T2) (g' := (mkF m 51 L3 [(.ref al)])) (fun t k => XS.aloadN X2.here hx rfl (v := (.ref al)) (hb hby d5_50) (by rw [← hL3]; rfl) rfl k) ?_
  refine own_pre (T' := T2) (g' := (mkF m 53 L3 [(.int (0 : Int32)), (.ref al)])) (fun t k => XS.iload X2.here hx rfl (v := (0 : Int32)) (hb hby d5_51) (by rw [← hL3]; rfl) k) ?_
  refine own_iaload X2 hx hZ e2 A1 (hb hby d5_53) (n := 0) (v := (.int l0)) (by decide) (by decide) rfl ?_
  show own_Go _ _ _ _ _ _ _ T2 (mkF m 54 L3 [(.int l0)])
  refine own_pre (T' := T2) (g' := (mkF m 55 L3 [(.ref ah), (.int l0)])) (fun t k => XS.aloadN X2.here hx rfl (v := (.ref ah)) (hb hby d5_54) (by rw [← hL3]; rfl) rfl k) ?_
  refine own_pre (T' := T2) (g' := (mkF m 57 L3 [(.int (0 : Int32)), (.ref ah), (.int l0)])) (fun t k => XS.iload X2.here hx rfl (v := (0 : Int32)) (hb hby d5_55) (by rw [← hL3]; rfl) k) ?_
  refine own_iaload X2 hx hZ e2 A2 (hb hby d5_57) (n := 0) (v := (.int t0)) (by decide) (by decide) rfl ?_
  show own_Go _ _ _ _ _ _ _ T2 (mkF m 58 L3 [(.int t0), (.int l0)])
  have yl0 : ¬ t0 < l0 := by rw [Int32.lt_iff_toInt_lt]; omega
  refine own_pre (T' := T2) (g' := (mkF m 82 L3 [])) (fun t k => XS.icmpYes X2.here hx rfl (pc0 := 58) (pc' := 82) rfl (hb hby d5_58) rfl (flt yl0).2.2.2 (by decide) (by decide) k) ?_
  refine own_pre (T' := T2) (g' := (mkF m 85 #[.val (.ref o), .val (.ref al), .val (.ref ah), .val (.long nc), .second, .val (.int (1 : Int32))] [])) (fun t k => XS.iinc X2.here hx rfl (hb hby d5_82) (x := (0 : Int32)) (by rw [← hL3]; rfl) (l' := #[.val (.ref o), .val (.ref al), .val (.ref ah), .val (.long nc), .second, .val (.int (1 : Int32))]) (by rw [← hL3]; rfl) k) ?_
  generalize hL4 : (#[.val (.ref o), .val (.ref al), .val (.ref ah), .val (.long nc), .second, .val (.int (1 : Int32))] : Array Slot) = L4
  refine own_pre (T' := T2) (g' := (mkF m 36 L4 [])) (fun t k => XS.goto X2.here hx rfl (pc0 := 85) (pc' := 36) rfl (hb hby d5_85) (by decide) (by decide) k) ?_
  refine own_pre (T' := T2) (g' := (mkF m 38 L4 [(.int (1 : Int32))])) (fun t k => XS.iload X2.here hx rfl (v := (1 : Int32)) (hb hby d5_36) (by rw [← hL4]; rfl) k) ?_
  refine own_pre (T' := T2) (g' := (mkF m 39 L4 [(.ref al), (.int (1 : Int32))])) (fun t k => XS.aloadN X2.here hx rfl (v := (.ref al)) (hb hby d5_38) (by rw [← hL4]; rfl) rfl k) ?_
  refine own_len X2 hx hZ e2 A1 (hb hby d5_39) (n := (1 : Int32)) rfl ?_
  show own_Go _ _ _ _ _ _ _ T2 (mkF m 40 L4 [(.int (1 : Int32)), (.int (1 : Int32))])
  refine own_pre (T' := T2) (g' := (mkF m 88 L4 [])) (fun t k => XS.icmpYes X2.here hx rfl (pc0 := 40) (pc' := 88) rfl (hb hby d5_40) rfl (by decide) (by decide) (by decide) k) ?_
  refine own_pre (T' := T2) (g' := (mkF m 89 L4 [(.ref o)])) (fun t k => XS.aloadN X2.here hx rfl (v := (.ref o)) (hb hby d5_88) (by rw [← hL4]; rfl) rfl k) ?_
  refine own_pre (T' := T2) (g' := (mkF m 90 L4 [(.ref al), (.ref o)])) (fun t k => XS.aloadN X2.here hx rfl (v := (.ref al)) (hb hby d5_89) (by rw [← hL4]; rfl) rfl k) ?_
  refine own_clone X2 hx hZ hown (hw _ (List.mem_of_getElem? (i := 25) rfl)) (hw _ (List.mem_of_getElem? (i := 26) rfl)) (hw _ (List.mem_of_getElem? (i := 30) rfl)) (hw _ (List.mem_of_getElem? (i := 28) rfl)) (hw _ (List.mem_of_getElem? (i := 29) rfl)) (hw _ (List.mem_of_getElem? (i := 31) rfl)) e2 A1 B1 (by intro v hv; simp at hv; rcases hv with rfl <;> rfl) (hb hby d5_90) (by rw [hml, ← hL4]; rfl) (by decide) (W := 1) (n := 1) (Nat.le_of_eq rfl) (by decide) rfl (by decide) (by decide) ?_
  intro T5 h5 a5 g5 X5 e5 E5 A5 B5
  have lt6 : o < a5 := Nat.lt_of_lt_of_le E.lt (Nat.le_of_eq g5.symm)
  have lt7 : al < a5 := Nat.lt_of_lt_of_le A1.lt (Nat.le_of_eq g5.symm)
  have lt8 : ah < a5 := Nat.lt_of_lt_of_le A2.lt (Nat.le_of_eq g5.symm)
  have nw9 : n0 ≤ a5 := Nat.le_trans Z0 (Nat.le_of_eq g5.symm)
  show own_Go _ _ _ _ _ _ _ T5 (mkF m 93 L4 [(.ref a5), (.ref o)])
  refine own_cast1 X5 hx hZ hown (hw _ (List.mem_of_getElem? (i := 32) rfl)) e5 (Ins.self B5) (hb hby d5_93) ?_
  intro T10 X10 e10
  show own_Go _ _ _ _ _ _ _ T10 (mkF m 96 L4 [(.ref a5), (.ref o)])
  have F11 : Fld Z h5 o "com/example/gyges/gyges/model/Levels" "levels" "[I" .null := (F1.ext E5)
  have F12 : Exa Z h5 o "com/example/gyges/gyges/model/Levels" := (E.ext E5)
  refine own_putf X10 hx hZ hown (hw _ (List.mem_of_getElem? (i := 34) rfl)) e10 N0 hnew F11 F12 (Or.inr ⟨(hw _ (List.mem_of_getElem? (i := 35) rfl)), rfl, hnm⟩) (hw _ (List.mem_of_getElem? (i := 12) rfl)) (ty := (.array .int)) (by decide) rfl rfl (hb hby d5_96) ?_
  intro T13 h13 lo13 X13 e13 N13 W13
  have F14 : Fld Z h13 o "com/example/gyges/gyges/model/Levels" "levels" "[I" (.ref a5) := F11.same W13
  show own_Go _ _ _ _ _ _ _ T13 (mkF m 99 L4 [])
  refine own_pre (T' := T13) (g' := (mkF m 100 L4 [(.ref o)])) (fun t k => XS.aloadN X13.here hx rfl (v := (.ref o)) (hb hby d5_99) (by rw [← hL4]; rfl) rfl k) ?_
  refine own_pre (T' := T13) (g' := (mkF m 101 L4 [(.ref ah), (.ref o)])) (fun t k => XS.aloadN X13.here hx rfl (v := (.ref ah)) (hb hby d5_100) (by rw [← hL4]; rfl) rfl k) ?_
  have F15 : Exa Z h13 ah "[I" := ((B2.ext E5).wr W13)
  have F16 : own_Ary Z h13 ah .int [(.int t0)] := ((A2.ext E5).other W13 ne2)
  have F17 : Exa Z h13 o "com/example/gyges/gyges/model/Levels" := (F12.wr W13)
  have F18 : own_Ary Z h13 al .int [(.int l0)] := ((A1.ext E5).other W13 ne1)
  have F19 : own_Ary Z h13 a5 .int [(.int l0)] := (A5.other W13 (Nat.ne_of_gt lt6))
  have F20 : n0 ≤ h13.size := (Nat.le_trans (Nat.le_trans Z0 E5.1) (Nat.le_of_eq W13.size.symm))
  refine own_clone X13 hx hZ hown (hw _ (List.mem_of_getElem? (i := 25) rfl)) (hw _ (List.mem_of_getElem? (i := 26) rfl)) (hw _ (List.mem_of_getElem? (i := 30) rfl)) (hw _ (List.mem_of_getElem? (i := 28) rfl)) (hw _ (List.mem_of_getElem? (i := 29) rfl)) (hw _ (List.mem_of_getElem? (i := 31) rfl)) e13 F16 F15 (by intro v hv; simp at hv; rcases hv with rfl <;> rfl) (hb hby d5_101) (by rw [hml, ← hL4]; rfl) (by decide) (W := 1) (n := 1) (Nat.le_of_eq rfl) (by decide) rfl (by decide) (by decide) ?_
  intro T21 h21 a21 g21 X21 e21 E21 A21 B21
  have lt22 : o < a21 := Nat.lt_of_lt_of_le F17.lt (Nat.le_of_eq g21.symm)
  have lt23 : al < a21 := Nat.lt_of_lt_of_le F18.lt (Nat.le_of_eq g21.symm)
  have lt24 : ah < a21 := Nat.lt_of_lt_of_le F16.lt (Nat.le_of_eq g21.symm)
  have lt25 : a5 < a21 := Nat.lt_of_lt_of_le F19.lt (Nat.le_of_eq g21.symm)
  have nw26 : n0 ≤ a21 := Nat.le_trans F20 (Nat.le_of_eq g21.symm)
  show own_Go _ _ _ _ _ _ _ T21 (mkF m 104 L4 [(.ref a21), (.ref o)])
  refine own_cast1 X21 hx hZ hown (hw _ (List.mem_of_getElem? (i := 32) rfl)) e21 (Ins.self B21) (hb hby d5_104) ?_
  intro T27 X27 e27
  show own_Go _ _ _ _ _ _ _ T27 (mkF m 107 L4 [(.ref a21), (.ref o)])
  have F28 : Fld Z h21 o "com/example/gyges/gyges/model/Levels" "heights" "[I" .null := (((F2.ext E5).other W13 (Or.inr (slot_ne (C := "com/example/gyges/gyges/model/Levels") (Or.inr (hw _ (List.mem_of_getElem? (i := 37) rfl))) (Or.inr (hw _ (List.mem_of_getElem? (i := 35) rfl))) (by decide) (t := (.array .int)) (t' := (.array .int)) (by decide) (by decide)))).ext E21)
  have F29 : Exa Z h21 o "com/example/gyges/gyges/model/Levels" := (F17.ext E21)
  refine own_putf X27 hx hZ hown (hw _ (List.mem_of_getElem? (i := 36) rfl)) e27 N13 hnew F28 F29 (Or.inr ⟨(hw _ (List.mem_of_getElem? (i := 37) rfl)), rfl, hnm⟩) (hw _ (List.mem_of_getElem? (i := 12) rfl)) (ty := (.array .int)) (by decide) rfl rfl (hb hby d5_107) ?_
  intro T30 h30 lo30 X30 e30 N30 W30
  have F31 : Fld Z h30 o "com/example/gyges/gyges/model/Levels" "heights" "[I" (.ref a21) := F28.same W30
  show own_Go _ _ _ _ _ _ _ T30 (mkF m 110 L4 [])
  refine own_pre (T' := T30) (g' := (mkF m 111 L4 [(.ref o)])) (fun t k => XS.aloadN X30.here hx rfl (v := (.ref o)) (hb hby d5_110) (by rw [← hL4]; rfl) rfl k) ?_
  refine own_pre (T' := T30) (g' := (mkF m 112 L4 [(.long nc), (.ref o)])) (fun t k => XT.lloadN X30.here hx rfl (v := nc) (hb hby d5_111) (by rw [← hL4]; rfl) k) ?_
  have F32 : Fld Z h30 o "com/example/gyges/gyges/model/Levels" "nodesChecked" "J" (.long (0 : Int64)) := ((((F3.ext E5).other W13 (Or.inr (slot_ne (C := "com/example/gyges/gyges/model/Levels") (Or.inr (hw _ (List.mem_of_getElem? (i := 39) rfl))) (Or.inr (hw _ (List.mem_of_getElem? (i := 35) rfl))) (by decide) (t := .long) (t' := (.array .int)) (by decide) (by decide)))).ext E21).other W30 (Or.inr (slot_ne (C := "com/example/gyges/gyges/model/Levels") (Or.inr (hw _ (List.mem_of_getElem? (i := 39) rfl))) (Or.inr (hw _ (List.mem_of_getElem? (i := 37) rfl))) (by decide) (t := .long) (t' := (.array .int)) (by decide) (by decide))))
  have F33 : Exa Z h30 o "com/example/gyges/gyges/model/Levels" := (F29.wr W30)
  refine own_putf X30 hx hZ hown (hw _ (List.mem_of_getElem? (i := 38) rfl)) e30 N30 hnew F32 F33 (Or.inr ⟨(hw _ (List.mem_of_getElem? (i := 39) rfl)), rfl, hnm⟩) (hw _ (List.mem_of_getElem? (i := 12) rfl)) (ty := .long) (by decide) rfl rfl (hb hby d5_112) ?_
  intro T34 h34 lo34 X34 e34 N34 W34
  have F35 : Fld Z h34 o "com/example/gyges/gyges/model/Levels" "nodesChecked" "J" (.long nc) := F32.same W34
  show own_Go _ _ _ _ _ _ _ T34 (mkF m 115 L4 [])
  have F36 : Fld Z h34 o "com/example/gyges/gyges/model/Levels" "levels" "[I" (.ref a5) := (((F14.ext E21).other W30 (Or.inr (slot_ne (C := "com/example/gyges/gyges/model/Levels") (Or.inr (hw _ (List.mem_of_getElem? (i := 35) rfl))) (Or.inr (hw _ (List.mem_of_getElem? (i := 37) rfl))) (by decide) (t := (.array .int)) (t' := (.array .int)) (by decide) (by decide)))).other W34 (Or.inr (slot_ne (C := "com/example/gyges/gyges/model/Levels") (Or.inr (hw _ (List.mem_of_getElem? (i := 35) rfl))) (Or.inr (hw _ (List.mem_of_getElem? (i := 39) rfl))) (by decide) (t := (.array .int)) (t' := .long) (by decide) (by decide))))
  have F37 : Fld Z h34 o "com/example/gyges/gyges/model/Levels" "heights" "[I" (.ref a21) := (F31.other W34 (Or.inr (slot_ne (C := "com/example/gyges/gyges/model/Levels") (Or.inr (hw _ (List.mem_of_getElem? (i := 37) rfl))) (Or.inr (hw _ (List.mem_of_getElem? (i := 39) rfl))) (by decide) (t := (.array .int)) (t' := .long) (by decide) (by decide))))
  have F38 : own_Ary Z h34 a5 .int [(.int l0)] := (((F19.ext E21).other W30 (Nat.ne_of_gt lt6)).other W34 (Nat.ne_of_gt lt6))
  have F39 : own_Ary Z h34 a21 .int [(.int t0)] := ((A21.other W30 (Nat.ne_of_gt lt22)).other W34 (Nat.ne_of_gt lt22))
  exact own_ret0 X34 hx hlk hret (hb hby d5_115) e34 ⟨rfl, N34, ((((((Keep.refl _ _).ext E5).wr W13 (Or.inl (List.mem_cons_self ..))).ext E21).wr W30 (Or.inl (List.mem_cons_self ..))).wr W34 (Or.inl (List.mem_cons_self ..))), a5, a21, ⟨Nat.le_of_eq g5.symm, lt25⟩, F36, F37, F38, F39⟩ (by decide) (by decide)
theorem d4_0 : decode prog_43_method_1_code 0 = .ok (.aload_n 0, 1) := by decide +kernel
theorem d4_1 : decode prog_43_method_1_code 1 = .ok (.aload_n 1, 1) := by decide +kernel
theorem d4_2 : decode prog_43_method_1_code 2 = .ok (.aload_n 2, 1) := by decide +kernel
theorem d4_3 : decode prog_43_method_1_code 3 = .ok (.ldc2_w 3, 3) := by decide +kernel
theorem d4_6 : decode prog_43_method_1_code 6 = .ok (.invokespecial 5, 3) := by decide +kernel
theorem d4_9 : decode prog_43_method_1_code 9 = .ok (.return_, 1) := by decide +kernel
theorem own_pd0 : parseMethodDescriptor "([I[IJ)V" = some ⟨[(.array .int), (.array .int), .long], none⟩ := by decide +kernel
def own_ini2_1_Q (Z : State) (o al ah : Addr) (l0 t0 : Int32) (h0 : Heap) (n0 : Nat) (v_ : Option Value) (h_ : Heap) (L_ : List Loc) : Prop := (fun v h L => v = none ∧ Fr n0 L ∧ Keep h0 h [o] ∧ ∃ (bl bh : Addr), (h0.size ≤ bl ∧ bl < bh) ∧ Fld Z h o "com/example/gyges/gyges/model/Levels" "levels" "[I" (.ref bl) ∧ Fld Z h o "com/example/gyges/gyges/model/Levels" "heights" "[I" (.ref bh) ∧ own_Ary Z h bl .int [.int l0] ∧ own_Ary Z h bh .int [.int t0]) v_ h_ L_
set_option maxRecDepth 65536 in
set_option maxHeartbeats 40000000 in
theorem own_ini2_1 (l : Launch) (Z : State) (a0 : Array Value) (hw : ∀ d ∈ tables_1, d.before a0 Z = true) (wds : List Jvm.Cond) (o al ah : Addr) (l0 t0 : Int32) (h0 : Heap) (n0 : Nat) (Z0 : n0 ≤ h0.size) (E : Exa Z h0 o "com/example/gyges/gyges/model/Levels") (F1 : Fld Z h0 o "com/example/gyges/gyges/model/Levels" "levels" "[I" .null) (F2 : Fld Z h0 o "com/example/gyges/gyges/model/Levels" "heights" "[I" .null) (F3 : Fld Z h0 o "com/example/gyges/gyges/model/Levels" "nodesChecked" "J" (.long (0 : Int64))) (A1 : own_Ary Z h0 al .int [.int l0]) (A2 : own_Ary Z h0 ah .int [.int t0]) (B1 : Exa Z h0 al "[I") (B2 : Exa Z h0 ah "[I") (hnew : n0 ≤ o) (ne1 : al ≠ o) (ne2 : ah ≠ o) (c0 : 0 ≤ l0.toInt) (d0 : l0.toInt ≤ t0.toInt) :
    MetFree l (⟨"com/example/gyges/gyges/model/Levels", "<init>", "([I[I)V"⟩ : MethodName) (head1 (Jvm.Cond.code (⟨"com/example/gyges/gyges/model/Levels", "<init>", "([I[I)V"⟩ : MethodName) prog_43_method_1_code 3 none :: wds) ({ frames := 2, cells := 2, slots := 2, locals := 32 } : Room)) (fun ar_ U_ => ar_ = #[(.ref o), (.ref al), (.ref ah)] ∧ Z.Warmed39 U_.vm ∧ U_.heap = h0) (fun _ _ _ _ _ => True) (fun _ U_ o_ V_ => ∃ v_ L_, o_ = .returned v_ ∧ own_ini2_1_Q Z o al ah l0 t0 h0 n0 v_ V_.heap L_ ∧ FrameEnd U_ o_ V_ L_ ({ frames := 2, cells := 2, slots := 2, locals := 32 } : Room).cells ({ frames := 2, cells := 2, slots := 2, locals := 32 } : Room).slots) := by
  refine own_met (y := ⟨"com/example/gyges/gyges/model/Levels", "<init>", "([I[I)V"⟩) (Q := own_ini2_1_Q Z o al ah l0 t0 h0 n0) own_pn1 ?_
  intro p e s m below meth c s₁ hx hby hml hZ hown hnm hret hlk X0 e0
  have N0 := Fr.nil n0
  refine own_cast (g' := (mkF m 0 #[.val (.ref o), .val (.ref al), .val (.ref ah)] [])) (by first | (simp [entryFrame, mkF, argsToLocals, Value.category]; done) | rfl) ?_
  refine own_pre (T' := s₁) (g' := (mkF m 1 #[.val (.ref o), .val (.ref al), .val (.ref ah)] [(.ref o)])) (fun t k => XS.aloadN X0.here hx rfl (v := (.ref o)) (hb hby d4_0) rfl rfl k) ?_
  refine own_pre (T' := s₁) (g' := (mkF m 2 #[.val (.ref o), .val (.ref al), .val (.ref ah)] [(.ref al), (.ref o)])) (fun t k => XS.aloadN X0.here hx rfl (v := (.ref al)) (hb hby d4_1) rfl rfl k) ?_
  refine own_pre (T' := s₁) (g' := (mkF m 3 #[.val (.ref o), .val (.ref al), .val (.ref ah)] [(.ref ah), (.ref al), (.ref o)])) (fun t k => XS.aloadN X0.here hx rfl (v := (.ref ah)) (hb hby d4_2) rfl rfl k) ?_
  refine own_ldcl X0 hx hZ hown (hw _ (List.mem_of_getElem? (i := 18) rfl)) (hb hby d4_3) ?_
  show own_Go _ _ _ _ _ _ _ s₁ (mkF m 6 #[.val (.ref o), .val (.ref al), .val (.ref ah)] [(.long (-1 : Int64)), (.ref ah), (.ref al), (.ref o)])
  refine own_init (a := o) (argsL := [(.ref al), (.ref ah), (.long (-1 : Int64))]) (rest := []) X0 hx hZ hown (own_ini3_1 l Z a0 hw [] o al ah l0 t0 (-1) h0 n0 Z0 E F1 F2 F3 A1 A2 B1 B2 hnew ne1 ne2 c0 d0) rfl (hw _ (List.mem_of_getElem? (i := 19) rfl)) (hw _ (List.mem_of_getElem? (i := 20) rfl)) (hw _ (List.mem_of_getElem? (i := 21) rfl)) (hw _ (List.mem_of_getElem? (i := 13) rfl)) (by decide) e0 (hb hby d4_6) (by rw [hml]; rfl) rfl (lenOf own_pd0 rfl) (by decide) (W := 0) (Nat.le_of_eq rfl) (by decide) (by decide) (by decide) ?_
  intro v1 T1 lo1 X1 Q1
  obtain ⟨h1, e1⟩ : ∃ h, T1.heap = h := ⟨_, rfl⟩
  rw [e1] at Q1
  obtain ⟨rfl, N1, K1, R1⟩ := Q1
  have N1' := Fr.app N0 N1
  show own_Go _ _ _ _ _ _ _ T1 (mkF m 9 #[.val (.ref o), .val (.ref al), .val (.ref ah)] [])
  exact own_ret0 X1 hx hlk hret (hb hby d4_9) e1 ⟨rfl, N1', K1, R1⟩ (by decide) (by decide)
def own_ini3_2_Q (Z : State) (o al ah : Addr) (l0 t0 : Int32) (l1 t1 : Int32) (nc : Int64) (h0 : Heap) (n0 : Nat) (v_ : Option Value) (h_ : Heap) (L_ : List Loc) : Prop := (fun v h L => v = none ∧ Fr n0 L ∧ Keep h0 h [o] ∧ ∃ (bl bh : Addr), (h0.size ≤ bl ∧ bl < bh) ∧ Fld Z h o "com/example/gyges/gyges/model/Levels" "levels" "[I" (.ref bl) ∧ Fld Z h o "com/example/gyges/gyges/model/Levels" "heights" "[I" (.ref bh) ∧ own_Ary Z h bl .int [.int l0, .int l1] ∧ own_Ary Z h bh .int [.int t0, .int t1]) v_ h_ L_
set_option maxRecDepth 65536 in
set_option maxHeartbeats 40000000 in
theorem own_ini3_2 (l : Launch) (Z : State) (a0 : Array Value) (hw : ∀ d ∈ tables_1, d.before a0 Z = true) (wds : List Jvm.Cond) (o al ah : Addr) (l0 t0 : Int32) (l1 t1 : Int32) (nc : Int64) (h0 : Heap) (n0 : Nat) (Z0 : n0 ≤ h0.size) (E : Exa Z h0 o "com/example/gyges/gyges/model/Levels") (F1 : Fld Z h0 o "com/example/gyges/gyges/model/Levels" "levels" "[I" .null) (F2 : Fld Z h0 o "com/example/gyges/gyges/model/Levels" "heights" "[I" .null) (F3 : Fld Z h0 o "com/example/gyges/gyges/model/Levels" "nodesChecked" "J" (.long (0 : Int64))) (A1 : own_Ary Z h0 al .int [.int l0, .int l1]) (A2 : own_Ary Z h0 ah .int [.int t0, .int t1]) (B1 : Exa Z h0 al "[I") (B2 : Exa Z h0 ah "[I") (hnew : n0 ≤ o) (ne1 : al ≠ o) (ne2 : ah ≠ o) (c0 : 0 ≤ l0.toInt) (d0 : l0.toInt ≤ t0.toInt) (c1 : 0 ≤ l1.toInt) (d1 : l1.toInt ≤ t1.toInt) :
    MetFree l (⟨"com/example/gyges/gyges/model/Levels", "<init>", "([I[IJ)V"⟩ : MethodName) (head1 (Jvm.Cond.code (⟨"com/example/gyges/gyges/model/Levels", "<init>", "([I[IJ)V"⟩ : MethodName) prog_43_method_3_code 6 none :: wds) ({ frames := 1, cells := 2, slots := 4, locals := 15 } : Room)) (fun ar_ U_ => ar_ = #[(.ref o), (.ref al), (.ref ah), (.long nc)] ∧ Z.Warmed39 U_.vm ∧ U_.heap = h0) (fun _ _ _ _ _ => True) (fun _ U_ o_ V_ => ∃ v_ L_, o_ = .returned v_ ∧ own_ini3_2_Q Z o al ah l0 t0 l1 t1 nc h0 n0 v_ V_.heap L_ ∧ FrameEnd U_ o_ V_ L_ ({ frames := 1, cells := 2, slots := 4, locals := 15 } : Room).cells ({ frames := 1, cells := 2, slots := 4, locals := 15 } : Room).slots) := by
  refine own_met (y := ⟨"com/example/gyges/gyges/model/Levels", "<init>", "([I[IJ)V"⟩) (Q := own_ini3_2_Q Z o al ah l0 t0 l1 t1 nc h0 n0) own_pn1 ?_
  intro p e s m below meth c s₁ hx hby hml hZ hown hnm hret hlk X0 e0
  have N0 := Fr.nil n0
  refine own_cast (g' := (mkF m 0 #[.val (.ref o), .val (.ref al), .val (.ref ah), .val (.long nc), .second, .unset] [])) (by first | (simp [entryFrame, mkF, argsToLocals, Value.category]; done) | rfl) ?_
  generalize hL1 : (#[.val (.ref o), .val (.ref al), .val (.ref ah), .val (.long nc), .second, .unset] : Array Slot) = L1
  refine own_pre (T' := s₁) (g' := (mkF m 1 L1 [(.ref o)])) (fun t k => XS.aloadN X0.here hx rfl (v := (.ref o)) (hb hby d5_0) (by rw [← hL1]; rfl) rfl k) ?_
  refine own_init0 X0 hx hZ hown (hw _ (List.mem_of_getElem? (i := 22) rfl)) (hw _ (List.mem_of_getElem? (i := 23) rfl)) (hw _ (List.mem_of_getElem? (i := 24) rfl)) e0 (hb hby d5_1) (by rw [hml, ← hL1]; rfl) (by decide) (W := 0) (Nat.le_of_eq rfl) (by decide) ?_
  intro T2 X2 e2
  show own_Go _ _ _ _ _ _ _ T2 (mkF m 4 L1 [])
  refine own_pre (T' := T2) (g' := (mkF m 5 L1 [(.ref al)])) (fun t k => XS.aloadN X2.here hx rfl (v := (.ref al)) (hb hby d5_4) (by rw [← hL1]; rfl) rfl k) ?_
  refine own_len X2 hx hZ e2 A1 (hb hby d5_5) (n := (2 : Int32)) rfl ?_
  show own_Go _ _ _ _ _ _ _ T2 (mkF m 6 L1 [(.int (2 : Int32))])
  refine own_pre (T' := T2) (g' := (mkF m 9 L1 [])) (fun t k => XS.ifNo X2.here hx rfl (hb hby d5_6) rfl (by decide) k) ?_
  refine own_pre (T' := T2) (g' := (mkF m 10 L1 [(.ref ah)])) (fun t k => XS.aloadN X2.here hx rfl (v := (.ref ah)) (hb hby d5_9) (by rw [← hL1]; rfl) rfl k) ?_
  refine own_len X2 hx hZ e2 A2 (hb hby d5_10) (n := (2 : Int32)) rfl ?_
  show own_Go _ _ _ _ _ _ _ T2 (mkF m 11 L1 [(.int (2 : Int32))])
  refine own_pre (T' := T2) (g' := (mkF m 12 L1 [(.ref al), (.int (2 : Int32))])) (fun t k => XS.aloadN X2.here hx rfl (v := (.ref al)) (hb hby d5_11) (by rw [← hL1]; rfl) rfl k) ?_
  refine own_len X2 hx hZ e2 A1 (hb hby d5_12) (n := (2 : Int32)) rfl ?_
  show own_Go _ _ _ _ _ _ _ T2 (mkF m 13 L1 [(.int (2 : Int32)), (.int (2 : Int32))])
  refine own_pre (T' := T2) (g' := (mkF m 33 L1 [])) (fun t k => XS.icmpYes X2.here hx rfl (pc0 := 13) (pc' := 33) rfl (hb hby d5_13) rfl (by decide) (by decide) (by decide) k) ?_
  refine own_pre (T' := T2) (g' := (mkF m 34 L1 [(.int (0 : Int32))])) (fun t k => XS.iconst X2.here hx rfl (hb hby d5_33) k) ?_
  refine own_pre (T' := T2) (g' := (mkF m 36 #[.val (.ref o), .val (.ref al), .val (.ref ah), .val (.long nc), .second, .val (.int (0 : Int32))] [])) (fun t k => XS.istore X2.here hx rfl (hb hby d5_34) rfl (l' := #[.val (.ref o), .val (.ref al), .val (.ref ah), .val (.long nc), .second, .val (.int (0 : Int32))]) (by rw [← hL1]; rfl) k) ?_
  generalize hL3 : (#[.val (.ref o), .val (.ref al), .val (.ref ah), .val (.long nc), .second, .val (.int (0 : Int32))] : Array Slot) = L3
  refine own_pre (T' := T2) (g' := (mkF m 38 L3 [(.int (0 : Int32))])) (fun t k => XS.iload X2.here hx rfl (v := (0 : Int32)) (hb hby d5_36) (by rw [← hL3]; rfl) k) ?_
  refine own_pre (T' := T2) (g' := (mkF m 39 L3 [(.ref al), (.int (0 : Int32))])) (fun t k => XS.aloadN X2.here hx rfl (v := (.ref al)) (hb hby d5_38) (by rw [← hL3]; rfl) rfl k) ?_
  refine own_len X2 hx hZ e2 A1 (hb hby d5_39) (n := (2 : Int32)) rfl ?_
  show own_Go _ _ _ _ _ _ _ T2 (mkF m 40 L3 [(.int (2 : Int32)), (.int (0 : Int32))])
  refine own_pre (T' := T2) (g' := (mkF m 43 L3 [])) (fun t k => XS.icmpNo X2.here hx rfl (hb hby d5_40) rfl (by decide) k) ?_
  refine own_pre (T' := T2) (g' := (mkF m 44 L3 [(.ref al)])) (fun t k => XS.aloadN X2.here hx rfl (v := (.ref al)) (hb hby d5_43) (by rw [← hL3]; rfl) rfl k) ?_
  refine own_pre (T' := T2) (g' := (mkF m 46 L3 [(.int (0 : Int32)), (.ref al)])) (fun t k => XS.iload X2.here hx rfl (v := (0 : Int32)) (hb hby d5_44) (by rw [← hL3]; rfl) k) ?_
  refine own_iaload X2 hx hZ e2 A1 (hb hby d5_46) (n := 0) (v := (.int l0)) (by decide) (by decide) rfl ?_
  show own_Go _ _ _ _ _ _ _ T2 (mkF m 47 L3 [(.int l0)])
  have zl0 : ¬ l0 < (0 : Int32) := by rw [Int32.lt_iff_toInt_lt, show (0 : Int32).toInt = 0 from rfl]; omega
  refine own_pre (T' := T2) (g' := (mkF m 50 L3 [])) (fun t k => XS.ifNo X2.here hx rfl (hb hby d5_47) rfl ((if0 _ _).trans (flt zl0).1) k) ?_
  refine own_pre (T' := T2) (g' := (mkF m 51 L3 [(.ref al)])) (fun t k => XS.aloadN X2.here hx rfl (v := (.ref al)) (hb hby d5_50) (by rw [← hL3]; rfl) rfl k) ?_
  refine own_pre (T' := T2) (g' := (mkF m 53 L3 [(.int (0 : Int32)), (.ref al)])) (fun t k => XS.iload X2.here hx rfl (v := (0 : Int32)) (hb hby d5_51) (by rw [← hL3]; rfl) k) ?_
  refine own_iaload X2 hx hZ e2 A1 (hb hby d5_53) (n := 0) (v := (.int l0)) (by decide) (by decide) rfl ?_
  show own_Go _ _ _ _ _ _ _ T2 (mkF m 54 L3 [(.int l0)])
  refine own_pre (T' := T2) (g' := (mkF m 55 L3 [(.ref ah), (.int l0)])) (fun t k => XS.aloadN X2.here hx rfl (v := (.ref ah)) (hb hby d5_54) (by rw [← hL3]; rfl) rfl k) ?_
  refine own_pre (T' := T2) (g' := (mkF m 57 L3 [(.int (0 : Int32)), (.ref ah), (.int l0)])) (fun t k => XS.iload X2.here hx rfl (v := (0 : Int32)) (hb hby d5_55) (by rw [← hL3]; rfl) k) ?_
  refine own_iaload X2 hx hZ e2 A2 (hb hby d5_57) (n := 0) (v := (.int t0)) (by decide) (by decide) rfl ?_
  show own_Go _ _ _ _ _ _ _ T2 (mkF m 58 L3 [(.int t0), (.int l0)])
  have yl0 : ¬ t0 < l0 := by rw [Int32.lt_iff_toInt_lt]; omega
  refine own_pre (T' := T2) (g' := (mkF m 82 L3 [])) (fun t k => XS.icmpYes X2.here hx rfl (pc0 := 58) (pc' := 82) rfl (hb hby d5_58) rfl (flt yl0).2.2.2 (by decide) (by decide) k) ?_
  refine own_pre (T' := T2) (g' := (mkF m 85 #[.val (.ref o), .val (.ref al), .val (.ref ah), .val (.long nc), .second, .val (.int (1 : Int32))] [])) (fun t k => XS.iinc X2.here hx rfl (hb hby d5_82) (x := (0 : Int32)) (by rw [← hL3]; rfl) (l' := #[.val (.ref o), .val (.ref al), .val (.ref ah), .val (.long nc), .second, .val (.int (1 : Int32))]) (by rw [← hL3]; rfl) k) ?_
  generalize hL4 : (#[.val (.ref o), .val (.ref al), .val (.ref ah), .val (.long nc), .second, .val (.int (1 : Int32))] : Array Slot) = L4
  refine own_pre (T' := T2) (g' := (mkF m 36 L4 [])) (fun t k => XS.goto X2.here hx rfl (pc0 := 85) (pc' := 36) rfl (hb hby d5_85) (by decide) (by decide) k) ?_
  refine own_pre (T' := T2) (g' := (mkF m 38 L4 [(.int (1 : Int32))])) (fun t k => XS.iload X2.here hx rfl (v := (1 : Int32)) (hb hby d5_36) (by rw [← hL4]; rfl) k) ?_
  refine own_pre (T' := T2) (g' := (mkF m 39 L4 [(.ref al), (.int (1 : Int32))])) (fun t k => XS.aloadN X2.here hx rfl (v := (.ref al)) (hb hby d5_38) (by rw [← hL4]; rfl) rfl k) ?_
  refine own_len X2 hx hZ e2 A1 (hb hby d5_39) (n := (2 : Int32)) rfl ?_
  show own_Go _ _ _ _ _ _ _ T2 (mkF m 40 L4 [(.int (2 : Int32)), (.int (1 : Int32))])
  refine own_pre (T' := T2) (g' := (mkF m 43 L4 [])) (fun t k => XS.icmpNo X2.here hx rfl (hb hby d5_40) rfl (by decide) k) ?_
  refine own_pre (T' := T2) (g' := (mkF m 44 L4 [(.ref al)])) (fun t k => XS.aloadN X2.here hx rfl (v := (.ref al)) (hb hby d5_43) (by rw [← hL4]; rfl) rfl k) ?_
  refine own_pre (T' := T2) (g' := (mkF m 46 L4 [(.int (1 : Int32)), (.ref al)])) (fun t k => XS.iload X2.here hx rfl (v := (1 : Int32)) (hb hby d5_44) (by rw [← hL4]; rfl) k) ?_
  refine own_iaload X2 hx hZ e2 A1 (hb hby d5_46) (n := 1) (v := (.int l1)) (by decide) (by decide) rfl ?_
  show own_Go _ _ _ _ _ _ _ T2 (mkF m 47 L4 [(.int l1)])
  have zl1 : ¬ l1 < (0 : Int32) := by rw [Int32.lt_iff_toInt_lt, show (0 : Int32).toInt = 0 from rfl]; omega
  refine own_pre (T' := T2) (g' := (mkF m 50 L4 [])) (fun t k => XS.ifNo X2.here hx rfl (hb hby d5_47) rfl ((if0 _ _).trans (flt zl1).1) k) ?_
  refine own_pre (T' := T2) (g' := (mkF m 51 L4 [(.ref al)])) (fun t k => XS.aloadN X2.here hx rfl (v := (.ref al)) (hb hby d5_50) (by rw [← hL4]; rfl) rfl k) ?_
  refine own_pre (T' := T2) (g' := (mkF m 53 L4 [(.int (1 : Int32)), (.ref al)])) (fun t k => XS.iload X2.here hx rfl (v := (1 : Int32)) (hb hby d5_51) (by rw [← hL4]; rfl) k) ?_
  refine own_iaload X2 hx hZ e2 A1 (hb hby d5_53) (n := 1) (v := (.int l1)) (by decide) (by decide) rfl ?_
  show own_Go _ _ _ _ _ _ _ T2 (mkF m 54 L4 [(.int l1)])
  refine own_pre (T' := T2) (g' := (mkF m 55 L4 [(.ref ah), (.int l1)])) (fun t k => XS.aloadN X2.here hx rfl (v := (.ref ah)) (hb hby d5_54) (by rw [← hL4]; rfl) rfl k) ?_
  refine own_pre (T' := T2) (g' := (mkF m 57 L4 [(.int (1 : Int32)), (.ref ah), (.int l1)])) (fun t k => XS.iload X2.here hx rfl (v := (1 : Int32)) (hb hby d5_55) (by rw [← hL4]; rfl) k) ?_
  refine own_iaload X2 hx hZ e2 A2 (hb hby d5_57) (n := 1) (v := (.int t1)) (by decide) (by decide) rfl ?_
  show own_Go _ _ _ _ _ _ _ T2 (mkF m 58 L4 [(.int t1), (.int l1)])
  have yl1 : ¬ t1 < l1 := by rw [Int32.lt_iff_toInt_lt]; omega
  refine own_pre (T' := T2) (g' := (mkF m 82 L4 [])) (fun t k => XS.icmpYes X2.here hx rfl (pc0 := 58) (pc' := 82) rfl (hb hby d5_58) rfl (flt yl1).2.2.2 (by decide) (by decide) k) ?_
  refine own_pre (T' := T2) (g' := (mkF m 85 #[.val (.ref o), .val (.ref al), .val (.ref ah), .val (.long nc), .second, .val (.int (2 : Int32))] [])) (fun t k => XS.iinc X2.here hx rfl (hb hby d5_82) (x := (1 : Int32)) (by rw [← hL4]; rfl) (l' := #[.val (.ref o), .val (.ref al), .val (.ref ah), .val (.long nc), .second, .val (.int (2 : Int32))]) (by rw [← hL4]; rfl) k) ?_
  generalize hL5 : (#[.val (.ref o), .val (.ref al), .val (.ref ah), .val (.long nc), .second, .val (.int (2 : Int32))] : Array Slot) = L5
  refine own_pre (T' := T2) (g' := (mkF m 36 L5 [])) (fun t k => XS.goto X2.here hx rfl (pc0 := 85) (pc' := 36) rfl (hb hby d5_85) (by decide) (by decide) k) ?_
  refine own_pre (T' := T2) (g' := (mkF m 38 L5 [(.int (2 : Int32))])) (fun t k => XS.iload X2.here hx rfl (v := (2 : Int32)) (hb hby d5_36) (by rw [← hL5]; rfl) k) ?_
  refine own_pre (T' := T2) (g' := (mkF m 39 L5 [(.ref al), (.int (2 : Int32))])) (fun t k => XS.aloadN X2.here hx rfl (v := (.ref al)) (hb hby d5_38) (by rw [← hL5]; rfl) rfl k) ?_
  refine own_len X2 hx hZ e2 A1 (hb hby d5_39) (n := (2 : Int32)) rfl ?_
  show own_Go _ _ _ _ _ _ _ T2 (mkF m 40 L5 [(.int (2 : Int32)), (.int (2 : Int32))])
  refine own_pre (T' := T2) (g' := (mkF m 88 L5 [])) (fun t k => XS.icmpYes X2.here hx rfl (pc0 := 40) (pc' := 88) rfl (hb hby d5_40) rfl (by decide) (by decide) (by decide) k) ?_
  refine own_pre (T' := T2) (g' := (mkF m 89 L5 [(.ref o)])) (fun t k => XS.aloadN X2.here hx rfl (v := (.ref o)) (hb hby d5_88) (by rw [← hL5]; rfl) rfl k) ?_
  refine own_pre (T' := T2) (g' := (mkF m 90 L5 [(.ref al), (.ref o)])) (fun t k => XS.aloadN X2.here hx rfl (v := (.ref al)) (hb hby d5_89) (by rw [← hL5]; rfl) rfl k) ?_
  refine own_clone X2 hx hZ hown (hw _ (List.mem_of_getElem? (i := 25) rfl)) (hw _ (List.mem_of_getElem? (i := 26) rfl)) (hw _ (List.mem_of_getElem? (i := 30) rfl)) (hw _ (List.mem_of_getElem? (i := 28) rfl)) (hw _ (List.mem_of_getElem? (i := 29) rfl)) (hw _ (List.mem_of_getElem? (i := 31) rfl)) e2 A1 B1 (by intro v hv; simp at hv; rcases hv with rfl | rfl <;> rfl) (hb hby d5_90) (by rw [hml, ← hL5]; rfl) (by decide) (W := 1) (n := 2) (Nat.le_of_eq rfl) (by decide) rfl (by decide) (by decide) ?_
  intro T6 h6 a6 g6 X6 e6 E6 A6 B6
  have lt7 : o < a6 := Nat.lt_of_lt_of_le E.lt (Nat.le_of_eq g6.symm)
  have lt8 : al < a6 := Nat.lt_of_lt_of_le A1.lt (Nat.le_of_eq g6.symm)
  have lt9 : ah < a6 := Nat.lt_of_lt_of_le A2.lt (Nat.le_of_eq g6.symm)
  have nw10 : n0 ≤ a6 := Nat.le_trans Z0 (Nat.le_of_eq g6.symm)
  show own_Go _ _ _ _ _ _ _ T6 (mkF m 93 L5 [(.ref a6), (.ref o)])
  refine own_cast1 X6 hx hZ hown (hw _ (List.mem_of_getElem? (i := 32) rfl)) e6 (Ins.self B6) (hb hby d5_93) ?_
  intro T11 X11 e11
  show own_Go _ _ _ _ _ _ _ T11 (mkF m 96 L5 [(.ref a6), (.ref o)])
  have F12 : Fld Z h6 o "com/example/gyges/gyges/model/Levels" "levels" "[I" .null := (F1.ext E6)
  have F13 : Exa Z h6 o "com/example/gyges/gyges/model/Levels" := (E.ext E6)
  refine own_putf X11 hx hZ hown (hw _ (List.mem_of_getElem? (i := 34) rfl)) e11 N0 hnew F12 F13 (Or.inr ⟨(hw _ (List.mem_of_getElem? (i := 35) rfl)), rfl, hnm⟩) (hw _ (List.mem_of_getElem? (i := 12) rfl)) (ty := (.array .int)) (by decide) rfl rfl (hb hby d5_96) ?_
  intro T14 h14 lo14 X14 e14 N14 W14
  have F15 : Fld Z h14 o "com/example/gyges/gyges/model/Levels" "levels" "[I" (.ref a6) := F12.same W14
  show own_Go _ _ _ _ _ _ _ T14 (mkF m 99 L5 [])
  refine own_pre (T' := T14) (g' := (mkF m 100 L5 [(.ref o)])) (fun t k => XS.aloadN X14.here hx rfl (v := (.ref o)) (hb hby d5_99) (by rw [← hL5]; rfl) rfl k) ?_
  refine own_pre (T' := T14) (g' := (mkF m 101 L5 [(.ref ah), (.ref o)])) (fun t k => XS.aloadN X14.here hx rfl (v := (.ref ah)) (hb hby d5_100) (by rw [← hL5]; rfl) rfl k) ?_
  have F16 : Exa Z h14 ah "[I" := ((B2.ext E6).wr W14)
  have F17 : own_Ary Z h14 ah .int [(.int t0), (.int t1)] := ((A2.ext E6).other W14 ne2)
  have F18 : Exa Z h14 o "com/example/gyges/gyges/model/Levels" := (F13.wr W14)
  have F19 : own_Ary Z h14 al .int [(.int l0), (.int l1)] := ((A1.ext E6).other W14 ne1)
  have F20 : own_Ary Z h14 a6 .int [(.int l0), (.int l1)] := (A6.other W14 (Nat.ne_of_gt lt7))
  have F21 : n0 ≤ h14.size := (Nat.le_trans (Nat.le_trans Z0 E6.1) (Nat.le_of_eq W14.size.symm))
  refine own_clone X14 hx hZ hown (hw _ (List.mem_of_getElem? (i := 25) rfl)) (hw _ (List.mem_of_getElem? (i := 26) rfl)) (hw _ (List.mem_of_getElem? (i := 30) rfl)) (hw _ (List.mem_of_getElem? (i := 28) rfl)) (hw _ (List.mem_of_getElem? (i := 29) rfl)) (hw _ (List.mem_of_getElem? (i := 31) rfl)) e14 F17 F16 (by intro v hv; simp at hv; rcases hv with rfl | rfl <;> rfl) (hb hby d5_101) (by rw [hml, ← hL5]; rfl) (by decide) (W := 1) (n := 2) (Nat.le_of_eq rfl) (by decide) rfl (by decide) (by decide) ?_
  intro T22 h22 a22 g22 X22 e22 E22 A22 B22
  have lt23 : o < a22 := Nat.lt_of_lt_of_le F18.lt (Nat.le_of_eq g22.symm)
  have lt24 : al < a22 := Nat.lt_of_lt_of_le F19.lt (Nat.le_of_eq g22.symm)
  have lt25 : ah < a22 := Nat.lt_of_lt_of_le F17.lt (Nat.le_of_eq g22.symm)
  have lt26 : a6 < a22 := Nat.lt_of_lt_of_le F20.lt (Nat.le_of_eq g22.symm)
  have nw27 : n0 ≤ a22 := Nat.le_trans F21 (Nat.le_of_eq g22.symm)
  show own_Go _ _ _ _ _ _ _ T22 (mkF m 104 L5 [(.ref a22), (.ref o)])
  refine own_cast1 X22 hx hZ hown (hw _ (List.mem_of_getElem? (i := 32) rfl)) e22 (Ins.self B22) (hb hby d5_104) ?_
  intro T28 X28 e28
  show own_Go _ _ _ _ _ _ _ T28 (mkF m 107 L5 [(.ref a22), (.ref o)])
  have F29 : Fld Z h22 o "com/example/gyges/gyges/model/Levels" "heights" "[I" .null := (((F2.ext E6).other W14 (Or.inr (slot_ne (C := "com/example/gyges/gyges/model/Levels") (Or.inr (hw _ (List.mem_of_getElem? (i := 37) rfl))) (Or.inr (hw _ (List.mem_of_getElem? (i := 35) rfl))) (by decide) (t := (.array .int)) (t' := (.array .int)) (by decide) (by decide)))).ext E22)
  have F30 : Exa Z h22 o "com/example/gyges/gyges/model/Levels" := (F18.ext E22)
  refine own_putf X28 hx hZ hown (hw _ (List.mem_of_getElem? (i := 36) rfl)) e28 N14 hnew F29 F30 (Or.inr ⟨(hw _ (List.mem_of_getElem? (i := 37) rfl)), rfl, hnm⟩) (hw _ (List.mem_of_getElem? (i := 12) rfl)) (ty := (.array .int)) (by decide) rfl rfl (hb hby d5_107) ?_
  intro T31 h31 lo31 X31 e31 N31 W31
  have F32 : Fld Z h31 o "com/example/gyges/gyges/model/Levels" "heights" "[I" (.ref a22) := F29.same W31
  show own_Go _ _ _ _ _ _ _ T31 (mkF m 110 L5 [])
  refine own_pre (T' := T31) (g' := (mkF m 111 L5 [(.ref o)])) (fun t k => XS.aloadN X31.here hx rfl (v := (.ref o)) (hb hby d5_110) (by rw [← hL5]; rfl) rfl k) ?_
  refine own_pre (T' := T31) (g' := (mkF m 112 L5 [(.long nc), (.ref o)])) (fun t k => XT.lloadN X31.here hx rfl (v := nc) (hb hby d5_111) (by rw [← hL5]; rfl) k) ?_
  have F33 : Fld Z h31 o "com/example/gyges/gyges/model/Levels" "nodesChecked" "J" (.long (0 : Int64)) := ((((F3.ext E6).other W14 (Or.inr (slot_ne (C := "com/example/gyges/gyges/model/Levels") (Or.inr (hw _ (List.mem_of_getElem? (i := 39) rfl))) (Or.inr (hw _ (List.mem_of_getElem? (i := 35) rfl))) (by decide) (t := .long) (t' := (.array .int)) (by decide) (by decide)))).ext E22).other W31 (Or.inr (slot_ne (C := "com/example/gyges/gyges/model/Levels") (Or.inr (hw _ (List.mem_of_getElem? (i := 39) rfl))) (Or.inr (hw _ (List.mem_of_getElem? (i := 37) rfl))) (by decide) (t := .long) (t' := (.array .int)) (by decide) (by decide))))
  have F34 : Exa Z h31 o "com/example/gyges/gyges/model/Levels" := (F30.wr W31)
  refine own_putf X31 hx hZ hown (hw _ (List.mem_of_getElem? (i := 38) rfl)) e31 N31 hnew F33 F34 (Or.inr ⟨(hw _ (List.mem_of_getElem? (i := 39) rfl)), rfl, hnm⟩) (hw _ (List.mem_of_getElem? (i := 12) rfl)) (ty := .long) (by decide) rfl rfl (hb hby d5_112) ?_
  intro T35 h35 lo35 X35 e35 N35 W35
  have F36 : Fld Z h35 o "com/example/gyges/gyges/model/Levels" "nodesChecked" "J" (.long nc) := F33.same W35
  show own_Go _ _ _ _ _ _ _ T35 (mkF m 115 L5 [])
  have F37 : Fld Z h35 o "com/example/gyges/gyges/model/Levels" "levels" "[I" (.ref a6) := (((F15.ext E22).other W31 (Or.inr (slot_ne (C := "com/example/gyges/gyges/model/Levels") (Or.inr (hw _ (List.mem_of_getElem? (i := 35) rfl))) (Or.inr (hw _ (List.mem_of_getElem? (i := 37) rfl))) (by decide) (t := (.array .int)) (t' := (.array .int)) (by decide) (by decide)))).other W35 (Or.inr (slot_ne (C := "com/example/gyges/gyges/model/Levels") (Or.inr (hw _ (List.mem_of_getElem? (i := 35) rfl))) (Or.inr (hw _ (List.mem_of_getElem? (i := 39) rfl))) (by decide) (t := (.array .int)) (t' := .long) (by decide) (by decide))))
  have F38 : Fld Z h35 o "com/example/gyges/gyges/model/Levels" "heights" "[I" (.ref a22) := (F32.other W35 (Or.inr (slot_ne (C := "com/example/gyges/gyges/model/Levels") (Or.inr (hw _ (List.mem_of_getElem? (i := 37) rfl))) (Or.inr (hw _ (List.mem_of_getElem? (i := 39) rfl))) (by decide) (t := (.array .int)) (t' := .long) (by decide) (by decide))))
  have F39 : own_Ary Z h35 a6 .int [(.int l0), (.int l1)] := (((F20.ext E22).other W31 (Nat.ne_of_gt lt7)).other W35 (Nat.ne_of_gt lt7))
  have F40 : own_Ary Z h35 a22 .int [(.int t0), (.int t1)] := ((A22.other W31 (Nat.ne_of_gt lt23)).other W35 (Nat.ne_of_gt lt23))
  exact own_ret0 X35 hx hlk hret (hb hby d5_115) e35 ⟨rfl, N35, ((((((Keep.refl _ _).ext E6).wr W14 (Or.inl (List.mem_cons_self ..))).ext E22).wr W31 (Or.inl (List.mem_cons_self ..))).wr W35 (Or.inl (List.mem_cons_self ..))), a6, a22, ⟨Nat.le_of_eq g6.symm, lt26⟩, F37, F38, F39, F40⟩ (by decide) (by decide)
def own_ini2_2_Q (Z : State) (o al ah : Addr) (l0 t0 : Int32) (l1 t1 : Int32) (h0 : Heap) (n0 : Nat) (v_ : Option Value) (h_ : Heap) (L_ : List Loc) : Prop := (fun v h L => v = none ∧ Fr n0 L ∧ Keep h0 h [o] ∧ ∃ (bl bh : Addr), (h0.size ≤ bl ∧ bl < bh) ∧ Fld Z h o "com/example/gyges/gyges/model/Levels" "levels" "[I" (.ref bl) ∧ Fld Z h o "com/example/gyges/gyges/model/Levels" "heights" "[I" (.ref bh) ∧ own_Ary Z h bl .int [.int l0, .int l1] ∧ own_Ary Z h bh .int [.int t0, .int t1]) v_ h_ L_
set_option maxRecDepth 65536 in
set_option maxHeartbeats 40000000 in
theorem own_ini2_2 (l : Launch) (Z : State) (a0 : Array Value) (hw : ∀ d ∈ tables_1, d.before a0 Z = true) (wds : List Jvm.Cond) (o al ah : Addr) (l0 t0 : Int32) (l1 t1 : Int32) (h0 : Heap) (n0 : Nat) (Z0 : n0 ≤ h0.size) (E : Exa Z h0 o "com/example/gyges/gyges/model/Levels") (F1 : Fld Z h0 o "com/example/gyges/gyges/model/Levels" "levels" "[I" .null) (F2 : Fld Z h0 o "com/example/gyges/gyges/model/Levels" "heights" "[I" .null) (F3 : Fld Z h0 o "com/example/gyges/gyges/model/Levels" "nodesChecked" "J" (.long (0 : Int64))) (A1 : own_Ary Z h0 al .int [.int l0, .int l1]) (A2 : own_Ary Z h0 ah .int [.int t0, .int t1]) (B1 : Exa Z h0 al "[I") (B2 : Exa Z h0 ah "[I") (hnew : n0 ≤ o) (ne1 : al ≠ o) (ne2 : ah ≠ o) (c0 : 0 ≤ l0.toInt) (d0 : l0.toInt ≤ t0.toInt) (c1 : 0 ≤ l1.toInt) (d1 : l1.toInt ≤ t1.toInt) :
    MetFree l (⟨"com/example/gyges/gyges/model/Levels", "<init>", "([I[I)V"⟩ : MethodName) (head1 (Jvm.Cond.code (⟨"com/example/gyges/gyges/model/Levels", "<init>", "([I[I)V"⟩ : MethodName) prog_43_method_1_code 3 none :: wds) ({ frames := 2, cells := 2, slots := 4, locals := 32 } : Room)) (fun ar_ U_ => ar_ = #[(.ref o), (.ref al), (.ref ah)] ∧ Z.Warmed39 U_.vm ∧ U_.heap = h0) (fun _ _ _ _ _ => True) (fun _ U_ o_ V_ => ∃ v_ L_, o_ = .returned v_ ∧ own_ini2_2_Q Z o al ah l0 t0 l1 t1 h0 n0 v_ V_.heap L_ ∧ FrameEnd U_ o_ V_ L_ ({ frames := 2, cells := 2, slots := 4, locals := 32 } : Room).cells ({ frames := 2, cells := 2, slots := 4, locals := 32 } : Room).slots) := by
  refine own_met (y := ⟨"com/example/gyges/gyges/model/Levels", "<init>", "([I[I)V"⟩) (Q := own_ini2_2_Q Z o al ah l0 t0 l1 t1 h0 n0) own_pn1 ?_
  intro p e s m below meth c s₁ hx hby hml hZ hown hnm hret hlk X0 e0
  have N0 := Fr.nil n0
  refine own_cast (g' := (mkF m 0 #[.val (.ref o), .val (.ref al), .val (.ref ah)] [])) (by first | (simp [entryFrame, mkF, argsToLocals, Value.category]; done) | rfl) ?_
  refine own_pre (T' := s₁) (g' := (mkF m 1 #[.val (.ref o), .val (.ref al), .val (.ref ah)] [(.ref o)])) (fun t k => XS.aloadN X0.here hx rfl (v := (.ref o)) (hb hby d4_0) rfl rfl k) ?_
  refine own_pre (T' := s₁) (g' := (mkF m 2 #[.val (.ref o), .val (.ref al), .val (.ref ah)] [(.ref al), (.ref o)])) (fun t k => XS.aloadN X0.here hx rfl (v := (.ref al)) (hb hby d4_1) rfl rfl k) ?_
  refine own_pre (T' := s₁) (g' := (mkF m 3 #[.val (.ref o), .val (.ref al), .val (.ref ah)] [(.ref ah), (.ref al), (.ref o)])) (fun t k => XS.aloadN X0.here hx rfl (v := (.ref ah)) (hb hby d4_2) rfl rfl k) ?_
  refine own_ldcl X0 hx hZ hown (hw _ (List.mem_of_getElem? (i := 18) rfl)) (hb hby d4_3) ?_
  show own_Go _ _ _ _ _ _ _ s₁ (mkF m 6 #[.val (.ref o), .val (.ref al), .val (.ref ah)] [(.long (-1 : Int64)), (.ref ah), (.ref al), (.ref o)])
  refine own_init (a := o) (argsL := [(.ref al), (.ref ah), (.long (-1 : Int64))]) (rest := []) X0 hx hZ hown (own_ini3_2 l Z a0 hw [] o al ah l0 t0 l1 t1 (-1) h0 n0 Z0 E F1 F2 F3 A1 A2 B1 B2 hnew ne1 ne2 c0 d0 c1 d1) rfl (hw _ (List.mem_of_getElem? (i := 19) rfl)) (hw _ (List.mem_of_getElem? (i := 20) rfl)) (hw _ (List.mem_of_getElem? (i := 21) rfl)) (hw _ (List.mem_of_getElem? (i := 13) rfl)) (by decide) e0 (hb hby d4_6) (by rw [hml]; rfl) rfl (lenOf own_pd0 rfl) (by decide) (W := 0) (Nat.le_of_eq rfl) (by decide) (by decide) (by decide) ?_
  intro v1 T1 lo1 X1 Q1
  obtain ⟨h1, e1⟩ : ∃ h, T1.heap = h := ⟨_, rfl⟩
  rw [e1] at Q1
  obtain ⟨rfl, N1, K1, R1⟩ := Q1
  have N1' := Fr.app N0 N1
  show own_Go _ _ _ _ _ _ _ T1 (mkF m 9 #[.val (.ref o), .val (.ref al), .val (.ref ah)] [])
  exact own_ret0 X1 hx hlk hret (hb hby d4_9) e1 ⟨rfl, N1', K1, R1⟩ (by decide) (by decide)
theorem d7_0 : decode prog_43_method_6_code 0 = .ok (.dconst 0, 1) := by decide +kernel
theorem d7_1 : decode prog_43_method_6_code 1 = .ok (.dstore_n 1, 1) := by decide +kernel
theorem d7_2 : decode prog_43_method_6_code 2 = .ok (.iconst 0, 1) := by decide +kernel
theorem d7_3 : decode prog_43_method_6_code 3 = .ok (.istore_n 3, 1) := by decide +kernel
theorem d7_4 : decode prog_43_method_6_code 4 = .ok (.iload_n 3, 1) := by decide +kernel
theorem d7_5 : decode prog_43_method_6_code 5 = .ok (.aload_n 0, 1) := by decide +kernel
theorem d7_6 : decode prog_43_method_6_code 6 = .ok (.getfield 33, 3) := by decide +kernel
theorem d7_9 : decode prog_43_method_6_code 9 = .ok (.arraylength, 1) := by decide +kernel
theorem d7_10 : decode prog_43_method_6_code 10 = .ok (.if_icmp .ge 36, 3) := by decide +kernel
theorem d7_13 : decode prog_43_method_6_code 13 = .ok (.aload_n 0, 1) := by decide +kernel
theorem d7_14 : decode prog_43_method_6_code 14 = .ok (.getfield 36, 3) := by decide +kernel
theorem d7_17 : decode prog_43_method_6_code 17 = .ok (.iload_n 3, 1) := by decide +kernel
theorem d7_18 : decode prog_43_method_6_code 18 = .ok (.iaload, 1) := by decide +kernel
theorem d7_19 : decode prog_43_method_6_code 19 = .ok (.ifCond .le 21, 3) := by decide +kernel
theorem d7_22 : decode prog_43_method_6_code 22 = .ok (.dload_n 1, 1) := by decide +kernel
theorem d7_23 : decode prog_43_method_6_code 23 = .ok (.aload_n 0, 1) := by decide +kernel
theorem d7_24 : decode prog_43_method_6_code 24 = .ok (.getfield 33, 3) := by decide +kernel
theorem d7_27 : decode prog_43_method_6_code 27 = .ok (.iload_n 3, 1) := by decide +kernel
theorem d7_28 : decode prog_43_method_6_code 28 = .ok (.iaload, 1) := by decide +kernel
theorem d7_29 : decode prog_43_method_6_code 29 = .ok (.i2d, 1) := by decide +kernel
theorem d7_30 : decode prog_43_method_6_code 30 = .ok (.aload_n 0, 1) := by decide +kernel
theorem d7_31 : decode prog_43_method_6_code 31 = .ok (.getfield 36, 3) := by decide +kernel
theorem d7_34 : decode prog_43_method_6_code 34 = .ok (.iload_n 3, 1) := by decide +kernel
theorem d7_35 : decode prog_43_method_6_code 35 = .ok (.iaload, 1) := by decide +kernel
theorem d7_36 : decode prog_43_method_6_code 36 = .ok (.i2d, 1) := by decide +kernel
theorem d7_37 : decode prog_43_method_6_code 37 = .ok (.ddiv, 1) := by decide +kernel
theorem d7_38 : decode prog_43_method_6_code 38 = .ok (.dadd, 1) := by decide +kernel
theorem d7_39 : decode prog_43_method_6_code 39 = .ok (.dstore_n 1, 1) := by decide +kernel
theorem d7_40 : decode prog_43_method_6_code 40 = .ok (.iinc 3 1, 3) := by decide +kernel
theorem d7_43 : decode prog_43_method_6_code 43 = .ok (.goto (-39), 3) := by decide +kernel
theorem d7_46 : decode prog_43_method_6_code 46 = .ok (.dload_n 1, 1) := by decide +kernel
theorem d7_47 : decode prog_43_method_6_code 47 = .ok (.aload_n 0, 1) := by decide +kernel
theorem d7_48 : decode prog_43_method_6_code 48 = .ok (.getfield 33, 3) := by decide +kernel
theorem d7_51 : decode prog_43_method_6_code 51 = .ok (.arraylength, 1) := by decide +kernel
theorem d7_52 : decode prog_43_method_6_code 52 = .ok (.i2d, 1) := by decide +kernel
theorem d7_53 : decode prog_43_method_6_code 53 = .ok (.ddiv, 1) := by decide +kernel
theorem d7_54 : decode prog_43_method_6_code 54 = .ok (.dreturn, 1) := by decide +kernel
def own_gp1_Q (Z : State) (o bl bh : Addr) (l0 t0 : Int32) (h0 : Heap) (n0 : Nat) (v_ : Option Value) (h_ : Heap) (L_ : List Loc) : Prop := (fun v h L => v = some (.double (own_t l0 t0)) ∧ Fr n0 L ∧ h = h0) v_ h_ L_
set_option maxRecDepth 65536 in
set_option maxHeartbeats 40000000 in
theorem own_gp1 (l : Launch) (Z : State) (a0 : Array Value) (hw : ∀ d ∈ tables_1, d.before a0 Z = true) (wds : List Jvm.Cond) (o bl bh : Addr) (l0 t0 : Int32) (h0 : Heap) (n0 : Nat) (Z0 : n0 ≤ h0.size) (F1 : Fld Z h0 o "com/example/gyges/gyges/model/Levels" "levels" "[I" (.ref bl)) (F2 : Fld Z h0 o "com/example/gyges/gyges/model/Levels" "heights" "[I" (.ref bh)) (A1 : own_Ary Z h0 bl .int [.int l0]) (A2 : own_Ary Z h0 bh .int [.int t0]) (c0 : 0 ≤ l0.toInt) (d0 : l0.toInt ≤ t0.toInt) :
    MetFree l (⟨"com/example/gyges/gyges/model/Levels", "getPrecision", "()D"⟩ : MethodName) (head1 (Jvm.Cond.code (⟨"com/example/gyges/gyges/model/Levels", "getPrecision", "()D"⟩ : MethodName) prog_43_method_6_code 4 (some .double) :: wds) ({ frames := 0, cells := 0, slots := 0, locals := 0 } : Room)) (fun ar_ U_ => ar_ = #[(.ref o)] ∧ Z.Warmed39 U_.vm ∧ U_.heap = h0) (fun _ _ _ _ _ => True) (fun _ U_ o_ V_ => ∃ v_ L_, o_ = .returned v_ ∧ own_gp1_Q Z o bl bh l0 t0 h0 n0 v_ V_.heap L_ ∧ FrameEnd U_ o_ V_ L_ ({ frames := 0, cells := 0, slots := 0, locals := 0 } : Room).cells ({ frames := 0, cells := 0, slots := 0, locals := 0 } : Room).slots) := by
  refine own_met (y := ⟨"com/example/gyges/gyges/model/Levels", "getPrecision", "()D"⟩) (Q := own_gp1_Q Z o bl bh l0 t0 h0 n0) own_pn1 ?_
  intro p e s m below meth c s₁ hx hby hml hZ hown hnm hret hlk X0 e0
  have N0 := Fr.nil n0
  refine own_cast (g' := (mkF m 0 #[.val (.ref o), .unset, .unset, .unset] [])) (by first | (simp [entryFrame, mkF, argsToLocals, Value.category]; done) | rfl) ?_
  have u0 := own_tU c0 d0
  refine own_pre (T' := s₁) (g' := (mkF m 1 #[.val (.ref o), .unset, .unset, .unset] [(.double (0 : UInt64))])) (fun t k => XS.dconst0 X0.here hx rfl (v := (0 : UInt64)) (hb hby d7_0) (by decide) k) ?_
  refine own_pre (T' := s₁) (g' := (mkF m 2 #[.val (.ref o), .val (.double (0 : UInt64)), .second, .unset] [])) (fun t k => XS.dstoreN X0.here hx rfl (hb hby d7_1) rfl (l' := #[.val (.ref o), .val (.double (0 : UInt64)), .second, .unset]) rfl k) ?_
  refine own_pre (T' := s₁) (g' := (mkF m 3 #[.val (.ref o), .val (.double (0 : UInt64)), .second, .unset] [(.int (0 : Int32))])) (fun t k => XS.iconst X0.here hx rfl (hb hby d7_2) k) ?_
  refine own_pre (T' := s₁) (g' := (mkF m 4 #[.val (.ref o), .val (.double (0 : UInt64)), .second, .val (.int (0 : Int32))] [])) (fun t k => XS.istoreN X0.here hx rfl (hb hby d7_3) rfl (l' := #[.val (.ref o), .val (.double (0 : UInt64)), .second, .val (.int (0 : Int32))]) rfl k) ?_
  refine own_pre (T' := s₁) (g' := (mkF m 5 #[.val (.ref o), .val (.double (0 : UInt64)), .second, .val (.int (0 : Int32))] [(.int (0 : Int32))])) (fun t k => XS.iloadN X0.here hx rfl (v := (0 : Int32)) (hb hby d7_4) rfl k) ?_
  refine own_pre (T' := s₁) (g' := (mkF m 6 #[.val (.ref o), .val (.double (0 : UInt64)), .second, .val (.int (0 : Int32))] [(.ref o), (.int (0 : Int32))])) (fun t k => XS.aloadN X0.here hx rfl (v := (.ref o)) (hb hby d7_5) rfl rfl k) ?_
  refine own_getf X0 hx hZ hown (hw _ (List.mem_of_getElem? (i := 34) rfl)) e0 F1 (hb hby d7_6) ?_
  intro T1 X1 e1
  show own_Go _ _ _ _ _ _ _ T1 (mkF m 9 #[.val (.ref o), .val (.double (0 : UInt64)), .second, .val (.int (0 : Int32))] [(.ref bl), (.int (0 : Int32))])
  refine own_len X1 hx hZ e1 A1 (hb hby d7_9) (n := (1 : Int32)) rfl ?_
  show own_Go _ _ _ _ _ _ _ T1 (mkF m 10 #[.val (.ref o), .val (.double (0 : UInt64)), .second, .val (.int (0 : Int32))] [(.int (1 : Int32)), (.int (0 : Int32))])
  refine own_pre (T' := T1) (g' := (mkF m 13 #[.val (.ref o), .val (.double (0 : UInt64)), .second, .val (.int (0 : Int32))] [])) (fun t k => XS.icmpNo X1.here hx rfl (hb hby d7_10) rfl (by decide) k) ?_
  refine own_pre (T' := T1) (g' := (mkF m 14 #[.val (.ref o), .val (.double (0 : UInt64)), .second, .val (.int (0 : Int32))] [(.ref o)])) (fun t k => XS.aloadN X1.here hx rfl (v := (.ref o)) (hb hby d7_13) rfl rfl k) ?_
  refine own_getf X1 hx hZ hown (hw _ (List.mem_of_getElem? (i := 36) rfl)) e1 F2 (hb hby d7_14) ?_
  intro T2 X2 e2
  show own_Go _ _ _ _ _ _ _ T2 (mkF m 17 #[.val (.ref o), .val (.double (0 : UInt64)), .second, .val (.int (0 : Int32))] [(.ref bh)])
  refine own_pre (T' := T2) (g' := (mkF m 18 #[.val (.ref o), .val (.double (0 : UInt64)), .second, .val (.int (0 : Int32))] [(.int (0 : Int32)), (.ref bh)])) (fun t k => XS.iloadN X2.here hx rfl (v := (0 : Int32)) (hb hby d7_17) rfl k) ?_
  refine own_iaload X2 hx hZ e2 A2 (hb hby d7_18) (n := 0) (v := (.int t0)) (by decide) (by decide) rfl ?_
  show own_Go _ _ _ _ _ _ _ T2 (mkF m 19 #[.val (.ref o), .val (.double (0 : UInt64)), .second, .val (.int (0 : Int32))] [(.int t0)])
  by_cases hp0 : (0 : Int32) < t0
  · skip
    refine own_pre (T' := T2) (g' := (mkF m 22 #[.val (.ref o), .val (.double (0 : UInt64)), .second, .val (.int (0 : Int32))] [])) (fun t k => XS.ifNo X2.here hx rfl (hb hby d7_19) rfl ((if0 _ _).trans (tlt hp0).2.2.2) k) ?_
    refine own_pre (T' := T2) (g' := (mkF m 23 #[.val (.ref o), .val (.double (0 : UInt64)), .second, .val (.int (0 : Int32))] [(.double (0 : UInt64))])) (fun t k => XS.dloadN X2.here hx rfl (v := (0 : UInt64)) (hb hby d7_22) rfl k) ?_
    refine own_pre (T' := T2) (g' := (mkF m 24 #[.val (.ref o), .val (.double (0 : UInt64)), .second, .val (.int (0 : Int32))] [(.ref o), (.double (0 : UInt64))])) (fun t k => XS.aloadN X2.here hx rfl (v := (.ref o)) (hb hby d7_23) rfl rfl k) ?_
    refine own_getf X2 hx hZ hown (hw _ (List.mem_of_getElem? (i := 34) rfl)) e2 F1 (hb hby d7_24) ?_
    intro T3 X3 e3
    show own_Go _ _ _ _ _ _ _ T3 (mkF m 27 #[.val (.ref o), .val (.double (0 : UInt64)), .second, .val (.int (0 : Int32))] [(.ref bl), (.double (0 : UInt64))])
    refine own_pre (T' := T3) (g' := (mkF m 28 #[.val (.ref o), .val (.double (0 : UInt64)), .second, .val (.int (0 : Int32))] [(.int (0 : Int32)), (.ref bl), (.double (0 : UInt64))])) (fun t k => XS.iloadN X3.here hx rfl (v := (0 : Int32)) (hb hby d7_27) rfl k) ?_
    refine own_iaload X3 hx hZ e3 A1 (hb hby d7_28) (n := 0) (v := (.int l0)) (by decide) (by decide) rfl ?_
    show own_Go _ _ _ _ _ _ _ T3 (mkF m 29 #[.val (.ref o), .val (.double (0 : UInt64)), .second, .val (.int (0 : Int32))] [(.int l0), (.double (0 : UInt64))])
    obtain ⟨f4, hf4⟩ : ∃ z, FP.i2d l0 = z := ⟨_, rfl⟩
    refine own_pre (T' := T3) (g' := (mkF m 30 #[.val (.ref o), .val (.double (0 : UInt64)), .second, .val (.int (0 : Int32))] [(.double f4), (.double (0 : UInt64))])) (fun t k => XS.i2dS X3.here hx rfl (hb hby d7_29) rfl hf4 k) ?_
    have Df4 : Jvm.FP.Core.DInt l0.toInt f4 := hf4 ▸ Jvm.FP.Core.i2d_int _
    refine own_pre (T' := T3) (g' := (mkF m 31 #[.val (.ref o), .val (.double (0 : UInt64)), .second, .val (.int (0 : Int32))] [(.ref o), (.double f4), (.double (0 : UInt64))])) (fun t k => XS.aloadN X3.here hx rfl (v := (.ref o)) (hb hby d7_30) rfl rfl k) ?_
    refine own_getf X3 hx hZ hown (hw _ (List.mem_of_getElem? (i := 36) rfl)) e3 F2 (hb hby d7_31) ?_
    intro T5 X5 e5
    show own_Go _ _ _ _ _ _ _ T5 (mkF m 34 #[.val (.ref o), .val (.double (0 : UInt64)), .second, .val (.int (0 : Int32))] [(.ref bh), (.double f4), (.double (0 : UInt64))])
    refine own_pre (T' := T5) (g' := (mkF m 35 #[.val (.ref o), .val (.double (0 : UInt64)), .second, .val (.int (0 : Int32))] [(.int (0 : Int32)), (.ref bh), (.double f4), (.double (0 : UInt64))])) (fun t k => XS.iloadN X5.here hx rfl (v := (0 : Int32)) (hb hby d7_34) rfl k) ?_
    refine own_iaload X5 hx hZ e5 A2 (hb hby d7_35) (n := 0) (v := (.int t0)) (by decide) (by decide) rfl ?_
    show own_Go _ _ _ _ _ _ _ T5 (mkF m 36 #[.val (.ref o), .val (.double (0 : UInt64)), .second, .val (.int (0 : Int32))] [(.int t0), (.double f4), (.double (0 : UInt64))])
    obtain ⟨f6, hf6⟩ : ∃ z, FP.i2d t0 = z := ⟨_, rfl⟩
    refine own_pre (T' := T5) (g' := (mkF m 37 #[.val (.ref o), .val (.double (0 : UInt64)), .second, .val (.int (0 : Int32))] [(.double f6), (.double f4), (.double (0 : UInt64))])) (fun t k => XS.i2dS X5.here hx rfl (hb hby d7_36) rfl hf6 k) ?_
    have Df6 : Jvm.FP.Core.DInt t0.toInt f6 := hf6 ▸ Jvm.FP.Core.i2d_int _
    have ht0 : FP.ddiv f4 f6 = own_t l0 t0 := by unfold own_t; rw [if_pos hp0, hf4, hf6]
    refine own_pre (T' := T5) (g' := (mkF m 38 #[.val (.ref o), .val (.double (0 : UInt64)), .second, .val (.int (0 : Int32))] [(.double (own_t l0 t0)), (.double (0 : UInt64))])) (fun t k => XS.ddivS X5.here hx rfl (v := (own_t l0 t0)) (hb hby d7_37) rfl (by rw [ht0]; exact u0.nn) ht0 k) ?_
    have hs0 : FP.dadd (0 : UInt64) (own_t l0 t0) = own_t l0 t0 := own_add0 u0
    refine own_pre (T' := T5) (g' := (mkF m 39 #[.val (.ref o), .val (.double (0 : UInt64)), .second, .val (.int (0 : Int32))] [(.double (own_t l0 t0))])) (fun t k => XS.daddS X5.here hx rfl (v := (own_t l0 t0)) (hb hby d7_38) rfl (by rw [hs0]; exact u0.nn) hs0 k) ?_
    generalize hv8 : own_t l0 t0 = v8
    refine own_pre (T' := T5) (g' := (mkF m 40 #[.val (.ref o), .val (.double v8), .second, .val (.int (0 : Int32))] [])) (fun t k => XS.dstoreN X5.here hx rfl (hb hby d7_39) rfl (l' := #[.val (.ref o), .val (.double v8), .second, .val (.int (0 : Int32))]) rfl k) ?_
    refine own_pre (T' := T5) (g' := (mkF m 43 #[.val (.ref o), .val (.double v8), .second, .val (.int (1 : Int32))] [])) (fun t k => XS.iinc X5.here hx rfl (hb hby d7_40) (x := (0 : Int32)) rfl (l' := #[.val (.ref o), .val (.double v8), .second, .val (.int (1 : Int32))]) rfl k) ?_
    refine own_pre (T' := T5) (g' := (mkF m 4 #[.val (.ref o), .val (.double v8), .second, .val (.int (1 : Int32))] [])) (fun t k => XS.goto X5.here hx rfl (pc0 := 43) (pc' := 4) rfl (hb hby d7_43) (by decide) (by decide) k) ?_
    refine own_pre (T' := T5) (g' := (mkF m 5 #[.val (.ref o), .val (.double v8), .second, .val (.int (1 : Int32))] [(.int (1 : Int32))])) (fun t k => XS.iloadN X5.here hx rfl (v := (1 : Int32)) (hb hby d7_4) rfl k) ?_
    refine own_pre (T' := T5) (g' := (mkF m 6 #[.val (.ref o), .val (.double v8), .second, .val (.int (1 : Int32))] [(.ref o), (.int (1 : Int32))])) (fun t k => XS.aloadN X5.here hx rfl (v := (.ref o)) (hb hby d7_5) rfl rfl k) ?_
    refine own_getf X5 hx hZ hown (hw _ (List.mem_of_getElem? (i := 34) rfl)) e5 F1 (hb hby d7_6) ?_
    intro T9 X9 e9
    show own_Go _ _ _ _ _ _ _ T9 (mkF m 9 #[.val (.ref o), .val (.double v8), .second, .val (.int (1 : Int32))] [(.ref bl), (.int (1 : Int32))])
    refine own_len X9 hx hZ e9 A1 (hb hby d7_9) (n := (1 : Int32)) rfl ?_
    show own_Go _ _ _ _ _ _ _ T9 (mkF m 10 #[.val (.ref o), .val (.double v8), .second, .val (.int (1 : Int32))] [(.int (1 : Int32)), (.int (1 : Int32))])
    refine own_pre (T' := T9) (g' := (mkF m 46 #[.val (.ref o), .val (.double v8), .second, .val (.int (1 : Int32))] [])) (fun t k => XS.icmpYes X9.here hx rfl (pc0 := 10) (pc' := 46) rfl (hb hby d7_10) rfl (by decide) (by decide) (by decide) k) ?_
    refine own_pre (T' := T9) (g' := (mkF m 47 #[.val (.ref o), .val (.double v8), .second, .val (.int (1 : Int32))] [(.double v8)])) (fun t k => XS.dloadN X9.here hx rfl (v := v8) (hb hby d7_46) rfl k) ?_
    refine own_pre (T' := T9) (g' := (mkF m 48 #[.val (.ref o), .val (.double v8), .second, .val (.int (1 : Int32))] [(.ref o), (.double v8)])) (fun t k => XS.aloadN X9.here hx rfl (v := (.ref o)) (hb hby d7_47) rfl rfl k) ?_
    refine own_getf X9 hx hZ hown (hw _ (List.mem_of_getElem? (i := 34) rfl)) e9 F1 (hb hby d7_48) ?_
    intro T10 X10 e10
    show own_Go _ _ _ _ _ _ _ T10 (mkF m 51 #[.val (.ref o), .val (.double v8), .second, .val (.int (1 : Int32))] [(.ref bl), (.double v8)])
    refine own_len X10 hx hZ e10 A1 (hb hby d7_51) (n := (1 : Int32)) rfl ?_
    show own_Go _ _ _ _ _ _ _ T10 (mkF m 52 #[.val (.ref o), .val (.double v8), .second, .val (.int (1 : Int32))] [(.int (1 : Int32)), (.double v8)])
    obtain ⟨f11, hf11⟩ : ∃ z, FP.i2d (1 : Int32) = z := ⟨_, rfl⟩
    refine own_pre (T' := T10) (g' := (mkF m 53 #[.val (.ref o), .val (.double v8), .second, .val (.int (1 : Int32))] [(.double f11), (.double v8)])) (fun t k => XS.i2dS X10.here hx rfl (hb hby d7_52) rfl hf11 k) ?_
    have Df11 : Jvm.FP.Core.DInt (1 : Int32).toInt f11 := hf11 ▸ Jvm.FP.Core.i2d_int _
    have hsx : v8 = own_t l0 t0 := hv8.symm
    have hd : FP.ddiv v8 f11 = own_t l0 t0 := by rw [hsx, ← hf11]; exact own_div1 u0
    refine own_pre (T' := T10) (g' := (mkF m 54 #[.val (.ref o), .val (.double v8), .second, .val (.int (1 : Int32))] [(.double (own_t l0 t0))])) (fun t k => XS.ddivS X10.here hx rfl (v := (own_t l0 t0)) (hb hby d7_53) rfl (by rw [hd]; exact u0.nn) hd k) ?_
    exact own_retD X10 hx hlk hret (hb hby d7_54) e10 ⟨rfl, N0, rfl⟩ (by decide) (by decide)
  · skip
    refine own_pre (T' := T2) (g' := (mkF m 40 #[.val (.ref o), .val (.double (0 : UInt64)), .second, .val (.int (0 : Int32))] [])) (fun t k => XS.ifYes X2.here hx rfl (pc0 := 19) (pc' := 40) rfl (hb hby d7_19) rfl ((if0 _ _).trans (flt hp0).2.2.2) (by decide) (by decide) k) ?_
    have e0 : own_t l0 t0 = 0 := by unfold own_t; rw [if_neg hp0]
    refine own_pre (T' := T2) (g' := (mkF m 43 #[.val (.ref o), .val (.double (0 : UInt64)), .second, .val (.int (1 : Int32))] [])) (fun t k => XS.iinc X2.here hx rfl (hb hby d7_40) (x := (0 : Int32)) rfl (l' := #[.val (.ref o), .val (.double (0 : UInt64)), .second, .val (.int (1 : Int32))]) rfl k) ?_
    refine own_pre (T' := T2) (g' := (mkF m 4 #[.val (.ref o), .val (.double (0 : UInt64)), .second, .val (.int (1 : Int32))] [])) (fun t k => XS.goto X2.here hx rfl (pc0 := 43) (pc' := 4) rfl (hb hby d7_43) (by decide) (by decide) k) ?_
    refine own_pre (T' := T2) (g' := (mkF m 5 #[.val (.ref o), .val (.double (0 : UInt64)), .second, .val (.int (1 : Int32))] [(.int (1 : Int32))])) (fun t k => XS.iloadN X2.here hx rfl (v := (1 : Int32)) (hb hby d7_4) rfl k) ?_
    refine own_pre (T' := T2) (g' := (mkF m 6 #[.val (.ref o), .val (.double (0 : UInt64)), .second, .val (.int (1 : Int32))] [(.ref o), (.int (1 : Int32))])) (fun t k => XS.aloadN X2.here hx rfl (v := (.ref o)) (hb hby d7_5) rfl rfl k) ?_
    refine own_getf X2 hx hZ hown (hw _ (List.mem_of_getElem? (i := 34) rfl)) e2 F1 (hb hby d7_6) ?_
    intro T12 X12 e12
    show own_Go _ _ _ _ _ _ _ T12 (mkF m 9 #[.val (.ref o), .val (.double (0 : UInt64)), .second, .val (.int (1 : Int32))] [(.ref bl), (.int (1 : Int32))])
    refine own_len X12 hx hZ e12 A1 (hb hby d7_9) (n := (1 : Int32)) rfl ?_
    show own_Go _ _ _ _ _ _ _ T12 (mkF m 10 #[.val (.ref o), .val (.double (0 : UInt64)), .second, .val (.int (1 : Int32))] [(.int (1 : Int32)), (.int (1 : Int32))])
    refine own_pre (T' := T12) (g' := (mkF m 46 #[.val (.ref o), .val (.double (0 : UInt64)), .second, .val (.int (1 : Int32))] [])) (fun t k => XS.icmpYes X12.here hx rfl (pc0 := 10) (pc' := 46) rfl (hb hby d7_10) rfl (by decide) (by decide) (by decide) k) ?_
    refine own_pre (T' := T12) (g' := (mkF m 47 #[.val (.ref o), .val (.double (0 : UInt64)), .second, .val (.int (1 : Int32))] [(.double (0 : UInt64))])) (fun t k => XS.dloadN X12.here hx rfl (v := (0 : UInt64)) (hb hby d7_46) rfl k) ?_
    refine own_pre (T' := T12) (g' := (mkF m 48 #[.val (.ref o), .val (.double (0 : UInt64)), .second, .val (.int (1 : Int32))] [(.ref o), (.double (0 : UInt64))])) (fun t k => XS.aloadN X12.here hx rfl (v := (.ref o)) (hb hby d7_47) rfl rfl k) ?_
    refine own_getf X12 hx hZ hown (hw _ (List.mem_of_getElem? (i := 34) rfl)) e12 F1 (hb hby d7_48) ?_
    intro T13 X13 e13
    show own_Go _ _ _ _ _ _ _ T13 (mkF m 51 #[.val (.ref o), .val (.double (0 : UInt64)), .second, .val (.int (1 : Int32))] [(.ref bl), (.double (0 : UInt64))])
    refine own_len X13 hx hZ e13 A1 (hb hby d7_51) (n := (1 : Int32)) rfl ?_
    show own_Go _ _ _ _ _ _ _ T13 (mkF m 52 #[.val (.ref o), .val (.double (0 : UInt64)), .second, .val (.int (1 : Int32))] [(.int (1 : Int32)), (.double (0 : UInt64))])
    obtain ⟨f14, hf14⟩ : ∃ z, FP.i2d (1 : Int32) = z := ⟨_, rfl⟩
    refine own_pre (T' := T13) (g' := (mkF m 53 #[.val (.ref o), .val (.double (0 : UInt64)), .second, .val (.int (1 : Int32))] [(.double f14), (.double (0 : UInt64))])) (fun t k => XS.i2dS X13.here hx rfl (hb hby d7_52) rfl hf14 k) ?_
    have Df14 : Jvm.FP.Core.DInt (1 : Int32).toInt f14 := hf14 ▸ Jvm.FP.Core.i2d_int _
    have hsx : (0 : UInt64) = 0 := rfl
    have hd : FP.ddiv (0 : UInt64) f14 = own_t l0 t0 := by rw [hsx, ← hf14, e0]; exact own_div1 own_U0
    refine own_pre (T' := T13) (g' := (mkF m 54 #[.val (.ref o), .val (.double (0 : UInt64)), .second, .val (.int (1 : Int32))] [(.double (own_t l0 t0))])) (fun t k => XS.ddivS X13.here hx rfl (v := (own_t l0 t0)) (hb hby d7_53) rfl (by rw [hd]; exact u0.nn) hd k) ?_
    exact own_retD X13 hx hlk hret (hb hby d7_54) e13 ⟨rfl, N0, rfl⟩ (by decide) (by decide)
def own_gp2_Q (Z : State) (o bl bh : Addr) (l0 t0 : Int32) (l1 t1 : Int32) (h0 : Heap) (n0 : Nat) (v_ : Option Value) (h_ : Heap) (L_ : List Loc) : Prop := (fun v h L => v = some (.double (FP.ddiv (FP.dadd (own_t l0 t0) (own_t l1 t1)) (4611686018427387904 : UInt64))) ∧ Fr n0 L ∧ h = h0) v_ h_ L_
set_option maxRecDepth 65536 in
set_option maxHeartbeats 40000000 in
theorem own_gp2 (l : Launch) (Z : State) (a0 : Array Value) (hw : ∀ d ∈ tables_1, d.before a0 Z = true) (wds : List Jvm.Cond) (o bl bh : Addr) (l0 t0 : Int32) (l1 t1 : Int32) (h0 : Heap) (n0 : Nat) (Z0 : n0 ≤ h0.size) (F1 : Fld Z h0 o "com/example/gyges/gyges/model/Levels" "levels" "[I" (.ref bl)) (F2 : Fld Z h0 o "com/example/gyges/gyges/model/Levels" "heights" "[I" (.ref bh)) (A1 : own_Ary Z h0 bl .int [.int l0, .int l1]) (A2 : own_Ary Z h0 bh .int [.int t0, .int t1]) (c0 : 0 ≤ l0.toInt) (d0 : l0.toInt ≤ t0.toInt) (c1 : 0 ≤ l1.toInt) (d1 : l1.toInt ≤ t1.toInt) :
    MetFree l (⟨"com/example/gyges/gyges/model/Levels", "getPrecision", "()D"⟩ : MethodName) (head1 (Jvm.Cond.code (⟨"com/example/gyges/gyges/model/Levels", "getPrecision", "()D"⟩ : MethodName) prog_43_method_6_code 4 (some .double) :: wds) ({ frames := 0, cells := 0, slots := 0, locals := 0 } : Room)) (fun ar_ U_ => ar_ = #[(.ref o)] ∧ Z.Warmed39 U_.vm ∧ U_.heap = h0) (fun _ _ _ _ _ => True) (fun _ U_ o_ V_ => ∃ v_ L_, o_ = .returned v_ ∧ own_gp2_Q Z o bl bh l0 t0 l1 t1 h0 n0 v_ V_.heap L_ ∧ FrameEnd U_ o_ V_ L_ ({ frames := 0, cells := 0, slots := 0, locals := 0 } : Room).cells ({ frames := 0, cells := 0, slots := 0, locals := 0 } : Room).slots) := by
  refine own_met (y := ⟨"com/example/gyges/gyges/model/Levels", "getPrecision", "()D"⟩) (Q := own_gp2_Q Z o bl bh l0 t0 l1 t1 h0 n0) own_pn1 ?_
  intro p e s m below meth c s₁ hx hby hml hZ hown hnm hret hlk X0 e0
  have N0 := Fr.nil n0
  refine own_cast (g' := (mkF m 0 #[.val (.ref o), .unset, .unset, .unset] [])) (by first | (simp [entryFrame, mkF, argsToLocals, Value.category]; done) | rfl) ?_
  have u0 := own_tU c0 d0
  have u1 := own_tU c1 d1
  refine own_pre (T' := s₁) (g' := (mkF m 1 #[.val (.ref o), .unset, .unset, .unset] [(.double (0 : UInt64))])) (fun t k => XS.dconst0 X0.here hx rfl (v := (0 : UInt64)) (hb hby d7_0) (by decide) k) ?_
  refine own_pre (T' := s₁) (g' := (mkF m 2 #[.val (.ref o), .val (.double (0 : UInt64)), .second, .unset] [])) (fun t k => XS.dstoreN X0.here hx rfl (hb hby d7_1) rfl (l' := #[.val (.ref o), .val (.double (0 : UInt64)), .second, .unset]) rfl k) ?_
  refine own_pre (T' := s₁) (g' := (mkF m 3 #[.val (.ref o), .val (.double (0 : UInt64)), .second, .unset] [(.int (0 : Int32))])) (fun t k => XS.iconst X0.here hx rfl (hb hby d7_2) k) ?_
  refine own_pre (T' := s₁) (g' := (mkF m 4 #[.val (.ref o), .val (.double (0 : UInt64)), .second, .val (.int (0 : Int32))] [])) (fun t k => XS.istoreN X0.here hx rfl (hb hby d7_3) rfl (l' := #[.val (.ref o), .val (.double (0 : UInt64)), .second, .val (.int (0 : Int32))]) rfl k) ?_
  refine own_pre (T' := s₁) (g' := (mkF m 5 #[.val (.ref o), .val (.double (0 : UInt64)), .second, .val (.int (0 : Int32))] [(.int (0 : Int32))])) (fun t k => XS.iloadN X0.here hx rfl (v := (0 : Int32)) (hb hby d7_4) rfl k) ?_
  refine own_pre (T' := s₁) (g' := (mkF m 6 #[.val (.ref o), .val (.double (0 : UInt64)), .second, .val (.int (0 : Int32))] [(.ref o), (.int (0 : Int32))])) (fun t k => XS.aloadN X0.here hx rfl (v := (.ref o)) (hb hby d7_5) rfl rfl k) ?_
  refine own_getf X0 hx hZ hown (hw _ (List.mem_of_getElem? (i := 34) rfl)) e0 F1 (hb hby d7_6) ?_
  intro T1 X1 e1
  show own_Go _ _ _ _ _ _ _ T1 (mkF m 9 #[.val (.ref o), .val (.double (0 : UInt64)), .second, .val (.int (0 : Int32))] [(.ref bl), (.int (0 : Int32))])
  refine own_len X1 hx hZ e1 A1 (hb hby d7_9) (n := (2 : Int32)) rfl ?_
  show own_Go _ _ _ _ _ _ _ T1 (mkF m 10 #[.val (.ref o), .val (.double (0 : UInt64)), .second, .val (.int (0 : Int32))] [(.int (2 : Int32)), (.int (0 : Int32))])
  refine own_pre (T' := T1) (g' := (mkF m 13 #[.val (.ref o), .val (.double (0 : UInt64)), .second, .val (.int (0 : Int32))] [])) (fun t k => XS.icmpNo X1.here hx rfl (hb hby d7_10) rfl (by decide) k) ?_
  refine own_pre (T' := T1) (g' := (mkF m 14 #[.val (.ref o), .val (.double (0 : UInt64)), .second, .val (.int (0 : Int32))] [(.ref o)])) (fun t k => XS.aloadN X1.here hx rfl (v := (.ref o)) (hb hby d7_13) rfl rfl k) ?_
  refine own_getf X1 hx hZ hown (hw _ (List.mem_of_getElem? (i := 36) rfl)) e1 F2 (hb hby d7_14) ?_
  intro T2 X2 e2
  show own_Go _ _ _ _ _ _ _ T2 (mkF m 17 #[.val (.ref o), .val (.double (0 : UInt64)), .second, .val (.int (0 : Int32))] [(.ref bh)])
  refine own_pre (T' := T2) (g' := (mkF m 18 #[.val (.ref o), .val (.double (0 : UInt64)), .second, .val (.int (0 : Int32))] [(.int (0 : Int32)), (.ref bh)])) (fun t k => XS.iloadN X2.here hx rfl (v := (0 : Int32)) (hb hby d7_17) rfl k) ?_
  refine own_iaload X2 hx hZ e2 A2 (hb hby d7_18) (n := 0) (v := (.int t0)) (by decide) (by decide) rfl ?_
  show own_Go _ _ _ _ _ _ _ T2 (mkF m 19 #[.val (.ref o), .val (.double (0 : UInt64)), .second, .val (.int (0 : Int32))] [(.int t0)])
  by_cases hp0 : (0 : Int32) < t0
  · skip
    refine own_pre (T' := T2) (g' := (mkF m 22 #[.val (.ref o), .val (.double (0 : UInt64)), .second, .val (.int (0 : Int32))] [])) (fun t k => XS.ifNo X2.here hx rfl (hb hby d7_19) rfl ((if0 _ _).trans (tlt hp0).2.2.2) k) ?_
    refine own_pre (T' := T2) (g' := (mkF m 23 #[.val (.ref o), .val (.double (0 : UInt64)), .second, .val (.int (0 : Int32))] [(.double (0 : UInt64))])) (fun t k => XS.dloadN X2.here hx rfl (v := (0 : UInt64)) (hb hby d7_22) rfl k) ?_
    refine own_pre (T' := T2) (g' := (mkF m 24 #[.val (.ref o), .val (.double (0 : UInt64)), .second, .val (.int (0 : Int32))] [(.ref o), (.double (0 : UInt64))])) (fun t k => XS.aloadN X2.here hx rfl (v := (.ref o)) (hb hby d7_23) rfl rfl k) ?_
    refine own_getf X2 hx hZ hown (hw _ (List.mem_of_getElem? (i := 34) rfl)) e2 F1 (hb hby d7_24) ?_
    intro T3 X3 e3
    show own_Go _ _ _ _ _ _ _ T3 (mkF m 27 #[.val (.ref o), .val (.double (0 : UInt64)), .second, .val (.int (0 : Int32))] [(.ref bl), (.double (0 : UInt64))])
    refine own_pre (T' := T3) (g' := (mkF m 28 #[.val (.ref o), .val (.double (0 : UInt64)), .second, .val (.int (0 : Int32))] [(.int (0 : Int32)), (.ref bl), (.double (0 : UInt64))])) (fun t k => XS.iloadN X3.here hx rfl (v := (0 : Int32)) (hb hby d7_27) rfl k) ?_
    refine own_iaload X3 hx hZ e3 A1 (hb hby d7_28) (n := 0) (v := (.int l0)) (by decide) (by decide) rfl ?_
    show own_Go _ _ _ _ _ _ _ T3 (mkF m 29 #[.val (.ref o), .val (.double (0 : UInt64)), .second, .val (.int (0 : Int32))] [(.int l0), (.double (0 : UInt64))])
    obtain ⟨f4, hf4⟩ : ∃ z, FP.i2d l0 = z := ⟨_, rfl⟩
    refine own_pre (T' := T3) (g' := (mkF m 30 #[.val (.ref o), .val (.double (0 : UInt64)), .second, .val (.int (0 : Int32))] [(.double f4), (.double (0 : UInt64))])) (fun t k => XS.i2dS X3.here hx rfl (hb hby d7_29) rfl hf4 k) ?_
    have Df4 : Jvm.FP.Core.DInt l0.toInt f4 := hf4 ▸ Jvm.FP.Core.i2d_int _
    refine own_pre (T' := T3) (g' := (mkF m 31 #[.val (.ref o), .val (.double (0 : UInt64)), .second, .val (.int (0 : Int32))] [(.ref o), (.double f4), (.double (0 : UInt64))])) (fun t k => XS.aloadN X3.here hx rfl (v := (.ref o)) (hb hby d7_30) rfl rfl k) ?_
    refine own_getf X3 hx hZ hown (hw _ (List.mem_of_getElem? (i := 36) rfl)) e3 F2 (hb hby d7_31) ?_
    intro T5 X5 e5
    show own_Go _ _ _ _ _ _ _ T5 (mkF m 34 #[.val (.ref o), .val (.double (0 : UInt64)), .second, .val (.int (0 : Int32))] [(.ref bh), (.double f4), (.double (0 : UInt64))])
    refine own_pre (T' := T5) (g' := (mkF m 35 #[.val (.ref o), .val (.double (0 : UInt64)), .second, .val (.int (0 : Int32))] [(.int (0 : Int32)), (.ref bh), (.double f4), (.double (0 : UInt64))])) (fun t k => XS.iloadN X5.here hx rfl (v := (0 : Int32)) (hb hby d7_34) rfl k) ?_
    refine own_iaload X5 hx hZ e5 A2 (hb hby d7_35) (n := 0) (v := (.int t0)) (by decide) (by decide) rfl ?_
    show own_Go _ _ _ _ _ _ _ T5 (mkF m 36 #[.val (.ref o), .val (.double (0 : UInt64)), .second, .val (.int (0 : Int32))] [(.int t0), (.double f4), (.double (0 : UInt64))])
    obtain ⟨f6, hf6⟩ : ∃ z, FP.i2d t0 = z := ⟨_, rfl⟩
    refine own_pre (T' := T5) (g' := (mkF m 37 #[.val (.ref o), .val (.double (0 : UInt64)), .second, .val (.int (0 : Int32))] [(.double f6), (.double f4), (.double (0 : UInt64))])) (fun t k => XS.i2dS X5.here hx rfl (hb hby d7_36) rfl hf6 k) ?_
    have Df6 : Jvm.FP.Core.DInt t0.toInt f6 := hf6 ▸ Jvm.FP.Core.i2d_int _
    have ht0 : FP.ddiv f4 f6 = own_t l0 t0 := by unfold own_t; rw [if_pos hp0, hf4, hf6]
    refine own_pre (T' := T5) (g' := (mkF m 38 #[.val (.ref o), .val (.double (0 : UInt64)), .second, .val (.int (0 : Int32))] [(.double (own_t l0 t0)), (.double (0 : UInt64))])) (fun t k => XS.ddivS X5.here hx rfl (v := (own_t l0 t0)) (hb hby d7_37) rfl (by rw [ht0]; exact u0.nn) ht0 k) ?_
    have hs0 : FP.dadd (0 : UInt64) (own_t l0 t0) = own_t l0 t0 := own_add0 u0
    refine own_pre (T' := T5) (g' := (mkF m 39 #[.val (.ref o), .val (.double (0 : UInt64)), .second, .val (.int (0 : Int32))] [(.double (own_t l0 t0))])) (fun t k => XS.daddS X5.here hx rfl (v := (own_t l0 t0)) (hb hby d7_38) rfl (by rw [hs0]; exact u0.nn) hs0 k) ?_
    generalize hv8 : own_t l0 t0 = v8
    refine own_pre (T' := T5) (g' := (mkF m 40 #[.val (.ref o), .val (.double v8), .second, .val (.int (0 : Int32))] [])) (fun t k => XS.dstoreN X5.here hx rfl (hb hby d7_39) rfl (l' := #[.val (.ref o), .val (.double v8), .second, .val (.int (0 : Int32))]) rfl k) ?_
    refine own_pre (T' := T5) (g' := (mkF m 43 #[.val (.ref o), .val (.double v8), .second, .val (.int (1 : Int32))] [])) (fun t k => XS.iinc X5.here hx rfl (hb hby d7_40) (x := (0 : Int32)) rfl (l' := #[.val (.ref o), .val (.double v8), .second, .val (.int (1 : Int32))]) rfl k) ?_
    refine own_pre (T' := T5) (g' := (mkF m 4 #[.val (.ref o), .val (.double v8), .second, .val (.int (1 : Int32))] [])) (fun t k => XS.goto X5.here hx rfl (pc0 := 43) (pc' := 4) rfl (hb hby d7_43) (by decide) (by decide) k) ?_
    refine own_pre (T' := T5) (g' := (mkF m 5 #[.val (.ref o), .val (.double v8), .second, .val (.int (1 : Int32))] [(.int (1 : Int32))])) (fun t k => XS.iloadN X5.here hx rfl (v := (1 : Int32)) (hb hby d7_4) rfl k) ?_
    refine own_pre (T' := T5) (g' := (mkF m 6 #[.val (.ref o), .val (.double v8), .second, .val (.int (1 : Int32))] [(.ref o), (.int (1 : Int32))])) (fun t k => XS.aloadN X5.here hx rfl (v := (.ref o)) (hb hby d7_5) rfl rfl k) ?_
    refine own_getf X5 hx hZ hown (hw _ (List.mem_of_getElem? (i := 34) rfl)) e5 F1 (hb hby d7_6) ?_
    intro T9 X9 e9
    show own_Go _ _ _ _ _ _ _ T9 (mkF m 9 #[.val (.ref o), .val (.double v8), .second, .val (.int (1 : Int32))] [(.ref bl), (.int (1 : Int32))])
    refine own_len X9 hx hZ e9 A1 (hb hby d7_9) (n := (2 : Int32)) rfl ?_
    show own_Go _ _ _ _ _ _ _ T9 (mkF m 10 #[.val (.ref o), .val (.double v8), .second, .val (.int (1 : Int32))] [(.int (2 : Int32)), (.int (1 : Int32))])
    refine own_pre (T' := T9) (g' := (mkF m 13 #[.val (.ref o), .val (.double v8), .second, .val (.int (1 : Int32))] [])) (fun t k => XS.icmpNo X9.here hx rfl (hb hby d7_10) rfl (by decide) k) ?_
    refine own_pre (T' := T9) (g' := (mkF m 14 #[.val (.ref o), .val (.double v8), .second, .val (.int (1 : Int32))] [(.ref o)])) (fun t k => XS.aloadN X9.here hx rfl (v := (.ref o)) (hb hby d7_13) rfl rfl k) ?_
    refine own_getf X9 hx hZ hown (hw _ (List.mem_of_getElem? (i := 36) rfl)) e9 F2 (hb hby d7_14) ?_
    intro T10 X10 e10
    show own_Go _ _ _ _ _ _ _ T10 (mkF m 17 #[.val (.ref o), .val (.double v8), .second, .val (.int (1 : Int32))] [(.ref bh)])
    refine own_pre (T' := T10) (g' := (mkF m 18 #[.val (.ref o), .val (.double v8), .second, .val (.int (1 : Int32))] [(.int (1 : Int32)), (.ref bh)])) (fun t k => XS.iloadN X10.here hx rfl (v := (1 : Int32)) (hb hby d7_17) rfl k) ?_
    refine own_iaload X10 hx hZ e10 A2 (hb hby d7_18) (n := 1) (v := (.int t1)) (by decide) (by decide) rfl ?_
    show own_Go _ _ _ _ _ _ _ T10 (mkF m 19 #[.val (.ref o), .val (.double v8), .second, .val (.int (1 : Int32))] [(.int t1)])
    by_cases hp1 : (0 : Int32) < t1
    · skip
      refine own_pre (T' := T10) (g' := (mkF m 22 #[.val (.ref o), .val (.double v8), .second, .val (.int (1 : Int32))] [])) (fun t k => XS.ifNo X10.here hx rfl (hb hby d7_19) rfl ((if0 _ _).trans (tlt hp1).2.2.2) k) ?_
      refine own_pre (T' := T10) (g' := (mkF m 23 #[.val (.ref o), .val (.double v8), .second, .val (.int (1 : Int32))] [(.double v8)])) (fun t k => XS.dloadN X10.here hx rfl (v := v8) (hb hby d7_22) rfl k) ?_
      refine own_pre (T' := T10) (g' := (mkF m 24 #[.val (.ref o), .val (.double v8), .second, .val (.int (1 : Int32))] [(.ref o), (.double v8)])) (fun t k => XS.aloadN X10.here hx rfl (v := (.ref o)) (hb hby d7_23) rfl rfl k) ?_
      refine own_getf X10 hx hZ hown (hw _ (List.mem_of_getElem? (i := 34) rfl)) e10 F1 (hb hby d7_24) ?_
      intro T11 X11 e11
      show own_Go _ _ _ _ _ _ _ T11 (mkF m 27 #[.val (.ref o), .val (.double v8), .second, .val (.int (1 : Int32))] [(.ref bl), (.double v8)])
      refine own_pre (T' := T11) (g' := (mkF m 28 #[.val (.ref o), .val (.double v8), .second, .val (.int (1 : Int32))] [(.int (1 : Int32)), (.ref bl), (.double v8)])) (fun t k => XS.iloadN X11.here hx rfl (v := (1 : Int32)) (hb hby d7_27) rfl k) ?_
      refine own_iaload X11 hx hZ e11 A1 (hb hby d7_28) (n := 1) (v := (.int l1)) (by decide) (by decide) rfl ?_
      show own_Go _ _ _ _ _ _ _ T11 (mkF m 29 #[.val (.ref o), .val (.double v8), .second, .val (.int (1 : Int32))] [(.int l1), (.double v8)])
      obtain ⟨f12, hf12⟩ : ∃ z, FP.i2d l1 = z := ⟨_, rfl⟩
      refine own_pre (T' := T11) (g' := (mkF m 30 #[.val (.ref o), .val (.double v8), .second, .val (.int (1 : Int32))] [(.double f12), (.double v8)])) (fun t k => XS.i2dS X11.here hx rfl (hb hby d7_29) rfl hf12 k) ?_
      have Df12 : Jvm.FP.Core.DInt l1.toInt f12 := hf12 ▸ Jvm.FP.Core.i2d_int _
      refine own_pre (T' := T11) (g' := (mkF m 31 #[.val (.ref o), .val (.double v8), .second, .val (.int (1 : Int32))] [(.ref o), (.double f12), (.double v8)])) (fun t k => XS.aloadN X11.here hx rfl (v := (.ref o)) (hb hby d7_30) rfl rfl k) ?_
      refine own_getf X11 hx hZ hown (hw _ (List.mem_of_getElem? (i := 36) rfl)) e11 F2 (hb hby d7_31) ?_
      intro T13 X13 e13
      show own_Go _ _ _ _ _ _ _ T13 (mkF m 34 #[.val (.ref o), .val (.double v8), .second, .val (.int (1 : Int32))] [(.ref bh), (.double f12), (.double v8)])
      refine own_pre (T' := T13) (g' := (mkF m 35 #[.val (.ref o), .val (.double v8), .second, .val (.int (1 : Int32))] [(.int (1 : Int32)), (.ref bh), (.double f12), (.double v8)])) (fun t k => XS.iloadN X13.here hx rfl (v := (1 : Int32)) (hb hby d7_34) rfl k) ?_
      refine own_iaload X13 hx hZ e13 A2 (hb hby d7_35) (n := 1) (v := (.int t1)) (by decide) (by decide) rfl ?_
      show own_Go _ _ _ _ _ _ _ T13 (mkF m 36 #[.val (.ref o), .val (.double v8), .second, .val (.int (1 : Int32))] [(.int t1), (.double f12), (.double v8)])
      obtain ⟨f14, hf14⟩ : ∃ z, FP.i2d t1 = z := ⟨_, rfl⟩
      refine own_pre (T' := T13) (g' := (mkF m 37 #[.val (.ref o), .val (.double v8), .second, .val (.int (1 : Int32))] [(.double f14), (.double f12), (.double v8)])) (fun t k => XS.i2dS X13.here hx rfl (hb hby d7_36) rfl hf14 k) ?_
      have Df14 : Jvm.FP.Core.DInt t1.toInt f14 := hf14 ▸ Jvm.FP.Core.i2d_int _
      have ht1 : FP.ddiv f12 f14 = own_t l1 t1 := by unfold own_t; rw [if_pos hp1, hf12, hf14]
      refine own_pre (T' := T13) (g' := (mkF m 38 #[.val (.ref o), .val (.double v8), .second, .val (.int (1 : Int32))] [(.double (own_t l1 t1)), (.double v8)])) (fun t k => XS.ddivS X13.here hx rfl (v := (own_t l1 t1)) (hb hby d7_37) rfl (by rw [ht1]; exact u1.nn) ht1 k) ?_
      have hs1 : FP.dadd v8 (own_t l1 t1) = FP.dadd (own_t l0 t0) (own_t l1 t1) := by rw [← hv8]
      refine own_pre (T' := T13) (g' := (mkF m 39 #[.val (.ref o), .val (.double v8), .second, .val (.int (1 : Int32))] [(.double (FP.dadd (own_t l0 t0) (own_t l1 t1)))])) (fun t k => XS.daddS X13.here hx rfl (v := (FP.dadd (own_t l0 t0) (own_t l1 t1))) (hb hby d7_38) rfl (by rw [hs1]; exact (own_nnf (own_sum u0 u1).1)) hs1 k) ?_
      generalize hv16 : FP.dadd (own_t l0 t0) (own_t l1 t1) = v16
      refine own_pre (T' := T13) (g' := (mkF m 40 #[.val (.ref o), .val (.double v16), .second, .val (.int (1 : Int32))] [])) (fun t k => XS.dstoreN X13.here hx rfl (hb hby d7_39) rfl (l' := #[.val (.ref o), .val (.double v16), .second, .val (.int (1 : Int32))]) rfl k) ?_
      refine own_pre (T' := T13) (g' := (mkF m 43 #[.val (.ref o), .val (.double v16), .second, .val (.int (2 : Int32))] [])) (fun t k => XS.iinc X13.here hx rfl (hb hby d7_40) (x := (1 : Int32)) rfl (l' := #[.val (.ref o), .val (.double v16), .second, .val (.int (2 : Int32))]) rfl k) ?_
      refine own_pre (T' := T13) (g' := (mkF m 4 #[.val (.ref o), .val (.double v16), .second, .val (.int (2 : Int32))] [])) (fun t k => XS.goto X13.here hx rfl (pc0 := 43) (pc' := 4) rfl (hb hby d7_43) (by decide) (by decide) k) ?_
      refine own_pre (T' := T13) (g' := (mkF m 5 #[.val (.ref o), .val (.double v16), .second, .val (.int (2 : Int32))] [(.int (2 : Int32))])) (fun t k => XS.iloadN X13.here hx rfl (v := (2 : Int32)) (hb hby d7_4) rfl k) ?_
      refine own_pre (T' := T13) (g' := (mkF m 6 #[.val (.ref o), .val (.double v16), .second, .val (.int (2 : Int32))] [(.ref o), (.int (2 : Int32))])) (fun t k => XS.aloadN X13.here hx rfl (v := (.ref o)) (hb hby d7_5) rfl rfl k) ?_
      refine own_getf X13 hx hZ hown (hw _ (List.mem_of_getElem? (i := 34) rfl)) e13 F1 (hb hby d7_6) ?_
      intro T17 X17 e17
      show own_Go _ _ _ _ _ _ _ T17 (mkF m 9 #[.val (.ref o), .val (.double v16), .second, .val (.int (2 : Int32))] [(.ref bl), (.int (2 : Int32))])
      refine own_len X17 hx hZ e17 A1 (hb hby d7_9) (n := (2 : Int32)) rfl ?_
      show own_Go _ _ _ _ _ _ _ T17 (mkF m 10 #[.val (.ref o), .val (.double v16), .second, .val (.int (2 : Int32))] [(.int (2 : Int32)), (.int (2 : Int32))])
      refine own_pre (T' := T17) (g' := (mkF m 46 #[.val (.ref o), .val (.double v16), .second, .val (.int (2 : Int32))] [])) (fun t k => XS.icmpYes X17.here hx rfl (pc0 := 10) (pc' := 46) rfl (hb hby d7_10) rfl (by decide) (by decide) (by decide) k) ?_
      refine own_pre (T' := T17) (g' := (mkF m 47 #[.val (.ref o), .val (.double v16), .second, .val (.int (2 : Int32))] [(.double v16)])) (fun t k => XS.dloadN X17.here hx rfl (v := v16) (hb hby d7_46) rfl k) ?_
      refine own_pre (T' := T17) (g' := (mkF m 48 #[.val (.ref o), .val (.double v16), .second, .val (.int (2 : Int32))] [(.ref o), (.double v16)])) (fun t k => XS.aloadN X17.here hx rfl (v := (.ref o)) (hb hby d7_47) rfl rfl k) ?_
      refine own_getf X17 hx hZ hown (hw _ (List.mem_of_getElem? (i := 34) rfl)) e17 F1 (hb hby d7_48) ?_
      intro T18 X18 e18
      show own_Go _ _ _ _ _ _ _ T18 (mkF m 51 #[.val (.ref o), .val (.double v16), .second, .val (.int (2 : Int32))] [(.ref bl), (.double v16)])
      refine own_len X18 hx hZ e18 A1 (hb hby d7_51) (n := (2 : Int32)) rfl ?_
      show own_Go _ _ _ _ _ _ _ T18 (mkF m 52 #[.val (.ref o), .val (.double v16), .second, .val (.int (2 : Int32))] [(.int (2 : Int32)), (.double v16)])
      obtain ⟨f19, hf19⟩ : ∃ z, FP.i2d (2 : Int32) = z := ⟨_, rfl⟩
      refine own_pre (T' := T18) (g' := (mkF m 53 #[.val (.ref o), .val (.double v16), .second, .val (.int (2 : Int32))] [(.double f19), (.double v16)])) (fun t k => XS.i2dS X18.here hx rfl (hb hby d7_52) rfl hf19 k) ?_
      have Df19 : Jvm.FP.Core.DInt (2 : Int32).toInt f19 := hf19 ▸ Jvm.FP.Core.i2d_int _
      have hsx : v16 = FP.dadd (own_t l0 t0) (own_t l1 t1) := hv16.symm
      have hd : FP.ddiv v16 f19 = FP.ddiv (FP.dadd (own_t l0 t0) (own_t l1 t1)) (4611686018427387904 : UInt64) := by rw [hsx, ← hf19]; rw [own_i2]
      refine own_pre (T' := T18) (g' := (mkF m 54 #[.val (.ref o), .val (.double v16), .second, .val (.int (2 : Int32))] [(.double (FP.ddiv (FP.dadd (own_t l0 t0) (own_t l1 t1)) (4611686018427387904 : UInt64)))])) (fun t k => XS.ddivS X18.here hx rfl (v := (FP.ddiv (FP.dadd (own_t l0 t0) (own_t l1 t1)) (4611686018427387904 : UInt64))) (hb hby d7_53) rfl (by rw [hd]; exact (own_half (own_sum u0 u1).1 (own_sum u0 u1).2.1 (own_sum u0 u1).2.2).1) hd k) ?_
      exact own_retD X18 hx hlk hret (hb hby d7_54) e18 ⟨rfl, N0, rfl⟩ (by decide) (by decide)
    · skip
      refine own_pre (T' := T10) (g' := (mkF m 40 #[.val (.ref o), .val (.double v8), .second, .val (.int (1 : Int32))] [])) (fun t k => XS.ifYes X10.here hx rfl (pc0 := 19) (pc' := 40) rfl (hb hby d7_19) rfl ((if0 _ _).trans (flt hp1).2.2.2) (by decide) (by decide) k) ?_
      have e1 : own_t l1 t1 = 0 := by unfold own_t; rw [if_neg hp1]
      refine own_pre (T' := T10) (g' := (mkF m 43 #[.val (.ref o), .val (.double v8), .second, .val (.int (2 : Int32))] [])) (fun t k => XS.iinc X10.here hx rfl (hb hby d7_40) (x := (1 : Int32)) rfl (l' := #[.val (.ref o), .val (.double v8), .second, .val (.int (2 : Int32))]) rfl k) ?_
      refine own_pre (T' := T10) (g' := (mkF m 4 #[.val (.ref o), .val (.double v8), .second, .val (.int (2 : Int32))] [])) (fun t k => XS.goto X10.here hx rfl (pc0 := 43) (pc' := 4) rfl (hb hby d7_43) (by decide) (by decide) k) ?_
      refine own_pre (T' := T10) (g' := (mkF m 5 #[.val (.ref o), .val (.double v8), .second, .val (.int (2 : Int32))] [(.int (2 : Int32))])) (fun t k => XS.iloadN X10.here hx rfl (v := (2 : Int32)) (hb hby d7_4) rfl k) ?_
      refine own_pre (T' := T10) (g' := (mkF m 6 #[.val (.ref o), .val (.double v8), .second, .val (.int (2 : Int32))] [(.ref o), (.int (2 : Int32))])) (fun t k => XS.aloadN X10.here hx rfl (v := (.ref o)) (hb hby d7_5) rfl rfl k) ?_
      refine own_getf X10 hx hZ hown (hw _ (List.mem_of_getElem? (i := 34) rfl)) e10 F1 (hb hby d7_6) ?_
      intro T20 X20 e20
      show own_Go _ _ _ _ _ _ _ T20 (mkF m 9 #[.val (.ref o), .val (.double v8), .second, .val (.int (2 : Int32))] [(.ref bl), (.int (2 : Int32))])
      refine own_len X20 hx hZ e20 A1 (hb hby d7_9) (n := (2 : Int32)) rfl ?_
      show own_Go _ _ _ _ _ _ _ T20 (mkF m 10 #[.val (.ref o), .val (.double v8), .second, .val (.int (2 : Int32))] [(.int (2 : Int32)), (.int (2 : Int32))])
      refine own_pre (T' := T20) (g' := (mkF m 46 #[.val (.ref o), .val (.double v8), .second, .val (.int (2 : Int32))] [])) (fun t k => XS.icmpYes X20.here hx rfl (pc0 := 10) (pc' := 46) rfl (hb hby d7_10) rfl (by decide) (by decide) (by decide) k) ?_
      refine own_pre (T' := T20) (g' := (mkF m 47 #[.val (.ref o), .val (.double v8), .second, .val (.int (2 : Int32))] [(.double v8)])) (fun t k => XS.dloadN X20.here hx rfl (v := v8) (hb hby d7_46) rfl k) ?_
      refine own_pre (T' := T20) (g' := (mkF m 48 #[.val (.ref o), .val (.double v8), .second, .val (.int (2 : Int32))] [(.ref o), (.double v8)])) (fun t k => XS.aloadN X20.here hx rfl (v := (.ref o)) (hb hby d7_47) rfl rfl k) ?_
      refine own_getf X20 hx hZ hown (hw _ (List.mem_of_getElem? (i := 34) rfl)) e20 F1 (hb hby d7_48) ?_
      intro T21 X21 e21
      show own_Go _ _ _ _ _ _ _ T21 (mkF m 51 #[.val (.ref o), .val (.double v8), .second, .val (.int (2 : Int32))] [(.ref bl), (.double v8)])
      refine own_len X21 hx hZ e21 A1 (hb hby d7_51) (n := (2 : Int32)) rfl ?_
      show own_Go _ _ _ _ _ _ _ T21 (mkF m 52 #[.val (.ref o), .val (.double v8), .second, .val (.int (2 : Int32))] [(.int (2 : Int32)), (.double v8)])
      obtain ⟨f22, hf22⟩ : ∃ z, FP.i2d (2 : Int32) = z := ⟨_, rfl⟩
      refine own_pre (T' := T21) (g' := (mkF m 53 #[.val (.ref o), .val (.double v8), .second, .val (.int (2 : Int32))] [(.double f22), (.double v8)])) (fun t k => XS.i2dS X21.here hx rfl (hb hby d7_52) rfl hf22 k) ?_
      have Df22 : Jvm.FP.Core.DInt (2 : Int32).toInt f22 := hf22 ▸ Jvm.FP.Core.i2d_int _
      have hsx : v8 = own_t l0 t0 := hv8.symm
      have hd : FP.ddiv v8 f22 = FP.ddiv (FP.dadd (own_t l0 t0) (own_t l1 t1)) (4611686018427387904 : UInt64) := by rw [hsx, ← hf22, e1, own_add0' u0]; rw [own_i2]
      refine own_pre (T' := T21) (g' := (mkF m 54 #[.val (.ref o), .val (.double v8), .second, .val (.int (2 : Int32))] [(.double (FP.ddiv (FP.dadd (own_t l0 t0) (own_t l1 t1)) (4611686018427387904 : UInt64)))])) (fun t k => XS.ddivS X21.here hx rfl (v := (FP.ddiv (FP.dadd (own_t l0 t0) (own_t l1 t1)) (4611686018427387904 : UInt64))) (hb hby d7_53) rfl (by rw [hd]; exact (own_half (own_sum u0 u1).1 (own_sum u0 u1).2.1 (own_sum u0 u1).2.2).1) hd k) ?_
      exact own_retD X21 hx hlk hret (hb hby d7_54) e21 ⟨rfl, N0, rfl⟩ (by decide) (by decide)
  · skip
    refine own_pre (T' := T2) (g' := (mkF m 40 #[.val (.ref o), .val (.double (0 : UInt64)), .second, .val (.int (0 : Int32))] [])) (fun t k => XS.ifYes X2.here hx rfl (pc0 := 19) (pc' := 40) rfl (hb hby d7_19) rfl ((if0 _ _).trans (flt hp0).2.2.2) (by decide) (by decide) k) ?_
    have e0 : own_t l0 t0 = 0 := by unfold own_t; rw [if_neg hp0]
    refine own_pre (T' := T2) (g' := (mkF m 43 #[.val (.ref o), .val (.double (0 : UInt64)), .second, .val (.int (1 : Int32))] [])) (fun t k => XS.iinc X2.here hx rfl (hb hby d7_40) (x := (0 : Int32)) rfl (l' := #[.val (.ref o), .val (.double (0 : UInt64)), .second, .val (.int (1 : Int32))]) rfl k) ?_
    refine own_pre (T' := T2) (g' := (mkF m 4 #[.val (.ref o), .val (.double (0 : UInt64)), .second, .val (.int (1 : Int32))] [])) (fun t k => XS.goto X2.here hx rfl (pc0 := 43) (pc' := 4) rfl (hb hby d7_43) (by decide) (by decide) k) ?_
    refine own_pre (T' := T2) (g' := (mkF m 5 #[.val (.ref o), .val (.double (0 : UInt64)), .second, .val (.int (1 : Int32))] [(.int (1 : Int32))])) (fun t k => XS.iloadN X2.here hx rfl (v := (1 : Int32)) (hb hby d7_4) rfl k) ?_
    refine own_pre (T' := T2) (g' := (mkF m 6 #[.val (.ref o), .val (.double (0 : UInt64)), .second, .val (.int (1 : Int32))] [(.ref o), (.int (1 : Int32))])) (fun t k => XS.aloadN X2.here hx rfl (v := (.ref o)) (hb hby d7_5) rfl rfl k) ?_
    refine own_getf X2 hx hZ hown (hw _ (List.mem_of_getElem? (i := 34) rfl)) e2 F1 (hb hby d7_6) ?_
    intro T23 X23 e23
    show own_Go _ _ _ _ _ _ _ T23 (mkF m 9 #[.val (.ref o), .val (.double (0 : UInt64)), .second, .val (.int (1 : Int32))] [(.ref bl), (.int (1 : Int32))])
    refine own_len X23 hx hZ e23 A1 (hb hby d7_9) (n := (2 : Int32)) rfl ?_
    show own_Go _ _ _ _ _ _ _ T23 (mkF m 10 #[.val (.ref o), .val (.double (0 : UInt64)), .second, .val (.int (1 : Int32))] [(.int (2 : Int32)), (.int (1 : Int32))])
    refine own_pre (T' := T23) (g' := (mkF m 13 #[.val (.ref o), .val (.double (0 : UInt64)), .second, .val (.int (1 : Int32))] [])) (fun t k => XS.icmpNo X23.here hx rfl (hb hby d7_10) rfl (by decide) k) ?_
    refine own_pre (T' := T23) (g' := (mkF m 14 #[.val (.ref o), .val (.double (0 : UInt64)), .second, .val (.int (1 : Int32))] [(.ref o)])) (fun t k => XS.aloadN X23.here hx rfl (v := (.ref o)) (hb hby d7_13) rfl rfl k) ?_
    refine own_getf X23 hx hZ hown (hw _ (List.mem_of_getElem? (i := 36) rfl)) e23 F2 (hb hby d7_14) ?_
    intro T24 X24 e24
    show own_Go _ _ _ _ _ _ _ T24 (mkF m 17 #[.val (.ref o), .val (.double (0 : UInt64)), .second, .val (.int (1 : Int32))] [(.ref bh)])
    refine own_pre (T' := T24) (g' := (mkF m 18 #[.val (.ref o), .val (.double (0 : UInt64)), .second, .val (.int (1 : Int32))] [(.int (1 : Int32)), (.ref bh)])) (fun t k => XS.iloadN X24.here hx rfl (v := (1 : Int32)) (hb hby d7_17) rfl k) ?_
    refine own_iaload X24 hx hZ e24 A2 (hb hby d7_18) (n := 1) (v := (.int t1)) (by decide) (by decide) rfl ?_
    show own_Go _ _ _ _ _ _ _ T24 (mkF m 19 #[.val (.ref o), .val (.double (0 : UInt64)), .second, .val (.int (1 : Int32))] [(.int t1)])
    by_cases hp1 : (0 : Int32) < t1
    · skip
      refine own_pre (T' := T24) (g' := (mkF m 22 #[.val (.ref o), .val (.double (0 : UInt64)), .second, .val (.int (1 : Int32))] [])) (fun t k => XS.ifNo X24.here hx rfl (hb hby d7_19) rfl ((if0 _ _).trans (tlt hp1).2.2.2) k) ?_
      refine own_pre (T' := T24) (g' := (mkF m 23 #[.val (.ref o), .val (.double (0 : UInt64)), .second, .val (.int (1 : Int32))] [(.double (0 : UInt64))])) (fun t k => XS.dloadN X24.here hx rfl (v := (0 : UInt64)) (hb hby d7_22) rfl k) ?_
      refine own_pre (T' := T24) (g' := (mkF m 24 #[.val (.ref o), .val (.double (0 : UInt64)), .second, .val (.int (1 : Int32))] [(.ref o), (.double (0 : UInt64))])) (fun t k => XS.aloadN X24.here hx rfl (v := (.ref o)) (hb hby d7_23) rfl rfl k) ?_
      refine own_getf X24 hx hZ hown (hw _ (List.mem_of_getElem? (i := 34) rfl)) e24 F1 (hb hby d7_24) ?_
      intro T25 X25 e25
      show own_Go _ _ _ _ _ _ _ T25 (mkF m 27 #[.val (.ref o), .val (.double (0 : UInt64)), .second, .val (.int (1 : Int32))] [(.ref bl), (.double (0 : UInt64))])
      refine own_pre (T' := T25) (g' := (mkF m 28 #[.val (.ref o), .val (.double (0 : UInt64)), .second, .val (.int (1 : Int32))] [(.int (1 : Int32)), (.ref bl), (.double (0 : UInt64))])) (fun t k => XS.iloadN X25.here hx rfl (v := (1 : Int32)) (hb hby d7_27) rfl k) ?_
      refine own_iaload X25 hx hZ e25 A1 (hb hby d7_28) (n := 1) (v := (.int l1)) (by decide) (by decide) rfl ?_
      show own_Go _ _ _ _ _ _ _ T25 (mkF m 29 #[.val (.ref o), .val (.double (0 : UInt64)), .second, .val (.int (1 : Int32))] [(.int l1), (.double (0 : UInt64))])
      obtain ⟨f26, hf26⟩ : ∃ z, FP.i2d l1 = z := ⟨_, rfl⟩
      refine own_pre (T' := T25) (g' := (mkF m 30 #[.val (.ref o), .val (.double (0 : UInt64)), .second, .val (.int (1 : Int32))] [(.double f26), (.double (0 : UInt64))])) (fun t k => XS.i2dS X25.here hx rfl (hb hby d7_29) rfl hf26 k) ?_
      have Df26 : Jvm.FP.Core.DInt l1.toInt f26 := hf26 ▸ Jvm.FP.Core.i2d_int _
      refine own_pre (T' := T25) (g' := (mkF m 31 #[.val (.ref o), .val (.double (0 : UInt64)), .second, .val (.int (1 : Int32))] [(.ref o), (.double f26), (.double (0 : UInt64))])) (fun t k => XS.aloadN X25.here hx rfl (v := (.ref o)) (hb hby d7_30) rfl rfl k) ?_
      refine own_getf X25 hx hZ hown (hw _ (List.mem_of_getElem? (i := 36) rfl)) e25 F2 (hb hby d7_31) ?_
      intro T27 X27 e27
      show own_Go _ _ _ _ _ _ _ T27 (mkF m 34 #[.val (.ref o), .val (.double (0 : UInt64)), .second, .val (.int (1 : Int32))] [(.ref bh), (.double f26), (.double (0 : UInt64))])
      refine own_pre (T' := T27) (g' := (mkF m 35 #[.val (.ref o), .val (.double (0 : UInt64)), .second, .val (.int (1 : Int32))] [(.int (1 : Int32)), (.ref bh), (.double f26), (.double (0 : UInt64))])) (fun t k => XS.iloadN X27.here hx rfl (v := (1 : Int32)) (hb hby d7_34) rfl k) ?_
      refine own_iaload X27 hx hZ e27 A2 (hb hby d7_35) (n := 1) (v := (.int t1)) (by decide) (by decide) rfl ?_
      show own_Go _ _ _ _ _ _ _ T27 (mkF m 36 #[.val (.ref o), .val (.double (0 : UInt64)), .second, .val (.int (1 : Int32))] [(.int t1), (.double f26), (.double (0 : UInt64))])
      obtain ⟨f28, hf28⟩ : ∃ z, FP.i2d t1 = z := ⟨_, rfl⟩
      refine own_pre (T' := T27) (g' := (mkF m 37 #[.val (.ref o), .val (.double (0 : UInt64)), .second, .val (.int (1 : Int32))] [(.double f28), (.double f26), (.double (0 : UInt64))])) (fun t k => XS.i2dS X27.here hx rfl (hb hby d7_36) rfl hf28 k) ?_
      have Df28 : Jvm.FP.Core.DInt t1.toInt f28 := hf28 ▸ Jvm.FP.Core.i2d_int _
      have ht1 : FP.ddiv f26 f28 = own_t l1 t1 := by unfold own_t; rw [if_pos hp1, hf26, hf28]
      refine own_pre (T' := T27) (g' := (mkF m 38 #[.val (.ref o), .val (.double (0 : UInt64)), .second, .val (.int (1 : Int32))] [(.double (own_t l1 t1)), (.double (0 : UInt64))])) (fun t k => XS.ddivS X27.here hx rfl (v := (own_t l1 t1)) (hb hby d7_37) rfl (by rw [ht1]; exact u1.nn) ht1 k) ?_
      have hs1 : FP.dadd (0 : UInt64) (own_t l1 t1) = own_t l1 t1 := own_add0 u1
      refine own_pre (T' := T27) (g' := (mkF m 39 #[.val (.ref o), .val (.double (0 : UInt64)), .second, .val (.int (1 : Int32))] [(.double (own_t l1 t1))])) (fun t k => XS.daddS X27.here hx rfl (v := (own_t l1 t1)) (hb hby d7_38) rfl (by rw [hs1]; exact u1.nn) hs1 k) ?_
      generalize hv30 : own_t l1 t1 = v30
      refine own_pre (T' := T27) (g' := (mkF m 40 #[.val (.ref o), .val (.double v30), .second, .val (.int (1 : Int32))] [])) (fun t k => XS.dstoreN X27.here hx rfl (hb hby d7_39) rfl (l' := #[.val (.ref o), .val (.double v30), .second, .val (.int (1 : Int32))]) rfl k) ?_
      refine own_pre (T' := T27) (g' := (mkF m 43 #[.val (.ref o), .val (.double v30), .second, .val (.int (2 : Int32))] [])) (fun t k => XS.iinc X27.here hx rfl (hb hby d7_40) (x := (1 : Int32)) rfl (l' := #[.val (.ref o), .val (.double v30), .second, .val (.int (2 : Int32))]) rfl k) ?_
      refine own_pre (T' := T27) (g' := (mkF m 4 #[.val (.ref o), .val (.double v30), .second, .val (.int (2 : Int32))] [])) (fun t k => XS.goto X27.here hx rfl (pc0 := 43) (pc' := 4) rfl (hb hby d7_43) (by decide) (by decide) k) ?_
      refine own_pre (T' := T27) (g' := (mkF m 5 #[.val (.ref o), .val (.double v30), .second, .val (.int (2 : Int32))] [(.int (2 : Int32))])) (fun t k => XS.iloadN X27.here hx rfl (v := (2 : Int32)) (hb hby d7_4) rfl k) ?_
      refine own_pre (T' := T27) (g' := (mkF m 6 #[.val (.ref o), .val (.double v30), .second, .val (.int (2 : Int32))] [(.ref o), (.int (2 : Int32))])) (fun t k => XS.aloadN X27.here hx rfl (v := (.ref o)) (hb hby d7_5) rfl rfl k) ?_
      refine own_getf X27 hx hZ hown (hw _ (List.mem_of_getElem? (i := 34) rfl)) e27 F1 (hb hby d7_6) ?_
      intro T31 X31 e31
      show own_Go _ _ _ _ _ _ _ T31 (mkF m 9 #[.val (.ref o), .val (.double v30), .second, .val (.int (2 : Int32))] [(.ref bl), (.int (2 : Int32))])
      refine own_len X31 hx hZ e31 A1 (hb hby d7_9) (n := (2 : Int32)) rfl ?_
      show own_Go _ _ _ _ _ _ _ T31 (mkF m 10 #[.val (.ref o), .val (.double v30), .second, .val (.int (2 : Int32))] [(.int (2 : Int32)), (.int (2 : Int32))])
      refine own_pre (T' := T31) (g' := (mkF m 46 #[.val (.ref o), .val (.double v30), .second, .val (.int (2 : Int32))] [])) (fun t k => XS.icmpYes X31.here hx rfl (pc0 := 10) (pc' := 46) rfl (hb hby d7_10) rfl (by decide) (by decide) (by decide) k) ?_
      refine own_pre (T' := T31) (g' := (mkF m 47 #[.val (.ref o), .val (.double v30), .second, .val (.int (2 : Int32))] [(.double v30)])) (fun t k => XS.dloadN X31.here hx rfl (v := v30) (hb hby d7_46) rfl k) ?_
      refine own_pre (T' := T31) (g' := (mkF m 48 #[.val (.ref o), .val (.double v30), .second, .val (.int (2 : Int32))] [(.ref o), (.double v30)])) (fun t k => XS.aloadN X31.here hx rfl (v := (.ref o)) (hb hby d7_47) rfl rfl k) ?_
      refine own_getf X31 hx hZ hown (hw _ (List.mem_of_getElem? (i := 34) rfl)) e31 F1 (hb hby d7_48) ?_
      intro T32 X32 e32
      show own_Go _ _ _ _ _ _ _ T32 (mkF m 51 #[.val (.ref o), .val (.double v30), .second, .val (.int (2 : Int32))] [(.ref bl), (.double v30)])
      refine own_len X32 hx hZ e32 A1 (hb hby d7_51) (n := (2 : Int32)) rfl ?_
      show own_Go _ _ _ _ _ _ _ T32 (mkF m 52 #[.val (.ref o), .val (.double v30), .second, .val (.int (2 : Int32))] [(.int (2 : Int32)), (.double v30)])
      obtain ⟨f33, hf33⟩ : ∃ z, FP.i2d (2 : Int32) = z := ⟨_, rfl⟩
      refine own_pre (T' := T32) (g' := (mkF m 53 #[.val (.ref o), .val (.double v30), .second, .val (.int (2 : Int32))] [(.double f33), (.double v30)])) (fun t k => XS.i2dS X32.here hx rfl (hb hby d7_52) rfl hf33 k) ?_
      have Df33 : Jvm.FP.Core.DInt (2 : Int32).toInt f33 := hf33 ▸ Jvm.FP.Core.i2d_int _
      have hsx : v30 = own_t l1 t1 := hv30.symm
      have hd : FP.ddiv v30 f33 = FP.ddiv (FP.dadd (own_t l0 t0) (own_t l1 t1)) (4611686018427387904 : UInt64) := by rw [hsx, ← hf33, e0, own_add0 u1]; rw [own_i2]
      refine own_pre (T' := T32) (g' := (mkF m 54 #[.val (.ref o), .val (.double v30), .second, .val (.int (2 : Int32))] [(.double (FP.ddiv (FP.dadd (own_t l0 t0) (own_t l1 t1)) (4611686018427387904 : UInt64)))])) (fun t k => XS.ddivS X32.here hx rfl (v := (FP.ddiv (FP.dadd (own_t l0 t0) (own_t l1 t1)) (4611686018427387904 : UInt64))) (hb hby d7_53) rfl (by rw [hd]; exact (own_half (own_sum u0 u1).1 (own_sum u0 u1).2.1 (own_sum u0 u1).2.2).1) hd k) ?_
      exact own_retD X32 hx hlk hret (hb hby d7_54) e32 ⟨rfl, N0, rfl⟩ (by decide) (by decide)
    · skip
      refine own_pre (T' := T24) (g' := (mkF m 40 #[.val (.ref o), .val (.double (0 : UInt64)), .second, .val (.int (1 : Int32))] [])) (fun t k => XS.ifYes X24.here hx rfl (pc0 := 19) (pc' := 40) rfl (hb hby d7_19) rfl ((if0 _ _).trans (flt hp1).2.2.2) (by decide) (by decide) k) ?_
      have e1 : own_t l1 t1 = 0 := by unfold own_t; rw [if_neg hp1]
      refine own_pre (T' := T24) (g' := (mkF m 43 #[.val (.ref o), .val (.double (0 : UInt64)), .second, .val (.int (2 : Int32))] [])) (fun t k => XS.iinc X24.here hx rfl (hb hby d7_40) (x := (1 : Int32)) rfl (l' := #[.val (.ref o), .val (.double (0 : UInt64)), .second, .val (.int (2 : Int32))]) rfl k) ?_
      refine own_pre (T' := T24) (g' := (mkF m 4 #[.val (.ref o), .val (.double (0 : UInt64)), .second, .val (.int (2 : Int32))] [])) (fun t k => XS.goto X24.here hx rfl (pc0 := 43) (pc' := 4) rfl (hb hby d7_43) (by decide) (by decide) k) ?_
      refine own_pre (T' := T24) (g' := (mkF m 5 #[.val (.ref o), .val (.double (0 : UInt64)), .second, .val (.int (2 : Int32))] [(.int (2 : Int32))])) (fun t k => XS.iloadN X24.here hx rfl (v := (2 : Int32)) (hb hby d7_4) rfl k) ?_
      refine own_pre (T' := T24) (g' := (mkF m 6 #[.val (.ref o), .val (.double (0 : UInt64)), .second, .val (.int (2 : Int32))] [(.ref o), (.int (2 : Int32))])) (fun t k => XS.aloadN X24.here hx rfl (v := (.ref o)) (hb hby d7_5) rfl rfl k) ?_
      refine own_getf X24 hx hZ hown (hw _ (List.mem_of_getElem? (i := 34) rfl)) e24 F1 (hb hby d7_6) ?_
      intro T34 X34 e34
      show own_Go _ _ _ _ _ _ _ T34 (mkF m 9 #[.val (.ref o), .val (.double (0 : UInt64)), .second, .val (.int (2 : Int32))] [(.ref bl), (.int (2 : Int32))])
      refine own_len X34 hx hZ e34 A1 (hb hby d7_9) (n := (2 : Int32)) rfl ?_
      show own_Go _ _ _ _ _ _ _ T34 (mkF m 10 #[.val (.ref o), .val (.double (0 : UInt64)), .second, .val (.int (2 : Int32))] [(.int (2 : Int32)), (.int (2 : Int32))])
      refine own_pre (T' := T34) (g' := (mkF m 46 #[.val (.ref o), .val (.double (0 : UInt64)), .second, .val (.int (2 : Int32))] [])) (fun t k => XS.icmpYes X34.here hx rfl (pc0 := 10) (pc' := 46) rfl (hb hby d7_10) rfl (by decide) (by decide) (by decide) k) ?_
      refine own_pre (T' := T34) (g' := (mkF m 47 #[.val (.ref o), .val (.double (0 : UInt64)), .second, .val (.int (2 : Int32))] [(.double (0 : UInt64))])) (fun t k => XS.dloadN X34.here hx rfl (v := (0 : UInt64)) (hb hby d7_46) rfl k) ?_
      refine own_pre (T' := T34) (g' := (mkF m 48 #[.val (.ref o), .val (.double (0 : UInt64)), .second, .val (.int (2 : Int32))] [(.ref o), (.double (0 : UInt64))])) (fun t k => XS.aloadN X34.here hx rfl (v := (.ref o)) (hb hby d7_47) rfl rfl k) ?_
      refine own_getf X34 hx hZ hown (hw _ (List.mem_of_getElem? (i := 34) rfl)) e34 F1 (hb hby d7_48) ?_
      intro T35 X35 e35
      show own_Go _ _ _ _ _ _ _ T35 (mkF m 51 #[.val (.ref o), .val (.double (0 : UInt64)), .second, .val (.int (2 : Int32))] [(.ref bl), (.double (0 : UInt64))])
      refine own_len X35 hx hZ e35 A1 (hb hby d7_51) (n := (2 : Int32)) rfl ?_
      show own_Go _ _ _ _ _ _ _ T35 (mkF m 52 #[.val (.ref o), .val (.double (0 : UInt64)), .second, .val (.int (2 : Int32))] [(.int (2 : Int32)), (.double (0 : UInt64))])
      obtain ⟨f36, hf36⟩ : ∃ z, FP.i2d (2 : Int32) = z := ⟨_, rfl⟩
      refine own_pre (T' := T35) (g' := (mkF m 53 #[.val (.ref o), .val (.double (0 : UInt64)), .second, .val (.int (2 : Int32))] [(.double f36), (.double (0 : UInt64))])) (fun t k => XS.i2dS X35.here hx rfl (hb hby d7_52) rfl hf36 k) ?_
      have Df36 : Jvm.FP.Core.DInt (2 : Int32).toInt f36 := hf36 ▸ Jvm.FP.Core.i2d_int _
      have hsx : (0 : UInt64) = 0 := rfl
      have hd : FP.ddiv (0 : UInt64) f36 = FP.ddiv (FP.dadd (own_t l0 t0) (own_t l1 t1)) (4611686018427387904 : UInt64) := by rw [hsx, ← hf36, e0, e1, own_add0 own_U0]; rw [own_i2]
      refine own_pre (T' := T35) (g' := (mkF m 54 #[.val (.ref o), .val (.double (0 : UInt64)), .second, .val (.int (2 : Int32))] [(.double (FP.ddiv (FP.dadd (own_t l0 t0) (own_t l1 t1)) (4611686018427387904 : UInt64)))])) (fun t k => XS.ddivS X35.here hx rfl (v := (FP.ddiv (FP.dadd (own_t l0 t0) (own_t l1 t1)) (4611686018427387904 : UInt64))) (hb hby d7_53) rfl (by rw [hd]; exact (own_half (own_sum u0 u1).1 (own_sum u0 u1).2.1 (own_sum u0 u1).2.2).1) hd k) ?_
      exact own_retD X35 hx hlk hret (hb hby d7_54) e35 ⟨rfl, N0, rfl⟩ (by decide) (by decide)
theorem own_pd1 : parseMethodDescriptor "(II)I" = some ⟨[.int, .int], some .int⟩ := by decide +kernel
theorem own_pd2 : parseMethodDescriptor "(III)I" = some ⟨[.int, .int, .int], some .int⟩ := by decide +kernel
theorem own_pd3 : parseMethodDescriptor "(II)D" = some ⟨[.int, .int], some .double⟩ := by decide +kernel
theorem own_pd4 : parseMethodDescriptor "([I[I)V" = some ⟨[(.array .int), (.array .int)], none⟩ := by decide +kernel
theorem own_pd5 : parseMethodDescriptor "()D" = some ⟨[], some .double⟩ := by decide +kernel
def own_law_Q (Z : State) (p0 p1 p2 p3 p4 : Int32) (h0 : Heap) (n0 : Nat) (v_ : Option Value) (h_ : Heap) (L_ : List Loc) : Prop := (fun v h L => v = some (.int 1) ∧ Fr n0 L) v_ h_ L_
set_option maxRecDepth 65536 in
set_option maxHeartbeats 40000000 in
theorem own_law (l : Launch) (Z : State) (a0 : Array Value) (hw : ∀ d ∈ tables_1, d.before a0 Z = true) (wds : List Jvm.Cond) (p0 p1 p2 p3 p4 : Int32) (h0 : Heap) (n0 : Nat) (Z0 : n0 ≤ h0.size)  :
    MetFree l x (head1 (Jvm.Cond.code x code maxLocals ret :: wds) room_1) (fun ar_ U_ => ar_ = #[(.int p0), (.int p1), (.int p2), (.int p3), (.int p4)] ∧ Z.Warmed39 U_.vm ∧ U_.heap = h0) (fun _ _ _ _ _ => True) (fun _ U_ o_ V_ => ∃ v_ L_, o_ = .returned v_ ∧ own_law_Q Z p0 p1 p2 p3 p4 h0 n0 v_ V_.heap L_ ∧ FrameEnd U_ o_ V_ L_ room_1.cells room_1.slots) := by
  refine own_met (y := x) (Q := own_law_Q Z p0 p1 p2 p3 p4 h0 n0) own_pn0 ?_
  intro p e s m below meth c s₁ hx hby hml hZ hown hnm hret hlk X0 e0
  have N0 := Fr.nil n0
  refine own_cast (g' := (mkF m 0 #[.val (.int p0), .val (.int p1), .val (.int p2), .val (.int p3), .val (.int p4), .unset, .unset, .unset, .unset, .unset, .unset, .unset, .unset, .unset, .unset, .unset, .unset, .unset, .unset, .unset, .unset, .unset, .unset, .unset, .unset, .unset] [])) (by first | (simp [entryFrame, mkF, argsToLocals, Value.category, maxLocals]; done) | rfl) ?_
  generalize hL1 : (#[.val (.int p0), .val (.int p1), .val (.int p2), .val (.int p3), .val (.int p4), .unset, .unset, .unset, .unset, .unset, .unset, .unset, .unset, .unset, .unset, .unset, .unset, .unset, .unset, .unset, .unset, .unset, .unset, .unset, .unset, .unset] : Array Slot) = L1
  refine own_pre (T' := s₁) (g' := (mkF m 2 L1 [(.int p4)])) (fun t k => XS.iload X0.here hx rfl (v := p4) (hb hby at_0) (by rw [← hL1]; rfl) k) ?_
  refine own_pre (T' := s₁) (g' := (mkF m 4 #[.val (.int p0), .val (.int p1), .val (.int p2), .val (.int p3), .val (.int p4), .val (.int p4), .unset, .unset, .unset, .unset, .unset, .unset, .unset, .unset, .unset, .unset, .unset, .unset, .unset, .unset, .unset, .unset, .unset, .unset, .unset, .unset] [])) (fun t k => XS.istore X0.here hx rfl (hb hby at_2) rfl (l' := #[.val (.int p0), .val (.int p1), .val (.int p2), .val (.int p3), .val (.int p4), .val (.int p4), .unset, .unset, .unset, .unset, .unset, .unset, .unset, .unset, .unset, .unset, .unset, .unset, .unset, .unset, .unset, .unset, .unset, .unset, .unset, .unset]) (by rw [← hL1]; rfl) k) ?_
  generalize hL2 : (#[.val (.int p0), .val (.int p1), .val (.int p2), .val (.int p3), .val (.int p4), .val (.int p4), .unset, .unset, .unset, .unset, .unset, .unset, .unset, .unset, .unset, .unset, .unset, .unset, .unset, .unset, .unset, .unset, .unset, .unset, .unset, .unset] : Array Slot) = L2
  refine own_pre (T' := s₁) (g' := (mkF m 6 L2 [(.int p4)])) (fun t k => XS.iload X0.here hx rfl (v := p4) (hb hby at_4) (by rw [← hL2]; rfl) k) ?_
  refine own_pre (T' := s₁) (g' := (mkF m 7 L2 [(.int (2 : Int32)), (.int p4)])) (fun t k => XS.iconst X0.here hx rfl (hb hby at_6) k) ?_
  refine own_pre (T' := s₁) (g' := (mkF m 8 L2 [(.int (XT.ushr p4 (2 : Int32)))])) (fun t k => XT.iushr X0.here hx rfl (hb hby at_7) rfl k) ?_
  generalize hv3 : XT.ushr p4 (2 : Int32) = v3
  refine own_pre (T' := s₁) (g' := (mkF m 10 #[.val (.int p0), .val (.int p1), .val (.int p2), .val (.int p3), .val (.int p4), .val (.int p4), .val (.int v3), .unset, .unset, .unset, .unset, .unset, .unset, .unset, .unset, .unset, .unset, .unset, .unset, .unset, .unset, .unset, .unset, .unset, .unset, .unset] [])) (fun t k => XS.istore X0.here hx rfl (hb hby at_8) rfl (l' := #[.val (.int p0), .val (.int p1), .val (.int p2), .val (.int p3), .val (.int p4), .val (.int p4), .val (.int v3), .unset, .unset, .unset, .unset, .unset, .unset, .unset, .unset, .unset, .unset, .unset, .unset, .unset, .unset, .unset, .unset, .unset, .unset, .unset]) (by rw [← hL2]; rfl) k) ?_
  generalize hL4 : (#[.val (.int p0), .val (.int p1), .val (.int p2), .val (.int p3), .val (.int p4), .val (.int p4), .val (.int v3), .unset, .unset, .unset, .unset, .unset, .unset, .unset, .unset, .unset, .unset, .unset, .unset, .unset, .unset, .unset, .unset, .unset, .unset, .unset] : Array Slot) = L4
  refine own_pre (T' := s₁) (g' := (mkF m 11 L4 [(.int p0)])) (fun t k => XS.iloadN X0.here hx rfl (v := p0) (hb hby at_10) (by rw [← hL4]; rfl) k) ?_
  refine own_pre (T' := s₁) (g' := (mkF m 13 L4 [(.int p4), (.int p0)])) (fun t k => XS.iload X0.here hx rfl (v := p4) (hb hby at_11) (by rw [← hL4]; rfl) k) ?_
  refine own_calls (argsL := [(.int p0), (.int p4)]) (rest := []) X0 hx hZ hown (own_heightT l Z a0 hw [] p0 p4 h0 n0 Z0) (hw _ (List.mem_of_getElem? (i := 0) rfl)) (hw _ (List.mem_of_getElem? (i := 1) rfl)) (hw _ (List.mem_of_getElem? (i := 3) rfl)) (hw _ (List.mem_of_getElem? (i := 2) rfl)) (by decide) e0 (hb hby at_13) (by rw [hml, ← hL4]; rfl) rfl (lenOf own_pd1 rfl) (by decide) (W := 0) (Nat.le_of_eq rfl) (by decide) (by decide) (by decide) ?_
  intro v5 T5 lo5 X5 Q5
  obtain ⟨h5, e5⟩ : ∃ h, T5.heap = h := ⟨_, rfl⟩
  rw [e5] at Q5
  obtain ⟨rfl, N5, q5⟩ := Q5
  have N5' := Fr.app N0 N5
  have e5' : T5.heap = h0 := e5.trans q5
  show own_Go _ _ _ _ _ _ _ T5 (mkF m 16 L4 [(.int (own_height p0 p4))])
  generalize hv6 : own_height p0 p4 = v6
  refine own_pre (T' := T5) (g' := (mkF m 18 #[.val (.int p0), .val (.int p1), .val (.int p2), .val (.int p3), .val (.int p4), .val (.int p4), .val (.int v3), .val (.int v6), .unset, .unset, .unset, .unset, .unset, .unset, .unset, .unset, .unset, .unset, .unset, .unset, .unset, .unset, .unset, .unset, .unset, .unset] [])) (fun t k => XS.istore X5.here hx rfl (hb hby at_16) rfl (l' := #[.val (.int p0), .val (.int p1), .val (.int p2), .val (.int p3), .val (.int p4), .val (.int p4), .val (.int v3), .val (.int v6), .unset, .unset, .unset, .unset, .unset, .unset, .unset, .unset, .unset, .unset, .unset, .unset, .unset, .unset, .unset, .unset, .unset, .unset]) (by rw [← hL4]; rfl) k) ?_
  generalize hL7 : (#[.val (.int p0), .val (.int p1), .val (.int p2), .val (.int p3), .val (.int p4), .val (.int p4), .val (.int v3), .val (.int v6), .unset, .unset, .unset, .unset, .unset, .unset, .unset, .unset, .unset, .unset, .unset, .unset, .unset, .unset, .unset, .unset, .unset, .unset] : Array Slot) = L7
  refine own_pre (T' := T5) (g' := (mkF m 19 L7 [(.int p1)])) (fun t k => XS.iloadN X5.here hx rfl (v := p1) (hb hby at_18) (by rw [← hL7]; rfl) k) ?_
  refine own_pre (T' := T5) (g' := (mkF m 21 L7 [(.int v6), (.int p1)])) (fun t k => XS.iload X5.here hx rfl (v := v6) (hb hby at_19) (by rw [← hL7]; rfl) k) ?_
  refine own_pre (T' := T5) (g' := (mkF m 23 L7 [(.int p4), (.int v6), (.int p1)])) (fun t k => XS.iload X5.here hx rfl (v := p4) (hb hby at_21) (by rw [← hL7]; rfl) k) ?_
  have hb1 : 0 ≤ v6.toInt := hv6 ▸ own_hb _ _
  refine own_calls (argsL := [(.int p1), (.int v6), (.int p4)]) (rest := []) X5 hx hZ hown (own_levelT l Z a0 hw [] p1 v6 p4 h0 n0 Z0 hb1) (hw _ (List.mem_of_getElem? (i := 4) rfl)) (hw _ (List.mem_of_getElem? (i := 5) rfl)) (hw _ (List.mem_of_getElem? (i := 6) rfl)) (hw _ (List.mem_of_getElem? (i := 2) rfl)) (by decide) e5' (hb hby at_23) (by rw [hml, ← hL7]; rfl) rfl (lenOf own_pd2 rfl) (by decide) (W := 0) (Nat.le_of_eq rfl) (by decide) (by decide) (by decide) ?_
  intro v8 T8 lo8 X8 Q8
  obtain ⟨h8, e8⟩ : ∃ h, T8.heap = h := ⟨_, rfl⟩
  rw [e8] at Q8
  obtain ⟨rfl, N8, q8⟩ := Q8
  have N8' := Fr.app N5' N8
  have e8' : T8.heap = h0 := e8.trans q8
  show own_Go _ _ _ _ _ _ _ T8 (mkF m 26 L7 [(.int (own_level p1 v6 p4))])
  generalize hv9 : own_level p1 v6 p4 = v9
  refine own_pre (T' := T8) (g' := (mkF m 28 #[.val (.int p0), .val (.int p1), .val (.int p2), .val (.int p3), .val (.int p4), .val (.int p4), .val (.int v3), .val (.int v6), .val (.int v9), .unset, .unset, .unset, .unset, .unset, .unset, .unset, .unset, .unset, .unset, .unset, .unset, .unset, .unset, .unset, .unset, .unset] [])) (fun t k => XS.istore X8.here hx rfl (hb hby at_26) rfl (l' := #[.val (.int p0), .val (.int p1), .val (.int p2), .val (.int p3), .val (.int p4), .val (.int p4), .val (.int v3), .val (.int v6), .val (.int v9), .unset, .unset, .unset, .unset, .unset, .unset, .unset, .unset, .unset, .unset, .unset, .unset, .unset, .unset, .unset, .unset, .unset]) (by rw [← hL7]; rfl) k) ?_
  generalize hL10 : (#[.val (.int p0), .val (.int p1), .val (.int p2), .val (.int p3), .val (.int p4), .val (.int p4), .val (.int v3), .val (.int v6), .val (.int v9), .unset, .unset, .unset, .unset, .unset, .unset, .unset, .unset, .unset, .unset, .unset, .unset, .unset, .unset, .unset, .unset, .unset] : Array Slot) = L10
  refine own_pre (T' := T8) (g' := (mkF m 29 L10 [(.int p2)])) (fun t k => XS.iloadN X8.here hx rfl (v := p2) (hb hby at_28) (by rw [← hL10]; rfl) k) ?_
  refine own_pre (T' := T8) (g' := (mkF m 31 L10 [(.int v3), (.int p2)])) (fun t k => XS.iload X8.here hx rfl (v := v3) (hb hby at_29) (by rw [← hL10]; rfl) k) ?_
  have lb1 : 0 ≤ v9.toInt ∧ v9.toInt ≤ v6.toInt := hv9 ▸ own_lb _ _ hb1
  refine own_calls (argsL := [(.int p2), (.int v3)]) (rest := []) X8 hx hZ hown (own_heightT l Z a0 hw [] p2 v3 h0 n0 Z0) (hw _ (List.mem_of_getElem? (i := 0) rfl)) (hw _ (List.mem_of_getElem? (i := 1) rfl)) (hw _ (List.mem_of_getElem? (i := 3) rfl)) (hw _ (List.mem_of_getElem? (i := 2) rfl)) (by decide) e8' (hb hby at_31) (by rw [hml, ← hL10]; rfl) rfl (lenOf own_pd1 rfl) (by decide) (W := 0) (Nat.le_of_eq rfl) (by decide) (by decide) (by decide) ?_
  intro v11 T11 lo11 X11 Q11
  obtain ⟨h11, e11⟩ : ∃ h, T11.heap = h := ⟨_, rfl⟩
  rw [e11] at Q11
  obtain ⟨rfl, N11, q11⟩ := Q11
  have N11' := Fr.app N8' N11
  have e11' : T11.heap = h0 := e11.trans q11
  show own_Go _ _ _ _ _ _ _ T11 (mkF m 34 L10 [(.int (own_height p2 v3))])
  generalize hv12 : own_height p2 v3 = v12
  refine own_pre (T' := T11) (g' := (mkF m 36 #[.val (.int p0), .val (.int p1), .val (.int p2), .val (.int p3), .val (.int p4), .val (.int p4), .val (.int v3), .val (.int v6), .val (.int v9), .val (.int v12), .unset, .unset, .unset, .unset, .unset, .unset, .unset, .unset, .unset, .unset, .unset, .unset, .unset, .unset, .unset, .unset] [])) (fun t k => XS.istore X11.here hx rfl (hb hby at_34) rfl (l' := #[.val (.int p0), .val (.int p1), .val (.int p2), .val (.int p3), .val (.int p4), .val (.int p4), .val (.int v3), .val (.int v6), .val (.int v9), .val (.int v12), .unset, .unset, .unset, .unset, .unset, .unset, .unset, .unset, .unset, .unset, .unset, .unset, .unset, .unset, .unset, .unset]) (by rw [← hL10]; rfl) k) ?_
  generalize hL13 : (#[.val (.int p0), .val (.int p1), .val (.int p2), .val (.int p3), .val (.int p4), .val (.int p4), .val (.int v3), .val (.int v6), .val (.int v9), .val (.int v12), .unset, .unset, .unset, .unset, .unset, .unset, .unset, .unset, .unset, .unset, .unset, .unset, .unset, .unset, .unset, .unset] : Array Slot) = L13
  refine own_pre (T' := T11) (g' := (mkF m 37 L13 [(.int p3)])) (fun t k => XS.iloadN X11.here hx rfl (v := p3) (hb hby at_36) (by rw [← hL13]; rfl) k) ?_
  refine own_pre (T' := T11) (g' := (mkF m 39 L13 [(.int v12), (.int p3)])) (fun t k => XS.iload X11.here hx rfl (v := v12) (hb hby at_37) (by rw [← hL13]; rfl) k) ?_
  refine own_pre (T' := T11) (g' := (mkF m 41 L13 [(.int v3), (.int v12), (.int p3)])) (fun t k => XS.iload X11.here hx rfl (v := v3) (hb hby at_39) (by rw [← hL13]; rfl) k) ?_
  have hb2 : 0 ≤ v12.toInt := hv12 ▸ own_hb _ _
  refine own_calls (argsL := [(.int p3), (.int v12), (.int v3)]) (rest := []) X11 hx hZ hown (own_levelT l Z a0 hw [] p3 v12 v3 h0 n0 Z0 hb2) (hw _ (List.mem_of_getElem? (i := 4) rfl)) (hw _ (List.mem_of_getElem? (i := 5) rfl)) (hw _ (List.mem_of_getElem? (i := 6) rfl)) (hw _ (List.mem_of_getElem? (i := 2) rfl)) (by decide) e11' (hb hby at_41) (by rw [hml, ← hL13]; rfl) rfl (lenOf own_pd2 rfl) (by decide) (W := 0) (Nat.le_of_eq rfl) (by decide) (by decide) (by decide) ?_
  intro v14 T14 lo14 X14 Q14
  obtain ⟨h14, e14⟩ : ∃ h, T14.heap = h := ⟨_, rfl⟩
  rw [e14] at Q14
  obtain ⟨rfl, N14, q14⟩ := Q14
  have N14' := Fr.app N11' N14
  have e14' : T14.heap = h0 := e14.trans q14
  show own_Go _ _ _ _ _ _ _ T14 (mkF m 44 L13 [(.int (own_level p3 v12 v3))])
  generalize hv15 : own_level p3 v12 v3 = v15
  refine own_pre (T' := T14) (g' := (mkF m 46 #[.val (.int p0), .val (.int p1), .val (.int p2), .val (.int p3), .val (.int p4), .val (.int p4), .val (.int v3), .val (.int v6), .val (.int v9), .val (.int v12), .val (.int v15), .unset, .unset, .unset, .unset, .unset, .unset, .unset, .unset, .unset, .unset, .unset, .unset, .unset, .unset, .unset] [])) (fun t k => XS.istore X14.here hx rfl (hb hby at_44) rfl (l' := #[.val (.int p0), .val (.int p1), .val (.int p2), .val (.int p3), .val (.int p4), .val (.int p4), .val (.int v3), .val (.int v6), .val (.int v9), .val (.int v12), .val (.int v15), .unset, .unset, .unset, .unset, .unset, .unset, .unset, .unset, .unset, .unset, .unset, .unset, .unset, .unset, .unset]) (by rw [← hL13]; rfl) k) ?_
  generalize hL16 : (#[.val (.int p0), .val (.int p1), .val (.int p2), .val (.int p3), .val (.int p4), .val (.int p4), .val (.int v3), .val (.int v6), .val (.int v9), .val (.int v12), .val (.int v15), .unset, .unset, .unset, .unset, .unset, .unset, .unset, .unset, .unset, .unset, .unset, .unset, .unset, .unset, .unset] : Array Slot) = L16
  refine own_pre (T' := T14) (g' := (mkF m 48 L16 [(.int v9)])) (fun t k => XS.iload X14.here hx rfl (v := v9) (hb hby at_46) (by rw [← hL16]; rfl) k) ?_
  refine own_pre (T' := T14) (g' := (mkF m 50 L16 [(.int v6), (.int v9)])) (fun t k => XS.iload X14.here hx rfl (v := v6) (hb hby at_48) (by rw [← hL16]; rfl) k) ?_
  have lb2 : 0 ≤ v15.toInt ∧ v15.toInt ≤ v12.toInt := hv15 ▸ own_lb _ _ hb2
  refine own_calls (argsL := [(.int v9), (.int v6)]) (rest := []) X14 hx hZ hown (own_termT l Z a0 hw [] v9 v6 h0 n0 Z0 lb1.1 lb1.2) (hw _ (List.mem_of_getElem? (i := 8) rfl)) (hw _ (List.mem_of_getElem? (i := 9) rfl)) (hw _ (List.mem_of_getElem? (i := 10) rfl)) (hw _ (List.mem_of_getElem? (i := 2) rfl)) (by decide) e14' (hb hby at_50) (by rw [hml, ← hL16]; rfl) rfl (lenOf own_pd3 rfl) (by decide) (W := 0) (Nat.le_of_eq rfl) (by decide) (by decide) (by decide) ?_
  intro v17 T17 lo17 X17 Q17
  obtain ⟨h17, e17⟩ : ∃ h, T17.heap = h := ⟨_, rfl⟩
  rw [e17] at Q17
  obtain ⟨rfl, N17, q17⟩ := Q17
  have N17' := Fr.app N14' N17
  have e17' : T17.heap = h0 := e17.trans q17
  show own_Go _ _ _ _ _ _ _ T17 (mkF m 53 L16 [(.double (own_t v9 v6))])
  generalize hv18 : own_t v9 v6 = v18
  refine own_pre (T' := T17) (g' := (mkF m 55 #[.val (.int p0), .val (.int p1), .val (.int p2), .val (.int p3), .val (.int p4), .val (.int p4), .val (.int v3), .val (.int v6), .val (.int v9), .val (.int v12), .val (.int v15), .val (.double v18), .second, .unset, .unset, .unset, .unset, .unset, .unset, .unset, .unset, .unset, .unset, .unset, .unset, .unset] [])) (fun t k => XS.dstore X17.here hx rfl (hb hby at_53) rfl (l' := #[.val (.int p0), .val (.int p1), .val (.int p2), .val (.int p3), .val (.int p4), .val (.int p4), .val (.int v3), .val (.int v6), .val (.int v9), .val (.int v12), .val (.int v15), .val (.double v18), .second, .unset, .unset, .unset, .unset, .unset, .unset, .unset, .unset, .unset, .unset, .unset, .unset, .unset]) (by rw [← hL16]; rfl) k) ?_
  generalize hL19 : (#[.val (.int p0), .val (.int p1), .val (.int p2), .val (.int p3), .val (.int p4), .val (.int p4), .val (.int v3), .val (.int v6), .val (.int v9), .val (.int v12), .val (.int v15), .val (.double v18), .second, .unset, .unset, .unset, .unset, .unset, .unset, .unset, .unset, .unset, .unset, .unset, .unset, .unset] : Array Slot) = L19
  refine own_pre (T' := T17) (g' := (mkF m 57 L19 [(.int v15)])) (fun t k => XS.iload X17.here hx rfl (v := v15) (hb hby at_55) (by rw [← hL19]; rfl) k) ?_
  refine own_pre (T' := T17) (g' := (mkF m 59 L19 [(.int v12), (.int v15)])) (fun t k => XS.iload X17.here hx rfl (v := v12) (hb hby at_57) (by rw [← hL19]; rfl) k) ?_
  refine own_calls (argsL := [(.int v15), (.int v12)]) (rest := []) X17 hx hZ hown (own_termT l Z a0 hw [] v15 v12 h0 n0 Z0 lb2.1 lb2.2) (hw _ (List.mem_of_getElem? (i := 8) rfl)) (hw _ (List.mem_of_getElem? (i := 9) rfl)) (hw _ (List.mem_of_getElem? (i := 10) rfl)) (hw _ (List.mem_of_getElem? (i := 2) rfl)) (by decide) e17' (hb hby at_59) (by rw [hml, ← hL19]; rfl) rfl (lenOf own_pd3 rfl) (by decide) (W := 0) (Nat.le_of_eq rfl) (by decide) (by decide) (by decide) ?_
  intro v20 T20 lo20 X20 Q20
  obtain ⟨h20, e20⟩ : ∃ h, T20.heap = h := ⟨_, rfl⟩
  rw [e20] at Q20
  obtain ⟨rfl, N20, q20⟩ := Q20
  have N20' := Fr.app N17' N20
  have e20' : T20.heap = h0 := e20.trans q20
  show own_Go _ _ _ _ _ _ _ T20 (mkF m 62 L19 [(.double (own_t v15 v12))])
  generalize hv21 : own_t v15 v12 = v21
  refine own_pre (T' := T20) (g' := (mkF m 64 #[.val (.int p0), .val (.int p1), .val (.int p2), .val (.int p3), .val (.int p4), .val (.int p4), .val (.int v3), .val (.int v6), .val (.int v9), .val (.int v12), .val (.int v15), .val (.double v18), .second, .val (.double v21), .second, .unset, .unset, .unset, .unset, .unset, .unset, .unset, .unset, .unset, .unset, .unset] [])) (fun t k => XS.dstore X20.here hx rfl (hb hby at_62) rfl (l' := #[.val (.int p0), .val (.int p1), .val (.int p2), .val (.int p3), .val (.int p4), .val (.int p4), .val (.int v3), .val (.int v6), .val (.int v9), .val (.int v12), .val (.int v15), .val (.double v18), .second, .val (.double v21), .second, .unset, .unset, .unset, .unset, .unset, .unset, .unset, .unset, .unset, .unset, .unset]) (by rw [← hL19]; rfl) k) ?_
  generalize hL22 : (#[.val (.int p0), .val (.int p1), .val (.int p2), .val (.int p3), .val (.int p4), .val (.int p4), .val (.int v3), .val (.int v6), .val (.int v9), .val (.int v12), .val (.int v15), .val (.double v18), .second, .val (.double v21), .second, .unset, .unset, .unset, .unset, .unset, .unset, .unset, .unset, .unset, .unset, .unset] : Array Slot) = L22
  refine own_pre (T' := T20) (g' := (mkF m 66 L22 [(.int v6)])) (fun t k => XS.iload X20.here hx rfl (v := v6) (hb hby at_64) (by rw [← hL22]; rfl) k) ?_
  have U1 : own_U v18 := hv18 ▸ own_tU lb1.1 lb1.2
  have U2 : own_U v21 := hv21 ▸ own_tU lb2.1 lb2.2
  have hS := own_sum U1 U2
  have hH := own_half hS.1 hS.2.1 hS.2.2
  have fin : own_Go p e below s (own_law_Q Z p0 p1 p2 p3 p4 h0 n0) room_1.cells room_1.slots T20 (mkF m 99 L22 []) := by
    refine own_newobj X20 hx hZ hown (hw _ (List.mem_of_getElem? (i := 11) rfl)) (hw _ (List.mem_of_getElem? (i := 12) rfl)) (hw _ (List.mem_of_getElem? (i := 13) rfl)) e20' (hb hby at_99) (by decide) (by decide) ?_
    intro T23 h23 a23 g23 X23 e23 E23 A23 D23
    have nw24 : n0 ≤ a23 := Nat.le_trans Z0 (Nat.le_of_eq g23.symm)
    have F25 : Fld Z h23 a23 "com/example/gyges/gyges/model/Levels" "levels" "[I" .null := D23 (Or.inr (hw _ (List.mem_of_getElem? (i := 35) rfl))) (ty := (.array .int)) (by decide)
    have F26 : Fld Z h23 a23 "com/example/gyges/gyges/model/Levels" "heights" "[I" .null := D23 (Or.inr (hw _ (List.mem_of_getElem? (i := 37) rfl))) (ty := (.array .int)) (by decide)
    have F27 : Fld Z h23 a23 "com/example/gyges/gyges/model/Levels" "nodesChecked" "J" (.long (0 : Int64)) := D23 (Or.inr (hw _ (List.mem_of_getElem? (i := 39) rfl))) (ty := .long) (by decide)
    show own_Go _ _ _ _ _ _ _ T23 (mkF m 102 L22 [(.ref a23)])
    refine own_pre (T' := T23) (g' := (mkF m 103 L22 [(.ref a23), (.ref a23)])) (fun t k => XS.dup X23.here hx rfl (hb hby at_102) rfl rfl k) ?_
    refine own_pre (T' := T23) (g' := (mkF m 104 L22 [(.int (1 : Int32)), (.ref a23), (.ref a23)])) (fun t k => XS.iconst X23.here hx rfl (hb hby at_103) k) ?_
    have F28 : n0 ≤ h23.size := (Nat.le_trans Z0 E23.1)
    refine own_newarr X23 hx hZ (aty := .int) (hw _ (List.mem_of_getElem? (i := 14) rfl)) e23 (hb hby at_104) (n := 1) (by decide) (by decide) (by decide) (by decide) (by decide) (ad := "[I") rfl ?_
    intro T29 h29 a29 g29 X29 e29 E29 A29 B29
    have lt30 : a23 < a29 := Nat.lt_of_lt_of_le A23.lt (Nat.le_of_eq g29.symm)
    have nw31 : n0 ≤ a29 := Nat.le_trans F28 (Nat.le_of_eq g29.symm)
    have F32 : own_Ary Z h29 a29 .int [(.int (0 : Int32))] := A29
    show own_Go _ _ _ _ _ _ _ T29 (mkF m 106 L22 [(.ref a29), (.ref a23), (.ref a23)])
    refine own_pre (T' := T29) (g' := (mkF m 107 L22 [(.ref a29), (.ref a29), (.ref a23), (.ref a23)])) (fun t k => XS.dup X29.here hx rfl (hb hby at_106) rfl rfl k) ?_
    refine own_pre (T' := T29) (g' := (mkF m 108 L22 [(.int (0 : Int32)), (.ref a29), (.ref a29), (.ref a23), (.ref a23)])) (fun t k => XS.iconst X29.here hx rfl (hb hby at_107) k) ?_
    refine own_pre (T' := T29) (g' := (mkF m 110 L22 [(.int v9), (.int (0 : Int32)), (.ref a29), (.ref a29), (.ref a23), (.ref a23)])) (fun t k => XS.iload X29.here hx rfl (v := v9) (hb hby at_108) (by rw [← hL22]; rfl) k) ?_
    refine own_iastore X29 hx hZ e29 N20' nw31 F32 (hb hby at_110) (n := 0) (by decide) (by decide) (by show 0 < 1; decide) ?_
    intro T33 h33 lo33 X33 e33 N33 W33
    have F34 : own_Ary Z h33 a29 .int [(.int v9)] := F32.set W33
    show own_Go _ _ _ _ _ _ _ T33 (mkF m 111 L22 [(.ref a29), (.ref a23), (.ref a23)])
    refine own_pre (T' := T33) (g' := (mkF m 112 L22 [(.int (1 : Int32)), (.ref a29), (.ref a23), (.ref a23)])) (fun t k => XS.iconst X33.here hx rfl (hb hby at_111) k) ?_
    have F35 : Exa Z h33 a23 "com/example/gyges/gyges/model/Levels" := ((A23.ext E29).wr W33)
    have F36 : n0 ≤ h33.size := (Nat.le_trans (Nat.le_trans F28 E29.1) (Nat.le_of_eq W33.size.symm))
    refine own_newarr X33 hx hZ (aty := .int) (hw _ (List.mem_of_getElem? (i := 14) rfl)) e33 (hb hby at_112) (n := 1) (by decide) (by decide) (by decide) (by decide) (by decide) (ad := "[I") rfl ?_
    intro T37 h37 a37 g37 X37 e37 E37 A37 B37
    have lt38 : a23 < a37 := Nat.lt_of_lt_of_le F35.lt (Nat.le_of_eq g37.symm)
    have lt39 : a29 < a37 := Nat.lt_of_lt_of_le F34.lt (Nat.le_of_eq g37.symm)
    have nw40 : n0 ≤ a37 := Nat.le_trans F36 (Nat.le_of_eq g37.symm)
    have F41 : own_Ary Z h37 a37 .int [(.int (0 : Int32))] := A37
    show own_Go _ _ _ _ _ _ _ T37 (mkF m 114 L22 [(.ref a37), (.ref a29), (.ref a23), (.ref a23)])
    refine own_pre (T' := T37) (g' := (mkF m 115 L22 [(.ref a37), (.ref a37), (.ref a29), (.ref a23), (.ref a23)])) (fun t k => XS.dup X37.here hx rfl (hb hby at_114) rfl rfl k) ?_
    refine own_pre (T' := T37) (g' := (mkF m 116 L22 [(.int (0 : Int32)), (.ref a37), (.ref a37), (.ref a29), (.ref a23), (.ref a23)])) (fun t k => XS.iconst X37.here hx rfl (hb hby at_115) k) ?_
    refine own_pre (T' := T37) (g' := (mkF m 118 L22 [(.int v6), (.int (0 : Int32)), (.ref a37), (.ref a37), (.ref a29), (.ref a23), (.ref a23)])) (fun t k => XS.iload X37.here hx rfl (v := v6) (hb hby at_116) (by rw [← hL22]; rfl) k) ?_
    refine own_iastore X37 hx hZ e37 N33 nw40 F41 (hb hby at_118) (n := 0) (by decide) (by decide) (by show 0 < 1; decide) ?_
    intro T42 h42 lo42 X42 e42 N42 W42
    have F43 : own_Ary Z h42 a37 .int [(.int v6)] := F41.set W42
    show own_Go _ _ _ _ _ _ _ T42 (mkF m 119 L22 [(.ref a37), (.ref a29), (.ref a23), (.ref a23)])
    have F44 : n0 ≤ h42.size := (Nat.le_trans (Nat.le_trans F36 E37.1) (Nat.le_of_eq W42.size.symm))
    have F45 : Exa Z h42 a23 "com/example/gyges/gyges/model/Levels" := ((F35.ext E37).wr W42)
    have F46 : Fld Z h42 a23 "com/example/gyges/gyges/model/Levels" "levels" "[I" .null := ((((F25.ext E29).other W33 (Or.inl (Nat.ne_of_lt lt30))).ext E37).other W42 (Or.inl (Nat.ne_of_lt lt38)))
    have F47 : Fld Z h42 a23 "com/example/gyges/gyges/model/Levels" "heights" "[I" .null := ((((F26.ext E29).other W33 (Or.inl (Nat.ne_of_lt lt30))).ext E37).other W42 (Or.inl (Nat.ne_of_lt lt38)))
    have F48 : Fld Z h42 a23 "com/example/gyges/gyges/model/Levels" "nodesChecked" "J" (.long (0 : Int64)) := ((((F27.ext E29).other W33 (Or.inl (Nat.ne_of_lt lt30))).ext E37).other W42 (Or.inl (Nat.ne_of_lt lt38)))
    have F49 : own_Ary Z h42 a29 .int [(.int v9)] := ((F34.ext E37).other W42 (Nat.ne_of_lt lt39))
    have F50 : Exa Z h42 a29 "[I" := (((B29.wr W33).ext E37).wr W42)
    have F51 : Exa Z h42 a37 "[I" := (B37.wr W42)
    refine own_init (a := a23) (argsL := [(.ref a29), (.ref a37)]) (rest := [(.ref a23)]) X42 hx hZ hown (own_ini2_1 l Z a0 hw [] a23 a29 a37 v9 v6 h42 n0 F44 F45 F46 F47 F48 F49 F43 F50 F51 nw24 (Nat.ne_of_gt lt30) (Nat.ne_of_gt lt38) lb1.1 lb1.2) rfl (hw _ (List.mem_of_getElem? (i := 15) rfl)) (hw _ (List.mem_of_getElem? (i := 16) rfl)) (hw _ (List.mem_of_getElem? (i := 17) rfl)) (hw _ (List.mem_of_getElem? (i := 13) rfl)) (by decide) e42 (hb hby at_119) (by rw [hml, ← hL22]; rfl) rfl (lenOf own_pd4 rfl) (by decide) (W := 1) (Nat.le_of_eq rfl) (by decide) (by decide) (by decide) ?_
    intro v52 T52 lo52 X52 Q52
    obtain ⟨h52, e52⟩ : ∃ h, T52.heap = h := ⟨_, rfl⟩
    rw [e52] at Q52
    obtain ⟨rfl, N52, K52, bl52, bh52, hz52, G152, G252, G352, G452⟩ := Q52
    have N52' := Fr.app N42 N52
    show own_Go _ _ _ _ _ _ _ T52 (mkF m 122 L22 [(.ref a23)])
    have lt53 : a23 < bl52 := Nat.lt_of_lt_of_le F45.lt hz52.1
    have lt54 : a29 < bl52 := Nat.lt_of_lt_of_le F49.lt hz52.1
    have lt55 : a37 < bl52 := Nat.lt_of_lt_of_le F43.lt hz52.1
    have lt56 : a23 < bh52 := Nat.lt_trans lt53 hz52.2
    have lt57 : a29 < bh52 := Nat.lt_trans lt54 hz52.2
    have lt58 : a37 < bh52 := Nat.lt_trans lt55 hz52.2
    refine own_pre (T' := T52) (g' := (mkF m 124 #[.val (.int p0), .val (.int p1), .val (.int p2), .val (.int p3), .val (.int p4), .val (.int p4), .val (.int v3), .val (.int v6), .val (.int v9), .val (.int v12), .val (.int v15), .val (.double v18), .second, .val (.double v21), .second, .val (.ref a23), .unset, .unset, .unset, .unset, .unset, .unset, .unset, .unset, .unset, .unset] [])) (fun t k => XS.astore X52.here hx rfl (hb hby at_122) rfl rfl (l' := #[.val (.int p0), .val (.int p1), .val (.int p2), .val (.int p3), .val (.int p4), .val (.int p4), .val (.int v3), .val (.int v6), .val (.int v9), .val (.int v12), .val (.int v15), .val (.double v18), .second, .val (.double v21), .second, .val (.ref a23), .unset, .unset, .unset, .unset, .unset, .unset, .unset, .unset, .unset, .unset]) (by rw [← hL22]; rfl) k) ?_
    generalize hL59 : (#[.val (.int p0), .val (.int p1), .val (.int p2), .val (.int p3), .val (.int p4), .val (.int p4), .val (.int v3), .val (.int v6), .val (.int v9), .val (.int v12), .val (.int v15), .val (.double v18), .second, .val (.double v21), .second, .val (.ref a23), .unset, .unset, .unset, .unset, .unset, .unset, .unset, .unset, .unset, .unset] : Array Slot) = L59
    have F60 : Exa Z h52 a23 "com/example/gyges/gyges/model/Levels" := (F45.keep K52)
    have F61 : n0 ≤ h52.size := (Nat.le_trans F44 K52.1)
    refine own_newobj X52 hx hZ hown (hw _ (List.mem_of_getElem? (i := 11) rfl)) (hw _ (List.mem_of_getElem? (i := 12) rfl)) (hw _ (List.mem_of_getElem? (i := 13) rfl)) e52 (hb hby at_124) (by decide) (by decide) ?_
    intro T62 h62 a62 g62 X62 e62 E62 A62 D62
    have lt63 : a23 < a62 := Nat.lt_of_lt_of_le F60.lt (Nat.le_of_eq g62.symm)
    have lt64 : bl52 < a62 := Nat.lt_of_lt_of_le G352.lt (Nat.le_of_eq g62.symm)
    have lt65 : bh52 < a62 := Nat.lt_of_lt_of_le G452.lt (Nat.le_of_eq g62.symm)
    have nw66 : n0 ≤ a62 := Nat.le_trans F61 (Nat.le_of_eq g62.symm)
    have F67 : Fld Z h62 a62 "com/example/gyges/gyges/model/Levels" "levels" "[I" .null := D62 (Or.inr (hw _ (List.mem_of_getElem? (i := 35) rfl))) (ty := (.array .int)) (by decide)
    have F68 : Fld Z h62 a62 "com/example/gyges/gyges/model/Levels" "heights" "[I" .null := D62 (Or.inr (hw _ (List.mem_of_getElem? (i := 37) rfl))) (ty := (.array .int)) (by decide)
    have F69 : Fld Z h62 a62 "com/example/gyges/gyges/model/Levels" "nodesChecked" "J" (.long (0 : Int64)) := D62 (Or.inr (hw _ (List.mem_of_getElem? (i := 39) rfl))) (ty := .long) (by decide)
    show own_Go _ _ _ _ _ _ _ T62 (mkF m 127 L59 [(.ref a62)])
    refine own_pre (T' := T62) (g' := (mkF m 128 L59 [(.ref a62), (.ref a62)])) (fun t k => XS.dup X62.here hx rfl (hb hby at_127) rfl rfl k) ?_
    refine own_pre (T' := T62) (g' := (mkF m 129 L59 [(.int (2 : Int32)), (.ref a62), (.ref a62)])) (fun t k => XS.iconst X62.here hx rfl (hb hby at_128) k) ?_
    have F70 : Exa Z h62 a23 "com/example/gyges/gyges/model/Levels" := (F60.ext E62)
    have F71 : own_Ary Z h62 bl52 .int [(.int v9)] := (G352.ext E62)
    have F72 : own_Ary Z h62 bh52 .int [(.int v6)] := (G452.ext E62)
    have F73 : n0 ≤ h62.size := (Nat.le_trans F61 E62.1)
    refine own_newarr X62 hx hZ (aty := .int) (hw _ (List.mem_of_getElem? (i := 14) rfl)) e62 (hb hby at_129) (n := 2) (by decide) (by decide) (by decide) (by decide) (by decide) (ad := "[I") rfl ?_
    intro T74 h74 a74 g74 X74 e74 E74 A74 B74
    have lt75 : a23 < a74 := Nat.lt_of_lt_of_le F70.lt (Nat.le_of_eq g74.symm)
    have lt76 : bl52 < a74 := Nat.lt_of_lt_of_le F71.lt (Nat.le_of_eq g74.symm)
    have lt77 : bh52 < a74 := Nat.lt_of_lt_of_le F72.lt (Nat.le_of_eq g74.symm)
    have lt78 : a62 < a74 := Nat.lt_of_lt_of_le A62.lt (Nat.le_of_eq g74.symm)
    have nw79 : n0 ≤ a74 := Nat.le_trans F73 (Nat.le_of_eq g74.symm)
    have F80 : own_Ary Z h74 a74 .int [(.int (0 : Int32)), (.int (0 : Int32))] := A74
    show own_Go _ _ _ _ _ _ _ T74 (mkF m 131 L59 [(.ref a74), (.ref a62), (.ref a62)])
    refine own_pre (T' := T74) (g' := (mkF m 132 L59 [(.ref a74), (.ref a74), (.ref a62), (.ref a62)])) (fun t k => XS.dup X74.here hx rfl (hb hby at_131) rfl rfl k) ?_
    refine own_pre (T' := T74) (g' := (mkF m 133 L59 [(.int (0 : Int32)), (.ref a74), (.ref a74), (.ref a62), (.ref a62)])) (fun t k => XS.iconst X74.here hx rfl (hb hby at_132) k) ?_
    refine own_pre (T' := T74) (g' := (mkF m 135 L59 [(.int v9), (.int (0 : Int32)), (.ref a74), (.ref a74), (.ref a62), (.ref a62)])) (fun t k => XS.iload X74.here hx rfl (v := v9) (hb hby at_133) (by rw [← hL59]; rfl) k) ?_
    refine own_iastore X74 hx hZ e74 N52' nw79 F80 (hb hby at_135) (n := 0) (by decide) (by decide) (by show 0 < 2; decide) ?_
    intro T81 h81 lo81 X81 e81 N81 W81
    have F82 : own_Ary Z h81 a74 .int [(.int v9), (.int (0 : Int32))] := F80.set W81
    show own_Go _ _ _ _ _ _ _ T81 (mkF m 136 L59 [(.ref a74), (.ref a62), (.ref a62)])
    refine own_pre (T' := T81) (g' := (mkF m 137 L59 [(.ref a74), (.ref a74), (.ref a62), (.ref a62)])) (fun t k => XS.dup X81.here hx rfl (hb hby at_136) rfl rfl k) ?_
    refine own_pre (T' := T81) (g' := (mkF m 138 L59 [(.int (1 : Int32)), (.ref a74), (.ref a74), (.ref a62), (.ref a62)])) (fun t k => XS.iconst X81.here hx rfl (hb hby at_137) k) ?_
    refine own_pre (T' := T81) (g' := (mkF m 140 L59 [(.int v15), (.int (1 : Int32)), (.ref a74), (.ref a74), (.ref a62), (.ref a62)])) (fun t k => XS.iload X81.here hx rfl (v := v15) (hb hby at_138) (by rw [← hL59]; rfl) k) ?_
    refine own_iastore X81 hx hZ e81 N81 nw79 F82 (hb hby at_140) (n := 1) (by decide) (by decide) (by show 1 < 2; decide) ?_
    intro T83 h83 lo83 X83 e83 N83 W83
    have F84 : own_Ary Z h83 a74 .int [(.int v9), (.int v15)] := F82.set W83
    show own_Go _ _ _ _ _ _ _ T83 (mkF m 141 L59 [(.ref a74), (.ref a62), (.ref a62)])
    refine own_pre (T' := T83) (g' := (mkF m 142 L59 [(.int (2 : Int32)), (.ref a74), (.ref a62), (.ref a62)])) (fun t k => XS.iconst X83.here hx rfl (hb hby at_141) k) ?_
    have F85 : Exa Z h83 a23 "com/example/gyges/gyges/model/Levels" := (((F70.ext E74).wr W81).wr W83)
    have F86 : own_Ary Z h83 bl52 .int [(.int v9)] := (((F71.ext E74).other W81 (Nat.ne_of_lt lt76)).other W83 (Nat.ne_of_lt lt76))
    have F87 : own_Ary Z h83 bh52 .int [(.int v6)] := (((F72.ext E74).other W81 (Nat.ne_of_lt lt77)).other W83 (Nat.ne_of_lt lt77))
    have F88 : Exa Z h83 a62 "com/example/gyges/gyges/model/Levels" := (((A62.ext E74).wr W81).wr W83)
    have F89 : n0 ≤ h83.size := (Nat.le_trans (Nat.le_trans (Nat.le_trans F73 E74.1) (Nat.le_of_eq W81.size.symm)) (Nat.le_of_eq W83.size.symm))
    refine own_newarr X83 hx hZ (aty := .int) (hw _ (List.mem_of_getElem? (i := 14) rfl)) e83 (hb hby at_142) (n := 2) (by decide) (by decide) (by decide) (by decide) (by decide) (ad := "[I") rfl ?_
    intro T90 h90 a90 g90 X90 e90 E90 A90 B90
    have lt91 : a23 < a90 := Nat.lt_of_lt_of_le F85.lt (Nat.le_of_eq g90.symm)
    have lt92 : bl52 < a90 := Nat.lt_of_lt_of_le F86.lt (Nat.le_of_eq g90.symm)
    have lt93 : bh52 < a90 := Nat.lt_of_lt_of_le F87.lt (Nat.le_of_eq g90.symm)
    have lt94 : a62 < a90 := Nat.lt_of_lt_of_le F88.lt (Nat.le_of_eq g90.symm)
    have lt95 : a74 < a90 := Nat.lt_of_lt_of_le F84.lt (Nat.le_of_eq g90.symm)
    have nw96 : n0 ≤ a90 := Nat.le_trans F89 (Nat.le_of_eq g90.symm)
    have F97 : own_Ary Z h90 a90 .int [(.int (0 : Int32)), (.int (0 : Int32))] := A90
    show own_Go _ _ _ _ _ _ _ T90 (mkF m 144 L59 [(.ref a90), (.ref a74), (.ref a62), (.ref a62)])
    refine own_pre (T' := T90) (g' := (mkF m 145 L59 [(.ref a90), (.ref a90), (.ref a74), (.ref a62), (.ref a62)])) (fun t k => XS.dup X90.here hx rfl (hb hby at_144) rfl rfl k) ?_
    refine own_pre (T' := T90) (g' := (mkF m 146 L59 [(.int (0 : Int32)), (.ref a90), (.ref a90), (.ref a74), (.ref a62), (.ref a62)])) (fun t k => XS.iconst X90.here hx rfl (hb hby at_145) k) ?_
    refine own_pre (T' := T90) (g' := (mkF m 148 L59 [(.int v6), (.int (0 : Int32)), (.ref a90), (.ref a90), (.ref a74), (.ref a62), (.ref a62)])) (fun t k => XS.iload X90.here hx rfl (v := v6) (hb hby at_146) (by rw [← hL59]; rfl) k) ?_
    refine own_iastore X90 hx hZ e90 N83 nw96 F97 (hb hby at_148) (n := 0) (by decide) (by decide) (by show 0 < 2; decide) ?_
    intro T98 h98 lo98 X98 e98 N98 W98
    have F99 : own_Ary Z h98 a90 .int [(.int v6), (.int (0 : Int32))] := F97.set W98
    show own_Go _ _ _ _ _ _ _ T98 (mkF m 149 L59 [(.ref a90), (.ref a74), (.ref a62), (.ref a62)])
    refine own_pre (T' := T98) (g' := (mkF m 150 L59 [(.ref a90), (.ref a90), (.ref a74), (.ref a62), (.ref a62)])) (fun t k => XS.dup X98.here hx rfl (hb hby at_149) rfl rfl k) ?_
    refine own_pre (T' := T98) (g' := (mkF m 151 L59 [(.int (1 : Int32)), (.ref a90), (.ref a90), (.ref a74), (.ref a62), (.ref a62)])) (fun t k => XS.iconst X98.here hx rfl (hb hby at_150) k) ?_
    refine own_pre (T' := T98) (g' := (mkF m 153 L59 [(.int v12), (.int (1 : Int32)), (.ref a90), (.ref a90), (.ref a74), (.ref a62), (.ref a62)])) (fun t k => XS.iload X98.here hx rfl (v := v12) (hb hby at_151) (by rw [← hL59]; rfl) k) ?_
    refine own_iastore X98 hx hZ e98 N98 nw96 F99 (hb hby at_153) (n := 1) (by decide) (by decide) (by show 1 < 2; decide) ?_
    intro T100 h100 lo100 X100 e100 N100 W100
    have F101 : own_Ary Z h100 a90 .int [(.int v6), (.int v12)] := F99.set W100
    show own_Go _ _ _ _ _ _ _ T100 (mkF m 154 L59 [(.ref a90), (.ref a74), (.ref a62), (.ref a62)])
    have F102 : n0 ≤ h100.size := (Nat.le_trans (Nat.le_trans (Nat.le_trans F89 E90.1) (Nat.le_of_eq W98.size.symm)) (Nat.le_of_eq W100.size.symm))
    have F103 : Exa Z h100 a62 "com/example/gyges/gyges/model/Levels" := (((F88.ext E90).wr W98).wr W100)
    have F104 : Fld Z h100 a62 "com/example/gyges/gyges/model/Levels" "levels" "[I" .null := ((((((F67.ext E74).other W81 (Or.inl (Nat.ne_of_lt lt78))).other W83 (Or.inl (Nat.ne_of_lt lt78))).ext E90).other W98 (Or.inl (Nat.ne_of_lt lt94))).other W100 (Or.inl (Nat.ne_of_lt lt94)))
    have F105 : Fld Z h100 a62 "com/example/gyges/gyges/model/Levels" "heights" "[I" .null := ((((((F68.ext E74).other W81 (Or.inl (Nat.ne_of_lt lt78))).other W83 (Or.inl (Nat.ne_of_lt lt78))).ext E90).other W98 (Or.inl (Nat.ne_of_lt lt94))).other W100 (Or.inl (Nat.ne_of_lt lt94)))
    have F106 : Fld Z h100 a62 "com/example/gyges/gyges/model/Levels" "nodesChecked" "J" (.long (0 : Int64)) := ((((((F69.ext E74).other W81 (Or.inl (Nat.ne_of_lt lt78))).other W83 (Or.inl (Nat.ne_of_lt lt78))).ext E90).other W98 (Or.inl (Nat.ne_of_lt lt94))).other W100 (Or.inl (Nat.ne_of_lt lt94)))
    have F107 : own_Ary Z h100 a74 .int [(.int v9), (.int v15)] := (((F84.ext E90).other W98 (Nat.ne_of_lt lt95)).other W100 (Nat.ne_of_lt lt95))
    have F108 : Exa Z h100 a74 "[I" := (((((B74.wr W81).wr W83).ext E90).wr W98).wr W100)
    have F109 : Exa Z h100 a90 "[I" := ((B90.wr W98).wr W100)
    refine own_init (a := a62) (argsL := [(.ref a74), (.ref a90)]) (rest := [(.ref a62)]) X100 hx hZ hown (own_ini2_2 l Z a0 hw [] a62 a74 a90 v9 v6 v15 v12 h100 n0 F102 F103 F104 F105 F106 F107 F101 F108 F109 nw66 (Nat.ne_of_gt lt78) (Nat.ne_of_gt lt94) lb1.1 lb1.2 lb2.1 lb2.2) rfl (hw _ (List.mem_of_getElem? (i := 15) rfl)) (hw _ (List.mem_of_getElem? (i := 16) rfl)) (hw _ (List.mem_of_getElem? (i := 17) rfl)) (hw _ (List.mem_of_getElem? (i := 13) rfl)) (by decide) e100 (hb hby at_154) (by rw [hml, ← hL59]; rfl) rfl (lenOf own_pd4 rfl) (by decide) (W := 1) (Nat.le_of_eq rfl) (by decide) (by decide) (by decide) ?_
    intro v110 T110 lo110 X110 Q110
    obtain ⟨h110, e110⟩ : ∃ h, T110.heap = h := ⟨_, rfl⟩
    rw [e110] at Q110
    have F111 : Exa Z h100 a23 "com/example/gyges/gyges/model/Levels" := (((F85.ext E90).wr W98).wr W100)
    have F112 : own_Ary Z h100 bl52 .int [(.int v9)] := (((F86.ext E90).other W98 (Nat.ne_of_lt lt92)).other W100 (Nat.ne_of_lt lt92))
    have F113 : own_Ary Z h100 bh52 .int [(.int v6)] := (((F87.ext E90).other W98 (Nat.ne_of_lt lt93)).other W100 (Nat.ne_of_lt lt93))
    obtain ⟨rfl, N110, K110, bl110, bh110, hz110, G1110, G2110, G3110, G4110⟩ := Q110
    have N110' := Fr.app N100 N110
    show own_Go _ _ _ _ _ _ _ T110 (mkF m 157 L59 [(.ref a62)])
    have lt114 : a23 < bl110 := Nat.lt_of_lt_of_le F111.lt hz110.1
    have lt115 : bl52 < bl110 := Nat.lt_of_lt_of_le F112.lt hz110.1
    have lt116 : bh52 < bl110 := Nat.lt_of_lt_of_le F113.lt hz110.1
    have lt117 : a62 < bl110 := Nat.lt_of_lt_of_le F103.lt hz110.1
    have lt118 : a74 < bl110 := Nat.lt_of_lt_of_le F107.lt hz110.1
    have lt119 : a90 < bl110 := Nat.lt_of_lt_of_le F101.lt hz110.1
    have lt120 : a23 < bh110 := Nat.lt_trans lt114 hz110.2
    have lt121 : bl52 < bh110 := Nat.lt_trans lt115 hz110.2
    have lt122 : bh52 < bh110 := Nat.lt_trans lt116 hz110.2
    have lt123 : a62 < bh110 := Nat.lt_trans lt117 hz110.2
    have lt124 : a74 < bh110 := Nat.lt_trans lt118 hz110.2
    have lt125 : a90 < bh110 := Nat.lt_trans lt119 hz110.2
    refine own_pre (T' := T110) (g' := (mkF m 159 #[.val (.int p0), .val (.int p1), .val (.int p2), .val (.int p3), .val (.int p4), .val (.int p4), .val (.int v3), .val (.int v6), .val (.int v9), .val (.int v12), .val (.int v15), .val (.double v18), .second, .val (.double v21), .second, .val (.ref a23), .val (.ref a62), .unset, .unset, .unset, .unset, .unset, .unset, .unset, .unset, .unset] [])) (fun t k => XS.astore X110.here hx rfl (hb hby at_157) rfl rfl (l' := #[.val (.int p0), .val (.int p1), .val (.int p2), .val (.int p3), .val (.int p4), .val (.int p4), .val (.int v3), .val (.int v6), .val (.int v9), .val (.int v12), .val (.int v15), .val (.double v18), .second, .val (.double v21), .second, .val (.ref a23), .val (.ref a62), .unset, .unset, .unset, .unset, .unset, .unset, .unset, .unset, .unset]) (by rw [← hL59]; rfl) k) ?_
    generalize hL126 : (#[.val (.int p0), .val (.int p1), .val (.int p2), .val (.int p3), .val (.int p4), .val (.int p4), .val (.int v3), .val (.int v6), .val (.int v9), .val (.int v12), .val (.int v15), .val (.double v18), .second, .val (.double v21), .second, .val (.ref a23), .val (.ref a62), .unset, .unset, .unset, .unset, .unset, .unset, .unset, .unset, .unset] : Array Slot) = L126
    have F127 : Exa Z h110 a23 "com/example/gyges/gyges/model/Levels" := (F111.keep K110)
    have F128 : own_Ary Z h110 bl52 .int [(.int v9)] := (F112.keep K110 (ninS (Nat.ne_of_lt lt64) nin0))
    have F129 : own_Ary Z h110 bh52 .int [(.int v6)] := (F113.keep K110 (ninS (Nat.ne_of_lt lt65) nin0))
    have F130 : Exa Z h110 a62 "com/example/gyges/gyges/model/Levels" := (F103.keep K110)
    have F131 : n0 ≤ h110.size := (Nat.le_trans F102 K110.1)
    refine own_newobj X110 hx hZ hown (hw _ (List.mem_of_getElem? (i := 11) rfl)) (hw _ (List.mem_of_getElem? (i := 12) rfl)) (hw _ (List.mem_of_getElem? (i := 13) rfl)) e110 (hb hby at_159) (by decide) (by decide) ?_
    intro T132 h132 a132 g132 X132 e132 E132 A132 D132
    have lt133 : a23 < a132 := Nat.lt_of_lt_of_le F127.lt (Nat.le_of_eq g132.symm)
    have lt134 : bl52 < a132 := Nat.lt_of_lt_of_le F128.lt (Nat.le_of_eq g132.symm)
    have lt135 : bh52 < a132 := Nat.lt_of_lt_of_le F129.lt (Nat.le_of_eq g132.symm)
    have lt136 : a62 < a132 := Nat.lt_of_lt_of_le F130.lt (Nat.le_of_eq g132.symm)
    have lt137 : bl110 < a132 := Nat.lt_of_lt_of_le G3110.lt (Nat.le_of_eq g132.symm)
    have lt138 : bh110 < a132 := Nat.lt_of_lt_of_le G4110.lt (Nat.le_of_eq g132.symm)
    have nw139 : n0 ≤ a132 := Nat.le_trans F131 (Nat.le_of_eq g132.symm)
    have F140 : Fld Z h132 a132 "com/example/gyges/gyges/model/Levels" "levels" "[I" .null := D132 (Or.inr (hw _ (List.mem_of_getElem? (i := 35) rfl))) (ty := (.array .int)) (by decide)
    have F141 : Fld Z h132 a132 "com/example/gyges/gyges/model/Levels" "heights" "[I" .null := D132 (Or.inr (hw _ (List.mem_of_getElem? (i := 37) rfl))) (ty := (.array .int)) (by decide)
    have F142 : Fld Z h132 a132 "com/example/gyges/gyges/model/Levels" "nodesChecked" "J" (.long (0 : Int64)) := D132 (Or.inr (hw _ (List.mem_of_getElem? (i := 39) rfl))) (ty := .long) (by decide)
    show own_Go _ _ _ _ _ _ _ T132 (mkF m 162 L126 [(.ref a132)])
    refine own_pre (T' := T132) (g' := (mkF m 163 L126 [(.ref a132), (.ref a132)])) (fun t k => XS.dup X132.here hx rfl (hb hby at_162) rfl rfl k) ?_
    refine own_pre (T' := T132) (g' := (mkF m 164 L126 [(.int (2 : Int32)), (.ref a132), (.ref a132)])) (fun t k => XS.iconst X132.here hx rfl (hb hby at_163) k) ?_
    have F143 : Exa Z h132 a23 "com/example/gyges/gyges/model/Levels" := (F127.ext E132)
    have F144 : own_Ary Z h132 bl52 .int [(.int v9)] := (F128.ext E132)
    have F145 : own_Ary Z h132 bh52 .int [(.int v6)] := (F129.ext E132)
    have F146 : Exa Z h132 a62 "com/example/gyges/gyges/model/Levels" := (F130.ext E132)
    have F147 : own_Ary Z h132 bl110 .int [(.int v9), (.int v15)] := (G3110.ext E132)
    have F148 : own_Ary Z h132 bh110 .int [(.int v6), (.int v12)] := (G4110.ext E132)
    have F149 : n0 ≤ h132.size := (Nat.le_trans F131 E132.1)
    refine own_newarr X132 hx hZ (aty := .int) (hw _ (List.mem_of_getElem? (i := 14) rfl)) e132 (hb hby at_164) (n := 2) (by decide) (by decide) (by decide) (by decide) (by decide) (ad := "[I") rfl ?_
    intro T150 h150 a150 g150 X150 e150 E150 A150 B150
    have lt151 : a23 < a150 := Nat.lt_of_lt_of_le F143.lt (Nat.le_of_eq g150.symm)
    have lt152 : bl52 < a150 := Nat.lt_of_lt_of_le F144.lt (Nat.le_of_eq g150.symm)
    have lt153 : bh52 < a150 := Nat.lt_of_lt_of_le F145.lt (Nat.le_of_eq g150.symm)
    have lt154 : a62 < a150 := Nat.lt_of_lt_of_le F146.lt (Nat.le_of_eq g150.symm)
    have lt155 : bl110 < a150 := Nat.lt_of_lt_of_le F147.lt (Nat.le_of_eq g150.symm)
    have lt156 : bh110 < a150 := Nat.lt_of_lt_of_le F148.lt (Nat.le_of_eq g150.symm)
    have lt157 : a132 < a150 := Nat.lt_of_lt_of_le A132.lt (Nat.le_of_eq g150.symm)
    have nw158 : n0 ≤ a150 := Nat.le_trans F149 (Nat.le_of_eq g150.symm)
    have F159 : own_Ary Z h150 a150 .int [(.int (0 : Int32)), (.int (0 : Int32))] := A150
    show own_Go _ _ _ _ _ _ _ T150 (mkF m 166 L126 [(.ref a150), (.ref a132), (.ref a132)])
    refine own_pre (T' := T150) (g' := (mkF m 167 L126 [(.ref a150), (.ref a150), (.ref a132), (.ref a132)])) (fun t k => XS.dup X150.here hx rfl (hb hby at_166) rfl rfl k) ?_
    refine own_pre (T' := T150) (g' := (mkF m 168 L126 [(.int (0 : Int32)), (.ref a150), (.ref a150), (.ref a132), (.ref a132)])) (fun t k => XS.iconst X150.here hx rfl (hb hby at_167) k) ?_
    refine own_pre (T' := T150) (g' := (mkF m 170 L126 [(.int v15), (.int (0 : Int32)), (.ref a150), (.ref a150), (.ref a132), (.ref a132)])) (fun t k => XS.iload X150.here hx rfl (v := v15) (hb hby at_168) (by rw [← hL126]; rfl) k) ?_
    refine own_iastore X150 hx hZ e150 N110' nw158 F159 (hb hby at_170) (n := 0) (by decide) (by decide) (by show 0 < 2; decide) ?_
    intro T160 h160 lo160 X160 e160 N160 W160
    have F161 : own_Ary Z h160 a150 .int [(.int v15), (.int (0 : Int32))] := F159.set W160
    show own_Go _ _ _ _ _ _ _ T160 (mkF m 171 L126 [(.ref a150), (.ref a132), (.ref a132)])
    refine own_pre (T' := T160) (g' := (mkF m 172 L126 [(.ref a150), (.ref a150), (.ref a132), (.ref a132)])) (fun t k => XS.dup X160.here hx rfl (hb hby at_171) rfl rfl k) ?_
    refine own_pre (T' := T160) (g' := (mkF m 173 L126 [(.int (1 : Int32)), (.ref a150), (.ref a150), (.ref a132), (.ref a132)])) (fun t k => XS.iconst X160.here hx rfl (hb hby at_172) k) ?_
    refine own_pre (T' := T160) (g' := (mkF m 175 L126 [(.int v9), (.int (1 : Int32)), (.ref a150), (.ref a150), (.ref a132), (.ref a132)])) (fun t k => XS.iload X160.here hx rfl (v := v9) (hb hby at_173) (by rw [← hL126]; rfl) k) ?_
    refine own_iastore X160 hx hZ e160 N160 nw158 F161 (hb hby at_175) (n := 1) (by decide) (by decide) (by show 1 < 2; decide) ?_
    intro T162 h162 lo162 X162 e162 N162 W162
    have F163 : own_Ary Z h162 a150 .int [(.int v15), (.int v9)] := F161.set W162
    show own_Go _ _ _ _ _ _ _ T162 (mkF m 176 L126 [(.ref a150), (.ref a132), (.ref a132)])
    refine own_pre (T' := T162) (g' := (mkF m 177 L126 [(.int (2 : Int32)), (.ref a150), (.ref a132), (.ref a132)])) (fun t k => XS.iconst X162.here hx rfl (hb hby at_176) k) ?_
    have F164 : Exa Z h162 a23 "com/example/gyges/gyges/model/Levels" := (((F143.ext E150).wr W160).wr W162)
    have F165 : own_Ary Z h162 bl52 .int [(.int v9)] := (((F144.ext E150).other W160 (Nat.ne_of_lt lt152)).other W162 (Nat.ne_of_lt lt152))
    have F166 : own_Ary Z h162 bh52 .int [(.int v6)] := (((F145.ext E150).other W160 (Nat.ne_of_lt lt153)).other W162 (Nat.ne_of_lt lt153))
    have F167 : Exa Z h162 a62 "com/example/gyges/gyges/model/Levels" := (((F146.ext E150).wr W160).wr W162)
    have F168 : own_Ary Z h162 bl110 .int [(.int v9), (.int v15)] := (((F147.ext E150).other W160 (Nat.ne_of_lt lt155)).other W162 (Nat.ne_of_lt lt155))
    have F169 : own_Ary Z h162 bh110 .int [(.int v6), (.int v12)] := (((F148.ext E150).other W160 (Nat.ne_of_lt lt156)).other W162 (Nat.ne_of_lt lt156))
    have F170 : Exa Z h162 a132 "com/example/gyges/gyges/model/Levels" := (((A132.ext E150).wr W160).wr W162)
    have F171 : n0 ≤ h162.size := (Nat.le_trans (Nat.le_trans (Nat.le_trans F149 E150.1) (Nat.le_of_eq W160.size.symm)) (Nat.le_of_eq W162.size.symm))
    refine own_newarr X162 hx hZ (aty := .int) (hw _ (List.mem_of_getElem? (i := 14) rfl)) e162 (hb hby at_177) (n := 2) (by decide) (by decide) (by decide) (by decide) (by decide) (ad := "[I") rfl ?_
    intro T172 h172 a172 g172 X172 e172 E172 A172 B172
    have lt173 : a23 < a172 := Nat.lt_of_lt_of_le F164.lt (Nat.le_of_eq g172.symm)
    have lt174 : bl52 < a172 := Nat.lt_of_lt_of_le F165.lt (Nat.le_of_eq g172.symm)
    have lt175 : bh52 < a172 := Nat.lt_of_lt_of_le F166.lt (Nat.le_of_eq g172.symm)
    have lt176 : a62 < a172 := Nat.lt_of_lt_of_le F167.lt (Nat.le_of_eq g172.symm)
    have lt177 : bl110 < a172 := Nat.lt_of_lt_of_le F168.lt (Nat.le_of_eq g172.symm)
    have lt178 : bh110 < a172 := Nat.lt_of_lt_of_le F169.lt (Nat.le_of_eq g172.symm)
    have lt179 : a132 < a172 := Nat.lt_of_lt_of_le F170.lt (Nat.le_of_eq g172.symm)
    have lt180 : a150 < a172 := Nat.lt_of_lt_of_le F163.lt (Nat.le_of_eq g172.symm)
    have nw181 : n0 ≤ a172 := Nat.le_trans F171 (Nat.le_of_eq g172.symm)
    have F182 : own_Ary Z h172 a172 .int [(.int (0 : Int32)), (.int (0 : Int32))] := A172
    show own_Go _ _ _ _ _ _ _ T172 (mkF m 179 L126 [(.ref a172), (.ref a150), (.ref a132), (.ref a132)])
    refine own_pre (T' := T172) (g' := (mkF m 180 L126 [(.ref a172), (.ref a172), (.ref a150), (.ref a132), (.ref a132)])) (fun t k => XS.dup X172.here hx rfl (hb hby at_179) rfl rfl k) ?_
    refine own_pre (T' := T172) (g' := (mkF m 181 L126 [(.int (0 : Int32)), (.ref a172), (.ref a172), (.ref a150), (.ref a132), (.ref a132)])) (fun t k => XS.iconst X172.here hx rfl (hb hby at_180) k) ?_
    refine own_pre (T' := T172) (g' := (mkF m 183 L126 [(.int v12), (.int (0 : Int32)), (.ref a172), (.ref a172), (.ref a150), (.ref a132), (.ref a132)])) (fun t k => XS.iload X172.here hx rfl (v := v12) (hb hby at_181) (by rw [← hL126]; rfl) k) ?_
    refine own_iastore X172 hx hZ e172 N162 nw181 F182 (hb hby at_183) (n := 0) (by decide) (by decide) (by show 0 < 2; decide) ?_
    intro T183 h183 lo183 X183 e183 N183 W183
    have F184 : own_Ary Z h183 a172 .int [(.int v12), (.int (0 : Int32))] := F182.set W183
    show own_Go _ _ _ _ _ _ _ T183 (mkF m 184 L126 [(.ref a172), (.ref a150), (.ref a132), (.ref a132)])
    refine own_pre (T' := T183) (g' := (mkF m 185 L126 [(.ref a172), (.ref a172), (.ref a150), (.ref a132), (.ref a132)])) (fun t k => XS.dup X183.here hx rfl (hb hby at_184) rfl rfl k) ?_
    refine own_pre (T' := T183) (g' := (mkF m 186 L126 [(.int (1 : Int32)), (.ref a172), (.ref a172), (.ref a150), (.ref a132), (.ref a132)])) (fun t k => XS.iconst X183.here hx rfl (hb hby at_185) k) ?_
    refine own_pre (T' := T183) (g' := (mkF m 188 L126 [(.int v6), (.int (1 : Int32)), (.ref a172), (.ref a172), (.ref a150), (.ref a132), (.ref a132)])) (fun t k => XS.iload X183.here hx rfl (v := v6) (hb hby at_186) (by rw [← hL126]; rfl) k) ?_
    refine own_iastore X183 hx hZ e183 N183 nw181 F184 (hb hby at_188) (n := 1) (by decide) (by decide) (by show 1 < 2; decide) ?_
    intro T185 h185 lo185 X185 e185 N185 W185
    have F186 : own_Ary Z h185 a172 .int [(.int v12), (.int v6)] := F184.set W185
    show own_Go _ _ _ _ _ _ _ T185 (mkF m 189 L126 [(.ref a172), (.ref a150), (.ref a132), (.ref a132)])
    have F187 : n0 ≤ h185.size := (Nat.le_trans (Nat.le_trans (Nat.le_trans F171 E172.1) (Nat.le_of_eq W183.size.symm)) (Nat.le_of_eq W185.size.symm))
    have F188 : Exa Z h185 a132 "com/example/gyges/gyges/model/Levels" := (((F170.ext E172).wr W183).wr W185)
    have F189 : Fld Z h185 a132 "com/example/gyges/gyges/model/Levels" "levels" "[I" .null := ((((((F140.ext E150).other W160 (Or.inl (Nat.ne_of_lt lt157))).other W162 (Or.inl (Nat.ne_of_lt lt157))).ext E172).other W183 (Or.inl (Nat.ne_of_lt lt179))).other W185 (Or.inl (Nat.ne_of_lt lt179)))
    have F190 : Fld Z h185 a132 "com/example/gyges/gyges/model/Levels" "heights" "[I" .null := ((((((F141.ext E150).other W160 (Or.inl (Nat.ne_of_lt lt157))).other W162 (Or.inl (Nat.ne_of_lt lt157))).ext E172).other W183 (Or.inl (Nat.ne_of_lt lt179))).other W185 (Or.inl (Nat.ne_of_lt lt179)))
    have F191 : Fld Z h185 a132 "com/example/gyges/gyges/model/Levels" "nodesChecked" "J" (.long (0 : Int64)) := ((((((F142.ext E150).other W160 (Or.inl (Nat.ne_of_lt lt157))).other W162 (Or.inl (Nat.ne_of_lt lt157))).ext E172).other W183 (Or.inl (Nat.ne_of_lt lt179))).other W185 (Or.inl (Nat.ne_of_lt lt179)))
    have F192 : own_Ary Z h185 a150 .int [(.int v15), (.int v9)] := (((F163.ext E172).other W183 (Nat.ne_of_lt lt180)).other W185 (Nat.ne_of_lt lt180))
    have F193 : Exa Z h185 a150 "[I" := (((((B150.wr W160).wr W162).ext E172).wr W183).wr W185)
    have F194 : Exa Z h185 a172 "[I" := ((B172.wr W183).wr W185)
    refine own_init (a := a132) (argsL := [(.ref a150), (.ref a172)]) (rest := [(.ref a132)]) X185 hx hZ hown (own_ini2_2 l Z a0 hw [] a132 a150 a172 v15 v12 v9 v6 h185 n0 F187 F188 F189 F190 F191 F192 F186 F193 F194 nw139 (Nat.ne_of_gt lt157) (Nat.ne_of_gt lt179) lb2.1 lb2.2 lb1.1 lb1.2) rfl (hw _ (List.mem_of_getElem? (i := 15) rfl)) (hw _ (List.mem_of_getElem? (i := 16) rfl)) (hw _ (List.mem_of_getElem? (i := 17) rfl)) (hw _ (List.mem_of_getElem? (i := 13) rfl)) (by decide) e185 (hb hby at_189) (by rw [hml, ← hL126]; rfl) rfl (lenOf own_pd4 rfl) (by decide) (W := 1) (Nat.le_of_eq rfl) (by decide) (by decide) (by decide) ?_
    intro v195 T195 lo195 X195 Q195
    obtain ⟨h195, e195⟩ : ∃ h, T195.heap = h := ⟨_, rfl⟩
    rw [e195] at Q195
    have F196 : Exa Z h185 a23 "com/example/gyges/gyges/model/Levels" := (((F164.ext E172).wr W183).wr W185)
    have F197 : own_Ary Z h185 bl52 .int [(.int v9)] := (((F165.ext E172).other W183 (Nat.ne_of_lt lt174)).other W185 (Nat.ne_of_lt lt174))
    have F198 : own_Ary Z h185 bh52 .int [(.int v6)] := (((F166.ext E172).other W183 (Nat.ne_of_lt lt175)).other W185 (Nat.ne_of_lt lt175))
    have F199 : Exa Z h185 a62 "com/example/gyges/gyges/model/Levels" := (((F167.ext E172).wr W183).wr W185)
    have F200 : own_Ary Z h185 bl110 .int [(.int v9), (.int v15)] := (((F168.ext E172).other W183 (Nat.ne_of_lt lt177)).other W185 (Nat.ne_of_lt lt177))
    have F201 : own_Ary Z h185 bh110 .int [(.int v6), (.int v12)] := (((F169.ext E172).other W183 (Nat.ne_of_lt lt178)).other W185 (Nat.ne_of_lt lt178))
    obtain ⟨rfl, N195, K195, bl195, bh195, hz195, G1195, G2195, G3195, G4195⟩ := Q195
    have N195' := Fr.app N185 N195
    show own_Go _ _ _ _ _ _ _ T195 (mkF m 192 L126 [(.ref a132)])
    have lt202 : a23 < bl195 := Nat.lt_of_lt_of_le F196.lt hz195.1
    have lt203 : bl52 < bl195 := Nat.lt_of_lt_of_le F197.lt hz195.1
    have lt204 : bh52 < bl195 := Nat.lt_of_lt_of_le F198.lt hz195.1
    have lt205 : a62 < bl195 := Nat.lt_of_lt_of_le F199.lt hz195.1
    have lt206 : bl110 < bl195 := Nat.lt_of_lt_of_le F200.lt hz195.1
    have lt207 : bh110 < bl195 := Nat.lt_of_lt_of_le F201.lt hz195.1
    have lt208 : a132 < bl195 := Nat.lt_of_lt_of_le F188.lt hz195.1
    have lt209 : a150 < bl195 := Nat.lt_of_lt_of_le F192.lt hz195.1
    have lt210 : a172 < bl195 := Nat.lt_of_lt_of_le F186.lt hz195.1
    have lt211 : a23 < bh195 := Nat.lt_trans lt202 hz195.2
    have lt212 : bl52 < bh195 := Nat.lt_trans lt203 hz195.2
    have lt213 : bh52 < bh195 := Nat.lt_trans lt204 hz195.2
    have lt214 : a62 < bh195 := Nat.lt_trans lt205 hz195.2
    have lt215 : bl110 < bh195 := Nat.lt_trans lt206 hz195.2
    have lt216 : bh110 < bh195 := Nat.lt_trans lt207 hz195.2
    have lt217 : a132 < bh195 := Nat.lt_trans lt208 hz195.2
    have lt218 : a150 < bh195 := Nat.lt_trans lt209 hz195.2
    have lt219 : a172 < bh195 := Nat.lt_trans lt210 hz195.2
    refine own_pre (T' := T195) (g' := (mkF m 194 #[.val (.int p0), .val (.int p1), .val (.int p2), .val (.int p3), .val (.int p4), .val (.int p4), .val (.int v3), .val (.int v6), .val (.int v9), .val (.int v12), .val (.int v15), .val (.double v18), .second, .val (.double v21), .second, .val (.ref a23), .val (.ref a62), .val (.ref a132), .unset, .unset, .unset, .unset, .unset, .unset, .unset, .unset] [])) (fun t k => XS.astore X195.here hx rfl (hb hby at_192) rfl rfl (l' := #[.val (.int p0), .val (.int p1), .val (.int p2), .val (.int p3), .val (.int p4), .val (.int p4), .val (.int v3), .val (.int v6), .val (.int v9), .val (.int v12), .val (.int v15), .val (.double v18), .second, .val (.double v21), .second, .val (.ref a23), .val (.ref a62), .val (.ref a132), .unset, .unset, .unset, .unset, .unset, .unset, .unset, .unset]) (by rw [← hL126]; rfl) k) ?_
    generalize hL220 : (#[.val (.int p0), .val (.int p1), .val (.int p2), .val (.int p3), .val (.int p4), .val (.int p4), .val (.int v3), .val (.int v6), .val (.int v9), .val (.int v12), .val (.int v15), .val (.double v18), .second, .val (.double v21), .second, .val (.ref a23), .val (.ref a62), .val (.ref a132), .unset, .unset, .unset, .unset, .unset, .unset, .unset, .unset] : Array Slot) = L220
    refine own_pre (T' := T195) (g' := (mkF m 196 L220 [(.ref a23)])) (fun t k => XS.aload X195.here hx rfl (v := (.ref a23)) (hb hby at_194) (by rw [← hL220]; rfl) rfl k) ?_
    have F221 : n0 ≤ h195.size := (Nat.le_trans F187 K195.1)
    have F222 : Fld Z h195 a23 "com/example/gyges/gyges/model/Levels" "levels" "[I" (.ref bl52) := ((((((((((((((((G152.ext E62).ext E74).other W81 (Or.inl (Nat.ne_of_lt lt75))).other W83 (Or.inl (Nat.ne_of_lt lt75))).ext E90).other W98 (Or.inl (Nat.ne_of_lt lt91))).other W100 (Or.inl (Nat.ne_of_lt lt91))).keep K110 (ninS (Nat.ne_of_lt lt63) nin0)).ext E132).ext E150).other W160 (Or.inl (Nat.ne_of_lt lt151))).other W162 (Or.inl (Nat.ne_of_lt lt151))).ext E172).other W183 (Or.inl (Nat.ne_of_lt lt173))).other W185 (Or.inl (Nat.ne_of_lt lt173))).keep K195 (ninS (Nat.ne_of_lt lt133) nin0))
    have F223 : Fld Z h195 a23 "com/example/gyges/gyges/model/Levels" "heights" "[I" (.ref bh52) := ((((((((((((((((G252.ext E62).ext E74).other W81 (Or.inl (Nat.ne_of_lt lt75))).other W83 (Or.inl (Nat.ne_of_lt lt75))).ext E90).other W98 (Or.inl (Nat.ne_of_lt lt91))).other W100 (Or.inl (Nat.ne_of_lt lt91))).keep K110 (ninS (Nat.ne_of_lt lt63) nin0)).ext E132).ext E150).other W160 (Or.inl (Nat.ne_of_lt lt151))).other W162 (Or.inl (Nat.ne_of_lt lt151))).ext E172).other W183 (Or.inl (Nat.ne_of_lt lt173))).other W185 (Or.inl (Nat.ne_of_lt lt173))).keep K195 (ninS (Nat.ne_of_lt lt133) nin0))
    have F224 : own_Ary Z h195 bl52 .int [(.int v9)] := (F197.keep K195 (ninS (Nat.ne_of_lt lt134) nin0))
    have F225 : own_Ary Z h195 bh52 .int [(.int v6)] := (F198.keep K195 (ninS (Nat.ne_of_lt lt135) nin0))
    have F226 : Exa Z h195 a23 "com/example/gyges/gyges/model/Levels" := (F196.keep K195)
    refine own_callv (a := a23) (argsL := []) (rest := []) X195 hx hZ hown (own_gp1 l Z a0 hw [] a23 bl52 bh52 v9 v6 h195 n0 F221 F222 F223 F224 F225 lb1.1 lb1.2) F226 (hw _ (List.mem_of_getElem? (i := 40) rfl)) (hw _ (List.mem_of_getElem? (i := 41) rfl)) (hw _ (List.mem_of_getElem? (i := 43) rfl)) (hw _ (List.mem_of_getElem? (i := 42) rfl)) (hw _ (List.mem_of_getElem? (i := 44) rfl)) (hw _ (List.mem_of_getElem? (i := 13) rfl)) (by decide) e195 (hb hby at_196) (by rw [hml, ← hL220]; rfl) rfl (lenOf own_pd5 rfl) (by decide) (W := 0) (Nat.le_of_eq rfl) (by decide) (by decide) (by decide) ?_
    intro v227 T227 lo227 X227 Q227
    obtain ⟨h227, e227⟩ : ∃ h, T227.heap = h := ⟨_, rfl⟩
    rw [e227] at Q227
    obtain ⟨rfl, N227, q227⟩ := Q227
    have N227' := Fr.app N195' N227
    have e227' : T227.heap = h195 := e227.trans q227
    show own_Go _ _ _ _ _ _ _ T227 (mkF m 199 L220 [(.double (own_t v9 v6))])
    generalize hv228 : own_t v9 v6 = v228
    refine own_pre (T' := T227) (g' := (mkF m 201 #[.val (.int p0), .val (.int p1), .val (.int p2), .val (.int p3), .val (.int p4), .val (.int p4), .val (.int v3), .val (.int v6), .val (.int v9), .val (.int v12), .val (.int v15), .val (.double v18), .second, .val (.double v21), .second, .val (.ref a23), .val (.ref a62), .val (.ref a132), .val (.double v228), .second, .unset, .unset, .unset, .unset, .unset, .unset] [])) (fun t k => XS.dstore X227.here hx rfl (hb hby at_199) rfl (l' := #[.val (.int p0), .val (.int p1), .val (.int p2), .val (.int p3), .val (.int p4), .val (.int p4), .val (.int v3), .val (.int v6), .val (.int v9), .val (.int v12), .val (.int v15), .val (.double v18), .second, .val (.double v21), .second, .val (.ref a23), .val (.ref a62), .val (.ref a132), .val (.double v228), .second, .unset, .unset, .unset, .unset, .unset, .unset]) (by rw [← hL220]; rfl) k) ?_
    generalize hL229 : (#[.val (.int p0), .val (.int p1), .val (.int p2), .val (.int p3), .val (.int p4), .val (.int p4), .val (.int v3), .val (.int v6), .val (.int v9), .val (.int v12), .val (.int v15), .val (.double v18), .second, .val (.double v21), .second, .val (.ref a23), .val (.ref a62), .val (.ref a132), .val (.double v228), .second, .unset, .unset, .unset, .unset, .unset, .unset] : Array Slot) = L229
    refine own_pre (T' := T227) (g' := (mkF m 203 L229 [(.ref a62)])) (fun t k => XS.aload X227.here hx rfl (v := (.ref a62)) (hb hby at_201) (by rw [← hL229]; rfl) rfl k) ?_
    have F230 : Fld Z h195 a62 "com/example/gyges/gyges/model/Levels" "levels" "[I" (.ref bl110) := ((((((((G1110.ext E132).ext E150).other W160 (Or.inl (Nat.ne_of_lt lt154))).other W162 (Or.inl (Nat.ne_of_lt lt154))).ext E172).other W183 (Or.inl (Nat.ne_of_lt lt176))).other W185 (Or.inl (Nat.ne_of_lt lt176))).keep K195 (ninS (Nat.ne_of_lt lt136) nin0))
    have F231 : Fld Z h195 a62 "com/example/gyges/gyges/model/Levels" "heights" "[I" (.ref bh110) := ((((((((G2110.ext E132).ext E150).other W160 (Or.inl (Nat.ne_of_lt lt154))).other W162 (Or.inl (Nat.ne_of_lt lt154))).ext E172).other W183 (Or.inl (Nat.ne_of_lt lt176))).other W185 (Or.inl (Nat.ne_of_lt lt176))).keep K195 (ninS (Nat.ne_of_lt lt136) nin0))
    have F232 : own_Ary Z h195 bl110 .int [(.int v9), (.int v15)] := (F200.keep K195 (ninS (Nat.ne_of_lt lt137) nin0))
    have F233 : own_Ary Z h195 bh110 .int [(.int v6), (.int v12)] := (F201.keep K195 (ninS (Nat.ne_of_lt lt138) nin0))
    have F234 : Exa Z h195 a62 "com/example/gyges/gyges/model/Levels" := (F199.keep K195)
    refine own_callv (a := a62) (argsL := []) (rest := []) X227 hx hZ hown (own_gp2 l Z a0 hw [] a62 bl110 bh110 v9 v6 v15 v12 h195 n0 F221 F230 F231 F232 F233 lb1.1 lb1.2 lb2.1 lb2.2) F234 (hw _ (List.mem_of_getElem? (i := 40) rfl)) (hw _ (List.mem_of_getElem? (i := 41) rfl)) (hw _ (List.mem_of_getElem? (i := 43) rfl)) (hw _ (List.mem_of_getElem? (i := 42) rfl)) (hw _ (List.mem_of_getElem? (i := 44) rfl)) (hw _ (List.mem_of_getElem? (i := 13) rfl)) (by decide) e227' (hb hby at_203) (by rw [hml, ← hL229]; rfl) rfl (lenOf own_pd5 rfl) (by decide) (W := 0) (Nat.le_of_eq rfl) (by decide) (by decide) (by decide) ?_
    intro v235 T235 lo235 X235 Q235
    obtain ⟨h235, e235⟩ : ∃ h, T235.heap = h := ⟨_, rfl⟩
    rw [e235] at Q235
    obtain ⟨rfl, N235, q235⟩ := Q235
    have N235' := Fr.app N227' N235
    have e235' : T235.heap = h195 := e235.trans q235
    show own_Go _ _ _ _ _ _ _ T235 (mkF m 206 L229 [(.double (FP.ddiv (FP.dadd (own_t v9 v6) (own_t v15 v12)) (4611686018427387904 : UInt64)))])
    generalize hv236 : FP.ddiv (FP.dadd (own_t v9 v6) (own_t v15 v12)) (4611686018427387904 : UInt64) = v236
    refine own_pre (T' := T235) (g' := (mkF m 208 #[.val (.int p0), .val (.int p1), .val (.int p2), .val (.int p3), .val (.int p4), .val (.int p4), .val (.int v3), .val (.int v6), .val (.int v9), .val (.int v12), .val (.int v15), .val (.double v18), .second, .val (.double v21), .second, .val (.ref a23), .val (.ref a62), .val (.ref a132), .val (.double v228), .second, .val (.double v236), .second, .unset, .unset, .unset, .unset] [])) (fun t k => XS.dstore X235.here hx rfl (hb hby at_206) rfl (l' := #[.val (.int p0), .val (.int p1), .val (.int p2), .val (.int p3), .val (.int p4), .val (.int p4), .val (.int v3), .val (.int v6), .val (.int v9), .val (.int v12), .val (.int v15), .val (.double v18), .second, .val (.double v21), .second, .val (.ref a23), .val (.ref a62), .val (.ref a132), .val (.double v228), .second, .val (.double v236), .second, .unset, .unset, .unset, .unset]) (by rw [← hL229]; rfl) k) ?_
    generalize hL237 : (#[.val (.int p0), .val (.int p1), .val (.int p2), .val (.int p3), .val (.int p4), .val (.int p4), .val (.int v3), .val (.int v6), .val (.int v9), .val (.int v12), .val (.int v15), .val (.double v18), .second, .val (.double v21), .second, .val (.ref a23), .val (.ref a62), .val (.ref a132), .val (.double v228), .second, .val (.double v236), .second, .unset, .unset, .unset, .unset] : Array Slot) = L237
    refine own_pre (T' := T235) (g' := (mkF m 210 L237 [(.ref a132)])) (fun t k => XS.aload X235.here hx rfl (v := (.ref a132)) (hb hby at_208) (by rw [← hL237]; rfl) rfl k) ?_
    have F238 : Exa Z h195 a132 "com/example/gyges/gyges/model/Levels" := (F188.keep K195)
    refine own_callv (a := a132) (argsL := []) (rest := []) X235 hx hZ hown (own_gp2 l Z a0 hw [] a132 bl195 bh195 v15 v12 v9 v6 h195 n0 F221 G1195 G2195 G3195 G4195 lb2.1 lb2.2 lb1.1 lb1.2) F238 (hw _ (List.mem_of_getElem? (i := 40) rfl)) (hw _ (List.mem_of_getElem? (i := 41) rfl)) (hw _ (List.mem_of_getElem? (i := 43) rfl)) (hw _ (List.mem_of_getElem? (i := 42) rfl)) (hw _ (List.mem_of_getElem? (i := 44) rfl)) (hw _ (List.mem_of_getElem? (i := 13) rfl)) (by decide) e235' (hb hby at_210) (by rw [hml, ← hL237]; rfl) rfl (lenOf own_pd5 rfl) (by decide) (W := 0) (Nat.le_of_eq rfl) (by decide) (by decide) (by decide) ?_
    intro v239 T239 lo239 X239 Q239
    obtain ⟨h239, e239⟩ : ∃ h, T239.heap = h := ⟨_, rfl⟩
    rw [e239] at Q239
    obtain ⟨rfl, N239, q239⟩ := Q239
    have N239' := Fr.app N235' N239
    have e239' : T239.heap = h195 := e239.trans q239
    show own_Go _ _ _ _ _ _ _ T239 (mkF m 213 L237 [(.double (FP.ddiv (FP.dadd (own_t v15 v12) (own_t v9 v6)) (4611686018427387904 : UInt64)))])
    generalize hv240 : FP.ddiv (FP.dadd (own_t v15 v12) (own_t v9 v6)) (4611686018427387904 : UInt64) = v240
    refine own_pre (T' := T239) (g' := (mkF m 215 #[.val (.int p0), .val (.int p1), .val (.int p2), .val (.int p3), .val (.int p4), .val (.int p4), .val (.int v3), .val (.int v6), .val (.int v9), .val (.int v12), .val (.int v15), .val (.double v18), .second, .val (.double v21), .second, .val (.ref a23), .val (.ref a62), .val (.ref a132), .val (.double v228), .second, .val (.double v236), .second, .val (.double v240), .second, .unset, .unset] [])) (fun t k => XS.dstore X239.here hx rfl (hb hby at_213) rfl (l' := #[.val (.int p0), .val (.int p1), .val (.int p2), .val (.int p3), .val (.int p4), .val (.int p4), .val (.int v3), .val (.int v6), .val (.int v9), .val (.int v12), .val (.int v15), .val (.double v18), .second, .val (.double v21), .second, .val (.ref a23), .val (.ref a62), .val (.ref a132), .val (.double v228), .second, .val (.double v236), .second, .val (.double v240), .second, .unset, .unset]) (by rw [← hL237]; rfl) k) ?_
    generalize hL241 : (#[.val (.int p0), .val (.int p1), .val (.int p2), .val (.int p3), .val (.int p4), .val (.int p4), .val (.int v3), .val (.int v6), .val (.int v9), .val (.int v12), .val (.int v15), .val (.double v18), .second, .val (.double v21), .second, .val (.ref a23), .val (.ref a62), .val (.ref a132), .val (.double v228), .second, .val (.double v236), .second, .val (.double v240), .second, .unset, .unset] : Array Slot) = L241
    refine own_pre (T' := T239) (g' := (mkF m 217 L241 [(.double v18)])) (fun t k => XS.dload X239.here hx rfl (v := v18) (hb hby at_215) (by rw [← hL241]; rfl) k) ?_
    refine own_pre (T' := T239) (g' := (mkF m 219 L241 [(.double v21), (.double v18)])) (fun t k => XS.dload X239.here hx rfl (v := v21) (hb hby at_217) (by rw [← hL241]; rfl) k) ?_
    have e1 : v228 = v18 := by rw [← hv228, hv18]
    have e2 : v236 = FP.ddiv (FP.dadd v18 v21) (4611686018427387904 : UInt64) := by rw [← hv236, hv18, hv21]
    have e3 : v240 = v236 := by rw [e2, ← hv240, hv18, hv21]; rw [show FP.dadd v21 v18 = FP.dadd v18 v21 from FP.Core.dadd_comm _ _]
    refine own_pre (T' := T239) (g' := (mkF m 220 L241 [(.double (FP.dadd v18 v21))])) (fun t k => XS.daddS X239.here hx rfl (v := FP.dadd v18 v21) (hb hby at_219) rfl (own_nnf hS.1) rfl k) ?_
    refine own_ldcd X239 hx hZ hown (hw _ (List.mem_of_getElem? (i := 45) rfl)) (hb hby at_220) ?_
    show own_Go _ _ _ _ _ _ _ T239 (mkF m 223 L241 [(.double (4611686018427387904 : UInt64)), (.double (FP.dadd v18 v21))])
    refine own_pre (T' := T239) (g' := (mkF m 224 L241 [(.double (FP.ddiv (FP.dadd v18 v21) (4611686018427387904 : UInt64)))])) (fun t k => XS.ddivS X239.here hx rfl (v := (FP.ddiv (FP.dadd v18 v21) (4611686018427387904 : UInt64))) (hb hby at_223) rfl hH.1 rfl k) ?_
    generalize hv242 : FP.ddiv (FP.dadd v18 v21) (4611686018427387904 : UInt64) = v242
    refine own_pre (T' := T239) (g' := (mkF m 226 #[.val (.int p0), .val (.int p1), .val (.int p2), .val (.int p3), .val (.int p4), .val (.int p4), .val (.int v3), .val (.int v6), .val (.int v9), .val (.int v12), .val (.int v15), .val (.double v18), .second, .val (.double v21), .second, .val (.ref a23), .val (.ref a62), .val (.ref a132), .val (.double v228), .second, .val (.double v236), .second, .val (.double v240), .second, .val (.double v242), .second] [])) (fun t k => XS.dstore X239.here hx rfl (hb hby at_224) rfl (l' := #[.val (.int p0), .val (.int p1), .val (.int p2), .val (.int p3), .val (.int p4), .val (.int p4), .val (.int v3), .val (.int v6), .val (.int v9), .val (.int v12), .val (.int v15), .val (.double v18), .second, .val (.double v21), .second, .val (.ref a23), .val (.ref a62), .val (.ref a132), .val (.double v228), .second, .val (.double v236), .second, .val (.double v240), .second, .val (.double v242), .second]) (by rw [← hL241]; rfl) k) ?_
    generalize hL243 : (#[.val (.int p0), .val (.int p1), .val (.int p2), .val (.int p3), .val (.int p4), .val (.int p4), .val (.int v3), .val (.int v6), .val (.int v9), .val (.int v12), .val (.int v15), .val (.double v18), .second, .val (.double v21), .second, .val (.ref a23), .val (.ref a62), .val (.ref a132), .val (.double v228), .second, .val (.double v236), .second, .val (.double v240), .second, .val (.double v242), .second] : Array Slot) = L243
    refine own_pre (T' := T239) (g' := (mkF m 228 L243 [(.double v228)])) (fun t k => XS.dload X239.here hx rfl (v := v228) (hb hby at_226) (by rw [← hL243]; rfl) k) ?_
    refine own_pre (T' := T239) (g' := (mkF m 230 L243 [(.double v18), (.double v228)])) (fun t k => XS.dload X239.here hx rfl (v := v18) (hb hby at_228) (by rw [← hL243]; rfl) k) ?_
    have e4 : v236 = v242 := by rw [e2, hv242]
    have n1 : Jvm.Free.Fl.NoNaN64 v228 := e1 ▸ U1.nn
    have n2 : Jvm.Free.Fl.NoNaN64 v236 := by rw [e2]; exact hH.1
    have n3 : Jvm.Free.Fl.NoNaN64 v240 := e3 ▸ n2
    have n4 : Jvm.Free.Fl.NoNaN64 v242 := e4 ▸ n2
    obtain ⟨k244, hk244⟩ : ∃ z, own_c (FP.Core.zval FP.Core.b64 (FP.Core.val64 v228)) (FP.Core.zval FP.Core.b64 (FP.Core.val64 v18)) = z := ⟨_, rfl⟩
    refine own_pre (T' := T239) (g' := (mkF m 231 L243 [(.int k244)])) (fun t k => XS.dcmpS X239.here hx rfl (hb hby at_230) rfl ((own_dcmpz n1 U1.nn _).trans hk244) k) ?_
    have c1 : k244 = (0 : Int32) := by rw [← hk244, own_c_eq, e1]
    refine own_pre (T' := T239) (g' := (mkF m 234 L243 [])) (fun t k => XS.ifNo X239.here hx rfl (hb hby at_231) rfl ((if0 _ _).trans (teq c1).2) k) ?_
    refine own_pre (T' := T239) (g' := (mkF m 236 L243 [(.double v236)])) (fun t k => XS.dload X239.here hx rfl (v := v236) (hb hby at_234) (by rw [← hL243]; rfl) k) ?_
    refine own_pre (T' := T239) (g' := (mkF m 238 L243 [(.double v242), (.double v236)])) (fun t k => XS.dload X239.here hx rfl (v := v242) (hb hby at_236) (by rw [← hL243]; rfl) k) ?_
    obtain ⟨k245, hk245⟩ : ∃ z, own_c (FP.Core.zval FP.Core.b64 (FP.Core.val64 v236)) (FP.Core.zval FP.Core.b64 (FP.Core.val64 v242)) = z := ⟨_, rfl⟩
    refine own_pre (T' := T239) (g' := (mkF m 239 L243 [(.int k245)])) (fun t k => XS.dcmpS X239.here hx rfl (hb hby at_238) rfl ((own_dcmpz n2 n4 _).trans hk245) k) ?_
    have c2 : k245 = (0 : Int32) := by rw [← hk245, own_c_eq, e4]
    refine own_pre (T' := T239) (g' := (mkF m 242 L243 [])) (fun t k => XS.ifNo X239.here hx rfl (hb hby at_239) rfl ((if0 _ _).trans (teq c2).2) k) ?_
    refine own_pre (T' := T239) (g' := (mkF m 244 L243 [(.double v240)])) (fun t k => XS.dload X239.here hx rfl (v := v240) (hb hby at_242) (by rw [← hL243]; rfl) k) ?_
    refine own_pre (T' := T239) (g' := (mkF m 246 L243 [(.double v236), (.double v240)])) (fun t k => XS.dload X239.here hx rfl (v := v236) (hb hby at_244) (by rw [← hL243]; rfl) k) ?_
    obtain ⟨k246, hk246⟩ : ∃ z, own_c (FP.Core.zval FP.Core.b64 (FP.Core.val64 v240)) (FP.Core.zval FP.Core.b64 (FP.Core.val64 v236)) = z := ⟨_, rfl⟩
    refine own_pre (T' := T239) (g' := (mkF m 247 L243 [(.int k246)])) (fun t k => XS.dcmpS X239.here hx rfl (hb hby at_246) rfl ((own_dcmpz n3 n2 _).trans hk246) k) ?_
    have c3 : k246 = (0 : Int32) := by rw [← hk246, own_c_eq, e3]
    refine own_pre (T' := T239) (g' := (mkF m 250 L243 [])) (fun t k => XS.ifNo X239.here hx rfl (hb hby at_247) rfl ((if0 _ _).trans (teq c3).2) k) ?_
    refine own_pre (T' := T239) (g' := (mkF m 251 L243 [(.double (0 : UInt64))])) (fun t k => XS.dconst0 X239.here hx rfl (v := (0 : UInt64)) (hb hby at_250) (by decide) k) ?_
    refine own_pre (T' := T239) (g' := (mkF m 253 L243 [(.double v228), (.double (0 : UInt64))])) (fun t k => XS.dload X239.here hx rfl (v := v228) (hb hby at_251) (by rw [← hL243]; rfl) k) ?_
    obtain ⟨k247, hk247⟩ : ∃ z, own_c (FP.Core.zval FP.Core.b64 (FP.Core.val64 (0 : UInt64))) (FP.Core.zval FP.Core.b64 (FP.Core.val64 v228)) = z := ⟨_, rfl⟩
    refine own_pre (T' := T239) (g' := (mkF m 254 L243 [(.int k247)])) (fun t k => XS.dcmpS X239.here hx rfl (hb hby at_253) rfl ((own_dcmpz own_nn0 n1 _).trans hk247) k) ?_
    have c4 : ¬ (0 : Int32) < k247 := by rw [← hk247, own_c_gt]; rw [own_zero, e1]; have := U1.pos; omega
    refine own_pre (T' := T239) (g' := (mkF m 257 L243 [])) (fun t k => XS.ifNo X239.here hx rfl (hb hby at_254) rfl ((if0 _ _).trans (flt c4).2.2.1) k) ?_
    refine own_pre (T' := T239) (g' := (mkF m 259 L243 [(.double v228)])) (fun t k => XS.dload X239.here hx rfl (v := v228) (hb hby at_257) (by rw [← hL243]; rfl) k) ?_
    refine own_pre (T' := T239) (g' := (mkF m 260 L243 [(.double (4607182418800017408 : UInt64)), (.double v228)])) (fun t k => XS.dconst1 X239.here hx rfl (v := (4607182418800017408 : UInt64)) (hb hby at_259) (by decide) k) ?_
    obtain ⟨k248, hk248⟩ : ∃ z, own_c (FP.Core.zval FP.Core.b64 (FP.Core.val64 v228)) (FP.Core.zval FP.Core.b64 (FP.Core.val64 (4607182418800017408 : UInt64))) = z := ⟨_, rfl⟩
    refine own_pre (T' := T239) (g' := (mkF m 261 L243 [(.int k248)])) (fun t k => XS.dcmpS X239.here hx rfl (hb hby at_260) rfl ((own_dcmpz n1 own_nn1 _).trans hk248) k) ?_
    have c5 : ¬ (0 : Int32) < k248 := by rw [← hk248, own_c_gt]; rw [own_one, e1]; have := U1.2; omega
    refine own_pre (T' := T239) (g' := (mkF m 264 L243 [])) (fun t k => XS.ifNo X239.here hx rfl (hb hby at_261) rfl ((if0 _ _).trans (flt c5).2.2.1) k) ?_
    refine own_pre (T' := T239) (g' := (mkF m 265 L243 [(.double (0 : UInt64))])) (fun t k => XS.dconst0 X239.here hx rfl (v := (0 : UInt64)) (hb hby at_264) (by decide) k) ?_
    refine own_pre (T' := T239) (g' := (mkF m 267 L243 [(.double v236), (.double (0 : UInt64))])) (fun t k => XS.dload X239.here hx rfl (v := v236) (hb hby at_265) (by rw [← hL243]; rfl) k) ?_
    obtain ⟨k249, hk249⟩ : ∃ z, own_c (FP.Core.zval FP.Core.b64 (FP.Core.val64 (0 : UInt64))) (FP.Core.zval FP.Core.b64 (FP.Core.val64 v236)) = z := ⟨_, rfl⟩
    refine own_pre (T' := T239) (g' := (mkF m 268 L243 [(.int k249)])) (fun t k => XS.dcmpS X239.here hx rfl (hb hby at_267) rfl ((own_dcmpz own_nn0 n2 _).trans hk249) k) ?_
    have c6 : ¬ (0 : Int32) < k249 := by rw [← hk249, own_c_gt]; rw [own_zero, e2]; have := hH.2.1; omega
    refine own_pre (T' := T239) (g' := (mkF m 271 L243 [])) (fun t k => XS.ifNo X239.here hx rfl (hb hby at_268) rfl ((if0 _ _).trans (flt c6).2.2.1) k) ?_
    refine own_pre (T' := T239) (g' := (mkF m 273 L243 [(.double v236)])) (fun t k => XS.dload X239.here hx rfl (v := v236) (hb hby at_271) (by rw [← hL243]; rfl) k) ?_
    refine own_pre (T' := T239) (g' := (mkF m 274 L243 [(.double (4607182418800017408 : UInt64)), (.double v236)])) (fun t k => XS.dconst1 X239.here hx rfl (v := (4607182418800017408 : UInt64)) (hb hby at_273) (by decide) k) ?_
    obtain ⟨k250, hk250⟩ : ∃ z, own_c (FP.Core.zval FP.Core.b64 (FP.Core.val64 v236)) (FP.Core.zval FP.Core.b64 (FP.Core.val64 (4607182418800017408 : UInt64))) = z := ⟨_, rfl⟩
    refine own_pre (T' := T239) (g' := (mkF m 275 L243 [(.int k250)])) (fun t k => XS.dcmpS X239.here hx rfl (hb hby at_274) rfl ((own_dcmpz n2 own_nn1 _).trans hk250) k) ?_
    have c7 : ¬ (0 : Int32) < k250 := by rw [← hk250, own_c_gt]; rw [own_one, e2]; have := hH.2.2; omega
    refine own_pre (T' := T239) (g' := (mkF m 278 L243 [])) (fun t k => XS.ifNo X239.here hx rfl (hb hby at_275) rfl ((if0 _ _).trans (flt c7).2.2.1) k) ?_
    refine own_pre (T' := T239) (g' := (mkF m 279 L243 [(.int (1 : Int32))])) (fun t k => XS.iconst X239.here hx rfl (hb hby at_278) k) ?_
    refine own_pre (T' := T239) (g' := (mkF m 283 L243 [(.int (1 : Int32))])) (fun t k => XS.goto X239.here hx rfl (pc0 := 279) (pc' := 283) rfl (hb hby at_279) (by decide) (by decide) k) ?_
    exact own_retZ X239 hx hlk hret rfl (hb hby at_283) e239' ⟨rfl, N239'⟩ (by decide) (by decide)
  by_cases hp : (0 : Int32) < v6
  · skip
    refine own_pre (T' := T20) (g' := (mkF m 69 L22 [])) (fun t k => XS.ifNo X20.here hx rfl (hb hby at_66) rfl ((if0 _ _).trans (tlt hp).2.2.2) k) ?_
    refine own_pre (T' := T20) (g' := (mkF m 71 L22 [(.int v9)])) (fun t k => XS.iload X20.here hx rfl (v := v9) (hb hby at_69) (by rw [← hL22]; rfl) k) ?_
    refine own_pre (T' := T20) (g' := (mkF m 73 L22 [(.int v6), (.int v9)])) (fun t k => XS.iload X20.here hx rfl (v := v6) (hb hby at_71) (by rw [← hL22]; rfl) k) ?_
    by_cases hlh : v9 = v6
    · skip
      refine own_pre (T' := T20) (g' := (mkF m 76 L22 [])) (fun t k => XS.icmpNo X20.here hx rfl (hb hby at_73) rfl (teq hlh).2 k) ?_
      refine own_pre (T' := T20) (g' := (mkF m 78 L22 [(.double v18)])) (fun t k => XS.dload X20.here hx rfl (v := v18) (hb hby at_76) (by rw [← hL22]; rfl) k) ?_
      refine own_pre (T' := T20) (g' := (mkF m 79 L22 [(.double (4607182418800017408 : UInt64)), (.double v18)])) (fun t k => XS.dconst1 X20.here hx rfl (v := (4607182418800017408 : UInt64)) (hb hby at_78) (by decide) k) ?_
      obtain ⟨k251, hk251⟩ : ∃ z, own_c (FP.Core.zval FP.Core.b64 (FP.Core.val64 v18)) (FP.Core.zval FP.Core.b64 (FP.Core.val64 (4607182418800017408 : UInt64))) = z := ⟨_, rfl⟩
      refine own_pre (T' := T20) (g' := (mkF m 80 L22 [(.int k251)])) (fun t k => XS.dcmpS X20.here hx rfl (hb hby at_79) rfl ((own_dcmpz U1.nn own_nn1 _).trans hk251) k) ?_
      have g0 : v18 = 4607182418800017408 := by rw [← hv18]; exact own_t1 hp hlh
      have g1 : k251 = (0 : Int32) := by rw [← hk251, own_c_eq, g0]
      refine own_pre (T' := T20) (g' := (mkF m 85 L22 [])) (fun t k => XS.ifYes X20.here hx rfl (pc0 := 80) (pc' := 85) rfl (hb hby at_80) rfl ((if0 _ _).trans (teq g1).1) (by decide) (by decide) k) ?_
      refine own_pre (T' := T20) (g' := (mkF m 87 L22 [(.int v9)])) (fun t k => XS.iload X20.here hx rfl (v := v9) (hb hby at_85) (by rw [← hL22]; rfl) k) ?_
      by_cases hl0 : v9 = (0 : Int32)
      · skip
        refine own_pre (T' := T20) (g' := (mkF m 90 L22 [])) (fun t k => XS.ifNo X20.here hx rfl (hb hby at_87) rfl ((if0 _ _).trans (teq hl0).2) k) ?_
        refine own_pre (T' := T20) (g' := (mkF m 92 L22 [(.double v18)])) (fun t k => XS.dload X20.here hx rfl (v := v18) (hb hby at_90) (by rw [← hL22]; rfl) k) ?_
        refine own_pre (T' := T20) (g' := (mkF m 93 L22 [(.double (0 : UInt64)), (.double v18)])) (fun t k => XS.dconst0 X20.here hx rfl (v := (0 : UInt64)) (hb hby at_92) (by decide) k) ?_
        obtain ⟨k252, hk252⟩ : ∃ z, own_c (FP.Core.zval FP.Core.b64 (FP.Core.val64 v18)) (FP.Core.zval FP.Core.b64 (FP.Core.val64 (0 : UInt64))) = z := ⟨_, rfl⟩
        refine own_pre (T' := T20) (g' := (mkF m 94 L22 [(.int k252)])) (fun t k => XS.dcmpS X20.here hx rfl (hb hby at_93) rfl ((own_dcmpz U1.nn own_nn0 _).trans hk252) k) ?_
        have g2 : v18 = 0 := by rw [← hv18, hl0]; exact own_t0 hb1
        have g3 : k252 = (0 : Int32) := by rw [← hk252, own_c_eq, g2]
        refine own_pre (T' := T20) (g' := (mkF m 99 L22 [])) (fun t k => XS.ifYes X20.here hx rfl (pc0 := 94) (pc' := 99) rfl (hb hby at_94) rfl ((if0 _ _).trans (teq g3).1) (by decide) (by decide) k) ?_
        exact fin
      · skip
        refine own_pre (T' := T20) (g' := (mkF m 99 L22 [])) (fun t k => XS.ifYes X20.here hx rfl (pc0 := 87) (pc' := 99) rfl (hb hby at_87) rfl ((if0 _ _).trans (feq hl0).2) (by decide) (by decide) k) ?_
        exact fin
    · skip
      refine own_pre (T' := T20) (g' := (mkF m 85 L22 [])) (fun t k => XS.icmpYes X20.here hx rfl (pc0 := 73) (pc' := 85) rfl (hb hby at_73) rfl (feq hlh).2 (by decide) (by decide) k) ?_
      refine own_pre (T' := T20) (g' := (mkF m 87 L22 [(.int v9)])) (fun t k => XS.iload X20.here hx rfl (v := v9) (hb hby at_85) (by rw [← hL22]; rfl) k) ?_
      by_cases hl0 : v9 = (0 : Int32)
      · skip
        refine own_pre (T' := T20) (g' := (mkF m 90 L22 [])) (fun t k => XS.ifNo X20.here hx rfl (hb hby at_87) rfl ((if0 _ _).trans (teq hl0).2) k) ?_
        refine own_pre (T' := T20) (g' := (mkF m 92 L22 [(.double v18)])) (fun t k => XS.dload X20.here hx rfl (v := v18) (hb hby at_90) (by rw [← hL22]; rfl) k) ?_
        refine own_pre (T' := T20) (g' := (mkF m 93 L22 [(.double (0 : UInt64)), (.double v18)])) (fun t k => XS.dconst0 X20.here hx rfl (v := (0 : UInt64)) (hb hby at_92) (by decide) k) ?_
        obtain ⟨k253, hk253⟩ : ∃ z, own_c (FP.Core.zval FP.Core.b64 (FP.Core.val64 v18)) (FP.Core.zval FP.Core.b64 (FP.Core.val64 (0 : UInt64))) = z := ⟨_, rfl⟩
        refine own_pre (T' := T20) (g' := (mkF m 94 L22 [(.int k253)])) (fun t k => XS.dcmpS X20.here hx rfl (hb hby at_93) rfl ((own_dcmpz U1.nn own_nn0 _).trans hk253) k) ?_
        have g2 : v18 = 0 := by rw [← hv18, hl0]; exact own_t0 hb1
        have g3 : k253 = (0 : Int32) := by rw [← hk253, own_c_eq, g2]
        refine own_pre (T' := T20) (g' := (mkF m 99 L22 [])) (fun t k => XS.ifYes X20.here hx rfl (pc0 := 94) (pc' := 99) rfl (hb hby at_94) rfl ((if0 _ _).trans (teq g3).1) (by decide) (by decide) k) ?_
        exact fin
      · skip
        refine own_pre (T' := T20) (g' := (mkF m 99 L22 [])) (fun t k => XS.ifYes X20.here hx rfl (pc0 := 87) (pc' := 99) rfl (hb hby at_87) rfl ((if0 _ _).trans (feq hl0).2) (by decide) (by decide) k) ?_
        exact fin
  · skip
    refine own_pre (T' := T20) (g' := (mkF m 85 L22 [])) (fun t k => XS.ifYes X20.here hx rfl (pc0 := 66) (pc' := 85) rfl (hb hby at_66) rfl ((if0 _ _).trans (flt hp).2.2.2) (by decide) (by decide) k) ?_
    refine own_pre (T' := T20) (g' := (mkF m 87 L22 [(.int v9)])) (fun t k => XS.iload X20.here hx rfl (v := v9) (hb hby at_85) (by rw [← hL22]; rfl) k) ?_
    by_cases hl0 : v9 = (0 : Int32)
    · skip
      refine own_pre (T' := T20) (g' := (mkF m 90 L22 [])) (fun t k => XS.ifNo X20.here hx rfl (hb hby at_87) rfl ((if0 _ _).trans (teq hl0).2) k) ?_
      refine own_pre (T' := T20) (g' := (mkF m 92 L22 [(.double v18)])) (fun t k => XS.dload X20.here hx rfl (v := v18) (hb hby at_90) (by rw [← hL22]; rfl) k) ?_
      refine own_pre (T' := T20) (g' := (mkF m 93 L22 [(.double (0 : UInt64)), (.double v18)])) (fun t k => XS.dconst0 X20.here hx rfl (v := (0 : UInt64)) (hb hby at_92) (by decide) k) ?_
      obtain ⟨k254, hk254⟩ : ∃ z, own_c (FP.Core.zval FP.Core.b64 (FP.Core.val64 v18)) (FP.Core.zval FP.Core.b64 (FP.Core.val64 (0 : UInt64))) = z := ⟨_, rfl⟩
      refine own_pre (T' := T20) (g' := (mkF m 94 L22 [(.int k254)])) (fun t k => XS.dcmpS X20.here hx rfl (hb hby at_93) rfl ((own_dcmpz U1.nn own_nn0 _).trans hk254) k) ?_
      have g2 : v18 = 0 := by rw [← hv18, hl0]; exact own_t0 hb1
      have g3 : k254 = (0 : Int32) := by rw [← hk254, own_c_eq, g2]
      refine own_pre (T' := T20) (g' := (mkF m 99 L22 [])) (fun t k => XS.ifYes X20.here hx rfl (pc0 := 94) (pc' := 99) rfl (hb hby at_94) rfl ((if0 _ _).trans (teq g3).1) (by decide) (by decide) k) ?_
      exact fin
    · skip
      refine own_pre (T' := T20) (g' := (mkF m 99 L22 [])) (fun t k => XS.ifYes X20.here hx rfl (pc0 := 87) (pc' := 99) rfl (hb hby at_87) rfl ((if0 _ _).trans (feq hl0).2) (by decide) (by decide) k) ?_
      exact fin
set_option maxRecDepth 65536 in
set_option maxHeartbeats 40000000 in
theorem own_comes {Post : Tables → Env → Array Value → State → Outcome → State → Prop} (hpost : ∀ tb e args s v u, (limb_1_1.after args s (.returned v) u = true ∧ limb_1_2.after args s (.returned v) u = true ∧ True) → FrameEnd s (.returned v) u (Jvm.fieldLocs frame_1_writes args s ++ Jvm.arrayLocs frame_1_arrays args s ++ Jvm.staticLocs frame_1_statics s) 40 128 → Post tb e args s (.returned v) u) :
    ArmFor flags0 classFile x code maxLocals ret World_1 tables_1 room_1 Calls_1 rest_1 Pre_1 Post := by
  intro l hfl _ _ p e ha hc hk s m args below hf hA hF happ hP
  obtain ⟨hcalls, hrest, hpre⟩ := hP
  obtain ⟨-, -, -, hnamed, -, -, -, hat⟩ := (Spec.applies_iff hf).mp happ
  obtain ⟨hg, hn⟩ := and_e (Cond.before_iff.mp (show (Jvm.Cond.and given_1 narrow_1).before args s = true from hpre))
  obtain ⟨hcount, g0⟩ := and_e hg
  obtain ⟨k0, g1⟩ := and_e g0
  obtain ⟨k1, g2⟩ := and_e g1
  obtain ⟨k2, g3⟩ := and_e g2
  obtain ⟨k3, g4⟩ := and_e g3
  have k4 := g4
  obtain ⟨w0, w1, w2, w3, w4, rfl⟩ : ∃ w0 w1 w2 w3 w4, args = #[w0, w1, w2, w3, w4] := by
    have hs : args.size = 5 := by simpa [Cond.value, given_1] using hcount
    obtain ⟨L⟩ := args
    match L, hs with
    | [w0, w1, w2, w3, w4], _ => exact ⟨w0, w1, w2, w3, w4, rfl⟩
  have hw := fun d (hd : d ∈ tables_1) => atoms_spec (ws := Jvm.Cond.code x code maxLocals ret :: tables_1) hat d (List.mem_cons_of_mem _ hd)
  obtain ⟨i0, e0⟩ := is_v k0
  obtain rfl : w0 = (.int i0) := Option.some.inj e0
  obtain ⟨i1, e1⟩ := is_v k1
  obtain rfl : w1 = (.int i1) := Option.some.inj e1
  obtain ⟨i2, e2⟩ := is_v k2
  obtain rfl : w2 = (.int i2) := Option.some.inj e2
  obtain ⟨i3, e3⟩ := is_v k3
  obtain rfl : w3 = (.int i3) := Option.some.inj e3
  obtain ⟨i4, e4⟩ := is_v k4
  obtain rfl : w4 = (.int i4) := Option.some.inj e4
  obtain ⟨n, o, h1, h2, h3, _, L, rfl, ⟨rfl, N⟩, hq⟩ := own_law l s _ hw tables_1 i0 i1 i2 i3 i4 s.heap s.heap.size (Nat.le_refl _)  p e ha hc hk s m _ below hf ((Spec.applies_iff_loose hf).mp happ).1 ⟨rfl, State.Warmed39.refl s, rfl⟩ trivial
  refine ⟨n, _, h1, h2, h3, hpost _ _ _ _ _ _ ⟨Cond.after_iff.mpr rfl, Cond.after_iff.mpr (eq_i res_at (Term.int_eval (1)) rfl), trivial⟩ ⟨hq.1, hq.2.1, (hq.2.2.sift fun y hy => Or.inr (N y hy)).mono (by decide) (by decide)⟩⟩
theorem main_1_1 : Claimed_1_1 := own_comes fun _ _ _ _ _ _ h hF => ⟨h.1, hF⟩
theorem main_1_2 : Claimed_1_2 := own_comes fun _ _ _ _ _ _ h hF => ⟨h.2.1, hF⟩
end Jvm.Pilot.@@N@@
namespace Jvm.Pilot.@@N@@
open Jvm Jvm.ClassFile Sem Op Lib Jvm.Free Jvm.Stand Jvm.Pilot.@@N@@.Jvm.D
/-! MADE BY PROGRAM (witnessworld.py) out of the Statement's table words and the real class files: 9 classes; the members and pool entries that the words name. The judged class is class 1, her method 4. -/
namespace start1
open Jvm.ClassFile
def u (s : String) : CpInfo := .utf8 (stringToUtf16 s)
/-- a pool by its gaps: so many unusable entries, then the entry; so many at the end -/
def gap : Nat → List CpInfo → List CpInfo
  | 0, r => r
  | n + 1, r => .unusable :: gap n r
def poolList (es : List (Nat × CpInfo)) (last : Nat) : List CpInfo := es.foldr (fun e r => gap e.1 (e.2 :: r)) (gap last [])
def pool (es : List (Nat × CpInfo)) (last : Nat) : Array CpInfo := ⟨poolList es last⟩
def fileOf (pool : Array CpInfo) (this : Nat) (attrs : Array Attribute := #[]) (ms : Array MethodInfo := #[]) (fl : Nat := 33) (sup : Nat := 0) (ifs : Array Nat := #[]) (fds : Array FieldInfo := #[]) : ClassFile where
  minorVersion := 0
  majorVersion := 65
  constantPool := pool
  accessFlags := fl
  thisClass := this
  superClass := sup
  interfaces := ifs
  fields := fds
  methods := ms
  attributes := attrs
def plain (name : String) (sup : Option ClassId) : Class where
  name := name
  kind := .ordinary
  loader := none
  accessFlags := 33
  super := sup
  interfaces := #[]
  cf := none
  fields := #[]
  methods := #[]
  instanceTypes := #[]
  staticTypes := #[]
  resolved := #[]
  callSites := []
  init := .initialized
  statics := none
  mirror := none

def pool0 : Array CpInfo := pool [(5, u "<init>"), (0, u "()V"), (1, .class_ 10), (1, u "java/lang/Object"), (85, u "clone"), (0, u "()Ljava/lang/Object;")] 26

def k0c0 : Code := { maxStack := 0, maxLocals := 1, code := object_method_1_code, exceptionTable := #[], attributes := #[] }
def k0m0 : Method := { name := "<init>", desc := "()V", sig := { parameters := [], returnType := none }, accessFlags := 1, code := some k0c0 }
def k0m1 : Method := { name := "clone", desc := "()Ljava/lang/Object;", sig := { parameters := [], returnType := some (.object "java/lang/Object") }, accessFlags := 260, code := none }
/-- java/lang/Object -/
def k0 : Class := { plain "java/lang/Object" none with
  accessFlags := 33
  interfaces := #[]
  cf := some (fileOf pool0 8 #[] #[{ accessFlags := 1, nameIndex := 5, descriptorIndex := 6, attributes := #[] }, { accessFlags := 260, nameIndex := 96, descriptorIndex := 97, attributes := #[] }] 33 0 #[] #[])
  fields := #[]
  methods := #[k0m0, k0m1]
  instanceTypes := #[]
  staticTypes := #[]
  resolved := Array.replicate 124 none
  statics := none }

def pool1 : Array CpInfo := pool [(2, .class_ 4), (1, u "java/lang/Object"), (0, u "<init>"), (0, u "()V"), (0, .integer 2147483647), (0, .long 2147483647), (1, .methodref 11 12), (0, .class_ 13), (0, .nameAndType 14 15), (0, u "com/example/gyges/gyges/model/LevelsGetPrecisionPinLaw"), (0, u "height"), (0, u "(II)I"), (0, .methodref 11 17), (0, .nameAndType 18 19), (0, u "level"), (0, u "(III)I"), (0, .methodref 11 21), (0, .nameAndType 22 23), (0, u "term"), (0, u "(II)D"), (0, .class_ 25), (0, u "com/example/gyges/gyges/model/Levels"), (0, .methodref 24 27), (0, .nameAndType 5 28), (0, u "([I[I)V"), (0, .methodref 24 30), (0, .nameAndType 31 32), (0, u "getPrecision"), (0, u "()D"), (0, .double 4611686018427387904), (4, u "law"), (0, u "(IIIII)Z")] 2

def k1m0 : Method := { name := "<init>", desc := "()V", sig := { parameters := [], returnType := none }, accessFlags := 1, code := none }
def k1c1 : Code := { maxStack := 2, maxLocals := 2, code := method_2_code, exceptionTable := #[], attributes := #[] }
def k1m1 : Method := { name := "height", desc := "(II)I", sig := { parameters := [.int, .int], returnType := some .int }, accessFlags := 10, code := some k1c1 }
def k1c2 : Code := { maxStack := 6, maxLocals := 3, code := method_3_code, exceptionTable := #[], attributes := #[] }
def k1m2 : Method := { name := "level", desc := "(III)I", sig := { parameters := [.int, .int, .int], returnType := some .int }, accessFlags := 10, code := some k1c2 }
def k1c3 : Code := { maxStack := 4, maxLocals := 2, code := method_4_code, exceptionTable := #[], attributes := #[] }
def k1m3 : Method := { name := "term", desc := "(II)D", sig := { parameters := [.int, .int], returnType := some .double }, accessFlags := 10, code := some k1c3 }
def k1c4 : Code := { maxStack := 7, maxLocals := 26, code := code, exceptionTable := #[], attributes := #[] }
def k1m4 : Method := { name := "law", desc := "(IIIII)Z", sig := { parameters := [.int, .int, .int, .int, .int], returnType := some .boolean }, accessFlags := 9, code := some k1c4 }
/-- com/example/gyges/gyges/model/LevelsGetPrecisionPinLaw -/
def k1 : Class := { plain "com/example/gyges/gyges/model/LevelsGetPrecisionPinLaw" (some 0) with
  accessFlags := 49
  interfaces := #[]
  cf := some (fileOf pool1 11 #[] #[{ accessFlags := 1, nameIndex := 5, descriptorIndex := 6, attributes := #[] }, { accessFlags := 10, nameIndex := 14, descriptorIndex := 15, attributes := #[] }, { accessFlags := 10, nameIndex := 18, descriptorIndex := 19, attributes := #[] }, { accessFlags := 10, nameIndex := 22, descriptorIndex := 23, attributes := #[] }, { accessFlags := 9, nameIndex := 38, descriptorIndex := 39, attributes := #[] }] 49 2 #[] #[])
  fields := #[]
  methods := #[k1m0, k1m1, k1m2, k1m3, k1m4]
  instanceTypes := #[]
  staticTypes := #[]
  resolved := Array.replicate 42 none
  statics := none }

def pool2 : Array CpInfo := pool [(1, .class_ 2), (0, u "com/example/gyges/gyges/model/Levels"), (0, .long 18446744073709551615), (1, .methodref 1 6), (0, .nameAndType 7 8), (0, u "<init>"), (0, u "([I[IJ)V"), (9, .methodref 19 20), (0, .class_ 21), (0, .nameAndType 7 22), (0, u "java/lang/Object"), (0, u "()V"), (4, .methodref 28 29), (0, .class_ 30), (0, .nameAndType 31 32), (0, u "[I"), (0, u "clone"), (0, u "()Ljava/lang/Object;"), (0, .fieldref 1 34), (0, .nameAndType 35 30), (0, u "levels"), (0, .fieldref 1 37), (0, .nameAndType 38 30), (0, u "heights"), (0, .fieldref 1 40), (0, .nameAndType 41 42), (0, u "nodesChecked"), (0, u "J"), (15, u "GIVEN"), (1, u "([I[I)V"), (9, u "getPrecision"), (0, u "()D")] 24

def k2c0 : Code := { maxStack := 5, maxLocals := 3, code := prog_43_method_1_code, exceptionTable := #[], attributes := #[] }
def k2m0 : Method := { name := "<init>", desc := "([I[I)V", sig := { parameters := [(.array .int), (.array .int)], returnType := none }, accessFlags := 1, code := some k2c0 }
def k2c1 : Code := { maxStack := 5, maxLocals := 6, code := prog_43_method_3_code, exceptionTable := #[], attributes := #[] }
def k2m1 : Method := { name := "<init>", desc := "([I[IJ)V", sig := { parameters := [(.array .int), (.array .int), .long], returnType := none }, accessFlags := 2, code := some k2c1 }
def k2c2 : Code := { maxStack := 6, maxLocals := 4, code := prog_43_method_6_code, exceptionTable := #[], attributes := #[] }
def k2m2 : Method := { name := "getPrecision", desc := "()D", sig := { parameters := [], returnType := some .double }, accessFlags := 1, code := some k2c2 }
/-- com/example/gyges/gyges/model/Levels -/
def k2 : Class := { plain "com/example/gyges/gyges/model/Levels" (some 0) with
  accessFlags := 49
  interfaces := #[]
  cf := some (fileOf pool2 1 #[] #[{ accessFlags := 1, nameIndex := 7, descriptorIndex := 60, attributes := #[] }, { accessFlags := 2, nameIndex := 7, descriptorIndex := 8, attributes := #[] }, { accessFlags := 1, nameIndex := 70, descriptorIndex := 71, attributes := #[] }] 49 19 #[] #[{ accessFlags := 26, nameIndex := 58, descriptorIndex := 42, attributes := #[] }, { accessFlags := 18, nameIndex := 35, descriptorIndex := 30, attributes := #[] }, { accessFlags := 18, nameIndex := 38, descriptorIndex := 30, attributes := #[] }, { accessFlags := 18, nameIndex := 41, descriptorIndex := 42, attributes := #[] }])
  fields := #[{ name := "GIVEN", type := .long, accessFlags := 26, slot := 0, constantValue := 0 }, { name := "levels", type := (.array .int), accessFlags := 18, slot := 0, constantValue := 0 }, { name := "heights", type := (.array .int), accessFlags := 18, slot := 1, constantValue := 0 }, { name := "nodesChecked", type := .long, accessFlags := 18, slot := 2, constantValue := 0 }]
  methods := #[k2m0, k2m1, k2m2]
  instanceTypes := #[(.array .int), (.array .int), .long]
  staticTypes := #[.long]
  resolved := Array.replicate 96 none
  statics := none }

def pool3 : Array CpInfo := pool [(1, .class_ 2), (0, u "java/lang/Cloneable"), (0, .class_ 4), (0, u "java/lang/Object")] 2

/-- java/lang/Cloneable -/
def k3 : Class := { plain "java/lang/Cloneable" (some 0) with
  accessFlags := 1537
  interfaces := #[]
  cf := some (fileOf pool3 1 #[] #[] 1537 3 #[] #[])
  fields := #[]
  methods := #[]
  instanceTypes := #[]
  staticTypes := #[]
  resolved := Array.replicate 7 none
  statics := none }

def pool4 : Array CpInfo := pool [(1, u "java/io/Serializable"), (0, .class_ 1), (0, u "java/lang/Object"), (0, .class_ 3)] 3

/-- java/io/Serializable -/
def k4 : Class := { plain "java/io/Serializable" (some 0) with
  accessFlags := 1537
  interfaces := #[]
  cf := some (fileOf pool4 2 #[] #[] 1537 4 #[] #[])
  fields := #[]
  methods := #[]
  instanceTypes := #[]
  staticTypes := #[]
  resolved := Array.replicate 8 none
  statics := none }

/-- the primitive byte -/
def k5 : Class := { plain "byte" none with kind := .primitive 'B', accessFlags := 0x411 }
/-- [B -/
def k6 : Class := { plain "[B" (some 0) with kind := .array 5 .byte, interfaces := #[3, 4], accessFlags := 1041 }

/-- the primitive int -/
def k7 : Class := { plain "int" none with kind := .primitive 'I', accessFlags := 0x411 }
/-- [I -/
def k8 : Class := { plain "[I" (some 0) with kind := .array 7 .int, interfaces := #[3, 4], accessFlags := 1041 }

def heap : Heap := #[]
def classes : Array Class := #[k0, k1, k2, k3, k4, k5, k6, k7, k8]
def interned : List (Array UInt16 × Addr) := []
def slotsUsed : Nat := 0
def theMethod : MethodId := ⟨1, 4⟩
def args0 : Array Value := #[.int 5, .int 7, .int 9, .int 9, .int 9]
def aboutOver (below : List Frame) : State where
  vm := { classes := classes, interned := interned.toArray }
  heap := heap
  slotsUsed := slotsUsed
  threads := #[{ frames := .invoking theMethod args0 :: below }]
def below0 : List Frame := [.native { method := ⟨0, 0⟩, args := #[] }]
def about1 : State := aboutOver below0
def p0 : Program := .bare "" "" ""
def e0 : Env := launch0.env 0 0 0
theorem w_frames : about1.frames = Frame.invoking theMethod args0 :: below0 := rfl
set_option maxRecDepth 65536 in
theorem w_args : argsFit about1.vm theMethod args0 = true := by decide +kernel
set_option maxRecDepth 65536 in
theorem w_heap : heapFits about1 = true := by decide +kernel
set_option maxRecDepth 65536 in
theorem w_runnable : about1.curStatus? = some .runnable := by decide +kernel
set_option maxRecDepth 65536 in
theorem w_alone : about1.alone = true := by decide +kernel
set_option maxRecDepth 65536 in
theorem w_named : about1.methodNamed? x = some theMethod := by decide +kernel
set_option maxRecDepth 65536 in
theorem w_hears : about1.hears theMethod below0 = true := by decide +kernel
set_option maxRecDepth 65536 in
theorem w_ripe : about1.ripe theMethod args0 below0 = true := by decide +kernel
theorem w_running : about1.status = .running := rfl
set_option maxRecDepth 65536 in
theorem w_room : about1.hasRoom e0.platform room_1 = true :=
  launch0.hasRoom_least _ room_1 (by decide +kernel) (by decide +kernel) (by decide +kernel) (by decide +kernel) (by decide +kernel) (by decide +kernel)
theorem allAtoms_all (ts : List Jvm.Cond) (a : Array Jvm.Value) (st : Jvm.State) : (allAtoms ts).before a st = ts.all (fun c => c.before a st) := by
  induction ts with
  | nil => rfl
  | cons c t ih =>
    show (Jvm.Cond.and c (allAtoms t)).before a st = _
    rw [Jvm.Cond.before_and, ih, List.all_cons]
def words1 : List Jvm.Cond := Jvm.Cond.code x code maxLocals ret :: tables_1
/-- a 'code' word, met by the world's own term for the bytes: nothing is compared byte by byte -/
theorem code_word {y : MethodName} {bytes : ByteArray} {mx : Nat} {rt : Option FieldType} {a : Array Value} {s : State} {m : MethodId} {meth : Method} {c : Code} (h1 : s.methodNamed? y = some m) (h2 : s.vm.method? m = some meth) (h3 : meth.code = some c) (h4 : c.code = bytes)
    (h5 : (c.maxLocals == mx && c.exceptionTable.isEmpty && decide (c.maxStack ≤ mostOperands) && decide (meth.sig.returnType = rt) && !meth.locks && decide (parseMethodDescriptor y.desc = some meth.sig)) = true) : (Jvm.Cond.code y bytes mx rt).before a s = true := by
  simp only [Bool.and_eq_true, beq_iff_eq, Bool.not_eq_true', decide_eq_true_eq] at h5
  obtain ⟨⟨⟨⟨⟨g1, g2⟩, g3⟩, g4⟩, g5⟩, g6⟩ := h5
  simp [Cond.before, Cond.holds, Cond.value, h1, h2, h3, h4, g1, g2, g3, g4, g5, g6]
def isCode : Jvm.Cond → Bool
  | .code _ _ _ _ => true
  | _ => false
theorem all_split {L : List Jvm.Cond} {P : Jvm.Cond → Bool} (h1 : L.all (fun c => isCode c || P c) = true) (h2 : ∀ c ∈ L.filter isCode, P c = true) : L.all P = true := by
  refine List.all_eq_true.mpr fun c hc => ?_
  have h := List.all_eq_true.mp h1 c hc
  rcases Bool.eq_false_or_eq_true (isCode c) with hi | hi
  · exact h2 c (List.mem_filter.mpr ⟨hc, hi⟩)
  · simpa [hi] using h
set_option maxRecDepth 65536 in
theorem w_c0 : (Jvm.Cond.code x code maxLocals ret).before args0 about1 = true := code_word (m := ⟨1, 4⟩) (meth := k1m4) (c := k1c4) (by decide +kernel) rfl rfl rfl (by decide +kernel)
set_option maxRecDepth 65536 in
theorem w_c1 : (Jvm.Cond.code ({ cls := "com/example/gyges/gyges/model/LevelsGetPrecisionPinLaw", name := "height", desc := "(II)I" } : Jvm.MethodName) method_2_code (2 : Nat) (Option.some Jvm.ClassFile.FieldType.int)).before args0 about1 = true := code_word (m := ⟨1, 1⟩) (meth := k1m1) (c := k1c1) (by decide +kernel) rfl rfl rfl (by decide +kernel)
set_option maxRecDepth 65536 in
theorem w_c2 : (Jvm.Cond.code ({ cls := "com/example/gyges/gyges/model/LevelsGetPrecisionPinLaw", name := "level", desc := "(III)I" } : Jvm.MethodName) method_3_code (3 : Nat) (Option.some Jvm.ClassFile.FieldType.int)).before args0 about1 = true := code_word (m := ⟨1, 2⟩) (meth := k1m2) (c := k1c2) (by decide +kernel) rfl rfl rfl (by decide +kernel)
set_option maxRecDepth 65536 in
theorem w_c3 : (Jvm.Cond.code ({ cls := "com/example/gyges/gyges/model/LevelsGetPrecisionPinLaw", name := "term", desc := "(II)D" } : Jvm.MethodName) method_4_code (2 : Nat) (Option.some Jvm.ClassFile.FieldType.double)).before args0 about1 = true := code_word (m := ⟨1, 3⟩) (meth := k1m3) (c := k1c3) (by decide +kernel) rfl rfl rfl (by decide +kernel)
set_option maxRecDepth 65536 in
theorem w_c4 : (Jvm.Cond.code ({ cls := "com/example/gyges/gyges/model/Levels", name := "<init>", desc := "([I[I)V" } : Jvm.MethodName) prog_43_method_1_code (3 : Nat) (Option.none : Option Jvm.ClassFile.FieldType)).before args0 about1 = true := code_word (m := ⟨2, 0⟩) (meth := k2m0) (c := k2c0) (by decide +kernel) rfl rfl rfl (by decide +kernel)
set_option maxRecDepth 65536 in
theorem w_c5 : (Jvm.Cond.code ({ cls := "com/example/gyges/gyges/model/Levels", name := "<init>", desc := "([I[IJ)V" } : Jvm.MethodName) prog_43_method_3_code (6 : Nat) (Option.none : Option Jvm.ClassFile.FieldType)).before args0 about1 = true := code_word (m := ⟨2, 1⟩) (meth := k2m1) (c := k2c1) (by decide +kernel) rfl rfl rfl (by decide +kernel)
set_option maxRecDepth 65536 in
theorem w_c6 : (Jvm.Cond.code ({ cls := "java/lang/Object", name := "<init>", desc := "()V" } : Jvm.MethodName) object_method_1_code (1 : Nat) (Option.none : Option Jvm.ClassFile.FieldType)).before args0 about1 = true := code_word (m := ⟨0, 0⟩) (meth := k0m0) (c := k0c0) (by decide +kernel) rfl rfl rfl (by decide +kernel)
set_option maxRecDepth 65536 in
theorem w_c7 : (Jvm.Cond.code ({ cls := "com/example/gyges/gyges/model/Levels", name := "getPrecision", desc := "()D" } : Jvm.MethodName) prog_43_method_6_code (4 : Nat) (Option.some Jvm.ClassFile.FieldType.double)).before args0 about1 = true := code_word (m := ⟨2, 2⟩) (meth := k2m2) (c := k2c2) (by decide +kernel) rfl rfl rfl (by decide +kernel)
def codes1 : List Jvm.Cond := [Jvm.Cond.code x code maxLocals ret, Jvm.Cond.code ({ cls := "com/example/gyges/gyges/model/LevelsGetPrecisionPinLaw", name := "height", desc := "(II)I" } : Jvm.MethodName) method_2_code (2 : Nat) (Option.some Jvm.ClassFile.FieldType.int), Jvm.Cond.code ({ cls := "com/example/gyges/gyges/model/LevelsGetPrecisionPinLaw", name := "level", desc := "(III)I" } : Jvm.MethodName) method_3_code (3 : Nat) (Option.some Jvm.ClassFile.FieldType.int), Jvm.Cond.code ({ cls := "com/example/gyges/gyges/model/LevelsGetPrecisionPinLaw", name := "term", desc := "(II)D" } : Jvm.MethodName) method_4_code (2 : Nat) (Option.some Jvm.ClassFile.FieldType.double), Jvm.Cond.code ({ cls := "com/example/gyges/gyges/model/Levels", name := "<init>", desc := "([I[I)V" } : Jvm.MethodName) prog_43_method_1_code (3 : Nat) (Option.none : Option Jvm.ClassFile.FieldType), Jvm.Cond.code ({ cls := "com/example/gyges/gyges/model/Levels", name := "<init>", desc := "([I[IJ)V" } : Jvm.MethodName) prog_43_method_3_code (6 : Nat) (Option.none : Option Jvm.ClassFile.FieldType), Jvm.Cond.code ({ cls := "java/lang/Object", name := "<init>", desc := "()V" } : Jvm.MethodName) object_method_1_code (1 : Nat) (Option.none : Option Jvm.ClassFile.FieldType), Jvm.Cond.code ({ cls := "com/example/gyges/gyges/model/Levels", name := "getPrecision", desc := "()D" } : Jvm.MethodName) prog_43_method_6_code (4 : Nat) (Option.some Jvm.ClassFile.FieldType.double)]
set_option maxRecDepth 65536 in
theorem codes_eq : words1.filter isCode = codes1 := rfl
theorem w_codes : ∀ c ∈ words1.filter isCode, c.before args0 about1 = true := by
  rw [codes_eq]
  intro c hc
  simp only [codes1, List.mem_cons, List.not_mem_nil, or_false] at hc
  rcases hc with rfl | rfl | rfl | rfl | rfl | rfl | rfl | rfl
  · exact w_c0
  · exact w_c1
  · exact w_c2
  · exact w_c3
  · exact w_c4
  · exact w_c5
  · exact w_c6
  · exact w_c7
set_option maxRecDepth 65536 in
theorem w_t1 : (words1.take 24).all (fun c => isCode c || c.before args0 about1) = true := by decide +kernel
set_option maxRecDepth 65536 in
theorem w_t2 : (words1.drop 24).all (fun c => isCode c || c.before args0 about1) = true := by decide +kernel
theorem w_tables : (allAtoms (Jvm.Cond.code x code maxLocals ret :: tables_1)).before args0 about1 = true := by
  rw [allAtoms_all]
  show words1.all (fun c => c.before args0 about1) = true
  refine all_split ?_ w_codes
  rw [← List.take_append_drop 24 words1, List.all_append, w_t1, w_t2]
  rfl
set_option maxRecDepth 65536 in
theorem w_case : (Jvm.Cond.and given_1 narrow_1).before args0 about1 = true := by decide +kernel
theorem w_applies : (headSpec (Jvm.Cond.code x code maxLocals ret :: tables_1) room_1).applies x e0.platform about1 = true :=
  (Spec.applies_iff w_frames).mpr ⟨w_running, w_runnable, w_alone, w_named, w_hears, w_ripe, w_room, w_tables⟩
theorem atStart : AtStart classFile x code maxLocals ret World_1 tables_1 room_1 Calls_1 rest_1 Pre_1 launch0 p0 e0 about1 theMethod args0 below0 :=
  ⟨lists_1, trivial, launch0.admits_env _ _ _, launch0.least_env, fairChoices_fair.cas, fairChoices_fair.clock, w_frames, w_args, w_heap, w_applies, trivial, trivial, w_case⟩
end start1
theorem witness_1 : WitnessClaimed_1 := ⟨start1.p0, start1.e0, start1.about1, start1.theMethod, start1.args0, start1.below0, start1.atStart⟩
end Jvm.Pilot.@@N@@
