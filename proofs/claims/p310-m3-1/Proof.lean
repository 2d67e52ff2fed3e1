import JvmDerived
import JvmDerived.Pilot.@@N@@Statement
import JvmDerived.Pilot.@@N@@Code
set_option linter.unusedVariables false
set_option linter.unusedSimpArgs false
namespace Jvm.RoadKit
open Sem ClassFile Op Lib Jvm.Stand Jvm.Free Jvm.LawKit
/-- what is left of a walk: from this frame the method returns, and what it leaves is as Q says -/
def own_Go (p : Program) (e : Env) (below : List Frame) (s : State) (Q : Option Value → Heap → List Loc → Prop) (kc ks : Nat) (T : State) (g : JFrame) : Prop :=
  ∃ s₂ o, Steps p.tables e below (T.setTop g) s₂ ∧ s₂.status = .running ∧ Ended s₂ below o ∧ ∃ v L, o = .returned v ∧ Q v s₂.heap L ∧ FrameEnd s o s₂ L kc ks
section Own
variable {p : Program} {l : Launch} {e : Env} {R : Room} {s : State} {m : MethodId} {args : Array Value} {below : List Frame} {meth : Method} {c : Code} {T T' : State} {locs : List Loc} {cells slots : Nat} {Z : State} {h h' h0 : Heap} {Q : Option Value → Heap → List Loc → Prop} {kc ks : Nat} {g g' : JFrame} {a0 : Array Value} {pc : Nat} {Ls : Array Slot} {rest : List Value} {a b : Addr} {n0 : Nat} {ty : FieldType} {vs : List Value} {C : String} {sl : Nat} {v : Value} {ws : List Addr}
theorem own_pre (st : ∀ t, Steps p.tables e below (T'.setTop g') t → Steps p.tables e below (T.setTop g) t) (k : own_Go p e below s Q kc ks T' g') : own_Go p e below s Q kc ks T g := by
  obtain ⟨s₂, o, h1, r⟩ := k
  exact ⟨s₂, o, st _ h1, r⟩
theorem own_tr (st : Steps p.tables e below (T.setTop g) (T'.setTop g')) (k : own_Go p e below s Q kc ks T' g') : own_Go p e below s Q kc ks T g := by
  obtain ⟨s₂, o, h1, r⟩ := k
  exact ⟨s₂, o, st.trans h1, r⟩
theorem own_cast (q : g = g') (k : own_Go p e below s Q kc ks T g') : own_Go p e below s Q kc ks T g := q ▸ k
theorem own_ret (X : Stand p l e R s m args below meth c T locs cells slots) (hlk : meth.locks = false) {v : Option Value} (hv : meth.sig.returnType = none → v = none) (eT : T.heap = h)
    (st : ∀ fs, (∀ (f : JFrame) (acts : List Action), f.method = m → f.locked = none → f.entered = [] → (doReturn e (T.setTop f) acts v).1 = T.setFrames fs) → Steps p.tables e below (T.setTop g) (T.setFrames fs))
    (hq : Q v h locs) (hc : cells ≤ kc) (hs : slots ≤ ks) : own_Go p e below s Q kc ks T g := by
  obtain ⟨fs, hr, hrun, hended, hW, hsame⟩ := X.leave (v := v) hv hlk
  exact ⟨_, _, st fs hr, hrun, hended, _, _, rfl, (by show Q v T.heap _; rw [eT]; exact hq), ⟨_, rfl⟩, hW, hsame.mono hc hs⟩
theorem own_ret0 (X : Stand p l e R s m args below meth c T locs cells slots) (hx : p.tables.exec = Jvm.exec) (hlk : meth.locks = false) (hret : meth.sig.returnType = none) (hd : decode c.code pc = .ok (.return_, 1)) (eT : T.heap = h) (hq : Q none h locs) (hc : cells ≤ kc) (hs : slots ≤ ks) : own_Go p e below s Q kc ks T (mkF m pc Ls []) :=
  own_ret X hlk (fun _ => rfl) eT (fun _ hr => X.returnOut hx hret hd hr) hq hc hs
theorem own_ret1 (X : Stand p l e R s m args below meth c T locs cells slots) (hx : p.tables.exec = Jvm.exec) (hlk : meth.locks = false) {w : Value} {t : FieldType} {i : Instr} (hret : meth.sig.returnType = some t) (hn : narrow t w = w)
    (hi : (i = .ireturn ∧ (t = .int ∨ t = .boolean ∨ t = .byte ∨ t = .char ∨ t = .short) ∧ ∃ z, w = .int z) ∨ (i = .lreturn ∧ t = .long ∧ ∃ z, w = .long z) ∨ (i = .dreturn ∧ t = .double ∧ ∃ z, w = .double z) ∨ (i = .freturn ∧ t = .float ∧ ∃ z, w = .float z) ∨ (i = .areturn ∧ t.isReference = true ∧ w.isRef = true))
    (hd : decode c.code pc = .ok (i, 1)) (eT : T.heap = h) (hq : Q (some w) h locs) (hc : cells ≤ kc) (hs : slots ≤ ks) : own_Go p e below s Q kc ks T (mkF m pc Ls (w :: rest)) :=
  own_ret X hlk (fun q => by rw [hret] at q; cases q) eT (fun _ hr => retOut X hx hret hn hi hd hr) hq hc hs
theorem own_retI (X : Stand p l e R s m args below meth c T locs cells slots) (hx : p.tables.exec = Jvm.exec) (hlk : meth.locks = false) {z : Int32} (hret : meth.sig.returnType = some .int) (hd : decode c.code pc = .ok (.ireturn, 1)) (eT : T.heap = h) (hq : Q (some (.int z)) h locs) (hc : cells ≤ kc) (hs : slots ≤ ks) : own_Go p e below s Q kc ks T (mkF m pc Ls (.int z :: rest)) :=
  own_ret1 X hx hlk hret rfl (Or.inl ⟨rfl, Or.inl rfl, _, rfl⟩) hd eT hq hc hs
theorem own_retZ (X : Stand p l e R s m args below meth c T locs cells slots) (hx : p.tables.exec = Jvm.exec) (hlk : meth.locks = false) {z : Int32} (hret : meth.sig.returnType = some .boolean) (hn : narrow .boolean (.int z) = .int z) (hd : decode c.code pc = .ok (.ireturn, 1)) (eT : T.heap = h) (hq : Q (some (.int z)) h locs) (hc : cells ≤ kc) (hs : slots ≤ ks) : own_Go p e below s Q kc ks T (mkF m pc Ls (.int z :: rest)) :=
  own_ret1 X hx hlk hret hn (Or.inl ⟨rfl, Or.inr (Or.inl rfl), _, rfl⟩) hd eT hq hc hs
theorem own_retL (X : Stand p l e R s m args below meth c T locs cells slots) (hx : p.tables.exec = Jvm.exec) (hlk : meth.locks = false) {z : Int64} (hret : meth.sig.returnType = some .long) (hd : decode c.code pc = .ok (.lreturn, 1)) (eT : T.heap = h) (hq : Q (some (.long z)) h locs) (hc : cells ≤ kc) (hs : slots ≤ ks) : own_Go p e below s Q kc ks T (mkF m pc Ls (.long z :: rest)) :=
  own_ret1 X hx hlk hret rfl (Or.inr (Or.inl ⟨rfl, rfl, _, rfl⟩)) hd eT hq hc hs
theorem own_retD (X : Stand p l e R s m args below meth c T locs cells slots) (hx : p.tables.exec = Jvm.exec) (hlk : meth.locks = false) {z : UInt64} (hret : meth.sig.returnType = some .double) (hd : decode c.code pc = .ok (.dreturn, 1)) (eT : T.heap = h) (hq : Q (some (.double z)) h locs) (hc : cells ≤ kc) (hs : slots ≤ ks) : own_Go p e below s Q kc ks T (mkF m pc Ls (.double z :: rest)) :=
  own_ret1 X hx hlk hret rfl (Or.inr (Or.inr (Or.inl ⟨rfl, rfl, _, rfl⟩))) hd eT hq hc hs
theorem own_retA (X : Stand p l e R s m args below meth c T locs cells slots) (hx : p.tables.exec = Jvm.exec) (hlk : meth.locks = false) {w : Value} {t : FieldType} (hret : meth.sig.returnType = some t) (ht : t.isReference = true) (hw : w.isRef = true) (hn : narrow t w = w) (hd : decode c.code pc = .ok (.areturn, 1)) (eT : T.heap = h) (hq : Q (some w) h locs) (hc : cells ≤ kc) (hs : slots ≤ ks) : own_Go p e below s Q kc ks T (mkF m pc Ls (w :: rest)) :=
  own_ret1 X hx hlk hret hn (Or.inr (Or.inr (Or.inr (Or.inr ⟨rfl, ht, hw⟩)))) hd eT hq hc hs
/-- a contract out of a walk -/
theorem own_met {y : MethodName} {bytes : ByteArray} {maxL : Nat} {ret : Option FieldType} {wds : List Cond} {rm : Room} {as' : Array Value} (hpl : plainName y.cls = true)
    (body : ∀ p e s m below meth c s₁, p.tables.exec = Jvm.exec → c.code = bytes → c.maxLocals = maxL → Z.Warmed39 s.vm → s.vm.findClass y.cls = some m.cls → meth.name = y.name → meth.sig.returnType = ret → meth.locks = false → Stand p l e rm s m as' below meth c s₁ [] 0 0 → s₁.heap = h → own_Go p e below s Q rm.cells rm.slots s₁ (entryFrame m as' maxL)) :
    MetFree l y (head1 (Cond.code y bytes maxL ret :: wds) rm) (fun a U => a = as' ∧ Z.Warmed39 U.vm ∧ U.heap = h) (fun _ _ _ _ _ => True) (fun _ U o U' => ∃ v L, o = .returned v ∧ Q v U'.heap L ∧ FrameEnd U o U' L rm.cells rm.slots) := by
  refine MetFree.of_bodySF (plainFor_of_name hpl) hisR ?_
  intro p e s m args below meth c s₁ Bd hml0 hP hK
  obtain ⟨rfl, hZ, hh⟩ := hP
  exact body p e s m below meth c s₁ Bd.exec Bd.bytes hml0 hZ (findClass_of_methodNamed Bd.named) (name_of_methodNamed Bd.named Bd.method).1 Bd.returns Bd.notSynchronized (Stand.of_body Bd) (by rw [← hh, Bd.state]; rfl)
/-! arrays by their list -/
def own_Ary (Z : State) (h : Heap) (a : Addr) (ty : FieldType) (vs : List Value) : Prop := ∃ c : Cell, Arr Z h a c ty ∧ c.slots.toList = vs ∧ vs.length < 2 ^ 31
theorem own_Ary.lt (F : own_Ary Z h a ty vs) : a < h.size := by obtain ⟨c, A, -⟩ := F; exact A.lt
theorem own_Ary.ext (F : own_Ary Z h a ty vs) (E : Ext h h') : own_Ary Z h' a ty vs := by obtain ⟨c, A, r⟩ := F; exact ⟨c, A.ext E, r⟩
theorem own_Ary.other (F : own_Ary Z h b ty vs) (W : Wr h h' a sl v) (q : b ≠ a) : own_Ary Z h' b ty vs := by obtain ⟨c, A, r⟩ := F; exact ⟨c, A.other W q, r⟩
theorem own_Ary.keep (F : own_Ary Z h a ty vs) (K : Keep h h' ws) (q : a ∉ ws) : own_Ary Z h' a ty vs := by obtain ⟨c, A, r⟩ := F; exact ⟨c, ⟨K.2.1 a c A.1 q, A.2⟩, r⟩
theorem own_Ary.set (F : own_Ary Z h a ty vs) (W : Wr h h' a sl v) : own_Ary Z h' a ty (vs.set sl v) := by
  obtain ⟨c, A, r1, r2⟩ := F
  refine ⟨_, A.same W, ?_, by simpa using r2⟩
  simp [Cell.setSlot, r1]
theorem own_Ary.new {k : ClassId} {z : Int32} {n : Nat} (A : Arr Z h a (newA k ty z) ty) (q : z.toNatClampNeg = n) : own_Ary Z h a ty (List.replicate n (defaultValue ty)) := by
  refine ⟨_, A, ?_, ?_⟩
  · simp [newA, q]
  · have h1 := Int32.toInt_lt z
    simp only [Int32.toNatClampNeg] at q
    simp only [List.length_replicate]; omega
theorem own_inb {j : Int32} {n : Nat} {c : Cell} (h0 : 0 ≤ j) (hc : c.slots.toList = vs) (hj : j.toNatClampNeg = n) (hn : n < vs.length) : ¬ (j < 0 ∨ c.slots.size ≤ j.toNatClampNeg) := by
  subst hc hj
  rw [Array.length_toList] at hn
  intro q
  rcases q with q | q
  · exact absurd q (Int32.not_lt.mpr h0)
  · omega
theorem own_idx {n : Nat} {c : Cell} (hc : c.slots.toList = vs) (hv : vs[n]? = some v) : c.slots[n]? = some v := by
  subst hc; simpa using hv
theorem own_len (X : Stand p l e R s m args below meth c T locs cells slots) (hx : p.tables.exec = Jvm.exec) (hZ : Z.Warmed39 s.vm) (eT : T.heap = h) (F : own_Ary Z h a ty vs) (hd : decode c.code pc = .ok (.arraylength, 1)) {n : Int32} (hn : vs.length.toInt32 = n)
    (k : own_Go p e below s Q kc ks T (mkF m (pc + 1) Ls (.int n :: rest))) : own_Go p e below s Q kc ks T (mkF m pc Ls (.ref a :: rest)) := by
  obtain ⟨cl, A, r1, r2⟩ := F
  refine own_pre (fun t k => X.arraylength hx (cell := cl) (by rw [eT]; exact A.1) (State.isArrayOf_alike hZ.alike A.2.1) (g := mkF m pc Ls (.ref a :: rest)) rfl (rest := rest) rfl hd _ k) ?_
  have q : cl.slots.size = vs.length := by rw [← r1, Array.length_toList]
  rw [q, hn]; exact k
theorem own_iaload (X : Stand p l e R s m args below meth c T locs cells slots) (hx : p.tables.exec = Jvm.exec) (hZ : Z.Warmed39 s.vm) (eT : T.heap = h) (F : own_Ary Z h a .int vs) (hd : decode c.code pc = .ok (.iaload, 1)) {j : Int32} {n : Nat} (h0 : 0 ≤ j) (hj : j.toNatClampNeg = n) (hv : vs[n]? = some v)
    (k : own_Go p e below s Q kc ks T (mkF m (pc + 1) Ls (v :: rest))) : own_Go p e below s Q kc ks T (mkF m pc Ls (.int j :: .ref a :: rest)) := by
  obtain ⟨cl, A, r1, r2⟩ := F
  exact own_pre (fun t k => X.iaload hx (j := j) (v := v) (by rw [eT]; exact A.1) (State.isArrayOf_alike hZ.alike A.2.1) A.2.2 (own_inb h0 r1 hj (List.getElem?_eq_some_iff.mp hv).1) (own_idx r1 (hj ▸ hv)) (g := mkF m pc Ls (.int j :: .ref a :: rest)) rfl rfl hd _ k) k
theorem own_laload (X : Stand p l e R s m args below meth c T locs cells slots) (hx : p.tables.exec = Jvm.exec) (hZ : Z.Warmed39 s.vm) (eT : T.heap = h) (F : own_Ary Z h a .long vs) (hd : decode c.code pc = .ok (.laload, 1)) {j : Int32} {n : Nat} (h0 : 0 ≤ j) (hj : j.toNatClampNeg = n) (hv : vs[n]? = some v)
    (k : own_Go p e below s Q kc ks T (mkF m (pc + 1) Ls (v :: rest))) : own_Go p e below s Q kc ks T (mkF m pc Ls (.int j :: .ref a :: rest)) := by
  obtain ⟨cl, A, r1, r2⟩ := F
  exact own_pre (fun t k => X.laload hx (j := j) (v := v) (by rw [eT]; exact A.1) (State.isArrayOf_alike hZ.alike A.2.1) A.2.2 (own_inb h0 r1 hj (List.getElem?_eq_some_iff.mp hv).1) (own_idx r1 (hj ▸ hv)) (g := mkF m pc Ls (.int j :: .ref a :: rest)) rfl rfl hd _ k) k
theorem own_daload (X : Stand p l e R s m args below meth c T locs cells slots) (hx : p.tables.exec = Jvm.exec) (hZ : Z.Warmed39 s.vm) (eT : T.heap = h) (F : own_Ary Z h a .double vs) (hd : decode c.code pc = .ok (.daload, 1)) {j : Int32} {n : Nat} (h0 : 0 ≤ j) (hj : j.toNatClampNeg = n) (hv : vs[n]? = some v)
    (k : own_Go p e below s Q kc ks T (mkF m (pc + 1) Ls (v :: rest))) : own_Go p e below s Q kc ks T (mkF m pc Ls (.int j :: .ref a :: rest)) := by
  obtain ⟨cl, A, r1, r2⟩ := F
  exact own_pre (fun t k => X.daload hx (j := j) (v := v) (by rw [eT]; exact A.1) (State.isArrayOf_alike hZ.alike A.2.1) A.2.2 (own_inb h0 r1 hj (List.getElem?_eq_some_iff.mp hv).1) (own_idx r1 (hj ▸ hv)) (g := mkF m pc Ls (.int j :: .ref a :: rest)) rfl rfl hd _ k) k
theorem own_zaload (X : Stand p l e R s m args below meth c T locs cells slots) (hx : p.tables.exec = Jvm.exec) (hZ : Z.Warmed39 s.vm) (eT : T.heap = h) (F : own_Ary Z h a .boolean vs) (hd : decode c.code pc = .ok (.baload, 1)) {j : Int32} {n : Nat} (h0 : 0 ≤ j) (hj : j.toNatClampNeg = n) (hv : vs[n]? = some v)
    (k : own_Go p e below s Q kc ks T (mkF m (pc + 1) Ls (v :: rest))) : own_Go p e below s Q kc ks T (mkF m pc Ls (.int j :: .ref a :: rest)) := by
  obtain ⟨cl, A, r1, r2⟩ := F
  exact own_pre (fun t k => X.baloadBooleans hx (j := j) (v := v) (by rw [eT]; exact A.1) (State.isArrayOf_alike hZ.alike A.2.1) A.2.2 (own_inb h0 r1 hj (List.getElem?_eq_some_iff.mp hv).1) (own_idx r1 (hj ▸ hv)) (g := mkF m pc Ls (.int j :: .ref a :: rest)) rfl rfl hd _ k) k
theorem own_aaload (X : Stand p l e R s m args below meth c T locs cells slots) (hx : p.tables.exec = Jvm.exec) (hZ : Z.Warmed39 s.vm) (eT : T.heap = h) (F : own_Ary Z h a ty vs) (ht : ty.isReference = true) (hd : decode c.code pc = .ok (.aaload, 1)) {j : Int32} {n : Nat} (h0 : 0 ≤ j) (hj : j.toNatClampNeg = n) (hv : vs[n]? = some v)
    (k : own_Go p e below s Q kc ks T (mkF m (pc + 1) Ls (v :: rest))) : own_Go p e below s Q kc ks T (mkF m pc Ls (.int j :: .ref a :: rest)) := by
  obtain ⟨cl, A, r1, r2⟩ := F
  exact own_pre (fun t k => X.aaload hx (j := j) (v := v) (by rw [eT]; exact A.1) (State.isArrayOf_alike hZ.alike A.2.1) ht A.2.2 (own_inb h0 r1 hj (List.getElem?_eq_some_iff.mp hv).1) (own_idx r1 (hj ▸ hv)) (g := mkF m pc Ls (.int j :: .ref a :: rest)) rfl rfl hd _ k) k
theorem own_iastore (X : Stand p l e R s m args below meth c T locs cells slots) (hx : p.tables.exec = Jvm.exec) (hZ : Z.Warmed39 s.vm) (eT : T.heap = h) (N : Fr n0 locs) (q : n0 ≤ a) (F : own_Ary Z h a .int vs) (hd : decode c.code pc = .ok (.iastore, 1)) {j x : Int32} {n : Nat} (h0 : 0 ≤ j) (hj : j.toNatClampNeg = n) (hv : n < vs.length)
    (k : ∀ T' h' locs', Stand p l e R s m args below meth c T' locs' cells slots → T'.heap = h' → Fr n0 locs' → Wr h h' a n (.int x) → own_Go p e below s Q kc ks T' (mkF m (pc + 1) Ls rest)) : own_Go p e below s Q kc ks T (mkF m pc Ls (.int x :: .int j :: .ref a :: rest)) := by
  obtain ⟨cl, A, r1, r2⟩ := F
  obtain ⟨T', h', X', e', W, st⟩ := stI X hx hZ eT A (j := j) (x := x) (own_inb h0 r1 hj hv) (g := mkF m pc Ls (.int x :: .int j :: .ref a :: rest)) rfl rfl hd
  exact own_pre st (k T' h' _ X' e' (Fr.snoc X' N q) (hj ▸ W))
theorem own_lastore (X : Stand p l e R s m args below meth c T locs cells slots) (hx : p.tables.exec = Jvm.exec) (hZ : Z.Warmed39 s.vm) (eT : T.heap = h) (N : Fr n0 locs) (q : n0 ≤ a) (F : own_Ary Z h a .long vs) (hd : decode c.code pc = .ok (.lastore, 1)) {j : Int32} {x : Int64} {n : Nat} (h0 : 0 ≤ j) (hj : j.toNatClampNeg = n) (hv : n < vs.length)
    (k : ∀ T' h' locs', Stand p l e R s m args below meth c T' locs' cells slots → T'.heap = h' → Fr n0 locs' → Wr h h' a n (.long x) → own_Go p e below s Q kc ks T' (mkF m (pc + 1) Ls rest)) : own_Go p e below s Q kc ks T (mkF m pc Ls (.long x :: .int j :: .ref a :: rest)) := by
  obtain ⟨cl, A, r1, r2⟩ := F
  obtain ⟨T', h', X', e', W, st⟩ := stJ X hx hZ eT A (j := j) (x := x) (own_inb h0 r1 hj hv) (g := mkF m pc Ls (.long x :: .int j :: .ref a :: rest)) rfl rfl hd
  exact own_pre st (k T' h' _ X' e' (Fr.snoc X' N q) (hj ▸ W))
theorem own_dastore (X : Stand p l e R s m args below meth c T locs cells slots) (hx : p.tables.exec = Jvm.exec) (hZ : Z.Warmed39 s.vm) (eT : T.heap = h) (N : Fr n0 locs) (q : n0 ≤ a) (F : own_Ary Z h a .double vs) (hd : decode c.code pc = .ok (.dastore, 1)) {j : Int32} {x : UInt64} {n : Nat} (h0 : 0 ≤ j) (hj : j.toNatClampNeg = n) (hv : n < vs.length)
    (k : ∀ T' h' locs', Stand p l e R s m args below meth c T' locs' cells slots → T'.heap = h' → Fr n0 locs' → Wr h h' a n (.double x) → own_Go p e below s Q kc ks T' (mkF m (pc + 1) Ls rest)) : own_Go p e below s Q kc ks T (mkF m pc Ls (.double x :: .int j :: .ref a :: rest)) := by
  obtain ⟨cl, A, r1, r2⟩ := F
  obtain ⟨T', h', X', e', W, st⟩ := stD X hx hZ eT A (j := j) (x := x) (own_inb h0 r1 hj hv) (g := mkF m pc Ls (.double x :: .int j :: .ref a :: rest)) rfl rfl hd
  exact own_pre st (k T' h' _ X' e' (Fr.snoc X' N q) (hj ▸ W))
theorem own_newarr (X : Stand p l e R s m args below meth c T locs cells slots) (hx : p.tables.exec = Jvm.exec) (hZ : Z.Warmed39 s.vm) {aty : ArrayType} (w : (Cond.arrayClass (newarray.typeOf aty)).before a0 Z = true) (eT : T.heap = h) (hd : decode c.code pc = .ok (.newarray aty, 2)) {z : Int32} {n : Nat} (h0 : 0 ≤ z) (hz : z.toNatClampNeg = n) (hb : n * 8 ≤ 536870912) (hc : cells + 1 ≤ R.cells) (hl : slots + n ≤ R.slots) {ad : String} (had : "[" ++ (newarray.typeOf aty).toString = ad)
    (k : ∀ T' h' a, a = h.size → Stand p l e R s m args below meth c T' locs (cells + 1) (slots + n) → T'.heap = h' → Ext h h' → own_Ary Z h' a (newarray.typeOf aty) (List.replicate n (defaultValue (newarray.typeOf aty))) → Exa Z h' a ad → own_Go p e below s Q kc ks T' (mkF m (pc + 2) Ls (.ref a :: rest))) : own_Go p e below s Q kc ks T (mkF m pc Ls (.int z :: rest)) := by
  obtain ⟨T', h', cA, X', e', E, A, E2, st⟩ := newPE X hx hZ w eT (g := mkF m pc Ls (.int z :: rest)) rfl hd rfl (Int32.not_lt.mpr h0) (cap := n) (Nat.le_of_eq hz) hb hc hl had
  exact own_pre st (k T' h' _ rfl X' e' E (own_Ary.new A hz) E2)
theorem own_newobj (X : Stand p l e R s m args below meth c T locs cells slots) (hx : p.tables.exec = Jvm.exec) (hZ : Z.Warmed39 s.vm) {own : String} {index n : Nat} (hown : s.vm.findClass own = some m.cls) (w : (Cond.classLink own index C).before a0 Z = true) (wi : (Cond.instantiable C n).before a0 Z = true) (wz : (Cond.initialized C).before a0 Z = true) (eT : T.heap = h) (hd : decode c.code pc = .ok (.new index, 3)) (hc : cells + 1 ≤ R.cells) (hl : slots + n ≤ R.slots)
    (k : ∀ T' h' a, a = h.size → Stand p l e R s m args below meth c T' locs (cells + 1) (slots + n) → T'.heap = h' → Ext h h' → Exa Z h' a C → (∀ {O nm d : String} {ty : FieldType}, Laid Z a0 C O nm d → parseFieldDescriptor d = some ty → Fld Z h' a O nm d (defaultValue ty)) → own_Go p e below s Q kc ks T' (mkF m (pc + 3) Ls (.ref a :: rest))) : own_Go p e below s Q kc ks T (mkF m pc Ls rest) := by
  obtain ⟨T', h', X', e', E, A, D, -, st⟩ := newO X hx hZ hown w wi wz eT (g := mkF m pc Ls rest) rfl hd hc hl
  exact own_pre st (k T' h' _ rfl X' e' E A D)
theorem own_getf (X : Stand p l e R s m args below meth c T locs cells slots) (hx : p.tables.exec = Jvm.exec) (hZ : Z.Warmed39 s.vm) {own O n d : String} {index : Nat} (hown : s.vm.findClass own = some m.cls) (w : (Cond.fieldLink own index O n d).before a0 Z = true) (eT : T.heap = h) (F : Fld Z h a O n d v) (hd : decode c.code pc = .ok (.getfield index, 3))
    (k : ∀ T', Stand p l e R s m args below meth c T' locs cells slots → T'.heap = h → own_Go p e below s Q kc ks T' (mkF m (pc + 3) Ls (v :: rest))) : own_Go p e below s Q kc ks T (mkF m pc Ls (.ref a :: rest)) := by
  obtain ⟨T', X', e', st⟩ := getF X hx hZ hown (host := "") (Or.inl w) Via.refl eT F (g := mkF m pc Ls (.ref a :: rest)) rfl rfl hd
  exact own_pre st (k T' X' e')
theorem own_gets (X : Stand p l e R s m args below meth c T locs cells slots) (hx : p.tables.exec = Jvm.exec) (hZ : Z.Warmed39 s.vm) {own O n d : String} {index : Nat} (hown : s.vm.findClass own = some m.cls) (w : (Cond.fieldLink own index O n d).before a0 Z = true) (eT : T.heap = h) (F : Sta Z h O n d v) (hd : decode c.code pc = .ok (.getstatic index, 3))
    (k : ∀ T', Stand p l e R s m args below meth c T' locs cells slots → T'.heap = h → own_Go p e below s Q kc ks T' (mkF m (pc + 3) Ls (v :: rest))) : own_Go p e below s Q kc ks T (mkF m pc Ls rest) := by
  obtain ⟨T', X', e', st⟩ := getS X hx hZ (host := "") hown w Via.refl eT F (g := mkF m pc Ls rest) rfl hd
  exact own_pre st (k T' X' e')
theorem own_putf (X : Stand p l e R s m args below meth c T locs cells slots) (hx : p.tables.exec = Jvm.exec) (hZ : Z.Warmed39 s.vm) {own O n d : String} {index kk : Nat} (hown : s.vm.findClass own = some m.cls) (w : (Cond.fieldLink own index O n d).before a0 Z = true) (eT : T.heap = h) (N : Fr n0 locs) (q : n0 ≤ a) {old : Value} (F : Fld Z h a O n d old) (E : Exa Z h a C) (L : (Cond.lays C O n d).before a0 Z = true ∨ ((Cond.laysFinal C O n d).before a0 Z = true ∧ own = O ∧ meth.name = "<init>")) (wi : (Cond.instantiable C kk).before a0 Z = true) (hty : parseFieldDescriptor d = some ty) (hn : narrow ty v = v) (hf : fits ty v = true) (hd : decode c.code pc = .ok (.putfield index, 3))
    (k : ∀ T' h' locs', Stand p l e R s m args below meth c T' locs' cells slots → T'.heap = h' → Fr n0 locs' → Wr h h' a (slotOf Z O n d) v → own_Go p e below s Q kc ks T' (mkF m (pc + 3) Ls rest)) : own_Go p e below s Q kc ks T (mkF m pc Ls (v :: .ref a :: rest)) := by
  obtain ⟨T', h', X', e', W, st⟩ := putF X hx hZ hown (host := "") (Or.inl w) Via.refl eT F E L wi hty hn hf (g := mkF m pc Ls (v :: .ref a :: rest)) rfl rfl hd
  exact own_pre st (k T' h' _ X' e' (Fr.snoc X' N q) W)
theorem own_ldci (X : Stand p l e R s m args below meth c T locs cells slots) (hx : p.tables.exec = Jvm.exec) (hZ : Z.Warmed39 s.vm) {own : String} {index : Nat} {z : Int32} (hown : s.vm.findClass own = some m.cls) (w : (Cond.constant own index z).before a0 Z = true) (hd : decode c.code pc = .ok (.ldc index, 2))
    (k : own_Go p e below s Q kc ks T (mkF m (pc + 2) Ls (.int z :: rest))) : own_Go p e below s Q kc ks T (mkF m pc Ls rest) :=
  own_pre (X.ldcInt hx hown (mv hZ w) (g := mkF m pc Ls rest) rfl hd) k
theorem own_ldcl (X : Stand p l e R s m args below meth c T locs cells slots) (hx : p.tables.exec = Jvm.exec) (hZ : Z.Warmed39 s.vm) {own : String} {index : Nat} {z : Int64} (hown : s.vm.findClass own = some m.cls) (w : (Cond.constantLong own index z).before a0 Z = true) (hd : decode c.code pc = .ok (.ldc2_w index, 3))
    (k : own_Go p e below s Q kc ks T (mkF m (pc + 3) Ls (.long z :: rest))) : own_Go p e below s Q kc ks T (mkF m pc Ls rest) :=
  own_pre (X.ldc2Long hx hown (mv hZ w) (g := mkF m pc Ls rest) rfl hd) k
theorem own_ldcd (X : Stand p l e R s m args below meth c T locs cells slots) (hx : p.tables.exec = Jvm.exec) (hZ : Z.Warmed39 s.vm) {own : String} {index : Nat} {z : UInt64} (hown : s.vm.findClass own = some m.cls) (w : (Cond.constantDouble own index z).before a0 Z = true) (hd : decode c.code pc = .ok (.ldc2_w index, 3))
    (k : own_Go p e below s Q kc ks T (mkF m (pc + 3) Ls (.double z :: rest))) : own_Go p e below s Q kc ks T (mkF m pc Ls rest) :=
  own_pre (X.ldc2DoubleC hx hown (mv hZ w) (g := mkF m pc Ls rest) rfl hd) k
theorem own_init0 (X : Stand p l e R s m args below meth c T locs cells slots) (hx : p.tables.exec = Jvm.exec) (hZ : Z.Warmed39 s.vm) {own : String} {index : Nat} (hown : s.vm.findClass own = some m.cls) (w1 : (Cond.methodLink own index Lib.objectInit).before a0 Z = true) (w2 : (Cond.instanceMethod Lib.objectInit).before a0 Z = true) (w3 : (Cond.code Lib.objectInit ⟨#[0xb1]⟩ 1 none).before a0 Z = true) (eT : T.heap = h) (hd : decode c.code pc = .ok (.invokespecial index, 3)) (hsz : Ls.size = c.maxLocals) (hf : 1 ≤ R.frames) {W : Nat} (hW : (rest.map fun v => v.category).sum ≤ W) (hl : W + 12 ≤ R.locals)
    (k : ∀ T', Stand p l e R s m args below meth c T' locs cells slots → T'.heap = h → own_Go p e below s Q kc ks T' (mkF m (pc + 3) Ls rest)) : own_Go p e below s Q kc ks T (mkF m pc Ls (.ref a :: rest)) := by
  obtain ⟨T', X', e', st⟩ := initO X hx hZ hown w1 w2 w3 eT (g := mkF m pc Ls (.ref a :: rest)) rfl hsz rfl hd hf (W := W) (by show 2 * 0 + _ ≤ _; omega) hl
  exact own_pre st (k T' X' e')
theorem own_init (X : Stand p l e R s m args below meth c T locs cells slots) (hx : p.tables.exec = Jvm.exec) (hZ : Z.Warmed39 s.vm) {own : String} {index : Nat} (hown : s.vm.findClass own = some m.cls) {y : MethodName} {bytes : ByteArray} {maxL : Nat} {rm : Room} {argsL : List Value} {Qc : Option Value → Heap → List Loc → Prop}
    (hM : MetFree l y (head1 [Cond.code y bytes maxL none] rm) (fun a' U => a' = (.ref a :: argsL).toArray ∧ Z.Warmed39 U.vm ∧ U.heap = h) (fun _ _ _ _ _ => True) (fun _ U o U' => ∃ v L, o = .returned v ∧ Qc v U'.heap L ∧ FrameEnd U o U' L rm.cells rm.slots))
    (hy1 : y.name = "<init>") (w1 : (Cond.methodLink own index y).before a0 Z = true) (w2 : (Cond.instanceMethod y).before a0 Z = true) (w3 : (Cond.code y bytes maxL none).before a0 Z = true) (w4 : (Cond.initialized y.cls).before a0 Z = true) (hy : y.cls ≠ "java/lang/invoke/MethodHandle" ∧ y.cls ≠ "java/lang/invoke/VarHandle")
    (eT : T.heap = h) (hd : decode c.code pc = .ok (.invokespecial index, 3)) (hsz : Ls.size = c.maxLocals) {stk : List Value} (hstk : stk = argsL.reverse ++ .ref a :: rest) (hlen : ∀ sig, parseMethodDescriptor y.desc = some sig → argsL.length = sig.parameters.length) (hf : rm.frames + 1 ≤ R.frames) {W : Nat} (hW : (rest.map fun v => v.category).sum ≤ W) (hl : W + (maxL + 11) + rm.locals ≤ R.locals) (hc : cells + rm.cells ≤ R.cells) (hs : slots + rm.slots ≤ R.slots)
    (k : ∀ v T' L, Stand p l e R s m args below meth c T' (locs ++ L) (cells + rm.cells) (slots + rm.slots) → Qc v T'.heap L → own_Go p e below s Q kc ks T' (mkF m (pc + 3) Ls (v.toList ++ rest))) : own_Go p e below s Q kc ks T (mkF m pc Ls stk) := by
  obtain ⟨v, _, ⟨T', L', k', n'⟩, -, X', ⟨L, hQ, e1, e2, e3⟩, st⟩ := X.specialBack hx (y := y) hy1 hown (mvT hZ w1) (mvT hZ w2) (mvT hZ w3) hy (backOf (W := W) hM hZ w3 w4 hf hl) (g := mkF m pc Ls stk) rfl hsz (Steps.refl _) (a := a) (argsL := argsL) (rest := rest) hlen hstk (by show 2 * 0 + _ ≤ _; omega) hd (fun _ _ => ⟨rfl, eT, hc, hs⟩)
  dsimp only at X' e1 e2 e3 st hQ
  subst e1 e2 e3
  exact own_tr st (k v T' L X' hQ)
theorem own_callv (X : Stand p l e R s m args below meth c T locs cells slots) (hx : p.tables.exec = Jvm.exec) (hZ : Z.Warmed39 s.vm) {own : String} {index : Nat} (hown : s.vm.findClass own = some m.cls) {y : MethodName} {bytes : ByteArray} {maxL : Nat} {ret : Option FieldType} {rm : Room} {argsL : List Value} {Qc : Option Value → Heap → List Loc → Prop}
    (hM : MetFree l y (head1 [Cond.code y bytes maxL ret] rm) (fun a' U => a' = (.ref a :: argsL).toArray ∧ Z.Warmed39 U.vm ∧ U.heap = h) (fun _ _ _ _ _ => True) (fun _ U o U' => ∃ v L, o = .returned v ∧ Qc v U'.heap L ∧ FrameEnd U o U' L rm.cells rm.slots))
    (E : Exa Z h a C) (w1 : (Cond.methodLink own index y).before a0 Z = true) (w2 : (Cond.declares y).before a0 Z = true) (w5 : (Cond.selects C y y).before a0 Z = true) (w6 : (Cond.instanceMethod y).before a0 Z = true) (w3 : (Cond.code y bytes maxL ret).before a0 Z = true) (w4 : (Cond.initialized y.cls).before a0 Z = true) (hy : y.cls ≠ "java/lang/invoke/MethodHandle" ∧ y.cls ≠ "java/lang/invoke/VarHandle")
    (eT : T.heap = h) (hd : decode c.code pc = .ok (.invokevirtual index, 3)) (hsz : Ls.size = c.maxLocals) {stk : List Value} (hstk : stk = argsL.reverse ++ .ref a :: rest) (hlen : ∀ sig, parseMethodDescriptor y.desc = some sig → argsL.length = sig.parameters.length) (hf : rm.frames + 1 ≤ R.frames) {W : Nat} (hW : (rest.map fun v => v.category).sum ≤ W) (hl : W + (maxL + 11) + rm.locals ≤ R.locals) (hc : cells + rm.cells ≤ R.cells) (hs : slots + rm.slots ≤ R.slots)
    (k : ∀ v T' L, Stand p l e R s m args below meth c T' (locs ++ L) (cells + rm.cells) (slots + rm.slots) → Qc v T'.heap L → own_Go p e below s Q kc ks T' (mkF m (pc + 3) Ls (v.toList ++ rest))) : own_Go p e below s Q kc ks T (mkF m pc Ls stk) := by
  obtain ⟨cq, kq, q1, q2, q3⟩ := isOf hZ eT E
  obtain ⟨v, _, ⟨T', L', k', n'⟩, -, X', ⟨L, hQ, e1, e2, e3⟩, st⟩ := X.virtualBack hx (y := y) (z := y) hown (mvT hZ w1) (mvT hZ w2) (notFace_of_selects (args := #[]) (mvT hZ w5)) (mvT hZ w5) (mvT hZ w6) hy (backOf (W := W) hM hZ w3 w4 hf hl) q1 q3 (g := mkF m pc Ls stk) rfl hsz (Steps.refl _) (argsL := argsL) (rest := rest) hlen hstk (by show 2 * 0 + _ ≤ _; omega) hd (fun _ _ => ⟨rfl, eT, hc, hs⟩)
  dsimp only at X' e1 e2 e3 st hQ
  subst e1 e2 e3
  exact own_tr st (k v T' L X' hQ)
theorem own_calls (X : Stand p l e R s m args below meth c T locs cells slots) (hx : p.tables.exec = Jvm.exec) (hZ : Z.Warmed39 s.vm) {own : String} {index : Nat} (hown : s.vm.findClass own = some m.cls) {y : MethodName} {bytes : ByteArray} {maxL : Nat} {ret : Option FieldType} {rm : Room} {argsL : List Value} {Qc : Option Value → Heap → List Loc → Prop}
    (hM : MetFree l y (head1 [Cond.code y bytes maxL ret] rm) (fun a' U => a' = argsL.toArray ∧ Z.Warmed39 U.vm ∧ U.heap = h) (fun _ _ _ _ _ => True) (fun _ U o U' => ∃ v L, o = .returned v ∧ Qc v U'.heap L ∧ FrameEnd U o U' L rm.cells rm.slots))
    (w1 : (Cond.methodLink own index y).before a0 Z = true) (w2 : (Cond.static y).before a0 Z = true) (w3 : (Cond.code y bytes maxL ret).before a0 Z = true) (w4 : (Cond.initialized y.cls).before a0 Z = true) (hy : y.cls ≠ "java/lang/invoke/MethodHandle" ∧ y.cls ≠ "java/lang/invoke/VarHandle")
    (eT : T.heap = h) (hd : decode c.code pc = .ok (.invokestatic index, 3)) (hsz : Ls.size = c.maxLocals) {stk : List Value} (hstk : stk = argsL.reverse ++ rest) (hlen : ∀ sig, parseMethodDescriptor y.desc = some sig → argsL.length = sig.parameters.length) (hf : rm.frames + 1 ≤ R.frames) {W : Nat} (hW : (rest.map fun v => v.category).sum ≤ W) (hl : W + (maxL + 11) + rm.locals ≤ R.locals) (hc : cells + rm.cells ≤ R.cells) (hs : slots + rm.slots ≤ R.slots)
    (k : ∀ v T' L, Stand p l e R s m args below meth c T' (locs ++ L) (cells + rm.cells) (slots + rm.slots) → Qc v T'.heap L → own_Go p e below s Q kc ks T' (mkF m (pc + 3) Ls (v.toList ++ rest))) : own_Go p e below s Q kc ks T (mkF m pc Ls stk) := by
  obtain ⟨v, _, ⟨T', L', k', n'⟩, -, X', ⟨L, hQ, e1, e2, e3⟩, st⟩ := Jvm.LawKit.callS X hx (y := y) hown (mvT hZ w1) (mvT hZ w2) (mvT hZ w4) (mvT hZ w3) hy (backOf (W := W) hM hZ w3 w4 hf hl) (g := mkF m pc Ls stk) rfl hsz (argsL := argsL) (rest := rest) hlen hstk (by show 2 * 0 + _ ≤ _; omega) hd (fun _ _ => ⟨rfl, eT, hc, hs⟩)
  dsimp only at X' e1 e2 e3 st hQ
  subst e1 e2 e3
  exact own_pre st (k v T' L X' hQ)
theorem own_cl_lt (x y : Int64) : XT.cmpL x y < 0 ↔ x < y := by unfold XT.cmpL; split <;> (try split) <;> simp_all [Int64.lt_iff_toInt_lt, ← Int64.toInt_inj] <;> omega
theorem own_cl_gt (x y : Int64) : 0 < XT.cmpL x y ↔ y < x := by unfold XT.cmpL; split <;> (try split) <;> simp_all [Int64.lt_iff_toInt_lt, ← Int64.toInt_inj]
theorem own_cl_eq (x y : Int64) : XT.cmpL x y = 0 ↔ x = y := by unfold XT.cmpL; split <;> (try split) <;> simp_all [Int64.lt_iff_toInt_lt, ← Int64.toInt_inj] <;> omega
end Own
end Jvm.RoadKit
namespace Jvm.FP.Core
theorem own_cross {c d I J qp qm rp rm kp km : Nat} (h1 : c * 2 ^ qp = I * 2 ^ qm) (h2 : d * 2 ^ rp = J * 2 ^ rm) (e : kp + qm + rp = km + qp + rm) : c * J * 2 ^ kp = I * d * 2 ^ km := by
  have e' : 2 ^ kp * 2 ^ qm * 2 ^ rp = 2 ^ km * 2 ^ qp * 2 ^ rm := by rw [← Nat.pow_add, ← Nat.pow_add, ← Nat.pow_add, ← Nat.pow_add, e]
  have p1 := Nat.two_pow_pos qp
  have p2 := Nat.two_pow_pos rm
  generalize 2 ^ qp = a1 at *
  generalize 2 ^ qm = a2 at *
  generalize 2 ^ rp = a3 at *
  generalize 2 ^ rm = a4 at *
  generalize 2 ^ kp = a5 at *
  generalize 2 ^ km = a6 at *
  refine Nat.eq_of_mul_eq_mul_right (Nat.mul_pos p1 p2) ?_
  calc c * J * a5 * (a1 * a4) = (c * a1) * (J * a4) * a5 := by ac_rfl
    _ = (I * a2) * (d * a3) * a5 := by rw [h1, h2]
    _ = I * d * (a5 * a2 * a3) := by ac_rfl
    _ = I * d * (a6 * a1 * a4) := by rw [e']
    _ = I * d * a6 * (a1 * a4) := by ac_rfl
/-- a quotient of two whole doubles: the rounded ratio of the two -/
theorem own_ddiv_round {i j : Int} {a b : UInt64} (ha : DInt i a) (hb : DInt j b) (hj : 0 < j) : ∃ sg, val64 (ddiv a b) = roundRatio b64 sg i.natAbs j.natAbs 0 ∧ (i ≠ 0 → sg = decide (i < 0)) := by
  rw [val64_ddiv]
  unfold DInt at ha hb
  generalize val64 a = x at *
  generalize val64 b = y at *
  cases x with
  | nan => exact ha.elim
  | inf => exact ha.elim
  | fin s c q =>
  cases y with
  | nan => exact hb.elim
  | inf => exact hb.elim
  | fin t d r =>
    have h1 := whole_natAbs ha
    have h2 := whole_natAbs hb
    have hd : d ≠ 0 := by have := whole_zero hb; omega
    refine ⟨s != t, ?_, fun hi => ?_⟩
    · show (if d = 0 then (if c = 0 then Datum.nan else .inf (s != t)) else roundRatio b64 (s != t) c d (q - r)) = _
      rw [if_neg hd]
      exact roundRatio_congr (by omega) (by omega) (own_cross h1 h2 (by omega))
    · rw [whole_sign ha hi, whole_sign hb (by omega)]
      simp [show ¬ j < 0 by omega]
theorem own_div_le {sg : Bool} {A B : Nat} {V : UInt64} (hB : 0 < B) (hV : val64 V ≠ .nan) (h : A * one64 ≤ zmag b64 (val64 V) * B) : zmag b64 (roundRatio b64 sg A B 0) ≤ zmag b64 (val64 V) := by
  refine zmag_roundRatio_le good_b64 hB (val64_fits V) hV (e0 := b64.qmin) (Int.le_refl _) (by decide) ?_
  show A * 2 ^ (0 - b64.qmin).toNat ≤ _ * 2 ^ (b64.qmin - b64.qmin).toNat * B
  rw [Int.zero_sub, pow_qmin64, Int.sub_self]
  simpa using h
theorem own_div_ge {sg : Bool} {A B : Nat} {V : UInt64} (hB : 0 < B) (h : zmag b64 (val64 V) * B ≤ A * one64) : zmag b64 (val64 V) ≤ zmag b64 (roundRatio b64 sg A B 0) := by
  refine zmag_roundRatio_ge good_b64 hB (val64_fits V) (e0 := b64.qmin) (Int.le_refl _) (by decide) ?_
  show _ * 2 ^ (b64.qmin - b64.qmin).toNat * B ≤ A * 2 ^ (0 - b64.qmin).toNat
  rw [Int.zero_sub, pow_qmin64, Int.sub_self]
  simpa using h
theorem own_scale {A B x y u : Nat} (h : A * x ≤ y * B) : A * (x * u) ≤ (y * u) * B := by
  have h2 := Nat.mul_le_mul_right u h
  calc A * (x * u) = A * x * u := by ac_rfl
    _ ≤ y * B * u := h2
    _ = (y * u) * B := by ac_rfl
theorem own_scale' {A B x y u : Nat} (h : y * B ≤ A * x) : (y * u) * B ≤ A * (x * u) := by
  have h2 := Nat.mul_le_mul_right u h
  calc (y * u) * B = y * B * u := by ac_rfl
    _ ≤ A * x * u := h2
    _ = A * (x * u) := by ac_rfl
end Jvm.FP.Core
namespace Jvm.RoadKit
open Sem ClassFile Op Lib Jvm.Stand Jvm.Free Jvm.LawKit
theorem own_DInt_nn {i : Int} {a : UInt64} (h : FP.Core.DInt i a) : Jvm.Free.Fl.NoNaN64 a := Jvm.Free.Fl.val64_no.mpr (FP.Core.DInt_ne_nan h)
/-- the int that a comparison of two whole doubles pushes -/
def own_c (i j : Int) : Int32 := if i < j then -1 else if i = j then 0 else 1
theorem own_c_lt (i j : Int) : own_c i j < 0 ↔ i < j := by unfold own_c; split <;> (try split) <;> first | (simp; omega) | simp_all
theorem own_c_gt (i j : Int) : 0 < own_c i j ↔ j < i := by unfold own_c; split <;> (try split) <;> first | (simp; omega) | (simp_all; done) | (simp_all; omega)
theorem own_c_eq (i j : Int) : own_c i j = 0 ↔ i = j := by unfold own_c; split <;> (try split) <;> first | (simp; omega) | (simp_all; done) | (simp_all; omega)
theorem own_cmpv (i j : Int) (o : CmpOp) : cmpValue (some (compare i j)) o = own_c i j := by
  unfold own_c
  rw [FP.Core.compare_ite]
  split <;> (try split) <;> cases o <;> rfl
theorem own_dcmp {i j : Int} {a b : UInt64} (ha : FP.Core.DInt i a) (hb : FP.Core.DInt j b) (o : CmpOp) : cmpValue (FP.dcmp a b) o = own_c i j := by
  rw [show FP.dcmp a b = some (compare i j) from FP.Core.dcmp_int ha hb, own_cmpv]
theorem own_dcmpz {a b : UInt64} (ha : Jvm.Free.Fl.NoNaN64 a) (hb : Jvm.Free.Fl.NoNaN64 b) (o : CmpOp) : cmpValue (FP.dcmp a b) o = own_c (FP.Core.zval FP.Core.b64 (FP.Core.val64 a)) (FP.Core.zval FP.Core.b64 (FP.Core.val64 b)) := by
  rw [show FP.dcmp a b = some (compare _ _) from FP.Core.dcmp_zval (Jvm.Free.Fl.val64_no.mp ha) (Jvm.Free.Fl.val64_no.mp hb), own_cmpv]
end Jvm.RoadKit
namespace Jvm.Pilot.@@N@@
open Jvm Jvm.ClassFile Sem Op Lib Jvm.Free Jvm.Stand Jvm.LawKit Jvm.RoadKit Bundle Jvm.Pilot.@@N@@.Jvm.D
def own_z8 : Int := FP.Core.zval FP.Core.b64 (FP.Core.val64 4605380978949069210)
def own_z1 : Int := FP.Core.zval FP.Core.b64 (FP.Core.val64 4607182418800017408)
theorem own_nn8 : Jvm.Free.Fl.NoNaN64 4605380978949069210 := by unfold Jvm.Free.Fl.NoNaN64; decide
theorem own_nn1 : Jvm.Free.Fl.NoNaN64 4607182418800017408 := by unfold Jvm.Free.Fl.NoNaN64; decide
section Ratio
open Jvm.FP.Core
theorem own_k1 : one64 = 65536 * 2 ^ 1058 := by decide +kernel
theorem own_k2 : zmag b64 (val64 4605380181803139072) = 52423 * 2 ^ 1058 := by decide +kernel
theorem own_k3 : val64 4605380181803139072 ≠ .nan := by decide +kernel
theorem own_k4 : ((zmag b64 (val64 4605380181803139072) : Nat) : Int) < own_z8 := by decide +kernel
theorem own_k5 : zval b64 (roundRatio b64 false 4 5 0) = own_z8 := by decide +kernel
theorem own_k6 : ((zmag b64 (val64 4605380978949069210) : Nat) : Int) = own_z8 := by decide +kernel
theorem own_k7 : one64 = 9007199254740992 * 2 ^ 1021 := by decide +kernel
theorem own_k8 : zmag b64 (val64 4605380978949069210) = 7205759403792794 * 2 ^ 1021 := by decide +kernel
theorem own_k9 : ((zmag b64 (val64 4607182418800017408) : Nat) : Int) = own_z1 := by decide +kernel
theorem own_k10 : zmag b64 (val64 4607182418800017408) = one64 := by decide +kernel
theorem own_k11 : val64 4607182418800017408 ≠ .nan := by decide +kernel
theorem own_k12 : one64 = 1024 * 2 ^ 1064 := by decide +kernel
theorem own_k13 : zmag b64 (val64 4607186816846528512) = 1025 * 2 ^ 1064 := by decide +kernel
theorem own_k14 : own_z1 < ((zmag b64 (val64 4607186816846528512) : Nat) : Int) := by decide +kernel
theorem own_k15 : 0 < own_z8 ∧ 0 < own_z1 := by decide +kernel
theorem own_k16 : zmag b64 (val64 0) = 0 ∧ val64 0 ≠ .nan := by decide +kernel
theorem own_ratio {a d : Int32} {x y r : UInt64} (hx : DInt a.toInt x) (hy : DInt d.toInt y) (h1 : 1 ≤ d.toInt) (h2 : d.toInt ≤ 1024) (hr : FP.ddiv x y = r) :
    Jvm.Free.Fl.NoNaN64 r ∧ (zval b64 (val64 r) < own_z8 ↔ 5 * a.toInt < 4 * d.toInt) ∧ (own_z1 < zval b64 (val64 r) ↔ d.toInt < a.toInt) := by
  obtain ⟨sg, hv, hs⟩ := own_ddiv_round hx hy (by omega)
  rw [show FP.Core.ddiv x y = r from hr] at hv
  have hne : val64 r ≠ .nan := by rw [hv]; exact roundRatio_ne_nan _ _ _ _ _
  refine ⟨Jvm.Free.Fl.val64_no.mpr hne, ?_⟩
  rw [hv]
  generalize a.toInt = i at *
  generalize d.toInt = j at *
  have hz : zval b64 (roundRatio b64 sg i.natAbs j.natAbs 0) = signed sg (zmag b64 (roundRatio b64 sg i.natAbs j.natAbs 0)) := by unfold zval; rw [sgn_roundRatio]
  have k15 := own_k15
  by_cases hi : i ≤ 0
  · have hle : zval b64 (roundRatio b64 sg i.natAbs j.natAbs 0) ≤ 0 := by
      rw [hz]
      by_cases h0 : i = 0
      · have := own_div_le (sg := sg) (A := i.natAbs) (B := j.natAbs) (V := 0) (by omega) own_k16.2 (by rw [h0]; simp)
        rw [own_k16.1] at this
        have e : zmag b64 (roundRatio b64 sg i.natAbs j.natAbs 0) = 0 := by omega
        rw [e, signed_zero]; exact Int.le_refl _
      · have e := hs h0
        have : decide (i < 0) = true := by simp; omega
        rw [this] at e
        generalize zmag b64 (roundRatio b64 sg i.natAbs j.natAbs 0) = m
        subst e
        simp only [signed, if_true]; omega
    constructor <;> constructor <;> intro q <;> omega
  · have e := hs (by omega)
    have : decide (i < 0) = false := by simp; omega
    rw [this] at e
    subst e
    have hz' : zval b64 (roundRatio b64 false i.natAbs j.natAbs 0) = ((zmag b64 (roundRatio b64 false i.natAbs j.natAbs 0) : Nat) : Int) := by rw [hz]; rfl
    obtain ⟨A, hA⟩ : ∃ A : Nat, i.natAbs = A := ⟨_, rfl⟩
    obtain ⟨B, hB⟩ : ∃ B : Nat, j.natAbs = B := ⟨_, rfl⟩
    rw [hA, hB] at hz' ⊢
    have eA : i = A := by omega
    have eB : j = B := by omega
    subst eA eB
    have c1 : 5 * (A : Int) < 4 * B → zval b64 (roundRatio b64 false A B 0) < own_z8 := fun q => by
      have h3 := own_div_le (sg := false) (A := A) (B := B) (V := 4605380181803139072) (by omega) own_k3 (by rw [own_k1, own_k2]; exact own_scale (by omega))
      have h4 := own_k4
      rw [hz']; omega
    have c2 : 5 * (A : Int) = 4 * B → zval b64 (roundRatio b64 false A B 0) = own_z8 := fun q => by
      rw [roundRatio_congr (A' := 4) (B' := 5) (e' := 0) (by omega) (by decide) (by simp; omega)]
      exact own_k5
    have c3 : 4 * (B : Int) < 5 * A → own_z8 ≤ zval b64 (roundRatio b64 false A B 0) := fun q => by
      have h3 := own_div_ge (sg := false) (A := A) (B := B) (V := 4605380978949069210) (by omega) (by rw [own_k7, own_k8]; exact own_scale' (by omega))
      have h4 := own_k6
      rw [hz']; omega
    have c4 : (A : Int) ≤ B → zval b64 (roundRatio b64 false A B 0) ≤ own_z1 := fun q => by
      have h3 := own_div_le (sg := false) (A := A) (B := B) (V := 4607182418800017408) (by omega) own_k11 (by rw [own_k10, Nat.mul_comm]; exact Nat.mul_le_mul_left _ (by omega))
      have h4 := own_k9
      rw [hz']; omega
    have c5 : (B : Int) < A → own_z1 < zval b64 (roundRatio b64 false A B 0) := fun q => by
      have h3 := own_div_ge (sg := false) (A := A) (B := B) (V := 4607186816846528512) (by omega) (by rw [own_k12, own_k13]; exact own_scale' (by omega))
      have h4 := own_k14
      rw [hz']; omega
    refine ⟨⟨fun q => ?_, c1⟩, ⟨fun q => ?_, c5⟩⟩
    · refine Int.lt_of_not_ge fun q' => ?_
      rcases Int.lt_or_eq_of_le q' with q2 | q2
      · have := c3 q2; omega
      · have := c2 q2.symm; omega
    · refine Int.lt_of_not_ge fun q' => ?_
      have := c4 q'; omega
end Ratio
theorem own_den (p1 v : Int32) (h : (1 : Int32) + (p1 &&& (1023 : Int32)) = v) : 1 ≤ v.toInt ∧ v.toInt ≤ 1024 := by
  have h1 := c_mask p1 1023 10 (by decide) (by decide)
  have h2 := c_iadd 1 (p1 &&& 1023)
  have h3 := rng32 ((1 : Int32) + (p1 &&& (1023 : Int32)))
  rw [h] at h2 h3
  have h4 : (1 : Int32).toInt = 1 := rfl
  omega
theorem own_m5 (a : Int32) : ((5 : Int64) * a.toInt64).toInt = 5 * a.toInt := by
  have h1 := c_lmul 5 a.toInt64
  have h2 := rng64 ((5 : Int64) * a.toInt64)
  have h3 := rng32 a
  rw [c_i2l] at h1
  have h4 : (5 : Int64).toInt = 5 := rfl
  rw [h4] at h1
  omega
theorem own_m4 (a : Int32) : ((4 : Int64) * a.toInt64).toInt = 4 * a.toInt := by
  have h1 := c_lmul 4 a.toInt64
  have h2 := rng64 ((4 : Int64) * a.toInt64)
  have h3 := rng32 a
  rw [c_i2l] at h1
  have h4 : (4 : Int64).toInt = 4 := rfl
  rw [h4] at h1
  omega
theorem own_lt5 {a d : Int32} (h : XT.cmpL ((5 : Int64) * a.toInt64) ((4 : Int64) * d.toInt64) < 0) : 5 * a.toInt < 4 * d.toInt := by
  have := (own_cl_lt _ _).mp h
  rw [Int64.lt_iff_toInt_lt, own_m5, own_m4] at this
  exact this
theorem own_lt5' {a d : Int32} (h : 5 * a.toInt < 4 * d.toInt) : XT.cmpL ((5 : Int64) * a.toInt64) ((4 : Int64) * d.toInt64) < 0 := by
  refine (own_cl_lt _ _).mpr ?_
  rw [Int64.lt_iff_toInt_lt, own_m5, own_m4]
  exact h
theorem own_gt1 {a d : Int32} (h : 0 < XT.cmpL a.toInt64 d.toInt64) : d.toInt < a.toInt := by
  have := (own_cl_gt _ _).mp h
  rw [Int64.lt_iff_toInt_lt, c_i2l, c_i2l] at this
  exact this
theorem own_gt1' {a d : Int32} (h : d.toInt < a.toInt) : 0 < XT.cmpL a.toInt64 d.toInt64 := by
  refine (own_cl_gt _ _).mpr ?_
  rw [Int64.lt_iff_toInt_lt, c_i2l, c_i2l]
  exact h

theorem d1_0 : decode prog_75_method_4_code 0 = .ok (.dload_n 0, 1) := by decide +kernel
theorem d1_1 : decode prog_75_method_4_code 1 = .ok (.ldc2_w 32, 3) := by decide +kernel
theorem d1_4 : decode prog_75_method_4_code 4 = .ok (.dcmp .g, 1) := by decide +kernel
theorem d1_5 : decode prog_75_method_4_code 5 = .ok (.ifCond .ge 10, 3) := by decide +kernel
theorem d1_8 : decode prog_75_method_4_code 8 = .ok (.getstatic 3, 3) := by decide +kernel
theorem d1_11 : decode prog_75_method_4_code 11 = .ok (.astore_n 2, 1) := by decide +kernel
theorem d1_12 : decode prog_75_method_4_code 12 = .ok (.goto 20, 3) := by decide +kernel
theorem d1_15 : decode prog_75_method_4_code 15 = .ok (.dload_n 0, 1) := by decide +kernel
theorem d1_16 : decode prog_75_method_4_code 16 = .ok (.dconst 1, 1) := by decide +kernel
theorem d1_17 : decode prog_75_method_4_code 17 = .ok (.dcmp .g, 1) := by decide +kernel
theorem d1_18 : decode prog_75_method_4_code 18 = .ok (.ifCond .gt 10, 3) := by decide +kernel
theorem d1_21 : decode prog_75_method_4_code 21 = .ok (.getstatic 7, 3) := by decide +kernel
theorem d1_24 : decode prog_75_method_4_code 24 = .ok (.astore_n 2, 1) := by decide +kernel
theorem d1_25 : decode prog_75_method_4_code 25 = .ok (.goto 7, 3) := by decide +kernel
theorem d1_28 : decode prog_75_method_4_code 28 = .ok (.getstatic 10, 3) := by decide +kernel
theorem d1_31 : decode prog_75_method_4_code 31 = .ok (.astore_n 2, 1) := by decide +kernel
theorem d1_32 : decode prog_75_method_4_code 32 = .ok (.aload_n 2, 1) := by decide +kernel
theorem d1_33 : decode prog_75_method_4_code 33 = .ok (.areturn, 1) := by decide +kernel
theorem own_pn0 : plainName "com/example/far_corridor/farcorridor/service/LinkMeasures$RatioClass" = true := by first | (simp [plainName, overriddenIn]; done) | decide +kernel
def own_of_Q (Z : State) (x : UInt64) (rb rf ra : Addr) (h0 : Heap) (n0 : Nat) (v : Option Value) (h : Heap) (L : List Loc) : Prop := (fun v h L => v = some (.ref (if FP.Core.zval FP.Core.b64 (FP.Core.val64 x) < own_z8 then rb else if own_z1 < FP.Core.zval FP.Core.b64 (FP.Core.val64 x) then ra else rf)) ∧ Fr n0 L ∧ h = h0) v h L
set_option maxRecDepth 65536 in
set_option maxHeartbeats 40000000 in
theorem own_of (l : Launch) (Z : State) (a0 : Array Value) (hw : ∀ d ∈ tables_1, d.before a0 Z = true) (wds : List Jvm.Cond) (x : UInt64) (rb rf ra : Addr) (h0 : Heap) (n0 : Nat) (Z0 : n0 ≤ h0.size) (Sb : Sta Z h0 "com/example/far_corridor/farcorridor/service/LinkMeasures$RatioClass" "BELOW_0_8" "Lcom/example/far_corridor/farcorridor/service/LinkMeasures$RatioClass;" (.ref rb)) (Sf : Sta Z h0 "com/example/far_corridor/farcorridor/service/LinkMeasures$RatioClass" "FROM_0_8_TO_1_0" "Lcom/example/far_corridor/farcorridor/service/LinkMeasures$RatioClass;" (.ref rf)) (Sa : Sta Z h0 "com/example/far_corridor/farcorridor/service/LinkMeasures$RatioClass" "ABOVE_1_0" "Lcom/example/far_corridor/farcorridor/service/LinkMeasures$RatioClass;" (.ref ra)) (hnn : Jvm.Free.Fl.NoNaN64 x) :
    MetFree l (⟨"com/example/far_corridor/farcorridor/service/LinkMeasures$RatioClass", "of", "(D)Lcom/example/far_corridor/farcorridor/service/LinkMeasures$RatioClass;"⟩ : MethodName) (head1 (Jvm.Cond.code (⟨"com/example/far_corridor/farcorridor/service/LinkMeasures$RatioClass", "of", "(D)Lcom/example/far_corridor/farcorridor/service/LinkMeasures$RatioClass;"⟩ : MethodName) prog_75_method_4_code 3 (some (.object "com/example/far_corridor/farcorridor/service/LinkMeasures$RatioClass")) :: wds) ({ frames := 0, cells := 0, slots := 0, locals := 0 } : Room)) (fun a U => a = #[(.double x)] ∧ Z.Warmed39 U.vm ∧ U.heap = h0) (fun _ _ _ _ _ => True) (fun _ U o U' => ∃ v L, o = .returned v ∧ own_of_Q Z x rb rf ra h0 n0 v U'.heap L ∧ FrameEnd U o U' L ({ frames := 0, cells := 0, slots := 0, locals := 0 } : Room).cells ({ frames := 0, cells := 0, slots := 0, locals := 0 } : Room).slots) := by
  refine own_met (y := ⟨"com/example/far_corridor/farcorridor/service/LinkMeasures$RatioClass", "of", "(D)Lcom/example/far_corridor/farcorridor/service/LinkMeasures$RatioClass;"⟩) (Q := own_of_Q Z x rb rf ra h0 n0) own_pn0 ?_
  intro p e s m below meth c s₁ hx hby hml hZ hown hnm hret hlk X0 e0
  have N0 := Fr.nil n0
  refine own_cast (g' := (mkF m 0 #[.val (.double x), .second, .unset] [])) (by first | (simp [entryFrame, mkF, argsToLocals, Value.category]; done) | rfl) ?_
  refine own_pre (T' := s₁) (g' := (mkF m 1 #[.val (.double x), .second, .unset] [(.double x)])) (fun t k => XS.dloadN X0.here hx rfl (v := x) (hb hby d1_0) rfl k) ?_
  refine own_ldcd X0 hx hZ hown (hw _ (List.mem_of_getElem? (i := 8) rfl)) (hb hby d1_1) ?_
  show own_Go _ _ _ _ _ _ _ s₁ (mkF m 4 #[.val (.double x), .second, .unset] [(.double (4605380978949069210 : UInt64)), (.double x)])
  obtain ⟨k1, hk1⟩ : ∃ z, own_c (FP.Core.zval FP.Core.b64 (FP.Core.val64 x)) own_z8 = z := ⟨_, rfl⟩
  refine own_pre (T' := s₁) (g' := (mkF m 5 #[.val (.double x), .second, .unset] [(.int k1)])) (fun t k => XS.dcmpS X0.here hx rfl (hb hby d1_4) rfl ((own_dcmpz hnn own_nn8 _).trans hk1) k) ?_
  by_cases hlt : k1 < (0 : Int32)
  · skip
    refine own_pre (T' := s₁) (g' := (mkF m 8 #[.val (.double x), .second, .unset] [])) (fun t k => XS.ifNo X0.here hx rfl (hb hby d1_5) rfl ((if0 _ _).trans (tlt hlt).2.1) k) ?_
    refine own_gets X0 hx hZ hown (hw _ (List.mem_of_getElem? (i := 9) rfl)) e0 Sb (hb hby d1_8) ?_
    intro T2 X2 e2
    show own_Go _ _ _ _ _ _ _ T2 (mkF m 11 #[.val (.double x), .second, .unset] [(.ref rb)])
    refine own_pre (T' := T2) (g' := (mkF m 12 #[.val (.double x), .second, .val (.ref rb)] [])) (fun t k => XS.astoreN X2.here hx rfl (hb hby d1_11) rfl rfl (l' := #[.val (.double x), .second, .val (.ref rb)]) rfl k) ?_
    refine own_pre (T' := T2) (g' := (mkF m 32 #[.val (.double x), .second, .val (.ref rb)] [])) (fun t k => XS.goto X2.here hx rfl (pc0 := 12) (pc' := 32) rfl (hb hby d1_12) (by decide) (by decide) k) ?_
    refine own_pre (T' := T2) (g' := (mkF m 33 #[.val (.double x), .second, .val (.ref rb)] [(.ref rb)])) (fun t k => XS.aloadN X2.here hx rfl (v := (.ref rb)) (hb hby d1_32) rfl rfl k) ?_
    exact own_retA X2 hx hlk hret rfl rfl rfl (hb hby d1_33) e2 ⟨by rw [if_pos ((own_c_lt _ _).mp (by rw [hk1]; exact hlt))], N0, rfl⟩ (by decide) (by decide)
  · skip
    refine own_pre (T' := s₁) (g' := (mkF m 15 #[.val (.double x), .second, .unset] [])) (fun t k => XS.ifYes X0.here hx rfl (pc0 := 5) (pc' := 15) rfl (hb hby d1_5) rfl ((if0 _ _).trans (flt hlt).2.1) (by decide) (by decide) k) ?_
    refine own_pre (T' := s₁) (g' := (mkF m 16 #[.val (.double x), .second, .unset] [(.double x)])) (fun t k => XS.dloadN X0.here hx rfl (v := x) (hb hby d1_15) rfl k) ?_
    refine own_pre (T' := s₁) (g' := (mkF m 17 #[.val (.double x), .second, .unset] [(.double (4607182418800017408 : UInt64)), (.double x)])) (fun t k => XS.dconst1 X0.here hx rfl (v := (4607182418800017408 : UInt64)) (hb hby d1_16) (by decide) k) ?_
    obtain ⟨k3, hk3⟩ : ∃ z, own_c (FP.Core.zval FP.Core.b64 (FP.Core.val64 x)) own_z1 = z := ⟨_, rfl⟩
    refine own_pre (T' := s₁) (g' := (mkF m 18 #[.val (.double x), .second, .unset] [(.int k3)])) (fun t k => XS.dcmpS X0.here hx rfl (hb hby d1_17) rfl ((own_dcmpz hnn own_nn1 _).trans hk3) k) ?_
    by_cases hgt : (0 : Int32) < k3
    · skip
      refine own_pre (T' := s₁) (g' := (mkF m 28 #[.val (.double x), .second, .unset] [])) (fun t k => XS.ifYes X0.here hx rfl (pc0 := 18) (pc' := 28) rfl (hb hby d1_18) rfl ((if0 _ _).trans (tlt hgt).2.2.1) (by decide) (by decide) k) ?_
      refine own_gets X0 hx hZ hown (hw _ (List.mem_of_getElem? (i := 12) rfl)) e0 Sa (hb hby d1_28) ?_
      intro T4 X4 e4
      show own_Go _ _ _ _ _ _ _ T4 (mkF m 31 #[.val (.double x), .second, .unset] [(.ref ra)])
      refine own_pre (T' := T4) (g' := (mkF m 32 #[.val (.double x), .second, .val (.ref ra)] [])) (fun t k => XS.astoreN X4.here hx rfl (hb hby d1_31) rfl rfl (l' := #[.val (.double x), .second, .val (.ref ra)]) rfl k) ?_
      refine own_pre (T' := T4) (g' := (mkF m 33 #[.val (.double x), .second, .val (.ref ra)] [(.ref ra)])) (fun t k => XS.aloadN X4.here hx rfl (v := (.ref ra)) (hb hby d1_32) rfl rfl k) ?_
      exact own_retA X4 hx hlk hret rfl rfl rfl (hb hby d1_33) e4 ⟨by rw [if_neg (fun q => hlt (by rw [← hk1]; exact (own_c_lt _ _).mpr q)), if_pos ((own_c_gt _ _).mp (by rw [hk3]; exact hgt))], N0, rfl⟩ (by decide) (by decide)
    · skip
      refine own_pre (T' := s₁) (g' := (mkF m 21 #[.val (.double x), .second, .unset] [])) (fun t k => XS.ifNo X0.here hx rfl (hb hby d1_18) rfl ((if0 _ _).trans (flt hgt).2.2.1) k) ?_
      refine own_gets X0 hx hZ hown (hw _ (List.mem_of_getElem? (i := 15) rfl)) e0 Sf (hb hby d1_21) ?_
      intro T5 X5 e5
      show own_Go _ _ _ _ _ _ _ T5 (mkF m 24 #[.val (.double x), .second, .unset] [(.ref rf)])
      refine own_pre (T' := T5) (g' := (mkF m 25 #[.val (.double x), .second, .val (.ref rf)] [])) (fun t k => XS.astoreN X5.here hx rfl (hb hby d1_24) rfl rfl (l' := #[.val (.double x), .second, .val (.ref rf)]) rfl k) ?_
      refine own_pre (T' := T5) (g' := (mkF m 32 #[.val (.double x), .second, .val (.ref rf)] [])) (fun t k => XS.goto X5.here hx rfl (pc0 := 25) (pc' := 32) rfl (hb hby d1_25) (by decide) (by decide) k) ?_
      refine own_pre (T' := T5) (g' := (mkF m 33 #[.val (.double x), .second, .val (.ref rf)] [(.ref rf)])) (fun t k => XS.aloadN X5.here hx rfl (v := (.ref rf)) (hb hby d1_32) rfl rfl k) ?_
      exact own_retA X5 hx hlk hret rfl rfl rfl (hb hby d1_33) e5 ⟨by rw [if_neg (fun q => hlt (by rw [← hk1]; exact (own_c_lt _ _).mpr q)), if_neg (fun q => hgt (by rw [← hk3]; exact (own_c_gt _ _).mpr q))], N0, rfl⟩ (by decide) (by decide)
theorem own_pn1 : plainName "com/example/far_corridor/farcorridor/service/RatioClassOfPinLaw" = true := by first | (simp [plainName, overriddenIn]; done) | decide +kernel
theorem own_pd0 : parseMethodDescriptor "(D)Lcom/example/far_corridor/farcorridor/service/LinkMeasures$RatioClass;" = some ⟨[.double], some (.object "com/example/far_corridor/farcorridor/service/LinkMeasures$RatioClass")⟩ := by decide +kernel
def own_law_Q (Z : State) (p0 p1 : Int32) (rb rf ra : Addr) (h0 : Heap) (n0 : Nat) (v : Option Value) (h : Heap) (L : List Loc) : Prop := (fun v h L => v = some (.int 1) ∧ Fr n0 L) v h L
set_option maxRecDepth 65536 in
set_option maxHeartbeats 40000000 in
theorem own_law (l : Launch) (Z : State) (a0 : Array Value) (hw : ∀ d ∈ tables_1, d.before a0 Z = true) (wds : List Jvm.Cond) (p0 p1 : Int32) (rb rf ra : Addr) (h0 : Heap) (n0 : Nat) (Z0 : n0 ≤ h0.size) (Sb : Sta Z h0 "com/example/far_corridor/farcorridor/service/LinkMeasures$RatioClass" "BELOW_0_8" "Lcom/example/far_corridor/farcorridor/service/LinkMeasures$RatioClass;" (.ref rb)) (Sf : Sta Z h0 "com/example/far_corridor/farcorridor/service/LinkMeasures$RatioClass" "FROM_0_8_TO_1_0" "Lcom/example/far_corridor/farcorridor/service/LinkMeasures$RatioClass;" (.ref rf)) (Sa : Sta Z h0 "com/example/far_corridor/farcorridor/service/LinkMeasures$RatioClass" "ABOVE_1_0" "Lcom/example/far_corridor/farcorridor/service/LinkMeasures$RatioClass;" (.ref ra)) :
    MetFree l x (head1 (Jvm.Cond.code x code maxLocals ret :: wds) room_1) (fun a U => a = #[(.int p0), (.int p1)] ∧ Z.Warmed39 U.vm ∧ U.heap = h0) (fun _ _ _ _ _ => True) (fun _ U o U' => ∃ v L, o = .returned v ∧ own_law_Q Z p0 p1 rb rf ra h0 n0 v U'.heap L ∧ FrameEnd U o U' L room_1.cells room_1.slots) := by
  refine own_met (y := x) (Q := own_law_Q Z p0 p1 rb rf ra h0 n0) own_pn1 ?_
  intro p e s m below meth c s₁ hx hby hml hZ hown hnm hret hlk X0 e0
  have N0 := Fr.nil n0
  refine own_cast (g' := (mkF m 0 #[.val (.int p0), .val (.int p1), .unset, .unset, .unset, .unset, .unset] [])) (by first | (simp [entryFrame, mkF, argsToLocals, Value.category, maxLocals]; done) | rfl) ?_
  generalize hL1 : (#[.val (.int p0), .val (.int p1), .unset, .unset, .unset, .unset, .unset] : Array Slot) = L1
  refine own_pre (T' := s₁) (g' := (mkF m 1 L1 [(.int (1 : Int32))])) (fun t k => XS.iconst X0.here hx rfl (hb hby at_0) k) ?_
  refine own_pre (T' := s₁) (g' := (mkF m 2 L1 [(.int p1), (.int (1 : Int32))])) (fun t k => XS.iloadN X0.here hx rfl (v := p1) (hb hby at_1) (by rw [← hL1]; rfl) k) ?_
  refine own_pre (T' := s₁) (g' := (mkF m 5 L1 [(.int (1023 : Int32)), (.int p1), (.int (1 : Int32))])) (fun t k => XS.sipush X0.here hx rfl (hb hby at_2) k) ?_
  refine own_pre (T' := s₁) (g' := (mkF m 6 L1 [(.int (p1 &&& (1023 : Int32))), (.int (1 : Int32))])) (fun t k => XS.iand X0.here hx rfl (hb hby at_5) rfl k) ?_
  refine own_pre (T' := s₁) (g' := (mkF m 7 L1 [(.int ((1 : Int32) + (p1 &&& (1023 : Int32))))])) (fun t k => XS.iadd X0.here hx rfl (hb hby at_6) rfl k) ?_
  generalize hv2 : (1 : Int32) + (p1 &&& (1023 : Int32)) = v2
  refine own_pre (T' := s₁) (g' := (mkF m 8 #[.val (.int p0), .val (.int p1), .val (.int v2), .unset, .unset, .unset, .unset] [])) (fun t k => XS.istoreN X0.here hx rfl (hb hby at_7) rfl (l' := #[.val (.int p0), .val (.int p1), .val (.int v2), .unset, .unset, .unset, .unset]) (by rw [← hL1]; rfl) k) ?_
  generalize hL3 : (#[.val (.int p0), .val (.int p1), .val (.int v2), .unset, .unset, .unset, .unset] : Array Slot) = L3
  refine own_pre (T' := s₁) (g' := (mkF m 9 L3 [(.int p0)])) (fun t k => XS.iloadN X0.here hx rfl (v := p0) (hb hby at_8) (by rw [← hL3]; rfl) k) ?_
  obtain ⟨f4, hf4⟩ : ∃ z, FP.i2d p0 = z := ⟨_, rfl⟩
  refine own_pre (T' := s₁) (g' := (mkF m 10 L3 [(.double f4)])) (fun t k => XS.i2dS X0.here hx rfl (hb hby at_9) rfl hf4 k) ?_
  have Df4 : Jvm.FP.Core.DInt p0.toInt f4 := hf4 ▸ Jvm.FP.Core.i2d_int _
  refine own_pre (T' := s₁) (g' := (mkF m 11 L3 [(.int v2), (.double f4)])) (fun t k => XS.iloadN X0.here hx rfl (v := v2) (hb hby at_10) (by rw [← hL3]; rfl) k) ?_
  obtain ⟨f5, hf5⟩ : ∃ z, FP.i2d v2 = z := ⟨_, rfl⟩
  refine own_pre (T' := s₁) (g' := (mkF m 12 L3 [(.double f5), (.double f4)])) (fun t k => XS.i2dS X0.here hx rfl (hb hby at_11) rfl hf5 k) ?_
  have Df5 : Jvm.FP.Core.DInt v2.toInt f5 := hf5 ▸ Jvm.FP.Core.i2d_int _
  have hd : 1 ≤ v2.toInt ∧ v2.toInt ≤ 1024 := own_den p1 _ hv2
  obtain ⟨r, hr⟩ : ∃ z, FP.ddiv f4 f5 = z := ⟨_, rfl⟩
  obtain ⟨hrn, hr8, hr1⟩ := own_ratio Df4 Df5 hd.1 hd.2 hr
  refine own_pre (T' := s₁) (g' := (mkF m 13 L3 [(.double r)])) (fun t k => XS.ddivS X0.here hx rfl (hb hby at_12) rfl (by rw [hr]; exact hrn) hr k) ?_
  refine own_pre (T' := s₁) (g' := (mkF m 14 #[.val (.int p0), .val (.int p1), .val (.int v2), .val (.double r), .second, .unset, .unset] [])) (fun t k => XS.dstoreN X0.here hx rfl (hb hby at_13) rfl (l' := #[.val (.int p0), .val (.int p1), .val (.int v2), .val (.double r), .second, .unset, .unset]) (by rw [← hL3]; rfl) k) ?_
  generalize hL6 : (#[.val (.int p0), .val (.int p1), .val (.int v2), .val (.double r), .second, .unset, .unset] : Array Slot) = L6
  refine own_ldcl X0 hx hZ hown (hw _ (List.mem_of_getElem? (i := 0) rfl)) (hb hby at_14) ?_
  show own_Go _ _ _ _ _ _ _ s₁ (mkF m 17 L6 [(.long (5 : Int64))])
  refine own_pre (T' := s₁) (g' := (mkF m 18 L6 [(.int p0), (.long (5 : Int64))])) (fun t k => XS.iloadN X0.here hx rfl (v := p0) (hb hby at_17) (by rw [← hL6]; rfl) k) ?_
  refine own_pre (T' := s₁) (g' := (mkF m 19 L6 [(.long p0.toInt64), (.long (5 : Int64))])) (fun t k => XT.i2l X0.here hx rfl (hb hby at_18) rfl k) ?_
  refine own_pre (T' := s₁) (g' := (mkF m 20 L6 [(.long ((5 : Int64) * p0.toInt64))])) (fun t k => XT.lmul X0.here hx rfl (hb hby at_19) rfl k) ?_
  refine own_ldcl X0 hx hZ hown (hw _ (List.mem_of_getElem? (i := 1) rfl)) (hb hby at_20) ?_
  show own_Go _ _ _ _ _ _ _ s₁ (mkF m 23 L6 [(.long (4 : Int64)), (.long ((5 : Int64) * p0.toInt64))])
  refine own_pre (T' := s₁) (g' := (mkF m 24 L6 [(.int v2), (.long (4 : Int64)), (.long ((5 : Int64) * p0.toInt64))])) (fun t k => XS.iloadN X0.here hx rfl (v := v2) (hb hby at_23) (by rw [← hL6]; rfl) k) ?_
  refine own_pre (T' := s₁) (g' := (mkF m 25 L6 [(.long v2.toInt64), (.long (4 : Int64)), (.long ((5 : Int64) * p0.toInt64))])) (fun t k => XT.i2l X0.here hx rfl (hb hby at_24) rfl k) ?_
  refine own_pre (T' := s₁) (g' := (mkF m 26 L6 [(.long ((4 : Int64) * v2.toInt64)), (.long ((5 : Int64) * p0.toInt64))])) (fun t k => XT.lmul X0.here hx rfl (hb hby at_25) rfl k) ?_
  refine own_pre (T' := s₁) (g' := (mkF m 27 L6 [(.int (XT.cmpL ((5 : Int64) * p0.toInt64) ((4 : Int64) * v2.toInt64)))])) (fun t k => XT.lcmp X0.here hx rfl (hb hby at_26) rfl k) ?_
  by_cases hlt : (XT.cmpL ((5 : Int64) * p0.toInt64) ((4 : Int64) * v2.toInt64)) < (0 : Int32)
  · skip
    refine own_pre (T' := s₁) (g' := (mkF m 30 L6 [])) (fun t k => XS.ifNo X0.here hx rfl (hb hby at_27) rfl ((if0 _ _).trans (tlt hlt).2.1) k) ?_
    refine own_gets X0 hx hZ hown (hw _ (List.mem_of_getElem? (i := 2) rfl)) e0 Sb (hb hby at_30) ?_
    intro T7 X7 e7
    show own_Go _ _ _ _ _ _ _ T7 (mkF m 33 L6 [(.ref rb)])
    refine own_pre (T' := T7) (g' := (mkF m 35 #[.val (.int p0), .val (.int p1), .val (.int v2), .val (.double r), .second, .val (.ref rb), .unset] [])) (fun t k => XS.astore X7.here hx rfl (hb hby at_33) rfl rfl (l' := #[.val (.int p0), .val (.int p1), .val (.int v2), .val (.double r), .second, .val (.ref rb), .unset]) (by rw [← hL6]; rfl) k) ?_
    generalize hL8 : (#[.val (.int p0), .val (.int p1), .val (.int v2), .val (.double r), .second, .val (.ref rb), .unset] : Array Slot) = L8
    refine own_pre (T' := T7) (g' := (mkF m 59 L8 [])) (fun t k => XS.goto X7.here hx rfl (pc0 := 35) (pc' := 59) rfl (hb hby at_35) (by decide) (by decide) k) ?_
    refine own_pre (T' := T7) (g' := (mkF m 60 L8 [(.double r)])) (fun t k => XS.dloadN X7.here hx rfl (v := r) (hb hby at_59) (by rw [← hL8]; rfl) k) ?_
    refine own_calls (argsL := [(.double r)]) (rest := []) X7 hx hZ hown (own_of l Z a0 hw [] r rb rf ra h0 n0 Z0 Sb Sf Sa hrn) (hw _ (List.mem_of_getElem? (i := 5) rfl)) (hw _ (List.mem_of_getElem? (i := 6) rfl)) (hw _ (List.mem_of_getElem? (i := 7) rfl)) (hw _ (List.mem_of_getElem? (i := 3) rfl)) (by decide) e7 (hb hby at_60) (by rw [hml, ← hL8]; rfl) rfl (lenOf own_pd0 rfl) (by decide) (W := 0) (by decide) (by decide) (by decide) (by decide) ?_
    intro v9 T9 lo9 X9 Q9
    obtain ⟨h9, e9⟩ : ∃ h, T9.heap = h := ⟨_, rfl⟩
    rw [e9] at Q9
    have hv : (if FP.Core.zval FP.Core.b64 (FP.Core.val64 r) < own_z8 then rb else if own_z1 < FP.Core.zval FP.Core.b64 (FP.Core.val64 r) then ra else rf) = rb := by
      rw [if_pos (hr8.mpr (own_lt5 hlt))]
    unfold own_of_Q at Q9
    rw [hv] at Q9
    obtain ⟨rfl, N9, q9⟩ := Q9
    have N9' := Fr.app N0 N9
    have e9' : T9.heap = h0 := e9.trans q9
    show own_Go _ _ _ _ _ _ _ T9 (mkF m 63 L8 [(.ref rb)])
    refine own_pre (T' := T9) (g' := (mkF m 65 #[.val (.int p0), .val (.int p1), .val (.int v2), .val (.double r), .second, .val (.ref rb), .val (.ref rb)] [])) (fun t k => XS.astore X9.here hx rfl (hb hby at_63) rfl rfl (l' := #[.val (.int p0), .val (.int p1), .val (.int v2), .val (.double r), .second, .val (.ref rb), .val (.ref rb)]) (by rw [← hL8]; rfl) k) ?_
    generalize hL10 : (#[.val (.int p0), .val (.int p1), .val (.int v2), .val (.double r), .second, .val (.ref rb), .val (.ref rb)] : Array Slot) = L10
    refine own_pre (T' := T9) (g' := (mkF m 67 L10 [(.ref rb)])) (fun t k => XS.aload X9.here hx rfl (v := (.ref rb)) (hb hby at_65) (by rw [← hL10]; rfl) rfl k) ?_
    refine own_pre (T' := T9) (g' := (mkF m 69 L10 [(.ref rb), (.ref rb)])) (fun t k => XS.aload X9.here hx rfl (v := (.ref rb)) (hb hby at_67) (by rw [← hL10]; rfl) rfl k) ?_
    refine own_pre (T' := T9) (g' := (mkF m 72 L10 [])) (fun t k => XT.acmpNo X9.here hx rfl (hb hby at_69) rfl rfl rfl (by simp [XT.acmp]) k) ?_
    refine own_pre (T' := T9) (g' := (mkF m 73 L10 [(.int (1 : Int32))])) (fun t k => XS.iconst X9.here hx rfl (hb hby at_72) k) ?_
    refine own_pre (T' := T9) (g' := (mkF m 77 L10 [(.int (1 : Int32))])) (fun t k => XS.goto X9.here hx rfl (pc0 := 73) (pc' := 77) rfl (hb hby at_73) (by decide) (by decide) k) ?_
    exact own_retZ X9 hx hlk hret rfl (hb hby at_77) e9' ⟨rfl, N9'⟩ (by decide) (by decide)
  · skip
    refine own_pre (T' := s₁) (g' := (mkF m 38 L6 [])) (fun t k => XS.ifYes X0.here hx rfl (pc0 := 27) (pc' := 38) rfl (hb hby at_27) rfl ((if0 _ _).trans (flt hlt).2.1) (by decide) (by decide) k) ?_
    refine own_pre (T' := s₁) (g' := (mkF m 39 L6 [(.int p0)])) (fun t k => XS.iloadN X0.here hx rfl (v := p0) (hb hby at_38) (by rw [← hL6]; rfl) k) ?_
    refine own_pre (T' := s₁) (g' := (mkF m 40 L6 [(.long p0.toInt64)])) (fun t k => XT.i2l X0.here hx rfl (hb hby at_39) rfl k) ?_
    refine own_pre (T' := s₁) (g' := (mkF m 41 L6 [(.int v2), (.long p0.toInt64)])) (fun t k => XS.iloadN X0.here hx rfl (v := v2) (hb hby at_40) (by rw [← hL6]; rfl) k) ?_
    refine own_pre (T' := s₁) (g' := (mkF m 42 L6 [(.long v2.toInt64), (.long p0.toInt64)])) (fun t k => XT.i2l X0.here hx rfl (hb hby at_41) rfl k) ?_
    refine own_pre (T' := s₁) (g' := (mkF m 43 L6 [(.int (XT.cmpL p0.toInt64 v2.toInt64))])) (fun t k => XT.lcmp X0.here hx rfl (hb hby at_42) rfl k) ?_
    by_cases hgt : (0 : Int32) < (XT.cmpL p0.toInt64 v2.toInt64)
    · skip
      refine own_pre (T' := s₁) (g' := (mkF m 54 L6 [])) (fun t k => XS.ifYes X0.here hx rfl (pc0 := 43) (pc' := 54) rfl (hb hby at_43) rfl ((if0 _ _).trans (tlt hgt).2.2.1) (by decide) (by decide) k) ?_
      refine own_gets X0 hx hZ hown (hw _ (List.mem_of_getElem? (i := 10) rfl)) e0 Sa (hb hby at_54) ?_
      intro T11 X11 e11
      show own_Go _ _ _ _ _ _ _ T11 (mkF m 57 L6 [(.ref ra)])
      refine own_pre (T' := T11) (g' := (mkF m 59 #[.val (.int p0), .val (.int p1), .val (.int v2), .val (.double r), .second, .val (.ref ra), .unset] [])) (fun t k => XS.astore X11.here hx rfl (hb hby at_57) rfl rfl (l' := #[.val (.int p0), .val (.int p1), .val (.int v2), .val (.double r), .second, .val (.ref ra), .unset]) (by rw [← hL6]; rfl) k) ?_
      generalize hL12 : (#[.val (.int p0), .val (.int p1), .val (.int v2), .val (.double r), .second, .val (.ref ra), .unset] : Array Slot) = L12
      refine own_pre (T' := T11) (g' := (mkF m 60 L12 [(.double r)])) (fun t k => XS.dloadN X11.here hx rfl (v := r) (hb hby at_59) (by rw [← hL12]; rfl) k) ?_
      refine own_calls (argsL := [(.double r)]) (rest := []) X11 hx hZ hown (own_of l Z a0 hw [] r rb rf ra h0 n0 Z0 Sb Sf Sa hrn) (hw _ (List.mem_of_getElem? (i := 5) rfl)) (hw _ (List.mem_of_getElem? (i := 6) rfl)) (hw _ (List.mem_of_getElem? (i := 7) rfl)) (hw _ (List.mem_of_getElem? (i := 3) rfl)) (by decide) e11 (hb hby at_60) (by rw [hml, ← hL12]; rfl) rfl (lenOf own_pd0 rfl) (by decide) (W := 0) (by decide) (by decide) (by decide) (by decide) ?_
      intro v13 T13 lo13 X13 Q13
      obtain ⟨h13, e13⟩ : ∃ h, T13.heap = h := ⟨_, rfl⟩
      rw [e13] at Q13
      have hv : (if FP.Core.zval FP.Core.b64 (FP.Core.val64 r) < own_z8 then rb else if own_z1 < FP.Core.zval FP.Core.b64 (FP.Core.val64 r) then ra else rf) = ra := by
        rw [if_neg (fun q => hlt (own_lt5' (hr8.mp q))), if_pos (hr1.mpr (own_gt1 hgt))]
      unfold own_of_Q at Q13
      rw [hv] at Q13
      obtain ⟨rfl, N13, q13⟩ := Q13
      have N13' := Fr.app N0 N13
      have e13' : T13.heap = h0 := e13.trans q13
      show own_Go _ _ _ _ _ _ _ T13 (mkF m 63 L12 [(.ref ra)])
      refine own_pre (T' := T13) (g' := (mkF m 65 #[.val (.int p0), .val (.int p1), .val (.int v2), .val (.double r), .second, .val (.ref ra), .val (.ref ra)] [])) (fun t k => XS.astore X13.here hx rfl (hb hby at_63) rfl rfl (l' := #[.val (.int p0), .val (.int p1), .val (.int v2), .val (.double r), .second, .val (.ref ra), .val (.ref ra)]) (by rw [← hL12]; rfl) k) ?_
      generalize hL14 : (#[.val (.int p0), .val (.int p1), .val (.int v2), .val (.double r), .second, .val (.ref ra), .val (.ref ra)] : Array Slot) = L14
      refine own_pre (T' := T13) (g' := (mkF m 67 L14 [(.ref ra)])) (fun t k => XS.aload X13.here hx rfl (v := (.ref ra)) (hb hby at_65) (by rw [← hL14]; rfl) rfl k) ?_
      refine own_pre (T' := T13) (g' := (mkF m 69 L14 [(.ref ra), (.ref ra)])) (fun t k => XS.aload X13.here hx rfl (v := (.ref ra)) (hb hby at_67) (by rw [← hL14]; rfl) rfl k) ?_
      refine own_pre (T' := T13) (g' := (mkF m 72 L14 [])) (fun t k => XT.acmpNo X13.here hx rfl (hb hby at_69) rfl rfl rfl (by simp [XT.acmp]) k) ?_
      refine own_pre (T' := T13) (g' := (mkF m 73 L14 [(.int (1 : Int32))])) (fun t k => XS.iconst X13.here hx rfl (hb hby at_72) k) ?_
      refine own_pre (T' := T13) (g' := (mkF m 77 L14 [(.int (1 : Int32))])) (fun t k => XS.goto X13.here hx rfl (pc0 := 73) (pc' := 77) rfl (hb hby at_73) (by decide) (by decide) k) ?_
      exact own_retZ X13 hx hlk hret rfl (hb hby at_77) e13' ⟨rfl, N13'⟩ (by decide) (by decide)
    · skip
      refine own_pre (T' := s₁) (g' := (mkF m 46 L6 [])) (fun t k => XS.ifNo X0.here hx rfl (hb hby at_43) rfl ((if0 _ _).trans (flt hgt).2.2.1) k) ?_
      refine own_gets X0 hx hZ hown (hw _ (List.mem_of_getElem? (i := 13) rfl)) e0 Sf (hb hby at_46) ?_
      intro T15 X15 e15
      show own_Go _ _ _ _ _ _ _ T15 (mkF m 49 L6 [(.ref rf)])
      refine own_pre (T' := T15) (g' := (mkF m 51 #[.val (.int p0), .val (.int p1), .val (.int v2), .val (.double r), .second, .val (.ref rf), .unset] [])) (fun t k => XS.astore X15.here hx rfl (hb hby at_49) rfl rfl (l' := #[.val (.int p0), .val (.int p1), .val (.int v2), .val (.double r), .second, .val (.ref rf), .unset]) (by rw [← hL6]; rfl) k) ?_
      generalize hL16 : (#[.val (.int p0), .val (.int p1), .val (.int v2), .val (.double r), .second, .val (.ref rf), .unset] : Array Slot) = L16
      refine own_pre (T' := T15) (g' := (mkF m 59 L16 [])) (fun t k => XS.goto X15.here hx rfl (pc0 := 51) (pc' := 59) rfl (hb hby at_51) (by decide) (by decide) k) ?_
      refine own_pre (T' := T15) (g' := (mkF m 60 L16 [(.double r)])) (fun t k => XS.dloadN X15.here hx rfl (v := r) (hb hby at_59) (by rw [← hL16]; rfl) k) ?_
      refine own_calls (argsL := [(.double r)]) (rest := []) X15 hx hZ hown (own_of l Z a0 hw [] r rb rf ra h0 n0 Z0 Sb Sf Sa hrn) (hw _ (List.mem_of_getElem? (i := 5) rfl)) (hw _ (List.mem_of_getElem? (i := 6) rfl)) (hw _ (List.mem_of_getElem? (i := 7) rfl)) (hw _ (List.mem_of_getElem? (i := 3) rfl)) (by decide) e15 (hb hby at_60) (by rw [hml, ← hL16]; rfl) rfl (lenOf own_pd0 rfl) (by decide) (W := 0) (by decide) (by decide) (by decide) (by decide) ?_
      intro v17 T17 lo17 X17 Q17
      obtain ⟨h17, e17⟩ : ∃ h, T17.heap = h := ⟨_, rfl⟩
      rw [e17] at Q17
      have hv : (if FP.Core.zval FP.Core.b64 (FP.Core.val64 r) < own_z8 then rb else if own_z1 < FP.Core.zval FP.Core.b64 (FP.Core.val64 r) then ra else rf) = rf := by
        rw [if_neg (fun q => hlt (own_lt5' (hr8.mp q))), if_neg (fun q => hgt (own_gt1' (hr1.mp q)))]
      unfold own_of_Q at Q17
      rw [hv] at Q17
      obtain ⟨rfl, N17, q17⟩ := Q17
      have N17' := Fr.app N0 N17
      have e17' : T17.heap = h0 := e17.trans q17
      show own_Go _ _ _ _ _ _ _ T17 (mkF m 63 L16 [(.ref rf)])
      refine own_pre (T' := T17) (g' := (mkF m 65 #[.val (.int p0), .val (.int p1), .val (.int v2), .val (.double r), .second, .val (.ref rf), .val (.ref rf)] [])) (fun t k => XS.astore X17.here hx rfl (hb hby at_63) rfl rfl (l' := #[.val (.int p0), .val (.int p1), .val (.int v2), .val (.double r), .second, .val (.ref rf), .val (.ref rf)]) (by rw [← hL16]; rfl) k) ?_
      generalize hL18 : (#[.val (.int p0), .val (.int p1), .val (.int v2), .val (.double r), .second, .val (.ref rf), .val (.ref rf)] : Array Slot) = L18
      refine own_pre (T' := T17) (g' := (mkF m 67 L18 [(.ref rf)])) (fun t k => XS.aload X17.here hx rfl (v := (.ref rf)) (hb hby at_65) (by rw [← hL18]; rfl) rfl k) ?_
      refine own_pre (T' := T17) (g' := (mkF m 69 L18 [(.ref rf), (.ref rf)])) (fun t k => XS.aload X17.here hx rfl (v := (.ref rf)) (hb hby at_67) (by rw [← hL18]; rfl) rfl k) ?_
      refine own_pre (T' := T17) (g' := (mkF m 72 L18 [])) (fun t k => XT.acmpNo X17.here hx rfl (hb hby at_69) rfl rfl rfl (by simp [XT.acmp]) k) ?_
      refine own_pre (T' := T17) (g' := (mkF m 73 L18 [(.int (1 : Int32))])) (fun t k => XS.iconst X17.here hx rfl (hb hby at_72) k) ?_
      refine own_pre (T' := T17) (g' := (mkF m 77 L18 [(.int (1 : Int32))])) (fun t k => XS.goto X17.here hx rfl (pc0 := 73) (pc' := 77) rfl (hb hby at_73) (by decide) (by decide) k) ?_
      exact own_retZ X17 hx hlk hret rfl (hb hby at_77) e17' ⟨rfl, N17'⟩ (by decide) (by decide)
set_option maxRecDepth 65536 in
set_option maxHeartbeats 40000000 in
theorem own_comes {Post : Tables → Env → Array Value → State → Outcome → State → Prop} (hpost : ∀ tb e args s v u, (limb_1_1.after args s (.returned v) u = true ∧ limb_1_2.after args s (.returned v) u = true ∧ True) → FrameEnd s (.returned v) u (Jvm.fieldLocs frame_1_writes args s ++ Jvm.arrayLocs frame_1_arrays args s ++ Jvm.staticLocs frame_1_statics s) 0 0 → Post tb e args s (.returned v) u) :
    ArmFor flags0 classFile x code maxLocals ret World_1 tables_1 room_1 Calls_1 rest_1 Pre_1 Post := by
  intro l hfl _ _ p e ha hc hk s m args below hf hA hF happ hP
  obtain ⟨hcalls, hrest, hpre⟩ := hP
  obtain ⟨-, -, -, hnamed, -, -, -, hat⟩ := (Spec.applies_iff hf).mp happ
  obtain ⟨hg, hn⟩ := and_e (Cond.before_iff.mp (show (Jvm.Cond.and given_1 narrow_1).before args s = true from hpre))
  obtain ⟨hcount, g0⟩ := and_e hg
  obtain ⟨k0, g1⟩ := and_e g0
  have k1 := g1
  obtain ⟨w0, w1, rfl⟩ : ∃ w0 w1, args = #[w0, w1] := by
    have hs : args.size = 2 := by simpa [Cond.value, given_1] using hcount
    obtain ⟨L⟩ := args
    match L, hs with
    | [w0, w1], _ => exact ⟨w0, w1, rfl⟩
  have hw := fun d (hd : d ∈ tables_1) => atoms_spec (ws := Jvm.Cond.code x code maxLocals ret :: tables_1) hat d (List.mem_cons_of_mem _ hd)
  obtain ⟨i0, e0⟩ := is_v k0
  obtain rfl : w0 = (.int i0) := Option.some.inj e0
  obtain ⟨i1, e1⟩ := is_v k1
  obtain rfl : w1 = (.int i1) := Option.some.inj e1
  obtain ⟨n1, n23⟩ := and_e hn
  obtain ⟨n2, n3⟩ := and_e n23
  obtain ⟨rb, eb⟩ := exa_v n1
  obtain ⟨ra, ea⟩ := exa_v n2
  obtain ⟨rf, ef⟩ := exa_v n3
  have Sb := Sta.start eb (Or.inr ⟨(hw _ (List.mem_of_getElem? (i := 3) rfl)), (hw _ (List.mem_of_getElem? (i := 4) rfl))⟩)
  have Sf := Sta.start ef (Or.inr ⟨(hw _ (List.mem_of_getElem? (i := 3) rfl)), (hw _ (List.mem_of_getElem? (i := 14) rfl))⟩)
  have Sa := Sta.start ea (Or.inr ⟨(hw _ (List.mem_of_getElem? (i := 3) rfl)), (hw _ (List.mem_of_getElem? (i := 11) rfl))⟩)
  obtain ⟨n, o, h1, h2, h3, _, L, rfl, ⟨rfl, N⟩, hq⟩ := own_law l s _ hw tables_1 i0 i1 rb rf ra s.heap s.heap.size (Nat.le_refl _) Sb Sf Sa p e ha hc hk s m _ below hf ((Spec.applies_iff_loose hf).mp happ).1 ⟨rfl, State.Warmed39.refl s, rfl⟩ trivial
  refine ⟨n, _, h1, h2, h3, hpost _ _ _ _ _ _ ⟨Cond.after_iff.mpr rfl, Cond.after_iff.mpr (eq_i res_at (Term.int_eval (1)) rfl), trivial⟩ ⟨hq.1, hq.2.1, (hq.2.2.sift fun y hy => Or.inr (N y hy)).mono (by decide) (by decide)⟩⟩
theorem main_1_1 : Claimed_1_1 := own_comes fun _ _ _ _ _ _ h hF => ⟨h.1, hF⟩
theorem main_1_2 : Claimed_1_2 := own_comes fun _ _ _ _ _ _ h hF => ⟨h.2.1, hF⟩
end Jvm.Pilot.@@N@@
namespace Jvm.Pilot.@@N@@
open Jvm Jvm.ClassFile Sem Op Lib Jvm.Free Jvm.Stand Jvm.Pilot.@@N@@.Jvm.D
/-! MADE BY PROGRAM (witnessworld.py) out of the Statement's table words and the real class files: 12 classes; the members and pool entries that the words name. The judged class is class 1, her method 1. -/
namespace start1
open Jvm.ClassFile
def u (s : String) : CpInfo := .utf8 (stringToUtf16 s)
/-- a pool by its gaps: so many unusable entries, then the entry; so many at the end -/
def gap : Nat → List CpInfo → List CpInfo
  | 0, r => r
  | n + 1, r => .unusable :: gap n r
def poolList (es : List (Nat × CpInfo)) (last : Nat) : List CpInfo := es.foldr (fun e r => gap e.1 (e.2 :: r)) (gap last [])
def pool (es : List (Nat × CpInfo)) (last : Nat) : Array CpInfo := ⟨poolList es last⟩
def fileOf (pool : Array CpInfo) (this : Nat) (attrs : Array Attribute := #[]) (ms : Array MethodInfo := #[]) (fl : Nat := 33) (sup : Nat := 0) (ifs : Array Nat := #[]) (fds : Array FieldInfo := #[]) : ClassFile where
  minorVersion := 0
  majorVersion := 65
  constantPool := pool
  accessFlags := fl
  thisClass := this
  superClass := sup
  interfaces := ifs
  fields := fds
  methods := ms
  attributes := attrs
def plain (name : String) (sup : Option ClassId) : Class where
  name := name
  kind := .ordinary
  loader := none
  accessFlags := 33
  super := sup
  interfaces := #[]
  cf := none
  fields := #[]
  methods := #[]
  instanceTypes := #[]
  staticTypes := #[]
  resolved := #[]
  callSites := []
  init := .initialized
  statics := none
  mirror := none

def pool0 : Array CpInfo := pool [(5, u "<init>"), (0, u "()V"), (1, .class_ 10), (1, u "java/lang/Object")] 113

def k0m0 : Method := { name := "<init>", desc := "()V", sig := { parameters := [], returnType := none }, accessFlags := 1, code := none }
/-- java/lang/Object -/
def k0 : Class := { plain "java/lang/Object" none with
  accessFlags := 33
  interfaces := #[]
  cf := some (fileOf pool0 8 #[] #[{ accessFlags := 1, nameIndex := 5, descriptorIndex := 6, attributes := #[] }] 33 0 #[] #[])
  fields := #[]
  methods := #[k0m0]
  instanceTypes := #[]
  staticTypes := #[]
  resolved := Array.replicate 124 none
  statics := none }

def pool1 : Array CpInfo := pool [(2, .class_ 4), (1, u "java/lang/Object"), (0, u "<init>"), (0, u "()V"), (0, .long 5), (1, .long 4), (1, .fieldref 12 13), (0, .class_ 14), (0, .nameAndType 15 16), (0, u "com/example/far_corridor/farcorridor/service/LinkMeasures$RatioClass"), (0, u "BELOW_0_8"), (0, u "Lcom/example/far_corridor/farcorridor/service/LinkMeasures$RatioClass;"), (0, .fieldref 12 18), (0, .nameAndType 19 16), (0, u "FROM_0_8_TO_1_0"), (0, .fieldref 12 21), (0, .nameAndType 22 16), (0, u "ABOVE_1_0"), (0, .methodref 12 24), (0, .nameAndType 25 26), (0, u "of"), (0, u "(D)Lcom/example/far_corridor/farcorridor/service/LinkMeasures$RatioClass;"), (0, .class_ 28), (0, u "com/example/far_corridor/farcorridor/service/RatioClassOfPinLaw"), (2, u "law"), (0, u "(II)Z")] 7

def k1m0 : Method := { name := "<init>", desc := "()V", sig := { parameters := [], returnType := none }, accessFlags := 2, code := none }
def k1c1 : Code := { maxStack := 6, maxLocals := 7, code := code, exceptionTable := #[], attributes := #[] }
def k1m1 : Method := { name := "law", desc := "(II)Z", sig := { parameters := [.int, .int], returnType := some .boolean }, accessFlags := 9, code := some k1c1 }
/-- com/example/far_corridor/farcorridor/service/RatioClassOfPinLaw -/
def k1 : Class := { plain "com/example/far_corridor/farcorridor/service/RatioClassOfPinLaw" (some 0) with
  accessFlags := 49
  interfaces := #[]
  cf := some (fileOf pool1 27 #[] #[{ accessFlags := 2, nameIndex := 5, descriptorIndex := 6, attributes := #[] }, { accessFlags := 9, nameIndex := 31, descriptorIndex := 32, attributes := #[] }] 49 2 #[] #[])
  fields := #[]
  methods := #[k1m0, k1m1]
  instanceTypes := #[]
  staticTypes := #[]
  resolved := Array.replicate 40 none
  statics := none }

def pool2 : Array CpInfo := pool [(1, .class_ 2), (0, u "java/lang/constant/Constable"), (0, .class_ 4), (0, u "java/lang/Object")] 6

/-- java/lang/constant/Constable -/
def k2 : Class := { plain "java/lang/constant/Constable" (some 0) with
  accessFlags := 1537
  interfaces := #[]
  cf := some (fileOf pool2 1 #[] #[] 1537 3 #[] #[])
  fields := #[]
  methods := #[]
  instanceTypes := #[]
  staticTypes := #[]
  resolved := Array.replicate 11 none
  statics := none }

def pool3 : Array CpInfo := pool [(1, .class_ 2), (0, u "java/lang/Comparable"), (0, .class_ 4), (0, u "java/lang/Object")] 7

/-- java/lang/Comparable -/
def k3 : Class := { plain "java/lang/Comparable" (some 0) with
  accessFlags := 1537
  interfaces := #[]
  cf := some (fileOf pool3 1 #[] #[] 1537 3 #[] #[])
  fields := #[]
  methods := #[]
  instanceTypes := #[]
  staticTypes := #[]
  resolved := Array.replicate 12 none
  statics := none }

def pool4 : Array CpInfo := pool [(1, .class_ 2), (0, u "java/io/Serializable"), (0, .class_ 4), (0, u "java/lang/Object")] 2

/-- java/io/Serializable -/
def k4 : Class := { plain "java/io/Serializable" (some 0) with
  accessFlags := 1537
  interfaces := #[]
  cf := some (fileOf pool4 1 #[] #[] 1537 3 #[] #[])
  fields := #[]
  methods := #[]
  instanceTypes := #[]
  staticTypes := #[]
  resolved := Array.replicate 7 none
  statics := none }

def pool5 : Array CpInfo := pool [(2, .class_ 4), (1, u "java/lang/Enum"), (0, u "name"), (0, u "Ljava/lang/String;"), (2, u "ordinal"), (0, u "I"), (1, .class_ 14), (1, u "java/lang/Object"), (4, u "hash"), (86, .class_ 108), (1, u "java/lang/Enum$EnumDesc"), (2, .class_ 112), (0, u "java/lang/constant/Constable"), (0, .class_ 114), (0, u "java/lang/Comparable"), (0, .class_ 116), (0, u "java/io/Serializable")] 87

/-- java/lang/Enum -/
def k5 : Class := { plain "java/lang/Enum" (some 0) with
  accessFlags := 1057
  interfaces := #[2, 3, 4]
  cf := some (fileOf pool5 2 #[.nestMembers #[106]] #[] 1057 12 #[111, 113, 115] #[{ accessFlags := 18, nameIndex := 5, descriptorIndex := 6, attributes := #[] }, { accessFlags := 18, nameIndex := 9, descriptorIndex := 10, attributes := #[] }, { accessFlags := 2, nameIndex := 19, descriptorIndex := 10, attributes := #[] }])
  fields := #[{ name := "name", type := (.object "java/lang/String"), accessFlags := 18, slot := 0, constantValue := 0 }, { name := "ordinal", type := .int, accessFlags := 18, slot := 1, constantValue := 0 }, { name := "hash", type := .int, accessFlags := 2, slot := 2, constantValue := 0 }]
  methods := #[]
  instanceTypes := #[(.object "java/lang/String"), .int, .int]
  staticTypes := #[]
  resolved := Array.replicate 204 none
  statics := none }

def pool6 : Array CpInfo := pool [(1, .class_ 2), (0, u "com/example/far_corridor/farcorridor/service/LinkMeasures$RatioClass"), (0, .fieldref 1 4), (0, .nameAndType 5 6), (0, u "BELOW_0_8"), (0, u "Lcom/example/far_corridor/farcorridor/service/LinkMeasures$RatioClass;"), (0, .fieldref 1 8), (0, .nameAndType 9 6), (0, u "FROM_0_8_TO_1_0"), (0, .fieldref 1 11), (0, .nameAndType 12 6), (0, u "ABOVE_1_0"), (2, u "$VALUES"), (0, u "[Lcom/example/far_corridor/farcorridor/service/LinkMeasures$RatioClass;"), (6, .class_ 25), (1, u "java/lang/Enum"), (6, .double 4605380978949069210), (9, u "NEAR_CAPACITY"), (0, u "D"), (1, u "CAPACITY"), (9, u "of"), (0, u "(D)Lcom/example/far_corridor/farcorridor/service/LinkMeasures$RatioClass;"), (6, .class_ 64), (0, u "com/example/far_corridor/farcorridor/service/LinkMeasures")] 2

def k6c0 : Code := { maxStack := 4, maxLocals := 3, code := prog_75_method_4_code, exceptionTable := #[], attributes := #[] }
def k6m0 : Method := { name := "of", desc := "(D)Lcom/example/far_corridor/farcorridor/service/LinkMeasures$RatioClass;", sig := { parameters := [.double], returnType := some (.object "com/example/far_corridor/farcorridor/service/LinkMeasures$RatioClass") }, accessFlags := 9, code := some k6c0 }
/-- com/example/far_corridor/farcorridor/service/LinkMeasures$RatioClass -/
def k6 : Class := { plain "com/example/far_corridor/farcorridor/service/LinkMeasures$RatioClass" (some 5) with
  accessFlags := 16433
  interfaces := #[]
  cf := some (fileOf pool6 1 #[.nestHost 63] #[{ accessFlags := 9, nameIndex := 55, descriptorIndex := 56, attributes := #[] }] 16433 23 #[] #[{ accessFlags := 16409, nameIndex := 5, descriptorIndex := 6, attributes := #[] }, { accessFlags := 16409, nameIndex := 9, descriptorIndex := 6, attributes := #[] }, { accessFlags := 16409, nameIndex := 12, descriptorIndex := 6, attributes := #[] }, { accessFlags := 26, nameIndex := 42, descriptorIndex := 43, attributes := #[] }, { accessFlags := 26, nameIndex := 45, descriptorIndex := 43, attributes := #[] }, { accessFlags := 4122, nameIndex := 15, descriptorIndex := 16, attributes := #[] }])
  fields := #[{ name := "BELOW_0_8", type := (.object "com/example/far_corridor/farcorridor/service/LinkMeasures$RatioClass"), accessFlags := 16409, slot := 0, constantValue := 0 }, { name := "FROM_0_8_TO_1_0", type := (.object "com/example/far_corridor/farcorridor/service/LinkMeasures$RatioClass"), accessFlags := 16409, slot := 1, constantValue := 0 }, { name := "ABOVE_1_0", type := (.object "com/example/far_corridor/farcorridor/service/LinkMeasures$RatioClass"), accessFlags := 16409, slot := 2, constantValue := 0 }, { name := "NEAR_CAPACITY", type := .double, accessFlags := 26, slot := 3, constantValue := 0 }, { name := "CAPACITY", type := .double, accessFlags := 26, slot := 4, constantValue := 0 }, { name := "$VALUES", type := (.array (.object "com/example/far_corridor/farcorridor/service/LinkMeasures$RatioClass")), accessFlags := 4122, slot := 5, constantValue := 0 }]
  methods := #[k6m0]
  instanceTypes := #[(.object "java/lang/String"), .int, .int]
  staticTypes := #[(.object "com/example/far_corridor/farcorridor/service/LinkMeasures$RatioClass"), (.object "com/example/far_corridor/farcorridor/service/LinkMeasures$RatioClass"), (.object "com/example/far_corridor/farcorridor/service/LinkMeasures$RatioClass"), .double, .double, (.array (.object "com/example/far_corridor/farcorridor/service/LinkMeasures$RatioClass"))]
  resolved := Array.replicate 67 none
  statics := some 0 }

def pool7 : Array CpInfo := pool [(1, u "java/lang/Cloneable"), (0, .class_ 1), (0, u "java/lang/Object"), (0, .class_ 3)] 3

/-- java/lang/Cloneable -/
def k7 : Class := { plain "java/lang/Cloneable" (some 0) with
  accessFlags := 1537
  interfaces := #[]
  cf := some (fileOf pool7 2 #[] #[] 1537 4 #[] #[])
  fields := #[]
  methods := #[]
  instanceTypes := #[]
  staticTypes := #[]
  resolved := Array.replicate 8 none
  statics := none }

/-- the primitive byte -/
def k8 : Class := { plain "byte" none with kind := .primitive 'B', accessFlags := 0x411 }
/-- [B -/
def k9 : Class := { plain "[B" (some 0) with kind := .array 8 .byte, interfaces := #[7, 4], accessFlags := 1041 }

/-- the primitive int -/
def k10 : Class := { plain "int" none with kind := .primitive 'I', accessFlags := 0x411 }
/-- [I -/
def k11 : Class := { plain "[I" (some 0) with kind := .array 10 .int, interfaces := #[7, 4], accessFlags := 1041 }

def heap : Heap := #[{ cls := 6, slots := #[.ref 1, .ref 2, .ref 3, .double 0, .double 0, .null], vm := .statics 6 },
  { cls := 6, slots := #[.null, .int 0, .int 0], vm := .none },
  { cls := 6, slots := #[.null, .int 1, .int 0], vm := .none },
  { cls := 6, slots := #[.null, .int 2, .int 0], vm := .none }]
def classes : Array Class := #[k0, k1, k2, k3, k4, k5, k6, k7, k8, k9, k10, k11]
def interned : List (Array UInt16 × Addr) := []
def slotsUsed : Nat := 15
def theMethod : MethodId := ⟨1, 1⟩
def args0 : Array Value := #[.int 5, .int 7]
def aboutOver (below : List Frame) : State where
  vm := { classes := classes, interned := interned.toArray }
  heap := heap
  slotsUsed := slotsUsed
  threads := #[{ frames := .invoking theMethod args0 :: below }]
def below0 : List Frame := [.native { method := ⟨0, 0⟩, args := #[] }]
def about1 : State := aboutOver below0
def p0 : Program := .bare "" "" ""
def e0 : Env := launch0.env 0 0 0
theorem w_frames : about1.frames = Frame.invoking theMethod args0 :: below0 := rfl
set_option maxRecDepth 65536 in
theorem w_args : argsFit about1.vm theMethod args0 = true := by decide +kernel
set_option maxRecDepth 65536 in
theorem w_heap : heapFits about1 = true := by decide +kernel
set_option maxRecDepth 65536 in
theorem w_runnable : about1.curStatus? = some .runnable := by decide +kernel
set_option maxRecDepth 65536 in
theorem w_alone : about1.alone = true := by decide +kernel
set_option maxRecDepth 65536 in
theorem w_named : about1.methodNamed? x = some theMethod := by decide +kernel
set_option maxRecDepth 65536 in
theorem w_hears : about1.hears theMethod below0 = true := by decide +kernel
set_option maxRecDepth 65536 in
theorem w_ripe : about1.ripe theMethod args0 below0 = true := by decide +kernel
theorem w_running : about1.status = .running := rfl
set_option maxRecDepth 65536 in
theorem w_room : about1.hasRoom e0.platform room_1 = true :=
  launch0.hasRoom_least _ room_1 (by decide +kernel) (by decide +kernel) (by decide +kernel) (by decide +kernel) (by decide +kernel) (by decide +kernel)
theorem allAtoms_all (ts : List Jvm.Cond) (a : Array Jvm.Value) (st : Jvm.State) : (allAtoms ts).before a st = ts.all (fun c => c.before a st) := by
  induction ts with
  | nil => rfl
  | cons c t ih =>
    show (Jvm.Cond.and c (allAtoms t)).before a st = _
    rw [Jvm.Cond.before_and, ih, List.all_cons]
def words1 : List Jvm.Cond := Jvm.Cond.code x code maxLocals ret :: tables_1
/-- a 'code' word, met by the world's own term for the bytes: nothing is compared byte by byte -/
theorem code_word {y : MethodName} {bytes : ByteArray} {mx : Nat} {rt : Option FieldType} {a : Array Value} {s : State} {m : MethodId} {meth : Method} {c : Code} (h1 : s.methodNamed? y = some m) (h2 : s.vm.method? m = some meth) (h3 : meth.code = some c) (h4 : c.code = bytes)
    (h5 : (c.maxLocals == mx && c.exceptionTable.isEmpty && decide (c.maxStack ≤ mostOperands) && decide (meth.sig.returnType = rt) && !meth.locks && decide (parseMethodDescriptor y.desc = some meth.sig)) = true) : (Jvm.Cond.code y bytes mx rt).before a s = true := by
  simp only [Bool.and_eq_true, beq_iff_eq, Bool.not_eq_true', decide_eq_true_eq] at h5
  obtain ⟨⟨⟨⟨⟨g1, g2⟩, g3⟩, g4⟩, g5⟩, g6⟩ := h5
  simp [Cond.before, Cond.holds, Cond.value, h1, h2, h3, h4, g1, g2, g3, g4, g5, g6]
def isCode : Jvm.Cond → Bool
  | .code _ _ _ _ => true
  | _ => false
theorem all_split {L : List Jvm.Cond} {P : Jvm.Cond → Bool} (h1 : L.all (fun c => isCode c || P c) = true) (h2 : ∀ c ∈ L.filter isCode, P c = true) : L.all P = true := by
  refine List.all_eq_true.mpr fun c hc => ?_
  have h := List.all_eq_true.mp h1 c hc
  rcases Bool.eq_false_or_eq_true (isCode c) with hi | hi
  · exact h2 c (List.mem_filter.mpr ⟨hc, hi⟩)
  · simpa [hi] using h
set_option maxRecDepth 65536 in
theorem w_c0 : (Jvm.Cond.code x code maxLocals ret).before args0 about1 = true := code_word (m := ⟨1, 1⟩) (meth := k1m1) (c := k1c1) (by decide +kernel) rfl rfl rfl (by decide +kernel)
set_option maxRecDepth 65536 in
theorem w_c1 : (Jvm.Cond.code ({ cls := "com/example/far_corridor/farcorridor/service/LinkMeasures$RatioClass", name := "of", desc := "(D)Lcom/example/far_corridor/farcorridor/service/LinkMeasures$RatioClass;" } : Jvm.MethodName) prog_75_method_4_code (3 : Nat) (Option.some (Jvm.ClassFile.FieldType.object "com/example/far_corridor/farcorridor/service/LinkMeasures$RatioClass"))).before args0 about1 = true := code_word (m := ⟨6, 0⟩) (meth := k6m0) (c := k6c0) (by decide +kernel) rfl rfl rfl (by decide +kernel)
def codes1 : List Jvm.Cond := [Jvm.Cond.code x code maxLocals ret, Jvm.Cond.code ({ cls := "com/example/far_corridor/farcorridor/service/LinkMeasures$RatioClass", name := "of", desc := "(D)Lcom/example/far_corridor/farcorridor/service/LinkMeasures$RatioClass;" } : Jvm.MethodName) prog_75_method_4_code (3 : Nat) (Option.some (Jvm.ClassFile.FieldType.object "com/example/far_corridor/farcorridor/service/LinkMeasures$RatioClass"))]
set_option maxRecDepth 65536 in
theorem codes_eq : words1.filter isCode = codes1 := rfl
theorem w_codes : ∀ c ∈ words1.filter isCode, c.before args0 about1 = true := by
  rw [codes_eq]
  intro c hc
  simp only [codes1, List.mem_cons, List.not_mem_nil, or_false] at hc
  rcases hc with rfl | rfl
  · exact w_c0
  · exact w_c1
set_option maxRecDepth 65536 in
theorem w_t1 : words1.all (fun c => isCode c || c.before args0 about1) = true := by decide +kernel
theorem w_tables : (allAtoms (Jvm.Cond.code x code maxLocals ret :: tables_1)).before args0 about1 = true := by
  rw [allAtoms_all]
  show words1.all (fun c => c.before args0 about1) = true
  refine all_split ?_ w_codes
  rw [w_t1]
set_option maxRecDepth 65536 in
theorem w_case : (Jvm.Cond.and given_1 narrow_1).before args0 about1 = true := by decide +kernel
theorem w_applies : (headSpec (Jvm.Cond.code x code maxLocals ret :: tables_1) room_1).applies x e0.platform about1 = true :=
  (Spec.applies_iff w_frames).mpr ⟨w_running, w_runnable, w_alone, w_named, w_hears, w_ripe, w_room, w_tables⟩
theorem atStart : AtStart classFile x code maxLocals ret World_1 tables_1 room_1 Calls_1 rest_1 Pre_1 launch0 p0 e0 about1 theMethod args0 below0 :=
  ⟨lists_1, trivial, launch0.admits_env _ _ _, launch0.least_env, fairChoices_fair.cas, fairChoices_fair.clock, w_frames, w_args, w_heap, w_applies, trivial, trivial, w_case⟩
end start1
theorem witness_1 : WitnessClaimed_1 := ⟨start1.p0, start1.e0, start1.about1, start1.theMethod, start1.args0, start1.below0, start1.atStart⟩
end Jvm.Pilot.@@N@@
