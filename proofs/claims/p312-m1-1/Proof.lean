import JvmDerived
import JvmDerived.Pilot.@@N@@Statement
import JvmDerived.Pilot.@@N@@Code
set_option linter.unusedVariables false
set_option linter.unusedSimpArgs false
namespace Jvm.RoadKit
open Sem ClassFile Op Lib Jvm.Stand Jvm.Free Jvm.LawKit
/-- what is left of a walk: from this frame the method returns, and what it leaves is as Q says -/
def own_Go (p : Program) (e : Env) (below : List Frame) (s : State) (Q : Option Value → Heap → List Loc → Prop) (kc ks : Nat) (T : State) (g : JFrame) : Prop :=
  ∃ s₂ o, Steps p.tables e below (T.setTop g) s₂ ∧ s₂.status = .running ∧ Ended s₂ below o ∧ ∃ v L, o = .returned v ∧ Q v s₂.heap L ∧ FrameEnd s o s₂ L kc ks
section Own
variable {p : Program} {l : Launch} {e : Env} {R : Room} {s : State} {m : MethodId} {args : Array Value} {below : List Frame} {meth : Method} {c : Code} {T T' : State} {locs : List Loc} {cells slots : Nat} {Z : State} {h h' h0 : Heap} {Q : Option Value → Heap → List Loc → Prop} {kc ks : Nat} {g g' : JFrame} {a0 : Array Value} {pc : Nat} {Ls : Array Slot} {rest : List Value} {a b : Addr} {n0 : Nat} {ty : FieldType} {vs : List Value} {C : String} {sl : Nat} {v : Value} {ws : List Addr}
theorem own_pre (st : ∀ t, Steps p.tables e below (T'.setTop g') t → Steps p.tables e below (T.setTop g) t) (k : own_Go p e below s Q kc ks T' g') : own_Go p e below s Q kc ks T g := by
  obtain ⟨s₂, o, h1, r⟩ := k
  exact ⟨s₂, o, st _ h1, r⟩
theorem own_tr (st : Steps p.tables e below (T.setTop g) (T'.setTop g')) (k : own_Go p e below s Q kc ks T' g') : own_Go p e below s Q kc ks T g := by
  obtain ⟨s₂, o, h1, r⟩ := k
  exact ⟨s₂, o, st.trans h1, r⟩
theorem own_cast (q : g = g') (k : own_Go p e below s Q kc ks T g') : own_Go p e below s Q kc ks T g := q ▸ k
theorem own_ret (X : Stand p l e R s m args below meth c T locs cells slots) (hlk : meth.locks = false) {v : Option Value} (hv : meth.sig.returnType = none → v = none) (eT : T.heap = h)
    (st : ∀ fs, (∀ (f : JFrame) (acts : List Action), f.method = m → f.locked = none → f.entered = [] → (doReturn e (T.setTop f) acts v).1 = T.setFrames fs) → Steps p.tables e below (T.setTop g) (T.setFrames fs))
    (hq : Q v h locs) (hc : cells ≤ kc) (hs : slots ≤ ks) : own_Go p e below s Q kc ks T g := by
  obtain ⟨fs, hr, hrun, hended, hW, hsame⟩ := X.leave (v := v) hv hlk
  exact ⟨_, _, st fs hr, hrun, hended, _, _, rfl, (by show Q v T.heap _; rw [eT]; exact hq), ⟨_, rfl⟩, hW, hsame.mono hc hs⟩
theorem own_ret0 (X : Stand p l e R s m args below meth c T locs cells slots) (hx : p.tables.exec = Jvm.exec) (hlk : meth.locks = false) (hret : meth.sig.returnType = none) (hd : decode c.code pc = .ok (.return_, 1)) (eT : T.heap = h) (hq : Q none h locs) (hc : cells ≤ kc) (hs : slots ≤ ks) : own_Go p e below s Q kc ks T (mkF m pc Ls []) :=
  own_ret X hlk (fun _ => rfl) eT (fun _ hr => X.returnOut hx hret hd hr) hq hc hs
theorem own_ret1 (X : Stand p l e R s m args below meth c T locs cells slots) (hx : p.tables.exec = Jvm.exec) (hlk : meth.locks = false) {w : Value} {t : FieldType} {i : Instr} (hret : meth.sig.returnType = some t) (hn : narrow t w = w)
    (hi : (i = .ireturn ∧ (t = .int ∨ t = .boolean ∨ t = .byte ∨ t = .char ∨ t = .short) ∧ ∃ z, w = .int z) ∨ (i = .lreturn ∧ t = .long ∧ ∃ z, w = .long z) ∨ (i = .dreturn ∧ t = .double ∧ ∃ z, w = .double z) ∨ (i = .freturn ∧ t = .float ∧ ∃ z, w = .float z) ∨ (i = .areturn ∧ t.isReference = true ∧ w.isRef = true))
    (hd : decode c.code pc = .ok (i, 1)) (eT : T.heap = h) (hq : Q (some w) h locs) (hc : cells ≤ kc) (hs : slots ≤ ks) : own_Go p e below s Q kc ks T (mkF m pc Ls (w :: rest)) :=
  own_ret X hlk (fun q => by rw [hret] at q; cases q) eT (fun _ hr => retOut X hx hret hn hi hd hr) hq hc hs
theorem own_retI (X : Stand p l e R s m args below meth c T locs cells slots) (hx : p.tables.exec = Jvm.exec) (hlk : meth.locks = false) {z : Int32} (hret : meth.sig.returnType = some .int) (hd : decode c.code pc = .ok (.ireturn, 1)) (eT : T.heap = h) (hq : Q (some (.int z)) h locs) (hc : cells ≤ kc) (hs : slots ≤ ks) : own_Go p e below s Q kc ks T (mkF m pc Ls (.int z :: rest)) :=
  own_ret1 X hx hlk hret rfl (Or.inl ⟨rfl, Or.inl rfl, _, rfl⟩) hd eT hq hc hs
theorem own_retZ (X : Stand p l e R s m args below meth c T locs cells slots) (hx : p.tables.exec = Jvm.exec) (hlk : meth.locks = false) {z : Int32} (hret : meth.sig.returnType = some .boolean) (hn : narrow .boolean (.int z) = .int z) (hd : decode c.code pc = .ok (.ireturn, 1)) (eT : T.heap = h) (hq : Q (some (.int z)) h locs) (hc : cells ≤ kc) (hs : slots ≤ ks) : own_Go p e below s Q kc ks T (mkF m pc Ls (.int z :: rest)) :=
  own_ret1 X hx hlk hret hn (Or.inl ⟨rfl, Or.inr (Or.inl rfl), _, rfl⟩) hd eT hq hc hs
theorem own_retL (X : Stand p l e R s m args below meth c T locs cells slots) (hx : p.tables.exec = Jvm.exec) (hlk : meth.locks = false) {z : Int64} (hret : meth.sig.returnType = some .long) (hd : decode c.code pc = .ok (.lreturn, 1)) (eT : T.heap = h) (hq : Q (some (.long z)) h locs) (hc : cells ≤ kc) (hs : slots ≤ ks) : own_Go p e below s Q kc ks T (mkF m pc Ls (.long z :: rest)) :=
  own_ret1 X hx hlk hret rfl (Or.inr (Or.inl ⟨rfl, rfl, _, rfl⟩)) hd eT hq hc hs
theorem own_retD (X : Stand p l e R s m args below meth c T locs cells slots) (hx : p.tables.exec = Jvm.exec) (hlk : meth.locks = false) {z : UInt64} (hret : meth.sig.returnType = some .double) (hd : decode c.code pc = .ok (.dreturn, 1)) (eT : T.heap = h) (hq : Q (some (.double z)) h locs) (hc : cells ≤ kc) (hs : slots ≤ ks) : own_Go p e below s Q kc ks T (mkF m pc Ls (.double z :: rest)) :=
  own_ret1 X hx hlk hret rfl (Or.inr (Or.inr (Or.inl ⟨rfl, rfl, _, rfl⟩))) hd eT hq hc hs
theorem own_retA (X : Stand p l e R s m args below meth c T locs cells slots) (hx : p.tables.exec = Jvm.exec) (hlk : meth.locks = false) {w : Value} {t : FieldType} (hret : meth.sig.returnType = some t) (ht : t.isReference = true) (hw : w.isRef = true) (hn : narrow t w = w) (hd : decode c.code pc = .ok (.areturn, 1)) (eT : T.heap = h) (hq : Q (some w) h locs) (hc : cells ≤ kc) (hs : slots ≤ ks) : own_Go p e below s Q kc ks T (mkF m pc Ls (w :: rest)) :=
  own_ret1 X hx hlk hret hn (Or.inr (Or.inr (Or.inr (Or.inr ⟨rfl, ht, hw⟩)))) hd eT hq hc hs
/-- a contract out of a walk -/
theorem own_met {y : MethodName} {bytes : ByteArray} {maxL : Nat} {ret : Option FieldType} {wds : List Cond} {rm : Room} {as' : Array Value} (hpl : plainName y.cls = true)
    (body : ∀ p e s m below meth c s₁, p.tables.exec = Jvm.exec → c.code = bytes → c.maxLocals = maxL → Z.Warmed39 s.vm → s.vm.findClass y.cls = some m.cls → meth.name = y.name → meth.sig.returnType = ret → meth.locks = false → Stand p l e rm s m as' below meth c s₁ [] 0 0 → s₁.heap = h → own_Go p e below s Q rm.cells rm.slots s₁ (entryFrame m as' maxL)) :
    MetFree l y (head1 (Cond.code y bytes maxL ret :: wds) rm) (fun a U => a = as' ∧ Z.Warmed39 U.vm ∧ U.heap = h) (fun _ _ _ _ _ => True) (fun _ U o U' => ∃ v L, o = .returned v ∧ Q v U'.heap L ∧ FrameEnd U o U' L rm.cells rm.slots) := by
  refine MetFree.of_bodySF (plainFor_of_name hpl) hisR ?_
  intro p e s m args below meth c s₁ Bd hml0 hP hK
  obtain ⟨rfl, hZ, hh⟩ := hP
  exact body p e s m below meth c s₁ Bd.exec Bd.bytes hml0 hZ (findClass_of_methodNamed Bd.named) (name_of_methodNamed Bd.named Bd.method).1 Bd.returns Bd.notSynchronized (Stand.of_body Bd) (by rw [← hh, Bd.state]; rfl)
/-! arrays by their list -/
def own_Ary (Z : State) (h : Heap) (a : Addr) (ty : FieldType) (vs : List Value) : Prop := ∃ c : Cell, Arr Z h a c ty ∧ c.slots.toList = vs ∧ vs.length < 2 ^ 31
theorem own_Ary.lt (F : own_Ary Z h a ty vs) : a < h.size := by obtain ⟨c, A, -⟩ := F; exact A.lt
theorem own_Ary.ext (F : own_Ary Z h a ty vs) (E : Ext h h') : own_Ary Z h' a ty vs := by obtain ⟨c, A, r⟩ := F; exact ⟨c, A.ext E, r⟩
theorem own_Ary.other (F : own_Ary Z h b ty vs) (W : Wr h h' a sl v) (q : b ≠ a) : own_Ary Z h' b ty vs := by obtain ⟨c, A, r⟩ := F; exact ⟨c, A.other W q, r⟩
theorem own_Ary.keep (F : own_Ary Z h a ty vs) (K : Keep h h' ws) (q : a ∉ ws) : own_Ary Z h' a ty vs := by obtain ⟨c, A, r⟩ := F; exact ⟨c, ⟨K.2.1 a c A.1 q, A.2⟩, r⟩
theorem own_Ary.set (F : own_Ary Z h a ty vs) (W : Wr h h' a sl v) : own_Ary Z h' a ty (vs.set sl v) := by
  obtain ⟨c, A, r1, r2⟩ := F
  refine ⟨_, A.same W, ?_, by simpa using r2⟩
  simp [Cell.setSlot, r1]
theorem own_Ary.new {k : ClassId} {z : Int32} {n : Nat} (A : Arr Z h a (newA k ty z) ty) (q : z.toNatClampNeg = n) : own_Ary Z h a ty (List.replicate n (defaultValue ty)) := by
  refine ⟨_, A, ?_, ?_⟩
  · simp [newA, q]
  · have h1 := Int32.toInt_lt z
    simp only [Int32.toNatClampNeg] at q
    simp only [List.length_replicate]; omega
theorem own_inb {j : Int32} {n : Nat} {c : Cell} (h0 : 0 ≤ j) (hc : c.slots.toList = vs) (hj : j.toNatClampNeg = n) (hn : n < vs.length) : ¬ (j < 0 ∨ c.slots.size ≤ j.toNatClampNeg) := by
  subst hc hj
  rw [Array.length_toList] at hn
  intro q
  rcases q with q | q
  · exact absurd q (Int32.not_lt.mpr h0)
  · omega
theorem own_idx {n : Nat} {c : Cell} (hc : c.slots.toList = vs) (hv : vs[n]? = some v) : c.slots[n]? = some v := by
  subst hc; simpa using hv
theorem own_len (X : Stand p l e R s m args below meth c T locs cells slots) (hx : p.tables.exec = Jvm.exec) (hZ : Z.Warmed39 s.vm) (eT : T.heap = h) (F : own_Ary Z h a ty vs) (hd : decode c.code pc = .ok (.arraylength, 1)) {n : Int32} (hn : vs.length.toInt32 = n)
    (k : own_Go p e below s Q kc ks T (mkF m (pc + 1) Ls (.int n :: rest))) : own_Go p e below s Q kc ks T (mkF m pc Ls (.ref a :: rest)) := by
  obtain ⟨cl, A, r1, r2⟩ := F
  refine own_pre (fun t k => X.arraylength hx (cell := cl) (by rw [eT]; exact A.1) (State.isArrayOf_alike hZ.alike A.2.1) (g := mkF m pc Ls (.ref a :: rest)) rfl (rest := rest) rfl hd _ k) ?_
  have q : cl.slots.size = vs.length := by rw [← r1, Array.length_toList]
  rw [q, hn]; exact k
theorem own_iaload (X : Stand p l e R s m args below meth c T locs cells slots) (hx : p.tables.exec = Jvm.exec) (hZ : Z.Warmed39 s.vm) (eT : T.heap = h) (F : own_Ary Z h a .int vs) (hd : decode c.code pc = .ok (.iaload, 1)) {j : Int32} {n : Nat} (h0 : 0 ≤ j) (hj : j.toNatClampNeg = n) (hv : vs[n]? = some v)
    (k : own_Go p e below s Q kc ks T (mkF m (pc + 1) Ls (v :: rest))) : own_Go p e below s Q kc ks T (mkF m pc Ls (.int j :: .ref a :: rest)) := by
  obtain ⟨cl, A, r1, r2⟩ := F
  exact own_pre (fun t k => X.iaload hx (j := j) (v := v) (by rw [eT]; exact A.1) (State.isArrayOf_alike hZ.alike A.2.1) A.2.2 (own_inb h0 r1 hj (List.getElem?_eq_some_iff.mp hv).1) (own_idx r1 (hj ▸ hv)) (g := mkF m pc Ls (.int j :: .ref a :: rest)) rfl rfl hd _ k) k
theorem own_laload (X : Stand p l e R s m args below meth c T locs cells slots) (hx : p.tables.exec = Jvm.exec) (hZ : Z.Warmed39 s.vm) (eT : T.heap = h) (F : own_Ary Z h a .long vs) (hd : decode c.code pc = .ok (.laload, 1)) {j : Int32} {n : Nat} (h0 : 0 ≤ j) (hj : j.toNatClampNeg = n) (hv : vs[n]? = some v)
    (k : own_Go p e below s Q kc ks T (mkF m (pc + 1) Ls (v :: rest))) : own_Go p e below s Q kc ks T (mkF m pc Ls (.int j :: .ref a :: rest)) := by
  obtain ⟨cl, A, r1, r2⟩ := F
  exact own_pre (fun t k => X.laload hx (j := j) (v := v) (by rw [eT]; exact A.1) (State.isArrayOf_alike hZ.alike A.2.1) A.2.2 (own_inb h0 r1 hj (List.getElem?_eq_some_iff.mp hv).1) (own_idx r1 (hj ▸ hv)) (g := mkF m pc Ls (.int j :: .ref a :: rest)) rfl rfl hd _ k) k
theorem own_daload (X : Stand p l e R s m args below meth c T locs cells slots) (hx : p.tables.exec = Jvm.exec) (hZ : Z.Warmed39 s.vm) (eT : T.heap = h) (F : own_Ary Z h a .double vs) (hd : decode c.code pc = .ok (.daload, 1)) {j : Int32} {n : Nat} (h0 : 0 ≤ j) (hj : j.toNatClampNeg = n) (hv : vs[n]? = some v)
    (k : own_Go p e below s Q kc ks T (mkF m (pc + 1) Ls (v :: rest))) : own_Go p e below s Q kc ks T (mkF m pc Ls (.int j :: .ref a :: rest)) := by
  obtain ⟨cl, A, r1, r2⟩ := F
  exact own_pre (fun t k => X.daload hx (j := j) (v := v) (by rw [eT]; exact A.1) (State.isArrayOf_alike hZ.alike A.2.1) A.2.2 (own_inb h0 r1 hj (List.getElem?_eq_some_iff.mp hv).1) (own_idx r1 (hj ▸ hv)) (g := mkF m pc Ls (.int j :: .ref a :: rest)) rfl rfl hd _ k) k
theorem own_zaload (X : Stand p l e R s m args below meth c T locs cells slots) (hx : p.tables.exec = Jvm.exec) (hZ : Z.Warmed39 s.vm) (eT : T.heap = h) (F : own_Ary Z h a .boolean vs) (hd : decode c.code pc = .ok (.baload, 1)) {j : Int32} {n : Nat} (h0 : 0 ≤ j) (hj : j.toNatClampNeg = n) (hv : vs[n]? = some v)
    (k : own_Go p e below s Q kc ks T (mkF m (pc + 1) Ls (v :: rest))) : own_Go p e below s Q kc ks T (mkF m pc Ls (.int j :: .ref a :: rest)) := by
  obtain ⟨cl, A, r1, r2⟩ := F
  exact own_pre (fun t k => X.baloadBooleans hx (j := j) (v := v) (by rw [eT]; exact A.1) (State.isArrayOf_alike hZ.alike A.2.1) A.2.2 (own_inb h0 r1 hj (List.getElem?_eq_some_iff.mp hv).1) (own_idx r1 (hj ▸ hv)) (g := mkF m pc Ls (.int j :: .ref a :: rest)) rfl rfl hd _ k) k
theorem own_aaload (X : Stand p l e R s m args below meth c T locs cells slots) (hx : p.tables.exec = Jvm.exec) (hZ : Z.Warmed39 s.vm) (eT : T.heap = h) (F : own_Ary Z h a ty vs) (ht : ty.isReference = true) (hd : decode c.code pc = .ok (.aaload, 1)) {j : Int32} {n : Nat} (h0 : 0 ≤ j) (hj : j.toNatClampNeg = n) (hv : vs[n]? = some v)
    (k : own_Go p e below s Q kc ks T (mkF m (pc + 1) Ls (v :: rest))) : own_Go p e below s Q kc ks T (mkF m pc Ls (.int j :: .ref a :: rest)) := by
  obtain ⟨cl, A, r1, r2⟩ := F
  exact own_pre (fun t k => X.aaload hx (j := j) (v := v) (by rw [eT]; exact A.1) (State.isArrayOf_alike hZ.alike A.2.1) ht A.2.2 (own_inb h0 r1 hj (List.getElem?_eq_some_iff.mp hv).1) (own_idx r1 (hj ▸ hv)) (g := mkF m pc Ls (.int j :: .ref a :: rest)) rfl rfl hd _ k) k
theorem own_iastore (X : Stand p l e R s m args below meth c T locs cells slots) (hx : p.tables.exec = Jvm.exec) (hZ : Z.Warmed39 s.vm) (eT : T.heap = h) (N : Fr n0 locs) (q : n0 ≤ a) (F : own_Ary Z h a .int vs) (hd : decode c.code pc = .ok (.iastore, 1)) {j x : Int32} {n : Nat} (h0 : 0 ≤ j) (hj : j.toNatClampNeg = n) (hv : n < vs.length)
    (k : ∀ T' h' locs', Stand p l e R s m args below meth c T' locs' cells slots → T'.heap = h' → Fr n0 locs' → Wr h h' a n (.int x) → own_Go p e below s Q kc ks T' (mkF m (pc + 1) Ls rest)) : own_Go p e below s Q kc ks T (mkF m pc Ls (.int x :: .int j :: .ref a :: rest)) := by
  obtain ⟨cl, A, r1, r2⟩ := F
  obtain ⟨T', h', X', e', W, st⟩ := stI X hx hZ eT A (j := j) (x := x) (own_inb h0 r1 hj hv) (g := mkF m pc Ls (.int x :: .int j :: .ref a :: rest)) rfl rfl hd
  exact own_pre st (k T' h' _ X' e' (Fr.snoc X' N q) (hj ▸ W))
theorem own_lastore (X : Stand p l e R s m args below meth c T locs cells slots) (hx : p.tables.exec = Jvm.exec) (hZ : Z.Warmed39 s.vm) (eT : T.heap = h) (N : Fr n0 locs) (q : n0 ≤ a) (F : own_Ary Z h a .long vs) (hd : decode c.code pc = .ok (.lastore, 1)) {j : Int32} {x : Int64} {n : Nat} (h0 : 0 ≤ j) (hj : j.toNatClampNeg = n) (hv : n < vs.length)
    (k : ∀ T' h' locs', Stand p l e R s m args below meth c T' locs' cells slots → T'.heap = h' → Fr n0 locs' → Wr h h' a n (.long x) → own_Go p e below s Q kc ks T' (mkF m (pc + 1) Ls rest)) : own_Go p e below s Q kc ks T (mkF m pc Ls (.long x :: .int j :: .ref a :: rest)) := by
  obtain ⟨cl, A, r1, r2⟩ := F
  obtain ⟨T', h', X', e', W, st⟩ := stJ X hx hZ eT A (j := j) (x := x) (own_inb h0 r1 hj hv) (g := mkF m pc Ls (.long x :: .int j :: .ref a :: rest)) rfl rfl hd
  exact own_pre st (k T' h' _ X' e' (Fr.snoc X' N q) (hj ▸ W))
theorem own_dastore (X : Stand p l e R s m args below meth c T locs cells slots) (hx : p.tables.exec = Jvm.exec) (hZ : Z.Warmed39 s.vm) (eT : T.heap = h) (N : Fr n0 locs) (q : n0 ≤ a) (F : own_Ary Z h a .double vs) (hd : decode c.code pc = .ok (.dastore, 1)) {j : Int32} {x : UInt64} {n : Nat} (h0 : 0 ≤ j) (hj : j.toNatClampNeg = n) (hv : n < vs.length)
    (k : ∀ T' h' locs', Stand p l e R s m args below meth c T' locs' cells slots → T'.heap = h' → Fr n0 locs' → Wr h h' a n (.double x) → own_Go p e below s Q kc ks T' (mkF m (pc + 1) Ls rest)) : own_Go p e below s Q kc ks T (mkF m pc Ls (.double x :: .int j :: .ref a :: rest)) := by
  obtain ⟨cl, A, r1, r2⟩ := F
  obtain ⟨T', h', X', e', W, st⟩ := stD X hx hZ eT A (j := j) (x := x) (own_inb h0 r1 hj hv) (g := mkF m pc Ls (.double x :: .int j :: .ref a :: rest)) rfl rfl hd
  exact own_pre st (k T' h' _ X' e' (Fr.snoc X' N q) (hj ▸ W))
theorem own_newarr (X : Stand p l e R s m args below meth c T locs cells slots) (hx : p.tables.exec = Jvm.exec) (hZ : Z.Warmed39 s.vm) {aty : ArrayType} (w : (Cond.arrayClass (newarray.typeOf aty)).before a0 Z = true) (eT : T.heap = h) (hd : decode c.code pc = .ok (.newarray aty, 2)) {z : Int32} {n : Nat} (h0 : 0 ≤ z) (hz : z.toNatClampNeg = n) (hb : n * 8 ≤ 536870912) (hc : cells + 1 ≤ R.cells) (hl : slots + n ≤ R.slots) {ad : String} (had : "[" ++ (newarray.typeOf aty).toString = ad)
    (k : ∀ T' h' a, a = h.size → Stand p l e R s m args below meth c T' locs (cells + 1) (slots + n) → T'.heap = h' → Ext h h' → own_Ary Z h' a (newarray.typeOf aty) (List.replicate n (defaultValue (newarray.typeOf aty))) → Exa Z h' a ad → own_Go p e below s Q kc ks T' (mkF m (pc + 2) Ls (.ref a :: rest))) : own_Go p e below s Q kc ks T (mkF m pc Ls (.int z :: rest)) := by
  obtain ⟨T', h', cA, X', e', E, A, E2, st⟩ := newPE X hx hZ w eT (g := mkF m pc Ls (.int z :: rest)) rfl hd rfl (Int32.not_lt.mpr h0) (cap := n) (Nat.le_of_eq hz) hb hc hl had
  exact own_pre st (k T' h' _ rfl X' e' E (own_Ary.new A hz) E2)
theorem own_newobj (X : Stand p l e R s m args below meth c T locs cells slots) (hx : p.tables.exec = Jvm.exec) (hZ : Z.Warmed39 s.vm) {own : String} {index n : Nat} (hown : s.vm.findClass own = some m.cls) (w : (Cond.classLink own index C).before a0 Z = true) (wi : (Cond.instantiable C n).before a0 Z = true) (wz : (Cond.initialized C).before a0 Z = true) (eT : T.heap = h) (hd : decode c.code pc = .ok (.new index, 3)) (hc : cells + 1 ≤ R.cells) (hl : slots + n ≤ R.slots)
    (k : ∀ T' h' a, a = h.size → Stand p l e R s m args below meth c T' locs (cells + 1) (slots + n) → T'.heap = h' → Ext h h' → Exa Z h' a C → (∀ {O nm d : String} {ty : FieldType}, Laid Z a0 C O nm d → parseFieldDescriptor d = some ty → Fld Z h' a O nm d (defaultValue ty)) → own_Go p e below s Q kc ks T' (mkF m (pc + 3) Ls (.ref a :: rest))) : own_Go p e below s Q kc ks T (mkF m pc Ls rest) := by
  obtain ⟨T', h', X', e', E, A, D, -, st⟩ := newO X hx hZ hown w wi wz eT (g := mkF m pc Ls rest) rfl hd hc hl
  exact own_pre st (k T' h' _ rfl X' e' E A D)
theorem own_getf (X : Stand p l e R s m args below meth c T locs cells slots) (hx : p.tables.exec = Jvm.exec) (hZ : Z.Warmed39 s.vm) {own O n d : String} {index : Nat} (hown : s.vm.findClass own = some m.cls) (w : (Cond.fieldLink own index O n d).before a0 Z = true) (eT : T.heap = h) (F : Fld Z h a O n d v) (hd : decode c.code pc = .ok (.getfield index, 3))
    (k : ∀ T', Stand p l e R s m args below meth c T' locs cells slots → T'.heap = h → own_Go p e below s Q kc ks T' (mkF m (pc + 3) Ls (v :: rest))) : own_Go p e below s Q kc ks T (mkF m pc Ls (.ref a :: rest)) := by
  obtain ⟨T', X', e', st⟩ := getF X hx hZ hown (host := "") (Or.inl w) Via.refl eT F (g := mkF m pc Ls (.ref a :: rest)) rfl rfl hd
  exact own_pre st (k T' X' e')
theorem own_gets (X : Stand p l e R s m args below meth c T locs cells slots) (hx : p.tables.exec = Jvm.exec) (hZ : Z.Warmed39 s.vm) {own O n d : String} {index : Nat} (hown : s.vm.findClass own = some m.cls) (w : (Cond.fieldLink own index O n d).before a0 Z = true) (eT : T.heap = h) (F : Sta Z h O n d v) (hd : decode c.code pc = .ok (.getstatic index, 3))
    (k : ∀ T', Stand p l e R s m args below meth c T' locs cells slots → T'.heap = h → own_Go p e below s Q kc ks T' (mkF m (pc + 3) Ls (v :: rest))) : own_Go p e below s Q kc ks T (mkF m pc Ls rest) := by
  obtain ⟨T', X', e', st⟩ := getS X hx hZ (host := "") hown w Via.refl eT F (g := mkF m pc Ls rest) rfl hd
  exact own_pre st (k T' X' e')
theorem own_putf (X : Stand p l e R s m args below meth c T locs cells slots) (hx : p.tables.exec = Jvm.exec) (hZ : Z.Warmed39 s.vm) {own O n d : String} {index kk : Nat} (hown : s.vm.findClass own = some m.cls) (w : (Cond.fieldLink own index O n d).before a0 Z = true) (eT : T.heap = h) (N : Fr n0 locs) (q : n0 ≤ a) {old : Value} (F : Fld Z h a O n d old) (E : Exa Z h a C) (L : (Cond.lays C O n d).before a0 Z = true ∨ ((Cond.laysFinal C O n d).before a0 Z = true ∧ own = O ∧ meth.name = "<init>")) (wi : (Cond.instantiable C kk).before a0 Z = true) (hty : parseFieldDescriptor d = some ty) (hn : narrow ty v = v) (hf : fits ty v = true) (hd : decode c.code pc = .ok (.putfield index, 3))
    (k : ∀ T' h' locs', Stand p l e R s m args below meth c T' locs' cells slots → T'.heap = h' → Fr n0 locs' → Wr h h' a (slotOf Z O n d) v → own_Go p e below s Q kc ks T' (mkF m (pc + 3) Ls rest)) : own_Go p e below s Q kc ks T (mkF m pc Ls (v :: .ref a :: rest)) := by
  obtain ⟨T', h', X', e', W, st⟩ := putF X hx hZ hown (host := "") (Or.inl w) Via.refl eT F E L wi hty hn hf (g := mkF m pc Ls (v :: .ref a :: rest)) rfl rfl hd
  exact own_pre st (k T' h' _ X' e' (Fr.snoc X' N q) W)
theorem own_ldci (X : Stand p l e R s m args below meth c T locs cells slots) (hx : p.tables.exec = Jvm.exec) (hZ : Z.Warmed39 s.vm) {own : String} {index : Nat} {z : Int32} (hown : s.vm.findClass own = some m.cls) (w : (Cond.constant own index z).before a0 Z = true) (hd : decode c.code pc = .ok (.ldc index, 2))
    (k : own_Go p e below s Q kc ks T (mkF m (pc + 2) Ls (.int z :: rest))) : own_Go p e below s Q kc ks T (mkF m pc Ls rest) :=
  own_pre (X.ldcInt hx hown (mv hZ w) (g := mkF m pc Ls rest) rfl hd) k
theorem own_ldcl (X : Stand p l e R s m args below meth c T locs cells slots) (hx : p.tables.exec = Jvm.exec) (hZ : Z.Warmed39 s.vm) {own : String} {index : Nat} {z : Int64} (hown : s.vm.findClass own = some m.cls) (w : (Cond.constantLong own index z).before a0 Z = true) (hd : decode c.code pc = .ok (.ldc2_w index, 3))
    (k : own_Go p e below s Q kc ks T (mkF m (pc + 3) Ls (.long z :: rest))) : own_Go p e below s Q kc ks T (mkF m pc Ls rest) :=
  own_pre (X.ldc2Long hx hown (mv hZ w) (g := mkF m pc Ls rest) rfl hd) k
theorem own_ldcd (X : Stand p l e R s m args below meth c T locs cells slots) (hx : p.tables.exec = Jvm.exec) (hZ : Z.Warmed39 s.vm) {own : String} {index : Nat} {z : UInt64} (hown : s.vm.findClass own = some m.cls) (w : (Cond.constantDouble own index z).before a0 Z = true) (hd : decode c.code pc = .ok (.ldc2_w index, 3))
    (k : own_Go p e below s Q kc ks T (mkF m (pc + 3) Ls (.double z :: rest))) : own_Go p e below s Q kc ks T (mkF m pc Ls rest) :=
  own_pre (X.ldc2DoubleC hx hown (mv hZ w) (g := mkF m pc Ls rest) rfl hd) k
theorem own_init0 (X : Stand p l e R s m args below meth c T locs cells slots) (hx : p.tables.exec = Jvm.exec) (hZ : Z.Warmed39 s.vm) {own : String} {index : Nat} (hown : s.vm.findClass own = some m.cls) (w1 : (Cond.methodLink own index Lib.objectInit).before a0 Z = true) (w2 : (Cond.instanceMethod Lib.objectInit).before a0 Z = true) (w3 : (Cond.code Lib.objectInit ⟨#[0xb1]⟩ 1 none).before a0 Z = true) (eT : T.heap = h) (hd : decode c.code pc = .ok (.invokespecial index, 3)) (hsz : Ls.size = c.maxLocals) (hf : 1 ≤ R.frames) {W : Nat} (hW : (rest.map fun v => v.category).sum ≤ W) (hl : W + 12 ≤ R.locals)
    (k : ∀ T', Stand p l e R s m args below meth c T' locs cells slots → T'.heap = h → own_Go p e below s Q kc ks T' (mkF m (pc + 3) Ls rest)) : own_Go p e below s Q kc ks T (mkF m pc Ls (.ref a :: rest)) := by
  obtain ⟨T', X', e', st⟩ := initO X hx hZ hown w1 w2 w3 eT (g := mkF m pc Ls (.ref a :: rest)) rfl hsz rfl hd hf (W := W) (by show 2 * 0 + _ ≤ _; omega) hl
  exact own_pre st (k T' X' e')
theorem own_init (X : Stand p l e R s m args below meth c T locs cells slots) (hx : p.tables.exec = Jvm.exec) (hZ : Z.Warmed39 s.vm) {own : String} {index : Nat} (hown : s.vm.findClass own = some m.cls) {y : MethodName} {bytes : ByteArray} {maxL : Nat} {rm : Room} {argsL : List Value} {Qc : Option Value → Heap → List Loc → Prop}
    (hM : MetFree l y (head1 [Cond.code y bytes maxL none] rm) (fun a' U => a' = (.ref a :: argsL).toArray ∧ Z.Warmed39 U.vm ∧ U.heap = h) (fun _ _ _ _ _ => True) (fun _ U o U' => ∃ v L, o = .returned v ∧ Qc v U'.heap L ∧ FrameEnd U o U' L rm.cells rm.slots))
    (hy1 : y.name = "<init>") (w1 : (Cond.methodLink own index y).before a0 Z = true) (w2 : (Cond.instanceMethod y).before a0 Z = true) (w3 : (Cond.code y bytes maxL none).before a0 Z = true) (w4 : (Cond.initialized y.cls).before a0 Z = true) (hy : y.cls ≠ "java/lang/invoke/MethodHandle" ∧ y.cls ≠ "java/lang/invoke/VarHandle")
    (eT : T.heap = h) (hd : decode c.code pc = .ok (.invokespecial index, 3)) (hsz : Ls.size = c.maxLocals) {stk : List Value} (hstk : stk = argsL.reverse ++ .ref a :: rest) (hlen : ∀ sig, parseMethodDescriptor y.desc = some sig → argsL.length = sig.parameters.length) (hf : rm.frames + 1 ≤ R.frames) {W : Nat} (hW : (rest.map fun v => v.category).sum ≤ W) (hl : W + (maxL + 11) + rm.locals ≤ R.locals) (hc : cells + rm.cells ≤ R.cells) (hs : slots + rm.slots ≤ R.slots)
    (k : ∀ v T' L, Stand p l e R s m args below meth c T' (locs ++ L) (cells + rm.cells) (slots + rm.slots) → Qc v T'.heap L → own_Go p e below s Q kc ks T' (mkF m (pc + 3) Ls (v.toList ++ rest))) : own_Go p e below s Q kc ks T (mkF m pc Ls stk) := by
  obtain ⟨v, _, ⟨T', L', k', n'⟩, -, X', ⟨L, hQ, e1, e2, e3⟩, st⟩ := X.specialBack hx (y := y) hy1 hown (mvT hZ w1) (mvT hZ w2) (mvT hZ w3) hy (backOf (W := W) hM hZ w3 w4 hf hl) (g := mkF m pc Ls stk) rfl hsz (Steps.refl _) (a := a) (argsL := argsL) (rest := rest) hlen hstk (by show 2 * 0 + _ ≤ _; omega) hd (fun _ _ => ⟨rfl, eT, hc, hs⟩)
  dsimp only at X' e1 e2 e3 st hQ
  subst e1 e2 e3
  exact own_tr st (k v T' L X' hQ)
theorem own_callv (X : Stand p l e R s m args below meth c T locs cells slots) (hx : p.tables.exec = Jvm.exec) (hZ : Z.Warmed39 s.vm) {own : String} {index : Nat} (hown : s.vm.findClass own = some m.cls) {y : MethodName} {bytes : ByteArray} {maxL : Nat} {ret : Option FieldType} {rm : Room} {argsL : List Value} {Qc : Option Value → Heap → List Loc → Prop}
    (hM : MetFree l y (head1 [Cond.code y bytes maxL ret] rm) (fun a' U => a' = (.ref a :: argsL).toArray ∧ Z.Warmed39 U.vm ∧ U.heap = h) (fun _ _ _ _ _ => True) (fun _ U o U' => ∃ v L, o = .returned v ∧ Qc v U'.heap L ∧ FrameEnd U o U' L rm.cells rm.slots))
    (E : Exa Z h a C) (w1 : (Cond.methodLink own index y).before a0 Z = true) (w2 : (Cond.declares y).before a0 Z = true) (w5 : (Cond.selects C y y).before a0 Z = true) (w6 : (Cond.instanceMethod y).before a0 Z = true) (w3 : (Cond.code y bytes maxL ret).before a0 Z = true) (w4 : (Cond.initialized y.cls).before a0 Z = true) (hy : y.cls ≠ "java/lang/invoke/MethodHandle" ∧ y.cls ≠ "java/lang/invoke/VarHandle")
    (eT : T.heap = h) (hd : decode c.code pc = .ok (.invokevirtual index, 3)) (hsz : Ls.size = c.maxLocals) {stk : List Value} (hstk : stk = argsL.reverse ++ .ref a :: rest) (hlen : ∀ sig, parseMethodDescriptor y.desc = some sig → argsL.length = sig.parameters.length) (hf : rm.frames + 1 ≤ R.frames) {W : Nat} (hW : (rest.map fun v => v.category).sum ≤ W) (hl : W + (maxL + 11) + rm.locals ≤ R.locals) (hc : cells + rm.cells ≤ R.cells) (hs : slots + rm.slots ≤ R.slots)
    (k : ∀ v T' L, Stand p l e R s m args below meth c T' (locs ++ L) (cells + rm.cells) (slots + rm.slots) → Qc v T'.heap L → own_Go p e below s Q kc ks T' (mkF m (pc + 3) Ls (v.toList ++ rest))) : own_Go p e below s Q kc ks T (mkF m pc Ls stk) := by
  obtain ⟨cq, kq, q1, q2, q3⟩ := isOf hZ eT E
  obtain ⟨v, _, ⟨T', L', k', n'⟩, -, X', ⟨L, hQ, e1, e2, e3⟩, st⟩ := X.virtualBack hx (y := y) (z := y) hown (mvT hZ w1) (mvT hZ w2) (notFace_of_selects (args := #[]) (mvT hZ w5)) (mvT hZ w5) (mvT hZ w6) hy (backOf (W := W) hM hZ w3 w4 hf hl) q1 q3 (g := mkF m pc Ls stk) rfl hsz (Steps.refl _) (argsL := argsL) (rest := rest) hlen hstk (by show 2 * 0 + _ ≤ _; omega) hd (fun _ _ => ⟨rfl, eT, hc, hs⟩)
  dsimp only at X' e1 e2 e3 st hQ
  subst e1 e2 e3
  exact own_tr st (k v T' L X' hQ)
theorem own_calls (X : Stand p l e R s m args below meth c T locs cells slots) (hx : p.tables.exec = Jvm.exec) (hZ : Z.Warmed39 s.vm) {own : String} {index : Nat} (hown : s.vm.findClass own = some m.cls) {y : MethodName} {bytes : ByteArray} {maxL : Nat} {ret : Option FieldType} {rm : Room} {argsL : List Value} {Qc : Option Value → Heap → List Loc → Prop}
    (hM : MetFree l y (head1 [Cond.code y bytes maxL ret] rm) (fun a' U => a' = argsL.toArray ∧ Z.Warmed39 U.vm ∧ U.heap = h) (fun _ _ _ _ _ => True) (fun _ U o U' => ∃ v L, o = .returned v ∧ Qc v U'.heap L ∧ FrameEnd U o U' L rm.cells rm.slots))
    (w1 : (Cond.methodLink own index y).before a0 Z = true) (w2 : (Cond.static y).before a0 Z = true) (w3 : (Cond.code y bytes maxL ret).before a0 Z = true) (w4 : (Cond.initialized y.cls).before a0 Z = true) (hy : y.cls ≠ "java/lang/invoke/MethodHandle" ∧ y.cls ≠ "java/lang/invoke/VarHandle")
    (eT : T.heap = h) (hd : decode c.code pc = .ok (.invokestatic index, 3)) (hsz : Ls.size = c.maxLocals) {stk : List Value} (hstk : stk = argsL.reverse ++ rest) (hlen : ∀ sig, parseMethodDescriptor y.desc = some sig → argsL.length = sig.parameters.length) (hf : rm.frames + 1 ≤ R.frames) {W : Nat} (hW : (rest.map fun v => v.category).sum ≤ W) (hl : W + (maxL + 11) + rm.locals ≤ R.locals) (hc : cells + rm.cells ≤ R.cells) (hs : slots + rm.slots ≤ R.slots)
    (k : ∀ v T' L, Stand p l e R s m args below meth c T' (locs ++ L) (cells + rm.cells) (slots + rm.slots) → Qc v T'.heap L → own_Go p e below s Q kc ks T' (mkF m (pc + 3) Ls (v.toList ++ rest))) : own_Go p e below s Q kc ks T (mkF m pc Ls stk) := by
  obtain ⟨v, _, ⟨T', L', k', n'⟩, -, X', ⟨L, hQ, e1, e2, e3⟩, st⟩ := Jvm.LawKit.callS X hx (y := y) hown (mvT hZ w1) (mvT hZ w2) (mvT hZ w4) (mvT hZ w3) hy (backOf (W := W) hM hZ w3 w4 hf hl) (g := mkF m pc Ls stk) rfl hsz (argsL := argsL) (rest := rest) hlen hstk (by show 2 * 0 + _ ≤ _; omega) hd (fun _ _ => ⟨rfl, eT, hc, hs⟩)
  dsimp only at X' e1 e2 e3 st hQ
  subst e1 e2 e3
  exact own_pre st (k v T' L X' hQ)
theorem own_cl_lt (x y : Int64) : XT.cmpL x y < 0 ↔ x < y := by unfold XT.cmpL; split <;> (try split) <;> simp_all [Int64.lt_iff_toInt_lt, ← Int64.toInt_inj] <;> omega
theorem own_cl_gt (x y : Int64) : 0 < XT.cmpL x y ↔ y < x := by unfold XT.cmpL; split <;> (try split) <;> simp_all [Int64.lt_iff_toInt_lt, ← Int64.toInt_inj]
theorem own_cl_eq (x y : Int64) : XT.cmpL x y = 0 ↔ x = y := by unfold XT.cmpL; split <;> (try split) <;> simp_all [Int64.lt_iff_toInt_lt, ← Int64.toInt_inj] <;> omega
end Own
end Jvm.RoadKit
namespace Jvm.FP.Core
theorem own_cross {c d I J qp qm rp rm kp km : Nat} (h1 : c * 2 ^ qp = I * 2 ^ qm) (h2 : d * 2 ^ rp = J * 2 ^ rm) (e : kp + qm + rp = km + qp + rm) : c * J * 2 ^ kp = I * d * 2 ^ km := by
  have e' : 2 ^ kp * 2 ^ qm * 2 ^ rp = 2 ^ km * 2 ^ qp * 2 ^ rm := by rw [← Nat.pow_add, ← Nat.pow_add, ← Nat.pow_add, ← Nat.pow_add, e]
  have p1 := Nat.two_pow_pos qp
  have p2 := Nat.two_pow_pos rm
  generalize 2 ^ qp = a1 at *
  generalize 2 ^ qm = a2 at *
  generalize 2 ^ rp = a3 at *
  generalize 2 ^ rm = a4 at *
  generalize 2 ^ kp = a5 at *
  generalize 2 ^ km = a6 at *
  refine Nat.eq_of_mul_eq_mul_right (Nat.mul_pos p1 p2) ?_
  calc c * J * a5 * (a1 * a4) = (c * a1) * (J * a4) * a5 := by ac_rfl
    _ = (I * a2) * (d * a3) * a5 := by rw [h1, h2]
    _ = I * d * (a5 * a2 * a3) := by ac_rfl
    _ = I * d * (a6 * a1 * a4) := by rw [e']
    _ = I * d * a6 * (a1 * a4) := by ac_rfl
/-- a quotient of two whole doubles: the rounded ratio of the two -/
theorem own_ddiv_round {i j : Int} {a b : UInt64} (ha : DInt i a) (hb : DInt j b) (hj : 0 < j) : ∃ sg, val64 (ddiv a b) = roundRatio b64 sg i.natAbs j.natAbs 0 ∧ (i ≠ 0 → sg = decide (i < 0)) := by
  rw [val64_ddiv]
  unfold DInt at ha hb
  generalize val64 a = x at *
  generalize val64 b = y at *
  cases x with
  | nan => exact ha.elim
  | inf => exact ha.elim
  | fin s c q =>
  cases y with
  | nan => exact hb.elim
  | inf => exact hb.elim
  | fin t d r =>
    have h1 := whole_natAbs ha
    have h2 := whole_natAbs hb
    have hd : d ≠ 0 := by have := whole_zero hb; omega
    refine ⟨s != t, ?_, fun hi => ?_⟩
    · show (if d = 0 then (if c = 0 then Datum.nan else .inf (s != t)) else roundRatio b64 (s != t) c d (q - r)) = _
      rw [if_neg hd]
      exact roundRatio_congr (by omega) (by omega) (own_cross h1 h2 (by omega))
    · rw [whole_sign ha hi, whole_sign hb (by omega)]
      simp [show ¬ j < 0 by omega]
theorem own_div_le {sg : Bool} {A B : Nat} {V : UInt64} (hB : 0 < B) (hV : val64 V ≠ .nan) (h : A * one64 ≤ zmag b64 (val64 V) * B) : zmag b64 (roundRatio b64 sg A B 0) ≤ zmag b64 (val64 V) := by
  refine zmag_roundRatio_le good_b64 hB (val64_fits V) hV (e0 := b64.qmin) (Int.le_refl _) (by decide) ?_
  show A * 2 ^ (0 - b64.qmin).toNat ≤ _ * 2 ^ (b64.qmin - b64.qmin).toNat * B
  rw [Int.zero_sub, pow_qmin64, Int.sub_self]
  simpa using h
theorem own_div_ge {sg : Bool} {A B : Nat} {V : UInt64} (hB : 0 < B) (h : zmag b64 (val64 V) * B ≤ A * one64) : zmag b64 (val64 V) ≤ zmag b64 (roundRatio b64 sg A B 0) := by
  refine zmag_roundRatio_ge good_b64 hB (val64_fits V) (e0 := b64.qmin) (Int.le_refl _) (by decide) ?_
  show _ * 2 ^ (b64.qmin - b64.qmin).toNat * B ≤ A * 2 ^ (0 - b64.qmin).toNat
  rw [Int.zero_sub, pow_qmin64, Int.sub_self]
  simpa using h
theorem own_scale {A B x y u : Nat} (h : A * x ≤ y * B) : A * (x * u) ≤ (y * u) * B := by
  have h2 := Nat.mul_le_mul_right u h
  calc A * (x * u) = A * x * u := by ac_rfl
    _ ≤ y * B * u := h2
    _ = (y * u) * B := by ac_rfl
theorem own_scale' {A B x y u : Nat} (h : y * B ≤ A * x) : (y * u) * B ≤ A * (x * u) := by
  have h2 := Nat.mul_le_mul_right u h
  calc (y * u) * B = y * B * u := by ac_rfl
    _ ≤ A * x * u := h2
    _ = A * (x * u) := by ac_rfl
end Jvm.FP.Core
namespace Jvm.RoadKit
open Sem ClassFile Op Lib Jvm.Stand Jvm.Free Jvm.LawKit
theorem own_DInt_nn {i : Int} {a : UInt64} (h : FP.Core.DInt i a) : Jvm.Free.Fl.NoNaN64 a := Jvm.Free.Fl.val64_no.mpr (FP.Core.DInt_ne_nan h)
/-- the int that a comparison of two whole doubles pushes -/
def own_c (i j : Int) : Int32 := if i < j then -1 else if i = j then 0 else 1
theorem own_c_lt (i j : Int) : own_c i j < 0 ↔ i < j := by unfold own_c; split <;> (try split) <;> first | (simp; omega) | simp_all
theorem own_c_gt (i j : Int) : 0 < own_c i j ↔ j < i := by unfold own_c; split <;> (try split) <;> first | (simp; omega) | (simp_all; done) | (simp_all; omega)
theorem own_c_eq (i j : Int) : own_c i j = 0 ↔ i = j := by unfold own_c; split <;> (try split) <;> first | (simp; omega) | (simp_all; done) | (simp_all; omega)
theorem own_cmpv (i j : Int) (o : CmpOp) : cmpValue (some (compare i j)) o = own_c i j := by
  unfold own_c
  rw [FP.Core.compare_ite]
  split <;> (try split) <;> cases o <;> rfl
theorem own_dcmp {i j : Int} {a b : UInt64} (ha : FP.Core.DInt i a) (hb : FP.Core.DInt j b) (o : CmpOp) : cmpValue (FP.dcmp a b) o = own_c i j := by
  rw [show FP.dcmp a b = some (compare i j) from FP.Core.dcmp_int ha hb, own_cmpv]
theorem own_dcmpz {a b : UInt64} (ha : Jvm.Free.Fl.NoNaN64 a) (hb : Jvm.Free.Fl.NoNaN64 b) (o : CmpOp) : cmpValue (FP.dcmp a b) o = own_c (FP.Core.zval FP.Core.b64 (FP.Core.val64 a)) (FP.Core.zval FP.Core.b64 (FP.Core.val64 b)) := by
  rw [show FP.dcmp a b = some (compare _ _) from FP.Core.dcmp_zval (Jvm.Free.Fl.val64_no.mp ha) (Jvm.Free.Fl.val64_no.mp hb), own_cmpv]
end Jvm.RoadKit
namespace Jvm.RoadKit
open Sem ClassFile Op Lib Jvm.Stand Jvm.Free Jvm.LawKit
section Own2
variable {p : Program} {l : Launch} {e : Env} {R : Room} {s : State} {m : MethodId} {args : Array Value} {below : List Frame} {meth : Method} {c : Code} {T T' : State} {locs : List Loc} {cells slots : Nat} {Z : State} {h h' h0 : Heap} {Q : Option Value → Heap → List Loc → Prop} {kc ks : Nat} {g g' : JFrame} {a0 : Array Value} {pc : Nat} {Ls : Array Slot} {rest : List Value} {a b : Addr} {n0 : Nat} {ty : FieldType} {vs : List Value} {C : String} {sl : Nat} {v : Value} {ws : List Addr}
theorem own_clone (X : Stand p l e R s m args below meth c T locs cells slots) (hx : p.tables.exec = Jvm.exec) (hZ : Z.Warmed39 s.vm) {own ad : String} {index : Nat} (hown : s.vm.findClass own = some m.cls)
    (w1 : (Cond.methodLink own index ⟨ad, "clone", "()Ljava/lang/Object;"⟩).before a0 Z = true) (w2 : (Cond.sameMethod ad "java/lang/Object" "clone" "()Ljava/lang/Object;").before a0 Z = true) (w3 : (Cond.native ⟨"java/lang/Object", "clone", "()Ljava/lang/Object;"⟩).before a0 Z = true)
    (w4 : (Cond.instanceMethod ⟨"java/lang/Object", "clone", "()Ljava/lang/Object;"⟩).before a0 Z = true) (w5 : (Cond.selects ad ⟨ad, "clone", "()Ljava/lang/Object;"⟩ ⟨"java/lang/Object", "clone", "()Ljava/lang/Object;"⟩).before a0 Z = true) (w6 : (Cond.castable ad "java/lang/Cloneable").before a0 Z = true)
    (eT : T.heap = h) (F : own_Ary Z h a ty vs) (E : Exa Z h a ad) (hfit : ∀ v ∈ vs, fits ty v = true) (hd : decode c.code pc = .ok (.invokevirtual index, 3)) (hsz : Ls.size = c.maxLocals) (hf : 1 ≤ R.frames) {W n : Nat} (hW : (rest.map fun v => v.category).sum ≤ W) (hl : W + 14 ≤ R.locals) (hn : vs.length = n) (hc : cells + 1 ≤ R.cells) (hsl : slots + n ≤ R.slots)
    (k : ∀ T' h' a', a' = h.size → Stand p l e R s m args below meth c T' locs (cells + 1) (slots + n) → T'.heap = h' → Ext h h' → own_Ary Z h' a' ty vs → Exa Z h' a' ad → own_Go p e below s Q kc ks T' (mkF m (pc + 3) Ls (.ref a' :: rest))) : own_Go p e below s Q kc ks T (mkF m pc Ls (.ref a :: rest)) := by
  obtain ⟨cl, A, r1, r2⟩ := F
  have hfc : FitC Z cl := fitC_of A fun i hi v hv => hfit v (by
    rw [← r1]
    exact List.mem_of_getElem? (i := i) (by simpa using hv))
  obtain ⟨T', h', X', e', Ex, A', E', st⟩ := cloneA X hx hZ hown w1 w2 w3 w4 w5 w6 eT A E hfc (g := mkF m pc Ls (.ref a :: rest)) rfl hsz rfl hd hf (W := W) (cap := n) (by show 2 * 0 + _ ≤ _; omega) hl (by rw [← hn, ← r1, Array.length_toList]; exact Nat.le_refl _) hc hsl
  exact own_pre st (k T' h' _ rfl X' e' Ex ⟨_, A', r1, r2⟩ E')
theorem own_cast1 (X : Stand p l e R s m args below meth c T locs cells slots) (hx : p.tables.exec = Jvm.exec) (hZ : Z.Warmed39 s.vm) {own K : String} {index : Nat} (hown : s.vm.findClass own = some m.cls) (w : (Cond.classLink own index K).before a0 Z = true) (eT : T.heap = h) (F : Ins Z h a K true) (hd : decode c.code pc = .ok (.checkcast index, 3))
    (k : ∀ T', Stand p l e R s m args below meth c T' locs cells slots → T'.heap = h → own_Go p e below s Q kc ks T' (mkF m (pc + 3) Ls (.ref a :: rest))) : own_Go p e below s Q kc ks T (mkF m pc Ls (.ref a :: rest)) := by
  obtain ⟨T', X', e', st⟩ := castY X hx hZ hown w eT F (g := mkF m pc Ls (.ref a :: rest)) rfl rfl hd
  exact own_pre st (k T' X' e')
theorem own_inst1 (X : Stand p l e R s m args below meth c T locs cells slots) (hx : p.tables.exec = Jvm.exec) (hZ : Z.Warmed39 s.vm) {own K : String} {index : Nat} (hown : s.vm.findClass own = some m.cls) (w : (Cond.classLink own index K).before a0 Z = true) (eT : T.heap = h) (F : Ins Z h a K true) (hd : decode c.code pc = .ok (.instanceof index, 3))
    (k : ∀ T', Stand p l e R s m args below meth c T' locs cells slots → T'.heap = h → own_Go p e below s Q kc ks T' (mkF m (pc + 3) Ls (.int 1 :: rest))) : own_Go p e below s Q kc ks T (mkF m pc Ls (.ref a :: rest)) := by
  obtain ⟨T', X', e', st⟩ := instY X hx hZ hown w eT F (g := mkF m pc Ls (.ref a :: rest)) rfl rfl hd
  exact own_pre st (k T' X' e')
theorem own_zastore (X : Stand p l e R s m args below meth c T locs cells slots) (hx : p.tables.exec = Jvm.exec) (hZ : Z.Warmed39 s.vm) (eT : T.heap = h) (N : Fr n0 locs) (q : n0 ≤ a) (F : own_Ary Z h a .boolean vs) (hd : decode c.code pc = .ok (.bastore, 1)) {j x x' : Int32} {n : Nat} (h0 : 0 ≤ j) (hj : j.toNatClampNeg = n) (hv : n < vs.length) (hnar : nar .boolean x = x')
    (k : ∀ T' h' locs', Stand p l e R s m args below meth c T' locs' cells slots → T'.heap = h' → Fr n0 locs' → Wr h h' a n (.int x') → own_Go p e below s Q kc ks T' (mkF m (pc + 1) Ls rest)) : own_Go p e below s Q kc ks T (mkF m pc Ls (.int x :: .int j :: .ref a :: rest)) := by
  obtain ⟨cl, A, r1, r2⟩ := F
  obtain ⟨T', h', X', e', W, st⟩ := stZ X hx hZ eT A (j := j) (x := x) (own_inb h0 r1 hj hv) (g := mkF m pc Ls (.int x :: .int j :: .ref a :: rest)) rfl rfl hd
  exact own_pre st (k T' h' _ X' e' (Fr.snoc X' N q) (hnar ▸ hj ▸ W))
/-- the array's class is that of arrays over C -/
def own_Ovr (Z : State) (h : Heap) (a : Addr) (C : String) : Prop := ∃ c : Cell, h[a]? = some c ∧ Ovr Z c.cls C
theorem own_Ovr.lt (F : own_Ovr Z h a C) : a < h.size := by obtain ⟨c, h1, -⟩ := F; exact (Array.getElem?_eq_some_iff.mp h1).1
theorem own_Ovr.ext (F : own_Ovr Z h a C) (E : Ext h h') : own_Ovr Z h' a C := by obtain ⟨c, h1, r⟩ := F; exact ⟨c, E.2 _ _ h1, r⟩
theorem own_Ovr.wr (F : own_Ovr Z h b C) (W : Wr h h' a sl v) : own_Ovr Z h' b C := by
  obtain ⟨c, h1, r⟩ := F
  obtain ⟨c', e1, e2, -⟩ := wr_at W h1
  exact ⟨c', e1, by rw [e2]; exact r⟩
theorem own_Ovr.keep (F : own_Ovr Z h a C) (K : Keep h h' ws) : own_Ovr Z h' a C := by
  obtain ⟨c, h1, r⟩ := F
  obtain ⟨c', e1, e2, -⟩ := K.2.2 a c h1
  exact ⟨c', e1, by rw [e2]; exact r⟩
theorem own_anewarr (X : Stand p l e R s m args below meth c T locs cells slots) (hx : p.tables.exec = Jvm.exec) (hZ : Z.Warmed39 s.vm) {own : String} {index : Nat} (hown : s.vm.findClass own = some m.cls) (w1 : (Cond.classLink own index C).before a0 Z = true) (w2 : (Cond.arrayOver (.object C)).before a0 Z = true) (eT : T.heap = h) (hd : decode c.code pc = .ok (.anewarray index, 3)) {z : Int32} {n : Nat} (h0 : 0 ≤ z) (hz : z.toNatClampNeg = n) (hb : n * 8 ≤ 536870912) (hc : cells + 1 ≤ R.cells) (hl : slots + n ≤ R.slots) {ad : String} (had : "[" ++ (FieldType.object C).toString = ad)
    (k : ∀ T' h' a, a = h.size → Stand p l e R s m args below meth c T' locs (cells + 1) (slots + n) → T'.heap = h' → Ext h h' → own_Ary Z h' a (.object C) (List.replicate n .null) → Exa Z h' a ad → own_Ovr Z h' a C → own_Go p e below s Q kc ks T' (mkF m (pc + 3) Ls (.ref a :: rest))) : own_Go p e below s Q kc ks T (mkF m pc Ls (.int z :: rest)) := by
  obtain ⟨T', h', cA, X', e', E, A, E2, O, st⟩ := newRE X hx hZ hown w1 w2 eT (g := mkF m pc Ls (.int z :: rest)) rfl hd rfl (Int32.not_lt.mpr h0) (cap := n) (Nat.le_of_eq hz) hb hc hl had
  exact own_pre st (k T' h' _ rfl X' e' E (own_Ary.new A hz) E2 ⟨_, A.1, O⟩)
theorem own_aastore (X : Stand p l e R s m args below meth c T locs cells slots) (hx : p.tables.exec = Jvm.exec) (hZ : Z.Warmed39 s.vm) (eT : T.heap = h) (N : Fr n0 locs) (q : n0 ≤ a) (F : own_Ary Z h a (.object C) vs) (O : own_Ovr Z h a C) (I : Ins Z h b C true) (hd : decode c.code pc = .ok (.aastore, 1)) {j : Int32} {n : Nat} (h0 : 0 ≤ j) (hj : j.toNatClampNeg = n) (hv : n < vs.length)
    (k : ∀ T' h' locs', Stand p l e R s m args below meth c T' locs' cells slots → T'.heap = h' → Fr n0 locs' → Wr h h' a n (.ref b) → own_Go p e below s Q kc ks T' (mkF m (pc + 1) Ls rest)) : own_Go p e below s Q kc ks T (mkF m pc Ls (.ref b :: .int j :: .ref a :: rest)) := by
  obtain ⟨cl, A, r1, r2⟩ := F
  obtain ⟨c', o1, o2⟩ := O
  cases o1.symm.trans A.1
  obtain ⟨T', h', X', e', W, st⟩ := stR X hx hZ eT A (j := j) (v := .ref b) (own_inb h0 r1 hj hv) rfl (Sto.of A o2 I) (g := mkF m pc Ls (.ref b :: .int j :: .ref a :: rest)) rfl rfl hd
  exact own_pre st (k T' h' _ X' e' (Fr.snoc X' N q) (hj ▸ W))
theorem own_aastore0 (X : Stand p l e R s m args below meth c T locs cells slots) (hx : p.tables.exec = Jvm.exec) (hZ : Z.Warmed39 s.vm) (eT : T.heap = h) (N : Fr n0 locs) (q : n0 ≤ a) (F : own_Ary Z h a (.object C) vs) (hd : decode c.code pc = .ok (.aastore, 1)) {j : Int32} {n : Nat} (h0 : 0 ≤ j) (hj : j.toNatClampNeg = n) (hv : n < vs.length)
    (k : ∀ T' h' locs', Stand p l e R s m args below meth c T' locs' cells slots → T'.heap = h' → Fr n0 locs' → Wr h h' a n .null → own_Go p e below s Q kc ks T' (mkF m (pc + 1) Ls rest)) : own_Go p e below s Q kc ks T (mkF m pc Ls (.null :: .int j :: .ref a :: rest)) := by
  obtain ⟨cl, A, r1, r2⟩ := F
  obtain ⟨T', h', X', e', W, st⟩ := stR X hx hZ eT A (j := j) (v := .null) (own_inb h0 r1 hj hv) rfl (Or.inl rfl) (g := mkF m pc Ls (.null :: .int j :: .ref a :: rest)) rfl rfl hd
  exact own_pre st (k T' h' _ X' e' (Fr.snoc X' N q) (hj ▸ W))
theorem own_callp (X : Stand p l e R s m args below meth c T locs cells slots) (hx : p.tables.exec = Jvm.exec) (hZ : Z.Warmed39 s.vm) {own : String} {index : Nat} (hown : s.vm.findClass own = some m.cls) {y : MethodName} {bytes : ByteArray} {maxL : Nat} {ret : Option FieldType} {rm : Room} {argsL : List Value} {Qc : Option Value → Heap → List Loc → Prop}
    (hM : MetFree l y (head1 [Cond.code y bytes maxL ret] rm) (fun a' U => a' = (.ref a :: argsL).toArray ∧ Z.Warmed39 U.vm ∧ U.heap = h) (fun _ _ _ _ _ => True) (fun _ U o U' => ∃ v L, o = .returned v ∧ Qc v U'.heap L ∧ FrameEnd U o U' L rm.cells rm.slots))
    (E : Exa Z h a C) (w1 : (Cond.methodLink own index y).before a0 Z = true) {kk : Nat} (wi : (Cond.instantiable y.cls kk).before a0 Z = true) (w5 : (Cond.privateMethod y).before a0 Z = true) (w6 : (Cond.instanceMethod y).before a0 Z = true) (w3 : (Cond.code y bytes maxL ret).before a0 Z = true) (w4 : (Cond.initialized y.cls).before a0 Z = true) (hy : y.cls ≠ "java/lang/invoke/MethodHandle" ∧ y.cls ≠ "java/lang/invoke/VarHandle")
    (eT : T.heap = h) (hd : decode c.code pc = .ok (.invokevirtual index, 3)) (hsz : Ls.size = c.maxLocals) {stk : List Value} (hstk : stk = argsL.reverse ++ .ref a :: rest) (hlen : ∀ sig, parseMethodDescriptor y.desc = some sig → argsL.length = sig.parameters.length) (hf : rm.frames + 1 ≤ R.frames) {W : Nat} (hW : (rest.map fun v => v.category).sum ≤ W) (hl : W + (maxL + 11) + rm.locals ≤ R.locals) (hc : cells + rm.cells ≤ R.cells) (hs : slots + rm.slots ≤ R.slots)
    (k : ∀ v T' L, Stand p l e R s m args below meth c T' (locs ++ L) (cells + rm.cells) (slots + rm.slots) → Qc v T'.heap L → own_Go p e below s Q kc ks T' (mkF m (pc + 3) Ls (v.toList ++ rest))) : own_Go p e below s Q kc ks T (mkF m pc Ls stk) := by
  obtain ⟨cq, q1, q2⟩ := E.cell
  have hpr : s.PrivateAt y := Cond.privateMethod_at (mvP hZ w5 (args := #[]))
  have wi' : (Cond.instantiable y.cls kk).before args s = true := mvT hZ wi
  obtain ⟨ci, ki, i1, i2, -, i4, -⟩ := Cond.instantiable_spec wi'
  have hsel : (Cond.selects y.cls y y).before args s = true := selects_self_of_private i1 i2 (by cases hb : ki.isInterface <;> simp [hb] at i4 ⊢) hpr (mvT hZ w6) hy
  obtain ⟨v, _, ⟨T', L', k', n'⟩, -, X', ⟨L, hQ, e1, e2, e3⟩, st⟩ := X.privateBack hx (y := y) hown (mvT hZ w1) (mvT hZ w6) hsel hpr (mvT hZ w3) hy (backOf (W := W) hM hZ w3 w4 hf hl) (g := mkF m pc Ls stk) rfl hsz (Steps.refl _) (a := a) (by rw [eT]; exact q1) q2 (argsL := argsL) (rest := rest) hlen hstk (by show 2 * 0 + _ ≤ _; omega) hd (fun _ _ => ⟨rfl, eT, hc, hs⟩)
  dsimp only at X' e1 e2 e3 st hQ
  subst e1 e2 e3
  exact own_tr st (k v T' L X' hQ)
end Own2
end Jvm.RoadKit
namespace Jvm.FP.Core
/-- x is i halves -/
def own_H (i : Int) (x : UInt64) : Prop := (∃ s c q, val64 x = .fin s c q) ∧ 2 * zval b64 (val64 x) = i * (one64 : Int)
theorem own_H.nn {i : Int} {x : UInt64} (h : own_H i x) : val64 x ≠ .nan := by obtain ⟨⟨s, c, q, e⟩, -⟩ := h; rw [e]; intro y; cases y
theorem own_fin_zval {x : UInt64} (hn : val64 x ≠ .nan) {B : Int} (h1 : zval b64 (val64 x) ≤ B) (h2 : -B ≤ zval b64 (val64 x)) (hB : B < ((zmag b64 (.inf false) : Nat) : Int)) : ∃ s c q, val64 x = .fin s c q := by
  cases hv : val64 x with
  | nan => exact absurd hv hn
  | fin s c q => exact ⟨s, c, q, rfl⟩
  | inf s =>
    rw [hv] at h1 h2
    have e1 : zmag b64 (.inf true) = zmag b64 (.inf false) := rfl
    cases s
    · simp only [zval, FP.Core.sgn, signed, Bool.false_eq_true, if_false] at h1; omega
    · simp only [zval, FP.Core.sgn, signed, if_true] at h2; omega
/-- a representable number of n halves -/
theorem own_rep {n : Int} (h : n.natAbs < 2 ^ 53) : ∃ V : Datum, fits b64 V ∧ V ≠ .nan ∧ 2 * zval b64 V = n * (one64 : Int) := by
  obtain ⟨c', q', e1, e2⟩ := round_exact good_b64 (decide (n < 0)) (c := n.natAbs) (q := -1) h (by decide) (by decide)
  refine ⟨.fin (decide (n < 0)) c' q', ?_, fun y => (nomatch y), ?_⟩
  · rw [← e1]; exact round_fits good_b64 _
  · show 2 * signed (decide (n < 0)) (inUnits c' q' b64.qmin) = _
    rw [e2]
    have e3 : (2 * (inUnits n.natAbs (-1) b64.qmin : Nat) : Int) = (n.natAbs : Int) * (one64 : Int) := by
      have : 2 * inUnits n.natAbs (-1) b64.qmin = n.natAbs * one64 := by
        show 2 * (n.natAbs * 2 ^ ((-1 : Int) - b64.qmin).toNat) = n.natAbs * one64
        rw [show one64 = 2 * 2 ^ ((-1 : Int) - b64.qmin).toNat by decide +kernel]
        generalize 2 ^ ((-1 : Int) - b64.qmin).toNat = u
        ac_rfl
      exact_mod_cast this
    unfold signed
    by_cases hn : n < 0
    · rw [if_pos (by simpa using hn), Int.mul_neg, e3, ← Int.neg_mul, show -(n.natAbs : Int) = n by omega]
    · rw [if_neg (by simpa using hn), e3, show (n.natAbs : Int) = n by omega]
theorem own_big : ((2 ^ 53 : Nat) : Int) * (one64 : Int) < ((zmag b64 (.inf false) : Nat) : Int) := by decide +kernel
theorem own_H_of {x : UInt64} {n : Int} (hn : val64 x ≠ .nan) (h : n.natAbs < 2 ^ 53) (e : 2 * zval b64 (val64 x) = n * (one64 : Int)) : own_H n x := by
  refine ⟨own_fin_zval hn (B := ((2 ^ 53 : Nat) : Int) * (one64 : Int)) ?_ ?_ own_big, e⟩
  · have p := one64_pos
    have := Int.mul_le_mul_of_nonneg_right (show n ≤ ((2 ^ 53 : Nat) : Int) by omega) (show (0 : Int) ≤ (one64 : Int) by omega)
    have : (0 : Int) ≤ ((2 ^ 53 : Nat) : Int) * (one64 : Int) := Int.mul_nonneg (by decide) (by omega)
    omega
  · have p := one64_pos
    have := Int.mul_le_mul_of_nonneg_right (show -((2 ^ 53 : Nat) : Int) ≤ n by omega) (show (0 : Int) ≤ (one64 : Int) by omega)
    have : (0 : Int) ≤ ((2 ^ 53 : Nat) : Int) * (one64 : Int) := Int.mul_nonneg (by decide) (by omega)
    rw [Int.neg_mul] at *
    omega
theorem own_H_sub {i j : Int} {x y : UInt64} (hx : own_H i x) (hy : own_H j y) (h : (i - j).natAbs < 2 ^ 53) : own_H (i - j) (dsub x y) := by
  obtain ⟨⟨s, c, q, ex⟩, zx⟩ := id hx
  obtain ⟨⟨t, d, r, ey⟩, zy⟩ := id hy
  obtain ⟨V, fV, nV, zV⟩ := own_rep h
  have e : val64 (dsub x y) = round b64 (exactSum (val64 x) (negate (val64 y))) := val64_dsub x y
  have zn : zval b64 (negate (val64 y)) = -zval b64 (val64 y) := zval_negate _ _
  have fy : fits b64 (negate (val64 y)) := negate_fits (val64_fits y)
  have hs : zval b64 (val64 x) + zval b64 (negate (val64 y)) = zval b64 V := by rw [zn]; rw [Int.sub_mul] at zV; omega
  have ny : ∃ s c q, negate (val64 y) = .fin s c q := by rw [ey]; exact ⟨_, _, _, rfl⟩
  have lo := sum_ge good_b64 ⟨_, _, _, ex⟩ ny (val64_fits x) fy fV nV (by omega)
  have hi := sum_le good_b64 ⟨_, _, _, ex⟩ ny (val64_fits x) fy fV nV (by omega)
  rw [← e] at lo hi
  have nn : val64 (dsub x y) ≠ .nan := by
    rw [e, ex, ey]; intro y'
    have := (round_nan (f := b64)).mp y'
    cases this
  exact own_H_of nn h (by omega)
theorem own_H_int {i : Int} {x : UInt64} (h : DInt i x) : own_H (2 * i) x := by
  have z := DInt_zval h
  refine ⟨?_, by rw [z, Int.mul_assoc]⟩
  unfold DInt at h
  cases hv : val64 x with
  | nan => rw [hv] at h; exact h.elim
  | inf => rw [hv] at h; exact h.elim
  | fin s c q => exact ⟨s, c, q, rfl⟩
/-- an int times 0.5 -/
theorem own_H_mul {i : Int} {x : UInt64} (hx : DInt i x) (h : i.natAbs < 2 ^ 53) : own_H i (dmul x 4602678819172646912) := by
  obtain ⟨V, fV, nV, zV⟩ := own_rep h
  have e : val64 (dmul x 4602678819172646912) = round b64 (exactProduct (val64 x) (val64 4602678819172646912)) := val64_dmul _ _
  have ec : val64 4602678819172646912 = .fin false (2 ^ 52) (-53) := by decide +kernel
  obtain ⟨⟨s, c, q, ex⟩, zx⟩ := own_H_int hx
  have fx := val64_fits x
  rw [ex] at fx zx
  have hq : b64.qmin ≤ q := fx.2.1
  rw [ec, ex] at e
  have e' : val64 (dmul x 4602678819172646912) = round b64 (.fin (s != false) (c * 2 ^ 52) (q + -53)) := e
  have hs : (s != false) = s := by cases s <;> rfl
  rw [hs] at e'
  -- in units of 2 ^ (qmin - 53)
  have e3 : inUnits (c * 2 ^ 52) (q + -53) (b64.qmin - 53) = zmag b64 (.fin s c q) * 2 ^ 52 := by
    show c * 2 ^ 52 * 2 ^ (q + -53 - (b64.qmin - 53)).toNat = c * 2 ^ (q - b64.qmin).toNat * 2 ^ 52
    rw [show q + -53 - (b64.qmin - 53) = q - b64.qmin by omega]
    ac_rfl
  have e4 : (2 ^ (b64.qmin - (b64.qmin - 53)).toNat : Nat) = 2 * 2 ^ 52 := by rw [show b64.qmin - (b64.qmin - 53) = 53 by omega]; decide
  have hv : signed s (inUnits (c * 2 ^ 52) (q + -53) (b64.qmin - 53)) = zval b64 V * ((2 ^ (b64.qmin - (b64.qmin - 53)).toNat : Nat) : Int) := by
    rw [e3, e4, signed_mul]
    have : zval b64 (.fin s c q) = signed s (zmag b64 (.fin s c q)) := rfl
    rw [← this]
    have k : (2 : Int) * zval b64 V = zval b64 (.fin s c q) := by
      have : 2 * (2 * zval b64 V) = 2 * zval b64 (.fin s c q) := by rw [zV, zx, Int.mul_assoc]
      omega
    rw [← k, Int.natCast_mul]
    generalize zval b64 V = v
    rw [Int.mul_comm 2 v, Int.mul_assoc]
    rfl
  have lo := zval_round_ge good_b64 (s := s) (c := c * 2 ^ 52) (q := q + -53) (V := V) (e0 := b64.qmin - 53) fV nV (by omega) (by omega) (Int.le_of_eq hv.symm)
  have hi := zval_round_le good_b64 (s := s) (c := c * 2 ^ 52) (q := q + -53) (V := V) (e0 := b64.qmin - 53) fV nV (by omega) (by omega) (Int.le_of_eq hv)
  rw [← e'] at lo hi
  have nn : val64 (dmul x 4602678819172646912) ≠ .nan := by
    rw [e']; intro y'
    have := (round_nan (f := b64)).mp y'
    cases this
  exact own_H_of nn h (by omega)
end Jvm.FP.Core
namespace Jvm.Pilot.@@N@@
open Jvm Jvm.ClassFile Sem Op Lib Jvm.Free Jvm.Stand Jvm.LawKit Jvm.RoadKit Bundle Jvm.Pilot.@@N@@.Jvm.D
theorem own_w {a0 : Array Value} {Z : State} (hw : ∀ d ∈ tables_1, d.before a0 Z = true) (i : Nat) {d : Jvm.Cond} (h : tables_1[i]? = some d) : d.before a0 Z = true := hw _ (List.mem_of_getElem? h)
section Floor
open Jvm.FP.Core
theorem own_c8 : val64 4487126258331716666 = .fin false 6044629098073146 (-79) := by decide +kernel
theorem own_zf (s : Bool) (c : Nat) (q : Int) : zmag b64 (.fin s c q) = c * 2 ^ (q - b64.qmin).toNat := rfl
theorem own_iu (c : Nat) (q e : Int) : inUnits c q e = c * 2 ^ (q - e).toNat := rfl
theorem own_prod8 {n : Int} {x : UInt64} (hx : DInt n x) (h0 : 0 ≤ n) : ∃ sg, val64 (dmul 4487126258331716666 x) = roundRatio b64 sg (6044629098073146 * n.natAbs) 1 (-79) ∧ (n ≠ 0 → sg = false) := by
  rw [val64_dmul, own_c8]
  unfold DInt at hx
  generalize val64 x = y at *
  cases y with
  | nan => exact hx.elim
  | inf => exact hx.elim
  | fin t d r =>
    have h1 := whole_natAbs hx
    refine ⟨(false != t), ?_, fun h => ?_⟩
    · show roundRatio b64 (false != t) (6044629098073146 * d) 1 (-79 + r) = _
      refine roundRatio_congr (by decide) (by decide) ?_
      rw [show (-79 + r - -79).toNat = r.toNat by omega, show ((-79 : Int) - (-79 + r)).toNat = (-r).toNat by omega, Nat.mul_one, Nat.mul_one, Nat.mul_assoc, h1, Nat.mul_assoc]
    · rw [whole_sign hx h]
      simp; omega
theorem own_near {A M B r : Nat} (h : A = M * B + r) (hr : 2 * r < B) : nearest A B = M := by
  have e1 : A % B = r := by rw [h, Nat.add_comm, Nat.add_mul_mod_self_right]; exact Nat.mod_eq_of_lt (by omega)
  have e2 : A / B = M := by rw [h, Nat.add_comm, Nat.add_mul_div_right _ _ (by omega), Nat.div_eq_of_lt (by omega)]; omega
  unfold nearest
  rw [e1, e2, if_pos hr]
theorem own_fl {k n : Int} {x : UInt64} (hx : DInt n x) (hn : n = k * 100000000) (h0 : 0 ≤ k) (h1 : k < 524288) : DInt k (dmul 4487126258331716666 x) := by
  obtain ⟨sg, e, hs⟩ := own_prod8 hx (by omega)
  show Whole k (val64 _)
  rw [e]
  by_cases hk : k = 0
  · subst hk
    rw [show n.natAbs = 0 by omega]
    show Whole 0 (.fin sg 0 b64.qmin)
    simp [Whole, signed_zero]
  · rw [hs (by omega)]
    obtain ⟨K, hK⟩ : ∃ K : Nat, k = K := ⟨k.toNat, by omega⟩
    subst hK
    obtain ⟨A, hA⟩ : ∃ A : Nat, A = 6044629098073146 * n.natAbs := ⟨_, rfl⟩
    rw [← hA]
    have hA' : A = K * 604462909807314600000000 + 0 := by rw [hA]; omega
    have hK0 : K ≠ 0 := by omega
    have l1 : 2 ^ K.log2 ≤ K := Nat.log2_self_le hK0
    have l2 : K < 2 ^ (K.log2 + 1) := Nat.lt_log2_self
    have l3 : K.log2 < 19 := (Nat.pow_lt_pow_iff_right (by decide : 1 < 2)).mp (Nat.lt_of_le_of_lt l1 (by omega : K < 2 ^ 19))
    generalize K.log2 = j at l1 l2 l3
    rw [Nat.pow_succ] at l2
    have hq : quantum b64 A 1 (-79) = (j : Int) - 52 := by
      refine quantum_eq (by omega) (by decide) (by show b64.qmin ≤ _; rw [qmin_b64]; omega) ?_ (Or.inr ?_)
      · have : ((j : Int) - 52 - -79 + (b64.p : Nat)) = ((j + 80 : Nat) : Int) - (0 : Nat) := by show (j : Int) - 52 - -79 + 53 = _; omega
        rw [this, below_iff, Nat.pow_zero, Nat.mul_one, Nat.one_mul, Nat.pow_add]
        generalize 2 ^ j = P at *
        omega
      · have : ((j : Int) - 52 - -79 + (((b64.p : Nat) : Int) - 1)) = ((j + 79 : Nat) : Int) - (0 : Nat) := by show (j : Int) - 52 - -79 + (53 - 1) = _; omega
        rw [this, below_iff, Nat.pow_zero, Nat.mul_one, Nat.one_mul, Nat.pow_add]
        generalize 2 ^ j = P at *
        omega
    have hnear : nearest (unitsNum A (-79) ((j : Int) - 52)) (unitsDen 1 (-79) ((j : Int) - 52)) = K * 2 ^ (52 - j) := by
      show nearest (A * 2 ^ ((-79 : Int) - ((j : Int) - 52)).toNat) (1 * 2 ^ ((j : Int) - 52 - -79).toNat) = _
      rw [show ((-79 : Int) - ((j : Int) - 52)).toNat = 0 by omega, show ((j : Int) - 52 - -79).toNat = j + 27 by omega, Nat.pow_zero, Nat.mul_one, Nat.one_mul]
      refine own_near (r := K * 12646912) ?_ ?_
      · rw [Nat.mul_assoc, ← Nat.pow_add, show 52 - j + (j + 27) = 79 by omega, hA', Nat.add_zero, ← Nat.mul_add, show 2 ^ 79 + 12646912 = 604462909807314600000000 by decide +kernel]
      · rw [Nat.pow_add]
        generalize 2 ^ j = P at *
        omega
    have hM : K * 2 ^ (52 - j) < 2 ^ 53 := by
      calc K * 2 ^ (52 - j) < 2 ^ j * 2 * 2 ^ (52 - j) := Nat.mul_lt_mul_of_pos_right l2 (Nat.two_pow_pos _)
        _ = 2 ^ (j + 1 + (52 - j)) := by rw [Nat.pow_add, Nat.pow_add]
        _ = 2 ^ 53 := by rw [show j + 1 + (52 - j) = 53 by omega]
    have hr : roundRatio b64 false A 1 (-79) = .fin false (K * 2 ^ (52 - j)) ((j : Int) - 52) := by
      unfold roundRatio
      rw [if_neg (by omega), hq]
      unfold roundAt
      rw [hnear]
      unfold settle
      rw [if_pos (show K * 2 ^ (52 - j) < 2 ^ b64.p from hM)]
      unfold bound
      rw [if_pos (by show (j : Int) - 52 ≤ b64.qmax; rw [show b64.qmax = 971 by decide]; omega)]
    rw [hr]
    show signed false (K * 2 ^ (52 - j) * 2 ^ ((j : Int) - 52).toNat) = (K : Int) * ((2 ^ (-((j : Int) - 52)).toNat : Nat) : Int)
    rw [show ((j : Int) - 52).toNat = 0 by omega, show (-((j : Int) - 52)).toNat = 52 - j by omega, Nat.pow_zero, Nat.mul_one]
    simp [signed]
theorem own_v7 : zmag b64 (val64 4601552919265804288) = 7 * 2 ^ 1070 := by decide +kernel
theorem own_fl2 {n : Int} {x : UInt64} (hx : DInt n x) (h0 : 1 ≤ n) (h1 : n ≤ 33554432) : val64 (dmul 4487126258331716666 x) ≠ .nan ∧ 0 < zval b64 (val64 (dmul 4487126258331716666 x)) ∧ 2 * zval b64 (val64 (dmul 4487126258331716666 x)) < (one64 : Int) := by
  obtain ⟨sg, e, hs⟩ := own_prod8 hx (by omega)
  rw [hs (by omega)] at e
  rw [e]
  refine ⟨roundRatio_ne_nan _ _ _ _ _, ?_⟩
  have hz : zval b64 (roundRatio b64 false (6044629098073146 * n.natAbs) 1 (-79)) = ((zmag b64 (roundRatio b64 false (6044629098073146 * n.natAbs) 1 (-79)) : Nat) : Int) := by unfold zval; rw [sgn_roundRatio]; rfl
  rw [hz]
  have lo := zmag_roundRatio_ge good_b64 (s := false) (A := 6044629098073146 * n.natAbs) (B := 1) (e := -79) (V := val64 4487126258331716666) (by decide) (val64_fits _) (e0 := b64.qmin) (Int.le_refl _) (by decide) (by
    rw [own_c8, Int.sub_self, own_zf, own_iu]
    generalize 2 ^ ((-79 : Int) - b64.qmin).toNat = u
    rw [show (0 : Int).toNat = 0 from rfl, Nat.pow_zero, Nat.mul_one, Nat.mul_one]
    exact Nat.mul_le_mul_right _ (by omega))
  have hi := zmag_roundRatio_le good_b64 (s := false) (A := 6044629098073146 * n.natAbs) (B := 1) (e := -79) (V := val64 4601552919265804288) (by decide) (val64_fits _) (by decide +kernel) (e0 := b64.qmin) (Int.le_refl _) (by decide) (by
    rw [own_v7, Int.sub_self, own_iu]
    rw [show (2 : Nat) ^ 1070 = 2 ^ 75 * 2 ^ ((-79 : Int) - b64.qmin).toNat by decide +kernel, show (0 : Int).toNat = 0 from rfl, Nat.pow_zero, Nat.mul_one, Nat.mul_one, ← Nat.mul_assoc]
    exact Nat.mul_le_mul_right _ (by omega))
  rw [own_v7] at hi
  have hp : 0 < zmag b64 (val64 4487126258331716666) := by decide +kernel
  have h8 : one64 = 16 * 2 ^ 1070 := by decide +kernel
  have h9 : 0 < 2 ^ 1070 := Nat.two_pow_pos _
  rw [h8]
  generalize 2 ^ 1070 = u at *
  omega
end Floor
open Jvm.FP.Core in
theorem own_cmpw {i k : Int} {a f : UInt64} (Ha : own_H i a) (Hf : DInt k f) : zval b64 (val64 a) < zval b64 (val64 f) ↔ i < 2 * k := by
  have z := DInt_zval Hf
  have h := Ha.2
  have p := one64_pos
  have e : i < 2 * k ↔ i * (one64 : Int) < 2 * k * (one64 : Int) := (Int.mul_lt_mul_right (by omega)).symm
  rw [e, Int.mul_assoc, ← z, ← h]
  omega
open Jvm.FP.Core in
theorem own_cmpn {i : Int} {a f : UInt64} (Ha : own_H i a) (hf : 0 < zval b64 (val64 f) ∧ 2 * zval b64 (val64 f) < (one64 : Int)) : zval b64 (val64 a) < zval b64 (val64 f) ↔ i ≤ 0 := by
  have h := Ha.2
  have p := one64_pos
  constructor
  · intro q
    refine Int.not_lt.mp fun q2 => ?_
    have := Int.mul_le_mul_of_nonneg_right (show (1 : Int) ≤ i by omega) (show (0 : Int) ≤ (one64 : Int) by omega)
    omega
  · intro q
    have := Int.mul_le_mul_of_nonneg_right q (show (0 : Int) ≤ (one64 : Int) by omega)
    omega
theorem own_rng {p q r m r0 r1 r2 mid : Int32} (h0 : p &&& (1048575 : Int32) = r0) (h1 : r0 + (q &&& (1048575 : Int32)) = r1) (h2 : r1 + (r &&& (1048575 : Int32)) = r2) (h3 : (m &&& (4194303 : Int32)) - (1048576 : Int32) = mid) :
    (0 ≤ r0.toInt ∧ r0.toInt < 4194304) ∧ (0 ≤ r1.toInt ∧ r1.toInt < 4194304) ∧ (0 ≤ r2.toInt ∧ r2.toInt < 4194304) ∧ (-4194304 ≤ mid.toInt ∧ mid.toInt < 4194304) := by
  have a1 := c_mask p 1048575 20 (by decide) (by decide)
  have a2 := c_mask q 1048575 20 (by decide) (by decide)
  have a3 := c_mask r 1048575 20 (by decide) (by decide)
  have a4 := c_mask m 4194303 22 (by decide) (by decide)
  have b1 := c_iadd r0 (q &&& 1048575)
  have b2 := c_iadd r1 (r &&& 1048575)
  have b3 := c_isub (m &&& 4194303) 1048576
  have r1' := rng32 r1
  have r2' := rng32 r2
  have r3' := rng32 mid
  rw [h0] at a1
  rw [h1] at b1
  rw [h2] at b2
  rw [h3] at b3
  have o : (1048576 : Int32).toInt = 1048576 := rfl
  rw [o] at b3
  omega
theorem own_dif {x y z : Int32} (h : x - y = z) (hx : -4194304 ≤ x.toInt ∧ x.toInt < 4194304) (hy : -4194304 ≤ y.toInt ∧ y.toInt < 4194304) : z.toInt = x.toInt - y.toInt := by
  have b := c_isub x y
  have r := rng32 z
  rw [h] at b
  omega
theorem own_kb {x k : Int64} (h : x &&& (524287 : Int64) = k) : 0 ≤ k.toInt ∧ k.toInt < 524288 := by
  have a := c_maskL x 524287 19 (by decide) (by decide)
  rw [h] at a; omega
theorem own_nk {k n : Int64} (h : k * (100000000 : Int64) = n) (hk : 0 ≤ k.toInt ∧ k.toInt < 524288) : n.toInt = k.toInt * 100000000 ∧ 0 ≤ k.toInt ∧ k.toInt < 524288 := by
  have a := c_lmul k 100000000
  have r := rng64 n
  rw [h] at a
  have o : (100000000 : Int64).toInt = 100000000 := rfl
  rw [o] at a
  omega
theorem own_2k {k : Int64} (hk : 0 ≤ k.toInt ∧ k.toInt < 524288) : ((2 : Int64) * k).toInt = 2 * k.toInt := by
  have a := c_lmul 2 k
  have r := rng64 ((2 : Int64) * k)
  have o : (2 : Int64).toInt = 2 := rfl
  rw [o] at a
  omega
theorem own_nn2 {x n : Int64} (h : (1 : Int64) + (x &&& (33554431 : Int64)) = n) : 1 ≤ n.toInt ∧ n.toInt ≤ 33554432 := by
  have a := c_maskL x 33554431 25 (by decide) (by decide)
  have b := c_ladd 1 (x &&& 33554431)
  have r := rng64 n
  rw [h] at b
  have o : (1 : Int64).toInt = 1 := rfl
  rw [o] at b
  omega
theorem own_lt2k {d : Int32} {k : Int64} {x y : Int32} (hd : d.toInt = x.toInt - y.toInt) (hk : 0 ≤ k.toInt ∧ k.toInt < 524288) : XT.cmpL d.toInt64 ((2 : Int64) * k) < 0 ↔ x.toInt - y.toInt < 2 * k.toInt := by
  rw [own_cl_lt, Int64.lt_iff_toInt_lt, own_2k hk, c_i2l, hd]
theorem own_pos0 {d x y : Int32} (hd : d.toInt = x.toInt - y.toInt) : (0 : Int32) < d ↔ ¬ x.toInt - y.toInt ≤ 0 := by
  rw [Int32.lt_iff_toInt_lt, show (0 : Int32).toInt = 0 from rfl, hd]; omega

theorem own_pn0 : plainName "com/example/rankline/rankline/BucketsHalvesMeetCountFloorPinLaw" = true := by first | (simp [plainName, overriddenIn]; done) | decide +kernel
theorem d1_0 : decode prog_5_method_1_code 0 = .ok (.aload_n 0, 1) := by decide +kernel
theorem d1_1 : decode prog_5_method_1_code 1 = .ok (.invokespecial 1, 3) := by decide +kernel
theorem d1_4 : decode prog_5_method_1_code 4 = .ok (.aload_n 0, 1) := by decide +kernel
theorem d1_5 : decode prog_5_method_1_code 5 = .ok (.bipush 16, 2) := by decide +kernel
theorem d1_7 : decode prog_5_method_1_code 7 = .ok (.newarray .double, 2) := by decide +kernel
theorem d1_9 : decode prog_5_method_1_code 9 = .ok (.putfield 9, 3) := by decide +kernel
theorem d1_12 : decode prog_5_method_1_code 12 = .ok (.aload_n 0, 1) := by decide +kernel
theorem d1_13 : decode prog_5_method_1_code 13 = .ok (.bipush 16, 2) := by decide +kernel
theorem d1_15 : decode prog_5_method_1_code 15 = .ok (.newarray .double, 2) := by decide +kernel
theorem d1_17 : decode prog_5_method_1_code 17 = .ok (.putfield 13, 3) := by decide +kernel
theorem d1_20 : decode prog_5_method_1_code 20 = .ok (.aload_n 0, 1) := by decide +kernel
theorem d1_21 : decode prog_5_method_1_code 21 = .ok (.bipush 16, 2) := by decide +kernel
theorem d1_23 : decode prog_5_method_1_code 23 = .ok (.newarray .boolean, 2) := by decide +kernel
theorem d1_25 : decode prog_5_method_1_code 25 = .ok (.putfield 16, 3) := by decide +kernel
theorem d1_28 : decode prog_5_method_1_code 28 = .ok (.aload_n 0, 1) := by decide +kernel
theorem d1_29 : decode prog_5_method_1_code 29 = .ok (.bipush 16, 2) := by decide +kernel
theorem d1_31 : decode prog_5_method_1_code 31 = .ok (.anewarray 20, 3) := by decide +kernel
theorem d1_34 : decode prog_5_method_1_code 34 = .ok (.putfield 22, 3) := by decide +kernel
theorem d1_37 : decode prog_5_method_1_code 37 = .ok (.aload_n 0, 1) := by decide +kernel
theorem d1_38 : decode prog_5_method_1_code 38 = .ok (.bipush 16, 2) := by decide +kernel
theorem d1_40 : decode prog_5_method_1_code 40 = .ok (.newarray .boolean, 2) := by decide +kernel
theorem d1_42 : decode prog_5_method_1_code 42 = .ok (.putfield 26, 3) := by decide +kernel
theorem d1_45 : decode prog_5_method_1_code 45 = .ok (.aload_n 0, 1) := by decide +kernel
theorem d1_46 : decode prog_5_method_1_code 46 = .ok (.bipush 16, 2) := by decide +kernel
theorem d1_48 : decode prog_5_method_1_code 48 = .ok (.newarray .long, 2) := by decide +kernel
theorem d1_50 : decode prog_5_method_1_code 50 = .ok (.putfield 29, 3) := by decide +kernel
theorem d1_53 : decode prog_5_method_1_code 53 = .ok (.aload_n 0, 1) := by decide +kernel
theorem d1_54 : decode prog_5_method_1_code 54 = .ok (.bipush 16, 2) := by decide +kernel
theorem d1_56 : decode prog_5_method_1_code 56 = .ok (.newarray .int, 2) := by decide +kernel
theorem d1_58 : decode prog_5_method_1_code 58 = .ok (.putfield 33, 3) := by decide +kernel
theorem d1_61 : decode prog_5_method_1_code 61 = .ok (.aload_n 0, 1) := by decide +kernel
theorem d1_62 : decode prog_5_method_1_code 62 = .ok (.bipush 16, 2) := by decide +kernel
theorem d1_64 : decode prog_5_method_1_code 64 = .ok (.newarray .int, 2) := by decide +kernel
theorem d1_66 : decode prog_5_method_1_code 66 = .ok (.putfield 37, 3) := by decide +kernel
theorem d1_69 : decode prog_5_method_1_code 69 = .ok (.aload_n 0, 1) := by decide +kernel
theorem d1_70 : decode prog_5_method_1_code 70 = .ok (.iconst (-1), 1) := by decide +kernel
theorem d1_71 : decode prog_5_method_1_code 71 = .ok (.putfield 40, 3) := by decide +kernel
theorem d1_74 : decode prog_5_method_1_code 74 = .ok (.aload_n 0, 1) := by decide +kernel
theorem d1_75 : decode prog_5_method_1_code 75 = .ok (.iconst (-1), 1) := by decide +kernel
theorem d1_76 : decode prog_5_method_1_code 76 = .ok (.putfield 44, 3) := by decide +kernel
theorem d1_79 : decode prog_5_method_1_code 79 = .ok (.aload_n 0, 1) := by decide +kernel
theorem d1_80 : decode prog_5_method_1_code 80 = .ok (.iconst (-1), 1) := by decide +kernel
theorem d1_81 : decode prog_5_method_1_code 81 = .ok (.putfield 47, 3) := by decide +kernel
theorem d1_84 : decode prog_5_method_1_code 84 = .ok (.aload_n 0, 1) := by decide +kernel
theorem d1_85 : decode prog_5_method_1_code 85 = .ok (.ldc2_w 52, 3) := by decide +kernel
theorem d1_88 : decode prog_5_method_1_code 88 = .ok (.putfield 54, 3) := by decide +kernel
theorem d1_91 : decode prog_5_method_1_code 91 = .ok (.return_, 1) := by decide +kernel
theorem own_pn1 : plainName "com/example/rankline/rankline/Buckets" = true := by first | (simp [plainName, overriddenIn]; done) | decide +kernel
def own_s1_Q (Z : State) (a10 : Addr) (h0 : Heap) (n0 : Nat) (v_ : Option Value) (h_ : Heap) (L_ : List Loc) : Prop := (fun v h L => ∃ (a2 : Addr) (a14 : Addr) (a29 : Addr) (a46 : Addr) (a65 : Addr) (a86 : Addr) (a109 : Addr) (a134 : Addr), v = none ∧ Fr n0 L ∧ Keep h0 h [a10] ∧ h0.size ≤ a2 ∧ h0.size ≤ a14 ∧ h0.size ≤ a29 ∧ h0.size ≤ a46 ∧ h0.size ≤ a65 ∧ h0.size ≤ a86 ∧ h0.size ≤ a109 ∧ h0.size ≤ a134 ∧ a2 < a14 ∧ a2 < a29 ∧ a2 < a46 ∧ a2 < a65 ∧ a2 < a86 ∧ a2 < a109 ∧ a2 < a134 ∧ a14 < a29 ∧ a14 < a46 ∧ a14 < a65 ∧ a14 < a86 ∧ a14 < a109 ∧ a14 < a134 ∧ a29 < a46 ∧ a29 < a65 ∧ a29 < a86 ∧ a29 < a109 ∧ a29 < a134 ∧ a46 < a65 ∧ a46 < a86 ∧ a46 < a109 ∧ a46 < a134 ∧ a65 < a86 ∧ a65 < a109 ∧ a65 < a134 ∧ a86 < a109 ∧ a86 < a134 ∧ a109 < a134 ∧ Fld Z h a10 "com/example/rankline/rankline/Buckets" "thresholds" "[D" (.ref a2) ∧ Fld Z h a10 "com/example/rankline/rankline/Buckets" "ranks" "[D" (.ref a14) ∧ Fld Z h a10 "com/example/rankline/rankline/Buckets" "guarded" "[Z" (.ref a29) ∧ Fld Z h a10 "com/example/rankline/rankline/Buckets" "extents" "[Lcom/example/rankline/rankline/Extent;" (.ref a46) ∧ Fld Z h a10 "com/example/rankline/rankline/Buckets" "addedAtThreshold" "[Z" (.ref a65) ∧ Fld Z h a10 "com/example/rankline/rankline/Buckets" "copies" "[J" (.ref a86) ∧ Fld Z h a10 "com/example/rankline/rankline/Buckets" "nextOf" "[I" (.ref a109) ∧ Fld Z h a10 "com/example/rankline/rankline/Buckets" "previousOf" "[I" (.ref a134) ∧ Fld Z h a10 "com/example/rankline/rankline/Buckets" "first" "I" (.int (-1 : Int32)) ∧ Fld Z h a10 "com/example/rankline/rankline/Buckets" "last" "I" (.int (-1 : Int32)) ∧ Fld Z h a10 "com/example/rankline/rankline/Buckets" "free" "I" (.int (-1 : Int32)) ∧ Fld Z h a10 "com/example/rankline/rankline/Buckets" "smallestMagnitude" "D" (.double (9218868437227405312 : UInt64)) ∧ Fld Z h a10 "com/example/rankline/rankline/Buckets" "size" "I" (.int (0 : Int32)) ∧ Fld Z h a10 "com/example/rankline/rankline/Buckets" "used" "I" (.int (0 : Int32)) ∧ own_Ary Z h a134 .int [(.int (0 : Int32)), (.int (0 : Int32)), (.int (0 : Int32)), (.int (0 : Int32)), (.int (0 : Int32)), (.int (0 : Int32)), (.int (0 : Int32)), (.int (0 : Int32)), (.int (0 : Int32)), (.int (0 : Int32)), (.int (0 : Int32)), (.int (0 : Int32)), (.int (0 : Int32)), (.int (0 : Int32)), (.int (0 : Int32)), (.int (0 : Int32))] ∧ Exa Z h a134 "[I" ∧ own_Ary Z h a109 .int [(.int (0 : Int32)), (.int (0 : Int32)), (.int (0 : Int32)), (.int (0 : Int32)), (.int (0 : Int32)), (.int (0 : Int32)), (.int (0 : Int32)), (.int (0 : Int32)), (.int (0 : Int32)), (.int (0 : Int32)), (.int (0 : Int32)), (.int (0 : Int32)), (.int (0 : Int32)), (.int (0 : Int32)), (.int (0 : Int32)), (.int (0 : Int32))] ∧ Exa Z h a109 "[I" ∧ own_Ary Z h a86 .long [(.long (0 : Int64)), (.long (0 : Int64)), (.long (0 : Int64)), (.long (0 : Int64)), (.long (0 : Int64)), (.long (0 : Int64)), (.long (0 : Int64)), (.long (0 : Int64)), (.long (0 : Int64)), (.long (0 : Int64)), (.long (0 : Int64)), (.long (0 : Int64)), (.long (0 : Int64)), (.long (0 : Int64)), (.long (0 : Int64)), (.long (0 : Int64))] ∧ Exa Z h a86 "[J" ∧ own_Ary Z h a65 .boolean [(.int (0 : Int32)), (.int (0 : Int32)), (.int (0 : Int32)), (.int (0 : Int32)), (.int (0 : Int32)), (.int (0 : Int32)), (.int (0 : Int32)), (.int (0 : Int32)), (.int (0 : Int32)), (.int (0 : Int32)), (.int (0 : Int32)), (.int (0 : Int32)), (.int (0 : Int32)), (.int (0 : Int32)), (.int (0 : Int32)), (.int (0 : Int32))] ∧ Exa Z h a65 "[Z" ∧ own_Ary Z h a46 (.object "com/example/rankline/rankline/Extent") [.null, .null, .null, .null, .null, .null, .null, .null, .null, .null, .null, .null, .null, .null, .null, .null] ∧ Exa Z h a46 "[Lcom/example/rankline/rankline/Extent;" ∧ own_Ovr Z h a46 "com/example/rankline/rankline/Extent" ∧ own_Ary Z h a29 .boolean [(.int (0 : Int32)), (.int (0 : Int32)), (.int (0 : Int32)), (.int (0 : Int32)), (.int (0 : Int32)), (.int (0 : Int32)), (.int (0 : Int32)), (.int (0 : Int32)), (.int (0 : Int32)), (.int (0 : Int32)), (.int (0 : Int32)), (.int (0 : Int32)), (.int (0 : Int32)), (.int (0 : Int32)), (.int (0 : Int32)), (.int (0 : Int32))] ∧ Exa Z h a29 "[Z" ∧ own_Ary Z h a14 .double [(.double (0 : UInt64)), (.double (0 : UInt64)), (.double (0 : UInt64)), (.double (0 : UInt64)), (.double (0 : UInt64)), (.double (0 : UInt64)), (.double (0 : UInt64)), (.double (0 : UInt64)), (.double (0 : UInt64)), (.double (0 : UInt64)), (.double (0 : UInt64)), (.double (0 : UInt64)), (.double (0 : UInt64)), (.double (0 : UInt64)), (.double (0 : UInt64)), (.double (0 : UInt64))] ∧ Exa Z h a14 "[D" ∧ own_Ary Z h a2 .double [(.double (0 : UInt64)), (.double (0 : UInt64)), (.double (0 : UInt64)), (.double (0 : UInt64)), (.double (0 : UInt64)), (.double (0 : UInt64)), (.double (0 : UInt64)), (.double (0 : UInt64)), (.double (0 : UInt64)), (.double (0 : UInt64)), (.double (0 : UInt64)), (.double (0 : UInt64)), (.double (0 : UInt64)), (.double (0 : UInt64)), (.double (0 : UInt64)), (.double (0 : UInt64))] ∧ Exa Z h a2 "[D") v_ h_ L_
set_option maxRecDepth 65536 in
set_option maxHeartbeats 40000000 in
theorem own_s1 (l : Launch) (Z : State) (a0 : Array Value) (hw : ∀ d ∈ tables_1, d.before a0 Z = true) (wds : List Jvm.Cond) (a10 : Addr) (h0 : Heap) (n0 : Nat) (Z0 : n0 ≤ h0.size) (H1 : Exa Z h0 a10 "com/example/rankline/rankline/Buckets") (H2 : Fld Z h0 a10 "com/example/rankline/rankline/Buckets" "thresholds" "[D" .null) (H3 : Fld Z h0 a10 "com/example/rankline/rankline/Buckets" "ranks" "[D" .null) (H4 : Fld Z h0 a10 "com/example/rankline/rankline/Buckets" "guarded" "[Z" .null) (H5 : Fld Z h0 a10 "com/example/rankline/rankline/Buckets" "extents" "[Lcom/example/rankline/rankline/Extent;" .null) (H6 : Fld Z h0 a10 "com/example/rankline/rankline/Buckets" "addedAtThreshold" "[Z" .null) (H7 : Fld Z h0 a10 "com/example/rankline/rankline/Buckets" "copies" "[J" .null) (H8 : Fld Z h0 a10 "com/example/rankline/rankline/Buckets" "nextOf" "[I" .null) (H9 : Fld Z h0 a10 "com/example/rankline/rankline/Buckets" "previousOf" "[I" .null) (H10 : Fld Z h0 a10 "com/example/rankline/rankline/Buckets" "first" "I" (.int (0 : Int32))) (H11 : Fld Z h0 a10 "com/example/rankline/rankline/Buckets" "last" "I" (.int (0 : Int32))) (H12 : Fld Z h0 a10 "com/example/rankline/rankline/Buckets" "free" "I" (.int (0 : Int32))) (H13 : Fld Z h0 a10 "com/example/rankline/rankline/Buckets" "smallestMagnitude" "D" (.double (0 : UInt64))) (H14 : Fld Z h0 a10 "com/example/rankline/rankline/Buckets" "size" "I" (.int (0 : Int32))) (H15 : Fld Z h0 a10 "com/example/rankline/rankline/Buckets" "used" "I" (.int (0 : Int32))) (H16 : n0 ≤ a10) :
    MetFree l (⟨"com/example/rankline/rankline/Buckets", "<init>", "()V"⟩ : MethodName) (head1 (Jvm.Cond.code (⟨"com/example/rankline/rankline/Buckets", "<init>", "()V"⟩ : MethodName) prog_5_method_1_code 1 none :: wds) ({ frames := 1, cells := 8, slots := 128, locals := 12 } : Room)) (fun ar_ U_ => ar_ = #[(.ref a10)] ∧ Z.Warmed39 U_.vm ∧ U_.heap = h0) (fun _ _ _ _ _ => True) (fun _ U_ o_ V_ => ∃ v_ L_, o_ = .returned v_ ∧ own_s1_Q Z a10 h0 n0 v_ V_.heap L_ ∧ FrameEnd U_ o_ V_ L_ ({ frames := 1, cells := 8, slots := 128, locals := 12 } : Room).cells ({ frames := 1, cells := 8, slots := 128, locals := 12 } : Room).slots) := by
  refine own_met (y := ⟨"com/example/rankline/rankline/Buckets", "<init>", "()V"⟩) (Q := own_s1_Q Z a10 h0 n0) own_pn1 ?_
  intro p e s m below meth c s₁ hx hby hml hZ hown hnm hret hlk X0 e0
  have N0 := Fr.nil n0
  refine own_cast (g' := (mkF m 0 #[.val (.ref a10)] [])) (by first | (simp [entryFrame, mkF, argsToLocals, Value.category]; done) | rfl) ?_
  refine own_pre (T' := s₁) (g' := (mkF m 1 #[.val (.ref a10)] [(.ref a10)])) (fun t k => XS.aloadN X0.here hx rfl (v := (.ref a10)) (hb hby d1_0) rfl rfl k) ?_
  refine own_init0 X0 hx hZ hown (own_w hw 9 rfl) (own_w hw 10 rfl) (own_w hw 11 rfl) e0 (hb hby d1_1) (by rw [hml]; rfl) (by decide) (W := 0) (Nat.le_of_eq rfl) (by decide) ?_
  intro T1 X1 e1
  show own_Go _ _ _ _ _ _ _ T1 (mkF m 4 #[.val (.ref a10)] [])
  refine own_pre (T' := T1) (g' := (mkF m 5 #[.val (.ref a10)] [(.ref a10)])) (fun t k => XS.aloadN X1.here hx rfl (v := (.ref a10)) (hb hby d1_4) rfl rfl k) ?_
  refine own_pre (T' := T1) (g' := (mkF m 7 #[.val (.ref a10)] [(.int (16 : Int32)), (.ref a10)])) (fun t k => XS.bipush X1.here hx rfl (hb hby d1_5) k) ?_
  refine own_newarr X1 hx hZ (aty := .double) (own_w hw 12 rfl) e1 (hb hby d1_7) (n := 16) (by decide) (by decide) (by decide) (by decide) (by decide) (ad := "[D") rfl ?_
  intro T2 h2 a2 g2 X2 e2 E2 A2 B2
  have lt3 : a10 < a2 := Nat.lt_of_lt_of_le H1.lt (Nat.le_of_eq g2.symm)
  have ge4 : h0.size ≤ a2 := Nat.le_trans (Nat.le_refl _) (Nat.le_of_eq g2.symm)
  have F6 : own_Ary Z h2 a2 .double [(.double (0 : UInt64)), (.double (0 : UInt64)), (.double (0 : UInt64)), (.double (0 : UInt64)), (.double (0 : UInt64)), (.double (0 : UInt64)), (.double (0 : UInt64)), (.double (0 : UInt64)), (.double (0 : UInt64)), (.double (0 : UInt64)), (.double (0 : UInt64)), (.double (0 : UInt64)), (.double (0 : UInt64)), (.double (0 : UInt64)), (.double (0 : UInt64)), (.double (0 : UInt64))] := A2
  show own_Go _ _ _ _ _ _ _ T2 (mkF m 9 #[.val (.ref a10)] [(.ref a2), (.ref a10)])
  have F7 : Fld Z h2 a10 "com/example/rankline/rankline/Buckets" "thresholds" "[D" .null := (H2.ext E2)
  have F8 : Exa Z h2 a10 "com/example/rankline/rankline/Buckets" := (H1.ext E2)
  refine own_putf X2 hx hZ hown (own_w hw 13 rfl) e2 N0 H16 F7 F8 (Or.inl (own_w hw 14 rfl)) (own_w hw 4 rfl) (ty := (.array .double)) (by decide) rfl rfl (hb hby d1_9) ?_
  intro T9 h9 lo9 X9 e9 N9 W9
  have F10 : Fld Z h9 a10 "com/example/rankline/rankline/Buckets" "thresholds" "[D" (.ref a2) := F7.same W9
  show own_Go _ _ _ _ _ _ _ T9 (mkF m 12 #[.val (.ref a10)] [])
  refine own_pre (T' := T9) (g' := (mkF m 13 #[.val (.ref a10)] [(.ref a10)])) (fun t k => XS.aloadN X9.here hx rfl (v := (.ref a10)) (hb hby d1_12) rfl rfl k) ?_
  refine own_pre (T' := T9) (g' := (mkF m 15 #[.val (.ref a10)] [(.int (16 : Int32)), (.ref a10)])) (fun t k => XS.bipush X9.here hx rfl (hb hby d1_13) k) ?_
  have F11 : Exa Z h9 a10 "com/example/rankline/rankline/Buckets" := (F8.wr W9)
  have F12 : own_Ary Z h9 a2 .double [(.double (0 : UInt64)), (.double (0 : UInt64)), (.double (0 : UInt64)), (.double (0 : UInt64)), (.double (0 : UInt64)), (.double (0 : UInt64)), (.double (0 : UInt64)), (.double (0 : UInt64)), (.double (0 : UInt64)), (.double (0 : UInt64)), (.double (0 : UInt64)), (.double (0 : UInt64)), (.double (0 : UInt64)), (.double (0 : UInt64)), (.double (0 : UInt64)), (.double (0 : UInt64))] := (F6.other W9 (Nat.ne_of_gt lt3))
  refine own_newarr X9 hx hZ (aty := .double) (own_w hw 12 rfl) e9 (hb hby d1_15) (n := 16) (by decide) (by decide) (by decide) (by decide) (by decide) (ad := "[D") rfl ?_
  intro T14 h14 a14 g14 X14 e14 E14 A14 B14
  have lt15 : a10 < a14 := Nat.lt_of_lt_of_le F11.lt (Nat.le_of_eq g14.symm)
  have lt16 : a2 < a14 := Nat.lt_of_lt_of_le F12.lt (Nat.le_of_eq g14.symm)
  have F17 : h0.size ≤ h9.size := (Nat.le_trans (Nat.le_trans (Nat.le_refl _) E2.1) (Nat.le_of_eq W9.size.symm))
  have ge18 : h0.size ≤ a14 := Nat.le_trans F17 (Nat.le_of_eq g14.symm)
  have F20 : own_Ary Z h14 a14 .double [(.double (0 : UInt64)), (.double (0 : UInt64)), (.double (0 : UInt64)), (.double (0 : UInt64)), (.double (0 : UInt64)), (.double (0 : UInt64)), (.double (0 : UInt64)), (.double (0 : UInt64)), (.double (0 : UInt64)), (.double (0 : UInt64)), (.double (0 : UInt64)), (.double (0 : UInt64)), (.double (0 : UInt64)), (.double (0 : UInt64)), (.double (0 : UInt64)), (.double (0 : UInt64))] := A14
  show own_Go _ _ _ _ _ _ _ T14 (mkF m 17 #[.val (.ref a10)] [(.ref a14), (.ref a10)])
  have F21 : Fld Z h14 a10 "com/example/rankline/rankline/Buckets" "ranks" "[D" .null := (((H3.ext E2).other W9 (Or.inr (slot_ne (C := "com/example/rankline/rankline/Buckets") (Or.inl (own_w hw 16 rfl)) (Or.inl (own_w hw 14 rfl)) (by decide) (t := (.array .double)) (t' := (.array .double)) (by decide) (by decide)))).ext E14)
  have F22 : Exa Z h14 a10 "com/example/rankline/rankline/Buckets" := (F11.ext E14)
  refine own_putf X14 hx hZ hown (own_w hw 15 rfl) e14 N9 H16 F21 F22 (Or.inl (own_w hw 16 rfl)) (own_w hw 4 rfl) (ty := (.array .double)) (by decide) rfl rfl (hb hby d1_17) ?_
  intro T23 h23 lo23 X23 e23 N23 W23
  have F24 : Fld Z h23 a10 "com/example/rankline/rankline/Buckets" "ranks" "[D" (.ref a14) := F21.same W23
  show own_Go _ _ _ _ _ _ _ T23 (mkF m 20 #[.val (.ref a10)] [])
  refine own_pre (T' := T23) (g' := (mkF m 21 #[.val (.ref a10)] [(.ref a10)])) (fun t k => XS.aloadN X23.here hx rfl (v := (.ref a10)) (hb hby d1_20) rfl rfl k) ?_
  refine own_pre (T' := T23) (g' := (mkF m 23 #[.val (.ref a10)] [(.int (16 : Int32)), (.ref a10)])) (fun t k => XS.bipush X23.here hx rfl (hb hby d1_21) k) ?_
  have F25 : Exa Z h23 a10 "com/example/rankline/rankline/Buckets" := (F22.wr W23)
  have F26 : own_Ary Z h23 a2 .double [(.double (0 : UInt64)), (.double (0 : UInt64)), (.double (0 : UInt64)), (.double (0 : UInt64)), (.double (0 : UInt64)), (.double (0 : UInt64)), (.double (0 : UInt64)), (.double (0 : UInt64)), (.double (0 : UInt64)), (.double (0 : UInt64)), (.double (0 : UInt64)), (.double (0 : UInt64)), (.double (0 : UInt64)), (.double (0 : UInt64)), (.double (0 : UInt64)), (.double (0 : UInt64))] := ((F12.ext E14).other W23 (Nat.ne_of_gt lt3))
  have F27 : own_Ary Z h23 a14 .double [(.double (0 : UInt64)), (.double (0 : UInt64)), (.double (0 : UInt64)), (.double (0 : UInt64)), (.double (0 : UInt64)), (.double (0 : UInt64)), (.double (0 : UInt64)), (.double (0 : UInt64)), (.double (0 : UInt64)), (.double (0 : UInt64)), (.double (0 : UInt64)), (.double (0 : UInt64)), (.double (0 : UInt64)), (.double (0 : UInt64)), (.double (0 : UInt64)), (.double (0 : UInt64))] := (F20.other W23 (Nat.ne_of_gt lt15))
  refine own_newarr X23 hx hZ (aty := .boolean) (own_w hw 17 rfl) e23 (hb hby d1_23) (n := 16) (by decide) (by decide) (by decide) (by decide) (by decide) (ad := "[Z") rfl ?_
  intro T29 h29 a29 g29 X29 e29 E29 A29 B29
  have lt30 : a10 < a29 := Nat.lt_of_lt_of_le F25.lt (Nat.le_of_eq g29.symm)
  have lt31 : a2 < a29 := Nat.lt_of_lt_of_le F26.lt (Nat.le_of_eq g29.symm)
  have lt32 : a14 < a29 := Nat.lt_of_lt_of_le F27.lt (Nat.le_of_eq g29.symm)
  have F33 : h0.size ≤ h23.size := (Nat.le_trans (Nat.le_trans F17 E14.1) (Nat.le_of_eq W23.size.symm))
  have ge34 : h0.size ≤ a29 := Nat.le_trans F33 (Nat.le_of_eq g29.symm)
  have F36 : own_Ary Z h29 a29 .boolean [(.int (0 : Int32)), (.int (0 : Int32)), (.int (0 : Int32)), (.int (0 : Int32)), (.int (0 : Int32)), (.int (0 : Int32)), (.int (0 : Int32)), (.int (0 : Int32)), (.int (0 : Int32)), (.int (0 : Int32)), (.int (0 : Int32)), (.int (0 : Int32)), (.int (0 : Int32)), (.int (0 : Int32)), (.int (0 : Int32)), (.int (0 : Int32))] := A29
  show own_Go _ _ _ _ _ _ _ T29 (mkF m 25 #[.val (.ref a10)] [(.ref a29), (.ref a10)])
  have F37 : Fld Z h29 a10 "com/example/rankline/rankline/Buckets" "guarded" "[Z" .null := (((((H4.ext E2).other W9 (Or.inr (slot_ne (C := "com/example/rankline/rankline/Buckets") (Or.inl (own_w hw 19 rfl)) (Or.inl (own_w hw 14 rfl)) (by decide) (t := (.array .boolean)) (t' := (.array .double)) (by decide) (by decide)))).ext E14).other W23 (Or.inr (slot_ne (C := "com/example/rankline/rankline/Buckets") (Or.inl (own_w hw 19 rfl)) (Or.inl (own_w hw 16 rfl)) (by decide) (t := (.array .boolean)) (t' := (.array .double)) (by decide) (by decide)))).ext E29)
  have F38 : Exa Z h29 a10 "com/example/rankline/rankline/Buckets" := (F25.ext E29)
  refine own_putf X29 hx hZ hown (own_w hw 18 rfl) e29 N23 H16 F37 F38 (Or.inl (own_w hw 19 rfl)) (own_w hw 4 rfl) (ty := (.array .boolean)) (by decide) rfl rfl (hb hby d1_25) ?_
  intro T39 h39 lo39 X39 e39 N39 W39
  have F40 : Fld Z h39 a10 "com/example/rankline/rankline/Buckets" "guarded" "[Z" (.ref a29) := F37.same W39
  show own_Go _ _ _ _ _ _ _ T39 (mkF m 28 #[.val (.ref a10)] [])
  refine own_pre (T' := T39) (g' := (mkF m 29 #[.val (.ref a10)] [(.ref a10)])) (fun t k => XS.aloadN X39.here hx rfl (v := (.ref a10)) (hb hby d1_28) rfl rfl k) ?_
  refine own_pre (T' := T39) (g' := (mkF m 31 #[.val (.ref a10)] [(.int (16 : Int32)), (.ref a10)])) (fun t k => XS.bipush X39.here hx rfl (hb hby d1_29) k) ?_
  have F41 : Exa Z h39 a10 "com/example/rankline/rankline/Buckets" := (F38.wr W39)
  have F42 : own_Ary Z h39 a2 .double [(.double (0 : UInt64)), (.double (0 : UInt64)), (.double (0 : UInt64)), (.double (0 : UInt64)), (.double (0 : UInt64)), (.double (0 : UInt64)), (.double (0 : UInt64)), (.double (0 : UInt64)), (.double (0 : UInt64)), (.double (0 : UInt64)), (.double (0 : UInt64)), (.double (0 : UInt64)), (.double (0 : UInt64)), (.double (0 : UInt64)), (.double (0 : UInt64)), (.double (0 : UInt64))] := ((F26.ext E29).other W39 (Nat.ne_of_gt lt3))
  have F43 : own_Ary Z h39 a14 .double [(.double (0 : UInt64)), (.double (0 : UInt64)), (.double (0 : UInt64)), (.double (0 : UInt64)), (.double (0 : UInt64)), (.double (0 : UInt64)), (.double (0 : UInt64)), (.double (0 : UInt64)), (.double (0 : UInt64)), (.double (0 : UInt64)), (.double (0 : UInt64)), (.double (0 : UInt64)), (.double (0 : UInt64)), (.double (0 : UInt64)), (.double (0 : UInt64)), (.double (0 : UInt64))] := ((F27.ext E29).other W39 (Nat.ne_of_gt lt15))
  have F44 : own_Ary Z h39 a29 .boolean [(.int (0 : Int32)), (.int (0 : Int32)), (.int (0 : Int32)), (.int (0 : Int32)), (.int (0 : Int32)), (.int (0 : Int32)), (.int (0 : Int32)), (.int (0 : Int32)), (.int (0 : Int32)), (.int (0 : Int32)), (.int (0 : Int32)), (.int (0 : Int32)), (.int (0 : Int32)), (.int (0 : Int32)), (.int (0 : Int32)), (.int (0 : Int32))] := (F36.other W39 (Nat.ne_of_gt lt30))
  refine own_anewarr X39 hx hZ hown (own_w hw 20 rfl) (own_w hw 21 rfl) e39 (hb hby d1_31) (n := 16) (by decide) (by decide) (by decide) (by decide) (by decide) (ad := "[Lcom/example/rankline/rankline/Extent;") rfl ?_
  intro T46 h46 a46 g46 X46 e46 E46 A46 B46 O46
  have lt47 : a10 < a46 := Nat.lt_of_lt_of_le F41.lt (Nat.le_of_eq g46.symm)
  have lt48 : a2 < a46 := Nat.lt_of_lt_of_le F42.lt (Nat.le_of_eq g46.symm)
  have lt49 : a14 < a46 := Nat.lt_of_lt_of_le F43.lt (Nat.le_of_eq g46.symm)
  have lt50 : a29 < a46 := Nat.lt_of_lt_of_le F44.lt (Nat.le_of_eq g46.symm)
  have F51 : h0.size ≤ h39.size := (Nat.le_trans (Nat.le_trans F33 E29.1) (Nat.le_of_eq W39.size.symm))
  have ge52 : h0.size ≤ a46 := Nat.le_trans F51 (Nat.le_of_eq g46.symm)
  have F54 : own_Ary Z h46 a46 (.object "com/example/rankline/rankline/Extent") [.null, .null, .null, .null, .null, .null, .null, .null, .null, .null, .null, .null, .null, .null, .null, .null] := A46
  show own_Go _ _ _ _ _ _ _ T46 (mkF m 34 #[.val (.ref a10)] [(.ref a46), (.ref a10)])
  have F55 : Fld Z h46 a10 "com/example/rankline/rankline/Buckets" "extents" "[Lcom/example/rankline/rankline/Extent;" .null := (((((((H5.ext E2).other W9 (Or.inr (slot_ne (C := "com/example/rankline/rankline/Buckets") (Or.inl (own_w hw 23 rfl)) (Or.inl (own_w hw 14 rfl)) (by decide) (t := (.array (.object "com/example/rankline/rankline/Extent"))) (t' := (.array .double)) (by decide) (by decide)))).ext E14).other W23 (Or.inr (slot_ne (C := "com/example/rankline/rankline/Buckets") (Or.inl (own_w hw 23 rfl)) (Or.inl (own_w hw 16 rfl)) (by decide) (t := (.array (.object "com/example/rankline/rankline/Extent"))) (t' := (.array .double)) (by decide) (by decide)))).ext E29).other W39 (Or.inr (slot_ne (C := "com/example/rankline/rankline/Buckets") (Or.inl (own_w hw 23 rfl)) (Or.inl (own_w hw 19 rfl)) (by decide) (t := (.array (.object "com/example/rankline/rankline/Extent"))) (t' := (.array .boolean)) (by decide) (by decide)))).ext E46)
  have F56 : Exa Z h46 a10 "com/example/rankline/rankline/Buckets" := (F41.ext E46)
  refine own_putf X46 hx hZ hown (own_w hw 22 rfl) e46 N39 H16 F55 F56 (Or.inl (own_w hw 23 rfl)) (own_w hw 4 rfl) (ty := (.array (.object "com/example/rankline/rankline/Extent"))) (by decide) rfl rfl (hb hby d1_34) ?_
  intro T57 h57 lo57 X57 e57 N57 W57
  have F58 : Fld Z h57 a10 "com/example/rankline/rankline/Buckets" "extents" "[Lcom/example/rankline/rankline/Extent;" (.ref a46) := F55.same W57
  show own_Go _ _ _ _ _ _ _ T57 (mkF m 37 #[.val (.ref a10)] [])
  refine own_pre (T' := T57) (g' := (mkF m 38 #[.val (.ref a10)] [(.ref a10)])) (fun t k => XS.aloadN X57.here hx rfl (v := (.ref a10)) (hb hby d1_37) rfl rfl k) ?_
  refine own_pre (T' := T57) (g' := (mkF m 40 #[.val (.ref a10)] [(.int (16 : Int32)), (.ref a10)])) (fun t k => XS.bipush X57.here hx rfl (hb hby d1_38) k) ?_
  have F59 : Exa Z h57 a10 "com/example/rankline/rankline/Buckets" := (F56.wr W57)
  have F60 : own_Ary Z h57 a2 .double [(.double (0 : UInt64)), (.double (0 : UInt64)), (.double (0 : UInt64)), (.double (0 : UInt64)), (.double (0 : UInt64)), (.double (0 : UInt64)), (.double (0 : UInt64)), (.double (0 : UInt64)), (.double (0 : UInt64)), (.double (0 : UInt64)), (.double (0 : UInt64)), (.double (0 : UInt64)), (.double (0 : UInt64)), (.double (0 : UInt64)), (.double (0 : UInt64)), (.double (0 : UInt64))] := ((F42.ext E46).other W57 (Nat.ne_of_gt lt3))
  have F61 : own_Ary Z h57 a14 .double [(.double (0 : UInt64)), (.double (0 : UInt64)), (.double (0 : UInt64)), (.double (0 : UInt64)), (.double (0 : UInt64)), (.double (0 : UInt64)), (.double (0 : UInt64)), (.double (0 : UInt64)), (.double (0 : UInt64)), (.double (0 : UInt64)), (.double (0 : UInt64)), (.double (0 : UInt64)), (.double (0 : UInt64)), (.double (0 : UInt64)), (.double (0 : UInt64)), (.double (0 : UInt64))] := ((F43.ext E46).other W57 (Nat.ne_of_gt lt15))
  have F62 : own_Ary Z h57 a29 .boolean [(.int (0 : Int32)), (.int (0 : Int32)), (.int (0 : Int32)), (.int (0 : Int32)), (.int (0 : Int32)), (.int (0 : Int32)), (.int (0 : Int32)), (.int (0 : Int32)), (.int (0 : Int32)), (.int (0 : Int32)), (.int (0 : Int32)), (.int (0 : Int32)), (.int (0 : Int32)), (.int (0 : Int32)), (.int (0 : Int32)), (.int (0 : Int32))] := ((F44.ext E46).other W57 (Nat.ne_of_gt lt30))
  have F63 : own_Ary Z h57 a46 (.object "com/example/rankline/rankline/Extent") [.null, .null, .null, .null, .null, .null, .null, .null, .null, .null, .null, .null, .null, .null, .null, .null] := (F54.other W57 (Nat.ne_of_gt lt47))
  refine own_newarr X57 hx hZ (aty := .boolean) (own_w hw 17 rfl) e57 (hb hby d1_40) (n := 16) (by decide) (by decide) (by decide) (by decide) (by decide) (ad := "[Z") rfl ?_
  intro T65 h65 a65 g65 X65 e65 E65 A65 B65
  have lt66 : a10 < a65 := Nat.lt_of_lt_of_le F59.lt (Nat.le_of_eq g65.symm)
  have lt67 : a2 < a65 := Nat.lt_of_lt_of_le F60.lt (Nat.le_of_eq g65.symm)
  have lt68 : a14 < a65 := Nat.lt_of_lt_of_le F61.lt (Nat.le_of_eq g65.symm)
  have lt69 : a29 < a65 := Nat.lt_of_lt_of_le F62.lt (Nat.le_of_eq g65.symm)
  have lt70 : a46 < a65 := Nat.lt_of_lt_of_le F63.lt (Nat.le_of_eq g65.symm)
  have F71 : h0.size ≤ h57.size := (Nat.le_trans (Nat.le_trans F51 E46.1) (Nat.le_of_eq W57.size.symm))
  have ge72 : h0.size ≤ a65 := Nat.le_trans F71 (Nat.le_of_eq g65.symm)
  have F74 : own_Ary Z h65 a65 .boolean [(.int (0 : Int32)), (.int (0 : Int32)), (.int (0 : Int32)), (.int (0 : Int32)), (.int (0 : Int32)), (.int (0 : Int32)), (.int (0 : Int32)), (.int (0 : Int32)), (.int (0 : Int32)), (.int (0 : Int32)), (.int (0 : Int32)), (.int (0 : Int32)), (.int (0 : Int32)), (.int (0 : Int32)), (.int (0 : Int32)), (.int (0 : Int32))] := A65
  show own_Go _ _ _ _ _ _ _ T65 (mkF m 42 #[.val (.ref a10)] [(.ref a65), (.ref a10)])
  have F75 : Fld Z h65 a10 "com/example/rankline/rankline/Buckets" "addedAtThreshold" "[Z" .null := (((((((((H6.ext E2).other W9 (Or.inr (slot_ne (C := "com/example/rankline/rankline/Buckets") (Or.inl (own_w hw 25 rfl)) (Or.inl (own_w hw 14 rfl)) (by decide) (t := (.array .boolean)) (t' := (.array .double)) (by decide) (by decide)))).ext E14).other W23 (Or.inr (slot_ne (C := "com/example/rankline/rankline/Buckets") (Or.inl (own_w hw 25 rfl)) (Or.inl (own_w hw 16 rfl)) (by decide) (t := (.array .boolean)) (t' := (.array .double)) (by decide) (by decide)))).ext E29).other W39 (Or.inr (slot_ne (C := "com/example/rankline/rankline/Buckets") (Or.inl (own_w hw 25 rfl)) (Or.inl (own_w hw 19 rfl)) (by decide) (t := (.array .boolean)) (t' := (.array .boolean)) (by decide) (by decide)))).ext E46).other W57 (Or.inr (slot_ne (C := "com/example/rankline/rankline/Buckets") (Or.inl (own_w hw 25 rfl)) (Or.inl (own_w hw 23 rfl)) (by decide) (t := (.array .boolean)) (t' := (.array (.object "com/example/rankline/rankline/Extent"))) (by decide) (by decide)))).ext E65)
  have F76 : Exa Z h65 a10 "com/example/rankline/rankline/Buckets" := (F59.ext E65)
  refine own_putf X65 hx hZ hown (own_w hw 24 rfl) e65 N57 H16 F75 F76 (Or.inl (own_w hw 25 rfl)) (own_w hw 4 rfl) (ty := (.array .boolean)) (by decide) rfl rfl (hb hby d1_42) ?_
  intro T77 h77 lo77 X77 e77 N77 W77
  have F78 : Fld Z h77 a10 "com/example/rankline/rankline/Buckets" "addedAtThreshold" "[Z" (.ref a65) := F75.same W77
  show own_Go _ _ _ _ _ _ _ T77 (mkF m 45 #[.val (.ref a10)] [])
  refine own_pre (T' := T77) (g' := (mkF m 46 #[.val (.ref a10)] [(.ref a10)])) (fun t k => XS.aloadN X77.here hx rfl (v := (.ref a10)) (hb hby d1_45) rfl rfl k) ?_
  refine own_pre (T' := T77) (g' := (mkF m 48 #[.val (.ref a10)] [(.int (16 : Int32)), (.ref a10)])) (fun t k => XS.bipush X77.here hx rfl (hb hby d1_46) k) ?_
  have F79 : Exa Z h77 a10 "com/example/rankline/rankline/Buckets" := (F76.wr W77)
  have F80 : own_Ary Z h77 a2 .double [(.double (0 : UInt64)), (.double (0 : UInt64)), (.double (0 : UInt64)), (.double (0 : UInt64)), (.double (0 : UInt64)), (.double (0 : UInt64)), (.double (0 : UInt64)), (.double (0 : UInt64)), (.double (0 : UInt64)), (.double (0 : UInt64)), (.double (0 : UInt64)), (.double (0 : UInt64)), (.double (0 : UInt64)), (.double (0 : UInt64)), (.double (0 : UInt64)), (.double (0 : UInt64))] := ((F60.ext E65).other W77 (Nat.ne_of_gt lt3))
  have F81 : own_Ary Z h77 a14 .double [(.double (0 : UInt64)), (.double (0 : UInt64)), (.double (0 : UInt64)), (.double (0 : UInt64)), (.double (0 : UInt64)), (.double (0 : UInt64)), (.double (0 : UInt64)), (.double (0 : UInt64)), (.double (0 : UInt64)), (.double (0 : UInt64)), (.double (0 : UInt64)), (.double (0 : UInt64)), (.double (0 : UInt64)), (.double (0 : UInt64)), (.double (0 : UInt64)), (.double (0 : UInt64))] := ((F61.ext E65).other W77 (Nat.ne_of_gt lt15))
  have F82 : own_Ary Z h77 a29 .boolean [(.int (0 : Int32)), (.int (0 : Int32)), (.int (0 : Int32)), (.int (0 : Int32)), (.int (0 : Int32)), (.int (0 : Int32)), (.int (0 : Int32)), (.int (0 : Int32)), (.int (0 : Int32)), (.int (0 : Int32)), (.int (0 : Int32)), (.int (0 : Int32)), (.int (0 : Int32)), (.int (0 : Int32)), (.int (0 : Int32)), (.int (0 : Int32))] := ((F62.ext E65).other W77 (Nat.ne_of_gt lt30))
  have F83 : own_Ary Z h77 a46 (.object "com/example/rankline/rankline/Extent") [.null, .null, .null, .null, .null, .null, .null, .null, .null, .null, .null, .null, .null, .null, .null, .null] := ((F63.ext E65).other W77 (Nat.ne_of_gt lt47))
  have F84 : own_Ary Z h77 a65 .boolean [(.int (0 : Int32)), (.int (0 : Int32)), (.int (0 : Int32)), (.int (0 : Int32)), (.int (0 : Int32)), (.int (0 : Int32)), (.int (0 : Int32)), (.int (0 : Int32)), (.int (0 : Int32)), (.int (0 : Int32)), (.int (0 : Int32)), (.int (0 : Int32)), (.int (0 : Int32)), (.int (0 : Int32)), (.int (0 : Int32)), (.int (0 : Int32))] := (F74.other W77 (Nat.ne_of_gt lt66))
  refine own_newarr X77 hx hZ (aty := .long) (own_w hw 26 rfl) e77 (hb hby d1_48) (n := 16) (by decide) (by decide) (by decide) (by decide) (by decide) (ad := "[J") rfl ?_
  intro T86 h86 a86 g86 X86 e86 E86 A86 B86
  have lt87 : a10 < a86 := Nat.lt_of_lt_of_le F79.lt (Nat.le_of_eq g86.symm)
  have lt88 : a2 < a86 := Nat.lt_of_lt_of_le F80.lt (Nat.le_of_eq g86.symm)
  have lt89 : a14 < a86 := Nat.lt_of_lt_of_le F81.lt (Nat.le_of_eq g86.symm)
  have lt90 : a29 < a86 := Nat.lt_of_lt_of_le F82.lt (Nat.le_of_eq g86.symm)
  have lt91 : a46 < a86 := Nat.lt_of_lt_of_le F83.lt (Nat.le_of_eq g86.symm)
  have lt92 : a65 < a86 := Nat.lt_of_lt_of_le F84.lt (Nat.le_of_eq g86.symm)
  have F93 : h0.size ≤ h77.size := (Nat.le_trans (Nat.le_trans F71 E65.1) (Nat.le_of_eq W77.size.symm))
  have ge94 : h0.size ≤ a86 := Nat.le_trans F93 (Nat.le_of_eq g86.symm)
  have F96 : own_Ary Z h86 a86 .long [(.long (0 : Int64)), (.long (0 : Int64)), (.long (0 : Int64)), (.long (0 : Int64)), (.long (0 : Int64)), (.long (0 : Int64)), (.long (0 : Int64)), (.long (0 : Int64)), (.long (0 : Int64)), (.long (0 : Int64)), (.long (0 : Int64)), (.long (0 : Int64)), (.long (0 : Int64)), (.long (0 : Int64)), (.long (0 : Int64)), (.long (0 : Int64))] := A86
  show own_Go _ _ _ _ _ _ _ T86 (mkF m 50 #[.val (.ref a10)] [(.ref a86), (.ref a10)])
  have F97 : Fld Z h86 a10 "com/example/rankline/rankline/Buckets" "copies" "[J" .null := (((((((((((H7.ext E2).other W9 (Or.inr (slot_ne (C := "com/example/rankline/rankline/Buckets") (Or.inl (own_w hw 28 rfl)) (Or.inl (own_w hw 14 rfl)) (by decide) (t := (.array .long)) (t' := (.array .double)) (by decide) (by decide)))).ext E14).other W23 (Or.inr (slot_ne (C := "com/example/rankline/rankline/Buckets") (Or.inl (own_w hw 28 rfl)) (Or.inl (own_w hw 16 rfl)) (by decide) (t := (.array .long)) (t' := (.array .double)) (by decide) (by decide)))).ext E29).other W39 (Or.inr (slot_ne (C := "com/example/rankline/rankline/Buckets") (Or.inl (own_w hw 28 rfl)) (Or.inl (own_w hw 19 rfl)) (by decide) (t := (.array .long)) (t' := (.array .boolean)) (by decide) (by decide)))).ext E46).other W57 (Or.inr (slot_ne (C := "com/example/rankline/rankline/Buckets") (Or.inl (own_w hw 28 rfl)) (Or.inl (own_w hw 23 rfl)) (by decide) (t := (.array .long)) (t' := (.array (.object "com/example/rankline/rankline/Extent"))) (by decide) (by decide)))).ext E65).other W77 (Or.inr (slot_ne (C := "com/example/rankline/rankline/Buckets") (Or.inl (own_w hw 28 rfl)) (Or.inl (own_w hw 25 rfl)) (by decide) (t := (.array .long)) (t' := (.array .boolean)) (by decide) (by decide)))).ext E86)
  have F98 : Exa Z h86 a10 "com/example/rankline/rankline/Buckets" := (F79.ext E86)
  refine own_putf X86 hx hZ hown (own_w hw 27 rfl) e86 N77 H16 F97 F98 (Or.inl (own_w hw 28 rfl)) (own_w hw 4 rfl) (ty := (.array .long)) (by decide) rfl rfl (hb hby d1_50) ?_
  intro T99 h99 lo99 X99 e99 N99 W99
  have F100 : Fld Z h99 a10 "com/example/rankline/rankline/Buckets" "copies" "[J" (.ref a86) := F97.same W99
  show own_Go _ _ _ _ _ _ _ T99 (mkF m 53 #[.val (.ref a10)] [])
  refine own_pre (T' := T99) (g' := (mkF m 54 #[.val (.ref a10)] [(.ref a10)])) (fun t k => XS.aloadN X99.here hx rfl (v := (.ref a10)) (hb hby d1_53) rfl rfl k) ?_
  refine own_pre (T' := T99) (g' := (mkF m 56 #[.val (.ref a10)] [(.int (16 : Int32)), (.ref a10)])) (fun t k => XS.bipush X99.here hx rfl (hb hby d1_54) k) ?_
  have F101 : Exa Z h99 a10 "com/example/rankline/rankline/Buckets" := (F98.wr W99)
  have F102 : own_Ary Z h99 a2 .double [(.double (0 : UInt64)), (.double (0 : UInt64)), (.double (0 : UInt64)), (.double (0 : UInt64)), (.double (0 : UInt64)), (.double (0 : UInt64)), (.double (0 : UInt64)), (.double (0 : UInt64)), (.double (0 : UInt64)), (.double (0 : UInt64)), (.double (0 : UInt64)), (.double (0 : UInt64)), (.double (0 : UInt64)), (.double (0 : UInt64)), (.double (0 : UInt64)), (.double (0 : UInt64))] := ((F80.ext E86).other W99 (Nat.ne_of_gt lt3))
  have F103 : own_Ary Z h99 a14 .double [(.double (0 : UInt64)), (.double (0 : UInt64)), (.double (0 : UInt64)), (.double (0 : UInt64)), (.double (0 : UInt64)), (.double (0 : UInt64)), (.double (0 : UInt64)), (.double (0 : UInt64)), (.double (0 : UInt64)), (.double (0 : UInt64)), (.double (0 : UInt64)), (.double (0 : UInt64)), (.double (0 : UInt64)), (.double (0 : UInt64)), (.double (0 : UInt64)), (.double (0 : UInt64))] := ((F81.ext E86).other W99 (Nat.ne_of_gt lt15))
  have F104 : own_Ary Z h99 a29 .boolean [(.int (0 : Int32)), (.int (0 : Int32)), (.int (0 : Int32)), (.int (0 : Int32)), (.int (0 : Int32)), (.int (0 : Int32)), (.int (0 : Int32)), (.int (0 : Int32)), (.int (0 : Int32)), (.int (0 : Int32)), (.int (0 : Int32)), (.int (0 : Int32)), (.int (0 : Int32)), (.int (0 : Int32)), (.int (0 : Int32)), (.int (0 : Int32))] := ((F82.ext E86).other W99 (Nat.ne_of_gt lt30))
  have F105 : own_Ary Z h99 a46 (.object "com/example/rankline/rankline/Extent") [.null, .null, .null, .null, .null, .null, .null, .null, .null, .null, .null, .null, .null, .null, .null, .null] := ((F83.ext E86).other W99 (Nat.ne_of_gt lt47))
  have F106 : own_Ary Z h99 a65 .boolean [(.int (0 : Int32)), (.int (0 : Int32)), (.int (0 : Int32)), (.int (0 : Int32)), (.int (0 : Int32)), (.int (0 : Int32)), (.int (0 : Int32)), (.int (0 : Int32)), (.int (0 : Int32)), (.int (0 : Int32)), (.int (0 : Int32)), (.int (0 : Int32)), (.int (0 : Int32)), (.int (0 : Int32)), (.int (0 : Int32)), (.int (0 : Int32))] := ((F84.ext E86).other W99 (Nat.ne_of_gt lt66))
  have F107 : own_Ary Z h99 a86 .long [(.long (0 : Int64)), (.long (0 : Int64)), (.long (0 : Int64)), (.long (0 : Int64)), (.long (0 : Int64)), (.long (0 : Int64)), (.long (0 : Int64)), (.long (0 : Int64)), (.long (0 : Int64)), (.long (0 : Int64)), (.long (0 : Int64)), (.long (0 : Int64)), (.long (0 : Int64)), (.long (0 : Int64)), (.long (0 : Int64)), (.long (0 : Int64))] := (F96.other W99 (Nat.ne_of_gt lt87))
  refine own_newarr X99 hx hZ (aty := .int) (own_w hw 29 rfl) e99 (hb hby d1_56) (n := 16) (by decide) (by decide) (by decide) (by decide) (by decide) (ad := "[I") rfl ?_
  intro T109 h109 a109 g109 X109 e109 E109 A109 B109
  have lt110 : a10 < a109 := Nat.lt_of_lt_of_le F101.lt (Nat.le_of_eq g109.symm)
  have lt111 : a2 < a109 := Nat.lt_of_lt_of_le F102.lt (Nat.le_of_eq g109.symm)
  have lt112 : a14 < a109 := Nat.lt_of_lt_of_le F103.lt (Nat.le_of_eq g109.symm)
  have lt113 : a29 < a109 := Nat.lt_of_lt_of_le F104.lt (Nat.le_of_eq g109.symm)
  have lt114 : a46 < a109 := Nat.lt_of_lt_of_le F105.lt (Nat.le_of_eq g109.symm)
  have lt115 : a65 < a109 := Nat.lt_of_lt_of_le F106.lt (Nat.le_of_eq g109.symm)
  have lt116 : a86 < a109 := Nat.lt_of_lt_of_le F107.lt (Nat.le_of_eq g109.symm)
  have F117 : h0.size ≤ h99.size := (Nat.le_trans (Nat.le_trans F93 E86.1) (Nat.le_of_eq W99.size.symm))
  have ge118 : h0.size ≤ a109 := Nat.le_trans F117 (Nat.le_of_eq g109.symm)
  have F120 : own_Ary Z h109 a109 .int [(.int (0 : Int32)), (.int (0 : Int32)), (.int (0 : Int32)), (.int (0 : Int32)), (.int (0 : Int32)), (.int (0 : Int32)), (.int (0 : Int32)), (.int (0 : Int32)), (.int (0 : Int32)), (.int (0 : Int32)), (.int (0 : Int32)), (.int (0 : Int32)), (.int (0 : Int32)), (.int (0 : Int32)), (.int (0 : Int32)), (.int (0 : Int32))] := A109
  show own_Go _ _ _ _ _ _ _ T109 (mkF m 58 #[.val (.ref a10)] [(.ref a109), (.ref a10)])
  have F121 : Fld Z h109 a10 "com/example/rankline/rankline/Buckets" "nextOf" "[I" .null := (((((((((((((H8.ext E2).other W9 (Or.inr (slot_ne (C := "com/example/rankline/rankline/Buckets") (Or.inl (own_w hw 31 rfl)) (Or.inl (own_w hw 14 rfl)) (by decide) (t := (.array .int)) (t' := (.array .double)) (by decide) (by decide)))).ext E14).other W23 (Or.inr (slot_ne (C := "com/example/rankline/rankline/Buckets") (Or.inl (own_w hw 31 rfl)) (Or.inl (own_w hw 16 rfl)) (by decide) (t := (.array .int)) (t' := (.array .double)) (by decide) (by decide)))).ext E29).other W39 (Or.inr (slot_ne (C := "com/example/rankline/rankline/Buckets") (Or.inl (own_w hw 31 rfl)) (Or.inl (own_w hw 19 rfl)) (by decide) (t := (.array .int)) (t' := (.array .boolean)) (by decide) (by decide)))).ext E46).other W57 (Or.inr (slot_ne (C := "com/example/rankline/rankline/Buckets") (Or.inl (own_w hw 31 rfl)) (Or.inl (own_w hw 23 rfl)) (by decide) (t := (.array .int)) (t' := (.array (.object "com/example/rankline/rankline/Extent"))) (by decide) (by decide)))).ext E65).other W77 (Or.inr (slot_ne (C := "com/example/rankline/rankline/Buckets") (Or.inl (own_w hw 31 rfl)) (Or.inl (own_w hw 25 rfl)) (by decide) (t := (.array .int)) (t' := (.array .boolean)) (by decide) (by decide)))).ext E86).other W99 (Or.inr (slot_ne (C := "com/example/rankline/rankline/Buckets") (Or.inl (own_w hw 31 rfl)) (Or.inl (own_w hw 28 rfl)) (by decide) (t := (.array .int)) (t' := (.array .long)) (by decide) (by decide)))).ext E109)
  have F122 : Exa Z h109 a10 "com/example/rankline/rankline/Buckets" := (F101.ext E109)
  refine own_putf X109 hx hZ hown (own_w hw 30 rfl) e109 N99 H16 F121 F122 (Or.inl (own_w hw 31 rfl)) (own_w hw 4 rfl) (ty := (.array .int)) (by decide) rfl rfl (hb hby d1_58) ?_
  intro T123 h123 lo123 X123 e123 N123 W123
  have F124 : Fld Z h123 a10 "com/example/rankline/rankline/Buckets" "nextOf" "[I" (.ref a109) := F121.same W123
  show own_Go _ _ _ _ _ _ _ T123 (mkF m 61 #[.val (.ref a10)] [])
  refine own_pre (T' := T123) (g' := (mkF m 62 #[.val (.ref a10)] [(.ref a10)])) (fun t k => XS.aloadN X123.here hx rfl (v := (.ref a10)) (hb hby d1_61) rfl rfl k) ?_
  refine own_pre (T' := T123) (g' := (mkF m 64 #[.val (.ref a10)] [(.int (16 : Int32)), (.ref a10)])) (fun t k => XS.bipush X123.here hx rfl (hb hby d1_62) k) ?_
  have F125 : Exa Z h123 a10 "com/example/rankline/rankline/Buckets" := (F122.wr W123)
  have F126 : own_Ary Z h123 a2 .double [(.double (0 : UInt64)), (.double (0 : UInt64)), (.double (0 : UInt64)), (.double (0 : UInt64)), (.double (0 : UInt64)), (.double (0 : UInt64)), (.double (0 : UInt64)), (.double (0 : UInt64)), (.double (0 : UInt64)), (.double (0 : UInt64)), (.double (0 : UInt64)), (.double (0 : UInt64)), (.double (0 : UInt64)), (.double (0 : UInt64)), (.double (0 : UInt64)), (.double (0 : UInt64))] := ((F102.ext E109).other W123 (Nat.ne_of_gt lt3))
  have F127 : own_Ary Z h123 a14 .double [(.double (0 : UInt64)), (.double (0 : UInt64)), (.double (0 : UInt64)), (.double (0 : UInt64)), (.double (0 : UInt64)), (.double (0 : UInt64)), (.double (0 : UInt64)), (.double (0 : UInt64)), (.double (0 : UInt64)), (.double (0 : UInt64)), (.double (0 : UInt64)), (.double (0 : UInt64)), (.double (0 : UInt64)), (.double (0 : UInt64)), (.double (0 : UInt64)), (.double (0 : UInt64))] := ((F103.ext E109).other W123 (Nat.ne_of_gt lt15))
  have F128 : own_Ary Z h123 a29 .boolean [(.int (0 : Int32)), (.int (0 : Int32)), (.int (0 : Int32)), (.int (0 : Int32)), (.int (0 : Int32)), (.int (0 : Int32)), (.int (0 : Int32)), (.int (0 : Int32)), (.int (0 : Int32)), (.int (0 : Int32)), (.int (0 : Int32)), (.int (0 : Int32)), (.int (0 : Int32)), (.int (0 : Int32)), (.int (0 : Int32)), (.int (0 : Int32))] := ((F104.ext E109).other W123 (Nat.ne_of_gt lt30))
  have F129 : own_Ary Z h123 a46 (.object "com/example/rankline/rankline/Extent") [.null, .null, .null, .null, .null, .null, .null, .null, .null, .null, .null, .null, .null, .null, .null, .null] := ((F105.ext E109).other W123 (Nat.ne_of_gt lt47))
  have F130 : own_Ary Z h123 a65 .boolean [(.int (0 : Int32)), (.int (0 : Int32)), (.int (0 : Int32)), (.int (0 : Int32)), (.int (0 : Int32)), (.int (0 : Int32)), (.int (0 : Int32)), (.int (0 : Int32)), (.int (0 : Int32)), (.int (0 : Int32)), (.int (0 : Int32)), (.int (0 : Int32)), (.int (0 : Int32)), (.int (0 : Int32)), (.int (0 : Int32)), (.int (0 : Int32))] := ((F106.ext E109).other W123 (Nat.ne_of_gt lt66))
  have F131 : own_Ary Z h123 a86 .long [(.long (0 : Int64)), (.long (0 : Int64)), (.long (0 : Int64)), (.long (0 : Int64)), (.long (0 : Int64)), (.long (0 : Int64)), (.long (0 : Int64)), (.long (0 : Int64)), (.long (0 : Int64)), (.long (0 : Int64)), (.long (0 : Int64)), (.long (0 : Int64)), (.long (0 : Int64)), (.long (0 : Int64)), (.long (0 : Int64)), (.long (0 : Int64))] := ((F107.ext E109).other W123 (Nat.ne_of_gt lt87))
  have F132 : own_Ary Z h123 a109 .int [(.int (0 : Int32)), (.int (0 : Int32)), (.int (0 : Int32)), (.int (0 : Int32)), (.int (0 : Int32)), (.int (0 : Int32)), (.int (0 : Int32)), (.int (0 : Int32)), (.int (0 : Int32)), (.int (0 : Int32)), (.int (0 : Int32)), (.int (0 : Int32)), (.int (0 : Int32)), (.int (0 : Int32)), (.int (0 : Int32)), (.int (0 : Int32))] := (F120.other W123 (Nat.ne_of_gt lt110))
  refine own_newarr X123 hx hZ (aty := .int) (own_w hw 29 rfl) e123 (hb hby d1_64) (n := 16) (by decide) (by decide) (by decide) (by decide) (by decide) (ad := "[I") rfl ?_
  intro T134 h134 a134 g134 X134 e134 E134 A134 B134
  have lt135 : a10 < a134 := Nat.lt_of_lt_of_le F125.lt (Nat.le_of_eq g134.symm)
  have lt136 : a2 < a134 := Nat.lt_of_lt_of_le F126.lt (Nat.le_of_eq g134.symm)
  have lt137 : a14 < a134 := Nat.lt_of_lt_of_le F127.lt (Nat.le_of_eq g134.symm)
  have lt138 : a29 < a134 := Nat.lt_of_lt_of_le F128.lt (Nat.le_of_eq g134.symm)
  have lt139 : a46 < a134 := Nat.lt_of_lt_of_le F129.lt (Nat.le_of_eq g134.symm)
  have lt140 : a65 < a134 := Nat.lt_of_lt_of_le F130.lt (Nat.le_of_eq g134.symm)
  have lt141 : a86 < a134 := Nat.lt_of_lt_of_le F131.lt (Nat.le_of_eq g134.symm)
  have lt142 : a109 < a134 := Nat.lt_of_lt_of_le F132.lt (Nat.le_of_eq g134.symm)
  have F143 : h0.size ≤ h123.size := (Nat.le_trans (Nat.le_trans F117 E109.1) (Nat.le_of_eq W123.size.symm))
  have ge144 : h0.size ≤ a134 := Nat.le_trans F143 (Nat.le_of_eq g134.symm)
  have F146 : own_Ary Z h134 a134 .int [(.int (0 : Int32)), (.int (0 : Int32)), (.int (0 : Int32)), (.int (0 : Int32)), (.int (0 : Int32)), (.int (0 : Int32)), (.int (0 : Int32)), (.int (0 : Int32)), (.int (0 : Int32)), (.int (0 : Int32)), (.int (0 : Int32)), (.int (0 : Int32)), (.int (0 : Int32)), (.int (0 : Int32)), (.int (0 : Int32)), (.int (0 : Int32))] := A134
  show own_Go _ _ _ _ _ _ _ T134 (mkF m 66 #[.val (.ref a10)] [(.ref a134), (.ref a10)])
  have F147 : Fld Z h134 a10 "com/example/rankline/rankline/Buckets" "previousOf" "[I" .null := (((((((((((((((H9.ext E2).other W9 (Or.inr (slot_ne (C := "com/example/rankline/rankline/Buckets") (Or.inl (own_w hw 33 rfl)) (Or.inl (own_w hw 14 rfl)) (by decide) (t := (.array .int)) (t' := (.array .double)) (by decide) (by decide)))).ext E14).other W23 (Or.inr (slot_ne (C := "com/example/rankline/rankline/Buckets") (Or.inl (own_w hw 33 rfl)) (Or.inl (own_w hw 16 rfl)) (by decide) (t := (.array .int)) (t' := (.array .double)) (by decide) (by decide)))).ext E29).other W39 (Or.inr (slot_ne (C := "com/example/rankline/rankline/Buckets") (Or.inl (own_w hw 33 rfl)) (Or.inl (own_w hw 19 rfl)) (by decide) (t := (.array .int)) (t' := (.array .boolean)) (by decide) (by decide)))).ext E46).other W57 (Or.inr (slot_ne (C := "com/example/rankline/rankline/Buckets") (Or.inl (own_w hw 33 rfl)) (Or.inl (own_w hw 23 rfl)) (by decide) (t := (.array .int)) (t' := (.array (.object "com/example/rankline/rankline/Extent"))) (by decide) (by decide)))).ext E65).other W77 (Or.inr (slot_ne (C := "com/example/rankline/rankline/Buckets") (Or.inl (own_w hw 33 rfl)) (Or.inl (own_w hw 25 rfl)) (by decide) (t := (.array .int)) (t' := (.array .boolean)) (by decide) (by decide)))).ext E86).other W99 (Or.inr (slot_ne (C := "com/example/rankline/rankline/Buckets") (Or.inl (own_w hw 33 rfl)) (Or.inl (own_w hw 28 rfl)) (by decide) (t := (.array .int)) (t' := (.array .long)) (by decide) (by decide)))).ext E109).other W123 (Or.inr (slot_ne (C := "com/example/rankline/rankline/Buckets") (Or.inl (own_w hw 33 rfl)) (Or.inl (own_w hw 31 rfl)) (by decide) (t := (.array .int)) (t' := (.array .int)) (by decide) (by decide)))).ext E134)
  have F148 : Exa Z h134 a10 "com/example/rankline/rankline/Buckets" := (F125.ext E134)
  refine own_putf X134 hx hZ hown (own_w hw 32 rfl) e134 N123 H16 F147 F148 (Or.inl (own_w hw 33 rfl)) (own_w hw 4 rfl) (ty := (.array .int)) (by decide) rfl rfl (hb hby d1_66) ?_
  intro T149 h149 lo149 X149 e149 N149 W149
  have F150 : Fld Z h149 a10 "com/example/rankline/rankline/Buckets" "previousOf" "[I" (.ref a134) := F147.same W149
  show own_Go _ _ _ _ _ _ _ T149 (mkF m 69 #[.val (.ref a10)] [])
  refine own_pre (T' := T149) (g' := (mkF m 70 #[.val (.ref a10)] [(.ref a10)])) (fun t k => XS.aloadN X149.here hx rfl (v := (.ref a10)) (hb hby d1_69) rfl rfl k) ?_
  refine own_pre (T' := T149) (g' := (mkF m 71 #[.val (.ref a10)] [(.int (-1 : Int32)), (.ref a10)])) (fun t k => XS.iconst X149.here hx rfl (hb hby d1_70) k) ?_
  have F151 : Fld Z h149 a10 "com/example/rankline/rankline/Buckets" "first" "I" (.int (0 : Int32)) := ((((((((((((((((H10.ext E2).other W9 (Or.inr (slot_ne (C := "com/example/rankline/rankline/Buckets") (Or.inl (own_w hw 35 rfl)) (Or.inl (own_w hw 14 rfl)) (by decide) (t := .int) (t' := (.array .double)) (by decide) (by decide)))).ext E14).other W23 (Or.inr (slot_ne (C := "com/example/rankline/rankline/Buckets") (Or.inl (own_w hw 35 rfl)) (Or.inl (own_w hw 16 rfl)) (by decide) (t := .int) (t' := (.array .double)) (by decide) (by decide)))).ext E29).other W39 (Or.inr (slot_ne (C := "com/example/rankline/rankline/Buckets") (Or.inl (own_w hw 35 rfl)) (Or.inl (own_w hw 19 rfl)) (by decide) (t := .int) (t' := (.array .boolean)) (by decide) (by decide)))).ext E46).other W57 (Or.inr (slot_ne (C := "com/example/rankline/rankline/Buckets") (Or.inl (own_w hw 35 rfl)) (Or.inl (own_w hw 23 rfl)) (by decide) (t := .int) (t' := (.array (.object "com/example/rankline/rankline/Extent"))) (by decide) (by decide)))).ext E65).other W77 (Or.inr (slot_ne (C := "com/example/rankline/rankline/Buckets") (Or.inl (own_w hw 35 rfl)) (Or.inl (own_w hw 25 rfl)) (by decide) (t := .int) (t' := (.array .boolean)) (by decide) (by decide)))).ext E86).other W99 (Or.inr (slot_ne (C := "com/example/rankline/rankline/Buckets") (Or.inl (own_w hw 35 rfl)) (Or.inl (own_w hw 28 rfl)) (by decide) (t := .int) (t' := (.array .long)) (by decide) (by decide)))).ext E109).other W123 (Or.inr (slot_ne (C := "com/example/rankline/rankline/Buckets") (Or.inl (own_w hw 35 rfl)) (Or.inl (own_w hw 31 rfl)) (by decide) (t := .int) (t' := (.array .int)) (by decide) (by decide)))).ext E134).other W149 (Or.inr (slot_ne (C := "com/example/rankline/rankline/Buckets") (Or.inl (own_w hw 35 rfl)) (Or.inl (own_w hw 33 rfl)) (by decide) (t := .int) (t' := (.array .int)) (by decide) (by decide))))
  have F152 : Exa Z h149 a10 "com/example/rankline/rankline/Buckets" := (F148.wr W149)
  refine own_putf X149 hx hZ hown (own_w hw 34 rfl) e149 N149 H16 F151 F152 (Or.inl (own_w hw 35 rfl)) (own_w hw 4 rfl) (ty := .int) (by decide) rfl rfl (hb hby d1_71) ?_
  intro T153 h153 lo153 X153 e153 N153 W153
  have F154 : Fld Z h153 a10 "com/example/rankline/rankline/Buckets" "first" "I" (.int (-1 : Int32)) := F151.same W153
  show own_Go _ _ _ _ _ _ _ T153 (mkF m 74 #[.val (.ref a10)] [])
  refine own_pre (T' := T153) (g' := (mkF m 75 #[.val (.ref a10)] [(.ref a10)])) (fun t k => XS.aloadN X153.here hx rfl (v := (.ref a10)) (hb hby d1_74) rfl rfl k) ?_
  refine own_pre (T' := T153) (g' := (mkF m 76 #[.val (.ref a10)] [(.int (-1 : Int32)), (.ref a10)])) (fun t k => XS.iconst X153.here hx rfl (hb hby d1_75) k) ?_
  have F155 : Fld Z h153 a10 "com/example/rankline/rankline/Buckets" "last" "I" (.int (0 : Int32)) := (((((((((((((((((H11.ext E2).other W9 (Or.inr (slot_ne (C := "com/example/rankline/rankline/Buckets") (Or.inl (own_w hw 37 rfl)) (Or.inl (own_w hw 14 rfl)) (by decide) (t := .int) (t' := (.array .double)) (by decide) (by decide)))).ext E14).other W23 (Or.inr (slot_ne (C := "com/example/rankline/rankline/Buckets") (Or.inl (own_w hw 37 rfl)) (Or.inl (own_w hw 16 rfl)) (by decide) (t := .int) (t' := (.array .double)) (by decide) (by decide)))).ext E29).other W39 (Or.inr (slot_ne (C := "com/example/rankline/rankline/Buckets") (Or.inl (own_w hw 37 rfl)) (Or.inl (own_w hw 19 rfl)) (by decide) (t := .int) (t' := (.array .boolean)) (by decide) (by decide)))).ext E46).other W57 (Or.inr (slot_ne (C := "com/example/rankline/rankline/Buckets") (Or.inl (own_w hw 37 rfl)) (Or.inl (own_w hw 23 rfl)) (by decide) (t := .int) (t' := (.array (.object "com/example/rankline/rankline/Extent"))) (by decide) (by decide)))).ext E65).other W77 (Or.inr (slot_ne (C := "com/example/rankline/rankline/Buckets") (Or.inl (own_w hw 37 rfl)) (Or.inl (own_w hw 25 rfl)) (by decide) (t := .int) (t' := (.array .boolean)) (by decide) (by decide)))).ext E86).other W99 (Or.inr (slot_ne (C := "com/example/rankline/rankline/Buckets") (Or.inl (own_w hw 37 rfl)) (Or.inl (own_w hw 28 rfl)) (by decide) (t := .int) (t' := (.array .long)) (by decide) (by decide)))).ext E109).other W123 (Or.inr (slot_ne (C := "com/example/rankline/rankline/Buckets") (Or.inl (own_w hw 37 rfl)) (Or.inl (own_w hw 31 rfl)) (by decide) (t := .int) (t' := (.array .int)) (by decide) (by decide)))).ext E134).other W149 (Or.inr (slot_ne (C := "com/example/rankline/rankline/Buckets") (Or.inl (own_w hw 37 rfl)) (Or.inl (own_w hw 33 rfl)) (by decide) (t := .int) (t' := (.array .int)) (by decide) (by decide)))).other W153 (Or.inr (slot_ne (C := "com/example/rankline/rankline/Buckets") (Or.inl (own_w hw 37 rfl)) (Or.inl (own_w hw 35 rfl)) (by decide) (t := .int) (t' := .int) (by decide) (by decide))))
  have F156 : Exa Z h153 a10 "com/example/rankline/rankline/Buckets" := (F152.wr W153)
  refine own_putf X153 hx hZ hown (own_w hw 36 rfl) e153 N153 H16 F155 F156 (Or.inl (own_w hw 37 rfl)) (own_w hw 4 rfl) (ty := .int) (by decide) rfl rfl (hb hby d1_76) ?_
  intro T157 h157 lo157 X157 e157 N157 W157
  have F158 : Fld Z h157 a10 "com/example/rankline/rankline/Buckets" "last" "I" (.int (-1 : Int32)) := F155.same W157
  show own_Go _ _ _ _ _ _ _ T157 (mkF m 79 #[.val (.ref a10)] [])
  refine own_pre (T' := T157) (g' := (mkF m 80 #[.val (.ref a10)] [(.ref a10)])) (fun t k => XS.aloadN X157.here hx rfl (v := (.ref a10)) (hb hby d1_79) rfl rfl k) ?_
  refine own_pre (T' := T157) (g' := (mkF m 81 #[.val (.ref a10)] [(.int (-1 : Int32)), (.ref a10)])) (fun t k => XS.iconst X157.here hx rfl (hb hby d1_80) k) ?_
  have F159 : Fld Z h157 a10 "com/example/rankline/rankline/Buckets" "free" "I" (.int (0 : Int32)) := ((((((((((((((((((H12.ext E2).other W9 (Or.inr (slot_ne (C := "com/example/rankline/rankline/Buckets") (Or.inl (own_w hw 39 rfl)) (Or.inl (own_w hw 14 rfl)) (by decide) (t := .int) (t' := (.array .double)) (by decide) (by decide)))).ext E14).other W23 (Or.inr (slot_ne (C := "com/example/rankline/rankline/Buckets") (Or.inl (own_w hw 39 rfl)) (Or.inl (own_w hw 16 rfl)) (by decide) (t := .int) (t' := (.array .double)) (by decide) (by decide)))).ext E29).other W39 (Or.inr (slot_ne (C := "com/example/rankline/rankline/Buckets") (Or.inl (own_w hw 39 rfl)) (Or.inl (own_w hw 19 rfl)) (by decide) (t := .int) (t' := (.array .boolean)) (by decide) (by decide)))).ext E46).other W57 (Or.inr (slot_ne (C := "com/example/rankline/rankline/Buckets") (Or.inl (own_w hw 39 rfl)) (Or.inl (own_w hw 23 rfl)) (by decide) (t := .int) (t' := (.array (.object "com/example/rankline/rankline/Extent"))) (by decide) (by decide)))).ext E65).other W77 (Or.inr (slot_ne (C := "com/example/rankline/rankline/Buckets") (Or.inl (own_w hw 39 rfl)) (Or.inl (own_w hw 25 rfl)) (by decide) (t := .int) (t' := (.array .boolean)) (by decide) (by decide)))).ext E86).other W99 (Or.inr (slot_ne (C := "com/example/rankline/rankline/Buckets") (Or.inl (own_w hw 39 rfl)) (Or.inl (own_w hw 28 rfl)) (by decide) (t := .int) (t' := (.array .long)) (by decide) (by decide)))).ext E109).other W123 (Or.inr (slot_ne (C := "com/example/rankline/rankline/Buckets") (Or.inl (own_w hw 39 rfl)) (Or.inl (own_w hw 31 rfl)) (by decide) (t := .int) (t' := (.array .int)) (by decide) (by decide)))).ext E134).other W149 (Or.inr (slot_ne (C := "com/example/rankline/rankline/Buckets") (Or.inl (own_w hw 39 rfl)) (Or.inl (own_w hw 33 rfl)) (by decide) (t := .int) (t' := (.array .int)) (by decide) (by decide)))).other W153 (Or.inr (slot_ne (C := "com/example/rankline/rankline/Buckets") (Or.inl (own_w hw 39 rfl)) (Or.inl (own_w hw 35 rfl)) (by decide) (t := .int) (t' := .int) (by decide) (by decide)))).other W157 (Or.inr (slot_ne (C := "com/example/rankline/rankline/Buckets") (Or.inl (own_w hw 39 rfl)) (Or.inl (own_w hw 37 rfl)) (by decide) (t := .int) (t' := .int) (by decide) (by decide))))
  have F160 : Exa Z h157 a10 "com/example/rankline/rankline/Buckets" := (F156.wr W157)
  refine own_putf X157 hx hZ hown (own_w hw 38 rfl) e157 N157 H16 F159 F160 (Or.inl (own_w hw 39 rfl)) (own_w hw 4 rfl) (ty := .int) (by decide) rfl rfl (hb hby d1_81) ?_
  intro T161 h161 lo161 X161 e161 N161 W161
  have F162 : Fld Z h161 a10 "com/example/rankline/rankline/Buckets" "free" "I" (.int (-1 : Int32)) := F159.same W161
  show own_Go _ _ _ _ _ _ _ T161 (mkF m 84 #[.val (.ref a10)] [])
  refine own_pre (T' := T161) (g' := (mkF m 85 #[.val (.ref a10)] [(.ref a10)])) (fun t k => XS.aloadN X161.here hx rfl (v := (.ref a10)) (hb hby d1_84) rfl rfl k) ?_
  refine own_ldcd X161 hx hZ hown (own_w hw 40 rfl) (hb hby d1_85) ?_
  show own_Go _ _ _ _ _ _ _ T161 (mkF m 88 #[.val (.ref a10)] [(.double (9218868437227405312 : UInt64)), (.ref a10)])
  have F163 : Fld Z h161 a10 "com/example/rankline/rankline/Buckets" "smallestMagnitude" "D" (.double (0 : UInt64)) := (((((((((((((((((((H13.ext E2).other W9 (Or.inr (slot_ne (C := "com/example/rankline/rankline/Buckets") (Or.inl (own_w hw 42 rfl)) (Or.inl (own_w hw 14 rfl)) (by decide) (t := .double) (t' := (.array .double)) (by decide) (by decide)))).ext E14).other W23 (Or.inr (slot_ne (C := "com/example/rankline/rankline/Buckets") (Or.inl (own_w hw 42 rfl)) (Or.inl (own_w hw 16 rfl)) (by decide) (t := .double) (t' := (.array .double)) (by decide) (by decide)))).ext E29).other W39 (Or.inr (slot_ne (C := "com/example/rankline/rankline/Buckets") (Or.inl (own_w hw 42 rfl)) (Or.inl (own_w hw 19 rfl)) (by decide) (t := .double) (t' := (.array .boolean)) (by decide) (by decide)))).ext E46).other W57 (Or.inr (slot_ne (C := "com/example/rankline/rankline/Buckets") (Or.inl (own_w hw 42 rfl)) (Or.inl (own_w hw 23 rfl)) (by decide) (t := .double) (t' := (.array (.object "com/example/rankline/rankline/Extent"))) (by decide) (by decide)))).ext E65).other W77 (Or.inr (slot_ne (C := "com/example/rankline/rankline/Buckets") (Or.inl (own_w hw 42 rfl)) (Or.inl (own_w hw 25 rfl)) (by decide) (t := .double) (t' := (.array .boolean)) (by decide) (by decide)))).ext E86).other W99 (Or.inr (slot_ne (C := "com/example/rankline/rankline/Buckets") (Or.inl (own_w hw 42 rfl)) (Or.inl (own_w hw 28 rfl)) (by decide) (t := .double) (t' := (.array .long)) (by decide) (by decide)))).ext E109).other W123 (Or.inr (slot_ne (C := "com/example/rankline/rankline/Buckets") (Or.inl (own_w hw 42 rfl)) (Or.inl (own_w hw 31 rfl)) (by decide) (t := .double) (t' := (.array .int)) (by decide) (by decide)))).ext E134).other W149 (Or.inr (slot_ne (C := "com/example/rankline/rankline/Buckets") (Or.inl (own_w hw 42 rfl)) (Or.inl (own_w hw 33 rfl)) (by decide) (t := .double) (t' := (.array .int)) (by decide) (by decide)))).other W153 (Or.inr (slot_ne (C := "com/example/rankline/rankline/Buckets") (Or.inl (own_w hw 42 rfl)) (Or.inl (own_w hw 35 rfl)) (by decide) (t := .double) (t' := .int) (by decide) (by decide)))).other W157 (Or.inr (slot_ne (C := "com/example/rankline/rankline/Buckets") (Or.inl (own_w hw 42 rfl)) (Or.inl (own_w hw 37 rfl)) (by decide) (t := .double) (t' := .int) (by decide) (by decide)))).other W161 (Or.inr (slot_ne (C := "com/example/rankline/rankline/Buckets") (Or.inl (own_w hw 42 rfl)) (Or.inl (own_w hw 39 rfl)) (by decide) (t := .double) (t' := .int) (by decide) (by decide))))
  have F164 : Exa Z h161 a10 "com/example/rankline/rankline/Buckets" := (F160.wr W161)
  refine own_putf X161 hx hZ hown (own_w hw 41 rfl) e161 N161 H16 F163 F164 (Or.inl (own_w hw 42 rfl)) (own_w hw 4 rfl) (ty := .double) (by decide) rfl rfl (hb hby d1_88) ?_
  intro T165 h165 lo165 X165 e165 N165 W165
  have F166 : Fld Z h165 a10 "com/example/rankline/rankline/Buckets" "smallestMagnitude" "D" (.double (9218868437227405312 : UInt64)) := F163.same W165
  show own_Go _ _ _ _ _ _ _ T165 (mkF m 91 #[.val (.ref a10)] [])
  have F167 : Fld Z h165 a10 "com/example/rankline/rankline/Buckets" "thresholds" "[D" (.ref a2) := ((((((((((((((((((F10.ext E14).other W23 (Or.inr (slot_ne (C := "com/example/rankline/rankline/Buckets") (Or.inl (own_w hw 14 rfl)) (Or.inl (own_w hw 16 rfl)) (by decide) (t := (.array .double)) (t' := (.array .double)) (by decide) (by decide)))).ext E29).other W39 (Or.inr (slot_ne (C := "com/example/rankline/rankline/Buckets") (Or.inl (own_w hw 14 rfl)) (Or.inl (own_w hw 19 rfl)) (by decide) (t := (.array .double)) (t' := (.array .boolean)) (by decide) (by decide)))).ext E46).other W57 (Or.inr (slot_ne (C := "com/example/rankline/rankline/Buckets") (Or.inl (own_w hw 14 rfl)) (Or.inl (own_w hw 23 rfl)) (by decide) (t := (.array .double)) (t' := (.array (.object "com/example/rankline/rankline/Extent"))) (by decide) (by decide)))).ext E65).other W77 (Or.inr (slot_ne (C := "com/example/rankline/rankline/Buckets") (Or.inl (own_w hw 14 rfl)) (Or.inl (own_w hw 25 rfl)) (by decide) (t := (.array .double)) (t' := (.array .boolean)) (by decide) (by decide)))).ext E86).other W99 (Or.inr (slot_ne (C := "com/example/rankline/rankline/Buckets") (Or.inl (own_w hw 14 rfl)) (Or.inl (own_w hw 28 rfl)) (by decide) (t := (.array .double)) (t' := (.array .long)) (by decide) (by decide)))).ext E109).other W123 (Or.inr (slot_ne (C := "com/example/rankline/rankline/Buckets") (Or.inl (own_w hw 14 rfl)) (Or.inl (own_w hw 31 rfl)) (by decide) (t := (.array .double)) (t' := (.array .int)) (by decide) (by decide)))).ext E134).other W149 (Or.inr (slot_ne (C := "com/example/rankline/rankline/Buckets") (Or.inl (own_w hw 14 rfl)) (Or.inl (own_w hw 33 rfl)) (by decide) (t := (.array .double)) (t' := (.array .int)) (by decide) (by decide)))).other W153 (Or.inr (slot_ne (C := "com/example/rankline/rankline/Buckets") (Or.inl (own_w hw 14 rfl)) (Or.inl (own_w hw 35 rfl)) (by decide) (t := (.array .double)) (t' := .int) (by decide) (by decide)))).other W157 (Or.inr (slot_ne (C := "com/example/rankline/rankline/Buckets") (Or.inl (own_w hw 14 rfl)) (Or.inl (own_w hw 37 rfl)) (by decide) (t := (.array .double)) (t' := .int) (by decide) (by decide)))).other W161 (Or.inr (slot_ne (C := "com/example/rankline/rankline/Buckets") (Or.inl (own_w hw 14 rfl)) (Or.inl (own_w hw 39 rfl)) (by decide) (t := (.array .double)) (t' := .int) (by decide) (by decide)))).other W165 (Or.inr (slot_ne (C := "com/example/rankline/rankline/Buckets") (Or.inl (own_w hw 14 rfl)) (Or.inl (own_w hw 42 rfl)) (by decide) (t := (.array .double)) (t' := .double) (by decide) (by decide))))
  have F168 : Fld Z h165 a10 "com/example/rankline/rankline/Buckets" "ranks" "[D" (.ref a14) := ((((((((((((((((F24.ext E29).other W39 (Or.inr (slot_ne (C := "com/example/rankline/rankline/Buckets") (Or.inl (own_w hw 16 rfl)) (Or.inl (own_w hw 19 rfl)) (by decide) (t := (.array .double)) (t' := (.array .boolean)) (by decide) (by decide)))).ext E46).other W57 (Or.inr (slot_ne (C := "com/example/rankline/rankline/Buckets") (Or.inl (own_w hw 16 rfl)) (Or.inl (own_w hw 23 rfl)) (by decide) (t := (.array .double)) (t' := (.array (.object "com/example/rankline/rankline/Extent"))) (by decide) (by decide)))).ext E65).other W77 (Or.inr (slot_ne (C := "com/example/rankline/rankline/Buckets") (Or.inl (own_w hw 16 rfl)) (Or.inl (own_w hw 25 rfl)) (by decide) (t := (.array .double)) (t' := (.array .boolean)) (by decide) (by decide)))).ext E86).other W99 (Or.inr (slot_ne (C := "com/example/rankline/rankline/Buckets") (Or.inl (own_w hw 16 rfl)) (Or.inl (own_w hw 28 rfl)) (by decide) (t := (.array .double)) (t' := (.array .long)) (by decide) (by decide)))).ext E109).other W123 (Or.inr (slot_ne (C := "com/example/rankline/rankline/Buckets") (Or.inl (own_w hw 16 rfl)) (Or.inl (own_w hw 31 rfl)) (by decide) (t := (.array .double)) (t' := (.array .int)) (by decide) (by decide)))).ext E134).other W149 (Or.inr (slot_ne (C := "com/example/rankline/rankline/Buckets") (Or.inl (own_w hw 16 rfl)) (Or.inl (own_w hw 33 rfl)) (by decide) (t := (.array .double)) (t' := (.array .int)) (by decide) (by decide)))).other W153 (Or.inr (slot_ne (C := "com/example/rankline/rankline/Buckets") (Or.inl (own_w hw 16 rfl)) (Or.inl (own_w hw 35 rfl)) (by decide) (t := (.array .double)) (t' := .int) (by decide) (by decide)))).other W157 (Or.inr (slot_ne (C := "com/example/rankline/rankline/Buckets") (Or.inl (own_w hw 16 rfl)) (Or.inl (own_w hw 37 rfl)) (by decide) (t := (.array .double)) (t' := .int) (by decide) (by decide)))).other W161 (Or.inr (slot_ne (C := "com/example/rankline/rankline/Buckets") (Or.inl (own_w hw 16 rfl)) (Or.inl (own_w hw 39 rfl)) (by decide) (t := (.array .double)) (t' := .int) (by decide) (by decide)))).other W165 (Or.inr (slot_ne (C := "com/example/rankline/rankline/Buckets") (Or.inl (own_w hw 16 rfl)) (Or.inl (own_w hw 42 rfl)) (by decide) (t := (.array .double)) (t' := .double) (by decide) (by decide))))
  have F169 : Fld Z h165 a10 "com/example/rankline/rankline/Buckets" "guarded" "[Z" (.ref a29) := ((((((((((((((F40.ext E46).other W57 (Or.inr (slot_ne (C := "com/example/rankline/rankline/Buckets") (Or.inl (own_w hw 19 rfl)) (Or.inl (own_w hw 23 rfl)) (by decide) (t := (.array .boolean)) (t' := (.array (.object "com/example/rankline/rankline/Extent"))) (by decide) (by decide)))).ext E65).other W77 (Or.inr (slot_ne (C := "com/example/rankline/rankline/Buckets") (Or.inl (own_w hw 19 rfl)) (Or.inl (own_w hw 25 rfl)) (by decide) (t := (.array .boolean)) (t' := (.array .boolean)) (by decide) (by decide)))).ext E86).other W99 (Or.inr (slot_ne (C := "com/example/rankline/rankline/Buckets") (Or.inl (own_w hw 19 rfl)) (Or.inl (own_w hw 28 rfl)) (by decide) (t := (.array .boolean)) (t' := (.array .long)) (by decide) (by decide)))).ext E109).other W123 (Or.inr (slot_ne (C := "com/example/rankline/rankline/Buckets") (Or.inl (own_w hw 19 rfl)) (Or.inl (own_w hw 31 rfl)) (by decide) (t := (.array .boolean)) (t' := (.array .int)) (by decide) (by decide)))).ext E134).other W149 (Or.inr (slot_ne (C := "com/example/rankline/rankline/Buckets") (Or.inl (own_w hw 19 rfl)) (Or.inl (own_w hw 33 rfl)) (by decide) (t := (.array .boolean)) (t' := (.array .int)) (by decide) (by decide)))).other W153 (Or.inr (slot_ne (C := "com/example/rankline/rankline/Buckets") (Or.inl (own_w hw 19 rfl)) (Or.inl (own_w hw 35 rfl)) (by decide) (t := (.array .boolean)) (t' := .int) (by decide) (by decide)))).other W157 (Or.inr (slot_ne (C := "com/example/rankline/rankline/Buckets") (Or.inl (own_w hw 19 rfl)) (Or.inl (own_w hw 37 rfl)) (by decide) (t := (.array .boolean)) (t' := .int) (by decide) (by decide)))).other W161 (Or.inr (slot_ne (C := "com/example/rankline/rankline/Buckets") (Or.inl (own_w hw 19 rfl)) (Or.inl (own_w hw 39 rfl)) (by decide) (t := (.array .boolean)) (t' := .int) (by decide) (by decide)))).other W165 (Or.inr (slot_ne (C := "com/example/rankline/rankline/Buckets") (Or.inl (own_w hw 19 rfl)) (Or.inl (own_w hw 42 rfl)) (by decide) (t := (.array .boolean)) (t' := .double) (by decide) (by decide))))
  have F170 : Fld Z h165 a10 "com/example/rankline/rankline/Buckets" "extents" "[Lcom/example/rankline/rankline/Extent;" (.ref a46) := ((((((((((((F58.ext E65).other W77 (Or.inr (slot_ne (C := "com/example/rankline/rankline/Buckets") (Or.inl (own_w hw 23 rfl)) (Or.inl (own_w hw 25 rfl)) (by decide) (t := (.array (.object "com/example/rankline/rankline/Extent"))) (t' := (.array .boolean)) (by decide) (by decide)))).ext E86).other W99 (Or.inr (slot_ne (C := "com/example/rankline/rankline/Buckets") (Or.inl (own_w hw 23 rfl)) (Or.inl (own_w hw 28 rfl)) (by decide) (t := (.array (.object "com/example/rankline/rankline/Extent"))) (t' := (.array .long)) (by decide) (by decide)))).ext E109).other W123 (Or.inr (slot_ne (C := "com/example/rankline/rankline/Buckets") (Or.inl (own_w hw 23 rfl)) (Or.inl (own_w hw 31 rfl)) (by decide) (t := (.array (.object "com/example/rankline/rankline/Extent"))) (t' := (.array .int)) (by decide) (by decide)))).ext E134).other W149 (Or.inr (slot_ne (C := "com/example/rankline/rankline/Buckets") (Or.inl (own_w hw 23 rfl)) (Or.inl (own_w hw 33 rfl)) (by decide) (t := (.array (.object "com/example/rankline/rankline/Extent"))) (t' := (.array .int)) (by decide) (by decide)))).other W153 (Or.inr (slot_ne (C := "com/example/rankline/rankline/Buckets") (Or.inl (own_w hw 23 rfl)) (Or.inl (own_w hw 35 rfl)) (by decide) (t := (.array (.object "com/example/rankline/rankline/Extent"))) (t' := .int) (by decide) (by decide)))).other W157 (Or.inr (slot_ne (C := "com/example/rankline/rankline/Buckets") (Or.inl (own_w hw 23 rfl)) (Or.inl (own_w hw 37 rfl)) (by decide) (t := (.array (.object "com/example/rankline/rankline/Extent"))) (t' := .int) (by decide) (by decide)))).other W161 (Or.inr (slot_ne (C := "com/example/rankline/rankline/Buckets") (Or.inl (own_w hw 23 rfl)) (Or.inl (own_w hw 39 rfl)) (by decide) (t := (.array (.object "com/example/rankline/rankline/Extent"))) (t' := .int) (by decide) (by decide)))).other W165 (Or.inr (slot_ne (C := "com/example/rankline/rankline/Buckets") (Or.inl (own_w hw 23 rfl)) (Or.inl (own_w hw 42 rfl)) (by decide) (t := (.array (.object "com/example/rankline/rankline/Extent"))) (t' := .double) (by decide) (by decide))))
  have F171 : Fld Z h165 a10 "com/example/rankline/rankline/Buckets" "addedAtThreshold" "[Z" (.ref a65) := ((((((((((F78.ext E86).other W99 (Or.inr (slot_ne (C := "com/example/rankline/rankline/Buckets") (Or.inl (own_w hw 25 rfl)) (Or.inl (own_w hw 28 rfl)) (by decide) (t := (.array .boolean)) (t' := (.array .long)) (by decide) (by decide)))).ext E109).other W123 (Or.inr (slot_ne (C := "com/example/rankline/rankline/Buckets") (Or.inl (own_w hw 25 rfl)) (Or.inl (own_w hw 31 rfl)) (by decide) (t := (.array .boolean)) (t' := (.array .int)) (by decide) (by decide)))).ext E134).other W149 (Or.inr (slot_ne (C := "com/example/rankline/rankline/Buckets") (Or.inl (own_w hw 25 rfl)) (Or.inl (own_w hw 33 rfl)) (by decide) (t := (.array .boolean)) (t' := (.array .int)) (by decide) (by decide)))).other W153 (Or.inr (slot_ne (C := "com/example/rankline/rankline/Buckets") (Or.inl (own_w hw 25 rfl)) (Or.inl (own_w hw 35 rfl)) (by decide) (t := (.array .boolean)) (t' := .int) (by decide) (by decide)))).other W157 (Or.inr (slot_ne (C := "com/example/rankline/rankline/Buckets") (Or.inl (own_w hw 25 rfl)) (Or.inl (own_w hw 37 rfl)) (by decide) (t := (.array .boolean)) (t' := .int) (by decide) (by decide)))).other W161 (Or.inr (slot_ne (C := "com/example/rankline/rankline/Buckets") (Or.inl (own_w hw 25 rfl)) (Or.inl (own_w hw 39 rfl)) (by decide) (t := (.array .boolean)) (t' := .int) (by decide) (by decide)))).other W165 (Or.inr (slot_ne (C := "com/example/rankline/rankline/Buckets") (Or.inl (own_w hw 25 rfl)) (Or.inl (own_w hw 42 rfl)) (by decide) (t := (.array .boolean)) (t' := .double) (by decide) (by decide))))
  have F172 : Fld Z h165 a10 "com/example/rankline/rankline/Buckets" "copies" "[J" (.ref a86) := ((((((((F100.ext E109).other W123 (Or.inr (slot_ne (C := "com/example/rankline/rankline/Buckets") (Or.inl (own_w hw 28 rfl)) (Or.inl (own_w hw 31 rfl)) (by decide) (t := (.array .long)) (t' := (.array .int)) (by decide) (by decide)))).ext E134).other W149 (Or.inr (slot_ne (C := "com/example/rankline/rankline/Buckets") (Or.inl (own_w hw 28 rfl)) (Or.inl (own_w hw 33 rfl)) (by decide) (t := (.array .long)) (t' := (.array .int)) (by decide) (by decide)))).other W153 (Or.inr (slot_ne (C := "com/example/rankline/rankline/Buckets") (Or.inl (own_w hw 28 rfl)) (Or.inl (own_w hw 35 rfl)) (by decide) (t := (.array .long)) (t' := .int) (by decide) (by decide)))).other W157 (Or.inr (slot_ne (C := "com/example/rankline/rankline/Buckets") (Or.inl (own_w hw 28 rfl)) (Or.inl (own_w hw 37 rfl)) (by decide) (t := (.array .long)) (t' := .int) (by decide) (by decide)))).other W161 (Or.inr (slot_ne (C := "com/example/rankline/rankline/Buckets") (Or.inl (own_w hw 28 rfl)) (Or.inl (own_w hw 39 rfl)) (by decide) (t := (.array .long)) (t' := .int) (by decide) (by decide)))).other W165 (Or.inr (slot_ne (C := "com/example/rankline/rankline/Buckets") (Or.inl (own_w hw 28 rfl)) (Or.inl (own_w hw 42 rfl)) (by decide) (t := (.array .long)) (t' := .double) (by decide) (by decide))))
  have F173 : Fld Z h165 a10 "com/example/rankline/rankline/Buckets" "nextOf" "[I" (.ref a109) := ((((((F124.ext E134).other W149 (Or.inr (slot_ne (C := "com/example/rankline/rankline/Buckets") (Or.inl (own_w hw 31 rfl)) (Or.inl (own_w hw 33 rfl)) (by decide) (t := (.array .int)) (t' := (.array .int)) (by decide) (by decide)))).other W153 (Or.inr (slot_ne (C := "com/example/rankline/rankline/Buckets") (Or.inl (own_w hw 31 rfl)) (Or.inl (own_w hw 35 rfl)) (by decide) (t := (.array .int)) (t' := .int) (by decide) (by decide)))).other W157 (Or.inr (slot_ne (C := "com/example/rankline/rankline/Buckets") (Or.inl (own_w hw 31 rfl)) (Or.inl (own_w hw 37 rfl)) (by decide) (t := (.array .int)) (t' := .int) (by decide) (by decide)))).other W161 (Or.inr (slot_ne (C := "com/example/rankline/rankline/Buckets") (Or.inl (own_w hw 31 rfl)) (Or.inl (own_w hw 39 rfl)) (by decide) (t := (.array .int)) (t' := .int) (by decide) (by decide)))).other W165 (Or.inr (slot_ne (C := "com/example/rankline/rankline/Buckets") (Or.inl (own_w hw 31 rfl)) (Or.inl (own_w hw 42 rfl)) (by decide) (t := (.array .int)) (t' := .double) (by decide) (by decide))))
  have F174 : Fld Z h165 a10 "com/example/rankline/rankline/Buckets" "previousOf" "[I" (.ref a134) := ((((F150.other W153 (Or.inr (slot_ne (C := "com/example/rankline/rankline/Buckets") (Or.inl (own_w hw 33 rfl)) (Or.inl (own_w hw 35 rfl)) (by decide) (t := (.array .int)) (t' := .int) (by decide) (by decide)))).other W157 (Or.inr (slot_ne (C := "com/example/rankline/rankline/Buckets") (Or.inl (own_w hw 33 rfl)) (Or.inl (own_w hw 37 rfl)) (by decide) (t := (.array .int)) (t' := .int) (by decide) (by decide)))).other W161 (Or.inr (slot_ne (C := "com/example/rankline/rankline/Buckets") (Or.inl (own_w hw 33 rfl)) (Or.inl (own_w hw 39 rfl)) (by decide) (t := (.array .int)) (t' := .int) (by decide) (by decide)))).other W165 (Or.inr (slot_ne (C := "com/example/rankline/rankline/Buckets") (Or.inl (own_w hw 33 rfl)) (Or.inl (own_w hw 42 rfl)) (by decide) (t := (.array .int)) (t' := .double) (by decide) (by decide))))
  have F175 : Fld Z h165 a10 "com/example/rankline/rankline/Buckets" "first" "I" (.int (-1 : Int32)) := (((F154.other W157 (Or.inr (slot_ne (C := "com/example/rankline/rankline/Buckets") (Or.inl (own_w hw 35 rfl)) (Or.inl (own_w hw 37 rfl)) (by decide) (t := .int) (t' := .int) (by decide) (by decide)))).other W161 (Or.inr (slot_ne (C := "com/example/rankline/rankline/Buckets") (Or.inl (own_w hw 35 rfl)) (Or.inl (own_w hw 39 rfl)) (by decide) (t := .int) (t' := .int) (by decide) (by decide)))).other W165 (Or.inr (slot_ne (C := "com/example/rankline/rankline/Buckets") (Or.inl (own_w hw 35 rfl)) (Or.inl (own_w hw 42 rfl)) (by decide) (t := .int) (t' := .double) (by decide) (by decide))))
  have F176 : Fld Z h165 a10 "com/example/rankline/rankline/Buckets" "last" "I" (.int (-1 : Int32)) := ((F158.other W161 (Or.inr (slot_ne (C := "com/example/rankline/rankline/Buckets") (Or.inl (own_w hw 37 rfl)) (Or.inl (own_w hw 39 rfl)) (by decide) (t := .int) (t' := .int) (by decide) (by decide)))).other W165 (Or.inr (slot_ne (C := "com/example/rankline/rankline/Buckets") (Or.inl (own_w hw 37 rfl)) (Or.inl (own_w hw 42 rfl)) (by decide) (t := .int) (t' := .double) (by decide) (by decide))))
  have F177 : Fld Z h165 a10 "com/example/rankline/rankline/Buckets" "free" "I" (.int (-1 : Int32)) := (F162.other W165 (Or.inr (slot_ne (C := "com/example/rankline/rankline/Buckets") (Or.inl (own_w hw 39 rfl)) (Or.inl (own_w hw 42 rfl)) (by decide) (t := .int) (t' := .double) (by decide) (by decide))))
  have F178 : Fld Z h165 a10 "com/example/rankline/rankline/Buckets" "size" "I" (.int (0 : Int32)) := ((((((((((((((((((((H14.ext E2).other W9 (Or.inr (slot_ne (C := "com/example/rankline/rankline/Buckets") (Or.inl (own_w hw 50 rfl)) (Or.inl (own_w hw 14 rfl)) (by decide) (t := .int) (t' := (.array .double)) (by decide) (by decide)))).ext E14).other W23 (Or.inr (slot_ne (C := "com/example/rankline/rankline/Buckets") (Or.inl (own_w hw 50 rfl)) (Or.inl (own_w hw 16 rfl)) (by decide) (t := .int) (t' := (.array .double)) (by decide) (by decide)))).ext E29).other W39 (Or.inr (slot_ne (C := "com/example/rankline/rankline/Buckets") (Or.inl (own_w hw 50 rfl)) (Or.inl (own_w hw 19 rfl)) (by decide) (t := .int) (t' := (.array .boolean)) (by decide) (by decide)))).ext E46).other W57 (Or.inr (slot_ne (C := "com/example/rankline/rankline/Buckets") (Or.inl (own_w hw 50 rfl)) (Or.inl (own_w hw 23 rfl)) (by decide) (t := .int) (t' := (.array (.object "com/example/rankline/rankline/Extent"))) (by decide) (by decide)))).ext E65).other W77 (Or.inr (slot_ne (C := "com/example/rankline/rankline/Buckets") (Or.inl (own_w hw 50 rfl)) (Or.inl (own_w hw 25 rfl)) (by decide) (t := .int) (t' := (.array .boolean)) (by decide) (by decide)))).ext E86).other W99 (Or.inr (slot_ne (C := "com/example/rankline/rankline/Buckets") (Or.inl (own_w hw 50 rfl)) (Or.inl (own_w hw 28 rfl)) (by decide) (t := .int) (t' := (.array .long)) (by decide) (by decide)))).ext E109).other W123 (Or.inr (slot_ne (C := "com/example/rankline/rankline/Buckets") (Or.inl (own_w hw 50 rfl)) (Or.inl (own_w hw 31 rfl)) (by decide) (t := .int) (t' := (.array .int)) (by decide) (by decide)))).ext E134).other W149 (Or.inr (slot_ne (C := "com/example/rankline/rankline/Buckets") (Or.inl (own_w hw 50 rfl)) (Or.inl (own_w hw 33 rfl)) (by decide) (t := .int) (t' := (.array .int)) (by decide) (by decide)))).other W153 (Or.inr (slot_ne (C := "com/example/rankline/rankline/Buckets") (Or.inl (own_w hw 50 rfl)) (Or.inl (own_w hw 35 rfl)) (by decide) (t := .int) (t' := .int) (by decide) (by decide)))).other W157 (Or.inr (slot_ne (C := "com/example/rankline/rankline/Buckets") (Or.inl (own_w hw 50 rfl)) (Or.inl (own_w hw 37 rfl)) (by decide) (t := .int) (t' := .int) (by decide) (by decide)))).other W161 (Or.inr (slot_ne (C := "com/example/rankline/rankline/Buckets") (Or.inl (own_w hw 50 rfl)) (Or.inl (own_w hw 39 rfl)) (by decide) (t := .int) (t' := .int) (by decide) (by decide)))).other W165 (Or.inr (slot_ne (C := "com/example/rankline/rankline/Buckets") (Or.inl (own_w hw 50 rfl)) (Or.inl (own_w hw 42 rfl)) (by decide) (t := .int) (t' := .double) (by decide) (by decide))))
  have F179 : Fld Z h165 a10 "com/example/rankline/rankline/Buckets" "used" "I" (.int (0 : Int32)) := ((((((((((((((((((((H15.ext E2).other W9 (Or.inr (slot_ne (C := "com/example/rankline/rankline/Buckets") (Or.inl (own_w hw 92 rfl)) (Or.inl (own_w hw 14 rfl)) (by decide) (t := .int) (t' := (.array .double)) (by decide) (by decide)))).ext E14).other W23 (Or.inr (slot_ne (C := "com/example/rankline/rankline/Buckets") (Or.inl (own_w hw 92 rfl)) (Or.inl (own_w hw 16 rfl)) (by decide) (t := .int) (t' := (.array .double)) (by decide) (by decide)))).ext E29).other W39 (Or.inr (slot_ne (C := "com/example/rankline/rankline/Buckets") (Or.inl (own_w hw 92 rfl)) (Or.inl (own_w hw 19 rfl)) (by decide) (t := .int) (t' := (.array .boolean)) (by decide) (by decide)))).ext E46).other W57 (Or.inr (slot_ne (C := "com/example/rankline/rankline/Buckets") (Or.inl (own_w hw 92 rfl)) (Or.inl (own_w hw 23 rfl)) (by decide) (t := .int) (t' := (.array (.object "com/example/rankline/rankline/Extent"))) (by decide) (by decide)))).ext E65).other W77 (Or.inr (slot_ne (C := "com/example/rankline/rankline/Buckets") (Or.inl (own_w hw 92 rfl)) (Or.inl (own_w hw 25 rfl)) (by decide) (t := .int) (t' := (.array .boolean)) (by decide) (by decide)))).ext E86).other W99 (Or.inr (slot_ne (C := "com/example/rankline/rankline/Buckets") (Or.inl (own_w hw 92 rfl)) (Or.inl (own_w hw 28 rfl)) (by decide) (t := .int) (t' := (.array .long)) (by decide) (by decide)))).ext E109).other W123 (Or.inr (slot_ne (C := "com/example/rankline/rankline/Buckets") (Or.inl (own_w hw 92 rfl)) (Or.inl (own_w hw 31 rfl)) (by decide) (t := .int) (t' := (.array .int)) (by decide) (by decide)))).ext E134).other W149 (Or.inr (slot_ne (C := "com/example/rankline/rankline/Buckets") (Or.inl (own_w hw 92 rfl)) (Or.inl (own_w hw 33 rfl)) (by decide) (t := .int) (t' := (.array .int)) (by decide) (by decide)))).other W153 (Or.inr (slot_ne (C := "com/example/rankline/rankline/Buckets") (Or.inl (own_w hw 92 rfl)) (Or.inl (own_w hw 35 rfl)) (by decide) (t := .int) (t' := .int) (by decide) (by decide)))).other W157 (Or.inr (slot_ne (C := "com/example/rankline/rankline/Buckets") (Or.inl (own_w hw 92 rfl)) (Or.inl (own_w hw 37 rfl)) (by decide) (t := .int) (t' := .int) (by decide) (by decide)))).other W161 (Or.inr (slot_ne (C := "com/example/rankline/rankline/Buckets") (Or.inl (own_w hw 92 rfl)) (Or.inl (own_w hw 39 rfl)) (by decide) (t := .int) (t' := .int) (by decide) (by decide)))).other W165 (Or.inr (slot_ne (C := "com/example/rankline/rankline/Buckets") (Or.inl (own_w hw 92 rfl)) (Or.inl (own_w hw 42 rfl)) (by decide) (t := .int) (t' := .double) (by decide) (by decide))))
  have F180 : own_Ary Z h165 a134 .int [(.int (0 : Int32)), (.int (0 : Int32)), (.int (0 : Int32)), (.int (0 : Int32)), (.int (0 : Int32)), (.int (0 : Int32)), (.int (0 : Int32)), (.int (0 : Int32)), (.int (0 : Int32)), (.int (0 : Int32)), (.int (0 : Int32)), (.int (0 : Int32)), (.int (0 : Int32)), (.int (0 : Int32)), (.int (0 : Int32)), (.int (0 : Int32))] := (((((F146.other W149 (Nat.ne_of_gt lt135)).other W153 (Nat.ne_of_gt lt135)).other W157 (Nat.ne_of_gt lt135)).other W161 (Nat.ne_of_gt lt135)).other W165 (Nat.ne_of_gt lt135))
  have F181 : Exa Z h165 a134 "[I" := (((((B134.wr W149).wr W153).wr W157).wr W161).wr W165)
  have F182 : own_Ary Z h165 a109 .int [(.int (0 : Int32)), (.int (0 : Int32)), (.int (0 : Int32)), (.int (0 : Int32)), (.int (0 : Int32)), (.int (0 : Int32)), (.int (0 : Int32)), (.int (0 : Int32)), (.int (0 : Int32)), (.int (0 : Int32)), (.int (0 : Int32)), (.int (0 : Int32)), (.int (0 : Int32)), (.int (0 : Int32)), (.int (0 : Int32)), (.int (0 : Int32))] := ((((((F132.ext E134).other W149 (Nat.ne_of_gt lt110)).other W153 (Nat.ne_of_gt lt110)).other W157 (Nat.ne_of_gt lt110)).other W161 (Nat.ne_of_gt lt110)).other W165 (Nat.ne_of_gt lt110))
  have F183 : Exa Z h165 a109 "[I" := (((((((B109.wr W123).ext E134).wr W149).wr W153).wr W157).wr W161).wr W165)
  have F184 : own_Ary Z h165 a86 .long [(.long (0 : Int64)), (.long (0 : Int64)), (.long (0 : Int64)), (.long (0 : Int64)), (.long (0 : Int64)), (.long (0 : Int64)), (.long (0 : Int64)), (.long (0 : Int64)), (.long (0 : Int64)), (.long (0 : Int64)), (.long (0 : Int64)), (.long (0 : Int64)), (.long (0 : Int64)), (.long (0 : Int64)), (.long (0 : Int64)), (.long (0 : Int64))] := ((((((F131.ext E134).other W149 (Nat.ne_of_gt lt87)).other W153 (Nat.ne_of_gt lt87)).other W157 (Nat.ne_of_gt lt87)).other W161 (Nat.ne_of_gt lt87)).other W165 (Nat.ne_of_gt lt87))
  have F185 : Exa Z h165 a86 "[J" := (((((((((B86.wr W99).ext E109).wr W123).ext E134).wr W149).wr W153).wr W157).wr W161).wr W165)
  have F186 : own_Ary Z h165 a65 .boolean [(.int (0 : Int32)), (.int (0 : Int32)), (.int (0 : Int32)), (.int (0 : Int32)), (.int (0 : Int32)), (.int (0 : Int32)), (.int (0 : Int32)), (.int (0 : Int32)), (.int (0 : Int32)), (.int (0 : Int32)), (.int (0 : Int32)), (.int (0 : Int32)), (.int (0 : Int32)), (.int (0 : Int32)), (.int (0 : Int32)), (.int (0 : Int32))] := ((((((F130.ext E134).other W149 (Nat.ne_of_gt lt66)).other W153 (Nat.ne_of_gt lt66)).other W157 (Nat.ne_of_gt lt66)).other W161 (Nat.ne_of_gt lt66)).other W165 (Nat.ne_of_gt lt66))
  have F187 : Exa Z h165 a65 "[Z" := (((((((((((B65.wr W77).ext E86).wr W99).ext E109).wr W123).ext E134).wr W149).wr W153).wr W157).wr W161).wr W165)
  have F188 : own_Ary Z h165 a46 (.object "com/example/rankline/rankline/Extent") [.null, .null, .null, .null, .null, .null, .null, .null, .null, .null, .null, .null, .null, .null, .null, .null] := ((((((F129.ext E134).other W149 (Nat.ne_of_gt lt47)).other W153 (Nat.ne_of_gt lt47)).other W157 (Nat.ne_of_gt lt47)).other W161 (Nat.ne_of_gt lt47)).other W165 (Nat.ne_of_gt lt47))
  have F189 : Exa Z h165 a46 "[Lcom/example/rankline/rankline/Extent;" := (((((((((((((B46.wr W57).ext E65).wr W77).ext E86).wr W99).ext E109).wr W123).ext E134).wr W149).wr W153).wr W157).wr W161).wr W165)
  have F190 : own_Ovr Z h165 a46 "com/example/rankline/rankline/Extent" := (((((((((((((O46.wr W57).ext E65).wr W77).ext E86).wr W99).ext E109).wr W123).ext E134).wr W149).wr W153).wr W157).wr W161).wr W165)
  have F191 : own_Ary Z h165 a29 .boolean [(.int (0 : Int32)), (.int (0 : Int32)), (.int (0 : Int32)), (.int (0 : Int32)), (.int (0 : Int32)), (.int (0 : Int32)), (.int (0 : Int32)), (.int (0 : Int32)), (.int (0 : Int32)), (.int (0 : Int32)), (.int (0 : Int32)), (.int (0 : Int32)), (.int (0 : Int32)), (.int (0 : Int32)), (.int (0 : Int32)), (.int (0 : Int32))] := ((((((F128.ext E134).other W149 (Nat.ne_of_gt lt30)).other W153 (Nat.ne_of_gt lt30)).other W157 (Nat.ne_of_gt lt30)).other W161 (Nat.ne_of_gt lt30)).other W165 (Nat.ne_of_gt lt30))
  have F192 : Exa Z h165 a29 "[Z" := (((((((((((((((B29.wr W39).ext E46).wr W57).ext E65).wr W77).ext E86).wr W99).ext E109).wr W123).ext E134).wr W149).wr W153).wr W157).wr W161).wr W165)
  have F193 : own_Ary Z h165 a14 .double [(.double (0 : UInt64)), (.double (0 : UInt64)), (.double (0 : UInt64)), (.double (0 : UInt64)), (.double (0 : UInt64)), (.double (0 : UInt64)), (.double (0 : UInt64)), (.double (0 : UInt64)), (.double (0 : UInt64)), (.double (0 : UInt64)), (.double (0 : UInt64)), (.double (0 : UInt64)), (.double (0 : UInt64)), (.double (0 : UInt64)), (.double (0 : UInt64)), (.double (0 : UInt64))] := ((((((F127.ext E134).other W149 (Nat.ne_of_gt lt15)).other W153 (Nat.ne_of_gt lt15)).other W157 (Nat.ne_of_gt lt15)).other W161 (Nat.ne_of_gt lt15)).other W165 (Nat.ne_of_gt lt15))
  have F194 : Exa Z h165 a14 "[D" := (((((((((((((((((B14.wr W23).ext E29).wr W39).ext E46).wr W57).ext E65).wr W77).ext E86).wr W99).ext E109).wr W123).ext E134).wr W149).wr W153).wr W157).wr W161).wr W165)
  have F195 : own_Ary Z h165 a2 .double [(.double (0 : UInt64)), (.double (0 : UInt64)), (.double (0 : UInt64)), (.double (0 : UInt64)), (.double (0 : UInt64)), (.double (0 : UInt64)), (.double (0 : UInt64)), (.double (0 : UInt64)), (.double (0 : UInt64)), (.double (0 : UInt64)), (.double (0 : UInt64)), (.double (0 : UInt64)), (.double (0 : UInt64)), (.double (0 : UInt64)), (.double (0 : UInt64)), (.double (0 : UInt64))] := ((((((F126.ext E134).other W149 (Nat.ne_of_gt lt3)).other W153 (Nat.ne_of_gt lt3)).other W157 (Nat.ne_of_gt lt3)).other W161 (Nat.ne_of_gt lt3)).other W165 (Nat.ne_of_gt lt3))
  have F196 : Exa Z h165 a2 "[D" := (((((((((((((((((((B2.wr W9).ext E14).wr W23).ext E29).wr W39).ext E46).wr W57).ext E65).wr W77).ext E86).wr W99).ext E109).wr W123).ext E134).wr W149).wr W153).wr W157).wr W161).wr W165)
  exact own_ret0 X165 hx hlk hret (hb hby d1_91) e165 ⟨a2, a14, a29, a46, a65, a86, a109, a134, rfl, N165, (((((((((((((((((((((Keep.refl _ _).ext E2).wr W9 (Or.inl (by simp))).ext E14).wr W23 (Or.inl (by simp))).ext E29).wr W39 (Or.inl (by simp))).ext E46).wr W57 (Or.inl (by simp))).ext E65).wr W77 (Or.inl (by simp))).ext E86).wr W99 (Or.inl (by simp))).ext E109).wr W123 (Or.inl (by simp))).ext E134).wr W149 (Or.inl (by simp))).wr W153 (Or.inl (by simp))).wr W157 (Or.inl (by simp))).wr W161 (Or.inl (by simp))).wr W165 (Or.inl (by simp))), ge4, ge18, ge34, ge52, ge72, ge94, ge118, ge144, lt16, lt31, lt48, lt67, lt88, lt111, lt136, lt32, lt49, lt68, lt89, lt112, lt137, lt50, lt69, lt90, lt113, lt138, lt70, lt91, lt114, lt139, lt92, lt115, lt140, lt116, lt141, lt142, F167, F168, F169, F170, F171, F172, F173, F174, F175, F176, F177, F166, F178, F179, F180, F181, F182, F183, F184, F185, F186, F187, F188, F189, F190, F191, F192, F193, F194, F195, F196⟩ (by decide) (by decide)
theorem own_pd0 : parseMethodDescriptor "()V" = some ⟨[], none⟩ := by decide +kernel
theorem d3_0 : decode prog_5_method_12_code 0 = .ok (.aload_n 0, 1) := by decide +kernel
theorem d3_1 : decode prog_5_method_12_code 1 = .ok (.getfield 58, 3) := by decide +kernel
theorem d3_4 : decode prog_5_method_12_code 4 = .ok (.ifCond .ne 7, 3) := by decide +kernel
theorem d3_7 : decode prog_5_method_12_code 7 = .ok (.dload_n 1, 1) := by decide +kernel
theorem d3_8 : decode prog_5_method_12_code 8 = .ok (.goto 12, 3) := by decide +kernel
theorem d3_11 : decode prog_5_method_12_code 11 = .ok (.aload_n 0, 1) := by decide +kernel
theorem d3_12 : decode prog_5_method_12_code 12 = .ok (.getfield 9, 3) := by decide +kernel
theorem d3_15 : decode prog_5_method_12_code 15 = .ok (.aload_n 0, 1) := by decide +kernel
theorem d3_16 : decode prog_5_method_12_code 16 = .ok (.getfield 44, 3) := by decide +kernel
theorem d3_19 : decode prog_5_method_12_code 19 = .ok (.daload, 1) := by decide +kernel
theorem d3_20 : decode prog_5_method_12_code 20 = .ok (.dstore 5, 2) := by decide +kernel
theorem d3_22 : decode prog_5_method_12_code 22 = .ok (.aload_n 0, 1) := by decide +kernel
theorem d3_23 : decode prog_5_method_12_code 23 = .ok (.dload_n 1, 1) := by decide +kernel
theorem d3_24 : decode prog_5_method_12_code 24 = .ok (.dload_n 3, 1) := by decide +kernel
theorem d3_25 : decode prog_5_method_12_code 25 = .ok (.dload 5, 2) := by decide +kernel
theorem d3_27 : decode prog_5_method_12_code 27 = .ok (.dload_n 1, 1) := by decide +kernel
theorem d3_28 : decode prog_5_method_12_code 28 = .ok (.aload_n 0, 1) := by decide +kernel
theorem d3_29 : decode prog_5_method_12_code 29 = .ok (.getfield 58, 3) := by decide +kernel
theorem d3_32 : decode prog_5_method_12_code 32 = .ok (.ifCond .ne 7, 3) := by decide +kernel
theorem d3_35 : decode prog_5_method_12_code 35 = .ok (.dload_n 3, 1) := by decide +kernel
theorem d3_36 : decode prog_5_method_12_code 36 = .ok (.goto 14, 3) := by decide +kernel
theorem d3_39 : decode prog_5_method_12_code 39 = .ok (.dload_n 3, 1) := by decide +kernel
theorem d3_40 : decode prog_5_method_12_code 40 = .ok (.aload_n 0, 1) := by decide +kernel
theorem d3_41 : decode prog_5_method_12_code 41 = .ok (.getfield 13, 3) := by decide +kernel
theorem d3_44 : decode prog_5_method_12_code 44 = .ok (.aload_n 0, 1) := by decide +kernel
theorem d3_45 : decode prog_5_method_12_code 45 = .ok (.getfield 44, 3) := by decide +kernel
theorem d3_48 : decode prog_5_method_12_code 48 = .ok (.daload, 1) := by decide +kernel
theorem d3_49 : decode prog_5_method_12_code 49 = .ok (.dsub, 1) := by decide +kernel
theorem d3_50 : decode prog_5_method_12_code 50 = .ok (.invokestatic 64, 3) := by decide +kernel
theorem d3_53 : decode prog_5_method_12_code 53 = .ok (.lconst 0, 1) := by decide +kernel
theorem d3_54 : decode prog_5_method_12_code 54 = .ok (.invokevirtual 68, 3) := by decide +kernel
theorem d3_57 : decode prog_5_method_12_code 57 = .ok (.return_, 1) := by decide +kernel
theorem d4_0 : decode prog_17_method_2_code 0 = .ok (.new 8, 3) := by decide +kernel
theorem d4_3 : decode prog_17_method_2_code 3 = .ok (.dup, 1) := by decide +kernel
theorem d4_4 : decode prog_17_method_2_code 4 = .ok (.dload_n 0, 1) := by decide +kernel
theorem d4_5 : decode prog_17_method_2_code 5 = .ok (.dload_n 2, 1) := by decide +kernel
theorem d4_6 : decode prog_17_method_2_code 6 = .ok (.dload_n 2, 1) := by decide +kernel
theorem d4_7 : decode prog_17_method_2_code 7 = .ok (.dload_n 2, 1) := by decide +kernel
theorem d4_8 : decode prog_17_method_2_code 8 = .ok (.dload 4, 2) := by decide +kernel
theorem d4_10 : decode prog_17_method_2_code 10 = .ok (.dload 4, 2) := by decide +kernel
theorem d4_12 : decode prog_17_method_2_code 12 = .ok (.invokespecial 28, 3) := by decide +kernel
theorem d4_15 : decode prog_17_method_2_code 15 = .ok (.areturn, 1) := by decide +kernel
theorem own_pn2 : plainName "com/example/rankline/rankline/Extent" = true := by first | (simp [plainName, overriddenIn]; done) | decide +kernel
theorem d5_0 : decode prog_17_method_1_code 0 = .ok (.aload_n 0, 1) := by decide +kernel
theorem d5_1 : decode prog_17_method_1_code 1 = .ok (.invokespecial 1, 3) := by decide +kernel
theorem d5_4 : decode prog_17_method_1_code 4 = .ok (.aload_n 0, 1) := by decide +kernel
theorem d5_5 : decode prog_17_method_1_code 5 = .ok (.dload_n 1, 1) := by decide +kernel
theorem d5_6 : decode prog_17_method_1_code 6 = .ok (.putfield 7, 3) := by decide +kernel
theorem d5_9 : decode prog_17_method_1_code 9 = .ok (.aload_n 0, 1) := by decide +kernel
theorem d5_10 : decode prog_17_method_1_code 10 = .ok (.dload_n 3, 1) := by decide +kernel
theorem d5_11 : decode prog_17_method_1_code 11 = .ok (.putfield 13, 3) := by decide +kernel
theorem d5_14 : decode prog_17_method_1_code 14 = .ok (.aload_n 0, 1) := by decide +kernel
theorem d5_15 : decode prog_17_method_1_code 15 = .ok (.dload 5, 2) := by decide +kernel
theorem d5_17 : decode prog_17_method_1_code 17 = .ok (.putfield 16, 3) := by decide +kernel
theorem d5_20 : decode prog_17_method_1_code 20 = .ok (.aload_n 0, 1) := by decide +kernel
theorem d5_21 : decode prog_17_method_1_code 21 = .ok (.dload 7, 2) := by decide +kernel
theorem d5_23 : decode prog_17_method_1_code 23 = .ok (.putfield 19, 3) := by decide +kernel
theorem d5_26 : decode prog_17_method_1_code 26 = .ok (.aload_n 0, 1) := by decide +kernel
theorem d5_27 : decode prog_17_method_1_code 27 = .ok (.dload 9, 2) := by decide +kernel
theorem d5_29 : decode prog_17_method_1_code 29 = .ok (.putfield 22, 3) := by decide +kernel
theorem d5_32 : decode prog_17_method_1_code 32 = .ok (.aload_n 0, 1) := by decide +kernel
theorem d5_33 : decode prog_17_method_1_code 33 = .ok (.dload 11, 2) := by decide +kernel
theorem d5_35 : decode prog_17_method_1_code 35 = .ok (.putfield 25, 3) := by decide +kernel
theorem d5_38 : decode prog_17_method_1_code 38 = .ok (.return_, 1) := by decide +kernel
theorem d6_0 : decode jdk_30_method_1_code 0 = .ok (.aload_n 0, 1) := by decide +kernel
theorem d6_1 : decode jdk_30_method_1_code 1 = .ok (.invokespecial 1, 3) := by decide +kernel
theorem d6_4 : decode jdk_30_method_1_code 4 = .ok (.return_, 1) := by decide +kernel
theorem own_pn3 : plainName "java/lang/Record" = true := by first | (simp [plainName, overriddenIn]; done) | decide +kernel
def own_s5_Q (Z : State) (a2 : Addr) (h0 : Heap) (n0 : Nat) (v_ : Option Value) (h_ : Heap) (L_ : List Loc) : Prop := (fun v h L => v = none ∧ Fr n0 L ∧ h = h0) v_ h_ L_
set_option maxRecDepth 65536 in
set_option maxHeartbeats 40000000 in
theorem own_s5 (l : Launch) (Z : State) (a0 : Array Value) (hw : ∀ d ∈ tables_1, d.before a0 Z = true) (wds : List Jvm.Cond) (a2 : Addr) (h0 : Heap) (n0 : Nat) (Z0 : n0 ≤ h0.size)  :
    MetFree l (⟨"java/lang/Record", "<init>", "()V"⟩ : MethodName) (head1 (Jvm.Cond.code (⟨"java/lang/Record", "<init>", "()V"⟩ : MethodName) jdk_30_method_1_code 1 none :: wds) ({ frames := 1, cells := 0, slots := 0, locals := 12 } : Room)) (fun ar_ U_ => ar_ = #[(.ref a2)] ∧ Z.Warmed39 U_.vm ∧ U_.heap = h0) (fun _ _ _ _ _ => True) (fun _ U_ o_ V_ => ∃ v_ L_, o_ = .returned v_ ∧ own_s5_Q Z a2 h0 n0 v_ V_.heap L_ ∧ FrameEnd U_ o_ V_ L_ ({ frames := 1, cells := 0, slots := 0, locals := 12 } : Room).cells ({ frames := 1, cells := 0, slots := 0, locals := 12 } : Room).slots) := by
  refine own_met (y := ⟨"java/lang/Record", "<init>", "()V"⟩) (Q := own_s5_Q Z a2 h0 n0) own_pn3 ?_
  intro p e s m below meth c s₁ hx hby hml hZ hown hnm hret hlk X0 e0
  have N0 := Fr.nil n0
  refine own_cast (g' := (mkF m 0 #[.val (.ref a2)] [])) (by first | (simp [entryFrame, mkF, argsToLocals, Value.category]; done) | rfl) ?_
  refine own_pre (T' := s₁) (g' := (mkF m 1 #[.val (.ref a2)] [(.ref a2)])) (fun t k => XS.aloadN X0.here hx rfl (v := (.ref a2)) (hb hby d6_0) rfl rfl k) ?_
  refine own_init0 X0 hx hZ hown (own_w hw 65 rfl) (own_w hw 10 rfl) (own_w hw 11 rfl) e0 (hb hby d6_1) (by rw [hml]; rfl) (by decide) (W := 0) (Nat.le_of_eq rfl) (by decide) ?_
  intro T1 X1 e1
  show own_Go _ _ _ _ _ _ _ T1 (mkF m 4 #[.val (.ref a2)] [])
  exact own_ret0 X1 hx hlk hret (hb hby d6_4) e1 ⟨rfl, N0, rfl⟩ (by decide) (by decide)
def own_s4_Q (Z : State) (a2 : Addr) (f121 : UInt64) (v2 : Int32) (h0 : Heap) (n0 : Nat) (v_ : Option Value) (h_ : Heap) (L_ : List Loc) : Prop := (fun v h L => v = none ∧ Fr n0 L ∧ Keep h0 h [a2] ∧ Fld Z h a2 "com/example/rankline/rankline/Extent" "low" "D" (.double (0 : UInt64)) ∧ Fld Z h a2 "com/example/rankline/rankline/Extent" "gapLow" "D" (.double (0 : UInt64)) ∧ Fld Z h a2 "com/example/rankline/rankline/Extent" "gapHigh" "D" (.double (0 : UInt64)) ∧ Fld Z h a2 "com/example/rankline/rankline/Extent" "high" "D" (.double (0 : UInt64)) ∧ Fld Z h a2 "com/example/rankline/rankline/Extent" "below" "D" (.double f121) ∧ Fld Z h a2 "com/example/rankline/rankline/Extent" "count" "D" (.double f121)) v_ h_ L_
set_option maxRecDepth 65536 in
set_option maxHeartbeats 40000000 in
theorem own_s4 (l : Launch) (Z : State) (a0 : Array Value) (hw : ∀ d ∈ tables_1, d.before a0 Z = true) (wds : List Jvm.Cond) (a2 : Addr) (f121 : UInt64) (v2 : Int32) (h0 : Heap) (n0 : Nat) (Z0 : n0 ≤ h0.size) (H1 : Exa Z h0 a2 "com/example/rankline/rankline/Extent") (H2 : Fld Z h0 a2 "com/example/rankline/rankline/Extent" "low" "D" (.double (0 : UInt64))) (H3 : Fld Z h0 a2 "com/example/rankline/rankline/Extent" "gapLow" "D" (.double (0 : UInt64))) (H4 : Fld Z h0 a2 "com/example/rankline/rankline/Extent" "gapHigh" "D" (.double (0 : UInt64))) (H5 : Fld Z h0 a2 "com/example/rankline/rankline/Extent" "high" "D" (.double (0 : UInt64))) (H6 : Fld Z h0 a2 "com/example/rankline/rankline/Extent" "below" "D" (.double (0 : UInt64))) (H7 : Fld Z h0 a2 "com/example/rankline/rankline/Extent" "count" "D" (.double (0 : UInt64))) (H8 : n0 ≤ a2) :
    MetFree l (⟨"com/example/rankline/rankline/Extent", "<init>", "(DDDDDD)V"⟩ : MethodName) (head1 (Jvm.Cond.code (⟨"com/example/rankline/rankline/Extent", "<init>", "(DDDDDD)V"⟩ : MethodName) prog_17_method_1_code 13 none :: wds) ({ frames := 2, cells := 0, slots := 0, locals := 24 } : Room)) (fun ar_ U_ => ar_ = #[(.ref a2), (.double (0 : UInt64)), (.double (0 : UInt64)), (.double (0 : UInt64)), (.double (0 : UInt64)), (.double f121), (.double f121)] ∧ Z.Warmed39 U_.vm ∧ U_.heap = h0) (fun _ _ _ _ _ => True) (fun _ U_ o_ V_ => ∃ v_ L_, o_ = .returned v_ ∧ own_s4_Q Z a2 f121 v2 h0 n0 v_ V_.heap L_ ∧ FrameEnd U_ o_ V_ L_ ({ frames := 2, cells := 0, slots := 0, locals := 24 } : Room).cells ({ frames := 2, cells := 0, slots := 0, locals := 24 } : Room).slots) := by
  refine own_met (y := ⟨"com/example/rankline/rankline/Extent", "<init>", "(DDDDDD)V"⟩) (Q := own_s4_Q Z a2 f121 v2 h0 n0) own_pn2 ?_
  intro p e s m below meth c s₁ hx hby hml hZ hown hnm hret hlk X0 e0
  have N0 := Fr.nil n0
  refine own_cast (g' := (mkF m 0 #[.val (.ref a2), .val (.double (0 : UInt64)), .second, .val (.double (0 : UInt64)), .second, .val (.double (0 : UInt64)), .second, .val (.double (0 : UInt64)), .second, .val (.double f121), .second, .val (.double f121), .second] [])) (by first | (simp [entryFrame, mkF, argsToLocals, Value.category]; done) | rfl) ?_
  generalize hL1 : (#[.val (.ref a2), .val (.double (0 : UInt64)), .second, .val (.double (0 : UInt64)), .second, .val (.double (0 : UInt64)), .second, .val (.double (0 : UInt64)), .second, .val (.double f121), .second, .val (.double f121), .second] : Array Slot) = L1
  refine own_pre (T' := s₁) (g' := (mkF m 1 L1 [(.ref a2)])) (fun t k => XS.aloadN X0.here hx rfl (v := (.ref a2)) (hb hby d5_0) (by rw [← hL1]; rfl) rfl k) ?_
  refine own_init (a := a2) (argsL := []) (rest := []) X0 hx hZ hown (own_s5 l Z a0 hw [] a2 h0 n0 Z0 ) rfl (own_w hw 60 rfl) (own_w hw 61 rfl) (own_w hw 64 rfl) (own_w hw 63 rfl) (by decide) e0 (hb hby d5_1) (by rw [hml, ← hL1]; rfl) rfl (lenOf own_pd0 rfl) (by decide) (W := 0) (Nat.le_of_eq rfl) (by decide) (by decide) (by decide) ?_
  intro v2 T2 lo2 X2 Q2
  obtain ⟨h2, e2⟩ : ∃ h, T2.heap = h := ⟨_, rfl⟩
  rw [e2] at Q2
  obtain ⟨rfl, N2, K2⟩ := Q2
  have N2' := Fr.app N0 N2
  have e2' : T2.heap = h0 := e2.trans K2
  show own_Go _ _ _ _ _ _ _ T2 (mkF m 4 L1 [])
  refine own_pre (T' := T2) (g' := (mkF m 5 L1 [(.ref a2)])) (fun t k => XS.aloadN X2.here hx rfl (v := (.ref a2)) (hb hby d5_4) (by rw [← hL1]; rfl) rfl k) ?_
  refine own_pre (T' := T2) (g' := (mkF m 6 L1 [(.double (0 : UInt64)), (.ref a2)])) (fun t k => XS.dloadN X2.here hx rfl (v := (0 : UInt64)) (hb hby d5_5) (by rw [← hL1]; rfl) k) ?_
  refine own_putf X2 hx hZ hown (own_w hw 66 rfl) e2' N2' H8 H2 H1 (Or.inr ⟨(own_w hw 67 rfl), rfl, hnm⟩) (own_w hw 56 rfl) (ty := .double) (by decide) rfl rfl (hb hby d5_6) ?_
  intro T3 h3 lo3 X3 e3 N3 W3
  have F4 : Fld Z h3 a2 "com/example/rankline/rankline/Extent" "low" "D" (.double (0 : UInt64)) := H2.same W3
  show own_Go _ _ _ _ _ _ _ T3 (mkF m 9 L1 [])
  refine own_pre (T' := T3) (g' := (mkF m 10 L1 [(.ref a2)])) (fun t k => XS.aloadN X3.here hx rfl (v := (.ref a2)) (hb hby d5_9) (by rw [← hL1]; rfl) rfl k) ?_
  refine own_pre (T' := T3) (g' := (mkF m 11 L1 [(.double (0 : UInt64)), (.ref a2)])) (fun t k => XS.dloadN X3.here hx rfl (v := (0 : UInt64)) (hb hby d5_10) (by rw [← hL1]; rfl) k) ?_
  have F5 : Fld Z h3 a2 "com/example/rankline/rankline/Extent" "gapLow" "D" (.double (0 : UInt64)) := (H3.other W3 (Or.inr (slot_ne (C := "com/example/rankline/rankline/Extent") (Or.inr (own_w hw 69 rfl)) (Or.inr (own_w hw 67 rfl)) (by decide) (t := .double) (t' := .double) (by decide) (by decide))))
  have F6 : Exa Z h3 a2 "com/example/rankline/rankline/Extent" := (H1.wr W3)
  refine own_putf X3 hx hZ hown (own_w hw 68 rfl) e3 N3 H8 F5 F6 (Or.inr ⟨(own_w hw 69 rfl), rfl, hnm⟩) (own_w hw 56 rfl) (ty := .double) (by decide) rfl rfl (hb hby d5_11) ?_
  intro T7 h7 lo7 X7 e7 N7 W7
  have F8 : Fld Z h7 a2 "com/example/rankline/rankline/Extent" "gapLow" "D" (.double (0 : UInt64)) := F5.same W7
  show own_Go _ _ _ _ _ _ _ T7 (mkF m 14 L1 [])
  refine own_pre (T' := T7) (g' := (mkF m 15 L1 [(.ref a2)])) (fun t k => XS.aloadN X7.here hx rfl (v := (.ref a2)) (hb hby d5_14) (by rw [← hL1]; rfl) rfl k) ?_
  refine own_pre (T' := T7) (g' := (mkF m 17 L1 [(.double (0 : UInt64)), (.ref a2)])) (fun t k => XS.dload X7.here hx rfl (v := (0 : UInt64)) (hb hby d5_15) (by rw [← hL1]; rfl) k) ?_
  have F9 : Fld Z h7 a2 "com/example/rankline/rankline/Extent" "gapHigh" "D" (.double (0 : UInt64)) := ((H4.other W3 (Or.inr (slot_ne (C := "com/example/rankline/rankline/Extent") (Or.inr (own_w hw 71 rfl)) (Or.inr (own_w hw 67 rfl)) (by decide) (t := .double) (t' := .double) (by decide) (by decide)))).other W7 (Or.inr (slot_ne (C := "com/example/rankline/rankline/Extent") (Or.inr (own_w hw 71 rfl)) (Or.inr (own_w hw 69 rfl)) (by decide) (t := .double) (t' := .double) (by decide) (by decide))))
  have F10 : Exa Z h7 a2 "com/example/rankline/rankline/Extent" := (F6.wr W7)
  refine own_putf X7 hx hZ hown (own_w hw 70 rfl) e7 N7 H8 F9 F10 (Or.inr ⟨(own_w hw 71 rfl), rfl, hnm⟩) (own_w hw 56 rfl) (ty := .double) (by decide) rfl rfl (hb hby d5_17) ?_
  intro T11 h11 lo11 X11 e11 N11 W11
  have F12 : Fld Z h11 a2 "com/example/rankline/rankline/Extent" "gapHigh" "D" (.double (0 : UInt64)) := F9.same W11
  show own_Go _ _ _ _ _ _ _ T11 (mkF m 20 L1 [])
  refine own_pre (T' := T11) (g' := (mkF m 21 L1 [(.ref a2)])) (fun t k => XS.aloadN X11.here hx rfl (v := (.ref a2)) (hb hby d5_20) (by rw [← hL1]; rfl) rfl k) ?_
  refine own_pre (T' := T11) (g' := (mkF m 23 L1 [(.double (0 : UInt64)), (.ref a2)])) (fun t k => XS.dload X11.here hx rfl (v := (0 : UInt64)) (hb hby d5_21) (by rw [← hL1]; rfl) k) ?_
  have F13 : Fld Z h11 a2 "com/example/rankline/rankline/Extent" "high" "D" (.double (0 : UInt64)) := (((H5.other W3 (Or.inr (slot_ne (C := "com/example/rankline/rankline/Extent") (Or.inr (own_w hw 73 rfl)) (Or.inr (own_w hw 67 rfl)) (by decide) (t := .double) (t' := .double) (by decide) (by decide)))).other W7 (Or.inr (slot_ne (C := "com/example/rankline/rankline/Extent") (Or.inr (own_w hw 73 rfl)) (Or.inr (own_w hw 69 rfl)) (by decide) (t := .double) (t' := .double) (by decide) (by decide)))).other W11 (Or.inr (slot_ne (C := "com/example/rankline/rankline/Extent") (Or.inr (own_w hw 73 rfl)) (Or.inr (own_w hw 71 rfl)) (by decide) (t := .double) (t' := .double) (by decide) (by decide))))
  have F14 : Exa Z h11 a2 "com/example/rankline/rankline/Extent" := (F10.wr W11)
  refine own_putf X11 hx hZ hown (own_w hw 72 rfl) e11 N11 H8 F13 F14 (Or.inr ⟨(own_w hw 73 rfl), rfl, hnm⟩) (own_w hw 56 rfl) (ty := .double) (by decide) rfl rfl (hb hby d5_23) ?_
  intro T15 h15 lo15 X15 e15 N15 W15
  have F16 : Fld Z h15 a2 "com/example/rankline/rankline/Extent" "high" "D" (.double (0 : UInt64)) := F13.same W15
  show own_Go _ _ _ _ _ _ _ T15 (mkF m 26 L1 [])
  refine own_pre (T' := T15) (g' := (mkF m 27 L1 [(.ref a2)])) (fun t k => XS.aloadN X15.here hx rfl (v := (.ref a2)) (hb hby d5_26) (by rw [← hL1]; rfl) rfl k) ?_
  refine own_pre (T' := T15) (g' := (mkF m 29 L1 [(.double f121), (.ref a2)])) (fun t k => XS.dload X15.here hx rfl (v := f121) (hb hby d5_27) (by rw [← hL1]; rfl) k) ?_
  have F17 : Fld Z h15 a2 "com/example/rankline/rankline/Extent" "below" "D" (.double (0 : UInt64)) := ((((H6.other W3 (Or.inr (slot_ne (C := "com/example/rankline/rankline/Extent") (Or.inr (own_w hw 75 rfl)) (Or.inr (own_w hw 67 rfl)) (by decide) (t := .double) (t' := .double) (by decide) (by decide)))).other W7 (Or.inr (slot_ne (C := "com/example/rankline/rankline/Extent") (Or.inr (own_w hw 75 rfl)) (Or.inr (own_w hw 69 rfl)) (by decide) (t := .double) (t' := .double) (by decide) (by decide)))).other W11 (Or.inr (slot_ne (C := "com/example/rankline/rankline/Extent") (Or.inr (own_w hw 75 rfl)) (Or.inr (own_w hw 71 rfl)) (by decide) (t := .double) (t' := .double) (by decide) (by decide)))).other W15 (Or.inr (slot_ne (C := "com/example/rankline/rankline/Extent") (Or.inr (own_w hw 75 rfl)) (Or.inr (own_w hw 73 rfl)) (by decide) (t := .double) (t' := .double) (by decide) (by decide))))
  have F18 : Exa Z h15 a2 "com/example/rankline/rankline/Extent" := (F14.wr W15)
  refine own_putf X15 hx hZ hown (own_w hw 74 rfl) e15 N15 H8 F17 F18 (Or.inr ⟨(own_w hw 75 rfl), rfl, hnm⟩) (own_w hw 56 rfl) (ty := .double) (by decide) rfl rfl (hb hby d5_29) ?_
  intro T19 h19 lo19 X19 e19 N19 W19
  have F20 : Fld Z h19 a2 "com/example/rankline/rankline/Extent" "below" "D" (.double f121) := F17.same W19
  show own_Go _ _ _ _ _ _ _ T19 (mkF m 32 L1 [])
  refine own_pre (T' := T19) (g' := (mkF m 33 L1 [(.ref a2)])) (fun t k => XS.aloadN X19.here hx rfl (v := (.ref a2)) (hb hby d5_32) (by rw [← hL1]; rfl) rfl k) ?_
  refine own_pre (T' := T19) (g' := (mkF m 35 L1 [(.double f121), (.ref a2)])) (fun t k => XS.dload X19.here hx rfl (v := f121) (hb hby d5_33) (by rw [← hL1]; rfl) k) ?_
  have F21 : Fld Z h19 a2 "com/example/rankline/rankline/Extent" "count" "D" (.double (0 : UInt64)) := (((((H7.other W3 (Or.inr (slot_ne (C := "com/example/rankline/rankline/Extent") (Or.inr (own_w hw 77 rfl)) (Or.inr (own_w hw 67 rfl)) (by decide) (t := .double) (t' := .double) (by decide) (by decide)))).other W7 (Or.inr (slot_ne (C := "com/example/rankline/rankline/Extent") (Or.inr (own_w hw 77 rfl)) (Or.inr (own_w hw 69 rfl)) (by decide) (t := .double) (t' := .double) (by decide) (by decide)))).other W11 (Or.inr (slot_ne (C := "com/example/rankline/rankline/Extent") (Or.inr (own_w hw 77 rfl)) (Or.inr (own_w hw 71 rfl)) (by decide) (t := .double) (t' := .double) (by decide) (by decide)))).other W15 (Or.inr (slot_ne (C := "com/example/rankline/rankline/Extent") (Or.inr (own_w hw 77 rfl)) (Or.inr (own_w hw 73 rfl)) (by decide) (t := .double) (t' := .double) (by decide) (by decide)))).other W19 (Or.inr (slot_ne (C := "com/example/rankline/rankline/Extent") (Or.inr (own_w hw 77 rfl)) (Or.inr (own_w hw 75 rfl)) (by decide) (t := .double) (t' := .double) (by decide) (by decide))))
  have F22 : Exa Z h19 a2 "com/example/rankline/rankline/Extent" := (F18.wr W19)
  refine own_putf X19 hx hZ hown (own_w hw 76 rfl) e19 N19 H8 F21 F22 (Or.inr ⟨(own_w hw 77 rfl), rfl, hnm⟩) (own_w hw 56 rfl) (ty := .double) (by decide) rfl rfl (hb hby d5_35) ?_
  intro T23 h23 lo23 X23 e23 N23 W23
  have F24 : Fld Z h23 a2 "com/example/rankline/rankline/Extent" "count" "D" (.double f121) := F21.same W23
  show own_Go _ _ _ _ _ _ _ T23 (mkF m 38 L1 [])
  have F25 : Fld Z h23 a2 "com/example/rankline/rankline/Extent" "low" "D" (.double (0 : UInt64)) := (((((F4.other W7 (Or.inr (slot_ne (C := "com/example/rankline/rankline/Extent") (Or.inr (own_w hw 67 rfl)) (Or.inr (own_w hw 69 rfl)) (by decide) (t := .double) (t' := .double) (by decide) (by decide)))).other W11 (Or.inr (slot_ne (C := "com/example/rankline/rankline/Extent") (Or.inr (own_w hw 67 rfl)) (Or.inr (own_w hw 71 rfl)) (by decide) (t := .double) (t' := .double) (by decide) (by decide)))).other W15 (Or.inr (slot_ne (C := "com/example/rankline/rankline/Extent") (Or.inr (own_w hw 67 rfl)) (Or.inr (own_w hw 73 rfl)) (by decide) (t := .double) (t' := .double) (by decide) (by decide)))).other W19 (Or.inr (slot_ne (C := "com/example/rankline/rankline/Extent") (Or.inr (own_w hw 67 rfl)) (Or.inr (own_w hw 75 rfl)) (by decide) (t := .double) (t' := .double) (by decide) (by decide)))).other W23 (Or.inr (slot_ne (C := "com/example/rankline/rankline/Extent") (Or.inr (own_w hw 67 rfl)) (Or.inr (own_w hw 77 rfl)) (by decide) (t := .double) (t' := .double) (by decide) (by decide))))
  have F26 : Fld Z h23 a2 "com/example/rankline/rankline/Extent" "gapLow" "D" (.double (0 : UInt64)) := ((((F8.other W11 (Or.inr (slot_ne (C := "com/example/rankline/rankline/Extent") (Or.inr (own_w hw 69 rfl)) (Or.inr (own_w hw 71 rfl)) (by decide) (t := .double) (t' := .double) (by decide) (by decide)))).other W15 (Or.inr (slot_ne (C := "com/example/rankline/rankline/Extent") (Or.inr (own_w hw 69 rfl)) (Or.inr (own_w hw 73 rfl)) (by decide) (t := .double) (t' := .double) (by decide) (by decide)))).other W19 (Or.inr (slot_ne (C := "com/example/rankline/rankline/Extent") (Or.inr (own_w hw 69 rfl)) (Or.inr (own_w hw 75 rfl)) (by decide) (t := .double) (t' := .double) (by decide) (by decide)))).other W23 (Or.inr (slot_ne (C := "com/example/rankline/rankline/Extent") (Or.inr (own_w hw 69 rfl)) (Or.inr (own_w hw 77 rfl)) (by decide) (t := .double) (t' := .double) (by decide) (by decide))))
  have F27 : Fld Z h23 a2 "com/example/rankline/rankline/Extent" "gapHigh" "D" (.double (0 : UInt64)) := (((F12.other W15 (Or.inr (slot_ne (C := "com/example/rankline/rankline/Extent") (Or.inr (own_w hw 71 rfl)) (Or.inr (own_w hw 73 rfl)) (by decide) (t := .double) (t' := .double) (by decide) (by decide)))).other W19 (Or.inr (slot_ne (C := "com/example/rankline/rankline/Extent") (Or.inr (own_w hw 71 rfl)) (Or.inr (own_w hw 75 rfl)) (by decide) (t := .double) (t' := .double) (by decide) (by decide)))).other W23 (Or.inr (slot_ne (C := "com/example/rankline/rankline/Extent") (Or.inr (own_w hw 71 rfl)) (Or.inr (own_w hw 77 rfl)) (by decide) (t := .double) (t' := .double) (by decide) (by decide))))
  have F28 : Fld Z h23 a2 "com/example/rankline/rankline/Extent" "high" "D" (.double (0 : UInt64)) := ((F16.other W19 (Or.inr (slot_ne (C := "com/example/rankline/rankline/Extent") (Or.inr (own_w hw 73 rfl)) (Or.inr (own_w hw 75 rfl)) (by decide) (t := .double) (t' := .double) (by decide) (by decide)))).other W23 (Or.inr (slot_ne (C := "com/example/rankline/rankline/Extent") (Or.inr (own_w hw 73 rfl)) (Or.inr (own_w hw 77 rfl)) (by decide) (t := .double) (t' := .double) (by decide) (by decide))))
  have F29 : Fld Z h23 a2 "com/example/rankline/rankline/Extent" "below" "D" (.double f121) := (F20.other W23 (Or.inr (slot_ne (C := "com/example/rankline/rankline/Extent") (Or.inr (own_w hw 75 rfl)) (Or.inr (own_w hw 77 rfl)) (by decide) (t := .double) (t' := .double) (by decide) (by decide))))
  exact own_ret0 X23 hx hlk hret (hb hby d5_38) e23 ⟨rfl, N23, (((((((Keep.refl _ _).wr W3 (Or.inl (by simp))).wr W7 (Or.inl (by simp))).wr W11 (Or.inl (by simp))).wr W15 (Or.inl (by simp))).wr W19 (Or.inl (by simp))).wr W23 (Or.inl (by simp))), F25, F26, F27, F28, F29, F24⟩ (by decide) (by decide)
theorem own_pd1 : parseMethodDescriptor "(DDDDDD)V" = some ⟨[.double, .double, .double, .double, .double, .double], none⟩ := by decide +kernel
def own_s3_Q (Z : State) (f121 : UInt64) (v2 : Int32) (h0 : Heap) (n0 : Nat) (v_ : Option Value) (h_ : Heap) (L_ : List Loc) : Prop := (fun v h L => ∃ (a2 : Addr), v = some (.ref a2) ∧ Fr n0 L ∧ Keep h0 h [] ∧ h0.size ≤ a2 ∧ Exa Z h a2 "com/example/rankline/rankline/Extent" ∧ Fld Z h a2 "com/example/rankline/rankline/Extent" "low" "D" (.double (0 : UInt64)) ∧ Fld Z h a2 "com/example/rankline/rankline/Extent" "gapLow" "D" (.double (0 : UInt64)) ∧ Fld Z h a2 "com/example/rankline/rankline/Extent" "gapHigh" "D" (.double (0 : UInt64)) ∧ Fld Z h a2 "com/example/rankline/rankline/Extent" "high" "D" (.double (0 : UInt64)) ∧ Fld Z h a2 "com/example/rankline/rankline/Extent" "below" "D" (.double f121) ∧ Fld Z h a2 "com/example/rankline/rankline/Extent" "count" "D" (.double f121)) v_ h_ L_
set_option maxRecDepth 65536 in
set_option maxHeartbeats 40000000 in
theorem own_s3 (l : Launch) (Z : State) (a0 : Array Value) (hw : ∀ d ∈ tables_1, d.before a0 Z = true) (wds : List Jvm.Cond) (f121 : UInt64) (v2 : Int32) (h0 : Heap) (n0 : Nat) (Z0 : n0 ≤ h0.size)  :
    MetFree l (⟨"com/example/rankline/rankline/Extent", "of", "(DDD)Lcom/example/rankline/rankline/Extent;"⟩ : MethodName) (head1 (Jvm.Cond.code (⟨"com/example/rankline/rankline/Extent", "of", "(DDD)Lcom/example/rankline/rankline/Extent;"⟩ : MethodName) prog_17_method_2_code 6 (some (.object "com/example/rankline/rankline/Extent")) :: wds) ({ frames := 3, cells := 1, slots := 6, locals := 49 } : Room)) (fun ar_ U_ => ar_ = #[(.double (0 : UInt64)), (.double (0 : UInt64)), (.double f121)] ∧ Z.Warmed39 U_.vm ∧ U_.heap = h0) (fun _ _ _ _ _ => True) (fun _ U_ o_ V_ => ∃ v_ L_, o_ = .returned v_ ∧ own_s3_Q Z f121 v2 h0 n0 v_ V_.heap L_ ∧ FrameEnd U_ o_ V_ L_ ({ frames := 3, cells := 1, slots := 6, locals := 49 } : Room).cells ({ frames := 3, cells := 1, slots := 6, locals := 49 } : Room).slots) := by
  refine own_met (y := ⟨"com/example/rankline/rankline/Extent", "of", "(DDD)Lcom/example/rankline/rankline/Extent;"⟩) (Q := own_s3_Q Z f121 v2 h0 n0) own_pn2 ?_
  intro p e s m below meth c s₁ hx hby hml hZ hown hnm hret hlk X0 e0
  have N0 := Fr.nil n0
  refine own_cast (g' := (mkF m 0 #[.val (.double (0 : UInt64)), .second, .val (.double (0 : UInt64)), .second, .val (.double f121), .second] [])) (by first | (simp [entryFrame, mkF, argsToLocals, Value.category]; done) | rfl) ?_
  generalize hL1 : (#[.val (.double (0 : UInt64)), .second, .val (.double (0 : UInt64)), .second, .val (.double f121), .second] : Array Slot) = L1
  refine own_newobj X0 hx hZ hown (own_w hw 55 rfl) (own_w hw 56 rfl) (own_w hw 53 rfl) e0 (hb hby d4_0) (by decide) (by decide) ?_
  intro T2 h2 a2 g2 X2 e2 E2 A2 D2
  have ge3 : h0.size ≤ a2 := Nat.le_trans (Nat.le_refl _) (Nat.le_of_eq g2.symm)
  have nw4 : n0 ≤ a2 := Nat.le_trans Z0 (Nat.le_of_eq g2.symm)
  have F5 : Fld Z h2 a2 "com/example/rankline/rankline/Extent" "low" "D" (.double (0 : UInt64)) := D2 (Or.inr (own_w hw 67 rfl)) (ty := .double) (by decide)
  have F6 : Fld Z h2 a2 "com/example/rankline/rankline/Extent" "gapLow" "D" (.double (0 : UInt64)) := D2 (Or.inr (own_w hw 69 rfl)) (ty := .double) (by decide)
  have F7 : Fld Z h2 a2 "com/example/rankline/rankline/Extent" "gapHigh" "D" (.double (0 : UInt64)) := D2 (Or.inr (own_w hw 71 rfl)) (ty := .double) (by decide)
  have F8 : Fld Z h2 a2 "com/example/rankline/rankline/Extent" "high" "D" (.double (0 : UInt64)) := D2 (Or.inr (own_w hw 73 rfl)) (ty := .double) (by decide)
  have F9 : Fld Z h2 a2 "com/example/rankline/rankline/Extent" "below" "D" (.double (0 : UInt64)) := D2 (Or.inr (own_w hw 75 rfl)) (ty := .double) (by decide)
  have F10 : Fld Z h2 a2 "com/example/rankline/rankline/Extent" "count" "D" (.double (0 : UInt64)) := D2 (Or.inr (own_w hw 77 rfl)) (ty := .double) (by decide)
  show own_Go _ _ _ _ _ _ _ T2 (mkF m 3 L1 [(.ref a2)])
  refine own_pre (T' := T2) (g' := (mkF m 4 L1 [(.ref a2), (.ref a2)])) (fun t k => XS.dup X2.here hx rfl (hb hby d4_3) rfl rfl k) ?_
  refine own_pre (T' := T2) (g' := (mkF m 5 L1 [(.double (0 : UInt64)), (.ref a2), (.ref a2)])) (fun t k => XS.dloadN X2.here hx rfl (v := (0 : UInt64)) (hb hby d4_4) (by rw [← hL1]; rfl) k) ?_
  refine own_pre (T' := T2) (g' := (mkF m 6 L1 [(.double (0 : UInt64)), (.double (0 : UInt64)), (.ref a2), (.ref a2)])) (fun t k => XS.dloadN X2.here hx rfl (v := (0 : UInt64)) (hb hby d4_5) (by rw [← hL1]; rfl) k) ?_
  refine own_pre (T' := T2) (g' := (mkF m 7 L1 [(.double (0 : UInt64)), (.double (0 : UInt64)), (.double (0 : UInt64)), (.ref a2), (.ref a2)])) (fun t k => XS.dloadN X2.here hx rfl (v := (0 : UInt64)) (hb hby d4_6) (by rw [← hL1]; rfl) k) ?_
  refine own_pre (T' := T2) (g' := (mkF m 8 L1 [(.double (0 : UInt64)), (.double (0 : UInt64)), (.double (0 : UInt64)), (.double (0 : UInt64)), (.ref a2), (.ref a2)])) (fun t k => XS.dloadN X2.here hx rfl (v := (0 : UInt64)) (hb hby d4_7) (by rw [← hL1]; rfl) k) ?_
  refine own_pre (T' := T2) (g' := (mkF m 10 L1 [(.double f121), (.double (0 : UInt64)), (.double (0 : UInt64)), (.double (0 : UInt64)), (.double (0 : UInt64)), (.ref a2), (.ref a2)])) (fun t k => XS.dload X2.here hx rfl (v := f121) (hb hby d4_8) (by rw [← hL1]; rfl) k) ?_
  refine own_pre (T' := T2) (g' := (mkF m 12 L1 [(.double f121), (.double f121), (.double (0 : UInt64)), (.double (0 : UInt64)), (.double (0 : UInt64)), (.double (0 : UInt64)), (.ref a2), (.ref a2)])) (fun t k => XS.dload X2.here hx rfl (v := f121) (hb hby d4_10) (by rw [← hL1]; rfl) k) ?_
  have F11 : n0 ≤ h2.size := (Nat.le_trans Z0 E2.1)
  refine own_init (a := a2) (argsL := [(.double (0 : UInt64)), (.double (0 : UInt64)), (.double (0 : UInt64)), (.double (0 : UInt64)), (.double f121), (.double f121)]) (rest := [(.ref a2)]) X2 hx hZ hown (own_s4 l Z a0 hw [] a2 f121 v2 h2 n0 F11 A2 F5 F6 F7 F8 F9 F10 nw4) rfl (own_w hw 57 rfl) (own_w hw 58 rfl) (own_w hw 59 rfl) (own_w hw 53 rfl) (by decide) e2 (hb hby d4_12) (by rw [hml, ← hL1]; rfl) rfl (lenOf own_pd1 rfl) (by decide) (W := 1) (Nat.le_of_eq rfl) (by decide) (by decide) (by decide) ?_
  intro v12 T12 lo12 X12 Q12
  obtain ⟨h12, e12⟩ : ∃ h, T12.heap = h := ⟨_, rfl⟩
  rw [e12] at Q12
  obtain ⟨rfl, N12, K12, F13, F14, F15, F16, F17, F18⟩ := Q12
  have N12' := Fr.app N0 N12
  show own_Go _ _ _ _ _ _ _ T12 (mkF m 15 L1 [(.ref a2)])
  have F19 : Exa Z h12 a2 "com/example/rankline/rankline/Extent" := (A2.keep K12)
  exact own_retA X12 hx hlk hret rfl rfl rfl (hb hby d4_15) e12 ⟨a2, rfl, N12', (((Keep.refl _ _).ext E2).trans K12 (allS (Or.inr ge3) all0)), ge3, F19, F13, F14, F15, F16, F17, F18⟩ (by decide) (by decide)
theorem own_pd2 : parseMethodDescriptor "(DDD)Lcom/example/rankline/rankline/Extent;" = some ⟨[.double, .double, .double], some (.object "com/example/rankline/rankline/Extent")⟩ := by decide +kernel
theorem d7_0 : decode prog_5_method_13_code 0 = .ok (.aload_n 0, 1) := by decide +kernel
theorem d7_1 : decode prog_5_method_13_code 1 = .ok (.iconst (-1), 1) := by decide +kernel
theorem d7_2 : decode prog_5_method_13_code 2 = .ok (.dload_n 1, 1) := by decide +kernel
theorem d7_3 : decode prog_5_method_13_code 3 = .ok (.dload_n 3, 1) := by decide +kernel
theorem d7_4 : decode prog_5_method_13_code 4 = .ok (.aload_n 0, 1) := by decide +kernel
theorem d7_5 : decode prog_5_method_13_code 5 = .ok (.getfield 58, 3) := by decide +kernel
theorem d7_8 : decode prog_5_method_13_code 8 = .ok (.ifCond .ne 12, 3) := by decide +kernel
theorem d7_11 : decode prog_5_method_13_code 11 = .ok (.dload_n 1, 1) := by decide +kernel
theorem d7_12 : decode prog_5_method_13_code 12 = .ok (.dload_n 1, 1) := by decide +kernel
theorem d7_13 : decode prog_5_method_13_code 13 = .ok (.dload_n 3, 1) := by decide +kernel
theorem d7_14 : decode prog_5_method_13_code 14 = .ok (.invokestatic 64, 3) := by decide +kernel
theorem d7_17 : decode prog_5_method_13_code 17 = .ok (.goto 5, 3) := by decide +kernel
theorem d7_20 : decode prog_5_method_13_code 20 = .ok (.aload 5, 2) := by decide +kernel
theorem d7_22 : decode prog_5_method_13_code 22 = .ok (.lload 6, 2) := by decide +kernel
theorem d7_24 : decode prog_5_method_13_code 24 = .ok (.invokevirtual 72, 3) := by decide +kernel
theorem d7_27 : decode prog_5_method_13_code 27 = .ok (.pop, 1) := by decide +kernel
theorem d7_28 : decode prog_5_method_13_code 28 = .ok (.return_, 1) := by decide +kernel
def own_s9_Q (Z : State) (a2 : Addr) (h0 : Heap) (n0 : Nat) (v_ : Option Value) (h_ : Heap) (L_ : List Loc) : Prop := (fun v h L => v = none ∧ Fr n0 L ∧ h = h0) v_ h_ L_
set_option maxRecDepth 65536 in
set_option maxHeartbeats 40000000 in
theorem own_s9 (l : Launch) (Z : State) (a0 : Array Value) (hw : ∀ d ∈ tables_1, d.before a0 Z = true) (wds : List Jvm.Cond) (a2 : Addr) (h0 : Heap) (n0 : Nat) (Z0 : n0 ≤ h0.size)  :
    MetFree l (⟨"java/lang/Record", "<init>", "()V"⟩ : MethodName) (head1 (Jvm.Cond.code (⟨"java/lang/Record", "<init>", "()V"⟩ : MethodName) jdk_30_method_1_code 1 none :: wds) ({ frames := 1, cells := 0, slots := 0, locals := 12 } : Room)) (fun ar_ U_ => ar_ = #[(.ref a2)] ∧ Z.Warmed39 U_.vm ∧ U_.heap = h0) (fun _ _ _ _ _ => True) (fun _ U_ o_ V_ => ∃ v_ L_, o_ = .returned v_ ∧ own_s9_Q Z a2 h0 n0 v_ V_.heap L_ ∧ FrameEnd U_ o_ V_ L_ ({ frames := 1, cells := 0, slots := 0, locals := 12 } : Room).cells ({ frames := 1, cells := 0, slots := 0, locals := 12 } : Room).slots) := by
  refine own_met (y := ⟨"java/lang/Record", "<init>", "()V"⟩) (Q := own_s9_Q Z a2 h0 n0) own_pn3 ?_
  intro p e s m below meth c s₁ hx hby hml hZ hown hnm hret hlk X0 e0
  have N0 := Fr.nil n0
  refine own_cast (g' := (mkF m 0 #[.val (.ref a2)] [])) (by first | (simp [entryFrame, mkF, argsToLocals, Value.category]; done) | rfl) ?_
  refine own_pre (T' := s₁) (g' := (mkF m 1 #[.val (.ref a2)] [(.ref a2)])) (fun t k => XS.aloadN X0.here hx rfl (v := (.ref a2)) (hb hby d6_0) rfl rfl k) ?_
  refine own_init0 X0 hx hZ hown (own_w hw 65 rfl) (own_w hw 10 rfl) (own_w hw 11 rfl) e0 (hb hby d6_1) (by rw [hml]; rfl) (by decide) (W := 0) (Nat.le_of_eq rfl) (by decide) ?_
  intro T1 X1 e1
  show own_Go _ _ _ _ _ _ _ T1 (mkF m 4 #[.val (.ref a2)] [])
  exact own_ret0 X1 hx hlk hret (hb hby d6_4) e1 ⟨rfl, N0, rfl⟩ (by decide) (by decide)
def own_s8_Q (Z : State) (a2 : Addr) (f121 : UInt64) (v2 : Int32) (h0 : Heap) (n0 : Nat) (v_ : Option Value) (h_ : Heap) (L_ : List Loc) : Prop := (fun v h L => v = none ∧ Fr n0 L ∧ Keep h0 h [a2] ∧ Fld Z h a2 "com/example/rankline/rankline/Extent" "low" "D" (.double (0 : UInt64)) ∧ Fld Z h a2 "com/example/rankline/rankline/Extent" "gapLow" "D" (.double (0 : UInt64)) ∧ Fld Z h a2 "com/example/rankline/rankline/Extent" "gapHigh" "D" (.double (0 : UInt64)) ∧ Fld Z h a2 "com/example/rankline/rankline/Extent" "high" "D" (.double (0 : UInt64)) ∧ Fld Z h a2 "com/example/rankline/rankline/Extent" "below" "D" (.double f121) ∧ Fld Z h a2 "com/example/rankline/rankline/Extent" "count" "D" (.double f121)) v_ h_ L_
set_option maxRecDepth 65536 in
set_option maxHeartbeats 40000000 in
theorem own_s8 (l : Launch) (Z : State) (a0 : Array Value) (hw : ∀ d ∈ tables_1, d.before a0 Z = true) (wds : List Jvm.Cond) (a2 : Addr) (f121 : UInt64) (v2 : Int32) (h0 : Heap) (n0 : Nat) (Z0 : n0 ≤ h0.size) (H1 : Exa Z h0 a2 "com/example/rankline/rankline/Extent") (H2 : Fld Z h0 a2 "com/example/rankline/rankline/Extent" "low" "D" (.double (0 : UInt64))) (H3 : Fld Z h0 a2 "com/example/rankline/rankline/Extent" "gapLow" "D" (.double (0 : UInt64))) (H4 : Fld Z h0 a2 "com/example/rankline/rankline/Extent" "gapHigh" "D" (.double (0 : UInt64))) (H5 : Fld Z h0 a2 "com/example/rankline/rankline/Extent" "high" "D" (.double (0 : UInt64))) (H6 : Fld Z h0 a2 "com/example/rankline/rankline/Extent" "below" "D" (.double (0 : UInt64))) (H7 : Fld Z h0 a2 "com/example/rankline/rankline/Extent" "count" "D" (.double (0 : UInt64))) (H8 : n0 ≤ a2) :
    MetFree l (⟨"com/example/rankline/rankline/Extent", "<init>", "(DDDDDD)V"⟩ : MethodName) (head1 (Jvm.Cond.code (⟨"com/example/rankline/rankline/Extent", "<init>", "(DDDDDD)V"⟩ : MethodName) prog_17_method_1_code 13 none :: wds) ({ frames := 2, cells := 0, slots := 0, locals := 24 } : Room)) (fun ar_ U_ => ar_ = #[(.ref a2), (.double (0 : UInt64)), (.double (0 : UInt64)), (.double (0 : UInt64)), (.double (0 : UInt64)), (.double f121), (.double f121)] ∧ Z.Warmed39 U_.vm ∧ U_.heap = h0) (fun _ _ _ _ _ => True) (fun _ U_ o_ V_ => ∃ v_ L_, o_ = .returned v_ ∧ own_s8_Q Z a2 f121 v2 h0 n0 v_ V_.heap L_ ∧ FrameEnd U_ o_ V_ L_ ({ frames := 2, cells := 0, slots := 0, locals := 24 } : Room).cells ({ frames := 2, cells := 0, slots := 0, locals := 24 } : Room).slots) := by
  refine own_met (y := ⟨"com/example/rankline/rankline/Extent", "<init>", "(DDDDDD)V"⟩) (Q := own_s8_Q Z a2 f121 v2 h0 n0) own_pn2 ?_
  intro p e s m below meth c s₁ hx hby hml hZ hown hnm hret hlk X0 e0
  have N0 := Fr.nil n0
  refine own_cast (g' := (mkF m 0 #[.val (.ref a2), .val (.double (0 : UInt64)), .second, .val (.double (0 : UInt64)), .second, .val (.double (0 : UInt64)), .second, .val (.double (0 : UInt64)), .second, .val (.double f121), .second, .val (.double f121), .second] [])) (by first | (simp [entryFrame, mkF, argsToLocals, Value.category]; done) | rfl) ?_
  generalize hL1 : (#[.val (.ref a2), .val (.double (0 : UInt64)), .second, .val (.double (0 : UInt64)), .second, .val (.double (0 : UInt64)), .second, .val (.double (0 : UInt64)), .second, .val (.double f121), .second, .val (.double f121), .second] : Array Slot) = L1
  refine own_pre (T' := s₁) (g' := (mkF m 1 L1 [(.ref a2)])) (fun t k => XS.aloadN X0.here hx rfl (v := (.ref a2)) (hb hby d5_0) (by rw [← hL1]; rfl) rfl k) ?_
  refine own_init (a := a2) (argsL := []) (rest := []) X0 hx hZ hown (own_s9 l Z a0 hw [] a2 h0 n0 Z0 ) rfl (own_w hw 60 rfl) (own_w hw 61 rfl) (own_w hw 64 rfl) (own_w hw 63 rfl) (by decide) e0 (hb hby d5_1) (by rw [hml, ← hL1]; rfl) rfl (lenOf own_pd0 rfl) (by decide) (W := 0) (Nat.le_of_eq rfl) (by decide) (by decide) (by decide) ?_
  intro v2 T2 lo2 X2 Q2
  obtain ⟨h2, e2⟩ : ∃ h, T2.heap = h := ⟨_, rfl⟩
  rw [e2] at Q2
  obtain ⟨rfl, N2, K2⟩ := Q2
  have N2' := Fr.app N0 N2
  have e2' : T2.heap = h0 := e2.trans K2
  show own_Go _ _ _ _ _ _ _ T2 (mkF m 4 L1 [])
  refine own_pre (T' := T2) (g' := (mkF m 5 L1 [(.ref a2)])) (fun t k => XS.aloadN X2.here hx rfl (v := (.ref a2)) (hb hby d5_4) (by rw [← hL1]; rfl) rfl k) ?_
  refine own_pre (T' := T2) (g' := (mkF m 6 L1 [(.double (0 : UInt64)), (.ref a2)])) (fun t k => XS.dloadN X2.here hx rfl (v := (0 : UInt64)) (hb hby d5_5) (by rw [← hL1]; rfl) k) ?_
  refine own_putf X2 hx hZ hown (own_w hw 66 rfl) e2' N2' H8 H2 H1 (Or.inr ⟨(own_w hw 67 rfl), rfl, hnm⟩) (own_w hw 56 rfl) (ty := .double) (by decide) rfl rfl (hb hby d5_6) ?_
  intro T3 h3 lo3 X3 e3 N3 W3
  have F4 : Fld Z h3 a2 "com/example/rankline/rankline/Extent" "low" "D" (.double (0 : UInt64)) := H2.same W3
  show own_Go _ _ _ _ _ _ _ T3 (mkF m 9 L1 [])
  refine own_pre (T' := T3) (g' := (mkF m 10 L1 [(.ref a2)])) (fun t k => XS.aloadN X3.here hx rfl (v := (.ref a2)) (hb hby d5_9) (by rw [← hL1]; rfl) rfl k) ?_
  refine own_pre (T' := T3) (g' := (mkF m 11 L1 [(.double (0 : UInt64)), (.ref a2)])) (fun t k => XS.dloadN X3.here hx rfl (v := (0 : UInt64)) (hb hby d5_10) (by rw [← hL1]; rfl) k) ?_
  have F5 : Fld Z h3 a2 "com/example/rankline/rankline/Extent" "gapLow" "D" (.double (0 : UInt64)) := (H3.other W3 (Or.inr (slot_ne (C := "com/example/rankline/rankline/Extent") (Or.inr (own_w hw 69 rfl)) (Or.inr (own_w hw 67 rfl)) (by decide) (t := .double) (t' := .double) (by decide) (by decide))))
  have F6 : Exa Z h3 a2 "com/example/rankline/rankline/Extent" := (H1.wr W3)
  refine own_putf X3 hx hZ hown (own_w hw 68 rfl) e3 N3 H8 F5 F6 (Or.inr ⟨(own_w hw 69 rfl), rfl, hnm⟩) (own_w hw 56 rfl) (ty := .double) (by decide) rfl rfl (hb hby d5_11) ?_
  intro T7 h7 lo7 X7 e7 N7 W7
  have F8 : Fld Z h7 a2 "com/example/rankline/rankline/Extent" "gapLow" "D" (.double (0 : UInt64)) := F5.same W7
  show own_Go _ _ _ _ _ _ _ T7 (mkF m 14 L1 [])
  refine own_pre (T' := T7) (g' := (mkF m 15 L1 [(.ref a2)])) (fun t k => XS.aloadN X7.here hx rfl (v := (.ref a2)) (hb hby d5_14) (by rw [← hL1]; rfl) rfl k) ?_
  refine own_pre (T' := T7) (g' := (mkF m 17 L1 [(.double (0 : UInt64)), (.ref a2)])) (fun t k => XS.dload X7.here hx rfl (v := (0 : UInt64)) (hb hby d5_15) (by rw [← hL1]; rfl) k) ?_
  have F9 : Fld Z h7 a2 "com/example/rankline/rankline/Extent" "gapHigh" "D" (.double (0 : UInt64)) := ((H4.other W3 (Or.inr (slot_ne (C := "com/example/rankline/rankline/Extent") (Or.inr (own_w hw 71 rfl)) (Or.inr (own_w hw 67 rfl)) (by decide) (t := .double) (t' := .double) (by decide) (by decide)))).other W7 (Or.inr (slot_ne (C := "com/example/rankline/rankline/Extent") (Or.inr (own_w hw 71 rfl)) (Or.inr (own_w hw 69 rfl)) (by decide) (t := .double) (t' := .double) (by decide) (by decide))))
  have F10 : Exa Z h7 a2 "com/example/rankline/rankline/Extent" := (F6.wr W7)
  refine own_putf X7 hx hZ hown (own_w hw 70 rfl) e7 N7 H8 F9 F10 (Or.inr ⟨(own_w hw 71 rfl), rfl, hnm⟩) (own_w hw 56 rfl) (ty := .double) (by decide) rfl rfl (hb hby d5_17) ?_
  intro T11 h11 lo11 X11 e11 N11 W11
  have F12 : Fld Z h11 a2 "com/example/rankline/rankline/Extent" "gapHigh" "D" (.double (0 : UInt64)) := F9.same W11
  show own_Go _ _ _ _ _ _ _ T11 (mkF m 20 L1 [])
  refine own_pre (T' := T11) (g' := (mkF m 21 L1 [(.ref a2)])) (fun t k => XS.aloadN X11.here hx rfl (v := (.ref a2)) (hb hby d5_20) (by rw [← hL1]; rfl) rfl k) ?_
  refine own_pre (T' := T11) (g' := (mkF m 23 L1 [(.double (0 : UInt64)), (.ref a2)])) (fun t k => XS.dload X11.here hx rfl (v := (0 : UInt64)) (hb hby d5_21) (by rw [← hL1]; rfl) k) ?_
  have F13 : Fld Z h11 a2 "com/example/rankline/rankline/Extent" "high" "D" (.double (0 : UInt64)) := (((H5.other W3 (Or.inr (slot_ne (C := "com/example/rankline/rankline/Extent") (Or.inr (own_w hw 73 rfl)) (Or.inr (own_w hw 67 rfl)) (by decide) (t := .double) (t' := .double) (by decide) (by decide)))).other W7 (Or.inr (slot_ne (C := "com/example/rankline/rankline/Extent") (Or.inr (own_w hw 73 rfl)) (Or.inr (own_w hw 69 rfl)) (by decide) (t := .double) (t' := .double) (by decide) (by decide)))).other W11 (Or.inr (slot_ne (C := "com/example/rankline/rankline/Extent") (Or.inr (own_w hw 73 rfl)) (Or.inr (own_w hw 71 rfl)) (by decide) (t := .double) (t' := .double) (by decide) (by decide))))
  have F14 : Exa Z h11 a2 "com/example/rankline/rankline/Extent" := (F10.wr W11)
  refine own_putf X11 hx hZ hown (own_w hw 72 rfl) e11 N11 H8 F13 F14 (Or.inr ⟨(own_w hw 73 rfl), rfl, hnm⟩) (own_w hw 56 rfl) (ty := .double) (by decide) rfl rfl (hb hby d5_23) ?_
  intro T15 h15 lo15 X15 e15 N15 W15
  have F16 : Fld Z h15 a2 "com/example/rankline/rankline/Extent" "high" "D" (.double (0 : UInt64)) := F13.same W15
  show own_Go _ _ _ _ _ _ _ T15 (mkF m 26 L1 [])
  refine own_pre (T' := T15) (g' := (mkF m 27 L1 [(.ref a2)])) (fun t k => XS.aloadN X15.here hx rfl (v := (.ref a2)) (hb hby d5_26) (by rw [← hL1]; rfl) rfl k) ?_
  refine own_pre (T' := T15) (g' := (mkF m 29 L1 [(.double f121), (.ref a2)])) (fun t k => XS.dload X15.here hx rfl (v := f121) (hb hby d5_27) (by rw [← hL1]; rfl) k) ?_
  have F17 : Fld Z h15 a2 "com/example/rankline/rankline/Extent" "below" "D" (.double (0 : UInt64)) := ((((H6.other W3 (Or.inr (slot_ne (C := "com/example/rankline/rankline/Extent") (Or.inr (own_w hw 75 rfl)) (Or.inr (own_w hw 67 rfl)) (by decide) (t := .double) (t' := .double) (by decide) (by decide)))).other W7 (Or.inr (slot_ne (C := "com/example/rankline/rankline/Extent") (Or.inr (own_w hw 75 rfl)) (Or.inr (own_w hw 69 rfl)) (by decide) (t := .double) (t' := .double) (by decide) (by decide)))).other W11 (Or.inr (slot_ne (C := "com/example/rankline/rankline/Extent") (Or.inr (own_w hw 75 rfl)) (Or.inr (own_w hw 71 rfl)) (by decide) (t := .double) (t' := .double) (by decide) (by decide)))).other W15 (Or.inr (slot_ne (C := "com/example/rankline/rankline/Extent") (Or.inr (own_w hw 75 rfl)) (Or.inr (own_w hw 73 rfl)) (by decide) (t := .double) (t' := .double) (by decide) (by decide))))
  have F18 : Exa Z h15 a2 "com/example/rankline/rankline/Extent" := (F14.wr W15)
  refine own_putf X15 hx hZ hown (own_w hw 74 rfl) e15 N15 H8 F17 F18 (Or.inr ⟨(own_w hw 75 rfl), rfl, hnm⟩) (own_w hw 56 rfl) (ty := .double) (by decide) rfl rfl (hb hby d5_29) ?_
  intro T19 h19 lo19 X19 e19 N19 W19
  have F20 : Fld Z h19 a2 "com/example/rankline/rankline/Extent" "below" "D" (.double f121) := F17.same W19
  show own_Go _ _ _ _ _ _ _ T19 (mkF m 32 L1 [])
  refine own_pre (T' := T19) (g' := (mkF m 33 L1 [(.ref a2)])) (fun t k => XS.aloadN X19.here hx rfl (v := (.ref a2)) (hb hby d5_32) (by rw [← hL1]; rfl) rfl k) ?_
  refine own_pre (T' := T19) (g' := (mkF m 35 L1 [(.double f121), (.ref a2)])) (fun t k => XS.dload X19.here hx rfl (v := f121) (hb hby d5_33) (by rw [← hL1]; rfl) k) ?_
  have F21 : Fld Z h19 a2 "com/example/rankline/rankline/Extent" "count" "D" (.double (0 : UInt64)) := (((((H7.other W3 (Or.inr (slot_ne (C := "com/example/rankline/rankline/Extent") (Or.inr (own_w hw 77 rfl)) (Or.inr (own_w hw 67 rfl)) (by decide) (t := .double) (t' := .double) (by decide) (by decide)))).other W7 (Or.inr (slot_ne (C := "com/example/rankline/rankline/Extent") (Or.inr (own_w hw 77 rfl)) (Or.inr (own_w hw 69 rfl)) (by decide) (t := .double) (t' := .double) (by decide) (by decide)))).other W11 (Or.inr (slot_ne (C := "com/example/rankline/rankline/Extent") (Or.inr (own_w hw 77 rfl)) (Or.inr (own_w hw 71 rfl)) (by decide) (t := .double) (t' := .double) (by decide) (by decide)))).other W15 (Or.inr (slot_ne (C := "com/example/rankline/rankline/Extent") (Or.inr (own_w hw 77 rfl)) (Or.inr (own_w hw 73 rfl)) (by decide) (t := .double) (t' := .double) (by decide) (by decide)))).other W19 (Or.inr (slot_ne (C := "com/example/rankline/rankline/Extent") (Or.inr (own_w hw 77 rfl)) (Or.inr (own_w hw 75 rfl)) (by decide) (t := .double) (t' := .double) (by decide) (by decide))))
  have F22 : Exa Z h19 a2 "com/example/rankline/rankline/Extent" := (F18.wr W19)
  refine own_putf X19 hx hZ hown (own_w hw 76 rfl) e19 N19 H8 F21 F22 (Or.inr ⟨(own_w hw 77 rfl), rfl, hnm⟩) (own_w hw 56 rfl) (ty := .double) (by decide) rfl rfl (hb hby d5_35) ?_
  intro T23 h23 lo23 X23 e23 N23 W23
  have F24 : Fld Z h23 a2 "com/example/rankline/rankline/Extent" "count" "D" (.double f121) := F21.same W23
  show own_Go _ _ _ _ _ _ _ T23 (mkF m 38 L1 [])
  have F25 : Fld Z h23 a2 "com/example/rankline/rankline/Extent" "low" "D" (.double (0 : UInt64)) := (((((F4.other W7 (Or.inr (slot_ne (C := "com/example/rankline/rankline/Extent") (Or.inr (own_w hw 67 rfl)) (Or.inr (own_w hw 69 rfl)) (by decide) (t := .double) (t' := .double) (by decide) (by decide)))).other W11 (Or.inr (slot_ne (C := "com/example/rankline/rankline/Extent") (Or.inr (own_w hw 67 rfl)) (Or.inr (own_w hw 71 rfl)) (by decide) (t := .double) (t' := .double) (by decide) (by decide)))).other W15 (Or.inr (slot_ne (C := "com/example/rankline/rankline/Extent") (Or.inr (own_w hw 67 rfl)) (Or.inr (own_w hw 73 rfl)) (by decide) (t := .double) (t' := .double) (by decide) (by decide)))).other W19 (Or.inr (slot_ne (C := "com/example/rankline/rankline/Extent") (Or.inr (own_w hw 67 rfl)) (Or.inr (own_w hw 75 rfl)) (by decide) (t := .double) (t' := .double) (by decide) (by decide)))).other W23 (Or.inr (slot_ne (C := "com/example/rankline/rankline/Extent") (Or.inr (own_w hw 67 rfl)) (Or.inr (own_w hw 77 rfl)) (by decide) (t := .double) (t' := .double) (by decide) (by decide))))
  have F26 : Fld Z h23 a2 "com/example/rankline/rankline/Extent" "gapLow" "D" (.double (0 : UInt64)) := ((((F8.other W11 (Or.inr (slot_ne (C := "com/example/rankline/rankline/Extent") (Or.inr (own_w hw 69 rfl)) (Or.inr (own_w hw 71 rfl)) (by decide) (t := .double) (t' := .double) (by decide) (by decide)))).other W15 (Or.inr (slot_ne (C := "com/example/rankline/rankline/Extent") (Or.inr (own_w hw 69 rfl)) (Or.inr (own_w hw 73 rfl)) (by decide) (t := .double) (t' := .double) (by decide) (by decide)))).other W19 (Or.inr (slot_ne (C := "com/example/rankline/rankline/Extent") (Or.inr (own_w hw 69 rfl)) (Or.inr (own_w hw 75 rfl)) (by decide) (t := .double) (t' := .double) (by decide) (by decide)))).other W23 (Or.inr (slot_ne (C := "com/example/rankline/rankline/Extent") (Or.inr (own_w hw 69 rfl)) (Or.inr (own_w hw 77 rfl)) (by decide) (t := .double) (t' := .double) (by decide) (by decide))))
  have F27 : Fld Z h23 a2 "com/example/rankline/rankline/Extent" "gapHigh" "D" (.double (0 : UInt64)) := (((F12.other W15 (Or.inr (slot_ne (C := "com/example/rankline/rankline/Extent") (Or.inr (own_w hw 71 rfl)) (Or.inr (own_w hw 73 rfl)) (by decide) (t := .double) (t' := .double) (by decide) (by decide)))).other W19 (Or.inr (slot_ne (C := "com/example/rankline/rankline/Extent") (Or.inr (own_w hw 71 rfl)) (Or.inr (own_w hw 75 rfl)) (by decide) (t := .double) (t' := .double) (by decide) (by decide)))).other W23 (Or.inr (slot_ne (C := "com/example/rankline/rankline/Extent") (Or.inr (own_w hw 71 rfl)) (Or.inr (own_w hw 77 rfl)) (by decide) (t := .double) (t' := .double) (by decide) (by decide))))
  have F28 : Fld Z h23 a2 "com/example/rankline/rankline/Extent" "high" "D" (.double (0 : UInt64)) := ((F16.other W19 (Or.inr (slot_ne (C := "com/example/rankline/rankline/Extent") (Or.inr (own_w hw 73 rfl)) (Or.inr (own_w hw 75 rfl)) (by decide) (t := .double) (t' := .double) (by decide) (by decide)))).other W23 (Or.inr (slot_ne (C := "com/example/rankline/rankline/Extent") (Or.inr (own_w hw 73 rfl)) (Or.inr (own_w hw 77 rfl)) (by decide) (t := .double) (t' := .double) (by decide) (by decide))))
  have F29 : Fld Z h23 a2 "com/example/rankline/rankline/Extent" "below" "D" (.double f121) := (F20.other W23 (Or.inr (slot_ne (C := "com/example/rankline/rankline/Extent") (Or.inr (own_w hw 75 rfl)) (Or.inr (own_w hw 77 rfl)) (by decide) (t := .double) (t' := .double) (by decide) (by decide))))
  exact own_ret0 X23 hx hlk hret (hb hby d5_38) e23 ⟨rfl, N23, (((((((Keep.refl _ _).wr W3 (Or.inl (by simp))).wr W7 (Or.inl (by simp))).wr W11 (Or.inl (by simp))).wr W15 (Or.inl (by simp))).wr W19 (Or.inl (by simp))).wr W23 (Or.inl (by simp))), F25, F26, F27, F28, F29, F24⟩ (by decide) (by decide)
def own_s7_Q (Z : State) (f121 : UInt64) (v2 : Int32) (h0 : Heap) (n0 : Nat) (v_ : Option Value) (h_ : Heap) (L_ : List Loc) : Prop := (fun v h L => ∃ (a2 : Addr), v = some (.ref a2) ∧ Fr n0 L ∧ Keep h0 h [] ∧ h0.size ≤ a2 ∧ Exa Z h a2 "com/example/rankline/rankline/Extent" ∧ Fld Z h a2 "com/example/rankline/rankline/Extent" "low" "D" (.double (0 : UInt64)) ∧ Fld Z h a2 "com/example/rankline/rankline/Extent" "gapLow" "D" (.double (0 : UInt64)) ∧ Fld Z h a2 "com/example/rankline/rankline/Extent" "gapHigh" "D" (.double (0 : UInt64)) ∧ Fld Z h a2 "com/example/rankline/rankline/Extent" "high" "D" (.double (0 : UInt64)) ∧ Fld Z h a2 "com/example/rankline/rankline/Extent" "below" "D" (.double f121) ∧ Fld Z h a2 "com/example/rankline/rankline/Extent" "count" "D" (.double f121)) v_ h_ L_
set_option maxRecDepth 65536 in
set_option maxHeartbeats 40000000 in
theorem own_s7 (l : Launch) (Z : State) (a0 : Array Value) (hw : ∀ d ∈ tables_1, d.before a0 Z = true) (wds : List Jvm.Cond) (f121 : UInt64) (v2 : Int32) (h0 : Heap) (n0 : Nat) (Z0 : n0 ≤ h0.size)  :
    MetFree l (⟨"com/example/rankline/rankline/Extent", "of", "(DDD)Lcom/example/rankline/rankline/Extent;"⟩ : MethodName) (head1 (Jvm.Cond.code (⟨"com/example/rankline/rankline/Extent", "of", "(DDD)Lcom/example/rankline/rankline/Extent;"⟩ : MethodName) prog_17_method_2_code 6 (some (.object "com/example/rankline/rankline/Extent")) :: wds) ({ frames := 3, cells := 1, slots := 6, locals := 49 } : Room)) (fun ar_ U_ => ar_ = #[(.double (0 : UInt64)), (.double (0 : UInt64)), (.double f121)] ∧ Z.Warmed39 U_.vm ∧ U_.heap = h0) (fun _ _ _ _ _ => True) (fun _ U_ o_ V_ => ∃ v_ L_, o_ = .returned v_ ∧ own_s7_Q Z f121 v2 h0 n0 v_ V_.heap L_ ∧ FrameEnd U_ o_ V_ L_ ({ frames := 3, cells := 1, slots := 6, locals := 49 } : Room).cells ({ frames := 3, cells := 1, slots := 6, locals := 49 } : Room).slots) := by
  refine own_met (y := ⟨"com/example/rankline/rankline/Extent", "of", "(DDD)Lcom/example/rankline/rankline/Extent;"⟩) (Q := own_s7_Q Z f121 v2 h0 n0) own_pn2 ?_
  intro p e s m below meth c s₁ hx hby hml hZ hown hnm hret hlk X0 e0
  have N0 := Fr.nil n0
  refine own_cast (g' := (mkF m 0 #[.val (.double (0 : UInt64)), .second, .val (.double (0 : UInt64)), .second, .val (.double f121), .second] [])) (by first | (simp [entryFrame, mkF, argsToLocals, Value.category]; done) | rfl) ?_
  generalize hL1 : (#[.val (.double (0 : UInt64)), .second, .val (.double (0 : UInt64)), .second, .val (.double f121), .second] : Array Slot) = L1
  refine own_newobj X0 hx hZ hown (own_w hw 55 rfl) (own_w hw 56 rfl) (own_w hw 53 rfl) e0 (hb hby d4_0) (by decide) (by decide) ?_
  intro T2 h2 a2 g2 X2 e2 E2 A2 D2
  have ge3 : h0.size ≤ a2 := Nat.le_trans (Nat.le_refl _) (Nat.le_of_eq g2.symm)
  have nw4 : n0 ≤ a2 := Nat.le_trans Z0 (Nat.le_of_eq g2.symm)
  have F5 : Fld Z h2 a2 "com/example/rankline/rankline/Extent" "low" "D" (.double (0 : UInt64)) := D2 (Or.inr (own_w hw 67 rfl)) (ty := .double) (by decide)
  have F6 : Fld Z h2 a2 "com/example/rankline/rankline/Extent" "gapLow" "D" (.double (0 : UInt64)) := D2 (Or.inr (own_w hw 69 rfl)) (ty := .double) (by decide)
  have F7 : Fld Z h2 a2 "com/example/rankline/rankline/Extent" "gapHigh" "D" (.double (0 : UInt64)) := D2 (Or.inr (own_w hw 71 rfl)) (ty := .double) (by decide)
  have F8 : Fld Z h2 a2 "com/example/rankline/rankline/Extent" "high" "D" (.double (0 : UInt64)) := D2 (Or.inr (own_w hw 73 rfl)) (ty := .double) (by decide)
  have F9 : Fld Z h2 a2 "com/example/rankline/rankline/Extent" "below" "D" (.double (0 : UInt64)) := D2 (Or.inr (own_w hw 75 rfl)) (ty := .double) (by decide)
  have F10 : Fld Z h2 a2 "com/example/rankline/rankline/Extent" "count" "D" (.double (0 : UInt64)) := D2 (Or.inr (own_w hw 77 rfl)) (ty := .double) (by decide)
  show own_Go _ _ _ _ _ _ _ T2 (mkF m 3 L1 [(.ref a2)])
  refine own_pre (T' := T2) (g' := (mkF m 4 L1 [(.ref a2), (.ref a2)])) (fun t k => XS.dup X2.here hx rfl (hb hby d4_3) rfl rfl k) ?_
  refine own_pre (T' := T2) (g' := (mkF m 5 L1 [(.double (0 : UInt64)), (.ref a2), (.ref a2)])) (fun t k => XS.dloadN X2.here hx rfl (v := (0 : UInt64)) (hb hby d4_4) (by rw [← hL1]; rfl) k) ?_
  refine own_pre (T' := T2) (g' := (mkF m 6 L1 [(.double (0 : UInt64)), (.double (0 : UInt64)), (.ref a2), (.ref a2)])) (fun t k => XS.dloadN X2.here hx rfl (v := (0 : UInt64)) (hb hby d4_5) (by rw [← hL1]; rfl) k) ?_
  refine own_pre (T' := T2) (g' := (mkF m 7 L1 [(.double (0 : UInt64)), (.double (0 : UInt64)), (.double (0 : UInt64)), (.ref a2), (.ref a2)])) (fun t k => XS.dloadN X2.here hx rfl (v := (0 : UInt64)) (hb hby d4_6) (by rw [← hL1]; rfl) k) ?_
  refine own_pre (T' := T2) (g' := (mkF m 8 L1 [(.double (0 : UInt64)), (.double (0 : UInt64)), (.double (0 : UInt64)), (.double (0 : UInt64)), (.ref a2), (.ref a2)])) (fun t k => XS.dloadN X2.here hx rfl (v := (0 : UInt64)) (hb hby d4_7) (by rw [← hL1]; rfl) k) ?_
  refine own_pre (T' := T2) (g' := (mkF m 10 L1 [(.double f121), (.double (0 : UInt64)), (.double (0 : UInt64)), (.double (0 : UInt64)), (.double (0 : UInt64)), (.ref a2), (.ref a2)])) (fun t k => XS.dload X2.here hx rfl (v := f121) (hb hby d4_8) (by rw [← hL1]; rfl) k) ?_
  refine own_pre (T' := T2) (g' := (mkF m 12 L1 [(.double f121), (.double f121), (.double (0 : UInt64)), (.double (0 : UInt64)), (.double (0 : UInt64)), (.double (0 : UInt64)), (.ref a2), (.ref a2)])) (fun t k => XS.dload X2.here hx rfl (v := f121) (hb hby d4_10) (by rw [← hL1]; rfl) k) ?_
  have F11 : n0 ≤ h2.size := (Nat.le_trans Z0 E2.1)
  refine own_init (a := a2) (argsL := [(.double (0 : UInt64)), (.double (0 : UInt64)), (.double (0 : UInt64)), (.double (0 : UInt64)), (.double f121), (.double f121)]) (rest := [(.ref a2)]) X2 hx hZ hown (own_s8 l Z a0 hw [] a2 f121 v2 h2 n0 F11 A2 F5 F6 F7 F8 F9 F10 nw4) rfl (own_w hw 57 rfl) (own_w hw 58 rfl) (own_w hw 59 rfl) (own_w hw 53 rfl) (by decide) e2 (hb hby d4_12) (by rw [hml, ← hL1]; rfl) rfl (lenOf own_pd1 rfl) (by decide) (W := 1) (Nat.le_of_eq rfl) (by decide) (by decide) (by decide) ?_
  intro v12 T12 lo12 X12 Q12
  obtain ⟨h12, e12⟩ : ∃ h, T12.heap = h := ⟨_, rfl⟩
  rw [e12] at Q12
  obtain ⟨rfl, N12, K12, F13, F14, F15, F16, F17, F18⟩ := Q12
  have N12' := Fr.app N0 N12
  show own_Go _ _ _ _ _ _ _ T12 (mkF m 15 L1 [(.ref a2)])
  have F19 : Exa Z h12 a2 "com/example/rankline/rankline/Extent" := (A2.keep K12)
  exact own_retA X12 hx hlk hret rfl rfl rfl (hb hby d4_15) e12 ⟨a2, rfl, N12', (((Keep.refl _ _).ext E2).trans K12 (allS (Or.inr ge3) all0)), ge3, F19, F13, F14, F15, F16, F17, F18⟩ (by decide) (by decide)
theorem d8_0 : decode prog_5_method_55_code 0 = .ok (.aload_n 0, 1) := by decide +kernel
theorem d8_1 : decode prog_5_method_55_code 1 = .ok (.invokevirtual 295, 3) := by decide +kernel
theorem d8_4 : decode prog_5_method_55_code 4 = .ok (.istore 9, 2) := by decide +kernel
theorem d8_6 : decode prog_5_method_55_code 6 = .ok (.aload_n 0, 1) := by decide +kernel
theorem d8_7 : decode prog_5_method_55_code 7 = .ok (.getfield 9, 3) := by decide +kernel
theorem d8_10 : decode prog_5_method_55_code 10 = .ok (.iload 9, 2) := by decide +kernel
theorem d8_12 : decode prog_5_method_55_code 12 = .ok (.dload_n 2, 1) := by decide +kernel
theorem d8_13 : decode prog_5_method_55_code 13 = .ok (.dastore, 1) := by decide +kernel
theorem d8_14 : decode prog_5_method_55_code 14 = .ok (.aload_n 0, 1) := by decide +kernel
theorem d8_15 : decode prog_5_method_55_code 15 = .ok (.getfield 13, 3) := by decide +kernel
theorem d8_18 : decode prog_5_method_55_code 18 = .ok (.iload 9, 2) := by decide +kernel
theorem d8_20 : decode prog_5_method_55_code 20 = .ok (.dload 4, 2) := by decide +kernel
theorem d8_22 : decode prog_5_method_55_code 22 = .ok (.dastore, 1) := by decide +kernel
theorem d8_23 : decode prog_5_method_55_code 23 = .ok (.aload_n 0, 1) := by decide +kernel
theorem d8_24 : decode prog_5_method_55_code 24 = .ok (.getfield 16, 3) := by decide +kernel
theorem d8_27 : decode prog_5_method_55_code 27 = .ok (.iload 9, 2) := by decide +kernel
theorem d8_29 : decode prog_5_method_55_code 29 = .ok (.iconst 0, 1) := by decide +kernel
theorem d8_30 : decode prog_5_method_55_code 30 = .ok (.bastore, 1) := by decide +kernel
theorem d8_31 : decode prog_5_method_55_code 31 = .ok (.aload_n 0, 1) := by decide +kernel
theorem d8_32 : decode prog_5_method_55_code 32 = .ok (.getfield 22, 3) := by decide +kernel
theorem d8_35 : decode prog_5_method_55_code 35 = .ok (.iload 9, 2) := by decide +kernel
theorem d8_37 : decode prog_5_method_55_code 37 = .ok (.aload 6, 2) := by decide +kernel
theorem d8_39 : decode prog_5_method_55_code 39 = .ok (.aastore, 1) := by decide +kernel
theorem d8_40 : decode prog_5_method_55_code 40 = .ok (.aload_n 0, 1) := by decide +kernel
theorem d8_41 : decode prog_5_method_55_code 41 = .ok (.getfield 26, 3) := by decide +kernel
theorem d8_44 : decode prog_5_method_55_code 44 = .ok (.iload 9, 2) := by decide +kernel
theorem d8_46 : decode prog_5_method_55_code 46 = .ok (.iconst 0, 1) := by decide +kernel
theorem d8_47 : decode prog_5_method_55_code 47 = .ok (.bastore, 1) := by decide +kernel
theorem d8_48 : decode prog_5_method_55_code 48 = .ok (.aload_n 0, 1) := by decide +kernel
theorem d8_49 : decode prog_5_method_55_code 49 = .ok (.getfield 29, 3) := by decide +kernel
theorem d8_52 : decode prog_5_method_55_code 52 = .ok (.iload 9, 2) := by decide +kernel
theorem d8_54 : decode prog_5_method_55_code 54 = .ok (.lload 7, 2) := by decide +kernel
theorem d8_56 : decode prog_5_method_55_code 56 = .ok (.lastore, 1) := by decide +kernel
theorem d8_57 : decode prog_5_method_55_code 57 = .ok (.iload_n 1, 1) := by decide +kernel
theorem d8_58 : decode prog_5_method_55_code 58 = .ok (.iconst (-1), 1) := by decide +kernel
theorem d8_59 : decode prog_5_method_55_code 59 = .ok (.if_icmp .ne 10, 3) := by decide +kernel
theorem d8_62 : decode prog_5_method_55_code 62 = .ok (.aload_n 0, 1) := by decide +kernel
theorem d8_63 : decode prog_5_method_55_code 63 = .ok (.getfield 44, 3) := by decide +kernel
theorem d8_66 : decode prog_5_method_55_code 66 = .ok (.goto 9, 3) := by decide +kernel
theorem d8_69 : decode prog_5_method_55_code 69 = .ok (.aload_n 0, 1) := by decide +kernel
theorem d8_70 : decode prog_5_method_55_code 70 = .ok (.getfield 37, 3) := by decide +kernel
theorem d8_73 : decode prog_5_method_55_code 73 = .ok (.iload_n 1, 1) := by decide +kernel
theorem d8_74 : decode prog_5_method_55_code 74 = .ok (.iaload, 1) := by decide +kernel
theorem d8_75 : decode prog_5_method_55_code 75 = .ok (.istore 10, 2) := by decide +kernel
theorem d8_77 : decode prog_5_method_55_code 77 = .ok (.aload_n 0, 1) := by decide +kernel
theorem d8_78 : decode prog_5_method_55_code 78 = .ok (.getfield 33, 3) := by decide +kernel
theorem d8_81 : decode prog_5_method_55_code 81 = .ok (.iload 9, 2) := by decide +kernel
theorem d8_83 : decode prog_5_method_55_code 83 = .ok (.iload_n 1, 1) := by decide +kernel
theorem d8_84 : decode prog_5_method_55_code 84 = .ok (.iastore, 1) := by decide +kernel
theorem d8_85 : decode prog_5_method_55_code 85 = .ok (.aload_n 0, 1) := by decide +kernel
theorem d8_86 : decode prog_5_method_55_code 86 = .ok (.getfield 37, 3) := by decide +kernel
theorem d8_89 : decode prog_5_method_55_code 89 = .ok (.iload 9, 2) := by decide +kernel
theorem d8_91 : decode prog_5_method_55_code 91 = .ok (.iload 10, 2) := by decide +kernel
theorem d8_93 : decode prog_5_method_55_code 93 = .ok (.iastore, 1) := by decide +kernel
theorem d8_94 : decode prog_5_method_55_code 94 = .ok (.iload 10, 2) := by decide +kernel
theorem d8_96 : decode prog_5_method_55_code 96 = .ok (.iconst (-1), 1) := by decide +kernel
theorem d8_97 : decode prog_5_method_55_code 97 = .ok (.if_icmp .ne 12, 3) := by decide +kernel
theorem d8_100 : decode prog_5_method_55_code 100 = .ok (.aload_n 0, 1) := by decide +kernel
theorem d8_101 : decode prog_5_method_55_code 101 = .ok (.iload 9, 2) := by decide +kernel
theorem d8_103 : decode prog_5_method_55_code 103 = .ok (.putfield 40, 3) := by decide +kernel
theorem d8_106 : decode prog_5_method_55_code 106 = .ok (.goto 12, 3) := by decide +kernel
theorem d8_109 : decode prog_5_method_55_code 109 = .ok (.aload_n 0, 1) := by decide +kernel
theorem d8_110 : decode prog_5_method_55_code 110 = .ok (.getfield 33, 3) := by decide +kernel
theorem d8_113 : decode prog_5_method_55_code 113 = .ok (.iload 10, 2) := by decide +kernel
theorem d8_115 : decode prog_5_method_55_code 115 = .ok (.iload 9, 2) := by decide +kernel
theorem d8_117 : decode prog_5_method_55_code 117 = .ok (.iastore, 1) := by decide +kernel
theorem d8_118 : decode prog_5_method_55_code 118 = .ok (.iload_n 1, 1) := by decide +kernel
theorem d8_119 : decode prog_5_method_55_code 119 = .ok (.iconst (-1), 1) := by decide +kernel
theorem d8_120 : decode prog_5_method_55_code 120 = .ok (.if_icmp .ne 12, 3) := by decide +kernel
theorem d8_123 : decode prog_5_method_55_code 123 = .ok (.aload_n 0, 1) := by decide +kernel
theorem d8_124 : decode prog_5_method_55_code 124 = .ok (.iload 9, 2) := by decide +kernel
theorem d8_126 : decode prog_5_method_55_code 126 = .ok (.putfield 44, 3) := by decide +kernel
theorem d8_129 : decode prog_5_method_55_code 129 = .ok (.goto 11, 3) := by decide +kernel
theorem d8_132 : decode prog_5_method_55_code 132 = .ok (.aload_n 0, 1) := by decide +kernel
theorem d8_133 : decode prog_5_method_55_code 133 = .ok (.getfield 37, 3) := by decide +kernel
theorem d8_136 : decode prog_5_method_55_code 136 = .ok (.iload_n 1, 1) := by decide +kernel
theorem d8_137 : decode prog_5_method_55_code 137 = .ok (.iload 9, 2) := by decide +kernel
theorem d8_139 : decode prog_5_method_55_code 139 = .ok (.iastore, 1) := by decide +kernel
theorem d8_140 : decode prog_5_method_55_code 140 = .ok (.aload_n 0, 1) := by decide +kernel
theorem d8_141 : decode prog_5_method_55_code 141 = .ok (.dup, 1) := by decide +kernel
theorem d8_142 : decode prog_5_method_55_code 142 = .ok (.getfield 58, 3) := by decide +kernel
theorem d8_145 : decode prog_5_method_55_code 145 = .ok (.iconst 1, 1) := by decide +kernel
theorem d8_146 : decode prog_5_method_55_code 146 = .ok (.iadd, 1) := by decide +kernel
theorem d8_147 : decode prog_5_method_55_code 147 = .ok (.putfield 58, 3) := by decide +kernel
theorem d8_150 : decode prog_5_method_55_code 150 = .ok (.iload 9, 2) := by decide +kernel
theorem d8_152 : decode prog_5_method_55_code 152 = .ok (.ireturn, 1) := by decide +kernel
theorem d9_0 : decode prog_5_method_56_code 0 = .ok (.aload_n 0, 1) := by decide +kernel
theorem d9_1 : decode prog_5_method_56_code 1 = .ok (.getfield 47, 3) := by decide +kernel
theorem d9_4 : decode prog_5_method_56_code 4 = .ok (.iconst (-1), 1) := by decide +kernel
theorem d9_5 : decode prog_5_method_56_code 5 = .ok (.if_icmp .eq 20, 3) := by decide +kernel
theorem d9_8 : decode prog_5_method_56_code 8 = .ok (.aload_n 0, 1) := by decide +kernel
theorem d9_9 : decode prog_5_method_56_code 9 = .ok (.getfield 47, 3) := by decide +kernel
theorem d9_12 : decode prog_5_method_56_code 12 = .ok (.istore_n 1, 1) := by decide +kernel
theorem d9_13 : decode prog_5_method_56_code 13 = .ok (.aload_n 0, 1) := by decide +kernel
theorem d9_14 : decode prog_5_method_56_code 14 = .ok (.aload_n 0, 1) := by decide +kernel
theorem d9_15 : decode prog_5_method_56_code 15 = .ok (.getfield 33, 3) := by decide +kernel
theorem d9_18 : decode prog_5_method_56_code 18 = .ok (.iload_n 1, 1) := by decide +kernel
theorem d9_19 : decode prog_5_method_56_code 19 = .ok (.iaload, 1) := by decide +kernel
theorem d9_20 : decode prog_5_method_56_code 20 = .ok (.putfield 47, 3) := by decide +kernel
theorem d9_23 : decode prog_5_method_56_code 23 = .ok (.iload_n 1, 1) := by decide +kernel
theorem d9_24 : decode prog_5_method_56_code 24 = .ok (.ireturn, 1) := by decide +kernel
theorem d9_25 : decode prog_5_method_56_code 25 = .ok (.aload_n 0, 1) := by decide +kernel
theorem d9_26 : decode prog_5_method_56_code 26 = .ok (.getfield 61, 3) := by decide +kernel
theorem d9_29 : decode prog_5_method_56_code 29 = .ok (.aload_n 0, 1) := by decide +kernel
theorem d9_30 : decode prog_5_method_56_code 30 = .ok (.getfield 9, 3) := by decide +kernel
theorem d9_33 : decode prog_5_method_56_code 33 = .ok (.arraylength, 1) := by decide +kernel
theorem d9_34 : decode prog_5_method_56_code 34 = .ok (.if_icmp .ne 109, 3) := by decide +kernel
theorem d9_37 : decode prog_5_method_56_code 37 = .ok (.iconst 2, 1) := by decide +kernel
theorem d9_38 : decode prog_5_method_56_code 38 = .ok (.aload_n 0, 1) := by decide +kernel
theorem d9_39 : decode prog_5_method_56_code 39 = .ok (.getfield 61, 3) := by decide +kernel
theorem d9_42 : decode prog_5_method_56_code 42 = .ok (.imul, 1) := by decide +kernel
theorem d9_43 : decode prog_5_method_56_code 43 = .ok (.istore_n 1, 1) := by decide +kernel
theorem d9_44 : decode prog_5_method_56_code 44 = .ok (.aload_n 0, 1) := by decide +kernel
theorem d9_45 : decode prog_5_method_56_code 45 = .ok (.aload_n 0, 1) := by decide +kernel
theorem d9_46 : decode prog_5_method_56_code 46 = .ok (.getfield 9, 3) := by decide +kernel
theorem d9_49 : decode prog_5_method_56_code 49 = .ok (.iload_n 1, 1) := by decide +kernel
theorem d9_50 : decode prog_5_method_56_code 50 = .ok (.invokestatic 298, 3) := by decide +kernel
theorem d9_53 : decode prog_5_method_56_code 53 = .ok (.putfield 9, 3) := by decide +kernel
theorem d9_56 : decode prog_5_method_56_code 56 = .ok (.aload_n 0, 1) := by decide +kernel
theorem d9_57 : decode prog_5_method_56_code 57 = .ok (.aload_n 0, 1) := by decide +kernel
theorem d9_58 : decode prog_5_method_56_code 58 = .ok (.getfield 13, 3) := by decide +kernel
theorem d9_61 : decode prog_5_method_56_code 61 = .ok (.iload_n 1, 1) := by decide +kernel
theorem d9_62 : decode prog_5_method_56_code 62 = .ok (.invokestatic 298, 3) := by decide +kernel
theorem d9_65 : decode prog_5_method_56_code 65 = .ok (.putfield 13, 3) := by decide +kernel
theorem d9_68 : decode prog_5_method_56_code 68 = .ok (.aload_n 0, 1) := by decide +kernel
theorem d9_69 : decode prog_5_method_56_code 69 = .ok (.aload_n 0, 1) := by decide +kernel
theorem d9_70 : decode prog_5_method_56_code 70 = .ok (.getfield 16, 3) := by decide +kernel
theorem d9_73 : decode prog_5_method_56_code 73 = .ok (.iload_n 1, 1) := by decide +kernel
theorem d9_74 : decode prog_5_method_56_code 74 = .ok (.invokestatic 302, 3) := by decide +kernel
theorem d9_77 : decode prog_5_method_56_code 77 = .ok (.putfield 16, 3) := by decide +kernel
theorem d9_80 : decode prog_5_method_56_code 80 = .ok (.aload_n 0, 1) := by decide +kernel
theorem d9_81 : decode prog_5_method_56_code 81 = .ok (.aload_n 0, 1) := by decide +kernel
theorem d9_82 : decode prog_5_method_56_code 82 = .ok (.getfield 22, 3) := by decide +kernel
theorem d9_85 : decode prog_5_method_56_code 85 = .ok (.iload_n 1, 1) := by decide +kernel
theorem d9_86 : decode prog_5_method_56_code 86 = .ok (.invokestatic 305, 3) := by decide +kernel
theorem d9_89 : decode prog_5_method_56_code 89 = .ok (.checkcast 308, 3) := by decide +kernel
theorem d9_92 : decode prog_5_method_56_code 92 = .ok (.putfield 22, 3) := by decide +kernel
theorem d9_95 : decode prog_5_method_56_code 95 = .ok (.aload_n 0, 1) := by decide +kernel
theorem d9_96 : decode prog_5_method_56_code 96 = .ok (.aload_n 0, 1) := by decide +kernel
theorem d9_97 : decode prog_5_method_56_code 97 = .ok (.getfield 26, 3) := by decide +kernel
theorem d9_100 : decode prog_5_method_56_code 100 = .ok (.iload_n 1, 1) := by decide +kernel
theorem d9_101 : decode prog_5_method_56_code 101 = .ok (.invokestatic 302, 3) := by decide +kernel
theorem d9_104 : decode prog_5_method_56_code 104 = .ok (.putfield 26, 3) := by decide +kernel
theorem d9_107 : decode prog_5_method_56_code 107 = .ok (.aload_n 0, 1) := by decide +kernel
theorem d9_108 : decode prog_5_method_56_code 108 = .ok (.aload_n 0, 1) := by decide +kernel
theorem d9_109 : decode prog_5_method_56_code 109 = .ok (.getfield 29, 3) := by decide +kernel
theorem d9_112 : decode prog_5_method_56_code 112 = .ok (.iload_n 1, 1) := by decide +kernel
theorem d9_113 : decode prog_5_method_56_code 113 = .ok (.invokestatic 309, 3) := by decide +kernel
theorem d9_116 : decode prog_5_method_56_code 116 = .ok (.putfield 29, 3) := by decide +kernel
theorem d9_119 : decode prog_5_method_56_code 119 = .ok (.aload_n 0, 1) := by decide +kernel
theorem d9_120 : decode prog_5_method_56_code 120 = .ok (.aload_n 0, 1) := by decide +kernel
theorem d9_121 : decode prog_5_method_56_code 121 = .ok (.getfield 33, 3) := by decide +kernel
theorem d9_124 : decode prog_5_method_56_code 124 = .ok (.iload_n 1, 1) := by decide +kernel
theorem d9_125 : decode prog_5_method_56_code 125 = .ok (.invokestatic 312, 3) := by decide +kernel
theorem d9_128 : decode prog_5_method_56_code 128 = .ok (.putfield 33, 3) := by decide +kernel
theorem d9_131 : decode prog_5_method_56_code 131 = .ok (.aload_n 0, 1) := by decide +kernel
theorem d9_132 : decode prog_5_method_56_code 132 = .ok (.aload_n 0, 1) := by decide +kernel
theorem d9_133 : decode prog_5_method_56_code 133 = .ok (.getfield 37, 3) := by decide +kernel
theorem d9_136 : decode prog_5_method_56_code 136 = .ok (.iload_n 1, 1) := by decide +kernel
theorem d9_137 : decode prog_5_method_56_code 137 = .ok (.invokestatic 312, 3) := by decide +kernel
theorem d9_140 : decode prog_5_method_56_code 140 = .ok (.putfield 37, 3) := by decide +kernel
theorem d9_143 : decode prog_5_method_56_code 143 = .ok (.aload_n 0, 1) := by decide +kernel
theorem d9_144 : decode prog_5_method_56_code 144 = .ok (.dup, 1) := by decide +kernel
theorem d9_145 : decode prog_5_method_56_code 145 = .ok (.getfield 61, 3) := by decide +kernel
theorem d9_148 : decode prog_5_method_56_code 148 = .ok (.dup_x1, 1) := by decide +kernel
theorem d9_149 : decode prog_5_method_56_code 149 = .ok (.iconst 1, 1) := by decide +kernel
theorem d9_150 : decode prog_5_method_56_code 150 = .ok (.iadd, 1) := by decide +kernel
theorem d9_151 : decode prog_5_method_56_code 151 = .ok (.putfield 61, 3) := by decide +kernel
theorem d9_154 : decode prog_5_method_56_code 154 = .ok (.ireturn, 1) := by decide +kernel
def own_s11_Q (Z : State) (a10 : Addr) (a28 : Addr) (a29 : Addr) (a30 : Addr) (a31 : Addr) (a32 : Addr) (a33 : Addr) (a34 : Addr) (a35 : Addr) (h0 : Heap) (n0 : Nat) (v_ : Option Value) (h_ : Heap) (L_ : List Loc) : Prop := (fun v h L => v = some (.int (0 : Int32)) ∧ Fr n0 L ∧ Keep h0 h [a10] ∧ Fld Z h a10 "com/example/rankline/rankline/Buckets" "thresholds" "[D" (.ref a28) ∧ Fld Z h a10 "com/example/rankline/rankline/Buckets" "ranks" "[D" (.ref a29) ∧ Fld Z h a10 "com/example/rankline/rankline/Buckets" "guarded" "[Z" (.ref a30) ∧ Fld Z h a10 "com/example/rankline/rankline/Buckets" "extents" "[Lcom/example/rankline/rankline/Extent;" (.ref a31) ∧ Fld Z h a10 "com/example/rankline/rankline/Buckets" "addedAtThreshold" "[Z" (.ref a32) ∧ Fld Z h a10 "com/example/rankline/rankline/Buckets" "copies" "[J" (.ref a33) ∧ Fld Z h a10 "com/example/rankline/rankline/Buckets" "nextOf" "[I" (.ref a34) ∧ Fld Z h a10 "com/example/rankline/rankline/Buckets" "previousOf" "[I" (.ref a35) ∧ Fld Z h a10 "com/example/rankline/rankline/Buckets" "first" "I" (.int (-1 : Int32)) ∧ Fld Z h a10 "com/example/rankline/rankline/Buckets" "last" "I" (.int (-1 : Int32)) ∧ Fld Z h a10 "com/example/rankline/rankline/Buckets" "free" "I" (.int (-1 : Int32)) ∧ Fld Z h a10 "com/example/rankline/rankline/Buckets" "smallestMagnitude" "D" (.double (9218868437227405312 : UInt64)) ∧ Fld Z h a10 "com/example/rankline/rankline/Buckets" "size" "I" (.int (0 : Int32)) ∧ Fld Z h a10 "com/example/rankline/rankline/Buckets" "used" "I" (.int (1 : Int32))) v_ h_ L_
set_option maxRecDepth 65536 in
set_option maxHeartbeats 40000000 in
theorem own_s11 (l : Launch) (Z : State) (a0 : Array Value) (hw : ∀ d ∈ tables_1, d.before a0 Z = true) (wds : List Jvm.Cond) (a10 : Addr) (a28 : Addr) (a29 : Addr) (a30 : Addr) (a31 : Addr) (a32 : Addr) (a33 : Addr) (a34 : Addr) (a35 : Addr) (h0 : Heap) (n0 : Nat) (Z0 : n0 ≤ h0.size) (H1 : Exa Z h0 a10 "com/example/rankline/rankline/Buckets") (H2 : Fld Z h0 a10 "com/example/rankline/rankline/Buckets" "thresholds" "[D" (.ref a28)) (H3 : Fld Z h0 a10 "com/example/rankline/rankline/Buckets" "ranks" "[D" (.ref a29)) (H4 : Fld Z h0 a10 "com/example/rankline/rankline/Buckets" "guarded" "[Z" (.ref a30)) (H5 : Fld Z h0 a10 "com/example/rankline/rankline/Buckets" "extents" "[Lcom/example/rankline/rankline/Extent;" (.ref a31)) (H6 : Fld Z h0 a10 "com/example/rankline/rankline/Buckets" "addedAtThreshold" "[Z" (.ref a32)) (H7 : Fld Z h0 a10 "com/example/rankline/rankline/Buckets" "copies" "[J" (.ref a33)) (H8 : Fld Z h0 a10 "com/example/rankline/rankline/Buckets" "nextOf" "[I" (.ref a34)) (H9 : Fld Z h0 a10 "com/example/rankline/rankline/Buckets" "previousOf" "[I" (.ref a35)) (H10 : Fld Z h0 a10 "com/example/rankline/rankline/Buckets" "first" "I" (.int (-1 : Int32))) (H11 : Fld Z h0 a10 "com/example/rankline/rankline/Buckets" "last" "I" (.int (-1 : Int32))) (H12 : Fld Z h0 a10 "com/example/rankline/rankline/Buckets" "free" "I" (.int (-1 : Int32))) (H13 : Fld Z h0 a10 "com/example/rankline/rankline/Buckets" "smallestMagnitude" "D" (.double (9218868437227405312 : UInt64))) (H14 : Fld Z h0 a10 "com/example/rankline/rankline/Buckets" "size" "I" (.int (0 : Int32))) (H15 : Fld Z h0 a10 "com/example/rankline/rankline/Buckets" "used" "I" (.int (0 : Int32))) (H31 : own_Ary Z h0 a28 .double [(.double (0 : UInt64)), (.double (0 : UInt64)), (.double (0 : UInt64)), (.double (0 : UInt64)), (.double (0 : UInt64)), (.double (0 : UInt64)), (.double (0 : UInt64)), (.double (0 : UInt64)), (.double (0 : UInt64)), (.double (0 : UInt64)), (.double (0 : UInt64)), (.double (0 : UInt64)), (.double (0 : UInt64)), (.double (0 : UInt64)), (.double (0 : UInt64)), (.double (0 : UInt64))]) (H41 : n0 ≤ a10) :
    MetFree l (⟨"com/example/rankline/rankline/Buckets", "allocate", "()I"⟩ : MethodName) (head1 (Jvm.Cond.code (⟨"com/example/rankline/rankline/Buckets", "allocate", "()I"⟩ : MethodName) prog_5_method_56_code 2 (some .int) :: wds) ({ frames := 0, cells := 0, slots := 0, locals := 0 } : Room)) (fun ar_ U_ => ar_ = #[(.ref a10)] ∧ Z.Warmed39 U_.vm ∧ U_.heap = h0) (fun _ _ _ _ _ => True) (fun _ U_ o_ V_ => ∃ v_ L_, o_ = .returned v_ ∧ own_s11_Q Z a10 a28 a29 a30 a31 a32 a33 a34 a35 h0 n0 v_ V_.heap L_ ∧ FrameEnd U_ o_ V_ L_ ({ frames := 0, cells := 0, slots := 0, locals := 0 } : Room).cells ({ frames := 0, cells := 0, slots := 0, locals := 0 } : Room).slots) := by
  refine own_met (y := ⟨"com/example/rankline/rankline/Buckets", "allocate", "()I"⟩) (Q := own_s11_Q Z a10 a28 a29 a30 a31 a32 a33 a34 a35 h0 n0) own_pn1 ?_
  intro p e s m below meth c s₁ hx hby hml hZ hown hnm hret hlk X0 e0
  have N0 := Fr.nil n0
  refine own_cast (g' := (mkF m 0 #[.val (.ref a10), .unset] [])) (by first | (simp [entryFrame, mkF, argsToLocals, Value.category]; done) | rfl) ?_
  refine own_pre (T' := s₁) (g' := (mkF m 1 #[.val (.ref a10), .unset] [(.ref a10)])) (fun t k => XS.aloadN X0.here hx rfl (v := (.ref a10)) (hb hby d9_0) rfl rfl k) ?_
  refine own_getf X0 hx hZ hown (own_w hw 38 rfl) e0 H12 (hb hby d9_1) ?_
  intro T1 X1 e1
  show own_Go _ _ _ _ _ _ _ T1 (mkF m 4 #[.val (.ref a10), .unset] [(.int (-1 : Int32))])
  refine own_pre (T' := T1) (g' := (mkF m 5 #[.val (.ref a10), .unset] [(.int (-1 : Int32)), (.int (-1 : Int32))])) (fun t k => XS.iconst X1.here hx rfl (hb hby d9_4) k) ?_
  refine own_pre (T' := T1) (g' := (mkF m 25 #[.val (.ref a10), .unset] [])) (fun t k => XS.icmpYes X1.here hx rfl (pc0 := 5) (pc' := 25) rfl (hb hby d9_5) rfl (by decide) (by decide) (by decide) k) ?_
  refine own_pre (T' := T1) (g' := (mkF m 26 #[.val (.ref a10), .unset] [(.ref a10)])) (fun t k => XS.aloadN X1.here hx rfl (v := (.ref a10)) (hb hby d9_25) rfl rfl k) ?_
  refine own_getf X1 hx hZ hown (own_w hw 91 rfl) e1 H15 (hb hby d9_26) ?_
  intro T2 X2 e2
  show own_Go _ _ _ _ _ _ _ T2 (mkF m 29 #[.val (.ref a10), .unset] [(.int (0 : Int32))])
  refine own_pre (T' := T2) (g' := (mkF m 30 #[.val (.ref a10), .unset] [(.ref a10), (.int (0 : Int32))])) (fun t k => XS.aloadN X2.here hx rfl (v := (.ref a10)) (hb hby d9_29) rfl rfl k) ?_
  refine own_getf X2 hx hZ hown (own_w hw 13 rfl) e2 H2 (hb hby d9_30) ?_
  intro T3 X3 e3
  show own_Go _ _ _ _ _ _ _ T3 (mkF m 33 #[.val (.ref a10), .unset] [(.ref a28), (.int (0 : Int32))])
  refine own_len X3 hx hZ e3 H31 (hb hby d9_33) (n := (16 : Int32)) rfl ?_
  show own_Go _ _ _ _ _ _ _ T3 (mkF m 34 #[.val (.ref a10), .unset] [(.int (16 : Int32)), (.int (0 : Int32))])
  refine own_pre (T' := T3) (g' := (mkF m 143 #[.val (.ref a10), .unset] [])) (fun t k => XS.icmpYes X3.here hx rfl (pc0 := 34) (pc' := 143) rfl (hb hby d9_34) rfl (by decide) (by decide) (by decide) k) ?_
  refine own_pre (T' := T3) (g' := (mkF m 144 #[.val (.ref a10), .unset] [(.ref a10)])) (fun t k => XS.aloadN X3.here hx rfl (v := (.ref a10)) (hb hby d9_143) rfl rfl k) ?_
  refine own_pre (T' := T3) (g' := (mkF m 145 #[.val (.ref a10), .unset] [(.ref a10), (.ref a10)])) (fun t k => XS.dup X3.here hx rfl (hb hby d9_144) rfl rfl k) ?_
  refine own_getf X3 hx hZ hown (own_w hw 91 rfl) e3 H15 (hb hby d9_145) ?_
  intro T4 X4 e4
  show own_Go _ _ _ _ _ _ _ T4 (mkF m 148 #[.val (.ref a10), .unset] [(.int (0 : Int32)), (.ref a10)])
  refine own_pre (T' := T4) (g' := (mkF m 149 #[.val (.ref a10), .unset] [(.int (0 : Int32)), (.ref a10), (.int (0 : Int32))])) (fun t k => XT.dupX1 X4.here hx rfl (hb hby d9_148) rfl rfl rfl k) ?_
  refine own_pre (T' := T4) (g' := (mkF m 150 #[.val (.ref a10), .unset] [(.int (1 : Int32)), (.int (0 : Int32)), (.ref a10), (.int (0 : Int32))])) (fun t k => XS.iconst X4.here hx rfl (hb hby d9_149) k) ?_
  refine own_pre (T' := T4) (g' := (mkF m 151 #[.val (.ref a10), .unset] [(.int (1 : Int32)), (.ref a10), (.int (0 : Int32))])) (fun t k => XS.iadd X4.here hx rfl (hb hby d9_150) rfl k) ?_
  refine own_putf X4 hx hZ hown (own_w hw 91 rfl) e4 N0 H41 H15 H1 (Or.inl (own_w hw 92 rfl)) (own_w hw 4 rfl) (ty := .int) (by decide) rfl rfl (hb hby d9_151) ?_
  intro T5 h5 lo5 X5 e5 N5 W5
  have F6 : Fld Z h5 a10 "com/example/rankline/rankline/Buckets" "used" "I" (.int (1 : Int32)) := H15.same W5
  show own_Go _ _ _ _ _ _ _ T5 (mkF m 154 #[.val (.ref a10), .unset] [(.int (0 : Int32))])
  have F7 : Fld Z h5 a10 "com/example/rankline/rankline/Buckets" "thresholds" "[D" (.ref a28) := (H2.other W5 (Or.inr (slot_ne (C := "com/example/rankline/rankline/Buckets") (Or.inl (own_w hw 14 rfl)) (Or.inl (own_w hw 92 rfl)) (by decide) (t := (.array .double)) (t' := .int) (by decide) (by decide))))
  have F8 : Fld Z h5 a10 "com/example/rankline/rankline/Buckets" "ranks" "[D" (.ref a29) := (H3.other W5 (Or.inr (slot_ne (C := "com/example/rankline/rankline/Buckets") (Or.inl (own_w hw 16 rfl)) (Or.inl (own_w hw 92 rfl)) (by decide) (t := (.array .double)) (t' := .int) (by decide) (by decide))))
  have F9 : Fld Z h5 a10 "com/example/rankline/rankline/Buckets" "guarded" "[Z" (.ref a30) := (H4.other W5 (Or.inr (slot_ne (C := "com/example/rankline/rankline/Buckets") (Or.inl (own_w hw 19 rfl)) (Or.inl (own_w hw 92 rfl)) (by decide) (t := (.array .boolean)) (t' := .int) (by decide) (by decide))))
  have F10 : Fld Z h5 a10 "com/example/rankline/rankline/Buckets" "extents" "[Lcom/example/rankline/rankline/Extent;" (.ref a31) := (H5.other W5 (Or.inr (slot_ne (C := "com/example/rankline/rankline/Buckets") (Or.inl (own_w hw 23 rfl)) (Or.inl (own_w hw 92 rfl)) (by decide) (t := (.array (.object "com/example/rankline/rankline/Extent"))) (t' := .int) (by decide) (by decide))))
  have F11 : Fld Z h5 a10 "com/example/rankline/rankline/Buckets" "addedAtThreshold" "[Z" (.ref a32) := (H6.other W5 (Or.inr (slot_ne (C := "com/example/rankline/rankline/Buckets") (Or.inl (own_w hw 25 rfl)) (Or.inl (own_w hw 92 rfl)) (by decide) (t := (.array .boolean)) (t' := .int) (by decide) (by decide))))
  have F12 : Fld Z h5 a10 "com/example/rankline/rankline/Buckets" "copies" "[J" (.ref a33) := (H7.other W5 (Or.inr (slot_ne (C := "com/example/rankline/rankline/Buckets") (Or.inl (own_w hw 28 rfl)) (Or.inl (own_w hw 92 rfl)) (by decide) (t := (.array .long)) (t' := .int) (by decide) (by decide))))
  have F13 : Fld Z h5 a10 "com/example/rankline/rankline/Buckets" "nextOf" "[I" (.ref a34) := (H8.other W5 (Or.inr (slot_ne (C := "com/example/rankline/rankline/Buckets") (Or.inl (own_w hw 31 rfl)) (Or.inl (own_w hw 92 rfl)) (by decide) (t := (.array .int)) (t' := .int) (by decide) (by decide))))
  have F14 : Fld Z h5 a10 "com/example/rankline/rankline/Buckets" "previousOf" "[I" (.ref a35) := (H9.other W5 (Or.inr (slot_ne (C := "com/example/rankline/rankline/Buckets") (Or.inl (own_w hw 33 rfl)) (Or.inl (own_w hw 92 rfl)) (by decide) (t := (.array .int)) (t' := .int) (by decide) (by decide))))
  have F15 : Fld Z h5 a10 "com/example/rankline/rankline/Buckets" "first" "I" (.int (-1 : Int32)) := (H10.other W5 (Or.inr (slot_ne (C := "com/example/rankline/rankline/Buckets") (Or.inl (own_w hw 35 rfl)) (Or.inl (own_w hw 92 rfl)) (by decide) (t := .int) (t' := .int) (by decide) (by decide))))
  have F16 : Fld Z h5 a10 "com/example/rankline/rankline/Buckets" "last" "I" (.int (-1 : Int32)) := (H11.other W5 (Or.inr (slot_ne (C := "com/example/rankline/rankline/Buckets") (Or.inl (own_w hw 37 rfl)) (Or.inl (own_w hw 92 rfl)) (by decide) (t := .int) (t' := .int) (by decide) (by decide))))
  have F17 : Fld Z h5 a10 "com/example/rankline/rankline/Buckets" "free" "I" (.int (-1 : Int32)) := (H12.other W5 (Or.inr (slot_ne (C := "com/example/rankline/rankline/Buckets") (Or.inl (own_w hw 39 rfl)) (Or.inl (own_w hw 92 rfl)) (by decide) (t := .int) (t' := .int) (by decide) (by decide))))
  have F18 : Fld Z h5 a10 "com/example/rankline/rankline/Buckets" "smallestMagnitude" "D" (.double (9218868437227405312 : UInt64)) := (H13.other W5 (Or.inr (slot_ne (C := "com/example/rankline/rankline/Buckets") (Or.inl (own_w hw 42 rfl)) (Or.inl (own_w hw 92 rfl)) (by decide) (t := .double) (t' := .int) (by decide) (by decide))))
  have F19 : Fld Z h5 a10 "com/example/rankline/rankline/Buckets" "size" "I" (.int (0 : Int32)) := (H14.other W5 (Or.inr (slot_ne (C := "com/example/rankline/rankline/Buckets") (Or.inl (own_w hw 50 rfl)) (Or.inl (own_w hw 92 rfl)) (by decide) (t := .int) (t' := .int) (by decide) (by decide))))
  exact own_retI X5 hx hlk hret (hb hby d9_154) e5 ⟨rfl, N5, ((Keep.refl _ _).wr W5 (Or.inl (by simp))), F7, F8, F9, F10, F11, F12, F13, F14, F15, F16, F17, F18, F19, F6⟩ (by decide) (by decide)
theorem own_pd3 : parseMethodDescriptor "()I" = some ⟨[], some .int⟩ := by decide +kernel
def own_s10_Q (Z : State) (a10 : Addr) (f121 : UInt64) (a4 : Addr) (a28 : Addr) (a29 : Addr) (a30 : Addr) (a31 : Addr) (a32 : Addr) (a33 : Addr) (a34 : Addr) (a35 : Addr) (v2 : Int32) (h0 : Heap) (n0 : Nat) (v_ : Option Value) (h_ : Heap) (L_ : List Loc) : Prop := (fun v h L => v = some (.int (0 : Int32)) ∧ Fr n0 L ∧ Keep h0 h [a10, a28, a29, a30, a31, a32, a33, a34, a35] ∧ own_Ary Z h a35 .int [(.int (-1 : Int32)), (.int (0 : Int32)), (.int (0 : Int32)), (.int (0 : Int32)), (.int (0 : Int32)), (.int (0 : Int32)), (.int (0 : Int32)), (.int (0 : Int32)), (.int (0 : Int32)), (.int (0 : Int32)), (.int (0 : Int32)), (.int (0 : Int32)), (.int (0 : Int32)), (.int (0 : Int32)), (.int (0 : Int32)), (.int (0 : Int32))] ∧ own_Ary Z h a34 .int [(.int (-1 : Int32)), (.int (0 : Int32)), (.int (0 : Int32)), (.int (0 : Int32)), (.int (0 : Int32)), (.int (0 : Int32)), (.int (0 : Int32)), (.int (0 : Int32)), (.int (0 : Int32)), (.int (0 : Int32)), (.int (0 : Int32)), (.int (0 : Int32)), (.int (0 : Int32)), (.int (0 : Int32)), (.int (0 : Int32)), (.int (0 : Int32))] ∧ own_Ary Z h a33 .long [(.long (0 : Int64)), (.long (0 : Int64)), (.long (0 : Int64)), (.long (0 : Int64)), (.long (0 : Int64)), (.long (0 : Int64)), (.long (0 : Int64)), (.long (0 : Int64)), (.long (0 : Int64)), (.long (0 : Int64)), (.long (0 : Int64)), (.long (0 : Int64)), (.long (0 : Int64)), (.long (0 : Int64)), (.long (0 : Int64)), (.long (0 : Int64))] ∧ own_Ary Z h a32 .boolean [(.int (0 : Int32)), (.int (0 : Int32)), (.int (0 : Int32)), (.int (0 : Int32)), (.int (0 : Int32)), (.int (0 : Int32)), (.int (0 : Int32)), (.int (0 : Int32)), (.int (0 : Int32)), (.int (0 : Int32)), (.int (0 : Int32)), (.int (0 : Int32)), (.int (0 : Int32)), (.int (0 : Int32)), (.int (0 : Int32)), (.int (0 : Int32))] ∧ own_Ary Z h a31 (.object "com/example/rankline/rankline/Extent") [(.ref a4), .null, .null, .null, .null, .null, .null, .null, .null, .null, .null, .null, .null, .null, .null, .null] ∧ own_Ary Z h a30 .boolean [(.int (0 : Int32)), (.int (0 : Int32)), (.int (0 : Int32)), (.int (0 : Int32)), (.int (0 : Int32)), (.int (0 : Int32)), (.int (0 : Int32)), (.int (0 : Int32)), (.int (0 : Int32)), (.int (0 : Int32)), (.int (0 : Int32)), (.int (0 : Int32)), (.int (0 : Int32)), (.int (0 : Int32)), (.int (0 : Int32)), (.int (0 : Int32))] ∧ own_Ary Z h a29 .double [(.double f121), (.double (0 : UInt64)), (.double (0 : UInt64)), (.double (0 : UInt64)), (.double (0 : UInt64)), (.double (0 : UInt64)), (.double (0 : UInt64)), (.double (0 : UInt64)), (.double (0 : UInt64)), (.double (0 : UInt64)), (.double (0 : UInt64)), (.double (0 : UInt64)), (.double (0 : UInt64)), (.double (0 : UInt64)), (.double (0 : UInt64)), (.double (0 : UInt64))] ∧ own_Ary Z h a28 .double [(.double (0 : UInt64)), (.double (0 : UInt64)), (.double (0 : UInt64)), (.double (0 : UInt64)), (.double (0 : UInt64)), (.double (0 : UInt64)), (.double (0 : UInt64)), (.double (0 : UInt64)), (.double (0 : UInt64)), (.double (0 : UInt64)), (.double (0 : UInt64)), (.double (0 : UInt64)), (.double (0 : UInt64)), (.double (0 : UInt64)), (.double (0 : UInt64)), (.double (0 : UInt64))] ∧ Fld Z h a10 "com/example/rankline/rankline/Buckets" "thresholds" "[D" (.ref a28) ∧ Fld Z h a10 "com/example/rankline/rankline/Buckets" "ranks" "[D" (.ref a29) ∧ Fld Z h a10 "com/example/rankline/rankline/Buckets" "guarded" "[Z" (.ref a30) ∧ Fld Z h a10 "com/example/rankline/rankline/Buckets" "extents" "[Lcom/example/rankline/rankline/Extent;" (.ref a31) ∧ Fld Z h a10 "com/example/rankline/rankline/Buckets" "addedAtThreshold" "[Z" (.ref a32) ∧ Fld Z h a10 "com/example/rankline/rankline/Buckets" "copies" "[J" (.ref a33) ∧ Fld Z h a10 "com/example/rankline/rankline/Buckets" "nextOf" "[I" (.ref a34) ∧ Fld Z h a10 "com/example/rankline/rankline/Buckets" "previousOf" "[I" (.ref a35) ∧ Fld Z h a10 "com/example/rankline/rankline/Buckets" "first" "I" (.int (0 : Int32)) ∧ Fld Z h a10 "com/example/rankline/rankline/Buckets" "last" "I" (.int (0 : Int32)) ∧ Fld Z h a10 "com/example/rankline/rankline/Buckets" "free" "I" (.int (-1 : Int32)) ∧ Fld Z h a10 "com/example/rankline/rankline/Buckets" "smallestMagnitude" "D" (.double (9218868437227405312 : UInt64)) ∧ Fld Z h a10 "com/example/rankline/rankline/Buckets" "size" "I" (.int (1 : Int32)) ∧ Fld Z h a10 "com/example/rankline/rankline/Buckets" "used" "I" (.int (1 : Int32))) v_ h_ L_
set_option maxRecDepth 65536 in
set_option maxHeartbeats 40000000 in
theorem own_s10 (l : Launch) (Z : State) (a0 : Array Value) (hw : ∀ d ∈ tables_1, d.before a0 Z = true) (wds : List Jvm.Cond) (a10 : Addr) (f121 : UInt64) (a4 : Addr) (a28 : Addr) (a29 : Addr) (a30 : Addr) (a31 : Addr) (a32 : Addr) (a33 : Addr) (a34 : Addr) (a35 : Addr) (v2 : Int32) (h0 : Heap) (n0 : Nat) (Z0 : n0 ≤ h0.size) (H1 : Exa Z h0 a10 "com/example/rankline/rankline/Buckets") (H2 : Fld Z h0 a10 "com/example/rankline/rankline/Buckets" "thresholds" "[D" (.ref a28)) (H3 : Fld Z h0 a10 "com/example/rankline/rankline/Buckets" "ranks" "[D" (.ref a29)) (H4 : Fld Z h0 a10 "com/example/rankline/rankline/Buckets" "guarded" "[Z" (.ref a30)) (H5 : Fld Z h0 a10 "com/example/rankline/rankline/Buckets" "extents" "[Lcom/example/rankline/rankline/Extent;" (.ref a31)) (H6 : Fld Z h0 a10 "com/example/rankline/rankline/Buckets" "addedAtThreshold" "[Z" (.ref a32)) (H7 : Fld Z h0 a10 "com/example/rankline/rankline/Buckets" "copies" "[J" (.ref a33)) (H8 : Fld Z h0 a10 "com/example/rankline/rankline/Buckets" "nextOf" "[I" (.ref a34)) (H9 : Fld Z h0 a10 "com/example/rankline/rankline/Buckets" "previousOf" "[I" (.ref a35)) (H10 : Fld Z h0 a10 "com/example/rankline/rankline/Buckets" "first" "I" (.int (-1 : Int32))) (H11 : Fld Z h0 a10 "com/example/rankline/rankline/Buckets" "last" "I" (.int (-1 : Int32))) (H12 : Fld Z h0 a10 "com/example/rankline/rankline/Buckets" "free" "I" (.int (-1 : Int32))) (H13 : Fld Z h0 a10 "com/example/rankline/rankline/Buckets" "smallestMagnitude" "D" (.double (9218868437227405312 : UInt64))) (H14 : Fld Z h0 a10 "com/example/rankline/rankline/Buckets" "size" "I" (.int (0 : Int32))) (H15 : Fld Z h0 a10 "com/example/rankline/rankline/Buckets" "used" "I" (.int (0 : Int32))) (H16 : own_Ary Z h0 a35 .int [(.int (0 : Int32)), (.int (0 : Int32)), (.int (0 : Int32)), (.int (0 : Int32)), (.int (0 : Int32)), (.int (0 : Int32)), (.int (0 : Int32)), (.int (0 : Int32)), (.int (0 : Int32)), (.int (0 : Int32)), (.int (0 : Int32)), (.int (0 : Int32)), (.int (0 : Int32)), (.int (0 : Int32)), (.int (0 : Int32)), (.int (0 : Int32))]) (H18 : own_Ary Z h0 a34 .int [(.int (0 : Int32)), (.int (0 : Int32)), (.int (0 : Int32)), (.int (0 : Int32)), (.int (0 : Int32)), (.int (0 : Int32)), (.int (0 : Int32)), (.int (0 : Int32)), (.int (0 : Int32)), (.int (0 : Int32)), (.int (0 : Int32)), (.int (0 : Int32)), (.int (0 : Int32)), (.int (0 : Int32)), (.int (0 : Int32)), (.int (0 : Int32))]) (H20 : own_Ary Z h0 a33 .long [(.long (0 : Int64)), (.long (0 : Int64)), (.long (0 : Int64)), (.long (0 : Int64)), (.long (0 : Int64)), (.long (0 : Int64)), (.long (0 : Int64)), (.long (0 : Int64)), (.long (0 : Int64)), (.long (0 : Int64)), (.long (0 : Int64)), (.long (0 : Int64)), (.long (0 : Int64)), (.long (0 : Int64)), (.long (0 : Int64)), (.long (0 : Int64))]) (H22 : own_Ary Z h0 a32 .boolean [(.int (0 : Int32)), (.int (0 : Int32)), (.int (0 : Int32)), (.int (0 : Int32)), (.int (0 : Int32)), (.int (0 : Int32)), (.int (0 : Int32)), (.int (0 : Int32)), (.int (0 : Int32)), (.int (0 : Int32)), (.int (0 : Int32)), (.int (0 : Int32)), (.int (0 : Int32)), (.int (0 : Int32)), (.int (0 : Int32)), (.int (0 : Int32))]) (H24 : own_Ary Z h0 a31 (.object "com/example/rankline/rankline/Extent") [.null, .null, .null, .null, .null, .null, .null, .null, .null, .null, .null, .null, .null, .null, .null, .null]) (H26 : own_Ovr Z h0 a31 "com/example/rankline/rankline/Extent") (H27 : own_Ary Z h0 a30 .boolean [(.int (0 : Int32)), (.int (0 : Int32)), (.int (0 : Int32)), (.int (0 : Int32)), (.int (0 : Int32)), (.int (0 : Int32)), (.int (0 : Int32)), (.int (0 : Int32)), (.int (0 : Int32)), (.int (0 : Int32)), (.int (0 : Int32)), (.int (0 : Int32)), (.int (0 : Int32)), (.int (0 : Int32)), (.int (0 : Int32)), (.int (0 : Int32))]) (H29 : own_Ary Z h0 a29 .double [(.double (0 : UInt64)), (.double (0 : UInt64)), (.double (0 : UInt64)), (.double (0 : UInt64)), (.double (0 : UInt64)), (.double (0 : UInt64)), (.double (0 : UInt64)), (.double (0 : UInt64)), (.double (0 : UInt64)), (.double (0 : UInt64)), (.double (0 : UInt64)), (.double (0 : UInt64)), (.double (0 : UInt64)), (.double (0 : UInt64)), (.double (0 : UInt64)), (.double (0 : UInt64))]) (H31 : own_Ary Z h0 a28 .double [(.double (0 : UInt64)), (.double (0 : UInt64)), (.double (0 : UInt64)), (.double (0 : UInt64)), (.double (0 : UInt64)), (.double (0 : UInt64)), (.double (0 : UInt64)), (.double (0 : UInt64)), (.double (0 : UInt64)), (.double (0 : UInt64)), (.double (0 : UInt64)), (.double (0 : UInt64)), (.double (0 : UInt64)), (.double (0 : UInt64)), (.double (0 : UInt64)), (.double (0 : UInt64))]) (H33 : Exa Z h0 a4 "com/example/rankline/rankline/Extent") (H40 : a10 < a35) (H41 : a10 < a34) (H42 : a10 < a33) (H43 : a10 < a32) (H44 : a10 < a31) (H45 : a10 < a30) (H46 : a10 < a29) (H47 : a10 < a28) (H49 : n0 ≤ a10) (H50 : a34 < a35) (H51 : a33 < a35) (H52 : a32 < a35) (H53 : a31 < a35) (H54 : a30 < a35) (H55 : a29 < a35) (H56 : a28 < a35) (H58 : n0 ≤ a35) (H59 : a33 < a34) (H60 : a32 < a34) (H61 : a31 < a34) (H62 : a30 < a34) (H63 : a29 < a34) (H64 : a28 < a34) (H66 : n0 ≤ a34) (H67 : a32 < a33) (H68 : a31 < a33) (H69 : a30 < a33) (H70 : a29 < a33) (H71 : a28 < a33) (H73 : n0 ≤ a33) (H74 : a31 < a32) (H75 : a30 < a32) (H76 : a29 < a32) (H77 : a28 < a32) (H79 : n0 ≤ a32) (H80 : a30 < a31) (H81 : a29 < a31) (H82 : a28 < a31) (H84 : n0 ≤ a31) (H85 : a29 < a30) (H86 : a28 < a30) (H88 : n0 ≤ a30) (H89 : a28 < a29) (H91 : n0 ≤ a29) (H93 : n0 ≤ a28) :
    MetFree l (⟨"com/example/rankline/rankline/Buckets", "insertBefore", "(IDDLcom/example/rankline/rankline/Extent;J)I"⟩ : MethodName) (head1 (Jvm.Cond.code (⟨"com/example/rankline/rankline/Buckets", "insertBefore", "(IDDLcom/example/rankline/rankline/Extent;J)I"⟩ : MethodName) prog_5_method_55_code 11 (some .int) :: wds) ({ frames := 1, cells := 0, slots := 0, locals := 13 } : Room)) (fun ar_ U_ => ar_ = #[(.ref a10), (.int (-1 : Int32)), (.double (0 : UInt64)), (.double f121), (.ref a4), (.long (0 : Int64))] ∧ Z.Warmed39 U_.vm ∧ U_.heap = h0) (fun _ _ _ _ _ => True) (fun _ U_ o_ V_ => ∃ v_ L_, o_ = .returned v_ ∧ own_s10_Q Z a10 f121 a4 a28 a29 a30 a31 a32 a33 a34 a35 v2 h0 n0 v_ V_.heap L_ ∧ FrameEnd U_ o_ V_ L_ ({ frames := 1, cells := 0, slots := 0, locals := 13 } : Room).cells ({ frames := 1, cells := 0, slots := 0, locals := 13 } : Room).slots) := by
  refine own_met (y := ⟨"com/example/rankline/rankline/Buckets", "insertBefore", "(IDDLcom/example/rankline/rankline/Extent;J)I"⟩) (Q := own_s10_Q Z a10 f121 a4 a28 a29 a30 a31 a32 a33 a34 a35 v2 h0 n0) own_pn1 ?_
  intro p e s m below meth c s₁ hx hby hml hZ hown hnm hret hlk X0 e0
  have N0 := Fr.nil n0
  refine own_cast (g' := (mkF m 0 #[.val (.ref a10), .val (.int (-1 : Int32)), .val (.double (0 : UInt64)), .second, .val (.double f121), .second, .val (.ref a4), .val (.long (0 : Int64)), .second, .unset, .unset] [])) (by first | (simp [entryFrame, mkF, argsToLocals, Value.category]; done) | rfl) ?_
  generalize hL1 : (#[.val (.ref a10), .val (.int (-1 : Int32)), .val (.double (0 : UInt64)), .second, .val (.double f121), .second, .val (.ref a4), .val (.long (0 : Int64)), .second, .unset, .unset] : Array Slot) = L1
  refine own_pre (T' := s₁) (g' := (mkF m 1 L1 [(.ref a10)])) (fun t k => XS.aloadN X0.here hx rfl (v := (.ref a10)) (hb hby d8_0) (by rw [← hL1]; rfl) rfl k) ?_
  refine own_callp (a := a10) (argsL := []) (rest := []) X0 hx hZ hown (own_s11 l Z a0 hw [] a10 a28 a29 a30 a31 a32 a33 a34 a35 h0 n0 Z0 H1 H2 H3 H4 H5 H6 H7 H8 H9 H10 H11 H12 H13 H14 H15 H31 H49) H1 (own_w hw 87 rfl) (own_w hw 4 rfl) (own_w hw 89 rfl) (own_w hw 88 rfl) (own_w hw 90 rfl) (own_w hw 5 rfl) (by decide) e0 (hb hby d8_1) (by rw [hml, ← hL1]; rfl) rfl (lenOf own_pd3 rfl) (by decide) (W := 0) (Nat.le_of_eq rfl) (by decide) (by decide) (by decide) ?_
  intro v2 T2 lo2 X2 Q2
  obtain ⟨h2, e2⟩ : ∃ h, T2.heap = h := ⟨_, rfl⟩
  rw [e2] at Q2
  obtain ⟨rfl, N2, K2, F3, F4, F5, F6, F7, F8, F9, F10, F11, F12, F13, F14, F15, F16⟩ := Q2
  have N2' := Fr.app N0 N2
  show own_Go _ _ _ _ _ _ _ T2 (mkF m 4 L1 [(.int (0 : Int32))])
  refine own_pre (T' := T2) (g' := (mkF m 6 #[.val (.ref a10), .val (.int (-1 : Int32)), .val (.double (0 : UInt64)), .second, .val (.double f121), .second, .val (.ref a4), .val (.long (0 : Int64)), .second, .val (.int (0 : Int32)), .unset] [])) (fun t k => XS.istore X2.here hx rfl (hb hby d8_4) rfl (l' := #[.val (.ref a10), .val (.int (-1 : Int32)), .val (.double (0 : UInt64)), .second, .val (.double f121), .second, .val (.ref a4), .val (.long (0 : Int64)), .second, .val (.int (0 : Int32)), .unset]) (by rw [← hL1]; rfl) k) ?_
  generalize hL17 : (#[.val (.ref a10), .val (.int (-1 : Int32)), .val (.double (0 : UInt64)), .second, .val (.double f121), .second, .val (.ref a4), .val (.long (0 : Int64)), .second, .val (.int (0 : Int32)), .unset] : Array Slot) = L17
  refine own_pre (T' := T2) (g' := (mkF m 7 L17 [(.ref a10)])) (fun t k => XS.aloadN X2.here hx rfl (v := (.ref a10)) (hb hby d8_6) (by rw [← hL17]; rfl) rfl k) ?_
  refine own_getf X2 hx hZ hown (own_w hw 13 rfl) e2 F3 (hb hby d8_7) ?_
  intro T18 X18 e18
  show own_Go _ _ _ _ _ _ _ T18 (mkF m 10 L17 [(.ref a28)])
  refine own_pre (T' := T18) (g' := (mkF m 12 L17 [(.int (0 : Int32)), (.ref a28)])) (fun t k => XS.iload X18.here hx rfl (v := (0 : Int32)) (hb hby d8_10) (by rw [← hL17]; rfl) k) ?_
  refine own_pre (T' := T18) (g' := (mkF m 13 L17 [(.double (0 : UInt64)), (.int (0 : Int32)), (.ref a28)])) (fun t k => XS.dloadN X18.here hx rfl (v := (0 : UInt64)) (hb hby d8_12) (by rw [← hL17]; rfl) k) ?_
  have F19 : own_Ary Z h2 a28 .double [(.double (0 : UInt64)), (.double (0 : UInt64)), (.double (0 : UInt64)), (.double (0 : UInt64)), (.double (0 : UInt64)), (.double (0 : UInt64)), (.double (0 : UInt64)), (.double (0 : UInt64)), (.double (0 : UInt64)), (.double (0 : UInt64)), (.double (0 : UInt64)), (.double (0 : UInt64)), (.double (0 : UInt64)), (.double (0 : UInt64)), (.double (0 : UInt64)), (.double (0 : UInt64))] := (H31.keep K2 (ninS (Nat.ne_of_gt H47) nin0))
  refine own_dastore X18 hx hZ e18 N2' H93 F19 (hb hby d8_13) (n := 0) (by decide) (by decide) (by show 0 < 16; decide) ?_
  intro T20 h20 lo20 X20 e20 N20 W20
  have F21 : own_Ary Z h20 a28 .double [(.double (0 : UInt64)), (.double (0 : UInt64)), (.double (0 : UInt64)), (.double (0 : UInt64)), (.double (0 : UInt64)), (.double (0 : UInt64)), (.double (0 : UInt64)), (.double (0 : UInt64)), (.double (0 : UInt64)), (.double (0 : UInt64)), (.double (0 : UInt64)), (.double (0 : UInt64)), (.double (0 : UInt64)), (.double (0 : UInt64)), (.double (0 : UInt64)), (.double (0 : UInt64))] := F19.set W20
  show own_Go _ _ _ _ _ _ _ T20 (mkF m 14 L17 [])
  refine own_pre (T' := T20) (g' := (mkF m 15 L17 [(.ref a10)])) (fun t k => XS.aloadN X20.here hx rfl (v := (.ref a10)) (hb hby d8_14) (by rw [← hL17]; rfl) rfl k) ?_
  have F22 : Fld Z h20 a10 "com/example/rankline/rankline/Buckets" "ranks" "[D" (.ref a29) := (F4.other W20 (Or.inl (Nat.ne_of_lt H47)))
  refine own_getf X20 hx hZ hown (own_w hw 15 rfl) e20 F22 (hb hby d8_15) ?_
  intro T23 X23 e23
  show own_Go _ _ _ _ _ _ _ T23 (mkF m 18 L17 [(.ref a29)])
  refine own_pre (T' := T23) (g' := (mkF m 20 L17 [(.int (0 : Int32)), (.ref a29)])) (fun t k => XS.iload X23.here hx rfl (v := (0 : Int32)) (hb hby d8_18) (by rw [← hL17]; rfl) k) ?_
  refine own_pre (T' := T23) (g' := (mkF m 22 L17 [(.double f121), (.int (0 : Int32)), (.ref a29)])) (fun t k => XS.dload X23.here hx rfl (v := f121) (hb hby d8_20) (by rw [← hL17]; rfl) k) ?_
  have F24 : own_Ary Z h20 a29 .double [(.double (0 : UInt64)), (.double (0 : UInt64)), (.double (0 : UInt64)), (.double (0 : UInt64)), (.double (0 : UInt64)), (.double (0 : UInt64)), (.double (0 : UInt64)), (.double (0 : UInt64)), (.double (0 : UInt64)), (.double (0 : UInt64)), (.double (0 : UInt64)), (.double (0 : UInt64)), (.double (0 : UInt64)), (.double (0 : UInt64)), (.double (0 : UInt64)), (.double (0 : UInt64))] := ((H29.keep K2 (ninS (Nat.ne_of_gt H46) nin0)).other W20 (Nat.ne_of_gt H89))
  refine own_dastore X23 hx hZ e23 N20 H91 F24 (hb hby d8_22) (n := 0) (by decide) (by decide) (by show 0 < 16; decide) ?_
  intro T25 h25 lo25 X25 e25 N25 W25
  have F26 : own_Ary Z h25 a29 .double [(.double f121), (.double (0 : UInt64)), (.double (0 : UInt64)), (.double (0 : UInt64)), (.double (0 : UInt64)), (.double (0 : UInt64)), (.double (0 : UInt64)), (.double (0 : UInt64)), (.double (0 : UInt64)), (.double (0 : UInt64)), (.double (0 : UInt64)), (.double (0 : UInt64)), (.double (0 : UInt64)), (.double (0 : UInt64)), (.double (0 : UInt64)), (.double (0 : UInt64))] := F24.set W25
  show own_Go _ _ _ _ _ _ _ T25 (mkF m 23 L17 [])
  refine own_pre (T' := T25) (g' := (mkF m 24 L17 [(.ref a10)])) (fun t k => XS.aloadN X25.here hx rfl (v := (.ref a10)) (hb hby d8_23) (by rw [← hL17]; rfl) rfl k) ?_
  have F27 : Fld Z h25 a10 "com/example/rankline/rankline/Buckets" "guarded" "[Z" (.ref a30) := ((F5.other W20 (Or.inl (Nat.ne_of_lt H47))).other W25 (Or.inl (Nat.ne_of_lt H46)))
  refine own_getf X25 hx hZ hown (own_w hw 18 rfl) e25 F27 (hb hby d8_24) ?_
  intro T28 X28 e28
  show own_Go _ _ _ _ _ _ _ T28 (mkF m 27 L17 [(.ref a30)])
  refine own_pre (T' := T28) (g' := (mkF m 29 L17 [(.int (0 : Int32)), (.ref a30)])) (fun t k => XS.iload X28.here hx rfl (v := (0 : Int32)) (hb hby d8_27) (by rw [← hL17]; rfl) k) ?_
  refine own_pre (T' := T28) (g' := (mkF m 30 L17 [(.int (0 : Int32)), (.int (0 : Int32)), (.ref a30)])) (fun t k => XS.iconst X28.here hx rfl (hb hby d8_29) k) ?_
  have F29 : own_Ary Z h25 a30 .boolean [(.int (0 : Int32)), (.int (0 : Int32)), (.int (0 : Int32)), (.int (0 : Int32)), (.int (0 : Int32)), (.int (0 : Int32)), (.int (0 : Int32)), (.int (0 : Int32)), (.int (0 : Int32)), (.int (0 : Int32)), (.int (0 : Int32)), (.int (0 : Int32)), (.int (0 : Int32)), (.int (0 : Int32)), (.int (0 : Int32)), (.int (0 : Int32))] := (((H27.keep K2 (ninS (Nat.ne_of_gt H45) nin0)).other W20 (Nat.ne_of_gt H86)).other W25 (Nat.ne_of_gt H85))
  refine own_zastore X28 hx hZ e28 N25 H88 F29 (hb hby d8_30) (n := 0) (x' := (0 : Int32)) (by decide) (by decide) (by show 0 < 16; decide) (by decide) ?_
  intro T30 h30 lo30 X30 e30 N30 W30
  have F31 : own_Ary Z h30 a30 .boolean [(.int (0 : Int32)), (.int (0 : Int32)), (.int (0 : Int32)), (.int (0 : Int32)), (.int (0 : Int32)), (.int (0 : Int32)), (.int (0 : Int32)), (.int (0 : Int32)), (.int (0 : Int32)), (.int (0 : Int32)), (.int (0 : Int32)), (.int (0 : Int32)), (.int (0 : Int32)), (.int (0 : Int32)), (.int (0 : Int32)), (.int (0 : Int32))] := F29.set W30
  show own_Go _ _ _ _ _ _ _ T30 (mkF m 31 L17 [])
  refine own_pre (T' := T30) (g' := (mkF m 32 L17 [(.ref a10)])) (fun t k => XS.aloadN X30.here hx rfl (v := (.ref a10)) (hb hby d8_31) (by rw [← hL17]; rfl) rfl k) ?_
  have F32 : Fld Z h30 a10 "com/example/rankline/rankline/Buckets" "extents" "[Lcom/example/rankline/rankline/Extent;" (.ref a31) := (((F6.other W20 (Or.inl (Nat.ne_of_lt H47))).other W25 (Or.inl (Nat.ne_of_lt H46))).other W30 (Or.inl (Nat.ne_of_lt H45)))
  refine own_getf X30 hx hZ hown (own_w hw 22 rfl) e30 F32 (hb hby d8_32) ?_
  intro T33 X33 e33
  show own_Go _ _ _ _ _ _ _ T33 (mkF m 35 L17 [(.ref a31)])
  refine own_pre (T' := T33) (g' := (mkF m 37 L17 [(.int (0 : Int32)), (.ref a31)])) (fun t k => XS.iload X33.here hx rfl (v := (0 : Int32)) (hb hby d8_35) (by rw [← hL17]; rfl) k) ?_
  refine own_pre (T' := T33) (g' := (mkF m 39 L17 [(.ref a4), (.int (0 : Int32)), (.ref a31)])) (fun t k => XS.aload X33.here hx rfl (v := (.ref a4)) (hb hby d8_37) (by rw [← hL17]; rfl) rfl k) ?_
  have F34 : own_Ary Z h30 a31 (.object "com/example/rankline/rankline/Extent") [.null, .null, .null, .null, .null, .null, .null, .null, .null, .null, .null, .null, .null, .null, .null, .null] := ((((H24.keep K2 (ninS (Nat.ne_of_gt H44) nin0)).other W20 (Nat.ne_of_gt H82)).other W25 (Nat.ne_of_gt H81)).other W30 (Nat.ne_of_gt H80))
  have F36 : Exa Z h30 a4 "com/example/rankline/rankline/Extent" := ((((H33.keep K2).wr W20).wr W25).wr W30)
  have F37 : own_Ovr Z h30 a31 "com/example/rankline/rankline/Extent" := ((((H26.keep K2).wr W20).wr W25).wr W30)
  refine own_aastore X33 hx hZ e33 N30 H84 F34 F37 (Ins.self F36) (hb hby d8_39) (n := 0) (by decide) (by decide) (by show 0 < 16; decide) ?_
  intro T35 h35 lo35 X35 e35 N35 W35
  have F38 : own_Ary Z h35 a31 (.object "com/example/rankline/rankline/Extent") [(.ref a4), .null, .null, .null, .null, .null, .null, .null, .null, .null, .null, .null, .null, .null, .null, .null] := F34.set W35
  show own_Go _ _ _ _ _ _ _ T35 (mkF m 40 L17 [])
  refine own_pre (T' := T35) (g' := (mkF m 41 L17 [(.ref a10)])) (fun t k => XS.aloadN X35.here hx rfl (v := (.ref a10)) (hb hby d8_40) (by rw [← hL17]; rfl) rfl k) ?_
  have F39 : Fld Z h35 a10 "com/example/rankline/rankline/Buckets" "addedAtThreshold" "[Z" (.ref a32) := ((((F7.other W20 (Or.inl (Nat.ne_of_lt H47))).other W25 (Or.inl (Nat.ne_of_lt H46))).other W30 (Or.inl (Nat.ne_of_lt H45))).other W35 (Or.inl (Nat.ne_of_lt H44)))
  refine own_getf X35 hx hZ hown (own_w hw 24 rfl) e35 F39 (hb hby d8_41) ?_
  intro T40 X40 e40
  show own_Go _ _ _ _ _ _ _ T40 (mkF m 44 L17 [(.ref a32)])
  refine own_pre (T' := T40) (g' := (mkF m 46 L17 [(.int (0 : Int32)), (.ref a32)])) (fun t k => XS.iload X40.here hx rfl (v := (0 : Int32)) (hb hby d8_44) (by rw [← hL17]; rfl) k) ?_
  refine own_pre (T' := T40) (g' := (mkF m 47 L17 [(.int (0 : Int32)), (.int (0 : Int32)), (.ref a32)])) (fun t k => XS.iconst X40.here hx rfl (hb hby d8_46) k) ?_
  have F41 : own_Ary Z h35 a32 .boolean [(.int (0 : Int32)), (.int (0 : Int32)), (.int (0 : Int32)), (.int (0 : Int32)), (.int (0 : Int32)), (.int (0 : Int32)), (.int (0 : Int32)), (.int (0 : Int32)), (.int (0 : Int32)), (.int (0 : Int32)), (.int (0 : Int32)), (.int (0 : Int32)), (.int (0 : Int32)), (.int (0 : Int32)), (.int (0 : Int32)), (.int (0 : Int32))] := (((((H22.keep K2 (ninS (Nat.ne_of_gt H43) nin0)).other W20 (Nat.ne_of_gt H77)).other W25 (Nat.ne_of_gt H76)).other W30 (Nat.ne_of_gt H75)).other W35 (Nat.ne_of_gt H74))
  refine own_zastore X40 hx hZ e40 N35 H79 F41 (hb hby d8_47) (n := 0) (x' := (0 : Int32)) (by decide) (by decide) (by show 0 < 16; decide) (by decide) ?_
  intro T42 h42 lo42 X42 e42 N42 W42
  have F43 : own_Ary Z h42 a32 .boolean [(.int (0 : Int32)), (.int (0 : Int32)), (.int (0 : Int32)), (.int (0 : Int32)), (.int (0 : Int32)), (.int (0 : Int32)), (.int (0 : Int32)), (.int (0 : Int32)), (.int (0 : Int32)), (.int (0 : Int32)), (.int (0 : Int32)), (.int (0 : Int32)), (.int (0 : Int32)), (.int (0 : Int32)), (.int (0 : Int32)), (.int (0 : Int32))] := F41.set W42
  show own_Go _ _ _ _ _ _ _ T42 (mkF m 48 L17 [])
  refine own_pre (T' := T42) (g' := (mkF m 49 L17 [(.ref a10)])) (fun t k => XS.aloadN X42.here hx rfl (v := (.ref a10)) (hb hby d8_48) (by rw [← hL17]; rfl) rfl k) ?_
  have F44 : Fld Z h42 a10 "com/example/rankline/rankline/Buckets" "copies" "[J" (.ref a33) := (((((F8.other W20 (Or.inl (Nat.ne_of_lt H47))).other W25 (Or.inl (Nat.ne_of_lt H46))).other W30 (Or.inl (Nat.ne_of_lt H45))).other W35 (Or.inl (Nat.ne_of_lt H44))).other W42 (Or.inl (Nat.ne_of_lt H43)))
  refine own_getf X42 hx hZ hown (own_w hw 27 rfl) e42 F44 (hb hby d8_49) ?_
  intro T45 X45 e45
  show own_Go _ _ _ _ _ _ _ T45 (mkF m 52 L17 [(.ref a33)])
  refine own_pre (T' := T45) (g' := (mkF m 54 L17 [(.int (0 : Int32)), (.ref a33)])) (fun t k => XS.iload X45.here hx rfl (v := (0 : Int32)) (hb hby d8_52) (by rw [← hL17]; rfl) k) ?_
  refine own_pre (T' := T45) (g' := (mkF m 56 L17 [(.long (0 : Int64)), (.int (0 : Int32)), (.ref a33)])) (fun t k => XT.lload X45.here hx rfl (v := (0 : Int64)) (hb hby d8_54) (by rw [← hL17]; rfl) k) ?_
  have F46 : own_Ary Z h42 a33 .long [(.long (0 : Int64)), (.long (0 : Int64)), (.long (0 : Int64)), (.long (0 : Int64)), (.long (0 : Int64)), (.long (0 : Int64)), (.long (0 : Int64)), (.long (0 : Int64)), (.long (0 : Int64)), (.long (0 : Int64)), (.long (0 : Int64)), (.long (0 : Int64)), (.long (0 : Int64)), (.long (0 : Int64)), (.long (0 : Int64)), (.long (0 : Int64))] := ((((((H20.keep K2 (ninS (Nat.ne_of_gt H42) nin0)).other W20 (Nat.ne_of_gt H71)).other W25 (Nat.ne_of_gt H70)).other W30 (Nat.ne_of_gt H69)).other W35 (Nat.ne_of_gt H68)).other W42 (Nat.ne_of_gt H67))
  refine own_lastore X45 hx hZ e45 N42 H73 F46 (hb hby d8_56) (n := 0) (by decide) (by decide) (by show 0 < 16; decide) ?_
  intro T47 h47 lo47 X47 e47 N47 W47
  have F48 : own_Ary Z h47 a33 .long [(.long (0 : Int64)), (.long (0 : Int64)), (.long (0 : Int64)), (.long (0 : Int64)), (.long (0 : Int64)), (.long (0 : Int64)), (.long (0 : Int64)), (.long (0 : Int64)), (.long (0 : Int64)), (.long (0 : Int64)), (.long (0 : Int64)), (.long (0 : Int64)), (.long (0 : Int64)), (.long (0 : Int64)), (.long (0 : Int64)), (.long (0 : Int64))] := F46.set W47
  show own_Go _ _ _ _ _ _ _ T47 (mkF m 57 L17 [])
  refine own_pre (T' := T47) (g' := (mkF m 58 L17 [(.int (-1 : Int32))])) (fun t k => XS.iloadN X47.here hx rfl (v := (-1 : Int32)) (hb hby d8_57) (by rw [← hL17]; rfl) k) ?_
  refine own_pre (T' := T47) (g' := (mkF m 59 L17 [(.int (-1 : Int32)), (.int (-1 : Int32))])) (fun t k => XS.iconst X47.here hx rfl (hb hby d8_58) k) ?_
  refine own_pre (T' := T47) (g' := (mkF m 62 L17 [])) (fun t k => XS.icmpNo X47.here hx rfl (hb hby d8_59) rfl (by decide) k) ?_
  refine own_pre (T' := T47) (g' := (mkF m 63 L17 [(.ref a10)])) (fun t k => XS.aloadN X47.here hx rfl (v := (.ref a10)) (hb hby d8_62) (by rw [← hL17]; rfl) rfl k) ?_
  have F49 : Fld Z h47 a10 "com/example/rankline/rankline/Buckets" "last" "I" (.int (-1 : Int32)) := ((((((F12.other W20 (Or.inl (Nat.ne_of_lt H47))).other W25 (Or.inl (Nat.ne_of_lt H46))).other W30 (Or.inl (Nat.ne_of_lt H45))).other W35 (Or.inl (Nat.ne_of_lt H44))).other W42 (Or.inl (Nat.ne_of_lt H43))).other W47 (Or.inl (Nat.ne_of_lt H42)))
  refine own_getf X47 hx hZ hown (own_w hw 36 rfl) e47 F49 (hb hby d8_63) ?_
  intro T50 X50 e50
  show own_Go _ _ _ _ _ _ _ T50 (mkF m 66 L17 [(.int (-1 : Int32))])
  refine own_pre (T' := T50) (g' := (mkF m 75 L17 [(.int (-1 : Int32))])) (fun t k => XS.goto X50.here hx rfl (pc0 := 66) (pc' := 75) rfl (hb hby d8_66) (by decide) (by decide) k) ?_
  refine own_pre (T' := T50) (g' := (mkF m 77 #[.val (.ref a10), .val (.int (-1 : Int32)), .val (.double (0 : UInt64)), .second, .val (.double f121), .second, .val (.ref a4), .val (.long (0 : Int64)), .second, .val (.int (0 : Int32)), .val (.int (-1 : Int32))] [])) (fun t k => XS.istore X50.here hx rfl (hb hby d8_75) rfl (l' := #[.val (.ref a10), .val (.int (-1 : Int32)), .val (.double (0 : UInt64)), .second, .val (.double f121), .second, .val (.ref a4), .val (.long (0 : Int64)), .second, .val (.int (0 : Int32)), .val (.int (-1 : Int32))]) (by rw [← hL17]; rfl) k) ?_
  generalize hL51 : (#[.val (.ref a10), .val (.int (-1 : Int32)), .val (.double (0 : UInt64)), .second, .val (.double f121), .second, .val (.ref a4), .val (.long (0 : Int64)), .second, .val (.int (0 : Int32)), .val (.int (-1 : Int32))] : Array Slot) = L51
  refine own_pre (T' := T50) (g' := (mkF m 78 L51 [(.ref a10)])) (fun t k => XS.aloadN X50.here hx rfl (v := (.ref a10)) (hb hby d8_77) (by rw [← hL51]; rfl) rfl k) ?_
  have F52 : Fld Z h47 a10 "com/example/rankline/rankline/Buckets" "nextOf" "[I" (.ref a34) := ((((((F9.other W20 (Or.inl (Nat.ne_of_lt H47))).other W25 (Or.inl (Nat.ne_of_lt H46))).other W30 (Or.inl (Nat.ne_of_lt H45))).other W35 (Or.inl (Nat.ne_of_lt H44))).other W42 (Or.inl (Nat.ne_of_lt H43))).other W47 (Or.inl (Nat.ne_of_lt H42)))
  refine own_getf X50 hx hZ hown (own_w hw 30 rfl) e50 F52 (hb hby d8_78) ?_
  intro T53 X53 e53
  show own_Go _ _ _ _ _ _ _ T53 (mkF m 81 L51 [(.ref a34)])
  refine own_pre (T' := T53) (g' := (mkF m 83 L51 [(.int (0 : Int32)), (.ref a34)])) (fun t k => XS.iload X53.here hx rfl (v := (0 : Int32)) (hb hby d8_81) (by rw [← hL51]; rfl) k) ?_
  refine own_pre (T' := T53) (g' := (mkF m 84 L51 [(.int (-1 : Int32)), (.int (0 : Int32)), (.ref a34)])) (fun t k => XS.iloadN X53.here hx rfl (v := (-1 : Int32)) (hb hby d8_83) (by rw [← hL51]; rfl) k) ?_
  have F54 : own_Ary Z h47 a34 .int [(.int (0 : Int32)), (.int (0 : Int32)), (.int (0 : Int32)), (.int (0 : Int32)), (.int (0 : Int32)), (.int (0 : Int32)), (.int (0 : Int32)), (.int (0 : Int32)), (.int (0 : Int32)), (.int (0 : Int32)), (.int (0 : Int32)), (.int (0 : Int32)), (.int (0 : Int32)), (.int (0 : Int32)), (.int (0 : Int32)), (.int (0 : Int32))] := (((((((H18.keep K2 (ninS (Nat.ne_of_gt H41) nin0)).other W20 (Nat.ne_of_gt H64)).other W25 (Nat.ne_of_gt H63)).other W30 (Nat.ne_of_gt H62)).other W35 (Nat.ne_of_gt H61)).other W42 (Nat.ne_of_gt H60)).other W47 (Nat.ne_of_gt H59))
  refine own_iastore X53 hx hZ e53 N47 H66 F54 (hb hby d8_84) (n := 0) (by decide) (by decide) (by show 0 < 16; decide) ?_
  intro T55 h55 lo55 X55 e55 N55 W55
  have F56 : own_Ary Z h55 a34 .int [(.int (-1 : Int32)), (.int (0 : Int32)), (.int (0 : Int32)), (.int (0 : Int32)), (.int (0 : Int32)), (.int (0 : Int32)), (.int (0 : Int32)), (.int (0 : Int32)), (.int (0 : Int32)), (.int (0 : Int32)), (.int (0 : Int32)), (.int (0 : Int32)), (.int (0 : Int32)), (.int (0 : Int32)), (.int (0 : Int32)), (.int (0 : Int32))] := F54.set W55
  show own_Go _ _ _ _ _ _ _ T55 (mkF m 85 L51 [])
  refine own_pre (T' := T55) (g' := (mkF m 86 L51 [(.ref a10)])) (fun t k => XS.aloadN X55.here hx rfl (v := (.ref a10)) (hb hby d8_85) (by rw [← hL51]; rfl) rfl k) ?_
  have F57 : Fld Z h55 a10 "com/example/rankline/rankline/Buckets" "previousOf" "[I" (.ref a35) := (((((((F10.other W20 (Or.inl (Nat.ne_of_lt H47))).other W25 (Or.inl (Nat.ne_of_lt H46))).other W30 (Or.inl (Nat.ne_of_lt H45))).other W35 (Or.inl (Nat.ne_of_lt H44))).other W42 (Or.inl (Nat.ne_of_lt H43))).other W47 (Or.inl (Nat.ne_of_lt H42))).other W55 (Or.inl (Nat.ne_of_lt H41)))
  refine own_getf X55 hx hZ hown (own_w hw 32 rfl) e55 F57 (hb hby d8_86) ?_
  intro T58 X58 e58
  show own_Go _ _ _ _ _ _ _ T58 (mkF m 89 L51 [(.ref a35)])
  refine own_pre (T' := T58) (g' := (mkF m 91 L51 [(.int (0 : Int32)), (.ref a35)])) (fun t k => XS.iload X58.here hx rfl (v := (0 : Int32)) (hb hby d8_89) (by rw [← hL51]; rfl) k) ?_
  refine own_pre (T' := T58) (g' := (mkF m 93 L51 [(.int (-1 : Int32)), (.int (0 : Int32)), (.ref a35)])) (fun t k => XS.iload X58.here hx rfl (v := (-1 : Int32)) (hb hby d8_91) (by rw [← hL51]; rfl) k) ?_
  have F59 : own_Ary Z h55 a35 .int [(.int (0 : Int32)), (.int (0 : Int32)), (.int (0 : Int32)), (.int (0 : Int32)), (.int (0 : Int32)), (.int (0 : Int32)), (.int (0 : Int32)), (.int (0 : Int32)), (.int (0 : Int32)), (.int (0 : Int32)), (.int (0 : Int32)), (.int (0 : Int32)), (.int (0 : Int32)), (.int (0 : Int32)), (.int (0 : Int32)), (.int (0 : Int32))] := ((((((((H16.keep K2 (ninS (Nat.ne_of_gt H40) nin0)).other W20 (Nat.ne_of_gt H56)).other W25 (Nat.ne_of_gt H55)).other W30 (Nat.ne_of_gt H54)).other W35 (Nat.ne_of_gt H53)).other W42 (Nat.ne_of_gt H52)).other W47 (Nat.ne_of_gt H51)).other W55 (Nat.ne_of_gt H50))
  refine own_iastore X58 hx hZ e58 N55 H58 F59 (hb hby d8_93) (n := 0) (by decide) (by decide) (by show 0 < 16; decide) ?_
  intro T60 h60 lo60 X60 e60 N60 W60
  have F61 : own_Ary Z h60 a35 .int [(.int (-1 : Int32)), (.int (0 : Int32)), (.int (0 : Int32)), (.int (0 : Int32)), (.int (0 : Int32)), (.int (0 : Int32)), (.int (0 : Int32)), (.int (0 : Int32)), (.int (0 : Int32)), (.int (0 : Int32)), (.int (0 : Int32)), (.int (0 : Int32)), (.int (0 : Int32)), (.int (0 : Int32)), (.int (0 : Int32)), (.int (0 : Int32))] := F59.set W60
  show own_Go _ _ _ _ _ _ _ T60 (mkF m 94 L51 [])
  refine own_pre (T' := T60) (g' := (mkF m 96 L51 [(.int (-1 : Int32))])) (fun t k => XS.iload X60.here hx rfl (v := (-1 : Int32)) (hb hby d8_94) (by rw [← hL51]; rfl) k) ?_
  refine own_pre (T' := T60) (g' := (mkF m 97 L51 [(.int (-1 : Int32)), (.int (-1 : Int32))])) (fun t k => XS.iconst X60.here hx rfl (hb hby d8_96) k) ?_
  refine own_pre (T' := T60) (g' := (mkF m 100 L51 [])) (fun t k => XS.icmpNo X60.here hx rfl (hb hby d8_97) rfl (by decide) k) ?_
  refine own_pre (T' := T60) (g' := (mkF m 101 L51 [(.ref a10)])) (fun t k => XS.aloadN X60.here hx rfl (v := (.ref a10)) (hb hby d8_100) (by rw [← hL51]; rfl) rfl k) ?_
  refine own_pre (T' := T60) (g' := (mkF m 103 L51 [(.int (0 : Int32)), (.ref a10)])) (fun t k => XS.iload X60.here hx rfl (v := (0 : Int32)) (hb hby d8_101) (by rw [← hL51]; rfl) k) ?_
  have F62 : Fld Z h60 a10 "com/example/rankline/rankline/Buckets" "first" "I" (.int (-1 : Int32)) := ((((((((F11.other W20 (Or.inl (Nat.ne_of_lt H47))).other W25 (Or.inl (Nat.ne_of_lt H46))).other W30 (Or.inl (Nat.ne_of_lt H45))).other W35 (Or.inl (Nat.ne_of_lt H44))).other W42 (Or.inl (Nat.ne_of_lt H43))).other W47 (Or.inl (Nat.ne_of_lt H42))).other W55 (Or.inl (Nat.ne_of_lt H41))).other W60 (Or.inl (Nat.ne_of_lt H40)))
  have F63 : Exa Z h60 a10 "com/example/rankline/rankline/Buckets" := (((((((((H1.keep K2).wr W20).wr W25).wr W30).wr W35).wr W42).wr W47).wr W55).wr W60)
  refine own_putf X60 hx hZ hown (own_w hw 34 rfl) e60 N60 H49 F62 F63 (Or.inl (own_w hw 35 rfl)) (own_w hw 4 rfl) (ty := .int) (by decide) rfl rfl (hb hby d8_103) ?_
  intro T64 h64 lo64 X64 e64 N64 W64
  have F65 : Fld Z h64 a10 "com/example/rankline/rankline/Buckets" "first" "I" (.int (0 : Int32)) := F62.same W64
  show own_Go _ _ _ _ _ _ _ T64 (mkF m 106 L51 [])
  refine own_pre (T' := T64) (g' := (mkF m 118 L51 [])) (fun t k => XS.goto X64.here hx rfl (pc0 := 106) (pc' := 118) rfl (hb hby d8_106) (by decide) (by decide) k) ?_
  refine own_pre (T' := T64) (g' := (mkF m 119 L51 [(.int (-1 : Int32))])) (fun t k => XS.iloadN X64.here hx rfl (v := (-1 : Int32)) (hb hby d8_118) (by rw [← hL51]; rfl) k) ?_
  refine own_pre (T' := T64) (g' := (mkF m 120 L51 [(.int (-1 : Int32)), (.int (-1 : Int32))])) (fun t k => XS.iconst X64.here hx rfl (hb hby d8_119) k) ?_
  refine own_pre (T' := T64) (g' := (mkF m 123 L51 [])) (fun t k => XS.icmpNo X64.here hx rfl (hb hby d8_120) rfl (by decide) k) ?_
  refine own_pre (T' := T64) (g' := (mkF m 124 L51 [(.ref a10)])) (fun t k => XS.aloadN X64.here hx rfl (v := (.ref a10)) (hb hby d8_123) (by rw [← hL51]; rfl) rfl k) ?_
  refine own_pre (T' := T64) (g' := (mkF m 126 L51 [(.int (0 : Int32)), (.ref a10)])) (fun t k => XS.iload X64.here hx rfl (v := (0 : Int32)) (hb hby d8_124) (by rw [← hL51]; rfl) k) ?_
  have F66 : Fld Z h64 a10 "com/example/rankline/rankline/Buckets" "last" "I" (.int (-1 : Int32)) := (((F49.other W55 (Or.inl (Nat.ne_of_lt H41))).other W60 (Or.inl (Nat.ne_of_lt H40))).other W64 (Or.inr (slot_ne (C := "com/example/rankline/rankline/Buckets") (Or.inl (own_w hw 37 rfl)) (Or.inl (own_w hw 35 rfl)) (by decide) (t := .int) (t' := .int) (by decide) (by decide))))
  have F67 : Exa Z h64 a10 "com/example/rankline/rankline/Buckets" := (F63.wr W64)
  refine own_putf X64 hx hZ hown (own_w hw 36 rfl) e64 N64 H49 F66 F67 (Or.inl (own_w hw 37 rfl)) (own_w hw 4 rfl) (ty := .int) (by decide) rfl rfl (hb hby d8_126) ?_
  intro T68 h68 lo68 X68 e68 N68 W68
  have F69 : Fld Z h68 a10 "com/example/rankline/rankline/Buckets" "last" "I" (.int (0 : Int32)) := F66.same W68
  show own_Go _ _ _ _ _ _ _ T68 (mkF m 129 L51 [])
  refine own_pre (T' := T68) (g' := (mkF m 140 L51 [])) (fun t k => XS.goto X68.here hx rfl (pc0 := 129) (pc' := 140) rfl (hb hby d8_129) (by decide) (by decide) k) ?_
  refine own_pre (T' := T68) (g' := (mkF m 141 L51 [(.ref a10)])) (fun t k => XS.aloadN X68.here hx rfl (v := (.ref a10)) (hb hby d8_140) (by rw [← hL51]; rfl) rfl k) ?_
  refine own_pre (T' := T68) (g' := (mkF m 142 L51 [(.ref a10), (.ref a10)])) (fun t k => XS.dup X68.here hx rfl (hb hby d8_141) rfl rfl k) ?_
  have F70 : Fld Z h68 a10 "com/example/rankline/rankline/Buckets" "size" "I" (.int (0 : Int32)) := ((((((((((F15.other W20 (Or.inl (Nat.ne_of_lt H47))).other W25 (Or.inl (Nat.ne_of_lt H46))).other W30 (Or.inl (Nat.ne_of_lt H45))).other W35 (Or.inl (Nat.ne_of_lt H44))).other W42 (Or.inl (Nat.ne_of_lt H43))).other W47 (Or.inl (Nat.ne_of_lt H42))).other W55 (Or.inl (Nat.ne_of_lt H41))).other W60 (Or.inl (Nat.ne_of_lt H40))).other W64 (Or.inr (slot_ne (C := "com/example/rankline/rankline/Buckets") (Or.inl (own_w hw 50 rfl)) (Or.inl (own_w hw 35 rfl)) (by decide) (t := .int) (t' := .int) (by decide) (by decide)))).other W68 (Or.inr (slot_ne (C := "com/example/rankline/rankline/Buckets") (Or.inl (own_w hw 50 rfl)) (Or.inl (own_w hw 37 rfl)) (by decide) (t := .int) (t' := .int) (by decide) (by decide))))
  refine own_getf X68 hx hZ hown (own_w hw 49 rfl) e68 F70 (hb hby d8_142) ?_
  intro T71 X71 e71
  show own_Go _ _ _ _ _ _ _ T71 (mkF m 145 L51 [(.int (0 : Int32)), (.ref a10)])
  refine own_pre (T' := T71) (g' := (mkF m 146 L51 [(.int (1 : Int32)), (.int (0 : Int32)), (.ref a10)])) (fun t k => XS.iconst X71.here hx rfl (hb hby d8_145) k) ?_
  refine own_pre (T' := T71) (g' := (mkF m 147 L51 [(.int (1 : Int32)), (.ref a10)])) (fun t k => XS.iadd X71.here hx rfl (hb hby d8_146) rfl k) ?_
  have F72 : Exa Z h68 a10 "com/example/rankline/rankline/Buckets" := (F67.wr W68)
  refine own_putf X71 hx hZ hown (own_w hw 49 rfl) e71 N68 H49 F70 F72 (Or.inl (own_w hw 50 rfl)) (own_w hw 4 rfl) (ty := .int) (by decide) rfl rfl (hb hby d8_147) ?_
  intro T73 h73 lo73 X73 e73 N73 W73
  have F74 : Fld Z h73 a10 "com/example/rankline/rankline/Buckets" "size" "I" (.int (1 : Int32)) := F70.same W73
  show own_Go _ _ _ _ _ _ _ T73 (mkF m 150 L51 [])
  refine own_pre (T' := T73) (g' := (mkF m 152 L51 [(.int (0 : Int32))])) (fun t k => XS.iload X73.here hx rfl (v := (0 : Int32)) (hb hby d8_150) (by rw [← hL51]; rfl) k) ?_
  have F75 : own_Ary Z h73 a35 .int [(.int (-1 : Int32)), (.int (0 : Int32)), (.int (0 : Int32)), (.int (0 : Int32)), (.int (0 : Int32)), (.int (0 : Int32)), (.int (0 : Int32)), (.int (0 : Int32)), (.int (0 : Int32)), (.int (0 : Int32)), (.int (0 : Int32)), (.int (0 : Int32)), (.int (0 : Int32)), (.int (0 : Int32)), (.int (0 : Int32)), (.int (0 : Int32))] := (((F61.other W64 (Nat.ne_of_gt H40)).other W68 (Nat.ne_of_gt H40)).other W73 (Nat.ne_of_gt H40))
  have F76 : own_Ary Z h73 a34 .int [(.int (-1 : Int32)), (.int (0 : Int32)), (.int (0 : Int32)), (.int (0 : Int32)), (.int (0 : Int32)), (.int (0 : Int32)), (.int (0 : Int32)), (.int (0 : Int32)), (.int (0 : Int32)), (.int (0 : Int32)), (.int (0 : Int32)), (.int (0 : Int32)), (.int (0 : Int32)), (.int (0 : Int32)), (.int (0 : Int32)), (.int (0 : Int32))] := ((((F56.other W60 (Nat.ne_of_lt H50)).other W64 (Nat.ne_of_gt H41)).other W68 (Nat.ne_of_gt H41)).other W73 (Nat.ne_of_gt H41))
  have F77 : own_Ary Z h73 a33 .long [(.long (0 : Int64)), (.long (0 : Int64)), (.long (0 : Int64)), (.long (0 : Int64)), (.long (0 : Int64)), (.long (0 : Int64)), (.long (0 : Int64)), (.long (0 : Int64)), (.long (0 : Int64)), (.long (0 : Int64)), (.long (0 : Int64)), (.long (0 : Int64)), (.long (0 : Int64)), (.long (0 : Int64)), (.long (0 : Int64)), (.long (0 : Int64))] := (((((F48.other W55 (Nat.ne_of_lt H59)).other W60 (Nat.ne_of_lt H51)).other W64 (Nat.ne_of_gt H42)).other W68 (Nat.ne_of_gt H42)).other W73 (Nat.ne_of_gt H42))
  have F78 : own_Ary Z h73 a32 .boolean [(.int (0 : Int32)), (.int (0 : Int32)), (.int (0 : Int32)), (.int (0 : Int32)), (.int (0 : Int32)), (.int (0 : Int32)), (.int (0 : Int32)), (.int (0 : Int32)), (.int (0 : Int32)), (.int (0 : Int32)), (.int (0 : Int32)), (.int (0 : Int32)), (.int (0 : Int32)), (.int (0 : Int32)), (.int (0 : Int32)), (.int (0 : Int32))] := ((((((F43.other W47 (Nat.ne_of_lt H67)).other W55 (Nat.ne_of_lt H60)).other W60 (Nat.ne_of_lt H52)).other W64 (Nat.ne_of_gt H43)).other W68 (Nat.ne_of_gt H43)).other W73 (Nat.ne_of_gt H43))
  have F79 : own_Ary Z h73 a31 (.object "com/example/rankline/rankline/Extent") [(.ref a4), .null, .null, .null, .null, .null, .null, .null, .null, .null, .null, .null, .null, .null, .null, .null] := (((((((F38.other W42 (Nat.ne_of_lt H74)).other W47 (Nat.ne_of_lt H68)).other W55 (Nat.ne_of_lt H61)).other W60 (Nat.ne_of_lt H53)).other W64 (Nat.ne_of_gt H44)).other W68 (Nat.ne_of_gt H44)).other W73 (Nat.ne_of_gt H44))
  have F80 : own_Ary Z h73 a30 .boolean [(.int (0 : Int32)), (.int (0 : Int32)), (.int (0 : Int32)), (.int (0 : Int32)), (.int (0 : Int32)), (.int (0 : Int32)), (.int (0 : Int32)), (.int (0 : Int32)), (.int (0 : Int32)), (.int (0 : Int32)), (.int (0 : Int32)), (.int (0 : Int32)), (.int (0 : Int32)), (.int (0 : Int32)), (.int (0 : Int32)), (.int (0 : Int32))] := ((((((((F31.other W35 (Nat.ne_of_lt H80)).other W42 (Nat.ne_of_lt H75)).other W47 (Nat.ne_of_lt H69)).other W55 (Nat.ne_of_lt H62)).other W60 (Nat.ne_of_lt H54)).other W64 (Nat.ne_of_gt H45)).other W68 (Nat.ne_of_gt H45)).other W73 (Nat.ne_of_gt H45))
  have F81 : own_Ary Z h73 a29 .double [(.double f121), (.double (0 : UInt64)), (.double (0 : UInt64)), (.double (0 : UInt64)), (.double (0 : UInt64)), (.double (0 : UInt64)), (.double (0 : UInt64)), (.double (0 : UInt64)), (.double (0 : UInt64)), (.double (0 : UInt64)), (.double (0 : UInt64)), (.double (0 : UInt64)), (.double (0 : UInt64)), (.double (0 : UInt64)), (.double (0 : UInt64)), (.double (0 : UInt64))] := (((((((((F26.other W30 (Nat.ne_of_lt H85)).other W35 (Nat.ne_of_lt H81)).other W42 (Nat.ne_of_lt H76)).other W47 (Nat.ne_of_lt H70)).other W55 (Nat.ne_of_lt H63)).other W60 (Nat.ne_of_lt H55)).other W64 (Nat.ne_of_gt H46)).other W68 (Nat.ne_of_gt H46)).other W73 (Nat.ne_of_gt H46))
  have F82 : own_Ary Z h73 a28 .double [(.double (0 : UInt64)), (.double (0 : UInt64)), (.double (0 : UInt64)), (.double (0 : UInt64)), (.double (0 : UInt64)), (.double (0 : UInt64)), (.double (0 : UInt64)), (.double (0 : UInt64)), (.double (0 : UInt64)), (.double (0 : UInt64)), (.double (0 : UInt64)), (.double (0 : UInt64)), (.double (0 : UInt64)), (.double (0 : UInt64)), (.double (0 : UInt64)), (.double (0 : UInt64))] := ((((((((((F21.other W25 (Nat.ne_of_lt H89)).other W30 (Nat.ne_of_lt H86)).other W35 (Nat.ne_of_lt H82)).other W42 (Nat.ne_of_lt H77)).other W47 (Nat.ne_of_lt H71)).other W55 (Nat.ne_of_lt H64)).other W60 (Nat.ne_of_lt H56)).other W64 (Nat.ne_of_gt H47)).other W68 (Nat.ne_of_gt H47)).other W73 (Nat.ne_of_gt H47))
  have F83 : Fld Z h73 a10 "com/example/rankline/rankline/Buckets" "thresholds" "[D" (.ref a28) := (((((((((((F3.other W20 (Or.inl (Nat.ne_of_lt H47))).other W25 (Or.inl (Nat.ne_of_lt H46))).other W30 (Or.inl (Nat.ne_of_lt H45))).other W35 (Or.inl (Nat.ne_of_lt H44))).other W42 (Or.inl (Nat.ne_of_lt H43))).other W47 (Or.inl (Nat.ne_of_lt H42))).other W55 (Or.inl (Nat.ne_of_lt H41))).other W60 (Or.inl (Nat.ne_of_lt H40))).other W64 (Or.inr (slot_ne (C := "com/example/rankline/rankline/Buckets") (Or.inl (own_w hw 14 rfl)) (Or.inl (own_w hw 35 rfl)) (by decide) (t := (.array .double)) (t' := .int) (by decide) (by decide)))).other W68 (Or.inr (slot_ne (C := "com/example/rankline/rankline/Buckets") (Or.inl (own_w hw 14 rfl)) (Or.inl (own_w hw 37 rfl)) (by decide) (t := (.array .double)) (t' := .int) (by decide) (by decide)))).other W73 (Or.inr (slot_ne (C := "com/example/rankline/rankline/Buckets") (Or.inl (own_w hw 14 rfl)) (Or.inl (own_w hw 50 rfl)) (by decide) (t := (.array .double)) (t' := .int) (by decide) (by decide))))
  have F84 : Fld Z h73 a10 "com/example/rankline/rankline/Buckets" "ranks" "[D" (.ref a29) := ((((((((((F22.other W25 (Or.inl (Nat.ne_of_lt H46))).other W30 (Or.inl (Nat.ne_of_lt H45))).other W35 (Or.inl (Nat.ne_of_lt H44))).other W42 (Or.inl (Nat.ne_of_lt H43))).other W47 (Or.inl (Nat.ne_of_lt H42))).other W55 (Or.inl (Nat.ne_of_lt H41))).other W60 (Or.inl (Nat.ne_of_lt H40))).other W64 (Or.inr (slot_ne (C := "com/example/rankline/rankline/Buckets") (Or.inl (own_w hw 16 rfl)) (Or.inl (own_w hw 35 rfl)) (by decide) (t := (.array .double)) (t' := .int) (by decide) (by decide)))).other W68 (Or.inr (slot_ne (C := "com/example/rankline/rankline/Buckets") (Or.inl (own_w hw 16 rfl)) (Or.inl (own_w hw 37 rfl)) (by decide) (t := (.array .double)) (t' := .int) (by decide) (by decide)))).other W73 (Or.inr (slot_ne (C := "com/example/rankline/rankline/Buckets") (Or.inl (own_w hw 16 rfl)) (Or.inl (own_w hw 50 rfl)) (by decide) (t := (.array .double)) (t' := .int) (by decide) (by decide))))
  have F85 : Fld Z h73 a10 "com/example/rankline/rankline/Buckets" "guarded" "[Z" (.ref a30) := (((((((((F27.other W30 (Or.inl (Nat.ne_of_lt H45))).other W35 (Or.inl (Nat.ne_of_lt H44))).other W42 (Or.inl (Nat.ne_of_lt H43))).other W47 (Or.inl (Nat.ne_of_lt H42))).other W55 (Or.inl (Nat.ne_of_lt H41))).other W60 (Or.inl (Nat.ne_of_lt H40))).other W64 (Or.inr (slot_ne (C := "com/example/rankline/rankline/Buckets") (Or.inl (own_w hw 19 rfl)) (Or.inl (own_w hw 35 rfl)) (by decide) (t := (.array .boolean)) (t' := .int) (by decide) (by decide)))).other W68 (Or.inr (slot_ne (C := "com/example/rankline/rankline/Buckets") (Or.inl (own_w hw 19 rfl)) (Or.inl (own_w hw 37 rfl)) (by decide) (t := (.array .boolean)) (t' := .int) (by decide) (by decide)))).other W73 (Or.inr (slot_ne (C := "com/example/rankline/rankline/Buckets") (Or.inl (own_w hw 19 rfl)) (Or.inl (own_w hw 50 rfl)) (by decide) (t := (.array .boolean)) (t' := .int) (by decide) (by decide))))
  have F86 : Fld Z h73 a10 "com/example/rankline/rankline/Buckets" "extents" "[Lcom/example/rankline/rankline/Extent;" (.ref a31) := ((((((((F32.other W35 (Or.inl (Nat.ne_of_lt H44))).other W42 (Or.inl (Nat.ne_of_lt H43))).other W47 (Or.inl (Nat.ne_of_lt H42))).other W55 (Or.inl (Nat.ne_of_lt H41))).other W60 (Or.inl (Nat.ne_of_lt H40))).other W64 (Or.inr (slot_ne (C := "com/example/rankline/rankline/Buckets") (Or.inl (own_w hw 23 rfl)) (Or.inl (own_w hw 35 rfl)) (by decide) (t := (.array (.object "com/example/rankline/rankline/Extent"))) (t' := .int) (by decide) (by decide)))).other W68 (Or.inr (slot_ne (C := "com/example/rankline/rankline/Buckets") (Or.inl (own_w hw 23 rfl)) (Or.inl (own_w hw 37 rfl)) (by decide) (t := (.array (.object "com/example/rankline/rankline/Extent"))) (t' := .int) (by decide) (by decide)))).other W73 (Or.inr (slot_ne (C := "com/example/rankline/rankline/Buckets") (Or.inl (own_w hw 23 rfl)) (Or.inl (own_w hw 50 rfl)) (by decide) (t := (.array (.object "com/example/rankline/rankline/Extent"))) (t' := .int) (by decide) (by decide))))
  have F87 : Fld Z h73 a10 "com/example/rankline/rankline/Buckets" "addedAtThreshold" "[Z" (.ref a32) := (((((((F39.other W42 (Or.inl (Nat.ne_of_lt H43))).other W47 (Or.inl (Nat.ne_of_lt H42))).other W55 (Or.inl (Nat.ne_of_lt H41))).other W60 (Or.inl (Nat.ne_of_lt H40))).other W64 (Or.inr (slot_ne (C := "com/example/rankline/rankline/Buckets") (Or.inl (own_w hw 25 rfl)) (Or.inl (own_w hw 35 rfl)) (by decide) (t := (.array .boolean)) (t' := .int) (by decide) (by decide)))).other W68 (Or.inr (slot_ne (C := "com/example/rankline/rankline/Buckets") (Or.inl (own_w hw 25 rfl)) (Or.inl (own_w hw 37 rfl)) (by decide) (t := (.array .boolean)) (t' := .int) (by decide) (by decide)))).other W73 (Or.inr (slot_ne (C := "com/example/rankline/rankline/Buckets") (Or.inl (own_w hw 25 rfl)) (Or.inl (own_w hw 50 rfl)) (by decide) (t := (.array .boolean)) (t' := .int) (by decide) (by decide))))
  have F88 : Fld Z h73 a10 "com/example/rankline/rankline/Buckets" "copies" "[J" (.ref a33) := ((((((F44.other W47 (Or.inl (Nat.ne_of_lt H42))).other W55 (Or.inl (Nat.ne_of_lt H41))).other W60 (Or.inl (Nat.ne_of_lt H40))).other W64 (Or.inr (slot_ne (C := "com/example/rankline/rankline/Buckets") (Or.inl (own_w hw 28 rfl)) (Or.inl (own_w hw 35 rfl)) (by decide) (t := (.array .long)) (t' := .int) (by decide) (by decide)))).other W68 (Or.inr (slot_ne (C := "com/example/rankline/rankline/Buckets") (Or.inl (own_w hw 28 rfl)) (Or.inl (own_w hw 37 rfl)) (by decide) (t := (.array .long)) (t' := .int) (by decide) (by decide)))).other W73 (Or.inr (slot_ne (C := "com/example/rankline/rankline/Buckets") (Or.inl (own_w hw 28 rfl)) (Or.inl (own_w hw 50 rfl)) (by decide) (t := (.array .long)) (t' := .int) (by decide) (by decide))))
  have F89 : Fld Z h73 a10 "com/example/rankline/rankline/Buckets" "nextOf" "[I" (.ref a34) := (((((F52.other W55 (Or.inl (Nat.ne_of_lt H41))).other W60 (Or.inl (Nat.ne_of_lt H40))).other W64 (Or.inr (slot_ne (C := "com/example/rankline/rankline/Buckets") (Or.inl (own_w hw 31 rfl)) (Or.inl (own_w hw 35 rfl)) (by decide) (t := (.array .int)) (t' := .int) (by decide) (by decide)))).other W68 (Or.inr (slot_ne (C := "com/example/rankline/rankline/Buckets") (Or.inl (own_w hw 31 rfl)) (Or.inl (own_w hw 37 rfl)) (by decide) (t := (.array .int)) (t' := .int) (by decide) (by decide)))).other W73 (Or.inr (slot_ne (C := "com/example/rankline/rankline/Buckets") (Or.inl (own_w hw 31 rfl)) (Or.inl (own_w hw 50 rfl)) (by decide) (t := (.array .int)) (t' := .int) (by decide) (by decide))))
  have F90 : Fld Z h73 a10 "com/example/rankline/rankline/Buckets" "previousOf" "[I" (.ref a35) := ((((F57.other W60 (Or.inl (Nat.ne_of_lt H40))).other W64 (Or.inr (slot_ne (C := "com/example/rankline/rankline/Buckets") (Or.inl (own_w hw 33 rfl)) (Or.inl (own_w hw 35 rfl)) (by decide) (t := (.array .int)) (t' := .int) (by decide) (by decide)))).other W68 (Or.inr (slot_ne (C := "com/example/rankline/rankline/Buckets") (Or.inl (own_w hw 33 rfl)) (Or.inl (own_w hw 37 rfl)) (by decide) (t := (.array .int)) (t' := .int) (by decide) (by decide)))).other W73 (Or.inr (slot_ne (C := "com/example/rankline/rankline/Buckets") (Or.inl (own_w hw 33 rfl)) (Or.inl (own_w hw 50 rfl)) (by decide) (t := (.array .int)) (t' := .int) (by decide) (by decide))))
  have F91 : Fld Z h73 a10 "com/example/rankline/rankline/Buckets" "first" "I" (.int (0 : Int32)) := ((F65.other W68 (Or.inr (slot_ne (C := "com/example/rankline/rankline/Buckets") (Or.inl (own_w hw 35 rfl)) (Or.inl (own_w hw 37 rfl)) (by decide) (t := .int) (t' := .int) (by decide) (by decide)))).other W73 (Or.inr (slot_ne (C := "com/example/rankline/rankline/Buckets") (Or.inl (own_w hw 35 rfl)) (Or.inl (own_w hw 50 rfl)) (by decide) (t := .int) (t' := .int) (by decide) (by decide))))
  have F92 : Fld Z h73 a10 "com/example/rankline/rankline/Buckets" "last" "I" (.int (0 : Int32)) := (F69.other W73 (Or.inr (slot_ne (C := "com/example/rankline/rankline/Buckets") (Or.inl (own_w hw 37 rfl)) (Or.inl (own_w hw 50 rfl)) (by decide) (t := .int) (t' := .int) (by decide) (by decide))))
  have F93 : Fld Z h73 a10 "com/example/rankline/rankline/Buckets" "free" "I" (.int (-1 : Int32)) := (((((((((((F13.other W20 (Or.inl (Nat.ne_of_lt H47))).other W25 (Or.inl (Nat.ne_of_lt H46))).other W30 (Or.inl (Nat.ne_of_lt H45))).other W35 (Or.inl (Nat.ne_of_lt H44))).other W42 (Or.inl (Nat.ne_of_lt H43))).other W47 (Or.inl (Nat.ne_of_lt H42))).other W55 (Or.inl (Nat.ne_of_lt H41))).other W60 (Or.inl (Nat.ne_of_lt H40))).other W64 (Or.inr (slot_ne (C := "com/example/rankline/rankline/Buckets") (Or.inl (own_w hw 39 rfl)) (Or.inl (own_w hw 35 rfl)) (by decide) (t := .int) (t' := .int) (by decide) (by decide)))).other W68 (Or.inr (slot_ne (C := "com/example/rankline/rankline/Buckets") (Or.inl (own_w hw 39 rfl)) (Or.inl (own_w hw 37 rfl)) (by decide) (t := .int) (t' := .int) (by decide) (by decide)))).other W73 (Or.inr (slot_ne (C := "com/example/rankline/rankline/Buckets") (Or.inl (own_w hw 39 rfl)) (Or.inl (own_w hw 50 rfl)) (by decide) (t := .int) (t' := .int) (by decide) (by decide))))
  have F94 : Fld Z h73 a10 "com/example/rankline/rankline/Buckets" "smallestMagnitude" "D" (.double (9218868437227405312 : UInt64)) := (((((((((((F14.other W20 (Or.inl (Nat.ne_of_lt H47))).other W25 (Or.inl (Nat.ne_of_lt H46))).other W30 (Or.inl (Nat.ne_of_lt H45))).other W35 (Or.inl (Nat.ne_of_lt H44))).other W42 (Or.inl (Nat.ne_of_lt H43))).other W47 (Or.inl (Nat.ne_of_lt H42))).other W55 (Or.inl (Nat.ne_of_lt H41))).other W60 (Or.inl (Nat.ne_of_lt H40))).other W64 (Or.inr (slot_ne (C := "com/example/rankline/rankline/Buckets") (Or.inl (own_w hw 42 rfl)) (Or.inl (own_w hw 35 rfl)) (by decide) (t := .double) (t' := .int) (by decide) (by decide)))).other W68 (Or.inr (slot_ne (C := "com/example/rankline/rankline/Buckets") (Or.inl (own_w hw 42 rfl)) (Or.inl (own_w hw 37 rfl)) (by decide) (t := .double) (t' := .int) (by decide) (by decide)))).other W73 (Or.inr (slot_ne (C := "com/example/rankline/rankline/Buckets") (Or.inl (own_w hw 42 rfl)) (Or.inl (own_w hw 50 rfl)) (by decide) (t := .double) (t' := .int) (by decide) (by decide))))
  have F95 : Fld Z h73 a10 "com/example/rankline/rankline/Buckets" "used" "I" (.int (1 : Int32)) := (((((((((((F16.other W20 (Or.inl (Nat.ne_of_lt H47))).other W25 (Or.inl (Nat.ne_of_lt H46))).other W30 (Or.inl (Nat.ne_of_lt H45))).other W35 (Or.inl (Nat.ne_of_lt H44))).other W42 (Or.inl (Nat.ne_of_lt H43))).other W47 (Or.inl (Nat.ne_of_lt H42))).other W55 (Or.inl (Nat.ne_of_lt H41))).other W60 (Or.inl (Nat.ne_of_lt H40))).other W64 (Or.inr (slot_ne (C := "com/example/rankline/rankline/Buckets") (Or.inl (own_w hw 92 rfl)) (Or.inl (own_w hw 35 rfl)) (by decide) (t := .int) (t' := .int) (by decide) (by decide)))).other W68 (Or.inr (slot_ne (C := "com/example/rankline/rankline/Buckets") (Or.inl (own_w hw 92 rfl)) (Or.inl (own_w hw 37 rfl)) (by decide) (t := .int) (t' := .int) (by decide) (by decide)))).other W73 (Or.inr (slot_ne (C := "com/example/rankline/rankline/Buckets") (Or.inl (own_w hw 92 rfl)) (Or.inl (own_w hw 50 rfl)) (by decide) (t := .int) (t' := .int) (by decide) (by decide))))
  exact own_retI X73 hx hlk hret (hb hby d8_152) e73 ⟨rfl, N73, (((((((((((((Keep.refl _ _).trans K2 (allS (Or.inl (by simp)) all0)).wr W20 (Or.inl (by simp))).wr W25 (Or.inl (by simp))).wr W30 (Or.inl (by simp))).wr W35 (Or.inl (by simp))).wr W42 (Or.inl (by simp))).wr W47 (Or.inl (by simp))).wr W55 (Or.inl (by simp))).wr W60 (Or.inl (by simp))).wr W64 (Or.inl (by simp))).wr W68 (Or.inl (by simp))).wr W73 (Or.inl (by simp))), F75, F76, F77, F78, F79, F80, F81, F82, F83, F84, F85, F86, F87, F88, F89, F90, F91, F92, F93, F94, F74, F95⟩ (by decide) (by decide)
theorem own_pd4 : parseMethodDescriptor "(IDDLcom/example/rankline/rankline/Extent;J)I" = some ⟨[.int, .double, .double, (.object "com/example/rankline/rankline/Extent"), .long], some .int⟩ := by decide +kernel
def own_s6_Q (Z : State) (a10 : Addr) (f121 : UInt64) (a6 : Addr) (a28 : Addr) (a29 : Addr) (a30 : Addr) (a31 : Addr) (a32 : Addr) (a33 : Addr) (a34 : Addr) (a35 : Addr) (v2 : Int32) (h0 : Heap) (n0 : Nat) (v_ : Option Value) (h_ : Heap) (L_ : List Loc) : Prop := (fun v h L => ∃ (a4 : Addr), v = none ∧ Fr n0 L ∧ Keep h0 h [a10, a28, a29, a30, a31, a32, a33, a34, a35] ∧ h0.size ≤ a4 ∧ own_Ary Z h a35 .int [(.int (-1 : Int32)), (.int (0 : Int32)), (.int (0 : Int32)), (.int (0 : Int32)), (.int (0 : Int32)), (.int (0 : Int32)), (.int (0 : Int32)), (.int (0 : Int32)), (.int (0 : Int32)), (.int (0 : Int32)), (.int (0 : Int32)), (.int (0 : Int32)), (.int (0 : Int32)), (.int (0 : Int32)), (.int (0 : Int32)), (.int (0 : Int32))] ∧ own_Ary Z h a34 .int [(.int (-1 : Int32)), (.int (0 : Int32)), (.int (0 : Int32)), (.int (0 : Int32)), (.int (0 : Int32)), (.int (0 : Int32)), (.int (0 : Int32)), (.int (0 : Int32)), (.int (0 : Int32)), (.int (0 : Int32)), (.int (0 : Int32)), (.int (0 : Int32)), (.int (0 : Int32)), (.int (0 : Int32)), (.int (0 : Int32)), (.int (0 : Int32))] ∧ own_Ary Z h a33 .long [(.long (0 : Int64)), (.long (0 : Int64)), (.long (0 : Int64)), (.long (0 : Int64)), (.long (0 : Int64)), (.long (0 : Int64)), (.long (0 : Int64)), (.long (0 : Int64)), (.long (0 : Int64)), (.long (0 : Int64)), (.long (0 : Int64)), (.long (0 : Int64)), (.long (0 : Int64)), (.long (0 : Int64)), (.long (0 : Int64)), (.long (0 : Int64))] ∧ own_Ary Z h a32 .boolean [(.int (0 : Int32)), (.int (0 : Int32)), (.int (0 : Int32)), (.int (0 : Int32)), (.int (0 : Int32)), (.int (0 : Int32)), (.int (0 : Int32)), (.int (0 : Int32)), (.int (0 : Int32)), (.int (0 : Int32)), (.int (0 : Int32)), (.int (0 : Int32)), (.int (0 : Int32)), (.int (0 : Int32)), (.int (0 : Int32)), (.int (0 : Int32))] ∧ own_Ary Z h a31 (.object "com/example/rankline/rankline/Extent") [(.ref a4), .null, .null, .null, .null, .null, .null, .null, .null, .null, .null, .null, .null, .null, .null, .null] ∧ own_Ary Z h a30 .boolean [(.int (0 : Int32)), (.int (0 : Int32)), (.int (0 : Int32)), (.int (0 : Int32)), (.int (0 : Int32)), (.int (0 : Int32)), (.int (0 : Int32)), (.int (0 : Int32)), (.int (0 : Int32)), (.int (0 : Int32)), (.int (0 : Int32)), (.int (0 : Int32)), (.int (0 : Int32)), (.int (0 : Int32)), (.int (0 : Int32)), (.int (0 : Int32))] ∧ own_Ary Z h a29 .double [(.double f121), (.double (0 : UInt64)), (.double (0 : UInt64)), (.double (0 : UInt64)), (.double (0 : UInt64)), (.double (0 : UInt64)), (.double (0 : UInt64)), (.double (0 : UInt64)), (.double (0 : UInt64)), (.double (0 : UInt64)), (.double (0 : UInt64)), (.double (0 : UInt64)), (.double (0 : UInt64)), (.double (0 : UInt64)), (.double (0 : UInt64)), (.double (0 : UInt64))] ∧ own_Ary Z h a28 .double [(.double (0 : UInt64)), (.double (0 : UInt64)), (.double (0 : UInt64)), (.double (0 : UInt64)), (.double (0 : UInt64)), (.double (0 : UInt64)), (.double (0 : UInt64)), (.double (0 : UInt64)), (.double (0 : UInt64)), (.double (0 : UInt64)), (.double (0 : UInt64)), (.double (0 : UInt64)), (.double (0 : UInt64)), (.double (0 : UInt64)), (.double (0 : UInt64)), (.double (0 : UInt64))] ∧ Fld Z h a10 "com/example/rankline/rankline/Buckets" "thresholds" "[D" (.ref a28) ∧ Fld Z h a10 "com/example/rankline/rankline/Buckets" "ranks" "[D" (.ref a29) ∧ Fld Z h a10 "com/example/rankline/rankline/Buckets" "guarded" "[Z" (.ref a30) ∧ Fld Z h a10 "com/example/rankline/rankline/Buckets" "extents" "[Lcom/example/rankline/rankline/Extent;" (.ref a31) ∧ Fld Z h a10 "com/example/rankline/rankline/Buckets" "addedAtThreshold" "[Z" (.ref a32) ∧ Fld Z h a10 "com/example/rankline/rankline/Buckets" "copies" "[J" (.ref a33) ∧ Fld Z h a10 "com/example/rankline/rankline/Buckets" "nextOf" "[I" (.ref a34) ∧ Fld Z h a10 "com/example/rankline/rankline/Buckets" "previousOf" "[I" (.ref a35) ∧ Fld Z h a10 "com/example/rankline/rankline/Buckets" "first" "I" (.int (0 : Int32)) ∧ Fld Z h a10 "com/example/rankline/rankline/Buckets" "last" "I" (.int (0 : Int32)) ∧ Fld Z h a10 "com/example/rankline/rankline/Buckets" "free" "I" (.int (-1 : Int32)) ∧ Fld Z h a10 "com/example/rankline/rankline/Buckets" "smallestMagnitude" "D" (.double (9218868437227405312 : UInt64)) ∧ Fld Z h a10 "com/example/rankline/rankline/Buckets" "size" "I" (.int (1 : Int32)) ∧ Fld Z h a10 "com/example/rankline/rankline/Buckets" "used" "I" (.int (1 : Int32)) ∧ Exa Z h a4 "com/example/rankline/rankline/Extent" ∧ Fld Z h a4 "com/example/rankline/rankline/Extent" "low" "D" (.double (0 : UInt64)) ∧ Fld Z h a4 "com/example/rankline/rankline/Extent" "gapLow" "D" (.double (0 : UInt64)) ∧ Fld Z h a4 "com/example/rankline/rankline/Extent" "gapHigh" "D" (.double (0 : UInt64)) ∧ Fld Z h a4 "com/example/rankline/rankline/Extent" "high" "D" (.double (0 : UInt64)) ∧ Fld Z h a4 "com/example/rankline/rankline/Extent" "below" "D" (.double f121) ∧ Fld Z h a4 "com/example/rankline/rankline/Extent" "count" "D" (.double f121)) v_ h_ L_
set_option maxRecDepth 65536 in
set_option maxHeartbeats 40000000 in
theorem own_s6 (l : Launch) (Z : State) (a0 : Array Value) (hw : ∀ d ∈ tables_1, d.before a0 Z = true) (wds : List Jvm.Cond) (a10 : Addr) (f121 : UInt64) (a6 : Addr) (a28 : Addr) (a29 : Addr) (a30 : Addr) (a31 : Addr) (a32 : Addr) (a33 : Addr) (a34 : Addr) (a35 : Addr) (v2 : Int32) (h0 : Heap) (n0 : Nat) (Z0 : n0 ≤ h0.size) (H1 : Exa Z h0 a10 "com/example/rankline/rankline/Buckets") (H2 : Fld Z h0 a10 "com/example/rankline/rankline/Buckets" "thresholds" "[D" (.ref a28)) (H3 : Fld Z h0 a10 "com/example/rankline/rankline/Buckets" "ranks" "[D" (.ref a29)) (H4 : Fld Z h0 a10 "com/example/rankline/rankline/Buckets" "guarded" "[Z" (.ref a30)) (H5 : Fld Z h0 a10 "com/example/rankline/rankline/Buckets" "extents" "[Lcom/example/rankline/rankline/Extent;" (.ref a31)) (H6 : Fld Z h0 a10 "com/example/rankline/rankline/Buckets" "addedAtThreshold" "[Z" (.ref a32)) (H7 : Fld Z h0 a10 "com/example/rankline/rankline/Buckets" "copies" "[J" (.ref a33)) (H8 : Fld Z h0 a10 "com/example/rankline/rankline/Buckets" "nextOf" "[I" (.ref a34)) (H9 : Fld Z h0 a10 "com/example/rankline/rankline/Buckets" "previousOf" "[I" (.ref a35)) (H10 : Fld Z h0 a10 "com/example/rankline/rankline/Buckets" "first" "I" (.int (-1 : Int32))) (H11 : Fld Z h0 a10 "com/example/rankline/rankline/Buckets" "last" "I" (.int (-1 : Int32))) (H12 : Fld Z h0 a10 "com/example/rankline/rankline/Buckets" "free" "I" (.int (-1 : Int32))) (H13 : Fld Z h0 a10 "com/example/rankline/rankline/Buckets" "smallestMagnitude" "D" (.double (9218868437227405312 : UInt64))) (H14 : Fld Z h0 a10 "com/example/rankline/rankline/Buckets" "size" "I" (.int (0 : Int32))) (H15 : Fld Z h0 a10 "com/example/rankline/rankline/Buckets" "used" "I" (.int (0 : Int32))) (H16 : own_Ary Z h0 a35 .int [(.int (0 : Int32)), (.int (0 : Int32)), (.int (0 : Int32)), (.int (0 : Int32)), (.int (0 : Int32)), (.int (0 : Int32)), (.int (0 : Int32)), (.int (0 : Int32)), (.int (0 : Int32)), (.int (0 : Int32)), (.int (0 : Int32)), (.int (0 : Int32)), (.int (0 : Int32)), (.int (0 : Int32)), (.int (0 : Int32)), (.int (0 : Int32))]) (H18 : own_Ary Z h0 a34 .int [(.int (0 : Int32)), (.int (0 : Int32)), (.int (0 : Int32)), (.int (0 : Int32)), (.int (0 : Int32)), (.int (0 : Int32)), (.int (0 : Int32)), (.int (0 : Int32)), (.int (0 : Int32)), (.int (0 : Int32)), (.int (0 : Int32)), (.int (0 : Int32)), (.int (0 : Int32)), (.int (0 : Int32)), (.int (0 : Int32)), (.int (0 : Int32))]) (H20 : own_Ary Z h0 a33 .long [(.long (0 : Int64)), (.long (0 : Int64)), (.long (0 : Int64)), (.long (0 : Int64)), (.long (0 : Int64)), (.long (0 : Int64)), (.long (0 : Int64)), (.long (0 : Int64)), (.long (0 : Int64)), (.long (0 : Int64)), (.long (0 : Int64)), (.long (0 : Int64)), (.long (0 : Int64)), (.long (0 : Int64)), (.long (0 : Int64)), (.long (0 : Int64))]) (H22 : own_Ary Z h0 a32 .boolean [(.int (0 : Int32)), (.int (0 : Int32)), (.int (0 : Int32)), (.int (0 : Int32)), (.int (0 : Int32)), (.int (0 : Int32)), (.int (0 : Int32)), (.int (0 : Int32)), (.int (0 : Int32)), (.int (0 : Int32)), (.int (0 : Int32)), (.int (0 : Int32)), (.int (0 : Int32)), (.int (0 : Int32)), (.int (0 : Int32)), (.int (0 : Int32))]) (H24 : own_Ary Z h0 a31 (.object "com/example/rankline/rankline/Extent") [.null, .null, .null, .null, .null, .null, .null, .null, .null, .null, .null, .null, .null, .null, .null, .null]) (H26 : own_Ovr Z h0 a31 "com/example/rankline/rankline/Extent") (H27 : own_Ary Z h0 a30 .boolean [(.int (0 : Int32)), (.int (0 : Int32)), (.int (0 : Int32)), (.int (0 : Int32)), (.int (0 : Int32)), (.int (0 : Int32)), (.int (0 : Int32)), (.int (0 : Int32)), (.int (0 : Int32)), (.int (0 : Int32)), (.int (0 : Int32)), (.int (0 : Int32)), (.int (0 : Int32)), (.int (0 : Int32)), (.int (0 : Int32)), (.int (0 : Int32))]) (H29 : own_Ary Z h0 a29 .double [(.double (0 : UInt64)), (.double (0 : UInt64)), (.double (0 : UInt64)), (.double (0 : UInt64)), (.double (0 : UInt64)), (.double (0 : UInt64)), (.double (0 : UInt64)), (.double (0 : UInt64)), (.double (0 : UInt64)), (.double (0 : UInt64)), (.double (0 : UInt64)), (.double (0 : UInt64)), (.double (0 : UInt64)), (.double (0 : UInt64)), (.double (0 : UInt64)), (.double (0 : UInt64))]) (H31 : own_Ary Z h0 a28 .double [(.double (0 : UInt64)), (.double (0 : UInt64)), (.double (0 : UInt64)), (.double (0 : UInt64)), (.double (0 : UInt64)), (.double (0 : UInt64)), (.double (0 : UInt64)), (.double (0 : UInt64)), (.double (0 : UInt64)), (.double (0 : UInt64)), (.double (0 : UInt64)), (.double (0 : UInt64)), (.double (0 : UInt64)), (.double (0 : UInt64)), (.double (0 : UInt64)), (.double (0 : UInt64))]) (H40 : a10 < a35) (H41 : a10 < a34) (H42 : a10 < a33) (H43 : a10 < a32) (H44 : a10 < a31) (H45 : a10 < a30) (H46 : a10 < a29) (H47 : a10 < a28) (H49 : n0 ≤ a10) (H50 : a34 < a35) (H51 : a33 < a35) (H52 : a32 < a35) (H53 : a31 < a35) (H54 : a30 < a35) (H55 : a29 < a35) (H56 : a28 < a35) (H58 : n0 ≤ a35) (H59 : a33 < a34) (H60 : a32 < a34) (H61 : a31 < a34) (H62 : a30 < a34) (H63 : a29 < a34) (H64 : a28 < a34) (H66 : n0 ≤ a34) (H67 : a32 < a33) (H68 : a31 < a33) (H69 : a30 < a33) (H70 : a29 < a33) (H71 : a28 < a33) (H73 : n0 ≤ a33) (H74 : a31 < a32) (H75 : a30 < a32) (H76 : a29 < a32) (H77 : a28 < a32) (H79 : n0 ≤ a32) (H80 : a30 < a31) (H81 : a29 < a31) (H82 : a28 < a31) (H84 : n0 ≤ a31) (H85 : a29 < a30) (H86 : a28 < a30) (H88 : n0 ≤ a30) (H89 : a28 < a29) (H91 : n0 ≤ a29) (H93 : n0 ≤ a28) :
    MetFree l (⟨"com/example/rankline/rankline/Buckets", "append", "(DDLcom/example/rankline/rankline/Extent;J)V"⟩ : MethodName) (head1 (Jvm.Cond.code (⟨"com/example/rankline/rankline/Buckets", "append", "(DDLcom/example/rankline/rankline/Extent;J)V"⟩ : MethodName) prog_5_method_13_code 8 none :: wds) ({ frames := 4, cells := 1, slots := 6, locals := 72 } : Room)) (fun ar_ U_ => ar_ = #[(.ref a10), (.double (0 : UInt64)), (.double f121), (.ref a6), (.long (0 : Int64))] ∧ Z.Warmed39 U_.vm ∧ U_.heap = h0) (fun _ _ _ _ _ => True) (fun _ U_ o_ V_ => ∃ v_ L_, o_ = .returned v_ ∧ own_s6_Q Z a10 f121 a6 a28 a29 a30 a31 a32 a33 a34 a35 v2 h0 n0 v_ V_.heap L_ ∧ FrameEnd U_ o_ V_ L_ ({ frames := 4, cells := 1, slots := 6, locals := 72 } : Room).cells ({ frames := 4, cells := 1, slots := 6, locals := 72 } : Room).slots) := by
  refine own_met (y := ⟨"com/example/rankline/rankline/Buckets", "append", "(DDLcom/example/rankline/rankline/Extent;J)V"⟩) (Q := own_s6_Q Z a10 f121 a6 a28 a29 a30 a31 a32 a33 a34 a35 v2 h0 n0) own_pn1 ?_
  intro p e s m below meth c s₁ hx hby hml hZ hown hnm hret hlk X0 e0
  have N0 := Fr.nil n0
  refine own_cast (g' := (mkF m 0 #[.val (.ref a10), .val (.double (0 : UInt64)), .second, .val (.double f121), .second, .val (.ref a6), .val (.long (0 : Int64)), .second] [])) (by first | (simp [entryFrame, mkF, argsToLocals, Value.category]; done) | rfl) ?_
  generalize hL1 : (#[.val (.ref a10), .val (.double (0 : UInt64)), .second, .val (.double f121), .second, .val (.ref a6), .val (.long (0 : Int64)), .second] : Array Slot) = L1
  refine own_pre (T' := s₁) (g' := (mkF m 1 L1 [(.ref a10)])) (fun t k => XS.aloadN X0.here hx rfl (v := (.ref a10)) (hb hby d7_0) (by rw [← hL1]; rfl) rfl k) ?_
  refine own_pre (T' := s₁) (g' := (mkF m 2 L1 [(.int (-1 : Int32)), (.ref a10)])) (fun t k => XS.iconst X0.here hx rfl (hb hby d7_1) k) ?_
  refine own_pre (T' := s₁) (g' := (mkF m 3 L1 [(.double (0 : UInt64)), (.int (-1 : Int32)), (.ref a10)])) (fun t k => XS.dloadN X0.here hx rfl (v := (0 : UInt64)) (hb hby d7_2) (by rw [← hL1]; rfl) k) ?_
  refine own_pre (T' := s₁) (g' := (mkF m 4 L1 [(.double f121), (.double (0 : UInt64)), (.int (-1 : Int32)), (.ref a10)])) (fun t k => XS.dloadN X0.here hx rfl (v := f121) (hb hby d7_3) (by rw [← hL1]; rfl) k) ?_
  refine own_pre (T' := s₁) (g' := (mkF m 5 L1 [(.ref a10), (.double f121), (.double (0 : UInt64)), (.int (-1 : Int32)), (.ref a10)])) (fun t k => XS.aloadN X0.here hx rfl (v := (.ref a10)) (hb hby d7_4) (by rw [← hL1]; rfl) rfl k) ?_
  refine own_getf X0 hx hZ hown (own_w hw 49 rfl) e0 H14 (hb hby d7_5) ?_
  intro T2 X2 e2
  show own_Go _ _ _ _ _ _ _ T2 (mkF m 8 L1 [(.int (0 : Int32)), (.double f121), (.double (0 : UInt64)), (.int (-1 : Int32)), (.ref a10)])
  refine own_pre (T' := T2) (g' := (mkF m 11 L1 [(.double f121), (.double (0 : UInt64)), (.int (-1 : Int32)), (.ref a10)])) (fun t k => XS.ifNo X2.here hx rfl (hb hby d7_8) rfl (by decide) k) ?_
  refine own_pre (T' := T2) (g' := (mkF m 12 L1 [(.double (0 : UInt64)), (.double f121), (.double (0 : UInt64)), (.int (-1 : Int32)), (.ref a10)])) (fun t k => XS.dloadN X2.here hx rfl (v := (0 : UInt64)) (hb hby d7_11) (by rw [← hL1]; rfl) k) ?_
  refine own_pre (T' := T2) (g' := (mkF m 13 L1 [(.double (0 : UInt64)), (.double (0 : UInt64)), (.double f121), (.double (0 : UInt64)), (.int (-1 : Int32)), (.ref a10)])) (fun t k => XS.dloadN X2.here hx rfl (v := (0 : UInt64)) (hb hby d7_12) (by rw [← hL1]; rfl) k) ?_
  refine own_pre (T' := T2) (g' := (mkF m 14 L1 [(.double f121), (.double (0 : UInt64)), (.double (0 : UInt64)), (.double f121), (.double (0 : UInt64)), (.int (-1 : Int32)), (.ref a10)])) (fun t k => XS.dloadN X2.here hx rfl (v := f121) (hb hby d7_13) (by rw [← hL1]; rfl) k) ?_
  refine own_calls (argsL := [(.double (0 : UInt64)), (.double (0 : UInt64)), (.double f121)]) (rest := [(.double f121), (.double (0 : UInt64)), (.int (-1 : Int32)), (.ref a10)]) X2 hx hZ hown (own_s7 l Z a0 hw [] f121 v2 h0 n0 Z0 ) (own_w hw 51 rfl) (own_w hw 52 rfl) (own_w hw 54 rfl) (own_w hw 53 rfl) (by decide) e2 (hb hby d7_14) (by rw [hml, ← hL1]; rfl) rfl (lenOf own_pd2 rfl) (by decide) (W := 6) (Nat.le_of_eq rfl) (by decide) (by decide) (by decide) ?_
  intro v3 T3 lo3 X3 Q3
  obtain ⟨h3, e3⟩ : ∃ h, T3.heap = h := ⟨_, rfl⟩
  rw [e3] at Q3
  obtain ⟨a4, rfl, N3, K3, ge5, F6, F7, F8, F9, F10, F11, F12⟩ := Q3
  have N3' := Fr.app N0 N3
  show own_Go _ _ _ _ _ _ _ T3 (mkF m 17 L1 [(.ref a4), (.double f121), (.double (0 : UInt64)), (.int (-1 : Int32)), (.ref a10)])
  have lt13 : a10 < a4 := Nat.lt_of_lt_of_le H1.lt ge5
  have lt14 : a35 < a4 := Nat.lt_of_lt_of_le H16.lt ge5
  have lt15 : a34 < a4 := Nat.lt_of_lt_of_le H18.lt ge5
  have lt16 : a33 < a4 := Nat.lt_of_lt_of_le H20.lt ge5
  have lt17 : a32 < a4 := Nat.lt_of_lt_of_le H22.lt ge5
  have lt18 : a31 < a4 := Nat.lt_of_lt_of_le H24.lt ge5
  have lt19 : a30 < a4 := Nat.lt_of_lt_of_le H27.lt ge5
  have lt20 : a29 < a4 := Nat.lt_of_lt_of_le H29.lt ge5
  have lt21 : a28 < a4 := Nat.lt_of_lt_of_le H31.lt ge5
  have ge24 : h0.size ≤ a4 := Nat.le_trans (Nat.le_refl _) ge5
  refine own_pre (T' := T3) (g' := (mkF m 22 L1 [(.ref a4), (.double f121), (.double (0 : UInt64)), (.int (-1 : Int32)), (.ref a10)])) (fun t k => XS.goto X3.here hx rfl (pc0 := 17) (pc' := 22) rfl (hb hby d7_17) (by decide) (by decide) k) ?_
  refine own_pre (T' := T3) (g' := (mkF m 24 L1 [(.long (0 : Int64)), (.ref a4), (.double f121), (.double (0 : UInt64)), (.int (-1 : Int32)), (.ref a10)])) (fun t k => XT.lload X3.here hx rfl (v := (0 : Int64)) (hb hby d7_22) (by rw [← hL1]; rfl) k) ?_
  have F25 : Exa Z h3 a10 "com/example/rankline/rankline/Buckets" := (H1.keep K3)
  have F26 : Fld Z h3 a10 "com/example/rankline/rankline/Buckets" "thresholds" "[D" (.ref a28) := (H2.keep K3 nin0)
  have F27 : Fld Z h3 a10 "com/example/rankline/rankline/Buckets" "ranks" "[D" (.ref a29) := (H3.keep K3 nin0)
  have F28 : Fld Z h3 a10 "com/example/rankline/rankline/Buckets" "guarded" "[Z" (.ref a30) := (H4.keep K3 nin0)
  have F29 : Fld Z h3 a10 "com/example/rankline/rankline/Buckets" "extents" "[Lcom/example/rankline/rankline/Extent;" (.ref a31) := (H5.keep K3 nin0)
  have F30 : Fld Z h3 a10 "com/example/rankline/rankline/Buckets" "addedAtThreshold" "[Z" (.ref a32) := (H6.keep K3 nin0)
  have F31 : Fld Z h3 a10 "com/example/rankline/rankline/Buckets" "copies" "[J" (.ref a33) := (H7.keep K3 nin0)
  have F32 : Fld Z h3 a10 "com/example/rankline/rankline/Buckets" "nextOf" "[I" (.ref a34) := (H8.keep K3 nin0)
  have F33 : Fld Z h3 a10 "com/example/rankline/rankline/Buckets" "previousOf" "[I" (.ref a35) := (H9.keep K3 nin0)
  have F34 : Fld Z h3 a10 "com/example/rankline/rankline/Buckets" "first" "I" (.int (-1 : Int32)) := (H10.keep K3 nin0)
  have F35 : Fld Z h3 a10 "com/example/rankline/rankline/Buckets" "last" "I" (.int (-1 : Int32)) := (H11.keep K3 nin0)
  have F36 : Fld Z h3 a10 "com/example/rankline/rankline/Buckets" "free" "I" (.int (-1 : Int32)) := (H12.keep K3 nin0)
  have F37 : Fld Z h3 a10 "com/example/rankline/rankline/Buckets" "smallestMagnitude" "D" (.double (9218868437227405312 : UInt64)) := (H13.keep K3 nin0)
  have F38 : Fld Z h3 a10 "com/example/rankline/rankline/Buckets" "size" "I" (.int (0 : Int32)) := (H14.keep K3 nin0)
  have F39 : Fld Z h3 a10 "com/example/rankline/rankline/Buckets" "used" "I" (.int (0 : Int32)) := (H15.keep K3 nin0)
  have F40 : own_Ary Z h3 a35 .int [(.int (0 : Int32)), (.int (0 : Int32)), (.int (0 : Int32)), (.int (0 : Int32)), (.int (0 : Int32)), (.int (0 : Int32)), (.int (0 : Int32)), (.int (0 : Int32)), (.int (0 : Int32)), (.int (0 : Int32)), (.int (0 : Int32)), (.int (0 : Int32)), (.int (0 : Int32)), (.int (0 : Int32)), (.int (0 : Int32)), (.int (0 : Int32))] := (H16.keep K3 nin0)
  have F42 : own_Ary Z h3 a34 .int [(.int (0 : Int32)), (.int (0 : Int32)), (.int (0 : Int32)), (.int (0 : Int32)), (.int (0 : Int32)), (.int (0 : Int32)), (.int (0 : Int32)), (.int (0 : Int32)), (.int (0 : Int32)), (.int (0 : Int32)), (.int (0 : Int32)), (.int (0 : Int32)), (.int (0 : Int32)), (.int (0 : Int32)), (.int (0 : Int32)), (.int (0 : Int32))] := (H18.keep K3 nin0)
  have F44 : own_Ary Z h3 a33 .long [(.long (0 : Int64)), (.long (0 : Int64)), (.long (0 : Int64)), (.long (0 : Int64)), (.long (0 : Int64)), (.long (0 : Int64)), (.long (0 : Int64)), (.long (0 : Int64)), (.long (0 : Int64)), (.long (0 : Int64)), (.long (0 : Int64)), (.long (0 : Int64)), (.long (0 : Int64)), (.long (0 : Int64)), (.long (0 : Int64)), (.long (0 : Int64))] := (H20.keep K3 nin0)
  have F46 : own_Ary Z h3 a32 .boolean [(.int (0 : Int32)), (.int (0 : Int32)), (.int (0 : Int32)), (.int (0 : Int32)), (.int (0 : Int32)), (.int (0 : Int32)), (.int (0 : Int32)), (.int (0 : Int32)), (.int (0 : Int32)), (.int (0 : Int32)), (.int (0 : Int32)), (.int (0 : Int32)), (.int (0 : Int32)), (.int (0 : Int32)), (.int (0 : Int32)), (.int (0 : Int32))] := (H22.keep K3 nin0)
  have F48 : own_Ary Z h3 a31 (.object "com/example/rankline/rankline/Extent") [.null, .null, .null, .null, .null, .null, .null, .null, .null, .null, .null, .null, .null, .null, .null, .null] := (H24.keep K3 nin0)
  have F50 : own_Ovr Z h3 a31 "com/example/rankline/rankline/Extent" := (H26.keep K3)
  have F51 : own_Ary Z h3 a30 .boolean [(.int (0 : Int32)), (.int (0 : Int32)), (.int (0 : Int32)), (.int (0 : Int32)), (.int (0 : Int32)), (.int (0 : Int32)), (.int (0 : Int32)), (.int (0 : Int32)), (.int (0 : Int32)), (.int (0 : Int32)), (.int (0 : Int32)), (.int (0 : Int32)), (.int (0 : Int32)), (.int (0 : Int32)), (.int (0 : Int32)), (.int (0 : Int32))] := (H27.keep K3 nin0)
  have F53 : own_Ary Z h3 a29 .double [(.double (0 : UInt64)), (.double (0 : UInt64)), (.double (0 : UInt64)), (.double (0 : UInt64)), (.double (0 : UInt64)), (.double (0 : UInt64)), (.double (0 : UInt64)), (.double (0 : UInt64)), (.double (0 : UInt64)), (.double (0 : UInt64)), (.double (0 : UInt64)), (.double (0 : UInt64)), (.double (0 : UInt64)), (.double (0 : UInt64)), (.double (0 : UInt64)), (.double (0 : UInt64))] := (H29.keep K3 nin0)
  have F55 : own_Ary Z h3 a28 .double [(.double (0 : UInt64)), (.double (0 : UInt64)), (.double (0 : UInt64)), (.double (0 : UInt64)), (.double (0 : UInt64)), (.double (0 : UInt64)), (.double (0 : UInt64)), (.double (0 : UInt64)), (.double (0 : UInt64)), (.double (0 : UInt64)), (.double (0 : UInt64)), (.double (0 : UInt64)), (.double (0 : UInt64)), (.double (0 : UInt64)), (.double (0 : UInt64)), (.double (0 : UInt64))] := (H31.keep K3 nin0)
  have F57 : n0 ≤ h3.size := (Nat.le_trans Z0 K3.1)
  refine own_callp (a := a10) (argsL := [(.int (-1 : Int32)), (.double (0 : UInt64)), (.double f121), (.ref a4), (.long (0 : Int64))]) (rest := []) X3 hx hZ hown (own_s10 l Z a0 hw [] a10 f121 a4 a28 a29 a30 a31 a32 a33 a34 a35 v2 h3 n0 F57 F25 F26 F27 F28 F29 F30 F31 F32 F33 F34 F35 F36 F37 F38 F39 F40 F42 F44 F46 F48 F50 F51 F53 F55 F6 H40 H41 H42 H43 H44 H45 H46 H47 H49 H50 H51 H52 H53 H54 H55 H56 H58 H59 H60 H61 H62 H63 H64 H66 H67 H68 H69 H70 H71 H73 H74 H75 H76 H77 H79 H80 H81 H82 H84 H85 H86 H88 H89 H91 H93) F25 (own_w hw 83 rfl) (own_w hw 4 rfl) (own_w hw 85 rfl) (own_w hw 84 rfl) (own_w hw 86 rfl) (own_w hw 5 rfl) (by decide) e3 (hb hby d7_24) (by rw [hml, ← hL1]; rfl) rfl (lenOf own_pd4 rfl) (by decide) (W := 0) (Nat.le_of_eq rfl) (by decide) (by decide) (by decide) ?_
  intro v58 T58 lo58 X58 Q58
  obtain ⟨h58, e58⟩ : ∃ h, T58.heap = h := ⟨_, rfl⟩
  rw [e58] at Q58
  obtain ⟨rfl, N58, K58, F59, F60, F61, F62, F63, F64, F65, F66, F67, F68, F69, F70, F71, F72, F73, F74, F75, F76, F77, F78, F79, F80⟩ := Q58
  have N58' := Fr.app N3' N58
  show own_Go _ _ _ _ _ _ _ T58 (mkF m 27 L1 [(.int (0 : Int32))])
  refine own_pre (T' := T58) (g' := (mkF m 28 L1 [])) (fun t k => XT.pop X58.here hx rfl (hb hby d7_27) rfl rfl k) ?_
  have F81 : Exa Z h58 a4 "com/example/rankline/rankline/Extent" := (F6.keep K58)
  have F82 : Fld Z h58 a4 "com/example/rankline/rankline/Extent" "low" "D" (.double (0 : UInt64)) := (F7.keep K58 (ninS (Nat.ne_of_gt lt13) (ninS (Nat.ne_of_gt lt21) (ninS (Nat.ne_of_gt lt20) (ninS (Nat.ne_of_gt lt19) (ninS (Nat.ne_of_gt lt18) (ninS (Nat.ne_of_gt lt17) (ninS (Nat.ne_of_gt lt16) (ninS (Nat.ne_of_gt lt15) (ninS (Nat.ne_of_gt lt14) nin0))))))))))
  have F83 : Fld Z h58 a4 "com/example/rankline/rankline/Extent" "gapLow" "D" (.double (0 : UInt64)) := (F8.keep K58 (ninS (Nat.ne_of_gt lt13) (ninS (Nat.ne_of_gt lt21) (ninS (Nat.ne_of_gt lt20) (ninS (Nat.ne_of_gt lt19) (ninS (Nat.ne_of_gt lt18) (ninS (Nat.ne_of_gt lt17) (ninS (Nat.ne_of_gt lt16) (ninS (Nat.ne_of_gt lt15) (ninS (Nat.ne_of_gt lt14) nin0))))))))))
  have F84 : Fld Z h58 a4 "com/example/rankline/rankline/Extent" "gapHigh" "D" (.double (0 : UInt64)) := (F9.keep K58 (ninS (Nat.ne_of_gt lt13) (ninS (Nat.ne_of_gt lt21) (ninS (Nat.ne_of_gt lt20) (ninS (Nat.ne_of_gt lt19) (ninS (Nat.ne_of_gt lt18) (ninS (Nat.ne_of_gt lt17) (ninS (Nat.ne_of_gt lt16) (ninS (Nat.ne_of_gt lt15) (ninS (Nat.ne_of_gt lt14) nin0))))))))))
  have F85 : Fld Z h58 a4 "com/example/rankline/rankline/Extent" "high" "D" (.double (0 : UInt64)) := (F10.keep K58 (ninS (Nat.ne_of_gt lt13) (ninS (Nat.ne_of_gt lt21) (ninS (Nat.ne_of_gt lt20) (ninS (Nat.ne_of_gt lt19) (ninS (Nat.ne_of_gt lt18) (ninS (Nat.ne_of_gt lt17) (ninS (Nat.ne_of_gt lt16) (ninS (Nat.ne_of_gt lt15) (ninS (Nat.ne_of_gt lt14) nin0))))))))))
  have F86 : Fld Z h58 a4 "com/example/rankline/rankline/Extent" "below" "D" (.double f121) := (F11.keep K58 (ninS (Nat.ne_of_gt lt13) (ninS (Nat.ne_of_gt lt21) (ninS (Nat.ne_of_gt lt20) (ninS (Nat.ne_of_gt lt19) (ninS (Nat.ne_of_gt lt18) (ninS (Nat.ne_of_gt lt17) (ninS (Nat.ne_of_gt lt16) (ninS (Nat.ne_of_gt lt15) (ninS (Nat.ne_of_gt lt14) nin0))))))))))
  have F87 : Fld Z h58 a4 "com/example/rankline/rankline/Extent" "count" "D" (.double f121) := (F12.keep K58 (ninS (Nat.ne_of_gt lt13) (ninS (Nat.ne_of_gt lt21) (ninS (Nat.ne_of_gt lt20) (ninS (Nat.ne_of_gt lt19) (ninS (Nat.ne_of_gt lt18) (ninS (Nat.ne_of_gt lt17) (ninS (Nat.ne_of_gt lt16) (ninS (Nat.ne_of_gt lt15) (ninS (Nat.ne_of_gt lt14) nin0))))))))))
  exact own_ret0 X58 hx hlk hret (hb hby d7_28) e58 ⟨a4, rfl, N58', (((Keep.refl _ _).trans K3 all0).trans K58 (allS (Or.inl (by simp)) (allS (Or.inl (by simp)) (allS (Or.inl (by simp)) (allS (Or.inl (by simp)) (allS (Or.inl (by simp)) (allS (Or.inl (by simp)) (allS (Or.inl (by simp)) (allS (Or.inl (by simp)) (allS (Or.inl (by simp)) all0)))))))))), ge24, F59, F60, F61, F62, F63, F64, F65, F66, F67, F68, F69, F70, F71, F72, F73, F74, F75, F76, F77, F78, F79, F80, F81, F82, F83, F84, F85, F86, F87⟩ (by decide) (by decide)
theorem own_pd5 : parseMethodDescriptor "(DDLcom/example/rankline/rankline/Extent;J)V" = some ⟨[.double, .double, (.object "com/example/rankline/rankline/Extent"), .long], none⟩ := by decide +kernel
def own_s2_Q (Z : State) (a10 : Addr) (f121 : UInt64) (a28 : Addr) (a29 : Addr) (a30 : Addr) (a31 : Addr) (a32 : Addr) (a33 : Addr) (a34 : Addr) (a35 : Addr) (v2 : Int32) (h0 : Heap) (n0 : Nat) (v_ : Option Value) (h_ : Heap) (L_ : List Loc) : Prop := (fun v h L => ∃ (a60 : Addr), v = none ∧ Fr n0 L ∧ Keep h0 h [a10, a28, a29, a30, a31, a32, a33, a34, a35] ∧ h0.size ≤ a60 ∧ own_Ary Z h a35 .int [(.int (-1 : Int32)), (.int (0 : Int32)), (.int (0 : Int32)), (.int (0 : Int32)), (.int (0 : Int32)), (.int (0 : Int32)), (.int (0 : Int32)), (.int (0 : Int32)), (.int (0 : Int32)), (.int (0 : Int32)), (.int (0 : Int32)), (.int (0 : Int32)), (.int (0 : Int32)), (.int (0 : Int32)), (.int (0 : Int32)), (.int (0 : Int32))] ∧ own_Ary Z h a34 .int [(.int (-1 : Int32)), (.int (0 : Int32)), (.int (0 : Int32)), (.int (0 : Int32)), (.int (0 : Int32)), (.int (0 : Int32)), (.int (0 : Int32)), (.int (0 : Int32)), (.int (0 : Int32)), (.int (0 : Int32)), (.int (0 : Int32)), (.int (0 : Int32)), (.int (0 : Int32)), (.int (0 : Int32)), (.int (0 : Int32)), (.int (0 : Int32))] ∧ own_Ary Z h a33 .long [(.long (0 : Int64)), (.long (0 : Int64)), (.long (0 : Int64)), (.long (0 : Int64)), (.long (0 : Int64)), (.long (0 : Int64)), (.long (0 : Int64)), (.long (0 : Int64)), (.long (0 : Int64)), (.long (0 : Int64)), (.long (0 : Int64)), (.long (0 : Int64)), (.long (0 : Int64)), (.long (0 : Int64)), (.long (0 : Int64)), (.long (0 : Int64))] ∧ own_Ary Z h a32 .boolean [(.int (0 : Int32)), (.int (0 : Int32)), (.int (0 : Int32)), (.int (0 : Int32)), (.int (0 : Int32)), (.int (0 : Int32)), (.int (0 : Int32)), (.int (0 : Int32)), (.int (0 : Int32)), (.int (0 : Int32)), (.int (0 : Int32)), (.int (0 : Int32)), (.int (0 : Int32)), (.int (0 : Int32)), (.int (0 : Int32)), (.int (0 : Int32))] ∧ own_Ary Z h a31 (.object "com/example/rankline/rankline/Extent") [(.ref a60), .null, .null, .null, .null, .null, .null, .null, .null, .null, .null, .null, .null, .null, .null, .null] ∧ own_Ary Z h a30 .boolean [(.int (0 : Int32)), (.int (0 : Int32)), (.int (0 : Int32)), (.int (0 : Int32)), (.int (0 : Int32)), (.int (0 : Int32)), (.int (0 : Int32)), (.int (0 : Int32)), (.int (0 : Int32)), (.int (0 : Int32)), (.int (0 : Int32)), (.int (0 : Int32)), (.int (0 : Int32)), (.int (0 : Int32)), (.int (0 : Int32)), (.int (0 : Int32))] ∧ own_Ary Z h a29 .double [(.double f121), (.double (0 : UInt64)), (.double (0 : UInt64)), (.double (0 : UInt64)), (.double (0 : UInt64)), (.double (0 : UInt64)), (.double (0 : UInt64)), (.double (0 : UInt64)), (.double (0 : UInt64)), (.double (0 : UInt64)), (.double (0 : UInt64)), (.double (0 : UInt64)), (.double (0 : UInt64)), (.double (0 : UInt64)), (.double (0 : UInt64)), (.double (0 : UInt64))] ∧ own_Ary Z h a28 .double [(.double (0 : UInt64)), (.double (0 : UInt64)), (.double (0 : UInt64)), (.double (0 : UInt64)), (.double (0 : UInt64)), (.double (0 : UInt64)), (.double (0 : UInt64)), (.double (0 : UInt64)), (.double (0 : UInt64)), (.double (0 : UInt64)), (.double (0 : UInt64)), (.double (0 : UInt64)), (.double (0 : UInt64)), (.double (0 : UInt64)), (.double (0 : UInt64)), (.double (0 : UInt64))] ∧ Fld Z h a10 "com/example/rankline/rankline/Buckets" "thresholds" "[D" (.ref a28) ∧ Fld Z h a10 "com/example/rankline/rankline/Buckets" "ranks" "[D" (.ref a29) ∧ Fld Z h a10 "com/example/rankline/rankline/Buckets" "guarded" "[Z" (.ref a30) ∧ Fld Z h a10 "com/example/rankline/rankline/Buckets" "extents" "[Lcom/example/rankline/rankline/Extent;" (.ref a31) ∧ Fld Z h a10 "com/example/rankline/rankline/Buckets" "addedAtThreshold" "[Z" (.ref a32) ∧ Fld Z h a10 "com/example/rankline/rankline/Buckets" "copies" "[J" (.ref a33) ∧ Fld Z h a10 "com/example/rankline/rankline/Buckets" "nextOf" "[I" (.ref a34) ∧ Fld Z h a10 "com/example/rankline/rankline/Buckets" "previousOf" "[I" (.ref a35) ∧ Fld Z h a10 "com/example/rankline/rankline/Buckets" "first" "I" (.int (0 : Int32)) ∧ Fld Z h a10 "com/example/rankline/rankline/Buckets" "last" "I" (.int (0 : Int32)) ∧ Fld Z h a10 "com/example/rankline/rankline/Buckets" "free" "I" (.int (-1 : Int32)) ∧ Fld Z h a10 "com/example/rankline/rankline/Buckets" "smallestMagnitude" "D" (.double (9218868437227405312 : UInt64)) ∧ Fld Z h a10 "com/example/rankline/rankline/Buckets" "size" "I" (.int (1 : Int32)) ∧ Fld Z h a10 "com/example/rankline/rankline/Buckets" "used" "I" (.int (1 : Int32)) ∧ Exa Z h a60 "com/example/rankline/rankline/Extent" ∧ Fld Z h a60 "com/example/rankline/rankline/Extent" "low" "D" (.double (0 : UInt64)) ∧ Fld Z h a60 "com/example/rankline/rankline/Extent" "gapLow" "D" (.double (0 : UInt64)) ∧ Fld Z h a60 "com/example/rankline/rankline/Extent" "gapHigh" "D" (.double (0 : UInt64)) ∧ Fld Z h a60 "com/example/rankline/rankline/Extent" "high" "D" (.double (0 : UInt64)) ∧ Fld Z h a60 "com/example/rankline/rankline/Extent" "below" "D" (.double f121) ∧ Fld Z h a60 "com/example/rankline/rankline/Extent" "count" "D" (.double f121)) v_ h_ L_
set_option maxRecDepth 65536 in
set_option maxHeartbeats 40000000 in
theorem own_s2 (l : Launch) (Z : State) (a0 : Array Value) (hw : ∀ d ∈ tables_1, d.before a0 Z = true) (wds : List Jvm.Cond) (a10 : Addr) (f121 : UInt64) (a28 : Addr) (a29 : Addr) (a30 : Addr) (a31 : Addr) (a32 : Addr) (a33 : Addr) (a34 : Addr) (a35 : Addr) (v2 : Int32) (h0 : Heap) (n0 : Nat) (Z0 : n0 ≤ h0.size) (H1 : Exa Z h0 a10 "com/example/rankline/rankline/Buckets") (H2 : Fld Z h0 a10 "com/example/rankline/rankline/Buckets" "thresholds" "[D" (.ref a28)) (H3 : Fld Z h0 a10 "com/example/rankline/rankline/Buckets" "ranks" "[D" (.ref a29)) (H4 : Fld Z h0 a10 "com/example/rankline/rankline/Buckets" "guarded" "[Z" (.ref a30)) (H5 : Fld Z h0 a10 "com/example/rankline/rankline/Buckets" "extents" "[Lcom/example/rankline/rankline/Extent;" (.ref a31)) (H6 : Fld Z h0 a10 "com/example/rankline/rankline/Buckets" "addedAtThreshold" "[Z" (.ref a32)) (H7 : Fld Z h0 a10 "com/example/rankline/rankline/Buckets" "copies" "[J" (.ref a33)) (H8 : Fld Z h0 a10 "com/example/rankline/rankline/Buckets" "nextOf" "[I" (.ref a34)) (H9 : Fld Z h0 a10 "com/example/rankline/rankline/Buckets" "previousOf" "[I" (.ref a35)) (H10 : Fld Z h0 a10 "com/example/rankline/rankline/Buckets" "first" "I" (.int (-1 : Int32))) (H11 : Fld Z h0 a10 "com/example/rankline/rankline/Buckets" "last" "I" (.int (-1 : Int32))) (H12 : Fld Z h0 a10 "com/example/rankline/rankline/Buckets" "free" "I" (.int (-1 : Int32))) (H13 : Fld Z h0 a10 "com/example/rankline/rankline/Buckets" "smallestMagnitude" "D" (.double (9218868437227405312 : UInt64))) (H14 : Fld Z h0 a10 "com/example/rankline/rankline/Buckets" "size" "I" (.int (0 : Int32))) (H15 : Fld Z h0 a10 "com/example/rankline/rankline/Buckets" "used" "I" (.int (0 : Int32))) (H16 : own_Ary Z h0 a35 .int [(.int (0 : Int32)), (.int (0 : Int32)), (.int (0 : Int32)), (.int (0 : Int32)), (.int (0 : Int32)), (.int (0 : Int32)), (.int (0 : Int32)), (.int (0 : Int32)), (.int (0 : Int32)), (.int (0 : Int32)), (.int (0 : Int32)), (.int (0 : Int32)), (.int (0 : Int32)), (.int (0 : Int32)), (.int (0 : Int32)), (.int (0 : Int32))]) (H18 : own_Ary Z h0 a34 .int [(.int (0 : Int32)), (.int (0 : Int32)), (.int (0 : Int32)), (.int (0 : Int32)), (.int (0 : Int32)), (.int (0 : Int32)), (.int (0 : Int32)), (.int (0 : Int32)), (.int (0 : Int32)), (.int (0 : Int32)), (.int (0 : Int32)), (.int (0 : Int32)), (.int (0 : Int32)), (.int (0 : Int32)), (.int (0 : Int32)), (.int (0 : Int32))]) (H20 : own_Ary Z h0 a33 .long [(.long (0 : Int64)), (.long (0 : Int64)), (.long (0 : Int64)), (.long (0 : Int64)), (.long (0 : Int64)), (.long (0 : Int64)), (.long (0 : Int64)), (.long (0 : Int64)), (.long (0 : Int64)), (.long (0 : Int64)), (.long (0 : Int64)), (.long (0 : Int64)), (.long (0 : Int64)), (.long (0 : Int64)), (.long (0 : Int64)), (.long (0 : Int64))]) (H22 : own_Ary Z h0 a32 .boolean [(.int (0 : Int32)), (.int (0 : Int32)), (.int (0 : Int32)), (.int (0 : Int32)), (.int (0 : Int32)), (.int (0 : Int32)), (.int (0 : Int32)), (.int (0 : Int32)), (.int (0 : Int32)), (.int (0 : Int32)), (.int (0 : Int32)), (.int (0 : Int32)), (.int (0 : Int32)), (.int (0 : Int32)), (.int (0 : Int32)), (.int (0 : Int32))]) (H24 : own_Ary Z h0 a31 (.object "com/example/rankline/rankline/Extent") [.null, .null, .null, .null, .null, .null, .null, .null, .null, .null, .null, .null, .null, .null, .null, .null]) (H26 : own_Ovr Z h0 a31 "com/example/rankline/rankline/Extent") (H27 : own_Ary Z h0 a30 .boolean [(.int (0 : Int32)), (.int (0 : Int32)), (.int (0 : Int32)), (.int (0 : Int32)), (.int (0 : Int32)), (.int (0 : Int32)), (.int (0 : Int32)), (.int (0 : Int32)), (.int (0 : Int32)), (.int (0 : Int32)), (.int (0 : Int32)), (.int (0 : Int32)), (.int (0 : Int32)), (.int (0 : Int32)), (.int (0 : Int32)), (.int (0 : Int32))]) (H29 : own_Ary Z h0 a29 .double [(.double (0 : UInt64)), (.double (0 : UInt64)), (.double (0 : UInt64)), (.double (0 : UInt64)), (.double (0 : UInt64)), (.double (0 : UInt64)), (.double (0 : UInt64)), (.double (0 : UInt64)), (.double (0 : UInt64)), (.double (0 : UInt64)), (.double (0 : UInt64)), (.double (0 : UInt64)), (.double (0 : UInt64)), (.double (0 : UInt64)), (.double (0 : UInt64)), (.double (0 : UInt64))]) (H31 : own_Ary Z h0 a28 .double [(.double (0 : UInt64)), (.double (0 : UInt64)), (.double (0 : UInt64)), (.double (0 : UInt64)), (.double (0 : UInt64)), (.double (0 : UInt64)), (.double (0 : UInt64)), (.double (0 : UInt64)), (.double (0 : UInt64)), (.double (0 : UInt64)), (.double (0 : UInt64)), (.double (0 : UInt64)), (.double (0 : UInt64)), (.double (0 : UInt64)), (.double (0 : UInt64)), (.double (0 : UInt64))]) (H33 : a10 < a28) (H34 : a10 < a29) (H35 : a10 < a30) (H36 : a10 < a31) (H37 : a10 < a32) (H38 : a10 < a33) (H39 : a10 < a34) (H40 : a10 < a35) (H41 : n0 ≤ a10) (H42 : a28 < a29) (H43 : a28 < a30) (H44 : a28 < a31) (H45 : a28 < a32) (H46 : a28 < a33) (H47 : a28 < a34) (H48 : a28 < a35) (H49 : n0 ≤ a28) (H50 : a29 < a30) (H51 : a29 < a31) (H52 : a29 < a32) (H53 : a29 < a33) (H54 : a29 < a34) (H55 : a29 < a35) (H56 : n0 ≤ a29) (H57 : a30 < a31) (H58 : a30 < a32) (H59 : a30 < a33) (H60 : a30 < a34) (H61 : a30 < a35) (H62 : n0 ≤ a30) (H63 : a31 < a32) (H64 : a31 < a33) (H65 : a31 < a34) (H66 : a31 < a35) (H67 : n0 ≤ a31) (H68 : a32 < a33) (H69 : a32 < a34) (H70 : a32 < a35) (H71 : n0 ≤ a32) (H72 : a33 < a34) (H73 : a33 < a35) (H74 : n0 ≤ a33) (H75 : a34 < a35) (H76 : n0 ≤ a34) (H77 : n0 ≤ a35) :
    MetFree l (⟨"com/example/rankline/rankline/Buckets", "append", "(DD)V"⟩ : MethodName) (head1 (Jvm.Cond.code (⟨"com/example/rankline/rankline/Buckets", "append", "(DD)V"⟩ : MethodName) prog_5_method_12_code 7 none :: wds) ({ frames := 5, cells := 2, slots := 12, locals := 91 } : Room)) (fun ar_ U_ => ar_ = #[(.ref a10), (.double (0 : UInt64)), (.double f121)] ∧ Z.Warmed39 U_.vm ∧ U_.heap = h0) (fun _ _ _ _ _ => True) (fun _ U_ o_ V_ => ∃ v_ L_, o_ = .returned v_ ∧ own_s2_Q Z a10 f121 a28 a29 a30 a31 a32 a33 a34 a35 v2 h0 n0 v_ V_.heap L_ ∧ FrameEnd U_ o_ V_ L_ ({ frames := 5, cells := 2, slots := 12, locals := 91 } : Room).cells ({ frames := 5, cells := 2, slots := 12, locals := 91 } : Room).slots) := by
  refine own_met (y := ⟨"com/example/rankline/rankline/Buckets", "append", "(DD)V"⟩) (Q := own_s2_Q Z a10 f121 a28 a29 a30 a31 a32 a33 a34 a35 v2 h0 n0) own_pn1 ?_
  intro p e s m below meth c s₁ hx hby hml hZ hown hnm hret hlk X0 e0
  have N0 := Fr.nil n0
  refine own_cast (g' := (mkF m 0 #[.val (.ref a10), .val (.double (0 : UInt64)), .second, .val (.double f121), .second, .unset, .unset] [])) (by first | (simp [entryFrame, mkF, argsToLocals, Value.category]; done) | rfl) ?_
  generalize hL1 : (#[.val (.ref a10), .val (.double (0 : UInt64)), .second, .val (.double f121), .second, .unset, .unset] : Array Slot) = L1
  refine own_pre (T' := s₁) (g' := (mkF m 1 L1 [(.ref a10)])) (fun t k => XS.aloadN X0.here hx rfl (v := (.ref a10)) (hb hby d3_0) (by rw [← hL1]; rfl) rfl k) ?_
  refine own_getf X0 hx hZ hown (own_w hw 49 rfl) e0 H14 (hb hby d3_1) ?_
  intro T2 X2 e2
  show own_Go _ _ _ _ _ _ _ T2 (mkF m 4 L1 [(.int (0 : Int32))])
  refine own_pre (T' := T2) (g' := (mkF m 7 L1 [])) (fun t k => XS.ifNo X2.here hx rfl (hb hby d3_4) rfl (by decide) k) ?_
  refine own_pre (T' := T2) (g' := (mkF m 8 L1 [(.double (0 : UInt64))])) (fun t k => XS.dloadN X2.here hx rfl (v := (0 : UInt64)) (hb hby d3_7) (by rw [← hL1]; rfl) k) ?_
  refine own_pre (T' := T2) (g' := (mkF m 20 L1 [(.double (0 : UInt64))])) (fun t k => XS.goto X2.here hx rfl (pc0 := 8) (pc' := 20) rfl (hb hby d3_8) (by decide) (by decide) k) ?_
  refine own_pre (T' := T2) (g' := (mkF m 22 #[.val (.ref a10), .val (.double (0 : UInt64)), .second, .val (.double f121), .second, .val (.double (0 : UInt64)), .second] [])) (fun t k => XS.dstore X2.here hx rfl (hb hby d3_20) rfl (l' := #[.val (.ref a10), .val (.double (0 : UInt64)), .second, .val (.double f121), .second, .val (.double (0 : UInt64)), .second]) (by rw [← hL1]; rfl) k) ?_
  generalize hL3 : (#[.val (.ref a10), .val (.double (0 : UInt64)), .second, .val (.double f121), .second, .val (.double (0 : UInt64)), .second] : Array Slot) = L3
  refine own_pre (T' := T2) (g' := (mkF m 23 L3 [(.ref a10)])) (fun t k => XS.aloadN X2.here hx rfl (v := (.ref a10)) (hb hby d3_22) (by rw [← hL3]; rfl) rfl k) ?_
  refine own_pre (T' := T2) (g' := (mkF m 24 L3 [(.double (0 : UInt64)), (.ref a10)])) (fun t k => XS.dloadN X2.here hx rfl (v := (0 : UInt64)) (hb hby d3_23) (by rw [← hL3]; rfl) k) ?_
  refine own_pre (T' := T2) (g' := (mkF m 25 L3 [(.double f121), (.double (0 : UInt64)), (.ref a10)])) (fun t k => XS.dloadN X2.here hx rfl (v := f121) (hb hby d3_24) (by rw [← hL3]; rfl) k) ?_
  refine own_pre (T' := T2) (g' := (mkF m 27 L3 [(.double (0 : UInt64)), (.double f121), (.double (0 : UInt64)), (.ref a10)])) (fun t k => XS.dload X2.here hx rfl (v := (0 : UInt64)) (hb hby d3_25) (by rw [← hL3]; rfl) k) ?_
  refine own_pre (T' := T2) (g' := (mkF m 28 L3 [(.double (0 : UInt64)), (.double (0 : UInt64)), (.double f121), (.double (0 : UInt64)), (.ref a10)])) (fun t k => XS.dloadN X2.here hx rfl (v := (0 : UInt64)) (hb hby d3_27) (by rw [← hL3]; rfl) k) ?_
  refine own_pre (T' := T2) (g' := (mkF m 29 L3 [(.ref a10), (.double (0 : UInt64)), (.double (0 : UInt64)), (.double f121), (.double (0 : UInt64)), (.ref a10)])) (fun t k => XS.aloadN X2.here hx rfl (v := (.ref a10)) (hb hby d3_28) (by rw [← hL3]; rfl) rfl k) ?_
  refine own_getf X2 hx hZ hown (own_w hw 49 rfl) e2 H14 (hb hby d3_29) ?_
  intro T4 X4 e4
  show own_Go _ _ _ _ _ _ _ T4 (mkF m 32 L3 [(.int (0 : Int32)), (.double (0 : UInt64)), (.double (0 : UInt64)), (.double f121), (.double (0 : UInt64)), (.ref a10)])
  refine own_pre (T' := T4) (g' := (mkF m 35 L3 [(.double (0 : UInt64)), (.double (0 : UInt64)), (.double f121), (.double (0 : UInt64)), (.ref a10)])) (fun t k => XS.ifNo X4.here hx rfl (hb hby d3_32) rfl (by decide) k) ?_
  refine own_pre (T' := T4) (g' := (mkF m 36 L3 [(.double f121), (.double (0 : UInt64)), (.double (0 : UInt64)), (.double f121), (.double (0 : UInt64)), (.ref a10)])) (fun t k => XS.dloadN X4.here hx rfl (v := f121) (hb hby d3_35) (by rw [← hL3]; rfl) k) ?_
  refine own_pre (T' := T4) (g' := (mkF m 50 L3 [(.double f121), (.double (0 : UInt64)), (.double (0 : UInt64)), (.double f121), (.double (0 : UInt64)), (.ref a10)])) (fun t k => XS.goto X4.here hx rfl (pc0 := 36) (pc' := 50) rfl (hb hby d3_36) (by decide) (by decide) k) ?_
  refine own_calls (argsL := [(.double (0 : UInt64)), (.double (0 : UInt64)), (.double f121)]) (rest := [(.double f121), (.double (0 : UInt64)), (.ref a10)]) X4 hx hZ hown (own_s3 l Z a0 hw [] f121 v2 h0 n0 Z0 ) (own_w hw 51 rfl) (own_w hw 52 rfl) (own_w hw 54 rfl) (own_w hw 53 rfl) (by decide) e4 (hb hby d3_50) (by rw [hml, ← hL3]; rfl) rfl (lenOf own_pd2 rfl) (by decide) (W := 5) (Nat.le_of_eq rfl) (by decide) (by decide) (by decide) ?_
  intro v5 T5 lo5 X5 Q5
  obtain ⟨h5, e5⟩ : ∃ h, T5.heap = h := ⟨_, rfl⟩
  rw [e5] at Q5
  obtain ⟨a6, rfl, N5, K5, ge7, F8, F9, F10, F11, F12, F13, F14⟩ := Q5
  have N5' := Fr.app N0 N5
  show own_Go _ _ _ _ _ _ _ T5 (mkF m 53 L3 [(.ref a6), (.double f121), (.double (0 : UInt64)), (.ref a10)])
  refine own_pre (T' := T5) (g' := (mkF m 54 L3 [(.long (0 : Int64)), (.ref a6), (.double f121), (.double (0 : UInt64)), (.ref a10)])) (fun t k => XT.lconst X5.here hx rfl (hb hby d3_53) k) ?_
  have F26 : Exa Z h5 a10 "com/example/rankline/rankline/Buckets" := (H1.keep K5)
  have F27 : Fld Z h5 a10 "com/example/rankline/rankline/Buckets" "thresholds" "[D" (.ref a28) := (H2.keep K5 nin0)
  have F28 : Fld Z h5 a10 "com/example/rankline/rankline/Buckets" "ranks" "[D" (.ref a29) := (H3.keep K5 nin0)
  have F29 : Fld Z h5 a10 "com/example/rankline/rankline/Buckets" "guarded" "[Z" (.ref a30) := (H4.keep K5 nin0)
  have F30 : Fld Z h5 a10 "com/example/rankline/rankline/Buckets" "extents" "[Lcom/example/rankline/rankline/Extent;" (.ref a31) := (H5.keep K5 nin0)
  have F31 : Fld Z h5 a10 "com/example/rankline/rankline/Buckets" "addedAtThreshold" "[Z" (.ref a32) := (H6.keep K5 nin0)
  have F32 : Fld Z h5 a10 "com/example/rankline/rankline/Buckets" "copies" "[J" (.ref a33) := (H7.keep K5 nin0)
  have F33 : Fld Z h5 a10 "com/example/rankline/rankline/Buckets" "nextOf" "[I" (.ref a34) := (H8.keep K5 nin0)
  have F34 : Fld Z h5 a10 "com/example/rankline/rankline/Buckets" "previousOf" "[I" (.ref a35) := (H9.keep K5 nin0)
  have F35 : Fld Z h5 a10 "com/example/rankline/rankline/Buckets" "first" "I" (.int (-1 : Int32)) := (H10.keep K5 nin0)
  have F36 : Fld Z h5 a10 "com/example/rankline/rankline/Buckets" "last" "I" (.int (-1 : Int32)) := (H11.keep K5 nin0)
  have F37 : Fld Z h5 a10 "com/example/rankline/rankline/Buckets" "free" "I" (.int (-1 : Int32)) := (H12.keep K5 nin0)
  have F38 : Fld Z h5 a10 "com/example/rankline/rankline/Buckets" "smallestMagnitude" "D" (.double (9218868437227405312 : UInt64)) := (H13.keep K5 nin0)
  have F39 : Fld Z h5 a10 "com/example/rankline/rankline/Buckets" "size" "I" (.int (0 : Int32)) := (H14.keep K5 nin0)
  have F40 : Fld Z h5 a10 "com/example/rankline/rankline/Buckets" "used" "I" (.int (0 : Int32)) := (H15.keep K5 nin0)
  have F41 : own_Ary Z h5 a35 .int [(.int (0 : Int32)), (.int (0 : Int32)), (.int (0 : Int32)), (.int (0 : Int32)), (.int (0 : Int32)), (.int (0 : Int32)), (.int (0 : Int32)), (.int (0 : Int32)), (.int (0 : Int32)), (.int (0 : Int32)), (.int (0 : Int32)), (.int (0 : Int32)), (.int (0 : Int32)), (.int (0 : Int32)), (.int (0 : Int32)), (.int (0 : Int32))] := (H16.keep K5 nin0)
  have F43 : own_Ary Z h5 a34 .int [(.int (0 : Int32)), (.int (0 : Int32)), (.int (0 : Int32)), (.int (0 : Int32)), (.int (0 : Int32)), (.int (0 : Int32)), (.int (0 : Int32)), (.int (0 : Int32)), (.int (0 : Int32)), (.int (0 : Int32)), (.int (0 : Int32)), (.int (0 : Int32)), (.int (0 : Int32)), (.int (0 : Int32)), (.int (0 : Int32)), (.int (0 : Int32))] := (H18.keep K5 nin0)
  have F45 : own_Ary Z h5 a33 .long [(.long (0 : Int64)), (.long (0 : Int64)), (.long (0 : Int64)), (.long (0 : Int64)), (.long (0 : Int64)), (.long (0 : Int64)), (.long (0 : Int64)), (.long (0 : Int64)), (.long (0 : Int64)), (.long (0 : Int64)), (.long (0 : Int64)), (.long (0 : Int64)), (.long (0 : Int64)), (.long (0 : Int64)), (.long (0 : Int64)), (.long (0 : Int64))] := (H20.keep K5 nin0)
  have F47 : own_Ary Z h5 a32 .boolean [(.int (0 : Int32)), (.int (0 : Int32)), (.int (0 : Int32)), (.int (0 : Int32)), (.int (0 : Int32)), (.int (0 : Int32)), (.int (0 : Int32)), (.int (0 : Int32)), (.int (0 : Int32)), (.int (0 : Int32)), (.int (0 : Int32)), (.int (0 : Int32)), (.int (0 : Int32)), (.int (0 : Int32)), (.int (0 : Int32)), (.int (0 : Int32))] := (H22.keep K5 nin0)
  have F49 : own_Ary Z h5 a31 (.object "com/example/rankline/rankline/Extent") [.null, .null, .null, .null, .null, .null, .null, .null, .null, .null, .null, .null, .null, .null, .null, .null] := (H24.keep K5 nin0)
  have F51 : own_Ovr Z h5 a31 "com/example/rankline/rankline/Extent" := (H26.keep K5)
  have F52 : own_Ary Z h5 a30 .boolean [(.int (0 : Int32)), (.int (0 : Int32)), (.int (0 : Int32)), (.int (0 : Int32)), (.int (0 : Int32)), (.int (0 : Int32)), (.int (0 : Int32)), (.int (0 : Int32)), (.int (0 : Int32)), (.int (0 : Int32)), (.int (0 : Int32)), (.int (0 : Int32)), (.int (0 : Int32)), (.int (0 : Int32)), (.int (0 : Int32)), (.int (0 : Int32))] := (H27.keep K5 nin0)
  have F54 : own_Ary Z h5 a29 .double [(.double (0 : UInt64)), (.double (0 : UInt64)), (.double (0 : UInt64)), (.double (0 : UInt64)), (.double (0 : UInt64)), (.double (0 : UInt64)), (.double (0 : UInt64)), (.double (0 : UInt64)), (.double (0 : UInt64)), (.double (0 : UInt64)), (.double (0 : UInt64)), (.double (0 : UInt64)), (.double (0 : UInt64)), (.double (0 : UInt64)), (.double (0 : UInt64)), (.double (0 : UInt64))] := (H29.keep K5 nin0)
  have F56 : own_Ary Z h5 a28 .double [(.double (0 : UInt64)), (.double (0 : UInt64)), (.double (0 : UInt64)), (.double (0 : UInt64)), (.double (0 : UInt64)), (.double (0 : UInt64)), (.double (0 : UInt64)), (.double (0 : UInt64)), (.double (0 : UInt64)), (.double (0 : UInt64)), (.double (0 : UInt64)), (.double (0 : UInt64)), (.double (0 : UInt64)), (.double (0 : UInt64)), (.double (0 : UInt64)), (.double (0 : UInt64))] := (H31.keep K5 nin0)
  have F58 : n0 ≤ h5.size := (Nat.le_trans Z0 K5.1)
  refine own_callv (a := a10) (argsL := [(.double (0 : UInt64)), (.double f121), (.ref a6), (.long (0 : Int64))]) (rest := []) X5 hx hZ hown (own_s6 l Z a0 hw [] a10 f121 a6 a28 a29 a30 a31 a32 a33 a34 a35 v2 h5 n0 F58 F26 F27 F28 F29 F30 F31 F32 F33 F34 F35 F36 F37 F38 F39 F40 F41 F43 F45 F47 F49 F51 F52 F54 F56 H40 H39 H38 H37 H36 H35 H34 H33 H41 H75 H73 H70 H66 H61 H55 H48 H77 H72 H69 H65 H60 H54 H47 H76 H68 H64 H59 H53 H46 H74 H63 H58 H52 H45 H71 H57 H51 H44 H67 H50 H43 H62 H42 H56 H49) F26 (own_w hw 78 rfl) (own_w hw 79 rfl) (own_w hw 81 rfl) (own_w hw 80 rfl) (own_w hw 82 rfl) (own_w hw 5 rfl) (by decide) e5 (hb hby d3_54) (by rw [hml, ← hL3]; rfl) rfl (lenOf own_pd5 rfl) (by decide) (W := 0) (Nat.le_of_eq rfl) (by decide) (by decide) (by decide) ?_
  intro v59 T59 lo59 X59 Q59
  obtain ⟨h59, e59⟩ : ∃ h, T59.heap = h := ⟨_, rfl⟩
  rw [e59] at Q59
  have F91 : h0.size ≤ h5.size := (Nat.le_trans (Nat.le_refl _) K5.1)
  obtain ⟨a60, rfl, N59, K59, ge61, F62, F63, F64, F65, F66, F67, F68, F69, F70, F71, F72, F73, F74, F75, F76, F77, F78, F79, F80, F81, F82, F83, F84, F85, F86, F87, F88, F89, F90⟩ := Q59
  have N59' := Fr.app N5' N59
  show own_Go _ _ _ _ _ _ _ T59 (mkF m 57 L3 [])
  have ge103 : h0.size ≤ a60 := Nat.le_trans F91 ge61
  exact own_ret0 X59 hx hlk hret (hb hby d3_57) e59 ⟨a60, rfl, N59', (((Keep.refl _ _).trans K5 all0).trans K59 (allS (Or.inl (by simp)) (allS (Or.inl (by simp)) (allS (Or.inl (by simp)) (allS (Or.inl (by simp)) (allS (Or.inl (by simp)) (allS (Or.inl (by simp)) (allS (Or.inl (by simp)) (allS (Or.inl (by simp)) (allS (Or.inl (by simp)) all0)))))))))), ge103, F62, F63, F64, F65, F66, F67, F68, F69, F70, F71, F72, F73, F74, F75, F76, F77, F78, F79, F80, F81, F82, F83, F84, F85, F86, F87, F88, F89, F90⟩ (by decide) (by decide)
theorem own_pd6 : parseMethodDescriptor "(DD)V" = some ⟨[.double, .double], none⟩ := by decide +kernel
def own_s15_Q (Z : State) (a2 : Addr) (h0 : Heap) (n0 : Nat) (v_ : Option Value) (h_ : Heap) (L_ : List Loc) : Prop := (fun v h L => v = none ∧ Fr n0 L ∧ h = h0) v_ h_ L_
set_option maxRecDepth 65536 in
set_option maxHeartbeats 40000000 in
theorem own_s15 (l : Launch) (Z : State) (a0 : Array Value) (hw : ∀ d ∈ tables_1, d.before a0 Z = true) (wds : List Jvm.Cond) (a2 : Addr) (h0 : Heap) (n0 : Nat) (Z0 : n0 ≤ h0.size)  :
    MetFree l (⟨"java/lang/Record", "<init>", "()V"⟩ : MethodName) (head1 (Jvm.Cond.code (⟨"java/lang/Record", "<init>", "()V"⟩ : MethodName) jdk_30_method_1_code 1 none :: wds) ({ frames := 1, cells := 0, slots := 0, locals := 12 } : Room)) (fun ar_ U_ => ar_ = #[(.ref a2)] ∧ Z.Warmed39 U_.vm ∧ U_.heap = h0) (fun _ _ _ _ _ => True) (fun _ U_ o_ V_ => ∃ v_ L_, o_ = .returned v_ ∧ own_s15_Q Z a2 h0 n0 v_ V_.heap L_ ∧ FrameEnd U_ o_ V_ L_ ({ frames := 1, cells := 0, slots := 0, locals := 12 } : Room).cells ({ frames := 1, cells := 0, slots := 0, locals := 12 } : Room).slots) := by
  refine own_met (y := ⟨"java/lang/Record", "<init>", "()V"⟩) (Q := own_s15_Q Z a2 h0 n0) own_pn3 ?_
  intro p e s m below meth c s₁ hx hby hml hZ hown hnm hret hlk X0 e0
  have N0 := Fr.nil n0
  refine own_cast (g' := (mkF m 0 #[.val (.ref a2)] [])) (by first | (simp [entryFrame, mkF, argsToLocals, Value.category]; done) | rfl) ?_
  refine own_pre (T' := s₁) (g' := (mkF m 1 #[.val (.ref a2)] [(.ref a2)])) (fun t k => XS.aloadN X0.here hx rfl (v := (.ref a2)) (hb hby d6_0) rfl rfl k) ?_
  refine own_init0 X0 hx hZ hown (own_w hw 65 rfl) (own_w hw 10 rfl) (own_w hw 11 rfl) e0 (hb hby d6_1) (by rw [hml]; rfl) (by decide) (W := 0) (Nat.le_of_eq rfl) (by decide) ?_
  intro T1 X1 e1
  show own_Go _ _ _ _ _ _ _ T1 (mkF m 4 #[.val (.ref a2)] [])
  exact own_ret0 X1 hx hlk hret (hb hby d6_4) e1 ⟨rfl, N0, rfl⟩ (by decide) (by decide)
def own_s14_Q (Z : State) (a2 : Addr) (f9 : UInt64) (v2 : Int32) (h0 : Heap) (n0 : Nat) (v_ : Option Value) (h_ : Heap) (L_ : List Loc) : Prop := (fun v h L => v = none ∧ Fr n0 L ∧ Keep h0 h [a2] ∧ Fld Z h a2 "com/example/rankline/rankline/Extent" "low" "D" (.double (0 : UInt64)) ∧ Fld Z h a2 "com/example/rankline/rankline/Extent" "gapLow" "D" (.double (4607182418800017408 : UInt64)) ∧ Fld Z h a2 "com/example/rankline/rankline/Extent" "gapHigh" "D" (.double (4607182418800017408 : UInt64)) ∧ Fld Z h a2 "com/example/rankline/rankline/Extent" "high" "D" (.double (4607182418800017408 : UInt64)) ∧ Fld Z h a2 "com/example/rankline/rankline/Extent" "below" "D" (.double f9) ∧ Fld Z h a2 "com/example/rankline/rankline/Extent" "count" "D" (.double f9)) v_ h_ L_
set_option maxRecDepth 65536 in
set_option maxHeartbeats 40000000 in
theorem own_s14 (l : Launch) (Z : State) (a0 : Array Value) (hw : ∀ d ∈ tables_1, d.before a0 Z = true) (wds : List Jvm.Cond) (a2 : Addr) (f9 : UInt64) (v2 : Int32) (h0 : Heap) (n0 : Nat) (Z0 : n0 ≤ h0.size) (H1 : Exa Z h0 a2 "com/example/rankline/rankline/Extent") (H2 : Fld Z h0 a2 "com/example/rankline/rankline/Extent" "low" "D" (.double (0 : UInt64))) (H3 : Fld Z h0 a2 "com/example/rankline/rankline/Extent" "gapLow" "D" (.double (0 : UInt64))) (H4 : Fld Z h0 a2 "com/example/rankline/rankline/Extent" "gapHigh" "D" (.double (0 : UInt64))) (H5 : Fld Z h0 a2 "com/example/rankline/rankline/Extent" "high" "D" (.double (0 : UInt64))) (H6 : Fld Z h0 a2 "com/example/rankline/rankline/Extent" "below" "D" (.double (0 : UInt64))) (H7 : Fld Z h0 a2 "com/example/rankline/rankline/Extent" "count" "D" (.double (0 : UInt64))) (H8 : n0 ≤ a2) :
    MetFree l (⟨"com/example/rankline/rankline/Extent", "<init>", "(DDDDDD)V"⟩ : MethodName) (head1 (Jvm.Cond.code (⟨"com/example/rankline/rankline/Extent", "<init>", "(DDDDDD)V"⟩ : MethodName) prog_17_method_1_code 13 none :: wds) ({ frames := 2, cells := 0, slots := 0, locals := 24 } : Room)) (fun ar_ U_ => ar_ = #[(.ref a2), (.double (0 : UInt64)), (.double (4607182418800017408 : UInt64)), (.double (4607182418800017408 : UInt64)), (.double (4607182418800017408 : UInt64)), (.double f9), (.double f9)] ∧ Z.Warmed39 U_.vm ∧ U_.heap = h0) (fun _ _ _ _ _ => True) (fun _ U_ o_ V_ => ∃ v_ L_, o_ = .returned v_ ∧ own_s14_Q Z a2 f9 v2 h0 n0 v_ V_.heap L_ ∧ FrameEnd U_ o_ V_ L_ ({ frames := 2, cells := 0, slots := 0, locals := 24 } : Room).cells ({ frames := 2, cells := 0, slots := 0, locals := 24 } : Room).slots) := by
  refine own_met (y := ⟨"com/example/rankline/rankline/Extent", "<init>", "(DDDDDD)V"⟩) (Q := own_s14_Q Z a2 f9 v2 h0 n0) own_pn2 ?_
  intro p e s m below meth c s₁ hx hby hml hZ hown hnm hret hlk X0 e0
  have N0 := Fr.nil n0
  refine own_cast (g' := (mkF m 0 #[.val (.ref a2), .val (.double (0 : UInt64)), .second, .val (.double (4607182418800017408 : UInt64)), .second, .val (.double (4607182418800017408 : UInt64)), .second, .val (.double (4607182418800017408 : UInt64)), .second, .val (.double f9), .second, .val (.double f9), .second] [])) (by first | (simp [entryFrame, mkF, argsToLocals, Value.category]; done) | rfl) ?_
  generalize hL1 : (#[.val (.ref a2), .val (.double (0 : UInt64)), .second, .val (.double (4607182418800017408 : UInt64)), .second, .val (.double (4607182418800017408 : UInt64)), .second, .val (.double (4607182418800017408 : UInt64)), .second, .val (.double f9), .second, .val (.double f9), .second] : Array Slot) = L1
  refine own_pre (T' := s₁) (g' := (mkF m 1 L1 [(.ref a2)])) (fun t k => XS.aloadN X0.here hx rfl (v := (.ref a2)) (hb hby d5_0) (by rw [← hL1]; rfl) rfl k) ?_
  refine own_init (a := a2) (argsL := []) (rest := []) X0 hx hZ hown (own_s15 l Z a0 hw [] a2 h0 n0 Z0 ) rfl (own_w hw 60 rfl) (own_w hw 61 rfl) (own_w hw 64 rfl) (own_w hw 63 rfl) (by decide) e0 (hb hby d5_1) (by rw [hml, ← hL1]; rfl) rfl (lenOf own_pd0 rfl) (by decide) (W := 0) (Nat.le_of_eq rfl) (by decide) (by decide) (by decide) ?_
  intro v2 T2 lo2 X2 Q2
  obtain ⟨h2, e2⟩ : ∃ h, T2.heap = h := ⟨_, rfl⟩
  rw [e2] at Q2
  obtain ⟨rfl, N2, K2⟩ := Q2
  have N2' := Fr.app N0 N2
  have e2' : T2.heap = h0 := e2.trans K2
  show own_Go _ _ _ _ _ _ _ T2 (mkF m 4 L1 [])
  refine own_pre (T' := T2) (g' := (mkF m 5 L1 [(.ref a2)])) (fun t k => XS.aloadN X2.here hx rfl (v := (.ref a2)) (hb hby d5_4) (by rw [← hL1]; rfl) rfl k) ?_
  refine own_pre (T' := T2) (g' := (mkF m 6 L1 [(.double (0 : UInt64)), (.ref a2)])) (fun t k => XS.dloadN X2.here hx rfl (v := (0 : UInt64)) (hb hby d5_5) (by rw [← hL1]; rfl) k) ?_
  refine own_putf X2 hx hZ hown (own_w hw 66 rfl) e2' N2' H8 H2 H1 (Or.inr ⟨(own_w hw 67 rfl), rfl, hnm⟩) (own_w hw 56 rfl) (ty := .double) (by decide) rfl rfl (hb hby d5_6) ?_
  intro T3 h3 lo3 X3 e3 N3 W3
  have F4 : Fld Z h3 a2 "com/example/rankline/rankline/Extent" "low" "D" (.double (0 : UInt64)) := H2.same W3
  show own_Go _ _ _ _ _ _ _ T3 (mkF m 9 L1 [])
  refine own_pre (T' := T3) (g' := (mkF m 10 L1 [(.ref a2)])) (fun t k => XS.aloadN X3.here hx rfl (v := (.ref a2)) (hb hby d5_9) (by rw [← hL1]; rfl) rfl k) ?_
  refine own_pre (T' := T3) (g' := (mkF m 11 L1 [(.double (4607182418800017408 : UInt64)), (.ref a2)])) (fun t k => XS.dloadN X3.here hx rfl (v := (4607182418800017408 : UInt64)) (hb hby d5_10) (by rw [← hL1]; rfl) k) ?_
  have F5 : Fld Z h3 a2 "com/example/rankline/rankline/Extent" "gapLow" "D" (.double (0 : UInt64)) := (H3.other W3 (Or.inr (slot_ne (C := "com/example/rankline/rankline/Extent") (Or.inr (own_w hw 69 rfl)) (Or.inr (own_w hw 67 rfl)) (by decide) (t := .double) (t' := .double) (by decide) (by decide))))
  have F6 : Exa Z h3 a2 "com/example/rankline/rankline/Extent" := (H1.wr W3)
  refine own_putf X3 hx hZ hown (own_w hw 68 rfl) e3 N3 H8 F5 F6 (Or.inr ⟨(own_w hw 69 rfl), rfl, hnm⟩) (own_w hw 56 rfl) (ty := .double) (by decide) rfl rfl (hb hby d5_11) ?_
  intro T7 h7 lo7 X7 e7 N7 W7
  have F8 : Fld Z h7 a2 "com/example/rankline/rankline/Extent" "gapLow" "D" (.double (4607182418800017408 : UInt64)) := F5.same W7
  show own_Go _ _ _ _ _ _ _ T7 (mkF m 14 L1 [])
  refine own_pre (T' := T7) (g' := (mkF m 15 L1 [(.ref a2)])) (fun t k => XS.aloadN X7.here hx rfl (v := (.ref a2)) (hb hby d5_14) (by rw [← hL1]; rfl) rfl k) ?_
  refine own_pre (T' := T7) (g' := (mkF m 17 L1 [(.double (4607182418800017408 : UInt64)), (.ref a2)])) (fun t k => XS.dload X7.here hx rfl (v := (4607182418800017408 : UInt64)) (hb hby d5_15) (by rw [← hL1]; rfl) k) ?_
  have F9 : Fld Z h7 a2 "com/example/rankline/rankline/Extent" "gapHigh" "D" (.double (0 : UInt64)) := ((H4.other W3 (Or.inr (slot_ne (C := "com/example/rankline/rankline/Extent") (Or.inr (own_w hw 71 rfl)) (Or.inr (own_w hw 67 rfl)) (by decide) (t := .double) (t' := .double) (by decide) (by decide)))).other W7 (Or.inr (slot_ne (C := "com/example/rankline/rankline/Extent") (Or.inr (own_w hw 71 rfl)) (Or.inr (own_w hw 69 rfl)) (by decide) (t := .double) (t' := .double) (by decide) (by decide))))
  have F10 : Exa Z h7 a2 "com/example/rankline/rankline/Extent" := (F6.wr W7)
  refine own_putf X7 hx hZ hown (own_w hw 70 rfl) e7 N7 H8 F9 F10 (Or.inr ⟨(own_w hw 71 rfl), rfl, hnm⟩) (own_w hw 56 rfl) (ty := .double) (by decide) rfl rfl (hb hby d5_17) ?_
  intro T11 h11 lo11 X11 e11 N11 W11
  have F12 : Fld Z h11 a2 "com/example/rankline/rankline/Extent" "gapHigh" "D" (.double (4607182418800017408 : UInt64)) := F9.same W11
  show own_Go _ _ _ _ _ _ _ T11 (mkF m 20 L1 [])
  refine own_pre (T' := T11) (g' := (mkF m 21 L1 [(.ref a2)])) (fun t k => XS.aloadN X11.here hx rfl (v := (.ref a2)) (hb hby d5_20) (by rw [← hL1]; rfl) rfl k) ?_
  refine own_pre (T' := T11) (g' := (mkF m 23 L1 [(.double (4607182418800017408 : UInt64)), (.ref a2)])) (fun t k => XS.dload X11.here hx rfl (v := (4607182418800017408 : UInt64)) (hb hby d5_21) (by rw [← hL1]; rfl) k) ?_
  have F13 : Fld Z h11 a2 "com/example/rankline/rankline/Extent" "high" "D" (.double (0 : UInt64)) := (((H5.other W3 (Or.inr (slot_ne (C := "com/example/rankline/rankline/Extent") (Or.inr (own_w hw 73 rfl)) (Or.inr (own_w hw 67 rfl)) (by decide) (t := .double) (t' := .double) (by decide) (by decide)))).other W7 (Or.inr (slot_ne (C := "com/example/rankline/rankline/Extent") (Or.inr (own_w hw 73 rfl)) (Or.inr (own_w hw 69 rfl)) (by decide) (t := .double) (t' := .double) (by decide) (by decide)))).other W11 (Or.inr (slot_ne (C := "com/example/rankline/rankline/Extent") (Or.inr (own_w hw 73 rfl)) (Or.inr (own_w hw 71 rfl)) (by decide) (t := .double) (t' := .double) (by decide) (by decide))))
  have F14 : Exa Z h11 a2 "com/example/rankline/rankline/Extent" := (F10.wr W11)
  refine own_putf X11 hx hZ hown (own_w hw 72 rfl) e11 N11 H8 F13 F14 (Or.inr ⟨(own_w hw 73 rfl), rfl, hnm⟩) (own_w hw 56 rfl) (ty := .double) (by decide) rfl rfl (hb hby d5_23) ?_
  intro T15 h15 lo15 X15 e15 N15 W15
  have F16 : Fld Z h15 a2 "com/example/rankline/rankline/Extent" "high" "D" (.double (4607182418800017408 : UInt64)) := F13.same W15
  show own_Go _ _ _ _ _ _ _ T15 (mkF m 26 L1 [])
  refine own_pre (T' := T15) (g' := (mkF m 27 L1 [(.ref a2)])) (fun t k => XS.aloadN X15.here hx rfl (v := (.ref a2)) (hb hby d5_26) (by rw [← hL1]; rfl) rfl k) ?_
  refine own_pre (T' := T15) (g' := (mkF m 29 L1 [(.double f9), (.ref a2)])) (fun t k => XS.dload X15.here hx rfl (v := f9) (hb hby d5_27) (by rw [← hL1]; rfl) k) ?_
  have F17 : Fld Z h15 a2 "com/example/rankline/rankline/Extent" "below" "D" (.double (0 : UInt64)) := ((((H6.other W3 (Or.inr (slot_ne (C := "com/example/rankline/rankline/Extent") (Or.inr (own_w hw 75 rfl)) (Or.inr (own_w hw 67 rfl)) (by decide) (t := .double) (t' := .double) (by decide) (by decide)))).other W7 (Or.inr (slot_ne (C := "com/example/rankline/rankline/Extent") (Or.inr (own_w hw 75 rfl)) (Or.inr (own_w hw 69 rfl)) (by decide) (t := .double) (t' := .double) (by decide) (by decide)))).other W11 (Or.inr (slot_ne (C := "com/example/rankline/rankline/Extent") (Or.inr (own_w hw 75 rfl)) (Or.inr (own_w hw 71 rfl)) (by decide) (t := .double) (t' := .double) (by decide) (by decide)))).other W15 (Or.inr (slot_ne (C := "com/example/rankline/rankline/Extent") (Or.inr (own_w hw 75 rfl)) (Or.inr (own_w hw 73 rfl)) (by decide) (t := .double) (t' := .double) (by decide) (by decide))))
  have F18 : Exa Z h15 a2 "com/example/rankline/rankline/Extent" := (F14.wr W15)
  refine own_putf X15 hx hZ hown (own_w hw 74 rfl) e15 N15 H8 F17 F18 (Or.inr ⟨(own_w hw 75 rfl), rfl, hnm⟩) (own_w hw 56 rfl) (ty := .double) (by decide) rfl rfl (hb hby d5_29) ?_
  intro T19 h19 lo19 X19 e19 N19 W19
  have F20 : Fld Z h19 a2 "com/example/rankline/rankline/Extent" "below" "D" (.double f9) := F17.same W19
  show own_Go _ _ _ _ _ _ _ T19 (mkF m 32 L1 [])
  refine own_pre (T' := T19) (g' := (mkF m 33 L1 [(.ref a2)])) (fun t k => XS.aloadN X19.here hx rfl (v := (.ref a2)) (hb hby d5_32) (by rw [← hL1]; rfl) rfl k) ?_
  refine own_pre (T' := T19) (g' := (mkF m 35 L1 [(.double f9), (.ref a2)])) (fun t k => XS.dload X19.here hx rfl (v := f9) (hb hby d5_33) (by rw [← hL1]; rfl) k) ?_
  have F21 : Fld Z h19 a2 "com/example/rankline/rankline/Extent" "count" "D" (.double (0 : UInt64)) := (((((H7.other W3 (Or.inr (slot_ne (C := "com/example/rankline/rankline/Extent") (Or.inr (own_w hw 77 rfl)) (Or.inr (own_w hw 67 rfl)) (by decide) (t := .double) (t' := .double) (by decide) (by decide)))).other W7 (Or.inr (slot_ne (C := "com/example/rankline/rankline/Extent") (Or.inr (own_w hw 77 rfl)) (Or.inr (own_w hw 69 rfl)) (by decide) (t := .double) (t' := .double) (by decide) (by decide)))).other W11 (Or.inr (slot_ne (C := "com/example/rankline/rankline/Extent") (Or.inr (own_w hw 77 rfl)) (Or.inr (own_w hw 71 rfl)) (by decide) (t := .double) (t' := .double) (by decide) (by decide)))).other W15 (Or.inr (slot_ne (C := "com/example/rankline/rankline/Extent") (Or.inr (own_w hw 77 rfl)) (Or.inr (own_w hw 73 rfl)) (by decide) (t := .double) (t' := .double) (by decide) (by decide)))).other W19 (Or.inr (slot_ne (C := "com/example/rankline/rankline/Extent") (Or.inr (own_w hw 77 rfl)) (Or.inr (own_w hw 75 rfl)) (by decide) (t := .double) (t' := .double) (by decide) (by decide))))
  have F22 : Exa Z h19 a2 "com/example/rankline/rankline/Extent" := (F18.wr W19)
  refine own_putf X19 hx hZ hown (own_w hw 76 rfl) e19 N19 H8 F21 F22 (Or.inr ⟨(own_w hw 77 rfl), rfl, hnm⟩) (own_w hw 56 rfl) (ty := .double) (by decide) rfl rfl (hb hby d5_35) ?_
  intro T23 h23 lo23 X23 e23 N23 W23
  have F24 : Fld Z h23 a2 "com/example/rankline/rankline/Extent" "count" "D" (.double f9) := F21.same W23
  show own_Go _ _ _ _ _ _ _ T23 (mkF m 38 L1 [])
  have F25 : Fld Z h23 a2 "com/example/rankline/rankline/Extent" "low" "D" (.double (0 : UInt64)) := (((((F4.other W7 (Or.inr (slot_ne (C := "com/example/rankline/rankline/Extent") (Or.inr (own_w hw 67 rfl)) (Or.inr (own_w hw 69 rfl)) (by decide) (t := .double) (t' := .double) (by decide) (by decide)))).other W11 (Or.inr (slot_ne (C := "com/example/rankline/rankline/Extent") (Or.inr (own_w hw 67 rfl)) (Or.inr (own_w hw 71 rfl)) (by decide) (t := .double) (t' := .double) (by decide) (by decide)))).other W15 (Or.inr (slot_ne (C := "com/example/rankline/rankline/Extent") (Or.inr (own_w hw 67 rfl)) (Or.inr (own_w hw 73 rfl)) (by decide) (t := .double) (t' := .double) (by decide) (by decide)))).other W19 (Or.inr (slot_ne (C := "com/example/rankline/rankline/Extent") (Or.inr (own_w hw 67 rfl)) (Or.inr (own_w hw 75 rfl)) (by decide) (t := .double) (t' := .double) (by decide) (by decide)))).other W23 (Or.inr (slot_ne (C := "com/example/rankline/rankline/Extent") (Or.inr (own_w hw 67 rfl)) (Or.inr (own_w hw 77 rfl)) (by decide) (t := .double) (t' := .double) (by decide) (by decide))))
  have F26 : Fld Z h23 a2 "com/example/rankline/rankline/Extent" "gapLow" "D" (.double (4607182418800017408 : UInt64)) := ((((F8.other W11 (Or.inr (slot_ne (C := "com/example/rankline/rankline/Extent") (Or.inr (own_w hw 69 rfl)) (Or.inr (own_w hw 71 rfl)) (by decide) (t := .double) (t' := .double) (by decide) (by decide)))).other W15 (Or.inr (slot_ne (C := "com/example/rankline/rankline/Extent") (Or.inr (own_w hw 69 rfl)) (Or.inr (own_w hw 73 rfl)) (by decide) (t := .double) (t' := .double) (by decide) (by decide)))).other W19 (Or.inr (slot_ne (C := "com/example/rankline/rankline/Extent") (Or.inr (own_w hw 69 rfl)) (Or.inr (own_w hw 75 rfl)) (by decide) (t := .double) (t' := .double) (by decide) (by decide)))).other W23 (Or.inr (slot_ne (C := "com/example/rankline/rankline/Extent") (Or.inr (own_w hw 69 rfl)) (Or.inr (own_w hw 77 rfl)) (by decide) (t := .double) (t' := .double) (by decide) (by decide))))
  have F27 : Fld Z h23 a2 "com/example/rankline/rankline/Extent" "gapHigh" "D" (.double (4607182418800017408 : UInt64)) := (((F12.other W15 (Or.inr (slot_ne (C := "com/example/rankline/rankline/Extent") (Or.inr (own_w hw 71 rfl)) (Or.inr (own_w hw 73 rfl)) (by decide) (t := .double) (t' := .double) (by decide) (by decide)))).other W19 (Or.inr (slot_ne (C := "com/example/rankline/rankline/Extent") (Or.inr (own_w hw 71 rfl)) (Or.inr (own_w hw 75 rfl)) (by decide) (t := .double) (t' := .double) (by decide) (by decide)))).other W23 (Or.inr (slot_ne (C := "com/example/rankline/rankline/Extent") (Or.inr (own_w hw 71 rfl)) (Or.inr (own_w hw 77 rfl)) (by decide) (t := .double) (t' := .double) (by decide) (by decide))))
  have F28 : Fld Z h23 a2 "com/example/rankline/rankline/Extent" "high" "D" (.double (4607182418800017408 : UInt64)) := ((F16.other W19 (Or.inr (slot_ne (C := "com/example/rankline/rankline/Extent") (Or.inr (own_w hw 73 rfl)) (Or.inr (own_w hw 75 rfl)) (by decide) (t := .double) (t' := .double) (by decide) (by decide)))).other W23 (Or.inr (slot_ne (C := "com/example/rankline/rankline/Extent") (Or.inr (own_w hw 73 rfl)) (Or.inr (own_w hw 77 rfl)) (by decide) (t := .double) (t' := .double) (by decide) (by decide))))
  have F29 : Fld Z h23 a2 "com/example/rankline/rankline/Extent" "below" "D" (.double f9) := (F20.other W23 (Or.inr (slot_ne (C := "com/example/rankline/rankline/Extent") (Or.inr (own_w hw 75 rfl)) (Or.inr (own_w hw 77 rfl)) (by decide) (t := .double) (t' := .double) (by decide) (by decide))))
  exact own_ret0 X23 hx hlk hret (hb hby d5_38) e23 ⟨rfl, N23, (((((((Keep.refl _ _).wr W3 (Or.inl (by simp))).wr W7 (Or.inl (by simp))).wr W11 (Or.inl (by simp))).wr W15 (Or.inl (by simp))).wr W19 (Or.inl (by simp))).wr W23 (Or.inl (by simp))), F25, F26, F27, F28, F29, F24⟩ (by decide) (by decide)
def own_s13_Q (Z : State) (f9 : UInt64) (v2 : Int32) (h0 : Heap) (n0 : Nat) (v_ : Option Value) (h_ : Heap) (L_ : List Loc) : Prop := (fun v h L => ∃ (a2 : Addr), v = some (.ref a2) ∧ Fr n0 L ∧ Keep h0 h [] ∧ h0.size ≤ a2 ∧ Exa Z h a2 "com/example/rankline/rankline/Extent" ∧ Fld Z h a2 "com/example/rankline/rankline/Extent" "low" "D" (.double (0 : UInt64)) ∧ Fld Z h a2 "com/example/rankline/rankline/Extent" "gapLow" "D" (.double (4607182418800017408 : UInt64)) ∧ Fld Z h a2 "com/example/rankline/rankline/Extent" "gapHigh" "D" (.double (4607182418800017408 : UInt64)) ∧ Fld Z h a2 "com/example/rankline/rankline/Extent" "high" "D" (.double (4607182418800017408 : UInt64)) ∧ Fld Z h a2 "com/example/rankline/rankline/Extent" "below" "D" (.double f9) ∧ Fld Z h a2 "com/example/rankline/rankline/Extent" "count" "D" (.double f9)) v_ h_ L_
set_option maxRecDepth 65536 in
set_option maxHeartbeats 40000000 in
theorem own_s13 (l : Launch) (Z : State) (a0 : Array Value) (hw : ∀ d ∈ tables_1, d.before a0 Z = true) (wds : List Jvm.Cond) (f9 : UInt64) (v2 : Int32) (h0 : Heap) (n0 : Nat) (Z0 : n0 ≤ h0.size)  :
    MetFree l (⟨"com/example/rankline/rankline/Extent", "of", "(DDD)Lcom/example/rankline/rankline/Extent;"⟩ : MethodName) (head1 (Jvm.Cond.code (⟨"com/example/rankline/rankline/Extent", "of", "(DDD)Lcom/example/rankline/rankline/Extent;"⟩ : MethodName) prog_17_method_2_code 6 (some (.object "com/example/rankline/rankline/Extent")) :: wds) ({ frames := 3, cells := 1, slots := 6, locals := 49 } : Room)) (fun ar_ U_ => ar_ = #[(.double (0 : UInt64)), (.double (4607182418800017408 : UInt64)), (.double f9)] ∧ Z.Warmed39 U_.vm ∧ U_.heap = h0) (fun _ _ _ _ _ => True) (fun _ U_ o_ V_ => ∃ v_ L_, o_ = .returned v_ ∧ own_s13_Q Z f9 v2 h0 n0 v_ V_.heap L_ ∧ FrameEnd U_ o_ V_ L_ ({ frames := 3, cells := 1, slots := 6, locals := 49 } : Room).cells ({ frames := 3, cells := 1, slots := 6, locals := 49 } : Room).slots) := by
  refine own_met (y := ⟨"com/example/rankline/rankline/Extent", "of", "(DDD)Lcom/example/rankline/rankline/Extent;"⟩) (Q := own_s13_Q Z f9 v2 h0 n0) own_pn2 ?_
  intro p e s m below meth c s₁ hx hby hml hZ hown hnm hret hlk X0 e0
  have N0 := Fr.nil n0
  refine own_cast (g' := (mkF m 0 #[.val (.double (0 : UInt64)), .second, .val (.double (4607182418800017408 : UInt64)), .second, .val (.double f9), .second] [])) (by first | (simp [entryFrame, mkF, argsToLocals, Value.category]; done) | rfl) ?_
  generalize hL1 : (#[.val (.double (0 : UInt64)), .second, .val (.double (4607182418800017408 : UInt64)), .second, .val (.double f9), .second] : Array Slot) = L1
  refine own_newobj X0 hx hZ hown (own_w hw 55 rfl) (own_w hw 56 rfl) (own_w hw 53 rfl) e0 (hb hby d4_0) (by decide) (by decide) ?_
  intro T2 h2 a2 g2 X2 e2 E2 A2 D2
  have ge3 : h0.size ≤ a2 := Nat.le_trans (Nat.le_refl _) (Nat.le_of_eq g2.symm)
  have nw4 : n0 ≤ a2 := Nat.le_trans Z0 (Nat.le_of_eq g2.symm)
  have F5 : Fld Z h2 a2 "com/example/rankline/rankline/Extent" "low" "D" (.double (0 : UInt64)) := D2 (Or.inr (own_w hw 67 rfl)) (ty := .double) (by decide)
  have F6 : Fld Z h2 a2 "com/example/rankline/rankline/Extent" "gapLow" "D" (.double (0 : UInt64)) := D2 (Or.inr (own_w hw 69 rfl)) (ty := .double) (by decide)
  have F7 : Fld Z h2 a2 "com/example/rankline/rankline/Extent" "gapHigh" "D" (.double (0 : UInt64)) := D2 (Or.inr (own_w hw 71 rfl)) (ty := .double) (by decide)
  have F8 : Fld Z h2 a2 "com/example/rankline/rankline/Extent" "high" "D" (.double (0 : UInt64)) := D2 (Or.inr (own_w hw 73 rfl)) (ty := .double) (by decide)
  have F9 : Fld Z h2 a2 "com/example/rankline/rankline/Extent" "below" "D" (.double (0 : UInt64)) := D2 (Or.inr (own_w hw 75 rfl)) (ty := .double) (by decide)
  have F10 : Fld Z h2 a2 "com/example/rankline/rankline/Extent" "count" "D" (.double (0 : UInt64)) := D2 (Or.inr (own_w hw 77 rfl)) (ty := .double) (by decide)
  show own_Go _ _ _ _ _ _ _ T2 (mkF m 3 L1 [(.ref a2)])
  refine own_pre (T' := T2) (g' := (mkF m 4 L1 [(.ref a2), (.ref a2)])) (fun t k => XS.dup X2.here hx rfl (hb hby d4_3) rfl rfl k) ?_
  refine own_pre (T' := T2) (g' := (mkF m 5 L1 [(.double (0 : UInt64)), (.ref a2), (.ref a2)])) (fun t k => XS.dloadN X2.here hx rfl (v := (0 : UInt64)) (hb hby d4_4) (by rw [← hL1]; rfl) k) ?_
  refine own_pre (T' := T2) (g' := (mkF m 6 L1 [(.double (4607182418800017408 : UInt64)), (.double (0 : UInt64)), (.ref a2), (.ref a2)])) (fun t k => XS.dloadN X2.here hx rfl (v := (4607182418800017408 : UInt64)) (hb hby d4_5) (by rw [← hL1]; rfl) k) ?_
  refine own_pre (T' := T2) (g' := (mkF m 7 L1 [(.double (4607182418800017408 : UInt64)), (.double (4607182418800017408 : UInt64)), (.double (0 : UInt64)), (.ref a2), (.ref a2)])) (fun t k => XS.dloadN X2.here hx rfl (v := (4607182418800017408 : UInt64)) (hb hby d4_6) (by rw [← hL1]; rfl) k) ?_
  refine own_pre (T' := T2) (g' := (mkF m 8 L1 [(.double (4607182418800017408 : UInt64)), (.double (4607182418800017408 : UInt64)), (.double (4607182418800017408 : UInt64)), (.double (0 : UInt64)), (.ref a2), (.ref a2)])) (fun t k => XS.dloadN X2.here hx rfl (v := (4607182418800017408 : UInt64)) (hb hby d4_7) (by rw [← hL1]; rfl) k) ?_
  refine own_pre (T' := T2) (g' := (mkF m 10 L1 [(.double f9), (.double (4607182418800017408 : UInt64)), (.double (4607182418800017408 : UInt64)), (.double (4607182418800017408 : UInt64)), (.double (0 : UInt64)), (.ref a2), (.ref a2)])) (fun t k => XS.dload X2.here hx rfl (v := f9) (hb hby d4_8) (by rw [← hL1]; rfl) k) ?_
  refine own_pre (T' := T2) (g' := (mkF m 12 L1 [(.double f9), (.double f9), (.double (4607182418800017408 : UInt64)), (.double (4607182418800017408 : UInt64)), (.double (4607182418800017408 : UInt64)), (.double (0 : UInt64)), (.ref a2), (.ref a2)])) (fun t k => XS.dload X2.here hx rfl (v := f9) (hb hby d4_10) (by rw [← hL1]; rfl) k) ?_
  have F11 : n0 ≤ h2.size := (Nat.le_trans Z0 E2.1)
  refine own_init (a := a2) (argsL := [(.double (0 : UInt64)), (.double (4607182418800017408 : UInt64)), (.double (4607182418800017408 : UInt64)), (.double (4607182418800017408 : UInt64)), (.double f9), (.double f9)]) (rest := [(.ref a2)]) X2 hx hZ hown (own_s14 l Z a0 hw [] a2 f9 v2 h2 n0 F11 A2 F5 F6 F7 F8 F9 F10 nw4) rfl (own_w hw 57 rfl) (own_w hw 58 rfl) (own_w hw 59 rfl) (own_w hw 53 rfl) (by decide) e2 (hb hby d4_12) (by rw [hml, ← hL1]; rfl) rfl (lenOf own_pd1 rfl) (by decide) (W := 1) (Nat.le_of_eq rfl) (by decide) (by decide) (by decide) ?_
  intro v12 T12 lo12 X12 Q12
  obtain ⟨h12, e12⟩ : ∃ h, T12.heap = h := ⟨_, rfl⟩
  rw [e12] at Q12
  obtain ⟨rfl, N12, K12, F13, F14, F15, F16, F17, F18⟩ := Q12
  have N12' := Fr.app N0 N12
  show own_Go _ _ _ _ _ _ _ T12 (mkF m 15 L1 [(.ref a2)])
  have F19 : Exa Z h12 a2 "com/example/rankline/rankline/Extent" := (A2.keep K12)
  exact own_retA X12 hx hlk hret rfl rfl rfl (hb hby d4_15) e12 ⟨a2, rfl, N12', (((Keep.refl _ _).ext E2).trans K12 (allS (Or.inr ge3) all0)), ge3, F19, F13, F14, F15, F16, F17, F18⟩ (by decide) (by decide)
def own_s18_Q (Z : State) (a10 : Addr) (a35 : Addr) (a34 : Addr) (a33 : Addr) (a32 : Addr) (a31 : Addr) (a30 : Addr) (a29 : Addr) (a28 : Addr) (h0 : Heap) (n0 : Nat) (v_ : Option Value) (h_ : Heap) (L_ : List Loc) : Prop := (fun v h L => v = some (.int (1 : Int32)) ∧ Fr n0 L ∧ Keep h0 h [a10] ∧ Fld Z h a10 "com/example/rankline/rankline/Buckets" "thresholds" "[D" (.ref a28) ∧ Fld Z h a10 "com/example/rankline/rankline/Buckets" "ranks" "[D" (.ref a29) ∧ Fld Z h a10 "com/example/rankline/rankline/Buckets" "guarded" "[Z" (.ref a30) ∧ Fld Z h a10 "com/example/rankline/rankline/Buckets" "extents" "[Lcom/example/rankline/rankline/Extent;" (.ref a31) ∧ Fld Z h a10 "com/example/rankline/rankline/Buckets" "addedAtThreshold" "[Z" (.ref a32) ∧ Fld Z h a10 "com/example/rankline/rankline/Buckets" "copies" "[J" (.ref a33) ∧ Fld Z h a10 "com/example/rankline/rankline/Buckets" "nextOf" "[I" (.ref a34) ∧ Fld Z h a10 "com/example/rankline/rankline/Buckets" "previousOf" "[I" (.ref a35) ∧ Fld Z h a10 "com/example/rankline/rankline/Buckets" "first" "I" (.int (0 : Int32)) ∧ Fld Z h a10 "com/example/rankline/rankline/Buckets" "last" "I" (.int (0 : Int32)) ∧ Fld Z h a10 "com/example/rankline/rankline/Buckets" "free" "I" (.int (-1 : Int32)) ∧ Fld Z h a10 "com/example/rankline/rankline/Buckets" "smallestMagnitude" "D" (.double (9218868437227405312 : UInt64)) ∧ Fld Z h a10 "com/example/rankline/rankline/Buckets" "size" "I" (.int (1 : Int32)) ∧ Fld Z h a10 "com/example/rankline/rankline/Buckets" "used" "I" (.int (2 : Int32))) v_ h_ L_
set_option maxRecDepth 65536 in
set_option maxHeartbeats 40000000 in
theorem own_s18 (l : Launch) (Z : State) (a0 : Array Value) (hw : ∀ d ∈ tables_1, d.before a0 Z = true) (wds : List Jvm.Cond) (a10 : Addr) (a35 : Addr) (a34 : Addr) (a33 : Addr) (a32 : Addr) (a31 : Addr) (a30 : Addr) (a29 : Addr) (a28 : Addr) (h0 : Heap) (n0 : Nat) (Z0 : n0 ≤ h0.size) (H1 : Exa Z h0 a10 "com/example/rankline/rankline/Buckets") (H18 : own_Ary Z h0 a28 .double [(.double (0 : UInt64)), (.double (0 : UInt64)), (.double (0 : UInt64)), (.double (0 : UInt64)), (.double (0 : UInt64)), (.double (0 : UInt64)), (.double (0 : UInt64)), (.double (0 : UInt64)), (.double (0 : UInt64)), (.double (0 : UInt64)), (.double (0 : UInt64)), (.double (0 : UInt64)), (.double (0 : UInt64)), (.double (0 : UInt64)), (.double (0 : UInt64)), (.double (0 : UInt64))]) (H19 : Fld Z h0 a10 "com/example/rankline/rankline/Buckets" "thresholds" "[D" (.ref a28)) (H20 : Fld Z h0 a10 "com/example/rankline/rankline/Buckets" "ranks" "[D" (.ref a29)) (H21 : Fld Z h0 a10 "com/example/rankline/rankline/Buckets" "guarded" "[Z" (.ref a30)) (H22 : Fld Z h0 a10 "com/example/rankline/rankline/Buckets" "extents" "[Lcom/example/rankline/rankline/Extent;" (.ref a31)) (H23 : Fld Z h0 a10 "com/example/rankline/rankline/Buckets" "addedAtThreshold" "[Z" (.ref a32)) (H24 : Fld Z h0 a10 "com/example/rankline/rankline/Buckets" "copies" "[J" (.ref a33)) (H25 : Fld Z h0 a10 "com/example/rankline/rankline/Buckets" "nextOf" "[I" (.ref a34)) (H26 : Fld Z h0 a10 "com/example/rankline/rankline/Buckets" "previousOf" "[I" (.ref a35)) (H27 : Fld Z h0 a10 "com/example/rankline/rankline/Buckets" "first" "I" (.int (0 : Int32))) (H28 : Fld Z h0 a10 "com/example/rankline/rankline/Buckets" "last" "I" (.int (0 : Int32))) (H29 : Fld Z h0 a10 "com/example/rankline/rankline/Buckets" "free" "I" (.int (-1 : Int32))) (H30 : Fld Z h0 a10 "com/example/rankline/rankline/Buckets" "smallestMagnitude" "D" (.double (9218868437227405312 : UInt64))) (H31 : Fld Z h0 a10 "com/example/rankline/rankline/Buckets" "size" "I" (.int (1 : Int32))) (H32 : Fld Z h0 a10 "com/example/rankline/rankline/Buckets" "used" "I" (.int (1 : Int32))) (H49 : n0 ≤ a10) :
    MetFree l (⟨"com/example/rankline/rankline/Buckets", "allocate", "()I"⟩ : MethodName) (head1 (Jvm.Cond.code (⟨"com/example/rankline/rankline/Buckets", "allocate", "()I"⟩ : MethodName) prog_5_method_56_code 2 (some .int) :: wds) ({ frames := 0, cells := 0, slots := 0, locals := 0 } : Room)) (fun ar_ U_ => ar_ = #[(.ref a10)] ∧ Z.Warmed39 U_.vm ∧ U_.heap = h0) (fun _ _ _ _ _ => True) (fun _ U_ o_ V_ => ∃ v_ L_, o_ = .returned v_ ∧ own_s18_Q Z a10 a35 a34 a33 a32 a31 a30 a29 a28 h0 n0 v_ V_.heap L_ ∧ FrameEnd U_ o_ V_ L_ ({ frames := 0, cells := 0, slots := 0, locals := 0 } : Room).cells ({ frames := 0, cells := 0, slots := 0, locals := 0 } : Room).slots) := by
  refine own_met (y := ⟨"com/example/rankline/rankline/Buckets", "allocate", "()I"⟩) (Q := own_s18_Q Z a10 a35 a34 a33 a32 a31 a30 a29 a28 h0 n0) own_pn1 ?_
  intro p e s m below meth c s₁ hx hby hml hZ hown hnm hret hlk X0 e0
  have N0 := Fr.nil n0
  refine own_cast (g' := (mkF m 0 #[.val (.ref a10), .unset] [])) (by first | (simp [entryFrame, mkF, argsToLocals, Value.category]; done) | rfl) ?_
  refine own_pre (T' := s₁) (g' := (mkF m 1 #[.val (.ref a10), .unset] [(.ref a10)])) (fun t k => XS.aloadN X0.here hx rfl (v := (.ref a10)) (hb hby d9_0) rfl rfl k) ?_
  refine own_getf X0 hx hZ hown (own_w hw 38 rfl) e0 H29 (hb hby d9_1) ?_
  intro T1 X1 e1
  show own_Go _ _ _ _ _ _ _ T1 (mkF m 4 #[.val (.ref a10), .unset] [(.int (-1 : Int32))])
  refine own_pre (T' := T1) (g' := (mkF m 5 #[.val (.ref a10), .unset] [(.int (-1 : Int32)), (.int (-1 : Int32))])) (fun t k => XS.iconst X1.here hx rfl (hb hby d9_4) k) ?_
  refine own_pre (T' := T1) (g' := (mkF m 25 #[.val (.ref a10), .unset] [])) (fun t k => XS.icmpYes X1.here hx rfl (pc0 := 5) (pc' := 25) rfl (hb hby d9_5) rfl (by decide) (by decide) (by decide) k) ?_
  refine own_pre (T' := T1) (g' := (mkF m 26 #[.val (.ref a10), .unset] [(.ref a10)])) (fun t k => XS.aloadN X1.here hx rfl (v := (.ref a10)) (hb hby d9_25) rfl rfl k) ?_
  refine own_getf X1 hx hZ hown (own_w hw 91 rfl) e1 H32 (hb hby d9_26) ?_
  intro T2 X2 e2
  show own_Go _ _ _ _ _ _ _ T2 (mkF m 29 #[.val (.ref a10), .unset] [(.int (1 : Int32))])
  refine own_pre (T' := T2) (g' := (mkF m 30 #[.val (.ref a10), .unset] [(.ref a10), (.int (1 : Int32))])) (fun t k => XS.aloadN X2.here hx rfl (v := (.ref a10)) (hb hby d9_29) rfl rfl k) ?_
  refine own_getf X2 hx hZ hown (own_w hw 13 rfl) e2 H19 (hb hby d9_30) ?_
  intro T3 X3 e3
  show own_Go _ _ _ _ _ _ _ T3 (mkF m 33 #[.val (.ref a10), .unset] [(.ref a28), (.int (1 : Int32))])
  refine own_len X3 hx hZ e3 H18 (hb hby d9_33) (n := (16 : Int32)) rfl ?_
  show own_Go _ _ _ _ _ _ _ T3 (mkF m 34 #[.val (.ref a10), .unset] [(.int (16 : Int32)), (.int (1 : Int32))])
  refine own_pre (T' := T3) (g' := (mkF m 143 #[.val (.ref a10), .unset] [])) (fun t k => XS.icmpYes X3.here hx rfl (pc0 := 34) (pc' := 143) rfl (hb hby d9_34) rfl (by decide) (by decide) (by decide) k) ?_
  refine own_pre (T' := T3) (g' := (mkF m 144 #[.val (.ref a10), .unset] [(.ref a10)])) (fun t k => XS.aloadN X3.here hx rfl (v := (.ref a10)) (hb hby d9_143) rfl rfl k) ?_
  refine own_pre (T' := T3) (g' := (mkF m 145 #[.val (.ref a10), .unset] [(.ref a10), (.ref a10)])) (fun t k => XS.dup X3.here hx rfl (hb hby d9_144) rfl rfl k) ?_
  refine own_getf X3 hx hZ hown (own_w hw 91 rfl) e3 H32 (hb hby d9_145) ?_
  intro T4 X4 e4
  show own_Go _ _ _ _ _ _ _ T4 (mkF m 148 #[.val (.ref a10), .unset] [(.int (1 : Int32)), (.ref a10)])
  refine own_pre (T' := T4) (g' := (mkF m 149 #[.val (.ref a10), .unset] [(.int (1 : Int32)), (.ref a10), (.int (1 : Int32))])) (fun t k => XT.dupX1 X4.here hx rfl (hb hby d9_148) rfl rfl rfl k) ?_
  refine own_pre (T' := T4) (g' := (mkF m 150 #[.val (.ref a10), .unset] [(.int (1 : Int32)), (.int (1 : Int32)), (.ref a10), (.int (1 : Int32))])) (fun t k => XS.iconst X4.here hx rfl (hb hby d9_149) k) ?_
  refine own_pre (T' := T4) (g' := (mkF m 151 #[.val (.ref a10), .unset] [(.int (2 : Int32)), (.ref a10), (.int (1 : Int32))])) (fun t k => XS.iadd X4.here hx rfl (hb hby d9_150) rfl k) ?_
  refine own_putf X4 hx hZ hown (own_w hw 91 rfl) e4 N0 H49 H32 H1 (Or.inl (own_w hw 92 rfl)) (own_w hw 4 rfl) (ty := .int) (by decide) rfl rfl (hb hby d9_151) ?_
  intro T5 h5 lo5 X5 e5 N5 W5
  have F6 : Fld Z h5 a10 "com/example/rankline/rankline/Buckets" "used" "I" (.int (2 : Int32)) := H32.same W5
  show own_Go _ _ _ _ _ _ _ T5 (mkF m 154 #[.val (.ref a10), .unset] [(.int (1 : Int32))])
  have F7 : Fld Z h5 a10 "com/example/rankline/rankline/Buckets" "thresholds" "[D" (.ref a28) := (H19.other W5 (Or.inr (slot_ne (C := "com/example/rankline/rankline/Buckets") (Or.inl (own_w hw 14 rfl)) (Or.inl (own_w hw 92 rfl)) (by decide) (t := (.array .double)) (t' := .int) (by decide) (by decide))))
  have F8 : Fld Z h5 a10 "com/example/rankline/rankline/Buckets" "ranks" "[D" (.ref a29) := (H20.other W5 (Or.inr (slot_ne (C := "com/example/rankline/rankline/Buckets") (Or.inl (own_w hw 16 rfl)) (Or.inl (own_w hw 92 rfl)) (by decide) (t := (.array .double)) (t' := .int) (by decide) (by decide))))
  have F9 : Fld Z h5 a10 "com/example/rankline/rankline/Buckets" "guarded" "[Z" (.ref a30) := (H21.other W5 (Or.inr (slot_ne (C := "com/example/rankline/rankline/Buckets") (Or.inl (own_w hw 19 rfl)) (Or.inl (own_w hw 92 rfl)) (by decide) (t := (.array .boolean)) (t' := .int) (by decide) (by decide))))
  have F10 : Fld Z h5 a10 "com/example/rankline/rankline/Buckets" "extents" "[Lcom/example/rankline/rankline/Extent;" (.ref a31) := (H22.other W5 (Or.inr (slot_ne (C := "com/example/rankline/rankline/Buckets") (Or.inl (own_w hw 23 rfl)) (Or.inl (own_w hw 92 rfl)) (by decide) (t := (.array (.object "com/example/rankline/rankline/Extent"))) (t' := .int) (by decide) (by decide))))
  have F11 : Fld Z h5 a10 "com/example/rankline/rankline/Buckets" "addedAtThreshold" "[Z" (.ref a32) := (H23.other W5 (Or.inr (slot_ne (C := "com/example/rankline/rankline/Buckets") (Or.inl (own_w hw 25 rfl)) (Or.inl (own_w hw 92 rfl)) (by decide) (t := (.array .boolean)) (t' := .int) (by decide) (by decide))))
  have F12 : Fld Z h5 a10 "com/example/rankline/rankline/Buckets" "copies" "[J" (.ref a33) := (H24.other W5 (Or.inr (slot_ne (C := "com/example/rankline/rankline/Buckets") (Or.inl (own_w hw 28 rfl)) (Or.inl (own_w hw 92 rfl)) (by decide) (t := (.array .long)) (t' := .int) (by decide) (by decide))))
  have F13 : Fld Z h5 a10 "com/example/rankline/rankline/Buckets" "nextOf" "[I" (.ref a34) := (H25.other W5 (Or.inr (slot_ne (C := "com/example/rankline/rankline/Buckets") (Or.inl (own_w hw 31 rfl)) (Or.inl (own_w hw 92 rfl)) (by decide) (t := (.array .int)) (t' := .int) (by decide) (by decide))))
  have F14 : Fld Z h5 a10 "com/example/rankline/rankline/Buckets" "previousOf" "[I" (.ref a35) := (H26.other W5 (Or.inr (slot_ne (C := "com/example/rankline/rankline/Buckets") (Or.inl (own_w hw 33 rfl)) (Or.inl (own_w hw 92 rfl)) (by decide) (t := (.array .int)) (t' := .int) (by decide) (by decide))))
  have F15 : Fld Z h5 a10 "com/example/rankline/rankline/Buckets" "first" "I" (.int (0 : Int32)) := (H27.other W5 (Or.inr (slot_ne (C := "com/example/rankline/rankline/Buckets") (Or.inl (own_w hw 35 rfl)) (Or.inl (own_w hw 92 rfl)) (by decide) (t := .int) (t' := .int) (by decide) (by decide))))
  have F16 : Fld Z h5 a10 "com/example/rankline/rankline/Buckets" "last" "I" (.int (0 : Int32)) := (H28.other W5 (Or.inr (slot_ne (C := "com/example/rankline/rankline/Buckets") (Or.inl (own_w hw 37 rfl)) (Or.inl (own_w hw 92 rfl)) (by decide) (t := .int) (t' := .int) (by decide) (by decide))))
  have F17 : Fld Z h5 a10 "com/example/rankline/rankline/Buckets" "free" "I" (.int (-1 : Int32)) := (H29.other W5 (Or.inr (slot_ne (C := "com/example/rankline/rankline/Buckets") (Or.inl (own_w hw 39 rfl)) (Or.inl (own_w hw 92 rfl)) (by decide) (t := .int) (t' := .int) (by decide) (by decide))))
  have F18 : Fld Z h5 a10 "com/example/rankline/rankline/Buckets" "smallestMagnitude" "D" (.double (9218868437227405312 : UInt64)) := (H30.other W5 (Or.inr (slot_ne (C := "com/example/rankline/rankline/Buckets") (Or.inl (own_w hw 42 rfl)) (Or.inl (own_w hw 92 rfl)) (by decide) (t := .double) (t' := .int) (by decide) (by decide))))
  have F19 : Fld Z h5 a10 "com/example/rankline/rankline/Buckets" "size" "I" (.int (1 : Int32)) := (H31.other W5 (Or.inr (slot_ne (C := "com/example/rankline/rankline/Buckets") (Or.inl (own_w hw 50 rfl)) (Or.inl (own_w hw 92 rfl)) (by decide) (t := .int) (t' := .int) (by decide) (by decide))))
  exact own_retI X5 hx hlk hret (hb hby d9_154) e5 ⟨rfl, N5, ((Keep.refl _ _).wr W5 (Or.inl (by simp))), F7, F8, F9, F10, F11, F12, F13, F14, F15, F16, F17, F18, F19, F6⟩ (by decide) (by decide)
def own_s17_Q (Z : State) (a10 : Addr) (f167 : UInt64) (a11 : Addr) (a35 : Addr) (a34 : Addr) (a33 : Addr) (a32 : Addr) (a31 : Addr) (a30 : Addr) (a29 : Addr) (a28 : Addr) (a125 : Addr) (f121 : UInt64) (v2 : Int32) (h0 : Heap) (n0 : Nat) (v_ : Option Value) (h_ : Heap) (L_ : List Loc) : Prop := (fun v h L => v = some (.int (1 : Int32)) ∧ Fr n0 L ∧ Keep h0 h [a10, a28, a29, a30, a31, a32, a33, a34, a35] ∧ own_Ary Z h a35 .int [(.int (-1 : Int32)), (.int (0 : Int32)), (.int (0 : Int32)), (.int (0 : Int32)), (.int (0 : Int32)), (.int (0 : Int32)), (.int (0 : Int32)), (.int (0 : Int32)), (.int (0 : Int32)), (.int (0 : Int32)), (.int (0 : Int32)), (.int (0 : Int32)), (.int (0 : Int32)), (.int (0 : Int32)), (.int (0 : Int32)), (.int (0 : Int32))] ∧ own_Ary Z h a34 .int [(.int (1 : Int32)), (.int (-1 : Int32)), (.int (0 : Int32)), (.int (0 : Int32)), (.int (0 : Int32)), (.int (0 : Int32)), (.int (0 : Int32)), (.int (0 : Int32)), (.int (0 : Int32)), (.int (0 : Int32)), (.int (0 : Int32)), (.int (0 : Int32)), (.int (0 : Int32)), (.int (0 : Int32)), (.int (0 : Int32)), (.int (0 : Int32))] ∧ own_Ary Z h a33 .long [(.long (0 : Int64)), (.long (0 : Int64)), (.long (0 : Int64)), (.long (0 : Int64)), (.long (0 : Int64)), (.long (0 : Int64)), (.long (0 : Int64)), (.long (0 : Int64)), (.long (0 : Int64)), (.long (0 : Int64)), (.long (0 : Int64)), (.long (0 : Int64)), (.long (0 : Int64)), (.long (0 : Int64)), (.long (0 : Int64)), (.long (0 : Int64))] ∧ own_Ary Z h a32 .boolean [(.int (0 : Int32)), (.int (0 : Int32)), (.int (0 : Int32)), (.int (0 : Int32)), (.int (0 : Int32)), (.int (0 : Int32)), (.int (0 : Int32)), (.int (0 : Int32)), (.int (0 : Int32)), (.int (0 : Int32)), (.int (0 : Int32)), (.int (0 : Int32)), (.int (0 : Int32)), (.int (0 : Int32)), (.int (0 : Int32)), (.int (0 : Int32))] ∧ own_Ary Z h a31 (.object "com/example/rankline/rankline/Extent") [(.ref a125), (.ref a11), .null, .null, .null, .null, .null, .null, .null, .null, .null, .null, .null, .null, .null, .null] ∧ own_Ary Z h a30 .boolean [(.int (0 : Int32)), (.int (0 : Int32)), (.int (0 : Int32)), (.int (0 : Int32)), (.int (0 : Int32)), (.int (0 : Int32)), (.int (0 : Int32)), (.int (0 : Int32)), (.int (0 : Int32)), (.int (0 : Int32)), (.int (0 : Int32)), (.int (0 : Int32)), (.int (0 : Int32)), (.int (0 : Int32)), (.int (0 : Int32)), (.int (0 : Int32))] ∧ own_Ary Z h a29 .double [(.double f121), (.double f167), (.double (0 : UInt64)), (.double (0 : UInt64)), (.double (0 : UInt64)), (.double (0 : UInt64)), (.double (0 : UInt64)), (.double (0 : UInt64)), (.double (0 : UInt64)), (.double (0 : UInt64)), (.double (0 : UInt64)), (.double (0 : UInt64)), (.double (0 : UInt64)), (.double (0 : UInt64)), (.double (0 : UInt64)), (.double (0 : UInt64))] ∧ own_Ary Z h a28 .double [(.double (0 : UInt64)), (.double (4607182418800017408 : UInt64)), (.double (0 : UInt64)), (.double (0 : UInt64)), (.double (0 : UInt64)), (.double (0 : UInt64)), (.double (0 : UInt64)), (.double (0 : UInt64)), (.double (0 : UInt64)), (.double (0 : UInt64)), (.double (0 : UInt64)), (.double (0 : UInt64)), (.double (0 : UInt64)), (.double (0 : UInt64)), (.double (0 : UInt64)), (.double (0 : UInt64))] ∧ Fld Z h a10 "com/example/rankline/rankline/Buckets" "thresholds" "[D" (.ref a28) ∧ Fld Z h a10 "com/example/rankline/rankline/Buckets" "ranks" "[D" (.ref a29) ∧ Fld Z h a10 "com/example/rankline/rankline/Buckets" "guarded" "[Z" (.ref a30) ∧ Fld Z h a10 "com/example/rankline/rankline/Buckets" "extents" "[Lcom/example/rankline/rankline/Extent;" (.ref a31) ∧ Fld Z h a10 "com/example/rankline/rankline/Buckets" "addedAtThreshold" "[Z" (.ref a32) ∧ Fld Z h a10 "com/example/rankline/rankline/Buckets" "copies" "[J" (.ref a33) ∧ Fld Z h a10 "com/example/rankline/rankline/Buckets" "nextOf" "[I" (.ref a34) ∧ Fld Z h a10 "com/example/rankline/rankline/Buckets" "previousOf" "[I" (.ref a35) ∧ Fld Z h a10 "com/example/rankline/rankline/Buckets" "first" "I" (.int (0 : Int32)) ∧ Fld Z h a10 "com/example/rankline/rankline/Buckets" "last" "I" (.int (1 : Int32)) ∧ Fld Z h a10 "com/example/rankline/rankline/Buckets" "free" "I" (.int (-1 : Int32)) ∧ Fld Z h a10 "com/example/rankline/rankline/Buckets" "smallestMagnitude" "D" (.double (9218868437227405312 : UInt64)) ∧ Fld Z h a10 "com/example/rankline/rankline/Buckets" "size" "I" (.int (2 : Int32)) ∧ Fld Z h a10 "com/example/rankline/rankline/Buckets" "used" "I" (.int (2 : Int32))) v_ h_ L_
set_option maxRecDepth 65536 in
set_option maxHeartbeats 40000000 in
theorem own_s17 (l : Launch) (Z : State) (a0 : Array Value) (hw : ∀ d ∈ tables_1, d.before a0 Z = true) (wds : List Jvm.Cond) (a10 : Addr) (f167 : UInt64) (a11 : Addr) (a35 : Addr) (a34 : Addr) (a33 : Addr) (a32 : Addr) (a31 : Addr) (a30 : Addr) (a29 : Addr) (a28 : Addr) (a125 : Addr) (f121 : UInt64) (v2 : Int32) (h0 : Heap) (n0 : Nat) (Z0 : n0 ≤ h0.size) (H1 : Exa Z h0 a10 "com/example/rankline/rankline/Buckets") (H7 : own_Ovr Z h0 a31 "com/example/rankline/rankline/Extent") (H11 : own_Ary Z h0 a35 .int [(.int (-1 : Int32)), (.int (0 : Int32)), (.int (0 : Int32)), (.int (0 : Int32)), (.int (0 : Int32)), (.int (0 : Int32)), (.int (0 : Int32)), (.int (0 : Int32)), (.int (0 : Int32)), (.int (0 : Int32)), (.int (0 : Int32)), (.int (0 : Int32)), (.int (0 : Int32)), (.int (0 : Int32)), (.int (0 : Int32)), (.int (0 : Int32))]) (H12 : own_Ary Z h0 a34 .int [(.int (-1 : Int32)), (.int (0 : Int32)), (.int (0 : Int32)), (.int (0 : Int32)), (.int (0 : Int32)), (.int (0 : Int32)), (.int (0 : Int32)), (.int (0 : Int32)), (.int (0 : Int32)), (.int (0 : Int32)), (.int (0 : Int32)), (.int (0 : Int32)), (.int (0 : Int32)), (.int (0 : Int32)), (.int (0 : Int32)), (.int (0 : Int32))]) (H13 : own_Ary Z h0 a33 .long [(.long (0 : Int64)), (.long (0 : Int64)), (.long (0 : Int64)), (.long (0 : Int64)), (.long (0 : Int64)), (.long (0 : Int64)), (.long (0 : Int64)), (.long (0 : Int64)), (.long (0 : Int64)), (.long (0 : Int64)), (.long (0 : Int64)), (.long (0 : Int64)), (.long (0 : Int64)), (.long (0 : Int64)), (.long (0 : Int64)), (.long (0 : Int64))]) (H14 : own_Ary Z h0 a32 .boolean [(.int (0 : Int32)), (.int (0 : Int32)), (.int (0 : Int32)), (.int (0 : Int32)), (.int (0 : Int32)), (.int (0 : Int32)), (.int (0 : Int32)), (.int (0 : Int32)), (.int (0 : Int32)), (.int (0 : Int32)), (.int (0 : Int32)), (.int (0 : Int32)), (.int (0 : Int32)), (.int (0 : Int32)), (.int (0 : Int32)), (.int (0 : Int32))]) (H15 : own_Ary Z h0 a31 (.object "com/example/rankline/rankline/Extent") [(.ref a125), .null, .null, .null, .null, .null, .null, .null, .null, .null, .null, .null, .null, .null, .null, .null]) (H16 : own_Ary Z h0 a30 .boolean [(.int (0 : Int32)), (.int (0 : Int32)), (.int (0 : Int32)), (.int (0 : Int32)), (.int (0 : Int32)), (.int (0 : Int32)), (.int (0 : Int32)), (.int (0 : Int32)), (.int (0 : Int32)), (.int (0 : Int32)), (.int (0 : Int32)), (.int (0 : Int32)), (.int (0 : Int32)), (.int (0 : Int32)), (.int (0 : Int32)), (.int (0 : Int32))]) (H17 : own_Ary Z h0 a29 .double [(.double f121), (.double (0 : UInt64)), (.double (0 : UInt64)), (.double (0 : UInt64)), (.double (0 : UInt64)), (.double (0 : UInt64)), (.double (0 : UInt64)), (.double (0 : UInt64)), (.double (0 : UInt64)), (.double (0 : UInt64)), (.double (0 : UInt64)), (.double (0 : UInt64)), (.double (0 : UInt64)), (.double (0 : UInt64)), (.double (0 : UInt64)), (.double (0 : UInt64))]) (H18 : own_Ary Z h0 a28 .double [(.double (0 : UInt64)), (.double (0 : UInt64)), (.double (0 : UInt64)), (.double (0 : UInt64)), (.double (0 : UInt64)), (.double (0 : UInt64)), (.double (0 : UInt64)), (.double (0 : UInt64)), (.double (0 : UInt64)), (.double (0 : UInt64)), (.double (0 : UInt64)), (.double (0 : UInt64)), (.double (0 : UInt64)), (.double (0 : UInt64)), (.double (0 : UInt64)), (.double (0 : UInt64))]) (H19 : Fld Z h0 a10 "com/example/rankline/rankline/Buckets" "thresholds" "[D" (.ref a28)) (H20 : Fld Z h0 a10 "com/example/rankline/rankline/Buckets" "ranks" "[D" (.ref a29)) (H21 : Fld Z h0 a10 "com/example/rankline/rankline/Buckets" "guarded" "[Z" (.ref a30)) (H22 : Fld Z h0 a10 "com/example/rankline/rankline/Buckets" "extents" "[Lcom/example/rankline/rankline/Extent;" (.ref a31)) (H23 : Fld Z h0 a10 "com/example/rankline/rankline/Buckets" "addedAtThreshold" "[Z" (.ref a32)) (H24 : Fld Z h0 a10 "com/example/rankline/rankline/Buckets" "copies" "[J" (.ref a33)) (H25 : Fld Z h0 a10 "com/example/rankline/rankline/Buckets" "nextOf" "[I" (.ref a34)) (H26 : Fld Z h0 a10 "com/example/rankline/rankline/Buckets" "previousOf" "[I" (.ref a35)) (H27 : Fld Z h0 a10 "com/example/rankline/rankline/Buckets" "first" "I" (.int (0 : Int32))) (H28 : Fld Z h0 a10 "com/example/rankline/rankline/Buckets" "last" "I" (.int (0 : Int32))) (H29 : Fld Z h0 a10 "com/example/rankline/rankline/Buckets" "free" "I" (.int (-1 : Int32))) (H30 : Fld Z h0 a10 "com/example/rankline/rankline/Buckets" "smallestMagnitude" "D" (.double (9218868437227405312 : UInt64))) (H31 : Fld Z h0 a10 "com/example/rankline/rankline/Buckets" "size" "I" (.int (1 : Int32))) (H32 : Fld Z h0 a10 "com/example/rankline/rankline/Buckets" "used" "I" (.int (1 : Int32))) (H40 : Exa Z h0 a11 "com/example/rankline/rankline/Extent") (H47 : a10 < a35) (H48 : a10 < a34) (H49 : a10 < a33) (H50 : a10 < a32) (H51 : a10 < a31) (H52 : a10 < a30) (H53 : a10 < a29) (H54 : a10 < a28) (H57 : n0 ≤ a10) (H58 : a34 < a35) (H59 : a33 < a35) (H60 : a32 < a35) (H61 : a31 < a35) (H62 : a30 < a35) (H63 : a29 < a35) (H64 : a28 < a35) (H67 : n0 ≤ a35) (H68 : a33 < a34) (H69 : a32 < a34) (H70 : a31 < a34) (H71 : a30 < a34) (H72 : a29 < a34) (H73 : a28 < a34) (H76 : n0 ≤ a34) (H77 : a32 < a33) (H78 : a31 < a33) (H79 : a30 < a33) (H80 : a29 < a33) (H81 : a28 < a33) (H84 : n0 ≤ a33) (H85 : a31 < a32) (H86 : a30 < a32) (H87 : a29 < a32) (H88 : a28 < a32) (H91 : n0 ≤ a32) (H92 : a30 < a31) (H93 : a29 < a31) (H94 : a28 < a31) (H97 : n0 ≤ a31) (H98 : a29 < a30) (H99 : a28 < a30) (H102 : n0 ≤ a30) (H103 : a28 < a29) (H106 : n0 ≤ a29) (H109 : n0 ≤ a28) :
    MetFree l (⟨"com/example/rankline/rankline/Buckets", "insertBefore", "(IDDLcom/example/rankline/rankline/Extent;J)I"⟩ : MethodName) (head1 (Jvm.Cond.code (⟨"com/example/rankline/rankline/Buckets", "insertBefore", "(IDDLcom/example/rankline/rankline/Extent;J)I"⟩ : MethodName) prog_5_method_55_code 11 (some .int) :: wds) ({ frames := 1, cells := 0, slots := 0, locals := 13 } : Room)) (fun ar_ U_ => ar_ = #[(.ref a10), (.int (-1 : Int32)), (.double (4607182418800017408 : UInt64)), (.double f167), (.ref a11), (.long (0 : Int64))] ∧ Z.Warmed39 U_.vm ∧ U_.heap = h0) (fun _ _ _ _ _ => True) (fun _ U_ o_ V_ => ∃ v_ L_, o_ = .returned v_ ∧ own_s17_Q Z a10 f167 a11 a35 a34 a33 a32 a31 a30 a29 a28 a125 f121 v2 h0 n0 v_ V_.heap L_ ∧ FrameEnd U_ o_ V_ L_ ({ frames := 1, cells := 0, slots := 0, locals := 13 } : Room).cells ({ frames := 1, cells := 0, slots := 0, locals := 13 } : Room).slots) := by
  refine own_met (y := ⟨"com/example/rankline/rankline/Buckets", "insertBefore", "(IDDLcom/example/rankline/rankline/Extent;J)I"⟩) (Q := own_s17_Q Z a10 f167 a11 a35 a34 a33 a32 a31 a30 a29 a28 a125 f121 v2 h0 n0) own_pn1 ?_
  intro p e s m below meth c s₁ hx hby hml hZ hown hnm hret hlk X0 e0
  have N0 := Fr.nil n0
  refine own_cast (g' := (mkF m 0 #[.val (.ref a10), .val (.int (-1 : Int32)), .val (.double (4607182418800017408 : UInt64)), .second, .val (.double f167), .second, .val (.ref a11), .val (.long (0 : Int64)), .second, .unset, .unset] [])) (by first | (simp [entryFrame, mkF, argsToLocals, Value.category]; done) | rfl) ?_
  generalize hL1 : (#[.val (.ref a10), .val (.int (-1 : Int32)), .val (.double (4607182418800017408 : UInt64)), .second, .val (.double f167), .second, .val (.ref a11), .val (.long (0 : Int64)), .second, .unset, .unset] : Array Slot) = L1
  refine own_pre (T' := s₁) (g' := (mkF m 1 L1 [(.ref a10)])) (fun t k => XS.aloadN X0.here hx rfl (v := (.ref a10)) (hb hby d8_0) (by rw [← hL1]; rfl) rfl k) ?_
  refine own_callp (a := a10) (argsL := []) (rest := []) X0 hx hZ hown (own_s18 l Z a0 hw [] a10 a35 a34 a33 a32 a31 a30 a29 a28 h0 n0 Z0 H1 H18 H19 H20 H21 H22 H23 H24 H25 H26 H27 H28 H29 H30 H31 H32 H57) H1 (own_w hw 87 rfl) (own_w hw 4 rfl) (own_w hw 89 rfl) (own_w hw 88 rfl) (own_w hw 90 rfl) (own_w hw 5 rfl) (by decide) e0 (hb hby d8_1) (by rw [hml, ← hL1]; rfl) rfl (lenOf own_pd3 rfl) (by decide) (W := 0) (Nat.le_of_eq rfl) (by decide) (by decide) (by decide) ?_
  intro v2 T2 lo2 X2 Q2
  obtain ⟨h2, e2⟩ : ∃ h, T2.heap = h := ⟨_, rfl⟩
  rw [e2] at Q2
  obtain ⟨rfl, N2, K2, F3, F4, F5, F6, F7, F8, F9, F10, F11, F12, F13, F14, F15, F16⟩ := Q2
  have N2' := Fr.app N0 N2
  show own_Go _ _ _ _ _ _ _ T2 (mkF m 4 L1 [(.int (1 : Int32))])
  refine own_pre (T' := T2) (g' := (mkF m 6 #[.val (.ref a10), .val (.int (-1 : Int32)), .val (.double (4607182418800017408 : UInt64)), .second, .val (.double f167), .second, .val (.ref a11), .val (.long (0 : Int64)), .second, .val (.int (1 : Int32)), .unset] [])) (fun t k => XS.istore X2.here hx rfl (hb hby d8_4) rfl (l' := #[.val (.ref a10), .val (.int (-1 : Int32)), .val (.double (4607182418800017408 : UInt64)), .second, .val (.double f167), .second, .val (.ref a11), .val (.long (0 : Int64)), .second, .val (.int (1 : Int32)), .unset]) (by rw [← hL1]; rfl) k) ?_
  generalize hL17 : (#[.val (.ref a10), .val (.int (-1 : Int32)), .val (.double (4607182418800017408 : UInt64)), .second, .val (.double f167), .second, .val (.ref a11), .val (.long (0 : Int64)), .second, .val (.int (1 : Int32)), .unset] : Array Slot) = L17
  refine own_pre (T' := T2) (g' := (mkF m 7 L17 [(.ref a10)])) (fun t k => XS.aloadN X2.here hx rfl (v := (.ref a10)) (hb hby d8_6) (by rw [← hL17]; rfl) rfl k) ?_
  refine own_getf X2 hx hZ hown (own_w hw 13 rfl) e2 F3 (hb hby d8_7) ?_
  intro T18 X18 e18
  show own_Go _ _ _ _ _ _ _ T18 (mkF m 10 L17 [(.ref a28)])
  refine own_pre (T' := T18) (g' := (mkF m 12 L17 [(.int (1 : Int32)), (.ref a28)])) (fun t k => XS.iload X18.here hx rfl (v := (1 : Int32)) (hb hby d8_10) (by rw [← hL17]; rfl) k) ?_
  refine own_pre (T' := T18) (g' := (mkF m 13 L17 [(.double (4607182418800017408 : UInt64)), (.int (1 : Int32)), (.ref a28)])) (fun t k => XS.dloadN X18.here hx rfl (v := (4607182418800017408 : UInt64)) (hb hby d8_12) (by rw [← hL17]; rfl) k) ?_
  have F19 : own_Ary Z h2 a28 .double [(.double (0 : UInt64)), (.double (0 : UInt64)), (.double (0 : UInt64)), (.double (0 : UInt64)), (.double (0 : UInt64)), (.double (0 : UInt64)), (.double (0 : UInt64)), (.double (0 : UInt64)), (.double (0 : UInt64)), (.double (0 : UInt64)), (.double (0 : UInt64)), (.double (0 : UInt64)), (.double (0 : UInt64)), (.double (0 : UInt64)), (.double (0 : UInt64)), (.double (0 : UInt64))] := (H18.keep K2 (ninS (Nat.ne_of_gt H54) nin0))
  refine own_dastore X18 hx hZ e18 N2' H109 F19 (hb hby d8_13) (n := 1) (by decide) (by decide) (by show 1 < 16; decide) ?_
  intro T20 h20 lo20 X20 e20 N20 W20
  have F21 : own_Ary Z h20 a28 .double [(.double (0 : UInt64)), (.double (4607182418800017408 : UInt64)), (.double (0 : UInt64)), (.double (0 : UInt64)), (.double (0 : UInt64)), (.double (0 : UInt64)), (.double (0 : UInt64)), (.double (0 : UInt64)), (.double (0 : UInt64)), (.double (0 : UInt64)), (.double (0 : UInt64)), (.double (0 : UInt64)), (.double (0 : UInt64)), (.double (0 : UInt64)), (.double (0 : UInt64)), (.double (0 : UInt64))] := F19.set W20
  show own_Go _ _ _ _ _ _ _ T20 (mkF m 14 L17 [])
  refine own_pre (T' := T20) (g' := (mkF m 15 L17 [(.ref a10)])) (fun t k => XS.aloadN X20.here hx rfl (v := (.ref a10)) (hb hby d8_14) (by rw [← hL17]; rfl) rfl k) ?_
  have F22 : Fld Z h20 a10 "com/example/rankline/rankline/Buckets" "ranks" "[D" (.ref a29) := (F4.other W20 (Or.inl (Nat.ne_of_lt H54)))
  refine own_getf X20 hx hZ hown (own_w hw 15 rfl) e20 F22 (hb hby d8_15) ?_
  intro T23 X23 e23
  show own_Go _ _ _ _ _ _ _ T23 (mkF m 18 L17 [(.ref a29)])
  refine own_pre (T' := T23) (g' := (mkF m 20 L17 [(.int (1 : Int32)), (.ref a29)])) (fun t k => XS.iload X23.here hx rfl (v := (1 : Int32)) (hb hby d8_18) (by rw [← hL17]; rfl) k) ?_
  refine own_pre (T' := T23) (g' := (mkF m 22 L17 [(.double f167), (.int (1 : Int32)), (.ref a29)])) (fun t k => XS.dload X23.here hx rfl (v := f167) (hb hby d8_20) (by rw [← hL17]; rfl) k) ?_
  have F24 : own_Ary Z h20 a29 .double [(.double f121), (.double (0 : UInt64)), (.double (0 : UInt64)), (.double (0 : UInt64)), (.double (0 : UInt64)), (.double (0 : UInt64)), (.double (0 : UInt64)), (.double (0 : UInt64)), (.double (0 : UInt64)), (.double (0 : UInt64)), (.double (0 : UInt64)), (.double (0 : UInt64)), (.double (0 : UInt64)), (.double (0 : UInt64)), (.double (0 : UInt64)), (.double (0 : UInt64))] := ((H17.keep K2 (ninS (Nat.ne_of_gt H53) nin0)).other W20 (Nat.ne_of_gt H103))
  refine own_dastore X23 hx hZ e23 N20 H106 F24 (hb hby d8_22) (n := 1) (by decide) (by decide) (by show 1 < 16; decide) ?_
  intro T25 h25 lo25 X25 e25 N25 W25
  have F26 : own_Ary Z h25 a29 .double [(.double f121), (.double f167), (.double (0 : UInt64)), (.double (0 : UInt64)), (.double (0 : UInt64)), (.double (0 : UInt64)), (.double (0 : UInt64)), (.double (0 : UInt64)), (.double (0 : UInt64)), (.double (0 : UInt64)), (.double (0 : UInt64)), (.double (0 : UInt64)), (.double (0 : UInt64)), (.double (0 : UInt64)), (.double (0 : UInt64)), (.double (0 : UInt64))] := F24.set W25
  show own_Go _ _ _ _ _ _ _ T25 (mkF m 23 L17 [])
  refine own_pre (T' := T25) (g' := (mkF m 24 L17 [(.ref a10)])) (fun t k => XS.aloadN X25.here hx rfl (v := (.ref a10)) (hb hby d8_23) (by rw [← hL17]; rfl) rfl k) ?_
  have F27 : Fld Z h25 a10 "com/example/rankline/rankline/Buckets" "guarded" "[Z" (.ref a30) := ((F5.other W20 (Or.inl (Nat.ne_of_lt H54))).other W25 (Or.inl (Nat.ne_of_lt H53)))
  refine own_getf X25 hx hZ hown (own_w hw 18 rfl) e25 F27 (hb hby d8_24) ?_
  intro T28 X28 e28
  show own_Go _ _ _ _ _ _ _ T28 (mkF m 27 L17 [(.ref a30)])
  refine own_pre (T' := T28) (g' := (mkF m 29 L17 [(.int (1 : Int32)), (.ref a30)])) (fun t k => XS.iload X28.here hx rfl (v := (1 : Int32)) (hb hby d8_27) (by rw [← hL17]; rfl) k) ?_
  refine own_pre (T' := T28) (g' := (mkF m 30 L17 [(.int (0 : Int32)), (.int (1 : Int32)), (.ref a30)])) (fun t k => XS.iconst X28.here hx rfl (hb hby d8_29) k) ?_
  have F29 : own_Ary Z h25 a30 .boolean [(.int (0 : Int32)), (.int (0 : Int32)), (.int (0 : Int32)), (.int (0 : Int32)), (.int (0 : Int32)), (.int (0 : Int32)), (.int (0 : Int32)), (.int (0 : Int32)), (.int (0 : Int32)), (.int (0 : Int32)), (.int (0 : Int32)), (.int (0 : Int32)), (.int (0 : Int32)), (.int (0 : Int32)), (.int (0 : Int32)), (.int (0 : Int32))] := (((H16.keep K2 (ninS (Nat.ne_of_gt H52) nin0)).other W20 (Nat.ne_of_gt H99)).other W25 (Nat.ne_of_gt H98))
  refine own_zastore X28 hx hZ e28 N25 H102 F29 (hb hby d8_30) (n := 1) (x' := (0 : Int32)) (by decide) (by decide) (by show 1 < 16; decide) (by decide) ?_
  intro T30 h30 lo30 X30 e30 N30 W30
  have F31 : own_Ary Z h30 a30 .boolean [(.int (0 : Int32)), (.int (0 : Int32)), (.int (0 : Int32)), (.int (0 : Int32)), (.int (0 : Int32)), (.int (0 : Int32)), (.int (0 : Int32)), (.int (0 : Int32)), (.int (0 : Int32)), (.int (0 : Int32)), (.int (0 : Int32)), (.int (0 : Int32)), (.int (0 : Int32)), (.int (0 : Int32)), (.int (0 : Int32)), (.int (0 : Int32))] := F29.set W30
  show own_Go _ _ _ _ _ _ _ T30 (mkF m 31 L17 [])
  refine own_pre (T' := T30) (g' := (mkF m 32 L17 [(.ref a10)])) (fun t k => XS.aloadN X30.here hx rfl (v := (.ref a10)) (hb hby d8_31) (by rw [← hL17]; rfl) rfl k) ?_
  have F32 : Fld Z h30 a10 "com/example/rankline/rankline/Buckets" "extents" "[Lcom/example/rankline/rankline/Extent;" (.ref a31) := (((F6.other W20 (Or.inl (Nat.ne_of_lt H54))).other W25 (Or.inl (Nat.ne_of_lt H53))).other W30 (Or.inl (Nat.ne_of_lt H52)))
  refine own_getf X30 hx hZ hown (own_w hw 22 rfl) e30 F32 (hb hby d8_32) ?_
  intro T33 X33 e33
  show own_Go _ _ _ _ _ _ _ T33 (mkF m 35 L17 [(.ref a31)])
  refine own_pre (T' := T33) (g' := (mkF m 37 L17 [(.int (1 : Int32)), (.ref a31)])) (fun t k => XS.iload X33.here hx rfl (v := (1 : Int32)) (hb hby d8_35) (by rw [← hL17]; rfl) k) ?_
  refine own_pre (T' := T33) (g' := (mkF m 39 L17 [(.ref a11), (.int (1 : Int32)), (.ref a31)])) (fun t k => XS.aload X33.here hx rfl (v := (.ref a11)) (hb hby d8_37) (by rw [← hL17]; rfl) rfl k) ?_
  have F34 : own_Ary Z h30 a31 (.object "com/example/rankline/rankline/Extent") [(.ref a125), .null, .null, .null, .null, .null, .null, .null, .null, .null, .null, .null, .null, .null, .null, .null] := ((((H15.keep K2 (ninS (Nat.ne_of_gt H51) nin0)).other W20 (Nat.ne_of_gt H94)).other W25 (Nat.ne_of_gt H93)).other W30 (Nat.ne_of_gt H92))
  have F36 : Exa Z h30 a11 "com/example/rankline/rankline/Extent" := ((((H40.keep K2).wr W20).wr W25).wr W30)
  have F37 : own_Ovr Z h30 a31 "com/example/rankline/rankline/Extent" := ((((H7.keep K2).wr W20).wr W25).wr W30)
  refine own_aastore X33 hx hZ e33 N30 H97 F34 F37 (Ins.self F36) (hb hby d8_39) (n := 1) (by decide) (by decide) (by show 1 < 16; decide) ?_
  intro T35 h35 lo35 X35 e35 N35 W35
  have F38 : own_Ary Z h35 a31 (.object "com/example/rankline/rankline/Extent") [(.ref a125), (.ref a11), .null, .null, .null, .null, .null, .null, .null, .null, .null, .null, .null, .null, .null, .null] := F34.set W35
  show own_Go _ _ _ _ _ _ _ T35 (mkF m 40 L17 [])
  refine own_pre (T' := T35) (g' := (mkF m 41 L17 [(.ref a10)])) (fun t k => XS.aloadN X35.here hx rfl (v := (.ref a10)) (hb hby d8_40) (by rw [← hL17]; rfl) rfl k) ?_
  have F39 : Fld Z h35 a10 "com/example/rankline/rankline/Buckets" "addedAtThreshold" "[Z" (.ref a32) := ((((F7.other W20 (Or.inl (Nat.ne_of_lt H54))).other W25 (Or.inl (Nat.ne_of_lt H53))).other W30 (Or.inl (Nat.ne_of_lt H52))).other W35 (Or.inl (Nat.ne_of_lt H51)))
  refine own_getf X35 hx hZ hown (own_w hw 24 rfl) e35 F39 (hb hby d8_41) ?_
  intro T40 X40 e40
  show own_Go _ _ _ _ _ _ _ T40 (mkF m 44 L17 [(.ref a32)])
  refine own_pre (T' := T40) (g' := (mkF m 46 L17 [(.int (1 : Int32)), (.ref a32)])) (fun t k => XS.iload X40.here hx rfl (v := (1 : Int32)) (hb hby d8_44) (by rw [← hL17]; rfl) k) ?_
  refine own_pre (T' := T40) (g' := (mkF m 47 L17 [(.int (0 : Int32)), (.int (1 : Int32)), (.ref a32)])) (fun t k => XS.iconst X40.here hx rfl (hb hby d8_46) k) ?_
  have F41 : own_Ary Z h35 a32 .boolean [(.int (0 : Int32)), (.int (0 : Int32)), (.int (0 : Int32)), (.int (0 : Int32)), (.int (0 : Int32)), (.int (0 : Int32)), (.int (0 : Int32)), (.int (0 : Int32)), (.int (0 : Int32)), (.int (0 : Int32)), (.int (0 : Int32)), (.int (0 : Int32)), (.int (0 : Int32)), (.int (0 : Int32)), (.int (0 : Int32)), (.int (0 : Int32))] := (((((H14.keep K2 (ninS (Nat.ne_of_gt H50) nin0)).other W20 (Nat.ne_of_gt H88)).other W25 (Nat.ne_of_gt H87)).other W30 (Nat.ne_of_gt H86)).other W35 (Nat.ne_of_gt H85))
  refine own_zastore X40 hx hZ e40 N35 H91 F41 (hb hby d8_47) (n := 1) (x' := (0 : Int32)) (by decide) (by decide) (by show 1 < 16; decide) (by decide) ?_
  intro T42 h42 lo42 X42 e42 N42 W42
  have F43 : own_Ary Z h42 a32 .boolean [(.int (0 : Int32)), (.int (0 : Int32)), (.int (0 : Int32)), (.int (0 : Int32)), (.int (0 : Int32)), (.int (0 : Int32)), (.int (0 : Int32)), (.int (0 : Int32)), (.int (0 : Int32)), (.int (0 : Int32)), (.int (0 : Int32)), (.int (0 : Int32)), (.int (0 : Int32)), (.int (0 : Int32)), (.int (0 : Int32)), (.int (0 : Int32))] := F41.set W42
  show own_Go _ _ _ _ _ _ _ T42 (mkF m 48 L17 [])
  refine own_pre (T' := T42) (g' := (mkF m 49 L17 [(.ref a10)])) (fun t k => XS.aloadN X42.here hx rfl (v := (.ref a10)) (hb hby d8_48) (by rw [← hL17]; rfl) rfl k) ?_
  have F44 : Fld Z h42 a10 "com/example/rankline/rankline/Buckets" "copies" "[J" (.ref a33) := (((((F8.other W20 (Or.inl (Nat.ne_of_lt H54))).other W25 (Or.inl (Nat.ne_of_lt H53))).other W30 (Or.inl (Nat.ne_of_lt H52))).other W35 (Or.inl (Nat.ne_of_lt H51))).other W42 (Or.inl (Nat.ne_of_lt H50)))
  refine own_getf X42 hx hZ hown (own_w hw 27 rfl) e42 F44 (hb hby d8_49) ?_
  intro T45 X45 e45
  show own_Go _ _ _ _ _ _ _ T45 (mkF m 52 L17 [(.ref a33)])
  refine own_pre (T' := T45) (g' := (mkF m 54 L17 [(.int (1 : Int32)), (.ref a33)])) (fun t k => XS.iload X45.here hx rfl (v := (1 : Int32)) (hb hby d8_52) (by rw [← hL17]; rfl) k) ?_
  refine own_pre (T' := T45) (g' := (mkF m 56 L17 [(.long (0 : Int64)), (.int (1 : Int32)), (.ref a33)])) (fun t k => XT.lload X45.here hx rfl (v := (0 : Int64)) (hb hby d8_54) (by rw [← hL17]; rfl) k) ?_
  have F46 : own_Ary Z h42 a33 .long [(.long (0 : Int64)), (.long (0 : Int64)), (.long (0 : Int64)), (.long (0 : Int64)), (.long (0 : Int64)), (.long (0 : Int64)), (.long (0 : Int64)), (.long (0 : Int64)), (.long (0 : Int64)), (.long (0 : Int64)), (.long (0 : Int64)), (.long (0 : Int64)), (.long (0 : Int64)), (.long (0 : Int64)), (.long (0 : Int64)), (.long (0 : Int64))] := ((((((H13.keep K2 (ninS (Nat.ne_of_gt H49) nin0)).other W20 (Nat.ne_of_gt H81)).other W25 (Nat.ne_of_gt H80)).other W30 (Nat.ne_of_gt H79)).other W35 (Nat.ne_of_gt H78)).other W42 (Nat.ne_of_gt H77))
  refine own_lastore X45 hx hZ e45 N42 H84 F46 (hb hby d8_56) (n := 1) (by decide) (by decide) (by show 1 < 16; decide) ?_
  intro T47 h47 lo47 X47 e47 N47 W47
  have F48 : own_Ary Z h47 a33 .long [(.long (0 : Int64)), (.long (0 : Int64)), (.long (0 : Int64)), (.long (0 : Int64)), (.long (0 : Int64)), (.long (0 : Int64)), (.long (0 : Int64)), (.long (0 : Int64)), (.long (0 : Int64)), (.long (0 : Int64)), (.long (0 : Int64)), (.long (0 : Int64)), (.long (0 : Int64)), (.long (0 : Int64)), (.long (0 : Int64)), (.long (0 : Int64))] := F46.set W47
  show own_Go _ _ _ _ _ _ _ T47 (mkF m 57 L17 [])
  refine own_pre (T' := T47) (g' := (mkF m 58 L17 [(.int (-1 : Int32))])) (fun t k => XS.iloadN X47.here hx rfl (v := (-1 : Int32)) (hb hby d8_57) (by rw [← hL17]; rfl) k) ?_
  refine own_pre (T' := T47) (g' := (mkF m 59 L17 [(.int (-1 : Int32)), (.int (-1 : Int32))])) (fun t k => XS.iconst X47.here hx rfl (hb hby d8_58) k) ?_
  refine own_pre (T' := T47) (g' := (mkF m 62 L17 [])) (fun t k => XS.icmpNo X47.here hx rfl (hb hby d8_59) rfl (by decide) k) ?_
  refine own_pre (T' := T47) (g' := (mkF m 63 L17 [(.ref a10)])) (fun t k => XS.aloadN X47.here hx rfl (v := (.ref a10)) (hb hby d8_62) (by rw [← hL17]; rfl) rfl k) ?_
  have F49 : Fld Z h47 a10 "com/example/rankline/rankline/Buckets" "last" "I" (.int (0 : Int32)) := ((((((F12.other W20 (Or.inl (Nat.ne_of_lt H54))).other W25 (Or.inl (Nat.ne_of_lt H53))).other W30 (Or.inl (Nat.ne_of_lt H52))).other W35 (Or.inl (Nat.ne_of_lt H51))).other W42 (Or.inl (Nat.ne_of_lt H50))).other W47 (Or.inl (Nat.ne_of_lt H49)))
  refine own_getf X47 hx hZ hown (own_w hw 36 rfl) e47 F49 (hb hby d8_63) ?_
  intro T50 X50 e50
  show own_Go _ _ _ _ _ _ _ T50 (mkF m 66 L17 [(.int (0 : Int32))])
  refine own_pre (T' := T50) (g' := (mkF m 75 L17 [(.int (0 : Int32))])) (fun t k => XS.goto X50.here hx rfl (pc0 := 66) (pc' := 75) rfl (hb hby d8_66) (by decide) (by decide) k) ?_
  refine own_pre (T' := T50) (g' := (mkF m 77 #[.val (.ref a10), .val (.int (-1 : Int32)), .val (.double (4607182418800017408 : UInt64)), .second, .val (.double f167), .second, .val (.ref a11), .val (.long (0 : Int64)), .second, .val (.int (1 : Int32)), .val (.int (0 : Int32))] [])) (fun t k => XS.istore X50.here hx rfl (hb hby d8_75) rfl (l' := #[.val (.ref a10), .val (.int (-1 : Int32)), .val (.double (4607182418800017408 : UInt64)), .second, .val (.double f167), .second, .val (.ref a11), .val (.long (0 : Int64)), .second, .val (.int (1 : Int32)), .val (.int (0 : Int32))]) (by rw [← hL17]; rfl) k) ?_
  generalize hL51 : (#[.val (.ref a10), .val (.int (-1 : Int32)), .val (.double (4607182418800017408 : UInt64)), .second, .val (.double f167), .second, .val (.ref a11), .val (.long (0 : Int64)), .second, .val (.int (1 : Int32)), .val (.int (0 : Int32))] : Array Slot) = L51
  refine own_pre (T' := T50) (g' := (mkF m 78 L51 [(.ref a10)])) (fun t k => XS.aloadN X50.here hx rfl (v := (.ref a10)) (hb hby d8_77) (by rw [← hL51]; rfl) rfl k) ?_
  have F52 : Fld Z h47 a10 "com/example/rankline/rankline/Buckets" "nextOf" "[I" (.ref a34) := ((((((F9.other W20 (Or.inl (Nat.ne_of_lt H54))).other W25 (Or.inl (Nat.ne_of_lt H53))).other W30 (Or.inl (Nat.ne_of_lt H52))).other W35 (Or.inl (Nat.ne_of_lt H51))).other W42 (Or.inl (Nat.ne_of_lt H50))).other W47 (Or.inl (Nat.ne_of_lt H49)))
  refine own_getf X50 hx hZ hown (own_w hw 30 rfl) e50 F52 (hb hby d8_78) ?_
  intro T53 X53 e53
  show own_Go _ _ _ _ _ _ _ T53 (mkF m 81 L51 [(.ref a34)])
  refine own_pre (T' := T53) (g' := (mkF m 83 L51 [(.int (1 : Int32)), (.ref a34)])) (fun t k => XS.iload X53.here hx rfl (v := (1 : Int32)) (hb hby d8_81) (by rw [← hL51]; rfl) k) ?_
  refine own_pre (T' := T53) (g' := (mkF m 84 L51 [(.int (-1 : Int32)), (.int (1 : Int32)), (.ref a34)])) (fun t k => XS.iloadN X53.here hx rfl (v := (-1 : Int32)) (hb hby d8_83) (by rw [← hL51]; rfl) k) ?_
  have F54 : own_Ary Z h47 a34 .int [(.int (-1 : Int32)), (.int (0 : Int32)), (.int (0 : Int32)), (.int (0 : Int32)), (.int (0 : Int32)), (.int (0 : Int32)), (.int (0 : Int32)), (.int (0 : Int32)), (.int (0 : Int32)), (.int (0 : Int32)), (.int (0 : Int32)), (.int (0 : Int32)), (.int (0 : Int32)), (.int (0 : Int32)), (.int (0 : Int32)), (.int (0 : Int32))] := (((((((H12.keep K2 (ninS (Nat.ne_of_gt H48) nin0)).other W20 (Nat.ne_of_gt H73)).other W25 (Nat.ne_of_gt H72)).other W30 (Nat.ne_of_gt H71)).other W35 (Nat.ne_of_gt H70)).other W42 (Nat.ne_of_gt H69)).other W47 (Nat.ne_of_gt H68))
  refine own_iastore X53 hx hZ e53 N47 H76 F54 (hb hby d8_84) (n := 1) (by decide) (by decide) (by show 1 < 16; decide) ?_
  intro T55 h55 lo55 X55 e55 N55 W55
  have F56 : own_Ary Z h55 a34 .int [(.int (-1 : Int32)), (.int (-1 : Int32)), (.int (0 : Int32)), (.int (0 : Int32)), (.int (0 : Int32)), (.int (0 : Int32)), (.int (0 : Int32)), (.int (0 : Int32)), (.int (0 : Int32)), (.int (0 : Int32)), (.int (0 : Int32)), (.int (0 : Int32)), (.int (0 : Int32)), (.int (0 : Int32)), (.int (0 : Int32)), (.int (0 : Int32))] := F54.set W55
  show own_Go _ _ _ _ _ _ _ T55 (mkF m 85 L51 [])
  refine own_pre (T' := T55) (g' := (mkF m 86 L51 [(.ref a10)])) (fun t k => XS.aloadN X55.here hx rfl (v := (.ref a10)) (hb hby d8_85) (by rw [← hL51]; rfl) rfl k) ?_
  have F57 : Fld Z h55 a10 "com/example/rankline/rankline/Buckets" "previousOf" "[I" (.ref a35) := (((((((F10.other W20 (Or.inl (Nat.ne_of_lt H54))).other W25 (Or.inl (Nat.ne_of_lt H53))).other W30 (Or.inl (Nat.ne_of_lt H52))).other W35 (Or.inl (Nat.ne_of_lt H51))).other W42 (Or.inl (Nat.ne_of_lt H50))).other W47 (Or.inl (Nat.ne_of_lt H49))).other W55 (Or.inl (Nat.ne_of_lt H48)))
  refine own_getf X55 hx hZ hown (own_w hw 32 rfl) e55 F57 (hb hby d8_86) ?_
  intro T58 X58 e58
  show own_Go _ _ _ _ _ _ _ T58 (mkF m 89 L51 [(.ref a35)])
  refine own_pre (T' := T58) (g' := (mkF m 91 L51 [(.int (1 : Int32)), (.ref a35)])) (fun t k => XS.iload X58.here hx rfl (v := (1 : Int32)) (hb hby d8_89) (by rw [← hL51]; rfl) k) ?_
  refine own_pre (T' := T58) (g' := (mkF m 93 L51 [(.int (0 : Int32)), (.int (1 : Int32)), (.ref a35)])) (fun t k => XS.iload X58.here hx rfl (v := (0 : Int32)) (hb hby d8_91) (by rw [← hL51]; rfl) k) ?_
  have F59 : own_Ary Z h55 a35 .int [(.int (-1 : Int32)), (.int (0 : Int32)), (.int (0 : Int32)), (.int (0 : Int32)), (.int (0 : Int32)), (.int (0 : Int32)), (.int (0 : Int32)), (.int (0 : Int32)), (.int (0 : Int32)), (.int (0 : Int32)), (.int (0 : Int32)), (.int (0 : Int32)), (.int (0 : Int32)), (.int (0 : Int32)), (.int (0 : Int32)), (.int (0 : Int32))] := ((((((((H11.keep K2 (ninS (Nat.ne_of_gt H47) nin0)).other W20 (Nat.ne_of_gt H64)).other W25 (Nat.ne_of_gt H63)).other W30 (Nat.ne_of_gt H62)).other W35 (Nat.ne_of_gt H61)).other W42 (Nat.ne_of_gt H60)).other W47 (Nat.ne_of_gt H59)).other W55 (Nat.ne_of_gt H58))
  refine own_iastore X58 hx hZ e58 N55 H67 F59 (hb hby d8_93) (n := 1) (by decide) (by decide) (by show 1 < 16; decide) ?_
  intro T60 h60 lo60 X60 e60 N60 W60
  have F61 : own_Ary Z h60 a35 .int [(.int (-1 : Int32)), (.int (0 : Int32)), (.int (0 : Int32)), (.int (0 : Int32)), (.int (0 : Int32)), (.int (0 : Int32)), (.int (0 : Int32)), (.int (0 : Int32)), (.int (0 : Int32)), (.int (0 : Int32)), (.int (0 : Int32)), (.int (0 : Int32)), (.int (0 : Int32)), (.int (0 : Int32)), (.int (0 : Int32)), (.int (0 : Int32))] := F59.set W60
  show own_Go _ _ _ _ _ _ _ T60 (mkF m 94 L51 [])
  refine own_pre (T' := T60) (g' := (mkF m 96 L51 [(.int (0 : Int32))])) (fun t k => XS.iload X60.here hx rfl (v := (0 : Int32)) (hb hby d8_94) (by rw [← hL51]; rfl) k) ?_
  refine own_pre (T' := T60) (g' := (mkF m 97 L51 [(.int (-1 : Int32)), (.int (0 : Int32))])) (fun t k => XS.iconst X60.here hx rfl (hb hby d8_96) k) ?_
  refine own_pre (T' := T60) (g' := (mkF m 109 L51 [])) (fun t k => XS.icmpYes X60.here hx rfl (pc0 := 97) (pc' := 109) rfl (hb hby d8_97) rfl (by decide) (by decide) (by decide) k) ?_
  refine own_pre (T' := T60) (g' := (mkF m 110 L51 [(.ref a10)])) (fun t k => XS.aloadN X60.here hx rfl (v := (.ref a10)) (hb hby d8_109) (by rw [← hL51]; rfl) rfl k) ?_
  have F62 : Fld Z h60 a10 "com/example/rankline/rankline/Buckets" "nextOf" "[I" (.ref a34) := ((F52.other W55 (Or.inl (Nat.ne_of_lt H48))).other W60 (Or.inl (Nat.ne_of_lt H47)))
  refine own_getf X60 hx hZ hown (own_w hw 30 rfl) e60 F62 (hb hby d8_110) ?_
  intro T63 X63 e63
  show own_Go _ _ _ _ _ _ _ T63 (mkF m 113 L51 [(.ref a34)])
  refine own_pre (T' := T63) (g' := (mkF m 115 L51 [(.int (0 : Int32)), (.ref a34)])) (fun t k => XS.iload X63.here hx rfl (v := (0 : Int32)) (hb hby d8_113) (by rw [← hL51]; rfl) k) ?_
  refine own_pre (T' := T63) (g' := (mkF m 117 L51 [(.int (1 : Int32)), (.int (0 : Int32)), (.ref a34)])) (fun t k => XS.iload X63.here hx rfl (v := (1 : Int32)) (hb hby d8_115) (by rw [← hL51]; rfl) k) ?_
  have F64 : own_Ary Z h60 a34 .int [(.int (-1 : Int32)), (.int (-1 : Int32)), (.int (0 : Int32)), (.int (0 : Int32)), (.int (0 : Int32)), (.int (0 : Int32)), (.int (0 : Int32)), (.int (0 : Int32)), (.int (0 : Int32)), (.int (0 : Int32)), (.int (0 : Int32)), (.int (0 : Int32)), (.int (0 : Int32)), (.int (0 : Int32)), (.int (0 : Int32)), (.int (0 : Int32))] := (F56.other W60 (Nat.ne_of_lt H58))
  refine own_iastore X63 hx hZ e63 N60 H76 F64 (hb hby d8_117) (n := 0) (by decide) (by decide) (by show 0 < 16; decide) ?_
  intro T65 h65 lo65 X65 e65 N65 W65
  have F66 : own_Ary Z h65 a34 .int [(.int (1 : Int32)), (.int (-1 : Int32)), (.int (0 : Int32)), (.int (0 : Int32)), (.int (0 : Int32)), (.int (0 : Int32)), (.int (0 : Int32)), (.int (0 : Int32)), (.int (0 : Int32)), (.int (0 : Int32)), (.int (0 : Int32)), (.int (0 : Int32)), (.int (0 : Int32)), (.int (0 : Int32)), (.int (0 : Int32)), (.int (0 : Int32))] := F64.set W65
  show own_Go _ _ _ _ _ _ _ T65 (mkF m 118 L51 [])
  refine own_pre (T' := T65) (g' := (mkF m 119 L51 [(.int (-1 : Int32))])) (fun t k => XS.iloadN X65.here hx rfl (v := (-1 : Int32)) (hb hby d8_118) (by rw [← hL51]; rfl) k) ?_
  refine own_pre (T' := T65) (g' := (mkF m 120 L51 [(.int (-1 : Int32)), (.int (-1 : Int32))])) (fun t k => XS.iconst X65.here hx rfl (hb hby d8_119) k) ?_
  refine own_pre (T' := T65) (g' := (mkF m 123 L51 [])) (fun t k => XS.icmpNo X65.here hx rfl (hb hby d8_120) rfl (by decide) k) ?_
  refine own_pre (T' := T65) (g' := (mkF m 124 L51 [(.ref a10)])) (fun t k => XS.aloadN X65.here hx rfl (v := (.ref a10)) (hb hby d8_123) (by rw [← hL51]; rfl) rfl k) ?_
  refine own_pre (T' := T65) (g' := (mkF m 126 L51 [(.int (1 : Int32)), (.ref a10)])) (fun t k => XS.iload X65.here hx rfl (v := (1 : Int32)) (hb hby d8_124) (by rw [← hL51]; rfl) k) ?_
  have F67 : Fld Z h65 a10 "com/example/rankline/rankline/Buckets" "last" "I" (.int (0 : Int32)) := (((F49.other W55 (Or.inl (Nat.ne_of_lt H48))).other W60 (Or.inl (Nat.ne_of_lt H47))).other W65 (Or.inl (Nat.ne_of_lt H48)))
  have F68 : Exa Z h65 a10 "com/example/rankline/rankline/Buckets" := ((((((((((H1.keep K2).wr W20).wr W25).wr W30).wr W35).wr W42).wr W47).wr W55).wr W60).wr W65)
  refine own_putf X65 hx hZ hown (own_w hw 36 rfl) e65 N65 H57 F67 F68 (Or.inl (own_w hw 37 rfl)) (own_w hw 4 rfl) (ty := .int) (by decide) rfl rfl (hb hby d8_126) ?_
  intro T69 h69 lo69 X69 e69 N69 W69
  have F70 : Fld Z h69 a10 "com/example/rankline/rankline/Buckets" "last" "I" (.int (1 : Int32)) := F67.same W69
  show own_Go _ _ _ _ _ _ _ T69 (mkF m 129 L51 [])
  refine own_pre (T' := T69) (g' := (mkF m 140 L51 [])) (fun t k => XS.goto X69.here hx rfl (pc0 := 129) (pc' := 140) rfl (hb hby d8_129) (by decide) (by decide) k) ?_
  refine own_pre (T' := T69) (g' := (mkF m 141 L51 [(.ref a10)])) (fun t k => XS.aloadN X69.here hx rfl (v := (.ref a10)) (hb hby d8_140) (by rw [← hL51]; rfl) rfl k) ?_
  refine own_pre (T' := T69) (g' := (mkF m 142 L51 [(.ref a10), (.ref a10)])) (fun t k => XS.dup X69.here hx rfl (hb hby d8_141) rfl rfl k) ?_
  have F71 : Fld Z h69 a10 "com/example/rankline/rankline/Buckets" "size" "I" (.int (1 : Int32)) := ((((((((((F15.other W20 (Or.inl (Nat.ne_of_lt H54))).other W25 (Or.inl (Nat.ne_of_lt H53))).other W30 (Or.inl (Nat.ne_of_lt H52))).other W35 (Or.inl (Nat.ne_of_lt H51))).other W42 (Or.inl (Nat.ne_of_lt H50))).other W47 (Or.inl (Nat.ne_of_lt H49))).other W55 (Or.inl (Nat.ne_of_lt H48))).other W60 (Or.inl (Nat.ne_of_lt H47))).other W65 (Or.inl (Nat.ne_of_lt H48))).other W69 (Or.inr (slot_ne (C := "com/example/rankline/rankline/Buckets") (Or.inl (own_w hw 50 rfl)) (Or.inl (own_w hw 37 rfl)) (by decide) (t := .int) (t' := .int) (by decide) (by decide))))
  refine own_getf X69 hx hZ hown (own_w hw 49 rfl) e69 F71 (hb hby d8_142) ?_
  intro T72 X72 e72
  show own_Go _ _ _ _ _ _ _ T72 (mkF m 145 L51 [(.int (1 : Int32)), (.ref a10)])
  refine own_pre (T' := T72) (g' := (mkF m 146 L51 [(.int (1 : Int32)), (.int (1 : Int32)), (.ref a10)])) (fun t k => XS.iconst X72.here hx rfl (hb hby d8_145) k) ?_
  refine own_pre (T' := T72) (g' := (mkF m 147 L51 [(.int (2 : Int32)), (.ref a10)])) (fun t k => XS.iadd X72.here hx rfl (hb hby d8_146) rfl k) ?_
  have F73 : Exa Z h69 a10 "com/example/rankline/rankline/Buckets" := (F68.wr W69)
  refine own_putf X72 hx hZ hown (own_w hw 49 rfl) e72 N69 H57 F71 F73 (Or.inl (own_w hw 50 rfl)) (own_w hw 4 rfl) (ty := .int) (by decide) rfl rfl (hb hby d8_147) ?_
  intro T74 h74 lo74 X74 e74 N74 W74
  have F75 : Fld Z h74 a10 "com/example/rankline/rankline/Buckets" "size" "I" (.int (2 : Int32)) := F71.same W74
  show own_Go _ _ _ _ _ _ _ T74 (mkF m 150 L51 [])
  refine own_pre (T' := T74) (g' := (mkF m 152 L51 [(.int (1 : Int32))])) (fun t k => XS.iload X74.here hx rfl (v := (1 : Int32)) (hb hby d8_150) (by rw [← hL51]; rfl) k) ?_
  have F76 : own_Ary Z h74 a35 .int [(.int (-1 : Int32)), (.int (0 : Int32)), (.int (0 : Int32)), (.int (0 : Int32)), (.int (0 : Int32)), (.int (0 : Int32)), (.int (0 : Int32)), (.int (0 : Int32)), (.int (0 : Int32)), (.int (0 : Int32)), (.int (0 : Int32)), (.int (0 : Int32)), (.int (0 : Int32)), (.int (0 : Int32)), (.int (0 : Int32)), (.int (0 : Int32))] := (((F61.other W65 (Nat.ne_of_gt H58)).other W69 (Nat.ne_of_gt H47)).other W74 (Nat.ne_of_gt H47))
  have F77 : own_Ary Z h74 a34 .int [(.int (1 : Int32)), (.int (-1 : Int32)), (.int (0 : Int32)), (.int (0 : Int32)), (.int (0 : Int32)), (.int (0 : Int32)), (.int (0 : Int32)), (.int (0 : Int32)), (.int (0 : Int32)), (.int (0 : Int32)), (.int (0 : Int32)), (.int (0 : Int32)), (.int (0 : Int32)), (.int (0 : Int32)), (.int (0 : Int32)), (.int (0 : Int32))] := ((F66.other W69 (Nat.ne_of_gt H48)).other W74 (Nat.ne_of_gt H48))
  have F78 : own_Ary Z h74 a33 .long [(.long (0 : Int64)), (.long (0 : Int64)), (.long (0 : Int64)), (.long (0 : Int64)), (.long (0 : Int64)), (.long (0 : Int64)), (.long (0 : Int64)), (.long (0 : Int64)), (.long (0 : Int64)), (.long (0 : Int64)), (.long (0 : Int64)), (.long (0 : Int64)), (.long (0 : Int64)), (.long (0 : Int64)), (.long (0 : Int64)), (.long (0 : Int64))] := (((((F48.other W55 (Nat.ne_of_lt H68)).other W60 (Nat.ne_of_lt H59)).other W65 (Nat.ne_of_lt H68)).other W69 (Nat.ne_of_gt H49)).other W74 (Nat.ne_of_gt H49))
  have F79 : own_Ary Z h74 a32 .boolean [(.int (0 : Int32)), (.int (0 : Int32)), (.int (0 : Int32)), (.int (0 : Int32)), (.int (0 : Int32)), (.int (0 : Int32)), (.int (0 : Int32)), (.int (0 : Int32)), (.int (0 : Int32)), (.int (0 : Int32)), (.int (0 : Int32)), (.int (0 : Int32)), (.int (0 : Int32)), (.int (0 : Int32)), (.int (0 : Int32)), (.int (0 : Int32))] := ((((((F43.other W47 (Nat.ne_of_lt H77)).other W55 (Nat.ne_of_lt H69)).other W60 (Nat.ne_of_lt H60)).other W65 (Nat.ne_of_lt H69)).other W69 (Nat.ne_of_gt H50)).other W74 (Nat.ne_of_gt H50))
  have F80 : own_Ary Z h74 a31 (.object "com/example/rankline/rankline/Extent") [(.ref a125), (.ref a11), .null, .null, .null, .null, .null, .null, .null, .null, .null, .null, .null, .null, .null, .null] := (((((((F38.other W42 (Nat.ne_of_lt H85)).other W47 (Nat.ne_of_lt H78)).other W55 (Nat.ne_of_lt H70)).other W60 (Nat.ne_of_lt H61)).other W65 (Nat.ne_of_lt H70)).other W69 (Nat.ne_of_gt H51)).other W74 (Nat.ne_of_gt H51))
  have F81 : own_Ary Z h74 a30 .boolean [(.int (0 : Int32)), (.int (0 : Int32)), (.int (0 : Int32)), (.int (0 : Int32)), (.int (0 : Int32)), (.int (0 : Int32)), (.int (0 : Int32)), (.int (0 : Int32)), (.int (0 : Int32)), (.int (0 : Int32)), (.int (0 : Int32)), (.int (0 : Int32)), (.int (0 : Int32)), (.int (0 : Int32)), (.int (0 : Int32)), (.int (0 : Int32))] := ((((((((F31.other W35 (Nat.ne_of_lt H92)).other W42 (Nat.ne_of_lt H86)).other W47 (Nat.ne_of_lt H79)).other W55 (Nat.ne_of_lt H71)).other W60 (Nat.ne_of_lt H62)).other W65 (Nat.ne_of_lt H71)).other W69 (Nat.ne_of_gt H52)).other W74 (Nat.ne_of_gt H52))
  have F82 : own_Ary Z h74 a29 .double [(.double f121), (.double f167), (.double (0 : UInt64)), (.double (0 : UInt64)), (.double (0 : UInt64)), (.double (0 : UInt64)), (.double (0 : UInt64)), (.double (0 : UInt64)), (.double (0 : UInt64)), (.double (0 : UInt64)), (.double (0 : UInt64)), (.double (0 : UInt64)), (.double (0 : UInt64)), (.double (0 : UInt64)), (.double (0 : UInt64)), (.double (0 : UInt64))] := (((((((((F26.other W30 (Nat.ne_of_lt H98)).other W35 (Nat.ne_of_lt H93)).other W42 (Nat.ne_of_lt H87)).other W47 (Nat.ne_of_lt H80)).other W55 (Nat.ne_of_lt H72)).other W60 (Nat.ne_of_lt H63)).other W65 (Nat.ne_of_lt H72)).other W69 (Nat.ne_of_gt H53)).other W74 (Nat.ne_of_gt H53))
  have F83 : own_Ary Z h74 a28 .double [(.double (0 : UInt64)), (.double (4607182418800017408 : UInt64)), (.double (0 : UInt64)), (.double (0 : UInt64)), (.double (0 : UInt64)), (.double (0 : UInt64)), (.double (0 : UInt64)), (.double (0 : UInt64)), (.double (0 : UInt64)), (.double (0 : UInt64)), (.double (0 : UInt64)), (.double (0 : UInt64)), (.double (0 : UInt64)), (.double (0 : UInt64)), (.double (0 : UInt64)), (.double (0 : UInt64))] := ((((((((((F21.other W25 (Nat.ne_of_lt H103)).other W30 (Nat.ne_of_lt H99)).other W35 (Nat.ne_of_lt H94)).other W42 (Nat.ne_of_lt H88)).other W47 (Nat.ne_of_lt H81)).other W55 (Nat.ne_of_lt H73)).other W60 (Nat.ne_of_lt H64)).other W65 (Nat.ne_of_lt H73)).other W69 (Nat.ne_of_gt H54)).other W74 (Nat.ne_of_gt H54))
  have F84 : Fld Z h74 a10 "com/example/rankline/rankline/Buckets" "thresholds" "[D" (.ref a28) := (((((((((((F3.other W20 (Or.inl (Nat.ne_of_lt H54))).other W25 (Or.inl (Nat.ne_of_lt H53))).other W30 (Or.inl (Nat.ne_of_lt H52))).other W35 (Or.inl (Nat.ne_of_lt H51))).other W42 (Or.inl (Nat.ne_of_lt H50))).other W47 (Or.inl (Nat.ne_of_lt H49))).other W55 (Or.inl (Nat.ne_of_lt H48))).other W60 (Or.inl (Nat.ne_of_lt H47))).other W65 (Or.inl (Nat.ne_of_lt H48))).other W69 (Or.inr (slot_ne (C := "com/example/rankline/rankline/Buckets") (Or.inl (own_w hw 14 rfl)) (Or.inl (own_w hw 37 rfl)) (by decide) (t := (.array .double)) (t' := .int) (by decide) (by decide)))).other W74 (Or.inr (slot_ne (C := "com/example/rankline/rankline/Buckets") (Or.inl (own_w hw 14 rfl)) (Or.inl (own_w hw 50 rfl)) (by decide) (t := (.array .double)) (t' := .int) (by decide) (by decide))))
  have F85 : Fld Z h74 a10 "com/example/rankline/rankline/Buckets" "ranks" "[D" (.ref a29) := ((((((((((F22.other W25 (Or.inl (Nat.ne_of_lt H53))).other W30 (Or.inl (Nat.ne_of_lt H52))).other W35 (Or.inl (Nat.ne_of_lt H51))).other W42 (Or.inl (Nat.ne_of_lt H50))).other W47 (Or.inl (Nat.ne_of_lt H49))).other W55 (Or.inl (Nat.ne_of_lt H48))).other W60 (Or.inl (Nat.ne_of_lt H47))).other W65 (Or.inl (Nat.ne_of_lt H48))).other W69 (Or.inr (slot_ne (C := "com/example/rankline/rankline/Buckets") (Or.inl (own_w hw 16 rfl)) (Or.inl (own_w hw 37 rfl)) (by decide) (t := (.array .double)) (t' := .int) (by decide) (by decide)))).other W74 (Or.inr (slot_ne (C := "com/example/rankline/rankline/Buckets") (Or.inl (own_w hw 16 rfl)) (Or.inl (own_w hw 50 rfl)) (by decide) (t := (.array .double)) (t' := .int) (by decide) (by decide))))
  have F86 : Fld Z h74 a10 "com/example/rankline/rankline/Buckets" "guarded" "[Z" (.ref a30) := (((((((((F27.other W30 (Or.inl (Nat.ne_of_lt H52))).other W35 (Or.inl (Nat.ne_of_lt H51))).other W42 (Or.inl (Nat.ne_of_lt H50))).other W47 (Or.inl (Nat.ne_of_lt H49))).other W55 (Or.inl (Nat.ne_of_lt H48))).other W60 (Or.inl (Nat.ne_of_lt H47))).other W65 (Or.inl (Nat.ne_of_lt H48))).other W69 (Or.inr (slot_ne (C := "com/example/rankline/rankline/Buckets") (Or.inl (own_w hw 19 rfl)) (Or.inl (own_w hw 37 rfl)) (by decide) (t := (.array .boolean)) (t' := .int) (by decide) (by decide)))).other W74 (Or.inr (slot_ne (C := "com/example/rankline/rankline/Buckets") (Or.inl (own_w hw 19 rfl)) (Or.inl (own_w hw 50 rfl)) (by decide) (t := (.array .boolean)) (t' := .int) (by decide) (by decide))))
  have F87 : Fld Z h74 a10 "com/example/rankline/rankline/Buckets" "extents" "[Lcom/example/rankline/rankline/Extent;" (.ref a31) := ((((((((F32.other W35 (Or.inl (Nat.ne_of_lt H51))).other W42 (Or.inl (Nat.ne_of_lt H50))).other W47 (Or.inl (Nat.ne_of_lt H49))).other W55 (Or.inl (Nat.ne_of_lt H48))).other W60 (Or.inl (Nat.ne_of_lt H47))).other W65 (Or.inl (Nat.ne_of_lt H48))).other W69 (Or.inr (slot_ne (C := "com/example/rankline/rankline/Buckets") (Or.inl (own_w hw 23 rfl)) (Or.inl (own_w hw 37 rfl)) (by decide) (t := (.array (.object "com/example/rankline/rankline/Extent"))) (t' := .int) (by decide) (by decide)))).other W74 (Or.inr (slot_ne (C := "com/example/rankline/rankline/Buckets") (Or.inl (own_w hw 23 rfl)) (Or.inl (own_w hw 50 rfl)) (by decide) (t := (.array (.object "com/example/rankline/rankline/Extent"))) (t' := .int) (by decide) (by decide))))
  have F88 : Fld Z h74 a10 "com/example/rankline/rankline/Buckets" "addedAtThreshold" "[Z" (.ref a32) := (((((((F39.other W42 (Or.inl (Nat.ne_of_lt H50))).other W47 (Or.inl (Nat.ne_of_lt H49))).other W55 (Or.inl (Nat.ne_of_lt H48))).other W60 (Or.inl (Nat.ne_of_lt H47))).other W65 (Or.inl (Nat.ne_of_lt H48))).other W69 (Or.inr (slot_ne (C := "com/example/rankline/rankline/Buckets") (Or.inl (own_w hw 25 rfl)) (Or.inl (own_w hw 37 rfl)) (by decide) (t := (.array .boolean)) (t' := .int) (by decide) (by decide)))).other W74 (Or.inr (slot_ne (C := "com/example/rankline/rankline/Buckets") (Or.inl (own_w hw 25 rfl)) (Or.inl (own_w hw 50 rfl)) (by decide) (t := (.array .boolean)) (t' := .int) (by decide) (by decide))))
  have F89 : Fld Z h74 a10 "com/example/rankline/rankline/Buckets" "copies" "[J" (.ref a33) := ((((((F44.other W47 (Or.inl (Nat.ne_of_lt H49))).other W55 (Or.inl (Nat.ne_of_lt H48))).other W60 (Or.inl (Nat.ne_of_lt H47))).other W65 (Or.inl (Nat.ne_of_lt H48))).other W69 (Or.inr (slot_ne (C := "com/example/rankline/rankline/Buckets") (Or.inl (own_w hw 28 rfl)) (Or.inl (own_w hw 37 rfl)) (by decide) (t := (.array .long)) (t' := .int) (by decide) (by decide)))).other W74 (Or.inr (slot_ne (C := "com/example/rankline/rankline/Buckets") (Or.inl (own_w hw 28 rfl)) (Or.inl (own_w hw 50 rfl)) (by decide) (t := (.array .long)) (t' := .int) (by decide) (by decide))))
  have F90 : Fld Z h74 a10 "com/example/rankline/rankline/Buckets" "nextOf" "[I" (.ref a34) := (((F62.other W65 (Or.inl (Nat.ne_of_lt H48))).other W69 (Or.inr (slot_ne (C := "com/example/rankline/rankline/Buckets") (Or.inl (own_w hw 31 rfl)) (Or.inl (own_w hw 37 rfl)) (by decide) (t := (.array .int)) (t' := .int) (by decide) (by decide)))).other W74 (Or.inr (slot_ne (C := "com/example/rankline/rankline/Buckets") (Or.inl (own_w hw 31 rfl)) (Or.inl (own_w hw 50 rfl)) (by decide) (t := (.array .int)) (t' := .int) (by decide) (by decide))))
  have F91 : Fld Z h74 a10 "com/example/rankline/rankline/Buckets" "previousOf" "[I" (.ref a35) := ((((F57.other W60 (Or.inl (Nat.ne_of_lt H47))).other W65 (Or.inl (Nat.ne_of_lt H48))).other W69 (Or.inr (slot_ne (C := "com/example/rankline/rankline/Buckets") (Or.inl (own_w hw 33 rfl)) (Or.inl (own_w hw 37 rfl)) (by decide) (t := (.array .int)) (t' := .int) (by decide) (by decide)))).other W74 (Or.inr (slot_ne (C := "com/example/rankline/rankline/Buckets") (Or.inl (own_w hw 33 rfl)) (Or.inl (own_w hw 50 rfl)) (by decide) (t := (.array .int)) (t' := .int) (by decide) (by decide))))
  have F92 : Fld Z h74 a10 "com/example/rankline/rankline/Buckets" "first" "I" (.int (0 : Int32)) := (((((((((((F11.other W20 (Or.inl (Nat.ne_of_lt H54))).other W25 (Or.inl (Nat.ne_of_lt H53))).other W30 (Or.inl (Nat.ne_of_lt H52))).other W35 (Or.inl (Nat.ne_of_lt H51))).other W42 (Or.inl (Nat.ne_of_lt H50))).other W47 (Or.inl (Nat.ne_of_lt H49))).other W55 (Or.inl (Nat.ne_of_lt H48))).other W60 (Or.inl (Nat.ne_of_lt H47))).other W65 (Or.inl (Nat.ne_of_lt H48))).other W69 (Or.inr (slot_ne (C := "com/example/rankline/rankline/Buckets") (Or.inl (own_w hw 35 rfl)) (Or.inl (own_w hw 37 rfl)) (by decide) (t := .int) (t' := .int) (by decide) (by decide)))).other W74 (Or.inr (slot_ne (C := "com/example/rankline/rankline/Buckets") (Or.inl (own_w hw 35 rfl)) (Or.inl (own_w hw 50 rfl)) (by decide) (t := .int) (t' := .int) (by decide) (by decide))))
  have F93 : Fld Z h74 a10 "com/example/rankline/rankline/Buckets" "last" "I" (.int (1 : Int32)) := (F70.other W74 (Or.inr (slot_ne (C := "com/example/rankline/rankline/Buckets") (Or.inl (own_w hw 37 rfl)) (Or.inl (own_w hw 50 rfl)) (by decide) (t := .int) (t' := .int) (by decide) (by decide))))
  have F94 : Fld Z h74 a10 "com/example/rankline/rankline/Buckets" "free" "I" (.int (-1 : Int32)) := (((((((((((F13.other W20 (Or.inl (Nat.ne_of_lt H54))).other W25 (Or.inl (Nat.ne_of_lt H53))).other W30 (Or.inl (Nat.ne_of_lt H52))).other W35 (Or.inl (Nat.ne_of_lt H51))).other W42 (Or.inl (Nat.ne_of_lt H50))).other W47 (Or.inl (Nat.ne_of_lt H49))).other W55 (Or.inl (Nat.ne_of_lt H48))).other W60 (Or.inl (Nat.ne_of_lt H47))).other W65 (Or.inl (Nat.ne_of_lt H48))).other W69 (Or.inr (slot_ne (C := "com/example/rankline/rankline/Buckets") (Or.inl (own_w hw 39 rfl)) (Or.inl (own_w hw 37 rfl)) (by decide) (t := .int) (t' := .int) (by decide) (by decide)))).other W74 (Or.inr (slot_ne (C := "com/example/rankline/rankline/Buckets") (Or.inl (own_w hw 39 rfl)) (Or.inl (own_w hw 50 rfl)) (by decide) (t := .int) (t' := .int) (by decide) (by decide))))
  have F95 : Fld Z h74 a10 "com/example/rankline/rankline/Buckets" "smallestMagnitude" "D" (.double (9218868437227405312 : UInt64)) := (((((((((((F14.other W20 (Or.inl (Nat.ne_of_lt H54))).other W25 (Or.inl (Nat.ne_of_lt H53))).other W30 (Or.inl (Nat.ne_of_lt H52))).other W35 (Or.inl (Nat.ne_of_lt H51))).other W42 (Or.inl (Nat.ne_of_lt H50))).other W47 (Or.inl (Nat.ne_of_lt H49))).other W55 (Or.inl (Nat.ne_of_lt H48))).other W60 (Or.inl (Nat.ne_of_lt H47))).other W65 (Or.inl (Nat.ne_of_lt H48))).other W69 (Or.inr (slot_ne (C := "com/example/rankline/rankline/Buckets") (Or.inl (own_w hw 42 rfl)) (Or.inl (own_w hw 37 rfl)) (by decide) (t := .double) (t' := .int) (by decide) (by decide)))).other W74 (Or.inr (slot_ne (C := "com/example/rankline/rankline/Buckets") (Or.inl (own_w hw 42 rfl)) (Or.inl (own_w hw 50 rfl)) (by decide) (t := .double) (t' := .int) (by decide) (by decide))))
  have F96 : Fld Z h74 a10 "com/example/rankline/rankline/Buckets" "used" "I" (.int (2 : Int32)) := (((((((((((F16.other W20 (Or.inl (Nat.ne_of_lt H54))).other W25 (Or.inl (Nat.ne_of_lt H53))).other W30 (Or.inl (Nat.ne_of_lt H52))).other W35 (Or.inl (Nat.ne_of_lt H51))).other W42 (Or.inl (Nat.ne_of_lt H50))).other W47 (Or.inl (Nat.ne_of_lt H49))).other W55 (Or.inl (Nat.ne_of_lt H48))).other W60 (Or.inl (Nat.ne_of_lt H47))).other W65 (Or.inl (Nat.ne_of_lt H48))).other W69 (Or.inr (slot_ne (C := "com/example/rankline/rankline/Buckets") (Or.inl (own_w hw 92 rfl)) (Or.inl (own_w hw 37 rfl)) (by decide) (t := .int) (t' := .int) (by decide) (by decide)))).other W74 (Or.inr (slot_ne (C := "com/example/rankline/rankline/Buckets") (Or.inl (own_w hw 92 rfl)) (Or.inl (own_w hw 50 rfl)) (by decide) (t := .int) (t' := .int) (by decide) (by decide))))
  exact own_retI X74 hx hlk hret (hb hby d8_152) e74 ⟨rfl, N74, (((((((((((((Keep.refl _ _).trans K2 (allS (Or.inl (by simp)) all0)).wr W20 (Or.inl (by simp))).wr W25 (Or.inl (by simp))).wr W30 (Or.inl (by simp))).wr W35 (Or.inl (by simp))).wr W42 (Or.inl (by simp))).wr W47 (Or.inl (by simp))).wr W55 (Or.inl (by simp))).wr W60 (Or.inl (by simp))).wr W65 (Or.inl (by simp))).wr W69 (Or.inl (by simp))).wr W74 (Or.inl (by simp))), F76, F77, F78, F79, F80, F81, F82, F83, F84, F85, F86, F87, F88, F89, F90, F91, F92, F93, F94, F95, F75, F96⟩ (by decide) (by decide)
def own_s16_Q (Z : State) (a10 : Addr) (f167 : UInt64) (a11 : Addr) (a35 : Addr) (a34 : Addr) (a33 : Addr) (a32 : Addr) (a31 : Addr) (a30 : Addr) (a29 : Addr) (a28 : Addr) (a125 : Addr) (f121 : UInt64) (v2 : Int32) (h0 : Heap) (n0 : Nat) (v_ : Option Value) (h_ : Heap) (L_ : List Loc) : Prop := (fun v h L => v = none ∧ Fr n0 L ∧ Keep h0 h [a10, a28, a29, a30, a31, a32, a33, a34, a35] ∧ own_Ary Z h a35 .int [(.int (-1 : Int32)), (.int (0 : Int32)), (.int (0 : Int32)), (.int (0 : Int32)), (.int (0 : Int32)), (.int (0 : Int32)), (.int (0 : Int32)), (.int (0 : Int32)), (.int (0 : Int32)), (.int (0 : Int32)), (.int (0 : Int32)), (.int (0 : Int32)), (.int (0 : Int32)), (.int (0 : Int32)), (.int (0 : Int32)), (.int (0 : Int32))] ∧ own_Ary Z h a34 .int [(.int (1 : Int32)), (.int (-1 : Int32)), (.int (0 : Int32)), (.int (0 : Int32)), (.int (0 : Int32)), (.int (0 : Int32)), (.int (0 : Int32)), (.int (0 : Int32)), (.int (0 : Int32)), (.int (0 : Int32)), (.int (0 : Int32)), (.int (0 : Int32)), (.int (0 : Int32)), (.int (0 : Int32)), (.int (0 : Int32)), (.int (0 : Int32))] ∧ own_Ary Z h a33 .long [(.long (0 : Int64)), (.long (0 : Int64)), (.long (0 : Int64)), (.long (0 : Int64)), (.long (0 : Int64)), (.long (0 : Int64)), (.long (0 : Int64)), (.long (0 : Int64)), (.long (0 : Int64)), (.long (0 : Int64)), (.long (0 : Int64)), (.long (0 : Int64)), (.long (0 : Int64)), (.long (0 : Int64)), (.long (0 : Int64)), (.long (0 : Int64))] ∧ own_Ary Z h a32 .boolean [(.int (0 : Int32)), (.int (0 : Int32)), (.int (0 : Int32)), (.int (0 : Int32)), (.int (0 : Int32)), (.int (0 : Int32)), (.int (0 : Int32)), (.int (0 : Int32)), (.int (0 : Int32)), (.int (0 : Int32)), (.int (0 : Int32)), (.int (0 : Int32)), (.int (0 : Int32)), (.int (0 : Int32)), (.int (0 : Int32)), (.int (0 : Int32))] ∧ own_Ary Z h a31 (.object "com/example/rankline/rankline/Extent") [(.ref a125), (.ref a11), .null, .null, .null, .null, .null, .null, .null, .null, .null, .null, .null, .null, .null, .null] ∧ own_Ary Z h a30 .boolean [(.int (0 : Int32)), (.int (0 : Int32)), (.int (0 : Int32)), (.int (0 : Int32)), (.int (0 : Int32)), (.int (0 : Int32)), (.int (0 : Int32)), (.int (0 : Int32)), (.int (0 : Int32)), (.int (0 : Int32)), (.int (0 : Int32)), (.int (0 : Int32)), (.int (0 : Int32)), (.int (0 : Int32)), (.int (0 : Int32)), (.int (0 : Int32))] ∧ own_Ary Z h a29 .double [(.double f121), (.double f167), (.double (0 : UInt64)), (.double (0 : UInt64)), (.double (0 : UInt64)), (.double (0 : UInt64)), (.double (0 : UInt64)), (.double (0 : UInt64)), (.double (0 : UInt64)), (.double (0 : UInt64)), (.double (0 : UInt64)), (.double (0 : UInt64)), (.double (0 : UInt64)), (.double (0 : UInt64)), (.double (0 : UInt64)), (.double (0 : UInt64))] ∧ own_Ary Z h a28 .double [(.double (0 : UInt64)), (.double (4607182418800017408 : UInt64)), (.double (0 : UInt64)), (.double (0 : UInt64)), (.double (0 : UInt64)), (.double (0 : UInt64)), (.double (0 : UInt64)), (.double (0 : UInt64)), (.double (0 : UInt64)), (.double (0 : UInt64)), (.double (0 : UInt64)), (.double (0 : UInt64)), (.double (0 : UInt64)), (.double (0 : UInt64)), (.double (0 : UInt64)), (.double (0 : UInt64))] ∧ Fld Z h a10 "com/example/rankline/rankline/Buckets" "thresholds" "[D" (.ref a28) ∧ Fld Z h a10 "com/example/rankline/rankline/Buckets" "ranks" "[D" (.ref a29) ∧ Fld Z h a10 "com/example/rankline/rankline/Buckets" "guarded" "[Z" (.ref a30) ∧ Fld Z h a10 "com/example/rankline/rankline/Buckets" "extents" "[Lcom/example/rankline/rankline/Extent;" (.ref a31) ∧ Fld Z h a10 "com/example/rankline/rankline/Buckets" "addedAtThreshold" "[Z" (.ref a32) ∧ Fld Z h a10 "com/example/rankline/rankline/Buckets" "copies" "[J" (.ref a33) ∧ Fld Z h a10 "com/example/rankline/rankline/Buckets" "nextOf" "[I" (.ref a34) ∧ Fld Z h a10 "com/example/rankline/rankline/Buckets" "previousOf" "[I" (.ref a35) ∧ Fld Z h a10 "com/example/rankline/rankline/Buckets" "first" "I" (.int (0 : Int32)) ∧ Fld Z h a10 "com/example/rankline/rankline/Buckets" "last" "I" (.int (1 : Int32)) ∧ Fld Z h a10 "com/example/rankline/rankline/Buckets" "free" "I" (.int (-1 : Int32)) ∧ Fld Z h a10 "com/example/rankline/rankline/Buckets" "smallestMagnitude" "D" (.double (9218868437227405312 : UInt64)) ∧ Fld Z h a10 "com/example/rankline/rankline/Buckets" "size" "I" (.int (2 : Int32)) ∧ Fld Z h a10 "com/example/rankline/rankline/Buckets" "used" "I" (.int (2 : Int32))) v_ h_ L_
set_option maxRecDepth 65536 in
set_option maxHeartbeats 40000000 in
theorem own_s16 (l : Launch) (Z : State) (a0 : Array Value) (hw : ∀ d ∈ tables_1, d.before a0 Z = true) (wds : List Jvm.Cond) (a10 : Addr) (f167 : UInt64) (a11 : Addr) (a35 : Addr) (a34 : Addr) (a33 : Addr) (a32 : Addr) (a31 : Addr) (a30 : Addr) (a29 : Addr) (a28 : Addr) (a125 : Addr) (f121 : UInt64) (v2 : Int32) (h0 : Heap) (n0 : Nat) (Z0 : n0 ≤ h0.size) (H1 : Exa Z h0 a10 "com/example/rankline/rankline/Buckets") (H7 : own_Ovr Z h0 a31 "com/example/rankline/rankline/Extent") (H11 : own_Ary Z h0 a35 .int [(.int (-1 : Int32)), (.int (0 : Int32)), (.int (0 : Int32)), (.int (0 : Int32)), (.int (0 : Int32)), (.int (0 : Int32)), (.int (0 : Int32)), (.int (0 : Int32)), (.int (0 : Int32)), (.int (0 : Int32)), (.int (0 : Int32)), (.int (0 : Int32)), (.int (0 : Int32)), (.int (0 : Int32)), (.int (0 : Int32)), (.int (0 : Int32))]) (H12 : own_Ary Z h0 a34 .int [(.int (-1 : Int32)), (.int (0 : Int32)), (.int (0 : Int32)), (.int (0 : Int32)), (.int (0 : Int32)), (.int (0 : Int32)), (.int (0 : Int32)), (.int (0 : Int32)), (.int (0 : Int32)), (.int (0 : Int32)), (.int (0 : Int32)), (.int (0 : Int32)), (.int (0 : Int32)), (.int (0 : Int32)), (.int (0 : Int32)), (.int (0 : Int32))]) (H13 : own_Ary Z h0 a33 .long [(.long (0 : Int64)), (.long (0 : Int64)), (.long (0 : Int64)), (.long (0 : Int64)), (.long (0 : Int64)), (.long (0 : Int64)), (.long (0 : Int64)), (.long (0 : Int64)), (.long (0 : Int64)), (.long (0 : Int64)), (.long (0 : Int64)), (.long (0 : Int64)), (.long (0 : Int64)), (.long (0 : Int64)), (.long (0 : Int64)), (.long (0 : Int64))]) (H14 : own_Ary Z h0 a32 .boolean [(.int (0 : Int32)), (.int (0 : Int32)), (.int (0 : Int32)), (.int (0 : Int32)), (.int (0 : Int32)), (.int (0 : Int32)), (.int (0 : Int32)), (.int (0 : Int32)), (.int (0 : Int32)), (.int (0 : Int32)), (.int (0 : Int32)), (.int (0 : Int32)), (.int (0 : Int32)), (.int (0 : Int32)), (.int (0 : Int32)), (.int (0 : Int32))]) (H15 : own_Ary Z h0 a31 (.object "com/example/rankline/rankline/Extent") [(.ref a125), .null, .null, .null, .null, .null, .null, .null, .null, .null, .null, .null, .null, .null, .null, .null]) (H16 : own_Ary Z h0 a30 .boolean [(.int (0 : Int32)), (.int (0 : Int32)), (.int (0 : Int32)), (.int (0 : Int32)), (.int (0 : Int32)), (.int (0 : Int32)), (.int (0 : Int32)), (.int (0 : Int32)), (.int (0 : Int32)), (.int (0 : Int32)), (.int (0 : Int32)), (.int (0 : Int32)), (.int (0 : Int32)), (.int (0 : Int32)), (.int (0 : Int32)), (.int (0 : Int32))]) (H17 : own_Ary Z h0 a29 .double [(.double f121), (.double (0 : UInt64)), (.double (0 : UInt64)), (.double (0 : UInt64)), (.double (0 : UInt64)), (.double (0 : UInt64)), (.double (0 : UInt64)), (.double (0 : UInt64)), (.double (0 : UInt64)), (.double (0 : UInt64)), (.double (0 : UInt64)), (.double (0 : UInt64)), (.double (0 : UInt64)), (.double (0 : UInt64)), (.double (0 : UInt64)), (.double (0 : UInt64))]) (H18 : own_Ary Z h0 a28 .double [(.double (0 : UInt64)), (.double (0 : UInt64)), (.double (0 : UInt64)), (.double (0 : UInt64)), (.double (0 : UInt64)), (.double (0 : UInt64)), (.double (0 : UInt64)), (.double (0 : UInt64)), (.double (0 : UInt64)), (.double (0 : UInt64)), (.double (0 : UInt64)), (.double (0 : UInt64)), (.double (0 : UInt64)), (.double (0 : UInt64)), (.double (0 : UInt64)), (.double (0 : UInt64))]) (H19 : Fld Z h0 a10 "com/example/rankline/rankline/Buckets" "thresholds" "[D" (.ref a28)) (H20 : Fld Z h0 a10 "com/example/rankline/rankline/Buckets" "ranks" "[D" (.ref a29)) (H21 : Fld Z h0 a10 "com/example/rankline/rankline/Buckets" "guarded" "[Z" (.ref a30)) (H22 : Fld Z h0 a10 "com/example/rankline/rankline/Buckets" "extents" "[Lcom/example/rankline/rankline/Extent;" (.ref a31)) (H23 : Fld Z h0 a10 "com/example/rankline/rankline/Buckets" "addedAtThreshold" "[Z" (.ref a32)) (H24 : Fld Z h0 a10 "com/example/rankline/rankline/Buckets" "copies" "[J" (.ref a33)) (H25 : Fld Z h0 a10 "com/example/rankline/rankline/Buckets" "nextOf" "[I" (.ref a34)) (H26 : Fld Z h0 a10 "com/example/rankline/rankline/Buckets" "previousOf" "[I" (.ref a35)) (H27 : Fld Z h0 a10 "com/example/rankline/rankline/Buckets" "first" "I" (.int (0 : Int32))) (H28 : Fld Z h0 a10 "com/example/rankline/rankline/Buckets" "last" "I" (.int (0 : Int32))) (H29 : Fld Z h0 a10 "com/example/rankline/rankline/Buckets" "free" "I" (.int (-1 : Int32))) (H30 : Fld Z h0 a10 "com/example/rankline/rankline/Buckets" "smallestMagnitude" "D" (.double (9218868437227405312 : UInt64))) (H31 : Fld Z h0 a10 "com/example/rankline/rankline/Buckets" "size" "I" (.int (1 : Int32))) (H32 : Fld Z h0 a10 "com/example/rankline/rankline/Buckets" "used" "I" (.int (1 : Int32))) (H40 : Exa Z h0 a11 "com/example/rankline/rankline/Extent") (H47 : a10 < a35) (H48 : a10 < a34) (H49 : a10 < a33) (H50 : a10 < a32) (H51 : a10 < a31) (H52 : a10 < a30) (H53 : a10 < a29) (H54 : a10 < a28) (H57 : n0 ≤ a10) (H58 : a34 < a35) (H59 : a33 < a35) (H60 : a32 < a35) (H61 : a31 < a35) (H62 : a30 < a35) (H63 : a29 < a35) (H64 : a28 < a35) (H67 : n0 ≤ a35) (H68 : a33 < a34) (H69 : a32 < a34) (H70 : a31 < a34) (H71 : a30 < a34) (H72 : a29 < a34) (H73 : a28 < a34) (H76 : n0 ≤ a34) (H77 : a32 < a33) (H78 : a31 < a33) (H79 : a30 < a33) (H80 : a29 < a33) (H81 : a28 < a33) (H84 : n0 ≤ a33) (H85 : a31 < a32) (H86 : a30 < a32) (H87 : a29 < a32) (H88 : a28 < a32) (H91 : n0 ≤ a32) (H92 : a30 < a31) (H93 : a29 < a31) (H94 : a28 < a31) (H97 : n0 ≤ a31) (H98 : a29 < a30) (H99 : a28 < a30) (H102 : n0 ≤ a30) (H103 : a28 < a29) (H106 : n0 ≤ a29) (H109 : n0 ≤ a28) :
    MetFree l (⟨"com/example/rankline/rankline/Buckets", "append", "(DDLcom/example/rankline/rankline/Extent;J)V"⟩ : MethodName) (head1 (Jvm.Cond.code (⟨"com/example/rankline/rankline/Buckets", "append", "(DDLcom/example/rankline/rankline/Extent;J)V"⟩ : MethodName) prog_5_method_13_code 8 none :: wds) ({ frames := 2, cells := 0, slots := 0, locals := 35 } : Room)) (fun ar_ U_ => ar_ = #[(.ref a10), (.double (4607182418800017408 : UInt64)), (.double f167), (.ref a11), (.long (0 : Int64))] ∧ Z.Warmed39 U_.vm ∧ U_.heap = h0) (fun _ _ _ _ _ => True) (fun _ U_ o_ V_ => ∃ v_ L_, o_ = .returned v_ ∧ own_s16_Q Z a10 f167 a11 a35 a34 a33 a32 a31 a30 a29 a28 a125 f121 v2 h0 n0 v_ V_.heap L_ ∧ FrameEnd U_ o_ V_ L_ ({ frames := 2, cells := 0, slots := 0, locals := 35 } : Room).cells ({ frames := 2, cells := 0, slots := 0, locals := 35 } : Room).slots) := by
  refine own_met (y := ⟨"com/example/rankline/rankline/Buckets", "append", "(DDLcom/example/rankline/rankline/Extent;J)V"⟩) (Q := own_s16_Q Z a10 f167 a11 a35 a34 a33 a32 a31 a30 a29 a28 a125 f121 v2 h0 n0) own_pn1 ?_
  intro p e s m below meth c s₁ hx hby hml hZ hown hnm hret hlk X0 e0
  have N0 := Fr.nil n0
  refine own_cast (g' := (mkF m 0 #[.val (.ref a10), .val (.double (4607182418800017408 : UInt64)), .second, .val (.double f167), .second, .val (.ref a11), .val (.long (0 : Int64)), .second] [])) (by first | (simp [entryFrame, mkF, argsToLocals, Value.category]; done) | rfl) ?_
  generalize hL1 : (#[.val (.ref a10), .val (.double (4607182418800017408 : UInt64)), .second, .val (.double f167), .second, .val (.ref a11), .val (.long (0 : Int64)), .second] : Array Slot) = L1
  refine own_pre (T' := s₁) (g' := (mkF m 1 L1 [(.ref a10)])) (fun t k => XS.aloadN X0.here hx rfl (v := (.ref a10)) (hb hby d7_0) (by rw [← hL1]; rfl) rfl k) ?_
  refine own_pre (T' := s₁) (g' := (mkF m 2 L1 [(.int (-1 : Int32)), (.ref a10)])) (fun t k => XS.iconst X0.here hx rfl (hb hby d7_1) k) ?_
  refine own_pre (T' := s₁) (g' := (mkF m 3 L1 [(.double (4607182418800017408 : UInt64)), (.int (-1 : Int32)), (.ref a10)])) (fun t k => XS.dloadN X0.here hx rfl (v := (4607182418800017408 : UInt64)) (hb hby d7_2) (by rw [← hL1]; rfl) k) ?_
  refine own_pre (T' := s₁) (g' := (mkF m 4 L1 [(.double f167), (.double (4607182418800017408 : UInt64)), (.int (-1 : Int32)), (.ref a10)])) (fun t k => XS.dloadN X0.here hx rfl (v := f167) (hb hby d7_3) (by rw [← hL1]; rfl) k) ?_
  refine own_pre (T' := s₁) (g' := (mkF m 5 L1 [(.ref a10), (.double f167), (.double (4607182418800017408 : UInt64)), (.int (-1 : Int32)), (.ref a10)])) (fun t k => XS.aloadN X0.here hx rfl (v := (.ref a10)) (hb hby d7_4) (by rw [← hL1]; rfl) rfl k) ?_
  refine own_getf X0 hx hZ hown (own_w hw 49 rfl) e0 H31 (hb hby d7_5) ?_
  intro T2 X2 e2
  show own_Go _ _ _ _ _ _ _ T2 (mkF m 8 L1 [(.int (1 : Int32)), (.double f167), (.double (4607182418800017408 : UInt64)), (.int (-1 : Int32)), (.ref a10)])
  refine own_pre (T' := T2) (g' := (mkF m 20 L1 [(.double f167), (.double (4607182418800017408 : UInt64)), (.int (-1 : Int32)), (.ref a10)])) (fun t k => XS.ifYes X2.here hx rfl (pc0 := 8) (pc' := 20) rfl (hb hby d7_8) rfl (by decide) (by decide) (by decide) k) ?_
  refine own_pre (T' := T2) (g' := (mkF m 22 L1 [(.ref a11), (.double f167), (.double (4607182418800017408 : UInt64)), (.int (-1 : Int32)), (.ref a10)])) (fun t k => XS.aload X2.here hx rfl (v := (.ref a11)) (hb hby d7_20) (by rw [← hL1]; rfl) rfl k) ?_
  refine own_pre (T' := T2) (g' := (mkF m 24 L1 [(.long (0 : Int64)), (.ref a11), (.double f167), (.double (4607182418800017408 : UInt64)), (.int (-1 : Int32)), (.ref a10)])) (fun t k => XT.lload X2.here hx rfl (v := (0 : Int64)) (hb hby d7_22) (by rw [← hL1]; rfl) k) ?_
  refine own_callp (a := a10) (argsL := [(.int (-1 : Int32)), (.double (4607182418800017408 : UInt64)), (.double f167), (.ref a11), (.long (0 : Int64))]) (rest := []) X2 hx hZ hown (own_s17 l Z a0 hw [] a10 f167 a11 a35 a34 a33 a32 a31 a30 a29 a28 a125 f121 v2 h0 n0 Z0 H1 H7 H11 H12 H13 H14 H15 H16 H17 H18 H19 H20 H21 H22 H23 H24 H25 H26 H27 H28 H29 H30 H31 H32 H40 H47 H48 H49 H50 H51 H52 H53 H54 H57 H58 H59 H60 H61 H62 H63 H64 H67 H68 H69 H70 H71 H72 H73 H76 H77 H78 H79 H80 H81 H84 H85 H86 H87 H88 H91 H92 H93 H94 H97 H98 H99 H102 H103 H106 H109) H1 (own_w hw 83 rfl) (own_w hw 4 rfl) (own_w hw 85 rfl) (own_w hw 84 rfl) (own_w hw 86 rfl) (own_w hw 5 rfl) (by decide) e2 (hb hby d7_24) (by rw [hml, ← hL1]; rfl) rfl (lenOf own_pd4 rfl) (by decide) (W := 0) (Nat.le_of_eq rfl) (by decide) (by decide) (by decide) ?_
  intro v3 T3 lo3 X3 Q3
  obtain ⟨h3, e3⟩ : ∃ h, T3.heap = h := ⟨_, rfl⟩
  rw [e3] at Q3
  obtain ⟨rfl, N3, K3, F4, F5, F6, F7, F8, F9, F10, F11, F12, F13, F14, F15, F16, F17, F18, F19, F20, F21, F22, F23, F24, F25⟩ := Q3
  have N3' := Fr.app N0 N3
  show own_Go _ _ _ _ _ _ _ T3 (mkF m 27 L1 [(.int (1 : Int32))])
  refine own_pre (T' := T3) (g' := (mkF m 28 L1 [])) (fun t k => XT.pop X3.here hx rfl (hb hby d7_27) rfl rfl k) ?_
  exact own_ret0 X3 hx hlk hret (hb hby d7_28) e3 ⟨rfl, N3', ((Keep.refl _ _).trans K3 (allS (Or.inl (by simp)) (allS (Or.inl (by simp)) (allS (Or.inl (by simp)) (allS (Or.inl (by simp)) (allS (Or.inl (by simp)) (allS (Or.inl (by simp)) (allS (Or.inl (by simp)) (allS (Or.inl (by simp)) (allS (Or.inl (by simp)) all0)))))))))), F4, F5, F6, F7, F8, F9, F10, F11, F12, F13, F14, F15, F16, F17, F18, F19, F20, F21, F22, F23, F24, F25⟩ (by decide) (by decide)
def own_s12_Q (Z : State) (a10 : Addr) (f167 : UInt64) (a35 : Addr) (a34 : Addr) (a33 : Addr) (a32 : Addr) (a31 : Addr) (a30 : Addr) (a29 : Addr) (a28 : Addr) (a125 : Addr) (f121 : UInt64) (v4 : Int32) (v2 : Int32) (h0 : Heap) (n0 : Nat) (v_ : Option Value) (h_ : Heap) (L_ : List Loc) : Prop := (fun v h L => ∃ (a11 : Addr) (f9 : UInt64), v = none ∧ Fr n0 L ∧ Keep h0 h [a10, a28, a29, a30, a31, a32, a33, a34, a35] ∧ h0.size ≤ a11 ∧ own_Ary Z h a35 .int [(.int (-1 : Int32)), (.int (0 : Int32)), (.int (0 : Int32)), (.int (0 : Int32)), (.int (0 : Int32)), (.int (0 : Int32)), (.int (0 : Int32)), (.int (0 : Int32)), (.int (0 : Int32)), (.int (0 : Int32)), (.int (0 : Int32)), (.int (0 : Int32)), (.int (0 : Int32)), (.int (0 : Int32)), (.int (0 : Int32)), (.int (0 : Int32))] ∧ own_Ary Z h a34 .int [(.int (1 : Int32)), (.int (-1 : Int32)), (.int (0 : Int32)), (.int (0 : Int32)), (.int (0 : Int32)), (.int (0 : Int32)), (.int (0 : Int32)), (.int (0 : Int32)), (.int (0 : Int32)), (.int (0 : Int32)), (.int (0 : Int32)), (.int (0 : Int32)), (.int (0 : Int32)), (.int (0 : Int32)), (.int (0 : Int32)), (.int (0 : Int32))] ∧ own_Ary Z h a33 .long [(.long (0 : Int64)), (.long (0 : Int64)), (.long (0 : Int64)), (.long (0 : Int64)), (.long (0 : Int64)), (.long (0 : Int64)), (.long (0 : Int64)), (.long (0 : Int64)), (.long (0 : Int64)), (.long (0 : Int64)), (.long (0 : Int64)), (.long (0 : Int64)), (.long (0 : Int64)), (.long (0 : Int64)), (.long (0 : Int64)), (.long (0 : Int64))] ∧ own_Ary Z h a32 .boolean [(.int (0 : Int32)), (.int (0 : Int32)), (.int (0 : Int32)), (.int (0 : Int32)), (.int (0 : Int32)), (.int (0 : Int32)), (.int (0 : Int32)), (.int (0 : Int32)), (.int (0 : Int32)), (.int (0 : Int32)), (.int (0 : Int32)), (.int (0 : Int32)), (.int (0 : Int32)), (.int (0 : Int32)), (.int (0 : Int32)), (.int (0 : Int32))] ∧ own_Ary Z h a31 (.object "com/example/rankline/rankline/Extent") [(.ref a125), (.ref a11), .null, .null, .null, .null, .null, .null, .null, .null, .null, .null, .null, .null, .null, .null] ∧ own_Ary Z h a30 .boolean [(.int (0 : Int32)), (.int (0 : Int32)), (.int (0 : Int32)), (.int (0 : Int32)), (.int (0 : Int32)), (.int (0 : Int32)), (.int (0 : Int32)), (.int (0 : Int32)), (.int (0 : Int32)), (.int (0 : Int32)), (.int (0 : Int32)), (.int (0 : Int32)), (.int (0 : Int32)), (.int (0 : Int32)), (.int (0 : Int32)), (.int (0 : Int32))] ∧ own_Ary Z h a29 .double [(.double f121), (.double f167), (.double (0 : UInt64)), (.double (0 : UInt64)), (.double (0 : UInt64)), (.double (0 : UInt64)), (.double (0 : UInt64)), (.double (0 : UInt64)), (.double (0 : UInt64)), (.double (0 : UInt64)), (.double (0 : UInt64)), (.double (0 : UInt64)), (.double (0 : UInt64)), (.double (0 : UInt64)), (.double (0 : UInt64)), (.double (0 : UInt64))] ∧ own_Ary Z h a28 .double [(.double (0 : UInt64)), (.double (4607182418800017408 : UInt64)), (.double (0 : UInt64)), (.double (0 : UInt64)), (.double (0 : UInt64)), (.double (0 : UInt64)), (.double (0 : UInt64)), (.double (0 : UInt64)), (.double (0 : UInt64)), (.double (0 : UInt64)), (.double (0 : UInt64)), (.double (0 : UInt64)), (.double (0 : UInt64)), (.double (0 : UInt64)), (.double (0 : UInt64)), (.double (0 : UInt64))] ∧ Fld Z h a10 "com/example/rankline/rankline/Buckets" "thresholds" "[D" (.ref a28) ∧ Fld Z h a10 "com/example/rankline/rankline/Buckets" "ranks" "[D" (.ref a29) ∧ Fld Z h a10 "com/example/rankline/rankline/Buckets" "guarded" "[Z" (.ref a30) ∧ Fld Z h a10 "com/example/rankline/rankline/Buckets" "extents" "[Lcom/example/rankline/rankline/Extent;" (.ref a31) ∧ Fld Z h a10 "com/example/rankline/rankline/Buckets" "addedAtThreshold" "[Z" (.ref a32) ∧ Fld Z h a10 "com/example/rankline/rankline/Buckets" "copies" "[J" (.ref a33) ∧ Fld Z h a10 "com/example/rankline/rankline/Buckets" "nextOf" "[I" (.ref a34) ∧ Fld Z h a10 "com/example/rankline/rankline/Buckets" "previousOf" "[I" (.ref a35) ∧ Fld Z h a10 "com/example/rankline/rankline/Buckets" "first" "I" (.int (0 : Int32)) ∧ Fld Z h a10 "com/example/rankline/rankline/Buckets" "last" "I" (.int (1 : Int32)) ∧ Fld Z h a10 "com/example/rankline/rankline/Buckets" "free" "I" (.int (-1 : Int32)) ∧ Fld Z h a10 "com/example/rankline/rankline/Buckets" "smallestMagnitude" "D" (.double (9218868437227405312 : UInt64)) ∧ Fld Z h a10 "com/example/rankline/rankline/Buckets" "size" "I" (.int (2 : Int32)) ∧ Fld Z h a10 "com/example/rankline/rankline/Buckets" "used" "I" (.int (2 : Int32)) ∧ Exa Z h a11 "com/example/rankline/rankline/Extent" ∧ Fld Z h a11 "com/example/rankline/rankline/Extent" "low" "D" (.double (0 : UInt64)) ∧ Fld Z h a11 "com/example/rankline/rankline/Extent" "gapLow" "D" (.double (4607182418800017408 : UInt64)) ∧ Fld Z h a11 "com/example/rankline/rankline/Extent" "gapHigh" "D" (.double (4607182418800017408 : UInt64)) ∧ Fld Z h a11 "com/example/rankline/rankline/Extent" "high" "D" (.double (4607182418800017408 : UInt64)) ∧ Fld Z h a11 "com/example/rankline/rankline/Extent" "below" "D" (.double f9) ∧ Fld Z h a11 "com/example/rankline/rankline/Extent" "count" "D" (.double f9) ∧ FP.Core.own_H (v4.toInt - v2.toInt) f9) v_ h_ L_
set_option maxRecDepth 65536 in
set_option maxHeartbeats 40000000 in
theorem own_s12 (l : Launch) (Z : State) (a0 : Array Value) (hw : ∀ d ∈ tables_1, d.before a0 Z = true) (wds : List Jvm.Cond) (a10 : Addr) (f167 : UInt64) (a35 : Addr) (a34 : Addr) (a33 : Addr) (a32 : Addr) (a31 : Addr) (a30 : Addr) (a29 : Addr) (a28 : Addr) (a125 : Addr) (f121 : UInt64) (v4 : Int32) (v2 : Int32) (h0 : Heap) (n0 : Nat) (Z0 : n0 ≤ h0.size) (H1 : Exa Z h0 a10 "com/example/rankline/rankline/Buckets") (H2 : Exa Z h0 a35 "[I") (H3 : Exa Z h0 a34 "[I") (H4 : Exa Z h0 a33 "[J") (H5 : Exa Z h0 a32 "[Z") (H6 : Exa Z h0 a31 "[Lcom/example/rankline/rankline/Extent;") (H7 : own_Ovr Z h0 a31 "com/example/rankline/rankline/Extent") (H8 : Exa Z h0 a30 "[Z") (H9 : Exa Z h0 a29 "[D") (H10 : Exa Z h0 a28 "[D") (H11 : own_Ary Z h0 a35 .int [(.int (-1 : Int32)), (.int (0 : Int32)), (.int (0 : Int32)), (.int (0 : Int32)), (.int (0 : Int32)), (.int (0 : Int32)), (.int (0 : Int32)), (.int (0 : Int32)), (.int (0 : Int32)), (.int (0 : Int32)), (.int (0 : Int32)), (.int (0 : Int32)), (.int (0 : Int32)), (.int (0 : Int32)), (.int (0 : Int32)), (.int (0 : Int32))]) (H12 : own_Ary Z h0 a34 .int [(.int (-1 : Int32)), (.int (0 : Int32)), (.int (0 : Int32)), (.int (0 : Int32)), (.int (0 : Int32)), (.int (0 : Int32)), (.int (0 : Int32)), (.int (0 : Int32)), (.int (0 : Int32)), (.int (0 : Int32)), (.int (0 : Int32)), (.int (0 : Int32)), (.int (0 : Int32)), (.int (0 : Int32)), (.int (0 : Int32)), (.int (0 : Int32))]) (H13 : own_Ary Z h0 a33 .long [(.long (0 : Int64)), (.long (0 : Int64)), (.long (0 : Int64)), (.long (0 : Int64)), (.long (0 : Int64)), (.long (0 : Int64)), (.long (0 : Int64)), (.long (0 : Int64)), (.long (0 : Int64)), (.long (0 : Int64)), (.long (0 : Int64)), (.long (0 : Int64)), (.long (0 : Int64)), (.long (0 : Int64)), (.long (0 : Int64)), (.long (0 : Int64))]) (H14 : own_Ary Z h0 a32 .boolean [(.int (0 : Int32)), (.int (0 : Int32)), (.int (0 : Int32)), (.int (0 : Int32)), (.int (0 : Int32)), (.int (0 : Int32)), (.int (0 : Int32)), (.int (0 : Int32)), (.int (0 : Int32)), (.int (0 : Int32)), (.int (0 : Int32)), (.int (0 : Int32)), (.int (0 : Int32)), (.int (0 : Int32)), (.int (0 : Int32)), (.int (0 : Int32))]) (H15 : own_Ary Z h0 a31 (.object "com/example/rankline/rankline/Extent") [(.ref a125), .null, .null, .null, .null, .null, .null, .null, .null, .null, .null, .null, .null, .null, .null, .null]) (H16 : own_Ary Z h0 a30 .boolean [(.int (0 : Int32)), (.int (0 : Int32)), (.int (0 : Int32)), (.int (0 : Int32)), (.int (0 : Int32)), (.int (0 : Int32)), (.int (0 : Int32)), (.int (0 : Int32)), (.int (0 : Int32)), (.int (0 : Int32)), (.int (0 : Int32)), (.int (0 : Int32)), (.int (0 : Int32)), (.int (0 : Int32)), (.int (0 : Int32)), (.int (0 : Int32))]) (H17 : own_Ary Z h0 a29 .double [(.double f121), (.double (0 : UInt64)), (.double (0 : UInt64)), (.double (0 : UInt64)), (.double (0 : UInt64)), (.double (0 : UInt64)), (.double (0 : UInt64)), (.double (0 : UInt64)), (.double (0 : UInt64)), (.double (0 : UInt64)), (.double (0 : UInt64)), (.double (0 : UInt64)), (.double (0 : UInt64)), (.double (0 : UInt64)), (.double (0 : UInt64)), (.double (0 : UInt64))]) (H18 : own_Ary Z h0 a28 .double [(.double (0 : UInt64)), (.double (0 : UInt64)), (.double (0 : UInt64)), (.double (0 : UInt64)), (.double (0 : UInt64)), (.double (0 : UInt64)), (.double (0 : UInt64)), (.double (0 : UInt64)), (.double (0 : UInt64)), (.double (0 : UInt64)), (.double (0 : UInt64)), (.double (0 : UInt64)), (.double (0 : UInt64)), (.double (0 : UInt64)), (.double (0 : UInt64)), (.double (0 : UInt64))]) (H19 : Fld Z h0 a10 "com/example/rankline/rankline/Buckets" "thresholds" "[D" (.ref a28)) (H20 : Fld Z h0 a10 "com/example/rankline/rankline/Buckets" "ranks" "[D" (.ref a29)) (H21 : Fld Z h0 a10 "com/example/rankline/rankline/Buckets" "guarded" "[Z" (.ref a30)) (H22 : Fld Z h0 a10 "com/example/rankline/rankline/Buckets" "extents" "[Lcom/example/rankline/rankline/Extent;" (.ref a31)) (H23 : Fld Z h0 a10 "com/example/rankline/rankline/Buckets" "addedAtThreshold" "[Z" (.ref a32)) (H24 : Fld Z h0 a10 "com/example/rankline/rankline/Buckets" "copies" "[J" (.ref a33)) (H25 : Fld Z h0 a10 "com/example/rankline/rankline/Buckets" "nextOf" "[I" (.ref a34)) (H26 : Fld Z h0 a10 "com/example/rankline/rankline/Buckets" "previousOf" "[I" (.ref a35)) (H27 : Fld Z h0 a10 "com/example/rankline/rankline/Buckets" "first" "I" (.int (0 : Int32))) (H28 : Fld Z h0 a10 "com/example/rankline/rankline/Buckets" "last" "I" (.int (0 : Int32))) (H29 : Fld Z h0 a10 "com/example/rankline/rankline/Buckets" "free" "I" (.int (-1 : Int32))) (H30 : Fld Z h0 a10 "com/example/rankline/rankline/Buckets" "smallestMagnitude" "D" (.double (9218868437227405312 : UInt64))) (H31 : Fld Z h0 a10 "com/example/rankline/rankline/Buckets" "size" "I" (.int (1 : Int32))) (H32 : Fld Z h0 a10 "com/example/rankline/rankline/Buckets" "used" "I" (.int (1 : Int32))) (H40 : a10 < a28) (H41 : a10 < a29) (H42 : a10 < a30) (H43 : a10 < a31) (H44 : a10 < a32) (H45 : a10 < a33) (H46 : a10 < a34) (H47 : a10 < a35) (H49 : n0 ≤ a10) (H50 : a28 < a29) (H51 : a28 < a30) (H52 : a28 < a31) (H53 : a28 < a32) (H54 : a28 < a33) (H55 : a28 < a34) (H56 : a28 < a35) (H58 : n0 ≤ a28) (H59 : a29 < a30) (H60 : a29 < a31) (H61 : a29 < a32) (H62 : a29 < a33) (H63 : a29 < a34) (H64 : a29 < a35) (H66 : n0 ≤ a29) (H67 : a30 < a31) (H68 : a30 < a32) (H69 : a30 < a33) (H70 : a30 < a34) (H71 : a30 < a35) (H73 : n0 ≤ a30) (H74 : a31 < a32) (H75 : a31 < a33) (H76 : a31 < a34) (H77 : a31 < a35) (H79 : n0 ≤ a31) (H80 : a32 < a33) (H81 : a32 < a34) (H82 : a32 < a35) (H84 : n0 ≤ a32) (H85 : a33 < a34) (H86 : a33 < a35) (H88 : n0 ≤ a33) (H89 : a34 < a35) (H91 : n0 ≤ a34) (H93 : n0 ≤ a35) (H95 : FP.Core.own_H v4.toInt f167) (H96 : FP.Core.own_H v2.toInt f121) :
    MetFree l (⟨"com/example/rankline/rankline/Buckets", "append", "(DD)V"⟩ : MethodName) (head1 (Jvm.Cond.code (⟨"com/example/rankline/rankline/Buckets", "append", "(DD)V"⟩ : MethodName) prog_5_method_12_code 7 none :: wds) ({ frames := 4, cells := 1, slots := 6, locals := 71 } : Room)) (fun ar_ U_ => ar_ = #[(.ref a10), (.double (4607182418800017408 : UInt64)), (.double f167)] ∧ Z.Warmed39 U_.vm ∧ U_.heap = h0) (fun _ _ _ _ _ => True) (fun _ U_ o_ V_ => ∃ v_ L_, o_ = .returned v_ ∧ own_s12_Q Z a10 f167 a35 a34 a33 a32 a31 a30 a29 a28 a125 f121 v4 v2 h0 n0 v_ V_.heap L_ ∧ FrameEnd U_ o_ V_ L_ ({ frames := 4, cells := 1, slots := 6, locals := 71 } : Room).cells ({ frames := 4, cells := 1, slots := 6, locals := 71 } : Room).slots) := by
  refine own_met (y := ⟨"com/example/rankline/rankline/Buckets", "append", "(DD)V"⟩) (Q := own_s12_Q Z a10 f167 a35 a34 a33 a32 a31 a30 a29 a28 a125 f121 v4 v2 h0 n0) own_pn1 ?_
  intro p e s m below meth c s₁ hx hby hml hZ hown hnm hret hlk X0 e0
  have N0 := Fr.nil n0
  refine own_cast (g' := (mkF m 0 #[.val (.ref a10), .val (.double (4607182418800017408 : UInt64)), .second, .val (.double f167), .second, .unset, .unset] [])) (by first | (simp [entryFrame, mkF, argsToLocals, Value.category]; done) | rfl) ?_
  generalize hL1 : (#[.val (.ref a10), .val (.double (4607182418800017408 : UInt64)), .second, .val (.double f167), .second, .unset, .unset] : Array Slot) = L1
  refine own_pre (T' := s₁) (g' := (mkF m 1 L1 [(.ref a10)])) (fun t k => XS.aloadN X0.here hx rfl (v := (.ref a10)) (hb hby d3_0) (by rw [← hL1]; rfl) rfl k) ?_
  refine own_getf X0 hx hZ hown (own_w hw 49 rfl) e0 H31 (hb hby d3_1) ?_
  intro T2 X2 e2
  show own_Go _ _ _ _ _ _ _ T2 (mkF m 4 L1 [(.int (1 : Int32))])
  refine own_pre (T' := T2) (g' := (mkF m 11 L1 [])) (fun t k => XS.ifYes X2.here hx rfl (pc0 := 4) (pc' := 11) rfl (hb hby d3_4) rfl (by decide) (by decide) (by decide) k) ?_
  refine own_pre (T' := T2) (g' := (mkF m 12 L1 [(.ref a10)])) (fun t k => XS.aloadN X2.here hx rfl (v := (.ref a10)) (hb hby d3_11) (by rw [← hL1]; rfl) rfl k) ?_
  refine own_getf X2 hx hZ hown (own_w hw 13 rfl) e2 H19 (hb hby d3_12) ?_
  intro T3 X3 e3
  show own_Go _ _ _ _ _ _ _ T3 (mkF m 15 L1 [(.ref a28)])
  refine own_pre (T' := T3) (g' := (mkF m 16 L1 [(.ref a10), (.ref a28)])) (fun t k => XS.aloadN X3.here hx rfl (v := (.ref a10)) (hb hby d3_15) (by rw [← hL1]; rfl) rfl k) ?_
  refine own_getf X3 hx hZ hown (own_w hw 36 rfl) e3 H28 (hb hby d3_16) ?_
  intro T4 X4 e4
  show own_Go _ _ _ _ _ _ _ T4 (mkF m 19 L1 [(.int (0 : Int32)), (.ref a28)])
  refine own_daload X4 hx hZ e4 H18 (hb hby d3_19) (n := 0) (v := (.double (0 : UInt64))) (by decide) (by decide) rfl ?_
  show own_Go _ _ _ _ _ _ _ T4 (mkF m 20 L1 [(.double (0 : UInt64))])
  refine own_pre (T' := T4) (g' := (mkF m 22 #[.val (.ref a10), .val (.double (4607182418800017408 : UInt64)), .second, .val (.double f167), .second, .val (.double (0 : UInt64)), .second] [])) (fun t k => XS.dstore X4.here hx rfl (hb hby d3_20) rfl (l' := #[.val (.ref a10), .val (.double (4607182418800017408 : UInt64)), .second, .val (.double f167), .second, .val (.double (0 : UInt64)), .second]) (by rw [← hL1]; rfl) k) ?_
  generalize hL5 : (#[.val (.ref a10), .val (.double (4607182418800017408 : UInt64)), .second, .val (.double f167), .second, .val (.double (0 : UInt64)), .second] : Array Slot) = L5
  refine own_pre (T' := T4) (g' := (mkF m 23 L5 [(.ref a10)])) (fun t k => XS.aloadN X4.here hx rfl (v := (.ref a10)) (hb hby d3_22) (by rw [← hL5]; rfl) rfl k) ?_
  refine own_pre (T' := T4) (g' := (mkF m 24 L5 [(.double (4607182418800017408 : UInt64)), (.ref a10)])) (fun t k => XS.dloadN X4.here hx rfl (v := (4607182418800017408 : UInt64)) (hb hby d3_23) (by rw [← hL5]; rfl) k) ?_
  refine own_pre (T' := T4) (g' := (mkF m 25 L5 [(.double f167), (.double (4607182418800017408 : UInt64)), (.ref a10)])) (fun t k => XS.dloadN X4.here hx rfl (v := f167) (hb hby d3_24) (by rw [← hL5]; rfl) k) ?_
  refine own_pre (T' := T4) (g' := (mkF m 27 L5 [(.double (0 : UInt64)), (.double f167), (.double (4607182418800017408 : UInt64)), (.ref a10)])) (fun t k => XS.dload X4.here hx rfl (v := (0 : UInt64)) (hb hby d3_25) (by rw [← hL5]; rfl) k) ?_
  refine own_pre (T' := T4) (g' := (mkF m 28 L5 [(.double (4607182418800017408 : UInt64)), (.double (0 : UInt64)), (.double f167), (.double (4607182418800017408 : UInt64)), (.ref a10)])) (fun t k => XS.dloadN X4.here hx rfl (v := (4607182418800017408 : UInt64)) (hb hby d3_27) (by rw [← hL5]; rfl) k) ?_
  refine own_pre (T' := T4) (g' := (mkF m 29 L5 [(.ref a10), (.double (4607182418800017408 : UInt64)), (.double (0 : UInt64)), (.double f167), (.double (4607182418800017408 : UInt64)), (.ref a10)])) (fun t k => XS.aloadN X4.here hx rfl (v := (.ref a10)) (hb hby d3_28) (by rw [← hL5]; rfl) rfl k) ?_
  refine own_getf X4 hx hZ hown (own_w hw 49 rfl) e4 H31 (hb hby d3_29) ?_
  intro T6 X6 e6
  show own_Go _ _ _ _ _ _ _ T6 (mkF m 32 L5 [(.int (1 : Int32)), (.double (4607182418800017408 : UInt64)), (.double (0 : UInt64)), (.double f167), (.double (4607182418800017408 : UInt64)), (.ref a10)])
  refine own_pre (T' := T6) (g' := (mkF m 39 L5 [(.double (4607182418800017408 : UInt64)), (.double (0 : UInt64)), (.double f167), (.double (4607182418800017408 : UInt64)), (.ref a10)])) (fun t k => XS.ifYes X6.here hx rfl (pc0 := 32) (pc' := 39) rfl (hb hby d3_32) rfl (by decide) (by decide) (by decide) k) ?_
  refine own_pre (T' := T6) (g' := (mkF m 40 L5 [(.double f167), (.double (4607182418800017408 : UInt64)), (.double (0 : UInt64)), (.double f167), (.double (4607182418800017408 : UInt64)), (.ref a10)])) (fun t k => XS.dloadN X6.here hx rfl (v := f167) (hb hby d3_39) (by rw [← hL5]; rfl) k) ?_
  refine own_pre (T' := T6) (g' := (mkF m 41 L5 [(.ref a10), (.double f167), (.double (4607182418800017408 : UInt64)), (.double (0 : UInt64)), (.double f167), (.double (4607182418800017408 : UInt64)), (.ref a10)])) (fun t k => XS.aloadN X6.here hx rfl (v := (.ref a10)) (hb hby d3_40) (by rw [← hL5]; rfl) rfl k) ?_
  refine own_getf X6 hx hZ hown (own_w hw 15 rfl) e6 H20 (hb hby d3_41) ?_
  intro T7 X7 e7
  show own_Go _ _ _ _ _ _ _ T7 (mkF m 44 L5 [(.ref a29), (.double f167), (.double (4607182418800017408 : UInt64)), (.double (0 : UInt64)), (.double f167), (.double (4607182418800017408 : UInt64)), (.ref a10)])
  refine own_pre (T' := T7) (g' := (mkF m 45 L5 [(.ref a10), (.ref a29), (.double f167), (.double (4607182418800017408 : UInt64)), (.double (0 : UInt64)), (.double f167), (.double (4607182418800017408 : UInt64)), (.ref a10)])) (fun t k => XS.aloadN X7.here hx rfl (v := (.ref a10)) (hb hby d3_44) (by rw [← hL5]; rfl) rfl k) ?_
  refine own_getf X7 hx hZ hown (own_w hw 36 rfl) e7 H28 (hb hby d3_45) ?_
  intro T8 X8 e8
  show own_Go _ _ _ _ _ _ _ T8 (mkF m 48 L5 [(.int (0 : Int32)), (.ref a29), (.double f167), (.double (4607182418800017408 : UInt64)), (.double (0 : UInt64)), (.double f167), (.double (4607182418800017408 : UInt64)), (.ref a10)])
  refine own_daload X8 hx hZ e8 H17 (hb hby d3_48) (n := 0) (v := (.double f121)) (by decide) (by decide) rfl ?_
  show own_Go _ _ _ _ _ _ _ T8 (mkF m 49 L5 [(.double f121), (.double f167), (.double (4607182418800017408 : UInt64)), (.double (0 : UInt64)), (.double f167), (.double (4607182418800017408 : UInt64)), (.ref a10)])
  obtain ⟨f9, hf9⟩ : ∃ z, FP.dsub f167 f121 = z := ⟨_, rfl⟩
  have Df9 : FP.Core.own_H (v4.toInt - v2.toInt) f9 := hf9 ▸ FP.Core.own_H_sub H95 H96 (by have := rng32 v4; have := rng32 v2; omega)
  refine own_pre (T' := T8) (g' := (mkF m 50 L5 [(.double f9), (.double (4607182418800017408 : UInt64)), (.double (0 : UInt64)), (.double f167), (.double (4607182418800017408 : UInt64)), (.ref a10)])) (fun t k => XS.dsubS X8.here hx rfl (hb hby d3_49) rfl (by rw [hf9]; exact Jvm.Free.Fl.val64_no.mpr Df9.nn) hf9 k) ?_
  refine own_calls (argsL := [(.double (0 : UInt64)), (.double (4607182418800017408 : UInt64)), (.double f9)]) (rest := [(.double f167), (.double (4607182418800017408 : UInt64)), (.ref a10)]) X8 hx hZ hown (own_s13 l Z a0 hw [] f9 v2 h0 n0 Z0 ) (own_w hw 51 rfl) (own_w hw 52 rfl) (own_w hw 54 rfl) (own_w hw 53 rfl) (by decide) e8 (hb hby d3_50) (by rw [hml, ← hL5]; rfl) rfl (lenOf own_pd2 rfl) (by decide) (W := 5) (Nat.le_of_eq rfl) (by decide) (by decide) (by decide) ?_
  intro v10 T10 lo10 X10 Q10
  obtain ⟨h10, e10⟩ : ∃ h, T10.heap = h := ⟨_, rfl⟩
  rw [e10] at Q10
  obtain ⟨a11, rfl, N10, K10, ge12, F13, F14, F15, F16, F17, F18, F19⟩ := Q10
  have N10' := Fr.app N0 N10
  show own_Go _ _ _ _ _ _ _ T10 (mkF m 53 L5 [(.ref a11), (.double f167), (.double (4607182418800017408 : UInt64)), (.ref a10)])
  have lt20 : a10 < a11 := Nat.lt_of_lt_of_le H1.lt ge12
  have lt21 : a35 < a11 := Nat.lt_of_lt_of_le H2.lt ge12
  have lt22 : a34 < a11 := Nat.lt_of_lt_of_le H3.lt ge12
  have lt23 : a33 < a11 := Nat.lt_of_lt_of_le H4.lt ge12
  have lt24 : a32 < a11 := Nat.lt_of_lt_of_le H5.lt ge12
  have lt25 : a31 < a11 := Nat.lt_of_lt_of_le H6.lt ge12
  have lt26 : a30 < a11 := Nat.lt_of_lt_of_le H8.lt ge12
  have lt27 : a29 < a11 := Nat.lt_of_lt_of_le H9.lt ge12
  have lt28 : a28 < a11 := Nat.lt_of_lt_of_le H10.lt ge12
  have ge31 : h0.size ≤ a11 := Nat.le_trans (Nat.le_refl _) ge12
  refine own_pre (T' := T10) (g' := (mkF m 54 L5 [(.long (0 : Int64)), (.ref a11), (.double f167), (.double (4607182418800017408 : UInt64)), (.ref a10)])) (fun t k => XT.lconst X10.here hx rfl (hb hby d3_53) k) ?_
  have F32 : Exa Z h10 a10 "com/example/rankline/rankline/Buckets" := (H1.keep K10)
  have F38 : own_Ovr Z h10 a31 "com/example/rankline/rankline/Extent" := (H7.keep K10)
  have F42 : own_Ary Z h10 a35 .int [(.int (-1 : Int32)), (.int (0 : Int32)), (.int (0 : Int32)), (.int (0 : Int32)), (.int (0 : Int32)), (.int (0 : Int32)), (.int (0 : Int32)), (.int (0 : Int32)), (.int (0 : Int32)), (.int (0 : Int32)), (.int (0 : Int32)), (.int (0 : Int32)), (.int (0 : Int32)), (.int (0 : Int32)), (.int (0 : Int32)), (.int (0 : Int32))] := (H11.keep K10 nin0)
  have F43 : own_Ary Z h10 a34 .int [(.int (-1 : Int32)), (.int (0 : Int32)), (.int (0 : Int32)), (.int (0 : Int32)), (.int (0 : Int32)), (.int (0 : Int32)), (.int (0 : Int32)), (.int (0 : Int32)), (.int (0 : Int32)), (.int (0 : Int32)), (.int (0 : Int32)), (.int (0 : Int32)), (.int (0 : Int32)), (.int (0 : Int32)), (.int (0 : Int32)), (.int (0 : Int32))] := (H12.keep K10 nin0)
  have F44 : own_Ary Z h10 a33 .long [(.long (0 : Int64)), (.long (0 : Int64)), (.long (0 : Int64)), (.long (0 : Int64)), (.long (0 : Int64)), (.long (0 : Int64)), (.long (0 : Int64)), (.long (0 : Int64)), (.long (0 : Int64)), (.long (0 : Int64)), (.long (0 : Int64)), (.long (0 : Int64)), (.long (0 : Int64)), (.long (0 : Int64)), (.long (0 : Int64)), (.long (0 : Int64))] := (H13.keep K10 nin0)
  have F45 : own_Ary Z h10 a32 .boolean [(.int (0 : Int32)), (.int (0 : Int32)), (.int (0 : Int32)), (.int (0 : Int32)), (.int (0 : Int32)), (.int (0 : Int32)), (.int (0 : Int32)), (.int (0 : Int32)), (.int (0 : Int32)), (.int (0 : Int32)), (.int (0 : Int32)), (.int (0 : Int32)), (.int (0 : Int32)), (.int (0 : Int32)), (.int (0 : Int32)), (.int (0 : Int32))] := (H14.keep K10 nin0)
  have F46 : own_Ary Z h10 a31 (.object "com/example/rankline/rankline/Extent") [(.ref a125), .null, .null, .null, .null, .null, .null, .null, .null, .null, .null, .null, .null, .null, .null, .null] := (H15.keep K10 nin0)
  have F47 : own_Ary Z h10 a30 .boolean [(.int (0 : Int32)), (.int (0 : Int32)), (.int (0 : Int32)), (.int (0 : Int32)), (.int (0 : Int32)), (.int (0 : Int32)), (.int (0 : Int32)), (.int (0 : Int32)), (.int (0 : Int32)), (.int (0 : Int32)), (.int (0 : Int32)), (.int (0 : Int32)), (.int (0 : Int32)), (.int (0 : Int32)), (.int (0 : Int32)), (.int (0 : Int32))] := (H16.keep K10 nin0)
  have F48 : own_Ary Z h10 a29 .double [(.double f121), (.double (0 : UInt64)), (.double (0 : UInt64)), (.double (0 : UInt64)), (.double (0 : UInt64)), (.double (0 : UInt64)), (.double (0 : UInt64)), (.double (0 : UInt64)), (.double (0 : UInt64)), (.double (0 : UInt64)), (.double (0 : UInt64)), (.double (0 : UInt64)), (.double (0 : UInt64)), (.double (0 : UInt64)), (.double (0 : UInt64)), (.double (0 : UInt64))] := (H17.keep K10 nin0)
  have F49 : own_Ary Z h10 a28 .double [(.double (0 : UInt64)), (.double (0 : UInt64)), (.double (0 : UInt64)), (.double (0 : UInt64)), (.double (0 : UInt64)), (.double (0 : UInt64)), (.double (0 : UInt64)), (.double (0 : UInt64)), (.double (0 : UInt64)), (.double (0 : UInt64)), (.double (0 : UInt64)), (.double (0 : UInt64)), (.double (0 : UInt64)), (.double (0 : UInt64)), (.double (0 : UInt64)), (.double (0 : UInt64))] := (H18.keep K10 nin0)
  have F50 : Fld Z h10 a10 "com/example/rankline/rankline/Buckets" "thresholds" "[D" (.ref a28) := (H19.keep K10 nin0)
  have F51 : Fld Z h10 a10 "com/example/rankline/rankline/Buckets" "ranks" "[D" (.ref a29) := (H20.keep K10 nin0)
  have F52 : Fld Z h10 a10 "com/example/rankline/rankline/Buckets" "guarded" "[Z" (.ref a30) := (H21.keep K10 nin0)
  have F53 : Fld Z h10 a10 "com/example/rankline/rankline/Buckets" "extents" "[Lcom/example/rankline/rankline/Extent;" (.ref a31) := (H22.keep K10 nin0)
  have F54 : Fld Z h10 a10 "com/example/rankline/rankline/Buckets" "addedAtThreshold" "[Z" (.ref a32) := (H23.keep K10 nin0)
  have F55 : Fld Z h10 a10 "com/example/rankline/rankline/Buckets" "copies" "[J" (.ref a33) := (H24.keep K10 nin0)
  have F56 : Fld Z h10 a10 "com/example/rankline/rankline/Buckets" "nextOf" "[I" (.ref a34) := (H25.keep K10 nin0)
  have F57 : Fld Z h10 a10 "com/example/rankline/rankline/Buckets" "previousOf" "[I" (.ref a35) := (H26.keep K10 nin0)
  have F58 : Fld Z h10 a10 "com/example/rankline/rankline/Buckets" "first" "I" (.int (0 : Int32)) := (H27.keep K10 nin0)
  have F59 : Fld Z h10 a10 "com/example/rankline/rankline/Buckets" "last" "I" (.int (0 : Int32)) := (H28.keep K10 nin0)
  have F60 : Fld Z h10 a10 "com/example/rankline/rankline/Buckets" "free" "I" (.int (-1 : Int32)) := (H29.keep K10 nin0)
  have F61 : Fld Z h10 a10 "com/example/rankline/rankline/Buckets" "smallestMagnitude" "D" (.double (9218868437227405312 : UInt64)) := (H30.keep K10 nin0)
  have F62 : Fld Z h10 a10 "com/example/rankline/rankline/Buckets" "size" "I" (.int (1 : Int32)) := (H31.keep K10 nin0)
  have F63 : Fld Z h10 a10 "com/example/rankline/rankline/Buckets" "used" "I" (.int (1 : Int32)) := (H32.keep K10 nin0)
  have F71 : n0 ≤ h10.size := (Nat.le_trans Z0 K10.1)
  refine own_callv (a := a10) (argsL := [(.double (4607182418800017408 : UInt64)), (.double f167), (.ref a11), (.long (0 : Int64))]) (rest := []) X10 hx hZ hown (own_s16 l Z a0 hw [] a10 f167 a11 a35 a34 a33 a32 a31 a30 a29 a28 a125 f121 v2 h10 n0 F71 F32 F38 F42 F43 F44 F45 F46 F47 F48 F49 F50 F51 F52 F53 F54 F55 F56 F57 F58 F59 F60 F61 F62 F63 F13 H47 H46 H45 H44 H43 H42 H41 H40 H49 H89 H86 H82 H77 H71 H64 H56 H93 H85 H81 H76 H70 H63 H55 H91 H80 H75 H69 H62 H54 H88 H74 H68 H61 H53 H84 H67 H60 H52 H79 H59 H51 H73 H50 H66 H58) F32 (own_w hw 78 rfl) (own_w hw 79 rfl) (own_w hw 81 rfl) (own_w hw 80 rfl) (own_w hw 82 rfl) (own_w hw 5 rfl) (by decide) e10 (hb hby d3_54) (by rw [hml, ← hL5]; rfl) rfl (lenOf own_pd5 rfl) (by decide) (W := 0) (Nat.le_of_eq rfl) (by decide) (by decide) (by decide) ?_
  intro v72 T72 lo72 X72 Q72
  obtain ⟨h72, e72⟩ : ∃ h, T72.heap = h := ⟨_, rfl⟩
  rw [e72] at Q72
  obtain ⟨rfl, N72, K72, F73, F74, F75, F76, F77, F78, F79, F80, F81, F82, F83, F84, F85, F86, F87, F88, F89, F90, F91, F92, F93, F94⟩ := Q72
  have N72' := Fr.app N10' N72
  show own_Go _ _ _ _ _ _ _ T72 (mkF m 57 L5 [])
  have F95 : Exa Z h72 a11 "com/example/rankline/rankline/Extent" := (F13.keep K72)
  have F96 : Fld Z h72 a11 "com/example/rankline/rankline/Extent" "low" "D" (.double (0 : UInt64)) := (F14.keep K72 (ninS (Nat.ne_of_gt lt20) (ninS (Nat.ne_of_gt lt28) (ninS (Nat.ne_of_gt lt27) (ninS (Nat.ne_of_gt lt26) (ninS (Nat.ne_of_gt lt25) (ninS (Nat.ne_of_gt lt24) (ninS (Nat.ne_of_gt lt23) (ninS (Nat.ne_of_gt lt22) (ninS (Nat.ne_of_gt lt21) nin0))))))))))
  have F97 : Fld Z h72 a11 "com/example/rankline/rankline/Extent" "gapLow" "D" (.double (4607182418800017408 : UInt64)) := (F15.keep K72 (ninS (Nat.ne_of_gt lt20) (ninS (Nat.ne_of_gt lt28) (ninS (Nat.ne_of_gt lt27) (ninS (Nat.ne_of_gt lt26) (ninS (Nat.ne_of_gt lt25) (ninS (Nat.ne_of_gt lt24) (ninS (Nat.ne_of_gt lt23) (ninS (Nat.ne_of_gt lt22) (ninS (Nat.ne_of_gt lt21) nin0))))))))))
  have F98 : Fld Z h72 a11 "com/example/rankline/rankline/Extent" "gapHigh" "D" (.double (4607182418800017408 : UInt64)) := (F16.keep K72 (ninS (Nat.ne_of_gt lt20) (ninS (Nat.ne_of_gt lt28) (ninS (Nat.ne_of_gt lt27) (ninS (Nat.ne_of_gt lt26) (ninS (Nat.ne_of_gt lt25) (ninS (Nat.ne_of_gt lt24) (ninS (Nat.ne_of_gt lt23) (ninS (Nat.ne_of_gt lt22) (ninS (Nat.ne_of_gt lt21) nin0))))))))))
  have F99 : Fld Z h72 a11 "com/example/rankline/rankline/Extent" "high" "D" (.double (4607182418800017408 : UInt64)) := (F17.keep K72 (ninS (Nat.ne_of_gt lt20) (ninS (Nat.ne_of_gt lt28) (ninS (Nat.ne_of_gt lt27) (ninS (Nat.ne_of_gt lt26) (ninS (Nat.ne_of_gt lt25) (ninS (Nat.ne_of_gt lt24) (ninS (Nat.ne_of_gt lt23) (ninS (Nat.ne_of_gt lt22) (ninS (Nat.ne_of_gt lt21) nin0))))))))))
  have F100 : Fld Z h72 a11 "com/example/rankline/rankline/Extent" "below" "D" (.double f9) := (F18.keep K72 (ninS (Nat.ne_of_gt lt20) (ninS (Nat.ne_of_gt lt28) (ninS (Nat.ne_of_gt lt27) (ninS (Nat.ne_of_gt lt26) (ninS (Nat.ne_of_gt lt25) (ninS (Nat.ne_of_gt lt24) (ninS (Nat.ne_of_gt lt23) (ninS (Nat.ne_of_gt lt22) (ninS (Nat.ne_of_gt lt21) nin0))))))))))
  have F101 : Fld Z h72 a11 "com/example/rankline/rankline/Extent" "count" "D" (.double f9) := (F19.keep K72 (ninS (Nat.ne_of_gt lt20) (ninS (Nat.ne_of_gt lt28) (ninS (Nat.ne_of_gt lt27) (ninS (Nat.ne_of_gt lt26) (ninS (Nat.ne_of_gt lt25) (ninS (Nat.ne_of_gt lt24) (ninS (Nat.ne_of_gt lt23) (ninS (Nat.ne_of_gt lt22) (ninS (Nat.ne_of_gt lt21) nin0))))))))))
  exact own_ret0 X72 hx hlk hret (hb hby d3_57) e72 ⟨a11, f9, rfl, N72', (((Keep.refl _ _).trans K10 all0).trans K72 (allS (Or.inl (by simp)) (allS (Or.inl (by simp)) (allS (Or.inl (by simp)) (allS (Or.inl (by simp)) (allS (Or.inl (by simp)) (allS (Or.inl (by simp)) (allS (Or.inl (by simp)) (allS (Or.inl (by simp)) (allS (Or.inl (by simp)) all0)))))))))), ge31, F73, F74, F75, F76, F77, F78, F79, F80, F81, F82, F83, F84, F85, F86, F87, F88, F89, F90, F91, F92, F93, F94, F95, F96, F97, F98, F99, F100, F101, Df9⟩ (by decide) (by decide)
def own_s22_Q (Z : State) (a2 : Addr) (h0 : Heap) (n0 : Nat) (v_ : Option Value) (h_ : Heap) (L_ : List Loc) : Prop := (fun v h L => v = none ∧ Fr n0 L ∧ h = h0) v_ h_ L_
set_option maxRecDepth 65536 in
set_option maxHeartbeats 40000000 in
theorem own_s22 (l : Launch) (Z : State) (a0 : Array Value) (hw : ∀ d ∈ tables_1, d.before a0 Z = true) (wds : List Jvm.Cond) (a2 : Addr) (h0 : Heap) (n0 : Nat) (Z0 : n0 ≤ h0.size)  :
    MetFree l (⟨"java/lang/Record", "<init>", "()V"⟩ : MethodName) (head1 (Jvm.Cond.code (⟨"java/lang/Record", "<init>", "()V"⟩ : MethodName) jdk_30_method_1_code 1 none :: wds) ({ frames := 1, cells := 0, slots := 0, locals := 12 } : Room)) (fun ar_ U_ => ar_ = #[(.ref a2)] ∧ Z.Warmed39 U_.vm ∧ U_.heap = h0) (fun _ _ _ _ _ => True) (fun _ U_ o_ V_ => ∃ v_ L_, o_ = .returned v_ ∧ own_s22_Q Z a2 h0 n0 v_ V_.heap L_ ∧ FrameEnd U_ o_ V_ L_ ({ frames := 1, cells := 0, slots := 0, locals := 12 } : Room).cells ({ frames := 1, cells := 0, slots := 0, locals := 12 } : Room).slots) := by
  refine own_met (y := ⟨"java/lang/Record", "<init>", "()V"⟩) (Q := own_s22_Q Z a2 h0 n0) own_pn3 ?_
  intro p e s m below meth c s₁ hx hby hml hZ hown hnm hret hlk X0 e0
  have N0 := Fr.nil n0
  refine own_cast (g' := (mkF m 0 #[.val (.ref a2)] [])) (by first | (simp [entryFrame, mkF, argsToLocals, Value.category]; done) | rfl) ?_
  refine own_pre (T' := s₁) (g' := (mkF m 1 #[.val (.ref a2)] [(.ref a2)])) (fun t k => XS.aloadN X0.here hx rfl (v := (.ref a2)) (hb hby d6_0) rfl rfl k) ?_
  refine own_init0 X0 hx hZ hown (own_w hw 65 rfl) (own_w hw 10 rfl) (own_w hw 11 rfl) e0 (hb hby d6_1) (by rw [hml]; rfl) (by decide) (W := 0) (Nat.le_of_eq rfl) (by decide) ?_
  intro T1 X1 e1
  show own_Go _ _ _ _ _ _ _ T1 (mkF m 4 #[.val (.ref a2)] [])
  exact own_ret0 X1 hx hlk hret (hb hby d6_4) e1 ⟨rfl, N0, rfl⟩ (by decide) (by decide)
def own_s21_Q (Z : State) (a2 : Addr) (f9 : UInt64) (h0 : Heap) (n0 : Nat) (v_ : Option Value) (h_ : Heap) (L_ : List Loc) : Prop := (fun v h L => v = none ∧ Fr n0 L ∧ Keep h0 h [a2] ∧ Fld Z h a2 "com/example/rankline/rankline/Extent" "low" "D" (.double (4607182418800017408 : UInt64)) ∧ Fld Z h a2 "com/example/rankline/rankline/Extent" "gapLow" "D" (.double (4611686018427387904 : UInt64)) ∧ Fld Z h a2 "com/example/rankline/rankline/Extent" "gapHigh" "D" (.double (4611686018427387904 : UInt64)) ∧ Fld Z h a2 "com/example/rankline/rankline/Extent" "high" "D" (.double (4611686018427387904 : UInt64)) ∧ Fld Z h a2 "com/example/rankline/rankline/Extent" "below" "D" (.double f9) ∧ Fld Z h a2 "com/example/rankline/rankline/Extent" "count" "D" (.double f9)) v_ h_ L_
set_option maxRecDepth 65536 in
set_option maxHeartbeats 40000000 in
theorem own_s21 (l : Launch) (Z : State) (a0 : Array Value) (hw : ∀ d ∈ tables_1, d.before a0 Z = true) (wds : List Jvm.Cond) (a2 : Addr) (f9 : UInt64) (h0 : Heap) (n0 : Nat) (Z0 : n0 ≤ h0.size) (H1 : Exa Z h0 a2 "com/example/rankline/rankline/Extent") (H2 : Fld Z h0 a2 "com/example/rankline/rankline/Extent" "low" "D" (.double (0 : UInt64))) (H3 : Fld Z h0 a2 "com/example/rankline/rankline/Extent" "gapLow" "D" (.double (0 : UInt64))) (H4 : Fld Z h0 a2 "com/example/rankline/rankline/Extent" "gapHigh" "D" (.double (0 : UInt64))) (H5 : Fld Z h0 a2 "com/example/rankline/rankline/Extent" "high" "D" (.double (0 : UInt64))) (H6 : Fld Z h0 a2 "com/example/rankline/rankline/Extent" "below" "D" (.double (0 : UInt64))) (H7 : Fld Z h0 a2 "com/example/rankline/rankline/Extent" "count" "D" (.double (0 : UInt64))) (H8 : n0 ≤ a2) :
    MetFree l (⟨"com/example/rankline/rankline/Extent", "<init>", "(DDDDDD)V"⟩ : MethodName) (head1 (Jvm.Cond.code (⟨"com/example/rankline/rankline/Extent", "<init>", "(DDDDDD)V"⟩ : MethodName) prog_17_method_1_code 13 none :: wds) ({ frames := 2, cells := 0, slots := 0, locals := 24 } : Room)) (fun ar_ U_ => ar_ = #[(.ref a2), (.double (4607182418800017408 : UInt64)), (.double (4611686018427387904 : UInt64)), (.double (4611686018427387904 : UInt64)), (.double (4611686018427387904 : UInt64)), (.double f9), (.double f9)] ∧ Z.Warmed39 U_.vm ∧ U_.heap = h0) (fun _ _ _ _ _ => True) (fun _ U_ o_ V_ => ∃ v_ L_, o_ = .returned v_ ∧ own_s21_Q Z a2 f9 h0 n0 v_ V_.heap L_ ∧ FrameEnd U_ o_ V_ L_ ({ frames := 2, cells := 0, slots := 0, locals := 24 } : Room).cells ({ frames := 2, cells := 0, slots := 0, locals := 24 } : Room).slots) := by
  refine own_met (y := ⟨"com/example/rankline/rankline/Extent", "<init>", "(DDDDDD)V"⟩) (Q := own_s21_Q Z a2 f9 h0 n0) own_pn2 ?_
  intro p e s m below meth c s₁ hx hby hml hZ hown hnm hret hlk X0 e0
  have N0 := Fr.nil n0
  refine own_cast (g' := (mkF m 0 #[.val (.ref a2), .val (.double (4607182418800017408 : UInt64)), .second, .val (.double (4611686018427387904 : UInt64)), .second, .val (.double (4611686018427387904 : UInt64)), .second, .val (.double (4611686018427387904 : UInt64)), .second, .val (.double f9), .second, .val (.double f9), .second] [])) (by first | (simp [entryFrame, mkF, argsToLocals, Value.category]; done) | rfl) ?_
  generalize hL1 : (#[.val (.ref a2), .val (.double (4607182418800017408 : UInt64)), .second, .val (.double (4611686018427387904 : UInt64)), .second, .val (.double (4611686018427387904 : UInt64)), .second, .val (.double (4611686018427387904 : UInt64)), .second, .val (.double f9), .second, .val (.double f9), .second] : Array Slot) = L1
  refine own_pre (T' := s₁) (g' := (mkF m 1 L1 [(.ref a2)])) (fun t k => XS.aloadN X0.here hx rfl (v := (.ref a2)) (hb hby d5_0) (by rw [← hL1]; rfl) rfl k) ?_
  refine own_init (a := a2) (argsL := []) (rest := []) X0 hx hZ hown (own_s22 l Z a0 hw [] a2 h0 n0 Z0 ) rfl (own_w hw 60 rfl) (own_w hw 61 rfl) (own_w hw 64 rfl) (own_w hw 63 rfl) (by decide) e0 (hb hby d5_1) (by rw [hml, ← hL1]; rfl) rfl (lenOf own_pd0 rfl) (by decide) (W := 0) (Nat.le_of_eq rfl) (by decide) (by decide) (by decide) ?_
  intro v2 T2 lo2 X2 Q2
  obtain ⟨h2, e2⟩ : ∃ h, T2.heap = h := ⟨_, rfl⟩
  rw [e2] at Q2
  obtain ⟨rfl, N2, K2⟩ := Q2
  have N2' := Fr.app N0 N2
  have e2' : T2.heap = h0 := e2.trans K2
  show own_Go _ _ _ _ _ _ _ T2 (mkF m 4 L1 [])
  refine own_pre (T' := T2) (g' := (mkF m 5 L1 [(.ref a2)])) (fun t k => XS.aloadN X2.here hx rfl (v := (.ref a2)) (hb hby d5_4) (by rw [← hL1]; rfl) rfl k) ?_
  refine own_pre (T' := T2) (g' := (mkF m 6 L1 [(.double (4607182418800017408 : UInt64)), (.ref a2)])) (fun t k => XS.dloadN X2.here hx rfl (v := (4607182418800017408 : UInt64)) (hb hby d5_5) (by rw [← hL1]; rfl) k) ?_
  refine own_putf X2 hx hZ hown (own_w hw 66 rfl) e2' N2' H8 H2 H1 (Or.inr ⟨(own_w hw 67 rfl), rfl, hnm⟩) (own_w hw 56 rfl) (ty := .double) (by decide) rfl rfl (hb hby d5_6) ?_
  intro T3 h3 lo3 X3 e3 N3 W3
  have F4 : Fld Z h3 a2 "com/example/rankline/rankline/Extent" "low" "D" (.double (4607182418800017408 : UInt64)) := H2.same W3
  show own_Go _ _ _ _ _ _ _ T3 (mkF m 9 L1 [])
  refine own_pre (T' := T3) (g' := (mkF m 10 L1 [(.ref a2)])) (fun t k => XS.aloadN X3.here hx rfl (v := (.ref a2)) (hb hby d5_9) (by rw [← hL1]; rfl) rfl k) ?_
  refine own_pre (T' := T3) (g' := (mkF m 11 L1 [(.double (4611686018427387904 : UInt64)), (.ref a2)])) (fun t k => XS.dloadN X3.here hx rfl (v := (4611686018427387904 : UInt64)) (hb hby d5_10) (by rw [← hL1]; rfl) k) ?_
  have F5 : Fld Z h3 a2 "com/example/rankline/rankline/Extent" "gapLow" "D" (.double (0 : UInt64)) := (H3.other W3 (Or.inr (slot_ne (C := "com/example/rankline/rankline/Extent") (Or.inr (own_w hw 69 rfl)) (Or.inr (own_w hw 67 rfl)) (by decide) (t := .double) (t' := .double) (by decide) (by decide))))
  have F6 : Exa Z h3 a2 "com/example/rankline/rankline/Extent" := (H1.wr W3)
  refine own_putf X3 hx hZ hown (own_w hw 68 rfl) e3 N3 H8 F5 F6 (Or.inr ⟨(own_w hw 69 rfl), rfl, hnm⟩) (own_w hw 56 rfl) (ty := .double) (by decide) rfl rfl (hb hby d5_11) ?_
  intro T7 h7 lo7 X7 e7 N7 W7
  have F8 : Fld Z h7 a2 "com/example/rankline/rankline/Extent" "gapLow" "D" (.double (4611686018427387904 : UInt64)) := F5.same W7
  show own_Go _ _ _ _ _ _ _ T7 (mkF m 14 L1 [])
  refine own_pre (T' := T7) (g' := (mkF m 15 L1 [(.ref a2)])) (fun t k => XS.aloadN X7.here hx rfl (v := (.ref a2)) (hb hby d5_14) (by rw [← hL1]; rfl) rfl k) ?_
  refine own_pre (T' := T7) (g' := (mkF m 17 L1 [(.double (4611686018427387904 : UInt64)), (.ref a2)])) (fun t k => XS.dload X7.here hx rfl (v := (4611686018427387904 : UInt64)) (hb hby d5_15) (by rw [← hL1]; rfl) k) ?_
  have F9 : Fld Z h7 a2 "com/example/rankline/rankline/Extent" "gapHigh" "D" (.double (0 : UInt64)) := ((H4.other W3 (Or.inr (slot_ne (C := "com/example/rankline/rankline/Extent") (Or.inr (own_w hw 71 rfl)) (Or.inr (own_w hw 67 rfl)) (by decide) (t := .double) (t' := .double) (by decide) (by decide)))).other W7 (Or.inr (slot_ne (C := "com/example/rankline/rankline/Extent") (Or.inr (own_w hw 71 rfl)) (Or.inr (own_w hw 69 rfl)) (by decide) (t := .double) (t' := .double) (by decide) (by decide))))
  have F10 : Exa Z h7 a2 "com/example/rankline/rankline/Extent" := (F6.wr W7)
  refine own_putf X7 hx hZ hown (own_w hw 70 rfl) e7 N7 H8 F9 F10 (Or.inr ⟨(own_w hw 71 rfl), rfl, hnm⟩) (own_w hw 56 rfl) (ty := .double) (by decide) rfl rfl (hb hby d5_17) ?_
  intro T11 h11 lo11 X11 e11 N11 W11
  have F12 : Fld Z h11 a2 "com/example/rankline/rankline/Extent" "gapHigh" "D" (.double (4611686018427387904 : UInt64)) := F9.same W11
  show own_Go _ _ _ _ _ _ _ T11 (mkF m 20 L1 [])
  refine own_pre (T' := T11) (g' := (mkF m 21 L1 [(.ref a2)])) (fun t k => XS.aloadN X11.here hx rfl (v := (.ref a2)) (hb hby d5_20) (by rw [← hL1]; rfl) rfl k) ?_
  refine own_pre (T' := T11) (g' := (mkF m 23 L1 [(.double (4611686018427387904 : UInt64)), (.ref a2)])) (fun t k => XS.dload X11.here hx rfl (v := (4611686018427387904 : UInt64)) (hb hby d5_21) (by rw [← hL1]; rfl) k) ?_
  have F13 : Fld Z h11 a2 "com/example/rankline/rankline/Extent" "high" "D" (.double (0 : UInt64)) := (((H5.other W3 (Or.inr (slot_ne (C := "com/example/rankline/rankline/Extent") (Or.inr (own_w hw 73 rfl)) (Or.inr (own_w hw 67 rfl)) (by decide) (t := .double) (t' := .double) (by decide) (by decide)))).other W7 (Or.inr (slot_ne (C := "com/example/rankline/rankline/Extent") (Or.inr (own_w hw 73 rfl)) (Or.inr (own_w hw 69 rfl)) (by decide) (t := .double) (t' := .double) (by decide) (by decide)))).other W11 (Or.inr (slot_ne (C := "com/example/rankline/rankline/Extent") (Or.inr (own_w hw 73 rfl)) (Or.inr (own_w hw 71 rfl)) (by decide) (t := .double) (t' := .double) (by decide) (by decide))))
  have F14 : Exa Z h11 a2 "com/example/rankline/rankline/Extent" := (F10.wr W11)
  refine own_putf X11 hx hZ hown (own_w hw 72 rfl) e11 N11 H8 F13 F14 (Or.inr ⟨(own_w hw 73 rfl), rfl, hnm⟩) (own_w hw 56 rfl) (ty := .double) (by decide) rfl rfl (hb hby d5_23) ?_
  intro T15 h15 lo15 X15 e15 N15 W15
  have F16 : Fld Z h15 a2 "com/example/rankline/rankline/Extent" "high" "D" (.double (4611686018427387904 : UInt64)) := F13.same W15
  show own_Go _ _ _ _ _ _ _ T15 (mkF m 26 L1 [])
  refine own_pre (T' := T15) (g' := (mkF m 27 L1 [(.ref a2)])) (fun t k => XS.aloadN X15.here hx rfl (v := (.ref a2)) (hb hby d5_26) (by rw [← hL1]; rfl) rfl k) ?_
  refine own_pre (T' := T15) (g' := (mkF m 29 L1 [(.double f9), (.ref a2)])) (fun t k => XS.dload X15.here hx rfl (v := f9) (hb hby d5_27) (by rw [← hL1]; rfl) k) ?_
  have F17 : Fld Z h15 a2 "com/example/rankline/rankline/Extent" "below" "D" (.double (0 : UInt64)) := ((((H6.other W3 (Or.inr (slot_ne (C := "com/example/rankline/rankline/Extent") (Or.inr (own_w hw 75 rfl)) (Or.inr (own_w hw 67 rfl)) (by decide) (t := .double) (t' := .double) (by decide) (by decide)))).other W7 (Or.inr (slot_ne (C := "com/example/rankline/rankline/Extent") (Or.inr (own_w hw 75 rfl)) (Or.inr (own_w hw 69 rfl)) (by decide) (t := .double) (t' := .double) (by decide) (by decide)))).other W11 (Or.inr (slot_ne (C := "com/example/rankline/rankline/Extent") (Or.inr (own_w hw 75 rfl)) (Or.inr (own_w hw 71 rfl)) (by decide) (t := .double) (t' := .double) (by decide) (by decide)))).other W15 (Or.inr (slot_ne (C := "com/example/rankline/rankline/Extent") (Or.inr (own_w hw 75 rfl)) (Or.inr (own_w hw 73 rfl)) (by decide) (t := .double) (t' := .double) (by decide) (by decide))))
  have F18 : Exa Z h15 a2 "com/example/rankline/rankline/Extent" := (F14.wr W15)
  refine own_putf X15 hx hZ hown (own_w hw 74 rfl) e15 N15 H8 F17 F18 (Or.inr ⟨(own_w hw 75 rfl), rfl, hnm⟩) (own_w hw 56 rfl) (ty := .double) (by decide) rfl rfl (hb hby d5_29) ?_
  intro T19 h19 lo19 X19 e19 N19 W19
  have F20 : Fld Z h19 a2 "com/example/rankline/rankline/Extent" "below" "D" (.double f9) := F17.same W19
  show own_Go _ _ _ _ _ _ _ T19 (mkF m 32 L1 [])
  refine own_pre (T' := T19) (g' := (mkF m 33 L1 [(.ref a2)])) (fun t k => XS.aloadN X19.here hx rfl (v := (.ref a2)) (hb hby d5_32) (by rw [← hL1]; rfl) rfl k) ?_
  refine own_pre (T' := T19) (g' := (mkF m 35 L1 [(.double f9), (.ref a2)])) (fun t k => XS.dload X19.here hx rfl (v := f9) (hb hby d5_33) (by rw [← hL1]; rfl) k) ?_
  have F21 : Fld Z h19 a2 "com/example/rankline/rankline/Extent" "count" "D" (.double (0 : UInt64)) := (((((H7.other W3 (Or.inr (slot_ne (C := "com/example/rankline/rankline/Extent") (Or.inr (own_w hw 77 rfl)) (Or.inr (own_w hw 67 rfl)) (by decide) (t := .double) (t' := .double) (by decide) (by decide)))).other W7 (Or.inr (slot_ne (C := "com/example/rankline/rankline/Extent") (Or.inr (own_w hw 77 rfl)) (Or.inr (own_w hw 69 rfl)) (by decide) (t := .double) (t' := .double) (by decide) (by decide)))).other W11 (Or.inr (slot_ne (C := "com/example/rankline/rankline/Extent") (Or.inr (own_w hw 77 rfl)) (Or.inr (own_w hw 71 rfl)) (by decide) (t := .double) (t' := .double) (by decide) (by decide)))).other W15 (Or.inr (slot_ne (C := "com/example/rankline/rankline/Extent") (Or.inr (own_w hw 77 rfl)) (Or.inr (own_w hw 73 rfl)) (by decide) (t := .double) (t' := .double) (by decide) (by decide)))).other W19 (Or.inr (slot_ne (C := "com/example/rankline/rankline/Extent") (Or.inr (own_w hw 77 rfl)) (Or.inr (own_w hw 75 rfl)) (by decide) (t := .double) (t' := .double) (by decide) (by decide))))
  have F22 : Exa Z h19 a2 "com/example/rankline/rankline/Extent" := (F18.wr W19)
  refine own_putf X19 hx hZ hown (own_w hw 76 rfl) e19 N19 H8 F21 F22 (Or.inr ⟨(own_w hw 77 rfl), rfl, hnm⟩) (own_w hw 56 rfl) (ty := .double) (by decide) rfl rfl (hb hby d5_35) ?_
  intro T23 h23 lo23 X23 e23 N23 W23
  have F24 : Fld Z h23 a2 "com/example/rankline/rankline/Extent" "count" "D" (.double f9) := F21.same W23
  show own_Go _ _ _ _ _ _ _ T23 (mkF m 38 L1 [])
  have F25 : Fld Z h23 a2 "com/example/rankline/rankline/Extent" "low" "D" (.double (4607182418800017408 : UInt64)) := (((((F4.other W7 (Or.inr (slot_ne (C := "com/example/rankline/rankline/Extent") (Or.inr (own_w hw 67 rfl)) (Or.inr (own_w hw 69 rfl)) (by decide) (t := .double) (t' := .double) (by decide) (by decide)))).other W11 (Or.inr (slot_ne (C := "com/example/rankline/rankline/Extent") (Or.inr (own_w hw 67 rfl)) (Or.inr (own_w hw 71 rfl)) (by decide) (t := .double) (t' := .double) (by decide) (by decide)))).other W15 (Or.inr (slot_ne (C := "com/example/rankline/rankline/Extent") (Or.inr (own_w hw 67 rfl)) (Or.inr (own_w hw 73 rfl)) (by decide) (t := .double) (t' := .double) (by decide) (by decide)))).other W19 (Or.inr (slot_ne (C := "com/example/rankline/rankline/Extent") (Or.inr (own_w hw 67 rfl)) (Or.inr (own_w hw 75 rfl)) (by decide) (t := .double) (t' := .double) (by decide) (by decide)))).other W23 (Or.inr (slot_ne (C := "com/example/rankline/rankline/Extent") (Or.inr (own_w hw 67 rfl)) (Or.inr (own_w hw 77 rfl)) (by decide) (t := .double) (t' := .double) (by decide) (by decide))))
  have F26 : Fld Z h23 a2 "com/example/rankline/rankline/Extent" "gapLow" "D" (.double (4611686018427387904 : UInt64)) := ((((F8.other W11 (Or.inr (slot_ne (C := "com/example/rankline/rankline/Extent") (Or.inr (own_w hw 69 rfl)) (Or.inr (own_w hw 71 rfl)) (by decide) (t := .double) (t' := .double) (by decide) (by decide)))).other W15 (Or.inr (slot_ne (C := "com/example/rankline/rankline/Extent") (Or.inr (own_w hw 69 rfl)) (Or.inr (own_w hw 73 rfl)) (by decide) (t := .double) (t' := .double) (by decide) (by decide)))).other W19 (Or.inr (slot_ne (C := "com/example/rankline/rankline/Extent") (Or.inr (own_w hw 69 rfl)) (Or.inr (own_w hw 75 rfl)) (by decide) (t := .double) (t' := .double) (by decide) (by decide)))).other W23 (Or.inr (slot_ne (C := "com/example/rankline/rankline/Extent") (Or.inr (own_w hw 69 rfl)) (Or.inr (own_w hw 77 rfl)) (by decide) (t := .double) (t' := .double) (by decide) (by decide))))
  have F27 : Fld Z h23 a2 "com/example/rankline/rankline/Extent" "gapHigh" "D" (.double (4611686018427387904 : UInt64)) := (((F12.other W15 (Or.inr (slot_ne (C := "com/example/rankline/rankline/Extent") (Or.inr (own_w hw 71 rfl)) (Or.inr (own_w hw 73 rfl)) (by decide) (t := .double) (t' := .double) (by decide) (by decide)))).other W19 (Or.inr (slot_ne (C := "com/example/rankline/rankline/Extent") (Or.inr (own_w hw 71 rfl)) (Or.inr (own_w hw 75 rfl)) (by decide) (t := .double) (t' := .double) (by decide) (by decide)))).other W23 (Or.inr (slot_ne (C := "com/example/rankline/rankline/Extent") (Or.inr (own_w hw 71 rfl)) (Or.inr (own_w hw 77 rfl)) (by decide) (t := .double) (t' := .double) (by decide) (by decide))))
  have F28 : Fld Z h23 a2 "com/example/rankline/rankline/Extent" "high" "D" (.double (4611686018427387904 : UInt64)) := ((F16.other W19 (Or.inr (slot_ne (C := "com/example/rankline/rankline/Extent") (Or.inr (own_w hw 73 rfl)) (Or.inr (own_w hw 75 rfl)) (by decide) (t := .double) (t' := .double) (by decide) (by decide)))).other W23 (Or.inr (slot_ne (C := "com/example/rankline/rankline/Extent") (Or.inr (own_w hw 73 rfl)) (Or.inr (own_w hw 77 rfl)) (by decide) (t := .double) (t' := .double) (by decide) (by decide))))
  have F29 : Fld Z h23 a2 "com/example/rankline/rankline/Extent" "below" "D" (.double f9) := (F20.other W23 (Or.inr (slot_ne (C := "com/example/rankline/rankline/Extent") (Or.inr (own_w hw 75 rfl)) (Or.inr (own_w hw 77 rfl)) (by decide) (t := .double) (t' := .double) (by decide) (by decide))))
  exact own_ret0 X23 hx hlk hret (hb hby d5_38) e23 ⟨rfl, N23, (((((((Keep.refl _ _).wr W3 (Or.inl (by simp))).wr W7 (Or.inl (by simp))).wr W11 (Or.inl (by simp))).wr W15 (Or.inl (by simp))).wr W19 (Or.inl (by simp))).wr W23 (Or.inl (by simp))), F25, F26, F27, F28, F29, F24⟩ (by decide) (by decide)
def own_s20_Q (Z : State) (f9 : UInt64) (h0 : Heap) (n0 : Nat) (v_ : Option Value) (h_ : Heap) (L_ : List Loc) : Prop := (fun v h L => ∃ (a2 : Addr), v = some (.ref a2) ∧ Fr n0 L ∧ Keep h0 h [] ∧ h0.size ≤ a2 ∧ Exa Z h a2 "com/example/rankline/rankline/Extent" ∧ Fld Z h a2 "com/example/rankline/rankline/Extent" "low" "D" (.double (4607182418800017408 : UInt64)) ∧ Fld Z h a2 "com/example/rankline/rankline/Extent" "gapLow" "D" (.double (4611686018427387904 : UInt64)) ∧ Fld Z h a2 "com/example/rankline/rankline/Extent" "gapHigh" "D" (.double (4611686018427387904 : UInt64)) ∧ Fld Z h a2 "com/example/rankline/rankline/Extent" "high" "D" (.double (4611686018427387904 : UInt64)) ∧ Fld Z h a2 "com/example/rankline/rankline/Extent" "below" "D" (.double f9) ∧ Fld Z h a2 "com/example/rankline/rankline/Extent" "count" "D" (.double f9)) v_ h_ L_
set_option maxRecDepth 65536 in
set_option maxHeartbeats 40000000 in
theorem own_s20 (l : Launch) (Z : State) (a0 : Array Value) (hw : ∀ d ∈ tables_1, d.before a0 Z = true) (wds : List Jvm.Cond) (f9 : UInt64) (h0 : Heap) (n0 : Nat) (Z0 : n0 ≤ h0.size)  :
    MetFree l (⟨"com/example/rankline/rankline/Extent", "of", "(DDD)Lcom/example/rankline/rankline/Extent;"⟩ : MethodName) (head1 (Jvm.Cond.code (⟨"com/example/rankline/rankline/Extent", "of", "(DDD)Lcom/example/rankline/rankline/Extent;"⟩ : MethodName) prog_17_method_2_code 6 (some (.object "com/example/rankline/rankline/Extent")) :: wds) ({ frames := 3, cells := 1, slots := 6, locals := 49 } : Room)) (fun ar_ U_ => ar_ = #[(.double (4607182418800017408 : UInt64)), (.double (4611686018427387904 : UInt64)), (.double f9)] ∧ Z.Warmed39 U_.vm ∧ U_.heap = h0) (fun _ _ _ _ _ => True) (fun _ U_ o_ V_ => ∃ v_ L_, o_ = .returned v_ ∧ own_s20_Q Z f9 h0 n0 v_ V_.heap L_ ∧ FrameEnd U_ o_ V_ L_ ({ frames := 3, cells := 1, slots := 6, locals := 49 } : Room).cells ({ frames := 3, cells := 1, slots := 6, locals := 49 } : Room).slots) := by
  refine own_met (y := ⟨"com/example/rankline/rankline/Extent", "of", "(DDD)Lcom/example/rankline/rankline/Extent;"⟩) (Q := own_s20_Q Z f9 h0 n0) own_pn2 ?_
  intro p e s m below meth c s₁ hx hby hml hZ hown hnm hret hlk X0 e0
  have N0 := Fr.nil n0
  refine own_cast (g' := (mkF m 0 #[.val (.double (4607182418800017408 : UInt64)), .second, .val (.double (4611686018427387904 : UInt64)), .second, .val (.double f9), .second] [])) (by first | (simp [entryFrame, mkF, argsToLocals, Value.category]; done) | rfl) ?_
  generalize hL1 : (#[.val (.double (4607182418800017408 : UInt64)), .second, .val (.double (4611686018427387904 : UInt64)), .second, .val (.double f9), .second] : Array Slot) = L1
  refine own_newobj X0 hx hZ hown (own_w hw 55 rfl) (own_w hw 56 rfl) (own_w hw 53 rfl) e0 (hb hby d4_0) (by decide) (by decide) ?_
  intro T2 h2 a2 g2 X2 e2 E2 A2 D2
  have ge3 : h0.size ≤ a2 := Nat.le_trans (Nat.le_refl _) (Nat.le_of_eq g2.symm)
  have nw4 : n0 ≤ a2 := Nat.le_trans Z0 (Nat.le_of_eq g2.symm)
  have F5 : Fld Z h2 a2 "com/example/rankline/rankline/Extent" "low" "D" (.double (0 : UInt64)) := D2 (Or.inr (own_w hw 67 rfl)) (ty := .double) (by decide)
  have F6 : Fld Z h2 a2 "com/example/rankline/rankline/Extent" "gapLow" "D" (.double (0 : UInt64)) := D2 (Or.inr (own_w hw 69 rfl)) (ty := .double) (by decide)
  have F7 : Fld Z h2 a2 "com/example/rankline/rankline/Extent" "gapHigh" "D" (.double (0 : UInt64)) := D2 (Or.inr (own_w hw 71 rfl)) (ty := .double) (by decide)
  have F8 : Fld Z h2 a2 "com/example/rankline/rankline/Extent" "high" "D" (.double (0 : UInt64)) := D2 (Or.inr (own_w hw 73 rfl)) (ty := .double) (by decide)
  have F9 : Fld Z h2 a2 "com/example/rankline/rankline/Extent" "below" "D" (.double (0 : UInt64)) := D2 (Or.inr (own_w hw 75 rfl)) (ty := .double) (by decide)
  have F10 : Fld Z h2 a2 "com/example/rankline/rankline/Extent" "count" "D" (.double (0 : UInt64)) := D2 (Or.inr (own_w hw 77 rfl)) (ty := .double) (by decide)
  show own_Go _ _ _ _ _ _ _ T2 (mkF m 3 L1 [(.ref a2)])
  refine own_pre (T' := T2) (g' := (mkF m 4 L1 [(.ref a2), (.ref a2)])) (fun t k => XS.dup X2.here hx rfl (hb hby d4_3) rfl rfl k) ?_
  refine own_pre (T' := T2) (g' := (mkF m 5 L1 [(.double (4607182418800017408 : UInt64)), (.ref a2), (.ref a2)])) (fun t k => XS.dloadN X2.here hx rfl (v := (4607182418800017408 : UInt64)) (hb hby d4_4) (by rw [← hL1]; rfl) k) ?_
  refine own_pre (T' := T2) (g' := (mkF m 6 L1 [(.double (4611686018427387904 : UInt64)), (.double (4607182418800017408 : UInt64)), (.ref a2), (.ref a2)])) (fun t k => XS.dloadN X2.here hx rfl (v := (4611686018427387904 : UInt64)) (hb hby d4_5) (by rw [← hL1]; rfl) k) ?_
  refine own_pre (T' := T2) (g' := (mkF m 7 L1 [(.double (4611686018427387904 : UInt64)), (.double (4611686018427387904 : UInt64)), (.double (4607182418800017408 : UInt64)), (.ref a2), (.ref a2)])) (fun t k => XS.dloadN X2.here hx rfl (v := (4611686018427387904 : UInt64)) (hb hby d4_6) (by rw [← hL1]; rfl) k) ?_
  refine own_pre (T' := T2) (g' := (mkF m 8 L1 [(.double (4611686018427387904 : UInt64)), (.double (4611686018427387904 : UInt64)), (.double (4611686018427387904 : UInt64)), (.double (4607182418800017408 : UInt64)), (.ref a2), (.ref a2)])) (fun t k => XS.dloadN X2.here hx rfl (v := (4611686018427387904 : UInt64)) (hb hby d4_7) (by rw [← hL1]; rfl) k) ?_
  refine own_pre (T' := T2) (g' := (mkF m 10 L1 [(.double f9), (.double (4611686018427387904 : UInt64)), (.double (4611686018427387904 : UInt64)), (.double (4611686018427387904 : UInt64)), (.double (4607182418800017408 : UInt64)), (.ref a2), (.ref a2)])) (fun t k => XS.dload X2.here hx rfl (v := f9) (hb hby d4_8) (by rw [← hL1]; rfl) k) ?_
  refine own_pre (T' := T2) (g' := (mkF m 12 L1 [(.double f9), (.double f9), (.double (4611686018427387904 : UInt64)), (.double (4611686018427387904 : UInt64)), (.double (4611686018427387904 : UInt64)), (.double (4607182418800017408 : UInt64)), (.ref a2), (.ref a2)])) (fun t k => XS.dload X2.here hx rfl (v := f9) (hb hby d4_10) (by rw [← hL1]; rfl) k) ?_
  have F11 : n0 ≤ h2.size := (Nat.le_trans Z0 E2.1)
  refine own_init (a := a2) (argsL := [(.double (4607182418800017408 : UInt64)), (.double (4611686018427387904 : UInt64)), (.double (4611686018427387904 : UInt64)), (.double (4611686018427387904 : UInt64)), (.double f9), (.double f9)]) (rest := [(.ref a2)]) X2 hx hZ hown (own_s21 l Z a0 hw [] a2 f9 h2 n0 F11 A2 F5 F6 F7 F8 F9 F10 nw4) rfl (own_w hw 57 rfl) (own_w hw 58 rfl) (own_w hw 59 rfl) (own_w hw 53 rfl) (by decide) e2 (hb hby d4_12) (by rw [hml, ← hL1]; rfl) rfl (lenOf own_pd1 rfl) (by decide) (W := 1) (Nat.le_of_eq rfl) (by decide) (by decide) (by decide) ?_
  intro v12 T12 lo12 X12 Q12
  obtain ⟨h12, e12⟩ : ∃ h, T12.heap = h := ⟨_, rfl⟩
  rw [e12] at Q12
  obtain ⟨rfl, N12, K12, F13, F14, F15, F16, F17, F18⟩ := Q12
  have N12' := Fr.app N0 N12
  show own_Go _ _ _ _ _ _ _ T12 (mkF m 15 L1 [(.ref a2)])
  have F19 : Exa Z h12 a2 "com/example/rankline/rankline/Extent" := (A2.keep K12)
  exact own_retA X12 hx hlk hret rfl rfl rfl (hb hby d4_15) e12 ⟨a2, rfl, N12', (((Keep.refl _ _).ext E2).trans K12 (allS (Or.inr ge3) all0)), ge3, F19, F13, F14, F15, F16, F17, F18⟩ (by decide) (by decide)
def own_s25_Q (Z : State) (a10 : Addr) (a35 : Addr) (a34 : Addr) (a33 : Addr) (a32 : Addr) (a31 : Addr) (a30 : Addr) (a29 : Addr) (a28 : Addr) (h0 : Heap) (n0 : Nat) (v_ : Option Value) (h_ : Heap) (L_ : List Loc) : Prop := (fun v h L => v = some (.int (2 : Int32)) ∧ Fr n0 L ∧ Keep h0 h [a10] ∧ Fld Z h a10 "com/example/rankline/rankline/Buckets" "thresholds" "[D" (.ref a28) ∧ Fld Z h a10 "com/example/rankline/rankline/Buckets" "ranks" "[D" (.ref a29) ∧ Fld Z h a10 "com/example/rankline/rankline/Buckets" "guarded" "[Z" (.ref a30) ∧ Fld Z h a10 "com/example/rankline/rankline/Buckets" "extents" "[Lcom/example/rankline/rankline/Extent;" (.ref a31) ∧ Fld Z h a10 "com/example/rankline/rankline/Buckets" "addedAtThreshold" "[Z" (.ref a32) ∧ Fld Z h a10 "com/example/rankline/rankline/Buckets" "copies" "[J" (.ref a33) ∧ Fld Z h a10 "com/example/rankline/rankline/Buckets" "nextOf" "[I" (.ref a34) ∧ Fld Z h a10 "com/example/rankline/rankline/Buckets" "previousOf" "[I" (.ref a35) ∧ Fld Z h a10 "com/example/rankline/rankline/Buckets" "first" "I" (.int (0 : Int32)) ∧ Fld Z h a10 "com/example/rankline/rankline/Buckets" "last" "I" (.int (1 : Int32)) ∧ Fld Z h a10 "com/example/rankline/rankline/Buckets" "free" "I" (.int (-1 : Int32)) ∧ Fld Z h a10 "com/example/rankline/rankline/Buckets" "smallestMagnitude" "D" (.double (9218868437227405312 : UInt64)) ∧ Fld Z h a10 "com/example/rankline/rankline/Buckets" "size" "I" (.int (2 : Int32)) ∧ Fld Z h a10 "com/example/rankline/rankline/Buckets" "used" "I" (.int (3 : Int32))) v_ h_ L_
set_option maxRecDepth 65536 in
set_option maxHeartbeats 40000000 in
theorem own_s25 (l : Launch) (Z : State) (a0 : Array Value) (hw : ∀ d ∈ tables_1, d.before a0 Z = true) (wds : List Jvm.Cond) (a10 : Addr) (a35 : Addr) (a34 : Addr) (a33 : Addr) (a32 : Addr) (a31 : Addr) (a30 : Addr) (a29 : Addr) (a28 : Addr) (h0 : Heap) (n0 : Nat) (Z0 : n0 ≤ h0.size) (H1 : Exa Z h0 a10 "com/example/rankline/rankline/Buckets") (H25 : own_Ary Z h0 a28 .double [(.double (0 : UInt64)), (.double (4607182418800017408 : UInt64)), (.double (0 : UInt64)), (.double (0 : UInt64)), (.double (0 : UInt64)), (.double (0 : UInt64)), (.double (0 : UInt64)), (.double (0 : UInt64)), (.double (0 : UInt64)), (.double (0 : UInt64)), (.double (0 : UInt64)), (.double (0 : UInt64)), (.double (0 : UInt64)), (.double (0 : UInt64)), (.double (0 : UInt64)), (.double (0 : UInt64))]) (H26 : Fld Z h0 a10 "com/example/rankline/rankline/Buckets" "thresholds" "[D" (.ref a28)) (H27 : Fld Z h0 a10 "com/example/rankline/rankline/Buckets" "ranks" "[D" (.ref a29)) (H28 : Fld Z h0 a10 "com/example/rankline/rankline/Buckets" "guarded" "[Z" (.ref a30)) (H29 : Fld Z h0 a10 "com/example/rankline/rankline/Buckets" "extents" "[Lcom/example/rankline/rankline/Extent;" (.ref a31)) (H30 : Fld Z h0 a10 "com/example/rankline/rankline/Buckets" "addedAtThreshold" "[Z" (.ref a32)) (H31 : Fld Z h0 a10 "com/example/rankline/rankline/Buckets" "copies" "[J" (.ref a33)) (H32 : Fld Z h0 a10 "com/example/rankline/rankline/Buckets" "nextOf" "[I" (.ref a34)) (H33 : Fld Z h0 a10 "com/example/rankline/rankline/Buckets" "previousOf" "[I" (.ref a35)) (H34 : Fld Z h0 a10 "com/example/rankline/rankline/Buckets" "first" "I" (.int (0 : Int32))) (H35 : Fld Z h0 a10 "com/example/rankline/rankline/Buckets" "last" "I" (.int (1 : Int32))) (H36 : Fld Z h0 a10 "com/example/rankline/rankline/Buckets" "free" "I" (.int (-1 : Int32))) (H37 : Fld Z h0 a10 "com/example/rankline/rankline/Buckets" "smallestMagnitude" "D" (.double (9218868437227405312 : UInt64))) (H38 : Fld Z h0 a10 "com/example/rankline/rankline/Buckets" "size" "I" (.int (2 : Int32))) (H39 : Fld Z h0 a10 "com/example/rankline/rankline/Buckets" "used" "I" (.int (2 : Int32))) (H57 : n0 ≤ a10) :
    MetFree l (⟨"com/example/rankline/rankline/Buckets", "allocate", "()I"⟩ : MethodName) (head1 (Jvm.Cond.code (⟨"com/example/rankline/rankline/Buckets", "allocate", "()I"⟩ : MethodName) prog_5_method_56_code 2 (some .int) :: wds) ({ frames := 0, cells := 0, slots := 0, locals := 0 } : Room)) (fun ar_ U_ => ar_ = #[(.ref a10)] ∧ Z.Warmed39 U_.vm ∧ U_.heap = h0) (fun _ _ _ _ _ => True) (fun _ U_ o_ V_ => ∃ v_ L_, o_ = .returned v_ ∧ own_s25_Q Z a10 a35 a34 a33 a32 a31 a30 a29 a28 h0 n0 v_ V_.heap L_ ∧ FrameEnd U_ o_ V_ L_ ({ frames := 0, cells := 0, slots := 0, locals := 0 } : Room).cells ({ frames := 0, cells := 0, slots := 0, locals := 0 } : Room).slots) := by
  refine own_met (y := ⟨"com/example/rankline/rankline/Buckets", "allocate", "()I"⟩) (Q := own_s25_Q Z a10 a35 a34 a33 a32 a31 a30 a29 a28 h0 n0) own_pn1 ?_
  intro p e s m below meth c s₁ hx hby hml hZ hown hnm hret hlk X0 e0
  have N0 := Fr.nil n0
  refine own_cast (g' := (mkF m 0 #[.val (.ref a10), .unset] [])) (by first | (simp [entryFrame, mkF, argsToLocals, Value.category]; done) | rfl) ?_
  refine own_pre (T' := s₁) (g' := (mkF m 1 #[.val (.ref a10), .unset] [(.ref a10)])) (fun t k => XS.aloadN X0.here hx rfl (v := (.ref a10)) (hb hby d9_0) rfl rfl k) ?_
  refine own_getf X0 hx hZ hown (own_w hw 38 rfl) e0 H36 (hb hby d9_1) ?_
  intro T1 X1 e1
  show own_Go _ _ _ _ _ _ _ T1 (mkF m 4 #[.val (.ref a10), .unset] [(.int (-1 : Int32))])
  refine own_pre (T' := T1) (g' := (mkF m 5 #[.val (.ref a10), .unset] [(.int (-1 : Int32)), (.int (-1 : Int32))])) (fun t k => XS.iconst X1.here hx rfl (hb hby d9_4) k) ?_
  refine own_pre (T' := T1) (g' := (mkF m 25 #[.val (.ref a10), .unset] [])) (fun t k => XS.icmpYes X1.here hx rfl (pc0 := 5) (pc' := 25) rfl (hb hby d9_5) rfl (by decide) (by decide) (by decide) k) ?_
  refine own_pre (T' := T1) (g' := (mkF m 26 #[.val (.ref a10), .unset] [(.ref a10)])) (fun t k => XS.aloadN X1.here hx rfl (v := (.ref a10)) (hb hby d9_25) rfl rfl k) ?_
  refine own_getf X1 hx hZ hown (own_w hw 91 rfl) e1 H39 (hb hby d9_26) ?_
  intro T2 X2 e2
  show own_Go _ _ _ _ _ _ _ T2 (mkF m 29 #[.val (.ref a10), .unset] [(.int (2 : Int32))])
  refine own_pre (T' := T2) (g' := (mkF m 30 #[.val (.ref a10), .unset] [(.ref a10), (.int (2 : Int32))])) (fun t k => XS.aloadN X2.here hx rfl (v := (.ref a10)) (hb hby d9_29) rfl rfl k) ?_
  refine own_getf X2 hx hZ hown (own_w hw 13 rfl) e2 H26 (hb hby d9_30) ?_
  intro T3 X3 e3
  show own_Go _ _ _ _ _ _ _ T3 (mkF m 33 #[.val (.ref a10), .unset] [(.ref a28), (.int (2 : Int32))])
  refine own_len X3 hx hZ e3 H25 (hb hby d9_33) (n := (16 : Int32)) rfl ?_
  show own_Go _ _ _ _ _ _ _ T3 (mkF m 34 #[.val (.ref a10), .unset] [(.int (16 : Int32)), (.int (2 : Int32))])
  refine own_pre (T' := T3) (g' := (mkF m 143 #[.val (.ref a10), .unset] [])) (fun t k => XS.icmpYes X3.here hx rfl (pc0 := 34) (pc' := 143) rfl (hb hby d9_34) rfl (by decide) (by decide) (by decide) k) ?_
  refine own_pre (T' := T3) (g' := (mkF m 144 #[.val (.ref a10), .unset] [(.ref a10)])) (fun t k => XS.aloadN X3.here hx rfl (v := (.ref a10)) (hb hby d9_143) rfl rfl k) ?_
  refine own_pre (T' := T3) (g' := (mkF m 145 #[.val (.ref a10), .unset] [(.ref a10), (.ref a10)])) (fun t k => XS.dup X3.here hx rfl (hb hby d9_144) rfl rfl k) ?_
  refine own_getf X3 hx hZ hown (own_w hw 91 rfl) e3 H39 (hb hby d9_145) ?_
  intro T4 X4 e4
  show own_Go _ _ _ _ _ _ _ T4 (mkF m 148 #[.val (.ref a10), .unset] [(.int (2 : Int32)), (.ref a10)])
  refine own_pre (T' := T4) (g' := (mkF m 149 #[.val (.ref a10), .unset] [(.int (2 : Int32)), (.ref a10), (.int (2 : Int32))])) (fun t k => XT.dupX1 X4.here hx rfl (hb hby d9_148) rfl rfl rfl k) ?_
  refine own_pre (T' := T4) (g' := (mkF m 150 #[.val (.ref a10), .unset] [(.int (1 : Int32)), (.int (2 : Int32)), (.ref a10), (.int (2 : Int32))])) (fun t k => XS.iconst X4.here hx rfl (hb hby d9_149) k) ?_
  refine own_pre (T' := T4) (g' := (mkF m 151 #[.val (.ref a10), .unset] [(.int (3 : Int32)), (.ref a10), (.int (2 : Int32))])) (fun t k => XS.iadd X4.here hx rfl (hb hby d9_150) rfl k) ?_
  refine own_putf X4 hx hZ hown (own_w hw 91 rfl) e4 N0 H57 H39 H1 (Or.inl (own_w hw 92 rfl)) (own_w hw 4 rfl) (ty := .int) (by decide) rfl rfl (hb hby d9_151) ?_
  intro T5 h5 lo5 X5 e5 N5 W5
  have F6 : Fld Z h5 a10 "com/example/rankline/rankline/Buckets" "used" "I" (.int (3 : Int32)) := H39.same W5
  show own_Go _ _ _ _ _ _ _ T5 (mkF m 154 #[.val (.ref a10), .unset] [(.int (2 : Int32))])
  have F7 : Fld Z h5 a10 "com/example/rankline/rankline/Buckets" "thresholds" "[D" (.ref a28) := (H26.other W5 (Or.inr (slot_ne (C := "com/example/rankline/rankline/Buckets") (Or.inl (own_w hw 14 rfl)) (Or.inl (own_w hw 92 rfl)) (by decide) (t := (.array .double)) (t' := .int) (by decide) (by decide))))
  have F8 : Fld Z h5 a10 "com/example/rankline/rankline/Buckets" "ranks" "[D" (.ref a29) := (H27.other W5 (Or.inr (slot_ne (C := "com/example/rankline/rankline/Buckets") (Or.inl (own_w hw 16 rfl)) (Or.inl (own_w hw 92 rfl)) (by decide) (t := (.array .double)) (t' := .int) (by decide) (by decide))))
  have F9 : Fld Z h5 a10 "com/example/rankline/rankline/Buckets" "guarded" "[Z" (.ref a30) := (H28.other W5 (Or.inr (slot_ne (C := "com/example/rankline/rankline/Buckets") (Or.inl (own_w hw 19 rfl)) (Or.inl (own_w hw 92 rfl)) (by decide) (t := (.array .boolean)) (t' := .int) (by decide) (by decide))))
  have F10 : Fld Z h5 a10 "com/example/rankline/rankline/Buckets" "extents" "[Lcom/example/rankline/rankline/Extent;" (.ref a31) := (H29.other W5 (Or.inr (slot_ne (C := "com/example/rankline/rankline/Buckets") (Or.inl (own_w hw 23 rfl)) (Or.inl (own_w hw 92 rfl)) (by decide) (t := (.array (.object "com/example/rankline/rankline/Extent"))) (t' := .int) (by decide) (by decide))))
  have F11 : Fld Z h5 a10 "com/example/rankline/rankline/Buckets" "addedAtThreshold" "[Z" (.ref a32) := (H30.other W5 (Or.inr (slot_ne (C := "com/example/rankline/rankline/Buckets") (Or.inl (own_w hw 25 rfl)) (Or.inl (own_w hw 92 rfl)) (by decide) (t := (.array .boolean)) (t' := .int) (by decide) (by decide))))
  have F12 : Fld Z h5 a10 "com/example/rankline/rankline/Buckets" "copies" "[J" (.ref a33) := (H31.other W5 (Or.inr (slot_ne (C := "com/example/rankline/rankline/Buckets") (Or.inl (own_w hw 28 rfl)) (Or.inl (own_w hw 92 rfl)) (by decide) (t := (.array .long)) (t' := .int) (by decide) (by decide))))
  have F13 : Fld Z h5 a10 "com/example/rankline/rankline/Buckets" "nextOf" "[I" (.ref a34) := (H32.other W5 (Or.inr (slot_ne (C := "com/example/rankline/rankline/Buckets") (Or.inl (own_w hw 31 rfl)) (Or.inl (own_w hw 92 rfl)) (by decide) (t := (.array .int)) (t' := .int) (by decide) (by decide))))
  have F14 : Fld Z h5 a10 "com/example/rankline/rankline/Buckets" "previousOf" "[I" (.ref a35) := (H33.other W5 (Or.inr (slot_ne (C := "com/example/rankline/rankline/Buckets") (Or.inl (own_w hw 33 rfl)) (Or.inl (own_w hw 92 rfl)) (by decide) (t := (.array .int)) (t' := .int) (by decide) (by decide))))
  have F15 : Fld Z h5 a10 "com/example/rankline/rankline/Buckets" "first" "I" (.int (0 : Int32)) := (H34.other W5 (Or.inr (slot_ne (C := "com/example/rankline/rankline/Buckets") (Or.inl (own_w hw 35 rfl)) (Or.inl (own_w hw 92 rfl)) (by decide) (t := .int) (t' := .int) (by decide) (by decide))))
  have F16 : Fld Z h5 a10 "com/example/rankline/rankline/Buckets" "last" "I" (.int (1 : Int32)) := (H35.other W5 (Or.inr (slot_ne (C := "com/example/rankline/rankline/Buckets") (Or.inl (own_w hw 37 rfl)) (Or.inl (own_w hw 92 rfl)) (by decide) (t := .int) (t' := .int) (by decide) (by decide))))
  have F17 : Fld Z h5 a10 "com/example/rankline/rankline/Buckets" "free" "I" (.int (-1 : Int32)) := (H36.other W5 (Or.inr (slot_ne (C := "com/example/rankline/rankline/Buckets") (Or.inl (own_w hw 39 rfl)) (Or.inl (own_w hw 92 rfl)) (by decide) (t := .int) (t' := .int) (by decide) (by decide))))
  have F18 : Fld Z h5 a10 "com/example/rankline/rankline/Buckets" "smallestMagnitude" "D" (.double (9218868437227405312 : UInt64)) := (H37.other W5 (Or.inr (slot_ne (C := "com/example/rankline/rankline/Buckets") (Or.inl (own_w hw 42 rfl)) (Or.inl (own_w hw 92 rfl)) (by decide) (t := .double) (t' := .int) (by decide) (by decide))))
  have F19 : Fld Z h5 a10 "com/example/rankline/rankline/Buckets" "size" "I" (.int (2 : Int32)) := (H38.other W5 (Or.inr (slot_ne (C := "com/example/rankline/rankline/Buckets") (Or.inl (own_w hw 50 rfl)) (Or.inl (own_w hw 92 rfl)) (by decide) (t := .int) (t' := .int) (by decide) (by decide))))
  exact own_retI X5 hx hlk hret (hb hby d9_154) e5 ⟨rfl, N5, ((Keep.refl _ _).wr W5 (Or.inl (by simp))), F7, F8, F9, F10, F11, F12, F13, F14, F15, F16, F17, F18, F19, F6⟩ (by decide) (by decide)
def own_s24_Q (Z : State) (a10 : Addr) (f225 : UInt64) (a11 : Addr) (a35 : Addr) (a34 : Addr) (a33 : Addr) (a32 : Addr) (a31 : Addr) (a30 : Addr) (a29 : Addr) (a28 : Addr) (a125 : Addr) (f121 : UInt64) (a180 : Addr) (f167 : UInt64) (v2 : Int32) (h0 : Heap) (n0 : Nat) (v_ : Option Value) (h_ : Heap) (L_ : List Loc) : Prop := (fun v h L => v = some (.int (2 : Int32)) ∧ Fr n0 L ∧ Keep h0 h [a10, a28, a29, a30, a31, a32, a33, a34, a35] ∧ own_Ary Z h a35 .int [(.int (-1 : Int32)), (.int (0 : Int32)), (.int (1 : Int32)), (.int (0 : Int32)), (.int (0 : Int32)), (.int (0 : Int32)), (.int (0 : Int32)), (.int (0 : Int32)), (.int (0 : Int32)), (.int (0 : Int32)), (.int (0 : Int32)), (.int (0 : Int32)), (.int (0 : Int32)), (.int (0 : Int32)), (.int (0 : Int32)), (.int (0 : Int32))] ∧ own_Ary Z h a34 .int [(.int (1 : Int32)), (.int (2 : Int32)), (.int (-1 : Int32)), (.int (0 : Int32)), (.int (0 : Int32)), (.int (0 : Int32)), (.int (0 : Int32)), (.int (0 : Int32)), (.int (0 : Int32)), (.int (0 : Int32)), (.int (0 : Int32)), (.int (0 : Int32)), (.int (0 : Int32)), (.int (0 : Int32)), (.int (0 : Int32)), (.int (0 : Int32))] ∧ own_Ary Z h a33 .long [(.long (0 : Int64)), (.long (0 : Int64)), (.long (0 : Int64)), (.long (0 : Int64)), (.long (0 : Int64)), (.long (0 : Int64)), (.long (0 : Int64)), (.long (0 : Int64)), (.long (0 : Int64)), (.long (0 : Int64)), (.long (0 : Int64)), (.long (0 : Int64)), (.long (0 : Int64)), (.long (0 : Int64)), (.long (0 : Int64)), (.long (0 : Int64))] ∧ own_Ary Z h a32 .boolean [(.int (0 : Int32)), (.int (0 : Int32)), (.int (0 : Int32)), (.int (0 : Int32)), (.int (0 : Int32)), (.int (0 : Int32)), (.int (0 : Int32)), (.int (0 : Int32)), (.int (0 : Int32)), (.int (0 : Int32)), (.int (0 : Int32)), (.int (0 : Int32)), (.int (0 : Int32)), (.int (0 : Int32)), (.int (0 : Int32)), (.int (0 : Int32))] ∧ own_Ary Z h a31 (.object "com/example/rankline/rankline/Extent") [(.ref a125), (.ref a180), (.ref a11), .null, .null, .null, .null, .null, .null, .null, .null, .null, .null, .null, .null, .null] ∧ own_Ary Z h a30 .boolean [(.int (0 : Int32)), (.int (0 : Int32)), (.int (0 : Int32)), (.int (0 : Int32)), (.int (0 : Int32)), (.int (0 : Int32)), (.int (0 : Int32)), (.int (0 : Int32)), (.int (0 : Int32)), (.int (0 : Int32)), (.int (0 : Int32)), (.int (0 : Int32)), (.int (0 : Int32)), (.int (0 : Int32)), (.int (0 : Int32)), (.int (0 : Int32))] ∧ own_Ary Z h a29 .double [(.double f121), (.double f167), (.double f225), (.double (0 : UInt64)), (.double (0 : UInt64)), (.double (0 : UInt64)), (.double (0 : UInt64)), (.double (0 : UInt64)), (.double (0 : UInt64)), (.double (0 : UInt64)), (.double (0 : UInt64)), (.double (0 : UInt64)), (.double (0 : UInt64)), (.double (0 : UInt64)), (.double (0 : UInt64)), (.double (0 : UInt64))] ∧ own_Ary Z h a28 .double [(.double (0 : UInt64)), (.double (4607182418800017408 : UInt64)), (.double (4611686018427387904 : UInt64)), (.double (0 : UInt64)), (.double (0 : UInt64)), (.double (0 : UInt64)), (.double (0 : UInt64)), (.double (0 : UInt64)), (.double (0 : UInt64)), (.double (0 : UInt64)), (.double (0 : UInt64)), (.double (0 : UInt64)), (.double (0 : UInt64)), (.double (0 : UInt64)), (.double (0 : UInt64)), (.double (0 : UInt64))] ∧ Fld Z h a10 "com/example/rankline/rankline/Buckets" "thresholds" "[D" (.ref a28) ∧ Fld Z h a10 "com/example/rankline/rankline/Buckets" "ranks" "[D" (.ref a29) ∧ Fld Z h a10 "com/example/rankline/rankline/Buckets" "guarded" "[Z" (.ref a30) ∧ Fld Z h a10 "com/example/rankline/rankline/Buckets" "extents" "[Lcom/example/rankline/rankline/Extent;" (.ref a31) ∧ Fld Z h a10 "com/example/rankline/rankline/Buckets" "addedAtThreshold" "[Z" (.ref a32) ∧ Fld Z h a10 "com/example/rankline/rankline/Buckets" "copies" "[J" (.ref a33) ∧ Fld Z h a10 "com/example/rankline/rankline/Buckets" "nextOf" "[I" (.ref a34) ∧ Fld Z h a10 "com/example/rankline/rankline/Buckets" "previousOf" "[I" (.ref a35) ∧ Fld Z h a10 "com/example/rankline/rankline/Buckets" "first" "I" (.int (0 : Int32)) ∧ Fld Z h a10 "com/example/rankline/rankline/Buckets" "last" "I" (.int (2 : Int32)) ∧ Fld Z h a10 "com/example/rankline/rankline/Buckets" "free" "I" (.int (-1 : Int32)) ∧ Fld Z h a10 "com/example/rankline/rankline/Buckets" "smallestMagnitude" "D" (.double (9218868437227405312 : UInt64)) ∧ Fld Z h a10 "com/example/rankline/rankline/Buckets" "size" "I" (.int (3 : Int32)) ∧ Fld Z h a10 "com/example/rankline/rankline/Buckets" "used" "I" (.int (3 : Int32))) v_ h_ L_
set_option maxRecDepth 65536 in
set_option maxHeartbeats 40000000 in
theorem own_s24 (l : Launch) (Z : State) (a0 : Array Value) (hw : ∀ d ∈ tables_1, d.before a0 Z = true) (wds : List Jvm.Cond) (a10 : Addr) (f225 : UInt64) (a11 : Addr) (a35 : Addr) (a34 : Addr) (a33 : Addr) (a32 : Addr) (a31 : Addr) (a30 : Addr) (a29 : Addr) (a28 : Addr) (a125 : Addr) (f121 : UInt64) (a180 : Addr) (f167 : UInt64) (v2 : Int32) (h0 : Heap) (n0 : Nat) (Z0 : n0 ≤ h0.size) (H1 : Exa Z h0 a10 "com/example/rankline/rankline/Buckets") (H7 : own_Ovr Z h0 a31 "com/example/rankline/rankline/Extent") (H18 : own_Ary Z h0 a35 .int [(.int (-1 : Int32)), (.int (0 : Int32)), (.int (0 : Int32)), (.int (0 : Int32)), (.int (0 : Int32)), (.int (0 : Int32)), (.int (0 : Int32)), (.int (0 : Int32)), (.int (0 : Int32)), (.int (0 : Int32)), (.int (0 : Int32)), (.int (0 : Int32)), (.int (0 : Int32)), (.int (0 : Int32)), (.int (0 : Int32)), (.int (0 : Int32))]) (H19 : own_Ary Z h0 a34 .int [(.int (1 : Int32)), (.int (-1 : Int32)), (.int (0 : Int32)), (.int (0 : Int32)), (.int (0 : Int32)), (.int (0 : Int32)), (.int (0 : Int32)), (.int (0 : Int32)), (.int (0 : Int32)), (.int (0 : Int32)), (.int (0 : Int32)), (.int (0 : Int32)), (.int (0 : Int32)), (.int (0 : Int32)), (.int (0 : Int32)), (.int (0 : Int32))]) (H20 : own_Ary Z h0 a33 .long [(.long (0 : Int64)), (.long (0 : Int64)), (.long (0 : Int64)), (.long (0 : Int64)), (.long (0 : Int64)), (.long (0 : Int64)), (.long (0 : Int64)), (.long (0 : Int64)), (.long (0 : Int64)), (.long (0 : Int64)), (.long (0 : Int64)), (.long (0 : Int64)), (.long (0 : Int64)), (.long (0 : Int64)), (.long (0 : Int64)), (.long (0 : Int64))]) (H21 : own_Ary Z h0 a32 .boolean [(.int (0 : Int32)), (.int (0 : Int32)), (.int (0 : Int32)), (.int (0 : Int32)), (.int (0 : Int32)), (.int (0 : Int32)), (.int (0 : Int32)), (.int (0 : Int32)), (.int (0 : Int32)), (.int (0 : Int32)), (.int (0 : Int32)), (.int (0 : Int32)), (.int (0 : Int32)), (.int (0 : Int32)), (.int (0 : Int32)), (.int (0 : Int32))]) (H22 : own_Ary Z h0 a31 (.object "com/example/rankline/rankline/Extent") [(.ref a125), (.ref a180), .null, .null, .null, .null, .null, .null, .null, .null, .null, .null, .null, .null, .null, .null]) (H23 : own_Ary Z h0 a30 .boolean [(.int (0 : Int32)), (.int (0 : Int32)), (.int (0 : Int32)), (.int (0 : Int32)), (.int (0 : Int32)), (.int (0 : Int32)), (.int (0 : Int32)), (.int (0 : Int32)), (.int (0 : Int32)), (.int (0 : Int32)), (.int (0 : Int32)), (.int (0 : Int32)), (.int (0 : Int32)), (.int (0 : Int32)), (.int (0 : Int32)), (.int (0 : Int32))]) (H24 : own_Ary Z h0 a29 .double [(.double f121), (.double f167), (.double (0 : UInt64)), (.double (0 : UInt64)), (.double (0 : UInt64)), (.double (0 : UInt64)), (.double (0 : UInt64)), (.double (0 : UInt64)), (.double (0 : UInt64)), (.double (0 : UInt64)), (.double (0 : UInt64)), (.double (0 : UInt64)), (.double (0 : UInt64)), (.double (0 : UInt64)), (.double (0 : UInt64)), (.double (0 : UInt64))]) (H25 : own_Ary Z h0 a28 .double [(.double (0 : UInt64)), (.double (4607182418800017408 : UInt64)), (.double (0 : UInt64)), (.double (0 : UInt64)), (.double (0 : UInt64)), (.double (0 : UInt64)), (.double (0 : UInt64)), (.double (0 : UInt64)), (.double (0 : UInt64)), (.double (0 : UInt64)), (.double (0 : UInt64)), (.double (0 : UInt64)), (.double (0 : UInt64)), (.double (0 : UInt64)), (.double (0 : UInt64)), (.double (0 : UInt64))]) (H26 : Fld Z h0 a10 "com/example/rankline/rankline/Buckets" "thresholds" "[D" (.ref a28)) (H27 : Fld Z h0 a10 "com/example/rankline/rankline/Buckets" "ranks" "[D" (.ref a29)) (H28 : Fld Z h0 a10 "com/example/rankline/rankline/Buckets" "guarded" "[Z" (.ref a30)) (H29 : Fld Z h0 a10 "com/example/rankline/rankline/Buckets" "extents" "[Lcom/example/rankline/rankline/Extent;" (.ref a31)) (H30 : Fld Z h0 a10 "com/example/rankline/rankline/Buckets" "addedAtThreshold" "[Z" (.ref a32)) (H31 : Fld Z h0 a10 "com/example/rankline/rankline/Buckets" "copies" "[J" (.ref a33)) (H32 : Fld Z h0 a10 "com/example/rankline/rankline/Buckets" "nextOf" "[I" (.ref a34)) (H33 : Fld Z h0 a10 "com/example/rankline/rankline/Buckets" "previousOf" "[I" (.ref a35)) (H34 : Fld Z h0 a10 "com/example/rankline/rankline/Buckets" "first" "I" (.int (0 : Int32))) (H35 : Fld Z h0 a10 "com/example/rankline/rankline/Buckets" "last" "I" (.int (1 : Int32))) (H36 : Fld Z h0 a10 "com/example/rankline/rankline/Buckets" "free" "I" (.int (-1 : Int32))) (H37 : Fld Z h0 a10 "com/example/rankline/rankline/Buckets" "smallestMagnitude" "D" (.double (9218868437227405312 : UInt64))) (H38 : Fld Z h0 a10 "com/example/rankline/rankline/Buckets" "size" "I" (.int (2 : Int32))) (H39 : Fld Z h0 a10 "com/example/rankline/rankline/Buckets" "used" "I" (.int (2 : Int32))) (H47 : Exa Z h0 a11 "com/example/rankline/rankline/Extent") (H54 : a10 < a35) (H55 : a10 < a34) (H56 : a10 < a33) (H57 : a10 < a32) (H58 : a10 < a31) (H59 : a10 < a30) (H60 : a10 < a29) (H61 : a10 < a28) (H65 : n0 ≤ a10) (H66 : a34 < a35) (H67 : a33 < a35) (H68 : a32 < a35) (H69 : a31 < a35) (H70 : a30 < a35) (H71 : a29 < a35) (H72 : a28 < a35) (H76 : n0 ≤ a35) (H77 : a33 < a34) (H78 : a32 < a34) (H79 : a31 < a34) (H80 : a30 < a34) (H81 : a29 < a34) (H82 : a28 < a34) (H86 : n0 ≤ a34) (H87 : a32 < a33) (H88 : a31 < a33) (H89 : a30 < a33) (H90 : a29 < a33) (H91 : a28 < a33) (H95 : n0 ≤ a33) (H96 : a31 < a32) (H97 : a30 < a32) (H98 : a29 < a32) (H99 : a28 < a32) (H103 : n0 ≤ a32) (H104 : a30 < a31) (H105 : a29 < a31) (H106 : a28 < a31) (H110 : n0 ≤ a31) (H111 : a29 < a30) (H112 : a28 < a30) (H116 : n0 ≤ a30) (H117 : a28 < a29) (H121 : n0 ≤ a29) (H125 : n0 ≤ a28) :
    MetFree l (⟨"com/example/rankline/rankline/Buckets", "insertBefore", "(IDDLcom/example/rankline/rankline/Extent;J)I"⟩ : MethodName) (head1 (Jvm.Cond.code (⟨"com/example/rankline/rankline/Buckets", "insertBefore", "(IDDLcom/example/rankline/rankline/Extent;J)I"⟩ : MethodName) prog_5_method_55_code 11 (some .int) :: wds) ({ frames := 1, cells := 0, slots := 0, locals := 13 } : Room)) (fun ar_ U_ => ar_ = #[(.ref a10), (.int (-1 : Int32)), (.double (4611686018427387904 : UInt64)), (.double f225), (.ref a11), (.long (0 : Int64))] ∧ Z.Warmed39 U_.vm ∧ U_.heap = h0) (fun _ _ _ _ _ => True) (fun _ U_ o_ V_ => ∃ v_ L_, o_ = .returned v_ ∧ own_s24_Q Z a10 f225 a11 a35 a34 a33 a32 a31 a30 a29 a28 a125 f121 a180 f167 v2 h0 n0 v_ V_.heap L_ ∧ FrameEnd U_ o_ V_ L_ ({ frames := 1, cells := 0, slots := 0, locals := 13 } : Room).cells ({ frames := 1, cells := 0, slots := 0, locals := 13 } : Room).slots) := by
  refine own_met (y := ⟨"com/example/rankline/rankline/Buckets", "insertBefore", "(IDDLcom/example/rankline/rankline/Extent;J)I"⟩) (Q := own_s24_Q Z a10 f225 a11 a35 a34 a33 a32 a31 a30 a29 a28 a125 f121 a180 f167 v2 h0 n0) own_pn1 ?_
  intro p e s m below meth c s₁ hx hby hml hZ hown hnm hret hlk X0 e0
  have N0 := Fr.nil n0
  refine own_cast (g' := (mkF m 0 #[.val (.ref a10), .val (.int (-1 : Int32)), .val (.double (4611686018427387904 : UInt64)), .second, .val (.double f225), .second, .val (.ref a11), .val (.long (0 : Int64)), .second, .unset, .unset] [])) (by first | (simp [entryFrame, mkF, argsToLocals, Value.category]; done) | rfl) ?_
  generalize hL1 : (#[.val (.ref a10), .val (.int (-1 : Int32)), .val (.double (4611686018427387904 : UInt64)), .second, .val (.double f225), .second, .val (.ref a11), .val (.long (0 : Int64)), .second, .unset, .unset] : Array Slot) = L1
  refine own_pre (T' := s₁) (g' := (mkF m 1 L1 [(.ref a10)])) (fun t k => XS.aloadN X0.here hx rfl (v := (.ref a10)) (hb hby d8_0) (by rw [← hL1]; rfl) rfl k) ?_
  refine own_callp (a := a10) (argsL := []) (rest := []) X0 hx hZ hown (own_s25 l Z a0 hw [] a10 a35 a34 a33 a32 a31 a30 a29 a28 h0 n0 Z0 H1 H25 H26 H27 H28 H29 H30 H31 H32 H33 H34 H35 H36 H37 H38 H39 H65) H1 (own_w hw 87 rfl) (own_w hw 4 rfl) (own_w hw 89 rfl) (own_w hw 88 rfl) (own_w hw 90 rfl) (own_w hw 5 rfl) (by decide) e0 (hb hby d8_1) (by rw [hml, ← hL1]; rfl) rfl (lenOf own_pd3 rfl) (by decide) (W := 0) (Nat.le_of_eq rfl) (by decide) (by decide) (by decide) ?_
  intro v2 T2 lo2 X2 Q2
  obtain ⟨h2, e2⟩ : ∃ h, T2.heap = h := ⟨_, rfl⟩
  rw [e2] at Q2
  obtain ⟨rfl, N2, K2, F3, F4, F5, F6, F7, F8, F9, F10, F11, F12, F13, F14, F15, F16⟩ := Q2
  have N2' := Fr.app N0 N2
  show own_Go _ _ _ _ _ _ _ T2 (mkF m 4 L1 [(.int (2 : Int32))])
  refine own_pre (T' := T2) (g' := (mkF m 6 #[.val (.ref a10), .val (.int (-1 : Int32)), .val (.double (4611686018427387904 : UInt64)), .second, .val (.double f225), .second, .val (.ref a11), .val (.long (0 : Int64)), .second, .val (.int (2 : Int32)), .unset] [])) (fun t k => XS.istore X2.here hx rfl (hb hby d8_4) rfl (l' := #[.val (.ref a10), .val (.int (-1 : Int32)), .val (.double (4611686018427387904 : UInt64)), .second, .val (.double f225), .second, .val (.ref a11), .val (.long (0 : Int64)), .second, .val (.int (2 : Int32)), .unset]) (by rw [← hL1]; rfl) k) ?_
  generalize hL17 : (#[.val (.ref a10), .val (.int (-1 : Int32)), .val (.double (4611686018427387904 : UInt64)), .second, .val (.double f225), .second, .val (.ref a11), .val (.long (0 : Int64)), .second, .val (.int (2 : Int32)), .unset] : Array Slot) = L17
  refine own_pre (T' := T2) (g' := (mkF m 7 L17 [(.ref a10)])) (fun t k => XS.aloadN X2.here hx rfl (v := (.ref a10)) (hb hby d8_6) (by rw [← hL17]; rfl) rfl k) ?_
  refine own_getf X2 hx hZ hown (own_w hw 13 rfl) e2 F3 (hb hby d8_7) ?_
  intro T18 X18 e18
  show own_Go _ _ _ _ _ _ _ T18 (mkF m 10 L17 [(.ref a28)])
  refine own_pre (T' := T18) (g' := (mkF m 12 L17 [(.int (2 : Int32)), (.ref a28)])) (fun t k => XS.iload X18.here hx rfl (v := (2 : Int32)) (hb hby d8_10) (by rw [← hL17]; rfl) k) ?_
  refine own_pre (T' := T18) (g' := (mkF m 13 L17 [(.double (4611686018427387904 : UInt64)), (.int (2 : Int32)), (.ref a28)])) (fun t k => XS.dloadN X18.here hx rfl (v := (4611686018427387904 : UInt64)) (hb hby d8_12) (by rw [← hL17]; rfl) k) ?_
  have F19 : own_Ary Z h2 a28 .double [(.double (0 : UInt64)), (.double (4607182418800017408 : UInt64)), (.double (0 : UInt64)), (.double (0 : UInt64)), (.double (0 : UInt64)), (.double (0 : UInt64)), (.double (0 : UInt64)), (.double (0 : UInt64)), (.double (0 : UInt64)), (.double (0 : UInt64)), (.double (0 : UInt64)), (.double (0 : UInt64)), (.double (0 : UInt64)), (.double (0 : UInt64)), (.double (0 : UInt64)), (.double (0 : UInt64))] := (H25.keep K2 (ninS (Nat.ne_of_gt H61) nin0))
  refine own_dastore X18 hx hZ e18 N2' H125 F19 (hb hby d8_13) (n := 2) (by decide) (by decide) (by show 2 < 16; decide) ?_
  intro T20 h20 lo20 X20 e20 N20 W20
  have F21 : own_Ary Z h20 a28 .double [(.double (0 : UInt64)), (.double (4607182418800017408 : UInt64)), (.double (4611686018427387904 : UInt64)), (.double (0 : UInt64)), (.double (0 : UInt64)), (.double (0 : UInt64)), (.double (0 : UInt64)), (.double (0 : UInt64)), (.double (0 : UInt64)), (.double (0 : UInt64)), (.double (0 : UInt64)), (.double (0 : UInt64)), (.double (0 : UInt64)), (.double (0 : UInt64)), (.double (0 : UInt64)), (.double (0 : UInt64))] := F19.set W20
  show own_Go _ _ _ _ _ _ _ T20 (mkF m 14 L17 [])
  refine own_pre (T' := T20) (g' := (mkF m 15 L17 [(.ref a10)])) (fun t k => XS.aloadN X20.here hx rfl (v := (.ref a10)) (hb hby d8_14) (by rw [← hL17]; rfl) rfl k) ?_
  have F22 : Fld Z h20 a10 "com/example/rankline/rankline/Buckets" "ranks" "[D" (.ref a29) := (F4.other W20 (Or.inl (Nat.ne_of_lt H61)))
  refine own_getf X20 hx hZ hown (own_w hw 15 rfl) e20 F22 (hb hby d8_15) ?_
  intro T23 X23 e23
  show own_Go _ _ _ _ _ _ _ T23 (mkF m 18 L17 [(.ref a29)])
  refine own_pre (T' := T23) (g' := (mkF m 20 L17 [(.int (2 : Int32)), (.ref a29)])) (fun t k => XS.iload X23.here hx rfl (v := (2 : Int32)) (hb hby d8_18) (by rw [← hL17]; rfl) k) ?_
  refine own_pre (T' := T23) (g' := (mkF m 22 L17 [(.double f225), (.int (2 : Int32)), (.ref a29)])) (fun t k => XS.dload X23.here hx rfl (v := f225) (hb hby d8_20) (by rw [← hL17]; rfl) k) ?_
  have F24 : own_Ary Z h20 a29 .double [(.double f121), (.double f167), (.double (0 : UInt64)), (.double (0 : UInt64)), (.double (0 : UInt64)), (.double (0 : UInt64)), (.double (0 : UInt64)), (.double (0 : UInt64)), (.double (0 : UInt64)), (.double (0 : UInt64)), (.double (0 : UInt64)), (.double (0 : UInt64)), (.double (0 : UInt64)), (.double (0 : UInt64)), (.double (0 : UInt64)), (.double (0 : UInt64))] := ((H24.keep K2 (ninS (Nat.ne_of_gt H60) nin0)).other W20 (Nat.ne_of_gt H117))
  refine own_dastore X23 hx hZ e23 N20 H121 F24 (hb hby d8_22) (n := 2) (by decide) (by decide) (by show 2 < 16; decide) ?_
  intro T25 h25 lo25 X25 e25 N25 W25
  have F26 : own_Ary Z h25 a29 .double [(.double f121), (.double f167), (.double f225), (.double (0 : UInt64)), (.double (0 : UInt64)), (.double (0 : UInt64)), (.double (0 : UInt64)), (.double (0 : UInt64)), (.double (0 : UInt64)), (.double (0 : UInt64)), (.double (0 : UInt64)), (.double (0 : UInt64)), (.double (0 : UInt64)), (.double (0 : UInt64)), (.double (0 : UInt64)), (.double (0 : UInt64))] := F24.set W25
  show own_Go _ _ _ _ _ _ _ T25 (mkF m 23 L17 [])
  refine own_pre (T' := T25) (g' := (mkF m 24 L17 [(.ref a10)])) (fun t k => XS.aloadN X25.here hx rfl (v := (.ref a10)) (hb hby d8_23) (by rw [← hL17]; rfl) rfl k) ?_
  have F27 : Fld Z h25 a10 "com/example/rankline/rankline/Buckets" "guarded" "[Z" (.ref a30) := ((F5.other W20 (Or.inl (Nat.ne_of_lt H61))).other W25 (Or.inl (Nat.ne_of_lt H60)))
  refine own_getf X25 hx hZ hown (own_w hw 18 rfl) e25 F27 (hb hby d8_24) ?_
  intro T28 X28 e28
  show own_Go _ _ _ _ _ _ _ T28 (mkF m 27 L17 [(.ref a30)])
  refine own_pre (T' := T28) (g' := (mkF m 29 L17 [(.int (2 : Int32)), (.ref a30)])) (fun t k => XS.iload X28.here hx rfl (v := (2 : Int32)) (hb hby d8_27) (by rw [← hL17]; rfl) k) ?_
  refine own_pre (T' := T28) (g' := (mkF m 30 L17 [(.int (0 : Int32)), (.int (2 : Int32)), (.ref a30)])) (fun t k => XS.iconst X28.here hx rfl (hb hby d8_29) k) ?_
  have F29 : own_Ary Z h25 a30 .boolean [(.int (0 : Int32)), (.int (0 : Int32)), (.int (0 : Int32)), (.int (0 : Int32)), (.int (0 : Int32)), (.int (0 : Int32)), (.int (0 : Int32)), (.int (0 : Int32)), (.int (0 : Int32)), (.int (0 : Int32)), (.int (0 : Int32)), (.int (0 : Int32)), (.int (0 : Int32)), (.int (0 : Int32)), (.int (0 : Int32)), (.int (0 : Int32))] := (((H23.keep K2 (ninS (Nat.ne_of_gt H59) nin0)).other W20 (Nat.ne_of_gt H112)).other W25 (Nat.ne_of_gt H111))
  refine own_zastore X28 hx hZ e28 N25 H116 F29 (hb hby d8_30) (n := 2) (x' := (0 : Int32)) (by decide) (by decide) (by show 2 < 16; decide) (by decide) ?_
  intro T30 h30 lo30 X30 e30 N30 W30
  have F31 : own_Ary Z h30 a30 .boolean [(.int (0 : Int32)), (.int (0 : Int32)), (.int (0 : Int32)), (.int (0 : Int32)), (.int (0 : Int32)), (.int (0 : Int32)), (.int (0 : Int32)), (.int (0 : Int32)), (.int (0 : Int32)), (.int (0 : Int32)), (.int (0 : Int32)), (.int (0 : Int32)), (.int (0 : Int32)), (.int (0 : Int32)), (.int (0 : Int32)), (.int (0 : Int32))] := F29.set W30
  show own_Go _ _ _ _ _ _ _ T30 (mkF m 31 L17 [])
  refine own_pre (T' := T30) (g' := (mkF m 32 L17 [(.ref a10)])) (fun t k => XS.aloadN X30.here hx rfl (v := (.ref a10)) (hb hby d8_31) (by rw [← hL17]; rfl) rfl k) ?_
  have F32 : Fld Z h30 a10 "com/example/rankline/rankline/Buckets" "extents" "[Lcom/example/rankline/rankline/Extent;" (.ref a31) := (((F6.other W20 (Or.inl (Nat.ne_of_lt H61))).other W25 (Or.inl (Nat.ne_of_lt H60))).other W30 (Or.inl (Nat.ne_of_lt H59)))
  refine own_getf X30 hx hZ hown (own_w hw 22 rfl) e30 F32 (hb hby d8_32) ?_
  intro T33 X33 e33
  show own_Go _ _ _ _ _ _ _ T33 (mkF m 35 L17 [(.ref a31)])
  refine own_pre (T' := T33) (g' := (mkF m 37 L17 [(.int (2 : Int32)), (.ref a31)])) (fun t k => XS.iload X33.here hx rfl (v := (2 : Int32)) (hb hby d8_35) (by rw [← hL17]; rfl) k) ?_
  refine own_pre (T' := T33) (g' := (mkF m 39 L17 [(.ref a11), (.int (2 : Int32)), (.ref a31)])) (fun t k => XS.aload X33.here hx rfl (v := (.ref a11)) (hb hby d8_37) (by rw [← hL17]; rfl) rfl k) ?_
  have F34 : own_Ary Z h30 a31 (.object "com/example/rankline/rankline/Extent") [(.ref a125), (.ref a180), .null, .null, .null, .null, .null, .null, .null, .null, .null, .null, .null, .null, .null, .null] := ((((H22.keep K2 (ninS (Nat.ne_of_gt H58) nin0)).other W20 (Nat.ne_of_gt H106)).other W25 (Nat.ne_of_gt H105)).other W30 (Nat.ne_of_gt H104))
  have F36 : Exa Z h30 a11 "com/example/rankline/rankline/Extent" := ((((H47.keep K2).wr W20).wr W25).wr W30)
  have F37 : own_Ovr Z h30 a31 "com/example/rankline/rankline/Extent" := ((((H7.keep K2).wr W20).wr W25).wr W30)
  refine own_aastore X33 hx hZ e33 N30 H110 F34 F37 (Ins.self F36) (hb hby d8_39) (n := 2) (by decide) (by decide) (by show 2 < 16; decide) ?_
  intro T35 h35 lo35 X35 e35 N35 W35
  have F38 : own_Ary Z h35 a31 (.object "com/example/rankline/rankline/Extent") [(.ref a125), (.ref a180), (.ref a11), .null, .null, .null, .null, .null, .null, .null, .null, .null, .null, .null, .null, .null] := F34.set W35
  show own_Go _ _ _ _ _ _ _ T35 (mkF m 40 L17 [])
  refine own_pre (T' := T35) (g' := (mkF m 41 L17 [(.ref a10)])) (fun t k => XS.aloadN X35.here hx rfl (v := (.ref a10)) (hb hby d8_40) (by rw [← hL17]; rfl) rfl k) ?_
  have F39 : Fld Z h35 a10 "com/example/rankline/rankline/Buckets" "addedAtThreshold" "[Z" (.ref a32) := ((((F7.other W20 (Or.inl (Nat.ne_of_lt H61))).other W25 (Or.inl (Nat.ne_of_lt H60))).other W30 (Or.inl (Nat.ne_of_lt H59))).other W35 (Or.inl (Nat.ne_of_lt H58)))
  refine own_getf X35 hx hZ hown (own_w hw 24 rfl) e35 F39 (hb hby d8_41) ?_
  intro T40 X40 e40
  show own_Go _ _ _ _ _ _ _ T40 (mkF m 44 L17 [(.ref a32)])
  refine own_pre (T' := T40) (g' := (mkF m 46 L17 [(.int (2 : Int32)), (.ref a32)])) (fun t k => XS.iload X40.here hx rfl (v := (2 : Int32)) (hb hby d8_44) (by rw [← hL17]; rfl) k) ?_
  refine own_pre (T' := T40) (g' := (mkF m 47 L17 [(.int (0 : Int32)), (.int (2 : Int32)), (.ref a32)])) (fun t k => XS.iconst X40.here hx rfl (hb hby d8_46) k) ?_
  have F41 : own_Ary Z h35 a32 .boolean [(.int (0 : Int32)), (.int (0 : Int32)), (.int (0 : Int32)), (.int (0 : Int32)), (.int (0 : Int32)), (.int (0 : Int32)), (.int (0 : Int32)), (.int (0 : Int32)), (.int (0 : Int32)), (.int (0 : Int32)), (.int (0 : Int32)), (.int (0 : Int32)), (.int (0 : Int32)), (.int (0 : Int32)), (.int (0 : Int32)), (.int (0 : Int32))] := (((((H21.keep K2 (ninS (Nat.ne_of_gt H57) nin0)).other W20 (Nat.ne_of_gt H99)).other W25 (Nat.ne_of_gt H98)).other W30 (Nat.ne_of_gt H97)).other W35 (Nat.ne_of_gt H96))
  refine own_zastore X40 hx hZ e40 N35 H103 F41 (hb hby d8_47) (n := 2) (x' := (0 : Int32)) (by decide) (by decide) (by show 2 < 16; decide) (by decide) ?_
  intro T42 h42 lo42 X42 e42 N42 W42
  have F43 : own_Ary Z h42 a32 .boolean [(.int (0 : Int32)), (.int (0 : Int32)), (.int (0 : Int32)), (.int (0 : Int32)), (.int (0 : Int32)), (.int (0 : Int32)), (.int (0 : Int32)), (.int (0 : Int32)), (.int (0 : Int32)), (.int (0 : Int32)), (.int (0 : Int32)), (.int (0 : Int32)), (.int (0 : Int32)), (.int (0 : Int32)), (.int (0 : Int32)), (.int (0 : Int32))] := F41.set W42
  show own_Go _ _ _ _ _ _ _ T42 (mkF m 48 L17 [])
  refine own_pre (T' := T42) (g' := (mkF m 49 L17 [(.ref a10)])) (fun t k => XS.aloadN X42.here hx rfl (v := (.ref a10)) (hb hby d8_48) (by rw [← hL17]; rfl) rfl k) ?_
  have F44 : Fld Z h42 a10 "com/example/rankline/rankline/Buckets" "copies" "[J" (.ref a33) := (((((F8.other W20 (Or.inl (Nat.ne_of_lt H61))).other W25 (Or.inl (Nat.ne_of_lt H60))).other W30 (Or.inl (Nat.ne_of_lt H59))).other W35 (Or.inl (Nat.ne_of_lt H58))).other W42 (Or.inl (Nat.ne_of_lt H57)))
  refine own_getf X42 hx hZ hown (own_w hw 27 rfl) e42 F44 (hb hby d8_49) ?_
  intro T45 X45 e45
  show own_Go _ _ _ _ _ _ _ T45 (mkF m 52 L17 [(.ref a33)])
  refine own_pre (T' := T45) (g' := (mkF m 54 L17 [(.int (2 : Int32)), (.ref a33)])) (fun t k => XS.iload X45.here hx rfl (v := (2 : Int32)) (hb hby d8_52) (by rw [← hL17]; rfl) k) ?_
  refine own_pre (T' := T45) (g' := (mkF m 56 L17 [(.long (0 : Int64)), (.int (2 : Int32)), (.ref a33)])) (fun t k => XT.lload X45.here hx rfl (v := (0 : Int64)) (hb hby d8_54) (by rw [← hL17]; rfl) k) ?_
  have F46 : own_Ary Z h42 a33 .long [(.long (0 : Int64)), (.long (0 : Int64)), (.long (0 : Int64)), (.long (0 : Int64)), (.long (0 : Int64)), (.long (0 : Int64)), (.long (0 : Int64)), (.long (0 : Int64)), (.long (0 : Int64)), (.long (0 : Int64)), (.long (0 : Int64)), (.long (0 : Int64)), (.long (0 : Int64)), (.long (0 : Int64)), (.long (0 : Int64)), (.long (0 : Int64))] := ((((((H20.keep K2 (ninS (Nat.ne_of_gt H56) nin0)).other W20 (Nat.ne_of_gt H91)).other W25 (Nat.ne_of_gt H90)).other W30 (Nat.ne_of_gt H89)).other W35 (Nat.ne_of_gt H88)).other W42 (Nat.ne_of_gt H87))
  refine own_lastore X45 hx hZ e45 N42 H95 F46 (hb hby d8_56) (n := 2) (by decide) (by decide) (by show 2 < 16; decide) ?_
  intro T47 h47 lo47 X47 e47 N47 W47
  have F48 : own_Ary Z h47 a33 .long [(.long (0 : Int64)), (.long (0 : Int64)), (.long (0 : Int64)), (.long (0 : Int64)), (.long (0 : Int64)), (.long (0 : Int64)), (.long (0 : Int64)), (.long (0 : Int64)), (.long (0 : Int64)), (.long (0 : Int64)), (.long (0 : Int64)), (.long (0 : Int64)), (.long (0 : Int64)), (.long (0 : Int64)), (.long (0 : Int64)), (.long (0 : Int64))] := F46.set W47
  show own_Go _ _ _ _ _ _ _ T47 (mkF m 57 L17 [])
  refine own_pre (T' := T47) (g' := (mkF m 58 L17 [(.int (-1 : Int32))])) (fun t k => XS.iloadN X47.here hx rfl (v := (-1 : Int32)) (hb hby d8_57) (by rw [← hL17]; rfl) k) ?_
  refine own_pre (T' := T47) (g' := (mkF m 59 L17 [(.int (-1 : Int32)), (.int (-1 : Int32))])) (fun t k => XS.iconst X47.here hx rfl (hb hby d8_58) k) ?_
  refine own_pre (T' := T47) (g' := (mkF m 62 L17 [])) (fun t k => XS.icmpNo X47.here hx rfl (hb hby d8_59) rfl (by decide) k) ?_
  refine own_pre (T' := T47) (g' := (mkF m 63 L17 [(.ref a10)])) (fun t k => XS.aloadN X47.here hx rfl (v := (.ref a10)) (hb hby d8_62) (by rw [← hL17]; rfl) rfl k) ?_
  have F49 : Fld Z h47 a10 "com/example/rankline/rankline/Buckets" "last" "I" (.int (1 : Int32)) := ((((((F12.other W20 (Or.inl (Nat.ne_of_lt H61))).other W25 (Or.inl (Nat.ne_of_lt H60))).other W30 (Or.inl (Nat.ne_of_lt H59))).other W35 (Or.inl (Nat.ne_of_lt H58))).other W42 (Or.inl (Nat.ne_of_lt H57))).other W47 (Or.inl (Nat.ne_of_lt H56)))
  refine own_getf X47 hx hZ hown (own_w hw 36 rfl) e47 F49 (hb hby d8_63) ?_
  intro T50 X50 e50
  show own_Go _ _ _ _ _ _ _ T50 (mkF m 66 L17 [(.int (1 : Int32))])
  refine own_pre (T' := T50) (g' := (mkF m 75 L17 [(.int (1 : Int32))])) (fun t k => XS.goto X50.here hx rfl (pc0 := 66) (pc' := 75) rfl (hb hby d8_66) (by decide) (by decide) k) ?_
  refine own_pre (T' := T50) (g' := (mkF m 77 #[.val (.ref a10), .val (.int (-1 : Int32)), .val (.double (4611686018427387904 : UInt64)), .second, .val (.double f225), .second, .val (.ref a11), .val (.long (0 : Int64)), .second, .val (.int (2 : Int32)), .val (.int (1 : Int32))] [])) (fun t k => XS.istore X50.here hx rfl (hb hby d8_75) rfl (l' := #[.val (.ref a10), .val (.int (-1 : Int32)), .val (.double (4611686018427387904 : UInt64)), .second, .val (.double f225), .second, .val (.ref a11), .val (.long (0 : Int64)), .second, .val (.int (2 : Int32)), .val (.int (1 : Int32))]) (by rw [← hL17]; rfl) k) ?_
  generalize hL51 : (#[.val (.ref a10), .val (.int (-1 : Int32)), .val (.double (4611686018427387904 : UInt64)), .second, .val (.double f225), .second, .val (.ref a11), .val (.long (0 : Int64)), .second, .val (.int (2 : Int32)), .val (.int (1 : Int32))] : Array Slot) = L51
  refine own_pre (T' := T50) (g' := (mkF m 78 L51 [(.ref a10)])) (fun t k => XS.aloadN X50.here hx rfl (v := (.ref a10)) (hb hby d8_77) (by rw [← hL51]; rfl) rfl k) ?_
  have F52 : Fld Z h47 a10 "com/example/rankline/rankline/Buckets" "nextOf" "[I" (.ref a34) := ((((((F9.other W20 (Or.inl (Nat.ne_of_lt H61))).other W25 (Or.inl (Nat.ne_of_lt H60))).other W30 (Or.inl (Nat.ne_of_lt H59))).other W35 (Or.inl (Nat.ne_of_lt H58))).other W42 (Or.inl (Nat.ne_of_lt H57))).other W47 (Or.inl (Nat.ne_of_lt H56)))
  refine own_getf X50 hx hZ hown (own_w hw 30 rfl) e50 F52 (hb hby d8_78) ?_
  intro T53 X53 e53
  show own_Go _ _ _ _ _ _ _ T53 (mkF m 81 L51 [(.ref a34)])
  refine own_pre (T' := T53) (g' := (mkF m 83 L51 [(.int (2 : Int32)), (.ref a34)])) (fun t k => XS.iload X53.here hx rfl (v := (2 : Int32)) (hb hby d8_81) (by rw [← hL51]; rfl) k) ?_
  refine own_pre (T' := T53) (g' := (mkF m 84 L51 [(.int (-1 : Int32)), (.int (2 : Int32)), (.ref a34)])) (fun t k => XS.iloadN X53.here hx rfl (v := (-1 : Int32)) (hb hby d8_83) (by rw [← hL51]; rfl) k) ?_
  have F54 : own_Ary Z h47 a34 .int [(.int (1 : Int32)), (.int (-1 : Int32)), (.int (0 : Int32)), (.int (0 : Int32)), (.int (0 : Int32)), (.int (0 : Int32)), (.int (0 : Int32)), (.int (0 : Int32)), (.int (0 : Int32)), (.int (0 : Int32)), (.int (0 : Int32)), (.int (0 : Int32)), (.int (0 : Int32)), (.int (0 : Int32)), (.int (0 : Int32)), (.int (0 : Int32))] := (((((((H19.keep K2 (ninS (Nat.ne_of_gt H55) nin0)).other W20 (Nat.ne_of_gt H82)).other W25 (Nat.ne_of_gt H81)).other W30 (Nat.ne_of_gt H80)).other W35 (Nat.ne_of_gt H79)).other W42 (Nat.ne_of_gt H78)).other W47 (Nat.ne_of_gt H77))
  refine own_iastore X53 hx hZ e53 N47 H86 F54 (hb hby d8_84) (n := 2) (by decide) (by decide) (by show 2 < 16; decide) ?_
  intro T55 h55 lo55 X55 e55 N55 W55
  have F56 : own_Ary Z h55 a34 .int [(.int (1 : Int32)), (.int (-1 : Int32)), (.int (-1 : Int32)), (.int (0 : Int32)), (.int (0 : Int32)), (.int (0 : Int32)), (.int (0 : Int32)), (.int (0 : Int32)), (.int (0 : Int32)), (.int (0 : Int32)), (.int (0 : Int32)), (.int (0 : Int32)), (.int (0 : Int32)), (.int (0 : Int32)), (.int (0 : Int32)), (.int (0 : Int32))] := F54.set W55
  show own_Go _ _ _ _ _ _ _ T55 (mkF m 85 L51 [])
  refine own_pre (T' := T55) (g' := (mkF m 86 L51 [(.ref a10)])) (fun t k => XS.aloadN X55.here hx rfl (v := (.ref a10)) (hb hby d8_85) (by rw [← hL51]; rfl) rfl k) ?_
  have F57 : Fld Z h55 a10 "com/example/rankline/rankline/Buckets" "previousOf" "[I" (.ref a35) := (((((((F10.other W20 (Or.inl (Nat.ne_of_lt H61))).other W25 (Or.inl (Nat.ne_of_lt H60))).other W30 (Or.inl (Nat.ne_of_lt H59))).other W35 (Or.inl (Nat.ne_of_lt H58))).other W42 (Or.inl (Nat.ne_of_lt H57))).other W47 (Or.inl (Nat.ne_of_lt H56))).other W55 (Or.inl (Nat.ne_of_lt H55)))
  refine own_getf X55 hx hZ hown (own_w hw 32 rfl) e55 F57 (hb hby d8_86) ?_
  intro T58 X58 e58
  show own_Go _ _ _ _ _ _ _ T58 (mkF m 89 L51 [(.ref a35)])
  refine own_pre (T' := T58) (g' := (mkF m 91 L51 [(.int (2 : Int32)), (.ref a35)])) (fun t k => XS.iload X58.here hx rfl (v := (2 : Int32)) (hb hby d8_89) (by rw [← hL51]; rfl) k) ?_
  refine own_pre (T' := T58) (g' := (mkF m 93 L51 [(.int (1 : Int32)), (.int (2 : Int32)), (.ref a35)])) (fun t k => XS.iload X58.here hx rfl (v := (1 : Int32)) (hb hby d8_91) (by rw [← hL51]; rfl) k) ?_
  have F59 : own_Ary Z h55 a35 .int [(.int (-1 : Int32)), (.int (0 : Int32)), (.int (0 : Int32)), (.int (0 : Int32)), (.int (0 : Int32)), (.int (0 : Int32)), (.int (0 : Int32)), (.int (0 : Int32)), (.int (0 : Int32)), (.int (0 : Int32)), (.int (0 : Int32)), (.int (0 : Int32)), (.int (0 : Int32)), (.int (0 : Int32)), (.int (0 : Int32)), (.int (0 : Int32))] := ((((((((H18.keep K2 (ninS (Nat.ne_of_gt H54) nin0)).other W20 (Nat.ne_of_gt H72)).other W25 (Nat.ne_of_gt H71)).other W30 (Nat.ne_of_gt H70)).other W35 (Nat.ne_of_gt H69)).other W42 (Nat.ne_of_gt H68)).other W47 (Nat.ne_of_gt H67)).other W55 (Nat.ne_of_gt H66))
  refine own_iastore X58 hx hZ e58 N55 H76 F59 (hb hby d8_93) (n := 2) (by decide) (by decide) (by show 2 < 16; decide) ?_
  intro T60 h60 lo60 X60 e60 N60 W60
  have F61 : own_Ary Z h60 a35 .int [(.int (-1 : Int32)), (.int (0 : Int32)), (.int (1 : Int32)), (.int (0 : Int32)), (.int (0 : Int32)), (.int (0 : Int32)), (.int (0 : Int32)), (.int (0 : Int32)), (.int (0 : Int32)), (.int (0 : Int32)), (.int (0 : Int32)), (.int (0 : Int32)), (.int (0 : Int32)), (.int (0 : Int32)), (.int (0 : Int32)), (.int (0 : Int32))] := F59.set W60
  show own_Go _ _ _ _ _ _ _ T60 (mkF m 94 L51 [])
  refine own_pre (T' := T60) (g' := (mkF m 96 L51 [(.int (1 : Int32))])) (fun t k => XS.iload X60.here hx rfl (v := (1 : Int32)) (hb hby d8_94) (by rw [← hL51]; rfl) k) ?_
  refine own_pre (T' := T60) (g' := (mkF m 97 L51 [(.int (-1 : Int32)), (.int (1 : Int32))])) (fun t k => XS.iconst X60.here hx rfl (hb hby d8_96) k) ?_
  refine own_pre (T' := T60) (g' := (mkF m 109 L51 [])) (fun t k => XS.icmpYes X60.here hx rfl (pc0 := 97) (pc' := 109) rfl (hb hby d8_97) rfl (by decide) (by decide) (by decide) k) ?_
  refine own_pre (T' := T60) (g' := (mkF m 110 L51 [(.ref a10)])) (fun t k => XS.aloadN X60.here hx rfl (v := (.ref a10)) (hb hby d8_109) (by rw [← hL51]; rfl) rfl k) ?_
  have F62 : Fld Z h60 a10 "com/example/rankline/rankline/Buckets" "nextOf" "[I" (.ref a34) := ((F52.other W55 (Or.inl (Nat.ne_of_lt H55))).other W60 (Or.inl (Nat.ne_of_lt H54)))
  refine own_getf X60 hx hZ hown (own_w hw 30 rfl) e60 F62 (hb hby d8_110) ?_
  intro T63 X63 e63
  show own_Go _ _ _ _ _ _ _ T63 (mkF m 113 L51 [(.ref a34)])
  refine own_pre (T' := T63) (g' := (mkF m 115 L51 [(.int (1 : Int32)), (.ref a34)])) (fun t k => XS.iload X63.here hx rfl (v := (1 : Int32)) (hb hby d8_113) (by rw [← hL51]; rfl) k) ?_
  refine own_pre (T' := T63) (g' := (mkF m 117 L51 [(.int (2 : Int32)), (.int (1 : Int32)), (.ref a34)])) (fun t k => XS.iload X63.here hx rfl (v := (2 : Int32)) (hb hby d8_115) (by rw [← hL51]; rfl) k) ?_
  have F64 : own_Ary Z h60 a34 .int [(.int (1 : Int32)), (.int (-1 : Int32)), (.int (-1 : Int32)), (.int (0 : Int32)), (.int (0 : Int32)), (.int (0 : Int32)), (.int (0 : Int32)), (.int (0 : Int32)), (.int (0 : Int32)), (.int (0 : Int32)), (.int (0 : Int32)), (.int (0 : Int32)), (.int (0 : Int32)), (.int (0 : Int32)), (.int (0 : Int32)), (.int (0 : Int32))] := (F56.other W60 (Nat.ne_of_lt H66))
  refine own_iastore X63 hx hZ e63 N60 H86 F64 (hb hby d8_117) (n := 1) (by decide) (by decide) (by show 1 < 16; decide) ?_
  intro T65 h65 lo65 X65 e65 N65 W65
  have F66 : own_Ary Z h65 a34 .int [(.int (1 : Int32)), (.int (2 : Int32)), (.int (-1 : Int32)), (.int (0 : Int32)), (.int (0 : Int32)), (.int (0 : Int32)), (.int (0 : Int32)), (.int (0 : Int32)), (.int (0 : Int32)), (.int (0 : Int32)), (.int (0 : Int32)), (.int (0 : Int32)), (.int (0 : Int32)), (.int (0 : Int32)), (.int (0 : Int32)), (.int (0 : Int32))] := F64.set W65
  show own_Go _ _ _ _ _ _ _ T65 (mkF m 118 L51 [])
  refine own_pre (T' := T65) (g' := (mkF m 119 L51 [(.int (-1 : Int32))])) (fun t k => XS.iloadN X65.here hx rfl (v := (-1 : Int32)) (hb hby d8_118) (by rw [← hL51]; rfl) k) ?_
  refine own_pre (T' := T65) (g' := (mkF m 120 L51 [(.int (-1 : Int32)), (.int (-1 : Int32))])) (fun t k => XS.iconst X65.here hx rfl (hb hby d8_119) k) ?_
  refine own_pre (T' := T65) (g' := (mkF m 123 L51 [])) (fun t k => XS.icmpNo X65.here hx rfl (hb hby d8_120) rfl (by decide) k) ?_
  refine own_pre (T' := T65) (g' := (mkF m 124 L51 [(.ref a10)])) (fun t k => XS.aloadN X65.here hx rfl (v := (.ref a10)) (hb hby d8_123) (by rw [← hL51]; rfl) rfl k) ?_
  refine own_pre (T' := T65) (g' := (mkF m 126 L51 [(.int (2 : Int32)), (.ref a10)])) (fun t k => XS.iload X65.here hx rfl (v := (2 : Int32)) (hb hby d8_124) (by rw [← hL51]; rfl) k) ?_
  have F67 : Fld Z h65 a10 "com/example/rankline/rankline/Buckets" "last" "I" (.int (1 : Int32)) := (((F49.other W55 (Or.inl (Nat.ne_of_lt H55))).other W60 (Or.inl (Nat.ne_of_lt H54))).other W65 (Or.inl (Nat.ne_of_lt H55)))
  have F68 : Exa Z h65 a10 "com/example/rankline/rankline/Buckets" := ((((((((((H1.keep K2).wr W20).wr W25).wr W30).wr W35).wr W42).wr W47).wr W55).wr W60).wr W65)
  refine own_putf X65 hx hZ hown (own_w hw 36 rfl) e65 N65 H65 F67 F68 (Or.inl (own_w hw 37 rfl)) (own_w hw 4 rfl) (ty := .int) (by decide) rfl rfl (hb hby d8_126) ?_
  intro T69 h69 lo69 X69 e69 N69 W69
  have F70 : Fld Z h69 a10 "com/example/rankline/rankline/Buckets" "last" "I" (.int (2 : Int32)) := F67.same W69
  show own_Go _ _ _ _ _ _ _ T69 (mkF m 129 L51 [])
  refine own_pre (T' := T69) (g' := (mkF m 140 L51 [])) (fun t k => XS.goto X69.here hx rfl (pc0 := 129) (pc' := 140) rfl (hb hby d8_129) (by decide) (by decide) k) ?_
  refine own_pre (T' := T69) (g' := (mkF m 141 L51 [(.ref a10)])) (fun t k => XS.aloadN X69.here hx rfl (v := (.ref a10)) (hb hby d8_140) (by rw [← hL51]; rfl) rfl k) ?_
  refine own_pre (T' := T69) (g' := (mkF m 142 L51 [(.ref a10), (.ref a10)])) (fun t k => XS.dup X69.here hx rfl (hb hby d8_141) rfl rfl k) ?_
  have F71 : Fld Z h69 a10 "com/example/rankline/rankline/Buckets" "size" "I" (.int (2 : Int32)) := ((((((((((F15.other W20 (Or.inl (Nat.ne_of_lt H61))).other W25 (Or.inl (Nat.ne_of_lt H60))).other W30 (Or.inl (Nat.ne_of_lt H59))).other W35 (Or.inl (Nat.ne_of_lt H58))).other W42 (Or.inl (Nat.ne_of_lt H57))).other W47 (Or.inl (Nat.ne_of_lt H56))).other W55 (Or.inl (Nat.ne_of_lt H55))).other W60 (Or.inl (Nat.ne_of_lt H54))).other W65 (Or.inl (Nat.ne_of_lt H55))).other W69 (Or.inr (slot_ne (C := "com/example/rankline/rankline/Buckets") (Or.inl (own_w hw 50 rfl)) (Or.inl (own_w hw 37 rfl)) (by decide) (t := .int) (t' := .int) (by decide) (by decide))))
  refine own_getf X69 hx hZ hown (own_w hw 49 rfl) e69 F71 (hb hby d8_142) ?_
  intro T72 X72 e72
  show own_Go _ _ _ _ _ _ _ T72 (mkF m 145 L51 [(.int (2 : Int32)), (.ref a10)])
  refine own_pre (T' := T72) (g' := (mkF m 146 L51 [(.int (1 : Int32)), (.int (2 : Int32)), (.ref a10)])) (fun t k => XS.iconst X72.here hx rfl (hb hby d8_145) k) ?_
  refine own_pre (T' := T72) (g' := (mkF m 147 L51 [(.int (3 : Int32)), (.ref a10)])) (fun t k => XS.iadd X72.here hx rfl (hb hby d8_146) rfl k) ?_
  have F73 : Exa Z h69 a10 "com/example/rankline/rankline/Buckets" := (F68.wr W69)
  refine own_putf X72 hx hZ hown (own_w hw 49 rfl) e72 N69 H65 F71 F73 (Or.inl (own_w hw 50 rfl)) (own_w hw 4 rfl) (ty := .int) (by decide) rfl rfl (hb hby d8_147) ?_
  intro T74 h74 lo74 X74 e74 N74 W74
  have F75 : Fld Z h74 a10 "com/example/rankline/rankline/Buckets" "size" "I" (.int (3 : Int32)) := F71.same W74
  show own_Go _ _ _ _ _ _ _ T74 (mkF m 150 L51 [])
  refine own_pre (T' := T74) (g' := (mkF m 152 L51 [(.int (2 : Int32))])) (fun t k => XS.iload X74.here hx rfl (v := (2 : Int32)) (hb hby d8_150) (by rw [← hL51]; rfl) k) ?_
  have F76 : own_Ary Z h74 a35 .int [(.int (-1 : Int32)), (.int (0 : Int32)), (.int (1 : Int32)), (.int (0 : Int32)), (.int (0 : Int32)), (.int (0 : Int32)), (.int (0 : Int32)), (.int (0 : Int32)), (.int (0 : Int32)), (.int (0 : Int32)), (.int (0 : Int32)), (.int (0 : Int32)), (.int (0 : Int32)), (.int (0 : Int32)), (.int (0 : Int32)), (.int (0 : Int32))] := (((F61.other W65 (Nat.ne_of_gt H66)).other W69 (Nat.ne_of_gt H54)).other W74 (Nat.ne_of_gt H54))
  have F77 : own_Ary Z h74 a34 .int [(.int (1 : Int32)), (.int (2 : Int32)), (.int (-1 : Int32)), (.int (0 : Int32)), (.int (0 : Int32)), (.int (0 : Int32)), (.int (0 : Int32)), (.int (0 : Int32)), (.int (0 : Int32)), (.int (0 : Int32)), (.int (0 : Int32)), (.int (0 : Int32)), (.int (0 : Int32)), (.int (0 : Int32)), (.int (0 : Int32)), (.int (0 : Int32))] := ((F66.other W69 (Nat.ne_of_gt H55)).other W74 (Nat.ne_of_gt H55))
  have F78 : own_Ary Z h74 a33 .long [(.long (0 : Int64)), (.long (0 : Int64)), (.long (0 : Int64)), (.long (0 : Int64)), (.long (0 : Int64)), (.long (0 : Int64)), (.long (0 : Int64)), (.long (0 : Int64)), (.long (0 : Int64)), (.long (0 : Int64)), (.long (0 : Int64)), (.long (0 : Int64)), (.long (0 : Int64)), (.long (0 : Int64)), (.long (0 : Int64)), (.long (0 : Int64))] := (((((F48.other W55 (Nat.ne_of_lt H77)).other W60 (Nat.ne_of_lt H67)).other W65 (Nat.ne_of_lt H77)).other W69 (Nat.ne_of_gt H56)).other W74 (Nat.ne_of_gt H56))
  have F79 : own_Ary Z h74 a32 .boolean [(.int (0 : Int32)), (.int (0 : Int32)), (.int (0 : Int32)), (.int (0 : Int32)), (.int (0 : Int32)), (.int (0 : Int32)), (.int (0 : Int32)), (.int (0 : Int32)), (.int (0 : Int32)), (.int (0 : Int32)), (.int (0 : Int32)), (.int (0 : Int32)), (.int (0 : Int32)), (.int (0 : Int32)), (.int (0 : Int32)), (.int (0 : Int32))] := ((((((F43.other W47 (Nat.ne_of_lt H87)).other W55 (Nat.ne_of_lt H78)).other W60 (Nat.ne_of_lt H68)).other W65 (Nat.ne_of_lt H78)).other W69 (Nat.ne_of_gt H57)).other W74 (Nat.ne_of_gt H57))
  have F80 : own_Ary Z h74 a31 (.object "com/example/rankline/rankline/Extent") [(.ref a125), (.ref a180), (.ref a11), .null, .null, .null, .null, .null, .null, .null, .null, .null, .null, .null, .null, .null] := (((((((F38.other W42 (Nat.ne_of_lt H96)).other W47 (Nat.ne_of_lt H88)).other W55 (Nat.ne_of_lt H79)).other W60 (Nat.ne_of_lt H69)).other W65 (Nat.ne_of_lt H79)).other W69 (Nat.ne_of_gt H58)).other W74 (Nat.ne_of_gt H58))
  have F81 : own_Ary Z h74 a30 .boolean [(.int (0 : Int32)), (.int (0 : Int32)), (.int (0 : Int32)), (.int (0 : Int32)), (.int (0 : Int32)), (.int (0 : Int32)), (.int (0 : Int32)), (.int (0 : Int32)), (.int (0 : Int32)), (.int (0 : Int32)), (.int (0 : Int32)), (.int (0 : Int32)), (.int (0 : Int32)), (.int (0 : Int32)), (.int (0 : Int32)), (.int (0 : Int32))] := ((((((((F31.other W35 (Nat.ne_of_lt H104)).other W42 (Nat.ne_of_lt H97)).other W47 (Nat.ne_of_lt H89)).other W55 (Nat.ne_of_lt H80)).other W60 (Nat.ne_of_lt H70)).other W65 (Nat.ne_of_lt H80)).other W69 (Nat.ne_of_gt H59)).other W74 (Nat.ne_of_gt H59))
  have F82 : own_Ary Z h74 a29 .double [(.double f121), (.double f167), (.double f225), (.double (0 : UInt64)), (.double (0 : UInt64)), (.double (0 : UInt64)), (.double (0 : UInt64)), (.double (0 : UInt64)), (.double (0 : UInt64)), (.double (0 : UInt64)), (.double (0 : UInt64)), (.double (0 : UInt64)), (.double (0 : UInt64)), (.double (0 : UInt64)), (.double (0 : UInt64)), (.double (0 : UInt64))] := (((((((((F26.other W30 (Nat.ne_of_lt H111)).other W35 (Nat.ne_of_lt H105)).other W42 (Nat.ne_of_lt H98)).other W47 (Nat.ne_of_lt H90)).other W55 (Nat.ne_of_lt H81)).other W60 (Nat.ne_of_lt H71)).other W65 (Nat.ne_of_lt H81)).other W69 (Nat.ne_of_gt H60)).other W74 (Nat.ne_of_gt H60))
  have F83 : own_Ary Z h74 a28 .double [(.double (0 : UInt64)), (.double (4607182418800017408 : UInt64)), (.double (4611686018427387904 : UInt64)), (.double (0 : UInt64)), (.double (0 : UInt64)), (.double (0 : UInt64)), (.double (0 : UInt64)), (.double (0 : UInt64)), (.double (0 : UInt64)), (.double (0 : UInt64)), (.double (0 : UInt64)), (.double (0 : UInt64)), (.double (0 : UInt64)), (.double (0 : UInt64)), (.double (0 : UInt64)), (.double (0 : UInt64))] := ((((((((((F21.other W25 (Nat.ne_of_lt H117)).other W30 (Nat.ne_of_lt H112)).other W35 (Nat.ne_of_lt H106)).other W42 (Nat.ne_of_lt H99)).other W47 (Nat.ne_of_lt H91)).other W55 (Nat.ne_of_lt H82)).other W60 (Nat.ne_of_lt H72)).other W65 (Nat.ne_of_lt H82)).other W69 (Nat.ne_of_gt H61)).other W74 (Nat.ne_of_gt H61))
  have F84 : Fld Z h74 a10 "com/example/rankline/rankline/Buckets" "thresholds" "[D" (.ref a28) := (((((((((((F3.other W20 (Or.inl (Nat.ne_of_lt H61))).other W25 (Or.inl (Nat.ne_of_lt H60))).other W30 (Or.inl (Nat.ne_of_lt H59))).other W35 (Or.inl (Nat.ne_of_lt H58))).other W42 (Or.inl (Nat.ne_of_lt H57))).other W47 (Or.inl (Nat.ne_of_lt H56))).other W55 (Or.inl (Nat.ne_of_lt H55))).other W60 (Or.inl (Nat.ne_of_lt H54))).other W65 (Or.inl (Nat.ne_of_lt H55))).other W69 (Or.inr (slot_ne (C := "com/example/rankline/rankline/Buckets") (Or.inl (own_w hw 14 rfl)) (Or.inl (own_w hw 37 rfl)) (by decide) (t := (.array .double)) (t' := .int) (by decide) (by decide)))).other W74 (Or.inr (slot_ne (C := "com/example/rankline/rankline/Buckets") (Or.inl (own_w hw 14 rfl)) (Or.inl (own_w hw 50 rfl)) (by decide) (t := (.array .double)) (t' := .int) (by decide) (by decide))))
  have F85 : Fld Z h74 a10 "com/example/rankline/rankline/Buckets" "ranks" "[D" (.ref a29) := ((((((((((F22.other W25 (Or.inl (Nat.ne_of_lt H60))).other W30 (Or.inl (Nat.ne_of_lt H59))).other W35 (Or.inl (Nat.ne_of_lt H58))).other W42 (Or.inl (Nat.ne_of_lt H57))).other W47 (Or.inl (Nat.ne_of_lt H56))).other W55 (Or.inl (Nat.ne_of_lt H55))).other W60 (Or.inl (Nat.ne_of_lt H54))).other W65 (Or.inl (Nat.ne_of_lt H55))).other W69 (Or.inr (slot_ne (C := "com/example/rankline/rankline/Buckets") (Or.inl (own_w hw 16 rfl)) (Or.inl (own_w hw 37 rfl)) (by decide) (t := (.array .double)) (t' := .int) (by decide) (by decide)))).other W74 (Or.inr (slot_ne (C := "com/example/rankline/rankline/Buckets") (Or.inl (own_w hw 16 rfl)) (Or.inl (own_w hw 50 rfl)) (by decide) (t := (.array .double)) (t' := .int) (by decide) (by decide))))
  have F86 : Fld Z h74 a10 "com/example/rankline/rankline/Buckets" "guarded" "[Z" (.ref a30) := (((((((((F27.other W30 (Or.inl (Nat.ne_of_lt H59))).other W35 (Or.inl (Nat.ne_of_lt H58))).other W42 (Or.inl (Nat.ne_of_lt H57))).other W47 (Or.inl (Nat.ne_of_lt H56))).other W55 (Or.inl (Nat.ne_of_lt H55))).other W60 (Or.inl (Nat.ne_of_lt H54))).other W65 (Or.inl (Nat.ne_of_lt H55))).other W69 (Or.inr (slot_ne (C := "com/example/rankline/rankline/Buckets") (Or.inl (own_w hw 19 rfl)) (Or.inl (own_w hw 37 rfl)) (by decide) (t := (.array .boolean)) (t' := .int) (by decide) (by decide)))).other W74 (Or.inr (slot_ne (C := "com/example/rankline/rankline/Buckets") (Or.inl (own_w hw 19 rfl)) (Or.inl (own_w hw 50 rfl)) (by decide) (t := (.array .boolean)) (t' := .int) (by decide) (by decide))))
  have F87 : Fld Z h74 a10 "com/example/rankline/rankline/Buckets" "extents" "[Lcom/example/rankline/rankline/Extent;" (.ref a31) := ((((((((F32.other W35 (Or.inl (Nat.ne_of_lt H58))).other W42 (Or.inl (Nat.ne_of_lt H57))).other W47 (Or.inl (Nat.ne_of_lt H56))).other W55 (Or.inl (Nat.ne_of_lt H55))).other W60 (Or.inl (Nat.ne_of_lt H54))).other W65 (Or.inl (Nat.ne_of_lt H55))).other W69 (Or.inr (slot_ne (C := "com/example/rankline/rankline/Buckets") (Or.inl (own_w hw 23 rfl)) (Or.inl (own_w hw 37 rfl)) (by decide) (t := (.array (.object "com/example/rankline/rankline/Extent"))) (t' := .int) (by decide) (by decide)))).other W74 (Or.inr (slot_ne (C := "com/example/rankline/rankline/Buckets") (Or.inl (own_w hw 23 rfl)) (Or.inl (own_w hw 50 rfl)) (by decide) (t := (.array (.object "com/example/rankline/rankline/Extent"))) (t' := .int) (by decide) (by decide))))
  have F88 : Fld Z h74 a10 "com/example/rankline/rankline/Buckets" "addedAtThreshold" "[Z" (.ref a32) := (((((((F39.other W42 (Or.inl (Nat.ne_of_lt H57))).other W47 (Or.inl (Nat.ne_of_lt H56))).other W55 (Or.inl (Nat.ne_of_lt H55))).other W60 (Or.inl (Nat.ne_of_lt H54))).other W65 (Or.inl (Nat.ne_of_lt H55))).other W69 (Or.inr (slot_ne (C := "com/example/rankline/rankline/Buckets") (Or.inl (own_w hw 25 rfl)) (Or.inl (own_w hw 37 rfl)) (by decide) (t := (.array .boolean)) (t' := .int) (by decide) (by decide)))).other W74 (Or.inr (slot_ne (C := "com/example/rankline/rankline/Buckets") (Or.inl (own_w hw 25 rfl)) (Or.inl (own_w hw 50 rfl)) (by decide) (t := (.array .boolean)) (t' := .int) (by decide) (by decide))))
  have F89 : Fld Z h74 a10 "com/example/rankline/rankline/Buckets" "copies" "[J" (.ref a33) := ((((((F44.other W47 (Or.inl (Nat.ne_of_lt H56))).other W55 (Or.inl (Nat.ne_of_lt H55))).other W60 (Or.inl (Nat.ne_of_lt H54))).other W65 (Or.inl (Nat.ne_of_lt H55))).other W69 (Or.inr (slot_ne (C := "com/example/rankline/rankline/Buckets") (Or.inl (own_w hw 28 rfl)) (Or.inl (own_w hw 37 rfl)) (by decide) (t := (.array .long)) (t' := .int) (by decide) (by decide)))).other W74 (Or.inr (slot_ne (C := "com/example/rankline/rankline/Buckets") (Or.inl (own_w hw 28 rfl)) (Or.inl (own_w hw 50 rfl)) (by decide) (t := (.array .long)) (t' := .int) (by decide) (by decide))))
  have F90 : Fld Z h74 a10 "com/example/rankline/rankline/Buckets" "nextOf" "[I" (.ref a34) := (((F62.other W65 (Or.inl (Nat.ne_of_lt H55))).other W69 (Or.inr (slot_ne (C := "com/example/rankline/rankline/Buckets") (Or.inl (own_w hw 31 rfl)) (Or.inl (own_w hw 37 rfl)) (by decide) (t := (.array .int)) (t' := .int) (by decide) (by decide)))).other W74 (Or.inr (slot_ne (C := "com/example/rankline/rankline/Buckets") (Or.inl (own_w hw 31 rfl)) (Or.inl (own_w hw 50 rfl)) (by decide) (t := (.array .int)) (t' := .int) (by decide) (by decide))))
  have F91 : Fld Z h74 a10 "com/example/rankline/rankline/Buckets" "previousOf" "[I" (.ref a35) := ((((F57.other W60 (Or.inl (Nat.ne_of_lt H54))).other W65 (Or.inl (Nat.ne_of_lt H55))).other W69 (Or.inr (slot_ne (C := "com/example/rankline/rankline/Buckets") (Or.inl (own_w hw 33 rfl)) (Or.inl (own_w hw 37 rfl)) (by decide) (t := (.array .int)) (t' := .int) (by decide) (by decide)))).other W74 (Or.inr (slot_ne (C := "com/example/rankline/rankline/Buckets") (Or.inl (own_w hw 33 rfl)) (Or.inl (own_w hw 50 rfl)) (by decide) (t := (.array .int)) (t' := .int) (by decide) (by decide))))
  have F92 : Fld Z h74 a10 "com/example/rankline/rankline/Buckets" "first" "I" (.int (0 : Int32)) := (((((((((((F11.other W20 (Or.inl (Nat.ne_of_lt H61))).other W25 (Or.inl (Nat.ne_of_lt H60))).other W30 (Or.inl (Nat.ne_of_lt H59))).other W35 (Or.inl (Nat.ne_of_lt H58))).other W42 (Or.inl (Nat.ne_of_lt H57))).other W47 (Or.inl (Nat.ne_of_lt H56))).other W55 (Or.inl (Nat.ne_of_lt H55))).other W60 (Or.inl (Nat.ne_of_lt H54))).other W65 (Or.inl (Nat.ne_of_lt H55))).other W69 (Or.inr (slot_ne (C := "com/example/rankline/rankline/Buckets") (Or.inl (own_w hw 35 rfl)) (Or.inl (own_w hw 37 rfl)) (by decide) (t := .int) (t' := .int) (by decide) (by decide)))).other W74 (Or.inr (slot_ne (C := "com/example/rankline/rankline/Buckets") (Or.inl (own_w hw 35 rfl)) (Or.inl (own_w hw 50 rfl)) (by decide) (t := .int) (t' := .int) (by decide) (by decide))))
  have F93 : Fld Z h74 a10 "com/example/rankline/rankline/Buckets" "last" "I" (.int (2 : Int32)) := (F70.other W74 (Or.inr (slot_ne (C := "com/example/rankline/rankline/Buckets") (Or.inl (own_w hw 37 rfl)) (Or.inl (own_w hw 50 rfl)) (by decide) (t := .int) (t' := .int) (by decide) (by decide))))
  have F94 : Fld Z h74 a10 "com/example/rankline/rankline/Buckets" "free" "I" (.int (-1 : Int32)) := (((((((((((F13.other W20 (Or.inl (Nat.ne_of_lt H61))).other W25 (Or.inl (Nat.ne_of_lt H60))).other W30 (Or.inl (Nat.ne_of_lt H59))).other W35 (Or.inl (Nat.ne_of_lt H58))).other W42 (Or.inl (Nat.ne_of_lt H57))).other W47 (Or.inl (Nat.ne_of_lt H56))).other W55 (Or.inl (Nat.ne_of_lt H55))).other W60 (Or.inl (Nat.ne_of_lt H54))).other W65 (Or.inl (Nat.ne_of_lt H55))).other W69 (Or.inr (slot_ne (C := "com/example/rankline/rankline/Buckets") (Or.inl (own_w hw 39 rfl)) (Or.inl (own_w hw 37 rfl)) (by decide) (t := .int) (t' := .int) (by decide) (by decide)))).other W74 (Or.inr (slot_ne (C := "com/example/rankline/rankline/Buckets") (Or.inl (own_w hw 39 rfl)) (Or.inl (own_w hw 50 rfl)) (by decide) (t := .int) (t' := .int) (by decide) (by decide))))
  have F95 : Fld Z h74 a10 "com/example/rankline/rankline/Buckets" "smallestMagnitude" "D" (.double (9218868437227405312 : UInt64)) := (((((((((((F14.other W20 (Or.inl (Nat.ne_of_lt H61))).other W25 (Or.inl (Nat.ne_of_lt H60))).other W30 (Or.inl (Nat.ne_of_lt H59))).other W35 (Or.inl (Nat.ne_of_lt H58))).other W42 (Or.inl (Nat.ne_of_lt H57))).other W47 (Or.inl (Nat.ne_of_lt H56))).other W55 (Or.inl (Nat.ne_of_lt H55))).other W60 (Or.inl (Nat.ne_of_lt H54))).other W65 (Or.inl (Nat.ne_of_lt H55))).other W69 (Or.inr (slot_ne (C := "com/example/rankline/rankline/Buckets") (Or.inl (own_w hw 42 rfl)) (Or.inl (own_w hw 37 rfl)) (by decide) (t := .double) (t' := .int) (by decide) (by decide)))).other W74 (Or.inr (slot_ne (C := "com/example/rankline/rankline/Buckets") (Or.inl (own_w hw 42 rfl)) (Or.inl (own_w hw 50 rfl)) (by decide) (t := .double) (t' := .int) (by decide) (by decide))))
  have F96 : Fld Z h74 a10 "com/example/rankline/rankline/Buckets" "used" "I" (.int (3 : Int32)) := (((((((((((F16.other W20 (Or.inl (Nat.ne_of_lt H61))).other W25 (Or.inl (Nat.ne_of_lt H60))).other W30 (Or.inl (Nat.ne_of_lt H59))).other W35 (Or.inl (Nat.ne_of_lt H58))).other W42 (Or.inl (Nat.ne_of_lt H57))).other W47 (Or.inl (Nat.ne_of_lt H56))).other W55 (Or.inl (Nat.ne_of_lt H55))).other W60 (Or.inl (Nat.ne_of_lt H54))).other W65 (Or.inl (Nat.ne_of_lt H55))).other W69 (Or.inr (slot_ne (C := "com/example/rankline/rankline/Buckets") (Or.inl (own_w hw 92 rfl)) (Or.inl (own_w hw 37 rfl)) (by decide) (t := .int) (t' := .int) (by decide) (by decide)))).other W74 (Or.inr (slot_ne (C := "com/example/rankline/rankline/Buckets") (Or.inl (own_w hw 92 rfl)) (Or.inl (own_w hw 50 rfl)) (by decide) (t := .int) (t' := .int) (by decide) (by decide))))
  exact own_retI X74 hx hlk hret (hb hby d8_152) e74 ⟨rfl, N74, (((((((((((((Keep.refl _ _).trans K2 (allS (Or.inl (by simp)) all0)).wr W20 (Or.inl (by simp))).wr W25 (Or.inl (by simp))).wr W30 (Or.inl (by simp))).wr W35 (Or.inl (by simp))).wr W42 (Or.inl (by simp))).wr W47 (Or.inl (by simp))).wr W55 (Or.inl (by simp))).wr W60 (Or.inl (by simp))).wr W65 (Or.inl (by simp))).wr W69 (Or.inl (by simp))).wr W74 (Or.inl (by simp))), F76, F77, F78, F79, F80, F81, F82, F83, F84, F85, F86, F87, F88, F89, F90, F91, F92, F93, F94, F95, F75, F96⟩ (by decide) (by decide)
def own_s23_Q (Z : State) (a10 : Addr) (f225 : UInt64) (a11 : Addr) (a35 : Addr) (a34 : Addr) (a33 : Addr) (a32 : Addr) (a31 : Addr) (a30 : Addr) (a29 : Addr) (a28 : Addr) (a125 : Addr) (f121 : UInt64) (a180 : Addr) (f167 : UInt64) (v2 : Int32) (h0 : Heap) (n0 : Nat) (v_ : Option Value) (h_ : Heap) (L_ : List Loc) : Prop := (fun v h L => v = none ∧ Fr n0 L ∧ Keep h0 h [a10, a28, a29, a30, a31, a32, a33, a34, a35] ∧ own_Ary Z h a35 .int [(.int (-1 : Int32)), (.int (0 : Int32)), (.int (1 : Int32)), (.int (0 : Int32)), (.int (0 : Int32)), (.int (0 : Int32)), (.int (0 : Int32)), (.int (0 : Int32)), (.int (0 : Int32)), (.int (0 : Int32)), (.int (0 : Int32)), (.int (0 : Int32)), (.int (0 : Int32)), (.int (0 : Int32)), (.int (0 : Int32)), (.int (0 : Int32))] ∧ own_Ary Z h a34 .int [(.int (1 : Int32)), (.int (2 : Int32)), (.int (-1 : Int32)), (.int (0 : Int32)), (.int (0 : Int32)), (.int (0 : Int32)), (.int (0 : Int32)), (.int (0 : Int32)), (.int (0 : Int32)), (.int (0 : Int32)), (.int (0 : Int32)), (.int (0 : Int32)), (.int (0 : Int32)), (.int (0 : Int32)), (.int (0 : Int32)), (.int (0 : Int32))] ∧ own_Ary Z h a33 .long [(.long (0 : Int64)), (.long (0 : Int64)), (.long (0 : Int64)), (.long (0 : Int64)), (.long (0 : Int64)), (.long (0 : Int64)), (.long (0 : Int64)), (.long (0 : Int64)), (.long (0 : Int64)), (.long (0 : Int64)), (.long (0 : Int64)), (.long (0 : Int64)), (.long (0 : Int64)), (.long (0 : Int64)), (.long (0 : Int64)), (.long (0 : Int64))] ∧ own_Ary Z h a32 .boolean [(.int (0 : Int32)), (.int (0 : Int32)), (.int (0 : Int32)), (.int (0 : Int32)), (.int (0 : Int32)), (.int (0 : Int32)), (.int (0 : Int32)), (.int (0 : Int32)), (.int (0 : Int32)), (.int (0 : Int32)), (.int (0 : Int32)), (.int (0 : Int32)), (.int (0 : Int32)), (.int (0 : Int32)), (.int (0 : Int32)), (.int (0 : Int32))] ∧ own_Ary Z h a31 (.object "com/example/rankline/rankline/Extent") [(.ref a125), (.ref a180), (.ref a11), .null, .null, .null, .null, .null, .null, .null, .null, .null, .null, .null, .null, .null] ∧ own_Ary Z h a30 .boolean [(.int (0 : Int32)), (.int (0 : Int32)), (.int (0 : Int32)), (.int (0 : Int32)), (.int (0 : Int32)), (.int (0 : Int32)), (.int (0 : Int32)), (.int (0 : Int32)), (.int (0 : Int32)), (.int (0 : Int32)), (.int (0 : Int32)), (.int (0 : Int32)), (.int (0 : Int32)), (.int (0 : Int32)), (.int (0 : Int32)), (.int (0 : Int32))] ∧ own_Ary Z h a29 .double [(.double f121), (.double f167), (.double f225), (.double (0 : UInt64)), (.double (0 : UInt64)), (.double (0 : UInt64)), (.double (0 : UInt64)), (.double (0 : UInt64)), (.double (0 : UInt64)), (.double (0 : UInt64)), (.double (0 : UInt64)), (.double (0 : UInt64)), (.double (0 : UInt64)), (.double (0 : UInt64)), (.double (0 : UInt64)), (.double (0 : UInt64))] ∧ own_Ary Z h a28 .double [(.double (0 : UInt64)), (.double (4607182418800017408 : UInt64)), (.double (4611686018427387904 : UInt64)), (.double (0 : UInt64)), (.double (0 : UInt64)), (.double (0 : UInt64)), (.double (0 : UInt64)), (.double (0 : UInt64)), (.double (0 : UInt64)), (.double (0 : UInt64)), (.double (0 : UInt64)), (.double (0 : UInt64)), (.double (0 : UInt64)), (.double (0 : UInt64)), (.double (0 : UInt64)), (.double (0 : UInt64))] ∧ Fld Z h a10 "com/example/rankline/rankline/Buckets" "thresholds" "[D" (.ref a28) ∧ Fld Z h a10 "com/example/rankline/rankline/Buckets" "ranks" "[D" (.ref a29) ∧ Fld Z h a10 "com/example/rankline/rankline/Buckets" "guarded" "[Z" (.ref a30) ∧ Fld Z h a10 "com/example/rankline/rankline/Buckets" "extents" "[Lcom/example/rankline/rankline/Extent;" (.ref a31) ∧ Fld Z h a10 "com/example/rankline/rankline/Buckets" "addedAtThreshold" "[Z" (.ref a32) ∧ Fld Z h a10 "com/example/rankline/rankline/Buckets" "copies" "[J" (.ref a33) ∧ Fld Z h a10 "com/example/rankline/rankline/Buckets" "nextOf" "[I" (.ref a34) ∧ Fld Z h a10 "com/example/rankline/rankline/Buckets" "previousOf" "[I" (.ref a35) ∧ Fld Z h a10 "com/example/rankline/rankline/Buckets" "first" "I" (.int (0 : Int32)) ∧ Fld Z h a10 "com/example/rankline/rankline/Buckets" "last" "I" (.int (2 : Int32)) ∧ Fld Z h a10 "com/example/rankline/rankline/Buckets" "free" "I" (.int (-1 : Int32)) ∧ Fld Z h a10 "com/example/rankline/rankline/Buckets" "smallestMagnitude" "D" (.double (9218868437227405312 : UInt64)) ∧ Fld Z h a10 "com/example/rankline/rankline/Buckets" "size" "I" (.int (3 : Int32)) ∧ Fld Z h a10 "com/example/rankline/rankline/Buckets" "used" "I" (.int (3 : Int32))) v_ h_ L_
set_option maxRecDepth 65536 in
set_option maxHeartbeats 40000000 in
theorem own_s23 (l : Launch) (Z : State) (a0 : Array Value) (hw : ∀ d ∈ tables_1, d.before a0 Z = true) (wds : List Jvm.Cond) (a10 : Addr) (f225 : UInt64) (a11 : Addr) (a35 : Addr) (a34 : Addr) (a33 : Addr) (a32 : Addr) (a31 : Addr) (a30 : Addr) (a29 : Addr) (a28 : Addr) (a125 : Addr) (f121 : UInt64) (a180 : Addr) (f167 : UInt64) (v2 : Int32) (h0 : Heap) (n0 : Nat) (Z0 : n0 ≤ h0.size) (H1 : Exa Z h0 a10 "com/example/rankline/rankline/Buckets") (H7 : own_Ovr Z h0 a31 "com/example/rankline/rankline/Extent") (H18 : own_Ary Z h0 a35 .int [(.int (-1 : Int32)), (.int (0 : Int32)), (.int (0 : Int32)), (.int (0 : Int32)), (.int (0 : Int32)), (.int (0 : Int32)), (.int (0 : Int32)), (.int (0 : Int32)), (.int (0 : Int32)), (.int (0 : Int32)), (.int (0 : Int32)), (.int (0 : Int32)), (.int (0 : Int32)), (.int (0 : Int32)), (.int (0 : Int32)), (.int (0 : Int32))]) (H19 : own_Ary Z h0 a34 .int [(.int (1 : Int32)), (.int (-1 : Int32)), (.int (0 : Int32)), (.int (0 : Int32)), (.int (0 : Int32)), (.int (0 : Int32)), (.int (0 : Int32)), (.int (0 : Int32)), (.int (0 : Int32)), (.int (0 : Int32)), (.int (0 : Int32)), (.int (0 : Int32)), (.int (0 : Int32)), (.int (0 : Int32)), (.int (0 : Int32)), (.int (0 : Int32))]) (H20 : own_Ary Z h0 a33 .long [(.long (0 : Int64)), (.long (0 : Int64)), (.long (0 : Int64)), (.long (0 : Int64)), (.long (0 : Int64)), (.long (0 : Int64)), (.long (0 : Int64)), (.long (0 : Int64)), (.long (0 : Int64)), (.long (0 : Int64)), (.long (0 : Int64)), (.long (0 : Int64)), (.long (0 : Int64)), (.long (0 : Int64)), (.long (0 : Int64)), (.long (0 : Int64))]) (H21 : own_Ary Z h0 a32 .boolean [(.int (0 : Int32)), (.int (0 : Int32)), (.int (0 : Int32)), (.int (0 : Int32)), (.int (0 : Int32)), (.int (0 : Int32)), (.int (0 : Int32)), (.int (0 : Int32)), (.int (0 : Int32)), (.int (0 : Int32)), (.int (0 : Int32)), (.int (0 : Int32)), (.int (0 : Int32)), (.int (0 : Int32)), (.int (0 : Int32)), (.int (0 : Int32))]) (H22 : own_Ary Z h0 a31 (.object "com/example/rankline/rankline/Extent") [(.ref a125), (.ref a180), .null, .null, .null, .null, .null, .null, .null, .null, .null, .null, .null, .null, .null, .null]) (H23 : own_Ary Z h0 a30 .boolean [(.int (0 : Int32)), (.int (0 : Int32)), (.int (0 : Int32)), (.int (0 : Int32)), (.int (0 : Int32)), (.int (0 : Int32)), (.int (0 : Int32)), (.int (0 : Int32)), (.int (0 : Int32)), (.int (0 : Int32)), (.int (0 : Int32)), (.int (0 : Int32)), (.int (0 : Int32)), (.int (0 : Int32)), (.int (0 : Int32)), (.int (0 : Int32))]) (H24 : own_Ary Z h0 a29 .double [(.double f121), (.double f167), (.double (0 : UInt64)), (.double (0 : UInt64)), (.double (0 : UInt64)), (.double (0 : UInt64)), (.double (0 : UInt64)), (.double (0 : UInt64)), (.double (0 : UInt64)), (.double (0 : UInt64)), (.double (0 : UInt64)), (.double (0 : UInt64)), (.double (0 : UInt64)), (.double (0 : UInt64)), (.double (0 : UInt64)), (.double (0 : UInt64))]) (H25 : own_Ary Z h0 a28 .double [(.double (0 : UInt64)), (.double (4607182418800017408 : UInt64)), (.double (0 : UInt64)), (.double (0 : UInt64)), (.double (0 : UInt64)), (.double (0 : UInt64)), (.double (0 : UInt64)), (.double (0 : UInt64)), (.double (0 : UInt64)), (.double (0 : UInt64)), (.double (0 : UInt64)), (.double (0 : UInt64)), (.double (0 : UInt64)), (.double (0 : UInt64)), (.double (0 : UInt64)), (.double (0 : UInt64))]) (H26 : Fld Z h0 a10 "com/example/rankline/rankline/Buckets" "thresholds" "[D" (.ref a28)) (H27 : Fld Z h0 a10 "com/example/rankline/rankline/Buckets" "ranks" "[D" (.ref a29)) (H28 : Fld Z h0 a10 "com/example/rankline/rankline/Buckets" "guarded" "[Z" (.ref a30)) (H29 : Fld Z h0 a10 "com/example/rankline/rankline/Buckets" "extents" "[Lcom/example/rankline/rankline/Extent;" (.ref a31)) (H30 : Fld Z h0 a10 "com/example/rankline/rankline/Buckets" "addedAtThreshold" "[Z" (.ref a32)) (H31 : Fld Z h0 a10 "com/example/rankline/rankline/Buckets" "copies" "[J" (.ref a33)) (H32 : Fld Z h0 a10 "com/example/rankline/rankline/Buckets" "nextOf" "[I" (.ref a34)) (H33 : Fld Z h0 a10 "com/example/rankline/rankline/Buckets" "previousOf" "[I" (.ref a35)) (H34 : Fld Z h0 a10 "com/example/rankline/rankline/Buckets" "first" "I" (.int (0 : Int32))) (H35 : Fld Z h0 a10 "com/example/rankline/rankline/Buckets" "last" "I" (.int (1 : Int32))) (H36 : Fld Z h0 a10 "com/example/rankline/rankline/Buckets" "free" "I" (.int (-1 : Int32))) (H37 : Fld Z h0 a10 "com/example/rankline/rankline/Buckets" "smallestMagnitude" "D" (.double (9218868437227405312 : UInt64))) (H38 : Fld Z h0 a10 "com/example/rankline/rankline/Buckets" "size" "I" (.int (2 : Int32))) (H39 : Fld Z h0 a10 "com/example/rankline/rankline/Buckets" "used" "I" (.int (2 : Int32))) (H47 : Exa Z h0 a11 "com/example/rankline/rankline/Extent") (H54 : a10 < a35) (H55 : a10 < a34) (H56 : a10 < a33) (H57 : a10 < a32) (H58 : a10 < a31) (H59 : a10 < a30) (H60 : a10 < a29) (H61 : a10 < a28) (H65 : n0 ≤ a10) (H66 : a34 < a35) (H67 : a33 < a35) (H68 : a32 < a35) (H69 : a31 < a35) (H70 : a30 < a35) (H71 : a29 < a35) (H72 : a28 < a35) (H76 : n0 ≤ a35) (H77 : a33 < a34) (H78 : a32 < a34) (H79 : a31 < a34) (H80 : a30 < a34) (H81 : a29 < a34) (H82 : a28 < a34) (H86 : n0 ≤ a34) (H87 : a32 < a33) (H88 : a31 < a33) (H89 : a30 < a33) (H90 : a29 < a33) (H91 : a28 < a33) (H95 : n0 ≤ a33) (H96 : a31 < a32) (H97 : a30 < a32) (H98 : a29 < a32) (H99 : a28 < a32) (H103 : n0 ≤ a32) (H104 : a30 < a31) (H105 : a29 < a31) (H106 : a28 < a31) (H110 : n0 ≤ a31) (H111 : a29 < a30) (H112 : a28 < a30) (H116 : n0 ≤ a30) (H117 : a28 < a29) (H121 : n0 ≤ a29) (H125 : n0 ≤ a28) :
    MetFree l (⟨"com/example/rankline/rankline/Buckets", "append", "(DDLcom/example/rankline/rankline/Extent;J)V"⟩ : MethodName) (head1 (Jvm.Cond.code (⟨"com/example/rankline/rankline/Buckets", "append", "(DDLcom/example/rankline/rankline/Extent;J)V"⟩ : MethodName) prog_5_method_13_code 8 none :: wds) ({ frames := 2, cells := 0, slots := 0, locals := 35 } : Room)) (fun ar_ U_ => ar_ = #[(.ref a10), (.double (4611686018427387904 : UInt64)), (.double f225), (.ref a11), (.long (0 : Int64))] ∧ Z.Warmed39 U_.vm ∧ U_.heap = h0) (fun _ _ _ _ _ => True) (fun _ U_ o_ V_ => ∃ v_ L_, o_ = .returned v_ ∧ own_s23_Q Z a10 f225 a11 a35 a34 a33 a32 a31 a30 a29 a28 a125 f121 a180 f167 v2 h0 n0 v_ V_.heap L_ ∧ FrameEnd U_ o_ V_ L_ ({ frames := 2, cells := 0, slots := 0, locals := 35 } : Room).cells ({ frames := 2, cells := 0, slots := 0, locals := 35 } : Room).slots) := by
  refine own_met (y := ⟨"com/example/rankline/rankline/Buckets", "append", "(DDLcom/example/rankline/rankline/Extent;J)V"⟩) (Q := own_s23_Q Z a10 f225 a11 a35 a34 a33 a32 a31 a30 a29 a28 a125 f121 a180 f167 v2 h0 n0) own_pn1 ?_
  intro p e s m below meth c s₁ hx hby hml hZ hown hnm hret hlk X0 e0
  have N0 := Fr.nil n0
  refine own_cast (g' := (mkF m 0 #[.val (.ref a10), .val (.double (4611686018427387904 : UInt64)), .second, .val (.double f225), .second, .val (.ref a11), .val (.long (0 : Int64)), .second] [])) (by first | (simp [entryFrame, mkF, argsToLocals, Value.category]; done) | rfl) ?_
  generalize hL1 : (#[.val (.ref a10), .val (.double (4611686018427387904 : UInt64)), .second, .val (.double f225), .second, .val (.ref a11), .val (.long (0 : Int64)), .second] : Array Slot) = L1
  refine own_pre (T' := s₁) (g' := (mkF m 1 L1 [(.ref a10)])) (fun t k => XS.aloadN X0.here hx rfl (v := (.ref a10)) (hb hby d7_0) (by rw [← hL1]; rfl) rfl k) ?_
  refine own_pre (T' := s₁) (g' := (mkF m 2 L1 [(.int (-1 : Int32)), (.ref a10)])) (fun t k => XS.iconst X0.here hx rfl (hb hby d7_1) k) ?_
  refine own_pre (T' := s₁) (g' := (mkF m 3 L1 [(.double (4611686018427387904 : UInt64)), (.int (-1 : Int32)), (.ref a10)])) (fun t k => XS.dloadN X0.here hx rfl (v := (4611686018427387904 : UInt64)) (hb hby d7_2) (by rw [← hL1]; rfl) k) ?_
  refine own_pre (T' := s₁) (g' := (mkF m 4 L1 [(.double f225), (.double (4611686018427387904 : UInt64)), (.int (-1 : Int32)), (.ref a10)])) (fun t k => XS.dloadN X0.here hx rfl (v := f225) (hb hby d7_3) (by rw [← hL1]; rfl) k) ?_
  refine own_pre (T' := s₁) (g' := (mkF m 5 L1 [(.ref a10), (.double f225), (.double (4611686018427387904 : UInt64)), (.int (-1 : Int32)), (.ref a10)])) (fun t k => XS.aloadN X0.here hx rfl (v := (.ref a10)) (hb hby d7_4) (by rw [← hL1]; rfl) rfl k) ?_
  refine own_getf X0 hx hZ hown (own_w hw 49 rfl) e0 H38 (hb hby d7_5) ?_
  intro T2 X2 e2
  show own_Go _ _ _ _ _ _ _ T2 (mkF m 8 L1 [(.int (2 : Int32)), (.double f225), (.double (4611686018427387904 : UInt64)), (.int (-1 : Int32)), (.ref a10)])
  refine own_pre (T' := T2) (g' := (mkF m 20 L1 [(.double f225), (.double (4611686018427387904 : UInt64)), (.int (-1 : Int32)), (.ref a10)])) (fun t k => XS.ifYes X2.here hx rfl (pc0 := 8) (pc' := 20) rfl (hb hby d7_8) rfl (by decide) (by decide) (by decide) k) ?_
  refine own_pre (T' := T2) (g' := (mkF m 22 L1 [(.ref a11), (.double f225), (.double (4611686018427387904 : UInt64)), (.int (-1 : Int32)), (.ref a10)])) (fun t k => XS.aload X2.here hx rfl (v := (.ref a11)) (hb hby d7_20) (by rw [← hL1]; rfl) rfl k) ?_
  refine own_pre (T' := T2) (g' := (mkF m 24 L1 [(.long (0 : Int64)), (.ref a11), (.double f225), (.double (4611686018427387904 : UInt64)), (.int (-1 : Int32)), (.ref a10)])) (fun t k => XT.lload X2.here hx rfl (v := (0 : Int64)) (hb hby d7_22) (by rw [← hL1]; rfl) k) ?_
  refine own_callp (a := a10) (argsL := [(.int (-1 : Int32)), (.double (4611686018427387904 : UInt64)), (.double f225), (.ref a11), (.long (0 : Int64))]) (rest := []) X2 hx hZ hown (own_s24 l Z a0 hw [] a10 f225 a11 a35 a34 a33 a32 a31 a30 a29 a28 a125 f121 a180 f167 v2 h0 n0 Z0 H1 H7 H18 H19 H20 H21 H22 H23 H24 H25 H26 H27 H28 H29 H30 H31 H32 H33 H34 H35 H36 H37 H38 H39 H47 H54 H55 H56 H57 H58 H59 H60 H61 H65 H66 H67 H68 H69 H70 H71 H72 H76 H77 H78 H79 H80 H81 H82 H86 H87 H88 H89 H90 H91 H95 H96 H97 H98 H99 H103 H104 H105 H106 H110 H111 H112 H116 H117 H121 H125) H1 (own_w hw 83 rfl) (own_w hw 4 rfl) (own_w hw 85 rfl) (own_w hw 84 rfl) (own_w hw 86 rfl) (own_w hw 5 rfl) (by decide) e2 (hb hby d7_24) (by rw [hml, ← hL1]; rfl) rfl (lenOf own_pd4 rfl) (by decide) (W := 0) (Nat.le_of_eq rfl) (by decide) (by decide) (by decide) ?_
  intro v3 T3 lo3 X3 Q3
  obtain ⟨h3, e3⟩ : ∃ h, T3.heap = h := ⟨_, rfl⟩
  rw [e3] at Q3
  obtain ⟨rfl, N3, K3, F4, F5, F6, F7, F8, F9, F10, F11, F12, F13, F14, F15, F16, F17, F18, F19, F20, F21, F22, F23, F24, F25⟩ := Q3
  have N3' := Fr.app N0 N3
  show own_Go _ _ _ _ _ _ _ T3 (mkF m 27 L1 [(.int (2 : Int32))])
  refine own_pre (T' := T3) (g' := (mkF m 28 L1 [])) (fun t k => XT.pop X3.here hx rfl (hb hby d7_27) rfl rfl k) ?_
  exact own_ret0 X3 hx hlk hret (hb hby d7_28) e3 ⟨rfl, N3', ((Keep.refl _ _).trans K3 (allS (Or.inl (by simp)) (allS (Or.inl (by simp)) (allS (Or.inl (by simp)) (allS (Or.inl (by simp)) (allS (Or.inl (by simp)) (allS (Or.inl (by simp)) (allS (Or.inl (by simp)) (allS (Or.inl (by simp)) (allS (Or.inl (by simp)) all0)))))))))), F4, F5, F6, F7, F8, F9, F10, F11, F12, F13, F14, F15, F16, F17, F18, F19, F20, F21, F22, F23, F24, F25⟩ (by decide) (by decide)
def own_s19_Q (Z : State) (a10 : Addr) (f225 : UInt64) (a35 : Addr) (a34 : Addr) (a33 : Addr) (a32 : Addr) (a31 : Addr) (a30 : Addr) (a29 : Addr) (a28 : Addr) (a125 : Addr) (f121 : UInt64) (a180 : Addr) (f167 : UInt64) (v6 : Int32) (v2 : Int32) (v4 : Int32) (h0 : Heap) (n0 : Nat) (v_ : Option Value) (h_ : Heap) (L_ : List Loc) : Prop := (fun v h L => ∃ (a11 : Addr) (f9 : UInt64), v = none ∧ Fr n0 L ∧ Keep h0 h [a10, a28, a29, a30, a31, a32, a33, a34, a35] ∧ h0.size ≤ a11 ∧ own_Ary Z h a35 .int [(.int (-1 : Int32)), (.int (0 : Int32)), (.int (1 : Int32)), (.int (0 : Int32)), (.int (0 : Int32)), (.int (0 : Int32)), (.int (0 : Int32)), (.int (0 : Int32)), (.int (0 : Int32)), (.int (0 : Int32)), (.int (0 : Int32)), (.int (0 : Int32)), (.int (0 : Int32)), (.int (0 : Int32)), (.int (0 : Int32)), (.int (0 : Int32))] ∧ own_Ary Z h a34 .int [(.int (1 : Int32)), (.int (2 : Int32)), (.int (-1 : Int32)), (.int (0 : Int32)), (.int (0 : Int32)), (.int (0 : Int32)), (.int (0 : Int32)), (.int (0 : Int32)), (.int (0 : Int32)), (.int (0 : Int32)), (.int (0 : Int32)), (.int (0 : Int32)), (.int (0 : Int32)), (.int (0 : Int32)), (.int (0 : Int32)), (.int (0 : Int32))] ∧ own_Ary Z h a33 .long [(.long (0 : Int64)), (.long (0 : Int64)), (.long (0 : Int64)), (.long (0 : Int64)), (.long (0 : Int64)), (.long (0 : Int64)), (.long (0 : Int64)), (.long (0 : Int64)), (.long (0 : Int64)), (.long (0 : Int64)), (.long (0 : Int64)), (.long (0 : Int64)), (.long (0 : Int64)), (.long (0 : Int64)), (.long (0 : Int64)), (.long (0 : Int64))] ∧ own_Ary Z h a32 .boolean [(.int (0 : Int32)), (.int (0 : Int32)), (.int (0 : Int32)), (.int (0 : Int32)), (.int (0 : Int32)), (.int (0 : Int32)), (.int (0 : Int32)), (.int (0 : Int32)), (.int (0 : Int32)), (.int (0 : Int32)), (.int (0 : Int32)), (.int (0 : Int32)), (.int (0 : Int32)), (.int (0 : Int32)), (.int (0 : Int32)), (.int (0 : Int32))] ∧ own_Ary Z h a31 (.object "com/example/rankline/rankline/Extent") [(.ref a125), (.ref a180), (.ref a11), .null, .null, .null, .null, .null, .null, .null, .null, .null, .null, .null, .null, .null] ∧ own_Ary Z h a30 .boolean [(.int (0 : Int32)), (.int (0 : Int32)), (.int (0 : Int32)), (.int (0 : Int32)), (.int (0 : Int32)), (.int (0 : Int32)), (.int (0 : Int32)), (.int (0 : Int32)), (.int (0 : Int32)), (.int (0 : Int32)), (.int (0 : Int32)), (.int (0 : Int32)), (.int (0 : Int32)), (.int (0 : Int32)), (.int (0 : Int32)), (.int (0 : Int32))] ∧ own_Ary Z h a29 .double [(.double f121), (.double f167), (.double f225), (.double (0 : UInt64)), (.double (0 : UInt64)), (.double (0 : UInt64)), (.double (0 : UInt64)), (.double (0 : UInt64)), (.double (0 : UInt64)), (.double (0 : UInt64)), (.double (0 : UInt64)), (.double (0 : UInt64)), (.double (0 : UInt64)), (.double (0 : UInt64)), (.double (0 : UInt64)), (.double (0 : UInt64))] ∧ own_Ary Z h a28 .double [(.double (0 : UInt64)), (.double (4607182418800017408 : UInt64)), (.double (4611686018427387904 : UInt64)), (.double (0 : UInt64)), (.double (0 : UInt64)), (.double (0 : UInt64)), (.double (0 : UInt64)), (.double (0 : UInt64)), (.double (0 : UInt64)), (.double (0 : UInt64)), (.double (0 : UInt64)), (.double (0 : UInt64)), (.double (0 : UInt64)), (.double (0 : UInt64)), (.double (0 : UInt64)), (.double (0 : UInt64))] ∧ Fld Z h a10 "com/example/rankline/rankline/Buckets" "thresholds" "[D" (.ref a28) ∧ Fld Z h a10 "com/example/rankline/rankline/Buckets" "ranks" "[D" (.ref a29) ∧ Fld Z h a10 "com/example/rankline/rankline/Buckets" "guarded" "[Z" (.ref a30) ∧ Fld Z h a10 "com/example/rankline/rankline/Buckets" "extents" "[Lcom/example/rankline/rankline/Extent;" (.ref a31) ∧ Fld Z h a10 "com/example/rankline/rankline/Buckets" "addedAtThreshold" "[Z" (.ref a32) ∧ Fld Z h a10 "com/example/rankline/rankline/Buckets" "copies" "[J" (.ref a33) ∧ Fld Z h a10 "com/example/rankline/rankline/Buckets" "nextOf" "[I" (.ref a34) ∧ Fld Z h a10 "com/example/rankline/rankline/Buckets" "previousOf" "[I" (.ref a35) ∧ Fld Z h a10 "com/example/rankline/rankline/Buckets" "first" "I" (.int (0 : Int32)) ∧ Fld Z h a10 "com/example/rankline/rankline/Buckets" "last" "I" (.int (2 : Int32)) ∧ Fld Z h a10 "com/example/rankline/rankline/Buckets" "free" "I" (.int (-1 : Int32)) ∧ Fld Z h a10 "com/example/rankline/rankline/Buckets" "smallestMagnitude" "D" (.double (9218868437227405312 : UInt64)) ∧ Fld Z h a10 "com/example/rankline/rankline/Buckets" "size" "I" (.int (3 : Int32)) ∧ Fld Z h a10 "com/example/rankline/rankline/Buckets" "used" "I" (.int (3 : Int32)) ∧ Exa Z h a11 "com/example/rankline/rankline/Extent" ∧ Fld Z h a11 "com/example/rankline/rankline/Extent" "low" "D" (.double (4607182418800017408 : UInt64)) ∧ Fld Z h a11 "com/example/rankline/rankline/Extent" "gapLow" "D" (.double (4611686018427387904 : UInt64)) ∧ Fld Z h a11 "com/example/rankline/rankline/Extent" "gapHigh" "D" (.double (4611686018427387904 : UInt64)) ∧ Fld Z h a11 "com/example/rankline/rankline/Extent" "high" "D" (.double (4611686018427387904 : UInt64)) ∧ Fld Z h a11 "com/example/rankline/rankline/Extent" "below" "D" (.double f9) ∧ Fld Z h a11 "com/example/rankline/rankline/Extent" "count" "D" (.double f9) ∧ FP.Core.own_H (v6.toInt - v4.toInt) f9) v_ h_ L_
set_option maxRecDepth 65536 in
set_option maxHeartbeats 40000000 in
theorem own_s19 (l : Launch) (Z : State) (a0 : Array Value) (hw : ∀ d ∈ tables_1, d.before a0 Z = true) (wds : List Jvm.Cond) (a10 : Addr) (f225 : UInt64) (a35 : Addr) (a34 : Addr) (a33 : Addr) (a32 : Addr) (a31 : Addr) (a30 : Addr) (a29 : Addr) (a28 : Addr) (a125 : Addr) (f121 : UInt64) (a180 : Addr) (f167 : UInt64) (v6 : Int32) (v2 : Int32) (v4 : Int32) (h0 : Heap) (n0 : Nat) (Z0 : n0 ≤ h0.size) (H1 : Exa Z h0 a10 "com/example/rankline/rankline/Buckets") (H2 : Exa Z h0 a35 "[I") (H3 : Exa Z h0 a34 "[I") (H4 : Exa Z h0 a33 "[J") (H5 : Exa Z h0 a32 "[Z") (H6 : Exa Z h0 a31 "[Lcom/example/rankline/rankline/Extent;") (H7 : own_Ovr Z h0 a31 "com/example/rankline/rankline/Extent") (H8 : Exa Z h0 a30 "[Z") (H9 : Exa Z h0 a29 "[D") (H10 : Exa Z h0 a28 "[D") (H18 : own_Ary Z h0 a35 .int [(.int (-1 : Int32)), (.int (0 : Int32)), (.int (0 : Int32)), (.int (0 : Int32)), (.int (0 : Int32)), (.int (0 : Int32)), (.int (0 : Int32)), (.int (0 : Int32)), (.int (0 : Int32)), (.int (0 : Int32)), (.int (0 : Int32)), (.int (0 : Int32)), (.int (0 : Int32)), (.int (0 : Int32)), (.int (0 : Int32)), (.int (0 : Int32))]) (H19 : own_Ary Z h0 a34 .int [(.int (1 : Int32)), (.int (-1 : Int32)), (.int (0 : Int32)), (.int (0 : Int32)), (.int (0 : Int32)), (.int (0 : Int32)), (.int (0 : Int32)), (.int (0 : Int32)), (.int (0 : Int32)), (.int (0 : Int32)), (.int (0 : Int32)), (.int (0 : Int32)), (.int (0 : Int32)), (.int (0 : Int32)), (.int (0 : Int32)), (.int (0 : Int32))]) (H20 : own_Ary Z h0 a33 .long [(.long (0 : Int64)), (.long (0 : Int64)), (.long (0 : Int64)), (.long (0 : Int64)), (.long (0 : Int64)), (.long (0 : Int64)), (.long (0 : Int64)), (.long (0 : Int64)), (.long (0 : Int64)), (.long (0 : Int64)), (.long (0 : Int64)), (.long (0 : Int64)), (.long (0 : Int64)), (.long (0 : Int64)), (.long (0 : Int64)), (.long (0 : Int64))]) (H21 : own_Ary Z h0 a32 .boolean [(.int (0 : Int32)), (.int (0 : Int32)), (.int (0 : Int32)), (.int (0 : Int32)), (.int (0 : Int32)), (.int (0 : Int32)), (.int (0 : Int32)), (.int (0 : Int32)), (.int (0 : Int32)), (.int (0 : Int32)), (.int (0 : Int32)), (.int (0 : Int32)), (.int (0 : Int32)), (.int (0 : Int32)), (.int (0 : Int32)), (.int (0 : Int32))]) (H22 : own_Ary Z h0 a31 (.object "com/example/rankline/rankline/Extent") [(.ref a125), (.ref a180), .null, .null, .null, .null, .null, .null, .null, .null, .null, .null, .null, .null, .null, .null]) (H23 : own_Ary Z h0 a30 .boolean [(.int (0 : Int32)), (.int (0 : Int32)), (.int (0 : Int32)), (.int (0 : Int32)), (.int (0 : Int32)), (.int (0 : Int32)), (.int (0 : Int32)), (.int (0 : Int32)), (.int (0 : Int32)), (.int (0 : Int32)), (.int (0 : Int32)), (.int (0 : Int32)), (.int (0 : Int32)), (.int (0 : Int32)), (.int (0 : Int32)), (.int (0 : Int32))]) (H24 : own_Ary Z h0 a29 .double [(.double f121), (.double f167), (.double (0 : UInt64)), (.double (0 : UInt64)), (.double (0 : UInt64)), (.double (0 : UInt64)), (.double (0 : UInt64)), (.double (0 : UInt64)), (.double (0 : UInt64)), (.double (0 : UInt64)), (.double (0 : UInt64)), (.double (0 : UInt64)), (.double (0 : UInt64)), (.double (0 : UInt64)), (.double (0 : UInt64)), (.double (0 : UInt64))]) (H25 : own_Ary Z h0 a28 .double [(.double (0 : UInt64)), (.double (4607182418800017408 : UInt64)), (.double (0 : UInt64)), (.double (0 : UInt64)), (.double (0 : UInt64)), (.double (0 : UInt64)), (.double (0 : UInt64)), (.double (0 : UInt64)), (.double (0 : UInt64)), (.double (0 : UInt64)), (.double (0 : UInt64)), (.double (0 : UInt64)), (.double (0 : UInt64)), (.double (0 : UInt64)), (.double (0 : UInt64)), (.double (0 : UInt64))]) (H26 : Fld Z h0 a10 "com/example/rankline/rankline/Buckets" "thresholds" "[D" (.ref a28)) (H27 : Fld Z h0 a10 "com/example/rankline/rankline/Buckets" "ranks" "[D" (.ref a29)) (H28 : Fld Z h0 a10 "com/example/rankline/rankline/Buckets" "guarded" "[Z" (.ref a30)) (H29 : Fld Z h0 a10 "com/example/rankline/rankline/Buckets" "extents" "[Lcom/example/rankline/rankline/Extent;" (.ref a31)) (H30 : Fld Z h0 a10 "com/example/rankline/rankline/Buckets" "addedAtThreshold" "[Z" (.ref a32)) (H31 : Fld Z h0 a10 "com/example/rankline/rankline/Buckets" "copies" "[J" (.ref a33)) (H32 : Fld Z h0 a10 "com/example/rankline/rankline/Buckets" "nextOf" "[I" (.ref a34)) (H33 : Fld Z h0 a10 "com/example/rankline/rankline/Buckets" "previousOf" "[I" (.ref a35)) (H34 : Fld Z h0 a10 "com/example/rankline/rankline/Buckets" "first" "I" (.int (0 : Int32))) (H35 : Fld Z h0 a10 "com/example/rankline/rankline/Buckets" "last" "I" (.int (1 : Int32))) (H36 : Fld Z h0 a10 "com/example/rankline/rankline/Buckets" "free" "I" (.int (-1 : Int32))) (H37 : Fld Z h0 a10 "com/example/rankline/rankline/Buckets" "smallestMagnitude" "D" (.double (9218868437227405312 : UInt64))) (H38 : Fld Z h0 a10 "com/example/rankline/rankline/Buckets" "size" "I" (.int (2 : Int32))) (H39 : Fld Z h0 a10 "com/example/rankline/rankline/Buckets" "used" "I" (.int (2 : Int32))) (H47 : a10 < a28) (H48 : a10 < a29) (H49 : a10 < a30) (H50 : a10 < a31) (H51 : a10 < a32) (H52 : a10 < a33) (H53 : a10 < a34) (H54 : a10 < a35) (H57 : n0 ≤ a10) (H58 : a28 < a29) (H59 : a28 < a30) (H60 : a28 < a31) (H61 : a28 < a32) (H62 : a28 < a33) (H63 : a28 < a34) (H64 : a28 < a35) (H67 : n0 ≤ a28) (H68 : a29 < a30) (H69 : a29 < a31) (H70 : a29 < a32) (H71 : a29 < a33) (H72 : a29 < a34) (H73 : a29 < a35) (H76 : n0 ≤ a29) (H77 : a30 < a31) (H78 : a30 < a32) (H79 : a30 < a33) (H80 : a30 < a34) (H81 : a30 < a35) (H84 : n0 ≤ a30) (H85 : a31 < a32) (H86 : a31 < a33) (H87 : a31 < a34) (H88 : a31 < a35) (H91 : n0 ≤ a31) (H92 : a32 < a33) (H93 : a32 < a34) (H94 : a32 < a35) (H97 : n0 ≤ a32) (H98 : a33 < a34) (H99 : a33 < a35) (H102 : n0 ≤ a33) (H103 : a34 < a35) (H106 : n0 ≤ a34) (H109 : n0 ≤ a35) (H113 : FP.Core.own_H v6.toInt f225) (H115 : FP.Core.own_H v4.toInt f167) :
    MetFree l (⟨"com/example/rankline/rankline/Buckets", "append", "(DD)V"⟩ : MethodName) (head1 (Jvm.Cond.code (⟨"com/example/rankline/rankline/Buckets", "append", "(DD)V"⟩ : MethodName) prog_5_method_12_code 7 none :: wds) ({ frames := 4, cells := 1, slots := 6, locals := 71 } : Room)) (fun ar_ U_ => ar_ = #[(.ref a10), (.double (4611686018427387904 : UInt64)), (.double f225)] ∧ Z.Warmed39 U_.vm ∧ U_.heap = h0) (fun _ _ _ _ _ => True) (fun _ U_ o_ V_ => ∃ v_ L_, o_ = .returned v_ ∧ own_s19_Q Z a10 f225 a35 a34 a33 a32 a31 a30 a29 a28 a125 f121 a180 f167 v6 v2 v4 h0 n0 v_ V_.heap L_ ∧ FrameEnd U_ o_ V_ L_ ({ frames := 4, cells := 1, slots := 6, locals := 71 } : Room).cells ({ frames := 4, cells := 1, slots := 6, locals := 71 } : Room).slots) := by
  refine own_met (y := ⟨"com/example/rankline/rankline/Buckets", "append", "(DD)V"⟩) (Q := own_s19_Q Z a10 f225 a35 a34 a33 a32 a31 a30 a29 a28 a125 f121 a180 f167 v6 v2 v4 h0 n0) own_pn1 ?_
  intro p e s m below meth c s₁ hx hby hml hZ hown hnm hret hlk X0 e0
  have N0 := Fr.nil n0
  refine own_cast (g' := (mkF m 0 #[.val (.ref a10), .val (.double (4611686018427387904 : UInt64)), .second, .val (.double f225), .second, .unset, .unset] [])) (by first | (simp [entryFrame, mkF, argsToLocals, Value.category]; done) | rfl) ?_
  generalize hL1 : (#[.val (.ref a10), .val (.double (4611686018427387904 : UInt64)), .second, .val (.double f225), .second, .unset, .unset] : Array Slot) = L1
  refine own_pre (T' := s₁) (g' := (mkF m 1 L1 [(.ref a10)])) (fun t k => XS.aloadN X0.here hx rfl (v := (.ref a10)) (hb hby d3_0) (by rw [← hL1]; rfl) rfl k) ?_
  refine own_getf X0 hx hZ hown (own_w hw 49 rfl) e0 H38 (hb hby d3_1) ?_
  intro T2 X2 e2
  show own_Go _ _ _ _ _ _ _ T2 (mkF m 4 L1 [(.int (2 : Int32))])
  refine own_pre (T' := T2) (g' := (mkF m 11 L1 [])) (fun t k => XS.ifYes X2.here hx rfl (pc0 := 4) (pc' := 11) rfl (hb hby d3_4) rfl (by decide) (by decide) (by decide) k) ?_
  refine own_pre (T' := T2) (g' := (mkF m 12 L1 [(.ref a10)])) (fun t k => XS.aloadN X2.here hx rfl (v := (.ref a10)) (hb hby d3_11) (by rw [← hL1]; rfl) rfl k) ?_
  refine own_getf X2 hx hZ hown (own_w hw 13 rfl) e2 H26 (hb hby d3_12) ?_
  intro T3 X3 e3
  show own_Go _ _ _ _ _ _ _ T3 (mkF m 15 L1 [(.ref a28)])
  refine own_pre (T' := T3) (g' := (mkF m 16 L1 [(.ref a10), (.ref a28)])) (fun t k => XS.aloadN X3.here hx rfl (v := (.ref a10)) (hb hby d3_15) (by rw [← hL1]; rfl) rfl k) ?_
  refine own_getf X3 hx hZ hown (own_w hw 36 rfl) e3 H35 (hb hby d3_16) ?_
  intro T4 X4 e4
  show own_Go _ _ _ _ _ _ _ T4 (mkF m 19 L1 [(.int (1 : Int32)), (.ref a28)])
  refine own_daload X4 hx hZ e4 H25 (hb hby d3_19) (n := 1) (v := (.double (4607182418800017408 : UInt64))) (by decide) (by decide) rfl ?_
  show own_Go _ _ _ _ _ _ _ T4 (mkF m 20 L1 [(.double (4607182418800017408 : UInt64))])
  refine own_pre (T' := T4) (g' := (mkF m 22 #[.val (.ref a10), .val (.double (4611686018427387904 : UInt64)), .second, .val (.double f225), .second, .val (.double (4607182418800017408 : UInt64)), .second] [])) (fun t k => XS.dstore X4.here hx rfl (hb hby d3_20) rfl (l' := #[.val (.ref a10), .val (.double (4611686018427387904 : UInt64)), .second, .val (.double f225), .second, .val (.double (4607182418800017408 : UInt64)), .second]) (by rw [← hL1]; rfl) k) ?_
  generalize hL5 : (#[.val (.ref a10), .val (.double (4611686018427387904 : UInt64)), .second, .val (.double f225), .second, .val (.double (4607182418800017408 : UInt64)), .second] : Array Slot) = L5
  refine own_pre (T' := T4) (g' := (mkF m 23 L5 [(.ref a10)])) (fun t k => XS.aloadN X4.here hx rfl (v := (.ref a10)) (hb hby d3_22) (by rw [← hL5]; rfl) rfl k) ?_
  refine own_pre (T' := T4) (g' := (mkF m 24 L5 [(.double (4611686018427387904 : UInt64)), (.ref a10)])) (fun t k => XS.dloadN X4.here hx rfl (v := (4611686018427387904 : UInt64)) (hb hby d3_23) (by rw [← hL5]; rfl) k) ?_
  refine own_pre (T' := T4) (g' := (mkF m 25 L5 [(.double f225), (.double (4611686018427387904 : UInt64)), (.ref a10)])) (fun t k => XS.dloadN X4.here hx rfl (v := f225) (hb hby d3_24) (by rw [← hL5]; rfl) k) ?_
  refine own_pre (T' := T4) (g' := (mkF m 27 L5 [(.double (4607182418800017408 : UInt64)), (.double f225), (.double (4611686018427387904 : UInt64)), (.ref a10)])) (fun t k => XS.dload X4.here hx rfl (v := (4607182418800017408 : UInt64)) (hb hby d3_25) (by rw [← hL5]; rfl) k) ?_
  refine own_pre (T' := T4) (g' := (mkF m 28 L5 [(.double (4611686018427387904 : UInt64)), (.double (4607182418800017408 : UInt64)), (.double f225), (.double (4611686018427387904 : UInt64)), (.ref a10)])) (fun t k => XS.dloadN X4.here hx rfl (v := (4611686018427387904 : UInt64)) (hb hby d3_27) (by rw [← hL5]; rfl) k) ?_
  refine own_pre (T' := T4) (g' := (mkF m 29 L5 [(.ref a10), (.double (4611686018427387904 : UInt64)), (.double (4607182418800017408 : UInt64)), (.double f225), (.double (4611686018427387904 : UInt64)), (.ref a10)])) (fun t k => XS.aloadN X4.here hx rfl (v := (.ref a10)) (hb hby d3_28) (by rw [← hL5]; rfl) rfl k) ?_
  refine own_getf X4 hx hZ hown (own_w hw 49 rfl) e4 H38 (hb hby d3_29) ?_
  intro T6 X6 e6
  show own_Go _ _ _ _ _ _ _ T6 (mkF m 32 L5 [(.int (2 : Int32)), (.double (4611686018427387904 : UInt64)), (.double (4607182418800017408 : UInt64)), (.double f225), (.double (4611686018427387904 : UInt64)), (.ref a10)])
  refine own_pre (T' := T6) (g' := (mkF m 39 L5 [(.double (4611686018427387904 : UInt64)), (.double (4607182418800017408 : UInt64)), (.double f225), (.double (4611686018427387904 : UInt64)), (.ref a10)])) (fun t k => XS.ifYes X6.here hx rfl (pc0 := 32) (pc' := 39) rfl (hb hby d3_32) rfl (by decide) (by decide) (by decide) k) ?_
  refine own_pre (T' := T6) (g' := (mkF m 40 L5 [(.double f225), (.double (4611686018427387904 : UInt64)), (.double (4607182418800017408 : UInt64)), (.double f225), (.double (4611686018427387904 : UInt64)), (.ref a10)])) (fun t k => XS.dloadN X6.here hx rfl (v := f225) (hb hby d3_39) (by rw [← hL5]; rfl) k) ?_
  refine own_pre (T' := T6) (g' := (mkF m 41 L5 [(.ref a10), (.double f225), (.double (4611686018427387904 : UInt64)), (.double (4607182418800017408 : UInt64)), (.double f225), (.double (4611686018427387904 : UInt64)), (.ref a10)])) (fun t k => XS.aloadN X6.here hx rfl (v := (.ref a10)) (hb hby d3_40) (by rw [← hL5]; rfl) rfl k) ?_
  refine own_getf X6 hx hZ hown (own_w hw 15 rfl) e6 H27 (hb hby d3_41) ?_
  intro T7 X7 e7
  show own_Go _ _ _ _ _ _ _ T7 (mkF m 44 L5 [(.ref a29), (.double f225), (.double (4611686018427387904 : UInt64)), (.double (4607182418800017408 : UInt64)), (.double f225), (.double (4611686018427387904 : UInt64)), (.ref a10)])
  refine own_pre (T' := T7) (g' := (mkF m 45 L5 [(.ref a10), (.ref a29), (.double f225), (.double (4611686018427387904 : UInt64)), (.double (4607182418800017408 : UInt64)), (.double f225), (.double (4611686018427387904 : UInt64)), (.ref a10)])) (fun t k => XS.aloadN X7.here hx rfl (v := (.ref a10)) (hb hby d3_44) (by rw [← hL5]; rfl) rfl k) ?_
  refine own_getf X7 hx hZ hown (own_w hw 36 rfl) e7 H35 (hb hby d3_45) ?_
  intro T8 X8 e8
  show own_Go _ _ _ _ _ _ _ T8 (mkF m 48 L5 [(.int (1 : Int32)), (.ref a29), (.double f225), (.double (4611686018427387904 : UInt64)), (.double (4607182418800017408 : UInt64)), (.double f225), (.double (4611686018427387904 : UInt64)), (.ref a10)])
  refine own_daload X8 hx hZ e8 H24 (hb hby d3_48) (n := 1) (v := (.double f167)) (by decide) (by decide) rfl ?_
  show own_Go _ _ _ _ _ _ _ T8 (mkF m 49 L5 [(.double f167), (.double f225), (.double (4611686018427387904 : UInt64)), (.double (4607182418800017408 : UInt64)), (.double f225), (.double (4611686018427387904 : UInt64)), (.ref a10)])
  obtain ⟨f9, hf9⟩ : ∃ z, FP.dsub f225 f167 = z := ⟨_, rfl⟩
  have Df9 : FP.Core.own_H (v6.toInt - v4.toInt) f9 := hf9 ▸ FP.Core.own_H_sub H113 H115 (by have := rng32 v6; have := rng32 v4; omega)
  refine own_pre (T' := T8) (g' := (mkF m 50 L5 [(.double f9), (.double (4611686018427387904 : UInt64)), (.double (4607182418800017408 : UInt64)), (.double f225), (.double (4611686018427387904 : UInt64)), (.ref a10)])) (fun t k => XS.dsubS X8.here hx rfl (hb hby d3_49) rfl (by rw [hf9]; exact Jvm.Free.Fl.val64_no.mpr Df9.nn) hf9 k) ?_
  refine own_calls (argsL := [(.double (4607182418800017408 : UInt64)), (.double (4611686018427387904 : UInt64)), (.double f9)]) (rest := [(.double f225), (.double (4611686018427387904 : UInt64)), (.ref a10)]) X8 hx hZ hown (own_s20 l Z a0 hw [] f9 h0 n0 Z0 ) (own_w hw 51 rfl) (own_w hw 52 rfl) (own_w hw 54 rfl) (own_w hw 53 rfl) (by decide) e8 (hb hby d3_50) (by rw [hml, ← hL5]; rfl) rfl (lenOf own_pd2 rfl) (by decide) (W := 5) (Nat.le_of_eq rfl) (by decide) (by decide) (by decide) ?_
  intro v10 T10 lo10 X10 Q10
  obtain ⟨h10, e10⟩ : ∃ h, T10.heap = h := ⟨_, rfl⟩
  rw [e10] at Q10
  obtain ⟨a11, rfl, N10, K10, ge12, F13, F14, F15, F16, F17, F18, F19⟩ := Q10
  have N10' := Fr.app N0 N10
  show own_Go _ _ _ _ _ _ _ T10 (mkF m 53 L5 [(.ref a11), (.double f225), (.double (4611686018427387904 : UInt64)), (.ref a10)])
  have lt20 : a10 < a11 := Nat.lt_of_lt_of_le H1.lt ge12
  have lt21 : a35 < a11 := Nat.lt_of_lt_of_le H2.lt ge12
  have lt22 : a34 < a11 := Nat.lt_of_lt_of_le H3.lt ge12
  have lt23 : a33 < a11 := Nat.lt_of_lt_of_le H4.lt ge12
  have lt24 : a32 < a11 := Nat.lt_of_lt_of_le H5.lt ge12
  have lt25 : a31 < a11 := Nat.lt_of_lt_of_le H6.lt ge12
  have lt26 : a30 < a11 := Nat.lt_of_lt_of_le H8.lt ge12
  have lt27 : a29 < a11 := Nat.lt_of_lt_of_le H9.lt ge12
  have lt28 : a28 < a11 := Nat.lt_of_lt_of_le H10.lt ge12
  have ge32 : h0.size ≤ a11 := Nat.le_trans (Nat.le_refl _) ge12
  refine own_pre (T' := T10) (g' := (mkF m 54 L5 [(.long (0 : Int64)), (.ref a11), (.double f225), (.double (4611686018427387904 : UInt64)), (.ref a10)])) (fun t k => XT.lconst X10.here hx rfl (hb hby d3_53) k) ?_
  have F33 : Exa Z h10 a10 "com/example/rankline/rankline/Buckets" := (H1.keep K10)
  have F39 : own_Ovr Z h10 a31 "com/example/rankline/rankline/Extent" := (H7.keep K10)
  have F50 : own_Ary Z h10 a35 .int [(.int (-1 : Int32)), (.int (0 : Int32)), (.int (0 : Int32)), (.int (0 : Int32)), (.int (0 : Int32)), (.int (0 : Int32)), (.int (0 : Int32)), (.int (0 : Int32)), (.int (0 : Int32)), (.int (0 : Int32)), (.int (0 : Int32)), (.int (0 : Int32)), (.int (0 : Int32)), (.int (0 : Int32)), (.int (0 : Int32)), (.int (0 : Int32))] := (H18.keep K10 nin0)
  have F51 : own_Ary Z h10 a34 .int [(.int (1 : Int32)), (.int (-1 : Int32)), (.int (0 : Int32)), (.int (0 : Int32)), (.int (0 : Int32)), (.int (0 : Int32)), (.int (0 : Int32)), (.int (0 : Int32)), (.int (0 : Int32)), (.int (0 : Int32)), (.int (0 : Int32)), (.int (0 : Int32)), (.int (0 : Int32)), (.int (0 : Int32)), (.int (0 : Int32)), (.int (0 : Int32))] := (H19.keep K10 nin0)
  have F52 : own_Ary Z h10 a33 .long [(.long (0 : Int64)), (.long (0 : Int64)), (.long (0 : Int64)), (.long (0 : Int64)), (.long (0 : Int64)), (.long (0 : Int64)), (.long (0 : Int64)), (.long (0 : Int64)), (.long (0 : Int64)), (.long (0 : Int64)), (.long (0 : Int64)), (.long (0 : Int64)), (.long (0 : Int64)), (.long (0 : Int64)), (.long (0 : Int64)), (.long (0 : Int64))] := (H20.keep K10 nin0)
  have F53 : own_Ary Z h10 a32 .boolean [(.int (0 : Int32)), (.int (0 : Int32)), (.int (0 : Int32)), (.int (0 : Int32)), (.int (0 : Int32)), (.int (0 : Int32)), (.int (0 : Int32)), (.int (0 : Int32)), (.int (0 : Int32)), (.int (0 : Int32)), (.int (0 : Int32)), (.int (0 : Int32)), (.int (0 : Int32)), (.int (0 : Int32)), (.int (0 : Int32)), (.int (0 : Int32))] := (H21.keep K10 nin0)
  have F54 : own_Ary Z h10 a31 (.object "com/example/rankline/rankline/Extent") [(.ref a125), (.ref a180), .null, .null, .null, .null, .null, .null, .null, .null, .null, .null, .null, .null, .null, .null] := (H22.keep K10 nin0)
  have F55 : own_Ary Z h10 a30 .boolean [(.int (0 : Int32)), (.int (0 : Int32)), (.int (0 : Int32)), (.int (0 : Int32)), (.int (0 : Int32)), (.int (0 : Int32)), (.int (0 : Int32)), (.int (0 : Int32)), (.int (0 : Int32)), (.int (0 : Int32)), (.int (0 : Int32)), (.int (0 : Int32)), (.int (0 : Int32)), (.int (0 : Int32)), (.int (0 : Int32)), (.int (0 : Int32))] := (H23.keep K10 nin0)
  have F56 : own_Ary Z h10 a29 .double [(.double f121), (.double f167), (.double (0 : UInt64)), (.double (0 : UInt64)), (.double (0 : UInt64)), (.double (0 : UInt64)), (.double (0 : UInt64)), (.double (0 : UInt64)), (.double (0 : UInt64)), (.double (0 : UInt64)), (.double (0 : UInt64)), (.double (0 : UInt64)), (.double (0 : UInt64)), (.double (0 : UInt64)), (.double (0 : UInt64)), (.double (0 : UInt64))] := (H24.keep K10 nin0)
  have F57 : own_Ary Z h10 a28 .double [(.double (0 : UInt64)), (.double (4607182418800017408 : UInt64)), (.double (0 : UInt64)), (.double (0 : UInt64)), (.double (0 : UInt64)), (.double (0 : UInt64)), (.double (0 : UInt64)), (.double (0 : UInt64)), (.double (0 : UInt64)), (.double (0 : UInt64)), (.double (0 : UInt64)), (.double (0 : UInt64)), (.double (0 : UInt64)), (.double (0 : UInt64)), (.double (0 : UInt64)), (.double (0 : UInt64))] := (H25.keep K10 nin0)
  have F58 : Fld Z h10 a10 "com/example/rankline/rankline/Buckets" "thresholds" "[D" (.ref a28) := (H26.keep K10 nin0)
  have F59 : Fld Z h10 a10 "com/example/rankline/rankline/Buckets" "ranks" "[D" (.ref a29) := (H27.keep K10 nin0)
  have F60 : Fld Z h10 a10 "com/example/rankline/rankline/Buckets" "guarded" "[Z" (.ref a30) := (H28.keep K10 nin0)
  have F61 : Fld Z h10 a10 "com/example/rankline/rankline/Buckets" "extents" "[Lcom/example/rankline/rankline/Extent;" (.ref a31) := (H29.keep K10 nin0)
  have F62 : Fld Z h10 a10 "com/example/rankline/rankline/Buckets" "addedAtThreshold" "[Z" (.ref a32) := (H30.keep K10 nin0)
  have F63 : Fld Z h10 a10 "com/example/rankline/rankline/Buckets" "copies" "[J" (.ref a33) := (H31.keep K10 nin0)
  have F64 : Fld Z h10 a10 "com/example/rankline/rankline/Buckets" "nextOf" "[I" (.ref a34) := (H32.keep K10 nin0)
  have F65 : Fld Z h10 a10 "com/example/rankline/rankline/Buckets" "previousOf" "[I" (.ref a35) := (H33.keep K10 nin0)
  have F66 : Fld Z h10 a10 "com/example/rankline/rankline/Buckets" "first" "I" (.int (0 : Int32)) := (H34.keep K10 nin0)
  have F67 : Fld Z h10 a10 "com/example/rankline/rankline/Buckets" "last" "I" (.int (1 : Int32)) := (H35.keep K10 nin0)
  have F68 : Fld Z h10 a10 "com/example/rankline/rankline/Buckets" "free" "I" (.int (-1 : Int32)) := (H36.keep K10 nin0)
  have F69 : Fld Z h10 a10 "com/example/rankline/rankline/Buckets" "smallestMagnitude" "D" (.double (9218868437227405312 : UInt64)) := (H37.keep K10 nin0)
  have F70 : Fld Z h10 a10 "com/example/rankline/rankline/Buckets" "size" "I" (.int (2 : Int32)) := (H38.keep K10 nin0)
  have F71 : Fld Z h10 a10 "com/example/rankline/rankline/Buckets" "used" "I" (.int (2 : Int32)) := (H39.keep K10 nin0)
  have F79 : n0 ≤ h10.size := (Nat.le_trans Z0 K10.1)
  refine own_callv (a := a10) (argsL := [(.double (4611686018427387904 : UInt64)), (.double f225), (.ref a11), (.long (0 : Int64))]) (rest := []) X10 hx hZ hown (own_s23 l Z a0 hw [] a10 f225 a11 a35 a34 a33 a32 a31 a30 a29 a28 a125 f121 a180 f167 v2 h10 n0 F79 F33 F39 F50 F51 F52 F53 F54 F55 F56 F57 F58 F59 F60 F61 F62 F63 F64 F65 F66 F67 F68 F69 F70 F71 F13 H54 H53 H52 H51 H50 H49 H48 H47 H57 H103 H99 H94 H88 H81 H73 H64 H109 H98 H93 H87 H80 H72 H63 H106 H92 H86 H79 H71 H62 H102 H85 H78 H70 H61 H97 H77 H69 H60 H91 H68 H59 H84 H58 H76 H67) F33 (own_w hw 78 rfl) (own_w hw 79 rfl) (own_w hw 81 rfl) (own_w hw 80 rfl) (own_w hw 82 rfl) (own_w hw 5 rfl) (by decide) e10 (hb hby d3_54) (by rw [hml, ← hL5]; rfl) rfl (lenOf own_pd5 rfl) (by decide) (W := 0) (Nat.le_of_eq rfl) (by decide) (by decide) (by decide) ?_
  intro v80 T80 lo80 X80 Q80
  obtain ⟨h80, e80⟩ : ∃ h, T80.heap = h := ⟨_, rfl⟩
  rw [e80] at Q80
  obtain ⟨rfl, N80, K80, F81, F82, F83, F84, F85, F86, F87, F88, F89, F90, F91, F92, F93, F94, F95, F96, F97, F98, F99, F100, F101, F102⟩ := Q80
  have N80' := Fr.app N10' N80
  show own_Go _ _ _ _ _ _ _ T80 (mkF m 57 L5 [])
  have F103 : Exa Z h80 a11 "com/example/rankline/rankline/Extent" := (F13.keep K80)
  have F104 : Fld Z h80 a11 "com/example/rankline/rankline/Extent" "low" "D" (.double (4607182418800017408 : UInt64)) := (F14.keep K80 (ninS (Nat.ne_of_gt lt20) (ninS (Nat.ne_of_gt lt28) (ninS (Nat.ne_of_gt lt27) (ninS (Nat.ne_of_gt lt26) (ninS (Nat.ne_of_gt lt25) (ninS (Nat.ne_of_gt lt24) (ninS (Nat.ne_of_gt lt23) (ninS (Nat.ne_of_gt lt22) (ninS (Nat.ne_of_gt lt21) nin0))))))))))
  have F105 : Fld Z h80 a11 "com/example/rankline/rankline/Extent" "gapLow" "D" (.double (4611686018427387904 : UInt64)) := (F15.keep K80 (ninS (Nat.ne_of_gt lt20) (ninS (Nat.ne_of_gt lt28) (ninS (Nat.ne_of_gt lt27) (ninS (Nat.ne_of_gt lt26) (ninS (Nat.ne_of_gt lt25) (ninS (Nat.ne_of_gt lt24) (ninS (Nat.ne_of_gt lt23) (ninS (Nat.ne_of_gt lt22) (ninS (Nat.ne_of_gt lt21) nin0))))))))))
  have F106 : Fld Z h80 a11 "com/example/rankline/rankline/Extent" "gapHigh" "D" (.double (4611686018427387904 : UInt64)) := (F16.keep K80 (ninS (Nat.ne_of_gt lt20) (ninS (Nat.ne_of_gt lt28) (ninS (Nat.ne_of_gt lt27) (ninS (Nat.ne_of_gt lt26) (ninS (Nat.ne_of_gt lt25) (ninS (Nat.ne_of_gt lt24) (ninS (Nat.ne_of_gt lt23) (ninS (Nat.ne_of_gt lt22) (ninS (Nat.ne_of_gt lt21) nin0))))))))))
  have F107 : Fld Z h80 a11 "com/example/rankline/rankline/Extent" "high" "D" (.double (4611686018427387904 : UInt64)) := (F17.keep K80 (ninS (Nat.ne_of_gt lt20) (ninS (Nat.ne_of_gt lt28) (ninS (Nat.ne_of_gt lt27) (ninS (Nat.ne_of_gt lt26) (ninS (Nat.ne_of_gt lt25) (ninS (Nat.ne_of_gt lt24) (ninS (Nat.ne_of_gt lt23) (ninS (Nat.ne_of_gt lt22) (ninS (Nat.ne_of_gt lt21) nin0))))))))))
  have F108 : Fld Z h80 a11 "com/example/rankline/rankline/Extent" "below" "D" (.double f9) := (F18.keep K80 (ninS (Nat.ne_of_gt lt20) (ninS (Nat.ne_of_gt lt28) (ninS (Nat.ne_of_gt lt27) (ninS (Nat.ne_of_gt lt26) (ninS (Nat.ne_of_gt lt25) (ninS (Nat.ne_of_gt lt24) (ninS (Nat.ne_of_gt lt23) (ninS (Nat.ne_of_gt lt22) (ninS (Nat.ne_of_gt lt21) nin0))))))))))
  have F109 : Fld Z h80 a11 "com/example/rankline/rankline/Extent" "count" "D" (.double f9) := (F19.keep K80 (ninS (Nat.ne_of_gt lt20) (ninS (Nat.ne_of_gt lt28) (ninS (Nat.ne_of_gt lt27) (ninS (Nat.ne_of_gt lt26) (ninS (Nat.ne_of_gt lt25) (ninS (Nat.ne_of_gt lt24) (ninS (Nat.ne_of_gt lt23) (ninS (Nat.ne_of_gt lt22) (ninS (Nat.ne_of_gt lt21) nin0))))))))))
  exact own_ret0 X80 hx hlk hret (hb hby d3_57) e80 ⟨a11, f9, rfl, N80', (((Keep.refl _ _).trans K10 all0).trans K80 (allS (Or.inl (by simp)) (allS (Or.inl (by simp)) (allS (Or.inl (by simp)) (allS (Or.inl (by simp)) (allS (Or.inl (by simp)) (allS (Or.inl (by simp)) (allS (Or.inl (by simp)) (allS (Or.inl (by simp)) (allS (Or.inl (by simp)) all0)))))))))), ge32, F81, F82, F83, F84, F85, F86, F87, F88, F89, F90, F91, F92, F93, F94, F95, F96, F97, F98, F99, F100, F101, F102, F103, F104, F105, F106, F107, F108, F109, Df9⟩ (by decide) (by decide)
theorem d10_0 : decode prog_5_method_4_code 0 = .ok (.aload_n 0, 1) := by decide +kernel
theorem d10_1 : decode prog_5_method_4_code 1 = .ok (.getfield 40, 3) := by decide +kernel
theorem d10_4 : decode prog_5_method_4_code 4 = .ok (.ireturn, 1) := by decide +kernel
def own_s26_Q (Z : State) (a10 : Addr) (h0 : Heap) (n0 : Nat) (v_ : Option Value) (h_ : Heap) (L_ : List Loc) : Prop := (fun v h L => v = some (.int (0 : Int32)) ∧ Fr n0 L ∧ h = h0) v_ h_ L_
set_option maxRecDepth 65536 in
set_option maxHeartbeats 40000000 in
theorem own_s26 (l : Launch) (Z : State) (a0 : Array Value) (hw : ∀ d ∈ tables_1, d.before a0 Z = true) (wds : List Jvm.Cond) (a10 : Addr) (h0 : Heap) (n0 : Nat) (Z0 : n0 ≤ h0.size) (H41 : Fld Z h0 a10 "com/example/rankline/rankline/Buckets" "first" "I" (.int (0 : Int32))) :
    MetFree l (⟨"com/example/rankline/rankline/Buckets", "first", "()I"⟩ : MethodName) (head1 (Jvm.Cond.code (⟨"com/example/rankline/rankline/Buckets", "first", "()I"⟩ : MethodName) prog_5_method_4_code 1 (some .int) :: wds) ({ frames := 0, cells := 0, slots := 0, locals := 0 } : Room)) (fun ar_ U_ => ar_ = #[(.ref a10)] ∧ Z.Warmed39 U_.vm ∧ U_.heap = h0) (fun _ _ _ _ _ => True) (fun _ U_ o_ V_ => ∃ v_ L_, o_ = .returned v_ ∧ own_s26_Q Z a10 h0 n0 v_ V_.heap L_ ∧ FrameEnd U_ o_ V_ L_ ({ frames := 0, cells := 0, slots := 0, locals := 0 } : Room).cells ({ frames := 0, cells := 0, slots := 0, locals := 0 } : Room).slots) := by
  refine own_met (y := ⟨"com/example/rankline/rankline/Buckets", "first", "()I"⟩) (Q := own_s26_Q Z a10 h0 n0) own_pn1 ?_
  intro p e s m below meth c s₁ hx hby hml hZ hown hnm hret hlk X0 e0
  have N0 := Fr.nil n0
  refine own_cast (g' := (mkF m 0 #[.val (.ref a10)] [])) (by first | (simp [entryFrame, mkF, argsToLocals, Value.category]; done) | rfl) ?_
  refine own_pre (T' := s₁) (g' := (mkF m 1 #[.val (.ref a10)] [(.ref a10)])) (fun t k => XS.aloadN X0.here hx rfl (v := (.ref a10)) (hb hby d10_0) rfl rfl k) ?_
  refine own_getf X0 hx hZ hown (own_w hw 34 rfl) e0 H41 (hb hby d10_1) ?_
  intro T1 X1 e1
  show own_Go _ _ _ _ _ _ _ T1 (mkF m 4 #[.val (.ref a10)] [(.int (0 : Int32))])
  exact own_retI X1 hx hlk hret (hb hby d10_4) e1 ⟨rfl, N0, rfl⟩ (by decide) (by decide)
theorem d11_0 : decode prog_5_method_6_code 0 = .ok (.aload_n 0, 1) := by decide +kernel
theorem d11_1 : decode prog_5_method_6_code 1 = .ok (.getfield 33, 3) := by decide +kernel
theorem d11_4 : decode prog_5_method_6_code 4 = .ok (.iload_n 1, 1) := by decide +kernel
theorem d11_5 : decode prog_5_method_6_code 5 = .ok (.iaload, 1) := by decide +kernel
theorem d11_6 : decode prog_5_method_6_code 6 = .ok (.ireturn, 1) := by decide +kernel
def own_s27_Q (Z : State) (a10 : Addr) (a34 : Addr) (h0 : Heap) (n0 : Nat) (v_ : Option Value) (h_ : Heap) (L_ : List Loc) : Prop := (fun v h L => v = some (.int (1 : Int32)) ∧ Fr n0 L ∧ h = h0) v_ h_ L_
set_option maxRecDepth 65536 in
set_option maxHeartbeats 40000000 in
theorem own_s27 (l : Launch) (Z : State) (a0 : Array Value) (hw : ∀ d ∈ tables_1, d.before a0 Z = true) (wds : List Jvm.Cond) (a10 : Addr) (a34 : Addr) (h0 : Heap) (n0 : Nat) (Z0 : n0 ≤ h0.size) (H26 : own_Ary Z h0 a34 .int [(.int (1 : Int32)), (.int (2 : Int32)), (.int (-1 : Int32)), (.int (0 : Int32)), (.int (0 : Int32)), (.int (0 : Int32)), (.int (0 : Int32)), (.int (0 : Int32)), (.int (0 : Int32)), (.int (0 : Int32)), (.int (0 : Int32)), (.int (0 : Int32)), (.int (0 : Int32)), (.int (0 : Int32)), (.int (0 : Int32)), (.int (0 : Int32))]) (H39 : Fld Z h0 a10 "com/example/rankline/rankline/Buckets" "nextOf" "[I" (.ref a34)) :
    MetFree l (⟨"com/example/rankline/rankline/Buckets", "next", "(I)I"⟩ : MethodName) (head1 (Jvm.Cond.code (⟨"com/example/rankline/rankline/Buckets", "next", "(I)I"⟩ : MethodName) prog_5_method_6_code 2 (some .int) :: wds) ({ frames := 0, cells := 0, slots := 0, locals := 0 } : Room)) (fun ar_ U_ => ar_ = #[(.ref a10), (.int (0 : Int32))] ∧ Z.Warmed39 U_.vm ∧ U_.heap = h0) (fun _ _ _ _ _ => True) (fun _ U_ o_ V_ => ∃ v_ L_, o_ = .returned v_ ∧ own_s27_Q Z a10 a34 h0 n0 v_ V_.heap L_ ∧ FrameEnd U_ o_ V_ L_ ({ frames := 0, cells := 0, slots := 0, locals := 0 } : Room).cells ({ frames := 0, cells := 0, slots := 0, locals := 0 } : Room).slots) := by
  refine own_met (y := ⟨"com/example/rankline/rankline/Buckets", "next", "(I)I"⟩) (Q := own_s27_Q Z a10 a34 h0 n0) own_pn1 ?_
  intro p e s m below meth c s₁ hx hby hml hZ hown hnm hret hlk X0 e0
  have N0 := Fr.nil n0
  refine own_cast (g' := (mkF m 0 #[.val (.ref a10), .val (.int (0 : Int32))] [])) (by first | (simp [entryFrame, mkF, argsToLocals, Value.category]; done) | rfl) ?_
  refine own_pre (T' := s₁) (g' := (mkF m 1 #[.val (.ref a10), .val (.int (0 : Int32))] [(.ref a10)])) (fun t k => XS.aloadN X0.here hx rfl (v := (.ref a10)) (hb hby d11_0) rfl rfl k) ?_
  refine own_getf X0 hx hZ hown (own_w hw 30 rfl) e0 H39 (hb hby d11_1) ?_
  intro T1 X1 e1
  show own_Go _ _ _ _ _ _ _ T1 (mkF m 4 #[.val (.ref a10), .val (.int (0 : Int32))] [(.ref a34)])
  refine own_pre (T' := T1) (g' := (mkF m 5 #[.val (.ref a10), .val (.int (0 : Int32))] [(.int (0 : Int32)), (.ref a34)])) (fun t k => XS.iloadN X1.here hx rfl (v := (0 : Int32)) (hb hby d11_4) rfl k) ?_
  refine own_iaload X1 hx hZ e1 H26 (hb hby d11_5) (n := 0) (v := (.int (1 : Int32))) (by decide) (by decide) rfl ?_
  show own_Go _ _ _ _ _ _ _ T1 (mkF m 6 #[.val (.ref a10), .val (.int (0 : Int32))] [(.int (1 : Int32))])
  exact own_retI X1 hx hlk hret (hb hby d11_6) e1 ⟨rfl, N0, rfl⟩ (by decide) (by decide)
theorem own_pd7 : parseMethodDescriptor "(I)I" = some ⟨[.int], some .int⟩ := by decide +kernel
theorem d12_0 : decode prog_5_method_43_code 0 = .ok (.ldc2_w 250, 3) := by decide +kernel
theorem d12_3 : decode prog_5_method_43_code 3 = .ok (.lload 4, 2) := by decide +kernel
theorem d12_5 : decode prog_5_method_43_code 5 = .ok (.l2d, 1) := by decide +kernel
theorem d12_6 : decode prog_5_method_43_code 6 = .ok (.dmul, 1) := by decide +kernel
theorem d12_7 : decode prog_5_method_43_code 7 = .ok (.dstore 6, 2) := by decide +kernel
theorem d12_9 : decode prog_5_method_43_code 9 = .ok (.dload_n 2, 1) := by decide +kernel
theorem d12_10 : decode prog_5_method_43_code 10 = .ok (.aload_n 0, 1) := by decide +kernel
theorem d12_11 : decode prog_5_method_43_code 11 = .ok (.getfield 13, 3) := by decide +kernel
theorem d12_14 : decode prog_5_method_43_code 14 = .ok (.aload_n 0, 1) := by decide +kernel
theorem d12_15 : decode prog_5_method_43_code 15 = .ok (.getfield 37, 3) := by decide +kernel
theorem d12_18 : decode prog_5_method_43_code 18 = .ok (.iload_n 1, 1) := by decide +kernel
theorem d12_19 : decode prog_5_method_43_code 19 = .ok (.iaload, 1) := by decide +kernel
theorem d12_20 : decode prog_5_method_43_code 20 = .ok (.daload, 1) := by decide +kernel
theorem d12_21 : decode prog_5_method_43_code 21 = .ok (.dsub, 1) := by decide +kernel
theorem d12_22 : decode prog_5_method_43_code 22 = .ok (.dload 6, 2) := by decide +kernel
theorem d12_24 : decode prog_5_method_43_code 24 = .ok (.dcmp .l, 1) := by decide +kernel
theorem d12_25 : decode prog_5_method_43_code 25 = .ok (.ifCond .lt 21, 3) := by decide +kernel
theorem d12_28 : decode prog_5_method_43_code 28 = .ok (.aload_n 0, 1) := by decide +kernel
theorem d12_29 : decode prog_5_method_43_code 29 = .ok (.getfield 13, 3) := by decide +kernel
theorem d12_32 : decode prog_5_method_43_code 32 = .ok (.iload_n 1, 1) := by decide +kernel
theorem d12_33 : decode prog_5_method_43_code 33 = .ok (.daload, 1) := by decide +kernel
theorem d12_34 : decode prog_5_method_43_code 34 = .ok (.dload_n 2, 1) := by decide +kernel
theorem d12_35 : decode prog_5_method_43_code 35 = .ok (.dsub, 1) := by decide +kernel
theorem d12_36 : decode prog_5_method_43_code 36 = .ok (.dload 6, 2) := by decide +kernel
theorem d12_38 : decode prog_5_method_43_code 38 = .ok (.dcmp .l, 1) := by decide +kernel
theorem d12_39 : decode prog_5_method_43_code 39 = .ok (.ifCond .lt 7, 3) := by decide +kernel
theorem d12_42 : decode prog_5_method_43_code 42 = .ok (.iconst 1, 1) := by decide +kernel
theorem d12_43 : decode prog_5_method_43_code 43 = .ok (.goto 4, 3) := by decide +kernel
theorem d12_46 : decode prog_5_method_43_code 46 = .ok (.iconst 0, 1) := by decide +kernel
theorem d12_47 : decode prog_5_method_43_code 47 = .ok (.ireturn, 1) := by decide +kernel
def own_s28_Q (Z : State) (a10 : Addr) (f330 : UInt64) (v326 : Int64) (a35 : Addr) (a29 : Addr) (f121 : UInt64) (f167 : UInt64) (f225 : UInt64) (v8 : Int32) (v2 : Int32) (v4 : Int32) (h0 : Heap) (n0 : Nat) (v_ : Option Value) (h_ : Heap) (L_ : List Loc) : Prop := (fun v h L => v = some (.int (1 : Int32)) ∧ Fr n0 L ∧ h = h0) v_ h_ L_
set_option maxRecDepth 65536 in
set_option maxHeartbeats 40000000 in
theorem own_s28 (l : Launch) (Z : State) (a0 : Array Value) (hw : ∀ d ∈ tables_1, d.before a0 Z = true) (wds : List Jvm.Cond) (a10 : Addr) (f330 : UInt64) (v326 : Int64) (a35 : Addr) (a29 : Addr) (f121 : UInt64) (f167 : UInt64) (f225 : UInt64) (v8 : Int32) (v2 : Int32) (v4 : Int32) (h0 : Heap) (n0 : Nat) (Z0 : n0 ≤ h0.size) (H25 : own_Ary Z h0 a35 .int [(.int (-1 : Int32)), (.int (0 : Int32)), (.int (1 : Int32)), (.int (0 : Int32)), (.int (0 : Int32)), (.int (0 : Int32)), (.int (0 : Int32)), (.int (0 : Int32)), (.int (0 : Int32)), (.int (0 : Int32)), (.int (0 : Int32)), (.int (0 : Int32)), (.int (0 : Int32)), (.int (0 : Int32)), (.int (0 : Int32)), (.int (0 : Int32))]) (H31 : own_Ary Z h0 a29 .double [(.double f121), (.double f167), (.double f225), (.double (0 : UInt64)), (.double (0 : UInt64)), (.double (0 : UInt64)), (.double (0 : UInt64)), (.double (0 : UInt64)), (.double (0 : UInt64)), (.double (0 : UInt64)), (.double (0 : UInt64)), (.double (0 : UInt64)), (.double (0 : UInt64)), (.double (0 : UInt64)), (.double (0 : UInt64)), (.double (0 : UInt64))]) (H34 : Fld Z h0 a10 "com/example/rankline/rankline/Buckets" "ranks" "[D" (.ref a29)) (H40 : Fld Z h0 a10 "com/example/rankline/rankline/Buckets" "previousOf" "[I" (.ref a35)) (H132 : FP.Core.own_H v8.toInt f330) (H133 : FP.Core.own_H v2.toInt f121) (H135 : FP.Core.own_H v4.toInt f167) (H138 : 1 ≤ v326.toInt ∧ v326.toInt ≤ 33554432) (H139 : ¬ (v8.toInt - v2.toInt ≤ 0)) (H140 : ¬ (v4.toInt - v8.toInt ≤ 0)) :
    MetFree l (⟨"com/example/rankline/rankline/Buckets", "halvesMeetCountFloor", "(IDJ)Z"⟩ : MethodName) (head1 (Jvm.Cond.code (⟨"com/example/rankline/rankline/Buckets", "halvesMeetCountFloor", "(IDJ)Z"⟩ : MethodName) prog_5_method_43_code 8 (some .boolean) :: wds) ({ frames := 0, cells := 0, slots := 0, locals := 0 } : Room)) (fun ar_ U_ => ar_ = #[(.ref a10), (.int (1 : Int32)), (.double f330), (.long v326)] ∧ Z.Warmed39 U_.vm ∧ U_.heap = h0) (fun _ _ _ _ _ => True) (fun _ U_ o_ V_ => ∃ v_ L_, o_ = .returned v_ ∧ own_s28_Q Z a10 f330 v326 a35 a29 f121 f167 f225 v8 v2 v4 h0 n0 v_ V_.heap L_ ∧ FrameEnd U_ o_ V_ L_ ({ frames := 0, cells := 0, slots := 0, locals := 0 } : Room).cells ({ frames := 0, cells := 0, slots := 0, locals := 0 } : Room).slots) := by
  refine own_met (y := ⟨"com/example/rankline/rankline/Buckets", "halvesMeetCountFloor", "(IDJ)Z"⟩) (Q := own_s28_Q Z a10 f330 v326 a35 a29 f121 f167 f225 v8 v2 v4 h0 n0) own_pn1 ?_
  intro p e s m below meth c s₁ hx hby hml hZ hown hnm hret hlk X0 e0
  have N0 := Fr.nil n0
  refine own_cast (g' := (mkF m 0 #[.val (.ref a10), .val (.int (1 : Int32)), .val (.double f330), .second, .val (.long v326), .second, .unset, .unset] [])) (by first | (simp [entryFrame, mkF, argsToLocals, Value.category]; done) | rfl) ?_
  generalize hL1 : (#[.val (.ref a10), .val (.int (1 : Int32)), .val (.double f330), .second, .val (.long v326), .second, .unset, .unset] : Array Slot) = L1
  refine own_ldcd X0 hx hZ hown (own_w hw 111 rfl) (hb hby d12_0) ?_
  show own_Go _ _ _ _ _ _ _ s₁ (mkF m 3 L1 [(.double (4487126258331716666 : UInt64))])
  refine own_pre (T' := s₁) (g' := (mkF m 5 L1 [(.long v326), (.double (4487126258331716666 : UInt64))])) (fun t k => XT.lload X0.here hx rfl (v := v326) (hb hby d12_3) (by rw [← hL1]; rfl) k) ?_
  obtain ⟨f2, hf2⟩ : ∃ z, FP.l2d v326 = z := ⟨_, rfl⟩
  refine own_pre (T' := s₁) (g' := (mkF m 6 L1 [(.double f2), (.double (4487126258331716666 : UInt64))])) (fun t k => XS.l2dS X0.here hx rfl (hb hby d12_5) rfl hf2 k) ?_
  have Df2 : FP.Core.DInt v326.toInt f2 := hf2 ▸ FP.Core.l2d_int (by omega)
  obtain ⟨f3, hf3⟩ : ∃ z, FP.dmul (4487126258331716666 : UInt64) f2 = z := ⟨_, rfl⟩
  have Df3 : FP.Core.val64 f3 ≠ .nan ∧ 0 < FP.Core.zval FP.Core.b64 (FP.Core.val64 f3) ∧ 2 * FP.Core.zval FP.Core.b64 (FP.Core.val64 f3) < (FP.Core.one64 : Int) := hf3 ▸ own_fl2 Df2 H138.1 H138.2
  have nnf3 : Jvm.Free.Fl.NoNaN64 f3 := Jvm.Free.Fl.val64_no.mpr Df3.1
  refine own_pre (T' := s₁) (g' := (mkF m 7 L1 [(.double f3)])) (fun t k => XS.dmulS X0.here hx rfl (hb hby d12_6) rfl (by rw [hf3]; exact nnf3) hf3 k) ?_
  refine own_pre (T' := s₁) (g' := (mkF m 9 #[.val (.ref a10), .val (.int (1 : Int32)), .val (.double f330), .second, .val (.long v326), .second, .val (.double f3), .second] [])) (fun t k => XS.dstore X0.here hx rfl (hb hby d12_7) rfl (l' := #[.val (.ref a10), .val (.int (1 : Int32)), .val (.double f330), .second, .val (.long v326), .second, .val (.double f3), .second]) (by rw [← hL1]; rfl) k) ?_
  generalize hL4 : (#[.val (.ref a10), .val (.int (1 : Int32)), .val (.double f330), .second, .val (.long v326), .second, .val (.double f3), .second] : Array Slot) = L4
  refine own_pre (T' := s₁) (g' := (mkF m 10 L4 [(.double f330)])) (fun t k => XS.dloadN X0.here hx rfl (v := f330) (hb hby d12_9) (by rw [← hL4]; rfl) k) ?_
  refine own_pre (T' := s₁) (g' := (mkF m 11 L4 [(.ref a10), (.double f330)])) (fun t k => XS.aloadN X0.here hx rfl (v := (.ref a10)) (hb hby d12_10) (by rw [← hL4]; rfl) rfl k) ?_
  refine own_getf X0 hx hZ hown (own_w hw 15 rfl) e0 H34 (hb hby d12_11) ?_
  intro T5 X5 e5
  show own_Go _ _ _ _ _ _ _ T5 (mkF m 14 L4 [(.ref a29), (.double f330)])
  refine own_pre (T' := T5) (g' := (mkF m 15 L4 [(.ref a10), (.ref a29), (.double f330)])) (fun t k => XS.aloadN X5.here hx rfl (v := (.ref a10)) (hb hby d12_14) (by rw [← hL4]; rfl) rfl k) ?_
  refine own_getf X5 hx hZ hown (own_w hw 32 rfl) e5 H40 (hb hby d12_15) ?_
  intro T6 X6 e6
  show own_Go _ _ _ _ _ _ _ T6 (mkF m 18 L4 [(.ref a35), (.ref a29), (.double f330)])
  refine own_pre (T' := T6) (g' := (mkF m 19 L4 [(.int (1 : Int32)), (.ref a35), (.ref a29), (.double f330)])) (fun t k => XS.iloadN X6.here hx rfl (v := (1 : Int32)) (hb hby d12_18) (by rw [← hL4]; rfl) k) ?_
  refine own_iaload X6 hx hZ e6 H25 (hb hby d12_19) (n := 1) (v := (.int (0 : Int32))) (by decide) (by decide) rfl ?_
  show own_Go _ _ _ _ _ _ _ T6 (mkF m 20 L4 [(.int (0 : Int32)), (.ref a29), (.double f330)])
  refine own_daload X6 hx hZ e6 H31 (hb hby d12_20) (n := 0) (v := (.double f121)) (by decide) (by decide) rfl ?_
  show own_Go _ _ _ _ _ _ _ T6 (mkF m 21 L4 [(.double f121), (.double f330)])
  obtain ⟨f7, hf7⟩ : ∃ z, FP.dsub f330 f121 = z := ⟨_, rfl⟩
  have Df7 : FP.Core.own_H (v8.toInt - v2.toInt) f7 := hf7 ▸ FP.Core.own_H_sub H132 H133 (by have := rng32 v8; have := rng32 v2; omega)
  refine own_pre (T' := T6) (g' := (mkF m 22 L4 [(.double f7)])) (fun t k => XS.dsubS X6.here hx rfl (hb hby d12_21) rfl (by rw [hf7]; exact Jvm.Free.Fl.val64_no.mpr Df7.nn) hf7 k) ?_
  refine own_pre (T' := T6) (g' := (mkF m 24 L4 [(.double f3), (.double f7)])) (fun t k => XS.dload X6.here hx rfl (v := f3) (hb hby d12_22) (by rw [← hL4]; rfl) k) ?_
  obtain ⟨k8, hk8⟩ : ∃ z, own_c (FP.Core.zval FP.Core.b64 (FP.Core.val64 f7)) (FP.Core.zval FP.Core.b64 (FP.Core.val64 f3)) = z := ⟨_, rfl⟩
  refine own_pre (T' := T6) (g' := (mkF m 25 L4 [(.int k8)])) (fun t k => XS.dcmpS X6.here hx rfl (hb hby d12_24) rfl ((own_dcmpz (Jvm.Free.Fl.val64_no.mpr Df7.nn) nnf3 _).trans hk8) k) ?_
  have clo : ¬ k8 < (0 : Int32) := by rw [← hk8, own_c_lt, (own_cmpn Df7 Df3.2)]; exact H139
  refine own_pre (T' := T6) (g' := (mkF m 28 L4 [])) (fun t k => XS.ifNo X6.here hx rfl (hb hby d12_25) rfl ((if0 _ _).trans (flt clo).1) k) ?_
  refine own_pre (T' := T6) (g' := (mkF m 29 L4 [(.ref a10)])) (fun t k => XS.aloadN X6.here hx rfl (v := (.ref a10)) (hb hby d12_28) (by rw [← hL4]; rfl) rfl k) ?_
  refine own_getf X6 hx hZ hown (own_w hw 15 rfl) e6 H34 (hb hby d12_29) ?_
  intro T9 X9 e9
  show own_Go _ _ _ _ _ _ _ T9 (mkF m 32 L4 [(.ref a29)])
  refine own_pre (T' := T9) (g' := (mkF m 33 L4 [(.int (1 : Int32)), (.ref a29)])) (fun t k => XS.iloadN X9.here hx rfl (v := (1 : Int32)) (hb hby d12_32) (by rw [← hL4]; rfl) k) ?_
  refine own_daload X9 hx hZ e9 H31 (hb hby d12_33) (n := 1) (v := (.double f167)) (by decide) (by decide) rfl ?_
  show own_Go _ _ _ _ _ _ _ T9 (mkF m 34 L4 [(.double f167)])
  refine own_pre (T' := T9) (g' := (mkF m 35 L4 [(.double f330), (.double f167)])) (fun t k => XS.dloadN X9.here hx rfl (v := f330) (hb hby d12_34) (by rw [← hL4]; rfl) k) ?_
  obtain ⟨f10, hf10⟩ : ∃ z, FP.dsub f167 f330 = z := ⟨_, rfl⟩
  have Df10 : FP.Core.own_H (v4.toInt - v8.toInt) f10 := hf10 ▸ FP.Core.own_H_sub H135 H132 (by have := rng32 v4; have := rng32 v8; omega)
  refine own_pre (T' := T9) (g' := (mkF m 36 L4 [(.double f10)])) (fun t k => XS.dsubS X9.here hx rfl (hb hby d12_35) rfl (by rw [hf10]; exact Jvm.Free.Fl.val64_no.mpr Df10.nn) hf10 k) ?_
  refine own_pre (T' := T9) (g' := (mkF m 38 L4 [(.double f3), (.double f10)])) (fun t k => XS.dload X9.here hx rfl (v := f3) (hb hby d12_36) (by rw [← hL4]; rfl) k) ?_
  obtain ⟨k11, hk11⟩ : ∃ z, own_c (FP.Core.zval FP.Core.b64 (FP.Core.val64 f10)) (FP.Core.zval FP.Core.b64 (FP.Core.val64 f3)) = z := ⟨_, rfl⟩
  refine own_pre (T' := T9) (g' := (mkF m 39 L4 [(.int k11)])) (fun t k => XS.dcmpS X9.here hx rfl (hb hby d12_38) rfl ((own_dcmpz (Jvm.Free.Fl.val64_no.mpr Df10.nn) nnf3 _).trans hk11) k) ?_
  have chi : ¬ k11 < (0 : Int32) := by rw [← hk11, own_c_lt, (own_cmpn Df10 Df3.2)]; exact H140
  refine own_pre (T' := T9) (g' := (mkF m 42 L4 [])) (fun t k => XS.ifNo X9.here hx rfl (hb hby d12_39) rfl ((if0 _ _).trans (flt chi).1) k) ?_
  refine own_pre (T' := T9) (g' := (mkF m 43 L4 [(.int (1 : Int32))])) (fun t k => XS.iconst X9.here hx rfl (hb hby d12_42) k) ?_
  refine own_pre (T' := T9) (g' := (mkF m 47 L4 [(.int (1 : Int32))])) (fun t k => XS.goto X9.here hx rfl (pc0 := 43) (pc' := 47) rfl (hb hby d12_43) (by decide) (by decide) k) ?_
  exact own_retZ X9 hx hlk hret rfl (hb hby d12_47) e9 ⟨rfl, N0, rfl⟩ (by decide) (by decide)
theorem own_pd8 : parseMethodDescriptor "(IDJ)Z" = some ⟨[.int, .double, .long], some .boolean⟩ := by decide +kernel
def own_s29_Q (Z : State) (a10 : Addr) (f335 : UInt64) (v326 : Int64) (a35 : Addr) (a29 : Addr) (f121 : UInt64) (f167 : UInt64) (f225 : UInt64) (v8 : Int32) (v2 : Int32) (v4 : Int32) (h0 : Heap) (n0 : Nat) (v_ : Option Value) (h_ : Heap) (L_ : List Loc) : Prop := (fun v h L => v = some (.int (0 : Int32)) ∧ Fr n0 L ∧ h = h0) v_ h_ L_
set_option maxRecDepth 65536 in
set_option maxHeartbeats 40000000 in
theorem own_s29 (l : Launch) (Z : State) (a0 : Array Value) (hw : ∀ d ∈ tables_1, d.before a0 Z = true) (wds : List Jvm.Cond) (a10 : Addr) (f335 : UInt64) (v326 : Int64) (a35 : Addr) (a29 : Addr) (f121 : UInt64) (f167 : UInt64) (f225 : UInt64) (v8 : Int32) (v2 : Int32) (v4 : Int32) (h0 : Heap) (n0 : Nat) (Z0 : n0 ≤ h0.size) (H25 : own_Ary Z h0 a35 .int [(.int (-1 : Int32)), (.int (0 : Int32)), (.int (1 : Int32)), (.int (0 : Int32)), (.int (0 : Int32)), (.int (0 : Int32)), (.int (0 : Int32)), (.int (0 : Int32)), (.int (0 : Int32)), (.int (0 : Int32)), (.int (0 : Int32)), (.int (0 : Int32)), (.int (0 : Int32)), (.int (0 : Int32)), (.int (0 : Int32)), (.int (0 : Int32))]) (H31 : own_Ary Z h0 a29 .double [(.double f121), (.double f167), (.double f225), (.double (0 : UInt64)), (.double (0 : UInt64)), (.double (0 : UInt64)), (.double (0 : UInt64)), (.double (0 : UInt64)), (.double (0 : UInt64)), (.double (0 : UInt64)), (.double (0 : UInt64)), (.double (0 : UInt64)), (.double (0 : UInt64)), (.double (0 : UInt64)), (.double (0 : UInt64)), (.double (0 : UInt64))]) (H34 : Fld Z h0 a10 "com/example/rankline/rankline/Buckets" "ranks" "[D" (.ref a29)) (H40 : Fld Z h0 a10 "com/example/rankline/rankline/Buckets" "previousOf" "[I" (.ref a35)) (H132 : FP.Core.own_H v8.toInt f335) (H133 : FP.Core.own_H v2.toInt f121) (H135 : FP.Core.own_H v4.toInt f167) (H138 : 1 ≤ v326.toInt ∧ v326.toInt ≤ 33554432) (H139 : ¬ (v8.toInt - v2.toInt ≤ 0)) (H140 : v4.toInt - v8.toInt ≤ 0) :
    MetFree l (⟨"com/example/rankline/rankline/Buckets", "halvesMeetCountFloor", "(IDJ)Z"⟩ : MethodName) (head1 (Jvm.Cond.code (⟨"com/example/rankline/rankline/Buckets", "halvesMeetCountFloor", "(IDJ)Z"⟩ : MethodName) prog_5_method_43_code 8 (some .boolean) :: wds) ({ frames := 0, cells := 0, slots := 0, locals := 0 } : Room)) (fun ar_ U_ => ar_ = #[(.ref a10), (.int (1 : Int32)), (.double f335), (.long v326)] ∧ Z.Warmed39 U_.vm ∧ U_.heap = h0) (fun _ _ _ _ _ => True) (fun _ U_ o_ V_ => ∃ v_ L_, o_ = .returned v_ ∧ own_s29_Q Z a10 f335 v326 a35 a29 f121 f167 f225 v8 v2 v4 h0 n0 v_ V_.heap L_ ∧ FrameEnd U_ o_ V_ L_ ({ frames := 0, cells := 0, slots := 0, locals := 0 } : Room).cells ({ frames := 0, cells := 0, slots := 0, locals := 0 } : Room).slots) := by
  refine own_met (y := ⟨"com/example/rankline/rankline/Buckets", "halvesMeetCountFloor", "(IDJ)Z"⟩) (Q := own_s29_Q Z a10 f335 v326 a35 a29 f121 f167 f225 v8 v2 v4 h0 n0) own_pn1 ?_
  intro p e s m below meth c s₁ hx hby hml hZ hown hnm hret hlk X0 e0
  have N0 := Fr.nil n0
  refine own_cast (g' := (mkF m 0 #[.val (.ref a10), .val (.int (1 : Int32)), .val (.double f335), .second, .val (.long v326), .second, .unset, .unset] [])) (by first | (simp [entryFrame, mkF, argsToLocals, Value.category]; done) | rfl) ?_
  generalize hL1 : (#[.val (.ref a10), .val (.int (1 : Int32)), .val (.double f335), .second, .val (.long v326), .second, .unset, .unset] : Array Slot) = L1
  refine own_ldcd X0 hx hZ hown (own_w hw 111 rfl) (hb hby d12_0) ?_
  show own_Go _ _ _ _ _ _ _ s₁ (mkF m 3 L1 [(.double (4487126258331716666 : UInt64))])
  refine own_pre (T' := s₁) (g' := (mkF m 5 L1 [(.long v326), (.double (4487126258331716666 : UInt64))])) (fun t k => XT.lload X0.here hx rfl (v := v326) (hb hby d12_3) (by rw [← hL1]; rfl) k) ?_
  obtain ⟨f2, hf2⟩ : ∃ z, FP.l2d v326 = z := ⟨_, rfl⟩
  refine own_pre (T' := s₁) (g' := (mkF m 6 L1 [(.double f2), (.double (4487126258331716666 : UInt64))])) (fun t k => XS.l2dS X0.here hx rfl (hb hby d12_5) rfl hf2 k) ?_
  have Df2 : FP.Core.DInt v326.toInt f2 := hf2 ▸ FP.Core.l2d_int (by omega)
  obtain ⟨f3, hf3⟩ : ∃ z, FP.dmul (4487126258331716666 : UInt64) f2 = z := ⟨_, rfl⟩
  have Df3 : FP.Core.val64 f3 ≠ .nan ∧ 0 < FP.Core.zval FP.Core.b64 (FP.Core.val64 f3) ∧ 2 * FP.Core.zval FP.Core.b64 (FP.Core.val64 f3) < (FP.Core.one64 : Int) := hf3 ▸ own_fl2 Df2 H138.1 H138.2
  have nnf3 : Jvm.Free.Fl.NoNaN64 f3 := Jvm.Free.Fl.val64_no.mpr Df3.1
  refine own_pre (T' := s₁) (g' := (mkF m 7 L1 [(.double f3)])) (fun t k => XS.dmulS X0.here hx rfl (hb hby d12_6) rfl (by rw [hf3]; exact nnf3) hf3 k) ?_
  refine own_pre (T' := s₁) (g' := (mkF m 9 #[.val (.ref a10), .val (.int (1 : Int32)), .val (.double f335), .second, .val (.long v326), .second, .val (.double f3), .second] [])) (fun t k => XS.dstore X0.here hx rfl (hb hby d12_7) rfl (l' := #[.val (.ref a10), .val (.int (1 : Int32)), .val (.double f335), .second, .val (.long v326), .second, .val (.double f3), .second]) (by rw [← hL1]; rfl) k) ?_
  generalize hL4 : (#[.val (.ref a10), .val (.int (1 : Int32)), .val (.double f335), .second, .val (.long v326), .second, .val (.double f3), .second] : Array Slot) = L4
  refine own_pre (T' := s₁) (g' := (mkF m 10 L4 [(.double f335)])) (fun t k => XS.dloadN X0.here hx rfl (v := f335) (hb hby d12_9) (by rw [← hL4]; rfl) k) ?_
  refine own_pre (T' := s₁) (g' := (mkF m 11 L4 [(.ref a10), (.double f335)])) (fun t k => XS.aloadN X0.here hx rfl (v := (.ref a10)) (hb hby d12_10) (by rw [← hL4]; rfl) rfl k) ?_
  refine own_getf X0 hx hZ hown (own_w hw 15 rfl) e0 H34 (hb hby d12_11) ?_
  intro T5 X5 e5
  show own_Go _ _ _ _ _ _ _ T5 (mkF m 14 L4 [(.ref a29), (.double f335)])
  refine own_pre (T' := T5) (g' := (mkF m 15 L4 [(.ref a10), (.ref a29), (.double f335)])) (fun t k => XS.aloadN X5.here hx rfl (v := (.ref a10)) (hb hby d12_14) (by rw [← hL4]; rfl) rfl k) ?_
  refine own_getf X5 hx hZ hown (own_w hw 32 rfl) e5 H40 (hb hby d12_15) ?_
  intro T6 X6 e6
  show own_Go _ _ _ _ _ _ _ T6 (mkF m 18 L4 [(.ref a35), (.ref a29), (.double f335)])
  refine own_pre (T' := T6) (g' := (mkF m 19 L4 [(.int (1 : Int32)), (.ref a35), (.ref a29), (.double f335)])) (fun t k => XS.iloadN X6.here hx rfl (v := (1 : Int32)) (hb hby d12_18) (by rw [← hL4]; rfl) k) ?_
  refine own_iaload X6 hx hZ e6 H25 (hb hby d12_19) (n := 1) (v := (.int (0 : Int32))) (by decide) (by decide) rfl ?_
  show own_Go _ _ _ _ _ _ _ T6 (mkF m 20 L4 [(.int (0 : Int32)), (.ref a29), (.double f335)])
  refine own_daload X6 hx hZ e6 H31 (hb hby d12_20) (n := 0) (v := (.double f121)) (by decide) (by decide) rfl ?_
  show own_Go _ _ _ _ _ _ _ T6 (mkF m 21 L4 [(.double f121), (.double f335)])
  obtain ⟨f7, hf7⟩ : ∃ z, FP.dsub f335 f121 = z := ⟨_, rfl⟩
  have Df7 : FP.Core.own_H (v8.toInt - v2.toInt) f7 := hf7 ▸ FP.Core.own_H_sub H132 H133 (by have := rng32 v8; have := rng32 v2; omega)
  refine own_pre (T' := T6) (g' := (mkF m 22 L4 [(.double f7)])) (fun t k => XS.dsubS X6.here hx rfl (hb hby d12_21) rfl (by rw [hf7]; exact Jvm.Free.Fl.val64_no.mpr Df7.nn) hf7 k) ?_
  refine own_pre (T' := T6) (g' := (mkF m 24 L4 [(.double f3), (.double f7)])) (fun t k => XS.dload X6.here hx rfl (v := f3) (hb hby d12_22) (by rw [← hL4]; rfl) k) ?_
  obtain ⟨k8, hk8⟩ : ∃ z, own_c (FP.Core.zval FP.Core.b64 (FP.Core.val64 f7)) (FP.Core.zval FP.Core.b64 (FP.Core.val64 f3)) = z := ⟨_, rfl⟩
  refine own_pre (T' := T6) (g' := (mkF m 25 L4 [(.int k8)])) (fun t k => XS.dcmpS X6.here hx rfl (hb hby d12_24) rfl ((own_dcmpz (Jvm.Free.Fl.val64_no.mpr Df7.nn) nnf3 _).trans hk8) k) ?_
  have clo : ¬ k8 < (0 : Int32) := by rw [← hk8, own_c_lt, (own_cmpn Df7 Df3.2)]; exact H139
  refine own_pre (T' := T6) (g' := (mkF m 28 L4 [])) (fun t k => XS.ifNo X6.here hx rfl (hb hby d12_25) rfl ((if0 _ _).trans (flt clo).1) k) ?_
  refine own_pre (T' := T6) (g' := (mkF m 29 L4 [(.ref a10)])) (fun t k => XS.aloadN X6.here hx rfl (v := (.ref a10)) (hb hby d12_28) (by rw [← hL4]; rfl) rfl k) ?_
  refine own_getf X6 hx hZ hown (own_w hw 15 rfl) e6 H34 (hb hby d12_29) ?_
  intro T9 X9 e9
  show own_Go _ _ _ _ _ _ _ T9 (mkF m 32 L4 [(.ref a29)])
  refine own_pre (T' := T9) (g' := (mkF m 33 L4 [(.int (1 : Int32)), (.ref a29)])) (fun t k => XS.iloadN X9.here hx rfl (v := (1 : Int32)) (hb hby d12_32) (by rw [← hL4]; rfl) k) ?_
  refine own_daload X9 hx hZ e9 H31 (hb hby d12_33) (n := 1) (v := (.double f167)) (by decide) (by decide) rfl ?_
  show own_Go _ _ _ _ _ _ _ T9 (mkF m 34 L4 [(.double f167)])
  refine own_pre (T' := T9) (g' := (mkF m 35 L4 [(.double f335), (.double f167)])) (fun t k => XS.dloadN X9.here hx rfl (v := f335) (hb hby d12_34) (by rw [← hL4]; rfl) k) ?_
  obtain ⟨f10, hf10⟩ : ∃ z, FP.dsub f167 f335 = z := ⟨_, rfl⟩
  have Df10 : FP.Core.own_H (v4.toInt - v8.toInt) f10 := hf10 ▸ FP.Core.own_H_sub H135 H132 (by have := rng32 v4; have := rng32 v8; omega)
  refine own_pre (T' := T9) (g' := (mkF m 36 L4 [(.double f10)])) (fun t k => XS.dsubS X9.here hx rfl (hb hby d12_35) rfl (by rw [hf10]; exact Jvm.Free.Fl.val64_no.mpr Df10.nn) hf10 k) ?_
  refine own_pre (T' := T9) (g' := (mkF m 38 L4 [(.double f3), (.double f10)])) (fun t k => XS.dload X9.here hx rfl (v := f3) (hb hby d12_36) (by rw [← hL4]; rfl) k) ?_
  obtain ⟨k11, hk11⟩ : ∃ z, own_c (FP.Core.zval FP.Core.b64 (FP.Core.val64 f10)) (FP.Core.zval FP.Core.b64 (FP.Core.val64 f3)) = z := ⟨_, rfl⟩
  refine own_pre (T' := T9) (g' := (mkF m 39 L4 [(.int k11)])) (fun t k => XS.dcmpS X9.here hx rfl (hb hby d12_38) rfl ((own_dcmpz (Jvm.Free.Fl.val64_no.mpr Df10.nn) nnf3 _).trans hk11) k) ?_
  have chi : k11 < (0 : Int32) := by rw [← hk11, own_c_lt, (own_cmpn Df10 Df3.2)]; exact H140
  refine own_pre (T' := T9) (g' := (mkF m 46 L4 [])) (fun t k => XS.ifYes X9.here hx rfl (pc0 := 39) (pc' := 46) rfl (hb hby d12_39) rfl ((if0 _ _).trans (tlt chi).1) (by decide) (by decide) k) ?_
  refine own_pre (T' := T9) (g' := (mkF m 47 L4 [(.int (0 : Int32))])) (fun t k => XS.iconst X9.here hx rfl (hb hby d12_46) k) ?_
  exact own_retZ X9 hx hlk hret rfl (hb hby d12_47) e9 ⟨rfl, N0, rfl⟩ (by decide) (by decide)
def own_s30_Q (Z : State) (a10 : Addr) (f340 : UInt64) (v326 : Int64) (a35 : Addr) (a29 : Addr) (f121 : UInt64) (f167 : UInt64) (f225 : UInt64) (v8 : Int32) (v2 : Int32) (h0 : Heap) (n0 : Nat) (v_ : Option Value) (h_ : Heap) (L_ : List Loc) : Prop := (fun v h L => v = some (.int (0 : Int32)) ∧ Fr n0 L ∧ h = h0) v_ h_ L_
set_option maxRecDepth 65536 in
set_option maxHeartbeats 40000000 in
theorem own_s30 (l : Launch) (Z : State) (a0 : Array Value) (hw : ∀ d ∈ tables_1, d.before a0 Z = true) (wds : List Jvm.Cond) (a10 : Addr) (f340 : UInt64) (v326 : Int64) (a35 : Addr) (a29 : Addr) (f121 : UInt64) (f167 : UInt64) (f225 : UInt64) (v8 : Int32) (v2 : Int32) (h0 : Heap) (n0 : Nat) (Z0 : n0 ≤ h0.size) (H25 : own_Ary Z h0 a35 .int [(.int (-1 : Int32)), (.int (0 : Int32)), (.int (1 : Int32)), (.int (0 : Int32)), (.int (0 : Int32)), (.int (0 : Int32)), (.int (0 : Int32)), (.int (0 : Int32)), (.int (0 : Int32)), (.int (0 : Int32)), (.int (0 : Int32)), (.int (0 : Int32)), (.int (0 : Int32)), (.int (0 : Int32)), (.int (0 : Int32)), (.int (0 : Int32))]) (H31 : own_Ary Z h0 a29 .double [(.double f121), (.double f167), (.double f225), (.double (0 : UInt64)), (.double (0 : UInt64)), (.double (0 : UInt64)), (.double (0 : UInt64)), (.double (0 : UInt64)), (.double (0 : UInt64)), (.double (0 : UInt64)), (.double (0 : UInt64)), (.double (0 : UInt64)), (.double (0 : UInt64)), (.double (0 : UInt64)), (.double (0 : UInt64)), (.double (0 : UInt64))]) (H34 : Fld Z h0 a10 "com/example/rankline/rankline/Buckets" "ranks" "[D" (.ref a29)) (H40 : Fld Z h0 a10 "com/example/rankline/rankline/Buckets" "previousOf" "[I" (.ref a35)) (H132 : FP.Core.own_H v8.toInt f340) (H133 : FP.Core.own_H v2.toInt f121) (H138 : 1 ≤ v326.toInt ∧ v326.toInt ≤ 33554432) (H139 : v8.toInt - v2.toInt ≤ 0) :
    MetFree l (⟨"com/example/rankline/rankline/Buckets", "halvesMeetCountFloor", "(IDJ)Z"⟩ : MethodName) (head1 (Jvm.Cond.code (⟨"com/example/rankline/rankline/Buckets", "halvesMeetCountFloor", "(IDJ)Z"⟩ : MethodName) prog_5_method_43_code 8 (some .boolean) :: wds) ({ frames := 0, cells := 0, slots := 0, locals := 0 } : Room)) (fun ar_ U_ => ar_ = #[(.ref a10), (.int (1 : Int32)), (.double f340), (.long v326)] ∧ Z.Warmed39 U_.vm ∧ U_.heap = h0) (fun _ _ _ _ _ => True) (fun _ U_ o_ V_ => ∃ v_ L_, o_ = .returned v_ ∧ own_s30_Q Z a10 f340 v326 a35 a29 f121 f167 f225 v8 v2 h0 n0 v_ V_.heap L_ ∧ FrameEnd U_ o_ V_ L_ ({ frames := 0, cells := 0, slots := 0, locals := 0 } : Room).cells ({ frames := 0, cells := 0, slots := 0, locals := 0 } : Room).slots) := by
  refine own_met (y := ⟨"com/example/rankline/rankline/Buckets", "halvesMeetCountFloor", "(IDJ)Z"⟩) (Q := own_s30_Q Z a10 f340 v326 a35 a29 f121 f167 f225 v8 v2 h0 n0) own_pn1 ?_
  intro p e s m below meth c s₁ hx hby hml hZ hown hnm hret hlk X0 e0
  have N0 := Fr.nil n0
  refine own_cast (g' := (mkF m 0 #[.val (.ref a10), .val (.int (1 : Int32)), .val (.double f340), .second, .val (.long v326), .second, .unset, .unset] [])) (by first | (simp [entryFrame, mkF, argsToLocals, Value.category]; done) | rfl) ?_
  generalize hL1 : (#[.val (.ref a10), .val (.int (1 : Int32)), .val (.double f340), .second, .val (.long v326), .second, .unset, .unset] : Array Slot) = L1
  refine own_ldcd X0 hx hZ hown (own_w hw 111 rfl) (hb hby d12_0) ?_
  show own_Go _ _ _ _ _ _ _ s₁ (mkF m 3 L1 [(.double (4487126258331716666 : UInt64))])
  refine own_pre (T' := s₁) (g' := (mkF m 5 L1 [(.long v326), (.double (4487126258331716666 : UInt64))])) (fun t k => XT.lload X0.here hx rfl (v := v326) (hb hby d12_3) (by rw [← hL1]; rfl) k) ?_
  obtain ⟨f2, hf2⟩ : ∃ z, FP.l2d v326 = z := ⟨_, rfl⟩
  refine own_pre (T' := s₁) (g' := (mkF m 6 L1 [(.double f2), (.double (4487126258331716666 : UInt64))])) (fun t k => XS.l2dS X0.here hx rfl (hb hby d12_5) rfl hf2 k) ?_
  have Df2 : FP.Core.DInt v326.toInt f2 := hf2 ▸ FP.Core.l2d_int (by omega)
  obtain ⟨f3, hf3⟩ : ∃ z, FP.dmul (4487126258331716666 : UInt64) f2 = z := ⟨_, rfl⟩
  have Df3 : FP.Core.val64 f3 ≠ .nan ∧ 0 < FP.Core.zval FP.Core.b64 (FP.Core.val64 f3) ∧ 2 * FP.Core.zval FP.Core.b64 (FP.Core.val64 f3) < (FP.Core.one64 : Int) := hf3 ▸ own_fl2 Df2 H138.1 H138.2
  have nnf3 : Jvm.Free.Fl.NoNaN64 f3 := Jvm.Free.Fl.val64_no.mpr Df3.1
  refine own_pre (T' := s₁) (g' := (mkF m 7 L1 [(.double f3)])) (fun t k => XS.dmulS X0.here hx rfl (hb hby d12_6) rfl (by rw [hf3]; exact nnf3) hf3 k) ?_
  refine own_pre (T' := s₁) (g' := (mkF m 9 #[.val (.ref a10), .val (.int (1 : Int32)), .val (.double f340), .second, .val (.long v326), .second, .val (.double f3), .second] [])) (fun t k => XS.dstore X0.here hx rfl (hb hby d12_7) rfl (l' := #[.val (.ref a10), .val (.int (1 : Int32)), .val (.double f340), .second, .val (.long v326), .second, .val (.double f3), .second]) (by rw [← hL1]; rfl) k) ?_
  generalize hL4 : (#[.val (.ref a10), .val (.int (1 : Int32)), .val (.double f340), .second, .val (.long v326), .second, .val (.double f3), .second] : Array Slot) = L4
  refine own_pre (T' := s₁) (g' := (mkF m 10 L4 [(.double f340)])) (fun t k => XS.dloadN X0.here hx rfl (v := f340) (hb hby d12_9) (by rw [← hL4]; rfl) k) ?_
  refine own_pre (T' := s₁) (g' := (mkF m 11 L4 [(.ref a10), (.double f340)])) (fun t k => XS.aloadN X0.here hx rfl (v := (.ref a10)) (hb hby d12_10) (by rw [← hL4]; rfl) rfl k) ?_
  refine own_getf X0 hx hZ hown (own_w hw 15 rfl) e0 H34 (hb hby d12_11) ?_
  intro T5 X5 e5
  show own_Go _ _ _ _ _ _ _ T5 (mkF m 14 L4 [(.ref a29), (.double f340)])
  refine own_pre (T' := T5) (g' := (mkF m 15 L4 [(.ref a10), (.ref a29), (.double f340)])) (fun t k => XS.aloadN X5.here hx rfl (v := (.ref a10)) (hb hby d12_14) (by rw [← hL4]; rfl) rfl k) ?_
  refine own_getf X5 hx hZ hown (own_w hw 32 rfl) e5 H40 (hb hby d12_15) ?_
  intro T6 X6 e6
  show own_Go _ _ _ _ _ _ _ T6 (mkF m 18 L4 [(.ref a35), (.ref a29), (.double f340)])
  refine own_pre (T' := T6) (g' := (mkF m 19 L4 [(.int (1 : Int32)), (.ref a35), (.ref a29), (.double f340)])) (fun t k => XS.iloadN X6.here hx rfl (v := (1 : Int32)) (hb hby d12_18) (by rw [← hL4]; rfl) k) ?_
  refine own_iaload X6 hx hZ e6 H25 (hb hby d12_19) (n := 1) (v := (.int (0 : Int32))) (by decide) (by decide) rfl ?_
  show own_Go _ _ _ _ _ _ _ T6 (mkF m 20 L4 [(.int (0 : Int32)), (.ref a29), (.double f340)])
  refine own_daload X6 hx hZ e6 H31 (hb hby d12_20) (n := 0) (v := (.double f121)) (by decide) (by decide) rfl ?_
  show own_Go _ _ _ _ _ _ _ T6 (mkF m 21 L4 [(.double f121), (.double f340)])
  obtain ⟨f7, hf7⟩ : ∃ z, FP.dsub f340 f121 = z := ⟨_, rfl⟩
  have Df7 : FP.Core.own_H (v8.toInt - v2.toInt) f7 := hf7 ▸ FP.Core.own_H_sub H132 H133 (by have := rng32 v8; have := rng32 v2; omega)
  refine own_pre (T' := T6) (g' := (mkF m 22 L4 [(.double f7)])) (fun t k => XS.dsubS X6.here hx rfl (hb hby d12_21) rfl (by rw [hf7]; exact Jvm.Free.Fl.val64_no.mpr Df7.nn) hf7 k) ?_
  refine own_pre (T' := T6) (g' := (mkF m 24 L4 [(.double f3), (.double f7)])) (fun t k => XS.dload X6.here hx rfl (v := f3) (hb hby d12_22) (by rw [← hL4]; rfl) k) ?_
  obtain ⟨k8, hk8⟩ : ∃ z, own_c (FP.Core.zval FP.Core.b64 (FP.Core.val64 f7)) (FP.Core.zval FP.Core.b64 (FP.Core.val64 f3)) = z := ⟨_, rfl⟩
  refine own_pre (T' := T6) (g' := (mkF m 25 L4 [(.int k8)])) (fun t k => XS.dcmpS X6.here hx rfl (hb hby d12_24) rfl ((own_dcmpz (Jvm.Free.Fl.val64_no.mpr Df7.nn) nnf3 _).trans hk8) k) ?_
  have clo : k8 < (0 : Int32) := by rw [← hk8, own_c_lt, (own_cmpn Df7 Df3.2)]; exact H139
  refine own_pre (T' := T6) (g' := (mkF m 46 L4 [])) (fun t k => XS.ifYes X6.here hx rfl (pc0 := 25) (pc' := 46) rfl (hb hby d12_25) rfl ((if0 _ _).trans (tlt clo).1) (by decide) (by decide) k) ?_
  refine own_pre (T' := T6) (g' := (mkF m 47 L4 [(.int (0 : Int32))])) (fun t k => XS.iconst X6.here hx rfl (hb hby d12_46) k) ?_
  exact own_retZ X6 hx hlk hret rfl (hb hby d12_47) e6 ⟨rfl, N0, rfl⟩ (by decide) (by decide)
def own_s31_Q (Z : State) (a10 : Addr) (f350 : UInt64) (v346 : Int64) (a35 : Addr) (a29 : Addr) (f121 : UInt64) (f167 : UInt64) (f225 : UInt64) (v8 : Int32) (v2 : Int32) (v344 : Int64) (h0 : Heap) (n0 : Nat) (v_ : Option Value) (h_ : Heap) (L_ : List Loc) : Prop := (fun v h L => v = some (.int (0 : Int32)) ∧ Fr n0 L ∧ h = h0) v_ h_ L_
set_option maxRecDepth 65536 in
set_option maxHeartbeats 40000000 in
theorem own_s31 (l : Launch) (Z : State) (a0 : Array Value) (hw : ∀ d ∈ tables_1, d.before a0 Z = true) (wds : List Jvm.Cond) (a10 : Addr) (f350 : UInt64) (v346 : Int64) (a35 : Addr) (a29 : Addr) (f121 : UInt64) (f167 : UInt64) (f225 : UInt64) (v8 : Int32) (v2 : Int32) (v344 : Int64) (h0 : Heap) (n0 : Nat) (Z0 : n0 ≤ h0.size) (H25 : own_Ary Z h0 a35 .int [(.int (-1 : Int32)), (.int (0 : Int32)), (.int (1 : Int32)), (.int (0 : Int32)), (.int (0 : Int32)), (.int (0 : Int32)), (.int (0 : Int32)), (.int (0 : Int32)), (.int (0 : Int32)), (.int (0 : Int32)), (.int (0 : Int32)), (.int (0 : Int32)), (.int (0 : Int32)), (.int (0 : Int32)), (.int (0 : Int32)), (.int (0 : Int32))]) (H31 : own_Ary Z h0 a29 .double [(.double f121), (.double f167), (.double f225), (.double (0 : UInt64)), (.double (0 : UInt64)), (.double (0 : UInt64)), (.double (0 : UInt64)), (.double (0 : UInt64)), (.double (0 : UInt64)), (.double (0 : UInt64)), (.double (0 : UInt64)), (.double (0 : UInt64)), (.double (0 : UInt64)), (.double (0 : UInt64)), (.double (0 : UInt64)), (.double (0 : UInt64))]) (H34 : Fld Z h0 a10 "com/example/rankline/rankline/Buckets" "ranks" "[D" (.ref a29)) (H40 : Fld Z h0 a10 "com/example/rankline/rankline/Buckets" "previousOf" "[I" (.ref a35)) (H132 : FP.Core.own_H v8.toInt f350) (H133 : FP.Core.own_H v2.toInt f121) (H138 : v346.toInt = v344.toInt * 100000000 ∧ 0 ≤ v344.toInt ∧ v344.toInt < 524288) (H139 : v8.toInt - v2.toInt < 2 * v344.toInt) :
    MetFree l (⟨"com/example/rankline/rankline/Buckets", "halvesMeetCountFloor", "(IDJ)Z"⟩ : MethodName) (head1 (Jvm.Cond.code (⟨"com/example/rankline/rankline/Buckets", "halvesMeetCountFloor", "(IDJ)Z"⟩ : MethodName) prog_5_method_43_code 8 (some .boolean) :: wds) ({ frames := 0, cells := 0, slots := 0, locals := 0 } : Room)) (fun ar_ U_ => ar_ = #[(.ref a10), (.int (1 : Int32)), (.double f350), (.long v346)] ∧ Z.Warmed39 U_.vm ∧ U_.heap = h0) (fun _ _ _ _ _ => True) (fun _ U_ o_ V_ => ∃ v_ L_, o_ = .returned v_ ∧ own_s31_Q Z a10 f350 v346 a35 a29 f121 f167 f225 v8 v2 v344 h0 n0 v_ V_.heap L_ ∧ FrameEnd U_ o_ V_ L_ ({ frames := 0, cells := 0, slots := 0, locals := 0 } : Room).cells ({ frames := 0, cells := 0, slots := 0, locals := 0 } : Room).slots) := by
  refine own_met (y := ⟨"com/example/rankline/rankline/Buckets", "halvesMeetCountFloor", "(IDJ)Z"⟩) (Q := own_s31_Q Z a10 f350 v346 a35 a29 f121 f167 f225 v8 v2 v344 h0 n0) own_pn1 ?_
  intro p e s m below meth c s₁ hx hby hml hZ hown hnm hret hlk X0 e0
  have N0 := Fr.nil n0
  refine own_cast (g' := (mkF m 0 #[.val (.ref a10), .val (.int (1 : Int32)), .val (.double f350), .second, .val (.long v346), .second, .unset, .unset] [])) (by first | (simp [entryFrame, mkF, argsToLocals, Value.category]; done) | rfl) ?_
  generalize hL1 : (#[.val (.ref a10), .val (.int (1 : Int32)), .val (.double f350), .second, .val (.long v346), .second, .unset, .unset] : Array Slot) = L1
  refine own_ldcd X0 hx hZ hown (own_w hw 111 rfl) (hb hby d12_0) ?_
  show own_Go _ _ _ _ _ _ _ s₁ (mkF m 3 L1 [(.double (4487126258331716666 : UInt64))])
  refine own_pre (T' := s₁) (g' := (mkF m 5 L1 [(.long v346), (.double (4487126258331716666 : UInt64))])) (fun t k => XT.lload X0.here hx rfl (v := v346) (hb hby d12_3) (by rw [← hL1]; rfl) k) ?_
  obtain ⟨f2, hf2⟩ : ∃ z, FP.l2d v346 = z := ⟨_, rfl⟩
  refine own_pre (T' := s₁) (g' := (mkF m 6 L1 [(.double f2), (.double (4487126258331716666 : UInt64))])) (fun t k => XS.l2dS X0.here hx rfl (hb hby d12_5) rfl hf2 k) ?_
  have Df2 : FP.Core.DInt v346.toInt f2 := hf2 ▸ FP.Core.l2d_int (by omega)
  obtain ⟨f3, hf3⟩ : ∃ z, FP.dmul (4487126258331716666 : UInt64) f2 = z := ⟨_, rfl⟩
  have Df3 : FP.Core.DInt v344.toInt f3 := hf3 ▸ own_fl Df2 H138.1 H138.2.1 H138.2.2
  have nnf3 : Jvm.Free.Fl.NoNaN64 f3 := own_DInt_nn Df3
  refine own_pre (T' := s₁) (g' := (mkF m 7 L1 [(.double f3)])) (fun t k => XS.dmulS X0.here hx rfl (hb hby d12_6) rfl (by rw [hf3]; exact nnf3) hf3 k) ?_
  refine own_pre (T' := s₁) (g' := (mkF m 9 #[.val (.ref a10), .val (.int (1 : Int32)), .val (.double f350), .second, .val (.long v346), .second, .val (.double f3), .second] [])) (fun t k => XS.dstore X0.here hx rfl (hb hby d12_7) rfl (l' := #[.val (.ref a10), .val (.int (1 : Int32)), .val (.double f350), .second, .val (.long v346), .second, .val (.double f3), .second]) (by rw [← hL1]; rfl) k) ?_
  generalize hL4 : (#[.val (.ref a10), .val (.int (1 : Int32)), .val (.double f350), .second, .val (.long v346), .second, .val (.double f3), .second] : Array Slot) = L4
  refine own_pre (T' := s₁) (g' := (mkF m 10 L4 [(.double f350)])) (fun t k => XS.dloadN X0.here hx rfl (v := f350) (hb hby d12_9) (by rw [← hL4]; rfl) k) ?_
  refine own_pre (T' := s₁) (g' := (mkF m 11 L4 [(.ref a10), (.double f350)])) (fun t k => XS.aloadN X0.here hx rfl (v := (.ref a10)) (hb hby d12_10) (by rw [← hL4]; rfl) rfl k) ?_
  refine own_getf X0 hx hZ hown (own_w hw 15 rfl) e0 H34 (hb hby d12_11) ?_
  intro T5 X5 e5
  show own_Go _ _ _ _ _ _ _ T5 (mkF m 14 L4 [(.ref a29), (.double f350)])
  refine own_pre (T' := T5) (g' := (mkF m 15 L4 [(.ref a10), (.ref a29), (.double f350)])) (fun t k => XS.aloadN X5.here hx rfl (v := (.ref a10)) (hb hby d12_14) (by rw [← hL4]; rfl) rfl k) ?_
  refine own_getf X5 hx hZ hown (own_w hw 32 rfl) e5 H40 (hb hby d12_15) ?_
  intro T6 X6 e6
  show own_Go _ _ _ _ _ _ _ T6 (mkF m 18 L4 [(.ref a35), (.ref a29), (.double f350)])
  refine own_pre (T' := T6) (g' := (mkF m 19 L4 [(.int (1 : Int32)), (.ref a35), (.ref a29), (.double f350)])) (fun t k => XS.iloadN X6.here hx rfl (v := (1 : Int32)) (hb hby d12_18) (by rw [← hL4]; rfl) k) ?_
  refine own_iaload X6 hx hZ e6 H25 (hb hby d12_19) (n := 1) (v := (.int (0 : Int32))) (by decide) (by decide) rfl ?_
  show own_Go _ _ _ _ _ _ _ T6 (mkF m 20 L4 [(.int (0 : Int32)), (.ref a29), (.double f350)])
  refine own_daload X6 hx hZ e6 H31 (hb hby d12_20) (n := 0) (v := (.double f121)) (by decide) (by decide) rfl ?_
  show own_Go _ _ _ _ _ _ _ T6 (mkF m 21 L4 [(.double f121), (.double f350)])
  obtain ⟨f7, hf7⟩ : ∃ z, FP.dsub f350 f121 = z := ⟨_, rfl⟩
  have Df7 : FP.Core.own_H (v8.toInt - v2.toInt) f7 := hf7 ▸ FP.Core.own_H_sub H132 H133 (by have := rng32 v8; have := rng32 v2; omega)
  refine own_pre (T' := T6) (g' := (mkF m 22 L4 [(.double f7)])) (fun t k => XS.dsubS X6.here hx rfl (hb hby d12_21) rfl (by rw [hf7]; exact Jvm.Free.Fl.val64_no.mpr Df7.nn) hf7 k) ?_
  refine own_pre (T' := T6) (g' := (mkF m 24 L4 [(.double f3), (.double f7)])) (fun t k => XS.dload X6.here hx rfl (v := f3) (hb hby d12_22) (by rw [← hL4]; rfl) k) ?_
  obtain ⟨k8, hk8⟩ : ∃ z, own_c (FP.Core.zval FP.Core.b64 (FP.Core.val64 f7)) (FP.Core.zval FP.Core.b64 (FP.Core.val64 f3)) = z := ⟨_, rfl⟩
  refine own_pre (T' := T6) (g' := (mkF m 25 L4 [(.int k8)])) (fun t k => XS.dcmpS X6.here hx rfl (hb hby d12_24) rfl ((own_dcmpz (Jvm.Free.Fl.val64_no.mpr Df7.nn) nnf3 _).trans hk8) k) ?_
  have clo : k8 < (0 : Int32) := by rw [← hk8, own_c_lt, (own_cmpw Df7 Df3)]; exact H139
  refine own_pre (T' := T6) (g' := (mkF m 46 L4 [])) (fun t k => XS.ifYes X6.here hx rfl (pc0 := 25) (pc' := 46) rfl (hb hby d12_25) rfl ((if0 _ _).trans (tlt clo).1) (by decide) (by decide) k) ?_
  refine own_pre (T' := T6) (g' := (mkF m 47 L4 [(.int (0 : Int32))])) (fun t k => XS.iconst X6.here hx rfl (hb hby d12_46) k) ?_
  exact own_retZ X6 hx hlk hret rfl (hb hby d12_47) e6 ⟨rfl, N0, rfl⟩ (by decide) (by decide)
def own_s32_Q (Z : State) (a10 : Addr) (f355 : UInt64) (v346 : Int64) (a35 : Addr) (a29 : Addr) (f121 : UInt64) (f167 : UInt64) (f225 : UInt64) (v8 : Int32) (v2 : Int32) (v4 : Int32) (v344 : Int64) (h0 : Heap) (n0 : Nat) (v_ : Option Value) (h_ : Heap) (L_ : List Loc) : Prop := (fun v h L => v = some (.int (0 : Int32)) ∧ Fr n0 L ∧ h = h0) v_ h_ L_
set_option maxRecDepth 65536 in
set_option maxHeartbeats 40000000 in
theorem own_s32 (l : Launch) (Z : State) (a0 : Array Value) (hw : ∀ d ∈ tables_1, d.before a0 Z = true) (wds : List Jvm.Cond) (a10 : Addr) (f355 : UInt64) (v346 : Int64) (a35 : Addr) (a29 : Addr) (f121 : UInt64) (f167 : UInt64) (f225 : UInt64) (v8 : Int32) (v2 : Int32) (v4 : Int32) (v344 : Int64) (h0 : Heap) (n0 : Nat) (Z0 : n0 ≤ h0.size) (H25 : own_Ary Z h0 a35 .int [(.int (-1 : Int32)), (.int (0 : Int32)), (.int (1 : Int32)), (.int (0 : Int32)), (.int (0 : Int32)), (.int (0 : Int32)), (.int (0 : Int32)), (.int (0 : Int32)), (.int (0 : Int32)), (.int (0 : Int32)), (.int (0 : Int32)), (.int (0 : Int32)), (.int (0 : Int32)), (.int (0 : Int32)), (.int (0 : Int32)), (.int (0 : Int32))]) (H31 : own_Ary Z h0 a29 .double [(.double f121), (.double f167), (.double f225), (.double (0 : UInt64)), (.double (0 : UInt64)), (.double (0 : UInt64)), (.double (0 : UInt64)), (.double (0 : UInt64)), (.double (0 : UInt64)), (.double (0 : UInt64)), (.double (0 : UInt64)), (.double (0 : UInt64)), (.double (0 : UInt64)), (.double (0 : UInt64)), (.double (0 : UInt64)), (.double (0 : UInt64))]) (H34 : Fld Z h0 a10 "com/example/rankline/rankline/Buckets" "ranks" "[D" (.ref a29)) (H40 : Fld Z h0 a10 "com/example/rankline/rankline/Buckets" "previousOf" "[I" (.ref a35)) (H132 : FP.Core.own_H v8.toInt f355) (H133 : FP.Core.own_H v2.toInt f121) (H135 : FP.Core.own_H v4.toInt f167) (H138 : v346.toInt = v344.toInt * 100000000 ∧ 0 ≤ v344.toInt ∧ v344.toInt < 524288) (H139 : ¬ (v8.toInt - v2.toInt < 2 * v344.toInt)) (H140 : v4.toInt - v8.toInt < 2 * v344.toInt) :
    MetFree l (⟨"com/example/rankline/rankline/Buckets", "halvesMeetCountFloor", "(IDJ)Z"⟩ : MethodName) (head1 (Jvm.Cond.code (⟨"com/example/rankline/rankline/Buckets", "halvesMeetCountFloor", "(IDJ)Z"⟩ : MethodName) prog_5_method_43_code 8 (some .boolean) :: wds) ({ frames := 0, cells := 0, slots := 0, locals := 0 } : Room)) (fun ar_ U_ => ar_ = #[(.ref a10), (.int (1 : Int32)), (.double f355), (.long v346)] ∧ Z.Warmed39 U_.vm ∧ U_.heap = h0) (fun _ _ _ _ _ => True) (fun _ U_ o_ V_ => ∃ v_ L_, o_ = .returned v_ ∧ own_s32_Q Z a10 f355 v346 a35 a29 f121 f167 f225 v8 v2 v4 v344 h0 n0 v_ V_.heap L_ ∧ FrameEnd U_ o_ V_ L_ ({ frames := 0, cells := 0, slots := 0, locals := 0 } : Room).cells ({ frames := 0, cells := 0, slots := 0, locals := 0 } : Room).slots) := by
  refine own_met (y := ⟨"com/example/rankline/rankline/Buckets", "halvesMeetCountFloor", "(IDJ)Z"⟩) (Q := own_s32_Q Z a10 f355 v346 a35 a29 f121 f167 f225 v8 v2 v4 v344 h0 n0) own_pn1 ?_
  intro p e s m below meth c s₁ hx hby hml hZ hown hnm hret hlk X0 e0
  have N0 := Fr.nil n0
  refine own_cast (g' := (mkF m 0 #[.val (.ref a10), .val (.int (1 : Int32)), .val (.double f355), .second, .val (.long v346), .second, .unset, .unset] [])) (by first | (simp [entryFrame, mkF, argsToLocals, Value.category]; done) | rfl) ?_
  generalize hL1 : (#[.val (.ref a10), .val (.int (1 : Int32)), .val (.double f355), .second, .val (.long v346), .second, .unset, .unset] : Array Slot) = L1
  refine own_ldcd X0 hx hZ hown (own_w hw 111 rfl) (hb hby d12_0) ?_
  show own_Go _ _ _ _ _ _ _ s₁ (mkF m 3 L1 [(.double (4487126258331716666 : UInt64))])
  refine own_pre (T' := s₁) (g' := (mkF m 5 L1 [(.long v346), (.double (4487126258331716666 : UInt64))])) (fun t k => XT.lload X0.here hx rfl (v := v346) (hb hby d12_3) (by rw [← hL1]; rfl) k) ?_
  obtain ⟨f2, hf2⟩ : ∃ z, FP.l2d v346 = z := ⟨_, rfl⟩
  refine own_pre (T' := s₁) (g' := (mkF m 6 L1 [(.double f2), (.double (4487126258331716666 : UInt64))])) (fun t k => XS.l2dS X0.here hx rfl (hb hby d12_5) rfl hf2 k) ?_
  have Df2 : FP.Core.DInt v346.toInt f2 := hf2 ▸ FP.Core.l2d_int (by omega)
  obtain ⟨f3, hf3⟩ : ∃ z, FP.dmul (4487126258331716666 : UInt64) f2 = z := ⟨_, rfl⟩
  have Df3 : FP.Core.DInt v344.toInt f3 := hf3 ▸ own_fl Df2 H138.1 H138.2.1 H138.2.2
  have nnf3 : Jvm.Free.Fl.NoNaN64 f3 := own_DInt_nn Df3
  refine own_pre (T' := s₁) (g' := (mkF m 7 L1 [(.double f3)])) (fun t k => XS.dmulS X0.here hx rfl (hb hby d12_6) rfl (by rw [hf3]; exact nnf3) hf3 k) ?_
  refine own_pre (T' := s₁) (g' := (mkF m 9 #[.val (.ref a10), .val (.int (1 : Int32)), .val (.double f355), .second, .val (.long v346), .second, .val (.double f3), .second] [])) (fun t k => XS.dstore X0.here hx rfl (hb hby d12_7) rfl (l' := #[.val (.ref a10), .val (.int (1 : Int32)), .val (.double f355), .second, .val (.long v346), .second, .val (.double f3), .second]) (by rw [← hL1]; rfl) k) ?_
  generalize hL4 : (#[.val (.ref a10), .val (.int (1 : Int32)), .val (.double f355), .second, .val (.long v346), .second, .val (.double f3), .second] : Array Slot) = L4
  refine own_pre (T' := s₁) (g' := (mkF m 10 L4 [(.double f355)])) (fun t k => XS.dloadN X0.here hx rfl (v := f355) (hb hby d12_9) (by rw [← hL4]; rfl) k) ?_
  refine own_pre (T' := s₁) (g' := (mkF m 11 L4 [(.ref a10), (.double f355)])) (fun t k => XS.aloadN X0.here hx rfl (v := (.ref a10)) (hb hby d12_10) (by rw [← hL4]; rfl) rfl k) ?_
  refine own_getf X0 hx hZ hown (own_w hw 15 rfl) e0 H34 (hb hby d12_11) ?_
  intro T5 X5 e5
  show own_Go _ _ _ _ _ _ _ T5 (mkF m 14 L4 [(.ref a29), (.double f355)])
  refine own_pre (T' := T5) (g' := (mkF m 15 L4 [(.ref a10), (.ref a29), (.double f355)])) (fun t k => XS.aloadN X5.here hx rfl (v := (.ref a10)) (hb hby d12_14) (by rw [← hL4]; rfl) rfl k) ?_
  refine own_getf X5 hx hZ hown (own_w hw 32 rfl) e5 H40 (hb hby d12_15) ?_
  intro T6 X6 e6
  show own_Go _ _ _ _ _ _ _ T6 (mkF m 18 L4 [(.ref a35), (.ref a29), (.double f355)])
  refine own_pre (T' := T6) (g' := (mkF m 19 L4 [(.int (1 : Int32)), (.ref a35), (.ref a29), (.double f355)])) (fun t k => XS.iloadN X6.here hx rfl (v := (1 : Int32)) (hb hby d12_18) (by rw [← hL4]; rfl) k) ?_
  refine own_iaload X6 hx hZ e6 H25 (hb hby d12_19) (n := 1) (v := (.int (0 : Int32))) (by decide) (by decide) rfl ?_
  show own_Go _ _ _ _ _ _ _ T6 (mkF m 20 L4 [(.int (0 : Int32)), (.ref a29), (.double f355)])
  refine own_daload X6 hx hZ e6 H31 (hb hby d12_20) (n := 0) (v := (.double f121)) (by decide) (by decide) rfl ?_
  show own_Go _ _ _ _ _ _ _ T6 (mkF m 21 L4 [(.double f121), (.double f355)])
  obtain ⟨f7, hf7⟩ : ∃ z, FP.dsub f355 f121 = z := ⟨_, rfl⟩
  have Df7 : FP.Core.own_H (v8.toInt - v2.toInt) f7 := hf7 ▸ FP.Core.own_H_sub H132 H133 (by have := rng32 v8; have := rng32 v2; omega)
  refine own_pre (T' := T6) (g' := (mkF m 22 L4 [(.double f7)])) (fun t k => XS.dsubS X6.here hx rfl (hb hby d12_21) rfl (by rw [hf7]; exact Jvm.Free.Fl.val64_no.mpr Df7.nn) hf7 k) ?_
  refine own_pre (T' := T6) (g' := (mkF m 24 L4 [(.double f3), (.double f7)])) (fun t k => XS.dload X6.here hx rfl (v := f3) (hb hby d12_22) (by rw [← hL4]; rfl) k) ?_
  obtain ⟨k8, hk8⟩ : ∃ z, own_c (FP.Core.zval FP.Core.b64 (FP.Core.val64 f7)) (FP.Core.zval FP.Core.b64 (FP.Core.val64 f3)) = z := ⟨_, rfl⟩
  refine own_pre (T' := T6) (g' := (mkF m 25 L4 [(.int k8)])) (fun t k => XS.dcmpS X6.here hx rfl (hb hby d12_24) rfl ((own_dcmpz (Jvm.Free.Fl.val64_no.mpr Df7.nn) nnf3 _).trans hk8) k) ?_
  have clo : ¬ k8 < (0 : Int32) := by rw [← hk8, own_c_lt, (own_cmpw Df7 Df3)]; exact H139
  refine own_pre (T' := T6) (g' := (mkF m 28 L4 [])) (fun t k => XS.ifNo X6.here hx rfl (hb hby d12_25) rfl ((if0 _ _).trans (flt clo).1) k) ?_
  refine own_pre (T' := T6) (g' := (mkF m 29 L4 [(.ref a10)])) (fun t k => XS.aloadN X6.here hx rfl (v := (.ref a10)) (hb hby d12_28) (by rw [← hL4]; rfl) rfl k) ?_
  refine own_getf X6 hx hZ hown (own_w hw 15 rfl) e6 H34 (hb hby d12_29) ?_
  intro T9 X9 e9
  show own_Go _ _ _ _ _ _ _ T9 (mkF m 32 L4 [(.ref a29)])
  refine own_pre (T' := T9) (g' := (mkF m 33 L4 [(.int (1 : Int32)), (.ref a29)])) (fun t k => XS.iloadN X9.here hx rfl (v := (1 : Int32)) (hb hby d12_32) (by rw [← hL4]; rfl) k) ?_
  refine own_daload X9 hx hZ e9 H31 (hb hby d12_33) (n := 1) (v := (.double f167)) (by decide) (by decide) rfl ?_
  show own_Go _ _ _ _ _ _ _ T9 (mkF m 34 L4 [(.double f167)])
  refine own_pre (T' := T9) (g' := (mkF m 35 L4 [(.double f355), (.double f167)])) (fun t k => XS.dloadN X9.here hx rfl (v := f355) (hb hby d12_34) (by rw [← hL4]; rfl) k) ?_
  obtain ⟨f10, hf10⟩ : ∃ z, FP.dsub f167 f355 = z := ⟨_, rfl⟩
  have Df10 : FP.Core.own_H (v4.toInt - v8.toInt) f10 := hf10 ▸ FP.Core.own_H_sub H135 H132 (by have := rng32 v4; have := rng32 v8; omega)
  refine own_pre (T' := T9) (g' := (mkF m 36 L4 [(.double f10)])) (fun t k => XS.dsubS X9.here hx rfl (hb hby d12_35) rfl (by rw [hf10]; exact Jvm.Free.Fl.val64_no.mpr Df10.nn) hf10 k) ?_
  refine own_pre (T' := T9) (g' := (mkF m 38 L4 [(.double f3), (.double f10)])) (fun t k => XS.dload X9.here hx rfl (v := f3) (hb hby d12_36) (by rw [← hL4]; rfl) k) ?_
  obtain ⟨k11, hk11⟩ : ∃ z, own_c (FP.Core.zval FP.Core.b64 (FP.Core.val64 f10)) (FP.Core.zval FP.Core.b64 (FP.Core.val64 f3)) = z := ⟨_, rfl⟩
  refine own_pre (T' := T9) (g' := (mkF m 39 L4 [(.int k11)])) (fun t k => XS.dcmpS X9.here hx rfl (hb hby d12_38) rfl ((own_dcmpz (Jvm.Free.Fl.val64_no.mpr Df10.nn) nnf3 _).trans hk11) k) ?_
  have chi : k11 < (0 : Int32) := by rw [← hk11, own_c_lt, (own_cmpw Df10 Df3)]; exact H140
  refine own_pre (T' := T9) (g' := (mkF m 46 L4 [])) (fun t k => XS.ifYes X9.here hx rfl (pc0 := 39) (pc' := 46) rfl (hb hby d12_39) rfl ((if0 _ _).trans (tlt chi).1) (by decide) (by decide) k) ?_
  refine own_pre (T' := T9) (g' := (mkF m 47 L4 [(.int (0 : Int32))])) (fun t k => XS.iconst X9.here hx rfl (hb hby d12_46) k) ?_
  exact own_retZ X9 hx hlk hret rfl (hb hby d12_47) e9 ⟨rfl, N0, rfl⟩ (by decide) (by decide)
def own_s33_Q (Z : State) (a10 : Addr) (f360 : UInt64) (v346 : Int64) (a35 : Addr) (a29 : Addr) (f121 : UInt64) (f167 : UInt64) (f225 : UInt64) (v8 : Int32) (v2 : Int32) (v4 : Int32) (v344 : Int64) (h0 : Heap) (n0 : Nat) (v_ : Option Value) (h_ : Heap) (L_ : List Loc) : Prop := (fun v h L => v = some (.int (1 : Int32)) ∧ Fr n0 L ∧ h = h0) v_ h_ L_
set_option maxRecDepth 65536 in
set_option maxHeartbeats 40000000 in
theorem own_s33 (l : Launch) (Z : State) (a0 : Array Value) (hw : ∀ d ∈ tables_1, d.before a0 Z = true) (wds : List Jvm.Cond) (a10 : Addr) (f360 : UInt64) (v346 : Int64) (a35 : Addr) (a29 : Addr) (f121 : UInt64) (f167 : UInt64) (f225 : UInt64) (v8 : Int32) (v2 : Int32) (v4 : Int32) (v344 : Int64) (h0 : Heap) (n0 : Nat) (Z0 : n0 ≤ h0.size) (H25 : own_Ary Z h0 a35 .int [(.int (-1 : Int32)), (.int (0 : Int32)), (.int (1 : Int32)), (.int (0 : Int32)), (.int (0 : Int32)), (.int (0 : Int32)), (.int (0 : Int32)), (.int (0 : Int32)), (.int (0 : Int32)), (.int (0 : Int32)), (.int (0 : Int32)), (.int (0 : Int32)), (.int (0 : Int32)), (.int (0 : Int32)), (.int (0 : Int32)), (.int (0 : Int32))]) (H31 : own_Ary Z h0 a29 .double [(.double f121), (.double f167), (.double f225), (.double (0 : UInt64)), (.double (0 : UInt64)), (.double (0 : UInt64)), (.double (0 : UInt64)), (.double (0 : UInt64)), (.double (0 : UInt64)), (.double (0 : UInt64)), (.double (0 : UInt64)), (.double (0 : UInt64)), (.double (0 : UInt64)), (.double (0 : UInt64)), (.double (0 : UInt64)), (.double (0 : UInt64))]) (H34 : Fld Z h0 a10 "com/example/rankline/rankline/Buckets" "ranks" "[D" (.ref a29)) (H40 : Fld Z h0 a10 "com/example/rankline/rankline/Buckets" "previousOf" "[I" (.ref a35)) (H132 : FP.Core.own_H v8.toInt f360) (H133 : FP.Core.own_H v2.toInt f121) (H135 : FP.Core.own_H v4.toInt f167) (H138 : v346.toInt = v344.toInt * 100000000 ∧ 0 ≤ v344.toInt ∧ v344.toInt < 524288) (H139 : ¬ (v8.toInt - v2.toInt < 2 * v344.toInt)) (H140 : ¬ (v4.toInt - v8.toInt < 2 * v344.toInt)) :
    MetFree l (⟨"com/example/rankline/rankline/Buckets", "halvesMeetCountFloor", "(IDJ)Z"⟩ : MethodName) (head1 (Jvm.Cond.code (⟨"com/example/rankline/rankline/Buckets", "halvesMeetCountFloor", "(IDJ)Z"⟩ : MethodName) prog_5_method_43_code 8 (some .boolean) :: wds) ({ frames := 0, cells := 0, slots := 0, locals := 0 } : Room)) (fun ar_ U_ => ar_ = #[(.ref a10), (.int (1 : Int32)), (.double f360), (.long v346)] ∧ Z.Warmed39 U_.vm ∧ U_.heap = h0) (fun _ _ _ _ _ => True) (fun _ U_ o_ V_ => ∃ v_ L_, o_ = .returned v_ ∧ own_s33_Q Z a10 f360 v346 a35 a29 f121 f167 f225 v8 v2 v4 v344 h0 n0 v_ V_.heap L_ ∧ FrameEnd U_ o_ V_ L_ ({ frames := 0, cells := 0, slots := 0, locals := 0 } : Room).cells ({ frames := 0, cells := 0, slots := 0, locals := 0 } : Room).slots) := by
  refine own_met (y := ⟨"com/example/rankline/rankline/Buckets", "halvesMeetCountFloor", "(IDJ)Z"⟩) (Q := own_s33_Q Z a10 f360 v346 a35 a29 f121 f167 f225 v8 v2 v4 v344 h0 n0) own_pn1 ?_
  intro p e s m below meth c s₁ hx hby hml hZ hown hnm hret hlk X0 e0
  have N0 := Fr.nil n0
  refine own_cast (g' := (mkF m 0 #[.val (.ref a10), .val (.int (1 : Int32)), .val (.double f360), .second, .val (.long v346), .second, .unset, .unset] [])) (by first | (simp [entryFrame, mkF, argsToLocals, Value.category]; done) | rfl) ?_
  generalize hL1 : (#[.val (.ref a10), .val (.int (1 : Int32)), .val (.double f360), .second, .val (.long v346), .second, .unset, .unset] : Array Slot) = L1
  refine own_ldcd X0 hx hZ hown (own_w hw 111 rfl) (hb hby d12_0) ?_
  show own_Go _ _ _ _ _ _ _ s₁ (mkF m 3 L1 [(.double (4487126258331716666 : UInt64))])
  refine own_pre (T' := s₁) (g' := (mkF m 5 L1 [(.long v346), (.double (4487126258331716666 : UInt64))])) (fun t k => XT.lload X0.here hx rfl (v := v346) (hb hby d12_3) (by rw [← hL1]; rfl) k) ?_
  obtain ⟨f2, hf2⟩ : ∃ z, FP.l2d v346 = z := ⟨_, rfl⟩
  refine own_pre (T' := s₁) (g' := (mkF m 6 L1 [(.double f2), (.double (4487126258331716666 : UInt64))])) (fun t k => XS.l2dS X0.here hx rfl (hb hby d12_5) rfl hf2 k) ?_
  have Df2 : FP.Core.DInt v346.toInt f2 := hf2 ▸ FP.Core.l2d_int (by omega)
  obtain ⟨f3, hf3⟩ : ∃ z, FP.dmul (4487126258331716666 : UInt64) f2 = z := ⟨_, rfl⟩
  have Df3 : FP.Core.DInt v344.toInt f3 := hf3 ▸ own_fl Df2 H138.1 H138.2.1 H138.2.2
  have nnf3 : Jvm.Free.Fl.NoNaN64 f3 := own_DInt_nn Df3
  refine own_pre (T' := s₁) (g' := (mkF m 7 L1 [(.double f3)])) (fun t k => XS.dmulS X0.here hx rfl (hb hby d12_6) rfl (by rw [hf3]; exact nnf3) hf3 k) ?_
  refine own_pre (T' := s₁) (g' := (mkF m 9 #[.val (.ref a10), .val (.int (1 : Int32)), .val (.double f360), .second, .val (.long v346), .second, .val (.double f3), .second] [])) (fun t k => XS.dstore X0.here hx rfl (hb hby d12_7) rfl (l' := #[.val (.ref a10), .val (.int (1 : Int32)), .val (.double f360), .second, .val (.long v346), .second, .val (.double f3), .second]) (by rw [← hL1]; rfl) k) ?_
  generalize hL4 : (#[.val (.ref a10), .val (.int (1 : Int32)), .val (.double f360), .second, .val (.long v346), .second, .val (.double f3), .second] : Array Slot) = L4
  refine own_pre (T' := s₁) (g' := (mkF m 10 L4 [(.double f360)])) (fun t k => XS.dloadN X0.here hx rfl (v := f360) (hb hby d12_9) (by rw [← hL4]; rfl) k) ?_
  refine own_pre (T' := s₁) (g' := (mkF m 11 L4 [(.ref a10), (.double f360)])) (fun t k => XS.aloadN X0.here hx rfl (v := (.ref a10)) (hb hby d12_10) (by rw [← hL4]; rfl) rfl k) ?_
  refine own_getf X0 hx hZ hown (own_w hw 15 rfl) e0 H34 (hb hby d12_11) ?_
  intro T5 X5 e5
  show own_Go _ _ _ _ _ _ _ T5 (mkF m 14 L4 [(.ref a29), (.double f360)])
  refine own_pre (T' := T5) (g' := (mkF m 15 L4 [(.ref a10), (.ref a29), (.double f360)])) (fun t k => XS.aloadN X5.here hx rfl (v := (.ref a10)) (hb hby d12_14) (by rw [← hL4]; rfl) rfl k) ?_
  refine own_getf X5 hx hZ hown (own_w hw 32 rfl) e5 H40 (hb hby d12_15) ?_
  intro T6 X6 e6
  show own_Go _ _ _ _ _ _ _ T6 (mkF m 18 L4 [(.ref a35), (.ref a29), (.double f360)])
  refine own_pre (T' := T6) (g' := (mkF m 19 L4 [(.int (1 : Int32)), (.ref a35), (.ref a29), (.double f360)])) (fun t k => XS.iloadN X6.here hx rfl (v := (1 : Int32)) (hb hby d12_18) (by rw [← hL4]; rfl) k) ?_
  refine own_iaload X6 hx hZ e6 H25 (hb hby d12_19) (n := 1) (v := (.int (0 : Int32))) (by decide) (by decide) rfl ?_
  show own_Go _ _ _ _ _ _ _ T6 (mkF m 20 L4 [(.int (0 : Int32)), (.ref a29), (.double f360)])
  refine own_daload X6 hx hZ e6 H31 (hb hby d12_20) (n := 0) (v := (.double f121)) (by decide) (by decide) rfl ?_
  show own_Go _ _ _ _ _ _ _ T6 (mkF m 21 L4 [(.double f121), (.double f360)])
  obtain ⟨f7, hf7⟩ : ∃ z, FP.dsub f360 f121 = z := ⟨_, rfl⟩
  have Df7 : FP.Core.own_H (v8.toInt - v2.toInt) f7 := hf7 ▸ FP.Core.own_H_sub H132 H133 (by have := rng32 v8; have := rng32 v2; omega)
  refine own_pre (T' := T6) (g' := (mkF m 22 L4 [(.double f7)])) (fun t k => XS.dsubS X6.here hx rfl (hb hby d12_21) rfl (by rw [hf7]; exact Jvm.Free.Fl.val64_no.mpr Df7.nn) hf7 k) ?_
  refine own_pre (T' := T6) (g' := (mkF m 24 L4 [(.double f3), (.double f7)])) (fun t k => XS.dload X6.here hx rfl (v := f3) (hb hby d12_22) (by rw [← hL4]; rfl) k) ?_
  obtain ⟨k8, hk8⟩ : ∃ z, own_c (FP.Core.zval FP.Core.b64 (FP.Core.val64 f7)) (FP.Core.zval FP.Core.b64 (FP.Core.val64 f3)) = z := ⟨_, rfl⟩
  refine own_pre (T' := T6) (g' := (mkF m 25 L4 [(.int k8)])) (fun t k => XS.dcmpS X6.here hx rfl (hb hby d12_24) rfl ((own_dcmpz (Jvm.Free.Fl.val64_no.mpr Df7.nn) nnf3 _).trans hk8) k) ?_
  have clo : ¬ k8 < (0 : Int32) := by rw [← hk8, own_c_lt, (own_cmpw Df7 Df3)]; exact H139
  refine own_pre (T' := T6) (g' := (mkF m 28 L4 [])) (fun t k => XS.ifNo X6.here hx rfl (hb hby d12_25) rfl ((if0 _ _).trans (flt clo).1) k) ?_
  refine own_pre (T' := T6) (g' := (mkF m 29 L4 [(.ref a10)])) (fun t k => XS.aloadN X6.here hx rfl (v := (.ref a10)) (hb hby d12_28) (by rw [← hL4]; rfl) rfl k) ?_
  refine own_getf X6 hx hZ hown (own_w hw 15 rfl) e6 H34 (hb hby d12_29) ?_
  intro T9 X9 e9
  show own_Go _ _ _ _ _ _ _ T9 (mkF m 32 L4 [(.ref a29)])
  refine own_pre (T' := T9) (g' := (mkF m 33 L4 [(.int (1 : Int32)), (.ref a29)])) (fun t k => XS.iloadN X9.here hx rfl (v := (1 : Int32)) (hb hby d12_32) (by rw [← hL4]; rfl) k) ?_
  refine own_daload X9 hx hZ e9 H31 (hb hby d12_33) (n := 1) (v := (.double f167)) (by decide) (by decide) rfl ?_
  show own_Go _ _ _ _ _ _ _ T9 (mkF m 34 L4 [(.double f167)])
  refine own_pre (T' := T9) (g' := (mkF m 35 L4 [(.double f360), (.double f167)])) (fun t k => XS.dloadN X9.here hx rfl (v := f360) (hb hby d12_34) (by rw [← hL4]; rfl) k) ?_
  obtain ⟨f10, hf10⟩ : ∃ z, FP.dsub f167 f360 = z := ⟨_, rfl⟩
  have Df10 : FP.Core.own_H (v4.toInt - v8.toInt) f10 := hf10 ▸ FP.Core.own_H_sub H135 H132 (by have := rng32 v4; have := rng32 v8; omega)
  refine own_pre (T' := T9) (g' := (mkF m 36 L4 [(.double f10)])) (fun t k => XS.dsubS X9.here hx rfl (hb hby d12_35) rfl (by rw [hf10]; exact Jvm.Free.Fl.val64_no.mpr Df10.nn) hf10 k) ?_
  refine own_pre (T' := T9) (g' := (mkF m 38 L4 [(.double f3), (.double f10)])) (fun t k => XS.dload X9.here hx rfl (v := f3) (hb hby d12_36) (by rw [← hL4]; rfl) k) ?_
  obtain ⟨k11, hk11⟩ : ∃ z, own_c (FP.Core.zval FP.Core.b64 (FP.Core.val64 f10)) (FP.Core.zval FP.Core.b64 (FP.Core.val64 f3)) = z := ⟨_, rfl⟩
  refine own_pre (T' := T9) (g' := (mkF m 39 L4 [(.int k11)])) (fun t k => XS.dcmpS X9.here hx rfl (hb hby d12_38) rfl ((own_dcmpz (Jvm.Free.Fl.val64_no.mpr Df10.nn) nnf3 _).trans hk11) k) ?_
  have chi : ¬ k11 < (0 : Int32) := by rw [← hk11, own_c_lt, (own_cmpw Df10 Df3)]; exact H140
  refine own_pre (T' := T9) (g' := (mkF m 42 L4 [])) (fun t k => XS.ifNo X9.here hx rfl (hb hby d12_39) rfl ((if0 _ _).trans (flt chi).1) k) ?_
  refine own_pre (T' := T9) (g' := (mkF m 43 L4 [(.int (1 : Int32))])) (fun t k => XS.iconst X9.here hx rfl (hb hby d12_42) k) ?_
  refine own_pre (T' := T9) (g' := (mkF m 47 L4 [(.int (1 : Int32))])) (fun t k => XS.goto X9.here hx rfl (pc0 := 43) (pc' := 47) rfl (hb hby d12_43) (by decide) (by decide) k) ?_
  exact own_retZ X9 hx hlk hret rfl (hb hby d12_47) e9 ⟨rfl, N0, rfl⟩ (by decide) (by decide)
theorem d13_0 : decode prog_5_method_5_code 0 = .ok (.aload_n 0, 1) := by decide +kernel
theorem d13_1 : decode prog_5_method_5_code 1 = .ok (.getfield 44, 3) := by decide +kernel
theorem d13_4 : decode prog_5_method_5_code 4 = .ok (.ireturn, 1) := by decide +kernel
def own_s34_Q (Z : State) (a10 : Addr) (h0 : Heap) (n0 : Nat) (v_ : Option Value) (h_ : Heap) (L_ : List Loc) : Prop := (fun v h L => v = some (.int (2 : Int32)) ∧ Fr n0 L ∧ h = h0) v_ h_ L_
set_option maxRecDepth 65536 in
set_option maxHeartbeats 40000000 in
theorem own_s34 (l : Launch) (Z : State) (a0 : Array Value) (hw : ∀ d ∈ tables_1, d.before a0 Z = true) (wds : List Jvm.Cond) (a10 : Addr) (h0 : Heap) (n0 : Nat) (Z0 : n0 ≤ h0.size) (H42 : Fld Z h0 a10 "com/example/rankline/rankline/Buckets" "last" "I" (.int (2 : Int32))) :
    MetFree l (⟨"com/example/rankline/rankline/Buckets", "last", "()I"⟩ : MethodName) (head1 (Jvm.Cond.code (⟨"com/example/rankline/rankline/Buckets", "last", "()I"⟩ : MethodName) prog_5_method_5_code 1 (some .int) :: wds) ({ frames := 0, cells := 0, slots := 0, locals := 0 } : Room)) (fun ar_ U_ => ar_ = #[(.ref a10)] ∧ Z.Warmed39 U_.vm ∧ U_.heap = h0) (fun _ _ _ _ _ => True) (fun _ U_ o_ V_ => ∃ v_ L_, o_ = .returned v_ ∧ own_s34_Q Z a10 h0 n0 v_ V_.heap L_ ∧ FrameEnd U_ o_ V_ L_ ({ frames := 0, cells := 0, slots := 0, locals := 0 } : Room).cells ({ frames := 0, cells := 0, slots := 0, locals := 0 } : Room).slots) := by
  refine own_met (y := ⟨"com/example/rankline/rankline/Buckets", "last", "()I"⟩) (Q := own_s34_Q Z a10 h0 n0) own_pn1 ?_
  intro p e s m below meth c s₁ hx hby hml hZ hown hnm hret hlk X0 e0
  have N0 := Fr.nil n0
  refine own_cast (g' := (mkF m 0 #[.val (.ref a10)] [])) (by first | (simp [entryFrame, mkF, argsToLocals, Value.category]; done) | rfl) ?_
  refine own_pre (T' := s₁) (g' := (mkF m 1 #[.val (.ref a10)] [(.ref a10)])) (fun t k => XS.aloadN X0.here hx rfl (v := (.ref a10)) (hb hby d13_0) rfl rfl k) ?_
  refine own_getf X0 hx hZ hown (own_w hw 36 rfl) e0 H42 (hb hby d13_1) ?_
  intro T1 X1 e1
  show own_Go _ _ _ _ _ _ _ T1 (mkF m 4 #[.val (.ref a10)] [(.int (2 : Int32))])
  exact own_retI X1 hx hlk hret (hb hby d13_4) e1 ⟨rfl, N0, rfl⟩ (by decide) (by decide)
def own_s35_Q (Z : State) (a10 : Addr) (f402 : UInt64) (v398 : Int64) (a35 : Addr) (a29 : Addr) (f121 : UInt64) (f167 : UInt64) (f225 : UInt64) (v8 : Int32) (v4 : Int32) (v6 : Int32) (h0 : Heap) (n0 : Nat) (v_ : Option Value) (h_ : Heap) (L_ : List Loc) : Prop := (fun v h L => v = some (.int (1 : Int32)) ∧ Fr n0 L ∧ h = h0) v_ h_ L_
set_option maxRecDepth 65536 in
set_option maxHeartbeats 40000000 in
theorem own_s35 (l : Launch) (Z : State) (a0 : Array Value) (hw : ∀ d ∈ tables_1, d.before a0 Z = true) (wds : List Jvm.Cond) (a10 : Addr) (f402 : UInt64) (v398 : Int64) (a35 : Addr) (a29 : Addr) (f121 : UInt64) (f167 : UInt64) (f225 : UInt64) (v8 : Int32) (v4 : Int32) (v6 : Int32) (h0 : Heap) (n0 : Nat) (Z0 : n0 ≤ h0.size) (H25 : own_Ary Z h0 a35 .int [(.int (-1 : Int32)), (.int (0 : Int32)), (.int (1 : Int32)), (.int (0 : Int32)), (.int (0 : Int32)), (.int (0 : Int32)), (.int (0 : Int32)), (.int (0 : Int32)), (.int (0 : Int32)), (.int (0 : Int32)), (.int (0 : Int32)), (.int (0 : Int32)), (.int (0 : Int32)), (.int (0 : Int32)), (.int (0 : Int32)), (.int (0 : Int32))]) (H31 : own_Ary Z h0 a29 .double [(.double f121), (.double f167), (.double f225), (.double (0 : UInt64)), (.double (0 : UInt64)), (.double (0 : UInt64)), (.double (0 : UInt64)), (.double (0 : UInt64)), (.double (0 : UInt64)), (.double (0 : UInt64)), (.double (0 : UInt64)), (.double (0 : UInt64)), (.double (0 : UInt64)), (.double (0 : UInt64)), (.double (0 : UInt64)), (.double (0 : UInt64))]) (H34 : Fld Z h0 a10 "com/example/rankline/rankline/Buckets" "ranks" "[D" (.ref a29)) (H40 : Fld Z h0 a10 "com/example/rankline/rankline/Buckets" "previousOf" "[I" (.ref a35)) (H132 : FP.Core.own_H v8.toInt f402) (H135 : FP.Core.own_H v4.toInt f167) (H136 : FP.Core.own_H v6.toInt f225) (H138 : 1 ≤ v398.toInt ∧ v398.toInt ≤ 33554432) (H139 : ¬ (v8.toInt - v4.toInt ≤ 0)) (H140 : ¬ (v6.toInt - v8.toInt ≤ 0)) :
    MetFree l (⟨"com/example/rankline/rankline/Buckets", "halvesMeetCountFloor", "(IDJ)Z"⟩ : MethodName) (head1 (Jvm.Cond.code (⟨"com/example/rankline/rankline/Buckets", "halvesMeetCountFloor", "(IDJ)Z"⟩ : MethodName) prog_5_method_43_code 8 (some .boolean) :: wds) ({ frames := 0, cells := 0, slots := 0, locals := 0 } : Room)) (fun ar_ U_ => ar_ = #[(.ref a10), (.int (2 : Int32)), (.double f402), (.long v398)] ∧ Z.Warmed39 U_.vm ∧ U_.heap = h0) (fun _ _ _ _ _ => True) (fun _ U_ o_ V_ => ∃ v_ L_, o_ = .returned v_ ∧ own_s35_Q Z a10 f402 v398 a35 a29 f121 f167 f225 v8 v4 v6 h0 n0 v_ V_.heap L_ ∧ FrameEnd U_ o_ V_ L_ ({ frames := 0, cells := 0, slots := 0, locals := 0 } : Room).cells ({ frames := 0, cells := 0, slots := 0, locals := 0 } : Room).slots) := by
  refine own_met (y := ⟨"com/example/rankline/rankline/Buckets", "halvesMeetCountFloor", "(IDJ)Z"⟩) (Q := own_s35_Q Z a10 f402 v398 a35 a29 f121 f167 f225 v8 v4 v6 h0 n0) own_pn1 ?_
  intro p e s m below meth c s₁ hx hby hml hZ hown hnm hret hlk X0 e0
  have N0 := Fr.nil n0
  refine own_cast (g' := (mkF m 0 #[.val (.ref a10), .val (.int (2 : Int32)), .val (.double f402), .second, .val (.long v398), .second, .unset, .unset] [])) (by first | (simp [entryFrame, mkF, argsToLocals, Value.category]; done) | rfl) ?_
  generalize hL1 : (#[.val (.ref a10), .val (.int (2 : Int32)), .val (.double f402), .second, .val (.long v398), .second, .unset, .unset] : Array Slot) = L1
  refine own_ldcd X0 hx hZ hown (own_w hw 111 rfl) (hb hby d12_0) ?_
  show own_Go _ _ _ _ _ _ _ s₁ (mkF m 3 L1 [(.double (4487126258331716666 : UInt64))])
  refine own_pre (T' := s₁) (g' := (mkF m 5 L1 [(.long v398), (.double (4487126258331716666 : UInt64))])) (fun t k => XT.lload X0.here hx rfl (v := v398) (hb hby d12_3) (by rw [← hL1]; rfl) k) ?_
  obtain ⟨f2, hf2⟩ : ∃ z, FP.l2d v398 = z := ⟨_, rfl⟩
  refine own_pre (T' := s₁) (g' := (mkF m 6 L1 [(.double f2), (.double (4487126258331716666 : UInt64))])) (fun t k => XS.l2dS X0.here hx rfl (hb hby d12_5) rfl hf2 k) ?_
  have Df2 : FP.Core.DInt v398.toInt f2 := hf2 ▸ FP.Core.l2d_int (by omega)
  obtain ⟨f3, hf3⟩ : ∃ z, FP.dmul (4487126258331716666 : UInt64) f2 = z := ⟨_, rfl⟩
  have Df3 : FP.Core.val64 f3 ≠ .nan ∧ 0 < FP.Core.zval FP.Core.b64 (FP.Core.val64 f3) ∧ 2 * FP.Core.zval FP.Core.b64 (FP.Core.val64 f3) < (FP.Core.one64 : Int) := hf3 ▸ own_fl2 Df2 H138.1 H138.2
  have nnf3 : Jvm.Free.Fl.NoNaN64 f3 := Jvm.Free.Fl.val64_no.mpr Df3.1
  refine own_pre (T' := s₁) (g' := (mkF m 7 L1 [(.double f3)])) (fun t k => XS.dmulS X0.here hx rfl (hb hby d12_6) rfl (by rw [hf3]; exact nnf3) hf3 k) ?_
  refine own_pre (T' := s₁) (g' := (mkF m 9 #[.val (.ref a10), .val (.int (2 : Int32)), .val (.double f402), .second, .val (.long v398), .second, .val (.double f3), .second] [])) (fun t k => XS.dstore X0.here hx rfl (hb hby d12_7) rfl (l' := #[.val (.ref a10), .val (.int (2 : Int32)), .val (.double f402), .second, .val (.long v398), .second, .val (.double f3), .second]) (by rw [← hL1]; rfl) k) ?_
  generalize hL4 : (#[.val (.ref a10), .val (.int (2 : Int32)), .val (.double f402), .second, .val (.long v398), .second, .val (.double f3), .second] : Array Slot) = L4
  refine own_pre (T' := s₁) (g' := (mkF m 10 L4 [(.double f402)])) (fun t k => XS.dloadN X0.here hx rfl (v := f402) (hb hby d12_9) (by rw [← hL4]; rfl) k) ?_
  refine own_pre (T' := s₁) (g' := (mkF m 11 L4 [(.ref a10), (.double f402)])) (fun t k => XS.aloadN X0.here hx rfl (v := (.ref a10)) (hb hby d12_10) (by rw [← hL4]; rfl) rfl k) ?_
  refine own_getf X0 hx hZ hown (own_w hw 15 rfl) e0 H34 (hb hby d12_11) ?_
  intro T5 X5 e5
  show own_Go _ _ _ _ _ _ _ T5 (mkF m 14 L4 [(.ref a29), (.double f402)])
  refine own_pre (T' := T5) (g' := (mkF m 15 L4 [(.ref a10), (.ref a29), (.double f402)])) (fun t k => XS.aloadN X5.here hx rfl (v := (.ref a10)) (hb hby d12_14) (by rw [← hL4]; rfl) rfl k) ?_
  refine own_getf X5 hx hZ hown (own_w hw 32 rfl) e5 H40 (hb hby d12_15) ?_
  intro T6 X6 e6
  show own_Go _ _ _ _ _ _ _ T6 (mkF m 18 L4 [(.ref a35), (.ref a29), (.double f402)])
  refine own_pre (T' := T6) (g' := (mkF m 19 L4 [(.int (2 : Int32)), (.ref a35), (.ref a29), (.double f402)])) (fun t k => XS.iloadN X6.here hx rfl (v := (2 : Int32)) (hb hby d12_18) (by rw [← hL4]; rfl) k) ?_
  refine own_iaload X6 hx hZ e6 H25 (hb hby d12_19) (n := 2) (v := (.int (1 : Int32))) (by decide) (by decide) rfl ?_
  show own_Go _ _ _ _ _ _ _ T6 (mkF m 20 L4 [(.int (1 : Int32)), (.ref a29), (.double f402)])
  refine own_daload X6 hx hZ e6 H31 (hb hby d12_20) (n := 1) (v := (.double f167)) (by decide) (by decide) rfl ?_
  show own_Go _ _ _ _ _ _ _ T6 (mkF m 21 L4 [(.double f167), (.double f402)])
  obtain ⟨f7, hf7⟩ : ∃ z, FP.dsub f402 f167 = z := ⟨_, rfl⟩
  have Df7 : FP.Core.own_H (v8.toInt - v4.toInt) f7 := hf7 ▸ FP.Core.own_H_sub H132 H135 (by have := rng32 v8; have := rng32 v4; omega)
  refine own_pre (T' := T6) (g' := (mkF m 22 L4 [(.double f7)])) (fun t k => XS.dsubS X6.here hx rfl (hb hby d12_21) rfl (by rw [hf7]; exact Jvm.Free.Fl.val64_no.mpr Df7.nn) hf7 k) ?_
  refine own_pre (T' := T6) (g' := (mkF m 24 L4 [(.double f3), (.double f7)])) (fun t k => XS.dload X6.here hx rfl (v := f3) (hb hby d12_22) (by rw [← hL4]; rfl) k) ?_
  obtain ⟨k8, hk8⟩ : ∃ z, own_c (FP.Core.zval FP.Core.b64 (FP.Core.val64 f7)) (FP.Core.zval FP.Core.b64 (FP.Core.val64 f3)) = z := ⟨_, rfl⟩
  refine own_pre (T' := T6) (g' := (mkF m 25 L4 [(.int k8)])) (fun t k => XS.dcmpS X6.here hx rfl (hb hby d12_24) rfl ((own_dcmpz (Jvm.Free.Fl.val64_no.mpr Df7.nn) nnf3 _).trans hk8) k) ?_
  have clo : ¬ k8 < (0 : Int32) := by rw [← hk8, own_c_lt, (own_cmpn Df7 Df3.2)]; exact H139
  refine own_pre (T' := T6) (g' := (mkF m 28 L4 [])) (fun t k => XS.ifNo X6.here hx rfl (hb hby d12_25) rfl ((if0 _ _).trans (flt clo).1) k) ?_
  refine own_pre (T' := T6) (g' := (mkF m 29 L4 [(.ref a10)])) (fun t k => XS.aloadN X6.here hx rfl (v := (.ref a10)) (hb hby d12_28) (by rw [← hL4]; rfl) rfl k) ?_
  refine own_getf X6 hx hZ hown (own_w hw 15 rfl) e6 H34 (hb hby d12_29) ?_
  intro T9 X9 e9
  show own_Go _ _ _ _ _ _ _ T9 (mkF m 32 L4 [(.ref a29)])
  refine own_pre (T' := T9) (g' := (mkF m 33 L4 [(.int (2 : Int32)), (.ref a29)])) (fun t k => XS.iloadN X9.here hx rfl (v := (2 : Int32)) (hb hby d12_32) (by rw [← hL4]; rfl) k) ?_
  refine own_daload X9 hx hZ e9 H31 (hb hby d12_33) (n := 2) (v := (.double f225)) (by decide) (by decide) rfl ?_
  show own_Go _ _ _ _ _ _ _ T9 (mkF m 34 L4 [(.double f225)])
  refine own_pre (T' := T9) (g' := (mkF m 35 L4 [(.double f402), (.double f225)])) (fun t k => XS.dloadN X9.here hx rfl (v := f402) (hb hby d12_34) (by rw [← hL4]; rfl) k) ?_
  obtain ⟨f10, hf10⟩ : ∃ z, FP.dsub f225 f402 = z := ⟨_, rfl⟩
  have Df10 : FP.Core.own_H (v6.toInt - v8.toInt) f10 := hf10 ▸ FP.Core.own_H_sub H136 H132 (by have := rng32 v6; have := rng32 v8; omega)
  refine own_pre (T' := T9) (g' := (mkF m 36 L4 [(.double f10)])) (fun t k => XS.dsubS X9.here hx rfl (hb hby d12_35) rfl (by rw [hf10]; exact Jvm.Free.Fl.val64_no.mpr Df10.nn) hf10 k) ?_
  refine own_pre (T' := T9) (g' := (mkF m 38 L4 [(.double f3), (.double f10)])) (fun t k => XS.dload X9.here hx rfl (v := f3) (hb hby d12_36) (by rw [← hL4]; rfl) k) ?_
  obtain ⟨k11, hk11⟩ : ∃ z, own_c (FP.Core.zval FP.Core.b64 (FP.Core.val64 f10)) (FP.Core.zval FP.Core.b64 (FP.Core.val64 f3)) = z := ⟨_, rfl⟩
  refine own_pre (T' := T9) (g' := (mkF m 39 L4 [(.int k11)])) (fun t k => XS.dcmpS X9.here hx rfl (hb hby d12_38) rfl ((own_dcmpz (Jvm.Free.Fl.val64_no.mpr Df10.nn) nnf3 _).trans hk11) k) ?_
  have chi : ¬ k11 < (0 : Int32) := by rw [← hk11, own_c_lt, (own_cmpn Df10 Df3.2)]; exact H140
  refine own_pre (T' := T9) (g' := (mkF m 42 L4 [])) (fun t k => XS.ifNo X9.here hx rfl (hb hby d12_39) rfl ((if0 _ _).trans (flt chi).1) k) ?_
  refine own_pre (T' := T9) (g' := (mkF m 43 L4 [(.int (1 : Int32))])) (fun t k => XS.iconst X9.here hx rfl (hb hby d12_42) k) ?_
  refine own_pre (T' := T9) (g' := (mkF m 47 L4 [(.int (1 : Int32))])) (fun t k => XS.goto X9.here hx rfl (pc0 := 43) (pc' := 47) rfl (hb hby d12_43) (by decide) (by decide) k) ?_
  exact own_retZ X9 hx hlk hret rfl (hb hby d12_47) e9 ⟨rfl, N0, rfl⟩ (by decide) (by decide)
def own_s36_Q (Z : State) (a10 : Addr) (f407 : UInt64) (v398 : Int64) (a35 : Addr) (a29 : Addr) (f121 : UInt64) (f167 : UInt64) (f225 : UInt64) (v8 : Int32) (v4 : Int32) (v6 : Int32) (h0 : Heap) (n0 : Nat) (v_ : Option Value) (h_ : Heap) (L_ : List Loc) : Prop := (fun v h L => v = some (.int (0 : Int32)) ∧ Fr n0 L ∧ h = h0) v_ h_ L_
set_option maxRecDepth 65536 in
set_option maxHeartbeats 40000000 in
theorem own_s36 (l : Launch) (Z : State) (a0 : Array Value) (hw : ∀ d ∈ tables_1, d.before a0 Z = true) (wds : List Jvm.Cond) (a10 : Addr) (f407 : UInt64) (v398 : Int64) (a35 : Addr) (a29 : Addr) (f121 : UInt64) (f167 : UInt64) (f225 : UInt64) (v8 : Int32) (v4 : Int32) (v6 : Int32) (h0 : Heap) (n0 : Nat) (Z0 : n0 ≤ h0.size) (H25 : own_Ary Z h0 a35 .int [(.int (-1 : Int32)), (.int (0 : Int32)), (.int (1 : Int32)), (.int (0 : Int32)), (.int (0 : Int32)), (.int (0 : Int32)), (.int (0 : Int32)), (.int (0 : Int32)), (.int (0 : Int32)), (.int (0 : Int32)), (.int (0 : Int32)), (.int (0 : Int32)), (.int (0 : Int32)), (.int (0 : Int32)), (.int (0 : Int32)), (.int (0 : Int32))]) (H31 : own_Ary Z h0 a29 .double [(.double f121), (.double f167), (.double f225), (.double (0 : UInt64)), (.double (0 : UInt64)), (.double (0 : UInt64)), (.double (0 : UInt64)), (.double (0 : UInt64)), (.double (0 : UInt64)), (.double (0 : UInt64)), (.double (0 : UInt64)), (.double (0 : UInt64)), (.double (0 : UInt64)), (.double (0 : UInt64)), (.double (0 : UInt64)), (.double (0 : UInt64))]) (H34 : Fld Z h0 a10 "com/example/rankline/rankline/Buckets" "ranks" "[D" (.ref a29)) (H40 : Fld Z h0 a10 "com/example/rankline/rankline/Buckets" "previousOf" "[I" (.ref a35)) (H132 : FP.Core.own_H v8.toInt f407) (H135 : FP.Core.own_H v4.toInt f167) (H136 : FP.Core.own_H v6.toInt f225) (H138 : 1 ≤ v398.toInt ∧ v398.toInt ≤ 33554432) (H139 : ¬ (v8.toInt - v4.toInt ≤ 0)) (H140 : v6.toInt - v8.toInt ≤ 0) :
    MetFree l (⟨"com/example/rankline/rankline/Buckets", "halvesMeetCountFloor", "(IDJ)Z"⟩ : MethodName) (head1 (Jvm.Cond.code (⟨"com/example/rankline/rankline/Buckets", "halvesMeetCountFloor", "(IDJ)Z"⟩ : MethodName) prog_5_method_43_code 8 (some .boolean) :: wds) ({ frames := 0, cells := 0, slots := 0, locals := 0 } : Room)) (fun ar_ U_ => ar_ = #[(.ref a10), (.int (2 : Int32)), (.double f407), (.long v398)] ∧ Z.Warmed39 U_.vm ∧ U_.heap = h0) (fun _ _ _ _ _ => True) (fun _ U_ o_ V_ => ∃ v_ L_, o_ = .returned v_ ∧ own_s36_Q Z a10 f407 v398 a35 a29 f121 f167 f225 v8 v4 v6 h0 n0 v_ V_.heap L_ ∧ FrameEnd U_ o_ V_ L_ ({ frames := 0, cells := 0, slots := 0, locals := 0 } : Room).cells ({ frames := 0, cells := 0, slots := 0, locals := 0 } : Room).slots) := by
  refine own_met (y := ⟨"com/example/rankline/rankline/Buckets", "halvesMeetCountFloor", "(IDJ)Z"⟩) (Q := own_s36_Q Z a10 f407 v398 a35 a29 f121 f167 f225 v8 v4 v6 h0 n0) own_pn1 ?_
  intro p e s m below meth c s₁ hx hby hml hZ hown hnm hret hlk X0 e0
  have N0 := Fr.nil n0
  refine own_cast (g' := (mkF m 0 #[.val (.ref a10), .val (.int (2 : Int32)), .val (.double f407), .second, .val (.long v398), .second, .unset, .unset] [])) (by first | (simp [entryFrame, mkF, argsToLocals, Value.category]; done) | rfl) ?_
  generalize hL1 : (#[.val (.ref a10), .val (.int (2 : Int32)), .val (.double f407), .second, .val (.long v398), .second, .unset, .unset] : Array Slot) = L1
  refine own_ldcd X0 hx hZ hown (own_w hw 111 rfl) (hb hby d12_0) ?_
  show own_Go _ _ _ _ _ _ _ s₁ (mkF m 3 L1 [(.double (4487126258331716666 : UInt64))])
  refine own_pre (T' := s₁) (g' := (mkF m 5 L1 [(.long v398), (.double (4487126258331716666 : UInt64))])) (fun t k => XT.lload X0.here hx rfl (v := v398) (hb hby d12_3) (by rw [← hL1]; rfl) k) ?_
  obtain ⟨f2, hf2⟩ : ∃ z, FP.l2d v398 = z := ⟨_, rfl⟩
  refine own_pre (T' := s₁) (g' := (mkF m 6 L1 [(.double f2), (.double (4487126258331716666 : UInt64))])) (fun t k => XS.l2dS X0.here hx rfl (hb hby d12_5) rfl hf2 k) ?_
  have Df2 : FP.Core.DInt v398.toInt f2 := hf2 ▸ FP.Core.l2d_int (by omega)
  obtain ⟨f3, hf3⟩ : ∃ z, FP.dmul (4487126258331716666 : UInt64) f2 = z := ⟨_, rfl⟩
  have Df3 : FP.Core.val64 f3 ≠ .nan ∧ 0 < FP.Core.zval FP.Core.b64 (FP.Core.val64 f3) ∧ 2 * FP.Core.zval FP.Core.b64 (FP.Core.val64 f3) < (FP.Core.one64 : Int) := hf3 ▸ own_fl2 Df2 H138.1 H138.2
  have nnf3 : Jvm.Free.Fl.NoNaN64 f3 := Jvm.Free.Fl.val64_no.mpr Df3.1
  refine own_pre (T' := s₁) (g' := (mkF m 7 L1 [(.double f3)])) (fun t k => XS.dmulS X0.here hx rfl (hb hby d12_6) rfl (by rw [hf3]; exact nnf3) hf3 k) ?_
  refine own_pre (T' := s₁) (g' := (mkF m 9 #[.val (.ref a10), .val (.int (2 : Int32)), .val (.double f407), .second, .val (.long v398), .second, .val (.double f3), .second] [])) (fun t k => XS.dstore X0.here hx rfl (hb hby d12_7) rfl (l' := #[.val (.ref a10), .val (.int (2 : Int32)), .val (.double f407), .second, .val (.long v398), .second, .val (.double f3), .second]) (by rw [← hL1]; rfl) k) ?_
  generalize hL4 : (#[.val (.ref a10), .val (.int (2 : Int32)), .val (.double f407), .second, .val (.long v398), .second, .val (.double f3), .second] : Array Slot) = L4
  refine own_pre (T' := s₁) (g' := (mkF m 10 L4 [(.double f407)])) (fun t k => XS.dloadN X0.here hx rfl (v := f407) (hb hby d12_9) (by rw [← hL4]; rfl) k) ?_
  refine own_pre (T' := s₁) (g' := (mkF m 11 L4 [(.ref a10), (.double f407)])) (fun t k => XS.aloadN X0.here hx rfl (v := (.ref a10)) (hb hby d12_10) (by rw [← hL4]; rfl) rfl k) ?_
  refine own_getf X0 hx hZ hown (own_w hw 15 rfl) e0 H34 (hb hby d12_11) ?_
  intro T5 X5 e5
  show own_Go _ _ _ _ _ _ _ T5 (mkF m 14 L4 [(.ref a29), (.double f407)])
  refine own_pre (T' := T5) (g' := (mkF m 15 L4 [(.ref a10), (.ref a29), (.double f407)])) (fun t k => XS.aloadN X5.here hx rfl (v := (.ref a10)) (hb hby d12_14) (by rw [← hL4]; rfl) rfl k) ?_
  refine own_getf X5 hx hZ hown (own_w hw 32 rfl) e5 H40 (hb hby d12_15) ?_
  intro T6 X6 e6
  show own_Go _ _ _ _ _ _ _ T6 (mkF m 18 L4 [(.ref a35), (.ref a29), (.double f407)])
  refine own_pre (T' := T6) (g' := (mkF m 19 L4 [(.int (2 : Int32)), (.ref a35), (.ref a29), (.double f407)])) (fun t k => XS.iloadN X6.here hx rfl (v := (2 : Int32)) (hb hby d12_18) (by rw [← hL4]; rfl) k) ?_
  refine own_iaload X6 hx hZ e6 H25 (hb hby d12_19) (n := 2) (v := (.int (1 : Int32))) (by decide) (by decide) rfl ?_
  show own_Go _ _ _ _ _ _ _ T6 (mkF m 20 L4 [(.int (1 : Int32)), (.ref a29), (.double f407)])
  refine own_daload X6 hx hZ e6 H31 (hb hby d12_20) (n := 1) (v := (.double f167)) (by decide) (by decide) rfl ?_
  show own_Go _ _ _ _ _ _ _ T6 (mkF m 21 L4 [(.double f167), (.double f407)])
  obtain ⟨f7, hf7⟩ : ∃ z, FP.dsub f407 f167 = z := ⟨_, rfl⟩
  have Df7 : FP.Core.own_H (v8.toInt - v4.toInt) f7 := hf7 ▸ FP.Core.own_H_sub H132 H135 (by have := rng32 v8; have := rng32 v4; omega)
  refine own_pre (T' := T6) (g' := (mkF m 22 L4 [(.double f7)])) (fun t k => XS.dsubS X6.here hx rfl (hb hby d12_21) rfl (by rw [hf7]; exact Jvm.Free.Fl.val64_no.mpr Df7.nn) hf7 k) ?_
  refine own_pre (T' := T6) (g' := (mkF m 24 L4 [(.double f3), (.double f7)])) (fun t k => XS.dload X6.here hx rfl (v := f3) (hb hby d12_22) (by rw [← hL4]; rfl) k) ?_
  obtain ⟨k8, hk8⟩ : ∃ z, own_c (FP.Core.zval FP.Core.b64 (FP.Core.val64 f7)) (FP.Core.zval FP.Core.b64 (FP.Core.val64 f3)) = z := ⟨_, rfl⟩
  refine own_pre (T' := T6) (g' := (mkF m 25 L4 [(.int k8)])) (fun t k => XS.dcmpS X6.here hx rfl (hb hby d12_24) rfl ((own_dcmpz (Jvm.Free.Fl.val64_no.mpr Df7.nn) nnf3 _).trans hk8) k) ?_
  have clo : ¬ k8 < (0 : Int32) := by rw [← hk8, own_c_lt, (own_cmpn Df7 Df3.2)]; exact H139
  refine own_pre (T' := T6) (g' := (mkF m 28 L4 [])) (fun t k => XS.ifNo X6.here hx rfl (hb hby d12_25) rfl ((if0 _ _).trans (flt clo).1) k) ?_
  refine own_pre (T' := T6) (g' := (mkF m 29 L4 [(.ref a10)])) (fun t k => XS.aloadN X6.here hx rfl (v := (.ref a10)) (hb hby d12_28) (by rw [← hL4]; rfl) rfl k) ?_
  refine own_getf X6 hx hZ hown (own_w hw 15 rfl) e6 H34 (hb hby d12_29) ?_
  intro T9 X9 e9
  show own_Go _ _ _ _ _ _ _ T9 (mkF m 32 L4 [(.ref a29)])
  refine own_pre (T' := T9) (g' := (mkF m 33 L4 [(.int (2 : Int32)), (.ref a29)])) (fun t k => XS.iloadN X9.here hx rfl (v := (2 : Int32)) (hb hby d12_32) (by rw [← hL4]; rfl) k) ?_
  refine own_daload X9 hx hZ e9 H31 (hb hby d12_33) (n := 2) (v := (.double f225)) (by decide) (by decide) rfl ?_
  show own_Go _ _ _ _ _ _ _ T9 (mkF m 34 L4 [(.double f225)])
  refine own_pre (T' := T9) (g' := (mkF m 35 L4 [(.double f407), (.double f225)])) (fun t k => XS.dloadN X9.here hx rfl (v := f407) (hb hby d12_34) (by rw [← hL4]; rfl) k) ?_
  obtain ⟨f10, hf10⟩ : ∃ z, FP.dsub f225 f407 = z := ⟨_, rfl⟩
  have Df10 : FP.Core.own_H (v6.toInt - v8.toInt) f10 := hf10 ▸ FP.Core.own_H_sub H136 H132 (by have := rng32 v6; have := rng32 v8; omega)
  refine own_pre (T' := T9) (g' := (mkF m 36 L4 [(.double f10)])) (fun t k => XS.dsubS X9.here hx rfl (hb hby d12_35) rfl (by rw [hf10]; exact Jvm.Free.Fl.val64_no.mpr Df10.nn) hf10 k) ?_
  refine own_pre (T' := T9) (g' := (mkF m 38 L4 [(.double f3), (.double f10)])) (fun t k => XS.dload X9.here hx rfl (v := f3) (hb hby d12_36) (by rw [← hL4]; rfl) k) ?_
  obtain ⟨k11, hk11⟩ : ∃ z, own_c (FP.Core.zval FP.Core.b64 (FP.Core.val64 f10)) (FP.Core.zval FP.Core.b64 (FP.Core.val64 f3)) = z := ⟨_, rfl⟩
  refine own_pre (T' := T9) (g' := (mkF m 39 L4 [(.int k11)])) (fun t k => XS.dcmpS X9.here hx rfl (hb hby d12_38) rfl ((own_dcmpz (Jvm.Free.Fl.val64_no.mpr Df10.nn) nnf3 _).trans hk11) k) ?_
  have chi : k11 < (0 : Int32) := by rw [← hk11, own_c_lt, (own_cmpn Df10 Df3.2)]; exact H140
  refine own_pre (T' := T9) (g' := (mkF m 46 L4 [])) (fun t k => XS.ifYes X9.here hx rfl (pc0 := 39) (pc' := 46) rfl (hb hby d12_39) rfl ((if0 _ _).trans (tlt chi).1) (by decide) (by decide) k) ?_
  refine own_pre (T' := T9) (g' := (mkF m 47 L4 [(.int (0 : Int32))])) (fun t k => XS.iconst X9.here hx rfl (hb hby d12_46) k) ?_
  exact own_retZ X9 hx hlk hret rfl (hb hby d12_47) e9 ⟨rfl, N0, rfl⟩ (by decide) (by decide)
def own_s37_Q (Z : State) (a10 : Addr) (f412 : UInt64) (v398 : Int64) (a35 : Addr) (a29 : Addr) (f121 : UInt64) (f167 : UInt64) (f225 : UInt64) (v8 : Int32) (v4 : Int32) (h0 : Heap) (n0 : Nat) (v_ : Option Value) (h_ : Heap) (L_ : List Loc) : Prop := (fun v h L => v = some (.int (0 : Int32)) ∧ Fr n0 L ∧ h = h0) v_ h_ L_
set_option maxRecDepth 65536 in
set_option maxHeartbeats 40000000 in
theorem own_s37 (l : Launch) (Z : State) (a0 : Array Value) (hw : ∀ d ∈ tables_1, d.before a0 Z = true) (wds : List Jvm.Cond) (a10 : Addr) (f412 : UInt64) (v398 : Int64) (a35 : Addr) (a29 : Addr) (f121 : UInt64) (f167 : UInt64) (f225 : UInt64) (v8 : Int32) (v4 : Int32) (h0 : Heap) (n0 : Nat) (Z0 : n0 ≤ h0.size) (H25 : own_Ary Z h0 a35 .int [(.int (-1 : Int32)), (.int (0 : Int32)), (.int (1 : Int32)), (.int (0 : Int32)), (.int (0 : Int32)), (.int (0 : Int32)), (.int (0 : Int32)), (.int (0 : Int32)), (.int (0 : Int32)), (.int (0 : Int32)), (.int (0 : Int32)), (.int (0 : Int32)), (.int (0 : Int32)), (.int (0 : Int32)), (.int (0 : Int32)), (.int (0 : Int32))]) (H31 : own_Ary Z h0 a29 .double [(.double f121), (.double f167), (.double f225), (.double (0 : UInt64)), (.double (0 : UInt64)), (.double (0 : UInt64)), (.double (0 : UInt64)), (.double (0 : UInt64)), (.double (0 : UInt64)), (.double (0 : UInt64)), (.double (0 : UInt64)), (.double (0 : UInt64)), (.double (0 : UInt64)), (.double (0 : UInt64)), (.double (0 : UInt64)), (.double (0 : UInt64))]) (H34 : Fld Z h0 a10 "com/example/rankline/rankline/Buckets" "ranks" "[D" (.ref a29)) (H40 : Fld Z h0 a10 "com/example/rankline/rankline/Buckets" "previousOf" "[I" (.ref a35)) (H132 : FP.Core.own_H v8.toInt f412) (H135 : FP.Core.own_H v4.toInt f167) (H138 : 1 ≤ v398.toInt ∧ v398.toInt ≤ 33554432) (H139 : v8.toInt - v4.toInt ≤ 0) :
    MetFree l (⟨"com/example/rankline/rankline/Buckets", "halvesMeetCountFloor", "(IDJ)Z"⟩ : MethodName) (head1 (Jvm.Cond.code (⟨"com/example/rankline/rankline/Buckets", "halvesMeetCountFloor", "(IDJ)Z"⟩ : MethodName) prog_5_method_43_code 8 (some .boolean) :: wds) ({ frames := 0, cells := 0, slots := 0, locals := 0 } : Room)) (fun ar_ U_ => ar_ = #[(.ref a10), (.int (2 : Int32)), (.double f412), (.long v398)] ∧ Z.Warmed39 U_.vm ∧ U_.heap = h0) (fun _ _ _ _ _ => True) (fun _ U_ o_ V_ => ∃ v_ L_, o_ = .returned v_ ∧ own_s37_Q Z a10 f412 v398 a35 a29 f121 f167 f225 v8 v4 h0 n0 v_ V_.heap L_ ∧ FrameEnd U_ o_ V_ L_ ({ frames := 0, cells := 0, slots := 0, locals := 0 } : Room).cells ({ frames := 0, cells := 0, slots := 0, locals := 0 } : Room).slots) := by
  refine own_met (y := ⟨"com/example/rankline/rankline/Buckets", "halvesMeetCountFloor", "(IDJ)Z"⟩) (Q := own_s37_Q Z a10 f412 v398 a35 a29 f121 f167 f225 v8 v4 h0 n0) own_pn1 ?_
  intro p e s m below meth c s₁ hx hby hml hZ hown hnm hret hlk X0 e0
  have N0 := Fr.nil n0
  refine own_cast (g' := (mkF m 0 #[.val (.ref a10), .val (.int (2 : Int32)), .val (.double f412), .second, .val (.long v398), .second, .unset, .unset] [])) (by first | (simp [entryFrame, mkF, argsToLocals, Value.category]; done) | rfl) ?_
  generalize hL1 : (#[.val (.ref a10), .val (.int (2 : Int32)), .val (.double f412), .second, .val (.long v398), .second, .unset, .unset] : Array Slot) = L1
  refine own_ldcd X0 hx hZ hown (own_w hw 111 rfl) (hb hby d12_0) ?_
  show own_Go _ _ _ _ _ _ _ s₁ (mkF m 3 L1 [(.double (4487126258331716666 : UInt64))])
  refine own_pre (T' := s₁) (g' := (mkF m 5 L1 [(.long v398), (.double (4487126258331716666 : UInt64))])) (fun t k => XT.lload X0.here hx rfl (v := v398) (hb hby d12_3) (by rw [← hL1]; rfl) k) ?_
  obtain ⟨f2, hf2⟩ : ∃ z, FP.l2d v398 = z := ⟨_, rfl⟩
  refine own_pre (T' := s₁) (g' := (mkF m 6 L1 [(.double f2), (.double (4487126258331716666 : UInt64))])) (fun t k => XS.l2dS X0.here hx rfl (hb hby d12_5) rfl hf2 k) ?_
  have Df2 : FP.Core.DInt v398.toInt f2 := hf2 ▸ FP.Core.l2d_int (by omega)
  obtain ⟨f3, hf3⟩ : ∃ z, FP.dmul (4487126258331716666 : UInt64) f2 = z := ⟨_, rfl⟩
  have Df3 : FP.Core.val64 f3 ≠ .nan ∧ 0 < FP.Core.zval FP.Core.b64 (FP.Core.val64 f3) ∧ 2 * FP.Core.zval FP.Core.b64 (FP.Core.val64 f3) < (FP.Core.one64 : Int) := hf3 ▸ own_fl2 Df2 H138.1 H138.2
  have nnf3 : Jvm.Free.Fl.NoNaN64 f3 := Jvm.Free.Fl.val64_no.mpr Df3.1
  refine own_pre (T' := s₁) (g' := (mkF m 7 L1 [(.double f3)])) (fun t k => XS.dmulS X0.here hx rfl (hb hby d12_6) rfl (by rw [hf3]; exact nnf3) hf3 k) ?_
  refine own_pre (T' := s₁) (g' := (mkF m 9 #[.val (.ref a10), .val (.int (2 : Int32)), .val (.double f412), .second, .val (.long v398), .second, .val (.double f3), .second] [])) (fun t k => XS.dstore X0.here hx rfl (hb hby d12_7) rfl (l' := #[.val (.ref a10), .val (.int (2 : Int32)), .val (.double f412), .second, .val (.long v398), .second, .val (.double f3), .second]) (by rw [← hL1]; rfl) k) ?_
  generalize hL4 : (#[.val (.ref a10), .val (.int (2 : Int32)), .val (.double f412), .second, .val (.long v398), .second, .val (.double f3), .second] : Array Slot) = L4
  refine own_pre (T' := s₁) (g' := (mkF m 10 L4 [(.double f412)])) (fun t k => XS.dloadN X0.here hx rfl (v := f412) (hb hby d12_9) (by rw [← hL4]; rfl) k) ?_
  refine own_pre (T' := s₁) (g' := (mkF m 11 L4 [(.ref a10), (.double f412)])) (fun t k => XS.aloadN X0.here hx rfl (v := (.ref a10)) (hb hby d12_10) (by rw [← hL4]; rfl) rfl k) ?_
  refine own_getf X0 hx hZ hown (own_w hw 15 rfl) e0 H34 (hb hby d12_11) ?_
  intro T5 X5 e5
  show own_Go _ _ _ _ _ _ _ T5 (mkF m 14 L4 [(.ref a29), (.double f412)])
  refine own_pre (T' := T5) (g' := (mkF m 15 L4 [(.ref a10), (.ref a29), (.double f412)])) (fun t k => XS.aloadN X5.here hx rfl (v := (.ref a10)) (hb hby d12_14) (by rw [← hL4]; rfl) rfl k) ?_
  refine own_getf X5 hx hZ hown (own_w hw 32 rfl) e5 H40 (hb hby d12_15) ?_
  intro T6 X6 e6
  show own_Go _ _ _ _ _ _ _ T6 (mkF m 18 L4 [(.ref a35), (.ref a29), (.double f412)])
  refine own_pre (T' := T6) (g' := (mkF m 19 L4 [(.int (2 : Int32)), (.ref a35), (.ref a29), (.double f412)])) (fun t k => XS.iloadN X6.here hx rfl (v := (2 : Int32)) (hb hby d12_18) (by rw [← hL4]; rfl) k) ?_
  refine own_iaload X6 hx hZ e6 H25 (hb hby d12_19) (n := 2) (v := (.int (1 : Int32))) (by decide) (by decide) rfl ?_
  show own_Go _ _ _ _ _ _ _ T6 (mkF m 20 L4 [(.int (1 : Int32)), (.ref a29), (.double f412)])
  refine own_daload X6 hx hZ e6 H31 (hb hby d12_20) (n := 1) (v := (.double f167)) (by decide) (by decide) rfl ?_
  show own_Go _ _ _ _ _ _ _ T6 (mkF m 21 L4 [(.double f167), (.double f412)])
  obtain ⟨f7, hf7⟩ : ∃ z, FP.dsub f412 f167 = z := ⟨_, rfl⟩
  have Df7 : FP.Core.own_H (v8.toInt - v4.toInt) f7 := hf7 ▸ FP.Core.own_H_sub H132 H135 (by have := rng32 v8; have := rng32 v4; omega)
  refine own_pre (T' := T6) (g' := (mkF m 22 L4 [(.double f7)])) (fun t k => XS.dsubS X6.here hx rfl (hb hby d12_21) rfl (by rw [hf7]; exact Jvm.Free.Fl.val64_no.mpr Df7.nn) hf7 k) ?_
  refine own_pre (T' := T6) (g' := (mkF m 24 L4 [(.double f3), (.double f7)])) (fun t k => XS.dload X6.here hx rfl (v := f3) (hb hby d12_22) (by rw [← hL4]; rfl) k) ?_
  obtain ⟨k8, hk8⟩ : ∃ z, own_c (FP.Core.zval FP.Core.b64 (FP.Core.val64 f7)) (FP.Core.zval FP.Core.b64 (FP.Core.val64 f3)) = z := ⟨_, rfl⟩
  refine own_pre (T' := T6) (g' := (mkF m 25 L4 [(.int k8)])) (fun t k => XS.dcmpS X6.here hx rfl (hb hby d12_24) rfl ((own_dcmpz (Jvm.Free.Fl.val64_no.mpr Df7.nn) nnf3 _).trans hk8) k) ?_
  have clo : k8 < (0 : Int32) := by rw [← hk8, own_c_lt, (own_cmpn Df7 Df3.2)]; exact H139
  refine own_pre (T' := T6) (g' := (mkF m 46 L4 [])) (fun t k => XS.ifYes X6.here hx rfl (pc0 := 25) (pc' := 46) rfl (hb hby d12_25) rfl ((if0 _ _).trans (tlt clo).1) (by decide) (by decide) k) ?_
  refine own_pre (T' := T6) (g' := (mkF m 47 L4 [(.int (0 : Int32))])) (fun t k => XS.iconst X6.here hx rfl (hb hby d12_46) k) ?_
  exact own_retZ X6 hx hlk hret rfl (hb hby d12_47) e6 ⟨rfl, N0, rfl⟩ (by decide) (by decide)
def own_s38_Q (Z : State) (a10 : Addr) (f422 : UInt64) (v418 : Int64) (a35 : Addr) (a29 : Addr) (f121 : UInt64) (f167 : UInt64) (f225 : UInt64) (v8 : Int32) (v4 : Int32) (v416 : Int64) (h0 : Heap) (n0 : Nat) (v_ : Option Value) (h_ : Heap) (L_ : List Loc) : Prop := (fun v h L => v = some (.int (0 : Int32)) ∧ Fr n0 L ∧ h = h0) v_ h_ L_
set_option maxRecDepth 65536 in
set_option maxHeartbeats 40000000 in
theorem own_s38 (l : Launch) (Z : State) (a0 : Array Value) (hw : ∀ d ∈ tables_1, d.before a0 Z = true) (wds : List Jvm.Cond) (a10 : Addr) (f422 : UInt64) (v418 : Int64) (a35 : Addr) (a29 : Addr) (f121 : UInt64) (f167 : UInt64) (f225 : UInt64) (v8 : Int32) (v4 : Int32) (v416 : Int64) (h0 : Heap) (n0 : Nat) (Z0 : n0 ≤ h0.size) (H25 : own_Ary Z h0 a35 .int [(.int (-1 : Int32)), (.int (0 : Int32)), (.int (1 : Int32)), (.int (0 : Int32)), (.int (0 : Int32)), (.int (0 : Int32)), (.int (0 : Int32)), (.int (0 : Int32)), (.int (0 : Int32)), (.int (0 : Int32)), (.int (0 : Int32)), (.int (0 : Int32)), (.int (0 : Int32)), (.int (0 : Int32)), (.int (0 : Int32)), (.int (0 : Int32))]) (H31 : own_Ary Z h0 a29 .double [(.double f121), (.double f167), (.double f225), (.double (0 : UInt64)), (.double (0 : UInt64)), (.double (0 : UInt64)), (.double (0 : UInt64)), (.double (0 : UInt64)), (.double (0 : UInt64)), (.double (0 : UInt64)), (.double (0 : UInt64)), (.double (0 : UInt64)), (.double (0 : UInt64)), (.double (0 : UInt64)), (.double (0 : UInt64)), (.double (0 : UInt64))]) (H34 : Fld Z h0 a10 "com/example/rankline/rankline/Buckets" "ranks" "[D" (.ref a29)) (H40 : Fld Z h0 a10 "com/example/rankline/rankline/Buckets" "previousOf" "[I" (.ref a35)) (H132 : FP.Core.own_H v8.toInt f422) (H135 : FP.Core.own_H v4.toInt f167) (H138 : v418.toInt = v416.toInt * 100000000 ∧ 0 ≤ v416.toInt ∧ v416.toInt < 524288) (H139 : v8.toInt - v4.toInt < 2 * v416.toInt) :
    MetFree l (⟨"com/example/rankline/rankline/Buckets", "halvesMeetCountFloor", "(IDJ)Z"⟩ : MethodName) (head1 (Jvm.Cond.code (⟨"com/example/rankline/rankline/Buckets", "halvesMeetCountFloor", "(IDJ)Z"⟩ : MethodName) prog_5_method_43_code 8 (some .boolean) :: wds) ({ frames := 0, cells := 0, slots := 0, locals := 0 } : Room)) (fun ar_ U_ => ar_ = #[(.ref a10), (.int (2 : Int32)), (.double f422), (.long v418)] ∧ Z.Warmed39 U_.vm ∧ U_.heap = h0) (fun _ _ _ _ _ => True) (fun _ U_ o_ V_ => ∃ v_ L_, o_ = .returned v_ ∧ own_s38_Q Z a10 f422 v418 a35 a29 f121 f167 f225 v8 v4 v416 h0 n0 v_ V_.heap L_ ∧ FrameEnd U_ o_ V_ L_ ({ frames := 0, cells := 0, slots := 0, locals := 0 } : Room).cells ({ frames := 0, cells := 0, slots := 0, locals := 0 } : Room).slots) := by
  refine own_met (y := ⟨"com/example/rankline/rankline/Buckets", "halvesMeetCountFloor", "(IDJ)Z"⟩) (Q := own_s38_Q Z a10 f422 v418 a35 a29 f121 f167 f225 v8 v4 v416 h0 n0) own_pn1 ?_
  intro p e s m below meth c s₁ hx hby hml hZ hown hnm hret hlk X0 e0
  have N0 := Fr.nil n0
  refine own_cast (g' := (mkF m 0 #[.val (.ref a10), .val (.int (2 : Int32)), .val (.double f422), .second, .val (.long v418), .second, .unset, .unset] [])) (by first | (simp [entryFrame, mkF, argsToLocals, Value.category]; done) | rfl) ?_
  generalize hL1 : (#[.val (.ref a10), .val (.int (2 : Int32)), .val (.double f422), .second, .val (.long v418), .second, .unset, .unset] : Array Slot) = L1
  refine own_ldcd X0 hx hZ hown (own_w hw 111 rfl) (hb hby d12_0) ?_
  show own_Go _ _ _ _ _ _ _ s₁ (mkF m 3 L1 [(.double (4487126258331716666 : UInt64))])
  refine own_pre (T' := s₁) (g' := (mkF m 5 L1 [(.long v418), (.double (4487126258331716666 : UInt64))])) (fun t k => XT.lload X0.here hx rfl (v := v418) (hb hby d12_3) (by rw [← hL1]; rfl) k) ?_
  obtain ⟨f2, hf2⟩ : ∃ z, FP.l2d v418 = z := ⟨_, rfl⟩
  refine own_pre (T' := s₁) (g' := (mkF m 6 L1 [(.double f2), (.double (4487126258331716666 : UInt64))])) (fun t k => XS.l2dS X0.here hx rfl (hb hby d12_5) rfl hf2 k) ?_
  have Df2 : FP.Core.DInt v418.toInt f2 := hf2 ▸ FP.Core.l2d_int (by omega)
  obtain ⟨f3, hf3⟩ : ∃ z, FP.dmul (4487126258331716666 : UInt64) f2 = z := ⟨_, rfl⟩
  have Df3 : FP.Core.DInt v416.toInt f3 := hf3 ▸ own_fl Df2 H138.1 H138.2.1 H138.2.2
  have nnf3 : Jvm.Free.Fl.NoNaN64 f3 := own_DInt_nn Df3
  refine own_pre (T' := s₁) (g' := (mkF m 7 L1 [(.double f3)])) (fun t k => XS.dmulS X0.here hx rfl (hb hby d12_6) rfl (by rw [hf3]; exact nnf3) hf3 k) ?_
  refine own_pre (T' := s₁) (g' := (mkF m 9 #[.val (.ref a10), .val (.int (2 : Int32)), .val (.double f422), .second, .val (.long v418), .second, .val (.double f3), .second] [])) (fun t k => XS.dstore X0.here hx rfl (hb hby d12_7) rfl (l' := #[.val (.ref a10), .val (.int (2 : Int32)), .val (.double f422), .second, .val (.long v418), .second, .val (.double f3), .second]) (by rw [← hL1]; rfl) k) ?_
  generalize hL4 : (#[.val (.ref a10), .val (.int (2 : Int32)), .val (.double f422), .second, .val (.long v418), .second, .val (.double f3), .second] : Array Slot) = L4
  refine own_pre (T' := s₁) (g' := (mkF m 10 L4 [(.double f422)])) (fun t k => XS.dloadN X0.here hx rfl (v := f422) (hb hby d12_9) (by rw [← hL4]; rfl) k) ?_
  refine own_pre (T' := s₁) (g' := (mkF m 11 L4 [(.ref a10), (.double f422)])) (fun t k => XS.aloadN X0.here hx rfl (v := (.ref a10)) (hb hby d12_10) (by rw [← hL4]; rfl) rfl k) ?_
  refine own_getf X0 hx hZ hown (own_w hw 15 rfl) e0 H34 (hb hby d12_11) ?_
  intro T5 X5 e5
  show own_Go _ _ _ _ _ _ _ T5 (mkF m 14 L4 [(.ref a29), (.double f422)])
  refine own_pre (T' := T5) (g' := (mkF m 15 L4 [(.ref a10), (.ref a29), (.double f422)])) (fun t k => XS.aloadN X5.here hx rfl (v := (.ref a10)) (hb hby d12_14) (by rw [← hL4]; rfl) rfl k) ?_
  refine own_getf X5 hx hZ hown (own_w hw 32 rfl) e5 H40 (hb hby d12_15) ?_
  intro T6 X6 e6
  show own_Go _ _ _ _ _ _ _ T6 (mkF m 18 L4 [(.ref a35), (.ref a29), (.double f422)])
  refine own_pre (T' := T6) (g' := (mkF m 19 L4 [(.int (2 : Int32)), (.ref a35), (.ref a29), (.double f422)])) (fun t k => XS.iloadN X6.here hx rfl (v := (2 : Int32)) (hb hby d12_18) (by rw [← hL4]; rfl) k) ?_
  refine own_iaload X6 hx hZ e6 H25 (hb hby d12_19) (n := 2) (v := (.int (1 : Int32))) (by decide) (by decide) rfl ?_
  show own_Go _ _ _ _ _ _ _ T6 (mkF m 20 L4 [(.int (1 : Int32)), (.ref a29), (.double f422)])
  refine own_daload X6 hx hZ e6 H31 (hb hby d12_20) (n := 1) (v := (.double f167)) (by decide) (by decide) rfl ?_
  show own_Go _ _ _ _ _ _ _ T6 (mkF m 21 L4 [(.double f167), (.double f422)])
  obtain ⟨f7, hf7⟩ : ∃ z, FP.dsub f422 f167 = z := ⟨_, rfl⟩
  have Df7 : FP.Core.own_H (v8.toInt - v4.toInt) f7 := hf7 ▸ FP.Core.own_H_sub H132 H135 (by have := rng32 v8; have := rng32 v4; omega)
  refine own_pre (T' := T6) (g' := (mkF m 22 L4 [(.double f7)])) (fun t k => XS.dsubS X6.here hx rfl (hb hby d12_21) rfl (by rw [hf7]; exact Jvm.Free.Fl.val64_no.mpr Df7.nn) hf7 k) ?_
  refine own_pre (T' := T6) (g' := (mkF m 24 L4 [(.double f3), (.double f7)])) (fun t k => XS.dload X6.here hx rfl (v := f3) (hb hby d12_22) (by rw [← hL4]; rfl) k) ?_
  obtain ⟨k8, hk8⟩ : ∃ z, own_c (FP.Core.zval FP.Core.b64 (FP.Core.val64 f7)) (FP.Core.zval FP.Core.b64 (FP.Core.val64 f3)) = z := ⟨_, rfl⟩
  refine own_pre (T' := T6) (g' := (mkF m 25 L4 [(.int k8)])) (fun t k => XS.dcmpS X6.here hx rfl (hb hby d12_24) rfl ((own_dcmpz (Jvm.Free.Fl.val64_no.mpr Df7.nn) nnf3 _).trans hk8) k) ?_
  have clo : k8 < (0 : Int32) := by rw [← hk8, own_c_lt, (own_cmpw Df7 Df3)]; exact H139
  refine own_pre (T' := T6) (g' := (mkF m 46 L4 [])) (fun t k => XS.ifYes X6.here hx rfl (pc0 := 25) (pc' := 46) rfl (hb hby d12_25) rfl ((if0 _ _).trans (tlt clo).1) (by decide) (by decide) k) ?_
  refine own_pre (T' := T6) (g' := (mkF m 47 L4 [(.int (0 : Int32))])) (fun t k => XS.iconst X6.here hx rfl (hb hby d12_46) k) ?_
  exact own_retZ X6 hx hlk hret rfl (hb hby d12_47) e6 ⟨rfl, N0, rfl⟩ (by decide) (by decide)
def own_s39_Q (Z : State) (a10 : Addr) (f427 : UInt64) (v418 : Int64) (a35 : Addr) (a29 : Addr) (f121 : UInt64) (f167 : UInt64) (f225 : UInt64) (v8 : Int32) (v4 : Int32) (v6 : Int32) (v416 : Int64) (h0 : Heap) (n0 : Nat) (v_ : Option Value) (h_ : Heap) (L_ : List Loc) : Prop := (fun v h L => v = some (.int (0 : Int32)) ∧ Fr n0 L ∧ h = h0) v_ h_ L_
set_option maxRecDepth 65536 in
set_option maxHeartbeats 40000000 in
theorem own_s39 (l : Launch) (Z : State) (a0 : Array Value) (hw : ∀ d ∈ tables_1, d.before a0 Z = true) (wds : List Jvm.Cond) (a10 : Addr) (f427 : UInt64) (v418 : Int64) (a35 : Addr) (a29 : Addr) (f121 : UInt64) (f167 : UInt64) (f225 : UInt64) (v8 : Int32) (v4 : Int32) (v6 : Int32) (v416 : Int64) (h0 : Heap) (n0 : Nat) (Z0 : n0 ≤ h0.size) (H25 : own_Ary Z h0 a35 .int [(.int (-1 : Int32)), (.int (0 : Int32)), (.int (1 : Int32)), (.int (0 : Int32)), (.int (0 : Int32)), (.int (0 : Int32)), (.int (0 : Int32)), (.int (0 : Int32)), (.int (0 : Int32)), (.int (0 : Int32)), (.int (0 : Int32)), (.int (0 : Int32)), (.int (0 : Int32)), (.int (0 : Int32)), (.int (0 : Int32)), (.int (0 : Int32))]) (H31 : own_Ary Z h0 a29 .double [(.double f121), (.double f167), (.double f225), (.double (0 : UInt64)), (.double (0 : UInt64)), (.double (0 : UInt64)), (.double (0 : UInt64)), (.double (0 : UInt64)), (.double (0 : UInt64)), (.double (0 : UInt64)), (.double (0 : UInt64)), (.double (0 : UInt64)), (.double (0 : UInt64)), (.double (0 : UInt64)), (.double (0 : UInt64)), (.double (0 : UInt64))]) (H34 : Fld Z h0 a10 "com/example/rankline/rankline/Buckets" "ranks" "[D" (.ref a29)) (H40 : Fld Z h0 a10 "com/example/rankline/rankline/Buckets" "previousOf" "[I" (.ref a35)) (H132 : FP.Core.own_H v8.toInt f427) (H135 : FP.Core.own_H v4.toInt f167) (H136 : FP.Core.own_H v6.toInt f225) (H138 : v418.toInt = v416.toInt * 100000000 ∧ 0 ≤ v416.toInt ∧ v416.toInt < 524288) (H139 : ¬ (v8.toInt - v4.toInt < 2 * v416.toInt)) (H140 : v6.toInt - v8.toInt < 2 * v416.toInt) :
    MetFree l (⟨"com/example/rankline/rankline/Buckets", "halvesMeetCountFloor", "(IDJ)Z"⟩ : MethodName) (head1 (Jvm.Cond.code (⟨"com/example/rankline/rankline/Buckets", "halvesMeetCountFloor", "(IDJ)Z"⟩ : MethodName) prog_5_method_43_code 8 (some .boolean) :: wds) ({ frames := 0, cells := 0, slots := 0, locals := 0 } : Room)) (fun ar_ U_ => ar_ = #[(.ref a10), (.int (2 : Int32)), (.double f427), (.long v418)] ∧ Z.Warmed39 U_.vm ∧ U_.heap = h0) (fun _ _ _ _ _ => True) (fun _ U_ o_ V_ => ∃ v_ L_, o_ = .returned v_ ∧ own_s39_Q Z a10 f427 v418 a35 a29 f121 f167 f225 v8 v4 v6 v416 h0 n0 v_ V_.heap L_ ∧ FrameEnd U_ o_ V_ L_ ({ frames := 0, cells := 0, slots := 0, locals := 0 } : Room).cells ({ frames := 0, cells := 0, slots := 0, locals := 0 } : Room).slots) := by
  refine own_met (y := ⟨"com/example/rankline/rankline/Buckets", "halvesMeetCountFloor", "(IDJ)Z"⟩) (Q := own_s39_Q Z a10 f427 v418 a35 a29 f121 f167 f225 v8 v4 v6 v416 h0 n0) own_pn1 ?_
  intro p e s m below meth c s₁ hx hby hml hZ hown hnm hret hlk X0 e0
  have N0 := Fr.nil n0
  refine own_cast (g' := (mkF m 0 #[.val (.ref a10), .val (.int (2 : Int32)), .val (.double f427), .second, .val (.long v418), .second, .unset, .unset] [])) (by first | (simp [entryFrame, mkF, argsToLocals, Value.category]; done) | rfl) ?_
  generalize hL1 : (#[.val (.ref a10), .val (.int (2 : Int32)), .val (.double f427), .second, .val (.long v418), .second, .unset, .unset] : Array Slot) = L1
  refine own_ldcd X0 hx hZ hown (own_w hw 111 rfl) (hb hby d12_0) ?_
  show own_Go _ _ _ _ _ _ _ s₁ (mkF m 3 L1 [(.double (4487126258331716666 : UInt64))])
  refine own_pre (T' := s₁) (g' := (mkF m 5 L1 [(.long v418), (.double (4487126258331716666 : UInt64))])) (fun t k => XT.lload X0.here hx rfl (v := v418) (hb hby d12_3) (by rw [← hL1]; rfl) k) ?_
  obtain ⟨f2, hf2⟩ : ∃ z, FP.l2d v418 = z := ⟨_, rfl⟩
  refine own_pre (T' := s₁) (g' := (mkF m 6 L1 [(.double f2), (.double (4487126258331716666 : UInt64))])) (fun t k => XS.l2dS X0.here hx rfl (hb hby d12_5) rfl hf2 k) ?_
  have Df2 : FP.Core.DInt v418.toInt f2 := hf2 ▸ FP.Core.l2d_int (by omega)
  obtain ⟨f3, hf3⟩ : ∃ z, FP.dmul (4487126258331716666 : UInt64) f2 = z := ⟨_, rfl⟩
  have Df3 : FP.Core.DInt v416.toInt f3 := hf3 ▸ own_fl Df2 H138.1 H138.2.1 H138.2.2
  have nnf3 : Jvm.Free.Fl.NoNaN64 f3 := own_DInt_nn Df3
  refine own_pre (T' := s₁) (g' := (mkF m 7 L1 [(.double f3)])) (fun t k => XS.dmulS X0.here hx rfl (hb hby d12_6) rfl (by rw [hf3]; exact nnf3) hf3 k) ?_
  refine own_pre (T' := s₁) (g' := (mkF m 9 #[.val (.ref a10), .val (.int (2 : Int32)), .val (.double f427), .second, .val (.long v418), .second, .val (.double f3), .second] [])) (fun t k => XS.dstore X0.here hx rfl (hb hby d12_7) rfl (l' := #[.val (.ref a10), .val (.int (2 : Int32)), .val (.double f427), .second, .val (.long v418), .second, .val (.double f3), .second]) (by rw [← hL1]; rfl) k) ?_
  generalize hL4 : (#[.val (.ref a10), .val (.int (2 : Int32)), .val (.double f427), .second, .val (.long v418), .second, .val (.double f3), .second] : Array Slot) = L4
  refine own_pre (T' := s₁) (g' := (mkF m 10 L4 [(.double f427)])) (fun t k => XS.dloadN X0.here hx rfl (v := f427) (hb hby d12_9) (by rw [← hL4]; rfl) k) ?_
  refine own_pre (T' := s₁) (g' := (mkF m 11 L4 [(.ref a10), (.double f427)])) (fun t k => XS.aloadN X0.here hx rfl (v := (.ref a10)) (hb hby d12_10) (by rw [← hL4]; rfl) rfl k) ?_
  refine own_getf X0 hx hZ hown (own_w hw 15 rfl) e0 H34 (hb hby d12_11) ?_
  intro T5 X5 e5
  show own_Go _ _ _ _ _ _ _ T5 (mkF m 14 L4 [(.ref a29), (.double f427)])
  refine own_pre (T' := T5) (g' := (mkF m 15 L4 [(.ref a10), (.ref a29), (.double f427)])) (fun t k => XS.aloadN X5.here hx rfl (v := (.ref a10)) (hb hby d12_14) (by rw [← hL4]; rfl) rfl k) ?_
  refine own_getf X5 hx hZ hown (own_w hw 32 rfl) e5 H40 (hb hby d12_15) ?_
  intro T6 X6 e6
  show own_Go _ _ _ _ _ _ _ T6 (mkF m 18 L4 [(.ref a35), (.ref a29), (.double f427)])
  refine own_pre (T' := T6) (g' := (mkF m 19 L4 [(.int (2 : Int32)), (.ref a35), (.ref a29), (.double f427)])) (fun t k => XS.iloadN X6.here hx rfl (v := (2 : Int32)) (hb hby d12_18) (by rw [← hL4]; rfl) k) ?_
  refine own_iaload X6 hx hZ e6 H25 (hb hby d12_19) (n := 2) (v := (.int (1 : Int32))) (by decide) (by decide) rfl ?_
  show own_Go _ _ _ _ _ _ _ T6 (mkF m 20 L4 [(.int (1 : Int32)), (.ref a29), (.double f427)])
  refine own_daload X6 hx hZ e6 H31 (hb hby d12_20) (n := 1) (v := (.double f167)) (by decide) (by decide) rfl ?_
  show own_Go _ _ _ _ _ _ _ T6 (mkF m 21 L4 [(.double f167), (.double f427)])
  obtain ⟨f7, hf7⟩ : ∃ z, FP.dsub f427 f167 = z := ⟨_, rfl⟩
  have Df7 : FP.Core.own_H (v8.toInt - v4.toInt) f7 := hf7 ▸ FP.Core.own_H_sub H132 H135 (by have := rng32 v8; have := rng32 v4; omega)
  refine own_pre (T' := T6) (g' := (mkF m 22 L4 [(.double f7)])) (fun t k => XS.dsubS X6.here hx rfl (hb hby d12_21) rfl (by rw [hf7]; exact Jvm.Free.Fl.val64_no.mpr Df7.nn) hf7 k) ?_
  refine own_pre (T' := T6) (g' := (mkF m 24 L4 [(.double f3), (.double f7)])) (fun t k => XS.dload X6.here hx rfl (v := f3) (hb hby d12_22) (by rw [← hL4]; rfl) k) ?_
  obtain ⟨k8, hk8⟩ : ∃ z, own_c (FP.Core.zval FP.Core.b64 (FP.Core.val64 f7)) (FP.Core.zval FP.Core.b64 (FP.Core.val64 f3)) = z := ⟨_, rfl⟩
  refine own_pre (T' := T6) (g' := (mkF m 25 L4 [(.int k8)])) (fun t k => XS.dcmpS X6.here hx rfl (hb hby d12_24) rfl ((own_dcmpz (Jvm.Free.Fl.val64_no.mpr Df7.nn) nnf3 _).trans hk8) k) ?_
  have clo : ¬ k8 < (0 : Int32) := by rw [← hk8, own_c_lt, (own_cmpw Df7 Df3)]; exact H139
  refine own_pre (T' := T6) (g' := (mkF m 28 L4 [])) (fun t k => XS.ifNo X6.here hx rfl (hb hby d12_25) rfl ((if0 _ _).trans (flt clo).1) k) ?_
  refine own_pre (T' := T6) (g' := (mkF m 29 L4 [(.ref a10)])) (fun t k => XS.aloadN X6.here hx rfl (v := (.ref a10)) (hb hby d12_28) (by rw [← hL4]; rfl) rfl k) ?_
  refine own_getf X6 hx hZ hown (own_w hw 15 rfl) e6 H34 (hb hby d12_29) ?_
  intro T9 X9 e9
  show own_Go _ _ _ _ _ _ _ T9 (mkF m 32 L4 [(.ref a29)])
  refine own_pre (T' := T9) (g' := (mkF m 33 L4 [(.int (2 : Int32)), (.ref a29)])) (fun t k => XS.iloadN X9.here hx rfl (v := (2 : Int32)) (hb hby d12_32) (by rw [← hL4]; rfl) k) ?_
  refine own_daload X9 hx hZ e9 H31 (hb hby d12_33) (n := 2) (v := (.double f225)) (by decide) (by decide) rfl ?_
  show own_Go _ _ _ _ _ _ _ T9 (mkF m 34 L4 [(.double f225)])
  refine own_pre (T' := T9) (g' := (mkF m 35 L4 [(.double f427), (.double f225)])) (fun t k => XS.dloadN X9.here hx rfl (v := f427) (hb hby d12_34) (by rw [← hL4]; rfl) k) ?_
  obtain ⟨f10, hf10⟩ : ∃ z, FP.dsub f225 f427 = z := ⟨_, rfl⟩
  have Df10 : FP.Core.own_H (v6.toInt - v8.toInt) f10 := hf10 ▸ FP.Core.own_H_sub H136 H132 (by have := rng32 v6; have := rng32 v8; omega)
  refine own_pre (T' := T9) (g' := (mkF m 36 L4 [(.double f10)])) (fun t k => XS.dsubS X9.here hx rfl (hb hby d12_35) rfl (by rw [hf10]; exact Jvm.Free.Fl.val64_no.mpr Df10.nn) hf10 k) ?_
  refine own_pre (T' := T9) (g' := (mkF m 38 L4 [(.double f3), (.double f10)])) (fun t k => XS.dload X9.here hx rfl (v := f3) (hb hby d12_36) (by rw [← hL4]; rfl) k) ?_
  obtain ⟨k11, hk11⟩ : ∃ z, own_c (FP.Core.zval FP.Core.b64 (FP.Core.val64 f10)) (FP.Core.zval FP.Core.b64 (FP.Core.val64 f3)) = z := ⟨_, rfl⟩
  refine own_pre (T' := T9) (g' := (mkF m 39 L4 [(.int k11)])) (fun t k => XS.dcmpS X9.here hx rfl (hb hby d12_38) rfl ((own_dcmpz (Jvm.Free.Fl.val64_no.mpr Df10.nn) nnf3 _).trans hk11) k) ?_
  have chi : k11 < (0 : Int32) := by rw [← hk11, own_c_lt, (own_cmpw Df10 Df3)]; exact H140
  refine own_pre (T' := T9) (g' := (mkF m 46 L4 [])) (fun t k => XS.ifYes X9.here hx rfl (pc0 := 39) (pc' := 46) rfl (hb hby d12_39) rfl ((if0 _ _).trans (tlt chi).1) (by decide) (by decide) k) ?_
  refine own_pre (T' := T9) (g' := (mkF m 47 L4 [(.int (0 : Int32))])) (fun t k => XS.iconst X9.here hx rfl (hb hby d12_46) k) ?_
  exact own_retZ X9 hx hlk hret rfl (hb hby d12_47) e9 ⟨rfl, N0, rfl⟩ (by decide) (by decide)
def own_s40_Q (Z : State) (a10 : Addr) (f432 : UInt64) (v418 : Int64) (a35 : Addr) (a29 : Addr) (f121 : UInt64) (f167 : UInt64) (f225 : UInt64) (v8 : Int32) (v4 : Int32) (v6 : Int32) (v416 : Int64) (h0 : Heap) (n0 : Nat) (v_ : Option Value) (h_ : Heap) (L_ : List Loc) : Prop := (fun v h L => v = some (.int (1 : Int32)) ∧ Fr n0 L ∧ h = h0) v_ h_ L_
set_option maxRecDepth 65536 in
set_option maxHeartbeats 40000000 in
theorem own_s40 (l : Launch) (Z : State) (a0 : Array Value) (hw : ∀ d ∈ tables_1, d.before a0 Z = true) (wds : List Jvm.Cond) (a10 : Addr) (f432 : UInt64) (v418 : Int64) (a35 : Addr) (a29 : Addr) (f121 : UInt64) (f167 : UInt64) (f225 : UInt64) (v8 : Int32) (v4 : Int32) (v6 : Int32) (v416 : Int64) (h0 : Heap) (n0 : Nat) (Z0 : n0 ≤ h0.size) (H25 : own_Ary Z h0 a35 .int [(.int (-1 : Int32)), (.int (0 : Int32)), (.int (1 : Int32)), (.int (0 : Int32)), (.int (0 : Int32)), (.int (0 : Int32)), (.int (0 : Int32)), (.int (0 : Int32)), (.int (0 : Int32)), (.int (0 : Int32)), (.int (0 : Int32)), (.int (0 : Int32)), (.int (0 : Int32)), (.int (0 : Int32)), (.int (0 : Int32)), (.int (0 : Int32))]) (H31 : own_Ary Z h0 a29 .double [(.double f121), (.double f167), (.double f225), (.double (0 : UInt64)), (.double (0 : UInt64)), (.double (0 : UInt64)), (.double (0 : UInt64)), (.double (0 : UInt64)), (.double (0 : UInt64)), (.double (0 : UInt64)), (.double (0 : UInt64)), (.double (0 : UInt64)), (.double (0 : UInt64)), (.double (0 : UInt64)), (.double (0 : UInt64)), (.double (0 : UInt64))]) (H34 : Fld Z h0 a10 "com/example/rankline/rankline/Buckets" "ranks" "[D" (.ref a29)) (H40 : Fld Z h0 a10 "com/example/rankline/rankline/Buckets" "previousOf" "[I" (.ref a35)) (H132 : FP.Core.own_H v8.toInt f432) (H135 : FP.Core.own_H v4.toInt f167) (H136 : FP.Core.own_H v6.toInt f225) (H138 : v418.toInt = v416.toInt * 100000000 ∧ 0 ≤ v416.toInt ∧ v416.toInt < 524288) (H139 : ¬ (v8.toInt - v4.toInt < 2 * v416.toInt)) (H140 : ¬ (v6.toInt - v8.toInt < 2 * v416.toInt)) :
    MetFree l (⟨"com/example/rankline/rankline/Buckets", "halvesMeetCountFloor", "(IDJ)Z"⟩ : MethodName) (head1 (Jvm.Cond.code (⟨"com/example/rankline/rankline/Buckets", "halvesMeetCountFloor", "(IDJ)Z"⟩ : MethodName) prog_5_method_43_code 8 (some .boolean) :: wds) ({ frames := 0, cells := 0, slots := 0, locals := 0 } : Room)) (fun ar_ U_ => ar_ = #[(.ref a10), (.int (2 : Int32)), (.double f432), (.long v418)] ∧ Z.Warmed39 U_.vm ∧ U_.heap = h0) (fun _ _ _ _ _ => True) (fun _ U_ o_ V_ => ∃ v_ L_, o_ = .returned v_ ∧ own_s40_Q Z a10 f432 v418 a35 a29 f121 f167 f225 v8 v4 v6 v416 h0 n0 v_ V_.heap L_ ∧ FrameEnd U_ o_ V_ L_ ({ frames := 0, cells := 0, slots := 0, locals := 0 } : Room).cells ({ frames := 0, cells := 0, slots := 0, locals := 0 } : Room).slots) := by
  refine own_met (y := ⟨"com/example/rankline/rankline/Buckets", "halvesMeetCountFloor", "(IDJ)Z"⟩) (Q := own_s40_Q Z a10 f432 v418 a35 a29 f121 f167 f225 v8 v4 v6 v416 h0 n0) own_pn1 ?_
  intro p e s m below meth c s₁ hx hby hml hZ hown hnm hret hlk X0 e0
  have N0 := Fr.nil n0
  refine own_cast (g' := (mkF m 0 #[.val (.ref a10), .val (.int (2 : Int32)), .val (.double f432), .second, .val (.long v418), .second, .unset, .unset] [])) (by first | (simp [entryFrame, mkF, argsToLocals, Value.category]; done) | rfl) ?_
  generalize hL1 : (#[.val (.ref a10), .val (.int (2 : Int32)), .val (.double f432), .second, .val (.long v418), .second, .unset, .unset] : Array Slot) = L1
  refine own_ldcd X0 hx hZ hown (own_w hw 111 rfl) (hb hby d12_0) ?_
  show own_Go _ _ _ _ _ _ _ s₁ (mkF m 3 L1 [(.double (4487126258331716666 : UInt64))])
  refine own_pre (T' := s₁) (g' := (mkF m 5 L1 [(.long v418), (.double (4487126258331716666 : UInt64))])) (fun t k => XT.lload X0.here hx rfl (v := v418) (hb hby d12_3) (by rw [← hL1]; rfl) k) ?_
  obtain ⟨f2, hf2⟩ : ∃ z, FP.l2d v418 = z := ⟨_, rfl⟩
  refine own_pre (T' := s₁) (g' := (mkF m 6 L1 [(.double f2), (.double (4487126258331716666 : UInt64))])) (fun t k => XS.l2dS X0.here hx rfl (hb hby d12_5) rfl hf2 k) ?_
  have Df2 : FP.Core.DInt v418.toInt f2 := hf2 ▸ FP.Core.l2d_int (by omega)
  obtain ⟨f3, hf3⟩ : ∃ z, FP.dmul (4487126258331716666 : UInt64) f2 = z := ⟨_, rfl⟩
  have Df3 : FP.Core.DInt v416.toInt f3 := hf3 ▸ own_fl Df2 H138.1 H138.2.1 H138.2.2
  have nnf3 : Jvm.Free.Fl.NoNaN64 f3 := own_DInt_nn Df3
  refine own_pre (T' := s₁) (g' := (mkF m 7 L1 [(.double f3)])) (fun t k => XS.dmulS X0.here hx rfl (hb hby d12_6) rfl (by rw [hf3]; exact nnf3) hf3 k) ?_
  refine own_pre (T' := s₁) (g' := (mkF m 9 #[.val (.ref a10), .val (.int (2 : Int32)), .val (.double f432), .second, .val (.long v418), .second, .val (.double f3), .second] [])) (fun t k => XS.dstore X0.here hx rfl (hb hby d12_7) rfl (l' := #[.val (.ref a10), .val (.int (2 : Int32)), .val (.double f432), .second, .val (.long v418), .second, .val (.double f3), .second]) (by rw [← hL1]; rfl) k) ?_
  generalize hL4 : (#[.val (.ref a10), .val (.int (2 : Int32)), .val (.double f432), .second, .val (.long v418), .second, .val (.double f3), .second] : Array Slot) = L4
  refine own_pre (T' := s₁) (g' := (mkF m 10 L4 [(.double f432)])) (fun t k => XS.dloadN X0.here hx rfl (v := f432) (hb hby d12_9) (by rw [← hL4]; rfl) k) ?_
  refine own_pre (T' := s₁) (g' := (mkF m 11 L4 [(.ref a10), (.double f432)])) (fun t k => XS.aloadN X0.here hx rfl (v := (.ref a10)) (hb hby d12_10) (by rw [← hL4]; rfl) rfl k) ?_
  refine own_getf X0 hx hZ hown (own_w hw 15 rfl) e0 H34 (hb hby d12_11) ?_
  intro T5 X5 e5
  show own_Go _ _ _ _ _ _ _ T5 (mkF m 14 L4 [(.ref a29), (.double f432)])
  refine own_pre (T' := T5) (g' := (mkF m 15 L4 [(.ref a10), (.ref a29), (.double f432)])) (fun t k => XS.aloadN X5.here hx rfl (v := (.ref a10)) (hb hby d12_14) (by rw [← hL4]; rfl) rfl k) ?_
  refine own_getf X5 hx hZ hown (own_w hw 32 rfl) e5 H40 (hb hby d12_15) ?_
  intro T6 X6 e6
  show own_Go _ _ _ _ _ _ _ T6 (mkF m 18 L4 [(.ref a35), (.ref a29), (.double f432)])
  refine own_pre (T' := T6) (g' := (mkF m 19 L4 [(.int (2 : Int32)), (.ref a35), (.ref a29), (.double f432)])) (fun t k => XS.iloadN X6.here hx rfl (v := (2 : Int32)) (hb hby d12_18) (by rw [← hL4]; rfl) k) ?_
  refine own_iaload X6 hx hZ e6 H25 (hb hby d12_19) (n := 2) (v := (.int (1 : Int32))) (by decide) (by decide) rfl ?_
  show own_Go _ _ _ _ _ _ _ T6 (mkF m 20 L4 [(.int (1 : Int32)), (.ref a29), (.double f432)])
  refine own_daload X6 hx hZ e6 H31 (hb hby d12_20) (n := 1) (v := (.double f167)) (by decide) (by decide) rfl ?_
  show own_Go _ _ _ _ _ _ _ T6 (mkF m 21 L4 [(.double f167), (.double f432)])
  obtain ⟨f7, hf7⟩ : ∃ z, FP.dsub f432 f167 = z := ⟨_, rfl⟩
  have Df7 : FP.Core.own_H (v8.toInt - v4.toInt) f7 := hf7 ▸ FP.Core.own_H_sub H132 H135 (by have := rng32 v8; have := rng32 v4; omega)
  refine own_pre (T' := T6) (g' := (mkF m 22 L4 [(.double f7)])) (fun t k => XS.dsubS X6.here hx rfl (hb hby d12_21) rfl (by rw [hf7]; exact Jvm.Free.Fl.val64_no.mpr Df7.nn) hf7 k) ?_
  refine own_pre (T' := T6) (g' := (mkF m 24 L4 [(.double f3), (.double f7)])) (fun t k => XS.dload X6.here hx rfl (v := f3) (hb hby d12_22) (by rw [← hL4]; rfl) k) ?_
  obtain ⟨k8, hk8⟩ : ∃ z, own_c (FP.Core.zval FP.Core.b64 (FP.Core.val64 f7)) (FP.Core.zval FP.Core.b64 (FP.Core.val64 f3)) = z := ⟨_, rfl⟩
  refine own_pre (T' := T6) (g' := (mkF m 25 L4 [(.int k8)])) (fun t k => XS.dcmpS X6.here hx rfl (hb hby d12_24) rfl ((own_dcmpz (Jvm.Free.Fl.val64_no.mpr Df7.nn) nnf3 _).trans hk8) k) ?_
  have clo : ¬ k8 < (0 : Int32) := by rw [← hk8, own_c_lt, (own_cmpw Df7 Df3)]; exact H139
  refine own_pre (T' := T6) (g' := (mkF m 28 L4 [])) (fun t k => XS.ifNo X6.here hx rfl (hb hby d12_25) rfl ((if0 _ _).trans (flt clo).1) k) ?_
  refine own_pre (T' := T6) (g' := (mkF m 29 L4 [(.ref a10)])) (fun t k => XS.aloadN X6.here hx rfl (v := (.ref a10)) (hb hby d12_28) (by rw [← hL4]; rfl) rfl k) ?_
  refine own_getf X6 hx hZ hown (own_w hw 15 rfl) e6 H34 (hb hby d12_29) ?_
  intro T9 X9 e9
  show own_Go _ _ _ _ _ _ _ T9 (mkF m 32 L4 [(.ref a29)])
  refine own_pre (T' := T9) (g' := (mkF m 33 L4 [(.int (2 : Int32)), (.ref a29)])) (fun t k => XS.iloadN X9.here hx rfl (v := (2 : Int32)) (hb hby d12_32) (by rw [← hL4]; rfl) k) ?_
  refine own_daload X9 hx hZ e9 H31 (hb hby d12_33) (n := 2) (v := (.double f225)) (by decide) (by decide) rfl ?_
  show own_Go _ _ _ _ _ _ _ T9 (mkF m 34 L4 [(.double f225)])
  refine own_pre (T' := T9) (g' := (mkF m 35 L4 [(.double f432), (.double f225)])) (fun t k => XS.dloadN X9.here hx rfl (v := f432) (hb hby d12_34) (by rw [← hL4]; rfl) k) ?_
  obtain ⟨f10, hf10⟩ : ∃ z, FP.dsub f225 f432 = z := ⟨_, rfl⟩
  have Df10 : FP.Core.own_H (v6.toInt - v8.toInt) f10 := hf10 ▸ FP.Core.own_H_sub H136 H132 (by have := rng32 v6; have := rng32 v8; omega)
  refine own_pre (T' := T9) (g' := (mkF m 36 L4 [(.double f10)])) (fun t k => XS.dsubS X9.here hx rfl (hb hby d12_35) rfl (by rw [hf10]; exact Jvm.Free.Fl.val64_no.mpr Df10.nn) hf10 k) ?_
  refine own_pre (T' := T9) (g' := (mkF m 38 L4 [(.double f3), (.double f10)])) (fun t k => XS.dload X9.here hx rfl (v := f3) (hb hby d12_36) (by rw [← hL4]; rfl) k) ?_
  obtain ⟨k11, hk11⟩ : ∃ z, own_c (FP.Core.zval FP.Core.b64 (FP.Core.val64 f10)) (FP.Core.zval FP.Core.b64 (FP.Core.val64 f3)) = z := ⟨_, rfl⟩
  refine own_pre (T' := T9) (g' := (mkF m 39 L4 [(.int k11)])) (fun t k => XS.dcmpS X9.here hx rfl (hb hby d12_38) rfl ((own_dcmpz (Jvm.Free.Fl.val64_no.mpr Df10.nn) nnf3 _).trans hk11) k) ?_
  have chi : ¬ k11 < (0 : Int32) := by rw [← hk11, own_c_lt, (own_cmpw Df10 Df3)]; exact H140
  refine own_pre (T' := T9) (g' := (mkF m 42 L4 [])) (fun t k => XS.ifNo X9.here hx rfl (hb hby d12_39) rfl ((if0 _ _).trans (flt chi).1) k) ?_
  refine own_pre (T' := T9) (g' := (mkF m 43 L4 [(.int (1 : Int32))])) (fun t k => XS.iconst X9.here hx rfl (hb hby d12_42) k) ?_
  refine own_pre (T' := T9) (g' := (mkF m 47 L4 [(.int (1 : Int32))])) (fun t k => XS.goto X9.here hx rfl (pc0 := 43) (pc' := 47) rfl (hb hby d12_43) (by decide) (by decide) k) ?_
  exact own_retZ X9 hx hlk hret rfl (hb hby d12_47) e9 ⟨rfl, N0, rfl⟩ (by decide) (by decide)
def own_law_Q (Z : State) (p0 p1 p2 p3 p4 : Int32) (p5 : Int64) (h0 : Heap) (n0 : Nat) (v_ : Option Value) (h_ : Heap) (L_ : List Loc) : Prop := (fun v h L => v = some (.int 1) ∧ Fr n0 L) v_ h_ L_
set_option maxRecDepth 65536 in
set_option maxHeartbeats 40000000 in
theorem own_law (l : Launch) (Z : State) (a0 : Array Value) (hw : ∀ d ∈ tables_1, d.before a0 Z = true) (wds : List Jvm.Cond) (p0 p1 p2 p3 p4 : Int32) (p5 : Int64) (h0 : Heap) (n0 : Nat) (Z0 : n0 ≤ h0.size)  :
    MetFree l x (head1 (Jvm.Cond.code x code maxLocals ret :: wds) room_1) (fun ar_ U_ => ar_ = #[(.int p0), (.int p1), (.int p2), (.int p3), (.int p4), (.long p5)] ∧ Z.Warmed39 U_.vm ∧ U_.heap = h0) (fun _ _ _ _ _ => True) (fun _ U_ o_ V_ => ∃ v_ L_, o_ = .returned v_ ∧ own_law_Q Z p0 p1 p2 p3 p4 p5 h0 n0 v_ V_.heap L_ ∧ FrameEnd U_ o_ V_ L_ room_1.cells room_1.slots) := by
  refine own_met (y := x) (Q := own_law_Q Z p0 p1 p2 p3 p4 p5 h0 n0) own_pn0 ?_
  intro p e s m below meth c s₁ hx hby hml hZ hown hnm hret hlk X0 e0
  have N0 := Fr.nil n0
  refine own_cast (g' := (mkF m 0 #[.val (.int p0), .val (.int p1), .val (.int p2), .val (.int p3), .val (.int p4), .val (.long p5), .second, .unset, .unset, .unset, .unset, .unset, .unset, .unset, .unset, .unset, .unset, .unset, .unset, .unset, .unset, .unset, .unset, .unset] [])) (by first | (simp [entryFrame, mkF, argsToLocals, Value.category, maxLocals]; done) | rfl) ?_
  generalize hL1 : (#[.val (.int p0), .val (.int p1), .val (.int p2), .val (.int p3), .val (.int p4), .val (.long p5), .second, .unset, .unset, .unset, .unset, .unset, .unset, .unset, .unset, .unset, .unset, .unset, .unset, .unset, .unset, .unset, .unset, .unset] : Array Slot) = L1
  refine own_pre (T' := s₁) (g' := (mkF m 1 L1 [(.int p0)])) (fun t k => XS.iloadN X0.here hx rfl (v := p0) (hb hby at_0) (by rw [← hL1]; rfl) k) ?_
  refine own_ldci X0 hx hZ hown (own_w hw 0 rfl) (hb hby at_1) ?_
  show own_Go _ _ _ _ _ _ _ s₁ (mkF m 3 L1 [(.int (1048575 : Int32)), (.int p0)])
  refine own_pre (T' := s₁) (g' := (mkF m 4 L1 [(.int (p0 &&& (1048575 : Int32)))])) (fun t k => XS.iand X0.here hx rfl (hb hby at_3) rfl k) ?_
  generalize hv2 : p0 &&& (1048575 : Int32) = v2
  refine own_pre (T' := s₁) (g' := (mkF m 6 #[.val (.int p0), .val (.int p1), .val (.int p2), .val (.int p3), .val (.int p4), .val (.long p5), .second, .val (.int v2), .unset, .unset, .unset, .unset, .unset, .unset, .unset, .unset, .unset, .unset, .unset, .unset, .unset, .unset, .unset, .unset] [])) (fun t k => XS.istore X0.here hx rfl (hb hby at_4) rfl (l' := #[.val (.int p0), .val (.int p1), .val (.int p2), .val (.int p3), .val (.int p4), .val (.long p5), .second, .val (.int v2), .unset, .unset, .unset, .unset, .unset, .unset, .unset, .unset, .unset, .unset, .unset, .unset, .unset, .unset, .unset, .unset]) (by rw [← hL1]; rfl) k) ?_
  generalize hL3 : (#[.val (.int p0), .val (.int p1), .val (.int p2), .val (.int p3), .val (.int p4), .val (.long p5), .second, .val (.int v2), .unset, .unset, .unset, .unset, .unset, .unset, .unset, .unset, .unset, .unset, .unset, .unset, .unset, .unset, .unset, .unset] : Array Slot) = L3
  refine own_pre (T' := s₁) (g' := (mkF m 8 L3 [(.int v2)])) (fun t k => XS.iload X0.here hx rfl (v := v2) (hb hby at_6) (by rw [← hL3]; rfl) k) ?_
  refine own_pre (T' := s₁) (g' := (mkF m 9 L3 [(.int p1), (.int v2)])) (fun t k => XS.iloadN X0.here hx rfl (v := p1) (hb hby at_8) (by rw [← hL3]; rfl) k) ?_
  refine own_ldci X0 hx hZ hown (own_w hw 0 rfl) (hb hby at_9) ?_
  show own_Go _ _ _ _ _ _ _ s₁ (mkF m 11 L3 [(.int (1048575 : Int32)), (.int p1), (.int v2)])
  refine own_pre (T' := s₁) (g' := (mkF m 12 L3 [(.int (p1 &&& (1048575 : Int32))), (.int v2)])) (fun t k => XS.iand X0.here hx rfl (hb hby at_11) rfl k) ?_
  refine own_pre (T' := s₁) (g' := (mkF m 13 L3 [(.int (v2 + (p1 &&& (1048575 : Int32))))])) (fun t k => XS.iadd X0.here hx rfl (hb hby at_12) rfl k) ?_
  generalize hv4 : v2 + (p1 &&& (1048575 : Int32)) = v4
  refine own_pre (T' := s₁) (g' := (mkF m 15 #[.val (.int p0), .val (.int p1), .val (.int p2), .val (.int p3), .val (.int p4), .val (.long p5), .second, .val (.int v2), .val (.int v4), .unset, .unset, .unset, .unset, .unset, .unset, .unset, .unset, .unset, .unset, .unset, .unset, .unset, .unset, .unset] [])) (fun t k => XS.istore X0.here hx rfl (hb hby at_13) rfl (l' := #[.val (.int p0), .val (.int p1), .val (.int p2), .val (.int p3), .val (.int p4), .val (.long p5), .second, .val (.int v2), .val (.int v4), .unset, .unset, .unset, .unset, .unset, .unset, .unset, .unset, .unset, .unset, .unset, .unset, .unset, .unset, .unset]) (by rw [← hL3]; rfl) k) ?_
  generalize hL5 : (#[.val (.int p0), .val (.int p1), .val (.int p2), .val (.int p3), .val (.int p4), .val (.long p5), .second, .val (.int v2), .val (.int v4), .unset, .unset, .unset, .unset, .unset, .unset, .unset, .unset, .unset, .unset, .unset, .unset, .unset, .unset, .unset] : Array Slot) = L5
  refine own_pre (T' := s₁) (g' := (mkF m 17 L5 [(.int v4)])) (fun t k => XS.iload X0.here hx rfl (v := v4) (hb hby at_15) (by rw [← hL5]; rfl) k) ?_
  refine own_pre (T' := s₁) (g' := (mkF m 18 L5 [(.int p2), (.int v4)])) (fun t k => XS.iloadN X0.here hx rfl (v := p2) (hb hby at_17) (by rw [← hL5]; rfl) k) ?_
  refine own_ldci X0 hx hZ hown (own_w hw 0 rfl) (hb hby at_18) ?_
  show own_Go _ _ _ _ _ _ _ s₁ (mkF m 20 L5 [(.int (1048575 : Int32)), (.int p2), (.int v4)])
  refine own_pre (T' := s₁) (g' := (mkF m 21 L5 [(.int (p2 &&& (1048575 : Int32))), (.int v4)])) (fun t k => XS.iand X0.here hx rfl (hb hby at_20) rfl k) ?_
  refine own_pre (T' := s₁) (g' := (mkF m 22 L5 [(.int (v4 + (p2 &&& (1048575 : Int32))))])) (fun t k => XS.iadd X0.here hx rfl (hb hby at_21) rfl k) ?_
  generalize hv6 : v4 + (p2 &&& (1048575 : Int32)) = v6
  refine own_pre (T' := s₁) (g' := (mkF m 24 #[.val (.int p0), .val (.int p1), .val (.int p2), .val (.int p3), .val (.int p4), .val (.long p5), .second, .val (.int v2), .val (.int v4), .val (.int v6), .unset, .unset, .unset, .unset, .unset, .unset, .unset, .unset, .unset, .unset, .unset, .unset, .unset, .unset] [])) (fun t k => XS.istore X0.here hx rfl (hb hby at_22) rfl (l' := #[.val (.int p0), .val (.int p1), .val (.int p2), .val (.int p3), .val (.int p4), .val (.long p5), .second, .val (.int v2), .val (.int v4), .val (.int v6), .unset, .unset, .unset, .unset, .unset, .unset, .unset, .unset, .unset, .unset, .unset, .unset, .unset, .unset]) (by rw [← hL5]; rfl) k) ?_
  generalize hL7 : (#[.val (.int p0), .val (.int p1), .val (.int p2), .val (.int p3), .val (.int p4), .val (.long p5), .second, .val (.int v2), .val (.int v4), .val (.int v6), .unset, .unset, .unset, .unset, .unset, .unset, .unset, .unset, .unset, .unset, .unset, .unset, .unset, .unset] : Array Slot) = L7
  refine own_pre (T' := s₁) (g' := (mkF m 25 L7 [(.int p3)])) (fun t k => XS.iloadN X0.here hx rfl (v := p3) (hb hby at_24) (by rw [← hL7]; rfl) k) ?_
  refine own_ldci X0 hx hZ hown (own_w hw 1 rfl) (hb hby at_25) ?_
  show own_Go _ _ _ _ _ _ _ s₁ (mkF m 27 L7 [(.int (4194303 : Int32)), (.int p3)])
  refine own_pre (T' := s₁) (g' := (mkF m 28 L7 [(.int (p3 &&& (4194303 : Int32)))])) (fun t k => XS.iand X0.here hx rfl (hb hby at_27) rfl k) ?_
  refine own_ldci X0 hx hZ hown (own_w hw 2 rfl) (hb hby at_28) ?_
  show own_Go _ _ _ _ _ _ _ s₁ (mkF m 30 L7 [(.int (1048576 : Int32)), (.int (p3 &&& (4194303 : Int32)))])
  refine own_pre (T' := s₁) (g' := (mkF m 31 L7 [(.int ((p3 &&& (4194303 : Int32)) - (1048576 : Int32)))])) (fun t k => XS.isub X0.here hx rfl (hb hby at_30) rfl k) ?_
  generalize hv8 : (p3 &&& (4194303 : Int32)) - (1048576 : Int32) = v8
  refine own_pre (T' := s₁) (g' := (mkF m 33 #[.val (.int p0), .val (.int p1), .val (.int p2), .val (.int p3), .val (.int p4), .val (.long p5), .second, .val (.int v2), .val (.int v4), .val (.int v6), .val (.int v8), .unset, .unset, .unset, .unset, .unset, .unset, .unset, .unset, .unset, .unset, .unset, .unset, .unset] [])) (fun t k => XS.istore X0.here hx rfl (hb hby at_31) rfl (l' := #[.val (.int p0), .val (.int p1), .val (.int p2), .val (.int p3), .val (.int p4), .val (.long p5), .second, .val (.int v2), .val (.int v4), .val (.int v6), .val (.int v8), .unset, .unset, .unset, .unset, .unset, .unset, .unset, .unset, .unset, .unset, .unset, .unset, .unset]) (by rw [← hL7]; rfl) k) ?_
  generalize hL9 : (#[.val (.int p0), .val (.int p1), .val (.int p2), .val (.int p3), .val (.int p4), .val (.long p5), .second, .val (.int v2), .val (.int v4), .val (.int v6), .val (.int v8), .unset, .unset, .unset, .unset, .unset, .unset, .unset, .unset, .unset, .unset, .unset, .unset, .unset] : Array Slot) = L9
  obtain ⟨hr0, hr1, hr2, hmid⟩ := own_rng hv2 hv4 hv6 hv8
  refine own_newobj X0 hx hZ hown (own_w hw 3 rfl) (own_w hw 4 rfl) (own_w hw 5 rfl) e0 (hb hby at_33) (by decide) (by decide) ?_
  intro T10 h10 a10 g10 X10 e10 E10 A10 D10
  have nw11 : n0 ≤ a10 := Nat.le_trans Z0 (Nat.le_of_eq g10.symm)
  have F12 : Fld Z h10 a10 "com/example/rankline/rankline/Buckets" "thresholds" "[D" .null := D10 (Or.inl (own_w hw 14 rfl)) (ty := (.array .double)) (by decide)
  have F13 : Fld Z h10 a10 "com/example/rankline/rankline/Buckets" "ranks" "[D" .null := D10 (Or.inl (own_w hw 16 rfl)) (ty := (.array .double)) (by decide)
  have F14 : Fld Z h10 a10 "com/example/rankline/rankline/Buckets" "guarded" "[Z" .null := D10 (Or.inl (own_w hw 19 rfl)) (ty := (.array .boolean)) (by decide)
  have F15 : Fld Z h10 a10 "com/example/rankline/rankline/Buckets" "extents" "[Lcom/example/rankline/rankline/Extent;" .null := D10 (Or.inl (own_w hw 23 rfl)) (ty := (.array (.object "com/example/rankline/rankline/Extent"))) (by decide)
  have F16 : Fld Z h10 a10 "com/example/rankline/rankline/Buckets" "addedAtThreshold" "[Z" .null := D10 (Or.inl (own_w hw 25 rfl)) (ty := (.array .boolean)) (by decide)
  have F17 : Fld Z h10 a10 "com/example/rankline/rankline/Buckets" "copies" "[J" .null := D10 (Or.inl (own_w hw 28 rfl)) (ty := (.array .long)) (by decide)
  have F18 : Fld Z h10 a10 "com/example/rankline/rankline/Buckets" "nextOf" "[I" .null := D10 (Or.inl (own_w hw 31 rfl)) (ty := (.array .int)) (by decide)
  have F19 : Fld Z h10 a10 "com/example/rankline/rankline/Buckets" "previousOf" "[I" .null := D10 (Or.inl (own_w hw 33 rfl)) (ty := (.array .int)) (by decide)
  have F20 : Fld Z h10 a10 "com/example/rankline/rankline/Buckets" "first" "I" (.int (0 : Int32)) := D10 (Or.inl (own_w hw 35 rfl)) (ty := .int) (by decide)
  have F21 : Fld Z h10 a10 "com/example/rankline/rankline/Buckets" "last" "I" (.int (0 : Int32)) := D10 (Or.inl (own_w hw 37 rfl)) (ty := .int) (by decide)
  have F22 : Fld Z h10 a10 "com/example/rankline/rankline/Buckets" "free" "I" (.int (0 : Int32)) := D10 (Or.inl (own_w hw 39 rfl)) (ty := .int) (by decide)
  have F23 : Fld Z h10 a10 "com/example/rankline/rankline/Buckets" "smallestMagnitude" "D" (.double (0 : UInt64)) := D10 (Or.inl (own_w hw 42 rfl)) (ty := .double) (by decide)
  have F24 : Fld Z h10 a10 "com/example/rankline/rankline/Buckets" "size" "I" (.int (0 : Int32)) := D10 (Or.inl (own_w hw 50 rfl)) (ty := .int) (by decide)
  have F25 : Fld Z h10 a10 "com/example/rankline/rankline/Buckets" "used" "I" (.int (0 : Int32)) := D10 (Or.inl (own_w hw 92 rfl)) (ty := .int) (by decide)
  show own_Go _ _ _ _ _ _ _ T10 (mkF m 36 L9 [(.ref a10)])
  refine own_pre (T' := T10) (g' := (mkF m 37 L9 [(.ref a10), (.ref a10)])) (fun t k => XS.dup X10.here hx rfl (hb hby at_36) rfl rfl k) ?_
  have F26 : n0 ≤ h10.size := (Nat.le_trans Z0 E10.1)
  refine own_init (a := a10) (argsL := []) (rest := [(.ref a10)]) X10 hx hZ hown (own_s1 l Z a0 hw [] a10 h10 n0 F26 A10 F12 F13 F14 F15 F16 F17 F18 F19 F20 F21 F22 F23 F24 F25 nw11) rfl (own_w hw 6 rfl) (own_w hw 7 rfl) (own_w hw 8 rfl) (own_w hw 5 rfl) (by decide) e10 (hb hby at_37) (by rw [hml, ← hL9]; rfl) rfl (lenOf own_pd0 rfl) (by decide) (W := 1) (Nat.le_of_eq rfl) (by decide) (by decide) (by decide) ?_
  intro v27 T27 lo27 X27 Q27
  obtain ⟨h27, e27⟩ : ∃ h, T27.heap = h := ⟨_, rfl⟩
  rw [e27] at Q27
  obtain ⟨a28, a29, a30, a31, a32, a33, a34, a35, rfl, N27, K27, ge36, ge37, ge38, ge39, ge40, ge41, ge42, ge43, lt44, lt45, lt46, lt47, lt48, lt49, lt50, lt51, lt52, lt53, lt54, lt55, lt56, lt57, lt58, lt59, lt60, lt61, lt62, lt63, lt64, lt65, lt66, lt67, lt68, lt69, lt70, lt71, F72, F73, F74, F75, F76, F77, F78, F79, F80, F81, F82, F83, F84, F85, F86, F87, F88, F89, F90, F91, F92, F93, F94, F95, F96, F97, F98, F99, F100, F101, F102⟩ := Q27
  have N27' := Fr.app N0 N27
  show own_Go _ _ _ _ _ _ _ T27 (mkF m 40 L9 [(.ref a10)])
  have lt103 : a10 < a28 := Nat.lt_of_lt_of_le A10.lt ge36
  have nw104 : n0 ≤ a28 := Nat.le_trans F26 ge36
  have lt105 : a10 < a29 := Nat.lt_of_lt_of_le A10.lt ge37
  have nw106 : n0 ≤ a29 := Nat.le_trans F26 ge37
  have lt107 : a10 < a30 := Nat.lt_of_lt_of_le A10.lt ge38
  have nw108 : n0 ≤ a30 := Nat.le_trans F26 ge38
  have lt109 : a10 < a31 := Nat.lt_of_lt_of_le A10.lt ge39
  have nw110 : n0 ≤ a31 := Nat.le_trans F26 ge39
  have lt111 : a10 < a32 := Nat.lt_of_lt_of_le A10.lt ge40
  have nw112 : n0 ≤ a32 := Nat.le_trans F26 ge40
  have lt113 : a10 < a33 := Nat.lt_of_lt_of_le A10.lt ge41
  have nw114 : n0 ≤ a33 := Nat.le_trans F26 ge41
  have lt115 : a10 < a34 := Nat.lt_of_lt_of_le A10.lt ge42
  have nw116 : n0 ≤ a34 := Nat.le_trans F26 ge42
  have lt117 : a10 < a35 := Nat.lt_of_lt_of_le A10.lt ge43
  have nw118 : n0 ≤ a35 := Nat.le_trans F26 ge43
  refine own_pre (T' := T27) (g' := (mkF m 42 #[.val (.int p0), .val (.int p1), .val (.int p2), .val (.int p3), .val (.int p4), .val (.long p5), .second, .val (.int v2), .val (.int v4), .val (.int v6), .val (.int v8), .val (.ref a10), .unset, .unset, .unset, .unset, .unset, .unset, .unset, .unset, .unset, .unset, .unset, .unset] [])) (fun t k => XS.astore X27.here hx rfl (hb hby at_40) rfl rfl (l' := #[.val (.int p0), .val (.int p1), .val (.int p2), .val (.int p3), .val (.int p4), .val (.long p5), .second, .val (.int v2), .val (.int v4), .val (.int v6), .val (.int v8), .val (.ref a10), .unset, .unset, .unset, .unset, .unset, .unset, .unset, .unset, .unset, .unset, .unset, .unset]) (by rw [← hL9]; rfl) k) ?_
  generalize hL119 : (#[.val (.int p0), .val (.int p1), .val (.int p2), .val (.int p3), .val (.int p4), .val (.long p5), .second, .val (.int v2), .val (.int v4), .val (.int v6), .val (.int v8), .val (.ref a10), .unset, .unset, .unset, .unset, .unset, .unset, .unset, .unset, .unset, .unset, .unset, .unset] : Array Slot) = L119
  refine own_pre (T' := T27) (g' := (mkF m 44 L119 [(.ref a10)])) (fun t k => XS.aload X27.here hx rfl (v := (.ref a10)) (hb hby at_42) (by rw [← hL119]; rfl) rfl k) ?_
  refine own_pre (T' := T27) (g' := (mkF m 45 L119 [(.double (0 : UInt64)), (.ref a10)])) (fun t k => XS.dconst0 X27.here hx rfl (v := (0 : UInt64)) (hb hby at_44) (by decide) k) ?_
  refine own_pre (T' := T27) (g' := (mkF m 47 L119 [(.int v2), (.double (0 : UInt64)), (.ref a10)])) (fun t k => XS.iload X27.here hx rfl (v := v2) (hb hby at_45) (by rw [← hL119]; rfl) k) ?_
  obtain ⟨f120, hf120⟩ : ∃ z, FP.i2d v2 = z := ⟨_, rfl⟩
  refine own_pre (T' := T27) (g' := (mkF m 48 L119 [(.double f120), (.double (0 : UInt64)), (.ref a10)])) (fun t k => XS.i2dS X27.here hx rfl (hb hby at_47) rfl hf120 k) ?_
  have Df120 : Jvm.FP.Core.DInt v2.toInt f120 := hf120 ▸ Jvm.FP.Core.i2d_int _
  refine own_ldcd X27 hx hZ hown (own_w hw 43 rfl) (hb hby at_48) ?_
  show own_Go _ _ _ _ _ _ _ T27 (mkF m 51 L119 [(.double (4602678819172646912 : UInt64)), (.double f120), (.double (0 : UInt64)), (.ref a10)])
  obtain ⟨f121, hf121⟩ : ∃ z, FP.dmul f120 (4602678819172646912 : UInt64) = z := ⟨_, rfl⟩
  have Df121 : FP.Core.own_H v2.toInt f121 := hf121 ▸ FP.Core.own_H_mul Df120 (by have := rng32 v2; omega)
  refine own_pre (T' := T27) (g' := (mkF m 52 L119 [(.double f121), (.double (0 : UInt64)), (.ref a10)])) (fun t k => XS.dmulS X27.here hx rfl (hb hby at_51) rfl (by rw [hf121]; exact Jvm.Free.Fl.val64_no.mpr Df121.nn) hf121 k) ?_
  have F122 : Exa Z h27 a10 "com/example/rankline/rankline/Buckets" := (A10.keep K27)
  have F123 : n0 ≤ h27.size := (Nat.le_trans F26 K27.1)
  refine own_callv (a := a10) (argsL := [(.double (0 : UInt64)), (.double f121)]) (rest := []) X27 hx hZ hown (own_s2 l Z a0 hw [] a10 f121 a28 a29 a30 a31 a32 a33 a34 a35 v2 h27 n0 F123 F122 F72 F73 F74 F75 F76 F77 F78 F79 F80 F81 F82 F83 F84 F85 F86 F88 F90 F92 F94 F96 F97 F99 F101 lt103 lt105 lt107 lt109 lt111 lt113 lt115 lt117 nw11 lt44 lt45 lt46 lt47 lt48 lt49 lt50 nw104 lt51 lt52 lt53 lt54 lt55 lt56 nw106 lt57 lt58 lt59 lt60 lt61 nw108 lt62 lt63 lt64 lt65 nw110 lt66 lt67 lt68 nw112 lt69 lt70 nw114 lt71 nw116 nw118) F122 (own_w hw 44 rfl) (own_w hw 45 rfl) (own_w hw 47 rfl) (own_w hw 46 rfl) (own_w hw 48 rfl) (own_w hw 5 rfl) (by decide) e27 (hb hby at_52) (by rw [hml, ← hL119]; rfl) rfl (lenOf own_pd6 rfl) (by decide) (W := 0) (Nat.le_of_eq rfl) (by decide) (by decide) (by decide) ?_
  intro v124 T124 lo124 X124 Q124
  obtain ⟨h124, e124⟩ : ∃ h, T124.heap = h := ⟨_, rfl⟩
  rw [e124] at Q124
  obtain ⟨a125, rfl, N124, K124, ge126, F127, F128, F129, F130, F131, F132, F133, F134, F135, F136, F137, F138, F139, F140, F141, F142, F143, F144, F145, F146, F147, F148, F149, F150, F151, F152, F153, F154, F155⟩ := Q124
  have N124' := Fr.app N27' N124
  show own_Go _ _ _ _ _ _ _ T124 (mkF m 55 L119 [])
  refine own_pre (T' := T124) (g' := (mkF m 57 L119 [(.ref a10)])) (fun t k => XS.aload X124.here hx rfl (v := (.ref a10)) (hb hby at_55) (by rw [← hL119]; rfl) rfl k) ?_
  refine own_pre (T' := T124) (g' := (mkF m 58 L119 [(.double (4607182418800017408 : UInt64)), (.ref a10)])) (fun t k => XS.dconst1 X124.here hx rfl (v := (4607182418800017408 : UInt64)) (hb hby at_57) (by decide) k) ?_
  refine own_pre (T' := T124) (g' := (mkF m 60 L119 [(.int v4), (.double (4607182418800017408 : UInt64)), (.ref a10)])) (fun t k => XS.iload X124.here hx rfl (v := v4) (hb hby at_58) (by rw [← hL119]; rfl) k) ?_
  obtain ⟨f166, hf166⟩ : ∃ z, FP.i2d v4 = z := ⟨_, rfl⟩
  refine own_pre (T' := T124) (g' := (mkF m 61 L119 [(.double f166), (.double (4607182418800017408 : UInt64)), (.ref a10)])) (fun t k => XS.i2dS X124.here hx rfl (hb hby at_60) rfl hf166 k) ?_
  have Df166 : Jvm.FP.Core.DInt v4.toInt f166 := hf166 ▸ Jvm.FP.Core.i2d_int _
  refine own_ldcd X124 hx hZ hown (own_w hw 43 rfl) (hb hby at_61) ?_
  show own_Go _ _ _ _ _ _ _ T124 (mkF m 64 L119 [(.double (4602678819172646912 : UInt64)), (.double f166), (.double (4607182418800017408 : UInt64)), (.ref a10)])
  obtain ⟨f167, hf167⟩ : ∃ z, FP.dmul f166 (4602678819172646912 : UInt64) = z := ⟨_, rfl⟩
  have Df167 : FP.Core.own_H v4.toInt f167 := hf167 ▸ FP.Core.own_H_mul Df166 (by have := rng32 v4; omega)
  refine own_pre (T' := T124) (g' := (mkF m 65 L119 [(.double f167), (.double (4607182418800017408 : UInt64)), (.ref a10)])) (fun t k => XS.dmulS X124.here hx rfl (hb hby at_64) rfl (by rw [hf167]; exact Jvm.Free.Fl.val64_no.mpr Df167.nn) hf167 k) ?_
  have F168 : Exa Z h124 a10 "com/example/rankline/rankline/Buckets" := (F122.keep K124)
  have F169 : Exa Z h124 a35 "[I" := (F87.keep K124)
  have F170 : Exa Z h124 a34 "[I" := (F89.keep K124)
  have F171 : Exa Z h124 a33 "[J" := (F91.keep K124)
  have F172 : Exa Z h124 a32 "[Z" := (F93.keep K124)
  have F173 : Exa Z h124 a31 "[Lcom/example/rankline/rankline/Extent;" := (F95.keep K124)
  have F174 : own_Ovr Z h124 a31 "com/example/rankline/rankline/Extent" := (F96.keep K124)
  have F175 : Exa Z h124 a30 "[Z" := (F98.keep K124)
  have F176 : Exa Z h124 a29 "[D" := (F100.keep K124)
  have F177 : Exa Z h124 a28 "[D" := (F102.keep K124)
  have F178 : n0 ≤ h124.size := (Nat.le_trans F123 K124.1)
  refine own_callv (a := a10) (argsL := [(.double (4607182418800017408 : UInt64)), (.double f167)]) (rest := []) X124 hx hZ hown (own_s12 l Z a0 hw [] a10 f167 a35 a34 a33 a32 a31 a30 a29 a28 a125 f121 v4 v2 h124 n0 F178 F168 F169 F170 F171 F172 F173 F174 F175 F176 F177 F127 F128 F129 F130 F131 F132 F133 F134 F135 F136 F137 F138 F139 F140 F141 F142 F143 F144 F145 F146 F147 F148 lt103 lt105 lt107 lt109 lt111 lt113 lt115 lt117 nw11 lt44 lt45 lt46 lt47 lt48 lt49 lt50 nw104 lt51 lt52 lt53 lt54 lt55 lt56 nw106 lt57 lt58 lt59 lt60 lt61 nw108 lt62 lt63 lt64 lt65 nw110 lt66 lt67 lt68 nw112 lt69 lt70 nw114 lt71 nw116 nw118 Df167 Df121) F168 (own_w hw 44 rfl) (own_w hw 45 rfl) (own_w hw 47 rfl) (own_w hw 46 rfl) (own_w hw 48 rfl) (own_w hw 5 rfl) (by decide) e124 (hb hby at_65) (by rw [hml, ← hL119]; rfl) rfl (lenOf own_pd6 rfl) (by decide) (W := 0) (Nat.le_of_eq rfl) (by decide) (by decide) (by decide) ?_
  intro v179 T179 lo179 X179 Q179
  obtain ⟨h179, e179⟩ : ∃ h, T179.heap = h := ⟨_, rfl⟩
  rw [e179] at Q179
  obtain ⟨a180, f181, rfl, N179, K179, ge182, F183, F184, F185, F186, F187, F188, F189, F190, F191, F192, F193, F194, F195, F196, F197, F198, F199, F200, F201, F202, F203, F204, F205, F206, F207, F208, F209, F210, F211, D212⟩ := Q179
  have N179' := Fr.app N124' N179
  show own_Go _ _ _ _ _ _ _ T179 (mkF m 68 L119 [])
  refine own_pre (T' := T179) (g' := (mkF m 70 L119 [(.ref a10)])) (fun t k => XS.aload X179.here hx rfl (v := (.ref a10)) (hb hby at_68) (by rw [← hL119]; rfl) rfl k) ?_
  refine own_ldcd X179 hx hZ hown (own_w hw 94 rfl) (hb hby at_70) ?_
  show own_Go _ _ _ _ _ _ _ T179 (mkF m 73 L119 [(.double (4611686018427387904 : UInt64)), (.ref a10)])
  refine own_pre (T' := T179) (g' := (mkF m 75 L119 [(.int v6), (.double (4611686018427387904 : UInt64)), (.ref a10)])) (fun t k => XS.iload X179.here hx rfl (v := v6) (hb hby at_73) (by rw [← hL119]; rfl) k) ?_
  obtain ⟨f224, hf224⟩ : ∃ z, FP.i2d v6 = z := ⟨_, rfl⟩
  refine own_pre (T' := T179) (g' := (mkF m 76 L119 [(.double f224), (.double (4611686018427387904 : UInt64)), (.ref a10)])) (fun t k => XS.i2dS X179.here hx rfl (hb hby at_75) rfl hf224 k) ?_
  have Df224 : Jvm.FP.Core.DInt v6.toInt f224 := hf224 ▸ Jvm.FP.Core.i2d_int _
  refine own_ldcd X179 hx hZ hown (own_w hw 43 rfl) (hb hby at_76) ?_
  show own_Go _ _ _ _ _ _ _ T179 (mkF m 79 L119 [(.double (4602678819172646912 : UInt64)), (.double f224), (.double (4611686018427387904 : UInt64)), (.ref a10)])
  obtain ⟨f225, hf225⟩ : ∃ z, FP.dmul f224 (4602678819172646912 : UInt64) = z := ⟨_, rfl⟩
  have Df225 : FP.Core.own_H v6.toInt f225 := hf225 ▸ FP.Core.own_H_mul Df224 (by have := rng32 v6; omega)
  refine own_pre (T' := T179) (g' := (mkF m 80 L119 [(.double f225), (.double (4611686018427387904 : UInt64)), (.ref a10)])) (fun t k => XS.dmulS X179.here hx rfl (hb hby at_79) rfl (by rw [hf225]; exact Jvm.Free.Fl.val64_no.mpr Df225.nn) hf225 k) ?_
  have F226 : Exa Z h179 a10 "com/example/rankline/rankline/Buckets" := (F168.keep K179)
  have F227 : Exa Z h179 a35 "[I" := (F169.keep K179)
  have F228 : Exa Z h179 a34 "[I" := (F170.keep K179)
  have F229 : Exa Z h179 a33 "[J" := (F171.keep K179)
  have F230 : Exa Z h179 a32 "[Z" := (F172.keep K179)
  have F231 : Exa Z h179 a31 "[Lcom/example/rankline/rankline/Extent;" := (F173.keep K179)
  have F232 : own_Ovr Z h179 a31 "com/example/rankline/rankline/Extent" := (F174.keep K179)
  have F233 : Exa Z h179 a30 "[Z" := (F175.keep K179)
  have F234 : Exa Z h179 a29 "[D" := (F176.keep K179)
  have F235 : Exa Z h179 a28 "[D" := (F177.keep K179)
  have F243 : n0 ≤ h179.size := (Nat.le_trans F178 K179.1)
  refine own_callv (a := a10) (argsL := [(.double (4611686018427387904 : UInt64)), (.double f225)]) (rest := []) X179 hx hZ hown (own_s19 l Z a0 hw [] a10 f225 a35 a34 a33 a32 a31 a30 a29 a28 a125 f121 a180 f167 v6 v2 v4 h179 n0 F243 F226 F227 F228 F229 F230 F231 F232 F233 F234 F235 F183 F184 F185 F186 F187 F188 F189 F190 F191 F192 F193 F194 F195 F196 F197 F198 F199 F200 F201 F202 F203 F204 lt103 lt105 lt107 lt109 lt111 lt113 lt115 lt117 nw11 lt44 lt45 lt46 lt47 lt48 lt49 lt50 nw104 lt51 lt52 lt53 lt54 lt55 lt56 nw106 lt57 lt58 lt59 lt60 lt61 nw108 lt62 lt63 lt64 lt65 nw110 lt66 lt67 lt68 nw112 lt69 lt70 nw114 lt71 nw116 nw118 Df225 Df167) F226 (own_w hw 44 rfl) (own_w hw 45 rfl) (own_w hw 47 rfl) (own_w hw 46 rfl) (own_w hw 48 rfl) (own_w hw 5 rfl) (by decide) e179 (hb hby at_80) (by rw [hml, ← hL119]; rfl) rfl (lenOf own_pd6 rfl) (by decide) (W := 0) (Nat.le_of_eq rfl) (by decide) (by decide) (by decide) ?_
  intro v244 T244 lo244 X244 Q244
  obtain ⟨h244, e244⟩ : ∃ h, T244.heap = h := ⟨_, rfl⟩
  rw [e244] at Q244
  obtain ⟨a245, f246, rfl, N244, K244, ge247, F248, F249, F250, F251, F252, F253, F254, F255, F256, F257, F258, F259, F260, F261, F262, F263, F264, F265, F266, F267, F268, F269, F270, F271, F272, F273, F274, F275, F276, D277⟩ := Q244
  have N244' := Fr.app N179' N244
  show own_Go _ _ _ _ _ _ _ T244 (mkF m 83 L119 [])
  refine own_pre (T' := T244) (g' := (mkF m 85 L119 [(.int p4)])) (fun t k => XS.iload X244.here hx rfl (v := p4) (hb hby at_83) (by rw [← hL119]; rfl) k) ?_
  refine own_pre (T' := T244) (g' := (mkF m 86 L119 [(.int (1 : Int32)), (.int p4)])) (fun t k => XS.iconst X244.here hx rfl (hb hby at_85) k) ?_
  refine own_pre (T' := T244) (g' := (mkF m 87 L119 [(.int (p4 &&& (1 : Int32)))])) (fun t k => XS.iand X244.here hx rfl (hb hby at_86) rfl k) ?_
  by_cases hsel : (p4 &&& (1 : Int32)) = (0 : Int32)
  · skip
    refine own_pre (T' := T244) (g' := (mkF m 94 L119 [])) (fun t k => XS.ifYes X244.here hx rfl (pc0 := 87) (pc' := 94) rfl (hb hby at_87) rfl ((if0 _ _).trans (teq hsel).1) (by decide) (by decide) k) ?_
    refine own_pre (T' := T244) (g' := (mkF m 95 L119 [(.int (0 : Int32))])) (fun t k => XS.iconst X244.here hx rfl (hb hby at_94) k) ?_
    refine own_pre (T' := T244) (g' := (mkF m 97 #[.val (.int p0), .val (.int p1), .val (.int p2), .val (.int p3), .val (.int p4), .val (.long p5), .second, .val (.int v2), .val (.int v4), .val (.int v6), .val (.int v8), .val (.ref a10), .val (.int (0 : Int32)), .unset, .unset, .unset, .unset, .unset, .unset, .unset, .unset, .unset, .unset, .unset] [])) (fun t k => XS.istore X244.here hx rfl (hb hby at_95) rfl (l' := #[.val (.int p0), .val (.int p1), .val (.int p2), .val (.int p3), .val (.int p4), .val (.long p5), .second, .val (.int v2), .val (.int v4), .val (.int v6), .val (.int v8), .val (.ref a10), .val (.int (0 : Int32)), .unset, .unset, .unset, .unset, .unset, .unset, .unset, .unset, .unset, .unset, .unset]) (by rw [← hL119]; rfl) k) ?_
    generalize hL290 : (#[.val (.int p0), .val (.int p1), .val (.int p2), .val (.int p3), .val (.int p4), .val (.long p5), .second, .val (.int v2), .val (.int v4), .val (.int v6), .val (.int v8), .val (.ref a10), .val (.int (0 : Int32)), .unset, .unset, .unset, .unset, .unset, .unset, .unset, .unset, .unset, .unset, .unset] : Array Slot) = L290
    refine own_pre (T' := T244) (g' := (mkF m 99 L290 [(.int (0 : Int32))])) (fun t k => XS.iload X244.here hx rfl (v := (0 : Int32)) (hb hby at_97) (by rw [← hL290]; rfl) k) ?_
    refine own_pre (T' := T244) (g' := (mkF m 110 L290 [])) (fun t k => XS.ifYes X244.here hx rfl (pc0 := 99) (pc' := 110) rfl (hb hby at_99) rfl (by decide) (by decide) (by decide) k) ?_
    refine own_pre (T' := T244) (g' := (mkF m 112 L290 [(.ref a10)])) (fun t k => XS.aload X244.here hx rfl (v := (.ref a10)) (hb hby at_110) (by rw [← hL290]; rfl) rfl k) ?_
    refine own_pre (T' := T244) (g' := (mkF m 114 L290 [(.ref a10), (.ref a10)])) (fun t k => XS.aload X244.here hx rfl (v := (.ref a10)) (hb hby at_112) (by rw [← hL290]; rfl) rfl k) ?_
    have F291 : Exa Z h244 a10 "com/example/rankline/rankline/Buckets" := (F226.keep K244)
    have F315 : n0 ≤ h244.size := (Nat.le_trans F243 K244.1)
    refine own_callv (a := a10) (argsL := []) (rest := [(.ref a10)]) X244 hx hZ hown (own_s26 l Z a0 hw [] a10 h244 n0 F315 F264) F291 (own_w hw 95 rfl) (own_w hw 96 rfl) (own_w hw 98 rfl) (own_w hw 97 rfl) (own_w hw 99 rfl) (own_w hw 5 rfl) (by decide) e244 (hb hby at_114) (by rw [hml, ← hL290]; rfl) rfl (lenOf own_pd3 rfl) (by decide) (W := 1) (Nat.le_of_eq rfl) (by decide) (by decide) (by decide) ?_
    intro v316 T316 lo316 X316 Q316
    obtain ⟨h316, e316⟩ : ∃ h, T316.heap = h := ⟨_, rfl⟩
    rw [e316] at Q316
    obtain ⟨rfl, N316, K316⟩ := Q316
    have N316' := Fr.app N244' N316
    have e316' : T316.heap = h244 := e316.trans K316
    show own_Go _ _ _ _ _ _ _ T316 (mkF m 117 L290 [(.int (0 : Int32)), (.ref a10)])
    refine own_callv (a := a10) (argsL := [(.int (0 : Int32))]) (rest := []) X316 hx hZ hown (own_s27 l Z a0 hw [] a10 a34 h244 n0 F315 F249 F262) F291 (own_w hw 100 rfl) (own_w hw 101 rfl) (own_w hw 103 rfl) (own_w hw 102 rfl) (own_w hw 104 rfl) (own_w hw 5 rfl) (by decide) e316' (hb hby at_117) (by rw [hml, ← hL290]; rfl) rfl (lenOf own_pd7 rfl) (by decide) (W := 0) (Nat.le_of_eq rfl) (by decide) (by decide) (by decide) ?_
    intro v317 T317 lo317 X317 Q317
    obtain ⟨h317, e317⟩ : ∃ h, T317.heap = h := ⟨_, rfl⟩
    rw [e317] at Q317
    obtain ⟨rfl, N317, K317⟩ := Q317
    have N317' := Fr.app N316' N317
    have e317' : T317.heap = h244 := e317.trans K317
    show own_Go _ _ _ _ _ _ _ T317 (mkF m 120 L290 [(.int (1 : Int32))])
    refine own_pre (T' := T317) (g' := (mkF m 122 #[.val (.int p0), .val (.int p1), .val (.int p2), .val (.int p3), .val (.int p4), .val (.long p5), .second, .val (.int v2), .val (.int v4), .val (.int v6), .val (.int v8), .val (.ref a10), .val (.int (0 : Int32)), .val (.int (1 : Int32)), .unset, .unset, .unset, .unset, .unset, .unset, .unset, .unset, .unset, .unset] [])) (fun t k => XS.istore X317.here hx rfl (hb hby at_120) rfl (l' := #[.val (.int p0), .val (.int p1), .val (.int p2), .val (.int p3), .val (.int p4), .val (.long p5), .second, .val (.int v2), .val (.int v4), .val (.int v6), .val (.int v8), .val (.ref a10), .val (.int (0 : Int32)), .val (.int (1 : Int32)), .unset, .unset, .unset, .unset, .unset, .unset, .unset, .unset, .unset, .unset]) (by rw [← hL290]; rfl) k) ?_
    generalize hL318 : (#[.val (.int p0), .val (.int p1), .val (.int p2), .val (.int p3), .val (.int p4), .val (.long p5), .second, .val (.int v2), .val (.int v4), .val (.int v6), .val (.int v8), .val (.ref a10), .val (.int (0 : Int32)), .val (.int (1 : Int32)), .unset, .unset, .unset, .unset, .unset, .unset, .unset, .unset, .unset, .unset] : Array Slot) = L318
    refine own_pre (T' := T317) (g' := (mkF m 124 L318 [(.int (0 : Int32))])) (fun t k => XS.iload X317.here hx rfl (v := (0 : Int32)) (hb hby at_122) (by rw [← hL318]; rfl) k) ?_
    refine own_pre (T' := T317) (g' := (mkF m 132 L318 [])) (fun t k => XS.ifYes X317.here hx rfl (pc0 := 124) (pc' := 132) rfl (hb hby at_124) rfl (by decide) (by decide) (by decide) k) ?_
    refine own_pre (T' := T317) (g' := (mkF m 134 L318 [(.int v2)])) (fun t k => XS.iload X317.here hx rfl (v := v2) (hb hby at_132) (by rw [← hL318]; rfl) k) ?_
    refine own_pre (T' := T317) (g' := (mkF m 136 #[.val (.int p0), .val (.int p1), .val (.int p2), .val (.int p3), .val (.int p4), .val (.long p5), .second, .val (.int v2), .val (.int v4), .val (.int v6), .val (.int v8), .val (.ref a10), .val (.int (0 : Int32)), .val (.int (1 : Int32)), .val (.int v2), .unset, .unset, .unset, .unset, .unset, .unset, .unset, .unset, .unset] [])) (fun t k => XS.istore X317.here hx rfl (hb hby at_134) rfl (l' := #[.val (.int p0), .val (.int p1), .val (.int p2), .val (.int p3), .val (.int p4), .val (.long p5), .second, .val (.int v2), .val (.int v4), .val (.int v6), .val (.int v8), .val (.ref a10), .val (.int (0 : Int32)), .val (.int (1 : Int32)), .val (.int v2), .unset, .unset, .unset, .unset, .unset, .unset, .unset, .unset, .unset]) (by rw [← hL318]; rfl) k) ?_
    generalize hL319 : (#[.val (.int p0), .val (.int p1), .val (.int p2), .val (.int p3), .val (.int p4), .val (.long p5), .second, .val (.int v2), .val (.int v4), .val (.int v6), .val (.int v8), .val (.ref a10), .val (.int (0 : Int32)), .val (.int (1 : Int32)), .val (.int v2), .unset, .unset, .unset, .unset, .unset, .unset, .unset, .unset, .unset] : Array Slot) = L319
    refine own_pre (T' := T317) (g' := (mkF m 138 L319 [(.int (0 : Int32))])) (fun t k => XS.iload X317.here hx rfl (v := (0 : Int32)) (hb hby at_136) (by rw [← hL319]; rfl) k) ?_
    refine own_pre (T' := T317) (g' := (mkF m 146 L319 [])) (fun t k => XS.ifYes X317.here hx rfl (pc0 := 138) (pc' := 146) rfl (hb hby at_138) rfl (by decide) (by decide) (by decide) k) ?_
    refine own_pre (T' := T317) (g' := (mkF m 148 L319 [(.int v4)])) (fun t k => XS.iload X317.here hx rfl (v := v4) (hb hby at_146) (by rw [← hL319]; rfl) k) ?_
    refine own_pre (T' := T317) (g' := (mkF m 150 #[.val (.int p0), .val (.int p1), .val (.int p2), .val (.int p3), .val (.int p4), .val (.long p5), .second, .val (.int v2), .val (.int v4), .val (.int v6), .val (.int v8), .val (.ref a10), .val (.int (0 : Int32)), .val (.int (1 : Int32)), .val (.int v2), .val (.int v4), .unset, .unset, .unset, .unset, .unset, .unset, .unset, .unset] [])) (fun t k => XS.istore X317.here hx rfl (hb hby at_148) rfl (l' := #[.val (.int p0), .val (.int p1), .val (.int p2), .val (.int p3), .val (.int p4), .val (.long p5), .second, .val (.int v2), .val (.int v4), .val (.int v6), .val (.int v8), .val (.ref a10), .val (.int (0 : Int32)), .val (.int (1 : Int32)), .val (.int v2), .val (.int v4), .unset, .unset, .unset, .unset, .unset, .unset, .unset, .unset]) (by rw [← hL319]; rfl) k) ?_
    generalize hL320 : (#[.val (.int p0), .val (.int p1), .val (.int p2), .val (.int p3), .val (.int p4), .val (.long p5), .second, .val (.int v2), .val (.int v4), .val (.int v6), .val (.int v8), .val (.ref a10), .val (.int (0 : Int32)), .val (.int (1 : Int32)), .val (.int v2), .val (.int v4), .unset, .unset, .unset, .unset, .unset, .unset, .unset, .unset] : Array Slot) = L320
    refine own_pre (T' := T317) (g' := (mkF m 152 L320 [(.int v8)])) (fun t k => XS.iload X317.here hx rfl (v := v8) (hb hby at_150) (by rw [← hL320]; rfl) k) ?_
    refine own_pre (T' := T317) (g' := (mkF m 154 L320 [(.int v2), (.int v8)])) (fun t k => XS.iload X317.here hx rfl (v := v2) (hb hby at_152) (by rw [← hL320]; rfl) k) ?_
    refine own_pre (T' := T317) (g' := (mkF m 155 L320 [(.int (v8 - v2))])) (fun t k => XS.isub X317.here hx rfl (hb hby at_154) rfl k) ?_
    generalize hv321 : v8 - v2 = v321
    refine own_pre (T' := T317) (g' := (mkF m 157 #[.val (.int p0), .val (.int p1), .val (.int p2), .val (.int p3), .val (.int p4), .val (.long p5), .second, .val (.int v2), .val (.int v4), .val (.int v6), .val (.int v8), .val (.ref a10), .val (.int (0 : Int32)), .val (.int (1 : Int32)), .val (.int v2), .val (.int v4), .val (.int v321), .unset, .unset, .unset, .unset, .unset, .unset, .unset] [])) (fun t k => XS.istore X317.here hx rfl (hb hby at_155) rfl (l' := #[.val (.int p0), .val (.int p1), .val (.int p2), .val (.int p3), .val (.int p4), .val (.long p5), .second, .val (.int v2), .val (.int v4), .val (.int v6), .val (.int v8), .val (.ref a10), .val (.int (0 : Int32)), .val (.int (1 : Int32)), .val (.int v2), .val (.int v4), .val (.int v321), .unset, .unset, .unset, .unset, .unset, .unset, .unset]) (by rw [← hL320]; rfl) k) ?_
    generalize hL322 : (#[.val (.int p0), .val (.int p1), .val (.int p2), .val (.int p3), .val (.int p4), .val (.long p5), .second, .val (.int v2), .val (.int v4), .val (.int v6), .val (.int v8), .val (.ref a10), .val (.int (0 : Int32)), .val (.int (1 : Int32)), .val (.int v2), .val (.int v4), .val (.int v321), .unset, .unset, .unset, .unset, .unset, .unset, .unset] : Array Slot) = L322
    refine own_pre (T' := T317) (g' := (mkF m 159 L322 [(.int v4)])) (fun t k => XS.iload X317.here hx rfl (v := v4) (hb hby at_157) (by rw [← hL322]; rfl) k) ?_
    refine own_pre (T' := T317) (g' := (mkF m 161 L322 [(.int v8), (.int v4)])) (fun t k => XS.iload X317.here hx rfl (v := v8) (hb hby at_159) (by rw [← hL322]; rfl) k) ?_
    refine own_pre (T' := T317) (g' := (mkF m 162 L322 [(.int (v4 - v8))])) (fun t k => XS.isub X317.here hx rfl (hb hby at_161) rfl k) ?_
    generalize hv323 : v4 - v8 = v323
    refine own_pre (T' := T317) (g' := (mkF m 164 #[.val (.int p0), .val (.int p1), .val (.int p2), .val (.int p3), .val (.int p4), .val (.long p5), .second, .val (.int v2), .val (.int v4), .val (.int v6), .val (.int v8), .val (.ref a10), .val (.int (0 : Int32)), .val (.int (1 : Int32)), .val (.int v2), .val (.int v4), .val (.int v321), .val (.int v323), .unset, .unset, .unset, .unset, .unset, .unset] [])) (fun t k => XS.istore X317.here hx rfl (hb hby at_162) rfl (l' := #[.val (.int p0), .val (.int p1), .val (.int p2), .val (.int p3), .val (.int p4), .val (.long p5), .second, .val (.int v2), .val (.int v4), .val (.int v6), .val (.int v8), .val (.ref a10), .val (.int (0 : Int32)), .val (.int (1 : Int32)), .val (.int v2), .val (.int v4), .val (.int v321), .val (.int v323), .unset, .unset, .unset, .unset, .unset, .unset]) (by rw [← hL322]; rfl) k) ?_
    generalize hL324 : (#[.val (.int p0), .val (.int p1), .val (.int p2), .val (.int p3), .val (.int p4), .val (.long p5), .second, .val (.int v2), .val (.int v4), .val (.int v6), .val (.int v8), .val (.ref a10), .val (.int (0 : Int32)), .val (.int (1 : Int32)), .val (.int v2), .val (.int v4), .val (.int v321), .val (.int v323), .unset, .unset, .unset, .unset, .unset, .unset] : Array Slot) = L324
    refine own_pre (T' := T317) (g' := (mkF m 166 L324 [(.int p4)])) (fun t k => XS.iload X317.here hx rfl (v := p4) (hb hby at_164) (by rw [← hL324]; rfl) k) ?_
    refine own_pre (T' := T317) (g' := (mkF m 167 L324 [(.int (2 : Int32)), (.int p4)])) (fun t k => XS.iconst X317.here hx rfl (hb hby at_166) k) ?_
    refine own_pre (T' := T317) (g' := (mkF m 168 L324 [(.int (p4 &&& (2 : Int32)))])) (fun t k => XS.iand X317.here hx rfl (hb hby at_167) rfl k) ?_
    have hdlo := own_dif hv321 hmid (by omega)
    have hdhi := own_dif hv323 (by omega) hmid
    by_cases hsel2 : (p4 &&& (2 : Int32)) = (0 : Int32)
    · skip
      refine own_pre (T' := T317) (g' := (mkF m 175 L324 [])) (fun t k => XS.ifYes X317.here hx rfl (pc0 := 168) (pc' := 175) rfl (hb hby at_168) rfl ((if0 _ _).trans (teq hsel2).1) (by decide) (by decide) k) ?_
      refine own_pre (T' := T317) (g' := (mkF m 176 L324 [(.int (0 : Int32))])) (fun t k => XS.iconst X317.here hx rfl (hb hby at_175) k) ?_
      refine own_pre (T' := T317) (g' := (mkF m 178 #[.val (.int p0), .val (.int p1), .val (.int p2), .val (.int p3), .val (.int p4), .val (.long p5), .second, .val (.int v2), .val (.int v4), .val (.int v6), .val (.int v8), .val (.ref a10), .val (.int (0 : Int32)), .val (.int (1 : Int32)), .val (.int v2), .val (.int v4), .val (.int v321), .val (.int v323), .val (.int (0 : Int32)), .unset, .unset, .unset, .unset, .unset] [])) (fun t k => XS.istore X317.here hx rfl (hb hby at_176) rfl (l' := #[.val (.int p0), .val (.int p1), .val (.int p2), .val (.int p3), .val (.int p4), .val (.long p5), .second, .val (.int v2), .val (.int v4), .val (.int v6), .val (.int v8), .val (.ref a10), .val (.int (0 : Int32)), .val (.int (1 : Int32)), .val (.int v2), .val (.int v4), .val (.int v321), .val (.int v323), .val (.int (0 : Int32)), .unset, .unset, .unset, .unset, .unset]) (by rw [← hL324]; rfl) k) ?_
      generalize hL325 : (#[.val (.int p0), .val (.int p1), .val (.int p2), .val (.int p3), .val (.int p4), .val (.long p5), .second, .val (.int v2), .val (.int v4), .val (.int v6), .val (.int v8), .val (.ref a10), .val (.int (0 : Int32)), .val (.int (1 : Int32)), .val (.int v2), .val (.int v4), .val (.int v321), .val (.int v323), .val (.int (0 : Int32)), .unset, .unset, .unset, .unset, .unset] : Array Slot) = L325
      refine own_pre (T' := T317) (g' := (mkF m 180 L325 [(.int (0 : Int32))])) (fun t k => XS.iload X317.here hx rfl (v := (0 : Int32)) (hb hby at_178) (by rw [← hL325]; rfl) k) ?_
      refine own_pre (T' := T317) (g' := (mkF m 235 L325 [])) (fun t k => XS.ifYes X317.here hx rfl (pc0 := 180) (pc' := 235) rfl (hb hby at_180) rfl (by decide) (by decide) (by decide) k) ?_
      refine own_pre (T' := T317) (g' := (mkF m 236 L325 [(.long (1 : Int64))])) (fun t k => XT.lconst X317.here hx rfl (hb hby at_235) k) ?_
      refine own_pre (T' := T317) (g' := (mkF m 238 L325 [(.long p5), (.long (1 : Int64))])) (fun t k => XT.lload X317.here hx rfl (v := p5) (hb hby at_236) (by rw [← hL325]; rfl) k) ?_
      refine own_ldcl X317 hx hZ hown (own_w hw 105 rfl) (hb hby at_238) ?_
      show own_Go _ _ _ _ _ _ _ T317 (mkF m 241 L325 [(.long (33554431 : Int64)), (.long p5), (.long (1 : Int64))])
      refine own_pre (T' := T317) (g' := (mkF m 242 L325 [(.long (p5 &&& (33554431 : Int64))), (.long (1 : Int64))])) (fun t k => XT.land X317.here hx rfl (hb hby at_241) rfl k) ?_
      refine own_pre (T' := T317) (g' := (mkF m 243 L325 [(.long ((1 : Int64) + (p5 &&& (33554431 : Int64))))])) (fun t k => XT.ladd X317.here hx rfl (hb hby at_242) rfl k) ?_
      generalize hv326 : (1 : Int64) + (p5 &&& (33554431 : Int64)) = v326
      refine own_pre (T' := T317) (g' := (mkF m 245 #[.val (.int p0), .val (.int p1), .val (.int p2), .val (.int p3), .val (.int p4), .val (.long p5), .second, .val (.int v2), .val (.int v4), .val (.int v6), .val (.int v8), .val (.ref a10), .val (.int (0 : Int32)), .val (.int (1 : Int32)), .val (.int v2), .val (.int v4), .val (.int v321), .val (.int v323), .val (.int (0 : Int32)), .val (.long v326), .second, .unset, .unset, .unset] [])) (fun t k => XT.lstore X317.here hx rfl (hb hby at_243) rfl (l' := #[.val (.int p0), .val (.int p1), .val (.int p2), .val (.int p3), .val (.int p4), .val (.long p5), .second, .val (.int v2), .val (.int v4), .val (.int v6), .val (.int v8), .val (.ref a10), .val (.int (0 : Int32)), .val (.int (1 : Int32)), .val (.int v2), .val (.int v4), .val (.int v321), .val (.int v323), .val (.int (0 : Int32)), .val (.long v326), .second, .unset, .unset, .unset]) (by rw [← hL325]; rfl) k) ?_
      generalize hL327 : (#[.val (.int p0), .val (.int p1), .val (.int p2), .val (.int p3), .val (.int p4), .val (.long p5), .second, .val (.int v2), .val (.int v4), .val (.int v6), .val (.int v8), .val (.ref a10), .val (.int (0 : Int32)), .val (.int (1 : Int32)), .val (.int v2), .val (.int v4), .val (.int v321), .val (.int v323), .val (.int (0 : Int32)), .val (.long v326), .second, .unset, .unset, .unset] : Array Slot) = L327
      refine own_pre (T' := T317) (g' := (mkF m 247 L327 [(.int v321)])) (fun t k => XS.iload X317.here hx rfl (v := v321) (hb hby at_245) (by rw [← hL327]; rfl) k) ?_
      have hN := own_nn2 hv326
      by_cases hd1 : (0 : Int32) < v321
      · skip
        refine own_pre (T' := T317) (g' := (mkF m 250 L327 [])) (fun t k => XS.ifNo X317.here hx rfl (hb hby at_247) rfl ((if0 _ _).trans (tlt hd1).2.2.2) k) ?_
        have hlo := (own_pos0 hdlo).mp hd1
        refine own_pre (T' := T317) (g' := (mkF m 252 L327 [(.int v323)])) (fun t k => XS.iload X317.here hx rfl (v := v323) (hb hby at_250) (by rw [← hL327]; rfl) k) ?_
        by_cases hd2 : (0 : Int32) < v323
        · skip
          refine own_pre (T' := T317) (g' := (mkF m 255 L327 [])) (fun t k => XS.ifNo X317.here hx rfl (hb hby at_252) rfl ((if0 _ _).trans (tlt hd2).2.2.2) k) ?_
          have hhi := (own_pos0 hdhi).mp hd2
          refine own_pre (T' := T317) (g' := (mkF m 256 L327 [(.int (1 : Int32))])) (fun t k => XS.iconst X317.here hx rfl (hb hby at_255) k) ?_
          refine own_pre (T' := T317) (g' := (mkF m 260 L327 [(.int (1 : Int32))])) (fun t k => XS.goto X317.here hx rfl (pc0 := 256) (pc' := 260) rfl (hb hby at_256) (by decide) (by decide) k) ?_
          refine own_pre (T' := T317) (g' := (mkF m 262 #[.val (.int p0), .val (.int p1), .val (.int p2), .val (.int p3), .val (.int p4), .val (.long p5), .second, .val (.int v2), .val (.int v4), .val (.int v6), .val (.int v8), .val (.ref a10), .val (.int (0 : Int32)), .val (.int (1 : Int32)), .val (.int v2), .val (.int v4), .val (.int v321), .val (.int v323), .val (.int (0 : Int32)), .val (.long v326), .second, .val (.int (1 : Int32)), .unset, .unset] [])) (fun t k => XS.istore X317.here hx rfl (hb hby at_260) rfl (l' := #[.val (.int p0), .val (.int p1), .val (.int p2), .val (.int p3), .val (.int p4), .val (.long p5), .second, .val (.int v2), .val (.int v4), .val (.int v6), .val (.int v8), .val (.ref a10), .val (.int (0 : Int32)), .val (.int (1 : Int32)), .val (.int v2), .val (.int v4), .val (.int v321), .val (.int v323), .val (.int (0 : Int32)), .val (.long v326), .second, .val (.int (1 : Int32)), .unset, .unset]) (by rw [← hL327]; rfl) k) ?_
          generalize hL328 : (#[.val (.int p0), .val (.int p1), .val (.int p2), .val (.int p3), .val (.int p4), .val (.long p5), .second, .val (.int v2), .val (.int v4), .val (.int v6), .val (.int v8), .val (.ref a10), .val (.int (0 : Int32)), .val (.int (1 : Int32)), .val (.int v2), .val (.int v4), .val (.int v321), .val (.int v323), .val (.int (0 : Int32)), .val (.long v326), .second, .val (.int (1 : Int32)), .unset, .unset] : Array Slot) = L328
          refine own_pre (T' := T317) (g' := (mkF m 264 L328 [(.ref a10)])) (fun t k => XS.aload X317.here hx rfl (v := (.ref a10)) (hb hby at_262) (by rw [← hL328]; rfl) rfl k) ?_
          refine own_pre (T' := T317) (g' := (mkF m 266 L328 [(.int (1 : Int32)), (.ref a10)])) (fun t k => XS.iload X317.here hx rfl (v := (1 : Int32)) (hb hby at_264) (by rw [← hL328]; rfl) k) ?_
          refine own_pre (T' := T317) (g' := (mkF m 268 L328 [(.int v8), (.int (1 : Int32)), (.ref a10)])) (fun t k => XS.iload X317.here hx rfl (v := v8) (hb hby at_266) (by rw [← hL328]; rfl) k) ?_
          obtain ⟨f329, hf329⟩ : ∃ z, FP.i2d v8 = z := ⟨_, rfl⟩
          refine own_pre (T' := T317) (g' := (mkF m 269 L328 [(.double f329), (.int (1 : Int32)), (.ref a10)])) (fun t k => XS.i2dS X317.here hx rfl (hb hby at_268) rfl hf329 k) ?_
          have Df329 : Jvm.FP.Core.DInt v8.toInt f329 := hf329 ▸ Jvm.FP.Core.i2d_int _
          refine own_ldcd X317 hx hZ hown (own_w hw 43 rfl) (hb hby at_269) ?_
          show own_Go _ _ _ _ _ _ _ T317 (mkF m 272 L328 [(.double (4602678819172646912 : UInt64)), (.double f329), (.int (1 : Int32)), (.ref a10)])
          obtain ⟨f330, hf330⟩ : ∃ z, FP.dmul f329 (4602678819172646912 : UInt64) = z := ⟨_, rfl⟩
          have Df330 : FP.Core.own_H v8.toInt f330 := hf330 ▸ FP.Core.own_H_mul Df329 (by have := rng32 v8; omega)
          refine own_pre (T' := T317) (g' := (mkF m 273 L328 [(.double f330), (.int (1 : Int32)), (.ref a10)])) (fun t k => XS.dmulS X317.here hx rfl (hb hby at_272) rfl (by rw [hf330]; exact Jvm.Free.Fl.val64_no.mpr Df330.nn) hf330 k) ?_
          refine own_pre (T' := T317) (g' := (mkF m 275 L328 [(.long v326), (.double f330), (.int (1 : Int32)), (.ref a10)])) (fun t k => XT.lload X317.here hx rfl (v := v326) (hb hby at_273) (by rw [← hL328]; rfl) k) ?_
          refine own_callv (a := a10) (argsL := [(.int (1 : Int32)), (.double f330), (.long v326)]) (rest := []) X317 hx hZ hown (own_s28 l Z a0 hw [] a10 f330 v326 a35 a29 f121 f167 f225 v8 v2 v4 h244 n0 F315 F248 F254 F257 F263 Df330 Df121 Df167 hN hlo hhi) F291 (own_w hw 106 rfl) (own_w hw 107 rfl) (own_w hw 109 rfl) (own_w hw 108 rfl) (own_w hw 110 rfl) (own_w hw 5 rfl) (by decide) e317' (hb hby at_275) (by rw [hml, ← hL328]; rfl) rfl (lenOf own_pd8 rfl) (by decide) (W := 0) (Nat.le_of_eq rfl) (by decide) (by decide) (by decide) ?_
          intro v331 T331 lo331 X331 Q331
          obtain ⟨h331, e331⟩ : ∃ h, T331.heap = h := ⟨_, rfl⟩
          rw [e331] at Q331
          obtain ⟨rfl, N331, K331⟩ := Q331
          have N331' := Fr.app N317' N331
          have e331' : T331.heap = h244 := e331.trans K331
          show own_Go _ _ _ _ _ _ _ T331 (mkF m 278 L328 [(.int (1 : Int32))])
          refine own_pre (T' := T331) (g' := (mkF m 280 #[.val (.int p0), .val (.int p1), .val (.int p2), .val (.int p3), .val (.int p4), .val (.long p5), .second, .val (.int v2), .val (.int v4), .val (.int v6), .val (.int v8), .val (.ref a10), .val (.int (0 : Int32)), .val (.int (1 : Int32)), .val (.int v2), .val (.int v4), .val (.int v321), .val (.int v323), .val (.int (0 : Int32)), .val (.long v326), .second, .val (.int (1 : Int32)), .val (.int (1 : Int32)), .unset] [])) (fun t k => XS.istore X331.here hx rfl (hb hby at_278) rfl (l' := #[.val (.int p0), .val (.int p1), .val (.int p2), .val (.int p3), .val (.int p4), .val (.long p5), .second, .val (.int v2), .val (.int v4), .val (.int v6), .val (.int v8), .val (.ref a10), .val (.int (0 : Int32)), .val (.int (1 : Int32)), .val (.int v2), .val (.int v4), .val (.int v321), .val (.int v323), .val (.int (0 : Int32)), .val (.long v326), .second, .val (.int (1 : Int32)), .val (.int (1 : Int32)), .unset]) (by rw [← hL328]; rfl) k) ?_
          generalize hL332 : (#[.val (.int p0), .val (.int p1), .val (.int p2), .val (.int p3), .val (.int p4), .val (.long p5), .second, .val (.int v2), .val (.int v4), .val (.int v6), .val (.int v8), .val (.ref a10), .val (.int (0 : Int32)), .val (.int (1 : Int32)), .val (.int v2), .val (.int v4), .val (.int v321), .val (.int v323), .val (.int (0 : Int32)), .val (.long v326), .second, .val (.int (1 : Int32)), .val (.int (1 : Int32)), .unset] : Array Slot) = L332
          refine own_pre (T' := T331) (g' := (mkF m 282 L332 [(.int (1 : Int32))])) (fun t k => XS.iload X331.here hx rfl (v := (1 : Int32)) (hb hby at_280) (by rw [← hL332]; rfl) k) ?_
          refine own_pre (T' := T331) (g' := (mkF m 284 L332 [(.int (1 : Int32)), (.int (1 : Int32))])) (fun t k => XS.iload X331.here hx rfl (v := (1 : Int32)) (hb hby at_282) (by rw [← hL332]; rfl) k) ?_
          refine own_pre (T' := T331) (g' := (mkF m 287 L332 [])) (fun t k => XS.icmpNo X331.here hx rfl (hb hby at_284) rfl (by decide) k) ?_
          refine own_pre (T' := T331) (g' := (mkF m 288 L332 [(.int (1 : Int32))])) (fun t k => XS.iconst X331.here hx rfl (hb hby at_287) k) ?_
          refine own_pre (T' := T331) (g' := (mkF m 292 L332 [(.int (1 : Int32))])) (fun t k => XS.goto X331.here hx rfl (pc0 := 288) (pc' := 292) rfl (hb hby at_288) (by decide) (by decide) k) ?_
          exact own_retZ X331 hx hlk hret rfl (hb hby at_292) e331' ⟨rfl, N331'⟩ (by decide) (by decide)
        · skip
          refine own_pre (T' := T317) (g' := (mkF m 259 L327 [])) (fun t k => XS.ifYes X317.here hx rfl (pc0 := 252) (pc' := 259) rfl (hb hby at_252) rfl ((if0 _ _).trans (flt hd2).2.2.2) (by decide) (by decide) k) ?_
          have hhi := Classical.not_not.mp (mt (own_pos0 hdhi).mpr hd2)
          refine own_pre (T' := T317) (g' := (mkF m 260 L327 [(.int (0 : Int32))])) (fun t k => XS.iconst X317.here hx rfl (hb hby at_259) k) ?_
          refine own_pre (T' := T317) (g' := (mkF m 262 #[.val (.int p0), .val (.int p1), .val (.int p2), .val (.int p3), .val (.int p4), .val (.long p5), .second, .val (.int v2), .val (.int v4), .val (.int v6), .val (.int v8), .val (.ref a10), .val (.int (0 : Int32)), .val (.int (1 : Int32)), .val (.int v2), .val (.int v4), .val (.int v321), .val (.int v323), .val (.int (0 : Int32)), .val (.long v326), .second, .val (.int (0 : Int32)), .unset, .unset] [])) (fun t k => XS.istore X317.here hx rfl (hb hby at_260) rfl (l' := #[.val (.int p0), .val (.int p1), .val (.int p2), .val (.int p3), .val (.int p4), .val (.long p5), .second, .val (.int v2), .val (.int v4), .val (.int v6), .val (.int v8), .val (.ref a10), .val (.int (0 : Int32)), .val (.int (1 : Int32)), .val (.int v2), .val (.int v4), .val (.int v321), .val (.int v323), .val (.int (0 : Int32)), .val (.long v326), .second, .val (.int (0 : Int32)), .unset, .unset]) (by rw [← hL327]; rfl) k) ?_
          generalize hL333 : (#[.val (.int p0), .val (.int p1), .val (.int p2), .val (.int p3), .val (.int p4), .val (.long p5), .second, .val (.int v2), .val (.int v4), .val (.int v6), .val (.int v8), .val (.ref a10), .val (.int (0 : Int32)), .val (.int (1 : Int32)), .val (.int v2), .val (.int v4), .val (.int v321), .val (.int v323), .val (.int (0 : Int32)), .val (.long v326), .second, .val (.int (0 : Int32)), .unset, .unset] : Array Slot) = L333
          refine own_pre (T' := T317) (g' := (mkF m 264 L333 [(.ref a10)])) (fun t k => XS.aload X317.here hx rfl (v := (.ref a10)) (hb hby at_262) (by rw [← hL333]; rfl) rfl k) ?_
          refine own_pre (T' := T317) (g' := (mkF m 266 L333 [(.int (1 : Int32)), (.ref a10)])) (fun t k => XS.iload X317.here hx rfl (v := (1 : Int32)) (hb hby at_264) (by rw [← hL333]; rfl) k) ?_
          refine own_pre (T' := T317) (g' := (mkF m 268 L333 [(.int v8), (.int (1 : Int32)), (.ref a10)])) (fun t k => XS.iload X317.here hx rfl (v := v8) (hb hby at_266) (by rw [← hL333]; rfl) k) ?_
          obtain ⟨f334, hf334⟩ : ∃ z, FP.i2d v8 = z := ⟨_, rfl⟩
          refine own_pre (T' := T317) (g' := (mkF m 269 L333 [(.double f334), (.int (1 : Int32)), (.ref a10)])) (fun t k => XS.i2dS X317.here hx rfl (hb hby at_268) rfl hf334 k) ?_
          have Df334 : Jvm.FP.Core.DInt v8.toInt f334 := hf334 ▸ Jvm.FP.Core.i2d_int _
          refine own_ldcd X317 hx hZ hown (own_w hw 43 rfl) (hb hby at_269) ?_
          show own_Go _ _ _ _ _ _ _ T317 (mkF m 272 L333 [(.double (4602678819172646912 : UInt64)), (.double f334), (.int (1 : Int32)), (.ref a10)])
          obtain ⟨f335, hf335⟩ : ∃ z, FP.dmul f334 (4602678819172646912 : UInt64) = z := ⟨_, rfl⟩
          have Df335 : FP.Core.own_H v8.toInt f335 := hf335 ▸ FP.Core.own_H_mul Df334 (by have := rng32 v8; omega)
          refine own_pre (T' := T317) (g' := (mkF m 273 L333 [(.double f335), (.int (1 : Int32)), (.ref a10)])) (fun t k => XS.dmulS X317.here hx rfl (hb hby at_272) rfl (by rw [hf335]; exact Jvm.Free.Fl.val64_no.mpr Df335.nn) hf335 k) ?_
          refine own_pre (T' := T317) (g' := (mkF m 275 L333 [(.long v326), (.double f335), (.int (1 : Int32)), (.ref a10)])) (fun t k => XT.lload X317.here hx rfl (v := v326) (hb hby at_273) (by rw [← hL333]; rfl) k) ?_
          refine own_callv (a := a10) (argsL := [(.int (1 : Int32)), (.double f335), (.long v326)]) (rest := []) X317 hx hZ hown (own_s29 l Z a0 hw [] a10 f335 v326 a35 a29 f121 f167 f225 v8 v2 v4 h244 n0 F315 F248 F254 F257 F263 Df335 Df121 Df167 hN hlo hhi) F291 (own_w hw 106 rfl) (own_w hw 107 rfl) (own_w hw 109 rfl) (own_w hw 108 rfl) (own_w hw 110 rfl) (own_w hw 5 rfl) (by decide) e317' (hb hby at_275) (by rw [hml, ← hL333]; rfl) rfl (lenOf own_pd8 rfl) (by decide) (W := 0) (Nat.le_of_eq rfl) (by decide) (by decide) (by decide) ?_
          intro v336 T336 lo336 X336 Q336
          obtain ⟨h336, e336⟩ : ∃ h, T336.heap = h := ⟨_, rfl⟩
          rw [e336] at Q336
          obtain ⟨rfl, N336, K336⟩ := Q336
          have N336' := Fr.app N317' N336
          have e336' : T336.heap = h244 := e336.trans K336
          show own_Go _ _ _ _ _ _ _ T336 (mkF m 278 L333 [(.int (0 : Int32))])
          refine own_pre (T' := T336) (g' := (mkF m 280 #[.val (.int p0), .val (.int p1), .val (.int p2), .val (.int p3), .val (.int p4), .val (.long p5), .second, .val (.int v2), .val (.int v4), .val (.int v6), .val (.int v8), .val (.ref a10), .val (.int (0 : Int32)), .val (.int (1 : Int32)), .val (.int v2), .val (.int v4), .val (.int v321), .val (.int v323), .val (.int (0 : Int32)), .val (.long v326), .second, .val (.int (0 : Int32)), .val (.int (0 : Int32)), .unset] [])) (fun t k => XS.istore X336.here hx rfl (hb hby at_278) rfl (l' := #[.val (.int p0), .val (.int p1), .val (.int p2), .val (.int p3), .val (.int p4), .val (.long p5), .second, .val (.int v2), .val (.int v4), .val (.int v6), .val (.int v8), .val (.ref a10), .val (.int (0 : Int32)), .val (.int (1 : Int32)), .val (.int v2), .val (.int v4), .val (.int v321), .val (.int v323), .val (.int (0 : Int32)), .val (.long v326), .second, .val (.int (0 : Int32)), .val (.int (0 : Int32)), .unset]) (by rw [← hL333]; rfl) k) ?_
          generalize hL337 : (#[.val (.int p0), .val (.int p1), .val (.int p2), .val (.int p3), .val (.int p4), .val (.long p5), .second, .val (.int v2), .val (.int v4), .val (.int v6), .val (.int v8), .val (.ref a10), .val (.int (0 : Int32)), .val (.int (1 : Int32)), .val (.int v2), .val (.int v4), .val (.int v321), .val (.int v323), .val (.int (0 : Int32)), .val (.long v326), .second, .val (.int (0 : Int32)), .val (.int (0 : Int32)), .unset] : Array Slot) = L337
          refine own_pre (T' := T336) (g' := (mkF m 282 L337 [(.int (0 : Int32))])) (fun t k => XS.iload X336.here hx rfl (v := (0 : Int32)) (hb hby at_280) (by rw [← hL337]; rfl) k) ?_
          refine own_pre (T' := T336) (g' := (mkF m 284 L337 [(.int (0 : Int32)), (.int (0 : Int32))])) (fun t k => XS.iload X336.here hx rfl (v := (0 : Int32)) (hb hby at_282) (by rw [← hL337]; rfl) k) ?_
          refine own_pre (T' := T336) (g' := (mkF m 287 L337 [])) (fun t k => XS.icmpNo X336.here hx rfl (hb hby at_284) rfl (by decide) k) ?_
          refine own_pre (T' := T336) (g' := (mkF m 288 L337 [(.int (1 : Int32))])) (fun t k => XS.iconst X336.here hx rfl (hb hby at_287) k) ?_
          refine own_pre (T' := T336) (g' := (mkF m 292 L337 [(.int (1 : Int32))])) (fun t k => XS.goto X336.here hx rfl (pc0 := 288) (pc' := 292) rfl (hb hby at_288) (by decide) (by decide) k) ?_
          exact own_retZ X336 hx hlk hret rfl (hb hby at_292) e336' ⟨rfl, N336'⟩ (by decide) (by decide)
      · skip
        refine own_pre (T' := T317) (g' := (mkF m 259 L327 [])) (fun t k => XS.ifYes X317.here hx rfl (pc0 := 247) (pc' := 259) rfl (hb hby at_247) rfl ((if0 _ _).trans (flt hd1).2.2.2) (by decide) (by decide) k) ?_
        have hlo := Classical.not_not.mp (mt (own_pos0 hdlo).mpr hd1)
        refine own_pre (T' := T317) (g' := (mkF m 260 L327 [(.int (0 : Int32))])) (fun t k => XS.iconst X317.here hx rfl (hb hby at_259) k) ?_
        refine own_pre (T' := T317) (g' := (mkF m 262 #[.val (.int p0), .val (.int p1), .val (.int p2), .val (.int p3), .val (.int p4), .val (.long p5), .second, .val (.int v2), .val (.int v4), .val (.int v6), .val (.int v8), .val (.ref a10), .val (.int (0 : Int32)), .val (.int (1 : Int32)), .val (.int v2), .val (.int v4), .val (.int v321), .val (.int v323), .val (.int (0 : Int32)), .val (.long v326), .second, .val (.int (0 : Int32)), .unset, .unset] [])) (fun t k => XS.istore X317.here hx rfl (hb hby at_260) rfl (l' := #[.val (.int p0), .val (.int p1), .val (.int p2), .val (.int p3), .val (.int p4), .val (.long p5), .second, .val (.int v2), .val (.int v4), .val (.int v6), .val (.int v8), .val (.ref a10), .val (.int (0 : Int32)), .val (.int (1 : Int32)), .val (.int v2), .val (.int v4), .val (.int v321), .val (.int v323), .val (.int (0 : Int32)), .val (.long v326), .second, .val (.int (0 : Int32)), .unset, .unset]) (by rw [← hL327]; rfl) k) ?_
        generalize hL338 : (#[.val (.int p0), .val (.int p1), .val (.int p2), .val (.int p3), .val (.int p4), .val (.long p5), .second, .val (.int v2), .val (.int v4), .val (.int v6), .val (.int v8), .val (.ref a10), .val (.int (0 : Int32)), .val (.int (1 : Int32)), .val (.int v2), .val (.int v4), .val (.int v321), .val (.int v323), .val (.int (0 : Int32)), .val (.long v326), .second, .val (.int (0 : Int32)), .unset, .unset] : Array Slot) = L338
        refine own_pre (T' := T317) (g' := (mkF m 264 L338 [(.ref a10)])) (fun t k => XS.aload X317.here hx rfl (v := (.ref a10)) (hb hby at_262) (by rw [← hL338]; rfl) rfl k) ?_
        refine own_pre (T' := T317) (g' := (mkF m 266 L338 [(.int (1 : Int32)), (.ref a10)])) (fun t k => XS.iload X317.here hx rfl (v := (1 : Int32)) (hb hby at_264) (by rw [← hL338]; rfl) k) ?_
        refine own_pre (T' := T317) (g' := (mkF m 268 L338 [(.int v8), (.int (1 : Int32)), (.ref a10)])) (fun t k => XS.iload X317.here hx rfl (v := v8) (hb hby at_266) (by rw [← hL338]; rfl) k) ?_
        obtain ⟨f339, hf339⟩ : ∃ z, FP.i2d v8 = z := ⟨_, rfl⟩
        refine own_pre (T' := T317) (g' := (mkF m 269 L338 [(.double f339), (.int (1 : Int32)), (.ref a10)])) (fun t k => XS.i2dS X317.here hx rfl (hb hby at_268) rfl hf339 k) ?_
        have Df339 : Jvm.FP.Core.DInt v8.toInt f339 := hf339 ▸ Jvm.FP.Core.i2d_int _
        refine own_ldcd X317 hx hZ hown (own_w hw 43 rfl) (hb hby at_269) ?_
        show own_Go _ _ _ _ _ _ _ T317 (mkF m 272 L338 [(.double (4602678819172646912 : UInt64)), (.double f339), (.int (1 : Int32)), (.ref a10)])
        obtain ⟨f340, hf340⟩ : ∃ z, FP.dmul f339 (4602678819172646912 : UInt64) = z := ⟨_, rfl⟩
        have Df340 : FP.Core.own_H v8.toInt f340 := hf340 ▸ FP.Core.own_H_mul Df339 (by have := rng32 v8; omega)
        refine own_pre (T' := T317) (g' := (mkF m 273 L338 [(.double f340), (.int (1 : Int32)), (.ref a10)])) (fun t k => XS.dmulS X317.here hx rfl (hb hby at_272) rfl (by rw [hf340]; exact Jvm.Free.Fl.val64_no.mpr Df340.nn) hf340 k) ?_
        refine own_pre (T' := T317) (g' := (mkF m 275 L338 [(.long v326), (.double f340), (.int (1 : Int32)), (.ref a10)])) (fun t k => XT.lload X317.here hx rfl (v := v326) (hb hby at_273) (by rw [← hL338]; rfl) k) ?_
        refine own_callv (a := a10) (argsL := [(.int (1 : Int32)), (.double f340), (.long v326)]) (rest := []) X317 hx hZ hown (own_s30 l Z a0 hw [] a10 f340 v326 a35 a29 f121 f167 f225 v8 v2 h244 n0 F315 F248 F254 F257 F263 Df340 Df121 hN hlo) F291 (own_w hw 106 rfl) (own_w hw 107 rfl) (own_w hw 109 rfl) (own_w hw 108 rfl) (own_w hw 110 rfl) (own_w hw 5 rfl) (by decide) e317' (hb hby at_275) (by rw [hml, ← hL338]; rfl) rfl (lenOf own_pd8 rfl) (by decide) (W := 0) (Nat.le_of_eq rfl) (by decide) (by decide) (by decide) ?_
        intro v341 T341 lo341 X341 Q341
        obtain ⟨h341, e341⟩ : ∃ h, T341.heap = h := ⟨_, rfl⟩
        rw [e341] at Q341
        obtain ⟨rfl, N341, K341⟩ := Q341
        have N341' := Fr.app N317' N341
        have e341' : T341.heap = h244 := e341.trans K341
        show own_Go _ _ _ _ _ _ _ T341 (mkF m 278 L338 [(.int (0 : Int32))])
        refine own_pre (T' := T341) (g' := (mkF m 280 #[.val (.int p0), .val (.int p1), .val (.int p2), .val (.int p3), .val (.int p4), .val (.long p5), .second, .val (.int v2), .val (.int v4), .val (.int v6), .val (.int v8), .val (.ref a10), .val (.int (0 : Int32)), .val (.int (1 : Int32)), .val (.int v2), .val (.int v4), .val (.int v321), .val (.int v323), .val (.int (0 : Int32)), .val (.long v326), .second, .val (.int (0 : Int32)), .val (.int (0 : Int32)), .unset] [])) (fun t k => XS.istore X341.here hx rfl (hb hby at_278) rfl (l' := #[.val (.int p0), .val (.int p1), .val (.int p2), .val (.int p3), .val (.int p4), .val (.long p5), .second, .val (.int v2), .val (.int v4), .val (.int v6), .val (.int v8), .val (.ref a10), .val (.int (0 : Int32)), .val (.int (1 : Int32)), .val (.int v2), .val (.int v4), .val (.int v321), .val (.int v323), .val (.int (0 : Int32)), .val (.long v326), .second, .val (.int (0 : Int32)), .val (.int (0 : Int32)), .unset]) (by rw [← hL338]; rfl) k) ?_
        generalize hL342 : (#[.val (.int p0), .val (.int p1), .val (.int p2), .val (.int p3), .val (.int p4), .val (.long p5), .second, .val (.int v2), .val (.int v4), .val (.int v6), .val (.int v8), .val (.ref a10), .val (.int (0 : Int32)), .val (.int (1 : Int32)), .val (.int v2), .val (.int v4), .val (.int v321), .val (.int v323), .val (.int (0 : Int32)), .val (.long v326), .second, .val (.int (0 : Int32)), .val (.int (0 : Int32)), .unset] : Array Slot) = L342
        refine own_pre (T' := T341) (g' := (mkF m 282 L342 [(.int (0 : Int32))])) (fun t k => XS.iload X341.here hx rfl (v := (0 : Int32)) (hb hby at_280) (by rw [← hL342]; rfl) k) ?_
        refine own_pre (T' := T341) (g' := (mkF m 284 L342 [(.int (0 : Int32)), (.int (0 : Int32))])) (fun t k => XS.iload X341.here hx rfl (v := (0 : Int32)) (hb hby at_282) (by rw [← hL342]; rfl) k) ?_
        refine own_pre (T' := T341) (g' := (mkF m 287 L342 [])) (fun t k => XS.icmpNo X341.here hx rfl (hb hby at_284) rfl (by decide) k) ?_
        refine own_pre (T' := T341) (g' := (mkF m 288 L342 [(.int (1 : Int32))])) (fun t k => XS.iconst X341.here hx rfl (hb hby at_287) k) ?_
        refine own_pre (T' := T341) (g' := (mkF m 292 L342 [(.int (1 : Int32))])) (fun t k => XS.goto X341.here hx rfl (pc0 := 288) (pc' := 292) rfl (hb hby at_288) (by decide) (by decide) k) ?_
        exact own_retZ X341 hx hlk hret rfl (hb hby at_292) e341' ⟨rfl, N341'⟩ (by decide) (by decide)
    · skip
      refine own_pre (T' := T317) (g' := (mkF m 171 L324 [])) (fun t k => XS.ifNo X317.here hx rfl (hb hby at_168) rfl ((if0 _ _).trans (feq hsel2).1) k) ?_
      refine own_pre (T' := T317) (g' := (mkF m 172 L324 [(.int (1 : Int32))])) (fun t k => XS.iconst X317.here hx rfl (hb hby at_171) k) ?_
      refine own_pre (T' := T317) (g' := (mkF m 176 L324 [(.int (1 : Int32))])) (fun t k => XS.goto X317.here hx rfl (pc0 := 172) (pc' := 176) rfl (hb hby at_172) (by decide) (by decide) k) ?_
      refine own_pre (T' := T317) (g' := (mkF m 178 #[.val (.int p0), .val (.int p1), .val (.int p2), .val (.int p3), .val (.int p4), .val (.long p5), .second, .val (.int v2), .val (.int v4), .val (.int v6), .val (.int v8), .val (.ref a10), .val (.int (0 : Int32)), .val (.int (1 : Int32)), .val (.int v2), .val (.int v4), .val (.int v321), .val (.int v323), .val (.int (1 : Int32)), .unset, .unset, .unset, .unset, .unset] [])) (fun t k => XS.istore X317.here hx rfl (hb hby at_176) rfl (l' := #[.val (.int p0), .val (.int p1), .val (.int p2), .val (.int p3), .val (.int p4), .val (.long p5), .second, .val (.int v2), .val (.int v4), .val (.int v6), .val (.int v8), .val (.ref a10), .val (.int (0 : Int32)), .val (.int (1 : Int32)), .val (.int v2), .val (.int v4), .val (.int v321), .val (.int v323), .val (.int (1 : Int32)), .unset, .unset, .unset, .unset, .unset]) (by rw [← hL324]; rfl) k) ?_
      generalize hL343 : (#[.val (.int p0), .val (.int p1), .val (.int p2), .val (.int p3), .val (.int p4), .val (.long p5), .second, .val (.int v2), .val (.int v4), .val (.int v6), .val (.int v8), .val (.ref a10), .val (.int (0 : Int32)), .val (.int (1 : Int32)), .val (.int v2), .val (.int v4), .val (.int v321), .val (.int v323), .val (.int (1 : Int32)), .unset, .unset, .unset, .unset, .unset] : Array Slot) = L343
      refine own_pre (T' := T317) (g' := (mkF m 180 L343 [(.int (1 : Int32))])) (fun t k => XS.iload X317.here hx rfl (v := (1 : Int32)) (hb hby at_178) (by rw [← hL343]; rfl) k) ?_
      refine own_pre (T' := T317) (g' := (mkF m 183 L343 [])) (fun t k => XS.ifNo X317.here hx rfl (hb hby at_180) rfl (by decide) k) ?_
      refine own_pre (T' := T317) (g' := (mkF m 185 L343 [(.long p5)])) (fun t k => XT.lload X317.here hx rfl (v := p5) (hb hby at_183) (by rw [← hL343]; rfl) k) ?_
      refine own_ldcl X317 hx hZ hown (own_w hw 112 rfl) (hb hby at_185) ?_
      show own_Go _ _ _ _ _ _ _ T317 (mkF m 188 L343 [(.long (524287 : Int64)), (.long p5)])
      refine own_pre (T' := T317) (g' := (mkF m 189 L343 [(.long (p5 &&& (524287 : Int64)))])) (fun t k => XT.land X317.here hx rfl (hb hby at_188) rfl k) ?_
      generalize hv344 : p5 &&& (524287 : Int64) = v344
      refine own_pre (T' := T317) (g' := (mkF m 191 #[.val (.int p0), .val (.int p1), .val (.int p2), .val (.int p3), .val (.int p4), .val (.long p5), .second, .val (.int v2), .val (.int v4), .val (.int v6), .val (.int v8), .val (.ref a10), .val (.int (0 : Int32)), .val (.int (1 : Int32)), .val (.int v2), .val (.int v4), .val (.int v321), .val (.int v323), .val (.int (1 : Int32)), .unset, .unset, .unset, .val (.long v344), .second] [])) (fun t k => XT.lstore X317.here hx rfl (hb hby at_189) rfl (l' := #[.val (.int p0), .val (.int p1), .val (.int p2), .val (.int p3), .val (.int p4), .val (.long p5), .second, .val (.int v2), .val (.int v4), .val (.int v6), .val (.int v8), .val (.ref a10), .val (.int (0 : Int32)), .val (.int (1 : Int32)), .val (.int v2), .val (.int v4), .val (.int v321), .val (.int v323), .val (.int (1 : Int32)), .unset, .unset, .unset, .val (.long v344), .second]) (by rw [← hL343]; rfl) k) ?_
      generalize hL345 : (#[.val (.int p0), .val (.int p1), .val (.int p2), .val (.int p3), .val (.int p4), .val (.long p5), .second, .val (.int v2), .val (.int v4), .val (.int v6), .val (.int v8), .val (.ref a10), .val (.int (0 : Int32)), .val (.int (1 : Int32)), .val (.int v2), .val (.int v4), .val (.int v321), .val (.int v323), .val (.int (1 : Int32)), .unset, .unset, .unset, .val (.long v344), .second] : Array Slot) = L345
      refine own_pre (T' := T317) (g' := (mkF m 193 L345 [(.long v344)])) (fun t k => XT.lload X317.here hx rfl (v := v344) (hb hby at_191) (by rw [← hL345]; rfl) k) ?_
      refine own_ldcl X317 hx hZ hown (own_w hw 113 rfl) (hb hby at_193) ?_
      show own_Go _ _ _ _ _ _ _ T317 (mkF m 196 L345 [(.long (100000000 : Int64)), (.long v344)])
      refine own_pre (T' := T317) (g' := (mkF m 197 L345 [(.long (v344 * (100000000 : Int64)))])) (fun t k => XT.lmul X317.here hx rfl (hb hby at_196) rfl k) ?_
      generalize hv346 : v344 * (100000000 : Int64) = v346
      refine own_pre (T' := T317) (g' := (mkF m 199 #[.val (.int p0), .val (.int p1), .val (.int p2), .val (.int p3), .val (.int p4), .val (.long p5), .second, .val (.int v2), .val (.int v4), .val (.int v6), .val (.int v8), .val (.ref a10), .val (.int (0 : Int32)), .val (.int (1 : Int32)), .val (.int v2), .val (.int v4), .val (.int v321), .val (.int v323), .val (.int (1 : Int32)), .val (.long v346), .second, .unset, .val (.long v344), .second] [])) (fun t k => XT.lstore X317.here hx rfl (hb hby at_197) rfl (l' := #[.val (.int p0), .val (.int p1), .val (.int p2), .val (.int p3), .val (.int p4), .val (.long p5), .second, .val (.int v2), .val (.int v4), .val (.int v6), .val (.int v8), .val (.ref a10), .val (.int (0 : Int32)), .val (.int (1 : Int32)), .val (.int v2), .val (.int v4), .val (.int v321), .val (.int v323), .val (.int (1 : Int32)), .val (.long v346), .second, .unset, .val (.long v344), .second]) (by rw [← hL345]; rfl) k) ?_
      generalize hL347 : (#[.val (.int p0), .val (.int p1), .val (.int p2), .val (.int p3), .val (.int p4), .val (.long p5), .second, .val (.int v2), .val (.int v4), .val (.int v6), .val (.int v8), .val (.ref a10), .val (.int (0 : Int32)), .val (.int (1 : Int32)), .val (.int v2), .val (.int v4), .val (.int v321), .val (.int v323), .val (.int (1 : Int32)), .val (.long v346), .second, .unset, .val (.long v344), .second] : Array Slot) = L347
      refine own_pre (T' := T317) (g' := (mkF m 201 L347 [(.int v321)])) (fun t k => XS.iload X317.here hx rfl (v := v321) (hb hby at_199) (by rw [← hL347]; rfl) k) ?_
      refine own_pre (T' := T317) (g' := (mkF m 202 L347 [(.long v321.toInt64)])) (fun t k => XT.i2l X317.here hx rfl (hb hby at_201) rfl k) ?_
      refine own_ldcl X317 hx hZ hown (own_w hw 114 rfl) (hb hby at_202) ?_
      show own_Go _ _ _ _ _ _ _ T317 (mkF m 205 L347 [(.long (2 : Int64)), (.long v321.toInt64)])
      refine own_pre (T' := T317) (g' := (mkF m 207 L347 [(.long v344), (.long (2 : Int64)), (.long v321.toInt64)])) (fun t k => XT.lload X317.here hx rfl (v := v344) (hb hby at_205) (by rw [← hL347]; rfl) k) ?_
      refine own_pre (T' := T317) (g' := (mkF m 208 L347 [(.long ((2 : Int64) * v344)), (.long v321.toInt64)])) (fun t k => XT.lmul X317.here hx rfl (hb hby at_207) rfl k) ?_
      refine own_pre (T' := T317) (g' := (mkF m 209 L347 [(.int (XT.cmpL v321.toInt64 ((2 : Int64) * v344)))])) (fun t k => XT.lcmp X317.here hx rfl (hb hby at_208) rfl k) ?_
      have hkb := own_kb hv344
      have hN := own_nk hv346 hkb
      by_cases hd1 : (XT.cmpL v321.toInt64 ((2 : Int64) * v344)) < (0 : Int32)
      · skip
        refine own_pre (T' := T317) (g' := (mkF m 229 L347 [])) (fun t k => XS.ifYes X317.here hx rfl (pc0 := 209) (pc' := 229) rfl (hb hby at_209) rfl ((if0 _ _).trans (tlt hd1).1) (by decide) (by decide) k) ?_
        have hlo := (own_lt2k hdlo hkb).mp hd1
        refine own_pre (T' := T317) (g' := (mkF m 230 L347 [(.int (0 : Int32))])) (fun t k => XS.iconst X317.here hx rfl (hb hby at_229) k) ?_
        refine own_pre (T' := T317) (g' := (mkF m 232 #[.val (.int p0), .val (.int p1), .val (.int p2), .val (.int p3), .val (.int p4), .val (.long p5), .second, .val (.int v2), .val (.int v4), .val (.int v6), .val (.int v8), .val (.ref a10), .val (.int (0 : Int32)), .val (.int (1 : Int32)), .val (.int v2), .val (.int v4), .val (.int v321), .val (.int v323), .val (.int (1 : Int32)), .val (.long v346), .second, .val (.int (0 : Int32)), .val (.long v344), .second] [])) (fun t k => XS.istore X317.here hx rfl (hb hby at_230) rfl (l' := #[.val (.int p0), .val (.int p1), .val (.int p2), .val (.int p3), .val (.int p4), .val (.long p5), .second, .val (.int v2), .val (.int v4), .val (.int v6), .val (.int v8), .val (.ref a10), .val (.int (0 : Int32)), .val (.int (1 : Int32)), .val (.int v2), .val (.int v4), .val (.int v321), .val (.int v323), .val (.int (1 : Int32)), .val (.long v346), .second, .val (.int (0 : Int32)), .val (.long v344), .second]) (by rw [← hL347]; rfl) k) ?_
        generalize hL348 : (#[.val (.int p0), .val (.int p1), .val (.int p2), .val (.int p3), .val (.int p4), .val (.long p5), .second, .val (.int v2), .val (.int v4), .val (.int v6), .val (.int v8), .val (.ref a10), .val (.int (0 : Int32)), .val (.int (1 : Int32)), .val (.int v2), .val (.int v4), .val (.int v321), .val (.int v323), .val (.int (1 : Int32)), .val (.long v346), .second, .val (.int (0 : Int32)), .val (.long v344), .second] : Array Slot) = L348
        refine own_pre (T' := T317) (g' := (mkF m 262 L348 [])) (fun t k => XS.goto X317.here hx rfl (pc0 := 232) (pc' := 262) rfl (hb hby at_232) (by decide) (by decide) k) ?_
        refine own_pre (T' := T317) (g' := (mkF m 264 L348 [(.ref a10)])) (fun t k => XS.aload X317.here hx rfl (v := (.ref a10)) (hb hby at_262) (by rw [← hL348]; rfl) rfl k) ?_
        refine own_pre (T' := T317) (g' := (mkF m 266 L348 [(.int (1 : Int32)), (.ref a10)])) (fun t k => XS.iload X317.here hx rfl (v := (1 : Int32)) (hb hby at_264) (by rw [← hL348]; rfl) k) ?_
        refine own_pre (T' := T317) (g' := (mkF m 268 L348 [(.int v8), (.int (1 : Int32)), (.ref a10)])) (fun t k => XS.iload X317.here hx rfl (v := v8) (hb hby at_266) (by rw [← hL348]; rfl) k) ?_
        obtain ⟨f349, hf349⟩ : ∃ z, FP.i2d v8 = z := ⟨_, rfl⟩
        refine own_pre (T' := T317) (g' := (mkF m 269 L348 [(.double f349), (.int (1 : Int32)), (.ref a10)])) (fun t k => XS.i2dS X317.here hx rfl (hb hby at_268) rfl hf349 k) ?_
        have Df349 : Jvm.FP.Core.DInt v8.toInt f349 := hf349 ▸ Jvm.FP.Core.i2d_int _
        refine own_ldcd X317 hx hZ hown (own_w hw 43 rfl) (hb hby at_269) ?_
        show own_Go _ _ _ _ _ _ _ T317 (mkF m 272 L348 [(.double (4602678819172646912 : UInt64)), (.double f349), (.int (1 : Int32)), (.ref a10)])
        obtain ⟨f350, hf350⟩ : ∃ z, FP.dmul f349 (4602678819172646912 : UInt64) = z := ⟨_, rfl⟩
        have Df350 : FP.Core.own_H v8.toInt f350 := hf350 ▸ FP.Core.own_H_mul Df349 (by have := rng32 v8; omega)
        refine own_pre (T' := T317) (g' := (mkF m 273 L348 [(.double f350), (.int (1 : Int32)), (.ref a10)])) (fun t k => XS.dmulS X317.here hx rfl (hb hby at_272) rfl (by rw [hf350]; exact Jvm.Free.Fl.val64_no.mpr Df350.nn) hf350 k) ?_
        refine own_pre (T' := T317) (g' := (mkF m 275 L348 [(.long v346), (.double f350), (.int (1 : Int32)), (.ref a10)])) (fun t k => XT.lload X317.here hx rfl (v := v346) (hb hby at_273) (by rw [← hL348]; rfl) k) ?_
        refine own_callv (a := a10) (argsL := [(.int (1 : Int32)), (.double f350), (.long v346)]) (rest := []) X317 hx hZ hown (own_s31 l Z a0 hw [] a10 f350 v346 a35 a29 f121 f167 f225 v8 v2 v344 h244 n0 F315 F248 F254 F257 F263 Df350 Df121 hN hlo) F291 (own_w hw 106 rfl) (own_w hw 107 rfl) (own_w hw 109 rfl) (own_w hw 108 rfl) (own_w hw 110 rfl) (own_w hw 5 rfl) (by decide) e317' (hb hby at_275) (by rw [hml, ← hL348]; rfl) rfl (lenOf own_pd8 rfl) (by decide) (W := 0) (Nat.le_of_eq rfl) (by decide) (by decide) (by decide) ?_
        intro v351 T351 lo351 X351 Q351
        obtain ⟨h351, e351⟩ : ∃ h, T351.heap = h := ⟨_, rfl⟩
        rw [e351] at Q351
        obtain ⟨rfl, N351, K351⟩ := Q351
        have N351' := Fr.app N317' N351
        have e351' : T351.heap = h244 := e351.trans K351
        show own_Go _ _ _ _ _ _ _ T351 (mkF m 278 L348 [(.int (0 : Int32))])
        refine own_pre (T' := T351) (g' := (mkF m 280 #[.val (.int p0), .val (.int p1), .val (.int p2), .val (.int p3), .val (.int p4), .val (.long p5), .second, .val (.int v2), .val (.int v4), .val (.int v6), .val (.int v8), .val (.ref a10), .val (.int (0 : Int32)), .val (.int (1 : Int32)), .val (.int v2), .val (.int v4), .val (.int v321), .val (.int v323), .val (.int (1 : Int32)), .val (.long v346), .second, .val (.int (0 : Int32)), .val (.int (0 : Int32)), .unset] [])) (fun t k => XS.istore X351.here hx rfl (hb hby at_278) rfl (l' := #[.val (.int p0), .val (.int p1), .val (.int p2), .val (.int p3), .val (.int p4), .val (.long p5), .second, .val (.int v2), .val (.int v4), .val (.int v6), .val (.int v8), .val (.ref a10), .val (.int (0 : Int32)), .val (.int (1 : Int32)), .val (.int v2), .val (.int v4), .val (.int v321), .val (.int v323), .val (.int (1 : Int32)), .val (.long v346), .second, .val (.int (0 : Int32)), .val (.int (0 : Int32)), .unset]) (by rw [← hL348]; rfl) k) ?_
        generalize hL352 : (#[.val (.int p0), .val (.int p1), .val (.int p2), .val (.int p3), .val (.int p4), .val (.long p5), .second, .val (.int v2), .val (.int v4), .val (.int v6), .val (.int v8), .val (.ref a10), .val (.int (0 : Int32)), .val (.int (1 : Int32)), .val (.int v2), .val (.int v4), .val (.int v321), .val (.int v323), .val (.int (1 : Int32)), .val (.long v346), .second, .val (.int (0 : Int32)), .val (.int (0 : Int32)), .unset] : Array Slot) = L352
        refine own_pre (T' := T351) (g' := (mkF m 282 L352 [(.int (0 : Int32))])) (fun t k => XS.iload X351.here hx rfl (v := (0 : Int32)) (hb hby at_280) (by rw [← hL352]; rfl) k) ?_
        refine own_pre (T' := T351) (g' := (mkF m 284 L352 [(.int (0 : Int32)), (.int (0 : Int32))])) (fun t k => XS.iload X351.here hx rfl (v := (0 : Int32)) (hb hby at_282) (by rw [← hL352]; rfl) k) ?_
        refine own_pre (T' := T351) (g' := (mkF m 287 L352 [])) (fun t k => XS.icmpNo X351.here hx rfl (hb hby at_284) rfl (by decide) k) ?_
        refine own_pre (T' := T351) (g' := (mkF m 288 L352 [(.int (1 : Int32))])) (fun t k => XS.iconst X351.here hx rfl (hb hby at_287) k) ?_
        refine own_pre (T' := T351) (g' := (mkF m 292 L352 [(.int (1 : Int32))])) (fun t k => XS.goto X351.here hx rfl (pc0 := 288) (pc' := 292) rfl (hb hby at_288) (by decide) (by decide) k) ?_
        exact own_retZ X351 hx hlk hret rfl (hb hby at_292) e351' ⟨rfl, N351'⟩ (by decide) (by decide)
      · skip
        refine own_pre (T' := T317) (g' := (mkF m 212 L347 [])) (fun t k => XS.ifNo X317.here hx rfl (hb hby at_209) rfl ((if0 _ _).trans (flt hd1).1) k) ?_
        have hlo := mt (own_lt2k hdlo hkb).mpr hd1
        refine own_pre (T' := T317) (g' := (mkF m 214 L347 [(.int v323)])) (fun t k => XS.iload X317.here hx rfl (v := v323) (hb hby at_212) (by rw [← hL347]; rfl) k) ?_
        refine own_pre (T' := T317) (g' := (mkF m 215 L347 [(.long v323.toInt64)])) (fun t k => XT.i2l X317.here hx rfl (hb hby at_214) rfl k) ?_
        refine own_ldcl X317 hx hZ hown (own_w hw 114 rfl) (hb hby at_215) ?_
        show own_Go _ _ _ _ _ _ _ T317 (mkF m 218 L347 [(.long (2 : Int64)), (.long v323.toInt64)])
        refine own_pre (T' := T317) (g' := (mkF m 220 L347 [(.long v344), (.long (2 : Int64)), (.long v323.toInt64)])) (fun t k => XT.lload X317.here hx rfl (v := v344) (hb hby at_218) (by rw [← hL347]; rfl) k) ?_
        refine own_pre (T' := T317) (g' := (mkF m 221 L347 [(.long ((2 : Int64) * v344)), (.long v323.toInt64)])) (fun t k => XT.lmul X317.here hx rfl (hb hby at_220) rfl k) ?_
        refine own_pre (T' := T317) (g' := (mkF m 222 L347 [(.int (XT.cmpL v323.toInt64 ((2 : Int64) * v344)))])) (fun t k => XT.lcmp X317.here hx rfl (hb hby at_221) rfl k) ?_
        by_cases hd2 : (XT.cmpL v323.toInt64 ((2 : Int64) * v344)) < (0 : Int32)
        · skip
          refine own_pre (T' := T317) (g' := (mkF m 229 L347 [])) (fun t k => XS.ifYes X317.here hx rfl (pc0 := 222) (pc' := 229) rfl (hb hby at_222) rfl ((if0 _ _).trans (tlt hd2).1) (by decide) (by decide) k) ?_
          have hhi := (own_lt2k hdhi hkb).mp hd2
          refine own_pre (T' := T317) (g' := (mkF m 230 L347 [(.int (0 : Int32))])) (fun t k => XS.iconst X317.here hx rfl (hb hby at_229) k) ?_
          refine own_pre (T' := T317) (g' := (mkF m 232 #[.val (.int p0), .val (.int p1), .val (.int p2), .val (.int p3), .val (.int p4), .val (.long p5), .second, .val (.int v2), .val (.int v4), .val (.int v6), .val (.int v8), .val (.ref a10), .val (.int (0 : Int32)), .val (.int (1 : Int32)), .val (.int v2), .val (.int v4), .val (.int v321), .val (.int v323), .val (.int (1 : Int32)), .val (.long v346), .second, .val (.int (0 : Int32)), .val (.long v344), .second] [])) (fun t k => XS.istore X317.here hx rfl (hb hby at_230) rfl (l' := #[.val (.int p0), .val (.int p1), .val (.int p2), .val (.int p3), .val (.int p4), .val (.long p5), .second, .val (.int v2), .val (.int v4), .val (.int v6), .val (.int v8), .val (.ref a10), .val (.int (0 : Int32)), .val (.int (1 : Int32)), .val (.int v2), .val (.int v4), .val (.int v321), .val (.int v323), .val (.int (1 : Int32)), .val (.long v346), .second, .val (.int (0 : Int32)), .val (.long v344), .second]) (by rw [← hL347]; rfl) k) ?_
          generalize hL353 : (#[.val (.int p0), .val (.int p1), .val (.int p2), .val (.int p3), .val (.int p4), .val (.long p5), .second, .val (.int v2), .val (.int v4), .val (.int v6), .val (.int v8), .val (.ref a10), .val (.int (0 : Int32)), .val (.int (1 : Int32)), .val (.int v2), .val (.int v4), .val (.int v321), .val (.int v323), .val (.int (1 : Int32)), .val (.long v346), .second, .val (.int (0 : Int32)), .val (.long v344), .second] : Array Slot) = L353
          refine own_pre (T' := T317) (g' := (mkF m 262 L353 [])) (fun t k => XS.goto X317.here hx rfl (pc0 := 232) (pc' := 262) rfl (hb hby at_232) (by decide) (by decide) k) ?_
          refine own_pre (T' := T317) (g' := (mkF m 264 L353 [(.ref a10)])) (fun t k => XS.aload X317.here hx rfl (v := (.ref a10)) (hb hby at_262) (by rw [← hL353]; rfl) rfl k) ?_
          refine own_pre (T' := T317) (g' := (mkF m 266 L353 [(.int (1 : Int32)), (.ref a10)])) (fun t k => XS.iload X317.here hx rfl (v := (1 : Int32)) (hb hby at_264) (by rw [← hL353]; rfl) k) ?_
          refine own_pre (T' := T317) (g' := (mkF m 268 L353 [(.int v8), (.int (1 : Int32)), (.ref a10)])) (fun t k => XS.iload X317.here hx rfl (v := v8) (hb hby at_266) (by rw [← hL353]; rfl) k) ?_
          obtain ⟨f354, hf354⟩ : ∃ z, FP.i2d v8 = z := ⟨_, rfl⟩
          refine own_pre (T' := T317) (g' := (mkF m 269 L353 [(.double f354), (.int (1 : Int32)), (.ref a10)])) (fun t k => XS.i2dS X317.here hx rfl (hb hby at_268) rfl hf354 k) ?_
          have Df354 : Jvm.FP.Core.DInt v8.toInt f354 := hf354 ▸ Jvm.FP.Core.i2d_int _
          refine own_ldcd X317 hx hZ hown (own_w hw 43 rfl) (hb hby at_269) ?_
          show own_Go _ _ _ _ _ _ _ T317 (mkF m 272 L353 [(.double (4602678819172646912 : UInt64)), (.double f354), (.int (1 : Int32)), (.ref a10)])
          obtain ⟨f355, hf355⟩ : ∃ z, FP.dmul f354 (4602678819172646912 : UInt64) = z := ⟨_, rfl⟩
          have Df355 : FP.Core.own_H v8.toInt f355 := hf355 ▸ FP.Core.own_H_mul Df354 (by have := rng32 v8; omega)
          refine own_pre (T' := T317) (g' := (mkF m 273 L353 [(.double f355), (.int (1 : Int32)), (.ref a10)])) (fun t k => XS.dmulS X317.here hx rfl (hb hby at_272) rfl (by rw [hf355]; exact Jvm.Free.Fl.val64_no.mpr Df355.nn) hf355 k) ?_
          refine own_pre (T' := T317) (g' := (mkF m 275 L353 [(.long v346), (.double f355), (.int (1 : Int32)), (.ref a10)])) (fun t k => XT.lload X317.here hx rfl (v := v346) (hb hby at_273) (by rw [← hL353]; rfl) k) ?_
          refine own_callv (a := a10) (argsL := [(.int (1 : Int32)), (.double f355), (.long v346)]) (rest := []) X317 hx hZ hown (own_s32 l Z a0 hw [] a10 f355 v346 a35 a29 f121 f167 f225 v8 v2 v4 v344 h244 n0 F315 F248 F254 F257 F263 Df355 Df121 Df167 hN hlo hhi) F291 (own_w hw 106 rfl) (own_w hw 107 rfl) (own_w hw 109 rfl) (own_w hw 108 rfl) (own_w hw 110 rfl) (own_w hw 5 rfl) (by decide) e317' (hb hby at_275) (by rw [hml, ← hL353]; rfl) rfl (lenOf own_pd8 rfl) (by decide) (W := 0) (Nat.le_of_eq rfl) (by decide) (by decide) (by decide) ?_
          intro v356 T356 lo356 X356 Q356
          obtain ⟨h356, e356⟩ : ∃ h, T356.heap = h := ⟨_, rfl⟩
          rw [e356] at Q356
          obtain ⟨rfl, N356, K356⟩ := Q356
          have N356' := Fr.app N317' N356
          have e356' : T356.heap = h244 := e356.trans K356
          show own_Go _ _ _ _ _ _ _ T356 (mkF m 278 L353 [(.int (0 : Int32))])
          refine own_pre (T' := T356) (g' := (mkF m 280 #[.val (.int p0), .val (.int p1), .val (.int p2), .val (.int p3), .val (.int p4), .val (.long p5), .second, .val (.int v2), .val (.int v4), .val (.int v6), .val (.int v8), .val (.ref a10), .val (.int (0 : Int32)), .val (.int (1 : Int32)), .val (.int v2), .val (.int v4), .val (.int v321), .val (.int v323), .val (.int (1 : Int32)), .val (.long v346), .second, .val (.int (0 : Int32)), .val (.int (0 : Int32)), .unset] [])) (fun t k => XS.istore X356.here hx rfl (hb hby at_278) rfl (l' := #[.val (.int p0), .val (.int p1), .val (.int p2), .val (.int p3), .val (.int p4), .val (.long p5), .second, .val (.int v2), .val (.int v4), .val (.int v6), .val (.int v8), .val (.ref a10), .val (.int (0 : Int32)), .val (.int (1 : Int32)), .val (.int v2), .val (.int v4), .val (.int v321), .val (.int v323), .val (.int (1 : Int32)), .val (.long v346), .second, .val (.int (0 : Int32)), .val (.int (0 : Int32)), .unset]) (by rw [← hL353]; rfl) k) ?_
          generalize hL357 : (#[.val (.int p0), .val (.int p1), .val (.int p2), .val (.int p3), .val (.int p4), .val (.long p5), .second, .val (.int v2), .val (.int v4), .val (.int v6), .val (.int v8), .val (.ref a10), .val (.int (0 : Int32)), .val (.int (1 : Int32)), .val (.int v2), .val (.int v4), .val (.int v321), .val (.int v323), .val (.int (1 : Int32)), .val (.long v346), .second, .val (.int (0 : Int32)), .val (.int (0 : Int32)), .unset] : Array Slot) = L357
          refine own_pre (T' := T356) (g' := (mkF m 282 L357 [(.int (0 : Int32))])) (fun t k => XS.iload X356.here hx rfl (v := (0 : Int32)) (hb hby at_280) (by rw [← hL357]; rfl) k) ?_
          refine own_pre (T' := T356) (g' := (mkF m 284 L357 [(.int (0 : Int32)), (.int (0 : Int32))])) (fun t k => XS.iload X356.here hx rfl (v := (0 : Int32)) (hb hby at_282) (by rw [← hL357]; rfl) k) ?_
          refine own_pre (T' := T356) (g' := (mkF m 287 L357 [])) (fun t k => XS.icmpNo X356.here hx rfl (hb hby at_284) rfl (by decide) k) ?_
          refine own_pre (T' := T356) (g' := (mkF m 288 L357 [(.int (1 : Int32))])) (fun t k => XS.iconst X356.here hx rfl (hb hby at_287) k) ?_
          refine own_pre (T' := T356) (g' := (mkF m 292 L357 [(.int (1 : Int32))])) (fun t k => XS.goto X356.here hx rfl (pc0 := 288) (pc' := 292) rfl (hb hby at_288) (by decide) (by decide) k) ?_
          exact own_retZ X356 hx hlk hret rfl (hb hby at_292) e356' ⟨rfl, N356'⟩ (by decide) (by decide)
        · skip
          refine own_pre (T' := T317) (g' := (mkF m 225 L347 [])) (fun t k => XS.ifNo X317.here hx rfl (hb hby at_222) rfl ((if0 _ _).trans (flt hd2).1) k) ?_
          have hhi := mt (own_lt2k hdhi hkb).mpr hd2
          refine own_pre (T' := T317) (g' := (mkF m 226 L347 [(.int (1 : Int32))])) (fun t k => XS.iconst X317.here hx rfl (hb hby at_225) k) ?_
          refine own_pre (T' := T317) (g' := (mkF m 230 L347 [(.int (1 : Int32))])) (fun t k => XS.goto X317.here hx rfl (pc0 := 226) (pc' := 230) rfl (hb hby at_226) (by decide) (by decide) k) ?_
          refine own_pre (T' := T317) (g' := (mkF m 232 #[.val (.int p0), .val (.int p1), .val (.int p2), .val (.int p3), .val (.int p4), .val (.long p5), .second, .val (.int v2), .val (.int v4), .val (.int v6), .val (.int v8), .val (.ref a10), .val (.int (0 : Int32)), .val (.int (1 : Int32)), .val (.int v2), .val (.int v4), .val (.int v321), .val (.int v323), .val (.int (1 : Int32)), .val (.long v346), .second, .val (.int (1 : Int32)), .val (.long v344), .second] [])) (fun t k => XS.istore X317.here hx rfl (hb hby at_230) rfl (l' := #[.val (.int p0), .val (.int p1), .val (.int p2), .val (.int p3), .val (.int p4), .val (.long p5), .second, .val (.int v2), .val (.int v4), .val (.int v6), .val (.int v8), .val (.ref a10), .val (.int (0 : Int32)), .val (.int (1 : Int32)), .val (.int v2), .val (.int v4), .val (.int v321), .val (.int v323), .val (.int (1 : Int32)), .val (.long v346), .second, .val (.int (1 : Int32)), .val (.long v344), .second]) (by rw [← hL347]; rfl) k) ?_
          generalize hL358 : (#[.val (.int p0), .val (.int p1), .val (.int p2), .val (.int p3), .val (.int p4), .val (.long p5), .second, .val (.int v2), .val (.int v4), .val (.int v6), .val (.int v8), .val (.ref a10), .val (.int (0 : Int32)), .val (.int (1 : Int32)), .val (.int v2), .val (.int v4), .val (.int v321), .val (.int v323), .val (.int (1 : Int32)), .val (.long v346), .second, .val (.int (1 : Int32)), .val (.long v344), .second] : Array Slot) = L358
          refine own_pre (T' := T317) (g' := (mkF m 262 L358 [])) (fun t k => XS.goto X317.here hx rfl (pc0 := 232) (pc' := 262) rfl (hb hby at_232) (by decide) (by decide) k) ?_
          refine own_pre (T' := T317) (g' := (mkF m 264 L358 [(.ref a10)])) (fun t k => XS.aload X317.here hx rfl (v := (.ref a10)) (hb hby at_262) (by rw [← hL358]; rfl) rfl k) ?_
          refine own_pre (T' := T317) (g' := (mkF m 266 L358 [(.int (1 : Int32)), (.ref a10)])) (fun t k => XS.iload X317.here hx rfl (v := (1 : Int32)) (hb hby at_264) (by rw [← hL358]; rfl) k) ?_
          refine own_pre (T' := T317) (g' := (mkF m 268 L358 [(.int v8), (.int (1 : Int32)), (.ref a10)])) (fun t k => XS.iload X317.here hx rfl (v := v8) (hb hby at_266) (by rw [← hL358]; rfl) k) ?_
          obtain ⟨f359, hf359⟩ : ∃ z, FP.i2d v8 = z := ⟨_, rfl⟩
          refine own_pre (T' := T317) (g' := (mkF m 269 L358 [(.double f359), (.int (1 : Int32)), (.ref a10)])) (fun t k => XS.i2dS X317.here hx rfl (hb hby at_268) rfl hf359 k) ?_
          have Df359 : Jvm.FP.Core.DInt v8.toInt f359 := hf359 ▸ Jvm.FP.Core.i2d_int _
          refine own_ldcd X317 hx hZ hown (own_w hw 43 rfl) (hb hby at_269) ?_
          show own_Go _ _ _ _ _ _ _ T317 (mkF m 272 L358 [(.double (4602678819172646912 : UInt64)), (.double f359), (.int (1 : Int32)), (.ref a10)])
          obtain ⟨f360, hf360⟩ : ∃ z, FP.dmul f359 (4602678819172646912 : UInt64) = z := ⟨_, rfl⟩
          have Df360 : FP.Core.own_H v8.toInt f360 := hf360 ▸ FP.Core.own_H_mul Df359 (by have := rng32 v8; omega)
          refine own_pre (T' := T317) (g' := (mkF m 273 L358 [(.double f360), (.int (1 : Int32)), (.ref a10)])) (fun t k => XS.dmulS X317.here hx rfl (hb hby at_272) rfl (by rw [hf360]; exact Jvm.Free.Fl.val64_no.mpr Df360.nn) hf360 k) ?_
          refine own_pre (T' := T317) (g' := (mkF m 275 L358 [(.long v346), (.double f360), (.int (1 : Int32)), (.ref a10)])) (fun t k => XT.lload X317.here hx rfl (v := v346) (hb hby at_273) (by rw [← hL358]; rfl) k) ?_
          refine own_callv (a := a10) (argsL := [(.int (1 : Int32)), (.double f360), (.long v346)]) (rest := []) X317 hx hZ hown (own_s33 l Z a0 hw [] a10 f360 v346 a35 a29 f121 f167 f225 v8 v2 v4 v344 h244 n0 F315 F248 F254 F257 F263 Df360 Df121 Df167 hN hlo hhi) F291 (own_w hw 106 rfl) (own_w hw 107 rfl) (own_w hw 109 rfl) (own_w hw 108 rfl) (own_w hw 110 rfl) (own_w hw 5 rfl) (by decide) e317' (hb hby at_275) (by rw [hml, ← hL358]; rfl) rfl (lenOf own_pd8 rfl) (by decide) (W := 0) (Nat.le_of_eq rfl) (by decide) (by decide) (by decide) ?_
          intro v361 T361 lo361 X361 Q361
          obtain ⟨h361, e361⟩ : ∃ h, T361.heap = h := ⟨_, rfl⟩
          rw [e361] at Q361
          obtain ⟨rfl, N361, K361⟩ := Q361
          have N361' := Fr.app N317' N361
          have e361' : T361.heap = h244 := e361.trans K361
          show own_Go _ _ _ _ _ _ _ T361 (mkF m 278 L358 [(.int (1 : Int32))])
          refine own_pre (T' := T361) (g' := (mkF m 280 #[.val (.int p0), .val (.int p1), .val (.int p2), .val (.int p3), .val (.int p4), .val (.long p5), .second, .val (.int v2), .val (.int v4), .val (.int v6), .val (.int v8), .val (.ref a10), .val (.int (0 : Int32)), .val (.int (1 : Int32)), .val (.int v2), .val (.int v4), .val (.int v321), .val (.int v323), .val (.int (1 : Int32)), .val (.long v346), .second, .val (.int (1 : Int32)), .val (.int (1 : Int32)), .unset] [])) (fun t k => XS.istore X361.here hx rfl (hb hby at_278) rfl (l' := #[.val (.int p0), .val (.int p1), .val (.int p2), .val (.int p3), .val (.int p4), .val (.long p5), .second, .val (.int v2), .val (.int v4), .val (.int v6), .val (.int v8), .val (.ref a10), .val (.int (0 : Int32)), .val (.int (1 : Int32)), .val (.int v2), .val (.int v4), .val (.int v321), .val (.int v323), .val (.int (1 : Int32)), .val (.long v346), .second, .val (.int (1 : Int32)), .val (.int (1 : Int32)), .unset]) (by rw [← hL358]; rfl) k) ?_
          generalize hL362 : (#[.val (.int p0), .val (.int p1), .val (.int p2), .val (.int p3), .val (.int p4), .val (.long p5), .second, .val (.int v2), .val (.int v4), .val (.int v6), .val (.int v8), .val (.ref a10), .val (.int (0 : Int32)), .val (.int (1 : Int32)), .val (.int v2), .val (.int v4), .val (.int v321), .val (.int v323), .val (.int (1 : Int32)), .val (.long v346), .second, .val (.int (1 : Int32)), .val (.int (1 : Int32)), .unset] : Array Slot) = L362
          refine own_pre (T' := T361) (g' := (mkF m 282 L362 [(.int (1 : Int32))])) (fun t k => XS.iload X361.here hx rfl (v := (1 : Int32)) (hb hby at_280) (by rw [← hL362]; rfl) k) ?_
          refine own_pre (T' := T361) (g' := (mkF m 284 L362 [(.int (1 : Int32)), (.int (1 : Int32))])) (fun t k => XS.iload X361.here hx rfl (v := (1 : Int32)) (hb hby at_282) (by rw [← hL362]; rfl) k) ?_
          refine own_pre (T' := T361) (g' := (mkF m 287 L362 [])) (fun t k => XS.icmpNo X361.here hx rfl (hb hby at_284) rfl (by decide) k) ?_
          refine own_pre (T' := T361) (g' := (mkF m 288 L362 [(.int (1 : Int32))])) (fun t k => XS.iconst X361.here hx rfl (hb hby at_287) k) ?_
          refine own_pre (T' := T361) (g' := (mkF m 292 L362 [(.int (1 : Int32))])) (fun t k => XS.goto X361.here hx rfl (pc0 := 288) (pc' := 292) rfl (hb hby at_288) (by decide) (by decide) k) ?_
          exact own_retZ X361 hx hlk hret rfl (hb hby at_292) e361' ⟨rfl, N361'⟩ (by decide) (by decide)
  · skip
    refine own_pre (T' := T244) (g' := (mkF m 90 L119 [])) (fun t k => XS.ifNo X244.here hx rfl (hb hby at_87) rfl ((if0 _ _).trans (feq hsel).1) k) ?_
    refine own_pre (T' := T244) (g' := (mkF m 91 L119 [(.int (1 : Int32))])) (fun t k => XS.iconst X244.here hx rfl (hb hby at_90) k) ?_
    refine own_pre (T' := T244) (g' := (mkF m 95 L119 [(.int (1 : Int32))])) (fun t k => XS.goto X244.here hx rfl (pc0 := 91) (pc' := 95) rfl (hb hby at_91) (by decide) (by decide) k) ?_
    refine own_pre (T' := T244) (g' := (mkF m 97 #[.val (.int p0), .val (.int p1), .val (.int p2), .val (.int p3), .val (.int p4), .val (.long p5), .second, .val (.int v2), .val (.int v4), .val (.int v6), .val (.int v8), .val (.ref a10), .val (.int (1 : Int32)), .unset, .unset, .unset, .unset, .unset, .unset, .unset, .unset, .unset, .unset, .unset] [])) (fun t k => XS.istore X244.here hx rfl (hb hby at_95) rfl (l' := #[.val (.int p0), .val (.int p1), .val (.int p2), .val (.int p3), .val (.int p4), .val (.long p5), .second, .val (.int v2), .val (.int v4), .val (.int v6), .val (.int v8), .val (.ref a10), .val (.int (1 : Int32)), .unset, .unset, .unset, .unset, .unset, .unset, .unset, .unset, .unset, .unset, .unset]) (by rw [← hL119]; rfl) k) ?_
    generalize hL363 : (#[.val (.int p0), .val (.int p1), .val (.int p2), .val (.int p3), .val (.int p4), .val (.long p5), .second, .val (.int v2), .val (.int v4), .val (.int v6), .val (.int v8), .val (.ref a10), .val (.int (1 : Int32)), .unset, .unset, .unset, .unset, .unset, .unset, .unset, .unset, .unset, .unset, .unset] : Array Slot) = L363
    refine own_pre (T' := T244) (g' := (mkF m 99 L363 [(.int (1 : Int32))])) (fun t k => XS.iload X244.here hx rfl (v := (1 : Int32)) (hb hby at_97) (by rw [← hL363]; rfl) k) ?_
    refine own_pre (T' := T244) (g' := (mkF m 102 L363 [])) (fun t k => XS.ifNo X244.here hx rfl (hb hby at_99) rfl (by decide) k) ?_
    refine own_pre (T' := T244) (g' := (mkF m 104 L363 [(.ref a10)])) (fun t k => XS.aload X244.here hx rfl (v := (.ref a10)) (hb hby at_102) (by rw [← hL363]; rfl) rfl k) ?_
    have F364 : Exa Z h244 a10 "com/example/rankline/rankline/Buckets" := (F226.keep K244)
    have F388 : n0 ≤ h244.size := (Nat.le_trans F243 K244.1)
    refine own_callv (a := a10) (argsL := []) (rest := []) X244 hx hZ hown (own_s34 l Z a0 hw [] a10 h244 n0 F388 F265) F364 (own_w hw 115 rfl) (own_w hw 116 rfl) (own_w hw 118 rfl) (own_w hw 117 rfl) (own_w hw 119 rfl) (own_w hw 5 rfl) (by decide) e244 (hb hby at_104) (by rw [hml, ← hL363]; rfl) rfl (lenOf own_pd3 rfl) (by decide) (W := 0) (Nat.le_of_eq rfl) (by decide) (by decide) (by decide) ?_
    intro v389 T389 lo389 X389 Q389
    obtain ⟨h389, e389⟩ : ∃ h, T389.heap = h := ⟨_, rfl⟩
    rw [e389] at Q389
    obtain ⟨rfl, N389, K389⟩ := Q389
    have N389' := Fr.app N244' N389
    have e389' : T389.heap = h244 := e389.trans K389
    show own_Go _ _ _ _ _ _ _ T389 (mkF m 107 L363 [(.int (2 : Int32))])
    refine own_pre (T' := T389) (g' := (mkF m 120 L363 [(.int (2 : Int32))])) (fun t k => XS.goto X389.here hx rfl (pc0 := 107) (pc' := 120) rfl (hb hby at_107) (by decide) (by decide) k) ?_
    refine own_pre (T' := T389) (g' := (mkF m 122 #[.val (.int p0), .val (.int p1), .val (.int p2), .val (.int p3), .val (.int p4), .val (.long p5), .second, .val (.int v2), .val (.int v4), .val (.int v6), .val (.int v8), .val (.ref a10), .val (.int (1 : Int32)), .val (.int (2 : Int32)), .unset, .unset, .unset, .unset, .unset, .unset, .unset, .unset, .unset, .unset] [])) (fun t k => XS.istore X389.here hx rfl (hb hby at_120) rfl (l' := #[.val (.int p0), .val (.int p1), .val (.int p2), .val (.int p3), .val (.int p4), .val (.long p5), .second, .val (.int v2), .val (.int v4), .val (.int v6), .val (.int v8), .val (.ref a10), .val (.int (1 : Int32)), .val (.int (2 : Int32)), .unset, .unset, .unset, .unset, .unset, .unset, .unset, .unset, .unset, .unset]) (by rw [← hL363]; rfl) k) ?_
    generalize hL390 : (#[.val (.int p0), .val (.int p1), .val (.int p2), .val (.int p3), .val (.int p4), .val (.long p5), .second, .val (.int v2), .val (.int v4), .val (.int v6), .val (.int v8), .val (.ref a10), .val (.int (1 : Int32)), .val (.int (2 : Int32)), .unset, .unset, .unset, .unset, .unset, .unset, .unset, .unset, .unset, .unset] : Array Slot) = L390
    refine own_pre (T' := T389) (g' := (mkF m 124 L390 [(.int (1 : Int32))])) (fun t k => XS.iload X389.here hx rfl (v := (1 : Int32)) (hb hby at_122) (by rw [← hL390]; rfl) k) ?_
    refine own_pre (T' := T389) (g' := (mkF m 127 L390 [])) (fun t k => XS.ifNo X389.here hx rfl (hb hby at_124) rfl (by decide) k) ?_
    refine own_pre (T' := T389) (g' := (mkF m 129 L390 [(.int v4)])) (fun t k => XS.iload X389.here hx rfl (v := v4) (hb hby at_127) (by rw [← hL390]; rfl) k) ?_
    refine own_pre (T' := T389) (g' := (mkF m 134 L390 [(.int v4)])) (fun t k => XS.goto X389.here hx rfl (pc0 := 129) (pc' := 134) rfl (hb hby at_129) (by decide) (by decide) k) ?_
    refine own_pre (T' := T389) (g' := (mkF m 136 #[.val (.int p0), .val (.int p1), .val (.int p2), .val (.int p3), .val (.int p4), .val (.long p5), .second, .val (.int v2), .val (.int v4), .val (.int v6), .val (.int v8), .val (.ref a10), .val (.int (1 : Int32)), .val (.int (2 : Int32)), .val (.int v4), .unset, .unset, .unset, .unset, .unset, .unset, .unset, .unset, .unset] [])) (fun t k => XS.istore X389.here hx rfl (hb hby at_134) rfl (l' := #[.val (.int p0), .val (.int p1), .val (.int p2), .val (.int p3), .val (.int p4), .val (.long p5), .second, .val (.int v2), .val (.int v4), .val (.int v6), .val (.int v8), .val (.ref a10), .val (.int (1 : Int32)), .val (.int (2 : Int32)), .val (.int v4), .unset, .unset, .unset, .unset, .unset, .unset, .unset, .unset, .unset]) (by rw [← hL390]; rfl) k) ?_
    generalize hL391 : (#[.val (.int p0), .val (.int p1), .val (.int p2), .val (.int p3), .val (.int p4), .val (.long p5), .second, .val (.int v2), .val (.int v4), .val (.int v6), .val (.int v8), .val (.ref a10), .val (.int (1 : Int32)), .val (.int (2 : Int32)), .val (.int v4), .unset, .unset, .unset, .unset, .unset, .unset, .unset, .unset, .unset] : Array Slot) = L391
    refine own_pre (T' := T389) (g' := (mkF m 138 L391 [(.int (1 : Int32))])) (fun t k => XS.iload X389.here hx rfl (v := (1 : Int32)) (hb hby at_136) (by rw [← hL391]; rfl) k) ?_
    refine own_pre (T' := T389) (g' := (mkF m 141 L391 [])) (fun t k => XS.ifNo X389.here hx rfl (hb hby at_138) rfl (by decide) k) ?_
    refine own_pre (T' := T389) (g' := (mkF m 143 L391 [(.int v6)])) (fun t k => XS.iload X389.here hx rfl (v := v6) (hb hby at_141) (by rw [← hL391]; rfl) k) ?_
    refine own_pre (T' := T389) (g' := (mkF m 148 L391 [(.int v6)])) (fun t k => XS.goto X389.here hx rfl (pc0 := 143) (pc' := 148) rfl (hb hby at_143) (by decide) (by decide) k) ?_
    refine own_pre (T' := T389) (g' := (mkF m 150 #[.val (.int p0), .val (.int p1), .val (.int p2), .val (.int p3), .val (.int p4), .val (.long p5), .second, .val (.int v2), .val (.int v4), .val (.int v6), .val (.int v8), .val (.ref a10), .val (.int (1 : Int32)), .val (.int (2 : Int32)), .val (.int v4), .val (.int v6), .unset, .unset, .unset, .unset, .unset, .unset, .unset, .unset] [])) (fun t k => XS.istore X389.here hx rfl (hb hby at_148) rfl (l' := #[.val (.int p0), .val (.int p1), .val (.int p2), .val (.int p3), .val (.int p4), .val (.long p5), .second, .val (.int v2), .val (.int v4), .val (.int v6), .val (.int v8), .val (.ref a10), .val (.int (1 : Int32)), .val (.int (2 : Int32)), .val (.int v4), .val (.int v6), .unset, .unset, .unset, .unset, .unset, .unset, .unset, .unset]) (by rw [← hL391]; rfl) k) ?_
    generalize hL392 : (#[.val (.int p0), .val (.int p1), .val (.int p2), .val (.int p3), .val (.int p4), .val (.long p5), .second, .val (.int v2), .val (.int v4), .val (.int v6), .val (.int v8), .val (.ref a10), .val (.int (1 : Int32)), .val (.int (2 : Int32)), .val (.int v4), .val (.int v6), .unset, .unset, .unset, .unset, .unset, .unset, .unset, .unset] : Array Slot) = L392
    refine own_pre (T' := T389) (g' := (mkF m 152 L392 [(.int v8)])) (fun t k => XS.iload X389.here hx rfl (v := v8) (hb hby at_150) (by rw [← hL392]; rfl) k) ?_
    refine own_pre (T' := T389) (g' := (mkF m 154 L392 [(.int v4), (.int v8)])) (fun t k => XS.iload X389.here hx rfl (v := v4) (hb hby at_152) (by rw [← hL392]; rfl) k) ?_
    refine own_pre (T' := T389) (g' := (mkF m 155 L392 [(.int (v8 - v4))])) (fun t k => XS.isub X389.here hx rfl (hb hby at_154) rfl k) ?_
    generalize hv393 : v8 - v4 = v393
    refine own_pre (T' := T389) (g' := (mkF m 157 #[.val (.int p0), .val (.int p1), .val (.int p2), .val (.int p3), .val (.int p4), .val (.long p5), .second, .val (.int v2), .val (.int v4), .val (.int v6), .val (.int v8), .val (.ref a10), .val (.int (1 : Int32)), .val (.int (2 : Int32)), .val (.int v4), .val (.int v6), .val (.int v393), .unset, .unset, .unset, .unset, .unset, .unset, .unset] [])) (fun t k => XS.istore X389.here hx rfl (hb hby at_155) rfl (l' := #[.val (.int p0), .val (.int p1), .val (.int p2), .val (.int p3), .val (.int p4), .val (.long p5), .second, .val (.int v2), .val (.int v4), .val (.int v6), .val (.int v8), .val (.ref a10), .val (.int (1 : Int32)), .val (.int (2 : Int32)), .val (.int v4), .val (.int v6), .val (.int v393), .unset, .unset, .unset, .unset, .unset, .unset, .unset]) (by rw [← hL392]; rfl) k) ?_
    generalize hL394 : (#[.val (.int p0), .val (.int p1), .val (.int p2), .val (.int p3), .val (.int p4), .val (.long p5), .second, .val (.int v2), .val (.int v4), .val (.int v6), .val (.int v8), .val (.ref a10), .val (.int (1 : Int32)), .val (.int (2 : Int32)), .val (.int v4), .val (.int v6), .val (.int v393), .unset, .unset, .unset, .unset, .unset, .unset, .unset] : Array Slot) = L394
    refine own_pre (T' := T389) (g' := (mkF m 159 L394 [(.int v6)])) (fun t k => XS.iload X389.here hx rfl (v := v6) (hb hby at_157) (by rw [← hL394]; rfl) k) ?_
    refine own_pre (T' := T389) (g' := (mkF m 161 L394 [(.int v8), (.int v6)])) (fun t k => XS.iload X389.here hx rfl (v := v8) (hb hby at_159) (by rw [← hL394]; rfl) k) ?_
    refine own_pre (T' := T389) (g' := (mkF m 162 L394 [(.int (v6 - v8))])) (fun t k => XS.isub X389.here hx rfl (hb hby at_161) rfl k) ?_
    generalize hv395 : v6 - v8 = v395
    refine own_pre (T' := T389) (g' := (mkF m 164 #[.val (.int p0), .val (.int p1), .val (.int p2), .val (.int p3), .val (.int p4), .val (.long p5), .second, .val (.int v2), .val (.int v4), .val (.int v6), .val (.int v8), .val (.ref a10), .val (.int (1 : Int32)), .val (.int (2 : Int32)), .val (.int v4), .val (.int v6), .val (.int v393), .val (.int v395), .unset, .unset, .unset, .unset, .unset, .unset] [])) (fun t k => XS.istore X389.here hx rfl (hb hby at_162) rfl (l' := #[.val (.int p0), .val (.int p1), .val (.int p2), .val (.int p3), .val (.int p4), .val (.long p5), .second, .val (.int v2), .val (.int v4), .val (.int v6), .val (.int v8), .val (.ref a10), .val (.int (1 : Int32)), .val (.int (2 : Int32)), .val (.int v4), .val (.int v6), .val (.int v393), .val (.int v395), .unset, .unset, .unset, .unset, .unset, .unset]) (by rw [← hL394]; rfl) k) ?_
    generalize hL396 : (#[.val (.int p0), .val (.int p1), .val (.int p2), .val (.int p3), .val (.int p4), .val (.long p5), .second, .val (.int v2), .val (.int v4), .val (.int v6), .val (.int v8), .val (.ref a10), .val (.int (1 : Int32)), .val (.int (2 : Int32)), .val (.int v4), .val (.int v6), .val (.int v393), .val (.int v395), .unset, .unset, .unset, .unset, .unset, .unset] : Array Slot) = L396
    refine own_pre (T' := T389) (g' := (mkF m 166 L396 [(.int p4)])) (fun t k => XS.iload X389.here hx rfl (v := p4) (hb hby at_164) (by rw [← hL396]; rfl) k) ?_
    refine own_pre (T' := T389) (g' := (mkF m 167 L396 [(.int (2 : Int32)), (.int p4)])) (fun t k => XS.iconst X389.here hx rfl (hb hby at_166) k) ?_
    refine own_pre (T' := T389) (g' := (mkF m 168 L396 [(.int (p4 &&& (2 : Int32)))])) (fun t k => XS.iand X389.here hx rfl (hb hby at_167) rfl k) ?_
    have hdlo := own_dif hv393 hmid (by omega)
    have hdhi := own_dif hv395 (by omega) hmid
    by_cases hsel2 : (p4 &&& (2 : Int32)) = (0 : Int32)
    · skip
      refine own_pre (T' := T389) (g' := (mkF m 175 L396 [])) (fun t k => XS.ifYes X389.here hx rfl (pc0 := 168) (pc' := 175) rfl (hb hby at_168) rfl ((if0 _ _).trans (teq hsel2).1) (by decide) (by decide) k) ?_
      refine own_pre (T' := T389) (g' := (mkF m 176 L396 [(.int (0 : Int32))])) (fun t k => XS.iconst X389.here hx rfl (hb hby at_175) k) ?_
      refine own_pre (T' := T389) (g' := (mkF m 178 #[.val (.int p0), .val (.int p1), .val (.int p2), .val (.int p3), .val (.int p4), .val (.long p5), .second, .val (.int v2), .val (.int v4), .val (.int v6), .val (.int v8), .val (.ref a10), .val (.int (1 : Int32)), .val (.int (2 : Int32)), .val (.int v4), .val (.int v6), .val (.int v393), .val (.int v395), .val (.int (0 : Int32)), .unset, .unset, .unset, .unset, .unset] [])) (fun t k => XS.istore X389.here hx rfl (hb hby at_176) rfl (l' := #[.val (.int p0), .val (.int p1), .val (.int p2), .val (.int p3), .val (.int p4), .val (.long p5), .second, .val (.int v2), .val (.int v4), .val (.int v6), .val (.int v8), .val (.ref a10), .val (.int (1 : Int32)), .val (.int (2 : Int32)), .val (.int v4), .val (.int v6), .val (.int v393), .val (.int v395), .val (.int (0 : Int32)), .unset, .unset, .unset, .unset, .unset]) (by rw [← hL396]; rfl) k) ?_
      generalize hL397 : (#[.val (.int p0), .val (.int p1), .val (.int p2), .val (.int p3), .val (.int p4), .val (.long p5), .second, .val (.int v2), .val (.int v4), .val (.int v6), .val (.int v8), .val (.ref a10), .val (.int (1 : Int32)), .val (.int (2 : Int32)), .val (.int v4), .val (.int v6), .val (.int v393), .val (.int v395), .val (.int (0 : Int32)), .unset, .unset, .unset, .unset, .unset] : Array Slot) = L397
      refine own_pre (T' := T389) (g' := (mkF m 180 L397 [(.int (0 : Int32))])) (fun t k => XS.iload X389.here hx rfl (v := (0 : Int32)) (hb hby at_178) (by rw [← hL397]; rfl) k) ?_
      refine own_pre (T' := T389) (g' := (mkF m 235 L397 [])) (fun t k => XS.ifYes X389.here hx rfl (pc0 := 180) (pc' := 235) rfl (hb hby at_180) rfl (by decide) (by decide) (by decide) k) ?_
      refine own_pre (T' := T389) (g' := (mkF m 236 L397 [(.long (1 : Int64))])) (fun t k => XT.lconst X389.here hx rfl (hb hby at_235) k) ?_
      refine own_pre (T' := T389) (g' := (mkF m 238 L397 [(.long p5), (.long (1 : Int64))])) (fun t k => XT.lload X389.here hx rfl (v := p5) (hb hby at_236) (by rw [← hL397]; rfl) k) ?_
      refine own_ldcl X389 hx hZ hown (own_w hw 105 rfl) (hb hby at_238) ?_
      show own_Go _ _ _ _ _ _ _ T389 (mkF m 241 L397 [(.long (33554431 : Int64)), (.long p5), (.long (1 : Int64))])
      refine own_pre (T' := T389) (g' := (mkF m 242 L397 [(.long (p5 &&& (33554431 : Int64))), (.long (1 : Int64))])) (fun t k => XT.land X389.here hx rfl (hb hby at_241) rfl k) ?_
      refine own_pre (T' := T389) (g' := (mkF m 243 L397 [(.long ((1 : Int64) + (p5 &&& (33554431 : Int64))))])) (fun t k => XT.ladd X389.here hx rfl (hb hby at_242) rfl k) ?_
      generalize hv398 : (1 : Int64) + (p5 &&& (33554431 : Int64)) = v398
      refine own_pre (T' := T389) (g' := (mkF m 245 #[.val (.int p0), .val (.int p1), .val (.int p2), .val (.int p3), .val (.int p4), .val (.long p5), .second, .val (.int v2), .val (.int v4), .val (.int v6), .val (.int v8), .val (.ref a10), .val (.int (1 : Int32)), .val (.int (2 : Int32)), .val (.int v4), .val (.int v6), .val (.int v393), .val (.int v395), .val (.int (0 : Int32)), .val (.long v398), .second, .unset, .unset, .unset] [])) (fun t k => XT.lstore X389.here hx rfl (hb hby at_243) rfl (l' := #[.val (.int p0), .val (.int p1), .val (.int p2), .val (.int p3), .val (.int p4), .val (.long p5), .second, .val (.int v2), .val (.int v4), .val (.int v6), .val (.int v8), .val (.ref a10), .val (.int (1 : Int32)), .val (.int (2 : Int32)), .val (.int v4), .val (.int v6), .val (.int v393), .val (.int v395), .val (.int (0 : Int32)), .val (.long v398), .second, .unset, .unset, .unset]) (by rw [← hL397]; rfl) k) ?_
      generalize hL399 : (#[.val (.int p0), .val (.int p1), .val (.int p2), .val (.int p3), .val (.int p4), .val (.long p5), .second, .val (.int v2), .val (.int v4), .val (.int v6), .val (.int v8), .val (.ref a10), .val (.int (1 : Int32)), .val (.int (2 : Int32)), .val (.int v4), .val (.int v6), .val (.int v393), .val (.int v395), .val (.int (0 : Int32)), .val (.long v398), .second, .unset, .unset, .unset] : Array Slot) = L399
      refine own_pre (T' := T389) (g' := (mkF m 247 L399 [(.int v393)])) (fun t k => XS.iload X389.here hx rfl (v := v393) (hb hby at_245) (by rw [← hL399]; rfl) k) ?_
      have hN := own_nn2 hv398
      by_cases hd1 : (0 : Int32) < v393
      · skip
        refine own_pre (T' := T389) (g' := (mkF m 250 L399 [])) (fun t k => XS.ifNo X389.here hx rfl (hb hby at_247) rfl ((if0 _ _).trans (tlt hd1).2.2.2) k) ?_
        have hlo := (own_pos0 hdlo).mp hd1
        refine own_pre (T' := T389) (g' := (mkF m 252 L399 [(.int v395)])) (fun t k => XS.iload X389.here hx rfl (v := v395) (hb hby at_250) (by rw [← hL399]; rfl) k) ?_
        by_cases hd2 : (0 : Int32) < v395
        · skip
          refine own_pre (T' := T389) (g' := (mkF m 255 L399 [])) (fun t k => XS.ifNo X389.here hx rfl (hb hby at_252) rfl ((if0 _ _).trans (tlt hd2).2.2.2) k) ?_
          have hhi := (own_pos0 hdhi).mp hd2
          refine own_pre (T' := T389) (g' := (mkF m 256 L399 [(.int (1 : Int32))])) (fun t k => XS.iconst X389.here hx rfl (hb hby at_255) k) ?_
          refine own_pre (T' := T389) (g' := (mkF m 260 L399 [(.int (1 : Int32))])) (fun t k => XS.goto X389.here hx rfl (pc0 := 256) (pc' := 260) rfl (hb hby at_256) (by decide) (by decide) k) ?_
          refine own_pre (T' := T389) (g' := (mkF m 262 #[.val (.int p0), .val (.int p1), .val (.int p2), .val (.int p3), .val (.int p4), .val (.long p5), .second, .val (.int v2), .val (.int v4), .val (.int v6), .val (.int v8), .val (.ref a10), .val (.int (1 : Int32)), .val (.int (2 : Int32)), .val (.int v4), .val (.int v6), .val (.int v393), .val (.int v395), .val (.int (0 : Int32)), .val (.long v398), .second, .val (.int (1 : Int32)), .unset, .unset] [])) (fun t k => XS.istore X389.here hx rfl (hb hby at_260) rfl (l' := #[.val (.int p0), .val (.int p1), .val (.int p2), .val (.int p3), .val (.int p4), .val (.long p5), .second, .val (.int v2), .val (.int v4), .val (.int v6), .val (.int v8), .val (.ref a10), .val (.int (1 : Int32)), .val (.int (2 : Int32)), .val (.int v4), .val (.int v6), .val (.int v393), .val (.int v395), .val (.int (0 : Int32)), .val (.long v398), .second, .val (.int (1 : Int32)), .unset, .unset]) (by rw [← hL399]; rfl) k) ?_
          generalize hL400 : (#[.val (.int p0), .val (.int p1), .val (.int p2), .val (.int p3), .val (.int p4), .val (.long p5), .second, .val (.int v2), .val (.int v4), .val (.int v6), .val (.int v8), .val (.ref a10), .val (.int (1 : Int32)), .val (.int (2 : Int32)), .val (.int v4), .val (.int v6), .val (.int v393), .val (.int v395), .val (.int (0 : Int32)), .val (.long v398), .second, .val (.int (1 : Int32)), .unset, .unset] : Array Slot) = L400
          refine own_pre (T' := T389) (g' := (mkF m 264 L400 [(.ref a10)])) (fun t k => XS.aload X389.here hx rfl (v := (.ref a10)) (hb hby at_262) (by rw [← hL400]; rfl) rfl k) ?_
          refine own_pre (T' := T389) (g' := (mkF m 266 L400 [(.int (2 : Int32)), (.ref a10)])) (fun t k => XS.iload X389.here hx rfl (v := (2 : Int32)) (hb hby at_264) (by rw [← hL400]; rfl) k) ?_
          refine own_pre (T' := T389) (g' := (mkF m 268 L400 [(.int v8), (.int (2 : Int32)), (.ref a10)])) (fun t k => XS.iload X389.here hx rfl (v := v8) (hb hby at_266) (by rw [← hL400]; rfl) k) ?_
          obtain ⟨f401, hf401⟩ : ∃ z, FP.i2d v8 = z := ⟨_, rfl⟩
          refine own_pre (T' := T389) (g' := (mkF m 269 L400 [(.double f401), (.int (2 : Int32)), (.ref a10)])) (fun t k => XS.i2dS X389.here hx rfl (hb hby at_268) rfl hf401 k) ?_
          have Df401 : Jvm.FP.Core.DInt v8.toInt f401 := hf401 ▸ Jvm.FP.Core.i2d_int _
          refine own_ldcd X389 hx hZ hown (own_w hw 43 rfl) (hb hby at_269) ?_
          show own_Go _ _ _ _ _ _ _ T389 (mkF m 272 L400 [(.double (4602678819172646912 : UInt64)), (.double f401), (.int (2 : Int32)), (.ref a10)])
          obtain ⟨f402, hf402⟩ : ∃ z, FP.dmul f401 (4602678819172646912 : UInt64) = z := ⟨_, rfl⟩
          have Df402 : FP.Core.own_H v8.toInt f402 := hf402 ▸ FP.Core.own_H_mul Df401 (by have := rng32 v8; omega)
          refine own_pre (T' := T389) (g' := (mkF m 273 L400 [(.double f402), (.int (2 : Int32)), (.ref a10)])) (fun t k => XS.dmulS X389.here hx rfl (hb hby at_272) rfl (by rw [hf402]; exact Jvm.Free.Fl.val64_no.mpr Df402.nn) hf402 k) ?_
          refine own_pre (T' := T389) (g' := (mkF m 275 L400 [(.long v398), (.double f402), (.int (2 : Int32)), (.ref a10)])) (fun t k => XT.lload X389.here hx rfl (v := v398) (hb hby at_273) (by rw [← hL400]; rfl) k) ?_
          refine own_callv (a := a10) (argsL := [(.int (2 : Int32)), (.double f402), (.long v398)]) (rest := []) X389 hx hZ hown (own_s35 l Z a0 hw [] a10 f402 v398 a35 a29 f121 f167 f225 v8 v4 v6 h244 n0 F388 F248 F254 F257 F263 Df402 Df167 Df225 hN hlo hhi) F364 (own_w hw 106 rfl) (own_w hw 107 rfl) (own_w hw 109 rfl) (own_w hw 108 rfl) (own_w hw 110 rfl) (own_w hw 5 rfl) (by decide) e389' (hb hby at_275) (by rw [hml, ← hL400]; rfl) rfl (lenOf own_pd8 rfl) (by decide) (W := 0) (Nat.le_of_eq rfl) (by decide) (by decide) (by decide) ?_
          intro v403 T403 lo403 X403 Q403
          obtain ⟨h403, e403⟩ : ∃ h, T403.heap = h := ⟨_, rfl⟩
          rw [e403] at Q403
          obtain ⟨rfl, N403, K403⟩ := Q403
          have N403' := Fr.app N389' N403
          have e403' : T403.heap = h244 := e403.trans K403
          show own_Go _ _ _ _ _ _ _ T403 (mkF m 278 L400 [(.int (1 : Int32))])
          refine own_pre (T' := T403) (g' := (mkF m 280 #[.val (.int p0), .val (.int p1), .val (.int p2), .val (.int p3), .val (.int p4), .val (.long p5), .second, .val (.int v2), .val (.int v4), .val (.int v6), .val (.int v8), .val (.ref a10), .val (.int (1 : Int32)), .val (.int (2 : Int32)), .val (.int v4), .val (.int v6), .val (.int v393), .val (.int v395), .val (.int (0 : Int32)), .val (.long v398), .second, .val (.int (1 : Int32)), .val (.int (1 : Int32)), .unset] [])) (fun t k => XS.istore X403.here hx rfl (hb hby at_278) rfl (l' := #[.val (.int p0), .val (.int p1), .val (.int p2), .val (.int p3), .val (.int p4), .val (.long p5), .second, .val (.int v2), .val (.int v4), .val (.int v6), .val (.int v8), .val (.ref a10), .val (.int (1 : Int32)), .val (.int (2 : Int32)), .val (.int v4), .val (.int v6), .val (.int v393), .val (.int v395), .val (.int (0 : Int32)), .val (.long v398), .second, .val (.int (1 : Int32)), .val (.int (1 : Int32)), .unset]) (by rw [← hL400]; rfl) k) ?_
          generalize hL404 : (#[.val (.int p0), .val (.int p1), .val (.int p2), .val (.int p3), .val (.int p4), .val (.long p5), .second, .val (.int v2), .val (.int v4), .val (.int v6), .val (.int v8), .val (.ref a10), .val (.int (1 : Int32)), .val (.int (2 : Int32)), .val (.int v4), .val (.int v6), .val (.int v393), .val (.int v395), .val (.int (0 : Int32)), .val (.long v398), .second, .val (.int (1 : Int32)), .val (.int (1 : Int32)), .unset] : Array Slot) = L404
          refine own_pre (T' := T403) (g' := (mkF m 282 L404 [(.int (1 : Int32))])) (fun t k => XS.iload X403.here hx rfl (v := (1 : Int32)) (hb hby at_280) (by rw [← hL404]; rfl) k) ?_
          refine own_pre (T' := T403) (g' := (mkF m 284 L404 [(.int (1 : Int32)), (.int (1 : Int32))])) (fun t k => XS.iload X403.here hx rfl (v := (1 : Int32)) (hb hby at_282) (by rw [← hL404]; rfl) k) ?_
          refine own_pre (T' := T403) (g' := (mkF m 287 L404 [])) (fun t k => XS.icmpNo X403.here hx rfl (hb hby at_284) rfl (by decide) k) ?_
          refine own_pre (T' := T403) (g' := (mkF m 288 L404 [(.int (1 : Int32))])) (fun t k => XS.iconst X403.here hx rfl (hb hby at_287) k) ?_
          refine own_pre (T' := T403) (g' := (mkF m 292 L404 [(.int (1 : Int32))])) (fun t k => XS.goto X403.here hx rfl (pc0 := 288) (pc' := 292) rfl (hb hby at_288) (by decide) (by decide) k) ?_
          exact own_retZ X403 hx hlk hret rfl (hb hby at_292) e403' ⟨rfl, N403'⟩ (by decide) (by decide)
        · skip
          refine own_pre (T' := T389) (g' := (mkF m 259 L399 [])) (fun t k => XS.ifYes X389.here hx rfl (pc0 := 252) (pc' := 259) rfl (hb hby at_252) rfl ((if0 _ _).trans (flt hd2).2.2.2) (by decide) (by decide) k) ?_
          have hhi := Classical.not_not.mp (mt (own_pos0 hdhi).mpr hd2)
          refine own_pre (T' := T389) (g' := (mkF m 260 L399 [(.int (0 : Int32))])) (fun t k => XS.iconst X389.here hx rfl (hb hby at_259) k) ?_
          refine own_pre (T' := T389) (g' := (mkF m 262 #[.val (.int p0), .val (.int p1), .val (.int p2), .val (.int p3), .val (.int p4), .val (.long p5), .second, .val (.int v2), .val (.int v4), .val (.int v6), .val (.int v8), .val (.ref a10), .val (.int (1 : Int32)), .val (.int (2 : Int32)), .val (.int v4), .val (.int v6), .val (.int v393), .val (.int v395), .val (.int (0 : Int32)), .val (.long v398), .second, .val (.int (0 : Int32)), .unset, .unset] [])) (fun t k => XS.istore X389.here hx rfl (hb hby at_260) rfl (l' := #[.val (.int p0), .val (.int p1), .val (.int p2), .val (.int p3), .val (.int p4), .val (.long p5), .second, .val (.int v2), .val (.int v4), .val (.int v6), .val (.int v8), .val (.ref a10), .val (.int (1 : Int32)), .val (.int (2 : Int32)), .val (.int v4), .val (.int v6), .val (.int v393), .val (.int v395), .val (.int (0 : Int32)), .val (.long v398), .second, .val (.int (0 : Int32)), .unset, .unset]) (by rw [← hL399]; rfl) k) ?_
          generalize hL405 : (#[.val (.int p0), .val (.int p1), .val (.int p2), .val (.int p3), .val (.int p4), .val (.long p5), .second, .val (.int v2), .val (.int v4), .val (.int v6), .val (.int v8), .val (.ref a10), .val (.int (1 : Int32)), .val (.int (2 : Int32)), .val (.int v4), .val (.int v6), .val (.int v393), .val (.int v395), .val (.int (0 : Int32)), .val (.long v398), .second, .val (.int (0 : Int32)), .unset, .unset] : Array Slot) = L405
          refine own_pre (T' := T389) (g' := (mkF m 264 L405 [(.ref a10)])) (fun t k => XS.aload X389.here hx rfl (v := (.ref a10)) (hb hby at_262) (by rw [← hL405]; rfl) rfl k) ?_
          refine own_pre (T' := T389) (g' := (mkF m 266 L405 [(.int (2 : Int32)), (.ref a10)])) (fun t k => XS.iload X389.here hx rfl (v := (2 : Int32)) (hb hby at_264) (by rw [← hL405]; rfl) k) ?_
          refine own_pre (T' := T389) (g' := (mkF m 268 L405 [(.int v8), (.int (2 : Int32)), (.ref a10)])) (fun t k => XS.iload X389.here hx rfl (v := v8) (hb hby at_266) (by rw [← hL405]; rfl) k) ?_
          obtain ⟨f406, hf406⟩ : ∃ z, FP.i2d v8 = z := ⟨_, rfl⟩
          refine own_pre (T' := T389) (g' := (mkF m 269 L405 [(.double f406), (.int (2 : Int32)), (.ref a10)])) (fun t k => XS.i2dS X389.here hx rfl (hb hby at_268) rfl hf406 k) ?_
          have Df406 : Jvm.FP.Core.DInt v8.toInt f406 := hf406 ▸ Jvm.FP.Core.i2d_int _
          refine own_ldcd X389 hx hZ hown (own_w hw 43 rfl) (hb hby at_269) ?_
          show own_Go _ _ _ _ _ _ _ T389 (mkF m 272 L405 [(.double (4602678819172646912 : UInt64)), (.double f406), (.int (2 : Int32)), (.ref a10)])
          obtain ⟨f407, hf407⟩ : ∃ z, FP.dmul f406 (4602678819172646912 : UInt64) = z := ⟨_, rfl⟩
          have Df407 : FP.Core.own_H v8.toInt f407 := hf407 ▸ FP.Core.own_H_mul Df406 (by have := rng32 v8; omega)
          refine own_pre (T' := T389) (g' := (mkF m 273 L405 [(.double f407), (.int (2 : Int32)), (.ref a10)])) (fun t k => XS.dmulS X389.here hx rfl (hb hby at_272) rfl (by rw [hf407]; exact Jvm.Free.Fl.val64_no.mpr Df407.nn) hf407 k) ?_
          refine own_pre (T' := T389) (g' := (mkF m 275 L405 [(.long v398), (.double f407), (.int (2 : Int32)), (.ref a10)])) (fun t k => XT.lload X389.here hx rfl (v := v398) (hb hby at_273) (by rw [← hL405]; rfl) k) ?_
          refine own_callv (a := a10) (argsL := [(.int (2 : Int32)), (.double f407), (.long v398)]) (rest := []) X389 hx hZ hown (own_s36 l Z a0 hw [] a10 f407 v398 a35 a29 f121 f167 f225 v8 v4 v6 h244 n0 F388 F248 F254 F257 F263 Df407 Df167 Df225 hN hlo hhi) F364 (own_w hw 106 rfl) (own_w hw 107 rfl) (own_w hw 109 rfl) (own_w hw 108 rfl) (own_w hw 110 rfl) (own_w hw 5 rfl) (by decide) e389' (hb hby at_275) (by rw [hml, ← hL405]; rfl) rfl (lenOf own_pd8 rfl) (by decide) (W := 0) (Nat.le_of_eq rfl) (by decide) (by decide) (by decide) ?_
          intro v408 T408 lo408 X408 Q408
          obtain ⟨h408, e408⟩ : ∃ h, T408.heap = h := ⟨_, rfl⟩
          rw [e408] at Q408
          obtain ⟨rfl, N408, K408⟩ := Q408
          have N408' := Fr.app N389' N408
          have e408' : T408.heap = h244 := e408.trans K408
          show own_Go _ _ _ _ _ _ _ T408 (mkF m 278 L405 [(.int (0 : Int32))])
          refine own_pre (T' := T408) (g' := (mkF m 280 #[.val (.int p0), .val (.int p1), .val (.int p2), .val (.int p3), .val (.int p4), .val (.long p5), .second, .val (.int v2), .val (.int v4), .val (.int v6), .val (.int v8), .val (.ref a10), .val (.int (1 : Int32)), .val (.int (2 : Int32)), .val (.int v4), .val (.int v6), .val (.int v393), .val (.int v395), .val (.int (0 : Int32)), .val (.long v398), .second, .val (.int (0 : Int32)), .val (.int (0 : Int32)), .unset] [])) (fun t k => XS.istore X408.here hx rfl (hb hby at_278) rfl (l' := #[.val (.int p0), .val (.int p1), .val (.int p2), .val (.int p3), .val (.int p4), .val (.long p5), .second, .val (.int v2), .val (.int v4), .val (.int v6), .val (.int v8), .val (.ref a10), .val (.int (1 : Int32)), .val (.int (2 : Int32)), .val (.int v4), .val (.int v6), .val (.int v393), .val (.int v395), .val (.int (0 : Int32)), .val (.long v398), .second, .val (.int (0 : Int32)), .val (.int (0 : Int32)), .unset]) (by rw [← hL405]; rfl) k) ?_
          generalize hL409 : (#[.val (.int p0), .val (.int p1), .val (.int p2), .val (.int p3), .val (.int p4), .val (.long p5), .second, .val (.int v2), .val (.int v4), .val (.int v6), .val (.int v8), .val (.ref a10), .val (.int (1 : Int32)), .val (.int (2 : Int32)), .val (.int v4), .val (.int v6), .val (.int v393), .val (.int v395), .val (.int (0 : Int32)), .val (.long v398), .second, .val (.int (0 : Int32)), .val (.int (0 : Int32)), .unset] : Array Slot) = L409
          refine own_pre (T' := T408) (g' := (mkF m 282 L409 [(.int (0 : Int32))])) (fun t k => XS.iload X408.here hx rfl (v := (0 : Int32)) (hb hby at_280) (by rw [← hL409]; rfl) k) ?_
          refine own_pre (T' := T408) (g' := (mkF m 284 L409 [(.int (0 : Int32)), (.int (0 : Int32))])) (fun t k => XS.iload X408.here hx rfl (v := (0 : Int32)) (hb hby at_282) (by rw [← hL409]; rfl) k) ?_
          refine own_pre (T' := T408) (g' := (mkF m 287 L409 [])) (fun t k => XS.icmpNo X408.here hx rfl (hb hby at_284) rfl (by decide) k) ?_
          refine own_pre (T' := T408) (g' := (mkF m 288 L409 [(.int (1 : Int32))])) (fun t k => XS.iconst X408.here hx rfl (hb hby at_287) k) ?_
          refine own_pre (T' := T408) (g' := (mkF m 292 L409 [(.int (1 : Int32))])) (fun t k => XS.goto X408.here hx rfl (pc0 := 288) (pc' := 292) rfl (hb hby at_288) (by decide) (by decide) k) ?_
          exact own_retZ X408 hx hlk hret rfl (hb hby at_292) e408' ⟨rfl, N408'⟩ (by decide) (by decide)
      · skip
        refine own_pre (T' := T389) (g' := (mkF m 259 L399 [])) (fun t k => XS.ifYes X389.here hx rfl (pc0 := 247) (pc' := 259) rfl (hb hby at_247) rfl ((if0 _ _).trans (flt hd1).2.2.2) (by decide) (by decide) k) ?_
        have hlo := Classical.not_not.mp (mt (own_pos0 hdlo).mpr hd1)
        refine own_pre (T' := T389) (g' := (mkF m 260 L399 [(.int (0 : Int32))])) (fun t k => XS.iconst X389.here hx rfl (hb hby at_259) k) ?_
        refine own_pre (T' := T389) (g' := (mkF m 262 #[.val (.int p0), .val (.int p1), .val (.int p2), .val (.int p3), .val (.int p4), .val (.long p5), .second, .val (.int v2), .val (.int v4), .val (.int v6), .val (.int v8), .val (.ref a10), .val (.int (1 : Int32)), .val (.int (2 : Int32)), .val (.int v4), .val (.int v6), .val (.int v393), .val (.int v395), .val (.int (0 : Int32)), .val (.long v398), .second, .val (.int (0 : Int32)), .unset, .unset] [])) (fun t k => XS.istore X389.here hx rfl (hb hby at_260) rfl (l' := #[.val (.int p0), .val (.int p1), .val (.int p2), .val (.int p3), .val (.int p4), .val (.long p5), .second, .val (.int v2), .val (.int v4), .val (.int v6), .val (.int v8), .val (.ref a10), .val (.int (1 : Int32)), .val (.int (2 : Int32)), .val (.int v4), .val (.int v6), .val (.int v393), .val (.int v395), .val (.int (0 : Int32)), .val (.long v398), .second, .val (.int (0 : Int32)), .unset, .unset]) (by rw [← hL399]; rfl) k) ?_
        generalize hL410 : (#[.val (.int p0), .val (.int p1), .val (.int p2), .val (.int p3), .val (.int p4), .val (.long p5), .second, .val (.int v2), .val (.int v4), .val (.int v6), .val (.int v8), .val (.ref a10), .val (.int (1 : Int32)), .val (.int (2 : Int32)), .val (.int v4), .val (.int v6), .val (.int v393), .val (.int v395), .val (.int (0 : Int32)), .val (.long v398), .second, .val (.int (0 : Int32)), .unset, .unset] : Array Slot) = L410
        refine own_pre (T' := T389) (g' := (mkF m 264 L410 [(.ref a10)])) (fun t k => XS.aload X389.here hx rfl (v := (.ref a10)) (hb hby at_262) (by rw [← hL410]; rfl) rfl k) ?_
        refine own_pre (T' := T389) (g' := (mkF m 266 L410 [(.int (2 : Int32)), (.ref a10)])) (fun t k => XS.iload X389.here hx rfl (v := (2 : Int32)) (hb hby at_264) (by rw [← hL410]; rfl) k) ?_
        refine own_pre (T' := T389) (g' := (mkF m 268 L410 [(.int v8), (.int (2 : Int32)), (.ref a10)])) (fun t k => XS.iload X389.here hx rfl (v := v8) (hb hby at_266) (by rw [← hL410]; rfl) k) ?_
        obtain ⟨f411, hf411⟩ : ∃ z, FP.i2d v8 = z := ⟨_, rfl⟩
        refine own_pre (T' := T389) (g' := (mkF m 269 L410 [(.double f411), (.int (2 : Int32)), (.ref a10)])) (fun t k => XS.i2dS X389.here hx rfl (hb hby at_268) rfl hf411 k) ?_
        have Df411 : Jvm.FP.Core.DInt v8.toInt f411 := hf411 ▸ Jvm.FP.Core.i2d_int _
        refine own_ldcd X389 hx hZ hown (own_w hw 43 rfl) (hb hby at_269) ?_
        show own_Go _ _ _ _ _ _ _ T389 (mkF m 272 L410 [(.double (4602678819172646912 : UInt64)), (.double f411), (.int (2 : Int32)), (.ref a10)])
        obtain ⟨f412, hf412⟩ : ∃ z, FP.dmul f411 (4602678819172646912 : UInt64) = z := ⟨_, rfl⟩
        have Df412 : FP.Core.own_H v8.toInt f412 := hf412 ▸ FP.Core.own_H_mul Df411 (by have := rng32 v8; omega)
        refine own_pre (T' := T389) (g' := (mkF m 273 L410 [(.double f412), (.int (2 : Int32)), (.ref a10)])) (fun t k => XS.dmulS X389.here hx rfl (hb hby at_272) rfl (by rw [hf412]; exact Jvm.Free.Fl.val64_no.mpr Df412.nn) hf412 k) ?_
        refine own_pre (T' := T389) (g' := (mkF m 275 L410 [(.long v398), (.double f412), (.int (2 : Int32)), (.ref a10)])) (fun t k => XT.lload X389.here hx rfl (v := v398) (hb hby at_273) (by rw [← hL410]; rfl) k) ?_
        refine own_callv (a := a10) (argsL := [(.int (2 : Int32)), (.double f412), (.long v398)]) (rest := []) X389 hx hZ hown (own_s37 l Z a0 hw [] a10 f412 v398 a35 a29 f121 f167 f225 v8 v4 h244 n0 F388 F248 F254 F257 F263 Df412 Df167 hN hlo) F364 (own_w hw 106 rfl) (own_w hw 107 rfl) (own_w hw 109 rfl) (own_w hw 108 rfl) (own_w hw 110 rfl) (own_w hw 5 rfl) (by decide) e389' (hb hby at_275) (by rw [hml, ← hL410]; rfl) rfl (lenOf own_pd8 rfl) (by decide) (W := 0) (Nat.le_of_eq rfl) (by decide) (by decide) (by decide) ?_
        intro v413 T413 lo413 X413 Q413
        obtain ⟨h413, e413⟩ : ∃ h, T413.heap = h := ⟨_, rfl⟩
        rw [e413] at Q413
        obtain ⟨rfl, N413, K413⟩ := Q413
        have N413' := Fr.app N389' N413
        have e413' : T413.heap = h244 := e413.trans K413
        show own_Go _ _ _ _ _ _ _ T413 (mkF m 278 L410 [(.int (0 : Int32))])
        refine own_pre (T' := T413) (g' := (mkF m 280 #[.val (.int p0), .val (.int p1), .val (.int p2), .val (.int p3), .val (.int p4), .val (.long p5), .second, .val (.int v2), .val (.int v4), .val (.int v6), .val (.int v8), .val (.ref a10), .val (.int (1 : Int32)), .val (.int (2 : Int32)), .val (.int v4), .val (.int v6), .val (.int v393), .val (.int v395), .val (.int (0 : Int32)), .val (.long v398), .second, .val (.int (0 : Int32)), .val (.int (0 : Int32)), .unset] [])) (fun t k => XS.istore X413.here hx rfl (hb hby at_278) rfl (l' := #[.val (.int p0), .val (.int p1), .val (.int p2), .val (.int p3), .val (.int p4), .val (.long p5), .second, .val (.int v2), .val (.int v4), .val (.int v6), .val (.int v8), .val (.ref a10), .val (.int (1 : Int32)), .val (.int (2 : Int32)), .val (.int v4), .val (.int v6), .val (.int v393), .val (.int v395), .val (.int (0 : Int32)), .val (.long v398), .second, .val (.int (0 : Int32)), .val (.int (0 : Int32)), .unset]) (by rw [← hL410]; rfl) k) ?_
        generalize hL414 : (#[.val (.int p0), .val (.int p1), .val (.int p2), .val (.int p3), .val (.int p4), .val (.long p5), .second, .val (.int v2), .val (.int v4), .val (.int v6), .val (.int v8), .val (.ref a10), .val (.int (1 : Int32)), .val (.int (2 : Int32)), .val (.int v4), .val (.int v6), .val (.int v393), .val (.int v395), .val (.int (0 : Int32)), .val (.long v398), .second, .val (.int (0 : Int32)), .val (.int (0 : Int32)), .unset] : Array Slot) = L414
        refine own_pre (T' := T413) (g' := (mkF m 282 L414 [(.int (0 : Int32))])) (fun t k => XS.iload X413.here hx rfl (v := (0 : Int32)) (hb hby at_280) (by rw [← hL414]; rfl) k) ?_
        refine own_pre (T' := T413) (g' := (mkF m 284 L414 [(.int (0 : Int32)), (.int (0 : Int32))])) (fun t k => XS.iload X413.here hx rfl (v := (0 : Int32)) (hb hby at_282) (by rw [← hL414]; rfl) k) ?_
        refine own_pre (T' := T413) (g' := (mkF m 287 L414 [])) (fun t k => XS.icmpNo X413.here hx rfl (hb hby at_284) rfl (by decide) k) ?_
        refine own_pre (T' := T413) (g' := (mkF m 288 L414 [(.int (1 : Int32))])) (fun t k => XS.iconst X413.here hx rfl (hb hby at_287) k) ?_
        refine own_pre (T' := T413) (g' := (mkF m 292 L414 [(.int (1 : Int32))])) (fun t k => XS.goto X413.here hx rfl (pc0 := 288) (pc' := 292) rfl (hb hby at_288) (by decide) (by decide) k) ?_
        exact own_retZ X413 hx hlk hret rfl (hb hby at_292) e413' ⟨rfl, N413'⟩ (by decide) (by decide)
    · skip
      refine own_pre (T' := T389) (g' := (mkF m 171 L396 [])) (fun t k => XS.ifNo X389.here hx rfl (hb hby at_168) rfl ((if0 _ _).trans (feq hsel2).1) k) ?_
      refine own_pre (T' := T389) (g' := (mkF m 172 L396 [(.int (1 : Int32))])) (fun t k => XS.iconst X389.here hx rfl (hb hby at_171) k) ?_
      refine own_pre (T' := T389) (g' := (mkF m 176 L396 [(.int (1 : Int32))])) (fun t k => XS.goto X389.here hx rfl (pc0 := 172) (pc' := 176) rfl (hb hby at_172) (by decide) (by decide) k) ?_
      refine own_pre (T' := T389) (g' := (mkF m 178 #[.val (.int p0), .val (.int p1), .val (.int p2), .val (.int p3), .val (.int p4), .val (.long p5), .second, .val (.int v2), .val (.int v4), .val (.int v6), .val (.int v8), .val (.ref a10), .val (.int (1 : Int32)), .val (.int (2 : Int32)), .val (.int v4), .val (.int v6), .val (.int v393), .val (.int v395), .val (.int (1 : Int32)), .unset, .unset, .unset, .unset, .unset] [])) (fun t k => XS.istore X389.here hx rfl (hb hby at_176) rfl (l' := #[.val (.int p0), .val (.int p1), .val (.int p2), .val (.int p3), .val (.int p4), .val (.long p5), .second, .val (.int v2), .val (.int v4), .val (.int v6), .val (.int v8), .val (.ref a10), .val (.int (1 : Int32)), .val (.int (2 : Int32)), .val (.int v4), .val (.int v6), .val (.int v393), .val (.int v395), .val (.int (1 : Int32)), .unset, .unset, .unset, .unset, .unset]) (by rw [← hL396]; rfl) k) ?_
      generalize hL415 : (#[.val (.int p0), .val (.int p1), .val (.int p2), .val (.int p3), .val (.int p4), .val (.long p5), .second, .val (.int v2), .val (.int v4), .val (.int v6), .val (.int v8), .val (.ref a10), .val (.int (1 : Int32)), .val (.int (2 : Int32)), .val (.int v4), .val (.int v6), .val (.int v393), .val (.int v395), .val (.int (1 : Int32)), .unset, .unset, .unset, .unset, .unset] : Array Slot) = L415
      refine own_pre (T' := T389) (g' := (mkF m 180 L415 [(.int (1 : Int32))])) (fun t k => XS.iload X389.here hx rfl (v := (1 : Int32)) (hb hby at_178) (by rw [← hL415]; rfl) k) ?_
      refine own_pre (T' := T389) (g' := (mkF m 183 L415 [])) (fun t k => XS.ifNo X389.here hx rfl (hb hby at_180) rfl (by decide) k) ?_
      refine own_pre (T' := T389) (g' := (mkF m 185 L415 [(.long p5)])) (fun t k => XT.lload X389.here hx rfl (v := p5) (hb hby at_183) (by rw [← hL415]; rfl) k) ?_
      refine own_ldcl X389 hx hZ hown (own_w hw 112 rfl) (hb hby at_185) ?_
      show own_Go _ _ _ _ _ _ _ T389 (mkF m 188 L415 [(.long (524287 : Int64)), (.long p5)])
      refine own_pre (T' := T389) (g' := (mkF m 189 L415 [(.long (p5 &&& (524287 : Int64)))])) (fun t k => XT.land X389.here hx rfl (hb hby at_188) rfl k) ?_
      generalize hv416 : p5 &&& (524287 : Int64) = v416
      refine own_pre (T' := T389) (g' := (mkF m 191 #[.val (.int p0), .val (.int p1), .val (.int p2), .val (.int p3), .val (.int p4), .val (.long p5), .second, .val (.int v2), .val (.int v4), .val (.int v6), .val (.int v8), .val (.ref a10), .val (.int (1 : Int32)), .val (.int (2 : Int32)), .val (.int v4), .val (.int v6), .val (.int v393), .val (.int v395), .val (.int (1 : Int32)), .unset, .unset, .unset, .val (.long v416), .second] [])) (fun t k => XT.lstore X389.here hx rfl (hb hby at_189) rfl (l' := #[.val (.int p0), .val (.int p1), .val (.int p2), .val (.int p3), .val (.int p4), .val (.long p5), .second, .val (.int v2), .val (.int v4), .val (.int v6), .val (.int v8), .val (.ref a10), .val (.int (1 : Int32)), .val (.int (2 : Int32)), .val (.int v4), .val (.int v6), .val (.int v393), .val (.int v395), .val (.int (1 : Int32)), .unset, .unset, .unset, .val (.long v416), .second]) (by rw [← hL415]; rfl) k) ?_
      generalize hL417 : (#[.val (.int p0), .val (.int p1), .val (.int p2), .val (.int p3), .val (.int p4), .val (.long p5), .second, .val (.int v2), .val (.int v4), .val (.int v6), .val (.int v8), .val (.ref a10), .val (.int (1 : Int32)), .val (.int (2 : Int32)), .val (.int v4), .val (.int v6), .val (.int v393), .val (.int v395), .val (.int (1 : Int32)), .unset, .unset, .unset, .val (.long v416), .second] : Array Slot) = L417
      refine own_pre (T' := T389) (g' := (mkF m 193 L417 [(.long v416)])) (fun t k => XT.lload X389.here hx rfl (v := v416) (hb hby at_191) (by rw [← hL417]; rfl) k) ?_
      refine own_ldcl X389 hx hZ hown (own_w hw 113 rfl) (hb hby at_193) ?_
      show own_Go _ _ _ _ _ _ _ T389 (mkF m 196 L417 [(.long (100000000 : Int64)), (.long v416)])
      refine own_pre (T' := T389) (g' := (mkF m 197 L417 [(.long (v416 * (100000000 : Int64)))])) (fun t k => XT.lmul X389.here hx rfl (hb hby at_196) rfl k) ?_
      generalize hv418 : v416 * (100000000 : Int64) = v418
      refine own_pre (T' := T389) (g' := (mkF m 199 #[.val (.int p0), .val (.int p1), .val (.int p2), .val (.int p3), .val (.int p4), .val (.long p5), .second, .val (.int v2), .val (.int v4), .val (.int v6), .val (.int v8), .val (.ref a10), .val (.int (1 : Int32)), .val (.int (2 : Int32)), .val (.int v4), .val (.int v6), .val (.int v393), .val (.int v395), .val (.int (1 : Int32)), .val (.long v418), .second, .unset, .val (.long v416), .second] [])) (fun t k => XT.lstore X389.here hx rfl (hb hby at_197) rfl (l' := #[.val (.int p0), .val (.int p1), .val (.int p2), .val (.int p3), .val (.int p4), .val (.long p5), .second, .val (.int v2), .val (.int v4), .val (.int v6), .val (.int v8), .val (.ref a10), .val (.int (1 : Int32)), .val (.int (2 : Int32)), .val (.int v4), .val (.int v6), .val (.int v393), .val (.int v395), .val (.int (1 : Int32)), .val (.long v418), .second, .unset, .val (.long v416), .second]) (by rw [← hL417]; rfl) k) ?_
      generalize hL419 : (#[.val (.int p0), .val (.int p1), .val (.int p2), .val (.int p3), .val (.int p4), .val (.long p5), .second, .val (.int v2), .val (.int v4), .val (.int v6), .val (.int v8), .val (.ref a10), .val (.int (1 : Int32)), .val (.int (2 : Int32)), .val (.int v4), .val (.int v6), .val (.int v393), .val (.int v395), .val (.int (1 : Int32)), .val (.long v418), .second, .unset, .val (.long v416), .second] : Array Slot) = L419
      refine own_pre (T' := T389) (g' := (mkF m 201 L419 [(.int v393)])) (fun t k => XS.iload X389.here hx rfl (v := v393) (hb hby at_199) (by rw [← hL419]; rfl) k) ?_
      refine own_pre (T' := T389) (g' := (mkF m 202 L419 [(.long v393.toInt64)])) (fun t k => XT.i2l X389.here hx rfl (hb hby at_201) rfl k) ?_
      refine own_ldcl X389 hx hZ hown (own_w hw 114 rfl) (hb hby at_202) ?_
      show own_Go _ _ _ _ _ _ _ T389 (mkF m 205 L419 [(.long (2 : Int64)), (.long v393.toInt64)])
      refine own_pre (T' := T389) (g' := (mkF m 207 L419 [(.long v416), (.long (2 : Int64)), (.long v393.toInt64)])) (fun t k => XT.lload X389.here hx rfl (v := v416) (hb hby at_205) (by rw [← hL419]; rfl) k) ?_
      refine own_pre (T' := T389) (g' := (mkF m 208 L419 [(.long ((2 : Int64) * v416)), (.long v393.toInt64)])) (fun t k => XT.lmul X389.here hx rfl (hb hby at_207) rfl k) ?_
      refine own_pre (T' := T389) (g' := (mkF m 209 L419 [(.int (XT.cmpL v393.toInt64 ((2 : Int64) * v416)))])) (fun t k => XT.lcmp X389.here hx rfl (hb hby at_208) rfl k) ?_
      have hkb := own_kb hv416
      have hN := own_nk hv418 hkb
      by_cases hd1 : (XT.cmpL v393.toInt64 ((2 : Int64) * v416)) < (0 : Int32)
      · skip
        refine own_pre (T' := T389) (g' := (mkF m 229 L419 [])) (fun t k => XS.ifYes X389.here hx rfl (pc0 := 209) (pc' := 229) rfl (hb hby at_209) rfl ((if0 _ _).trans (tlt hd1).1) (by decide) (by decide) k) ?_
        have hlo := (own_lt2k hdlo hkb).mp hd1
        refine own_pre (T' := T389) (g' := (mkF m 230 L419 [(.int (0 : Int32))])) (fun t k => XS.iconst X389.here hx rfl (hb hby at_229) k) ?_
        refine own_pre (T' := T389) (g' := (mkF m 232 #[.val (.int p0), .val (.int p1), .val (.int p2), .val (.int p3), .val (.int p4), .val (.long p5), .second, .val (.int v2), .val (.int v4), .val (.int v6), .val (.int v8), .val (.ref a10), .val (.int (1 : Int32)), .val (.int (2 : Int32)), .val (.int v4), .val (.int v6), .val (.int v393), .val (.int v395), .val (.int (1 : Int32)), .val (.long v418), .second, .val (.int (0 : Int32)), .val (.long v416), .second] [])) (fun t k => XS.istore X389.here hx rfl (hb hby at_230) rfl (l' := #[.val (.int p0), .val (.int p1), .val (.int p2), .val (.int p3), .val (.int p4), .val (.long p5), .second, .val (.int v2), .val (.int v4), .val (.int v6), .val (.int v8), .val (.ref a10), .val (.int (1 : Int32)), .val (.int (2 : Int32)), .val (.int v4), .val (.int v6), .val (.int v393), .val (.int v395), .val (.int (1 : Int32)), .val (.long v418), .second, .val (.int (0 : Int32)), .val (.long v416), .second]) (by rw [← hL419]; rfl) k) ?_
        generalize hL420 : (#[.val (.int p0), .val (.int p1), .val (.int p2), .val (.int p3), .val (.int p4), .val (.long p5), .second, .val (.int v2), .val (.int v4), .val (.int v6), .val (.int v8), .val (.ref a10), .val (.int (1 : Int32)), .val (.int (2 : Int32)), .val (.int v4), .val (.int v6), .val (.int v393), .val (.int v395), .val (.int (1 : Int32)), .val (.long v418), .second, .val (.int (0 : Int32)), .val (.long v416), .second] : Array Slot) = L420
        refine own_pre (T' := T389) (g' := (mkF m 262 L420 [])) (fun t k => XS.goto X389.here hx rfl (pc0 := 232) (pc' := 262) rfl (hb hby at_232) (by decide) (by decide) k) ?_
        refine own_pre (T' := T389) (g' := (mkF m 264 L420 [(.ref a10)])) (fun t k => XS.aload X389.here hx rfl (v := (.ref a10)) (hb hby at_262) (by rw [← hL420]; rfl) rfl k) ?_
        refine own_pre (T' := T389) (g' := (mkF m 266 L420 [(.int (2 : Int32)), (.ref a10)])) (fun t k => XS.iload X389.here hx rfl (v := (2 : Int32)) (hb hby at_264) (by rw [← hL420]; rfl) k) ?_
        refine own_pre (T' := T389) (g' := (mkF m 268 L420 [(.int v8), (.int (2 : Int32)), (.ref a10)])) (fun t k => XS.iload X389.here hx rfl (v := v8) (hb hby at_266) (by rw [← hL420]; rfl) k) ?_
        obtain ⟨f421, hf421⟩ : ∃ z, FP.i2d v8 = z := ⟨_, rfl⟩
        refine own_pre (T' := T389) (g' := (mkF m 269 L420 [(.double f421), (.int (2 : Int32)), (.ref a10)])) (fun t k => XS.i2dS X389.here hx rfl (hb hby at_268) rfl hf421 k) ?_
        have Df421 : Jvm.FP.Core.DInt v8.toInt f421 := hf421 ▸ Jvm.FP.Core.i2d_int _
        refine own_ldcd X389 hx hZ hown (own_w hw 43 rfl) (hb hby at_269) ?_
        show own_Go _ _ _ _ _ _ _ T389 (mkF m 272 L420 [(.double (4602678819172646912 : UInt64)), (.double f421), (.int (2 : Int32)), (.ref a10)])
        obtain ⟨f422, hf422⟩ : ∃ z, FP.dmul f421 (4602678819172646912 : UInt64) = z := ⟨_, rfl⟩
        have Df422 : FP.Core.own_H v8.toInt f422 := hf422 ▸ FP.Core.own_H_mul Df421 (by have := rng32 v8; omega)
        refine own_pre (T' := T389) (g' := (mkF m 273 L420 [(.double f422), (.int (2 : Int32)), (.ref a10)])) (fun t k => XS.dmulS X389.here hx rfl (hb hby at_272) rfl (by rw [hf422]; exact Jvm.Free.Fl.val64_no.mpr Df422.nn) hf422 k) ?_
        refine own_pre (T' := T389) (g' := (mkF m 275 L420 [(.long v418), (.double f422), (.int (2 : Int32)), (.ref a10)])) (fun t k => XT.lload X389.here hx rfl (v := v418) (hb hby at_273) (by rw [← hL420]; rfl) k) ?_
        refine own_callv (a := a10) (argsL := [(.int (2 : Int32)), (.double f422), (.long v418)]) (rest := []) X389 hx hZ hown (own_s38 l Z a0 hw [] a10 f422 v418 a35 a29 f121 f167 f225 v8 v4 v416 h244 n0 F388 F248 F254 F257 F263 Df422 Df167 hN hlo) F364 (own_w hw 106 rfl) (own_w hw 107 rfl) (own_w hw 109 rfl) (own_w hw 108 rfl) (own_w hw 110 rfl) (own_w hw 5 rfl) (by decide) e389' (hb hby at_275) (by rw [hml, ← hL420]; rfl) rfl (lenOf own_pd8 rfl) (by decide) (W := 0) (Nat.le_of_eq rfl) (by decide) (by decide) (by decide) ?_
        intro v423 T423 lo423 X423 Q423
        obtain ⟨h423, e423⟩ : ∃ h, T423.heap = h := ⟨_, rfl⟩
        rw [e423] at Q423
        obtain ⟨rfl, N423, K423⟩ := Q423
        have N423' := Fr.app N389' N423
        have e423' : T423.heap = h244 := e423.trans K423
        show own_Go _ _ _ _ _ _ _ T423 (mkF m 278 L420 [(.int (0 : Int32))])
        refine own_pre (T' := T423) (g' := (mkF m 280 #[.val (.int p0), .val (.int p1), .val (.int p2), .val (.int p3), .val (.int p4), .val (.long p5), .second, .val (.int v2), .val (.int v4), .val (.int v6), .val (.int v8), .val (.ref a10), .val (.int (1 : Int32)), .val (.int (2 : Int32)), .val (.int v4), .val (.int v6), .val (.int v393), .val (.int v395), .val (.int (1 : Int32)), .val (.long v418), .second, .val (.int (0 : Int32)), .val (.int (0 : Int32)), .unset] [])) (fun t k => XS.istore X423.here hx rfl (hb hby at_278) rfl (l' := #[.val (.int p0), .val (.int p1), .val (.int p2), .val (.int p3), .val (.int p4), .val (.long p5), .second, .val (.int v2), .val (.int v4), .val (.int v6), .val (.int v8), .val (.ref a10), .val (.int (1 : Int32)), .val (.int (2 : Int32)), .val (.int v4), .val (.int v6), .val (.int v393), .val (.int v395), .val (.int (1 : Int32)), .val (.long v418), .second, .val (.int (0 : Int32)), .val (.int (0 : Int32)), .unset]) (by rw [← hL420]; rfl) k) ?_
        generalize hL424 : (#[.val (.int p0), .val (.int p1), .val (.int p2), .val (.int p3), .val (.int p4), .val (.long p5), .second, .val (.int v2), .val (.int v4), .val (.int v6), .val (.int v8), .val (.ref a10), .val (.int (1 : Int32)), .val (.int (2 : Int32)), .val (.int v4), .val (.int v6), .val (.int v393), .val (.int v395), .val (.int (1 : Int32)), .val (.long v418), .second, .val (.int (0 : Int32)), .val (.int (0 : Int32)), .unset] : Array Slot) = L424
        refine own_pre (T' := T423) (g' := (mkF m 282 L424 [(.int (0 : Int32))])) (fun t k => XS.iload X423.here hx rfl (v := (0 : Int32)) (hb hby at_280) (by rw [← hL424]; rfl) k) ?_
        refine own_pre (T' := T423) (g' := (mkF m 284 L424 [(.int (0 : Int32)), (.int (0 : Int32))])) (fun t k => XS.iload X423.here hx rfl (v := (0 : Int32)) (hb hby at_282) (by rw [← hL424]; rfl) k) ?_
        refine own_pre (T' := T423) (g' := (mkF m 287 L424 [])) (fun t k => XS.icmpNo X423.here hx rfl (hb hby at_284) rfl (by decide) k) ?_
        refine own_pre (T' := T423) (g' := (mkF m 288 L424 [(.int (1 : Int32))])) (fun t k => XS.iconst X423.here hx rfl (hb hby at_287) k) ?_
        refine own_pre (T' := T423) (g' := (mkF m 292 L424 [(.int (1 : Int32))])) (fun t k => XS.goto X423.here hx rfl (pc0 := 288) (pc' := 292) rfl (hb hby at_288) (by decide) (by decide) k) ?_
        exact own_retZ X423 hx hlk hret rfl (hb hby at_292) e423' ⟨rfl, N423'⟩ (by decide) (by decide)
      · skip
        refine own_pre (T' := T389) (g' := (mkF m 212 L419 [])) (fun t k => XS.ifNo X389.here hx rfl (hb hby at_209) rfl ((if0 _ _).trans (flt hd1).1) k) ?_
        have hlo := mt (own_lt2k hdlo hkb).mpr hd1
        refine own_pre (T' := T389) (g' := (mkF m 214 L419 [(.int v395)])) (fun t k => XS.iload X389.here hx rfl (v := v395) (hb hby at_212) (by rw [← hL419]; rfl) k) ?_
        refine own_pre (T' := T389) (g' := (mkF m 215 L419 [(.long v395.toInt64)])) (fun t k => XT.i2l X389.here hx rfl (hb hby at_214) rfl k) ?_
        refine own_ldcl X389 hx hZ hown (own_w hw 114 rfl) (hb hby at_215) ?_
        show own_Go _ _ _ _ _ _ _ T389 (mkF m 218 L419 [(.long (2 : Int64)), (.long v395.toInt64)])
        refine own_pre (T' := T389) (g' := (mkF m 220 L419 [(.long v416), (.long (2 : Int64)), (.long v395.toInt64)])) (fun t k => XT.lload X389.here hx rfl (v := v416) (hb hby at_218) (by rw [← hL419]; rfl) k) ?_
        refine own_pre (T' := T389) (g' := (mkF m 221 L419 [(.long ((2 : Int64) * v416)), (.long v395.toInt64)])) (fun t k => XT.lmul X389.here hx rfl (hb hby at_220) rfl k) ?_
        refine own_pre (T' := T389) (g' := (mkF m 222 L419 [(.int (XT.cmpL v395.toInt64 ((2 : Int64) * v416)))])) (fun t k => XT.lcmp X389.here hx rfl (hb hby at_221) rfl k) ?_
        by_cases hd2 : (XT.cmpL v395.toInt64 ((2 : Int64) * v416)) < (0 : Int32)
        · skip
          refine own_pre (T' := T389) (g' := (mkF m 229 L419 [])) (fun t k => XS.ifYes X389.here hx rfl (pc0 := 222) (pc' := 229) rfl (hb hby at_222) rfl ((if0 _ _).trans (tlt hd2).1) (by decide) (by decide) k) ?_
          have hhi := (own_lt2k hdhi hkb).mp hd2
          refine own_pre (T' := T389) (g' := (mkF m 230 L419 [(.int (0 : Int32))])) (fun t k => XS.iconst X389.here hx rfl (hb hby at_229) k) ?_
          refine own_pre (T' := T389) (g' := (mkF m 232 #[.val (.int p0), .val (.int p1), .val (.int p2), .val (.int p3), .val (.int p4), .val (.long p5), .second, .val (.int v2), .val (.int v4), .val (.int v6), .val (.int v8), .val (.ref a10), .val (.int (1 : Int32)), .val (.int (2 : Int32)), .val (.int v4), .val (.int v6), .val (.int v393), .val (.int v395), .val (.int (1 : Int32)), .val (.long v418), .second, .val (.int (0 : Int32)), .val (.long v416), .second] [])) (fun t k => XS.istore X389.here hx rfl (hb hby at_230) rfl (l' := #[.val (.int p0), .val (.int p1), .val (.int p2), .val (.int p3), .val (.int p4), .val (.long p5), .second, .val (.int v2), .val (.int v4), .val (.int v6), .val (.int v8), .val (.ref a10), .val (.int (1 : Int32)), .val (.int (2 : Int32)), .val (.int v4), .val (.int v6), .val (.int v393), .val (.int v395), .val (.int (1 : Int32)), .val (.long v418), .second, .val (.int (0 : Int32)), .val (.long v416), .second]) (by rw [← hL419]; rfl) k) ?_
          generalize hL425 : (#[.val (.int p0), .val (.int p1), .val (.int p2), .val (.int p3), .val (.int p4), .val (.long p5), .second, .val (.int v2), .val (.int v4), .val (.int v6), .val (.int v8), .val (.ref a10), .val (.int (1 : Int32)), .val (.int (2 : Int32)), .val (.int v4), .val (.int v6), .val (.int v393), .val (.int v395), .val (.int (1 : Int32)), .val (.long v418), .second, .val (.int (0 : Int32)), .val (.long v416), .second] : Array Slot) = L425
          refine own_pre (T' := T389) (g' := (mkF m 262 L425 [])) (fun t k => XS.goto X389.here hx rfl (pc0 := 232) (pc' := 262) rfl (hb hby at_232) (by decide) (by decide) k) ?_
          refine own_pre (T' := T389) (g' := (mkF m 264 L425 [(.ref a10)])) (fun t k => XS.aload X389.here hx rfl (v := (.ref a10)) (hb hby at_262) (by rw [← hL425]; rfl) rfl k) ?_
          refine own_pre (T' := T389) (g' := (mkF m 266 L425 [(.int (2 : Int32)), (.ref a10)])) (fun t k => XS.iload X389.here hx rfl (v := (2 : Int32)) (hb hby at_264) (by rw [← hL425]; rfl) k) ?_
          refine own_pre (T' := T389) (g' := (mkF m 268 L425 [(.int v8), (.int (2 : Int32)), (.ref a10)])) (fun t k => XS.iload X389.here hx rfl (v := v8) (hb hby at_266) (by rw [← hL425]; rfl) k) ?_
          obtain ⟨f426, hf426⟩ : ∃ z, FP.i2d v8 = z := ⟨_, rfl⟩
          refine own_pre (T' := T389) (g' := (mkF m 269 L425 [(.double f426), (.int (2 : Int32)), (.ref a10)])) (fun t k => XS.i2dS X389.here hx rfl (hb hby at_268) rfl hf426 k) ?_
          have Df426 : Jvm.FP.Core.DInt v8.toInt f426 := hf426 ▸ Jvm.FP.Core.i2d_int _
          refine own_ldcd X389 hx hZ hown (own_w hw 43 rfl) (hb hby at_269) ?_
          show own_Go _ _ _ _ _ _ _ T389 (mkF m 272 L425 [(.double (4602678819172646912 : UInt64)), (.double f426), (.int (2 : Int32)), (.ref a10)])
          obtain ⟨f427, hf427⟩ : ∃ z, FP.dmul f426 (4602678819172646912 : UInt64) = z := ⟨_, rfl⟩
          have Df427 : FP.Core.own_H v8.toInt f427 := hf427 ▸ FP.Core.own_H_mul Df426 (by have := rng32 v8; omega)
          refine own_pre (T' := T389) (g' := (mkF m 273 L425 [(.double f427), (.int (2 : Int32)), (.ref a10)])) (fun t k => XS.dmulS X389.here hx rfl (hb hby at_272) rfl (by rw [hf427]; exact Jvm.Free.Fl.val64_no.mpr Df427.nn) hf427 k) ?_
          refine own_pre (T' := T389) (g' := (mkF m 275 L425 [(.long v418), (.double f427), (.int (2 : Int32)), (.ref a10)])) (fun t k => XT.lload X389.here hx rfl (v := v418) (hb hby at_273) (by rw [← hL425]; rfl) k) ?_
          refine own_callv (a := a10) (argsL := [(.int (2 : Int32)), (.double f427), (.long v418)]) (rest := []) X389 hx hZ hown (own_s39 l Z a0 hw [] a10 f427 v418 a35 a29 f121 f167 f225 v8 v4 v6 v416 h244 n0 F388 F248 F254 F257 F263 Df427 Df167 Df225 hN hlo hhi) F364 (own_w hw 106 rfl) (own_w hw 107 rfl) (own_w hw 109 rfl) (own_w hw 108 rfl) (own_w hw 110 rfl) (own_w hw 5 rfl) (by decide) e389' (hb hby at_275) (by rw [hml, ← hL425]; rfl) rfl (lenOf own_pd8 rfl) (by decide) (W := 0) (Nat.le_of_eq rfl) (by decide) (by decide) (by decide) ?_
          intro v428 T428 lo428 X428 Q428
          obtain ⟨h428, e428⟩ : ∃ h, T428.heap = h := ⟨_, rfl⟩
          rw [e428] at Q428
          obtain ⟨rfl, N428, K428⟩ := Q428
          have N428' := Fr.app N389' N428
          have e428' : T428.heap = h244 := e428.trans K428
          show own_Go _ _ _ _ _ _ _ T428 (mkF m 278 L425 [(.int (0 : Int32))])
          refine own_pre (T' := T428) (g' := (mkF m 280 #[.val (.int p0), .val (.int p1), .val (.int p2), .val (.int p3), .val (.int p4), .val (.long p5), .second, .val (.int v2), .val (.int v4), .val (.int v6), .val (.int v8), .val (.ref a10), .val (.int (1 : Int32)), .val (.int (2 : Int32)), .val (.int v4), .val (.int v6), .val (.int v393), .val (.int v395), .val (.int (1 : Int32)), .val (.long v418), .second, .val (.int (0 : Int32)), .val (.int (0 : Int32)), .unset] [])) (fun t k => XS.istore X428.here hx rfl (hb hby at_278) rfl (l' := #[.val (.int p0), .val (.int p1), .val (.int p2), .val (.int p3), .val (.int p4), .val (.long p5), .second, .val (.int v2), .val (.int v4), .val (.int v6), .val (.int v8), .val (.ref a10), .val (.int (1 : Int32)), .val (.int (2 : Int32)), .val (.int v4), .val (.int v6), .val (.int v393), .val (.int v395), .val (.int (1 : Int32)), .val (.long v418), .second, .val (.int (0 : Int32)), .val (.int (0 : Int32)), .unset]) (by rw [← hL425]; rfl) k) ?_
          generalize hL429 : (#[.val (.int p0), .val (.int p1), .val (.int p2), .val (.int p3), .val (.int p4), .val (.long p5), .second, .val (.int v2), .val (.int v4), .val (.int v6), .val (.int v8), .val (.ref a10), .val (.int (1 : Int32)), .val (.int (2 : Int32)), .val (.int v4), .val (.int v6), .val (.int v393), .val (.int v395), .val (.int (1 : Int32)), .val (.long v418), .second, .val (.int (0 : Int32)), .val (.int (0 : Int32)), .unset] : Array Slot) = L429
          refine own_pre (T' := T428) (g' := (mkF m 282 L429 [(.int (0 : Int32))])) (fun t k => XS.iload X428.here hx rfl (v := (0 : Int32)) (hb hby at_280) (by rw [← hL429]; rfl) k) ?_
          refine own_pre (T' := T428) (g' := (mkF m 284 L429 [(.int (0 : Int32)), (.int (0 : Int32))])) (fun t k => XS.iload X428.here hx rfl (v := (0 : Int32)) (hb hby at_282) (by rw [← hL429]; rfl) k) ?_
          refine own_pre (T' := T428) (g' := (mkF m 287 L429 [])) (fun t k => XS.icmpNo X428.here hx rfl (hb hby at_284) rfl (by decide) k) ?_
          refine own_pre (T' := T428) (g' := (mkF m 288 L429 [(.int (1 : Int32))])) (fun t k => XS.iconst X428.here hx rfl (hb hby at_287) k) ?_
          refine own_pre (T' := T428) (g' := (mkF m 292 L429 [(.int (1 : Int32))])) (fun t k => XS.goto X428.here hx rfl (pc0 := 288) (pc' := 292) rfl (hb hby at_288) (by decide) (by decide) k) ?_
          exact own_retZ X428 hx hlk hret rfl (hb hby at_292) e428' ⟨rfl, N428'⟩ (by decide) (by decide)
        · skip
          refine own_pre (T' := T389) (g' := (mkF m 225 L419 [])) (fun t k => XS.ifNo X389.here hx rfl (hb hby at_222) rfl ((if0 _ _).trans (flt hd2).1) k) ?_
          have hhi := mt (own_lt2k hdhi hkb).mpr hd2
          refine own_pre (T' := T389) (g' := (mkF m 226 L419 [(.int (1 : Int32))])) (fun t k => XS.iconst X389.here hx rfl (hb hby at_225) k) ?_
          refine own_pre (T' := T389) (g' := (mkF m 230 L419 [(.int (1 : Int32))])) (fun t k => XS.goto X389.here hx rfl (pc0 := 226) (pc' := 230) rfl (hb hby at_226) (by decide) (by decide) k) ?_
          refine own_pre (T' := T389) (g' := (mkF m 232 #[.val (.int p0), .val (.int p1), .val (.int p2), .val (.int p3), .val (.int p4), .val (.long p5), .second, .val (.int v2), .val (.int v4), .val (.int v6), .val (.int v8), .val (.ref a10), .val (.int (1 : Int32)), .val (.int (2 : Int32)), .val (.int v4), .val (.int v6), .val (.int v393), .val (.int v395), .val (.int (1 : Int32)), .val (.long v418), .second, .val (.int (1 : Int32)), .val (.long v416), .second] [])) (fun t k => XS.istore X389.here hx rfl (hb hby at_230) rfl (l' := #[.val (.int p0), .val (.int p1), .val (.int p2), .val (.int p3), .val (.int p4), .val (.long p5), .second, .val (.int v2), .val (.int v4), .val (.int v6), .val (.int v8), .val (.ref a10), .val (.int (1 : Int32)), .val (.int (2 : Int32)), .val (.int v4), .val (.int v6), .val (.int v393), .val (.int v395), .val (.int (1 : Int32)), .val (.long v418), .second, .val (.int (1 : Int32)), .val (.long v416), .second]) (by rw [← hL419]; rfl) k) ?_
          generalize hL430 : (#[.val (.int p0), .val (.int p1), .val (.int p2), .val (.int p3), .val (.int p4), .val (.long p5), .second, .val (.int v2), .val (.int v4), .val (.int v6), .val (.int v8), .val (.ref a10), .val (.int (1 : Int32)), .val (.int (2 : Int32)), .val (.int v4), .val (.int v6), .val (.int v393), .val (.int v395), .val (.int (1 : Int32)), .val (.long v418), .second, .val (.int (1 : Int32)), .val (.long v416), .second] : Array Slot) = L430
          refine own_pre (T' := T389) (g' := (mkF m 262 L430 [])) (fun t k => XS.goto X389.here hx rfl (pc0 := 232) (pc' := 262) rfl (hb hby at_232) (by decide) (by decide) k) ?_
          refine own_pre (T' := T389) (g' := (mkF m 264 L430 [(.ref a10)])) (fun t k => XS.aload X389.here hx rfl (v := (.ref a10)) (hb hby at_262) (by rw [← hL430]; rfl) rfl k) ?_
          refine own_pre (T' := T389) (g' := (mkF m 266 L430 [(.int (2 : Int32)), (.ref a10)])) (fun t k => XS.iload X389.here hx rfl (v := (2 : Int32)) (hb hby at_264) (by rw [← hL430]; rfl) k) ?_
          refine own_pre (T' := T389) (g' := (mkF m 268 L430 [(.int v8), (.int (2 : Int32)), (.ref a10)])) (fun t k => XS.iload X389.here hx rfl (v := v8) (hb hby at_266) (by rw [← hL430]; rfl) k) ?_
          obtain ⟨f431, hf431⟩ : ∃ z, FP.i2d v8 = z := ⟨_, rfl⟩
          refine own_pre (T' := T389) (g' := (mkF m 269 L430 [(.double f431), (.int (2 : Int32)), (.ref a10)])) (fun t k => XS.i2dS X389.here hx rfl (hb hby at_268) rfl hf431 k) ?_
          have Df431 : Jvm.FP.Core.DInt v8.toInt f431 := hf431 ▸ Jvm.FP.Core.i2d_int _
          refine own_ldcd X389 hx hZ hown (own_w hw 43 rfl) (hb hby at_269) ?_
          show own_Go _ _ _ _ _ _ _ T389 (mkF m 272 L430 [(.double (4602678819172646912 : UInt64)), (.double f431), (.int (2 : Int32)), (.ref a10)])
          obtain ⟨f432, hf432⟩ : ∃ z, FP.dmul f431 (4602678819172646912 : UInt64) = z := ⟨_, rfl⟩
          have Df432 : FP.Core.own_H v8.toInt f432 := hf432 ▸ FP.Core.own_H_mul Df431 (by have := rng32 v8; omega)
          refine own_pre (T' := T389) (g' := (mkF m 273 L430 [(.double f432), (.int (2 : Int32)), (.ref a10)])) (fun t k => XS.dmulS X389.here hx rfl (hb hby at_272) rfl (by rw [hf432]; exact Jvm.Free.Fl.val64_no.mpr Df432.nn) hf432 k) ?_
          refine own_pre (T' := T389) (g' := (mkF m 275 L430 [(.long v418), (.double f432), (.int (2 : Int32)), (.ref a10)])) (fun t k => XT.lload X389.here hx rfl (v := v418) (hb hby at_273) (by rw [← hL430]; rfl) k) ?_
          refine own_callv (a := a10) (argsL := [(.int (2 : Int32)), (.double f432), (.long v418)]) (rest := []) X389 hx hZ hown (own_s40 l Z a0 hw [] a10 f432 v418 a35 a29 f121 f167 f225 v8 v4 v6 v416 h244 n0 F388 F248 F254 F257 F263 Df432 Df167 Df225 hN hlo hhi) F364 (own_w hw 106 rfl) (own_w hw 107 rfl) (own_w hw 109 rfl) (own_w hw 108 rfl) (own_w hw 110 rfl) (own_w hw 5 rfl) (by decide) e389' (hb hby at_275) (by rw [hml, ← hL430]; rfl) rfl (lenOf own_pd8 rfl) (by decide) (W := 0) (Nat.le_of_eq rfl) (by decide) (by decide) (by decide) ?_
          intro v433 T433 lo433 X433 Q433
          obtain ⟨h433, e433⟩ : ∃ h, T433.heap = h := ⟨_, rfl⟩
          rw [e433] at Q433
          obtain ⟨rfl, N433, K433⟩ := Q433
          have N433' := Fr.app N389' N433
          have e433' : T433.heap = h244 := e433.trans K433
          show own_Go _ _ _ _ _ _ _ T433 (mkF m 278 L430 [(.int (1 : Int32))])
          refine own_pre (T' := T433) (g' := (mkF m 280 #[.val (.int p0), .val (.int p1), .val (.int p2), .val (.int p3), .val (.int p4), .val (.long p5), .second, .val (.int v2), .val (.int v4), .val (.int v6), .val (.int v8), .val (.ref a10), .val (.int (1 : Int32)), .val (.int (2 : Int32)), .val (.int v4), .val (.int v6), .val (.int v393), .val (.int v395), .val (.int (1 : Int32)), .val (.long v418), .second, .val (.int (1 : Int32)), .val (.int (1 : Int32)), .unset] [])) (fun t k => XS.istore X433.here hx rfl (hb hby at_278) rfl (l' := #[.val (.int p0), .val (.int p1), .val (.int p2), .val (.int p3), .val (.int p4), .val (.long p5), .second, .val (.int v2), .val (.int v4), .val (.int v6), .val (.int v8), .val (.ref a10), .val (.int (1 : Int32)), .val (.int (2 : Int32)), .val (.int v4), .val (.int v6), .val (.int v393), .val (.int v395), .val (.int (1 : Int32)), .val (.long v418), .second, .val (.int (1 : Int32)), .val (.int (1 : Int32)), .unset]) (by rw [← hL430]; rfl) k) ?_
          generalize hL434 : (#[.val (.int p0), .val (.int p1), .val (.int p2), .val (.int p3), .val (.int p4), .val (.long p5), .second, .val (.int v2), .val (.int v4), .val (.int v6), .val (.int v8), .val (.ref a10), .val (.int (1 : Int32)), .val (.int (2 : Int32)), .val (.int v4), .val (.int v6), .val (.int v393), .val (.int v395), .val (.int (1 : Int32)), .val (.long v418), .second, .val (.int (1 : Int32)), .val (.int (1 : Int32)), .unset] : Array Slot) = L434
          refine own_pre (T' := T433) (g' := (mkF m 282 L434 [(.int (1 : Int32))])) (fun t k => XS.iload X433.here hx rfl (v := (1 : Int32)) (hb hby at_280) (by rw [← hL434]; rfl) k) ?_
          refine own_pre (T' := T433) (g' := (mkF m 284 L434 [(.int (1 : Int32)), (.int (1 : Int32))])) (fun t k => XS.iload X433.here hx rfl (v := (1 : Int32)) (hb hby at_282) (by rw [← hL434]; rfl) k) ?_
          refine own_pre (T' := T433) (g' := (mkF m 287 L434 [])) (fun t k => XS.icmpNo X433.here hx rfl (hb hby at_284) rfl (by decide) k) ?_
          refine own_pre (T' := T433) (g' := (mkF m 288 L434 [(.int (1 : Int32))])) (fun t k => XS.iconst X433.here hx rfl (hb hby at_287) k) ?_
          refine own_pre (T' := T433) (g' := (mkF m 292 L434 [(.int (1 : Int32))])) (fun t k => XS.goto X433.here hx rfl (pc0 := 288) (pc' := 292) rfl (hb hby at_288) (by decide) (by decide) k) ?_
          exact own_retZ X433 hx hlk hret rfl (hb hby at_292) e433' ⟨rfl, N433'⟩ (by decide) (by decide)
set_option maxRecDepth 65536 in
set_option maxHeartbeats 40000000 in
theorem own_comes {Post : Tables → Env → Array Value → State → Outcome → State → Prop} (hpost : ∀ tb e args s v u, (limb_1_1.after args s (.returned v) u = true ∧ limb_1_2.after args s (.returned v) u = true ∧ True) → FrameEnd s (.returned v) u (Jvm.fieldLocs frame_1_writes args s ++ Jvm.arrayLocs frame_1_arrays args s ++ Jvm.staticLocs frame_1_statics s) 40 448 → Post tb e args s (.returned v) u) :
    ArmFor flags0 classFile x code maxLocals ret World_1 tables_1 room_1 Calls_1 rest_1 Pre_1 Post := by
  intro l hfl _ _ p e ha hc hk s m args below hf hA hF happ hP
  obtain ⟨hcalls, hrest, hpre⟩ := hP
  obtain ⟨-, -, -, hnamed, -, -, -, hat⟩ := (Spec.applies_iff hf).mp happ
  obtain ⟨hg, hn⟩ := and_e (Cond.before_iff.mp (show (Jvm.Cond.and given_1 narrow_1).before args s = true from hpre))
  obtain ⟨hcount, g0⟩ := and_e hg
  obtain ⟨k0, g1⟩ := and_e g0
  obtain ⟨k1, g2⟩ := and_e g1
  obtain ⟨k2, g3⟩ := and_e g2
  obtain ⟨k3, g4⟩ := and_e g3
  obtain ⟨k4, g5⟩ := and_e g4
  have k5 := g5
  obtain ⟨w0, w1, w2, w3, w4, w5, rfl⟩ : ∃ w0 w1 w2 w3 w4 w5, args = #[w0, w1, w2, w3, w4, w5] := by
    have hs : args.size = 6 := by simpa [Cond.value, given_1] using hcount
    obtain ⟨L⟩ := args
    match L, hs with
    | [w0, w1, w2, w3, w4, w5], _ => exact ⟨w0, w1, w2, w3, w4, w5, rfl⟩
  have hw := fun d (hd : d ∈ tables_1) => atoms_spec (ws := Jvm.Cond.code x code maxLocals ret :: tables_1) hat d (List.mem_cons_of_mem _ hd)
  obtain ⟨i0, e0⟩ := is_v k0
  obtain rfl : w0 = (.int i0) := Option.some.inj e0
  obtain ⟨i1, e1⟩ := is_v k1
  obtain rfl : w1 = (.int i1) := Option.some.inj e1
  obtain ⟨i2, e2⟩ := is_v k2
  obtain rfl : w2 = (.int i2) := Option.some.inj e2
  obtain ⟨i3, e3⟩ := is_v k3
  obtain rfl : w3 = (.int i3) := Option.some.inj e3
  obtain ⟨i4, e4⟩ := is_v k4
  obtain rfl : w4 = (.int i4) := Option.some.inj e4
  obtain ⟨i5, e5⟩ := isL_v k5
  obtain rfl : w5 = (.long i5) := Option.some.inj e5
  obtain ⟨n, o, h1, h2, h3, _, L, rfl, ⟨rfl, N⟩, hq⟩ := own_law l s _ hw tables_1 i0 i1 i2 i3 i4 i5 s.heap s.heap.size (Nat.le_refl _)  p e ha hc hk s m _ below hf ((Spec.applies_iff_loose hf).mp happ).1 ⟨rfl, State.Warmed39.refl s, rfl⟩ trivial
  refine ⟨n, _, h1, h2, h3, hpost _ _ _ _ _ _ ⟨Cond.after_iff.mpr rfl, Cond.after_iff.mpr (eq_i res_at (Term.int_eval (1)) rfl), trivial⟩ ⟨hq.1, hq.2.1, (hq.2.2.sift fun y hy => Or.inr (N y hy)).mono (by decide) (by decide)⟩⟩
theorem main_1_1 : Claimed_1_1 := own_comes fun _ _ _ _ _ _ h hF => ⟨h.1, hF⟩
theorem main_1_2 : Claimed_1_2 := own_comes fun _ _ _ _ _ _ h hF => ⟨h.2.1, hF⟩
end Jvm.Pilot.@@N@@
namespace Jvm.Pilot.@@N@@
open Jvm Jvm.ClassFile Sem Op Lib Jvm.Free Jvm.Stand Jvm.Pilot.@@N@@.Jvm.D
/-! MADE BY PROGRAM (witnessworld.py) out of the Statement's table words and the real class files: 18 classes; the members and pool entries that the words name. The judged class is class 1, her method 1. -/
namespace start1
open Jvm.ClassFile
def u (s : String) : CpInfo := .utf8 (stringToUtf16 s)
/-- a pool by its gaps: so many unusable entries, then the entry; so many at the end -/
def gap : Nat → List CpInfo → List CpInfo
  | 0, r => r
  | n + 1, r => .unusable :: gap n r
def poolList (es : List (Nat × CpInfo)) (last : Nat) : List CpInfo := es.foldr (fun e r => gap e.1 (e.2 :: r)) (gap last [])
def pool (es : List (Nat × CpInfo)) (last : Nat) : Array CpInfo := ⟨poolList es last⟩
def fileOf (pool : Array CpInfo) (this : Nat) (attrs : Array Attribute := #[]) (ms : Array MethodInfo := #[]) (fl : Nat := 33) (sup : Nat := 0) (ifs : Array Nat := #[]) (fds : Array FieldInfo := #[]) : ClassFile where
  minorVersion := 0
  majorVersion := 65
  constantPool := pool
  accessFlags := fl
  thisClass := this
  superClass := sup
  interfaces := ifs
  fields := fds
  methods := ms
  attributes := attrs
def plain (name : String) (sup : Option ClassId) : Class where
  name := name
  kind := .ordinary
  loader := none
  accessFlags := 33
  super := sup
  interfaces := #[]
  cf := none
  fields := #[]
  methods := #[]
  instanceTypes := #[]
  staticTypes := #[]
  resolved := #[]
  callSites := []
  init := .initialized
  statics := none
  mirror := none

def pool0 : Array CpInfo := pool [(5, u "<init>"), (0, u "()V"), (1, .class_ 10), (1, u "java/lang/Object")] 113

def k0c0 : Code := { maxStack := 0, maxLocals := 1, code := object_method_1_code, exceptionTable := #[], attributes := #[] }
def k0m0 : Method := { name := "<init>", desc := "()V", sig := { parameters := [], returnType := none }, accessFlags := 1, code := some k0c0 }
/-- java/lang/Object -/
def k0 : Class := { plain "java/lang/Object" none with
  accessFlags := 33
  interfaces := #[]
  cf := some (fileOf pool0 8 #[] #[{ accessFlags := 1, nameIndex := 5, descriptorIndex := 6, attributes := #[] }] 33 0 #[] #[])
  fields := #[]
  methods := #[k0m0]
  instanceTypes := #[]
  staticTypes := #[]
  resolved := Array.replicate 124 none
  statics := none }

def pool1 : Array CpInfo := pool [(2, .class_ 4), (0, .nameAndType 5 6), (0, u "java/lang/Object"), (0, u "<init>"), (0, u "()V"), (0, .integer 1048575), (0, .integer 4194303), (0, .integer 1048576), (0, .class_ 11), (0, u "com/example/rankline/rankline/Buckets"), (0, .methodref 10 3), (0, .double 4602678819172646912), (1, .methodref 10 16), (0, .nameAndType 17 18), (0, u "append"), (0, u "(DD)V"), (0, .double 4611686018427387904), (1, .methodref 10 22), (0, .nameAndType 23 24), (0, u "last"), (0, u "()I"), (0, .methodref 10 26), (0, .nameAndType 27 24), (0, u "first"), (0, .methodref 10 29), (0, .nameAndType 30 31), (0, u "next"), (0, u "(I)I"), (0, .long 524287), (1, .long 100000000), (1, .long 2), (1, .long 33554431), (1, .methodref 10 41), (0, .nameAndType 42 43), (0, u "halvesMeetCountFloor"), (0, u "(IDJ)Z"), (0, .class_ 45), (0, u "com/example/rankline/rankline/BucketsHalvesMeetCountFloorPinLaw"), (2, u "law"), (0, u "(IIIIIJ)Z")] 3

def k1m0 : Method := { name := "<init>", desc := "()V", sig := { parameters := [], returnType := none }, accessFlags := 1, code := none }
def k1c1 : Code := { maxStack := 7, maxLocals := 24, code := code, exceptionTable := #[], attributes := #[] }
def k1m1 : Method := { name := "law", desc := "(IIIIIJ)Z", sig := { parameters := [.int, .int, .int, .int, .int, .long], returnType := some .boolean }, accessFlags := 9, code := some k1c1 }
/-- com/example/rankline/rankline/BucketsHalvesMeetCountFloorPinLaw -/
def k1 : Class := { plain "com/example/rankline/rankline/BucketsHalvesMeetCountFloorPinLaw" (some 0) with
  accessFlags := 49
  interfaces := #[]
  cf := some (fileOf pool1 44 #[] #[{ accessFlags := 1, nameIndex := 5, descriptorIndex := 6, attributes := #[] }, { accessFlags := 9, nameIndex := 48, descriptorIndex := 49, attributes := #[] }] 49 2 #[] #[])
  fields := #[]
  methods := #[k1m0, k1m1]
  instanceTypes := #[]
  staticTypes := #[]
  resolved := Array.replicate 53 none
  statics := none }

def pool2 : Array CpInfo := pool [(1, .methodref 2 3), (0, .class_ 4), (0, .nameAndType 5 6), (0, u "java/lang/Object"), (0, u "<init>"), (0, u "()V"), (0, .class_ 8), (0, u "com/example/rankline/rankline/Buckets"), (0, .fieldref 7 10), (0, .nameAndType 11 12), (0, u "thresholds"), (0, u "[D"), (0, .fieldref 7 14), (0, .nameAndType 15 12), (0, u "ranks"), (0, .fieldref 7 17), (0, .nameAndType 18 19), (0, u "guarded"), (0, u "[Z"), (0, .class_ 21), (0, u "com/example/rankline/rankline/Extent"), (0, .fieldref 7 23), (0, .nameAndType 24 25), (0, u "extents"), (0, u "[Lcom/example/rankline/rankline/Extent;"), (0, .fieldref 7 27), (0, .nameAndType 28 19), (0, u "addedAtThreshold"), (0, .fieldref 7 30), (0, .nameAndType 31 32), (0, u "copies"), (0, u "[J"), (0, .fieldref 7 34), (0, .nameAndType 35 36), (0, u "nextOf"), (0, u "[I"), (0, .fieldref 7 38), (0, .nameAndType 39 36), (0, u "previousOf"), (0, .fieldref 7 41), (0, .nameAndType 42 43), (0, u "first"), (0, u "I"), (0, .fieldref 7 45), (0, .nameAndType 46 43), (0, u "last"), (0, .fieldref 7 48), (0, .nameAndType 49 43), (0, u "free"), (2, .double 9218868437227405312), (1, .fieldref 7 55), (0, .nameAndType 56 57), (0, u "smallestMagnitude"), (0, u "D"), (0, .fieldref 7 59), (0, .nameAndType 60 43), (0, u "size"), (0, .fieldref 7 62), (0, .nameAndType 63 43), (0, u "used"), (0, .methodref 20 65), (0, .nameAndType 66 67), (0, u "of"), (0, u "(DDD)Lcom/example/rankline/rankline/Extent;"), (0, .methodref 7 69), (0, .nameAndType 70 71), (0, u "append"), (0, u "(DDLcom/example/rankline/rankline/Extent;J)V"), (0, .methodref 7 73), (0, .nameAndType 74 75), (0, u "insertBefore"), (0, u "(IDDLcom/example/rankline/rankline/Extent;J)I"), (4, u "()I"), (6, u "NONE"), (29, u "(DD)V"), (132, .double 4487126258331716666), (3, u "halvesMeetCountFloor"), (0, u "(IDJ)Z"), (39, .methodref 7 296), (0, .nameAndType 297 80), (0, u "allocate"), (17, u "RELATIVE_LENGTH_FLOOR"), (1, u "RELATIVE_COUNT_FLOOR"), (0, u "POINT_BOUND_FRACTION"), (0, u "JOIN_FRACTION"), (0, u "MISPLACED_FRACTION"), (0, u "INITIAL_CAPACITY"), (5, u "next"), (0, u "(I)I")] 38

def k2c0 : Code := { maxStack := 3, maxLocals := 1, code := prog_5_method_1_code, exceptionTable := #[], attributes := #[] }
def k2m0 : Method := { name := "<init>", desc := "()V", sig := { parameters := [], returnType := none }, accessFlags := 0, code := some k2c0 }
def k2c1 : Code := { maxStack := 1, maxLocals := 1, code := prog_5_method_4_code, exceptionTable := #[], attributes := #[] }
def k2m1 : Method := { name := "first", desc := "()I", sig := { parameters := [], returnType := some .int }, accessFlags := 0, code := some k2c1 }
def k2c2 : Code := { maxStack := 1, maxLocals := 1, code := prog_5_method_5_code, exceptionTable := #[], attributes := #[] }
def k2m2 : Method := { name := "last", desc := "()I", sig := { parameters := [], returnType := some .int }, accessFlags := 0, code := some k2c2 }
def k2c3 : Code := { maxStack := 2, maxLocals := 2, code := prog_5_method_6_code, exceptionTable := #[], attributes := #[] }
def k2m3 : Method := { name := "next", desc := "(I)I", sig := { parameters := [.int], returnType := some .int }, accessFlags := 0, code := some k2c3 }
def k2c4 : Code := { maxStack := 13, maxLocals := 7, code := prog_5_method_12_code, exceptionTable := #[], attributes := #[] }
def k2m4 : Method := { name := "append", desc := "(DD)V", sig := { parameters := [.double, .double], returnType := none }, accessFlags := 0, code := some k2c4 }
def k2c5 : Code := { maxStack := 12, maxLocals := 8, code := prog_5_method_13_code, exceptionTable := #[], attributes := #[] }
def k2m5 : Method := { name := "append", desc := "(DDLcom/example/rankline/rankline/Extent;J)V", sig := { parameters := [.double, .double, (.object "com/example/rankline/rankline/Extent"), .long], returnType := none }, accessFlags := 0, code := some k2c5 }
def k2c6 : Code := { maxStack := 5, maxLocals := 8, code := prog_5_method_43_code, exceptionTable := #[], attributes := #[] }
def k2m6 : Method := { name := "halvesMeetCountFloor", desc := "(IDJ)Z", sig := { parameters := [.int, .double, .long], returnType := some .boolean }, accessFlags := 0, code := some k2c6 }
def k2c7 : Code := { maxStack := 4, maxLocals := 11, code := prog_5_method_55_code, exceptionTable := #[], attributes := #[] }
def k2m7 : Method := { name := "insertBefore", desc := "(IDDLcom/example/rankline/rankline/Extent;J)I", sig := { parameters := [.int, .double, .double, (.object "com/example/rankline/rankline/Extent"), .long], returnType := some .int }, accessFlags := 2, code := some k2c7 }
def k2c8 : Code := { maxStack := 4, maxLocals := 2, code := prog_5_method_56_code, exceptionTable := #[], attributes := #[] }
def k2m8 : Method := { name := "allocate", desc := "()I", sig := { parameters := [], returnType := some .int }, accessFlags := 2, code := some k2c8 }
/-- com/example/rankline/rankline/Buckets -/
def k2 : Class := { plain "com/example/rankline/rankline/Buckets" (some 0) with
  accessFlags := 48
  interfaces := #[]
  cf := some (fileOf pool2 7 #[] #[{ accessFlags := 0, nameIndex := 5, descriptorIndex := 6, attributes := #[] }, { accessFlags := 0, nameIndex := 42, descriptorIndex := 80, attributes := #[] }, { accessFlags := 0, nameIndex := 46, descriptorIndex := 80, attributes := #[] }, { accessFlags := 0, nameIndex := 327, descriptorIndex := 328, attributes := #[] }, { accessFlags := 0, nameIndex := 70, descriptorIndex := 117, attributes := #[] }, { accessFlags := 0, nameIndex := 70, descriptorIndex := 71, attributes := #[] }, { accessFlags := 0, nameIndex := 254, descriptorIndex := 255, attributes := #[] }, { accessFlags := 2, nameIndex := 74, descriptorIndex := 75, attributes := #[] }, { accessFlags := 2, nameIndex := 297, descriptorIndex := 80, attributes := #[] }] 48 2 #[] #[{ accessFlags := 26, nameIndex := 315, descriptorIndex := 57, attributes := #[] }, { accessFlags := 26, nameIndex := 317, descriptorIndex := 57, attributes := #[] }, { accessFlags := 26, nameIndex := 318, descriptorIndex := 57, attributes := #[] }, { accessFlags := 26, nameIndex := 319, descriptorIndex := 57, attributes := #[] }, { accessFlags := 26, nameIndex := 320, descriptorIndex := 57, attributes := #[] }, { accessFlags := 26, nameIndex := 321, descriptorIndex := 43, attributes := #[] }, { accessFlags := 24, nameIndex := 87, descriptorIndex := 43, attributes := #[] }, { accessFlags := 2, nameIndex := 11, descriptorIndex := 12, attributes := #[] }, { accessFlags := 2, nameIndex := 15, descriptorIndex := 12, attributes := #[] }, { accessFlags := 2, nameIndex := 18, descriptorIndex := 19, attributes := #[] }, { accessFlags := 2, nameIndex := 24, descriptorIndex := 25, attributes := #[] }, { accessFlags := 2, nameIndex := 28, descriptorIndex := 19, attributes := #[] }, { accessFlags := 2, nameIndex := 31, descriptorIndex := 32, attributes := #[] }, { accessFlags := 2, nameIndex := 35, descriptorIndex := 36, attributes := #[] }, { accessFlags := 2, nameIndex := 39, descriptorIndex := 36, attributes := #[] }, { accessFlags := 2, nameIndex := 42, descriptorIndex := 43, attributes := #[] }, { accessFlags := 2, nameIndex := 46, descriptorIndex := 43, attributes := #[] }, { accessFlags := 2, nameIndex := 60, descriptorIndex := 43, attributes := #[] }, { accessFlags := 2, nameIndex := 63, descriptorIndex := 43, attributes := #[] }, { accessFlags := 2, nameIndex := 49, descriptorIndex := 43, attributes := #[] }, { accessFlags := 2, nameIndex := 56, descriptorIndex := 57, attributes := #[] }])
  fields := #[{ name := "RELATIVE_LENGTH_FLOOR", type := .double, accessFlags := 26, slot := 0, constantValue := 0 }, { name := "RELATIVE_COUNT_FLOOR", type := .double, accessFlags := 26, slot := 1, constantValue := 0 }, { name := "POINT_BOUND_FRACTION", type := .double, accessFlags := 26, slot := 2, constantValue := 0 }, { name := "JOIN_FRACTION", type := .double, accessFlags := 26, slot := 3, constantValue := 0 }, { name := "MISPLACED_FRACTION", type := .double, accessFlags := 26, slot := 4, constantValue := 0 }, { name := "INITIAL_CAPACITY", type := .int, accessFlags := 26, slot := 5, constantValue := 0 }, { name := "NONE", type := .int, accessFlags := 24, slot := 6, constantValue := 0 }, { name := "thresholds", type := (.array .double), accessFlags := 2, slot := 0, constantValue := 0 }, { name := "ranks", type := (.array .double), accessFlags := 2, slot := 1, constantValue := 0 }, { name := "guarded", type := (.array .boolean), accessFlags := 2, slot := 2, constantValue := 0 }, { name := "extents", type := (.array (.object "com/example/rankline/rankline/Extent")), accessFlags := 2, slot := 3, constantValue := 0 }, { name := "addedAtThreshold", type := (.array .boolean), accessFlags := 2, slot := 4, constantValue := 0 }, { name := "copies", type := (.array .long), accessFlags := 2, slot := 5, constantValue := 0 }, { name := "nextOf", type := (.array .int), accessFlags := 2, slot := 6, constantValue := 0 }, { name := "previousOf", type := (.array .int), accessFlags := 2, slot := 7, constantValue := 0 }, { name := "first", type := .int, accessFlags := 2, slot := 8, constantValue := 0 }, { name := "last", type := .int, accessFlags := 2, slot := 9, constantValue := 0 }, { name := "size", type := .int, accessFlags := 2, slot := 10, constantValue := 0 }, { name := "used", type := .int, accessFlags := 2, slot := 11, constantValue := 0 }, { name := "free", type := .int, accessFlags := 2, slot := 12, constantValue := 0 }, { name := "smallestMagnitude", type := .double, accessFlags := 2, slot := 13, constantValue := 0 }]
  methods := #[k2m0, k2m1, k2m2, k2m3, k2m4, k2m5, k2m6, k2m7, k2m8]
  instanceTypes := #[(.array .double), (.array .double), (.array .boolean), (.array (.object "com/example/rankline/rankline/Extent")), (.array .boolean), (.array .long), (.array .int), (.array .int), .int, .int, .int, .int, .int, .double]
  staticTypes := #[.double, .double, .double, .double, .double, .int, .int]
  resolved := Array.replicate 367 none
  statics := none }

def pool3 : Array CpInfo := pool [(1, .methodref 2 3), (0, .class_ 4), (0, .nameAndType 5 6), (0, u "java/lang/Object"), (0, u "<init>"), (0, u "()V"), (0, .class_ 8), (0, u "java/lang/Record")] 13

def k3c0 : Code := { maxStack := 1, maxLocals := 1, code := jdk_30_method_1_code, exceptionTable := #[], attributes := #[] }
def k3m0 : Method := { name := "<init>", desc := "()V", sig := { parameters := [], returnType := none }, accessFlags := 4, code := some k3c0 }
/-- java/lang/Record -/
def k3 : Class := { plain "java/lang/Record" (some 0) with
  accessFlags := 1057
  interfaces := #[]
  cf := some (fileOf pool3 7 #[] #[{ accessFlags := 4, nameIndex := 5, descriptorIndex := 6, attributes := #[] }] 1057 2 #[] #[])
  fields := #[]
  methods := #[k3m0]
  instanceTypes := #[]
  staticTypes := #[]
  resolved := Array.replicate 22 none
  statics := none }

def pool4 : Array CpInfo := pool [(1, .methodref 2 3), (0, .class_ 4), (0, .nameAndType 5 6), (0, u "java/lang/Record"), (0, u "<init>"), (0, u "()V"), (0, .fieldref 8 9), (0, .class_ 10), (0, .nameAndType 11 12), (0, u "com/example/rankline/rankline/Extent"), (0, u "low"), (0, u "D"), (0, .fieldref 8 14), (0, .nameAndType 15 12), (0, u "gapLow"), (0, .fieldref 8 17), (0, .nameAndType 18 12), (0, u "gapHigh"), (0, .fieldref 8 20), (0, .nameAndType 21 12), (0, u "high"), (0, .fieldref 8 23), (0, .nameAndType 24 12), (0, u "below"), (0, .fieldref 8 26), (0, .nameAndType 27 12), (0, u "count"), (0, .methodref 8 29), (0, .nameAndType 5 30), (0, u "(DDDDDD)V"), (6, u "NONE"), (0, u "Lcom/example/rankline/rankline/Extent;"), (6, u "of"), (0, u "(DDD)Lcom/example/rankline/rankline/Extent;"), (17, .class_ 65), (0, u "com/example/rankline/rankline/Extent$Cover"), (58, u "BLOCK"), (0, u "I")] 52

def k4c0 : Code := { maxStack := 3, maxLocals := 13, code := prog_17_method_1_code, exceptionTable := #[], attributes := #[] }
def k4m0 : Method := { name := "<init>", desc := "(DDDDDD)V", sig := { parameters := [.double, .double, .double, .double, .double, .double], returnType := none }, accessFlags := 0, code := some k4c0 }
def k4c1 : Code := { maxStack := 14, maxLocals := 6, code := prog_17_method_2_code, exceptionTable := #[], attributes := #[] }
def k4m1 : Method := { name := "of", desc := "(DDD)Lcom/example/rankline/rankline/Extent;", sig := { parameters := [.double, .double, .double], returnType := some (.object "com/example/rankline/rankline/Extent") }, accessFlags := 8, code := some k4c1 }
/-- com/example/rankline/rankline/Extent -/
def k4 : Class := { plain "com/example/rankline/rankline/Extent" (some 3) with
  accessFlags := 48
  interfaces := #[]
  cf := some (fileOf pool4 8 #[.nestMembers #[64]] #[{ accessFlags := 0, nameIndex := 5, descriptorIndex := 30, attributes := #[] }, { accessFlags := 8, nameIndex := 45, descriptorIndex := 46, attributes := #[] }] 48 2 #[] #[{ accessFlags := 18, nameIndex := 11, descriptorIndex := 12, attributes := #[] }, { accessFlags := 18, nameIndex := 15, descriptorIndex := 12, attributes := #[] }, { accessFlags := 18, nameIndex := 18, descriptorIndex := 12, attributes := #[] }, { accessFlags := 18, nameIndex := 21, descriptorIndex := 12, attributes := #[] }, { accessFlags := 18, nameIndex := 24, descriptorIndex := 12, attributes := #[] }, { accessFlags := 18, nameIndex := 27, descriptorIndex := 12, attributes := #[] }, { accessFlags := 24, nameIndex := 37, descriptorIndex := 38, attributes := #[] }, { accessFlags := 26, nameIndex := 124, descriptorIndex := 125, attributes := #[] }])
  fields := #[{ name := "low", type := .double, accessFlags := 18, slot := 0, constantValue := 0 }, { name := "gapLow", type := .double, accessFlags := 18, slot := 1, constantValue := 0 }, { name := "gapHigh", type := .double, accessFlags := 18, slot := 2, constantValue := 0 }, { name := "high", type := .double, accessFlags := 18, slot := 3, constantValue := 0 }, { name := "below", type := .double, accessFlags := 18, slot := 4, constantValue := 0 }, { name := "count", type := .double, accessFlags := 18, slot := 5, constantValue := 0 }, { name := "NONE", type := (.object "com/example/rankline/rankline/Extent"), accessFlags := 24, slot := 0, constantValue := 0 }, { name := "BLOCK", type := .int, accessFlags := 26, slot := 1, constantValue := 0 }]
  methods := #[k4m0, k4m1]
  instanceTypes := #[.double, .double, .double, .double, .double, .double]
  staticTypes := #[(.object "com/example/rankline/rankline/Extent"), .int]
  resolved := Array.replicate 178 none
  statics := none }

def pool5 : Array CpInfo := pool [(1, u "java/lang/Cloneable"), (0, .class_ 1), (0, u "java/lang/Object"), (0, .class_ 3)] 3

/-- java/lang/Cloneable -/
def k5 : Class := { plain "java/lang/Cloneable" (some 0) with
  accessFlags := 1537
  interfaces := #[]
  cf := some (fileOf pool5 2 #[] #[] 1537 4 #[] #[])
  fields := #[]
  methods := #[]
  instanceTypes := #[]
  staticTypes := #[]
  resolved := Array.replicate 8 none
  statics := none }

def pool6 : Array CpInfo := pool [(1, u "java/io/Serializable"), (0, .class_ 1), (0, u "java/lang/Object"), (0, .class_ 3)] 3

/-- java/io/Serializable -/
def k6 : Class := { plain "java/io/Serializable" (some 0) with
  accessFlags := 1537
  interfaces := #[]
  cf := some (fileOf pool6 2 #[] #[] 1537 4 #[] #[])
  fields := #[]
  methods := #[]
  instanceTypes := #[]
  staticTypes := #[]
  resolved := Array.replicate 8 none
  statics := none }

/-- the primitive boolean -/
def k7 : Class := { plain "boolean" none with kind := .primitive 'Z', accessFlags := 0x411 }
/-- [Z -/
def k8 : Class := { plain "[Z" (some 0) with kind := .array 7 .boolean, interfaces := #[5, 6], accessFlags := 1041 }

/-- the primitive byte -/
def k9 : Class := { plain "byte" none with kind := .primitive 'B', accessFlags := 0x411 }
/-- [B -/
def k10 : Class := { plain "[B" (some 0) with kind := .array 9 .byte, interfaces := #[5, 6], accessFlags := 1041 }

/-- the primitive double -/
def k11 : Class := { plain "double" none with kind := .primitive 'D', accessFlags := 0x411 }
/-- [D -/
def k12 : Class := { plain "[D" (some 0) with kind := .array 11 .double, interfaces := #[5, 6], accessFlags := 1041 }

/-- the primitive int -/
def k13 : Class := { plain "int" none with kind := .primitive 'I', accessFlags := 0x411 }
/-- [I -/
def k14 : Class := { plain "[I" (some 0) with kind := .array 13 .int, interfaces := #[5, 6], accessFlags := 1041 }

/-- the primitive long -/
def k15 : Class := { plain "long" none with kind := .primitive 'J', accessFlags := 0x411 }
/-- [J -/
def k16 : Class := { plain "[J" (some 0) with kind := .array 15 .long, interfaces := #[5, 6], accessFlags := 1041 }

/-- [Lcom/example/rankline/rankline/Extent; -/
def k17 : Class := { plain "[Lcom/example/rankline/rankline/Extent;" (some 0) with kind := .array 4 (.object "com/example/rankline/rankline/Extent"), interfaces := #[5, 6], accessFlags := 1041 }

def heap : Heap := #[]
def classes : Array Class := #[k0, k1, k2, k3, k4, k5, k6, k7, k8, k9, k10, k11, k12, k13, k14, k15, k16, k17]
def interned : List (Array UInt16 × Addr) := []
def slotsUsed : Nat := 0
def theMethod : MethodId := ⟨1, 1⟩
def args0 : Array Value := #[.int 5, .int 7, .int 9, .int 9, .int 9, .long 9]
def aboutOver (below : List Frame) : State where
  vm := { classes := classes, interned := interned.toArray }
  heap := heap
  slotsUsed := slotsUsed
  threads := #[{ frames := .invoking theMethod args0 :: below }]
def below0 : List Frame := [.native { method := ⟨0, 0⟩, args := #[] }]
def about1 : State := aboutOver below0
def p0 : Program := .bare "" "" ""
def e0 : Env := launch0.env 0 0 0
theorem w_frames : about1.frames = Frame.invoking theMethod args0 :: below0 := rfl
set_option maxRecDepth 65536 in
theorem w_args : argsFit about1.vm theMethod args0 = true := by decide +kernel
set_option maxRecDepth 65536 in
theorem w_heap : heapFits about1 = true := by decide +kernel
set_option maxRecDepth 65536 in
theorem w_runnable : about1.curStatus? = some .runnable := by decide +kernel
set_option maxRecDepth 65536 in
theorem w_alone : about1.alone = true := by decide +kernel
set_option maxRecDepth 65536 in
theorem w_named : about1.methodNamed? x = some theMethod := by decide +kernel
set_option maxRecDepth 65536 in
theorem w_hears : about1.hears theMethod below0 = true := by decide +kernel
set_option maxRecDepth 65536 in
theorem w_ripe : about1.ripe theMethod args0 below0 = true := by decide +kernel
theorem w_running : about1.status = .running := rfl
set_option maxRecDepth 65536 in
theorem w_room : about1.hasRoom e0.platform room_1 = true :=
  launch0.hasRoom_least _ room_1 (by decide +kernel) (by decide +kernel) (by decide +kernel) (by decide +kernel) (by decide +kernel) (by decide +kernel)
theorem allAtoms_all (ts : List Jvm.Cond) (a : Array Jvm.Value) (st : Jvm.State) : (allAtoms ts).before a st = ts.all (fun c => c.before a st) := by
  induction ts with
  | nil => rfl
  | cons c t ih =>
    show (Jvm.Cond.and c (allAtoms t)).before a st = _
    rw [Jvm.Cond.before_and, ih, List.all_cons]
def words1 : List Jvm.Cond := Jvm.Cond.code x code maxLocals ret :: tables_1
/-- a 'code' word, met by the world's own term for the bytes: nothing is compared byte by byte -/
theorem code_word {y : MethodName} {bytes : ByteArray} {mx : Nat} {rt : Option FieldType} {a : Array Value} {s : State} {m : MethodId} {meth : Method} {c : Code} (h1 : s.methodNamed? y = some m) (h2 : s.vm.method? m = some meth) (h3 : meth.code = some c) (h4 : c.code = bytes)
    (h5 : (c.maxLocals == mx && c.exceptionTable.isEmpty && decide (c.maxStack ≤ mostOperands) && decide (meth.sig.returnType = rt) && !meth.locks && decide (parseMethodDescriptor y.desc = some meth.sig)) = true) : (Jvm.Cond.code y bytes mx rt).before a s = true := by
  simp only [Bool.and_eq_true, beq_iff_eq, Bool.not_eq_true', decide_eq_true_eq] at h5
  obtain ⟨⟨⟨⟨⟨g1, g2⟩, g3⟩, g4⟩, g5⟩, g6⟩ := h5
  simp [Cond.before, Cond.holds, Cond.value, h1, h2, h3, h4, g1, g2, g3, g4, g5, g6]
def isCode : Jvm.Cond → Bool
  | .code _ _ _ _ => true
  | _ => false
theorem all_split {L : List Jvm.Cond} {P : Jvm.Cond → Bool} (h1 : L.all (fun c => isCode c || P c) = true) (h2 : ∀ c ∈ L.filter isCode, P c = true) : L.all P = true := by
  refine List.all_eq_true.mpr fun c hc => ?_
  have h := List.all_eq_true.mp h1 c hc
  rcases Bool.eq_false_or_eq_true (isCode c) with hi | hi
  · exact h2 c (List.mem_filter.mpr ⟨hc, hi⟩)
  · simpa [hi] using h
set_option maxRecDepth 65536 in
theorem w_c0 : (Jvm.Cond.code x code maxLocals ret).before args0 about1 = true := code_word (m := ⟨1, 1⟩) (meth := k1m1) (c := k1c1) (by decide +kernel) rfl rfl rfl (by decide +kernel)
set_option maxRecDepth 65536 in
theorem w_c1 : (Jvm.Cond.code ({ cls := "com/example/rankline/rankline/Buckets", name := "<init>", desc := "()V" } : Jvm.MethodName) prog_5_method_1_code (1 : Nat) (Option.none : Option Jvm.ClassFile.FieldType)).before args0 about1 = true := code_word (m := ⟨2, 0⟩) (meth := k2m0) (c := k2c0) (by decide +kernel) rfl rfl rfl (by decide +kernel)
set_option maxRecDepth 65536 in
theorem w_c2 : (Jvm.Cond.code ({ cls := "java/lang/Object", name := "<init>", desc := "()V" } : Jvm.MethodName) object_method_1_code (1 : Nat) (Option.none : Option Jvm.ClassFile.FieldType)).before args0 about1 = true := code_word (m := ⟨0, 0⟩) (meth := k0m0) (c := k0c0) (by decide +kernel) rfl rfl rfl (by decide +kernel)
set_option maxRecDepth 65536 in
theorem w_c3 : (Jvm.Cond.code ({ cls := "com/example/rankline/rankline/Buckets", name := "append", desc := "(DD)V" } : Jvm.MethodName) prog_5_method_12_code (7 : Nat) (Option.none : Option Jvm.ClassFile.FieldType)).before args0 about1 = true := code_word (m := ⟨2, 4⟩) (meth := k2m4) (c := k2c4) (by decide +kernel) rfl rfl rfl (by decide +kernel)
set_option maxRecDepth 65536 in
theorem w_c4 : (Jvm.Cond.code ({ cls := "com/example/rankline/rankline/Extent", name := "of", desc := "(DDD)Lcom/example/rankline/rankline/Extent;" } : Jvm.MethodName) prog_17_method_2_code (6 : Nat) (Option.some (Jvm.ClassFile.FieldType.object "com/example/rankline/rankline/Extent"))).before args0 about1 = true := code_word (m := ⟨4, 1⟩) (meth := k4m1) (c := k4c1) (by decide +kernel) rfl rfl rfl (by decide +kernel)
set_option maxRecDepth 65536 in
theorem w_c5 : (Jvm.Cond.code ({ cls := "com/example/rankline/rankline/Extent", name := "<init>", desc := "(DDDDDD)V" } : Jvm.MethodName) prog_17_method_1_code (13 : Nat) (Option.none : Option Jvm.ClassFile.FieldType)).before args0 about1 = true := code_word (m := ⟨4, 0⟩) (meth := k4m0) (c := k4c0) (by decide +kernel) rfl rfl rfl (by decide +kernel)
set_option maxRecDepth 65536 in
theorem w_c6 : (Jvm.Cond.code ({ cls := "java/lang/Record", name := "<init>", desc := "()V" } : Jvm.MethodName) jdk_30_method_1_code (1 : Nat) (Option.none : Option Jvm.ClassFile.FieldType)).before args0 about1 = true := code_word (m := ⟨3, 0⟩) (meth := k3m0) (c := k3c0) (by decide +kernel) rfl rfl rfl (by decide +kernel)
set_option maxRecDepth 65536 in
theorem w_c7 : (Jvm.Cond.code ({ cls := "com/example/rankline/rankline/Buckets", name := "append", desc := "(DDLcom/example/rankline/rankline/Extent;J)V" } : Jvm.MethodName) prog_5_method_13_code (8 : Nat) (Option.none : Option Jvm.ClassFile.FieldType)).before args0 about1 = true := code_word (m := ⟨2, 5⟩) (meth := k2m5) (c := k2c5) (by decide +kernel) rfl rfl rfl (by decide +kernel)
set_option maxRecDepth 65536 in
theorem w_c8 : (Jvm.Cond.code ({ cls := "com/example/rankline/rankline/Buckets", name := "insertBefore", desc := "(IDDLcom/example/rankline/rankline/Extent;J)I" } : Jvm.MethodName) prog_5_method_55_code (11 : Nat) (Option.some Jvm.ClassFile.FieldType.int)).before args0 about1 = true := code_word (m := ⟨2, 7⟩) (meth := k2m7) (c := k2c7) (by decide +kernel) rfl rfl rfl (by decide +kernel)
set_option maxRecDepth 65536 in
theorem w_c9 : (Jvm.Cond.code ({ cls := "com/example/rankline/rankline/Buckets", name := "allocate", desc := "()I" } : Jvm.MethodName) prog_5_method_56_code (2 : Nat) (Option.some Jvm.ClassFile.FieldType.int)).before args0 about1 = true := code_word (m := ⟨2, 8⟩) (meth := k2m8) (c := k2c8) (by decide +kernel) rfl rfl rfl (by decide +kernel)
set_option maxRecDepth 65536 in
theorem w_c10 : (Jvm.Cond.code ({ cls := "com/example/rankline/rankline/Buckets", name := "first", desc := "()I" } : Jvm.MethodName) prog_5_method_4_code (1 : Nat) (Option.some Jvm.ClassFile.FieldType.int)).before args0 about1 = true := code_word (m := ⟨2, 1⟩) (meth := k2m1) (c := k2c1) (by decide +kernel) rfl rfl rfl (by decide +kernel)
set_option maxRecDepth 65536 in
theorem w_c11 : (Jvm.Cond.code ({ cls := "com/example/rankline/rankline/Buckets", name := "next", desc := "(I)I" } : Jvm.MethodName) prog_5_method_6_code (2 : Nat) (Option.some Jvm.ClassFile.FieldType.int)).before args0 about1 = true := code_word (m := ⟨2, 3⟩) (meth := k2m3) (c := k2c3) (by decide +kernel) rfl rfl rfl (by decide +kernel)
set_option maxRecDepth 65536 in
theorem w_c12 : (Jvm.Cond.code ({ cls := "com/example/rankline/rankline/Buckets", name := "halvesMeetCountFloor", desc := "(IDJ)Z" } : Jvm.MethodName) prog_5_method_43_code (8 : Nat) (Option.some Jvm.ClassFile.FieldType.boolean)).before args0 about1 = true := code_word (m := ⟨2, 6⟩) (meth := k2m6) (c := k2c6) (by decide +kernel) rfl rfl rfl (by decide +kernel)
set_option maxRecDepth 65536 in
theorem w_c13 : (Jvm.Cond.code ({ cls := "com/example/rankline/rankline/Buckets", name := "last", desc := "()I" } : Jvm.MethodName) prog_5_method_5_code (1 : Nat) (Option.some Jvm.ClassFile.FieldType.int)).before args0 about1 = true := code_word (m := ⟨2, 2⟩) (meth := k2m2) (c := k2c2) (by decide +kernel) rfl rfl rfl (by decide +kernel)
def codes1 : List Jvm.Cond := [Jvm.Cond.code x code maxLocals ret, Jvm.Cond.code ({ cls := "com/example/rankline/rankline/Buckets", name := "<init>", desc := "()V" } : Jvm.MethodName) prog_5_method_1_code (1 : Nat) (Option.none : Option Jvm.ClassFile.FieldType), Jvm.Cond.code ({ cls := "java/lang/Object", name := "<init>", desc := "()V" } : Jvm.MethodName) object_method_1_code (1 : Nat) (Option.none : Option Jvm.ClassFile.FieldType), Jvm.Cond.code ({ cls := "com/example/rankline/rankline/Buckets", name := "append", desc := "(DD)V" } : Jvm.MethodName) prog_5_method_12_code (7 : Nat) (Option.none : Option Jvm.ClassFile.FieldType), Jvm.Cond.code ({ cls := "com/example/rankline/rankline/Extent", name := "of", desc := "(DDD)Lcom/example/rankline/rankline/Extent;" } : Jvm.MethodName) prog_17_method_2_code (6 : Nat) (Option.some (Jvm.ClassFile.FieldType.object "com/example/rankline/rankline/Extent")), Jvm.Cond.code ({ cls := "com/example/rankline/rankline/Extent", name := "<init>", desc := "(DDDDDD)V" } : Jvm.MethodName) prog_17_method_1_code (13 : Nat) (Option.none : Option Jvm.ClassFile.FieldType), Jvm.Cond.code ({ cls := "java/lang/Record", name := "<init>", desc := "()V" } : Jvm.MethodName) jdk_30_method_1_code (1 : Nat) (Option.none : Option Jvm.ClassFile.FieldType), Jvm.Cond.code ({ cls := "com/example/rankline/rankline/Buckets", name := "append", desc := "(DDLcom/example/rankline/rankline/Extent;J)V" } : Jvm.MethodName) prog_5_method_13_code (8 : Nat) (Option.none : Option Jvm.ClassFile.FieldType), Jvm.Cond.code ({ cls := "com/example/rankline/rankline/Buckets", name := "insertBefore", desc := "(IDDLcom/example/rankline/rankline/Extent;J)I" } : Jvm.MethodName) prog_5_method_55_code (11 : Nat) (Option.some Jvm.ClassFile.FieldType.int), Jvm.Cond.code ({ cls := "com/example/rankline/rankline/Buckets", name := "allocate", desc := "()I" } : Jvm.MethodName) prog_5_method_56_code (2 : Nat) (Option.some Jvm.ClassFile.FieldType.int), Jvm.Cond.code ({ cls := "com/example/rankline/rankline/Buckets", name := "first", desc := "()I" } : Jvm.MethodName) prog_5_method_4_code (1 : Nat) (Option.some Jvm.ClassFile.FieldType.int), Jvm.Cond.code ({ cls := "com/example/rankline/rankline/Buckets", name := "next", desc := "(I)I" } : Jvm.MethodName) prog_5_method_6_code (2 : Nat) (Option.some Jvm.ClassFile.FieldType.int), Jvm.Cond.code ({ cls := "com/example/rankline/rankline/Buckets", name := "halvesMeetCountFloor", desc := "(IDJ)Z" } : Jvm.MethodName) prog_5_method_43_code (8 : Nat) (Option.some Jvm.ClassFile.FieldType.boolean), Jvm.Cond.code ({ cls := "com/example/rankline/rankline/Buckets", name := "last", desc := "()I" } : Jvm.MethodName) prog_5_method_5_code (1 : Nat) (Option.some Jvm.ClassFile.FieldType.int)]
set_option maxRecDepth 65536 in
theorem codes_eq : words1.filter isCode = codes1 := rfl
theorem w_codes : ∀ c ∈ words1.filter isCode, c.before args0 about1 = true := by
  rw [codes_eq]
  intro c hc
  simp only [codes1, List.mem_cons, List.not_mem_nil, or_false] at hc
  rcases hc with rfl | rfl | rfl | rfl | rfl | rfl | rfl | rfl | rfl | rfl | rfl | rfl | rfl | rfl
  · exact w_c0
  · exact w_c1
  · exact w_c2
  · exact w_c3
  · exact w_c4
  · exact w_c5
  · exact w_c6
  · exact w_c7
  · exact w_c8
  · exact w_c9
  · exact w_c10
  · exact w_c11
  · exact w_c12
  · exact w_c13
set_option maxRecDepth 65536 in
theorem w_t1 : (words1.take 24).all (fun c => isCode c || c.before args0 about1) = true := by decide +kernel
set_option maxRecDepth 65536 in
theorem w_t2 : ((words1.drop 24).take 24).all (fun c => isCode c || c.before args0 about1) = true := by decide +kernel
set_option maxRecDepth 65536 in
theorem w_t3 : (((words1.drop 24).drop 24).take 24).all (fun c => isCode c || c.before args0 about1) = true := by decide +kernel
set_option maxRecDepth 65536 in
theorem w_t4 : ((((words1.drop 24).drop 24).drop 24).take 24).all (fun c => isCode c || c.before args0 about1) = true := by decide +kernel
set_option maxRecDepth 65536 in
theorem w_t5 : (((((words1.drop 24).drop 24).drop 24).drop 24).take 24).all (fun c => isCode c || c.before args0 about1) = true := by decide +kernel
set_option maxRecDepth 65536 in
theorem w_t6 : (((((words1.drop 24).drop 24).drop 24).drop 24).drop 24).all (fun c => isCode c || c.before args0 about1) = true := by decide +kernel
theorem w_tables : (allAtoms (Jvm.Cond.code x code maxLocals ret :: tables_1)).before args0 about1 = true := by
  rw [allAtoms_all]
  show words1.all (fun c => c.before args0 about1) = true
  refine all_split ?_ w_codes
  rw [← List.take_append_drop 24 words1, List.all_append, w_t1, ← List.take_append_drop 24 (words1.drop 24), List.all_append, w_t2, ← List.take_append_drop 24 ((words1.drop 24).drop 24), List.all_append, w_t3, ← List.take_append_drop 24 (((words1.drop 24).drop 24).drop 24), List.all_append, w_t4, ← List.take_append_drop 24 ((((words1.drop 24).drop 24).drop 24).drop 24), List.all_append, w_t5, w_t6]
  rfl
set_option maxRecDepth 65536 in
theorem w_case : (Jvm.Cond.and given_1 narrow_1).before args0 about1 = true := by decide +kernel
theorem w_applies : (headSpec (Jvm.Cond.code x code maxLocals ret :: tables_1) room_1).applies x e0.platform about1 = true :=
  (Spec.applies_iff w_frames).mpr ⟨w_running, w_runnable, w_alone, w_named, w_hears, w_ripe, w_room, w_tables⟩
theorem atStart : AtStart classFile x code maxLocals ret World_1 tables_1 room_1 Calls_1 rest_1 Pre_1 launch0 p0 e0 about1 theMethod args0 below0 :=
  ⟨lists_1, trivial, launch0.admits_env _ _ _, launch0.least_env, fairChoices_fair.cas, fairChoices_fair.clock, w_frames, w_args, w_heap, w_applies, trivial, trivial, w_case⟩
end start1
theorem witness_1 : WitnessClaimed_1 := ⟨start1.p0, start1.e0, start1.about1, start1.theMethod, start1.args0, start1.below0, start1.atStart⟩
end Jvm.Pilot.@@N@@
