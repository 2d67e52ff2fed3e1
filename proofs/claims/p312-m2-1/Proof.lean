import JvmDerived
import JvmDerived.Pilot.@@N@@Statement
import JvmDerived.Pilot.@@N@@Code
set_option linter.unusedVariables false
set_option linter.unusedSimpArgs false
namespace Jvm.RoadKit
open Sem ClassFile Op Lib Jvm.Stand Jvm.Free Jvm.LawKit
/-- what is left of a walk: from this frame the method returns, and what it leaves is as Q says -/
def own_Go (p : Program) (e : Env) (below : List Frame) (s : State) (Q : Option Value → Heap → List Loc → Prop) (kc ks : Nat) (T : State) (g : JFrame) : Prop :=
  ∃ s₂ o, Steps p.tables e below (T.setTop g) s₂ ∧ s₂.status = .running ∧ Ended s₂ below o ∧ ∃ v L, o = .returned v ∧ Q v s₂.heap L ∧ FrameEnd s o s₂ L kc ks
section Own
variable {p : Program} {l : Launch} {e : Env} {R : Room} {s : State} {m : MethodId} {args : Array Value} {below : List Frame} {meth : Method} {c : Code} {T T' : State} {locs : List Loc} {cells slots : Nat} {Z : State} {h h' h0 : Heap} {Q : Option Value → Heap → List Loc → Prop} {kc ks : Nat} {g g' : JFrame} {a0 : Array Value} {pc : Nat} {Ls : Array Slot} {rest : List Value} {a b : Addr} {n0 : Nat} {ty : FieldType} {vs : List Value} {C : String} {sl : Nat} {v : Value} {ws : List Addr}
theorem own_pre (st : ∀ t, Steps p.tables e below (T'.setTop g') t → Steps p.tables e below (T.setTop g) t) (k : own_Go p e below s Q kc ks T' g') : own_Go p e below s Q kc ks T g := by
  obtain ⟨s₂, o, h1, r⟩ := k
  exact ⟨s₂, o, st _ h1, r⟩
theorem own_tr (st : Steps p.tables e below (T.setTop g) (T'.setTop g')) (k : own_Go p e below s Q kc ks T' g') : own_Go p e below s Q kc ks T g := by
  obtain ⟨s₂, o, h1, r⟩ := k
  exact ⟨s₂, o, st.trans h1, r⟩
theorem own_cast (q : g = g') (k : own_Go p e below s Q kc ks T g') : own_Go p e below s Q kc ks T g := q ▸ k
theorem own_ret (X : Stand p l e R s m args below meth c T locs cells slots) (hlk : meth.locks = false) {v : Option Value} (hv : meth.sig.returnType = none → v = none) (eT : T.heap = h)
    (st : ∀ fs, (∀ (f : JFrame) (acts : List Action), f.method = m → f.locked = none → f.entered = [] → (doReturn e (T.setTop f) acts v).1 = T.setFrames fs) → Steps p.tables e below (T.setTop g) (T.setFrames fs))
    (hq : Q v h locs) (hc : cells ≤ kc) (hs : slots ≤ ks) : own_Go p e below s Q kc ks T g := by
  obtain ⟨fs, hr, hrun, hended, hW, hsame⟩ := X.leave (v := v) hv hlk
  exact ⟨_, _, st fs hr, hrun, hended, _, _, rfl, (by show Q v T.heap _; rw [eT]; exact hq), ⟨_, rfl⟩, hW, hsame.mono hc hs⟩
theorem own_ret0 (X : Stand p l e R s m args below meth c T locs cells slots) (hx : p.tables.exec = Jvm.exec) (hlk : meth.locks = false) (hret : meth.sig.returnType = none) (hd : decode c.code pc = .ok (.return_, 1)) (eT : T.heap = h) (hq : Q none h locs) (hc : cells ≤ kc) (hs : slots ≤ ks) : own_Go p e below s Q kc ks T (mkF m pc Ls []) :=
  own_ret X hlk (fun _ => rfl) eT (fun _ hr => X.returnOut hx hret hd hr) hq hc hs
theorem own_ret1 (X : Stand p l e R s m args below meth c T locs cells slots) (hx : p.tables.exec = Jvm.exec) (hlk : meth.locks = false) {w : Value} {t : FieldType} {i : Instr} (hret : meth.sig.returnType = some t) (hn : narrow t w = w)
    (hi : (i = .ireturn ∧ (t = .int ∨ t = .boolean ∨ t = .byte ∨ t = .char ∨ t = .short) ∧ ∃ z, w = .int z) ∨ (i = .lreturn ∧ t = .long ∧ ∃ z, w = .long z) ∨ (i = .dreturn ∧ t = .double ∧ ∃ z, w = .double z) ∨ (i = .freturn ∧ t = .float ∧ ∃ z, w = .float z) ∨ (i = .areturn ∧ t.isReference = true ∧ w.isRef = true))
    (hd : decode c.code pc = .ok (i, 1)) (eT : T.heap = h) (hq : Q (some w) h locs) (hc : cells ≤ kc) (hs : slots ≤ ks) : own_Go p e below s Q kc ks T (mkF m pc Ls (w :: rest)) :=
  own_ret X hlk (fun q => by rw [hret] at q; cases q) eT (fun _ hr => retOut X hx hret hn hi hd hr) hq hc hs
theorem own_retI (X : Stand p l e R s m args below meth c T locs cells slots) (hx : p.tables.exec = Jvm.exec) (hlk : meth.locks = false) {z : Int32} (hret : meth.sig.returnType = some .int) (hd : decode c.code pc = .ok (.ireturn, 1)) (eT : T.heap = h) (hq : Q (some (.int z)) h locs) (hc : cells ≤ kc) (hs : slots ≤ ks) : own_Go p e below s Q kc ks T (mkF m pc Ls (.int z :: rest)) :=
  own_ret1 X hx hlk hret rfl (Or.inl ⟨rfl, Or.inl rfl, _, rfl⟩) hd eT hq hc hs
theorem own_retZ (X : Stand p l e R s m args below meth c T locs cells slots) (hx : p.tables.exec = Jvm.exec) (hlk : meth.locks = false) {z : Int32} (hret : meth.sig.returnType = some .boolean) (hn : narrow .boolean (.int z) = .int z) (hd : decode c.code pc = .ok (.ireturn, 1)) (eT : T.heap = h) (hq : Q (some (.int z)) h locs) (hc : cells ≤ kc) (hs : slots ≤ ks) : own_Go p e below s Q kc ks T (mkF m pc Ls (.int z :: rest)) :=
  own_ret1 X hx hlk hret hn (Or.inl ⟨rfl, Or.inr (Or.inl rfl), _, rfl⟩) hd eT hq hc hs
theorem own_retL (X : Stand p l e R s m args below meth c T locs cells slots) (hx : p.tables.exec = Jvm.exec) (hlk : meth.locks = false) {z : Int64} (hret : meth.sig.returnType = some .long) (hd : decode c.code pc = .ok (.lreturn, 1)) (eT : T.heap = h) (hq : Q (some (.long z)) h locs) (hc : cells ≤ kc) (hs : slots ≤ ks) : own_Go p e below s Q kc ks T (mkF m pc Ls (.long z :: rest)) :=
  own_ret1 X hx hlk hret rfl (Or.inr (Or.inl ⟨rfl, rfl, _, rfl⟩)) hd eT hq hc hs
theorem own_retD (X : Stand p l e R s m args below meth c T locs cells slots) (hx : p.tables.exec = Jvm.exec) (hlk : meth.locks = false) {z : UInt64} (hret : meth.sig.returnType = some .double) (hd : decode c.code pc = .ok (.dreturn, 1)) (eT : T.heap = h) (hq : Q (some (.double z)) h locs) (hc : cells ≤ kc) (hs : slots ≤ ks) : own_Go p e below s Q kc ks T (mkF m pc Ls (.double z :: rest)) :=
  own_ret1 X hx hlk hret rfl (Or.inr (Or.inr (Or.inl ⟨rfl, rfl, _, rfl⟩))) hd eT hq hc hs
theorem own_retA (X : Stand p l e R s m args below meth c T locs cells slots) (hx : p.tables.exec = Jvm.exec) (hlk : meth.locks = false) {w : Value} {t : FieldType} (hret : meth.sig.returnType = some t) (ht : t.isReference = true) (hw : w.isRef = true) (hn : narrow t w = w) (hd : decode c.code pc = .ok (.areturn, 1)) (eT : T.heap = h) (hq : Q (some w) h locs) (hc : cells ≤ kc) (hs : slots ≤ ks) : own_Go p e below s Q kc ks T (mkF m pc Ls (w :: rest)) :=
  own_ret1 X hx hlk hret hn (Or.inr (Or.inr (Or.inr (Or.inr ⟨rfl, ht, hw⟩)))) hd eT hq hc hs
/-- a contract out of a walk -/
theorem own_met {y : MethodName} {bytes : ByteArray} {maxL : Nat} {ret : Option FieldType} {wds : List Cond} {rm : Room} {as' : Array Value} (hpl : plainName y.cls = true)
    (body : ∀ p e s m below meth c s₁, p.tables.exec = Jvm.exec → c.code = bytes → c.maxLocals = maxL → Z.Warmed39 s.vm → s.vm.findClass y.cls = some m.cls → meth.name = y.name → meth.sig.returnType = ret → meth.locks = false → Stand p l e rm s m as' below meth c s₁ [] 0 0 → s₁.heap = h → own_Go p e below s Q rm.cells rm.slots s₁ (entryFrame m as' maxL)) :
    MetFree l y (head1 (Cond.code y bytes maxL ret :: wds) rm) (fun a U => a = as' ∧ Z.Warmed39 U.vm ∧ U.heap = h) (fun _ _ _ _ _ => True) (fun _ U o U' => ∃ v L, o = .returned v ∧ Q v U'.heap L ∧ FrameEnd U o U' L rm.cells rm.slots) := by
  refine MetFree.of_bodySF (plainFor_of_name hpl) hisR ?_
  intro p e s m args below meth c s₁ Bd hml0 hP hK
  obtain ⟨rfl, hZ, hh⟩ := hP
  exact body p e s m below meth c s₁ Bd.exec Bd.bytes hml0 hZ (findClass_of_methodNamed Bd.named) (name_of_methodNamed Bd.named Bd.method).1 Bd.returns Bd.notSynchronized (Stand.of_body Bd) (by rw [← hh, Bd.state]; rfl)
/-! arrays by their list -/
def own_Ary (Z : State) (h : Heap) (a : Addr) (ty : FieldType) (vs : List Value) : Prop := ∃ c : Cell, Arr Z h a c ty ∧ c.slots.toList = vs ∧ vs.length < 2 ^ 31
theorem own_Ary.lt (F : own_Ary Z h a ty vs) : a < h.size := by obtain ⟨c, A, -⟩ := F; exact A.lt
theorem own_Ary.ext (F : own_Ary Z h a ty vs) (E : Ext h h') : own_Ary Z h' a ty vs := by obtain ⟨c, A, r⟩ := F; exact ⟨c, A.ext E, r⟩
theorem own_Ary.other (F : own_Ary Z h b ty vs) (W : Wr h h' a sl v) (q : b ≠ a) : own_Ary Z h' b ty vs := by obtain ⟨c, A, r⟩ := F; exact ⟨c, A.other W q, r⟩
theorem own_Ary.keep (F : own_Ary Z h a ty vs) (K : Keep h h' ws) (q : a ∉ ws) : own_Ary Z h' a ty vs := by obtain ⟨c, A, r⟩ := F; exact ⟨c, ⟨K.2.1 a c A.1 q, A.2⟩, r⟩
theorem own_Ary.set (F : own_Ary Z h a ty vs) (W : Wr h h' a sl v) : own_Ary Z h' a ty (vs.set sl v) := by
  obtain ⟨c, A, r1, r2⟩ := F
  refine ⟨_, A.same W, ?_, by simpa using r2⟩
  simp [Cell.setSlot, r1]
theorem own_Ary.new {k : ClassId} {z : Int32} {n : Nat} (A : Arr Z h a (newA k ty z) ty) (q : z.toNatClampNeg = n) : own_Ary Z h a ty (List.replicate n (defaultValue ty)) := by
  refine ⟨_, A, ?_, ?_⟩
  · simp [newA, q]
  · have h1 := Int32.toInt_lt z
    simp only [Int32.toNatClampNeg] at q
    simp only [List.length_replicate]; omega
theorem own_inb {j : Int32} {n : Nat} {c : Cell} (h0 : 0 ≤ j) (hc : c.slots.toList = vs) (hj : j.toNatClampNeg = n) (hn : n < vs.length) : ¬ (j < 0 ∨ c.slots.size ≤ j.toNatClampNeg) := by
  subst hc hj
  rw [Array.length_toList] at hn
  intro q
  rcases q with q | q
  · exact absurd q (Int32.not_lt.mpr h0)
  · omega
theorem own_idx {n : Nat} {c : Cell} (hc : c.slots.toList = vs) (hv : vs[n]? = some v) : c.slots[n]? = some v := by
  subst hc; simpa using hv
theorem own_len (X : Stand p l e R s m args below meth c T locs cells slots) (hx : p.tables.exec = Jvm.exec) (hZ : Z.Warmed39 s.vm) (eT : T.heap = h) (F : own_Ary Z h a ty vs) (hd : decode c.code pc = .ok (.arraylength, 1)) {n : Int32} (hn : vs.length.toInt32 = n)
    (k : own_Go p e below s Q kc ks T (mkF m (pc + 1) Ls (.int n :: rest))) : own_Go p e below s Q kc ks T (mkF m pc Ls (.ref a :: rest)) := by
  obtain ⟨cl, A, r1, r2⟩ := F
  refine own_pre (fun t k => X.arraylength hx (cell := cl) (by rw [eT]; exact A.1) (State.isArrayOf_alike hZ.alike A.2.1) (g := mkF m pc Ls (.ref a :: rest)) rfl (rest := rest) rfl hd _ k) ?_
  have q : cl.slots.size = vs.length := by rw [← r1, Array.length_toList]
  rw [q, hn]; exact k
theorem own_iaload (X : Stand p l e R s m args below meth c T locs cells slots) (hx : p.tables.exec = Jvm.exec) (hZ : Z.Warmed39 s.vm) (eT : T.heap = h) (F : own_Ary Z h a .int vs) (hd : decode c.code pc = .ok (.iaload, 1)) {j : Int32} {n : Nat} (h0 : 0 ≤ j) (hj : j.toNatClampNeg = n) (hv : vs[n]? = some v)
    (k : own_Go p e below s Q kc ks T (mkF m (pc + 1) Ls (v :: rest))) : own_Go p e below s Q kc ks T (mkF m pc Ls (.int j :: .ref a :: rest)) := by
  obtain ⟨cl, A, r1, r2⟩ := F
  exact own_pre (fun t k => X.iaload hx (j := j) (v := v) (by rw [eT]; exact A.1) (State.isArrayOf_alike hZ.alike A.2.1) A.2.2 (own_inb h0 r1 hj (List.getElem?_eq_some_iff.mp hv).1) (own_idx r1 (hj ▸ hv)) (g := mkF m pc Ls (.int j :: .ref a :: rest)) rfl rfl hd _ k) k
theorem own_laload (X : Stand p l e R s m args below meth c T locs cells slots) (hx : p.tables.exec = Jvm.exec) (hZ : Z.Warmed39 s.vm) (eT : T.heap = h) (F : own_Ary Z h a .long vs) (hd : decode c.code pc = .ok (.laload, 1)) {j : Int32} {n : Nat} (h0 : 0 ≤ j) (hj : j.toNatClampNeg = n) (hv : vs[n]? = some v)
    (k : own_Go p e below s Q kc ks T (mkF m (pc + 1) Ls (v :: rest))) : own_Go p e below s Q kc ks T (mkF m pc Ls (.int j :: .ref a :: rest)) := by
  obtain ⟨cl, A, r1, r2⟩ := F
  exact own_pre (fun t k => X.laload hx (j := j) (v := v) (by rw [eT]; exact A.1) (State.isArrayOf_alike hZ.alike A.2.1) A.2.2 (own_inb h0 r1 hj (List.getElem?_eq_some_iff.mp hv).1) (own_idx r1 (hj ▸ hv)) (g := mkF m pc Ls (.int j :: .ref a :: rest)) rfl rfl hd _ k) k
theorem own_daload (X : Stand p l e R s m args below meth c T locs cells slots) (hx : p.tables.exec = Jvm.exec) (hZ : Z.Warmed39 s.vm) (eT : T.heap = h) (F : own_Ary Z h a .double vs) (hd : decode c.code pc = .ok (.daload, 1)) {j : Int32} {n : Nat} (h0 : 0 ≤ j) (hj : j.toNatClampNeg = n) (hv : vs[n]? = some v)
    (k : own_Go p e below s Q kc ks T (mkF m (pc + 1) Ls (v :: rest))) : own_Go p e below s Q kc ks T (mkF m pc Ls (.int j :: .ref a :: rest)) := by
  obtain ⟨cl, A, r1, r2⟩ := F
  exact own_pre (fun t k => X.daload hx (j := j) (v := v) (by rw [eT]; exact A.1) (State.isArrayOf_alike hZ.alike A.2.1) A.2.2 (own_inb h0 r1 hj (List.getElem?_eq_some_iff.mp hv).1) (own_idx r1 (hj ▸ hv)) (g := mkF m pc Ls (.int j :: .ref a :: rest)) rfl rfl hd _ k) k
theorem own_zaload (X : Stand p l e R s m args below meth c T locs cells slots) (hx : p.tables.exec = Jvm.exec) (hZ : Z.Warmed39 s.vm) (eT : T.heap = h) (F : own_Ary Z h a .boolean vs) (hd : decode c.code pc = .ok (.baload, 1)) {j : Int32} {n : Nat} (h0 : 0 ≤ j) (hj : j.toNatClampNeg = n) (hv : vs[n]? = some v)
    (k : own_Go p e below s Q kc ks T (mkF m (pc + 1) Ls (v :: rest))) : own_Go p e below s Q kc ks T (mkF m pc Ls (.int j :: .ref a :: rest)) := by
  obtain ⟨cl, A, r1, r2⟩ := F
  exact own_pre (fun t k => X.baloadBooleans hx (j := j) (v := v) (by rw [eT]; exact A.1) (State.isArrayOf_alike hZ.alike A.2.1) A.2.2 (own_inb h0 r1 hj (List.getElem?_eq_some_iff.mp hv).1) (own_idx r1 (hj ▸ hv)) (g := mkF m pc Ls (.int j :: .ref a :: rest)) rfl rfl hd _ k) k
theorem own_aaload (X : Stand p l e R s m args below meth c T locs cells slots) (hx : p.tables.exec = Jvm.exec) (hZ : Z.Warmed39 s.vm) (eT : T.heap = h) (F : own_Ary Z h a ty vs) (ht : ty.isReference = true) (hd : decode c.code pc = .ok (.aaload, 1)) {j : Int32} {n : Nat} (h0 : 0 ≤ j) (hj : j.toNatClampNeg = n) (hv : vs[n]? = some v)
    (k : own_Go p e below s Q kc ks T (mkF m (pc + 1) Ls (v :: rest))) : own_Go p e below s Q kc ks T (mkF m pc Ls (.int j :: .ref a :: rest)) := by
  obtain ⟨cl, A, r1, r2⟩ := F
  exact own_pre (fun t k => X.aaload hx (j := j) (v := v) (by rw [eT]; exact A.1) (State.isArrayOf_alike hZ.alike A.2.1) ht A.2.2 (own_inb h0 r1 hj (List.getElem?_eq_some_iff.mp hv).1) (own_idx r1 (hj ▸ hv)) (g := mkF m pc Ls (.int j :: .ref a :: rest)) rfl rfl hd _ k) k
theorem own_iastore (X : Stand p l e R s m args below meth c T locs cells slots) (hx : p.tables.exec = Jvm.exec) (hZ : Z.Warmed39 s.vm) (eT : T.heap = h) (N : Fr n0 locs) (q : n0 ≤ a) (F : own_Ary Z h a .int vs) (hd : decode c.code pc = .ok (.iastore, 1)) {j x : Int32} {n : Nat} (h0 : 0 ≤ j) (hj : j.toNatClampNeg = n) (hv : n < vs.length)
    (k : ∀ T' h' locs', Stand p l e R s m args below meth c T' locs' cells slots → T'.heap = h' → Fr n0 locs' → Wr h h' a n (.int x) → own_Go p e below s Q kc ks T' (mkF m (pc + 1) Ls rest)) : own_Go p e below s Q kc ks T (mkF m pc Ls (.int x :: .int j :: .ref a :: rest)) := by
  obtain ⟨cl, A, r1, r2⟩ := F
  obtain ⟨T', h', X', e', W, st⟩ := stI X hx hZ eT A (j := j) (x := x) (own_inb h0 r1 hj hv) (g := mkF m pc Ls (.int x :: .int j :: .ref a :: rest)) rfl rfl hd
  exact own_pre st (k T' h' _ X' e' (Fr.snoc X' N q) (hj ▸ W))
theorem own_lastore (X : Stand p l e R s m args below meth c T locs cells slots) (hx : p.tables.exec = Jvm.exec) (hZ : Z.Warmed39 s.vm) (eT : T.heap = h) (N : Fr n0 locs) (q : n0 ≤ a) (F : own_Ary Z h a .long vs) (hd : decode c.code pc = .ok (.lastore, 1)) {j : Int32} {x : Int64} {n : Nat} (h0 : 0 ≤ j) (hj : j.toNatClampNeg = n) (hv : n < vs.length)
    (k : ∀ T' h' locs', Stand p l e R s m args below meth c T' locs' cells slots → T'.heap = h' → Fr n0 locs' → Wr h h' a n (.long x) → own_Go p e below s Q kc ks T' (mkF m (pc + 1) Ls rest)) : own_Go p e below s Q kc ks T (mkF m pc Ls (.long x :: .int j :: .ref a :: rest)) := by
  obtain ⟨cl, A, r1, r2⟩ := F
  obtain ⟨T', h', X', e', W, st⟩ := stJ X hx hZ eT A (j := j) (x := x) (own_inb h0 r1 hj hv) (g := mkF m pc Ls (.long x :: .int j :: .ref a :: rest)) rfl rfl hd
  exact own_pre st (k T' h' _ X' e' (Fr.snoc X' N q) (hj ▸ W))
theorem own_dastore (X : Stand p l e R s m args below meth c T locs cells slots) (hx : p.tables.exec = Jvm.exec) (hZ : Z.Warmed39 s.vm) (eT : T.heap = h) (N : Fr n0 locs) (q : n0 ≤ a) (F : own_Ary Z h a .double vs) (hd : decode c.code pc = .ok (.dastore, 1)) {j : Int32} {x : UInt64} {n : Nat} (h0 : 0 ≤ j) (hj : j.toNatClampNeg = n) (hv : n < vs.length)
    (k : ∀ T' h' locs', Stand p l e R s m args below meth c T' locs' cells slots → T'.heap = h' → Fr n0 locs' → Wr h h' a n (.double x) → own_Go p e below s Q kc ks T' (mkF m (pc + 1) Ls rest)) : own_Go p e below s Q kc ks T (mkF m pc Ls (.double x :: .int j :: .ref a :: rest)) := by
  obtain ⟨cl, A, r1, r2⟩ := F
  obtain ⟨T', h', X', e', W, st⟩ := stD X hx hZ eT A (j := j) (x := x) (own_inb h0 r1 hj hv) (g := mkF m pc Ls (.double x :: .int j :: .ref a :: rest)) rfl rfl hd
  exact own_pre st (k T' h' _ X' e' (Fr.snoc X' N q) (hj ▸ W))
theorem own_newarr (X : Stand p l e R s m args below meth c T locs cells slots) (hx : p.tables.exec = Jvm.exec) (hZ : Z.Warmed39 s.vm) {aty : ArrayType} (w : (Cond.arrayClass (newarray.typeOf aty)).before a0 Z = true) (eT : T.heap = h) (hd : decode c.code pc = .ok (.newarray aty, 2)) {z : Int32} {n : Nat} (h0 : 0 ≤ z) (hz : z.toNatClampNeg = n) (hb : n * 8 ≤ 536870912) (hc : cells + 1 ≤ R.cells) (hl : slots + n ≤ R.slots) {ad : String} (had : "[" ++ (newarray.typeOf aty).toString = ad)
    (k : ∀ T' h' a, a = h.size → Stand p l e R s m args below meth c T' locs (cells + 1) (slots + n) → T'.heap = h' → Ext h h' → own_Ary Z h' a (newarray.typeOf aty) (List.replicate n (defaultValue (newarray.typeOf aty))) → Exa Z h' a ad → own_Go p e below s Q kc ks T' (mkF m (pc + 2) Ls (.ref a :: rest))) : own_Go p e below s Q kc ks T (mkF m pc Ls (.int z :: rest)) := by
  obtain ⟨T', h', cA, X', e', E, A, E2, st⟩ := newPE X hx hZ w eT (g := mkF m pc Ls (.int z :: rest)) rfl hd rfl (Int32.not_lt.mpr h0) (cap := n) (Nat.le_of_eq hz) hb hc hl had
  exact own_pre st (k T' h' _ rfl X' e' E (own_Ary.new A hz) E2)
theorem own_newobj (X : Stand p l e R s m args below meth c T locs cells slots) (hx : p.tables.exec = Jvm.exec) (hZ : Z.Warmed39 s.vm) {own : String} {index n : Nat} (hown : s.vm.findClass own = some m.cls) (w : (Cond.classLink own index C).before a0 Z = true) (wi : (Cond.instantiable C n).before a0 Z = true) (wz : (Cond.initialized C).before a0 Z = true) (eT : T.heap = h) (hd : decode c.code pc = .ok (.new index, 3)) (hc : cells + 1 ≤ R.cells) (hl : slots + n ≤ R.slots)
    (k : ∀ T' h' a, a = h.size → Stand p l e R s m args below meth c T' locs (cells + 1) (slots + n) → T'.heap = h' → Ext h h' → Exa Z h' a C → (∀ {O nm d : String} {ty : FieldType}, Laid Z a0 C O nm d → parseFieldDescriptor d = some ty → Fld Z h' a O nm d (defaultValue ty)) → own_Go p e below s Q kc ks T' (mkF m (pc + 3) Ls (.ref a :: rest))) : own_Go p e below s Q kc ks T (mkF m pc Ls rest) := by
  obtain ⟨T', h', X', e', E, A, D, -, st⟩ := newO X hx hZ hown w wi wz eT (g := mkF m pc Ls rest) rfl hd hc hl
  exact own_pre st (k T' h' _ rfl X' e' E A D)
theorem own_getf (X : Stand p l e R s m args below meth c T locs cells slots) (hx : p.tables.exec = Jvm.exec) (hZ : Z.Warmed39 s.vm) {own O n d : String} {index : Nat} (hown : s.vm.findClass own = some m.cls) (w : (Cond.fieldLink own index O n d).before a0 Z = true) (eT : T.heap = h) (F : Fld Z h a O n d v) (hd : decode c.code pc = .ok (.getfield index, 3))
    (k : ∀ T', Stand p l e R s m args below meth c T' locs cells slots → T'.heap = h → own_Go p e below s Q kc ks T' (mkF m (pc + 3) Ls (v :: rest))) : own_Go p e below s Q kc ks T (mkF m pc Ls (.ref a :: rest)) := by
  obtain ⟨T', X', e', st⟩ := getF X hx hZ hown (host := "") (Or.inl w) Via.refl eT F (g := mkF m pc Ls (.ref a :: rest)) rfl rfl hd
  exact own_pre st (k T' X' e')
theorem own_gets (X : Stand p l e R s m args below meth c T locs cells slots) (hx : p.tables.exec = Jvm.exec) (hZ : Z.Warmed39 s.vm) {own O n d : String} {index : Nat} (hown : s.vm.findClass own = some m.cls) (w : (Cond.fieldLink own index O n d).before a0 Z = true) (eT : T.heap = h) (F : Sta Z h O n d v) (hd : decode c.code pc = .ok (.getstatic index, 3))
    (k : ∀ T', Stand p l e R s m args below meth c T' locs cells slots → T'.heap = h → own_Go p e below s Q kc ks T' (mkF m (pc + 3) Ls (v :: rest))) : own_Go p e below s Q kc ks T (mkF m pc Ls rest) := by
  obtain ⟨T', X', e', st⟩ := getS X hx hZ (host := "") hown w Via.refl eT F (g := mkF m pc Ls rest) rfl hd
  exact own_pre st (k T' X' e')
theorem own_putf (X : Stand p l e R s m args below meth c T locs cells slots) (hx : p.tables.exec = Jvm.exec) (hZ : Z.Warmed39 s.vm) {own O n d : String} {index kk : Nat} (hown : s.vm.findClass own = some m.cls) (w : (Cond.fieldLink own index O n d).before a0 Z = true) (eT : T.heap = h) (N : Fr n0 locs) (q : n0 ≤ a) {old : Value} (F : Fld Z h a O n d old) (E : Exa Z h a C) (L : (Cond.lays C O n d).before a0 Z = true ∨ ((Cond.laysFinal C O n d).before a0 Z = true ∧ own = O ∧ meth.name = "<init>")) (wi : (Cond.instantiable C kk).before a0 Z = true) (hty : parseFieldDescriptor d = some ty) (hn : narrow ty v = v) (hf : fits ty v = true) (hd : decode c.code pc = .ok (.putfield index, 3))
    (k : ∀ T' h' locs', Stand p l e R s m args below meth c T' locs' cells slots → T'.heap = h' → Fr n0 locs' → Wr h h' a (slotOf Z O n d) v → own_Go p e below s Q kc ks T' (mkF m (pc + 3) Ls rest)) : own_Go p e below s Q kc ks T (mkF m pc Ls (v :: .ref a :: rest)) := by
  obtain ⟨T', h', X', e', W, st⟩ := putF X hx hZ hown (host := "") (Or.inl w) Via.refl eT F E L wi hty hn hf (g := mkF m pc Ls (v :: .ref a :: rest)) rfl rfl hd
  exact own_pre st (k T' h' _ X' e' (Fr.snoc X' N q) W)
theorem own_ldci (X : Stand p l e R s m args below meth c T locs cells slots) (hx : p.tables.exec = Jvm.exec) (hZ : Z.Warmed39 s.vm) {own : String} {index : Nat} {z : Int32} (hown : s.vm.findClass own = some m.cls) (w : (Cond.constant own index z).before a0 Z = true) (hd : decode c.code pc = .ok (.ldc index, 2))
    (k : own_Go p e below s Q kc ks T (mkF m (pc + 2) Ls (.int z :: rest))) : own_Go p e below s Q kc ks T (mkF m pc Ls rest) :=
  own_pre (X.ldcInt hx hown (mv hZ w) (g := mkF m pc Ls rest) rfl hd) k
theorem own_ldcl (X : Stand p l e R s m args below meth c T locs cells slots) (hx : p.tables.exec = Jvm.exec) (hZ : Z.Warmed39 s.vm) {own : String} {index : Nat} {z : Int64} (hown : s.vm.findClass own = some m.cls) (w : (Cond.constantLong own index z).before a0 Z = true) (hd : decode c.code pc = .ok (.ldc2_w index, 3))
    (k : own_Go p e below s Q kc ks T (mkF m (pc + 3) Ls (.long z :: rest))) : own_Go p e below s Q kc ks T (mkF m pc Ls rest) :=
  own_pre (X.ldc2Long hx hown (mv hZ w) (g := mkF m pc Ls rest) rfl hd) k
theorem own_ldcd (X : Stand p l e R s m args below meth c T locs cells slots) (hx : p.tables.exec = Jvm.exec) (hZ : Z.Warmed39 s.vm) {own : String} {index : Nat} {z : UInt64} (hown : s.vm.findClass own = some m.cls) (w : (Cond.constantDouble own index z).before a0 Z = true) (hd : decode c.code pc = .ok (.ldc2_w index, 3))
    (k : own_Go p e below s Q kc ks T (mkF m (pc + 3) Ls (.double z :: rest))) : own_Go p e below s Q kc ks T (mkF m pc Ls rest) :=
  own_pre (X.ldc2DoubleC hx hown (mv hZ w) (g := mkF m pc Ls rest) rfl hd) k
theorem own_init0 (X : Stand p l e R s m args below meth c T locs cells slots) (hx : p.tables.exec = Jvm.exec) (hZ : Z.Warmed39 s.vm) {own : String} {index : Nat} (hown : s.vm.findClass own = some m.cls) (w1 : (Cond.methodLink own index Lib.objectInit).before a0 Z = true) (w2 : (Cond.instanceMethod Lib.objectInit).before a0 Z = true) (w3 : (Cond.code Lib.objectInit ⟨#[0xb1]⟩ 1 none).before a0 Z = true) (eT : T.heap = h) (hd : decode c.code pc = .ok (.invokespecial index, 3)) (hsz : Ls.size = c.maxLocals) (hf : 1 ≤ R.frames) {W : Nat} (hW : (rest.map fun v => v.category).sum ≤ W) (hl : W + 12 ≤ R.locals)
    (k : ∀ T', Stand p l e R s m args below meth c T' locs cells slots → T'.heap = h → own_Go p e below s Q kc ks T' (mkF m (pc + 3) Ls rest)) : own_Go p e below s Q kc ks T (mkF m pc Ls (.ref a :: rest)) := by
  obtain ⟨T', X', e', st⟩ := initO X hx hZ hown w1 w2 w3 eT (g := mkF m pc Ls (.ref a :: rest)) rfl hsz rfl hd hf (W := W) (by show 2 * 0 + _ ≤ _; omega) hl
  exact own_pre st (k T' X' e')
theorem own_init (X : Stand p l e R s m args below meth c T locs cells slots) (hx : p.tables.exec = Jvm.exec) (hZ : Z.Warmed39 s.vm) {own : String} {index : Nat} (hown : s.vm.findClass own = some m.cls) {y : MethodName} {bytes : ByteArray} {maxL : Nat} {rm : Room} {argsL : List Value} {Qc : Option Value → Heap → List Loc → Prop}
    (hM : MetFree l y (head1 [Cond.code y bytes maxL none] rm) (fun a' U => a' = (.ref a :: argsL).toArray ∧ Z.Warmed39 U.vm ∧ U.heap = h) (fun _ _ _ _ _ => True) (fun _ U o U' => ∃ v L, o = .returned v ∧ Qc v U'.heap L ∧ FrameEnd U o U' L rm.cells rm.slots))
    (hy1 : y.name = "<init>") (w1 : (Cond.methodLink own index y).before a0 Z = true) (w2 : (Cond.instanceMethod y).before a0 Z = true) (w3 : (Cond.code y bytes maxL none).before a0 Z = true) (w4 : (Cond.initialized y.cls).before a0 Z = true) (hy : y.cls ≠ "java/lang/invoke/MethodHandle" ∧ y.cls ≠ "java/lang/invoke/VarHandle")
    (eT : T.heap = h) (hd : decode c.code pc = .ok (.invokespecial index, 3)) (hsz : Ls.size = c.maxLocals) {stk : List Value} (hstk : stk = argsL.reverse ++ .ref a :: rest) (hlen : ∀ sig, parseMethodDescriptor y.desc = some sig → argsL.length = sig.parameters.length) (hf : rm.frames + 1 ≤ R.frames) {W : Nat} (hW : (rest.map fun v => v.category).sum ≤ W) (hl : W + (maxL + 11) + rm.locals ≤ R.locals) (hc : cells + rm.cells ≤ R.cells) (hs : slots + rm.slots ≤ R.slots)
    (k : ∀ v T' L, Stand p l e R s m args below meth c T' (locs ++ L) (cells + rm.cells) (slots + rm.slots) → Qc v T'.heap L → own_Go p e below s Q kc ks T' (mkF m (pc + 3) Ls (v.toList ++ rest))) : own_Go p e below s Q kc ks T (mkF m pc Ls stk) := by
  obtain ⟨v, _, ⟨T', L', k', n'⟩, -, X', ⟨L, hQ, e1, e2, e3⟩, st⟩ := X.specialBack hx (y := y) hy1 hown (mvT hZ w1) (mvT hZ w2) (mvT hZ w3) hy (backOf (W := W) hM hZ w3 w4 hf hl) (g := mkF m pc Ls stk) rfl hsz (Steps.refl _) (a := a) (argsL := argsL) (rest := rest) hlen hstk (by show 2 * 0 + _ ≤ _; omega) hd (fun _ _ => ⟨rfl, eT, hc, hs⟩)
  dsimp only at X' e1 e2 e3 st hQ
  subst e1 e2 e3
  exact own_tr st (k v T' L X' hQ)
theorem own_callv (X : Stand p l e R s m args below meth c T locs cells slots) (hx : p.tables.exec = Jvm.exec) (hZ : Z.Warmed39 s.vm) {own : String} {index : Nat} (hown : s.vm.findClass own = some m.cls) {y : MethodName} {bytes : ByteArray} {maxL : Nat} {ret : Option FieldType} {rm : Room} {argsL : List Value} {Qc : Option Value → Heap → List Loc → Prop}
    (hM : MetFree l y (head1 [Cond.code y bytes maxL ret] rm) (fun a' U => a' = (.ref a :: argsL).toArray ∧ Z.Warmed39 U.vm ∧ U.heap = h) (fun _ _ _ _ _ => True) (fun _ U o U' => ∃ v L, o = .returned v ∧ Qc v U'.heap L ∧ FrameEnd U o U' L rm.cells rm.slots))
    (E : Exa Z h a C) (w1 : (Cond.methodLink own index y).before a0 Z = true) (w2 : (Cond.declares y).before a0 Z = true) (w5 : (Cond.selects C y y).before a0 Z = true) (w6 : (Cond.instanceMethod y).before a0 Z = true) (w3 : (Cond.code y bytes maxL ret).before a0 Z = true) (w4 : (Cond.initialized y.cls).before a0 Z = true) (hy : y.cls ≠ "java/lang/invoke/MethodHandle" ∧ y.cls ≠ "java/lang/invoke/VarHandle")
    (eT : T.heap = h) (hd : decode c.code pc = .ok (.invokevirtual index, 3)) (hsz : Ls.size = c.maxLocals) {stk : List Value} (hstk : stk = argsL.reverse ++ .ref a :: rest) (hlen : ∀ sig, parseMethodDescriptor y.desc = some sig → argsL.length = sig.parameters.length) (hf : rm.frames + 1 ≤ R.frames) {W : Nat} (hW : (rest.map fun v => v.category).sum ≤ W) (hl : W + (maxL + 11) + rm.locals ≤ R.locals) (hc : cells + rm.cells ≤ R.cells) (hs : slots + rm.slots ≤ R.slots)
    (k : ∀ v T' L, Stand p l e R s m args below meth c T' (locs ++ L) (cells + rm.cells) (slots + rm.slots) → Qc v T'.heap L → own_Go p e below s Q kc ks T' (mkF m (pc + 3) Ls (v.toList ++ rest))) : own_Go p e below s Q kc ks T (mkF m pc Ls stk) := by
  obtain ⟨cq, kq, q1, q2, q3⟩ := isOf hZ eT E
  obtain ⟨v, _, ⟨T', L', k', n'⟩, -, X', ⟨L, hQ, e1, e2, e3⟩, st⟩ := X.virtualBack hx (y := y) (z := y) hown (mvT hZ w1) (mvT hZ w2) (notFace_of_selects (args := #[]) (mvT hZ w5)) (mvT hZ w5) (mvT hZ w6) hy (backOf (W := W) hM hZ w3 w4 hf hl) q1 q3 (g := mkF m pc Ls stk) rfl hsz (Steps.refl _) (argsL := argsL) (rest := rest) hlen hstk (by show 2 * 0 + _ ≤ _; omega) hd (fun _ _ => ⟨rfl, eT, hc, hs⟩)
  dsimp only at X' e1 e2 e3 st hQ
  subst e1 e2 e3
  exact own_tr st (k v T' L X' hQ)
theorem own_calls (X : Stand p l e R s m args below meth c T locs cells slots) (hx : p.tables.exec = Jvm.exec) (hZ : Z.Warmed39 s.vm) {own : String} {index : Nat} (hown : s.vm.findClass own = some m.cls) {y : MethodName} {bytes : ByteArray} {maxL : Nat} {ret : Option FieldType} {rm : Room} {argsL : List Value} {Qc : Option Value → Heap → List Loc → Prop}
    (hM : MetFree l y (head1 [Cond.code y bytes maxL ret] rm) (fun a' U => a' = argsL.toArray ∧ Z.Warmed39 U.vm ∧ U.heap = h) (fun _ _ _ _ _ => True) (fun _ U o U' => ∃ v L, o = .returned v ∧ Qc v U'.heap L ∧ FrameEnd U o U' L rm.cells rm.slots))
    (w1 : (Cond.methodLink own index y).before a0 Z = true) (w2 : (Cond.static y).before a0 Z = true) (w3 : (Cond.code y bytes maxL ret).before a0 Z = true) (w4 : (Cond.initialized y.cls).before a0 Z = true) (hy : y.cls ≠ "java/lang/invoke/MethodHandle" ∧ y.cls ≠ "java/lang/invoke/VarHandle")
    (eT : T.heap = h) (hd : decode c.code pc = .ok (.invokestatic index, 3)) (hsz : Ls.size = c.maxLocals) {stk : List Value} (hstk : stk = argsL.reverse ++ rest) (hlen : ∀ sig, parseMethodDescriptor y.desc = some sig → argsL.length = sig.parameters.length) (hf : rm.frames + 1 ≤ R.frames) {W : Nat} (hW : (rest.map fun v => v.category).sum ≤ W) (hl : W + (maxL + 11) + rm.locals ≤ R.locals) (hc : cells + rm.cells ≤ R.cells) (hs : slots + rm.slots ≤ R.slots)
    (k : ∀ v T' L, Stand p l e R s m args below meth c T' (locs ++ L) (cells + rm.cells) (slots + rm.slots) → Qc v T'.heap L → own_Go p e below s Q kc ks T' (mkF m (pc + 3) Ls (v.toList ++ rest))) : own_Go p e below s Q kc ks T (mkF m pc Ls stk) := by
  obtain ⟨v, _, ⟨T', L', k', n'⟩, -, X', ⟨L, hQ, e1, e2, e3⟩, st⟩ := Jvm.LawKit.callS X hx (y := y) hown (mvT hZ w1) (mvT hZ w2) (mvT hZ w4) (mvT hZ w3) hy (backOf (W := W) hM hZ w3 w4 hf hl) (g := mkF m pc Ls stk) rfl hsz (argsL := argsL) (rest := rest) hlen hstk (by show 2 * 0 + _ ≤ _; omega) hd (fun _ _ => ⟨rfl, eT, hc, hs⟩)
  dsimp only at X' e1 e2 e3 st hQ
  subst e1 e2 e3
  exact own_pre st (k v T' L X' hQ)
theorem own_cl_lt (x y : Int64) : XT.cmpL x y < 0 ↔ x < y := by unfold XT.cmpL; split <;> (try split) <;> simp_all [Int64.lt_iff_toInt_lt, ← Int64.toInt_inj] <;> omega
theorem own_cl_gt (x y : Int64) : 0 < XT.cmpL x y ↔ y < x := by unfold XT.cmpL; split <;> (try split) <;> simp_all [Int64.lt_iff_toInt_lt, ← Int64.toInt_inj]
theorem own_cl_eq (x y : Int64) : XT.cmpL x y = 0 ↔ x = y := by unfold XT.cmpL; split <;> (try split) <;> simp_all [Int64.lt_iff_toInt_lt, ← Int64.toInt_inj] <;> omega
/-! loads, constants and jumps, written short -/
theorem own_alN (X : Stand p l e R s m args below meth c T locs cells slots) (hx : p.tables.exec = Jvm.exec) {k : Fin 4} {w : Value} (hd : decode c.code pc = .ok (.aload_n k, 1)) (hl : Ls[k.val]? = some (.val w)) (hv : w.isRef = true) (kk : own_Go p e below s Q kc ks T (mkF m (pc + 1) Ls (w :: rest))) : own_Go p e below s Q kc ks T (mkF m pc Ls rest) := own_pre (fun _ q => XS.aloadN X.here hx rfl hd hl hv q) kk
theorem own_al (X : Stand p l e R s m args below meth c T locs cells slots) (hx : p.tables.exec = Jvm.exec) {k : Nat} {w : Value} (hd : decode c.code pc = .ok (.aload k, 2)) (hl : Ls[k]? = some (.val w)) (hv : w.isRef = true) (kk : own_Go p e below s Q kc ks T (mkF m (pc + 2) Ls (w :: rest))) : own_Go p e below s Q kc ks T (mkF m pc Ls rest) := own_pre (fun _ q => XS.aload X.here hx rfl hd hl hv q) kk
theorem own_ilN (X : Stand p l e R s m args below meth c T locs cells slots) (hx : p.tables.exec = Jvm.exec) {k : Fin 4} {w : Int32} (hd : decode c.code pc = .ok (.iload_n k, 1)) (hl : Ls[k.val]? = some (.val (.int w))) (kk : own_Go p e below s Q kc ks T (mkF m (pc + 1) Ls (.int w :: rest))) : own_Go p e below s Q kc ks T (mkF m pc Ls rest) := own_pre (fun _ q => XS.iloadN X.here hx rfl hd hl q) kk
theorem own_il (X : Stand p l e R s m args below meth c T locs cells slots) (hx : p.tables.exec = Jvm.exec) {k : Nat} {w : Int32} (hd : decode c.code pc = .ok (.iload k, 2)) (hl : Ls[k]? = some (.val (.int w))) (kk : own_Go p e below s Q kc ks T (mkF m (pc + 2) Ls (.int w :: rest))) : own_Go p e below s Q kc ks T (mkF m pc Ls rest) := own_pre (fun _ q => XS.iload X.here hx rfl hd hl q) kk
theorem own_dlN (X : Stand p l e R s m args below meth c T locs cells slots) (hx : p.tables.exec = Jvm.exec) {k : Fin 4} {w : UInt64} (hd : decode c.code pc = .ok (.dload_n k, 1)) (hl : Ls[k.val]? = some (.val (.double w))) (kk : own_Go p e below s Q kc ks T (mkF m (pc + 1) Ls (.double w :: rest))) : own_Go p e below s Q kc ks T (mkF m pc Ls rest) := own_pre (fun _ q => XS.dloadN X.here hx rfl hd hl q) kk
theorem own_dl (X : Stand p l e R s m args below meth c T locs cells slots) (hx : p.tables.exec = Jvm.exec) {k : Nat} {w : UInt64} (hd : decode c.code pc = .ok (.dload k, 2)) (hl : Ls[k]? = some (.val (.double w))) (kk : own_Go p e below s Q kc ks T (mkF m (pc + 2) Ls (.double w :: rest))) : own_Go p e below s Q kc ks T (mkF m pc Ls rest) := own_pre (fun _ q => XS.dload X.here hx rfl hd hl q) kk
theorem own_llN (X : Stand p l e R s m args below meth c T locs cells slots) (hx : p.tables.exec = Jvm.exec) {k : Fin 4} {w : Int64} (hd : decode c.code pc = .ok (.lload_n k, 1)) (hl : Ls[k.val]? = some (.val (.long w))) (kk : own_Go p e below s Q kc ks T (mkF m (pc + 1) Ls (.long w :: rest))) : own_Go p e below s Q kc ks T (mkF m pc Ls rest) := own_pre (fun _ q => XT.lloadN X.here hx rfl hd hl q) kk
theorem own_ll (X : Stand p l e R s m args below meth c T locs cells slots) (hx : p.tables.exec = Jvm.exec) {k : Nat} {w : Int64} (hd : decode c.code pc = .ok (.lload k, 2)) (hl : Ls[k]? = some (.val (.long w))) (kk : own_Go p e below s Q kc ks T (mkF m (pc + 2) Ls (.long w :: rest))) : own_Go p e below s Q kc ks T (mkF m pc Ls rest) := own_pre (fun _ q => XT.lload X.here hx rfl hd hl q) kk
theorem own_ic (X : Stand p l e R s m args below meth c T locs cells slots) (hx : p.tables.exec = Jvm.exec) {i : Int} (z : Int32) (hd : decode c.code pc = .ok (.iconst i, 1)) (hz : Int32.ofInt i = z) (kk : own_Go p e below s Q kc ks T (mkF m (pc + 1) Ls (.int z :: rest))) : own_Go p e below s Q kc ks T (mkF m pc Ls rest) := own_pre (fun _ q => XS.iconst X.here hx rfl hd q) (hz ▸ kk)
theorem own_gt (X : Stand p l e R s m args below meth c T locs cells slots) (hx : p.tables.exec = Jvm.exec) {o : Int} (pc' : Nat) (hd : decode c.code pc = .ok (.goto o, 3)) (ho : 0 ≤ (pc : Int) + o) (hp : ((pc : Int) + o).toNat = pc') (kk : own_Go p e below s Q kc ks T (mkF m pc' Ls rest)) : own_Go p e below s Q kc ks T (mkF m pc Ls rest) := own_pre (fun _ q => XS.goto X.here hx rfl rfl hd ho hp q) kk
end Own
end Jvm.RoadKit
namespace Jvm.FP.Core
theorem own_cross {c d I J qp qm rp rm kp km : Nat} (h1 : c * 2 ^ qp = I * 2 ^ qm) (h2 : d * 2 ^ rp = J * 2 ^ rm) (e : kp + qm + rp = km + qp + rm) : c * J * 2 ^ kp = I * d * 2 ^ km := by
  have e' : 2 ^ kp * 2 ^ qm * 2 ^ rp = 2 ^ km * 2 ^ qp * 2 ^ rm := by rw [← Nat.pow_add, ← Nat.pow_add, ← Nat.pow_add, ← Nat.pow_add, e]
  have p1 := Nat.two_pow_pos qp
  have p2 := Nat.two_pow_pos rm
  generalize 2 ^ qp = a1 at *
  generalize 2 ^ qm = a2 at *
  generalize 2 ^ rp = a3 at *
  generalize 2 ^ rm = a4 at *
  generalize 2 ^ kp = a5 at *
  generalize 2 ^ km = a6 at *
  refine Nat.eq_of_mul_eq_mul_right (Nat.mul_pos p1 p2) ?_
  calc c * J * a5 * (a1 * a4) = (c * a1) * (J * a4) * a5 := by ac_rfl
    _ = (I * a2) * (d * a3) * a5 := by rw [h1, h2]
    _ = I * d * (a5 * a2 * a3) := by ac_rfl
    _ = I * d * (a6 * a1 * a4) := by rw [e']
    _ = I * d * a6 * (a1 * a4) := by ac_rfl
/-- a quotient of two whole doubles: the rounded ratio of the two -/
theorem own_ddiv_round {i j : Int} {a b : UInt64} (ha : DInt i a) (hb : DInt j b) (hj : 0 < j) : ∃ sg, val64 (ddiv a b) = roundRatio b64 sg i.natAbs j.natAbs 0 ∧ (i ≠ 0 → sg = decide (i < 0)) := by
  rw [val64_ddiv]
  unfold DInt at ha hb
  generalize val64 a = x at *
  generalize val64 b = y at *
  cases x with
  | nan => exact ha.elim
  | inf => exact ha.elim
  | fin s c q =>
  cases y with
  | nan => exact hb.elim
  | inf => exact hb.elim
  | fin t d r =>
    have h1 := whole_natAbs ha
    have h2 := whole_natAbs hb
    have hd : d ≠ 0 := by have := whole_zero hb; omega
    refine ⟨s != t, ?_, fun hi => ?_⟩
    · show (if d = 0 then (if c = 0 then Datum.nan else .inf (s != t)) else roundRatio b64 (s != t) c d (q - r)) = _
      rw [if_neg hd]
      exact roundRatio_congr (by omega) (by omega) (own_cross h1 h2 (by omega))
    · rw [whole_sign ha hi, whole_sign hb (by omega)]
      simp [show ¬ j < 0 by omega]
theorem own_div_le {sg : Bool} {A B : Nat} {V : UInt64} (hB : 0 < B) (hV : val64 V ≠ .nan) (h : A * one64 ≤ zmag b64 (val64 V) * B) : zmag b64 (roundRatio b64 sg A B 0) ≤ zmag b64 (val64 V) := by
  refine zmag_roundRatio_le good_b64 hB (val64_fits V) hV (e0 := b64.qmin) (Int.le_refl _) (by decide) ?_
  show A * 2 ^ (0 - b64.qmin).toNat ≤ _ * 2 ^ (b64.qmin - b64.qmin).toNat * B
  rw [Int.zero_sub, pow_qmin64, Int.sub_self]
  simpa using h
theorem own_div_ge {sg : Bool} {A B : Nat} {V : UInt64} (hB : 0 < B) (h : zmag b64 (val64 V) * B ≤ A * one64) : zmag b64 (val64 V) ≤ zmag b64 (roundRatio b64 sg A B 0) := by
  refine zmag_roundRatio_ge good_b64 hB (val64_fits V) (e0 := b64.qmin) (Int.le_refl _) (by decide) ?_
  show _ * 2 ^ (b64.qmin - b64.qmin).toNat * B ≤ A * 2 ^ (0 - b64.qmin).toNat
  rw [Int.zero_sub, pow_qmin64, Int.sub_self]
  simpa using h
theorem own_scale {A B x y u : Nat} (h : A * x ≤ y * B) : A * (x * u) ≤ (y * u) * B := by
  have h2 := Nat.mul_le_mul_right u h
  calc A * (x * u) = A * x * u := by ac_rfl
    _ ≤ y * B * u := h2
    _ = (y * u) * B := by ac_rfl
theorem own_scale' {A B x y u : Nat} (h : y * B ≤ A * x) : (y * u) * B ≤ A * (x * u) := by
  have h2 := Nat.mul_le_mul_right u h
  calc (y * u) * B = y * B * u := by ac_rfl
    _ ≤ A * x * u := h2
    _ = A * (x * u) := by ac_rfl
end Jvm.FP.Core
namespace Jvm.RoadKit
open Sem ClassFile Op Lib Jvm.Stand Jvm.Free Jvm.LawKit
theorem own_DInt_nn {i : Int} {a : UInt64} (h : FP.Core.DInt i a) : Jvm.Free.Fl.NoNaN64 a := Jvm.Free.Fl.val64_no.mpr (FP.Core.DInt_ne_nan h)
theorem own_DInt0 : FP.Core.DInt 0 0 := by
  show FP.Core.Whole 0 (FP.Core.val64 0)
  rw [FP.Core.val64_zero]
  simp [FP.Core.Whole, FP.Core.signed]
/-- the int that a comparison of two whole doubles pushes -/
def own_c (i j : Int) : Int32 := if i < j then -1 else if i = j then 0 else 1
theorem own_c_lt (i j : Int) : own_c i j < 0 ↔ i < j := by unfold own_c; split <;> (try split) <;> first | (simp; omega) | simp_all
theorem own_c_gt (i j : Int) : 0 < own_c i j ↔ j < i := by unfold own_c; split <;> (try split) <;> first | (simp; omega) | (simp_all; done) | (simp_all; omega)
theorem own_c_eq (i j : Int) : own_c i j = 0 ↔ i = j := by unfold own_c; split <;> (try split) <;> first | (simp; omega) | (simp_all; done) | (simp_all; omega)
theorem own_cmpv (i j : Int) (o : CmpOp) : cmpValue (some (compare i j)) o = own_c i j := by
  unfold own_c
  rw [FP.Core.compare_ite]
  split <;> (try split) <;> cases o <;> rfl
theorem own_dcmp {i j : Int} {a b : UInt64} (ha : FP.Core.DInt i a) (hb : FP.Core.DInt j b) (o : CmpOp) : cmpValue (FP.dcmp a b) o = own_c i j := by
  rw [show FP.dcmp a b = some (compare i j) from FP.Core.dcmp_int ha hb, own_cmpv]
theorem own_dcmpz {a b : UInt64} (ha : Jvm.Free.Fl.NoNaN64 a) (hb : Jvm.Free.Fl.NoNaN64 b) (o : CmpOp) : cmpValue (FP.dcmp a b) o = own_c (FP.Core.zval FP.Core.b64 (FP.Core.val64 a)) (FP.Core.zval FP.Core.b64 (FP.Core.val64 b)) := by
  rw [show FP.dcmp a b = some (compare _ _) from FP.Core.dcmp_zval (Jvm.Free.Fl.val64_no.mp ha) (Jvm.Free.Fl.val64_no.mp hb), own_cmpv]
end Jvm.RoadKit
namespace Jvm.RoadKit
open Sem ClassFile Op Lib Jvm.Stand Jvm.Free Jvm.LawKit
section Own2
variable {p : Program} {l : Launch} {e : Env} {R : Room} {s : State} {m : MethodId} {args : Array Value} {below : List Frame} {meth : Method} {c : Code} {T T' : State} {locs : List Loc} {cells slots : Nat} {Z : State} {h h' h0 : Heap} {Q : Option Value → Heap → List Loc → Prop} {kc ks : Nat} {g g' : JFrame} {a0 : Array Value} {pc : Nat} {Ls : Array Slot} {rest : List Value} {a b : Addr} {n0 : Nat} {ty : FieldType} {vs : List Value} {C : String} {sl : Nat} {v : Value} {ws : List Addr}
theorem own_clone (X : Stand p l e R s m args below meth c T locs cells slots) (hx : p.tables.exec = Jvm.exec) (hZ : Z.Warmed39 s.vm) {own ad : String} {index : Nat} (hown : s.vm.findClass own = some m.cls)
    (w1 : (Cond.methodLink own index ⟨ad, "clone", "()Ljava/lang/Object;"⟩).before a0 Z = true) (w2 : (Cond.sameMethod ad "java/lang/Object" "clone" "()Ljava/lang/Object;").before a0 Z = true) (w3 : (Cond.native ⟨"java/lang/Object", "clone", "()Ljava/lang/Object;"⟩).before a0 Z = true)
    (w4 : (Cond.instanceMethod ⟨"java/lang/Object", "clone", "()Ljava/lang/Object;"⟩).before a0 Z = true) (w5 : (Cond.selects ad ⟨ad, "clone", "()Ljava/lang/Object;"⟩ ⟨"java/lang/Object", "clone", "()Ljava/lang/Object;"⟩).before a0 Z = true) (w6 : (Cond.castable ad "java/lang/Cloneable").before a0 Z = true)
    (eT : T.heap = h) (F : own_Ary Z h a ty vs) (E : Exa Z h a ad) (hfit : ∀ v ∈ vs, fits ty v = true) (hd : decode c.code pc = .ok (.invokevirtual index, 3)) (hsz : Ls.size = c.maxLocals) (hf : 1 ≤ R.frames) {W n : Nat} (hW : (rest.map fun v => v.category).sum ≤ W) (hl : W + 14 ≤ R.locals) (hn : vs.length = n) (hc : cells + 1 ≤ R.cells) (hsl : slots + n ≤ R.slots)
    (k : ∀ T' h' a', a' = h.size → Stand p l e R s m args below meth c T' locs (cells + 1) (slots + n) → T'.heap = h' → Ext h h' → own_Ary Z h' a' ty vs → Exa Z h' a' ad → own_Go p e below s Q kc ks T' (mkF m (pc + 3) Ls (.ref a' :: rest))) : own_Go p e below s Q kc ks T (mkF m pc Ls (.ref a :: rest)) := by
  obtain ⟨cl, A, r1, r2⟩ := F
  have hfc : FitC Z cl := fitC_of A fun i hi v hv => hfit v (by
    rw [← r1]
    exact List.mem_of_getElem? (i := i) (by simpa using hv))
  obtain ⟨T', h', X', e', Ex, A', E', st⟩ := cloneA X hx hZ hown w1 w2 w3 w4 w5 w6 eT A E hfc (g := mkF m pc Ls (.ref a :: rest)) rfl hsz rfl hd hf (W := W) (cap := n) (by show 2 * 0 + _ ≤ _; omega) hl (by rw [← hn, ← r1, Array.length_toList]; exact Nat.le_refl _) hc hsl
  exact own_pre st (k T' h' _ rfl X' e' Ex ⟨_, A', r1, r2⟩ E')
theorem own_cast1 (X : Stand p l e R s m args below meth c T locs cells slots) (hx : p.tables.exec = Jvm.exec) (hZ : Z.Warmed39 s.vm) {own K : String} {index : Nat} (hown : s.vm.findClass own = some m.cls) (w : (Cond.classLink own index K).before a0 Z = true) (eT : T.heap = h) (F : Ins Z h a K true) (hd : decode c.code pc = .ok (.checkcast index, 3))
    (k : ∀ T', Stand p l e R s m args below meth c T' locs cells slots → T'.heap = h → own_Go p e below s Q kc ks T' (mkF m (pc + 3) Ls (.ref a :: rest))) : own_Go p e below s Q kc ks T (mkF m pc Ls (.ref a :: rest)) := by
  obtain ⟨T', X', e', st⟩ := castY X hx hZ hown w eT F (g := mkF m pc Ls (.ref a :: rest)) rfl rfl hd
  exact own_pre st (k T' X' e')
theorem own_inst1 (X : Stand p l e R s m args below meth c T locs cells slots) (hx : p.tables.exec = Jvm.exec) (hZ : Z.Warmed39 s.vm) {own K : String} {index : Nat} (hown : s.vm.findClass own = some m.cls) (w : (Cond.classLink own index K).before a0 Z = true) (eT : T.heap = h) (F : Ins Z h a K true) (hd : decode c.code pc = .ok (.instanceof index, 3))
    (k : ∀ T', Stand p l e R s m args below meth c T' locs cells slots → T'.heap = h → own_Go p e below s Q kc ks T' (mkF m (pc + 3) Ls (.int 1 :: rest))) : own_Go p e below s Q kc ks T (mkF m pc Ls (.ref a :: rest)) := by
  obtain ⟨T', X', e', st⟩ := instY X hx hZ hown w eT F (g := mkF m pc Ls (.ref a :: rest)) rfl rfl hd
  exact own_pre st (k T' X' e')
theorem own_zastore (X : Stand p l e R s m args below meth c T locs cells slots) (hx : p.tables.exec = Jvm.exec) (hZ : Z.Warmed39 s.vm) (eT : T.heap = h) (N : Fr n0 locs) (q : n0 ≤ a) (F : own_Ary Z h a .boolean vs) (hd : decode c.code pc = .ok (.bastore, 1)) {j x x' : Int32} {n : Nat} (h0 : 0 ≤ j) (hj : j.toNatClampNeg = n) (hv : n < vs.length) (hnar : nar .boolean x = x')
    (k : ∀ T' h' locs', Stand p l e R s m args below meth c T' locs' cells slots → T'.heap = h' → Fr n0 locs' → Wr h h' a n (.int x') → own_Go p e below s Q kc ks T' (mkF m (pc + 1) Ls rest)) : own_Go p e below s Q kc ks T (mkF m pc Ls (.int x :: .int j :: .ref a :: rest)) := by
  obtain ⟨cl, A, r1, r2⟩ := F
  obtain ⟨T', h', X', e', W, st⟩ := stZ X hx hZ eT A (j := j) (x := x) (own_inb h0 r1 hj hv) (g := mkF m pc Ls (.int x :: .int j :: .ref a :: rest)) rfl rfl hd
  exact own_pre st (k T' h' _ X' e' (Fr.snoc X' N q) (hnar ▸ hj ▸ W))
/-- the array's class is that of arrays over C -/
def own_Ovr (Z : State) (h : Heap) (a : Addr) (C : String) : Prop := ∃ c : Cell, h[a]? = some c ∧ Ovr Z c.cls C
theorem own_Ovr.lt (F : own_Ovr Z h a C) : a < h.size := by obtain ⟨c, h1, -⟩ := F; exact (Array.getElem?_eq_some_iff.mp h1).1
theorem own_Ovr.ext (F : own_Ovr Z h a C) (E : Ext h h') : own_Ovr Z h' a C := by obtain ⟨c, h1, r⟩ := F; exact ⟨c, E.2 _ _ h1, r⟩
theorem own_Ovr.wr (F : own_Ovr Z h b C) (W : Wr h h' a sl v) : own_Ovr Z h' b C := by
  obtain ⟨c, h1, r⟩ := F
  obtain ⟨c', e1, e2, -⟩ := wr_at W h1
  exact ⟨c', e1, by rw [e2]; exact r⟩
theorem own_Ovr.keep (F : own_Ovr Z h a C) (K : Keep h h' ws) : own_Ovr Z h' a C := by
  obtain ⟨c, h1, r⟩ := F
  obtain ⟨c', e1, e2, -⟩ := K.2.2 a c h1
  exact ⟨c', e1, by rw [e2]; exact r⟩
theorem own_anewarr (X : Stand p l e R s m args below meth c T locs cells slots) (hx : p.tables.exec = Jvm.exec) (hZ : Z.Warmed39 s.vm) {own : String} {index : Nat} (hown : s.vm.findClass own = some m.cls) (w1 : (Cond.classLink own index C).before a0 Z = true) (w2 : (Cond.arrayOver (.object C)).before a0 Z = true) (eT : T.heap = h) (hd : decode c.code pc = .ok (.anewarray index, 3)) {z : Int32} {n : Nat} (h0 : 0 ≤ z) (hz : z.toNatClampNeg = n) (hb : n * 8 ≤ 536870912) (hc : cells + 1 ≤ R.cells) (hl : slots + n ≤ R.slots) {ad : String} (had : "[" ++ (FieldType.object C).toString = ad)
    (k : ∀ T' h' a, a = h.size → Stand p l e R s m args below meth c T' locs (cells + 1) (slots + n) → T'.heap = h' → Ext h h' → own_Ary Z h' a (.object C) (List.replicate n .null) → Exa Z h' a ad → own_Ovr Z h' a C → own_Go p e below s Q kc ks T' (mkF m (pc + 3) Ls (.ref a :: rest))) : own_Go p e below s Q kc ks T (mkF m pc Ls (.int z :: rest)) := by
  obtain ⟨T', h', cA, X', e', E, A, E2, O, st⟩ := newRE X hx hZ hown w1 w2 eT (g := mkF m pc Ls (.int z :: rest)) rfl hd rfl (Int32.not_lt.mpr h0) (cap := n) (Nat.le_of_eq hz) hb hc hl had
  exact own_pre st (k T' h' _ rfl X' e' E (own_Ary.new A hz) E2 ⟨_, A.1, O⟩)
theorem own_aastore (X : Stand p l e R s m args below meth c T locs cells slots) (hx : p.tables.exec = Jvm.exec) (hZ : Z.Warmed39 s.vm) (eT : T.heap = h) (N : Fr n0 locs) (q : n0 ≤ a) (F : own_Ary Z h a (.object C) vs) (O : own_Ovr Z h a C) (I : Ins Z h b C true) (hd : decode c.code pc = .ok (.aastore, 1)) {j : Int32} {n : Nat} (h0 : 0 ≤ j) (hj : j.toNatClampNeg = n) (hv : n < vs.length)
    (k : ∀ T' h' locs', Stand p l e R s m args below meth c T' locs' cells slots → T'.heap = h' → Fr n0 locs' → Wr h h' a n (.ref b) → own_Go p e below s Q kc ks T' (mkF m (pc + 1) Ls rest)) : own_Go p e below s Q kc ks T (mkF m pc Ls (.ref b :: .int j :: .ref a :: rest)) := by
  obtain ⟨cl, A, r1, r2⟩ := F
  obtain ⟨c', o1, o2⟩ := O
  cases o1.symm.trans A.1
  obtain ⟨T', h', X', e', W, st⟩ := stR X hx hZ eT A (j := j) (v := .ref b) (own_inb h0 r1 hj hv) rfl (Sto.of A o2 I) (g := mkF m pc Ls (.ref b :: .int j :: .ref a :: rest)) rfl rfl hd
  exact own_pre st (k T' h' _ X' e' (Fr.snoc X' N q) (hj ▸ W))
theorem own_aastore0 (X : Stand p l e R s m args below meth c T locs cells slots) (hx : p.tables.exec = Jvm.exec) (hZ : Z.Warmed39 s.vm) (eT : T.heap = h) (N : Fr n0 locs) (q : n0 ≤ a) (F : own_Ary Z h a (.object C) vs) (hd : decode c.code pc = .ok (.aastore, 1)) {j : Int32} {n : Nat} (h0 : 0 ≤ j) (hj : j.toNatClampNeg = n) (hv : n < vs.length)
    (k : ∀ T' h' locs', Stand p l e R s m args below meth c T' locs' cells slots → T'.heap = h' → Fr n0 locs' → Wr h h' a n .null → own_Go p e below s Q kc ks T' (mkF m (pc + 1) Ls rest)) : own_Go p e below s Q kc ks T (mkF m pc Ls (.null :: .int j :: .ref a :: rest)) := by
  obtain ⟨cl, A, r1, r2⟩ := F
  obtain ⟨T', h', X', e', W, st⟩ := stR X hx hZ eT A (j := j) (v := .null) (own_inb h0 r1 hj hv) rfl (Or.inl rfl) (g := mkF m pc Ls (.null :: .int j :: .ref a :: rest)) rfl rfl hd
  exact own_pre st (k T' h' _ X' e' (Fr.snoc X' N q) (hj ▸ W))
theorem own_callp (X : Stand p l e R s m args below meth c T locs cells slots) (hx : p.tables.exec = Jvm.exec) (hZ : Z.Warmed39 s.vm) {own : String} {index : Nat} (hown : s.vm.findClass own = some m.cls) {y : MethodName} {bytes : ByteArray} {maxL : Nat} {ret : Option FieldType} {rm : Room} {argsL : List Value} {Qc : Option Value → Heap → List Loc → Prop}
    (hM : MetFree l y (head1 [Cond.code y bytes maxL ret] rm) (fun a' U => a' = (.ref a :: argsL).toArray ∧ Z.Warmed39 U.vm ∧ U.heap = h) (fun _ _ _ _ _ => True) (fun _ U o U' => ∃ v L, o = .returned v ∧ Qc v U'.heap L ∧ FrameEnd U o U' L rm.cells rm.slots))
    (E : Exa Z h a C) (w1 : (Cond.methodLink own index y).before a0 Z = true) {kk : Nat} (wi : (Cond.instantiable y.cls kk).before a0 Z = true) (w5 : (Cond.privateMethod y).before a0 Z = true) (w6 : (Cond.instanceMethod y).before a0 Z = true) (w3 : (Cond.code y bytes maxL ret).before a0 Z = true) (w4 : (Cond.initialized y.cls).before a0 Z = true) (hy : y.cls ≠ "java/lang/invoke/MethodHandle" ∧ y.cls ≠ "java/lang/invoke/VarHandle")
    (eT : T.heap = h) (hd : decode c.code pc = .ok (.invokevirtual index, 3)) (hsz : Ls.size = c.maxLocals) {stk : List Value} (hstk : stk = argsL.reverse ++ .ref a :: rest) (hlen : ∀ sig, parseMethodDescriptor y.desc = some sig → argsL.length = sig.parameters.length) (hf : rm.frames + 1 ≤ R.frames) {W : Nat} (hW : (rest.map fun v => v.category).sum ≤ W) (hl : W + (maxL + 11) + rm.locals ≤ R.locals) (hc : cells + rm.cells ≤ R.cells) (hs : slots + rm.slots ≤ R.slots)
    (k : ∀ v T' L, Stand p l e R s m args below meth c T' (locs ++ L) (cells + rm.cells) (slots + rm.slots) → Qc v T'.heap L → own_Go p e below s Q kc ks T' (mkF m (pc + 3) Ls (v.toList ++ rest))) : own_Go p e below s Q kc ks T (mkF m pc Ls stk) := by
  obtain ⟨cq, q1, q2⟩ := E.cell
  have hpr : s.PrivateAt y := Cond.privateMethod_at (mvP hZ w5 (args := #[]))
  have wi' : (Cond.instantiable y.cls kk).before args s = true := mvT hZ wi
  obtain ⟨ci, ki, i1, i2, -, i4, -⟩ := Cond.instantiable_spec wi'
  have hsel : (Cond.selects y.cls y y).before args s = true := selects_self_of_private i1 i2 (by cases hb : ki.isInterface <;> simp [hb] at i4 ⊢) hpr (mvT hZ w6) hy
  obtain ⟨v, _, ⟨T', L', k', n'⟩, -, X', ⟨L, hQ, e1, e2, e3⟩, st⟩ := X.privateBack hx (y := y) hown (mvT hZ w1) (mvT hZ w6) hsel hpr (mvT hZ w3) hy (backOf (W := W) hM hZ w3 w4 hf hl) (g := mkF m pc Ls stk) rfl hsz (Steps.refl _) (a := a) (by rw [eT]; exact q1) q2 (argsL := argsL) (rest := rest) hlen hstk (by show 2 * 0 + _ ≤ _; omega) hd (fun _ _ => ⟨rfl, eT, hc, hs⟩)
  dsimp only at X' e1 e2 e3 st hQ
  subst e1 e2 e3
  exact own_tr st (k v T' L X' hQ)
end Own2
end Jvm.RoadKit
namespace Jvm.RoadKit
open Sem ClassFile Op Lib Jvm.Stand Jvm.Free Jvm.LawKit
section Own3
variable {p : Program} {l : Launch} {e : Env} {R : Room} {s : State} {m : MethodId} {args : Array Value} {below : List Frame} {meth : Method} {c : Code} {T T' : State} {locs : List Loc} {cells slots : Nat} {Z : State} {h h' h0 : Heap} {Q : Option Value → Heap → List Loc → Prop} {kc ks : Nat} {g g' : JFrame} {a0 : Array Value} {pc : Nat} {Ls : Array Slot} {rest : List Value} {a b : Addr} {n0 : Nat} {ty : FieldType} {vs : List Value} {C : String} {sl : Nat} {v : Value} {ws : List Addr}
theorem own_initR (X : Stand p l e R s m args below meth c T locs cells slots) (hx : p.tables.exec = Jvm.exec) (hZ : Z.Warmed39 s.vm) {own : String} {index : Nat} (hown : s.vm.findClass own = some m.cls) {y : MethodName} {bytes : ByteArray} {maxL : Nat} {rm : Room} {argsL : List Value} {Qc : Option Value → Heap → List Loc → Prop}
    (hM : MetFree l y (head1 [Cond.code y bytes maxL none] rm) (fun a' U => a' = (.ref a :: argsL).toArray ∧ Z.Warmed39 U.vm ∧ U.heap = h) (fun _ _ _ _ _ => True) (fun _ U o U' => ∃ v L, o = .returned v ∧ Qc v U'.heap L ∧ FrameEnd U o U' L rm.cells rm.slots))
    (hy1 : y.name = "<init>") (w1 : (Cond.methodRef own index y).before a0 Z = true) (w2 : (Cond.instanceMethod y).before a0 Z = true) (w3 : (Cond.code y bytes maxL none).before a0 Z = true) (w4 : (Cond.initialized y.cls).before a0 Z = true) (hy : y.cls ≠ "java/lang/invoke/MethodHandle" ∧ y.cls ≠ "java/lang/invoke/VarHandle")
    (eT : T.heap = h) (hd : decode c.code pc = .ok (.invokespecial index, 3)) (hsz : Ls.size = c.maxLocals) {stk : List Value} (hstk : stk = argsL.reverse ++ .ref a :: rest) (hlen : ∀ sig, parseMethodDescriptor y.desc = some sig → argsL.length = sig.parameters.length) (hf : rm.frames + 1 ≤ R.frames) {W : Nat} (hW : (rest.map fun v => v.category).sum ≤ W) (hl : W + (maxL + 11) + rm.locals ≤ R.locals) (hc : cells + rm.cells ≤ R.cells) (hs : slots + rm.slots ≤ R.slots)
    (k : ∀ v T' L, Stand p l e R s m args below meth c T' (locs ++ L) (cells + rm.cells) (slots + rm.slots) → Qc v T'.heap L → own_Go p e below s Q kc ks T' (mkF m (pc + 3) Ls (v.toList ++ rest))) : own_Go p e below s Q kc ks T (mkF m pc Ls stk) := by
  have hZT : Z.Warmed39 T.vm := wtrans hZ X.warmed
  have i2 : (Cond.instanceMethod y).before args T = true := mv (s := T) hZT w2
  obtain ⟨mk, methM, hnamed, hmethM, hstM, habM⟩ := Cond.instanceMethod_spec i2
  have i3 : (Cond.code y bytes maxL none).before args T = true := mv (s := T) hZT w3
  obtain ⟨methM', cM, hmethM', -, -, -, -, -, -, hsigM⟩ := Cond.code_spec hnamed i3
  cases hmethM.symm.trans hmethM'
  obtain ⟨kO, hkO, hnameO⟩ := className_of_methodNamed hnamed
  obtain ⟨hnameMO, hdescO⟩ := name_of_methodNamed hnamed hmethM
  obtain ⟨mZ, hnZ⟩ := Cond.code_named w3
  have r1 := Cond.methodRef_warmed39 hZT hnZ hy w1
  have hownT : (Z.setVm T.vm).vm.findClass own = some m.cls := by show T.vm.findClass own = _; rw [X.warmed.alike.findClass]; exact hown
  obtain ⟨m1, c1, f1, hready, f3, hnr⟩ := Cond.methodRef_named e hownT r1
  have hnamed' : (Z.setVm T.vm).methodNamed? y = some mk := hnamed
  have f4 := State.methodFound?_of_named hnamed' hy
  cases f1.symm.trans f4
  have f5 : (Z.setVm T.vm).vm.findClass y.cls = some mk.cls := findClass_of_methodNamed hnamed'
  cases f3.symm.trans f5
  have hfound : lookupSpecial T.vm mk.cls "<init>" methM.desc = .method mk := by
    rw [hdescO, ← hy1]; exact lookupSpecial_of_named hnamed hmethM hstM
  have hname : methM.name = "<init>" := by rw [hnameMO]; exact hy1
  obtain ⟨v, ⟨T', L', k', n'⟩, X', ⟨L, hQ, e1, e2, e3⟩, hsteps⟩ := (backOf (W := W) (len := 3) hM hZ w3 w4 hf hl : Back l R p e below s args y 3 W _ _) m meth c ⟨T, locs, cells, slots⟩ (mkF m pc Ls rest) (.invokespecial index) mk (.ref a :: argsL).toArray X rfl hsz hd (by show 2 * 0 + (rest.map fun v => v.category).sum ≤ W; omega) hnamed ⟨rfl, eT, hc, hs⟩
  dsimp only at X' e1 e2 e3 hsteps hQ
  subst e1 e2 e3
  refine own_tr (T' := T') (g' := mkF m (pc + 3) Ls (v.toList ++ rest)) ?_ (k v T' L X' hQ)
  show Steps p.tables e below (T.setTop { method := m, pc := pc, locals := Ls, stack := stk, locked := none }) _
  jvm_step X.here [hx, hd, invokespecial.wp_init (e := e) (s := T) (k := kO) (meth := methM) (m := mk) (a := a) (args := argsL) (rest := rest) (f := mkF m pc Ls stk) X.here.top hnr hready hkO hmethM hname hstM habM hfound (hlen _ hsigM) hstk]
  first | exact hsteps | (intro acts; rw [doInvoke_state]; exact hsteps)
theorem own_exs (E : Exa Z h a C) : ∀ cell : Cell, h[a]? = some cell → cell.vm.isStatics = false := fun cell hc => by
  obtain ⟨c1, _, h1, -, -, h4, -⟩ := E
  cases h1.symm.trans hc; exact h4
theorem own_Sta_keep {n d : String} (F : Sta Z h C n d v) (K : Keep h h' ws) (q : ∀ x ∈ ws, ∀ cell : Cell, h[x]? = some cell → cell.vm.isStatics = false) : Sta Z h' C n d v := by
  obtain ⟨cf, i, k, f, st, cell, h1, h2, h3, h4, h5, h6, h7⟩ := F
  refine ⟨cf, i, k, f, st, cell, h1, h2, h3, h4, K.2.1 _ _ h5 (fun hm => ?_), h6, h7⟩
  rw [q st hm cell h5] at h6; cases h6
theorem own_maxd (X : Stand p l e R s m args below meth c T locs cells slots) (hx : p.tables.exec = Jvm.exec) (hZ : Z.Warmed39 s.vm) {own : String} {index : Nat} (hown : s.vm.findClass own = some m.cls)
    (w1 : (Cond.methodLink own index Jvm.Free.Fl.Abs.maxDN).before a0 Z = true) (w2 : (Cond.static Jvm.Free.Fl.Abs.maxDN).before a0 Z = true) (w3 : (Cond.initialized "java/lang/Math").before a0 Z = true) (w4 : (Cond.code Jvm.Free.Fl.Abs.maxDN Jvm.Free.Fl.Abs.maxDCode 4 (some .double)).before a0 Z = true)
    (eT : T.heap = h) (hd : decode c.code pc = .ok (.invokestatic index, 3)) (hsz : Ls.size = c.maxLocals) {x y r : UInt64} (ha : Jvm.Free.Fl.NoNaN64 x) (hb : Jvm.Free.Fl.NoNaN64 y) (hr : Native.java_lang_Math.nans.pick64 true x y = r) (hf : 1 ≤ R.frames) {W : Nat} (hW : (rest.map fun v => v.category).sum ≤ W) (hl : W + 15 ≤ R.locals) (hc : cells ≤ R.cells) (hs : slots ≤ R.slots)
    (k : ∀ T', Stand p l e R s m args below meth c T' locs cells slots → T'.heap = h → own_Go p e below s Q kc ks T' (mkF m (pc + 3) Ls (.double r :: rest))) : own_Go p e below s Q kc ks T (mkF m pc Ls (.double y :: .double x :: rest)) := by
  have hlen : ∀ sig, parseMethodDescriptor Jvm.Free.Fl.Abs.maxDN.desc = some sig → ([.double x, .double y] : List Value).length = sig.parameters.length := lenOf (d := "(DD)D") (ps := [.double, .double]) (r := some .double) (by decide) rfl
  obtain ⟨T', X', e', st⟩ := natS X hx hZ (y := Jvm.Free.Fl.Abs.maxDN) hown w1 w2 w3 w4 (by decide) eT (W := W) (fun q => Jvm.Free.Fl.Abs.maxD_pays x y q hf hl) (g := mkF m pc Ls (.double y :: .double x :: rest)) rfl hsz (argsL := [.double x, .double y]) (rest := rest) hlen rfl (by show 2 * 0 + _ ≤ _; omega) hd hc hs ⟨rfl, ha, hb⟩ (congrArg Value.double hr)
  exact own_pre st (k T' X' e')
end Own3
end Jvm.RoadKit
namespace Jvm.Pilot.@@N@@
open Jvm Jvm.ClassFile Sem Op Lib Jvm.Free Jvm.Stand Jvm.LawKit Jvm.RoadKit Bundle Jvm.Pilot.@@N@@.Jvm.D
theorem own_w {a0 : Array Value} {Z : State} (hw : ∀ d ∈ tables_1, d.before a0 Z = true) (i : Nat) {d : Jvm.Cond} (h : tables_1[i]? = some d) : d.before a0 Z = true := hw _ (List.mem_of_getElem? h)
theorem own_sne {Z : State} {a0 : Array Value} {C O n d O' n' d' : String} {t t' : FieldType} (L : Laid Z a0 C O n d ∧ parseFieldDescriptor d = some t) (L' : Laid Z a0 C O' n' d' ∧ parseFieldDescriptor d' = some t') (hn : n ≠ n') : Jvm.RoadKit.slotOf Z O n d ≠ Jvm.RoadKit.slotOf Z O' n' d' := slot_ne L.1 L'.1 hn L.2 L'.2
abbrev own_rD (n : Nat) : List Value := List.replicate n (.double (0 : UInt64))
abbrev own_rI (n : Nat) : List Value := List.replicate n (.int (0 : Int32))
abbrev own_rJ (n : Nat) : List Value := List.replicate n (.long (0 : Int64))
abbrev own_rN (n : Nat) : List Value := List.replicate n .null
abbrev own_k0 : String := "com/example/rankline/rankline/Buckets"
abbrev own_k1 : String := "com/example/rankline/rankline/Extent"
abbrev own_k2 : String := "com/example/rankline/rankline/Extent$Cover"
abbrev own_k3 : String := "com/example/rankline/rankline/ValueCounts"
abbrev own_k4 : String := "[Lcom/example/rankline/rankline/Extent;"
abbrev own_k5 : String := "(DDD)Lcom/example/rankline/rankline/Extent;"
abbrev own_k6 : String := "(IDDLcom/example/rankline/rankline/Extent;J)I"
abbrev own_k7 : String := "(DDLcom/example/rankline/rankline/Extent;J)V"
theorem own_rng {a0 a1 a2 a3 a4 r0 r1 r2 r3 c : Int32} (h0 : (a0 &&& (1048575 : Int32)) + (1 : Int32) = r0) (h1 : r0 + (a1 &&& (1048575 : Int32)) = r1) (h2 : r1 + (a2 &&& (1048575 : Int32)) + (1 : Int32) = r2) (h3 : r2 + (a3 &&& (1048575 : Int32)) + (1 : Int32) = r3) (h4 : (a4 &&& (1048575 : Int32)) + (1 : Int32) = c) :
    1 ≤ r0.toInt ∧ r0.toInt ≤ r1.toInt ∧ r1.toInt < r2.toInt ∧ r2.toInt < r3.toInt ∧ r3.toInt ≤ 8388608 ∧ 1 ≤ c.toInt ∧ c.toInt ≤ 8388608 := by
  have m0 := c_mask a0 1048575 20 (by decide) (by decide)
  have m1 := c_mask a1 1048575 20 (by decide) (by decide)
  have m2 := c_mask a2 1048575 20 (by decide) (by decide)
  have m3 := c_mask a3 1048575 20 (by decide) (by decide)
  have m4 := c_mask a4 1048575 20 (by decide) (by decide)
  have o : (1 : Int32).toInt = 1 := rfl
  have b0 := c_iadd (a0 &&& 1048575) 1
  have b1 := c_iadd r0 (a1 &&& 1048575)
  have b2 := c_iadd r1 (a2 &&& 1048575)
  have b2' := c_iadd (r1 + (a2 &&& 1048575)) 1
  have b3 := c_iadd r2 (a3 &&& 1048575)
  have b3' := c_iadd (r2 + (a3 &&& 1048575)) 1
  have b4 := c_iadd (a4 &&& 1048575) 1
  rw [h0] at b0
  rw [h1] at b1
  rw [h2] at b2'
  rw [h3] at b3'
  rw [h4] at b4
  rw [o] at b0 b2' b3' b4
  have q0 := rng32 r0
  have q1 := rng32 r1
  have q2 := rng32 r2
  have q3 := rng32 r3
  have q4 := rng32 c
  have q5 := rng32 (r1 + (a2 &&& 1048575))
  have q6 := rng32 (r2 + (a3 &&& 1048575))
  omega
theorem own_cl {c : Int32} {x z : Int64} (h1 : c.toInt64 = x) (h : (0 : Int64) + x = z) : z.toInt = c.toInt := by
  have a := c_ladd 0 x
  have r := rng64 z
  have q := rng32 c
  have e := c_i2l c
  rw [h1] at e
  rw [h] at a
  have o : (0 : Int64).toInt = 0 := rfl
  rw [o] at a
  omega
theorem own_dif {x y z : Int32} (h : x - y = z) (hx : 0 ≤ x.toInt) (hy : 0 ≤ y.toInt) : z.toInt = x.toInt - y.toInt := by
  have b := c_isub x y
  have r := rng32 z
  have q := rng32 x
  have q' := rng32 y
  rw [h] at b
  omega

theorem own_pn0 : plainName "com/example/rankline/rankline/BucketsCountPinLaw" = true := by first | (simp [plainName, overriddenIn]; done) | decide +kernel
theorem d1_0 : decode prog_5_method_1_code 0 = .ok (.aload_n 0, 1) := by decide +kernel
theorem d1_1 : decode prog_5_method_1_code 1 = .ok (.invokespecial 1, 3) := by decide +kernel
theorem d1_4 : decode prog_5_method_1_code 4 = .ok (.aload_n 0, 1) := by decide +kernel
theorem d1_5 : decode prog_5_method_1_code 5 = .ok (.bipush 16, 2) := by decide +kernel
theorem d1_7 : decode prog_5_method_1_code 7 = .ok (.newarray .double, 2) := by decide +kernel
theorem d1_9 : decode prog_5_method_1_code 9 = .ok (.putfield 9, 3) := by decide +kernel
theorem d1_12 : decode prog_5_method_1_code 12 = .ok (.aload_n 0, 1) := by decide +kernel
theorem d1_13 : decode prog_5_method_1_code 13 = .ok (.bipush 16, 2) := by decide +kernel
theorem d1_15 : decode prog_5_method_1_code 15 = .ok (.newarray .double, 2) := by decide +kernel
theorem d1_17 : decode prog_5_method_1_code 17 = .ok (.putfield 13, 3) := by decide +kernel
theorem d1_20 : decode prog_5_method_1_code 20 = .ok (.aload_n 0, 1) := by decide +kernel
theorem d1_21 : decode prog_5_method_1_code 21 = .ok (.bipush 16, 2) := by decide +kernel
theorem d1_23 : decode prog_5_method_1_code 23 = .ok (.newarray .boolean, 2) := by decide +kernel
theorem d1_25 : decode prog_5_method_1_code 25 = .ok (.putfield 16, 3) := by decide +kernel
theorem d1_28 : decode prog_5_method_1_code 28 = .ok (.aload_n 0, 1) := by decide +kernel
theorem d1_29 : decode prog_5_method_1_code 29 = .ok (.bipush 16, 2) := by decide +kernel
theorem d1_31 : decode prog_5_method_1_code 31 = .ok (.anewarray 20, 3) := by decide +kernel
theorem d1_34 : decode prog_5_method_1_code 34 = .ok (.putfield 22, 3) := by decide +kernel
theorem d1_37 : decode prog_5_method_1_code 37 = .ok (.aload_n 0, 1) := by decide +kernel
theorem d1_38 : decode prog_5_method_1_code 38 = .ok (.bipush 16, 2) := by decide +kernel
theorem d1_40 : decode prog_5_method_1_code 40 = .ok (.newarray .boolean, 2) := by decide +kernel
theorem d1_42 : decode prog_5_method_1_code 42 = .ok (.putfield 26, 3) := by decide +kernel
theorem d1_45 : decode prog_5_method_1_code 45 = .ok (.aload_n 0, 1) := by decide +kernel
theorem d1_46 : decode prog_5_method_1_code 46 = .ok (.bipush 16, 2) := by decide +kernel
theorem d1_48 : decode prog_5_method_1_code 48 = .ok (.newarray .long, 2) := by decide +kernel
theorem d1_50 : decode prog_5_method_1_code 50 = .ok (.putfield 29, 3) := by decide +kernel
theorem d1_53 : decode prog_5_method_1_code 53 = .ok (.aload_n 0, 1) := by decide +kernel
theorem d1_54 : decode prog_5_method_1_code 54 = .ok (.bipush 16, 2) := by decide +kernel
theorem d1_56 : decode prog_5_method_1_code 56 = .ok (.newarray .int, 2) := by decide +kernel
theorem d1_58 : decode prog_5_method_1_code 58 = .ok (.putfield 33, 3) := by decide +kernel
theorem d1_61 : decode prog_5_method_1_code 61 = .ok (.aload_n 0, 1) := by decide +kernel
theorem d1_62 : decode prog_5_method_1_code 62 = .ok (.bipush 16, 2) := by decide +kernel
theorem d1_64 : decode prog_5_method_1_code 64 = .ok (.newarray .int, 2) := by decide +kernel
theorem d1_66 : decode prog_5_method_1_code 66 = .ok (.putfield 37, 3) := by decide +kernel
theorem d1_69 : decode prog_5_method_1_code 69 = .ok (.aload_n 0, 1) := by decide +kernel
theorem d1_70 : decode prog_5_method_1_code 70 = .ok (.iconst (-1), 1) := by decide +kernel
theorem d1_71 : decode prog_5_method_1_code 71 = .ok (.putfield 40, 3) := by decide +kernel
theorem d1_74 : decode prog_5_method_1_code 74 = .ok (.aload_n 0, 1) := by decide +kernel
theorem d1_75 : decode prog_5_method_1_code 75 = .ok (.iconst (-1), 1) := by decide +kernel
theorem d1_76 : decode prog_5_method_1_code 76 = .ok (.putfield 44, 3) := by decide +kernel
theorem d1_79 : decode prog_5_method_1_code 79 = .ok (.aload_n 0, 1) := by decide +kernel
theorem d1_80 : decode prog_5_method_1_code 80 = .ok (.iconst (-1), 1) := by decide +kernel
theorem d1_81 : decode prog_5_method_1_code 81 = .ok (.putfield 47, 3) := by decide +kernel
theorem d1_84 : decode prog_5_method_1_code 84 = .ok (.aload_n 0, 1) := by decide +kernel
theorem d1_85 : decode prog_5_method_1_code 85 = .ok (.ldc2_w 52, 3) := by decide +kernel
theorem d1_88 : decode prog_5_method_1_code 88 = .ok (.putfield 54, 3) := by decide +kernel
theorem d1_91 : decode prog_5_method_1_code 91 = .ok (.return_, 1) := by decide +kernel
theorem own_pn1 : plainName "com/example/rankline/rankline/Buckets" = true := by first | (simp [plainName, overriddenIn]; done) | decide +kernel
theorem own_f0 {a0 : Array Value} {Z : State} (hw : ∀ d ∈ tables_1, d.before a0 Z = true) : Laid Z a0 own_k0 own_k0 "ranks" "[D" ∧ parseFieldDescriptor "[D" = some (.array .double) := ⟨(Or.inl (own_w hw 16 rfl)), by decide⟩
theorem own_f1 {a0 : Array Value} {Z : State} (hw : ∀ d ∈ tables_1, d.before a0 Z = true) : Laid Z a0 own_k0 own_k0 "thresholds" "[D" ∧ parseFieldDescriptor "[D" = some (.array .double) := ⟨(Or.inl (own_w hw 14 rfl)), by decide⟩
theorem own_f2 {a0 : Array Value} {Z : State} (hw : ∀ d ∈ tables_1, d.before a0 Z = true) : Laid Z a0 own_k0 own_k0 "guarded" "[Z" ∧ parseFieldDescriptor "[Z" = some (.array .boolean) := ⟨(Or.inl (own_w hw 19 rfl)), by decide⟩
theorem own_f3 {a0 : Array Value} {Z : State} (hw : ∀ d ∈ tables_1, d.before a0 Z = true) : Laid Z a0 own_k0 own_k0 "extents" own_k4 ∧ parseFieldDescriptor own_k4 = some (.array (.object own_k1)) := ⟨(Or.inl (own_w hw 23 rfl)), by decide⟩
theorem own_f4 {a0 : Array Value} {Z : State} (hw : ∀ d ∈ tables_1, d.before a0 Z = true) : Laid Z a0 own_k0 own_k0 "addedAtThreshold" "[Z" ∧ parseFieldDescriptor "[Z" = some (.array .boolean) := ⟨(Or.inl (own_w hw 25 rfl)), by decide⟩
theorem own_f5 {a0 : Array Value} {Z : State} (hw : ∀ d ∈ tables_1, d.before a0 Z = true) : Laid Z a0 own_k0 own_k0 "copies" "[J" ∧ parseFieldDescriptor "[J" = some (.array .long) := ⟨(Or.inl (own_w hw 27 rfl)), by decide⟩
theorem own_f6 {a0 : Array Value} {Z : State} (hw : ∀ d ∈ tables_1, d.before a0 Z = true) : Laid Z a0 own_k0 own_k0 "nextOf" "[I" ∧ parseFieldDescriptor "[I" = some (.array .int) := ⟨(Or.inl (own_w hw 30 rfl)), by decide⟩
theorem own_f7 {a0 : Array Value} {Z : State} (hw : ∀ d ∈ tables_1, d.before a0 Z = true) : Laid Z a0 own_k0 own_k0 "previousOf" "[I" ∧ parseFieldDescriptor "[I" = some (.array .int) := ⟨(Or.inl (own_w hw 32 rfl)), by decide⟩
theorem own_f8 {a0 : Array Value} {Z : State} (hw : ∀ d ∈ tables_1, d.before a0 Z = true) : Laid Z a0 own_k0 own_k0 "first" "I" ∧ parseFieldDescriptor "I" = some .int := ⟨(Or.inl (own_w hw 34 rfl)), by decide⟩
theorem own_f9 {a0 : Array Value} {Z : State} (hw : ∀ d ∈ tables_1, d.before a0 Z = true) : Laid Z a0 own_k0 own_k0 "last" "I" ∧ parseFieldDescriptor "I" = some .int := ⟨(Or.inl (own_w hw 36 rfl)), by decide⟩
theorem own_f10 {a0 : Array Value} {Z : State} (hw : ∀ d ∈ tables_1, d.before a0 Z = true) : Laid Z a0 own_k0 own_k0 "free" "I" ∧ parseFieldDescriptor "I" = some .int := ⟨(Or.inl (own_w hw 38 rfl)), by decide⟩
theorem own_f11 {a0 : Array Value} {Z : State} (hw : ∀ d ∈ tables_1, d.before a0 Z = true) : Laid Z a0 own_k0 own_k0 "smallestMagnitude" "D" ∧ parseFieldDescriptor "D" = some .double := ⟨(Or.inl (own_w hw 41 rfl)), by decide⟩
theorem own_f12 {a0 : Array Value} {Z : State} (hw : ∀ d ∈ tables_1, d.before a0 Z = true) : Laid Z a0 own_k0 own_k0 "size" "I" ∧ parseFieldDescriptor "I" = some .int := ⟨(Or.inl (own_w hw 49 rfl)), by decide⟩
theorem own_f13 {a0 : Array Value} {Z : State} (hw : ∀ d ∈ tables_1, d.before a0 Z = true) : Laid Z a0 own_k0 own_k0 "used" "I" ∧ parseFieldDescriptor "I" = some .int := ⟨(Or.inl (own_w hw 91 rfl)), by decide⟩
def own_s1_Q (Z : State) (a33 : Addr) (h0 : Heap) (n0 : Nat) (v_ : Option Value) (h_ : Heap) (L_ : List Loc) : Prop := (fun v h L => ∃ (a55 : Addr) (a69 : Addr) (a86 : Addr) (a105 : Addr) (a126 : Addr) (a149 : Addr) (a174 : Addr) (a201 : Addr), v = none ∧ Fr n0 L ∧ Keep h0 h [a33] ∧ h0.size ≤ a55 ∧ h0.size ≤ a69 ∧ h0.size ≤ a86 ∧ h0.size ≤ a105 ∧ h0.size ≤ a126 ∧ h0.size ≤ a149 ∧ h0.size ≤ a174 ∧ h0.size ≤ a201 ∧ a55 < a69 ∧ a55 < a86 ∧ a55 < a105 ∧ a55 < a126 ∧ a55 < a149 ∧ a55 < a174 ∧ a55 < a201 ∧ a69 < a86 ∧ a69 < a105 ∧ a69 < a126 ∧ a69 < a149 ∧ a69 < a174 ∧ a69 < a201 ∧ a86 < a105 ∧ a86 < a126 ∧ a86 < a149 ∧ a86 < a174 ∧ a86 < a201 ∧ a105 < a126 ∧ a105 < a149 ∧ a105 < a174 ∧ a105 < a201 ∧ a126 < a149 ∧ a126 < a174 ∧ a126 < a201 ∧ a149 < a174 ∧ a149 < a201 ∧ a174 < a201 ∧ Fld Z h a33 own_k0 "thresholds" "[D" (.ref a55) ∧ Fld Z h a33 own_k0 "ranks" "[D" (.ref a69) ∧ Fld Z h a33 own_k0 "guarded" "[Z" (.ref a86) ∧ Fld Z h a33 own_k0 "extents" own_k4 (.ref a105) ∧ Fld Z h a33 own_k0 "addedAtThreshold" "[Z" (.ref a126) ∧ Fld Z h a33 own_k0 "copies" "[J" (.ref a149) ∧ Fld Z h a33 own_k0 "nextOf" "[I" (.ref a174) ∧ Fld Z h a33 own_k0 "previousOf" "[I" (.ref a201) ∧ Fld Z h a33 own_k0 "first" "I" (.int (-1 : Int32)) ∧ Fld Z h a33 own_k0 "last" "I" (.int (-1 : Int32)) ∧ Fld Z h a33 own_k0 "free" "I" (.int (-1 : Int32)) ∧ Fld Z h a33 own_k0 "smallestMagnitude" "D" (.double (9218868437227405312 : UInt64)) ∧ Fld Z h a33 own_k0 "size" "I" (.int (0 : Int32)) ∧ Fld Z h a33 own_k0 "used" "I" (.int (0 : Int32)) ∧ own_Ary Z h a201 .int (own_rI 16) ∧ Exa Z h a201 "[I" ∧ own_Ary Z h a174 .int (own_rI 16) ∧ Exa Z h a174 "[I" ∧ own_Ary Z h a149 .long (own_rJ 16) ∧ Exa Z h a149 "[J" ∧ own_Ary Z h a126 .boolean (own_rI 16) ∧ Exa Z h a126 "[Z" ∧ own_Ary Z h a105 (.object own_k1) (own_rN 16) ∧ Exa Z h a105 own_k4 ∧ own_Ovr Z h a105 own_k1 ∧ own_Ary Z h a86 .boolean (own_rI 16) ∧ Exa Z h a86 "[Z" ∧ own_Ary Z h a69 .double (own_rD 16) ∧ Exa Z h a69 "[D" ∧ own_Ary Z h a55 .double (own_rD 16) ∧ Exa Z h a55 "[D") v_ h_ L_
set_option maxRecDepth 65536 in
set_option maxHeartbeats 40000000 in
theorem own_s1 (l : Launch) (Z : State) (a0 : Array Value) (hw : ∀ d ∈ tables_1, d.before a0 Z = true) (wds : List Jvm.Cond) (a33 : Addr) (h0 : Heap) (n0 : Nat) (Z0 : n0 ≤ h0.size) (H3 : Exa Z h0 a33 own_k0) (H4 : Fld Z h0 a33 own_k0 "thresholds" "[D" .null) (H5 : Fld Z h0 a33 own_k0 "ranks" "[D" .null) (H6 : Fld Z h0 a33 own_k0 "guarded" "[Z" .null) (H7 : Fld Z h0 a33 own_k0 "extents" own_k4 .null) (H8 : Fld Z h0 a33 own_k0 "addedAtThreshold" "[Z" .null) (H9 : Fld Z h0 a33 own_k0 "copies" "[J" .null) (H10 : Fld Z h0 a33 own_k0 "nextOf" "[I" .null) (H11 : Fld Z h0 a33 own_k0 "previousOf" "[I" .null) (H12 : Fld Z h0 a33 own_k0 "first" "I" (.int (0 : Int32))) (H13 : Fld Z h0 a33 own_k0 "last" "I" (.int (0 : Int32))) (H14 : Fld Z h0 a33 own_k0 "free" "I" (.int (0 : Int32))) (H15 : Fld Z h0 a33 own_k0 "smallestMagnitude" "D" (.double (0 : UInt64))) (H16 : Fld Z h0 a33 own_k0 "size" "I" (.int (0 : Int32))) (H17 : Fld Z h0 a33 own_k0 "used" "I" (.int (0 : Int32))) (H19 : n0 ≤ a33) :
    MetFree l (⟨own_k0, "<init>", "()V"⟩ : MethodName) (head1 (Jvm.Cond.code (⟨own_k0, "<init>", "()V"⟩ : MethodName) prog_5_method_1_code 1 none :: wds) ({ frames := 1, cells := 8, slots := 128, locals := 12 } : Room)) (fun ar_ U_ => ar_ = #[(.ref a33)] ∧ Z.Warmed39 U_.vm ∧ U_.heap = h0) (fun _ _ _ _ _ => True) (fun _ U_ o_ V_ => ∃ v_ L_, o_ = .returned v_ ∧ own_s1_Q Z a33 h0 n0 v_ V_.heap L_ ∧ FrameEnd U_ o_ V_ L_ ({ frames := 1, cells := 8, slots := 128, locals := 12 } : Room).cells ({ frames := 1, cells := 8, slots := 128, locals := 12 } : Room).slots) := by
  refine own_met (y := ⟨own_k0, "<init>", "()V"⟩) (Q := own_s1_Q Z a33 h0 n0) own_pn1 ?_
  intro p e s m below meth c s₁ hx hby hml hZ hown hnm hret hlk X0 e0
  have N0 := Fr.nil n0
  refine own_cast (g' := (mkF m 0 #[.val (.ref a33)] [])) (by first | (simp [entryFrame, mkF, argsToLocals, Value.category]; done) | rfl) ?_
  refine own_alN (w := (.ref a33)) X0 hx (hb hby d1_0) rfl rfl ?_
  refine own_init0 X0 hx hZ hown (own_w hw 10 rfl) (own_w hw 11 rfl) (own_w hw 12 rfl) e0 (hb hby d1_1) (by rw [hml]; rfl) (by decide) (W := 0) (Nat.le_of_eq rfl) (by decide) ?_
  intro T54 X54 e54
  show own_Go _ _ _ _ _ _ _ T54 (mkF m 4 #[.val (.ref a33)] [])
  refine own_alN (w := (.ref a33)) X54 hx (hb hby d1_4) rfl rfl ?_
  refine own_pre (g' := (mkF m 7 #[.val (.ref a33)] [(.int (16 : Int32)), (.ref a33)])) (fun t k => XS.bipush X54.here hx rfl (hb hby d1_5) k) ?_
  refine own_newarr X54 hx hZ (aty := .double) (own_w hw 1 rfl) e54 (hb hby d1_7) (n := 16) (by decide) (by decide) (by decide) (by decide) (by decide) (ad := "[D") rfl ?_
  intro T55 h55 a55 g55 X55 e55 E55 A55 B55
  have lt57 : a33 < a55 := Nat.lt_of_lt_of_le H3.lt (Nat.le_of_eq g55.symm)
  have ge58 : h0.size ≤ a55 := Nat.le_trans (Nat.le_refl _) (Nat.le_of_eq g55.symm)
  have F60 : own_Ary Z h55 a55 .double (own_rD 16) := A55
  show own_Go _ _ _ _ _ _ _ T55 (mkF m 9 #[.val (.ref a33)] [(.ref a55), (.ref a33)])
  have F61 := (H4.ext E55)
  have F62 := (H3.ext E55)
  refine own_putf X55 hx hZ hown (own_w hw 13 rfl) e55 N0 H19 F61 F62 (Or.inl (own_w hw 14 rfl)) (own_w hw 5 rfl) (ty := (.array .double)) (by decide) rfl rfl (hb hby d1_9) ?_
  intro T63 h63 lo63 X63 e63 N63 W63
  have F64 := F61.same W63
  show own_Go _ _ _ _ _ _ _ T63 (mkF m 12 #[.val (.ref a33)] [])
  refine own_alN (w := (.ref a33)) X63 hx (hb hby d1_12) rfl rfl ?_
  refine own_pre (g' := (mkF m 15 #[.val (.ref a33)] [(.int (16 : Int32)), (.ref a33)])) (fun t k => XS.bipush X63.here hx rfl (hb hby d1_13) k) ?_
  have F66 := (F62.wr W63)
  have F67 := (F60.other W63 (Nat.ne_of_gt lt57))
  refine own_newarr X63 hx hZ (aty := .double) (own_w hw 1 rfl) e63 (hb hby d1_15) (n := 16) (by decide) (by decide) (by decide) (by decide) (by decide) (ad := "[D") rfl ?_
  intro T69 h69 a69 g69 X69 e69 E69 A69 B69
  have lt71 : a33 < a69 := Nat.lt_of_lt_of_le F66.lt (Nat.le_of_eq g69.symm)
  have lt72 : a55 < a69 := Nat.lt_of_lt_of_le F67.lt (Nat.le_of_eq g69.symm)
  have F73 : h0.size ≤ h63.size := (Nat.le_trans (Nat.le_trans (Nat.le_refl _) E55.1) (Nat.le_of_eq W63.size.symm))
  have ge74 : h0.size ≤ a69 := Nat.le_trans F73 (Nat.le_of_eq g69.symm)
  have F76 : own_Ary Z h69 a69 .double (own_rD 16) := A69
  show own_Go _ _ _ _ _ _ _ T69 (mkF m 17 #[.val (.ref a33)] [(.ref a69), (.ref a33)])
  have F77 := (((H5.ext E55).other W63 (Or.inr (own_sne (own_f0 hw) (own_f1 hw) (by decide)))).ext E69)
  have F78 := (F66.ext E69)
  refine own_putf X69 hx hZ hown (own_w hw 15 rfl) e69 N63 H19 F77 F78 (Or.inl (own_w hw 16 rfl)) (own_w hw 5 rfl) (ty := (.array .double)) (by decide) rfl rfl (hb hby d1_17) ?_
  intro T79 h79 lo79 X79 e79 N79 W79
  have F80 := F77.same W79
  show own_Go _ _ _ _ _ _ _ T79 (mkF m 20 #[.val (.ref a33)] [])
  refine own_alN (w := (.ref a33)) X79 hx (hb hby d1_20) rfl rfl ?_
  refine own_pre (g' := (mkF m 23 #[.val (.ref a33)] [(.int (16 : Int32)), (.ref a33)])) (fun t k => XS.bipush X79.here hx rfl (hb hby d1_21) k) ?_
  have F82 := (F78.wr W79)
  have F83 := ((F67.ext E69).other W79 (Nat.ne_of_gt lt57))
  have F84 := (F76.other W79 (Nat.ne_of_gt lt71))
  refine own_newarr X79 hx hZ (aty := .boolean) (own_w hw 17 rfl) e79 (hb hby d1_23) (n := 16) (by decide) (by decide) (by decide) (by decide) (by decide) (ad := "[Z") rfl ?_
  intro T86 h86 a86 g86 X86 e86 E86 A86 B86
  have lt88 : a33 < a86 := Nat.lt_of_lt_of_le F82.lt (Nat.le_of_eq g86.symm)
  have lt89 : a55 < a86 := Nat.lt_of_lt_of_le F83.lt (Nat.le_of_eq g86.symm)
  have lt90 : a69 < a86 := Nat.lt_of_lt_of_le F84.lt (Nat.le_of_eq g86.symm)
  have F91 : h0.size ≤ h79.size := (Nat.le_trans (Nat.le_trans F73 E69.1) (Nat.le_of_eq W79.size.symm))
  have ge92 : h0.size ≤ a86 := Nat.le_trans F91 (Nat.le_of_eq g86.symm)
  have F94 : own_Ary Z h86 a86 .boolean (own_rI 16) := A86
  show own_Go _ _ _ _ _ _ _ T86 (mkF m 25 #[.val (.ref a33)] [(.ref a86), (.ref a33)])
  have F95 := (((((H6.ext E55).other W63 (Or.inr (own_sne (own_f2 hw) (own_f1 hw) (by decide)))).ext E69).other W79 (Or.inr (own_sne (own_f2 hw) (own_f0 hw) (by decide)))).ext E86)
  have F96 := (F82.ext E86)
  refine own_putf X86 hx hZ hown (own_w hw 18 rfl) e86 N79 H19 F95 F96 (Or.inl (own_w hw 19 rfl)) (own_w hw 5 rfl) (ty := (.array .boolean)) (by decide) rfl rfl (hb hby d1_25) ?_
  intro T97 h97 lo97 X97 e97 N97 W97
  have F98 := F95.same W97
  show own_Go _ _ _ _ _ _ _ T97 (mkF m 28 #[.val (.ref a33)] [])
  refine own_alN (w := (.ref a33)) X97 hx (hb hby d1_28) rfl rfl ?_
  refine own_pre (g' := (mkF m 31 #[.val (.ref a33)] [(.int (16 : Int32)), (.ref a33)])) (fun t k => XS.bipush X97.here hx rfl (hb hby d1_29) k) ?_
  have F100 := (F96.wr W97)
  have F101 := ((F83.ext E86).other W97 (Nat.ne_of_gt lt57))
  have F102 := ((F84.ext E86).other W97 (Nat.ne_of_gt lt71))
  have F103 := (F94.other W97 (Nat.ne_of_gt lt88))
  refine own_anewarr X97 hx hZ hown (own_w hw 20 rfl) (own_w hw 21 rfl) e97 (hb hby d1_31) (n := 16) (by decide) (by decide) (by decide) (by decide) (by decide) (ad := own_k4) rfl ?_
  intro T105 h105 a105 g105 X105 e105 E105 A105 B105 O105
  have lt107 : a33 < a105 := Nat.lt_of_lt_of_le F100.lt (Nat.le_of_eq g105.symm)
  have lt108 : a55 < a105 := Nat.lt_of_lt_of_le F101.lt (Nat.le_of_eq g105.symm)
  have lt109 : a69 < a105 := Nat.lt_of_lt_of_le F102.lt (Nat.le_of_eq g105.symm)
  have lt110 : a86 < a105 := Nat.lt_of_lt_of_le F103.lt (Nat.le_of_eq g105.symm)
  have F111 : h0.size ≤ h97.size := (Nat.le_trans (Nat.le_trans F91 E86.1) (Nat.le_of_eq W97.size.symm))
  have ge112 : h0.size ≤ a105 := Nat.le_trans F111 (Nat.le_of_eq g105.symm)
  have F114 : own_Ary Z h105 a105 (.object own_k1) (own_rN 16) := A105
  show own_Go _ _ _ _ _ _ _ T105 (mkF m 34 #[.val (.ref a33)] [(.ref a105), (.ref a33)])
  have F115 := (((((((H7.ext E55).other W63 (Or.inr (own_sne (own_f3 hw) (own_f1 hw) (by decide)))).ext E69).other W79 (Or.inr (own_sne (own_f3 hw) (own_f0 hw) (by decide)))).ext E86).other W97 (Or.inr (own_sne (own_f3 hw) (own_f2 hw) (by decide)))).ext E105)
  have F116 := (F100.ext E105)
  refine own_putf X105 hx hZ hown (own_w hw 22 rfl) e105 N97 H19 F115 F116 (Or.inl (own_w hw 23 rfl)) (own_w hw 5 rfl) (ty := (.array (.object own_k1))) (by decide) rfl rfl (hb hby d1_34) ?_
  intro T117 h117 lo117 X117 e117 N117 W117
  have F118 := F115.same W117
  show own_Go _ _ _ _ _ _ _ T117 (mkF m 37 #[.val (.ref a33)] [])
  refine own_alN (w := (.ref a33)) X117 hx (hb hby d1_37) rfl rfl ?_
  refine own_pre (g' := (mkF m 40 #[.val (.ref a33)] [(.int (16 : Int32)), (.ref a33)])) (fun t k => XS.bipush X117.here hx rfl (hb hby d1_38) k) ?_
  have F120 := (F116.wr W117)
  have F121 := ((F101.ext E105).other W117 (Nat.ne_of_gt lt57))
  have F122 := ((F102.ext E105).other W117 (Nat.ne_of_gt lt71))
  have F123 := ((F103.ext E105).other W117 (Nat.ne_of_gt lt88))
  have F124 := (F114.other W117 (Nat.ne_of_gt lt107))
  refine own_newarr X117 hx hZ (aty := .boolean) (own_w hw 17 rfl) e117 (hb hby d1_40) (n := 16) (by decide) (by decide) (by decide) (by decide) (by decide) (ad := "[Z") rfl ?_
  intro T126 h126 a126 g126 X126 e126 E126 A126 B126
  have lt128 : a33 < a126 := Nat.lt_of_lt_of_le F120.lt (Nat.le_of_eq g126.symm)
  have lt129 : a55 < a126 := Nat.lt_of_lt_of_le F121.lt (Nat.le_of_eq g126.symm)
  have lt130 : a69 < a126 := Nat.lt_of_lt_of_le F122.lt (Nat.le_of_eq g126.symm)
  have lt131 : a86 < a126 := Nat.lt_of_lt_of_le F123.lt (Nat.le_of_eq g126.symm)
  have lt132 : a105 < a126 := Nat.lt_of_lt_of_le F124.lt (Nat.le_of_eq g126.symm)
  have F133 : h0.size ≤ h117.size := (Nat.le_trans (Nat.le_trans F111 E105.1) (Nat.le_of_eq W117.size.symm))
  have ge134 : h0.size ≤ a126 := Nat.le_trans F133 (Nat.le_of_eq g126.symm)
  have F136 : own_Ary Z h126 a126 .boolean (own_rI 16) := A126
  show own_Go _ _ _ _ _ _ _ T126 (mkF m 42 #[.val (.ref a33)] [(.ref a126), (.ref a33)])
  have F137 := (((((((((H8.ext E55).other W63 (Or.inr (own_sne (own_f4 hw) (own_f1 hw) (by decide)))).ext E69).other W79 (Or.inr (own_sne (own_f4 hw) (own_f0 hw) (by decide)))).ext E86).other W97 (Or.inr (own_sne (own_f4 hw) (own_f2 hw) (by decide)))).ext E105).other W117 (Or.inr (own_sne (own_f4 hw) (own_f3 hw) (by decide)))).ext E126)
  have F138 := (F120.ext E126)
  refine own_putf X126 hx hZ hown (own_w hw 24 rfl) e126 N117 H19 F137 F138 (Or.inl (own_w hw 25 rfl)) (own_w hw 5 rfl) (ty := (.array .boolean)) (by decide) rfl rfl (hb hby d1_42) ?_
  intro T139 h139 lo139 X139 e139 N139 W139
  have F140 := F137.same W139
  show own_Go _ _ _ _ _ _ _ T139 (mkF m 45 #[.val (.ref a33)] [])
  refine own_alN (w := (.ref a33)) X139 hx (hb hby d1_45) rfl rfl ?_
  refine own_pre (g' := (mkF m 48 #[.val (.ref a33)] [(.int (16 : Int32)), (.ref a33)])) (fun t k => XS.bipush X139.here hx rfl (hb hby d1_46) k) ?_
  have F142 := (F138.wr W139)
  have F143 := ((F121.ext E126).other W139 (Nat.ne_of_gt lt57))
  have F144 := ((F122.ext E126).other W139 (Nat.ne_of_gt lt71))
  have F145 := ((F123.ext E126).other W139 (Nat.ne_of_gt lt88))
  have F146 := ((F124.ext E126).other W139 (Nat.ne_of_gt lt107))
  have F147 := (F136.other W139 (Nat.ne_of_gt lt128))
  refine own_newarr X139 hx hZ (aty := .long) (own_w hw 3 rfl) e139 (hb hby d1_48) (n := 16) (by decide) (by decide) (by decide) (by decide) (by decide) (ad := "[J") rfl ?_
  intro T149 h149 a149 g149 X149 e149 E149 A149 B149
  have lt151 : a33 < a149 := Nat.lt_of_lt_of_le F142.lt (Nat.le_of_eq g149.symm)
  have lt152 : a55 < a149 := Nat.lt_of_lt_of_le F143.lt (Nat.le_of_eq g149.symm)
  have lt153 : a69 < a149 := Nat.lt_of_lt_of_le F144.lt (Nat.le_of_eq g149.symm)
  have lt154 : a86 < a149 := Nat.lt_of_lt_of_le F145.lt (Nat.le_of_eq g149.symm)
  have lt155 : a105 < a149 := Nat.lt_of_lt_of_le F146.lt (Nat.le_of_eq g149.symm)
  have lt156 : a126 < a149 := Nat.lt_of_lt_of_le F147.lt (Nat.le_of_eq g149.symm)
  have F157 : h0.size ≤ h139.size := (Nat.le_trans (Nat.le_trans F133 E126.1) (Nat.le_of_eq W139.size.symm))
  have ge158 : h0.size ≤ a149 := Nat.le_trans F157 (Nat.le_of_eq g149.symm)
  have F160 : own_Ary Z h149 a149 .long (own_rJ 16) := A149
  show own_Go _ _ _ _ _ _ _ T149 (mkF m 50 #[.val (.ref a33)] [(.ref a149), (.ref a33)])
  have F161 := (((((((((((H9.ext E55).other W63 (Or.inr (own_sne (own_f5 hw) (own_f1 hw) (by decide)))).ext E69).other W79 (Or.inr (own_sne (own_f5 hw) (own_f0 hw) (by decide)))).ext E86).other W97 (Or.inr (own_sne (own_f5 hw) (own_f2 hw) (by decide)))).ext E105).other W117 (Or.inr (own_sne (own_f5 hw) (own_f3 hw) (by decide)))).ext E126).other W139 (Or.inr (own_sne (own_f5 hw) (own_f4 hw) (by decide)))).ext E149)
  have F162 := (F142.ext E149)
  refine own_putf X149 hx hZ hown (own_w hw 26 rfl) e149 N139 H19 F161 F162 (Or.inl (own_w hw 27 rfl)) (own_w hw 5 rfl) (ty := (.array .long)) (by decide) rfl rfl (hb hby d1_50) ?_
  intro T163 h163 lo163 X163 e163 N163 W163
  have F164 := F161.same W163
  show own_Go _ _ _ _ _ _ _ T163 (mkF m 53 #[.val (.ref a33)] [])
  refine own_alN (w := (.ref a33)) X163 hx (hb hby d1_53) rfl rfl ?_
  refine own_pre (g' := (mkF m 56 #[.val (.ref a33)] [(.int (16 : Int32)), (.ref a33)])) (fun t k => XS.bipush X163.here hx rfl (hb hby d1_54) k) ?_
  have F166 := (F162.wr W163)
  have F167 := ((F143.ext E149).other W163 (Nat.ne_of_gt lt57))
  have F168 := ((F144.ext E149).other W163 (Nat.ne_of_gt lt71))
  have F169 := ((F145.ext E149).other W163 (Nat.ne_of_gt lt88))
  have F170 := ((F146.ext E149).other W163 (Nat.ne_of_gt lt107))
  have F171 := ((F147.ext E149).other W163 (Nat.ne_of_gt lt128))
  have F172 := (F160.other W163 (Nat.ne_of_gt lt151))
  refine own_newarr X163 hx hZ (aty := .int) (own_w hw 28 rfl) e163 (hb hby d1_56) (n := 16) (by decide) (by decide) (by decide) (by decide) (by decide) (ad := "[I") rfl ?_
  intro T174 h174 a174 g174 X174 e174 E174 A174 B174
  have lt176 : a33 < a174 := Nat.lt_of_lt_of_le F166.lt (Nat.le_of_eq g174.symm)
  have lt177 : a55 < a174 := Nat.lt_of_lt_of_le F167.lt (Nat.le_of_eq g174.symm)
  have lt178 : a69 < a174 := Nat.lt_of_lt_of_le F168.lt (Nat.le_of_eq g174.symm)
  have lt179 : a86 < a174 := Nat.lt_of_lt_of_le F169.lt (Nat.le_of_eq g174.symm)
  have lt180 : a105 < a174 := Nat.lt_of_lt_of_le F170.lt (Nat.le_of_eq g174.symm)
  have lt181 : a126 < a174 := Nat.lt_of_lt_of_le F171.lt (Nat.le_of_eq g174.symm)
  have lt182 : a149 < a174 := Nat.lt_of_lt_of_le F172.lt (Nat.le_of_eq g174.symm)
  have F183 : h0.size ≤ h163.size := (Nat.le_trans (Nat.le_trans F157 E149.1) (Nat.le_of_eq W163.size.symm))
  have ge184 : h0.size ≤ a174 := Nat.le_trans F183 (Nat.le_of_eq g174.symm)
  have F186 : own_Ary Z h174 a174 .int (own_rI 16) := A174
  show own_Go _ _ _ _ _ _ _ T174 (mkF m 58 #[.val (.ref a33)] [(.ref a174), (.ref a33)])
  have F187 := (((((((((((((H10.ext E55).other W63 (Or.inr (own_sne (own_f6 hw) (own_f1 hw) (by decide)))).ext E69).other W79 (Or.inr (own_sne (own_f6 hw) (own_f0 hw) (by decide)))).ext E86).other W97 (Or.inr (own_sne (own_f6 hw) (own_f2 hw) (by decide)))).ext E105).other W117 (Or.inr (own_sne (own_f6 hw) (own_f3 hw) (by decide)))).ext E126).other W139 (Or.inr (own_sne (own_f6 hw) (own_f4 hw) (by decide)))).ext E149).other W163 (Or.inr (own_sne (own_f6 hw) (own_f5 hw) (by decide)))).ext E174)
  have F188 := (F166.ext E174)
  refine own_putf X174 hx hZ hown (own_w hw 29 rfl) e174 N163 H19 F187 F188 (Or.inl (own_w hw 30 rfl)) (own_w hw 5 rfl) (ty := (.array .int)) (by decide) rfl rfl (hb hby d1_58) ?_
  intro T189 h189 lo189 X189 e189 N189 W189
  have F190 := F187.same W189
  show own_Go _ _ _ _ _ _ _ T189 (mkF m 61 #[.val (.ref a33)] [])
  refine own_alN (w := (.ref a33)) X189 hx (hb hby d1_61) rfl rfl ?_
  refine own_pre (g' := (mkF m 64 #[.val (.ref a33)] [(.int (16 : Int32)), (.ref a33)])) (fun t k => XS.bipush X189.here hx rfl (hb hby d1_62) k) ?_
  have F192 := (F188.wr W189)
  have F193 := ((F167.ext E174).other W189 (Nat.ne_of_gt lt57))
  have F194 := ((F168.ext E174).other W189 (Nat.ne_of_gt lt71))
  have F195 := ((F169.ext E174).other W189 (Nat.ne_of_gt lt88))
  have F196 := ((F170.ext E174).other W189 (Nat.ne_of_gt lt107))
  have F197 := ((F171.ext E174).other W189 (Nat.ne_of_gt lt128))
  have F198 := ((F172.ext E174).other W189 (Nat.ne_of_gt lt151))
  have F199 := (F186.other W189 (Nat.ne_of_gt lt176))
  refine own_newarr X189 hx hZ (aty := .int) (own_w hw 28 rfl) e189 (hb hby d1_64) (n := 16) (by decide) (by decide) (by decide) (by decide) (by decide) (ad := "[I") rfl ?_
  intro T201 h201 a201 g201 X201 e201 E201 A201 B201
  have lt203 : a33 < a201 := Nat.lt_of_lt_of_le F192.lt (Nat.le_of_eq g201.symm)
  have lt204 : a55 < a201 := Nat.lt_of_lt_of_le F193.lt (Nat.le_of_eq g201.symm)
  have lt205 : a69 < a201 := Nat.lt_of_lt_of_le F194.lt (Nat.le_of_eq g201.symm)
  have lt206 : a86 < a201 := Nat.lt_of_lt_of_le F195.lt (Nat.le_of_eq g201.symm)
  have lt207 : a105 < a201 := Nat.lt_of_lt_of_le F196.lt (Nat.le_of_eq g201.symm)
  have lt208 : a126 < a201 := Nat.lt_of_lt_of_le F197.lt (Nat.le_of_eq g201.symm)
  have lt209 : a149 < a201 := Nat.lt_of_lt_of_le F198.lt (Nat.le_of_eq g201.symm)
  have lt210 : a174 < a201 := Nat.lt_of_lt_of_le F199.lt (Nat.le_of_eq g201.symm)
  have F211 : h0.size ≤ h189.size := (Nat.le_trans (Nat.le_trans F183 E174.1) (Nat.le_of_eq W189.size.symm))
  have ge212 : h0.size ≤ a201 := Nat.le_trans F211 (Nat.le_of_eq g201.symm)
  have F214 : own_Ary Z h201 a201 .int (own_rI 16) := A201
  show own_Go _ _ _ _ _ _ _ T201 (mkF m 66 #[.val (.ref a33)] [(.ref a201), (.ref a33)])
  have F215 := (((((((((((((((H11.ext E55).other W63 (Or.inr (own_sne (own_f7 hw) (own_f1 hw) (by decide)))).ext E69).other W79 (Or.inr (own_sne (own_f7 hw) (own_f0 hw) (by decide)))).ext E86).other W97 (Or.inr (own_sne (own_f7 hw) (own_f2 hw) (by decide)))).ext E105).other W117 (Or.inr (own_sne (own_f7 hw) (own_f3 hw) (by decide)))).ext E126).other W139 (Or.inr (own_sne (own_f7 hw) (own_f4 hw) (by decide)))).ext E149).other W163 (Or.inr (own_sne (own_f7 hw) (own_f5 hw) (by decide)))).ext E174).other W189 (Or.inr (own_sne (own_f7 hw) (own_f6 hw) (by decide)))).ext E201)
  have F216 := (F192.ext E201)
  refine own_putf X201 hx hZ hown (own_w hw 31 rfl) e201 N189 H19 F215 F216 (Or.inl (own_w hw 32 rfl)) (own_w hw 5 rfl) (ty := (.array .int)) (by decide) rfl rfl (hb hby d1_66) ?_
  intro T217 h217 lo217 X217 e217 N217 W217
  have F218 := F215.same W217
  show own_Go _ _ _ _ _ _ _ T217 (mkF m 69 #[.val (.ref a33)] [])
  refine own_alN (w := (.ref a33)) X217 hx (hb hby d1_69) rfl rfl ?_
  refine own_ic X217 hx (-1 : Int32) (hb hby d1_70) rfl ?_
  have F219 := ((((((((((((((((H12.ext E55).other W63 (Or.inr (own_sne (own_f8 hw) (own_f1 hw) (by decide)))).ext E69).other W79 (Or.inr (own_sne (own_f8 hw) (own_f0 hw) (by decide)))).ext E86).other W97 (Or.inr (own_sne (own_f8 hw) (own_f2 hw) (by decide)))).ext E105).other W117 (Or.inr (own_sne (own_f8 hw) (own_f3 hw) (by decide)))).ext E126).other W139 (Or.inr (own_sne (own_f8 hw) (own_f4 hw) (by decide)))).ext E149).other W163 (Or.inr (own_sne (own_f8 hw) (own_f5 hw) (by decide)))).ext E174).other W189 (Or.inr (own_sne (own_f8 hw) (own_f6 hw) (by decide)))).ext E201).other W217 (Or.inr (own_sne (own_f8 hw) (own_f7 hw) (by decide))))
  have F220 := (F216.wr W217)
  refine own_putf X217 hx hZ hown (own_w hw 33 rfl) e217 N217 H19 F219 F220 (Or.inl (own_w hw 34 rfl)) (own_w hw 5 rfl) (ty := .int) (by decide) rfl rfl (hb hby d1_71) ?_
  intro T221 h221 lo221 X221 e221 N221 W221
  have F222 := F219.same W221
  show own_Go _ _ _ _ _ _ _ T221 (mkF m 74 #[.val (.ref a33)] [])
  refine own_alN (w := (.ref a33)) X221 hx (hb hby d1_74) rfl rfl ?_
  refine own_ic X221 hx (-1 : Int32) (hb hby d1_75) rfl ?_
  have F223 := (((((((((((((((((H13.ext E55).other W63 (Or.inr (own_sne (own_f9 hw) (own_f1 hw) (by decide)))).ext E69).other W79 (Or.inr (own_sne (own_f9 hw) (own_f0 hw) (by decide)))).ext E86).other W97 (Or.inr (own_sne (own_f9 hw) (own_f2 hw) (by decide)))).ext E105).other W117 (Or.inr (own_sne (own_f9 hw) (own_f3 hw) (by decide)))).ext E126).other W139 (Or.inr (own_sne (own_f9 hw) (own_f4 hw) (by decide)))).ext E149).other W163 (Or.inr (own_sne (own_f9 hw) (own_f5 hw) (by decide)))).ext E174).other W189 (Or.inr (own_sne (own_f9 hw) (own_f6 hw) (by decide)))).ext E201).other W217 (Or.inr (own_sne (own_f9 hw) (own_f7 hw) (by decide)))).other W221 (Or.inr (own_sne (own_f9 hw) (own_f8 hw) (by decide))))
  have F224 := (F220.wr W221)
  refine own_putf X221 hx hZ hown (own_w hw 35 rfl) e221 N221 H19 F223 F224 (Or.inl (own_w hw 36 rfl)) (own_w hw 5 rfl) (ty := .int) (by decide) rfl rfl (hb hby d1_76) ?_
  intro T225 h225 lo225 X225 e225 N225 W225
  have F226 := F223.same W225
  show own_Go _ _ _ _ _ _ _ T225 (mkF m 79 #[.val (.ref a33)] [])
  refine own_alN (w := (.ref a33)) X225 hx (hb hby d1_79) rfl rfl ?_
  refine own_ic X225 hx (-1 : Int32) (hb hby d1_80) rfl ?_
  have F227 := ((((((((((((((((((H14.ext E55).other W63 (Or.inr (own_sne (own_f10 hw) (own_f1 hw) (by decide)))).ext E69).other W79 (Or.inr (own_sne (own_f10 hw) (own_f0 hw) (by decide)))).ext E86).other W97 (Or.inr (own_sne (own_f10 hw) (own_f2 hw) (by decide)))).ext E105).other W117 (Or.inr (own_sne (own_f10 hw) (own_f3 hw) (by decide)))).ext E126).other W139 (Or.inr (own_sne (own_f10 hw) (own_f4 hw) (by decide)))).ext E149).other W163 (Or.inr (own_sne (own_f10 hw) (own_f5 hw) (by decide)))).ext E174).other W189 (Or.inr (own_sne (own_f10 hw) (own_f6 hw) (by decide)))).ext E201).other W217 (Or.inr (own_sne (own_f10 hw) (own_f7 hw) (by decide)))).other W221 (Or.inr (own_sne (own_f10 hw) (own_f8 hw) (by decide)))).other W225 (Or.inr (own_sne (own_f10 hw) (own_f9 hw) (by decide))))
  have F228 := (F224.wr W225)
  refine own_putf X225 hx hZ hown (own_w hw 37 rfl) e225 N225 H19 F227 F228 (Or.inl (own_w hw 38 rfl)) (own_w hw 5 rfl) (ty := .int) (by decide) rfl rfl (hb hby d1_81) ?_
  intro T229 h229 lo229 X229 e229 N229 W229
  have F230 := F227.same W229
  show own_Go _ _ _ _ _ _ _ T229 (mkF m 84 #[.val (.ref a33)] [])
  refine own_alN (w := (.ref a33)) X229 hx (hb hby d1_84) rfl rfl ?_
  refine own_ldcd X229 hx hZ hown (own_w hw 39 rfl) (hb hby d1_85) ?_
  show own_Go _ _ _ _ _ _ _ T229 (mkF m 88 #[.val (.ref a33)] [(.double (9218868437227405312 : UInt64)), (.ref a33)])
  have F231 := (((((((((((((((((((H15.ext E55).other W63 (Or.inr (own_sne (own_f11 hw) (own_f1 hw) (by decide)))).ext E69).other W79 (Or.inr (own_sne (own_f11 hw) (own_f0 hw) (by decide)))).ext E86).other W97 (Or.inr (own_sne (own_f11 hw) (own_f2 hw) (by decide)))).ext E105).other W117 (Or.inr (own_sne (own_f11 hw) (own_f3 hw) (by decide)))).ext E126).other W139 (Or.inr (own_sne (own_f11 hw) (own_f4 hw) (by decide)))).ext E149).other W163 (Or.inr (own_sne (own_f11 hw) (own_f5 hw) (by decide)))).ext E174).other W189 (Or.inr (own_sne (own_f11 hw) (own_f6 hw) (by decide)))).ext E201).other W217 (Or.inr (own_sne (own_f11 hw) (own_f7 hw) (by decide)))).other W221 (Or.inr (own_sne (own_f11 hw) (own_f8 hw) (by decide)))).other W225 (Or.inr (own_sne (own_f11 hw) (own_f9 hw) (by decide)))).other W229 (Or.inr (own_sne (own_f11 hw) (own_f10 hw) (by decide))))
  have F232 := (F228.wr W229)
  refine own_putf X229 hx hZ hown (own_w hw 40 rfl) e229 N229 H19 F231 F232 (Or.inl (own_w hw 41 rfl)) (own_w hw 5 rfl) (ty := .double) (by decide) rfl rfl (hb hby d1_88) ?_
  intro T233 h233 lo233 X233 e233 N233 W233
  have F234 := F231.same W233
  show own_Go _ _ _ _ _ _ _ T233 (mkF m 91 #[.val (.ref a33)] [])
  have F235 := ((((((((((((((((((F64.ext E69).other W79 (Or.inr (own_sne (own_f1 hw) (own_f0 hw) (by decide)))).ext E86).other W97 (Or.inr (own_sne (own_f1 hw) (own_f2 hw) (by decide)))).ext E105).other W117 (Or.inr (own_sne (own_f1 hw) (own_f3 hw) (by decide)))).ext E126).other W139 (Or.inr (own_sne (own_f1 hw) (own_f4 hw) (by decide)))).ext E149).other W163 (Or.inr (own_sne (own_f1 hw) (own_f5 hw) (by decide)))).ext E174).other W189 (Or.inr (own_sne (own_f1 hw) (own_f6 hw) (by decide)))).ext E201).other W217 (Or.inr (own_sne (own_f1 hw) (own_f7 hw) (by decide)))).other W221 (Or.inr (own_sne (own_f1 hw) (own_f8 hw) (by decide)))).other W225 (Or.inr (own_sne (own_f1 hw) (own_f9 hw) (by decide)))).other W229 (Or.inr (own_sne (own_f1 hw) (own_f10 hw) (by decide)))).other W233 (Or.inr (own_sne (own_f1 hw) (own_f11 hw) (by decide))))
  have F236 := ((((((((((((((((F80.ext E86).other W97 (Or.inr (own_sne (own_f0 hw) (own_f2 hw) (by decide)))).ext E105).other W117 (Or.inr (own_sne (own_f0 hw) (own_f3 hw) (by decide)))).ext E126).other W139 (Or.inr (own_sne (own_f0 hw) (own_f4 hw) (by decide)))).ext E149).other W163 (Or.inr (own_sne (own_f0 hw) (own_f5 hw) (by decide)))).ext E174).other W189 (Or.inr (own_sne (own_f0 hw) (own_f6 hw) (by decide)))).ext E201).other W217 (Or.inr (own_sne (own_f0 hw) (own_f7 hw) (by decide)))).other W221 (Or.inr (own_sne (own_f0 hw) (own_f8 hw) (by decide)))).other W225 (Or.inr (own_sne (own_f0 hw) (own_f9 hw) (by decide)))).other W229 (Or.inr (own_sne (own_f0 hw) (own_f10 hw) (by decide)))).other W233 (Or.inr (own_sne (own_f0 hw) (own_f11 hw) (by decide))))
  have F237 := ((((((((((((((F98.ext E105).other W117 (Or.inr (own_sne (own_f2 hw) (own_f3 hw) (by decide)))).ext E126).other W139 (Or.inr (own_sne (own_f2 hw) (own_f4 hw) (by decide)))).ext E149).other W163 (Or.inr (own_sne (own_f2 hw) (own_f5 hw) (by decide)))).ext E174).other W189 (Or.inr (own_sne (own_f2 hw) (own_f6 hw) (by decide)))).ext E201).other W217 (Or.inr (own_sne (own_f2 hw) (own_f7 hw) (by decide)))).other W221 (Or.inr (own_sne (own_f2 hw) (own_f8 hw) (by decide)))).other W225 (Or.inr (own_sne (own_f2 hw) (own_f9 hw) (by decide)))).other W229 (Or.inr (own_sne (own_f2 hw) (own_f10 hw) (by decide)))).other W233 (Or.inr (own_sne (own_f2 hw) (own_f11 hw) (by decide))))
  have F238 := ((((((((((((F118.ext E126).other W139 (Or.inr (own_sne (own_f3 hw) (own_f4 hw) (by decide)))).ext E149).other W163 (Or.inr (own_sne (own_f3 hw) (own_f5 hw) (by decide)))).ext E174).other W189 (Or.inr (own_sne (own_f3 hw) (own_f6 hw) (by decide)))).ext E201).other W217 (Or.inr (own_sne (own_f3 hw) (own_f7 hw) (by decide)))).other W221 (Or.inr (own_sne (own_f3 hw) (own_f8 hw) (by decide)))).other W225 (Or.inr (own_sne (own_f3 hw) (own_f9 hw) (by decide)))).other W229 (Or.inr (own_sne (own_f3 hw) (own_f10 hw) (by decide)))).other W233 (Or.inr (own_sne (own_f3 hw) (own_f11 hw) (by decide))))
  have F239 := ((((((((((F140.ext E149).other W163 (Or.inr (own_sne (own_f4 hw) (own_f5 hw) (by decide)))).ext E174).other W189 (Or.inr (own_sne (own_f4 hw) (own_f6 hw) (by decide)))).ext E201).other W217 (Or.inr (own_sne (own_f4 hw) (own_f7 hw) (by decide)))).other W221 (Or.inr (own_sne (own_f4 hw) (own_f8 hw) (by decide)))).other W225 (Or.inr (own_sne (own_f4 hw) (own_f9 hw) (by decide)))).other W229 (Or.inr (own_sne (own_f4 hw) (own_f10 hw) (by decide)))).other W233 (Or.inr (own_sne (own_f4 hw) (own_f11 hw) (by decide))))
  have F240 := ((((((((F164.ext E174).other W189 (Or.inr (own_sne (own_f5 hw) (own_f6 hw) (by decide)))).ext E201).other W217 (Or.inr (own_sne (own_f5 hw) (own_f7 hw) (by decide)))).other W221 (Or.inr (own_sne (own_f5 hw) (own_f8 hw) (by decide)))).other W225 (Or.inr (own_sne (own_f5 hw) (own_f9 hw) (by decide)))).other W229 (Or.inr (own_sne (own_f5 hw) (own_f10 hw) (by decide)))).other W233 (Or.inr (own_sne (own_f5 hw) (own_f11 hw) (by decide))))
  have F241 := ((((((F190.ext E201).other W217 (Or.inr (own_sne (own_f6 hw) (own_f7 hw) (by decide)))).other W221 (Or.inr (own_sne (own_f6 hw) (own_f8 hw) (by decide)))).other W225 (Or.inr (own_sne (own_f6 hw) (own_f9 hw) (by decide)))).other W229 (Or.inr (own_sne (own_f6 hw) (own_f10 hw) (by decide)))).other W233 (Or.inr (own_sne (own_f6 hw) (own_f11 hw) (by decide))))
  have F242 := ((((F218.other W221 (Or.inr (own_sne (own_f7 hw) (own_f8 hw) (by decide)))).other W225 (Or.inr (own_sne (own_f7 hw) (own_f9 hw) (by decide)))).other W229 (Or.inr (own_sne (own_f7 hw) (own_f10 hw) (by decide)))).other W233 (Or.inr (own_sne (own_f7 hw) (own_f11 hw) (by decide))))
  have F243 := (((F222.other W225 (Or.inr (own_sne (own_f8 hw) (own_f9 hw) (by decide)))).other W229 (Or.inr (own_sne (own_f8 hw) (own_f10 hw) (by decide)))).other W233 (Or.inr (own_sne (own_f8 hw) (own_f11 hw) (by decide))))
  have F244 := ((F226.other W229 (Or.inr (own_sne (own_f9 hw) (own_f10 hw) (by decide)))).other W233 (Or.inr (own_sne (own_f9 hw) (own_f11 hw) (by decide))))
  have F245 := (F230.other W233 (Or.inr (own_sne (own_f10 hw) (own_f11 hw) (by decide))))
  have F246 := ((((((((((((((((((((H16.ext E55).other W63 (Or.inr (own_sne (own_f12 hw) (own_f1 hw) (by decide)))).ext E69).other W79 (Or.inr (own_sne (own_f12 hw) (own_f0 hw) (by decide)))).ext E86).other W97 (Or.inr (own_sne (own_f12 hw) (own_f2 hw) (by decide)))).ext E105).other W117 (Or.inr (own_sne (own_f12 hw) (own_f3 hw) (by decide)))).ext E126).other W139 (Or.inr (own_sne (own_f12 hw) (own_f4 hw) (by decide)))).ext E149).other W163 (Or.inr (own_sne (own_f12 hw) (own_f5 hw) (by decide)))).ext E174).other W189 (Or.inr (own_sne (own_f12 hw) (own_f6 hw) (by decide)))).ext E201).other W217 (Or.inr (own_sne (own_f12 hw) (own_f7 hw) (by decide)))).other W221 (Or.inr (own_sne (own_f12 hw) (own_f8 hw) (by decide)))).other W225 (Or.inr (own_sne (own_f12 hw) (own_f9 hw) (by decide)))).other W229 (Or.inr (own_sne (own_f12 hw) (own_f10 hw) (by decide)))).other W233 (Or.inr (own_sne (own_f12 hw) (own_f11 hw) (by decide))))
  have F247 := ((((((((((((((((((((H17.ext E55).other W63 (Or.inr (own_sne (own_f13 hw) (own_f1 hw) (by decide)))).ext E69).other W79 (Or.inr (own_sne (own_f13 hw) (own_f0 hw) (by decide)))).ext E86).other W97 (Or.inr (own_sne (own_f13 hw) (own_f2 hw) (by decide)))).ext E105).other W117 (Or.inr (own_sne (own_f13 hw) (own_f3 hw) (by decide)))).ext E126).other W139 (Or.inr (own_sne (own_f13 hw) (own_f4 hw) (by decide)))).ext E149).other W163 (Or.inr (own_sne (own_f13 hw) (own_f5 hw) (by decide)))).ext E174).other W189 (Or.inr (own_sne (own_f13 hw) (own_f6 hw) (by decide)))).ext E201).other W217 (Or.inr (own_sne (own_f13 hw) (own_f7 hw) (by decide)))).other W221 (Or.inr (own_sne (own_f13 hw) (own_f8 hw) (by decide)))).other W225 (Or.inr (own_sne (own_f13 hw) (own_f9 hw) (by decide)))).other W229 (Or.inr (own_sne (own_f13 hw) (own_f10 hw) (by decide)))).other W233 (Or.inr (own_sne (own_f13 hw) (own_f11 hw) (by decide))))
  have F248 := (((((F214.other W217 (Nat.ne_of_gt lt203)).other W221 (Nat.ne_of_gt lt203)).other W225 (Nat.ne_of_gt lt203)).other W229 (Nat.ne_of_gt lt203)).other W233 (Nat.ne_of_gt lt203))
  have F249 := (((((B201.wr W217).wr W221).wr W225).wr W229).wr W233)
  have F250 := ((((((F199.ext E201).other W217 (Nat.ne_of_gt lt176)).other W221 (Nat.ne_of_gt lt176)).other W225 (Nat.ne_of_gt lt176)).other W229 (Nat.ne_of_gt lt176)).other W233 (Nat.ne_of_gt lt176))
  have F251 := (((((((B174.wr W189).ext E201).wr W217).wr W221).wr W225).wr W229).wr W233)
  have F252 := ((((((F198.ext E201).other W217 (Nat.ne_of_gt lt151)).other W221 (Nat.ne_of_gt lt151)).other W225 (Nat.ne_of_gt lt151)).other W229 (Nat.ne_of_gt lt151)).other W233 (Nat.ne_of_gt lt151))
  have F253 := (((((((((B149.wr W163).ext E174).wr W189).ext E201).wr W217).wr W221).wr W225).wr W229).wr W233)
  have F254 := ((((((F197.ext E201).other W217 (Nat.ne_of_gt lt128)).other W221 (Nat.ne_of_gt lt128)).other W225 (Nat.ne_of_gt lt128)).other W229 (Nat.ne_of_gt lt128)).other W233 (Nat.ne_of_gt lt128))
  have F255 := (((((((((((B126.wr W139).ext E149).wr W163).ext E174).wr W189).ext E201).wr W217).wr W221).wr W225).wr W229).wr W233)
  have F256 := ((((((F196.ext E201).other W217 (Nat.ne_of_gt lt107)).other W221 (Nat.ne_of_gt lt107)).other W225 (Nat.ne_of_gt lt107)).other W229 (Nat.ne_of_gt lt107)).other W233 (Nat.ne_of_gt lt107))
  have F257 := (((((((((((((B105.wr W117).ext E126).wr W139).ext E149).wr W163).ext E174).wr W189).ext E201).wr W217).wr W221).wr W225).wr W229).wr W233)
  have F258 := (((((((((((((O105.wr W117).ext E126).wr W139).ext E149).wr W163).ext E174).wr W189).ext E201).wr W217).wr W221).wr W225).wr W229).wr W233)
  have F259 := ((((((F195.ext E201).other W217 (Nat.ne_of_gt lt88)).other W221 (Nat.ne_of_gt lt88)).other W225 (Nat.ne_of_gt lt88)).other W229 (Nat.ne_of_gt lt88)).other W233 (Nat.ne_of_gt lt88))
  have F260 := (((((((((((((((B86.wr W97).ext E105).wr W117).ext E126).wr W139).ext E149).wr W163).ext E174).wr W189).ext E201).wr W217).wr W221).wr W225).wr W229).wr W233)
  have F261 := ((((((F194.ext E201).other W217 (Nat.ne_of_gt lt71)).other W221 (Nat.ne_of_gt lt71)).other W225 (Nat.ne_of_gt lt71)).other W229 (Nat.ne_of_gt lt71)).other W233 (Nat.ne_of_gt lt71))
  have F262 := (((((((((((((((((B69.wr W79).ext E86).wr W97).ext E105).wr W117).ext E126).wr W139).ext E149).wr W163).ext E174).wr W189).ext E201).wr W217).wr W221).wr W225).wr W229).wr W233)
  have F263 := ((((((F193.ext E201).other W217 (Nat.ne_of_gt lt57)).other W221 (Nat.ne_of_gt lt57)).other W225 (Nat.ne_of_gt lt57)).other W229 (Nat.ne_of_gt lt57)).other W233 (Nat.ne_of_gt lt57))
  have F264 := (((((((((((((((((((B55.wr W63).ext E69).wr W79).ext E86).wr W97).ext E105).wr W117).ext E126).wr W139).ext E149).wr W163).ext E174).wr W189).ext E201).wr W217).wr W221).wr W225).wr W229).wr W233)
  exact own_ret0 X233 hx hlk hret (hb hby d1_91) e233 ⟨a55, a69, a86, a105, a126, a149, a174, a201, rfl, N233, (((((((((((((((((((((Keep.refl _ _).ext E55).wr W63 (Or.inl (by simp))).ext E69).wr W79 (Or.inl (by simp))).ext E86).wr W97 (Or.inl (by simp))).ext E105).wr W117 (Or.inl (by simp))).ext E126).wr W139 (Or.inl (by simp))).ext E149).wr W163 (Or.inl (by simp))).ext E174).wr W189 (Or.inl (by simp))).ext E201).wr W217 (Or.inl (by simp))).wr W221 (Or.inl (by simp))).wr W225 (Or.inl (by simp))).wr W229 (Or.inl (by simp))).wr W233 (Or.inl (by simp))), ge58, ge74, ge92, ge112, ge134, ge158, ge184, ge212, lt72, lt89, lt108, lt129, lt152, lt177, lt204, lt90, lt109, lt130, lt153, lt178, lt205, lt110, lt131, lt154, lt179, lt206, lt132, lt155, lt180, lt207, lt156, lt181, lt208, lt182, lt209, lt210, F235, F236, F237, F238, F239, F240, F241, F242, F243, F244, F245, F234, F246, F247, F248, F249, F250, F251, F252, F253, F254, F255, F256, F257, F258, F259, F260, F261, F262, F263, F264⟩ (by decide) (by decide)
theorem own_pd0 : parseMethodDescriptor "()V" = some ⟨[], none⟩ := by decide +kernel
theorem d3_0 : decode prog_5_method_12_code 0 = .ok (.aload_n 0, 1) := by decide +kernel
theorem d3_1 : decode prog_5_method_12_code 1 = .ok (.getfield 58, 3) := by decide +kernel
theorem d3_4 : decode prog_5_method_12_code 4 = .ok (.ifCond .ne 7, 3) := by decide +kernel
theorem d3_7 : decode prog_5_method_12_code 7 = .ok (.dload_n 1, 1) := by decide +kernel
theorem d3_8 : decode prog_5_method_12_code 8 = .ok (.goto 12, 3) := by decide +kernel
theorem d3_11 : decode prog_5_method_12_code 11 = .ok (.aload_n 0, 1) := by decide +kernel
theorem d3_12 : decode prog_5_method_12_code 12 = .ok (.getfield 9, 3) := by decide +kernel
theorem d3_15 : decode prog_5_method_12_code 15 = .ok (.aload_n 0, 1) := by decide +kernel
theorem d3_16 : decode prog_5_method_12_code 16 = .ok (.getfield 44, 3) := by decide +kernel
theorem d3_19 : decode prog_5_method_12_code 19 = .ok (.daload, 1) := by decide +kernel
theorem d3_20 : decode prog_5_method_12_code 20 = .ok (.dstore 5, 2) := by decide +kernel
theorem d3_22 : decode prog_5_method_12_code 22 = .ok (.aload_n 0, 1) := by decide +kernel
theorem d3_23 : decode prog_5_method_12_code 23 = .ok (.dload_n 1, 1) := by decide +kernel
theorem d3_24 : decode prog_5_method_12_code 24 = .ok (.dload_n 3, 1) := by decide +kernel
theorem d3_25 : decode prog_5_method_12_code 25 = .ok (.dload 5, 2) := by decide +kernel
theorem d3_27 : decode prog_5_method_12_code 27 = .ok (.dload_n 1, 1) := by decide +kernel
theorem d3_28 : decode prog_5_method_12_code 28 = .ok (.aload_n 0, 1) := by decide +kernel
theorem d3_29 : decode prog_5_method_12_code 29 = .ok (.getfield 58, 3) := by decide +kernel
theorem d3_32 : decode prog_5_method_12_code 32 = .ok (.ifCond .ne 7, 3) := by decide +kernel
theorem d3_35 : decode prog_5_method_12_code 35 = .ok (.dload_n 3, 1) := by decide +kernel
theorem d3_36 : decode prog_5_method_12_code 36 = .ok (.goto 14, 3) := by decide +kernel
theorem d3_39 : decode prog_5_method_12_code 39 = .ok (.dload_n 3, 1) := by decide +kernel
theorem d3_40 : decode prog_5_method_12_code 40 = .ok (.aload_n 0, 1) := by decide +kernel
theorem d3_41 : decode prog_5_method_12_code 41 = .ok (.getfield 13, 3) := by decide +kernel
theorem d3_44 : decode prog_5_method_12_code 44 = .ok (.aload_n 0, 1) := by decide +kernel
theorem d3_45 : decode prog_5_method_12_code 45 = .ok (.getfield 44, 3) := by decide +kernel
theorem d3_48 : decode prog_5_method_12_code 48 = .ok (.daload, 1) := by decide +kernel
theorem d3_49 : decode prog_5_method_12_code 49 = .ok (.dsub, 1) := by decide +kernel
theorem d3_50 : decode prog_5_method_12_code 50 = .ok (.invokestatic 64, 3) := by decide +kernel
theorem d3_53 : decode prog_5_method_12_code 53 = .ok (.lconst 0, 1) := by decide +kernel
theorem d3_54 : decode prog_5_method_12_code 54 = .ok (.invokevirtual 68, 3) := by decide +kernel
theorem d3_57 : decode prog_5_method_12_code 57 = .ok (.return_, 1) := by decide +kernel
theorem d4_0 : decode prog_17_method_2_code 0 = .ok (.new 8, 3) := by decide +kernel
theorem d4_3 : decode prog_17_method_2_code 3 = .ok (.dup, 1) := by decide +kernel
theorem d4_4 : decode prog_17_method_2_code 4 = .ok (.dload_n 0, 1) := by decide +kernel
theorem d4_5 : decode prog_17_method_2_code 5 = .ok (.dload_n 2, 1) := by decide +kernel
theorem d4_6 : decode prog_17_method_2_code 6 = .ok (.dload_n 2, 1) := by decide +kernel
theorem d4_7 : decode prog_17_method_2_code 7 = .ok (.dload_n 2, 1) := by decide +kernel
theorem d4_8 : decode prog_17_method_2_code 8 = .ok (.dload 4, 2) := by decide +kernel
theorem d4_10 : decode prog_17_method_2_code 10 = .ok (.dload 4, 2) := by decide +kernel
theorem d4_12 : decode prog_17_method_2_code 12 = .ok (.invokespecial 28, 3) := by decide +kernel
theorem d4_15 : decode prog_17_method_2_code 15 = .ok (.areturn, 1) := by decide +kernel
theorem own_pn2 : plainName "com/example/rankline/rankline/Extent" = true := by first | (simp [plainName, overriddenIn]; done) | decide +kernel
theorem d5_0 : decode prog_17_method_1_code 0 = .ok (.aload_n 0, 1) := by decide +kernel
theorem d5_1 : decode prog_17_method_1_code 1 = .ok (.invokespecial 1, 3) := by decide +kernel
theorem d5_4 : decode prog_17_method_1_code 4 = .ok (.aload_n 0, 1) := by decide +kernel
theorem d5_5 : decode prog_17_method_1_code 5 = .ok (.dload_n 1, 1) := by decide +kernel
theorem d5_6 : decode prog_17_method_1_code 6 = .ok (.putfield 7, 3) := by decide +kernel
theorem d5_9 : decode prog_17_method_1_code 9 = .ok (.aload_n 0, 1) := by decide +kernel
theorem d5_10 : decode prog_17_method_1_code 10 = .ok (.dload_n 3, 1) := by decide +kernel
theorem d5_11 : decode prog_17_method_1_code 11 = .ok (.putfield 13, 3) := by decide +kernel
theorem d5_14 : decode prog_17_method_1_code 14 = .ok (.aload_n 0, 1) := by decide +kernel
theorem d5_15 : decode prog_17_method_1_code 15 = .ok (.dload 5, 2) := by decide +kernel
theorem d5_17 : decode prog_17_method_1_code 17 = .ok (.putfield 16, 3) := by decide +kernel
theorem d5_20 : decode prog_17_method_1_code 20 = .ok (.aload_n 0, 1) := by decide +kernel
theorem d5_21 : decode prog_17_method_1_code 21 = .ok (.dload 7, 2) := by decide +kernel
theorem d5_23 : decode prog_17_method_1_code 23 = .ok (.putfield 19, 3) := by decide +kernel
theorem d5_26 : decode prog_17_method_1_code 26 = .ok (.aload_n 0, 1) := by decide +kernel
theorem d5_27 : decode prog_17_method_1_code 27 = .ok (.dload 9, 2) := by decide +kernel
theorem d5_29 : decode prog_17_method_1_code 29 = .ok (.putfield 22, 3) := by decide +kernel
theorem d5_32 : decode prog_17_method_1_code 32 = .ok (.aload_n 0, 1) := by decide +kernel
theorem d5_33 : decode prog_17_method_1_code 33 = .ok (.dload 11, 2) := by decide +kernel
theorem d5_35 : decode prog_17_method_1_code 35 = .ok (.putfield 25, 3) := by decide +kernel
theorem d5_38 : decode prog_17_method_1_code 38 = .ok (.return_, 1) := by decide +kernel
theorem d6_0 : decode jdk_30_method_1_code 0 = .ok (.aload_n 0, 1) := by decide +kernel
theorem d6_1 : decode jdk_30_method_1_code 1 = .ok (.invokespecial 1, 3) := by decide +kernel
theorem d6_4 : decode jdk_30_method_1_code 4 = .ok (.return_, 1) := by decide +kernel
theorem own_pn3 : plainName "java/lang/Record" = true := by first | (simp [plainName, overriddenIn]; done) | decide +kernel
def own_s5_Q (Z : State) (a394 : Addr) (h0 : Heap) (n0 : Nat) (v_ : Option Value) (h_ : Heap) (L_ : List Loc) : Prop := (fun v h L => v = none ∧ Fr n0 L ∧ h = h0) v_ h_ L_
set_option maxRecDepth 65536 in
set_option maxHeartbeats 40000000 in
theorem own_s5 (l : Launch) (Z : State) (a0 : Array Value) (hw : ∀ d ∈ tables_1, d.before a0 Z = true) (wds : List Jvm.Cond) (a394 : Addr) (h0 : Heap) (n0 : Nat) (Z0 : n0 ≤ h0.size)  :
    MetFree l (⟨"java/lang/Record", "<init>", "()V"⟩ : MethodName) (head1 (Jvm.Cond.code (⟨"java/lang/Record", "<init>", "()V"⟩ : MethodName) jdk_30_method_1_code 1 none :: wds) ({ frames := 1, cells := 0, slots := 0, locals := 12 } : Room)) (fun ar_ U_ => ar_ = #[(.ref a394)] ∧ Z.Warmed39 U_.vm ∧ U_.heap = h0) (fun _ _ _ _ _ => True) (fun _ U_ o_ V_ => ∃ v_ L_, o_ = .returned v_ ∧ own_s5_Q Z a394 h0 n0 v_ V_.heap L_ ∧ FrameEnd U_ o_ V_ L_ ({ frames := 1, cells := 0, slots := 0, locals := 12 } : Room).cells ({ frames := 1, cells := 0, slots := 0, locals := 12 } : Room).slots) := by
  refine own_met (y := ⟨"java/lang/Record", "<init>", "()V"⟩) (Q := own_s5_Q Z a394 h0 n0) own_pn3 ?_
  intro p e s m below meth c s₁ hx hby hml hZ hown hnm hret hlk X0 e0
  have N0 := Fr.nil n0
  refine own_cast (g' := (mkF m 0 #[.val (.ref a394)] [])) (by first | (simp [entryFrame, mkF, argsToLocals, Value.category]; done) | rfl) ?_
  refine own_alN (w := (.ref a394)) X0 hx (hb hby d6_0) rfl rfl ?_
  refine own_init0 X0 hx hZ hown (own_w hw 64 rfl) (own_w hw 11 rfl) (own_w hw 12 rfl) e0 (hb hby d6_1) (by rw [hml]; rfl) (by decide) (W := 0) (Nat.le_of_eq rfl) (by decide) ?_
  intro T407 X407 e407
  show own_Go _ _ _ _ _ _ _ T407 (mkF m 4 #[.val (.ref a394)] [])
  exact own_ret0 X407 hx hlk hret (hb hby d6_4) e407 ⟨rfl, N0, rfl⟩ (by decide) (by decide)
theorem own_f14 {a0 : Array Value} {Z : State} (hw : ∀ d ∈ tables_1, d.before a0 Z = true) : Laid Z a0 own_k1 own_k1 "gapLow" "D" ∧ parseFieldDescriptor "D" = some .double := ⟨(Or.inr (own_w hw 68 rfl)), by decide⟩
theorem own_f15 {a0 : Array Value} {Z : State} (hw : ∀ d ∈ tables_1, d.before a0 Z = true) : Laid Z a0 own_k1 own_k1 "low" "D" ∧ parseFieldDescriptor "D" = some .double := ⟨(Or.inr (own_w hw 66 rfl)), by decide⟩
theorem own_f16 {a0 : Array Value} {Z : State} (hw : ∀ d ∈ tables_1, d.before a0 Z = true) : Laid Z a0 own_k1 own_k1 "gapHigh" "D" ∧ parseFieldDescriptor "D" = some .double := ⟨(Or.inr (own_w hw 70 rfl)), by decide⟩
theorem own_f17 {a0 : Array Value} {Z : State} (hw : ∀ d ∈ tables_1, d.before a0 Z = true) : Laid Z a0 own_k1 own_k1 "high" "D" ∧ parseFieldDescriptor "D" = some .double := ⟨(Or.inr (own_w hw 72 rfl)), by decide⟩
theorem own_f18 {a0 : Array Value} {Z : State} (hw : ∀ d ∈ tables_1, d.before a0 Z = true) : Laid Z a0 own_k1 own_k1 "below" "D" ∧ parseFieldDescriptor "D" = some .double := ⟨(Or.inr (own_w hw 74 rfl)), by decide⟩
theorem own_f19 {a0 : Array Value} {Z : State} (hw : ∀ d ∈ tables_1, d.before a0 Z = true) : Laid Z a0 own_k1 own_k1 "count" "D" ∧ parseFieldDescriptor "D" = some .double := ⟨(Or.inr (own_w hw 76 rfl)), by decide⟩
def own_s4_Q (Z : State) (a394 : Addr) (f386 : UInt64) (h0 : Heap) (n0 : Nat) (v_ : Option Value) (h_ : Heap) (L_ : List Loc) : Prop := (fun v h L => v = none ∧ Fr n0 L ∧ Keep h0 h [a394] ∧ Fld Z h a394 own_k1 "low" "D" (.double (4621819117588971520 : UInt64)) ∧ Fld Z h a394 own_k1 "gapLow" "D" (.double (4621819117588971520 : UInt64)) ∧ Fld Z h a394 own_k1 "gapHigh" "D" (.double (4621819117588971520 : UInt64)) ∧ Fld Z h a394 own_k1 "high" "D" (.double (4621819117588971520 : UInt64)) ∧ Fld Z h a394 own_k1 "below" "D" (.double f386) ∧ Fld Z h a394 own_k1 "count" "D" (.double f386)) v_ h_ L_
set_option maxRecDepth 65536 in
set_option maxHeartbeats 40000000 in
theorem own_s4 (l : Launch) (Z : State) (a0 : Array Value) (hw : ∀ d ∈ tables_1, d.before a0 Z = true) (wds : List Jvm.Cond) (a394 : Addr) (f386 : UInt64) (h0 : Heap) (n0 : Nat) (Z0 : n0 ≤ h0.size) (H3 : Exa Z h0 a394 own_k1) (H4 : Fld Z h0 a394 own_k1 "low" "D" (.double (0 : UInt64))) (H5 : Fld Z h0 a394 own_k1 "gapLow" "D" (.double (0 : UInt64))) (H6 : Fld Z h0 a394 own_k1 "gapHigh" "D" (.double (0 : UInt64))) (H7 : Fld Z h0 a394 own_k1 "high" "D" (.double (0 : UInt64))) (H8 : Fld Z h0 a394 own_k1 "below" "D" (.double (0 : UInt64))) (H9 : Fld Z h0 a394 own_k1 "count" "D" (.double (0 : UInt64))) (H11 : n0 ≤ a394) :
    MetFree l (⟨own_k1, "<init>", "(DDDDDD)V"⟩ : MethodName) (head1 (Jvm.Cond.code (⟨own_k1, "<init>", "(DDDDDD)V"⟩ : MethodName) prog_17_method_1_code 13 none :: wds) ({ frames := 2, cells := 0, slots := 0, locals := 24 } : Room)) (fun ar_ U_ => ar_ = #[(.ref a394), (.double (4621819117588971520 : UInt64)), (.double (4621819117588971520 : UInt64)), (.double (4621819117588971520 : UInt64)), (.double (4621819117588971520 : UInt64)), (.double f386), (.double f386)] ∧ Z.Warmed39 U_.vm ∧ U_.heap = h0) (fun _ _ _ _ _ => True) (fun _ U_ o_ V_ => ∃ v_ L_, o_ = .returned v_ ∧ own_s4_Q Z a394 f386 h0 n0 v_ V_.heap L_ ∧ FrameEnd U_ o_ V_ L_ ({ frames := 2, cells := 0, slots := 0, locals := 24 } : Room).cells ({ frames := 2, cells := 0, slots := 0, locals := 24 } : Room).slots) := by
  refine own_met (y := ⟨own_k1, "<init>", "(DDDDDD)V"⟩) (Q := own_s4_Q Z a394 f386 h0 n0) own_pn2 ?_
  intro p e s m below meth c s₁ hx hby hml hZ hown hnm hret hlk X0 e0
  have N0 := Fr.nil n0
  refine own_cast (g' := (mkF m 0 #[.val (.ref a394), .val (.double (4621819117588971520 : UInt64)), .second, .val (.double (4621819117588971520 : UInt64)), .second, .val (.double (4621819117588971520 : UInt64)), .second, .val (.double (4621819117588971520 : UInt64)), .second, .val (.double f386), .second, .val (.double f386), .second] [])) (by first | (simp [entryFrame, mkF, argsToLocals, Value.category]; done) | rfl) ?_
  generalize hL404 : (#[.val (.ref a394), .val (.double (4621819117588971520 : UInt64)), .second, .val (.double (4621819117588971520 : UInt64)), .second, .val (.double (4621819117588971520 : UInt64)), .second, .val (.double (4621819117588971520 : UInt64)), .second, .val (.double f386), .second, .val (.double f386), .second] : Array Slot) = L404
  refine own_alN (w := (.ref a394)) X0 hx (hb hby d5_0) (by rw [← hL404]; rfl) rfl ?_
  refine own_init (a := a394) (argsL := []) (rest := []) X0 hx hZ hown (own_s5 l Z a0 hw [] a394 h0 n0 Z0 ) rfl (own_w hw 59 rfl) (own_w hw 60 rfl) (own_w hw 63 rfl) (own_w hw 62 rfl) (by decide) e0 (hb hby d5_1) (by rw [hml, ← hL404]; rfl) rfl (lenOf own_pd0 rfl) (by decide) (W := 0) (Nat.le_of_eq rfl) (by decide) (by decide) (by decide) ?_
  intro v408 T408 lo408 X408 Q408
  obtain ⟨h408, e408⟩ : ∃ h, T408.heap = h := ⟨_, rfl⟩
  rw [e408] at Q408
  obtain ⟨rfl, N408, K408⟩ := Q408
  have N408' := Fr.app N0 N408
  have e408' : T408.heap = h0 := e408.trans K408
  show own_Go _ _ _ _ _ _ _ T408 (mkF m 4 L404 [])
  refine own_alN (w := (.ref a394)) X408 hx (hb hby d5_4) (by rw [← hL404]; rfl) rfl ?_
  refine own_dlN (w := (4621819117588971520 : UInt64)) X408 hx (hb hby d5_5) (by rw [← hL404]; rfl) ?_
  refine own_putf X408 hx hZ hown (own_w hw 65 rfl) e408' N408' H11 H4 H3 (Or.inr ⟨(own_w hw 66 rfl), rfl, hnm⟩) (own_w hw 55 rfl) (ty := .double) (by decide) rfl rfl (hb hby d5_6) ?_
  intro T409 h409 lo409 X409 e409 N409 W409
  have F410 := H4.same W409
  show own_Go _ _ _ _ _ _ _ T409 (mkF m 9 L404 [])
  refine own_alN (w := (.ref a394)) X409 hx (hb hby d5_9) (by rw [← hL404]; rfl) rfl ?_
  refine own_dlN (w := (4621819117588971520 : UInt64)) X409 hx (hb hby d5_10) (by rw [← hL404]; rfl) ?_
  have F411 := (H5.other W409 (Or.inr (own_sne (own_f14 hw) (own_f15 hw) (by decide))))
  have F412 := (H3.wr W409)
  refine own_putf X409 hx hZ hown (own_w hw 67 rfl) e409 N409 H11 F411 F412 (Or.inr ⟨(own_w hw 68 rfl), rfl, hnm⟩) (own_w hw 55 rfl) (ty := .double) (by decide) rfl rfl (hb hby d5_11) ?_
  intro T413 h413 lo413 X413 e413 N413 W413
  have F414 := F411.same W413
  show own_Go _ _ _ _ _ _ _ T413 (mkF m 14 L404 [])
  refine own_alN (w := (.ref a394)) X413 hx (hb hby d5_14) (by rw [← hL404]; rfl) rfl ?_
  refine own_dl (w := (4621819117588971520 : UInt64)) X413 hx (hb hby d5_15) (by rw [← hL404]; rfl) ?_
  have F415 := ((H6.other W409 (Or.inr (own_sne (own_f16 hw) (own_f15 hw) (by decide)))).other W413 (Or.inr (own_sne (own_f16 hw) (own_f14 hw) (by decide))))
  have F416 := (F412.wr W413)
  refine own_putf X413 hx hZ hown (own_w hw 69 rfl) e413 N413 H11 F415 F416 (Or.inr ⟨(own_w hw 70 rfl), rfl, hnm⟩) (own_w hw 55 rfl) (ty := .double) (by decide) rfl rfl (hb hby d5_17) ?_
  intro T417 h417 lo417 X417 e417 N417 W417
  have F418 := F415.same W417
  show own_Go _ _ _ _ _ _ _ T417 (mkF m 20 L404 [])
  refine own_alN (w := (.ref a394)) X417 hx (hb hby d5_20) (by rw [← hL404]; rfl) rfl ?_
  refine own_dl (w := (4621819117588971520 : UInt64)) X417 hx (hb hby d5_21) (by rw [← hL404]; rfl) ?_
  have F419 := (((H7.other W409 (Or.inr (own_sne (own_f17 hw) (own_f15 hw) (by decide)))).other W413 (Or.inr (own_sne (own_f17 hw) (own_f14 hw) (by decide)))).other W417 (Or.inr (own_sne (own_f17 hw) (own_f16 hw) (by decide))))
  have F420 := (F416.wr W417)
  refine own_putf X417 hx hZ hown (own_w hw 71 rfl) e417 N417 H11 F419 F420 (Or.inr ⟨(own_w hw 72 rfl), rfl, hnm⟩) (own_w hw 55 rfl) (ty := .double) (by decide) rfl rfl (hb hby d5_23) ?_
  intro T421 h421 lo421 X421 e421 N421 W421
  have F422 := F419.same W421
  show own_Go _ _ _ _ _ _ _ T421 (mkF m 26 L404 [])
  refine own_alN (w := (.ref a394)) X421 hx (hb hby d5_26) (by rw [← hL404]; rfl) rfl ?_
  refine own_dl (w := f386) X421 hx (hb hby d5_27) (by rw [← hL404]; rfl) ?_
  have F423 := ((((H8.other W409 (Or.inr (own_sne (own_f18 hw) (own_f15 hw) (by decide)))).other W413 (Or.inr (own_sne (own_f18 hw) (own_f14 hw) (by decide)))).other W417 (Or.inr (own_sne (own_f18 hw) (own_f16 hw) (by decide)))).other W421 (Or.inr (own_sne (own_f18 hw) (own_f17 hw) (by decide))))
  have F424 := (F420.wr W421)
  refine own_putf X421 hx hZ hown (own_w hw 73 rfl) e421 N421 H11 F423 F424 (Or.inr ⟨(own_w hw 74 rfl), rfl, hnm⟩) (own_w hw 55 rfl) (ty := .double) (by decide) rfl rfl (hb hby d5_29) ?_
  intro T425 h425 lo425 X425 e425 N425 W425
  have F426 := F423.same W425
  show own_Go _ _ _ _ _ _ _ T425 (mkF m 32 L404 [])
  refine own_alN (w := (.ref a394)) X425 hx (hb hby d5_32) (by rw [← hL404]; rfl) rfl ?_
  refine own_dl (w := f386) X425 hx (hb hby d5_33) (by rw [← hL404]; rfl) ?_
  have F427 := (((((H9.other W409 (Or.inr (own_sne (own_f19 hw) (own_f15 hw) (by decide)))).other W413 (Or.inr (own_sne (own_f19 hw) (own_f14 hw) (by decide)))).other W417 (Or.inr (own_sne (own_f19 hw) (own_f16 hw) (by decide)))).other W421 (Or.inr (own_sne (own_f19 hw) (own_f17 hw) (by decide)))).other W425 (Or.inr (own_sne (own_f19 hw) (own_f18 hw) (by decide))))
  have F428 := (F424.wr W425)
  refine own_putf X425 hx hZ hown (own_w hw 75 rfl) e425 N425 H11 F427 F428 (Or.inr ⟨(own_w hw 76 rfl), rfl, hnm⟩) (own_w hw 55 rfl) (ty := .double) (by decide) rfl rfl (hb hby d5_35) ?_
  intro T429 h429 lo429 X429 e429 N429 W429
  have F430 := F427.same W429
  show own_Go _ _ _ _ _ _ _ T429 (mkF m 38 L404 [])
  have F431 := (((((F410.other W413 (Or.inr (own_sne (own_f15 hw) (own_f14 hw) (by decide)))).other W417 (Or.inr (own_sne (own_f15 hw) (own_f16 hw) (by decide)))).other W421 (Or.inr (own_sne (own_f15 hw) (own_f17 hw) (by decide)))).other W425 (Or.inr (own_sne (own_f15 hw) (own_f18 hw) (by decide)))).other W429 (Or.inr (own_sne (own_f15 hw) (own_f19 hw) (by decide))))
  have F432 := ((((F414.other W417 (Or.inr (own_sne (own_f14 hw) (own_f16 hw) (by decide)))).other W421 (Or.inr (own_sne (own_f14 hw) (own_f17 hw) (by decide)))).other W425 (Or.inr (own_sne (own_f14 hw) (own_f18 hw) (by decide)))).other W429 (Or.inr (own_sne (own_f14 hw) (own_f19 hw) (by decide))))
  have F433 := (((F418.other W421 (Or.inr (own_sne (own_f16 hw) (own_f17 hw) (by decide)))).other W425 (Or.inr (own_sne (own_f16 hw) (own_f18 hw) (by decide)))).other W429 (Or.inr (own_sne (own_f16 hw) (own_f19 hw) (by decide))))
  have F434 := ((F422.other W425 (Or.inr (own_sne (own_f17 hw) (own_f18 hw) (by decide)))).other W429 (Or.inr (own_sne (own_f17 hw) (own_f19 hw) (by decide))))
  have F435 := (F426.other W429 (Or.inr (own_sne (own_f18 hw) (own_f19 hw) (by decide))))
  exact own_ret0 X429 hx hlk hret (hb hby d5_38) e429 ⟨rfl, N429, (((((((Keep.refl _ _).wr W409 (Or.inl (by simp))).wr W413 (Or.inl (by simp))).wr W417 (Or.inl (by simp))).wr W421 (Or.inl (by simp))).wr W425 (Or.inl (by simp))).wr W429 (Or.inl (by simp))), F431, F432, F433, F434, F435, F430⟩ (by decide) (by decide)
theorem own_pd1 : parseMethodDescriptor "(DDDDDD)V" = some ⟨[.double, .double, .double, .double, .double, .double], none⟩ := by decide +kernel
def own_s3_Q (Z : State) (f386 : UInt64) (h0 : Heap) (n0 : Nat) (v_ : Option Value) (h_ : Heap) (L_ : List Loc) : Prop := (fun v h L => ∃ (a394 : Addr), v = some (.ref a394) ∧ Fr n0 L ∧ Keep h0 h [] ∧ h0.size ≤ a394 ∧ Exa Z h a394 own_k1 ∧ Fld Z h a394 own_k1 "low" "D" (.double (4621819117588971520 : UInt64)) ∧ Fld Z h a394 own_k1 "gapLow" "D" (.double (4621819117588971520 : UInt64)) ∧ Fld Z h a394 own_k1 "gapHigh" "D" (.double (4621819117588971520 : UInt64)) ∧ Fld Z h a394 own_k1 "high" "D" (.double (4621819117588971520 : UInt64)) ∧ Fld Z h a394 own_k1 "below" "D" (.double f386) ∧ Fld Z h a394 own_k1 "count" "D" (.double f386)) v_ h_ L_
set_option maxRecDepth 65536 in
set_option maxHeartbeats 40000000 in
theorem own_s3 (l : Launch) (Z : State) (a0 : Array Value) (hw : ∀ d ∈ tables_1, d.before a0 Z = true) (wds : List Jvm.Cond) (f386 : UInt64) (h0 : Heap) (n0 : Nat) (Z0 : n0 ≤ h0.size)  :
    MetFree l (⟨own_k1, "of", own_k5⟩ : MethodName) (head1 (Jvm.Cond.code (⟨own_k1, "of", own_k5⟩ : MethodName) prog_17_method_2_code 6 (some (.object own_k1)) :: wds) ({ frames := 3, cells := 1, slots := 6, locals := 49 } : Room)) (fun ar_ U_ => ar_ = #[(.double (4621819117588971520 : UInt64)), (.double (4621819117588971520 : UInt64)), (.double f386)] ∧ Z.Warmed39 U_.vm ∧ U_.heap = h0) (fun _ _ _ _ _ => True) (fun _ U_ o_ V_ => ∃ v_ L_, o_ = .returned v_ ∧ own_s3_Q Z f386 h0 n0 v_ V_.heap L_ ∧ FrameEnd U_ o_ V_ L_ ({ frames := 3, cells := 1, slots := 6, locals := 49 } : Room).cells ({ frames := 3, cells := 1, slots := 6, locals := 49 } : Room).slots) := by
  refine own_met (y := ⟨own_k1, "of", own_k5⟩) (Q := own_s3_Q Z f386 h0 n0) own_pn2 ?_
  intro p e s m below meth c s₁ hx hby hml hZ hown hnm hret hlk X0 e0
  have N0 := Fr.nil n0
  refine own_cast (g' := (mkF m 0 #[.val (.double (4621819117588971520 : UInt64)), .second, .val (.double (4621819117588971520 : UInt64)), .second, .val (.double f386), .second] [])) (by first | (simp [entryFrame, mkF, argsToLocals, Value.category]; done) | rfl) ?_
  generalize hL393 : (#[.val (.double (4621819117588971520 : UInt64)), .second, .val (.double (4621819117588971520 : UInt64)), .second, .val (.double f386), .second] : Array Slot) = L393
  refine own_newobj X0 hx hZ hown (own_w hw 54 rfl) (own_w hw 55 rfl) (own_w hw 52 rfl) e0 (hb hby d4_0) (by decide) (by decide) ?_
  intro T394 h394 a394 g394 X394 e394 E394 A394 D394
  have ge396 : h0.size ≤ a394 := Nat.le_trans (Nat.le_refl _) (Nat.le_of_eq g394.symm)
  have nw397 : n0 ≤ a394 := Nat.le_trans Z0 (Nat.le_of_eq g394.symm)
  have F398 : Fld Z h394 a394 own_k1 "low" "D" (.double (0 : UInt64)) := D394 (Or.inr (own_w hw 66 rfl)) (ty := .double) (by decide)
  have F399 : Fld Z h394 a394 own_k1 "gapLow" "D" (.double (0 : UInt64)) := D394 (Or.inr (own_w hw 68 rfl)) (ty := .double) (by decide)
  have F400 : Fld Z h394 a394 own_k1 "gapHigh" "D" (.double (0 : UInt64)) := D394 (Or.inr (own_w hw 70 rfl)) (ty := .double) (by decide)
  have F401 : Fld Z h394 a394 own_k1 "high" "D" (.double (0 : UInt64)) := D394 (Or.inr (own_w hw 72 rfl)) (ty := .double) (by decide)
  have F402 : Fld Z h394 a394 own_k1 "below" "D" (.double (0 : UInt64)) := D394 (Or.inr (own_w hw 74 rfl)) (ty := .double) (by decide)
  have F403 : Fld Z h394 a394 own_k1 "count" "D" (.double (0 : UInt64)) := D394 (Or.inr (own_w hw 76 rfl)) (ty := .double) (by decide)
  show own_Go _ _ _ _ _ _ _ T394 (mkF m 3 L393 [(.ref a394)])
  refine own_pre (g' := (mkF m 4 L393 [(.ref a394), (.ref a394)])) (fun t k => XS.dup X394.here hx rfl (hb hby d4_3) rfl rfl k) ?_
  refine own_dlN (w := (4621819117588971520 : UInt64)) X394 hx (hb hby d4_4) (by rw [← hL393]; rfl) ?_
  refine own_dlN (w := (4621819117588971520 : UInt64)) X394 hx (hb hby d4_5) (by rw [← hL393]; rfl) ?_
  refine own_dlN (w := (4621819117588971520 : UInt64)) X394 hx (hb hby d4_6) (by rw [← hL393]; rfl) ?_
  refine own_dlN (w := (4621819117588971520 : UInt64)) X394 hx (hb hby d4_7) (by rw [← hL393]; rfl) ?_
  refine own_dl (w := f386) X394 hx (hb hby d4_8) (by rw [← hL393]; rfl) ?_
  refine own_dl (w := f386) X394 hx (hb hby d4_10) (by rw [← hL393]; rfl) ?_
  have F436 : n0 ≤ h394.size := (Nat.le_trans Z0 E394.1)
  refine own_init (a := a394) (argsL := [(.double (4621819117588971520 : UInt64)), (.double (4621819117588971520 : UInt64)), (.double (4621819117588971520 : UInt64)), (.double (4621819117588971520 : UInt64)), (.double f386), (.double f386)]) (rest := [(.ref a394)]) X394 hx hZ hown (own_s4 l Z a0 hw [] a394 f386 h394 n0 F436 A394 F398 F399 F400 F401 F402 F403 nw397) rfl (own_w hw 56 rfl) (own_w hw 57 rfl) (own_w hw 58 rfl) (own_w hw 52 rfl) (by decide) e394 (hb hby d4_12) (by rw [hml, ← hL393]; rfl) rfl (lenOf own_pd1 rfl) (by decide) (W := 1) (Nat.le_of_eq rfl) (by decide) (by decide) (by decide) ?_
  intro v437 T437 lo437 X437 Q437
  obtain ⟨h437, e437⟩ : ∃ h, T437.heap = h := ⟨_, rfl⟩
  rw [e437] at Q437
  obtain ⟨rfl, N437, K437, F438, F439, F440, F441, F442, F443⟩ := Q437
  have N437' := Fr.app N0 N437
  show own_Go _ _ _ _ _ _ _ T437 (mkF m 15 L393 [(.ref a394)])
  have F445 := (A394.keep K437)
  exact own_retA X437 hx hlk hret rfl rfl rfl (hb hby d4_15) e437 ⟨a394, rfl, N437', (((Keep.refl _ _).ext E394).trans K437 (allS (Or.inr ge396) all0)), ge396, F445, F438, F439, F440, F441, F442, F443⟩ (by decide) (by decide)
theorem own_pd2 : parseMethodDescriptor "(DDD)Lcom/example/rankline/rankline/Extent;" = some ⟨[.double, .double, .double], some (.object "com/example/rankline/rankline/Extent")⟩ := by decide +kernel
theorem d7_0 : decode prog_5_method_13_code 0 = .ok (.aload_n 0, 1) := by decide +kernel
theorem d7_1 : decode prog_5_method_13_code 1 = .ok (.iconst (-1), 1) := by decide +kernel
theorem d7_2 : decode prog_5_method_13_code 2 = .ok (.dload_n 1, 1) := by decide +kernel
theorem d7_3 : decode prog_5_method_13_code 3 = .ok (.dload_n 3, 1) := by decide +kernel
theorem d7_4 : decode prog_5_method_13_code 4 = .ok (.aload_n 0, 1) := by decide +kernel
theorem d7_5 : decode prog_5_method_13_code 5 = .ok (.getfield 58, 3) := by decide +kernel
theorem d7_8 : decode prog_5_method_13_code 8 = .ok (.ifCond .ne 12, 3) := by decide +kernel
theorem d7_11 : decode prog_5_method_13_code 11 = .ok (.dload_n 1, 1) := by decide +kernel
theorem d7_12 : decode prog_5_method_13_code 12 = .ok (.dload_n 1, 1) := by decide +kernel
theorem d7_13 : decode prog_5_method_13_code 13 = .ok (.dload_n 3, 1) := by decide +kernel
theorem d7_14 : decode prog_5_method_13_code 14 = .ok (.invokestatic 64, 3) := by decide +kernel
theorem d7_17 : decode prog_5_method_13_code 17 = .ok (.goto 5, 3) := by decide +kernel
theorem d7_20 : decode prog_5_method_13_code 20 = .ok (.aload 5, 2) := by decide +kernel
theorem d7_22 : decode prog_5_method_13_code 22 = .ok (.lload 6, 2) := by decide +kernel
theorem d7_24 : decode prog_5_method_13_code 24 = .ok (.invokevirtual 72, 3) := by decide +kernel
theorem d7_27 : decode prog_5_method_13_code 27 = .ok (.pop, 1) := by decide +kernel
theorem d7_28 : decode prog_5_method_13_code 28 = .ok (.return_, 1) := by decide +kernel
def own_s9_Q (Z : State) (a505 : Addr) (h0 : Heap) (n0 : Nat) (v_ : Option Value) (h_ : Heap) (L_ : List Loc) : Prop := (fun v h L => v = none ∧ Fr n0 L ∧ h = h0) v_ h_ L_
set_option maxRecDepth 65536 in
set_option maxHeartbeats 40000000 in
theorem own_s9 (l : Launch) (Z : State) (a0 : Array Value) (hw : ∀ d ∈ tables_1, d.before a0 Z = true) (wds : List Jvm.Cond) (a505 : Addr) (h0 : Heap) (n0 : Nat) (Z0 : n0 ≤ h0.size)  :
    MetFree l (⟨"java/lang/Record", "<init>", "()V"⟩ : MethodName) (head1 (Jvm.Cond.code (⟨"java/lang/Record", "<init>", "()V"⟩ : MethodName) jdk_30_method_1_code 1 none :: wds) ({ frames := 1, cells := 0, slots := 0, locals := 12 } : Room)) (fun ar_ U_ => ar_ = #[(.ref a505)] ∧ Z.Warmed39 U_.vm ∧ U_.heap = h0) (fun _ _ _ _ _ => True) (fun _ U_ o_ V_ => ∃ v_ L_, o_ = .returned v_ ∧ own_s9_Q Z a505 h0 n0 v_ V_.heap L_ ∧ FrameEnd U_ o_ V_ L_ ({ frames := 1, cells := 0, slots := 0, locals := 12 } : Room).cells ({ frames := 1, cells := 0, slots := 0, locals := 12 } : Room).slots) := by
  refine own_met (y := ⟨"java/lang/Record", "<init>", "()V"⟩) (Q := own_s9_Q Z a505 h0 n0) own_pn3 ?_
  intro p e s m below meth c s₁ hx hby hml hZ hown hnm hret hlk X0 e0
  have N0 := Fr.nil n0
  refine own_cast (g' := (mkF m 0 #[.val (.ref a505)] [])) (by first | (simp [entryFrame, mkF, argsToLocals, Value.category]; done) | rfl) ?_
  refine own_alN (w := (.ref a505)) X0 hx (hb hby d6_0) rfl rfl ?_
  refine own_init0 X0 hx hZ hown (own_w hw 64 rfl) (own_w hw 11 rfl) (own_w hw 12 rfl) e0 (hb hby d6_1) (by rw [hml]; rfl) (by decide) (W := 0) (Nat.le_of_eq rfl) (by decide) ?_
  intro T518 X518 e518
  show own_Go _ _ _ _ _ _ _ T518 (mkF m 4 #[.val (.ref a505)] [])
  exact own_ret0 X518 hx hlk hret (hb hby d6_4) e518 ⟨rfl, N0, rfl⟩ (by decide) (by decide)
def own_s8_Q (Z : State) (a505 : Addr) (f386 : UInt64) (h0 : Heap) (n0 : Nat) (v_ : Option Value) (h_ : Heap) (L_ : List Loc) : Prop := (fun v h L => v = none ∧ Fr n0 L ∧ Keep h0 h [a505] ∧ Fld Z h a505 own_k1 "low" "D" (.double (4621819117588971520 : UInt64)) ∧ Fld Z h a505 own_k1 "gapLow" "D" (.double (4621819117588971520 : UInt64)) ∧ Fld Z h a505 own_k1 "gapHigh" "D" (.double (4621819117588971520 : UInt64)) ∧ Fld Z h a505 own_k1 "high" "D" (.double (4621819117588971520 : UInt64)) ∧ Fld Z h a505 own_k1 "below" "D" (.double f386) ∧ Fld Z h a505 own_k1 "count" "D" (.double f386)) v_ h_ L_
set_option maxRecDepth 65536 in
set_option maxHeartbeats 40000000 in
theorem own_s8 (l : Launch) (Z : State) (a0 : Array Value) (hw : ∀ d ∈ tables_1, d.before a0 Z = true) (wds : List Jvm.Cond) (a505 : Addr) (f386 : UInt64) (h0 : Heap) (n0 : Nat) (Z0 : n0 ≤ h0.size) (H3 : Exa Z h0 a505 own_k1) (H4 : Fld Z h0 a505 own_k1 "low" "D" (.double (0 : UInt64))) (H5 : Fld Z h0 a505 own_k1 "gapLow" "D" (.double (0 : UInt64))) (H6 : Fld Z h0 a505 own_k1 "gapHigh" "D" (.double (0 : UInt64))) (H7 : Fld Z h0 a505 own_k1 "high" "D" (.double (0 : UInt64))) (H8 : Fld Z h0 a505 own_k1 "below" "D" (.double (0 : UInt64))) (H9 : Fld Z h0 a505 own_k1 "count" "D" (.double (0 : UInt64))) (H11 : n0 ≤ a505) :
    MetFree l (⟨own_k1, "<init>", "(DDDDDD)V"⟩ : MethodName) (head1 (Jvm.Cond.code (⟨own_k1, "<init>", "(DDDDDD)V"⟩ : MethodName) prog_17_method_1_code 13 none :: wds) ({ frames := 2, cells := 0, slots := 0, locals := 24 } : Room)) (fun ar_ U_ => ar_ = #[(.ref a505), (.double (4621819117588971520 : UInt64)), (.double (4621819117588971520 : UInt64)), (.double (4621819117588971520 : UInt64)), (.double (4621819117588971520 : UInt64)), (.double f386), (.double f386)] ∧ Z.Warmed39 U_.vm ∧ U_.heap = h0) (fun _ _ _ _ _ => True) (fun _ U_ o_ V_ => ∃ v_ L_, o_ = .returned v_ ∧ own_s8_Q Z a505 f386 h0 n0 v_ V_.heap L_ ∧ FrameEnd U_ o_ V_ L_ ({ frames := 2, cells := 0, slots := 0, locals := 24 } : Room).cells ({ frames := 2, cells := 0, slots := 0, locals := 24 } : Room).slots) := by
  refine own_met (y := ⟨own_k1, "<init>", "(DDDDDD)V"⟩) (Q := own_s8_Q Z a505 f386 h0 n0) own_pn2 ?_
  intro p e s m below meth c s₁ hx hby hml hZ hown hnm hret hlk X0 e0
  have N0 := Fr.nil n0
  refine own_cast (g' := (mkF m 0 #[.val (.ref a505), .val (.double (4621819117588971520 : UInt64)), .second, .val (.double (4621819117588971520 : UInt64)), .second, .val (.double (4621819117588971520 : UInt64)), .second, .val (.double (4621819117588971520 : UInt64)), .second, .val (.double f386), .second, .val (.double f386), .second] [])) (by first | (simp [entryFrame, mkF, argsToLocals, Value.category]; done) | rfl) ?_
  generalize hL515 : (#[.val (.ref a505), .val (.double (4621819117588971520 : UInt64)), .second, .val (.double (4621819117588971520 : UInt64)), .second, .val (.double (4621819117588971520 : UInt64)), .second, .val (.double (4621819117588971520 : UInt64)), .second, .val (.double f386), .second, .val (.double f386), .second] : Array Slot) = L515
  refine own_alN (w := (.ref a505)) X0 hx (hb hby d5_0) (by rw [← hL515]; rfl) rfl ?_
  refine own_init (a := a505) (argsL := []) (rest := []) X0 hx hZ hown (own_s9 l Z a0 hw [] a505 h0 n0 Z0 ) rfl (own_w hw 59 rfl) (own_w hw 60 rfl) (own_w hw 63 rfl) (own_w hw 62 rfl) (by decide) e0 (hb hby d5_1) (by rw [hml, ← hL515]; rfl) rfl (lenOf own_pd0 rfl) (by decide) (W := 0) (Nat.le_of_eq rfl) (by decide) (by decide) (by decide) ?_
  intro v519 T519 lo519 X519 Q519
  obtain ⟨h519, e519⟩ : ∃ h, T519.heap = h := ⟨_, rfl⟩
  rw [e519] at Q519
  obtain ⟨rfl, N519, K519⟩ := Q519
  have N519' := Fr.app N0 N519
  have e519' : T519.heap = h0 := e519.trans K519
  show own_Go _ _ _ _ _ _ _ T519 (mkF m 4 L515 [])
  refine own_alN (w := (.ref a505)) X519 hx (hb hby d5_4) (by rw [← hL515]; rfl) rfl ?_
  refine own_dlN (w := (4621819117588971520 : UInt64)) X519 hx (hb hby d5_5) (by rw [← hL515]; rfl) ?_
  refine own_putf X519 hx hZ hown (own_w hw 65 rfl) e519' N519' H11 H4 H3 (Or.inr ⟨(own_w hw 66 rfl), rfl, hnm⟩) (own_w hw 55 rfl) (ty := .double) (by decide) rfl rfl (hb hby d5_6) ?_
  intro T520 h520 lo520 X520 e520 N520 W520
  have F521 := H4.same W520
  show own_Go _ _ _ _ _ _ _ T520 (mkF m 9 L515 [])
  refine own_alN (w := (.ref a505)) X520 hx (hb hby d5_9) (by rw [← hL515]; rfl) rfl ?_
  refine own_dlN (w := (4621819117588971520 : UInt64)) X520 hx (hb hby d5_10) (by rw [← hL515]; rfl) ?_
  have F522 := (H5.other W520 (Or.inr (own_sne (own_f14 hw) (own_f15 hw) (by decide))))
  have F523 := (H3.wr W520)
  refine own_putf X520 hx hZ hown (own_w hw 67 rfl) e520 N520 H11 F522 F523 (Or.inr ⟨(own_w hw 68 rfl), rfl, hnm⟩) (own_w hw 55 rfl) (ty := .double) (by decide) rfl rfl (hb hby d5_11) ?_
  intro T524 h524 lo524 X524 e524 N524 W524
  have F525 := F522.same W524
  show own_Go _ _ _ _ _ _ _ T524 (mkF m 14 L515 [])
  refine own_alN (w := (.ref a505)) X524 hx (hb hby d5_14) (by rw [← hL515]; rfl) rfl ?_
  refine own_dl (w := (4621819117588971520 : UInt64)) X524 hx (hb hby d5_15) (by rw [← hL515]; rfl) ?_
  have F526 := ((H6.other W520 (Or.inr (own_sne (own_f16 hw) (own_f15 hw) (by decide)))).other W524 (Or.inr (own_sne (own_f16 hw) (own_f14 hw) (by decide))))
  have F527 := (F523.wr W524)
  refine own_putf X524 hx hZ hown (own_w hw 69 rfl) e524 N524 H11 F526 F527 (Or.inr ⟨(own_w hw 70 rfl), rfl, hnm⟩) (own_w hw 55 rfl) (ty := .double) (by decide) rfl rfl (hb hby d5_17) ?_
  intro T528 h528 lo528 X528 e528 N528 W528
  have F529 := F526.same W528
  show own_Go _ _ _ _ _ _ _ T528 (mkF m 20 L515 [])
  refine own_alN (w := (.ref a505)) X528 hx (hb hby d5_20) (by rw [← hL515]; rfl) rfl ?_
  refine own_dl (w := (4621819117588971520 : UInt64)) X528 hx (hb hby d5_21) (by rw [← hL515]; rfl) ?_
  have F530 := (((H7.other W520 (Or.inr (own_sne (own_f17 hw) (own_f15 hw) (by decide)))).other W524 (Or.inr (own_sne (own_f17 hw) (own_f14 hw) (by decide)))).other W528 (Or.inr (own_sne (own_f17 hw) (own_f16 hw) (by decide))))
  have F531 := (F527.wr W528)
  refine own_putf X528 hx hZ hown (own_w hw 71 rfl) e528 N528 H11 F530 F531 (Or.inr ⟨(own_w hw 72 rfl), rfl, hnm⟩) (own_w hw 55 rfl) (ty := .double) (by decide) rfl rfl (hb hby d5_23) ?_
  intro T532 h532 lo532 X532 e532 N532 W532
  have F533 := F530.same W532
  show own_Go _ _ _ _ _ _ _ T532 (mkF m 26 L515 [])
  refine own_alN (w := (.ref a505)) X532 hx (hb hby d5_26) (by rw [← hL515]; rfl) rfl ?_
  refine own_dl (w := f386) X532 hx (hb hby d5_27) (by rw [← hL515]; rfl) ?_
  have F534 := ((((H8.other W520 (Or.inr (own_sne (own_f18 hw) (own_f15 hw) (by decide)))).other W524 (Or.inr (own_sne (own_f18 hw) (own_f14 hw) (by decide)))).other W528 (Or.inr (own_sne (own_f18 hw) (own_f16 hw) (by decide)))).other W532 (Or.inr (own_sne (own_f18 hw) (own_f17 hw) (by decide))))
  have F535 := (F531.wr W532)
  refine own_putf X532 hx hZ hown (own_w hw 73 rfl) e532 N532 H11 F534 F535 (Or.inr ⟨(own_w hw 74 rfl), rfl, hnm⟩) (own_w hw 55 rfl) (ty := .double) (by decide) rfl rfl (hb hby d5_29) ?_
  intro T536 h536 lo536 X536 e536 N536 W536
  have F537 := F534.same W536
  show own_Go _ _ _ _ _ _ _ T536 (mkF m 32 L515 [])
  refine own_alN (w := (.ref a505)) X536 hx (hb hby d5_32) (by rw [← hL515]; rfl) rfl ?_
  refine own_dl (w := f386) X536 hx (hb hby d5_33) (by rw [← hL515]; rfl) ?_
  have F538 := (((((H9.other W520 (Or.inr (own_sne (own_f19 hw) (own_f15 hw) (by decide)))).other W524 (Or.inr (own_sne (own_f19 hw) (own_f14 hw) (by decide)))).other W528 (Or.inr (own_sne (own_f19 hw) (own_f16 hw) (by decide)))).other W532 (Or.inr (own_sne (own_f19 hw) (own_f17 hw) (by decide)))).other W536 (Or.inr (own_sne (own_f19 hw) (own_f18 hw) (by decide))))
  have F539 := (F535.wr W536)
  refine own_putf X536 hx hZ hown (own_w hw 75 rfl) e536 N536 H11 F538 F539 (Or.inr ⟨(own_w hw 76 rfl), rfl, hnm⟩) (own_w hw 55 rfl) (ty := .double) (by decide) rfl rfl (hb hby d5_35) ?_
  intro T540 h540 lo540 X540 e540 N540 W540
  have F541 := F538.same W540
  show own_Go _ _ _ _ _ _ _ T540 (mkF m 38 L515 [])
  have F542 := (((((F521.other W524 (Or.inr (own_sne (own_f15 hw) (own_f14 hw) (by decide)))).other W528 (Or.inr (own_sne (own_f15 hw) (own_f16 hw) (by decide)))).other W532 (Or.inr (own_sne (own_f15 hw) (own_f17 hw) (by decide)))).other W536 (Or.inr (own_sne (own_f15 hw) (own_f18 hw) (by decide)))).other W540 (Or.inr (own_sne (own_f15 hw) (own_f19 hw) (by decide))))
  have F543 := ((((F525.other W528 (Or.inr (own_sne (own_f14 hw) (own_f16 hw) (by decide)))).other W532 (Or.inr (own_sne (own_f14 hw) (own_f17 hw) (by decide)))).other W536 (Or.inr (own_sne (own_f14 hw) (own_f18 hw) (by decide)))).other W540 (Or.inr (own_sne (own_f14 hw) (own_f19 hw) (by decide))))
  have F544 := (((F529.other W532 (Or.inr (own_sne (own_f16 hw) (own_f17 hw) (by decide)))).other W536 (Or.inr (own_sne (own_f16 hw) (own_f18 hw) (by decide)))).other W540 (Or.inr (own_sne (own_f16 hw) (own_f19 hw) (by decide))))
  have F545 := ((F533.other W536 (Or.inr (own_sne (own_f17 hw) (own_f18 hw) (by decide)))).other W540 (Or.inr (own_sne (own_f17 hw) (own_f19 hw) (by decide))))
  have F546 := (F537.other W540 (Or.inr (own_sne (own_f18 hw) (own_f19 hw) (by decide))))
  exact own_ret0 X540 hx hlk hret (hb hby d5_38) e540 ⟨rfl, N540, (((((((Keep.refl _ _).wr W520 (Or.inl (by simp))).wr W524 (Or.inl (by simp))).wr W528 (Or.inl (by simp))).wr W532 (Or.inl (by simp))).wr W536 (Or.inl (by simp))).wr W540 (Or.inl (by simp))), F542, F543, F544, F545, F546, F541⟩ (by decide) (by decide)
def own_s7_Q (Z : State) (f386 : UInt64) (h0 : Heap) (n0 : Nat) (v_ : Option Value) (h_ : Heap) (L_ : List Loc) : Prop := (fun v h L => ∃ (a505 : Addr), v = some (.ref a505) ∧ Fr n0 L ∧ Keep h0 h [] ∧ h0.size ≤ a505 ∧ Exa Z h a505 own_k1 ∧ Fld Z h a505 own_k1 "low" "D" (.double (4621819117588971520 : UInt64)) ∧ Fld Z h a505 own_k1 "gapLow" "D" (.double (4621819117588971520 : UInt64)) ∧ Fld Z h a505 own_k1 "gapHigh" "D" (.double (4621819117588971520 : UInt64)) ∧ Fld Z h a505 own_k1 "high" "D" (.double (4621819117588971520 : UInt64)) ∧ Fld Z h a505 own_k1 "below" "D" (.double f386) ∧ Fld Z h a505 own_k1 "count" "D" (.double f386)) v_ h_ L_
set_option maxRecDepth 65536 in
set_option maxHeartbeats 40000000 in
theorem own_s7 (l : Launch) (Z : State) (a0 : Array Value) (hw : ∀ d ∈ tables_1, d.before a0 Z = true) (wds : List Jvm.Cond) (f386 : UInt64) (h0 : Heap) (n0 : Nat) (Z0 : n0 ≤ h0.size)  :
    MetFree l (⟨own_k1, "of", own_k5⟩ : MethodName) (head1 (Jvm.Cond.code (⟨own_k1, "of", own_k5⟩ : MethodName) prog_17_method_2_code 6 (some (.object own_k1)) :: wds) ({ frames := 3, cells := 1, slots := 6, locals := 49 } : Room)) (fun ar_ U_ => ar_ = #[(.double (4621819117588971520 : UInt64)), (.double (4621819117588971520 : UInt64)), (.double f386)] ∧ Z.Warmed39 U_.vm ∧ U_.heap = h0) (fun _ _ _ _ _ => True) (fun _ U_ o_ V_ => ∃ v_ L_, o_ = .returned v_ ∧ own_s7_Q Z f386 h0 n0 v_ V_.heap L_ ∧ FrameEnd U_ o_ V_ L_ ({ frames := 3, cells := 1, slots := 6, locals := 49 } : Room).cells ({ frames := 3, cells := 1, slots := 6, locals := 49 } : Room).slots) := by
  refine own_met (y := ⟨own_k1, "of", own_k5⟩) (Q := own_s7_Q Z f386 h0 n0) own_pn2 ?_
  intro p e s m below meth c s₁ hx hby hml hZ hown hnm hret hlk X0 e0
  have N0 := Fr.nil n0
  refine own_cast (g' := (mkF m 0 #[.val (.double (4621819117588971520 : UInt64)), .second, .val (.double (4621819117588971520 : UInt64)), .second, .val (.double f386), .second] [])) (by first | (simp [entryFrame, mkF, argsToLocals, Value.category]; done) | rfl) ?_
  generalize hL504 : (#[.val (.double (4621819117588971520 : UInt64)), .second, .val (.double (4621819117588971520 : UInt64)), .second, .val (.double f386), .second] : Array Slot) = L504
  refine own_newobj X0 hx hZ hown (own_w hw 54 rfl) (own_w hw 55 rfl) (own_w hw 52 rfl) e0 (hb hby d4_0) (by decide) (by decide) ?_
  intro T505 h505 a505 g505 X505 e505 E505 A505 D505
  have ge507 : h0.size ≤ a505 := Nat.le_trans (Nat.le_refl _) (Nat.le_of_eq g505.symm)
  have nw508 : n0 ≤ a505 := Nat.le_trans Z0 (Nat.le_of_eq g505.symm)
  have F509 : Fld Z h505 a505 own_k1 "low" "D" (.double (0 : UInt64)) := D505 (Or.inr (own_w hw 66 rfl)) (ty := .double) (by decide)
  have F510 : Fld Z h505 a505 own_k1 "gapLow" "D" (.double (0 : UInt64)) := D505 (Or.inr (own_w hw 68 rfl)) (ty := .double) (by decide)
  have F511 : Fld Z h505 a505 own_k1 "gapHigh" "D" (.double (0 : UInt64)) := D505 (Or.inr (own_w hw 70 rfl)) (ty := .double) (by decide)
  have F512 : Fld Z h505 a505 own_k1 "high" "D" (.double (0 : UInt64)) := D505 (Or.inr (own_w hw 72 rfl)) (ty := .double) (by decide)
  have F513 : Fld Z h505 a505 own_k1 "below" "D" (.double (0 : UInt64)) := D505 (Or.inr (own_w hw 74 rfl)) (ty := .double) (by decide)
  have F514 : Fld Z h505 a505 own_k1 "count" "D" (.double (0 : UInt64)) := D505 (Or.inr (own_w hw 76 rfl)) (ty := .double) (by decide)
  show own_Go _ _ _ _ _ _ _ T505 (mkF m 3 L504 [(.ref a505)])
  refine own_pre (g' := (mkF m 4 L504 [(.ref a505), (.ref a505)])) (fun t k => XS.dup X505.here hx rfl (hb hby d4_3) rfl rfl k) ?_
  refine own_dlN (w := (4621819117588971520 : UInt64)) X505 hx (hb hby d4_4) (by rw [← hL504]; rfl) ?_
  refine own_dlN (w := (4621819117588971520 : UInt64)) X505 hx (hb hby d4_5) (by rw [← hL504]; rfl) ?_
  refine own_dlN (w := (4621819117588971520 : UInt64)) X505 hx (hb hby d4_6) (by rw [← hL504]; rfl) ?_
  refine own_dlN (w := (4621819117588971520 : UInt64)) X505 hx (hb hby d4_7) (by rw [← hL504]; rfl) ?_
  refine own_dl (w := f386) X505 hx (hb hby d4_8) (by rw [← hL504]; rfl) ?_
  refine own_dl (w := f386) X505 hx (hb hby d4_10) (by rw [← hL504]; rfl) ?_
  have F547 : n0 ≤ h505.size := (Nat.le_trans Z0 E505.1)
  refine own_init (a := a505) (argsL := [(.double (4621819117588971520 : UInt64)), (.double (4621819117588971520 : UInt64)), (.double (4621819117588971520 : UInt64)), (.double (4621819117588971520 : UInt64)), (.double f386), (.double f386)]) (rest := [(.ref a505)]) X505 hx hZ hown (own_s8 l Z a0 hw [] a505 f386 h505 n0 F547 A505 F509 F510 F511 F512 F513 F514 nw508) rfl (own_w hw 56 rfl) (own_w hw 57 rfl) (own_w hw 58 rfl) (own_w hw 52 rfl) (by decide) e505 (hb hby d4_12) (by rw [hml, ← hL504]; rfl) rfl (lenOf own_pd1 rfl) (by decide) (W := 1) (Nat.le_of_eq rfl) (by decide) (by decide) (by decide) ?_
  intro v548 T548 lo548 X548 Q548
  obtain ⟨h548, e548⟩ : ∃ h, T548.heap = h := ⟨_, rfl⟩
  rw [e548] at Q548
  obtain ⟨rfl, N548, K548, F549, F550, F551, F552, F553, F554⟩ := Q548
  have N548' := Fr.app N0 N548
  show own_Go _ _ _ _ _ _ _ T548 (mkF m 15 L504 [(.ref a505)])
  have F556 := (A505.keep K548)
  exact own_retA X548 hx hlk hret rfl rfl rfl (hb hby d4_15) e548 ⟨a505, rfl, N548', (((Keep.refl _ _).ext E505).trans K548 (allS (Or.inr ge507) all0)), ge507, F556, F549, F550, F551, F552, F553, F554⟩ (by decide) (by decide)
theorem d8_0 : decode prog_5_method_55_code 0 = .ok (.aload_n 0, 1) := by decide +kernel
theorem d8_1 : decode prog_5_method_55_code 1 = .ok (.invokevirtual 295, 3) := by decide +kernel
theorem d8_4 : decode prog_5_method_55_code 4 = .ok (.istore 9, 2) := by decide +kernel
theorem d8_6 : decode prog_5_method_55_code 6 = .ok (.aload_n 0, 1) := by decide +kernel
theorem d8_7 : decode prog_5_method_55_code 7 = .ok (.getfield 9, 3) := by decide +kernel
theorem d8_10 : decode prog_5_method_55_code 10 = .ok (.iload 9, 2) := by decide +kernel
theorem d8_12 : decode prog_5_method_55_code 12 = .ok (.dload_n 2, 1) := by decide +kernel
theorem d8_13 : decode prog_5_method_55_code 13 = .ok (.dastore, 1) := by decide +kernel
theorem d8_14 : decode prog_5_method_55_code 14 = .ok (.aload_n 0, 1) := by decide +kernel
theorem d8_15 : decode prog_5_method_55_code 15 = .ok (.getfield 13, 3) := by decide +kernel
theorem d8_18 : decode prog_5_method_55_code 18 = .ok (.iload 9, 2) := by decide +kernel
theorem d8_20 : decode prog_5_method_55_code 20 = .ok (.dload 4, 2) := by decide +kernel
theorem d8_22 : decode prog_5_method_55_code 22 = .ok (.dastore, 1) := by decide +kernel
theorem d8_23 : decode prog_5_method_55_code 23 = .ok (.aload_n 0, 1) := by decide +kernel
theorem d8_24 : decode prog_5_method_55_code 24 = .ok (.getfield 16, 3) := by decide +kernel
theorem d8_27 : decode prog_5_method_55_code 27 = .ok (.iload 9, 2) := by decide +kernel
theorem d8_29 : decode prog_5_method_55_code 29 = .ok (.iconst 0, 1) := by decide +kernel
theorem d8_30 : decode prog_5_method_55_code 30 = .ok (.bastore, 1) := by decide +kernel
theorem d8_31 : decode prog_5_method_55_code 31 = .ok (.aload_n 0, 1) := by decide +kernel
theorem d8_32 : decode prog_5_method_55_code 32 = .ok (.getfield 22, 3) := by decide +kernel
theorem d8_35 : decode prog_5_method_55_code 35 = .ok (.iload 9, 2) := by decide +kernel
theorem d8_37 : decode prog_5_method_55_code 37 = .ok (.aload 6, 2) := by decide +kernel
theorem d8_39 : decode prog_5_method_55_code 39 = .ok (.aastore, 1) := by decide +kernel
theorem d8_40 : decode prog_5_method_55_code 40 = .ok (.aload_n 0, 1) := by decide +kernel
theorem d8_41 : decode prog_5_method_55_code 41 = .ok (.getfield 26, 3) := by decide +kernel
theorem d8_44 : decode prog_5_method_55_code 44 = .ok (.iload 9, 2) := by decide +kernel
theorem d8_46 : decode prog_5_method_55_code 46 = .ok (.iconst 0, 1) := by decide +kernel
theorem d8_47 : decode prog_5_method_55_code 47 = .ok (.bastore, 1) := by decide +kernel
theorem d8_48 : decode prog_5_method_55_code 48 = .ok (.aload_n 0, 1) := by decide +kernel
theorem d8_49 : decode prog_5_method_55_code 49 = .ok (.getfield 29, 3) := by decide +kernel
theorem d8_52 : decode prog_5_method_55_code 52 = .ok (.iload 9, 2) := by decide +kernel
theorem d8_54 : decode prog_5_method_55_code 54 = .ok (.lload 7, 2) := by decide +kernel
theorem d8_56 : decode prog_5_method_55_code 56 = .ok (.lastore, 1) := by decide +kernel
theorem d8_57 : decode prog_5_method_55_code 57 = .ok (.iload_n 1, 1) := by decide +kernel
theorem d8_58 : decode prog_5_method_55_code 58 = .ok (.iconst (-1), 1) := by decide +kernel
theorem d8_59 : decode prog_5_method_55_code 59 = .ok (.if_icmp .ne 10, 3) := by decide +kernel
theorem d8_62 : decode prog_5_method_55_code 62 = .ok (.aload_n 0, 1) := by decide +kernel
theorem d8_63 : decode prog_5_method_55_code 63 = .ok (.getfield 44, 3) := by decide +kernel
theorem d8_66 : decode prog_5_method_55_code 66 = .ok (.goto 9, 3) := by decide +kernel
theorem d8_69 : decode prog_5_method_55_code 69 = .ok (.aload_n 0, 1) := by decide +kernel
theorem d8_70 : decode prog_5_method_55_code 70 = .ok (.getfield 37, 3) := by decide +kernel
theorem d8_73 : decode prog_5_method_55_code 73 = .ok (.iload_n 1, 1) := by decide +kernel
theorem d8_74 : decode prog_5_method_55_code 74 = .ok (.iaload, 1) := by decide +kernel
theorem d8_75 : decode prog_5_method_55_code 75 = .ok (.istore 10, 2) := by decide +kernel
theorem d8_77 : decode prog_5_method_55_code 77 = .ok (.aload_n 0, 1) := by decide +kernel
theorem d8_78 : decode prog_5_method_55_code 78 = .ok (.getfield 33, 3) := by decide +kernel
theorem d8_81 : decode prog_5_method_55_code 81 = .ok (.iload 9, 2) := by decide +kernel
theorem d8_83 : decode prog_5_method_55_code 83 = .ok (.iload_n 1, 1) := by decide +kernel
theorem d8_84 : decode prog_5_method_55_code 84 = .ok (.iastore, 1) := by decide +kernel
theorem d8_85 : decode prog_5_method_55_code 85 = .ok (.aload_n 0, 1) := by decide +kernel
theorem d8_86 : decode prog_5_method_55_code 86 = .ok (.getfield 37, 3) := by decide +kernel
theorem d8_89 : decode prog_5_method_55_code 89 = .ok (.iload 9, 2) := by decide +kernel
theorem d8_91 : decode prog_5_method_55_code 91 = .ok (.iload 10, 2) := by decide +kernel
theorem d8_93 : decode prog_5_method_55_code 93 = .ok (.iastore, 1) := by decide +kernel
theorem d8_94 : decode prog_5_method_55_code 94 = .ok (.iload 10, 2) := by decide +kernel
theorem d8_96 : decode prog_5_method_55_code 96 = .ok (.iconst (-1), 1) := by decide +kernel
theorem d8_97 : decode prog_5_method_55_code 97 = .ok (.if_icmp .ne 12, 3) := by decide +kernel
theorem d8_100 : decode prog_5_method_55_code 100 = .ok (.aload_n 0, 1) := by decide +kernel
theorem d8_101 : decode prog_5_method_55_code 101 = .ok (.iload 9, 2) := by decide +kernel
theorem d8_103 : decode prog_5_method_55_code 103 = .ok (.putfield 40, 3) := by decide +kernel
theorem d8_106 : decode prog_5_method_55_code 106 = .ok (.goto 12, 3) := by decide +kernel
theorem d8_109 : decode prog_5_method_55_code 109 = .ok (.aload_n 0, 1) := by decide +kernel
theorem d8_110 : decode prog_5_method_55_code 110 = .ok (.getfield 33, 3) := by decide +kernel
theorem d8_113 : decode prog_5_method_55_code 113 = .ok (.iload 10, 2) := by decide +kernel
theorem d8_115 : decode prog_5_method_55_code 115 = .ok (.iload 9, 2) := by decide +kernel
theorem d8_117 : decode prog_5_method_55_code 117 = .ok (.iastore, 1) := by decide +kernel
theorem d8_118 : decode prog_5_method_55_code 118 = .ok (.iload_n 1, 1) := by decide +kernel
theorem d8_119 : decode prog_5_method_55_code 119 = .ok (.iconst (-1), 1) := by decide +kernel
theorem d8_120 : decode prog_5_method_55_code 120 = .ok (.if_icmp .ne 12, 3) := by decide +kernel
theorem d8_123 : decode prog_5_method_55_code 123 = .ok (.aload_n 0, 1) := by decide +kernel
theorem d8_124 : decode prog_5_method_55_code 124 = .ok (.iload 9, 2) := by decide +kernel
theorem d8_126 : decode prog_5_method_55_code 126 = .ok (.putfield 44, 3) := by decide +kernel
theorem d8_129 : decode prog_5_method_55_code 129 = .ok (.goto 11, 3) := by decide +kernel
theorem d8_132 : decode prog_5_method_55_code 132 = .ok (.aload_n 0, 1) := by decide +kernel
theorem d8_133 : decode prog_5_method_55_code 133 = .ok (.getfield 37, 3) := by decide +kernel
theorem d8_136 : decode prog_5_method_55_code 136 = .ok (.iload_n 1, 1) := by decide +kernel
theorem d8_137 : decode prog_5_method_55_code 137 = .ok (.iload 9, 2) := by decide +kernel
theorem d8_139 : decode prog_5_method_55_code 139 = .ok (.iastore, 1) := by decide +kernel
theorem d8_140 : decode prog_5_method_55_code 140 = .ok (.aload_n 0, 1) := by decide +kernel
theorem d8_141 : decode prog_5_method_55_code 141 = .ok (.dup, 1) := by decide +kernel
theorem d8_142 : decode prog_5_method_55_code 142 = .ok (.getfield 58, 3) := by decide +kernel
theorem d8_145 : decode prog_5_method_55_code 145 = .ok (.iconst 1, 1) := by decide +kernel
theorem d8_146 : decode prog_5_method_55_code 146 = .ok (.iadd, 1) := by decide +kernel
theorem d8_147 : decode prog_5_method_55_code 147 = .ok (.putfield 58, 3) := by decide +kernel
theorem d8_150 : decode prog_5_method_55_code 150 = .ok (.iload 9, 2) := by decide +kernel
theorem d8_152 : decode prog_5_method_55_code 152 = .ok (.ireturn, 1) := by decide +kernel
theorem d9_0 : decode prog_5_method_56_code 0 = .ok (.aload_n 0, 1) := by decide +kernel
theorem d9_1 : decode prog_5_method_56_code 1 = .ok (.getfield 47, 3) := by decide +kernel
theorem d9_4 : decode prog_5_method_56_code 4 = .ok (.iconst (-1), 1) := by decide +kernel
theorem d9_5 : decode prog_5_method_56_code 5 = .ok (.if_icmp .eq 20, 3) := by decide +kernel
theorem d9_8 : decode prog_5_method_56_code 8 = .ok (.aload_n 0, 1) := by decide +kernel
theorem d9_9 : decode prog_5_method_56_code 9 = .ok (.getfield 47, 3) := by decide +kernel
theorem d9_12 : decode prog_5_method_56_code 12 = .ok (.istore_n 1, 1) := by decide +kernel
theorem d9_13 : decode prog_5_method_56_code 13 = .ok (.aload_n 0, 1) := by decide +kernel
theorem d9_14 : decode prog_5_method_56_code 14 = .ok (.aload_n 0, 1) := by decide +kernel
theorem d9_15 : decode prog_5_method_56_code 15 = .ok (.getfield 33, 3) := by decide +kernel
theorem d9_18 : decode prog_5_method_56_code 18 = .ok (.iload_n 1, 1) := by decide +kernel
theorem d9_19 : decode prog_5_method_56_code 19 = .ok (.iaload, 1) := by decide +kernel
theorem d9_20 : decode prog_5_method_56_code 20 = .ok (.putfield 47, 3) := by decide +kernel
theorem d9_23 : decode prog_5_method_56_code 23 = .ok (.iload_n 1, 1) := by decide +kernel
theorem d9_24 : decode prog_5_method_56_code 24 = .ok (.ireturn, 1) := by decide +kernel
theorem d9_25 : decode prog_5_method_56_code 25 = .ok (.aload_n 0, 1) := by decide +kernel
theorem d9_26 : decode prog_5_method_56_code 26 = .ok (.getfield 61, 3) := by decide +kernel
theorem d9_29 : decode prog_5_method_56_code 29 = .ok (.aload_n 0, 1) := by decide +kernel
theorem d9_30 : decode prog_5_method_56_code 30 = .ok (.getfield 9, 3) := by decide +kernel
theorem d9_33 : decode prog_5_method_56_code 33 = .ok (.arraylength, 1) := by decide +kernel
theorem d9_34 : decode prog_5_method_56_code 34 = .ok (.if_icmp .ne 109, 3) := by decide +kernel
theorem d9_143 : decode prog_5_method_56_code 143 = .ok (.aload_n 0, 1) := by decide +kernel
theorem d9_144 : decode prog_5_method_56_code 144 = .ok (.dup, 1) := by decide +kernel
theorem d9_145 : decode prog_5_method_56_code 145 = .ok (.getfield 61, 3) := by decide +kernel
theorem d9_148 : decode prog_5_method_56_code 148 = .ok (.dup_x1, 1) := by decide +kernel
theorem d9_149 : decode prog_5_method_56_code 149 = .ok (.iconst 1, 1) := by decide +kernel
theorem d9_150 : decode prog_5_method_56_code 150 = .ok (.iadd, 1) := by decide +kernel
theorem d9_151 : decode prog_5_method_56_code 151 = .ok (.putfield 61, 3) := by decide +kernel
theorem d9_154 : decode prog_5_method_56_code 154 = .ok (.ireturn, 1) := by decide +kernel
def own_s11_Q (Z : State) (a33 : Addr) (a267 : Addr) (a268 : Addr) (a269 : Addr) (a270 : Addr) (a271 : Addr) (a272 : Addr) (a273 : Addr) (a274 : Addr) (h0 : Heap) (n0 : Nat) (v_ : Option Value) (h_ : Heap) (L_ : List Loc) : Prop := (fun v h L => v = some (.int (0 : Int32)) ∧ Fr n0 L ∧ Keep h0 h [a33] ∧ Fld Z h a33 own_k0 "thresholds" "[D" (.ref a267) ∧ Fld Z h a33 own_k0 "ranks" "[D" (.ref a268) ∧ Fld Z h a33 own_k0 "guarded" "[Z" (.ref a269) ∧ Fld Z h a33 own_k0 "extents" own_k4 (.ref a270) ∧ Fld Z h a33 own_k0 "addedAtThreshold" "[Z" (.ref a271) ∧ Fld Z h a33 own_k0 "copies" "[J" (.ref a272) ∧ Fld Z h a33 own_k0 "nextOf" "[I" (.ref a273) ∧ Fld Z h a33 own_k0 "previousOf" "[I" (.ref a274) ∧ Fld Z h a33 own_k0 "first" "I" (.int (-1 : Int32)) ∧ Fld Z h a33 own_k0 "last" "I" (.int (-1 : Int32)) ∧ Fld Z h a33 own_k0 "free" "I" (.int (-1 : Int32)) ∧ Fld Z h a33 own_k0 "smallestMagnitude" "D" (.double (9218868437227405312 : UInt64)) ∧ Fld Z h a33 own_k0 "size" "I" (.int (0 : Int32)) ∧ Fld Z h a33 own_k0 "used" "I" (.int (1 : Int32))) v_ h_ L_
set_option maxRecDepth 65536 in
set_option maxHeartbeats 40000000 in
theorem own_s11 (l : Launch) (Z : State) (a0 : Array Value) (hw : ∀ d ∈ tables_1, d.before a0 Z = true) (wds : List Jvm.Cond) (a33 : Addr) (a267 : Addr) (a268 : Addr) (a269 : Addr) (a270 : Addr) (a271 : Addr) (a272 : Addr) (a273 : Addr) (a274 : Addr) (h0 : Heap) (n0 : Nat) (Z0 : n0 ≤ h0.size) (H3 : Exa Z h0 a33 own_k0) (H4 : Fld Z h0 a33 own_k0 "thresholds" "[D" (.ref a267)) (H5 : Fld Z h0 a33 own_k0 "ranks" "[D" (.ref a268)) (H6 : Fld Z h0 a33 own_k0 "guarded" "[Z" (.ref a269)) (H7 : Fld Z h0 a33 own_k0 "extents" own_k4 (.ref a270)) (H8 : Fld Z h0 a33 own_k0 "addedAtThreshold" "[Z" (.ref a271)) (H9 : Fld Z h0 a33 own_k0 "copies" "[J" (.ref a272)) (H10 : Fld Z h0 a33 own_k0 "nextOf" "[I" (.ref a273)) (H11 : Fld Z h0 a33 own_k0 "previousOf" "[I" (.ref a274)) (H12 : Fld Z h0 a33 own_k0 "first" "I" (.int (-1 : Int32))) (H13 : Fld Z h0 a33 own_k0 "last" "I" (.int (-1 : Int32))) (H14 : Fld Z h0 a33 own_k0 "free" "I" (.int (-1 : Int32))) (H15 : Fld Z h0 a33 own_k0 "smallestMagnitude" "D" (.double (9218868437227405312 : UInt64))) (H16 : Fld Z h0 a33 own_k0 "size" "I" (.int (0 : Int32))) (H17 : Fld Z h0 a33 own_k0 "used" "I" (.int (0 : Int32))) (H33 : own_Ary Z h0 a267 .double (own_rD 16)) (H52 : n0 ≤ a33) :
    MetFree l (⟨own_k0, "allocate", "()I"⟩ : MethodName) (head1 (Jvm.Cond.code (⟨own_k0, "allocate", "()I"⟩ : MethodName) prog_5_method_56_code 2 (some .int) :: wds) ({ frames := 0, cells := 0, slots := 0, locals := 0 } : Room)) (fun ar_ U_ => ar_ = #[(.ref a33)] ∧ Z.Warmed39 U_.vm ∧ U_.heap = h0) (fun _ _ _ _ _ => True) (fun _ U_ o_ V_ => ∃ v_ L_, o_ = .returned v_ ∧ own_s11_Q Z a33 a267 a268 a269 a270 a271 a272 a273 a274 h0 n0 v_ V_.heap L_ ∧ FrameEnd U_ o_ V_ L_ ({ frames := 0, cells := 0, slots := 0, locals := 0 } : Room).cells ({ frames := 0, cells := 0, slots := 0, locals := 0 } : Room).slots) := by
  refine own_met (y := ⟨own_k0, "allocate", "()I"⟩) (Q := own_s11_Q Z a33 a267 a268 a269 a270 a271 a272 a273 a274 h0 n0) own_pn1 ?_
  intro p e s m below meth c s₁ hx hby hml hZ hown hnm hret hlk X0 e0
  have N0 := Fr.nil n0
  refine own_cast (g' := (mkF m 0 #[.val (.ref a33), .unset] [])) (by first | (simp [entryFrame, mkF, argsToLocals, Value.category]; done) | rfl) ?_
  refine own_alN (w := (.ref a33)) X0 hx (hb hby d9_0) rfl rfl ?_
  refine own_getf X0 hx hZ hown (own_w hw 37 rfl) e0 H14 (hb hby d9_1) ?_
  intro T615 X615 e615
  show own_Go _ _ _ _ _ _ _ T615 (mkF m 4 #[.val (.ref a33), .unset] [(.int (-1 : Int32))])
  refine own_ic X615 hx (-1 : Int32) (hb hby d9_4) rfl ?_
  refine own_pre (g' := (mkF m 25 #[.val (.ref a33), .unset] [])) (fun t k => XS.icmpYes X615.here hx rfl (pc0 := 5) (pc' := 25) rfl (hb hby d9_5) rfl (by decide) (by decide) (by decide) k) ?_
  refine own_alN (w := (.ref a33)) X615 hx (hb hby d9_25) rfl rfl ?_
  refine own_getf X615 hx hZ hown (own_w hw 90 rfl) e615 H17 (hb hby d9_26) ?_
  intro T616 X616 e616
  show own_Go _ _ _ _ _ _ _ T616 (mkF m 29 #[.val (.ref a33), .unset] [(.int (0 : Int32))])
  refine own_alN (w := (.ref a33)) X616 hx (hb hby d9_29) rfl rfl ?_
  refine own_getf X616 hx hZ hown (own_w hw 13 rfl) e616 H4 (hb hby d9_30) ?_
  intro T617 X617 e617
  show own_Go _ _ _ _ _ _ _ T617 (mkF m 33 #[.val (.ref a33), .unset] [(.ref a267), (.int (0 : Int32))])
  refine own_len X617 hx hZ e617 H33 (hb hby d9_33) (n := (16 : Int32)) rfl ?_
  show own_Go _ _ _ _ _ _ _ T617 (mkF m 34 #[.val (.ref a33), .unset] [(.int (16 : Int32)), (.int (0 : Int32))])
  refine own_pre (g' := (mkF m 143 #[.val (.ref a33), .unset] [])) (fun t k => XS.icmpYes X617.here hx rfl (pc0 := 34) (pc' := 143) rfl (hb hby d9_34) rfl (by decide) (by decide) (by decide) k) ?_
  refine own_alN (w := (.ref a33)) X617 hx (hb hby d9_143) rfl rfl ?_
  refine own_pre (g' := (mkF m 145 #[.val (.ref a33), .unset] [(.ref a33), (.ref a33)])) (fun t k => XS.dup X617.here hx rfl (hb hby d9_144) rfl rfl k) ?_
  refine own_getf X617 hx hZ hown (own_w hw 90 rfl) e617 H17 (hb hby d9_145) ?_
  intro T618 X618 e618
  show own_Go _ _ _ _ _ _ _ T618 (mkF m 148 #[.val (.ref a33), .unset] [(.int (0 : Int32)), (.ref a33)])
  refine own_pre (g' := (mkF m 149 #[.val (.ref a33), .unset] [(.int (0 : Int32)), (.ref a33), (.int (0 : Int32))])) (fun t k => XT.dupX1 X618.here hx rfl (hb hby d9_148) rfl rfl rfl k) ?_
  refine own_ic X618 hx (1 : Int32) (hb hby d9_149) rfl ?_
  refine own_pre (g' := (mkF m 151 #[.val (.ref a33), .unset] [(.int (1 : Int32)), (.ref a33), (.int (0 : Int32))])) (fun t k => XS.iadd X618.here hx rfl (hb hby d9_150) rfl k) ?_
  refine own_putf X618 hx hZ hown (own_w hw 90 rfl) e618 N0 H52 H17 H3 (Or.inl (own_w hw 91 rfl)) (own_w hw 5 rfl) (ty := .int) (by decide) rfl rfl (hb hby d9_151) ?_
  intro T619 h619 lo619 X619 e619 N619 W619
  have F620 := H17.same W619
  show own_Go _ _ _ _ _ _ _ T619 (mkF m 154 #[.val (.ref a33), .unset] [(.int (0 : Int32))])
  have F621 := (H4.other W619 (Or.inr (own_sne (own_f1 hw) (own_f13 hw) (by decide))))
  have F622 := (H5.other W619 (Or.inr (own_sne (own_f0 hw) (own_f13 hw) (by decide))))
  have F623 := (H6.other W619 (Or.inr (own_sne (own_f2 hw) (own_f13 hw) (by decide))))
  have F624 := (H7.other W619 (Or.inr (own_sne (own_f3 hw) (own_f13 hw) (by decide))))
  have F625 := (H8.other W619 (Or.inr (own_sne (own_f4 hw) (own_f13 hw) (by decide))))
  have F626 := (H9.other W619 (Or.inr (own_sne (own_f5 hw) (own_f13 hw) (by decide))))
  have F627 := (H10.other W619 (Or.inr (own_sne (own_f6 hw) (own_f13 hw) (by decide))))
  have F628 := (H11.other W619 (Or.inr (own_sne (own_f7 hw) (own_f13 hw) (by decide))))
  have F629 := (H12.other W619 (Or.inr (own_sne (own_f8 hw) (own_f13 hw) (by decide))))
  have F630 := (H13.other W619 (Or.inr (own_sne (own_f9 hw) (own_f13 hw) (by decide))))
  have F631 := (H14.other W619 (Or.inr (own_sne (own_f10 hw) (own_f13 hw) (by decide))))
  have F632 := (H15.other W619 (Or.inr (own_sne (own_f11 hw) (own_f13 hw) (by decide))))
  have F633 := (H16.other W619 (Or.inr (own_sne (own_f12 hw) (own_f13 hw) (by decide))))
  exact own_retI X619 hx hlk hret (hb hby d9_154) e619 ⟨rfl, N619, ((Keep.refl _ _).wr W619 (Or.inl (by simp))), F621, F622, F623, F624, F625, F626, F627, F628, F629, F630, F631, F632, F633, F620⟩ (by decide) (by decide)
theorem own_pd3 : parseMethodDescriptor "()I" = some ⟨[], some .int⟩ := by decide +kernel
def own_s10_Q (Z : State) (a33 : Addr) (f386 : UInt64) (a558 : Addr) (a267 : Addr) (a268 : Addr) (a269 : Addr) (a270 : Addr) (a271 : Addr) (a272 : Addr) (a273 : Addr) (a274 : Addr) (h0 : Heap) (n0 : Nat) (v_ : Option Value) (h_ : Heap) (L_ : List Loc) : Prop := (fun v h L => v = some (.int (0 : Int32)) ∧ Fr n0 L ∧ Keep h0 h [a33, a267, a268, a269, a270, a271, a272, a273, a274] ∧ own_Ary Z h a274 .int ([(.int (-1 : Int32))] ++ own_rI 15) ∧ own_Ary Z h a273 .int ([(.int (-1 : Int32))] ++ own_rI 15) ∧ own_Ary Z h a272 .long (own_rJ 16) ∧ own_Ary Z h a271 .boolean (own_rI 16) ∧ own_Ary Z h a270 (.object own_k1) ([(.ref a558)] ++ own_rN 15) ∧ own_Ary Z h a269 .boolean (own_rI 16) ∧ own_Ary Z h a268 .double ([(.double f386)] ++ own_rD 15) ∧ own_Ary Z h a267 .double ([(.double (4621819117588971520 : UInt64))] ++ own_rD 15) ∧ Fld Z h a33 own_k0 "thresholds" "[D" (.ref a267) ∧ Fld Z h a33 own_k0 "ranks" "[D" (.ref a268) ∧ Fld Z h a33 own_k0 "guarded" "[Z" (.ref a269) ∧ Fld Z h a33 own_k0 "extents" own_k4 (.ref a270) ∧ Fld Z h a33 own_k0 "addedAtThreshold" "[Z" (.ref a271) ∧ Fld Z h a33 own_k0 "copies" "[J" (.ref a272) ∧ Fld Z h a33 own_k0 "nextOf" "[I" (.ref a273) ∧ Fld Z h a33 own_k0 "previousOf" "[I" (.ref a274) ∧ Fld Z h a33 own_k0 "first" "I" (.int (0 : Int32)) ∧ Fld Z h a33 own_k0 "last" "I" (.int (0 : Int32)) ∧ Fld Z h a33 own_k0 "free" "I" (.int (-1 : Int32)) ∧ Fld Z h a33 own_k0 "smallestMagnitude" "D" (.double (9218868437227405312 : UInt64)) ∧ Fld Z h a33 own_k0 "size" "I" (.int (1 : Int32)) ∧ Fld Z h a33 own_k0 "used" "I" (.int (1 : Int32))) v_ h_ L_
set_option maxRecDepth 65536 in
set_option maxHeartbeats 40000000 in
theorem own_s10 (l : Launch) (Z : State) (a0 : Array Value) (hw : ∀ d ∈ tables_1, d.before a0 Z = true) (wds : List Jvm.Cond) (a33 : Addr) (f386 : UInt64) (a558 : Addr) (a267 : Addr) (a268 : Addr) (a269 : Addr) (a270 : Addr) (a271 : Addr) (a272 : Addr) (a273 : Addr) (a274 : Addr) (h0 : Heap) (n0 : Nat) (Z0 : n0 ≤ h0.size) (H3 : Exa Z h0 a33 own_k0) (H4 : Fld Z h0 a33 own_k0 "thresholds" "[D" (.ref a267)) (H5 : Fld Z h0 a33 own_k0 "ranks" "[D" (.ref a268)) (H6 : Fld Z h0 a33 own_k0 "guarded" "[Z" (.ref a269)) (H7 : Fld Z h0 a33 own_k0 "extents" own_k4 (.ref a270)) (H8 : Fld Z h0 a33 own_k0 "addedAtThreshold" "[Z" (.ref a271)) (H9 : Fld Z h0 a33 own_k0 "copies" "[J" (.ref a272)) (H10 : Fld Z h0 a33 own_k0 "nextOf" "[I" (.ref a273)) (H11 : Fld Z h0 a33 own_k0 "previousOf" "[I" (.ref a274)) (H12 : Fld Z h0 a33 own_k0 "first" "I" (.int (-1 : Int32))) (H13 : Fld Z h0 a33 own_k0 "last" "I" (.int (-1 : Int32))) (H14 : Fld Z h0 a33 own_k0 "free" "I" (.int (-1 : Int32))) (H15 : Fld Z h0 a33 own_k0 "smallestMagnitude" "D" (.double (9218868437227405312 : UInt64))) (H16 : Fld Z h0 a33 own_k0 "size" "I" (.int (0 : Int32))) (H17 : Fld Z h0 a33 own_k0 "used" "I" (.int (0 : Int32))) (H18 : own_Ary Z h0 a274 .int (own_rI 16)) (H20 : own_Ary Z h0 a273 .int (own_rI 16)) (H22 : own_Ary Z h0 a272 .long (own_rJ 16)) (H24 : own_Ary Z h0 a271 .boolean (own_rI 16)) (H26 : own_Ary Z h0 a270 (.object own_k1) (own_rN 16)) (H28 : own_Ovr Z h0 a270 own_k1) (H29 : own_Ary Z h0 a269 .boolean (own_rI 16)) (H31 : own_Ary Z h0 a268 .double (own_rD 16)) (H33 : own_Ary Z h0 a267 .double (own_rD 16)) (H35 : Exa Z h0 a558 own_k1) (H52 : a33 < a274) (H53 : a33 < a273) (H54 : a33 < a272) (H55 : a33 < a271) (H56 : a33 < a270) (H57 : a33 < a269) (H58 : a33 < a268) (H59 : a33 < a267) (H61 : n0 ≤ a33) (H62 : a273 < a274) (H63 : a272 < a274) (H64 : a271 < a274) (H65 : a270 < a274) (H66 : a269 < a274) (H67 : a268 < a274) (H68 : a267 < a274) (H70 : n0 ≤ a274) (H71 : a272 < a273) (H72 : a271 < a273) (H73 : a270 < a273) (H74 : a269 < a273) (H75 : a268 < a273) (H76 : a267 < a273) (H78 : n0 ≤ a273) (H79 : a271 < a272) (H80 : a270 < a272) (H81 : a269 < a272) (H82 : a268 < a272) (H83 : a267 < a272) (H85 : n0 ≤ a272) (H86 : a270 < a271) (H87 : a269 < a271) (H88 : a268 < a271) (H89 : a267 < a271) (H91 : n0 ≤ a271) (H92 : a269 < a270) (H93 : a268 < a270) (H94 : a267 < a270) (H96 : n0 ≤ a270) (H97 : a268 < a269) (H98 : a267 < a269) (H100 : n0 ≤ a269) (H101 : a267 < a268) (H103 : n0 ≤ a268) (H105 : n0 ≤ a267) :
    MetFree l (⟨own_k0, "insertBefore", own_k6⟩ : MethodName) (head1 (Jvm.Cond.code (⟨own_k0, "insertBefore", own_k6⟩ : MethodName) prog_5_method_55_code 11 (some .int) :: wds) ({ frames := 1, cells := 0, slots := 0, locals := 13 } : Room)) (fun ar_ U_ => ar_ = #[(.ref a33), (.int (-1 : Int32)), (.double (4621819117588971520 : UInt64)), (.double f386), (.ref a558), (.long (0 : Int64))] ∧ Z.Warmed39 U_.vm ∧ U_.heap = h0) (fun _ _ _ _ _ => True) (fun _ U_ o_ V_ => ∃ v_ L_, o_ = .returned v_ ∧ own_s10_Q Z a33 f386 a558 a267 a268 a269 a270 a271 a272 a273 a274 h0 n0 v_ V_.heap L_ ∧ FrameEnd U_ o_ V_ L_ ({ frames := 1, cells := 0, slots := 0, locals := 13 } : Room).cells ({ frames := 1, cells := 0, slots := 0, locals := 13 } : Room).slots) := by
  refine own_met (y := ⟨own_k0, "insertBefore", own_k6⟩) (Q := own_s10_Q Z a33 f386 a558 a267 a268 a269 a270 a271 a272 a273 a274 h0 n0) own_pn1 ?_
  intro p e s m below meth c s₁ hx hby hml hZ hown hnm hret hlk X0 e0
  have N0 := Fr.nil n0
  refine own_cast (g' := (mkF m 0 #[.val (.ref a33), .val (.int (-1 : Int32)), .val (.double (4621819117588971520 : UInt64)), .second, .val (.double f386), .second, .val (.ref a558), .val (.long (0 : Int64)), .second, .unset, .unset] [])) (by first | (simp [entryFrame, mkF, argsToLocals, Value.category]; done) | rfl) ?_
  generalize hL581 : (#[.val (.ref a33), .val (.int (-1 : Int32)), .val (.double (4621819117588971520 : UInt64)), .second, .val (.double f386), .second, .val (.ref a558), .val (.long (0 : Int64)), .second, .unset, .unset] : Array Slot) = L581
  refine own_alN (w := (.ref a33)) X0 hx (hb hby d8_0) (by rw [← hL581]; rfl) rfl ?_
  refine own_callp (a := a33) (argsL := []) (rest := []) X0 hx hZ hown (own_s11 l Z a0 hw [] a33 a267 a268 a269 a270 a271 a272 a273 a274 h0 n0 Z0 H3 H4 H5 H6 H7 H8 H9 H10 H11 H12 H13 H14 H15 H16 H17 H33 H61) H3 (own_w hw 86 rfl) (own_w hw 5 rfl) (own_w hw 88 rfl) (own_w hw 87 rfl) (own_w hw 89 rfl) (own_w hw 6 rfl) (by decide) e0 (hb hby d8_1) (by rw [hml, ← hL581]; rfl) rfl (lenOf own_pd3 rfl) (by decide) (W := 0) (Nat.le_of_eq rfl) (by decide) (by decide) (by decide) ?_
  intro v634 T634 lo634 X634 Q634
  obtain ⟨h634, e634⟩ : ∃ h, T634.heap = h := ⟨_, rfl⟩
  rw [e634] at Q634
  obtain ⟨rfl, N634, K634, F635, F636, F637, F638, F639, F640, F641, F642, F643, F644, F645, F646, F647, F648⟩ := Q634
  have N634' := Fr.app N0 N634
  show own_Go _ _ _ _ _ _ _ T634 (mkF m 4 L581 [(.int (0 : Int32))])
  refine own_pre (g' := (mkF m 6 #[.val (.ref a33), .val (.int (-1 : Int32)), .val (.double (4621819117588971520 : UInt64)), .second, .val (.double f386), .second, .val (.ref a558), .val (.long (0 : Int64)), .second, .val (.int (0 : Int32)), .unset] [])) (fun t k => XS.istore X634.here hx rfl (hb hby d8_4) rfl (l' := #[.val (.ref a33), .val (.int (-1 : Int32)), .val (.double (4621819117588971520 : UInt64)), .second, .val (.double f386), .second, .val (.ref a558), .val (.long (0 : Int64)), .second, .val (.int (0 : Int32)), .unset]) (by rw [← hL581]; rfl) k) ?_
  generalize hL650 : (#[.val (.ref a33), .val (.int (-1 : Int32)), .val (.double (4621819117588971520 : UInt64)), .second, .val (.double f386), .second, .val (.ref a558), .val (.long (0 : Int64)), .second, .val (.int (0 : Int32)), .unset] : Array Slot) = L650
  refine own_alN (w := (.ref a33)) X634 hx (hb hby d8_6) (by rw [← hL650]; rfl) rfl ?_
  refine own_getf X634 hx hZ hown (own_w hw 13 rfl) e634 F635 (hb hby d8_7) ?_
  intro T651 X651 e651
  show own_Go _ _ _ _ _ _ _ T651 (mkF m 10 L650 [(.ref a267)])
  refine own_il (w := (0 : Int32)) X651 hx (hb hby d8_10) (by rw [← hL650]; rfl) ?_
  refine own_dlN (w := (4621819117588971520 : UInt64)) X651 hx (hb hby d8_12) (by rw [← hL650]; rfl) ?_
  have F652 := (H33.keep K634 (ninS (Nat.ne_of_gt H59) nin0))
  refine own_dastore X651 hx hZ e651 N634' H105 F652 (hb hby d8_13) (n := 0) (by decide) (by decide) (by show 0 < 16; decide) ?_
  intro T653 h653 lo653 X653 e653 N653 W653
  have F654 : own_Ary Z h653 a267 .double ([(.double (4621819117588971520 : UInt64))] ++ own_rD 15) := F652.set W653
  show own_Go _ _ _ _ _ _ _ T653 (mkF m 14 L650 [])
  refine own_alN (w := (.ref a33)) X653 hx (hb hby d8_14) (by rw [← hL650]; rfl) rfl ?_
  have F655 := (F636.other W653 (Or.inl (Nat.ne_of_lt H59)))
  refine own_getf X653 hx hZ hown (own_w hw 15 rfl) e653 F655 (hb hby d8_15) ?_
  intro T656 X656 e656
  show own_Go _ _ _ _ _ _ _ T656 (mkF m 18 L650 [(.ref a268)])
  refine own_il (w := (0 : Int32)) X656 hx (hb hby d8_18) (by rw [← hL650]; rfl) ?_
  refine own_dl (w := f386) X656 hx (hb hby d8_20) (by rw [← hL650]; rfl) ?_
  have F657 := ((H31.keep K634 (ninS (Nat.ne_of_gt H58) nin0)).other W653 (Nat.ne_of_gt H101))
  refine own_dastore X656 hx hZ e656 N653 H103 F657 (hb hby d8_22) (n := 0) (by decide) (by decide) (by show 0 < 16; decide) ?_
  intro T658 h658 lo658 X658 e658 N658 W658
  have F659 : own_Ary Z h658 a268 .double ([(.double f386)] ++ own_rD 15) := F657.set W658
  show own_Go _ _ _ _ _ _ _ T658 (mkF m 23 L650 [])
  refine own_alN (w := (.ref a33)) X658 hx (hb hby d8_23) (by rw [← hL650]; rfl) rfl ?_
  have F660 := ((F637.other W653 (Or.inl (Nat.ne_of_lt H59))).other W658 (Or.inl (Nat.ne_of_lt H58)))
  refine own_getf X658 hx hZ hown (own_w hw 18 rfl) e658 F660 (hb hby d8_24) ?_
  intro T661 X661 e661
  show own_Go _ _ _ _ _ _ _ T661 (mkF m 27 L650 [(.ref a269)])
  refine own_il (w := (0 : Int32)) X661 hx (hb hby d8_27) (by rw [← hL650]; rfl) ?_
  refine own_ic X661 hx (0 : Int32) (hb hby d8_29) rfl ?_
  have F662 := (((H29.keep K634 (ninS (Nat.ne_of_gt H57) nin0)).other W653 (Nat.ne_of_gt H98)).other W658 (Nat.ne_of_gt H97))
  refine own_zastore X661 hx hZ e661 N658 H100 F662 (hb hby d8_30) (n := 0) (x' := (0 : Int32)) (by decide) (by decide) (by show 0 < 16; decide) (by decide) ?_
  intro T663 h663 lo663 X663 e663 N663 W663
  have F664 : own_Ary Z h663 a269 .boolean (own_rI 16) := F662.set W663
  show own_Go _ _ _ _ _ _ _ T663 (mkF m 31 L650 [])
  refine own_alN (w := (.ref a33)) X663 hx (hb hby d8_31) (by rw [← hL650]; rfl) rfl ?_
  have F665 := (((F638.other W653 (Or.inl (Nat.ne_of_lt H59))).other W658 (Or.inl (Nat.ne_of_lt H58))).other W663 (Or.inl (Nat.ne_of_lt H57)))
  refine own_getf X663 hx hZ hown (own_w hw 22 rfl) e663 F665 (hb hby d8_32) ?_
  intro T666 X666 e666
  show own_Go _ _ _ _ _ _ _ T666 (mkF m 35 L650 [(.ref a270)])
  refine own_il (w := (0 : Int32)) X666 hx (hb hby d8_35) (by rw [← hL650]; rfl) ?_
  refine own_al (w := (.ref a558)) X666 hx (hb hby d8_37) (by rw [← hL650]; rfl) rfl ?_
  have F667 := ((((H26.keep K634 (ninS (Nat.ne_of_gt H56) nin0)).other W653 (Nat.ne_of_gt H94)).other W658 (Nat.ne_of_gt H93)).other W663 (Nat.ne_of_gt H92))
  have F669 := ((((H35.keep K634).wr W653).wr W658).wr W663)
  have F670 := ((((H28.keep K634).wr W653).wr W658).wr W663)
  refine own_aastore X666 hx hZ e666 N663 H96 F667 F670 (Ins.self F669) (hb hby d8_39) (n := 0) (by decide) (by decide) (by show 0 < 16; decide) ?_
  intro T668 h668 lo668 X668 e668 N668 W668
  have F671 : own_Ary Z h668 a270 (.object own_k1) ([(.ref a558)] ++ own_rN 15) := F667.set W668
  show own_Go _ _ _ _ _ _ _ T668 (mkF m 40 L650 [])
  refine own_alN (w := (.ref a33)) X668 hx (hb hby d8_40) (by rw [← hL650]; rfl) rfl ?_
  have F672 := ((((F639.other W653 (Or.inl (Nat.ne_of_lt H59))).other W658 (Or.inl (Nat.ne_of_lt H58))).other W663 (Or.inl (Nat.ne_of_lt H57))).other W668 (Or.inl (Nat.ne_of_lt H56)))
  refine own_getf X668 hx hZ hown (own_w hw 24 rfl) e668 F672 (hb hby d8_41) ?_
  intro T673 X673 e673
  show own_Go _ _ _ _ _ _ _ T673 (mkF m 44 L650 [(.ref a271)])
  refine own_il (w := (0 : Int32)) X673 hx (hb hby d8_44) (by rw [← hL650]; rfl) ?_
  refine own_ic X673 hx (0 : Int32) (hb hby d8_46) rfl ?_
  have F674 := (((((H24.keep K634 (ninS (Nat.ne_of_gt H55) nin0)).other W653 (Nat.ne_of_gt H89)).other W658 (Nat.ne_of_gt H88)).other W663 (Nat.ne_of_gt H87)).other W668 (Nat.ne_of_gt H86))
  refine own_zastore X673 hx hZ e673 N668 H91 F674 (hb hby d8_47) (n := 0) (x' := (0 : Int32)) (by decide) (by decide) (by show 0 < 16; decide) (by decide) ?_
  intro T675 h675 lo675 X675 e675 N675 W675
  have F676 : own_Ary Z h675 a271 .boolean (own_rI 16) := F674.set W675
  show own_Go _ _ _ _ _ _ _ T675 (mkF m 48 L650 [])
  refine own_alN (w := (.ref a33)) X675 hx (hb hby d8_48) (by rw [← hL650]; rfl) rfl ?_
  have F677 := (((((F640.other W653 (Or.inl (Nat.ne_of_lt H59))).other W658 (Or.inl (Nat.ne_of_lt H58))).other W663 (Or.inl (Nat.ne_of_lt H57))).other W668 (Or.inl (Nat.ne_of_lt H56))).other W675 (Or.inl (Nat.ne_of_lt H55)))
  refine own_getf X675 hx hZ hown (own_w hw 26 rfl) e675 F677 (hb hby d8_49) ?_
  intro T678 X678 e678
  show own_Go _ _ _ _ _ _ _ T678 (mkF m 52 L650 [(.ref a272)])
  refine own_il (w := (0 : Int32)) X678 hx (hb hby d8_52) (by rw [← hL650]; rfl) ?_
  refine own_ll (w := (0 : Int64)) X678 hx (hb hby d8_54) (by rw [← hL650]; rfl) ?_
  have F679 := ((((((H22.keep K634 (ninS (Nat.ne_of_gt H54) nin0)).other W653 (Nat.ne_of_gt H83)).other W658 (Nat.ne_of_gt H82)).other W663 (Nat.ne_of_gt H81)).other W668 (Nat.ne_of_gt H80)).other W675 (Nat.ne_of_gt H79))
  refine own_lastore X678 hx hZ e678 N675 H85 F679 (hb hby d8_56) (n := 0) (by decide) (by decide) (by show 0 < 16; decide) ?_
  intro T680 h680 lo680 X680 e680 N680 W680
  have F681 : own_Ary Z h680 a272 .long (own_rJ 16) := F679.set W680
  show own_Go _ _ _ _ _ _ _ T680 (mkF m 57 L650 [])
  refine own_ilN (w := (-1 : Int32)) X680 hx (hb hby d8_57) (by rw [← hL650]; rfl) ?_
  refine own_ic X680 hx (-1 : Int32) (hb hby d8_58) rfl ?_
  refine own_pre (g' := (mkF m 62 L650 [])) (fun t k => XS.icmpNo X680.here hx rfl (hb hby d8_59) rfl (by decide) k) ?_
  refine own_alN (w := (.ref a33)) X680 hx (hb hby d8_62) (by rw [← hL650]; rfl) rfl ?_
  have F682 := ((((((F644.other W653 (Or.inl (Nat.ne_of_lt H59))).other W658 (Or.inl (Nat.ne_of_lt H58))).other W663 (Or.inl (Nat.ne_of_lt H57))).other W668 (Or.inl (Nat.ne_of_lt H56))).other W675 (Or.inl (Nat.ne_of_lt H55))).other W680 (Or.inl (Nat.ne_of_lt H54)))
  refine own_getf X680 hx hZ hown (own_w hw 35 rfl) e680 F682 (hb hby d8_63) ?_
  intro T683 X683 e683
  show own_Go _ _ _ _ _ _ _ T683 (mkF m 66 L650 [(.int (-1 : Int32))])
  refine own_gt X683 hx 75 (hb hby d8_66) (by decide) (by decide) ?_
  refine own_pre (g' := (mkF m 77 #[.val (.ref a33), .val (.int (-1 : Int32)), .val (.double (4621819117588971520 : UInt64)), .second, .val (.double f386), .second, .val (.ref a558), .val (.long (0 : Int64)), .second, .val (.int (0 : Int32)), .val (.int (-1 : Int32))] [])) (fun t k => XS.istore X683.here hx rfl (hb hby d8_75) rfl (l' := #[.val (.ref a33), .val (.int (-1 : Int32)), .val (.double (4621819117588971520 : UInt64)), .second, .val (.double f386), .second, .val (.ref a558), .val (.long (0 : Int64)), .second, .val (.int (0 : Int32)), .val (.int (-1 : Int32))]) (by rw [← hL650]; rfl) k) ?_
  generalize hL684 : (#[.val (.ref a33), .val (.int (-1 : Int32)), .val (.double (4621819117588971520 : UInt64)), .second, .val (.double f386), .second, .val (.ref a558), .val (.long (0 : Int64)), .second, .val (.int (0 : Int32)), .val (.int (-1 : Int32))] : Array Slot) = L684
  refine own_alN (w := (.ref a33)) X683 hx (hb hby d8_77) (by rw [← hL684]; rfl) rfl ?_
  have F685 := ((((((F641.other W653 (Or.inl (Nat.ne_of_lt H59))).other W658 (Or.inl (Nat.ne_of_lt H58))).other W663 (Or.inl (Nat.ne_of_lt H57))).other W668 (Or.inl (Nat.ne_of_lt H56))).other W675 (Or.inl (Nat.ne_of_lt H55))).other W680 (Or.inl (Nat.ne_of_lt H54)))
  refine own_getf X683 hx hZ hown (own_w hw 29 rfl) e683 F685 (hb hby d8_78) ?_
  intro T686 X686 e686
  show own_Go _ _ _ _ _ _ _ T686 (mkF m 81 L684 [(.ref a273)])
  refine own_il (w := (0 : Int32)) X686 hx (hb hby d8_81) (by rw [← hL684]; rfl) ?_
  refine own_ilN (w := (-1 : Int32)) X686 hx (hb hby d8_83) (by rw [← hL684]; rfl) ?_
  have F687 := (((((((H20.keep K634 (ninS (Nat.ne_of_gt H53) nin0)).other W653 (Nat.ne_of_gt H76)).other W658 (Nat.ne_of_gt H75)).other W663 (Nat.ne_of_gt H74)).other W668 (Nat.ne_of_gt H73)).other W675 (Nat.ne_of_gt H72)).other W680 (Nat.ne_of_gt H71))
  refine own_iastore X686 hx hZ e686 N680 H78 F687 (hb hby d8_84) (n := 0) (by decide) (by decide) (by show 0 < 16; decide) ?_
  intro T688 h688 lo688 X688 e688 N688 W688
  have F689 : own_Ary Z h688 a273 .int ([(.int (-1 : Int32))] ++ own_rI 15) := F687.set W688
  show own_Go _ _ _ _ _ _ _ T688 (mkF m 85 L684 [])
  refine own_alN (w := (.ref a33)) X688 hx (hb hby d8_85) (by rw [← hL684]; rfl) rfl ?_
  have F690 := (((((((F642.other W653 (Or.inl (Nat.ne_of_lt H59))).other W658 (Or.inl (Nat.ne_of_lt H58))).other W663 (Or.inl (Nat.ne_of_lt H57))).other W668 (Or.inl (Nat.ne_of_lt H56))).other W675 (Or.inl (Nat.ne_of_lt H55))).other W680 (Or.inl (Nat.ne_of_lt H54))).other W688 (Or.inl (Nat.ne_of_lt H53)))
  refine own_getf X688 hx hZ hown (own_w hw 31 rfl) e688 F690 (hb hby d8_86) ?_
  intro T691 X691 e691
  show own_Go _ _ _ _ _ _ _ T691 (mkF m 89 L684 [(.ref a274)])
  refine own_il (w := (0 : Int32)) X691 hx (hb hby d8_89) (by rw [← hL684]; rfl) ?_
  refine own_il (w := (-1 : Int32)) X691 hx (hb hby d8_91) (by rw [← hL684]; rfl) ?_
  have F692 := ((((((((H18.keep K634 (ninS (Nat.ne_of_gt H52) nin0)).other W653 (Nat.ne_of_gt H68)).other W658 (Nat.ne_of_gt H67)).other W663 (Nat.ne_of_gt H66)).other W668 (Nat.ne_of_gt H65)).other W675 (Nat.ne_of_gt H64)).other W680 (Nat.ne_of_gt H63)).other W688 (Nat.ne_of_gt H62))
  refine own_iastore X691 hx hZ e691 N688 H70 F692 (hb hby d8_93) (n := 0) (by decide) (by decide) (by show 0 < 16; decide) ?_
  intro T693 h693 lo693 X693 e693 N693 W693
  have F694 : own_Ary Z h693 a274 .int ([(.int (-1 : Int32))] ++ own_rI 15) := F692.set W693
  show own_Go _ _ _ _ _ _ _ T693 (mkF m 94 L684 [])
  refine own_il (w := (-1 : Int32)) X693 hx (hb hby d8_94) (by rw [← hL684]; rfl) ?_
  refine own_ic X693 hx (-1 : Int32) (hb hby d8_96) rfl ?_
  refine own_pre (g' := (mkF m 100 L684 [])) (fun t k => XS.icmpNo X693.here hx rfl (hb hby d8_97) rfl (by decide) k) ?_
  refine own_alN (w := (.ref a33)) X693 hx (hb hby d8_100) (by rw [← hL684]; rfl) rfl ?_
  refine own_il (w := (0 : Int32)) X693 hx (hb hby d8_101) (by rw [← hL684]; rfl) ?_
  have F695 := ((((((((F643.other W653 (Or.inl (Nat.ne_of_lt H59))).other W658 (Or.inl (Nat.ne_of_lt H58))).other W663 (Or.inl (Nat.ne_of_lt H57))).other W668 (Or.inl (Nat.ne_of_lt H56))).other W675 (Or.inl (Nat.ne_of_lt H55))).other W680 (Or.inl (Nat.ne_of_lt H54))).other W688 (Or.inl (Nat.ne_of_lt H53))).other W693 (Or.inl (Nat.ne_of_lt H52)))
  have F696 := (((((((((H3.keep K634).wr W653).wr W658).wr W663).wr W668).wr W675).wr W680).wr W688).wr W693)
  refine own_putf X693 hx hZ hown (own_w hw 33 rfl) e693 N693 H61 F695 F696 (Or.inl (own_w hw 34 rfl)) (own_w hw 5 rfl) (ty := .int) (by decide) rfl rfl (hb hby d8_103) ?_
  intro T697 h697 lo697 X697 e697 N697 W697
  have F698 := F695.same W697
  show own_Go _ _ _ _ _ _ _ T697 (mkF m 106 L684 [])
  refine own_gt X697 hx 118 (hb hby d8_106) (by decide) (by decide) ?_
  refine own_ilN (w := (-1 : Int32)) X697 hx (hb hby d8_118) (by rw [← hL684]; rfl) ?_
  refine own_ic X697 hx (-1 : Int32) (hb hby d8_119) rfl ?_
  refine own_pre (g' := (mkF m 123 L684 [])) (fun t k => XS.icmpNo X697.here hx rfl (hb hby d8_120) rfl (by decide) k) ?_
  refine own_alN (w := (.ref a33)) X697 hx (hb hby d8_123) (by rw [← hL684]; rfl) rfl ?_
  refine own_il (w := (0 : Int32)) X697 hx (hb hby d8_124) (by rw [← hL684]; rfl) ?_
  have F699 := (((F682.other W688 (Or.inl (Nat.ne_of_lt H53))).other W693 (Or.inl (Nat.ne_of_lt H52))).other W697 (Or.inr (own_sne (own_f9 hw) (own_f8 hw) (by decide))))
  have F700 := (F696.wr W697)
  refine own_putf X697 hx hZ hown (own_w hw 35 rfl) e697 N697 H61 F699 F700 (Or.inl (own_w hw 36 rfl)) (own_w hw 5 rfl) (ty := .int) (by decide) rfl rfl (hb hby d8_126) ?_
  intro T701 h701 lo701 X701 e701 N701 W701
  have F702 := F699.same W701
  show own_Go _ _ _ _ _ _ _ T701 (mkF m 129 L684 [])
  refine own_gt X701 hx 140 (hb hby d8_129) (by decide) (by decide) ?_
  refine own_alN (w := (.ref a33)) X701 hx (hb hby d8_140) (by rw [← hL684]; rfl) rfl ?_
  refine own_pre (g' := (mkF m 142 L684 [(.ref a33), (.ref a33)])) (fun t k => XS.dup X701.here hx rfl (hb hby d8_141) rfl rfl k) ?_
  have F703 := ((((((((((F647.other W653 (Or.inl (Nat.ne_of_lt H59))).other W658 (Or.inl (Nat.ne_of_lt H58))).other W663 (Or.inl (Nat.ne_of_lt H57))).other W668 (Or.inl (Nat.ne_of_lt H56))).other W675 (Or.inl (Nat.ne_of_lt H55))).other W680 (Or.inl (Nat.ne_of_lt H54))).other W688 (Or.inl (Nat.ne_of_lt H53))).other W693 (Or.inl (Nat.ne_of_lt H52))).other W697 (Or.inr (own_sne (own_f12 hw) (own_f8 hw) (by decide)))).other W701 (Or.inr (own_sne (own_f12 hw) (own_f9 hw) (by decide))))
  refine own_getf X701 hx hZ hown (own_w hw 48 rfl) e701 F703 (hb hby d8_142) ?_
  intro T704 X704 e704
  show own_Go _ _ _ _ _ _ _ T704 (mkF m 145 L684 [(.int (0 : Int32)), (.ref a33)])
  refine own_ic X704 hx (1 : Int32) (hb hby d8_145) rfl ?_
  refine own_pre (g' := (mkF m 147 L684 [(.int (1 : Int32)), (.ref a33)])) (fun t k => XS.iadd X704.here hx rfl (hb hby d8_146) rfl k) ?_
  have F705 := (F700.wr W701)
  refine own_putf X704 hx hZ hown (own_w hw 48 rfl) e704 N701 H61 F703 F705 (Or.inl (own_w hw 49 rfl)) (own_w hw 5 rfl) (ty := .int) (by decide) rfl rfl (hb hby d8_147) ?_
  intro T706 h706 lo706 X706 e706 N706 W706
  have F707 := F703.same W706
  show own_Go _ _ _ _ _ _ _ T706 (mkF m 150 L684 [])
  refine own_il (w := (0 : Int32)) X706 hx (hb hby d8_150) (by rw [← hL684]; rfl) ?_
  have F708 := (((F694.other W697 (Nat.ne_of_gt H52)).other W701 (Nat.ne_of_gt H52)).other W706 (Nat.ne_of_gt H52))
  have F709 := ((((F689.other W693 (Nat.ne_of_lt H62)).other W697 (Nat.ne_of_gt H53)).other W701 (Nat.ne_of_gt H53)).other W706 (Nat.ne_of_gt H53))
  have F710 := (((((F681.other W688 (Nat.ne_of_lt H71)).other W693 (Nat.ne_of_lt H63)).other W697 (Nat.ne_of_gt H54)).other W701 (Nat.ne_of_gt H54)).other W706 (Nat.ne_of_gt H54))
  have F711 := ((((((F676.other W680 (Nat.ne_of_lt H79)).other W688 (Nat.ne_of_lt H72)).other W693 (Nat.ne_of_lt H64)).other W697 (Nat.ne_of_gt H55)).other W701 (Nat.ne_of_gt H55)).other W706 (Nat.ne_of_gt H55))
  have F712 := (((((((F671.other W675 (Nat.ne_of_lt H86)).other W680 (Nat.ne_of_lt H80)).other W688 (Nat.ne_of_lt H73)).other W693 (Nat.ne_of_lt H65)).other W697 (Nat.ne_of_gt H56)).other W701 (Nat.ne_of_gt H56)).other W706 (Nat.ne_of_gt H56))
  have F713 := ((((((((F664.other W668 (Nat.ne_of_lt H92)).other W675 (Nat.ne_of_lt H87)).other W680 (Nat.ne_of_lt H81)).other W688 (Nat.ne_of_lt H74)).other W693 (Nat.ne_of_lt H66)).other W697 (Nat.ne_of_gt H57)).other W701 (Nat.ne_of_gt H57)).other W706 (Nat.ne_of_gt H57))
  have F714 := (((((((((F659.other W663 (Nat.ne_of_lt H97)).other W668 (Nat.ne_of_lt H93)).other W675 (Nat.ne_of_lt H88)).other W680 (Nat.ne_of_lt H82)).other W688 (Nat.ne_of_lt H75)).other W693 (Nat.ne_of_lt H67)).other W697 (Nat.ne_of_gt H58)).other W701 (Nat.ne_of_gt H58)).other W706 (Nat.ne_of_gt H58))
  have F715 := ((((((((((F654.other W658 (Nat.ne_of_lt H101)).other W663 (Nat.ne_of_lt H98)).other W668 (Nat.ne_of_lt H94)).other W675 (Nat.ne_of_lt H89)).other W680 (Nat.ne_of_lt H83)).other W688 (Nat.ne_of_lt H76)).other W693 (Nat.ne_of_lt H68)).other W697 (Nat.ne_of_gt H59)).other W701 (Nat.ne_of_gt H59)).other W706 (Nat.ne_of_gt H59))
  have F716 := (((((((((((F635.other W653 (Or.inl (Nat.ne_of_lt H59))).other W658 (Or.inl (Nat.ne_of_lt H58))).other W663 (Or.inl (Nat.ne_of_lt H57))).other W668 (Or.inl (Nat.ne_of_lt H56))).other W675 (Or.inl (Nat.ne_of_lt H55))).other W680 (Or.inl (Nat.ne_of_lt H54))).other W688 (Or.inl (Nat.ne_of_lt H53))).other W693 (Or.inl (Nat.ne_of_lt H52))).other W697 (Or.inr (own_sne (own_f1 hw) (own_f8 hw) (by decide)))).other W701 (Or.inr (own_sne (own_f1 hw) (own_f9 hw) (by decide)))).other W706 (Or.inr (own_sne (own_f1 hw) (own_f12 hw) (by decide))))
  have F717 := ((((((((((F655.other W658 (Or.inl (Nat.ne_of_lt H58))).other W663 (Or.inl (Nat.ne_of_lt H57))).other W668 (Or.inl (Nat.ne_of_lt H56))).other W675 (Or.inl (Nat.ne_of_lt H55))).other W680 (Or.inl (Nat.ne_of_lt H54))).other W688 (Or.inl (Nat.ne_of_lt H53))).other W693 (Or.inl (Nat.ne_of_lt H52))).other W697 (Or.inr (own_sne (own_f0 hw) (own_f8 hw) (by decide)))).other W701 (Or.inr (own_sne (own_f0 hw) (own_f9 hw) (by decide)))).other W706 (Or.inr (own_sne (own_f0 hw) (own_f12 hw) (by decide))))
  have F718 := (((((((((F660.other W663 (Or.inl (Nat.ne_of_lt H57))).other W668 (Or.inl (Nat.ne_of_lt H56))).other W675 (Or.inl (Nat.ne_of_lt H55))).other W680 (Or.inl (Nat.ne_of_lt H54))).other W688 (Or.inl (Nat.ne_of_lt H53))).other W693 (Or.inl (Nat.ne_of_lt H52))).other W697 (Or.inr (own_sne (own_f2 hw) (own_f8 hw) (by decide)))).other W701 (Or.inr (own_sne (own_f2 hw) (own_f9 hw) (by decide)))).other W706 (Or.inr (own_sne (own_f2 hw) (own_f12 hw) (by decide))))
  have F719 := ((((((((F665.other W668 (Or.inl (Nat.ne_of_lt H56))).other W675 (Or.inl (Nat.ne_of_lt H55))).other W680 (Or.inl (Nat.ne_of_lt H54))).other W688 (Or.inl (Nat.ne_of_lt H53))).other W693 (Or.inl (Nat.ne_of_lt H52))).other W697 (Or.inr (own_sne (own_f3 hw) (own_f8 hw) (by decide)))).other W701 (Or.inr (own_sne (own_f3 hw) (own_f9 hw) (by decide)))).other W706 (Or.inr (own_sne (own_f3 hw) (own_f12 hw) (by decide))))
  have F720 := (((((((F672.other W675 (Or.inl (Nat.ne_of_lt H55))).other W680 (Or.inl (Nat.ne_of_lt H54))).other W688 (Or.inl (Nat.ne_of_lt H53))).other W693 (Or.inl (Nat.ne_of_lt H52))).other W697 (Or.inr (own_sne (own_f4 hw) (own_f8 hw) (by decide)))).other W701 (Or.inr (own_sne (own_f4 hw) (own_f9 hw) (by decide)))).other W706 (Or.inr (own_sne (own_f4 hw) (own_f12 hw) (by decide))))
  have F721 := ((((((F677.other W680 (Or.inl (Nat.ne_of_lt H54))).other W688 (Or.inl (Nat.ne_of_lt H53))).other W693 (Or.inl (Nat.ne_of_lt H52))).other W697 (Or.inr (own_sne (own_f5 hw) (own_f8 hw) (by decide)))).other W701 (Or.inr (own_sne (own_f5 hw) (own_f9 hw) (by decide)))).other W706 (Or.inr (own_sne (own_f5 hw) (own_f12 hw) (by decide))))
  have F722 := (((((F685.other W688 (Or.inl (Nat.ne_of_lt H53))).other W693 (Or.inl (Nat.ne_of_lt H52))).other W697 (Or.inr (own_sne (own_f6 hw) (own_f8 hw) (by decide)))).other W701 (Or.inr (own_sne (own_f6 hw) (own_f9 hw) (by decide)))).other W706 (Or.inr (own_sne (own_f6 hw) (own_f12 hw) (by decide))))
  have F723 := ((((F690.other W693 (Or.inl (Nat.ne_of_lt H52))).other W697 (Or.inr (own_sne (own_f7 hw) (own_f8 hw) (by decide)))).other W701 (Or.inr (own_sne (own_f7 hw) (own_f9 hw) (by decide)))).other W706 (Or.inr (own_sne (own_f7 hw) (own_f12 hw) (by decide))))
  have F724 := ((F698.other W701 (Or.inr (own_sne (own_f8 hw) (own_f9 hw) (by decide)))).other W706 (Or.inr (own_sne (own_f8 hw) (own_f12 hw) (by decide))))
  have F725 := (F702.other W706 (Or.inr (own_sne (own_f9 hw) (own_f12 hw) (by decide))))
  have F726 := (((((((((((F645.other W653 (Or.inl (Nat.ne_of_lt H59))).other W658 (Or.inl (Nat.ne_of_lt H58))).other W663 (Or.inl (Nat.ne_of_lt H57))).other W668 (Or.inl (Nat.ne_of_lt H56))).other W675 (Or.inl (Nat.ne_of_lt H55))).other W680 (Or.inl (Nat.ne_of_lt H54))).other W688 (Or.inl (Nat.ne_of_lt H53))).other W693 (Or.inl (Nat.ne_of_lt H52))).other W697 (Or.inr (own_sne (own_f10 hw) (own_f8 hw) (by decide)))).other W701 (Or.inr (own_sne (own_f10 hw) (own_f9 hw) (by decide)))).other W706 (Or.inr (own_sne (own_f10 hw) (own_f12 hw) (by decide))))
  have F727 := (((((((((((F646.other W653 (Or.inl (Nat.ne_of_lt H59))).other W658 (Or.inl (Nat.ne_of_lt H58))).other W663 (Or.inl (Nat.ne_of_lt H57))).other W668 (Or.inl (Nat.ne_of_lt H56))).other W675 (Or.inl (Nat.ne_of_lt H55))).other W680 (Or.inl (Nat.ne_of_lt H54))).other W688 (Or.inl (Nat.ne_of_lt H53))).other W693 (Or.inl (Nat.ne_of_lt H52))).other W697 (Or.inr (own_sne (own_f11 hw) (own_f8 hw) (by decide)))).other W701 (Or.inr (own_sne (own_f11 hw) (own_f9 hw) (by decide)))).other W706 (Or.inr (own_sne (own_f11 hw) (own_f12 hw) (by decide))))
  have F728 := (((((((((((F648.other W653 (Or.inl (Nat.ne_of_lt H59))).other W658 (Or.inl (Nat.ne_of_lt H58))).other W663 (Or.inl (Nat.ne_of_lt H57))).other W668 (Or.inl (Nat.ne_of_lt H56))).other W675 (Or.inl (Nat.ne_of_lt H55))).other W680 (Or.inl (Nat.ne_of_lt H54))).other W688 (Or.inl (Nat.ne_of_lt H53))).other W693 (Or.inl (Nat.ne_of_lt H52))).other W697 (Or.inr (own_sne (own_f13 hw) (own_f8 hw) (by decide)))).other W701 (Or.inr (own_sne (own_f13 hw) (own_f9 hw) (by decide)))).other W706 (Or.inr (own_sne (own_f13 hw) (own_f12 hw) (by decide))))
  exact own_retI X706 hx hlk hret (hb hby d8_152) e706 ⟨rfl, N706, (((((((((((((Keep.refl _ _).trans K634 (allS (Or.inl (by simp)) all0)).wr W653 (Or.inl (by simp))).wr W658 (Or.inl (by simp))).wr W663 (Or.inl (by simp))).wr W668 (Or.inl (by simp))).wr W675 (Or.inl (by simp))).wr W680 (Or.inl (by simp))).wr W688 (Or.inl (by simp))).wr W693 (Or.inl (by simp))).wr W697 (Or.inl (by simp))).wr W701 (Or.inl (by simp))).wr W706 (Or.inl (by simp))), F708, F709, F710, F711, F712, F713, F714, F715, F716, F717, F718, F719, F720, F721, F722, F723, F724, F725, F726, F727, F707, F728⟩ (by decide) (by decide)
theorem own_pd4 : parseMethodDescriptor "(IDDLcom/example/rankline/rankline/Extent;J)I" = some ⟨[.int, .double, .double, (.object "com/example/rankline/rankline/Extent"), .long], some .int⟩ := by decide +kernel
def own_s6_Q (Z : State) (a33 : Addr) (f386 : UInt64) (a447 : Addr) (a267 : Addr) (a268 : Addr) (a269 : Addr) (a270 : Addr) (a271 : Addr) (a272 : Addr) (a273 : Addr) (a274 : Addr) (h0 : Heap) (n0 : Nat) (v_ : Option Value) (h_ : Heap) (L_ : List Loc) : Prop := (fun v h L => ∃ (a558 : Addr), v = none ∧ Fr n0 L ∧ Keep h0 h [a33, a267, a268, a269, a270, a271, a272, a273, a274] ∧ h0.size ≤ a558 ∧ own_Ary Z h a274 .int ([(.int (-1 : Int32))] ++ own_rI 15) ∧ own_Ary Z h a273 .int ([(.int (-1 : Int32))] ++ own_rI 15) ∧ own_Ary Z h a272 .long (own_rJ 16) ∧ own_Ary Z h a271 .boolean (own_rI 16) ∧ own_Ary Z h a270 (.object own_k1) ([(.ref a558)] ++ own_rN 15) ∧ own_Ary Z h a269 .boolean (own_rI 16) ∧ own_Ary Z h a268 .double ([(.double f386)] ++ own_rD 15) ∧ own_Ary Z h a267 .double ([(.double (4621819117588971520 : UInt64))] ++ own_rD 15) ∧ Fld Z h a33 own_k0 "thresholds" "[D" (.ref a267) ∧ Fld Z h a33 own_k0 "ranks" "[D" (.ref a268) ∧ Fld Z h a33 own_k0 "guarded" "[Z" (.ref a269) ∧ Fld Z h a33 own_k0 "extents" own_k4 (.ref a270) ∧ Fld Z h a33 own_k0 "addedAtThreshold" "[Z" (.ref a271) ∧ Fld Z h a33 own_k0 "copies" "[J" (.ref a272) ∧ Fld Z h a33 own_k0 "nextOf" "[I" (.ref a273) ∧ Fld Z h a33 own_k0 "previousOf" "[I" (.ref a274) ∧ Fld Z h a33 own_k0 "first" "I" (.int (0 : Int32)) ∧ Fld Z h a33 own_k0 "last" "I" (.int (0 : Int32)) ∧ Fld Z h a33 own_k0 "free" "I" (.int (-1 : Int32)) ∧ Fld Z h a33 own_k0 "smallestMagnitude" "D" (.double (9218868437227405312 : UInt64)) ∧ Fld Z h a33 own_k0 "size" "I" (.int (1 : Int32)) ∧ Fld Z h a33 own_k0 "used" "I" (.int (1 : Int32)) ∧ Exa Z h a558 own_k1 ∧ Fld Z h a558 own_k1 "low" "D" (.double (4621819117588971520 : UInt64)) ∧ Fld Z h a558 own_k1 "gapLow" "D" (.double (4621819117588971520 : UInt64)) ∧ Fld Z h a558 own_k1 "gapHigh" "D" (.double (4621819117588971520 : UInt64)) ∧ Fld Z h a558 own_k1 "high" "D" (.double (4621819117588971520 : UInt64)) ∧ Fld Z h a558 own_k1 "below" "D" (.double f386) ∧ Fld Z h a558 own_k1 "count" "D" (.double f386)) v_ h_ L_
set_option maxRecDepth 65536 in
set_option maxHeartbeats 40000000 in
theorem own_s6 (l : Launch) (Z : State) (a0 : Array Value) (hw : ∀ d ∈ tables_1, d.before a0 Z = true) (wds : List Jvm.Cond) (a33 : Addr) (f386 : UInt64) (a447 : Addr) (a267 : Addr) (a268 : Addr) (a269 : Addr) (a270 : Addr) (a271 : Addr) (a272 : Addr) (a273 : Addr) (a274 : Addr) (h0 : Heap) (n0 : Nat) (Z0 : n0 ≤ h0.size) (H3 : Exa Z h0 a33 own_k0) (H4 : Fld Z h0 a33 own_k0 "thresholds" "[D" (.ref a267)) (H5 : Fld Z h0 a33 own_k0 "ranks" "[D" (.ref a268)) (H6 : Fld Z h0 a33 own_k0 "guarded" "[Z" (.ref a269)) (H7 : Fld Z h0 a33 own_k0 "extents" own_k4 (.ref a270)) (H8 : Fld Z h0 a33 own_k0 "addedAtThreshold" "[Z" (.ref a271)) (H9 : Fld Z h0 a33 own_k0 "copies" "[J" (.ref a272)) (H10 : Fld Z h0 a33 own_k0 "nextOf" "[I" (.ref a273)) (H11 : Fld Z h0 a33 own_k0 "previousOf" "[I" (.ref a274)) (H12 : Fld Z h0 a33 own_k0 "first" "I" (.int (-1 : Int32))) (H13 : Fld Z h0 a33 own_k0 "last" "I" (.int (-1 : Int32))) (H14 : Fld Z h0 a33 own_k0 "free" "I" (.int (-1 : Int32))) (H15 : Fld Z h0 a33 own_k0 "smallestMagnitude" "D" (.double (9218868437227405312 : UInt64))) (H16 : Fld Z h0 a33 own_k0 "size" "I" (.int (0 : Int32))) (H17 : Fld Z h0 a33 own_k0 "used" "I" (.int (0 : Int32))) (H18 : own_Ary Z h0 a274 .int (own_rI 16)) (H20 : own_Ary Z h0 a273 .int (own_rI 16)) (H22 : own_Ary Z h0 a272 .long (own_rJ 16)) (H24 : own_Ary Z h0 a271 .boolean (own_rI 16)) (H26 : own_Ary Z h0 a270 (.object own_k1) (own_rN 16)) (H28 : own_Ovr Z h0 a270 own_k1) (H29 : own_Ary Z h0 a269 .boolean (own_rI 16)) (H31 : own_Ary Z h0 a268 .double (own_rD 16)) (H33 : own_Ary Z h0 a267 .double (own_rD 16)) (H52 : a33 < a274) (H53 : a33 < a273) (H54 : a33 < a272) (H55 : a33 < a271) (H56 : a33 < a270) (H57 : a33 < a269) (H58 : a33 < a268) (H59 : a33 < a267) (H61 : n0 ≤ a33) (H62 : a273 < a274) (H63 : a272 < a274) (H64 : a271 < a274) (H65 : a270 < a274) (H66 : a269 < a274) (H67 : a268 < a274) (H68 : a267 < a274) (H70 : n0 ≤ a274) (H71 : a272 < a273) (H72 : a271 < a273) (H73 : a270 < a273) (H74 : a269 < a273) (H75 : a268 < a273) (H76 : a267 < a273) (H78 : n0 ≤ a273) (H79 : a271 < a272) (H80 : a270 < a272) (H81 : a269 < a272) (H82 : a268 < a272) (H83 : a267 < a272) (H85 : n0 ≤ a272) (H86 : a270 < a271) (H87 : a269 < a271) (H88 : a268 < a271) (H89 : a267 < a271) (H91 : n0 ≤ a271) (H92 : a269 < a270) (H93 : a268 < a270) (H94 : a267 < a270) (H96 : n0 ≤ a270) (H97 : a268 < a269) (H98 : a267 < a269) (H100 : n0 ≤ a269) (H101 : a267 < a268) (H103 : n0 ≤ a268) (H105 : n0 ≤ a267) :
    MetFree l (⟨own_k0, "append", own_k7⟩ : MethodName) (head1 (Jvm.Cond.code (⟨own_k0, "append", own_k7⟩ : MethodName) prog_5_method_13_code 8 none :: wds) ({ frames := 4, cells := 1, slots := 6, locals := 72 } : Room)) (fun ar_ U_ => ar_ = #[(.ref a33), (.double (4621819117588971520 : UInt64)), (.double f386), (.ref a447), (.long (0 : Int64))] ∧ Z.Warmed39 U_.vm ∧ U_.heap = h0) (fun _ _ _ _ _ => True) (fun _ U_ o_ V_ => ∃ v_ L_, o_ = .returned v_ ∧ own_s6_Q Z a33 f386 a447 a267 a268 a269 a270 a271 a272 a273 a274 h0 n0 v_ V_.heap L_ ∧ FrameEnd U_ o_ V_ L_ ({ frames := 4, cells := 1, slots := 6, locals := 72 } : Room).cells ({ frames := 4, cells := 1, slots := 6, locals := 72 } : Room).slots) := by
  refine own_met (y := ⟨own_k0, "append", own_k7⟩) (Q := own_s6_Q Z a33 f386 a447 a267 a268 a269 a270 a271 a272 a273 a274 h0 n0) own_pn1 ?_
  intro p e s m below meth c s₁ hx hby hml hZ hown hnm hret hlk X0 e0
  have N0 := Fr.nil n0
  refine own_cast (g' := (mkF m 0 #[.val (.ref a33), .val (.double (4621819117588971520 : UInt64)), .second, .val (.double f386), .second, .val (.ref a447), .val (.long (0 : Int64)), .second] [])) (by first | (simp [entryFrame, mkF, argsToLocals, Value.category]; done) | rfl) ?_
  generalize hL469 : (#[.val (.ref a33), .val (.double (4621819117588971520 : UInt64)), .second, .val (.double f386), .second, .val (.ref a447), .val (.long (0 : Int64)), .second] : Array Slot) = L469
  refine own_alN (w := (.ref a33)) X0 hx (hb hby d7_0) (by rw [← hL469]; rfl) rfl ?_
  refine own_ic X0 hx (-1 : Int32) (hb hby d7_1) rfl ?_
  refine own_dlN (w := (4621819117588971520 : UInt64)) X0 hx (hb hby d7_2) (by rw [← hL469]; rfl) ?_
  refine own_dlN (w := f386) X0 hx (hb hby d7_3) (by rw [← hL469]; rfl) ?_
  refine own_alN (w := (.ref a33)) X0 hx (hb hby d7_4) (by rw [← hL469]; rfl) rfl ?_
  refine own_getf X0 hx hZ hown (own_w hw 48 rfl) e0 H16 (hb hby d7_5) ?_
  intro T503 X503 e503
  show own_Go _ _ _ _ _ _ _ T503 (mkF m 8 L469 [(.int (0 : Int32)), (.double f386), (.double (4621819117588971520 : UInt64)), (.int (-1 : Int32)), (.ref a33)])
  refine own_pre (g' := (mkF m 11 L469 [(.double f386), (.double (4621819117588971520 : UInt64)), (.int (-1 : Int32)), (.ref a33)])) (fun t k => XS.ifNo X503.here hx rfl (hb hby d7_8) rfl (by decide) k) ?_
  refine own_dlN (w := (4621819117588971520 : UInt64)) X503 hx (hb hby d7_11) (by rw [← hL469]; rfl) ?_
  refine own_dlN (w := (4621819117588971520 : UInt64)) X503 hx (hb hby d7_12) (by rw [← hL469]; rfl) ?_
  refine own_dlN (w := f386) X503 hx (hb hby d7_13) (by rw [← hL469]; rfl) ?_
  refine own_calls (argsL := [(.double (4621819117588971520 : UInt64)), (.double (4621819117588971520 : UInt64)), (.double f386)]) (rest := [(.double f386), (.double (4621819117588971520 : UInt64)), (.int (-1 : Int32)), (.ref a33)]) X503 hx hZ hown (own_s7 l Z a0 hw [] f386 h0 n0 Z0 ) (own_w hw 50 rfl) (own_w hw 51 rfl) (own_w hw 53 rfl) (own_w hw 52 rfl) (by decide) e503 (hb hby d7_14) (by rw [hml, ← hL469]; rfl) rfl (lenOf own_pd2 rfl) (by decide) (W := 6) (Nat.le_of_eq rfl) (by decide) (by decide) (by decide) ?_
  intro v557 T557 lo557 X557 Q557
  obtain ⟨h557, e557⟩ : ∃ h, T557.heap = h := ⟨_, rfl⟩
  rw [e557] at Q557
  obtain ⟨a558, rfl, N557, K557, ge559, F560, F561, F562, F563, F564, F565, F566⟩ := Q557
  have N557' := Fr.app N0 N557
  show own_Go _ _ _ _ _ _ _ T557 (mkF m 17 L469 [(.ref a558), (.double f386), (.double (4621819117588971520 : UInt64)), (.int (-1 : Int32)), (.ref a33)])
  have lt569 : a33 < a558 := Nat.lt_of_lt_of_le H3.lt ge559
  have lt570 : a274 < a558 := Nat.lt_of_lt_of_le H18.lt ge559
  have lt571 : a273 < a558 := Nat.lt_of_lt_of_le H20.lt ge559
  have lt572 : a272 < a558 := Nat.lt_of_lt_of_le H22.lt ge559
  have lt573 : a271 < a558 := Nat.lt_of_lt_of_le H24.lt ge559
  have lt574 : a270 < a558 := Nat.lt_of_lt_of_le H26.lt ge559
  have lt575 : a269 < a558 := Nat.lt_of_lt_of_le H29.lt ge559
  have lt576 : a268 < a558 := Nat.lt_of_lt_of_le H31.lt ge559
  have lt577 : a267 < a558 := Nat.lt_of_lt_of_le H33.lt ge559
  have ge580 : h0.size ≤ a558 := Nat.le_trans (Nat.le_refl _) ge559
  refine own_gt X557 hx 22 (hb hby d7_17) (by decide) (by decide) ?_
  refine own_ll (w := (0 : Int64)) X557 hx (hb hby d7_22) (by rw [← hL469]; rfl) ?_
  have F583 := (H3.keep K557)
  have F584 := (H4.keep K557 nin0)
  have F585 := (H5.keep K557 nin0)
  have F586 := (H6.keep K557 nin0)
  have F587 := (H7.keep K557 nin0)
  have F588 := (H8.keep K557 nin0)
  have F589 := (H9.keep K557 nin0)
  have F590 := (H10.keep K557 nin0)
  have F591 := (H11.keep K557 nin0)
  have F592 := (H12.keep K557 nin0)
  have F593 := (H13.keep K557 nin0)
  have F594 := (H14.keep K557 nin0)
  have F595 := (H15.keep K557 nin0)
  have F596 := (H16.keep K557 nin0)
  have F597 := (H17.keep K557 nin0)
  have F598 := (H18.keep K557 nin0)
  have F600 := (H20.keep K557 nin0)
  have F602 := (H22.keep K557 nin0)
  have F604 := (H24.keep K557 nin0)
  have F606 := (H26.keep K557 nin0)
  have F608 := (H28.keep K557)
  have F609 := (H29.keep K557 nin0)
  have F611 := (H31.keep K557 nin0)
  have F613 := (H33.keep K557 nin0)
  have F729 : n0 ≤ h557.size := (Nat.le_trans Z0 K557.1)
  refine own_callp (a := a33) (argsL := [(.int (-1 : Int32)), (.double (4621819117588971520 : UInt64)), (.double f386), (.ref a558), (.long (0 : Int64))]) (rest := []) X557 hx hZ hown (own_s10 l Z a0 hw [] a33 f386 a558 a267 a268 a269 a270 a271 a272 a273 a274 h557 n0 F729 F583 F584 F585 F586 F587 F588 F589 F590 F591 F592 F593 F594 F595 F596 F597 F598 F600 F602 F604 F606 F608 F609 F611 F613 F560 H52 H53 H54 H55 H56 H57 H58 H59 H61 H62 H63 H64 H65 H66 H67 H68 H70 H71 H72 H73 H74 H75 H76 H78 H79 H80 H81 H82 H83 H85 H86 H87 H88 H89 H91 H92 H93 H94 H96 H97 H98 H100 H101 H103 H105) F583 (own_w hw 82 rfl) (own_w hw 5 rfl) (own_w hw 84 rfl) (own_w hw 83 rfl) (own_w hw 85 rfl) (own_w hw 6 rfl) (by decide) e557 (hb hby d7_24) (by rw [hml, ← hL469]; rfl) rfl (lenOf own_pd4 rfl) (by decide) (W := 0) (Nat.le_of_eq rfl) (by decide) (by decide) (by decide) ?_
  intro v730 T730 lo730 X730 Q730
  obtain ⟨h730, e730⟩ : ∃ h, T730.heap = h := ⟨_, rfl⟩
  rw [e730] at Q730
  obtain ⟨rfl, N730, K730, F731, F732, F733, F734, F735, F736, F737, F738, F739, F740, F741, F742, F743, F744, F745, F746, F747, F748, F749, F750, F751, F752⟩ := Q730
  have N730' := Fr.app N557' N730
  show own_Go _ _ _ _ _ _ _ T730 (mkF m 27 L469 [(.int (0 : Int32))])
  refine own_pre (g' := (mkF m 28 L469 [])) (fun t k => XT.pop X730.here hx rfl (hb hby d7_27) rfl rfl k) ?_
  have F754 := (F560.keep K730)
  have F755 := (F561.keep K730 (ninS (Nat.ne_of_gt lt569) (ninS (Nat.ne_of_gt lt577) (ninS (Nat.ne_of_gt lt576) (ninS (Nat.ne_of_gt lt575) (ninS (Nat.ne_of_gt lt574) (ninS (Nat.ne_of_gt lt573) (ninS (Nat.ne_of_gt lt572) (ninS (Nat.ne_of_gt lt571) (ninS (Nat.ne_of_gt lt570) nin0))))))))))
  have F756 := (F562.keep K730 (ninS (Nat.ne_of_gt lt569) (ninS (Nat.ne_of_gt lt577) (ninS (Nat.ne_of_gt lt576) (ninS (Nat.ne_of_gt lt575) (ninS (Nat.ne_of_gt lt574) (ninS (Nat.ne_of_gt lt573) (ninS (Nat.ne_of_gt lt572) (ninS (Nat.ne_of_gt lt571) (ninS (Nat.ne_of_gt lt570) nin0))))))))))
  have F757 := (F563.keep K730 (ninS (Nat.ne_of_gt lt569) (ninS (Nat.ne_of_gt lt577) (ninS (Nat.ne_of_gt lt576) (ninS (Nat.ne_of_gt lt575) (ninS (Nat.ne_of_gt lt574) (ninS (Nat.ne_of_gt lt573) (ninS (Nat.ne_of_gt lt572) (ninS (Nat.ne_of_gt lt571) (ninS (Nat.ne_of_gt lt570) nin0))))))))))
  have F758 := (F564.keep K730 (ninS (Nat.ne_of_gt lt569) (ninS (Nat.ne_of_gt lt577) (ninS (Nat.ne_of_gt lt576) (ninS (Nat.ne_of_gt lt575) (ninS (Nat.ne_of_gt lt574) (ninS (Nat.ne_of_gt lt573) (ninS (Nat.ne_of_gt lt572) (ninS (Nat.ne_of_gt lt571) (ninS (Nat.ne_of_gt lt570) nin0))))))))))
  have F759 := (F565.keep K730 (ninS (Nat.ne_of_gt lt569) (ninS (Nat.ne_of_gt lt577) (ninS (Nat.ne_of_gt lt576) (ninS (Nat.ne_of_gt lt575) (ninS (Nat.ne_of_gt lt574) (ninS (Nat.ne_of_gt lt573) (ninS (Nat.ne_of_gt lt572) (ninS (Nat.ne_of_gt lt571) (ninS (Nat.ne_of_gt lt570) nin0))))))))))
  have F760 := (F566.keep K730 (ninS (Nat.ne_of_gt lt569) (ninS (Nat.ne_of_gt lt577) (ninS (Nat.ne_of_gt lt576) (ninS (Nat.ne_of_gt lt575) (ninS (Nat.ne_of_gt lt574) (ninS (Nat.ne_of_gt lt573) (ninS (Nat.ne_of_gt lt572) (ninS (Nat.ne_of_gt lt571) (ninS (Nat.ne_of_gt lt570) nin0))))))))))
  exact own_ret0 X730 hx hlk hret (hb hby d7_28) e730 ⟨a558, rfl, N730', (((Keep.refl _ _).trans K557 all0).trans K730 (allS (Or.inl (by simp)) (allS (Or.inl (by simp)) (allS (Or.inl (by simp)) (allS (Or.inl (by simp)) (allS (Or.inl (by simp)) (allS (Or.inl (by simp)) (allS (Or.inl (by simp)) (allS (Or.inl (by simp)) (allS (Or.inl (by simp)) all0)))))))))), ge580, F731, F732, F733, F734, F735, F736, F737, F738, F739, F740, F741, F742, F743, F744, F745, F746, F747, F748, F749, F750, F751, F752, F754, F755, F756, F757, F758, F759, F760⟩ (by decide) (by decide)
theorem own_pd5 : parseMethodDescriptor "(DDLcom/example/rankline/rankline/Extent;J)V" = some ⟨[.double, .double, (.object "com/example/rankline/rankline/Extent"), .long], none⟩ := by decide +kernel
def own_s2_Q (Z : State) (a33 : Addr) (f386 : UInt64) (a267 : Addr) (a268 : Addr) (a269 : Addr) (a270 : Addr) (a271 : Addr) (a272 : Addr) (a273 : Addr) (a274 : Addr) (h0 : Heap) (n0 : Nat) (v_ : Option Value) (h_ : Heap) (L_ : List Loc) : Prop := (fun v h L => ∃ (a763 : Addr), v = none ∧ Fr n0 L ∧ Keep h0 h [a33, a267, a268, a269, a270, a271, a272, a273, a274] ∧ h0.size ≤ a763 ∧ own_Ary Z h a274 .int ([(.int (-1 : Int32))] ++ own_rI 15) ∧ own_Ary Z h a273 .int ([(.int (-1 : Int32))] ++ own_rI 15) ∧ own_Ary Z h a272 .long (own_rJ 16) ∧ own_Ary Z h a271 .boolean (own_rI 16) ∧ own_Ary Z h a270 (.object own_k1) ([(.ref a763)] ++ own_rN 15) ∧ own_Ary Z h a269 .boolean (own_rI 16) ∧ own_Ary Z h a268 .double ([(.double f386)] ++ own_rD 15) ∧ own_Ary Z h a267 .double ([(.double (4621819117588971520 : UInt64))] ++ own_rD 15) ∧ Fld Z h a33 own_k0 "thresholds" "[D" (.ref a267) ∧ Fld Z h a33 own_k0 "ranks" "[D" (.ref a268) ∧ Fld Z h a33 own_k0 "guarded" "[Z" (.ref a269) ∧ Fld Z h a33 own_k0 "extents" own_k4 (.ref a270) ∧ Fld Z h a33 own_k0 "addedAtThreshold" "[Z" (.ref a271) ∧ Fld Z h a33 own_k0 "copies" "[J" (.ref a272) ∧ Fld Z h a33 own_k0 "nextOf" "[I" (.ref a273) ∧ Fld Z h a33 own_k0 "previousOf" "[I" (.ref a274) ∧ Fld Z h a33 own_k0 "first" "I" (.int (0 : Int32)) ∧ Fld Z h a33 own_k0 "last" "I" (.int (0 : Int32)) ∧ Fld Z h a33 own_k0 "free" "I" (.int (-1 : Int32)) ∧ Fld Z h a33 own_k0 "smallestMagnitude" "D" (.double (9218868437227405312 : UInt64)) ∧ Fld Z h a33 own_k0 "size" "I" (.int (1 : Int32)) ∧ Fld Z h a33 own_k0 "used" "I" (.int (1 : Int32)) ∧ Exa Z h a763 own_k1 ∧ Fld Z h a763 own_k1 "low" "D" (.double (4621819117588971520 : UInt64)) ∧ Fld Z h a763 own_k1 "gapLow" "D" (.double (4621819117588971520 : UInt64)) ∧ Fld Z h a763 own_k1 "gapHigh" "D" (.double (4621819117588971520 : UInt64)) ∧ Fld Z h a763 own_k1 "high" "D" (.double (4621819117588971520 : UInt64)) ∧ Fld Z h a763 own_k1 "below" "D" (.double f386) ∧ Fld Z h a763 own_k1 "count" "D" (.double f386)) v_ h_ L_
set_option maxRecDepth 65536 in
set_option maxHeartbeats 40000000 in
theorem own_s2 (l : Launch) (Z : State) (a0 : Array Value) (hw : ∀ d ∈ tables_1, d.before a0 Z = true) (wds : List Jvm.Cond) (a33 : Addr) (f386 : UInt64) (a267 : Addr) (a268 : Addr) (a269 : Addr) (a270 : Addr) (a271 : Addr) (a272 : Addr) (a273 : Addr) (a274 : Addr) (h0 : Heap) (n0 : Nat) (Z0 : n0 ≤ h0.size) (H3 : Exa Z h0 a33 own_k0) (H4 : Fld Z h0 a33 own_k0 "thresholds" "[D" (.ref a267)) (H5 : Fld Z h0 a33 own_k0 "ranks" "[D" (.ref a268)) (H6 : Fld Z h0 a33 own_k0 "guarded" "[Z" (.ref a269)) (H7 : Fld Z h0 a33 own_k0 "extents" own_k4 (.ref a270)) (H8 : Fld Z h0 a33 own_k0 "addedAtThreshold" "[Z" (.ref a271)) (H9 : Fld Z h0 a33 own_k0 "copies" "[J" (.ref a272)) (H10 : Fld Z h0 a33 own_k0 "nextOf" "[I" (.ref a273)) (H11 : Fld Z h0 a33 own_k0 "previousOf" "[I" (.ref a274)) (H12 : Fld Z h0 a33 own_k0 "first" "I" (.int (-1 : Int32))) (H13 : Fld Z h0 a33 own_k0 "last" "I" (.int (-1 : Int32))) (H14 : Fld Z h0 a33 own_k0 "free" "I" (.int (-1 : Int32))) (H15 : Fld Z h0 a33 own_k0 "smallestMagnitude" "D" (.double (9218868437227405312 : UInt64))) (H16 : Fld Z h0 a33 own_k0 "size" "I" (.int (0 : Int32))) (H17 : Fld Z h0 a33 own_k0 "used" "I" (.int (0 : Int32))) (H18 : own_Ary Z h0 a274 .int (own_rI 16)) (H20 : own_Ary Z h0 a273 .int (own_rI 16)) (H22 : own_Ary Z h0 a272 .long (own_rJ 16)) (H24 : own_Ary Z h0 a271 .boolean (own_rI 16)) (H26 : own_Ary Z h0 a270 (.object own_k1) (own_rN 16)) (H28 : own_Ovr Z h0 a270 own_k1) (H29 : own_Ary Z h0 a269 .boolean (own_rI 16)) (H31 : own_Ary Z h0 a268 .double (own_rD 16)) (H33 : own_Ary Z h0 a267 .double (own_rD 16)) (H44 : a33 < a267) (H45 : a33 < a268) (H46 : a33 < a269) (H47 : a33 < a270) (H48 : a33 < a271) (H49 : a33 < a272) (H50 : a33 < a273) (H51 : a33 < a274) (H52 : n0 ≤ a33) (H53 : a267 < a268) (H54 : a267 < a269) (H55 : a267 < a270) (H56 : a267 < a271) (H57 : a267 < a272) (H58 : a267 < a273) (H59 : a267 < a274) (H60 : n0 ≤ a267) (H61 : a268 < a269) (H62 : a268 < a270) (H63 : a268 < a271) (H64 : a268 < a272) (H65 : a268 < a273) (H66 : a268 < a274) (H67 : n0 ≤ a268) (H68 : a269 < a270) (H69 : a269 < a271) (H70 : a269 < a272) (H71 : a269 < a273) (H72 : a269 < a274) (H73 : n0 ≤ a269) (H74 : a270 < a271) (H75 : a270 < a272) (H76 : a270 < a273) (H77 : a270 < a274) (H78 : n0 ≤ a270) (H79 : a271 < a272) (H80 : a271 < a273) (H81 : a271 < a274) (H82 : n0 ≤ a271) (H83 : a272 < a273) (H84 : a272 < a274) (H85 : n0 ≤ a272) (H86 : a273 < a274) (H87 : n0 ≤ a273) (H88 : n0 ≤ a274) :
    MetFree l (⟨own_k0, "append", "(DD)V"⟩ : MethodName) (head1 (Jvm.Cond.code (⟨own_k0, "append", "(DD)V"⟩ : MethodName) prog_5_method_12_code 7 none :: wds) ({ frames := 5, cells := 2, slots := 12, locals := 91 } : Room)) (fun ar_ U_ => ar_ = #[(.ref a33), (.double (4621819117588971520 : UInt64)), (.double f386)] ∧ Z.Warmed39 U_.vm ∧ U_.heap = h0) (fun _ _ _ _ _ => True) (fun _ U_ o_ V_ => ∃ v_ L_, o_ = .returned v_ ∧ own_s2_Q Z a33 f386 a267 a268 a269 a270 a271 a272 a273 a274 h0 n0 v_ V_.heap L_ ∧ FrameEnd U_ o_ V_ L_ ({ frames := 5, cells := 2, slots := 12, locals := 91 } : Room).cells ({ frames := 5, cells := 2, slots := 12, locals := 91 } : Room).slots) := by
  refine own_met (y := ⟨own_k0, "append", "(DD)V"⟩) (Q := own_s2_Q Z a33 f386 a267 a268 a269 a270 a271 a272 a273 a274 h0 n0) own_pn1 ?_
  intro p e s m below meth c s₁ hx hby hml hZ hown hnm hret hlk X0 e0
  have N0 := Fr.nil n0
  refine own_cast (g' := (mkF m 0 #[.val (.ref a33), .val (.double (4621819117588971520 : UInt64)), .second, .val (.double f386), .second, .unset, .unset] [])) (by first | (simp [entryFrame, mkF, argsToLocals, Value.category]; done) | rfl) ?_
  generalize hL387 : (#[.val (.ref a33), .val (.double (4621819117588971520 : UInt64)), .second, .val (.double f386), .second, .unset, .unset] : Array Slot) = L387
  refine own_alN (w := (.ref a33)) X0 hx (hb hby d3_0) (by rw [← hL387]; rfl) rfl ?_
  refine own_getf X0 hx hZ hown (own_w hw 48 rfl) e0 H16 (hb hby d3_1) ?_
  intro T390 X390 e390
  show own_Go _ _ _ _ _ _ _ T390 (mkF m 4 L387 [(.int (0 : Int32))])
  refine own_pre (g' := (mkF m 7 L387 [])) (fun t k => XS.ifNo X390.here hx rfl (hb hby d3_4) rfl (by decide) k) ?_
  refine own_dlN (w := (4621819117588971520 : UInt64)) X390 hx (hb hby d3_7) (by rw [← hL387]; rfl) ?_
  refine own_gt X390 hx 20 (hb hby d3_8) (by decide) (by decide) ?_
  refine own_pre (g' := (mkF m 22 #[.val (.ref a33), .val (.double (4621819117588971520 : UInt64)), .second, .val (.double f386), .second, .val (.double (4621819117588971520 : UInt64)), .second] [])) (fun t k => XS.dstore X390.here hx rfl (hb hby d3_20) rfl (l' := #[.val (.ref a33), .val (.double (4621819117588971520 : UInt64)), .second, .val (.double f386), .second, .val (.double (4621819117588971520 : UInt64)), .second]) (by rw [← hL387]; rfl) k) ?_
  generalize hL391 : (#[.val (.ref a33), .val (.double (4621819117588971520 : UInt64)), .second, .val (.double f386), .second, .val (.double (4621819117588971520 : UInt64)), .second] : Array Slot) = L391
  refine own_alN (w := (.ref a33)) X390 hx (hb hby d3_22) (by rw [← hL391]; rfl) rfl ?_
  refine own_dlN (w := (4621819117588971520 : UInt64)) X390 hx (hb hby d3_23) (by rw [← hL391]; rfl) ?_
  refine own_dlN (w := f386) X390 hx (hb hby d3_24) (by rw [← hL391]; rfl) ?_
  refine own_dl (w := (4621819117588971520 : UInt64)) X390 hx (hb hby d3_25) (by rw [← hL391]; rfl) ?_
  refine own_dlN (w := (4621819117588971520 : UInt64)) X390 hx (hb hby d3_27) (by rw [← hL391]; rfl) ?_
  refine own_alN (w := (.ref a33)) X390 hx (hb hby d3_28) (by rw [← hL391]; rfl) rfl ?_
  refine own_getf X390 hx hZ hown (own_w hw 48 rfl) e390 H16 (hb hby d3_29) ?_
  intro T392 X392 e392
  show own_Go _ _ _ _ _ _ _ T392 (mkF m 32 L391 [(.int (0 : Int32)), (.double (4621819117588971520 : UInt64)), (.double (4621819117588971520 : UInt64)), (.double f386), (.double (4621819117588971520 : UInt64)), (.ref a33)])
  refine own_pre (g' := (mkF m 35 L391 [(.double (4621819117588971520 : UInt64)), (.double (4621819117588971520 : UInt64)), (.double f386), (.double (4621819117588971520 : UInt64)), (.ref a33)])) (fun t k => XS.ifNo X392.here hx rfl (hb hby d3_32) rfl (by decide) k) ?_
  refine own_dlN (w := f386) X392 hx (hb hby d3_35) (by rw [← hL391]; rfl) ?_
  refine own_gt X392 hx 50 (hb hby d3_36) (by decide) (by decide) ?_
  refine own_calls (argsL := [(.double (4621819117588971520 : UInt64)), (.double (4621819117588971520 : UInt64)), (.double f386)]) (rest := [(.double f386), (.double (4621819117588971520 : UInt64)), (.ref a33)]) X392 hx hZ hown (own_s3 l Z a0 hw [] f386 h0 n0 Z0 ) (own_w hw 50 rfl) (own_w hw 51 rfl) (own_w hw 53 rfl) (own_w hw 52 rfl) (by decide) e392 (hb hby d3_50) (by rw [hml, ← hL391]; rfl) rfl (lenOf own_pd2 rfl) (by decide) (W := 5) (Nat.le_of_eq rfl) (by decide) (by decide) (by decide) ?_
  intro v446 T446 lo446 X446 Q446
  obtain ⟨h446, e446⟩ : ∃ h, T446.heap = h := ⟨_, rfl⟩
  rw [e446] at Q446
  obtain ⟨a447, rfl, N446, K446, ge448, F449, F450, F451, F452, F453, F454, F455⟩ := Q446
  have N446' := Fr.app N0 N446
  show own_Go _ _ _ _ _ _ _ T446 (mkF m 53 L391 [(.ref a447), (.double f386), (.double (4621819117588971520 : UInt64)), (.ref a33)])
  refine own_pre (g' := (mkF m 54 L391 [(.long (0 : Int64)), (.ref a447), (.double f386), (.double (4621819117588971520 : UInt64)), (.ref a33)])) (fun t k => XT.lconst X446.here hx rfl (hb hby d3_53) k) ?_
  have F471 := (H3.keep K446)
  have F472 := (H4.keep K446 nin0)
  have F473 := (H5.keep K446 nin0)
  have F474 := (H6.keep K446 nin0)
  have F475 := (H7.keep K446 nin0)
  have F476 := (H8.keep K446 nin0)
  have F477 := (H9.keep K446 nin0)
  have F478 := (H10.keep K446 nin0)
  have F479 := (H11.keep K446 nin0)
  have F480 := (H12.keep K446 nin0)
  have F481 := (H13.keep K446 nin0)
  have F482 := (H14.keep K446 nin0)
  have F483 := (H15.keep K446 nin0)
  have F484 := (H16.keep K446 nin0)
  have F485 := (H17.keep K446 nin0)
  have F486 := (H18.keep K446 nin0)
  have F488 := (H20.keep K446 nin0)
  have F490 := (H22.keep K446 nin0)
  have F492 := (H24.keep K446 nin0)
  have F494 := (H26.keep K446 nin0)
  have F496 := (H28.keep K446)
  have F497 := (H29.keep K446 nin0)
  have F499 := (H31.keep K446 nin0)
  have F501 := (H33.keep K446 nin0)
  have F761 : n0 ≤ h446.size := (Nat.le_trans Z0 K446.1)
  refine own_callv (a := a33) (argsL := [(.double (4621819117588971520 : UInt64)), (.double f386), (.ref a447), (.long (0 : Int64))]) (rest := []) X446 hx hZ hown (own_s6 l Z a0 hw [] a33 f386 a447 a267 a268 a269 a270 a271 a272 a273 a274 h446 n0 F761 F471 F472 F473 F474 F475 F476 F477 F478 F479 F480 F481 F482 F483 F484 F485 F486 F488 F490 F492 F494 F496 F497 F499 F501 H51 H50 H49 H48 H47 H46 H45 H44 H52 H86 H84 H81 H77 H72 H66 H59 H88 H83 H80 H76 H71 H65 H58 H87 H79 H75 H70 H64 H57 H85 H74 H69 H63 H56 H82 H68 H62 H55 H78 H61 H54 H73 H53 H67 H60) F471 (own_w hw 77 rfl) (own_w hw 78 rfl) (own_w hw 80 rfl) (own_w hw 79 rfl) (own_w hw 81 rfl) (own_w hw 6 rfl) (by decide) e446 (hb hby d3_54) (by rw [hml, ← hL391]; rfl) rfl (lenOf own_pd5 rfl) (by decide) (W := 0) (Nat.le_of_eq rfl) (by decide) (by decide) (by decide) ?_
  intro v762 T762 lo762 X762 Q762
  obtain ⟨h762, e762⟩ : ∃ h, T762.heap = h := ⟨_, rfl⟩
  rw [e762] at Q762
  have F794 : h0.size ≤ h446.size := (Nat.le_trans (Nat.le_refl _) K446.1)
  obtain ⟨a763, rfl, N762, K762, ge764, F765, F766, F767, F768, F769, F770, F771, F772, F773, F774, F775, F776, F777, F778, F779, F780, F781, F782, F783, F784, F785, F786, F787, F788, F789, F790, F791, F792, F793⟩ := Q762
  have N762' := Fr.app N446' N762
  show own_Go _ _ _ _ _ _ _ T762 (mkF m 57 L391 [])
  have ge808 : h0.size ≤ a763 := Nat.le_trans F794 ge764
  exact own_ret0 X762 hx hlk hret (hb hby d3_57) e762 ⟨a763, rfl, N762', (((Keep.refl _ _).trans K446 all0).trans K762 (allS (Or.inl (by simp)) (allS (Or.inl (by simp)) (allS (Or.inl (by simp)) (allS (Or.inl (by simp)) (allS (Or.inl (by simp)) (allS (Or.inl (by simp)) (allS (Or.inl (by simp)) (allS (Or.inl (by simp)) (allS (Or.inl (by simp)) all0)))))))))), ge808, F765, F766, F767, F768, F769, F770, F771, F772, F773, F774, F775, F776, F777, F778, F779, F780, F781, F782, F783, F784, F785, F786, F787, F788, F789, F790, F791, F792, F793⟩ (by decide) (by decide)
theorem own_pd6 : parseMethodDescriptor "(DD)V" = some ⟨[.double, .double], none⟩ := by decide +kernel
def own_s15_Q (Z : State) (a880 : Addr) (h0 : Heap) (n0 : Nat) (v_ : Option Value) (h_ : Heap) (L_ : List Loc) : Prop := (fun v h L => v = none ∧ Fr n0 L ∧ h = h0) v_ h_ L_
set_option maxRecDepth 65536 in
set_option maxHeartbeats 40000000 in
theorem own_s15 (l : Launch) (Z : State) (a0 : Array Value) (hw : ∀ d ∈ tables_1, d.before a0 Z = true) (wds : List Jvm.Cond) (a880 : Addr) (h0 : Heap) (n0 : Nat) (Z0 : n0 ≤ h0.size)  :
    MetFree l (⟨"java/lang/Record", "<init>", "()V"⟩ : MethodName) (head1 (Jvm.Cond.code (⟨"java/lang/Record", "<init>", "()V"⟩ : MethodName) jdk_30_method_1_code 1 none :: wds) ({ frames := 1, cells := 0, slots := 0, locals := 12 } : Room)) (fun ar_ U_ => ar_ = #[(.ref a880)] ∧ Z.Warmed39 U_.vm ∧ U_.heap = h0) (fun _ _ _ _ _ => True) (fun _ U_ o_ V_ => ∃ v_ L_, o_ = .returned v_ ∧ own_s15_Q Z a880 h0 n0 v_ V_.heap L_ ∧ FrameEnd U_ o_ V_ L_ ({ frames := 1, cells := 0, slots := 0, locals := 12 } : Room).cells ({ frames := 1, cells := 0, slots := 0, locals := 12 } : Room).slots) := by
  refine own_met (y := ⟨"java/lang/Record", "<init>", "()V"⟩) (Q := own_s15_Q Z a880 h0 n0) own_pn3 ?_
  intro p e s m below meth c s₁ hx hby hml hZ hown hnm hret hlk X0 e0
  have N0 := Fr.nil n0
  refine own_cast (g' := (mkF m 0 #[.val (.ref a880)] [])) (by first | (simp [entryFrame, mkF, argsToLocals, Value.category]; done) | rfl) ?_
  refine own_alN (w := (.ref a880)) X0 hx (hb hby d6_0) rfl rfl ?_
  refine own_init0 X0 hx hZ hown (own_w hw 64 rfl) (own_w hw 11 rfl) (own_w hw 12 rfl) e0 (hb hby d6_1) (by rw [hml]; rfl) (by decide) (W := 0) (Nat.le_of_eq rfl) (by decide) ?_
  intro T893 X893 e893
  show own_Go _ _ _ _ _ _ _ T893 (mkF m 4 #[.val (.ref a880)] [])
  exact own_ret0 X893 hx hlk hret (hb hby d6_4) e893 ⟨rfl, N0, rfl⟩ (by decide) (by decide)
def own_s14_Q (Z : State) (a880 : Addr) (f878 : UInt64) (h0 : Heap) (n0 : Nat) (v_ : Option Value) (h_ : Heap) (L_ : List Loc) : Prop := (fun v h L => v = none ∧ Fr n0 L ∧ Keep h0 h [a880] ∧ Fld Z h a880 own_k1 "low" "D" (.double (4621819117588971520 : UInt64)) ∧ Fld Z h a880 own_k1 "gapLow" "D" (.double (4626322717216342016 : UInt64)) ∧ Fld Z h a880 own_k1 "gapHigh" "D" (.double (4626322717216342016 : UInt64)) ∧ Fld Z h a880 own_k1 "high" "D" (.double (4626322717216342016 : UInt64)) ∧ Fld Z h a880 own_k1 "below" "D" (.double f878) ∧ Fld Z h a880 own_k1 "count" "D" (.double f878)) v_ h_ L_
set_option maxRecDepth 65536 in
set_option maxHeartbeats 40000000 in
theorem own_s14 (l : Launch) (Z : State) (a0 : Array Value) (hw : ∀ d ∈ tables_1, d.before a0 Z = true) (wds : List Jvm.Cond) (a880 : Addr) (f878 : UInt64) (h0 : Heap) (n0 : Nat) (Z0 : n0 ≤ h0.size) (H3 : Exa Z h0 a880 own_k1) (H4 : Fld Z h0 a880 own_k1 "low" "D" (.double (0 : UInt64))) (H5 : Fld Z h0 a880 own_k1 "gapLow" "D" (.double (0 : UInt64))) (H6 : Fld Z h0 a880 own_k1 "gapHigh" "D" (.double (0 : UInt64))) (H7 : Fld Z h0 a880 own_k1 "high" "D" (.double (0 : UInt64))) (H8 : Fld Z h0 a880 own_k1 "below" "D" (.double (0 : UInt64))) (H9 : Fld Z h0 a880 own_k1 "count" "D" (.double (0 : UInt64))) (H11 : n0 ≤ a880) :
    MetFree l (⟨own_k1, "<init>", "(DDDDDD)V"⟩ : MethodName) (head1 (Jvm.Cond.code (⟨own_k1, "<init>", "(DDDDDD)V"⟩ : MethodName) prog_17_method_1_code 13 none :: wds) ({ frames := 2, cells := 0, slots := 0, locals := 24 } : Room)) (fun ar_ U_ => ar_ = #[(.ref a880), (.double (4621819117588971520 : UInt64)), (.double (4626322717216342016 : UInt64)), (.double (4626322717216342016 : UInt64)), (.double (4626322717216342016 : UInt64)), (.double f878), (.double f878)] ∧ Z.Warmed39 U_.vm ∧ U_.heap = h0) (fun _ _ _ _ _ => True) (fun _ U_ o_ V_ => ∃ v_ L_, o_ = .returned v_ ∧ own_s14_Q Z a880 f878 h0 n0 v_ V_.heap L_ ∧ FrameEnd U_ o_ V_ L_ ({ frames := 2, cells := 0, slots := 0, locals := 24 } : Room).cells ({ frames := 2, cells := 0, slots := 0, locals := 24 } : Room).slots) := by
  refine own_met (y := ⟨own_k1, "<init>", "(DDDDDD)V"⟩) (Q := own_s14_Q Z a880 f878 h0 n0) own_pn2 ?_
  intro p e s m below meth c s₁ hx hby hml hZ hown hnm hret hlk X0 e0
  have N0 := Fr.nil n0
  refine own_cast (g' := (mkF m 0 #[.val (.ref a880), .val (.double (4621819117588971520 : UInt64)), .second, .val (.double (4626322717216342016 : UInt64)), .second, .val (.double (4626322717216342016 : UInt64)), .second, .val (.double (4626322717216342016 : UInt64)), .second, .val (.double f878), .second, .val (.double f878), .second] [])) (by first | (simp [entryFrame, mkF, argsToLocals, Value.category]; done) | rfl) ?_
  generalize hL890 : (#[.val (.ref a880), .val (.double (4621819117588971520 : UInt64)), .second, .val (.double (4626322717216342016 : UInt64)), .second, .val (.double (4626322717216342016 : UInt64)), .second, .val (.double (4626322717216342016 : UInt64)), .second, .val (.double f878), .second, .val (.double f878), .second] : Array Slot) = L890
  refine own_alN (w := (.ref a880)) X0 hx (hb hby d5_0) (by rw [← hL890]; rfl) rfl ?_
  refine own_init (a := a880) (argsL := []) (rest := []) X0 hx hZ hown (own_s15 l Z a0 hw [] a880 h0 n0 Z0 ) rfl (own_w hw 59 rfl) (own_w hw 60 rfl) (own_w hw 63 rfl) (own_w hw 62 rfl) (by decide) e0 (hb hby d5_1) (by rw [hml, ← hL890]; rfl) rfl (lenOf own_pd0 rfl) (by decide) (W := 0) (Nat.le_of_eq rfl) (by decide) (by decide) (by decide) ?_
  intro v894 T894 lo894 X894 Q894
  obtain ⟨h894, e894⟩ : ∃ h, T894.heap = h := ⟨_, rfl⟩
  rw [e894] at Q894
  obtain ⟨rfl, N894, K894⟩ := Q894
  have N894' := Fr.app N0 N894
  have e894' : T894.heap = h0 := e894.trans K894
  show own_Go _ _ _ _ _ _ _ T894 (mkF m 4 L890 [])
  refine own_alN (w := (.ref a880)) X894 hx (hb hby d5_4) (by rw [← hL890]; rfl) rfl ?_
  refine own_dlN (w := (4621819117588971520 : UInt64)) X894 hx (hb hby d5_5) (by rw [← hL890]; rfl) ?_
  refine own_putf X894 hx hZ hown (own_w hw 65 rfl) e894' N894' H11 H4 H3 (Or.inr ⟨(own_w hw 66 rfl), rfl, hnm⟩) (own_w hw 55 rfl) (ty := .double) (by decide) rfl rfl (hb hby d5_6) ?_
  intro T895 h895 lo895 X895 e895 N895 W895
  have F896 := H4.same W895
  show own_Go _ _ _ _ _ _ _ T895 (mkF m 9 L890 [])
  refine own_alN (w := (.ref a880)) X895 hx (hb hby d5_9) (by rw [← hL890]; rfl) rfl ?_
  refine own_dlN (w := (4626322717216342016 : UInt64)) X895 hx (hb hby d5_10) (by rw [← hL890]; rfl) ?_
  have F897 := (H5.other W895 (Or.inr (own_sne (own_f14 hw) (own_f15 hw) (by decide))))
  have F898 := (H3.wr W895)
  refine own_putf X895 hx hZ hown (own_w hw 67 rfl) e895 N895 H11 F897 F898 (Or.inr ⟨(own_w hw 68 rfl), rfl, hnm⟩) (own_w hw 55 rfl) (ty := .double) (by decide) rfl rfl (hb hby d5_11) ?_
  intro T899 h899 lo899 X899 e899 N899 W899
  have F900 := F897.same W899
  show own_Go _ _ _ _ _ _ _ T899 (mkF m 14 L890 [])
  refine own_alN (w := (.ref a880)) X899 hx (hb hby d5_14) (by rw [← hL890]; rfl) rfl ?_
  refine own_dl (w := (4626322717216342016 : UInt64)) X899 hx (hb hby d5_15) (by rw [← hL890]; rfl) ?_
  have F901 := ((H6.other W895 (Or.inr (own_sne (own_f16 hw) (own_f15 hw) (by decide)))).other W899 (Or.inr (own_sne (own_f16 hw) (own_f14 hw) (by decide))))
  have F902 := (F898.wr W899)
  refine own_putf X899 hx hZ hown (own_w hw 69 rfl) e899 N899 H11 F901 F902 (Or.inr ⟨(own_w hw 70 rfl), rfl, hnm⟩) (own_w hw 55 rfl) (ty := .double) (by decide) rfl rfl (hb hby d5_17) ?_
  intro T903 h903 lo903 X903 e903 N903 W903
  have F904 := F901.same W903
  show own_Go _ _ _ _ _ _ _ T903 (mkF m 20 L890 [])
  refine own_alN (w := (.ref a880)) X903 hx (hb hby d5_20) (by rw [← hL890]; rfl) rfl ?_
  refine own_dl (w := (4626322717216342016 : UInt64)) X903 hx (hb hby d5_21) (by rw [← hL890]; rfl) ?_
  have F905 := (((H7.other W895 (Or.inr (own_sne (own_f17 hw) (own_f15 hw) (by decide)))).other W899 (Or.inr (own_sne (own_f17 hw) (own_f14 hw) (by decide)))).other W903 (Or.inr (own_sne (own_f17 hw) (own_f16 hw) (by decide))))
  have F906 := (F902.wr W903)
  refine own_putf X903 hx hZ hown (own_w hw 71 rfl) e903 N903 H11 F905 F906 (Or.inr ⟨(own_w hw 72 rfl), rfl, hnm⟩) (own_w hw 55 rfl) (ty := .double) (by decide) rfl rfl (hb hby d5_23) ?_
  intro T907 h907 lo907 X907 e907 N907 W907
  have F908 := F905.same W907
  show own_Go _ _ _ _ _ _ _ T907 (mkF m 26 L890 [])
  refine own_alN (w := (.ref a880)) X907 hx (hb hby d5_26) (by rw [← hL890]; rfl) rfl ?_
  refine own_dl (w := f878) X907 hx (hb hby d5_27) (by rw [← hL890]; rfl) ?_
  have F909 := ((((H8.other W895 (Or.inr (own_sne (own_f18 hw) (own_f15 hw) (by decide)))).other W899 (Or.inr (own_sne (own_f18 hw) (own_f14 hw) (by decide)))).other W903 (Or.inr (own_sne (own_f18 hw) (own_f16 hw) (by decide)))).other W907 (Or.inr (own_sne (own_f18 hw) (own_f17 hw) (by decide))))
  have F910 := (F906.wr W907)
  refine own_putf X907 hx hZ hown (own_w hw 73 rfl) e907 N907 H11 F909 F910 (Or.inr ⟨(own_w hw 74 rfl), rfl, hnm⟩) (own_w hw 55 rfl) (ty := .double) (by decide) rfl rfl (hb hby d5_29) ?_
  intro T911 h911 lo911 X911 e911 N911 W911
  have F912 := F909.same W911
  show own_Go _ _ _ _ _ _ _ T911 (mkF m 32 L890 [])
  refine own_alN (w := (.ref a880)) X911 hx (hb hby d5_32) (by rw [← hL890]; rfl) rfl ?_
  refine own_dl (w := f878) X911 hx (hb hby d5_33) (by rw [← hL890]; rfl) ?_
  have F913 := (((((H9.other W895 (Or.inr (own_sne (own_f19 hw) (own_f15 hw) (by decide)))).other W899 (Or.inr (own_sne (own_f19 hw) (own_f14 hw) (by decide)))).other W903 (Or.inr (own_sne (own_f19 hw) (own_f16 hw) (by decide)))).other W907 (Or.inr (own_sne (own_f19 hw) (own_f17 hw) (by decide)))).other W911 (Or.inr (own_sne (own_f19 hw) (own_f18 hw) (by decide))))
  have F914 := (F910.wr W911)
  refine own_putf X911 hx hZ hown (own_w hw 75 rfl) e911 N911 H11 F913 F914 (Or.inr ⟨(own_w hw 76 rfl), rfl, hnm⟩) (own_w hw 55 rfl) (ty := .double) (by decide) rfl rfl (hb hby d5_35) ?_
  intro T915 h915 lo915 X915 e915 N915 W915
  have F916 := F913.same W915
  show own_Go _ _ _ _ _ _ _ T915 (mkF m 38 L890 [])
  have F917 := (((((F896.other W899 (Or.inr (own_sne (own_f15 hw) (own_f14 hw) (by decide)))).other W903 (Or.inr (own_sne (own_f15 hw) (own_f16 hw) (by decide)))).other W907 (Or.inr (own_sne (own_f15 hw) (own_f17 hw) (by decide)))).other W911 (Or.inr (own_sne (own_f15 hw) (own_f18 hw) (by decide)))).other W915 (Or.inr (own_sne (own_f15 hw) (own_f19 hw) (by decide))))
  have F918 := ((((F900.other W903 (Or.inr (own_sne (own_f14 hw) (own_f16 hw) (by decide)))).other W907 (Or.inr (own_sne (own_f14 hw) (own_f17 hw) (by decide)))).other W911 (Or.inr (own_sne (own_f14 hw) (own_f18 hw) (by decide)))).other W915 (Or.inr (own_sne (own_f14 hw) (own_f19 hw) (by decide))))
  have F919 := (((F904.other W907 (Or.inr (own_sne (own_f16 hw) (own_f17 hw) (by decide)))).other W911 (Or.inr (own_sne (own_f16 hw) (own_f18 hw) (by decide)))).other W915 (Or.inr (own_sne (own_f16 hw) (own_f19 hw) (by decide))))
  have F920 := ((F908.other W911 (Or.inr (own_sne (own_f17 hw) (own_f18 hw) (by decide)))).other W915 (Or.inr (own_sne (own_f17 hw) (own_f19 hw) (by decide))))
  have F921 := (F912.other W915 (Or.inr (own_sne (own_f18 hw) (own_f19 hw) (by decide))))
  exact own_ret0 X915 hx hlk hret (hb hby d5_38) e915 ⟨rfl, N915, (((((((Keep.refl _ _).wr W895 (Or.inl (by simp))).wr W899 (Or.inl (by simp))).wr W903 (Or.inl (by simp))).wr W907 (Or.inl (by simp))).wr W911 (Or.inl (by simp))).wr W915 (Or.inl (by simp))), F917, F918, F919, F920, F921, F916⟩ (by decide) (by decide)
def own_s13_Q (Z : State) (f878 : UInt64) (h0 : Heap) (n0 : Nat) (v_ : Option Value) (h_ : Heap) (L_ : List Loc) : Prop := (fun v h L => ∃ (a880 : Addr), v = some (.ref a880) ∧ Fr n0 L ∧ Keep h0 h [] ∧ h0.size ≤ a880 ∧ Exa Z h a880 own_k1 ∧ Fld Z h a880 own_k1 "low" "D" (.double (4621819117588971520 : UInt64)) ∧ Fld Z h a880 own_k1 "gapLow" "D" (.double (4626322717216342016 : UInt64)) ∧ Fld Z h a880 own_k1 "gapHigh" "D" (.double (4626322717216342016 : UInt64)) ∧ Fld Z h a880 own_k1 "high" "D" (.double (4626322717216342016 : UInt64)) ∧ Fld Z h a880 own_k1 "below" "D" (.double f878) ∧ Fld Z h a880 own_k1 "count" "D" (.double f878)) v_ h_ L_
set_option maxRecDepth 65536 in
set_option maxHeartbeats 40000000 in
theorem own_s13 (l : Launch) (Z : State) (a0 : Array Value) (hw : ∀ d ∈ tables_1, d.before a0 Z = true) (wds : List Jvm.Cond) (f878 : UInt64) (h0 : Heap) (n0 : Nat) (Z0 : n0 ≤ h0.size)  :
    MetFree l (⟨own_k1, "of", own_k5⟩ : MethodName) (head1 (Jvm.Cond.code (⟨own_k1, "of", own_k5⟩ : MethodName) prog_17_method_2_code 6 (some (.object own_k1)) :: wds) ({ frames := 3, cells := 1, slots := 6, locals := 49 } : Room)) (fun ar_ U_ => ar_ = #[(.double (4621819117588971520 : UInt64)), (.double (4626322717216342016 : UInt64)), (.double f878)] ∧ Z.Warmed39 U_.vm ∧ U_.heap = h0) (fun _ _ _ _ _ => True) (fun _ U_ o_ V_ => ∃ v_ L_, o_ = .returned v_ ∧ own_s13_Q Z f878 h0 n0 v_ V_.heap L_ ∧ FrameEnd U_ o_ V_ L_ ({ frames := 3, cells := 1, slots := 6, locals := 49 } : Room).cells ({ frames := 3, cells := 1, slots := 6, locals := 49 } : Room).slots) := by
  refine own_met (y := ⟨own_k1, "of", own_k5⟩) (Q := own_s13_Q Z f878 h0 n0) own_pn2 ?_
  intro p e s m below meth c s₁ hx hby hml hZ hown hnm hret hlk X0 e0
  have N0 := Fr.nil n0
  refine own_cast (g' := (mkF m 0 #[.val (.double (4621819117588971520 : UInt64)), .second, .val (.double (4626322717216342016 : UInt64)), .second, .val (.double f878), .second] [])) (by first | (simp [entryFrame, mkF, argsToLocals, Value.category]; done) | rfl) ?_
  generalize hL879 : (#[.val (.double (4621819117588971520 : UInt64)), .second, .val (.double (4626322717216342016 : UInt64)), .second, .val (.double f878), .second] : Array Slot) = L879
  refine own_newobj X0 hx hZ hown (own_w hw 54 rfl) (own_w hw 55 rfl) (own_w hw 52 rfl) e0 (hb hby d4_0) (by decide) (by decide) ?_
  intro T880 h880 a880 g880 X880 e880 E880 A880 D880
  have ge882 : h0.size ≤ a880 := Nat.le_trans (Nat.le_refl _) (Nat.le_of_eq g880.symm)
  have nw883 : n0 ≤ a880 := Nat.le_trans Z0 (Nat.le_of_eq g880.symm)
  have F884 : Fld Z h880 a880 own_k1 "low" "D" (.double (0 : UInt64)) := D880 (Or.inr (own_w hw 66 rfl)) (ty := .double) (by decide)
  have F885 : Fld Z h880 a880 own_k1 "gapLow" "D" (.double (0 : UInt64)) := D880 (Or.inr (own_w hw 68 rfl)) (ty := .double) (by decide)
  have F886 : Fld Z h880 a880 own_k1 "gapHigh" "D" (.double (0 : UInt64)) := D880 (Or.inr (own_w hw 70 rfl)) (ty := .double) (by decide)
  have F887 : Fld Z h880 a880 own_k1 "high" "D" (.double (0 : UInt64)) := D880 (Or.inr (own_w hw 72 rfl)) (ty := .double) (by decide)
  have F888 : Fld Z h880 a880 own_k1 "below" "D" (.double (0 : UInt64)) := D880 (Or.inr (own_w hw 74 rfl)) (ty := .double) (by decide)
  have F889 : Fld Z h880 a880 own_k1 "count" "D" (.double (0 : UInt64)) := D880 (Or.inr (own_w hw 76 rfl)) (ty := .double) (by decide)
  show own_Go _ _ _ _ _ _ _ T880 (mkF m 3 L879 [(.ref a880)])
  refine own_pre (g' := (mkF m 4 L879 [(.ref a880), (.ref a880)])) (fun t k => XS.dup X880.here hx rfl (hb hby d4_3) rfl rfl k) ?_
  refine own_dlN (w := (4621819117588971520 : UInt64)) X880 hx (hb hby d4_4) (by rw [← hL879]; rfl) ?_
  refine own_dlN (w := (4626322717216342016 : UInt64)) X880 hx (hb hby d4_5) (by rw [← hL879]; rfl) ?_
  refine own_dlN (w := (4626322717216342016 : UInt64)) X880 hx (hb hby d4_6) (by rw [← hL879]; rfl) ?_
  refine own_dlN (w := (4626322717216342016 : UInt64)) X880 hx (hb hby d4_7) (by rw [← hL879]; rfl) ?_
  refine own_dl (w := f878) X880 hx (hb hby d4_8) (by rw [← hL879]; rfl) ?_
  refine own_dl (w := f878) X880 hx (hb hby d4_10) (by rw [← hL879]; rfl) ?_
  have F922 : n0 ≤ h880.size := (Nat.le_trans Z0 E880.1)
  refine own_init (a := a880) (argsL := [(.double (4621819117588971520 : UInt64)), (.double (4626322717216342016 : UInt64)), (.double (4626322717216342016 : UInt64)), (.double (4626322717216342016 : UInt64)), (.double f878), (.double f878)]) (rest := [(.ref a880)]) X880 hx hZ hown (own_s14 l Z a0 hw [] a880 f878 h880 n0 F922 A880 F884 F885 F886 F887 F888 F889 nw883) rfl (own_w hw 56 rfl) (own_w hw 57 rfl) (own_w hw 58 rfl) (own_w hw 52 rfl) (by decide) e880 (hb hby d4_12) (by rw [hml, ← hL879]; rfl) rfl (lenOf own_pd1 rfl) (by decide) (W := 1) (Nat.le_of_eq rfl) (by decide) (by decide) (by decide) ?_
  intro v923 T923 lo923 X923 Q923
  obtain ⟨h923, e923⟩ : ∃ h, T923.heap = h := ⟨_, rfl⟩
  rw [e923] at Q923
  obtain ⟨rfl, N923, K923, F924, F925, F926, F927, F928, F929⟩ := Q923
  have N923' := Fr.app N0 N923
  show own_Go _ _ _ _ _ _ _ T923 (mkF m 15 L879 [(.ref a880)])
  have F931 := (A880.keep K923)
  exact own_retA X923 hx hlk hret rfl rfl rfl (hb hby d4_15) e923 ⟨a880, rfl, N923', (((Keep.refl _ _).ext E880).trans K923 (allS (Or.inr ge882) all0)), ge882, F931, F924, F925, F926, F927, F928, F929⟩ (by decide) (by decide)
def own_s18_Q (Z : State) (a33 : Addr) (a274 : Addr) (a273 : Addr) (a272 : Addr) (a271 : Addr) (a270 : Addr) (a269 : Addr) (a268 : Addr) (a267 : Addr) (h0 : Heap) (n0 : Nat) (v_ : Option Value) (h_ : Heap) (L_ : List Loc) : Prop := (fun v h L => v = some (.int (1 : Int32)) ∧ Fr n0 L ∧ Keep h0 h [a33] ∧ Fld Z h a33 own_k0 "thresholds" "[D" (.ref a267) ∧ Fld Z h a33 own_k0 "ranks" "[D" (.ref a268) ∧ Fld Z h a33 own_k0 "guarded" "[Z" (.ref a269) ∧ Fld Z h a33 own_k0 "extents" own_k4 (.ref a270) ∧ Fld Z h a33 own_k0 "addedAtThreshold" "[Z" (.ref a271) ∧ Fld Z h a33 own_k0 "copies" "[J" (.ref a272) ∧ Fld Z h a33 own_k0 "nextOf" "[I" (.ref a273) ∧ Fld Z h a33 own_k0 "previousOf" "[I" (.ref a274) ∧ Fld Z h a33 own_k0 "first" "I" (.int (0 : Int32)) ∧ Fld Z h a33 own_k0 "last" "I" (.int (0 : Int32)) ∧ Fld Z h a33 own_k0 "free" "I" (.int (-1 : Int32)) ∧ Fld Z h a33 own_k0 "smallestMagnitude" "D" (.double (9218868437227405312 : UInt64)) ∧ Fld Z h a33 own_k0 "size" "I" (.int (1 : Int32)) ∧ Fld Z h a33 own_k0 "used" "I" (.int (2 : Int32))) v_ h_ L_
set_option maxRecDepth 65536 in
set_option maxHeartbeats 40000000 in
theorem own_s18 (l : Launch) (Z : State) (a0 : Array Value) (hw : ∀ d ∈ tables_1, d.before a0 Z = true) (wds : List Jvm.Cond) (a33 : Addr) (a274 : Addr) (a273 : Addr) (a272 : Addr) (a271 : Addr) (a270 : Addr) (a269 : Addr) (a268 : Addr) (a267 : Addr) (h0 : Heap) (n0 : Nat) (Z0 : n0 ≤ h0.size) (H3 : Exa Z h0 a33 own_k0) (H20 : own_Ary Z h0 a267 .double ([(.double (4621819117588971520 : UInt64))] ++ own_rD 15)) (H21 : Fld Z h0 a33 own_k0 "thresholds" "[D" (.ref a267)) (H22 : Fld Z h0 a33 own_k0 "ranks" "[D" (.ref a268)) (H23 : Fld Z h0 a33 own_k0 "guarded" "[Z" (.ref a269)) (H24 : Fld Z h0 a33 own_k0 "extents" own_k4 (.ref a270)) (H25 : Fld Z h0 a33 own_k0 "addedAtThreshold" "[Z" (.ref a271)) (H26 : Fld Z h0 a33 own_k0 "copies" "[J" (.ref a272)) (H27 : Fld Z h0 a33 own_k0 "nextOf" "[I" (.ref a273)) (H28 : Fld Z h0 a33 own_k0 "previousOf" "[I" (.ref a274)) (H29 : Fld Z h0 a33 own_k0 "first" "I" (.int (0 : Int32))) (H30 : Fld Z h0 a33 own_k0 "last" "I" (.int (0 : Int32))) (H31 : Fld Z h0 a33 own_k0 "free" "I" (.int (-1 : Int32))) (H32 : Fld Z h0 a33 own_k0 "smallestMagnitude" "D" (.double (9218868437227405312 : UInt64))) (H33 : Fld Z h0 a33 own_k0 "size" "I" (.int (1 : Int32))) (H34 : Fld Z h0 a33 own_k0 "used" "I" (.int (1 : Int32))) (H61 : n0 ≤ a33) :
    MetFree l (⟨own_k0, "allocate", "()I"⟩ : MethodName) (head1 (Jvm.Cond.code (⟨own_k0, "allocate", "()I"⟩ : MethodName) prog_5_method_56_code 2 (some .int) :: wds) ({ frames := 0, cells := 0, slots := 0, locals := 0 } : Room)) (fun ar_ U_ => ar_ = #[(.ref a33)] ∧ Z.Warmed39 U_.vm ∧ U_.heap = h0) (fun _ _ _ _ _ => True) (fun _ U_ o_ V_ => ∃ v_ L_, o_ = .returned v_ ∧ own_s18_Q Z a33 a274 a273 a272 a271 a270 a269 a268 a267 h0 n0 v_ V_.heap L_ ∧ FrameEnd U_ o_ V_ L_ ({ frames := 0, cells := 0, slots := 0, locals := 0 } : Room).cells ({ frames := 0, cells := 0, slots := 0, locals := 0 } : Room).slots) := by
  refine own_met (y := ⟨own_k0, "allocate", "()I"⟩) (Q := own_s18_Q Z a33 a274 a273 a272 a271 a270 a269 a268 a267 h0 n0) own_pn1 ?_
  intro p e s m below meth c s₁ hx hby hml hZ hown hnm hret hlk X0 e0
  have N0 := Fr.nil n0
  refine own_cast (g' := (mkF m 0 #[.val (.ref a33), .unset] [])) (by first | (simp [entryFrame, mkF, argsToLocals, Value.category]; done) | rfl) ?_
  refine own_alN (w := (.ref a33)) X0 hx (hb hby d9_0) rfl rfl ?_
  refine own_getf X0 hx hZ hown (own_w hw 37 rfl) e0 H31 (hb hby d9_1) ?_
  intro T999 X999 e999
  show own_Go _ _ _ _ _ _ _ T999 (mkF m 4 #[.val (.ref a33), .unset] [(.int (-1 : Int32))])
  refine own_ic X999 hx (-1 : Int32) (hb hby d9_4) rfl ?_
  refine own_pre (g' := (mkF m 25 #[.val (.ref a33), .unset] [])) (fun t k => XS.icmpYes X999.here hx rfl (pc0 := 5) (pc' := 25) rfl (hb hby d9_5) rfl (by decide) (by decide) (by decide) k) ?_
  refine own_alN (w := (.ref a33)) X999 hx (hb hby d9_25) rfl rfl ?_
  refine own_getf X999 hx hZ hown (own_w hw 90 rfl) e999 H34 (hb hby d9_26) ?_
  intro T1000 X1000 e1000
  show own_Go _ _ _ _ _ _ _ T1000 (mkF m 29 #[.val (.ref a33), .unset] [(.int (1 : Int32))])
  refine own_alN (w := (.ref a33)) X1000 hx (hb hby d9_29) rfl rfl ?_
  refine own_getf X1000 hx hZ hown (own_w hw 13 rfl) e1000 H21 (hb hby d9_30) ?_
  intro T1001 X1001 e1001
  show own_Go _ _ _ _ _ _ _ T1001 (mkF m 33 #[.val (.ref a33), .unset] [(.ref a267), (.int (1 : Int32))])
  refine own_len X1001 hx hZ e1001 H20 (hb hby d9_33) (n := (16 : Int32)) rfl ?_
  show own_Go _ _ _ _ _ _ _ T1001 (mkF m 34 #[.val (.ref a33), .unset] [(.int (16 : Int32)), (.int (1 : Int32))])
  refine own_pre (g' := (mkF m 143 #[.val (.ref a33), .unset] [])) (fun t k => XS.icmpYes X1001.here hx rfl (pc0 := 34) (pc' := 143) rfl (hb hby d9_34) rfl (by decide) (by decide) (by decide) k) ?_
  refine own_alN (w := (.ref a33)) X1001 hx (hb hby d9_143) rfl rfl ?_
  refine own_pre (g' := (mkF m 145 #[.val (.ref a33), .unset] [(.ref a33), (.ref a33)])) (fun t k => XS.dup X1001.here hx rfl (hb hby d9_144) rfl rfl k) ?_
  refine own_getf X1001 hx hZ hown (own_w hw 90 rfl) e1001 H34 (hb hby d9_145) ?_
  intro T1002 X1002 e1002
  show own_Go _ _ _ _ _ _ _ T1002 (mkF m 148 #[.val (.ref a33), .unset] [(.int (1 : Int32)), (.ref a33)])
  refine own_pre (g' := (mkF m 149 #[.val (.ref a33), .unset] [(.int (1 : Int32)), (.ref a33), (.int (1 : Int32))])) (fun t k => XT.dupX1 X1002.here hx rfl (hb hby d9_148) rfl rfl rfl k) ?_
  refine own_ic X1002 hx (1 : Int32) (hb hby d9_149) rfl ?_
  refine own_pre (g' := (mkF m 151 #[.val (.ref a33), .unset] [(.int (2 : Int32)), (.ref a33), (.int (1 : Int32))])) (fun t k => XS.iadd X1002.here hx rfl (hb hby d9_150) rfl k) ?_
  refine own_putf X1002 hx hZ hown (own_w hw 90 rfl) e1002 N0 H61 H34 H3 (Or.inl (own_w hw 91 rfl)) (own_w hw 5 rfl) (ty := .int) (by decide) rfl rfl (hb hby d9_151) ?_
  intro T1003 h1003 lo1003 X1003 e1003 N1003 W1003
  have F1004 := H34.same W1003
  show own_Go _ _ _ _ _ _ _ T1003 (mkF m 154 #[.val (.ref a33), .unset] [(.int (1 : Int32))])
  have F1005 := (H21.other W1003 (Or.inr (own_sne (own_f1 hw) (own_f13 hw) (by decide))))
  have F1006 := (H22.other W1003 (Or.inr (own_sne (own_f0 hw) (own_f13 hw) (by decide))))
  have F1007 := (H23.other W1003 (Or.inr (own_sne (own_f2 hw) (own_f13 hw) (by decide))))
  have F1008 := (H24.other W1003 (Or.inr (own_sne (own_f3 hw) (own_f13 hw) (by decide))))
  have F1009 := (H25.other W1003 (Or.inr (own_sne (own_f4 hw) (own_f13 hw) (by decide))))
  have F1010 := (H26.other W1003 (Or.inr (own_sne (own_f5 hw) (own_f13 hw) (by decide))))
  have F1011 := (H27.other W1003 (Or.inr (own_sne (own_f6 hw) (own_f13 hw) (by decide))))
  have F1012 := (H28.other W1003 (Or.inr (own_sne (own_f7 hw) (own_f13 hw) (by decide))))
  have F1013 := (H29.other W1003 (Or.inr (own_sne (own_f8 hw) (own_f13 hw) (by decide))))
  have F1014 := (H30.other W1003 (Or.inr (own_sne (own_f9 hw) (own_f13 hw) (by decide))))
  have F1015 := (H31.other W1003 (Or.inr (own_sne (own_f10 hw) (own_f13 hw) (by decide))))
  have F1016 := (H32.other W1003 (Or.inr (own_sne (own_f11 hw) (own_f13 hw) (by decide))))
  have F1017 := (H33.other W1003 (Or.inr (own_sne (own_f12 hw) (own_f13 hw) (by decide))))
  exact own_retI X1003 hx hlk hret (hb hby d9_154) e1003 ⟨rfl, N1003, ((Keep.refl _ _).wr W1003 (Or.inl (by simp))), F1005, F1006, F1007, F1008, F1009, F1010, F1011, F1012, F1013, F1014, F1015, F1016, F1017, F1004⟩ (by decide) (by decide)
def own_s17_Q (Z : State) (a33 : Addr) (f858 : UInt64) (a933 : Addr) (a274 : Addr) (a273 : Addr) (a272 : Addr) (a271 : Addr) (a270 : Addr) (a269 : Addr) (a268 : Addr) (a267 : Addr) (a811 : Addr) (f386 : UInt64) (h0 : Heap) (n0 : Nat) (v_ : Option Value) (h_ : Heap) (L_ : List Loc) : Prop := (fun v h L => v = some (.int (1 : Int32)) ∧ Fr n0 L ∧ Keep h0 h [a33, a267, a268, a269, a270, a271, a272, a273, a274] ∧ own_Ary Z h a274 .int ([(.int (-1 : Int32))] ++ own_rI 15) ∧ own_Ary Z h a273 .int ([(.int (1 : Int32)), (.int (-1 : Int32))] ++ own_rI 14) ∧ own_Ary Z h a272 .long (own_rJ 16) ∧ own_Ary Z h a271 .boolean (own_rI 16) ∧ own_Ary Z h a270 (.object own_k1) ([(.ref a811), (.ref a933)] ++ own_rN 14) ∧ own_Ary Z h a269 .boolean (own_rI 16) ∧ own_Ary Z h a268 .double ([(.double f386), (.double f858)] ++ own_rD 14) ∧ own_Ary Z h a267 .double ([(.double (4621819117588971520 : UInt64)), (.double (4626322717216342016 : UInt64))] ++ own_rD 14) ∧ Fld Z h a33 own_k0 "thresholds" "[D" (.ref a267) ∧ Fld Z h a33 own_k0 "ranks" "[D" (.ref a268) ∧ Fld Z h a33 own_k0 "guarded" "[Z" (.ref a269) ∧ Fld Z h a33 own_k0 "extents" own_k4 (.ref a270) ∧ Fld Z h a33 own_k0 "addedAtThreshold" "[Z" (.ref a271) ∧ Fld Z h a33 own_k0 "copies" "[J" (.ref a272) ∧ Fld Z h a33 own_k0 "nextOf" "[I" (.ref a273) ∧ Fld Z h a33 own_k0 "previousOf" "[I" (.ref a274) ∧ Fld Z h a33 own_k0 "first" "I" (.int (0 : Int32)) ∧ Fld Z h a33 own_k0 "last" "I" (.int (1 : Int32)) ∧ Fld Z h a33 own_k0 "free" "I" (.int (-1 : Int32)) ∧ Fld Z h a33 own_k0 "smallestMagnitude" "D" (.double (9218868437227405312 : UInt64)) ∧ Fld Z h a33 own_k0 "size" "I" (.int (2 : Int32)) ∧ Fld Z h a33 own_k0 "used" "I" (.int (2 : Int32))) v_ h_ L_
set_option maxRecDepth 65536 in
set_option maxHeartbeats 40000000 in
theorem own_s17 (l : Launch) (Z : State) (a0 : Array Value) (hw : ∀ d ∈ tables_1, d.before a0 Z = true) (wds : List Jvm.Cond) (a33 : Addr) (f858 : UInt64) (a933 : Addr) (a274 : Addr) (a273 : Addr) (a272 : Addr) (a271 : Addr) (a270 : Addr) (a269 : Addr) (a268 : Addr) (a267 : Addr) (a811 : Addr) (f386 : UInt64) (h0 : Heap) (n0 : Nat) (Z0 : n0 ≤ h0.size) (H3 : Exa Z h0 a33 own_k0) (H9 : own_Ovr Z h0 a270 own_k1) (H13 : own_Ary Z h0 a274 .int ([(.int (-1 : Int32))] ++ own_rI 15)) (H14 : own_Ary Z h0 a273 .int ([(.int (-1 : Int32))] ++ own_rI 15)) (H15 : own_Ary Z h0 a272 .long (own_rJ 16)) (H16 : own_Ary Z h0 a271 .boolean (own_rI 16)) (H17 : own_Ary Z h0 a270 (.object own_k1) ([(.ref a811)] ++ own_rN 15)) (H18 : own_Ary Z h0 a269 .boolean (own_rI 16)) (H19 : own_Ary Z h0 a268 .double ([(.double f386)] ++ own_rD 15)) (H20 : own_Ary Z h0 a267 .double ([(.double (4621819117588971520 : UInt64))] ++ own_rD 15)) (H21 : Fld Z h0 a33 own_k0 "thresholds" "[D" (.ref a267)) (H22 : Fld Z h0 a33 own_k0 "ranks" "[D" (.ref a268)) (H23 : Fld Z h0 a33 own_k0 "guarded" "[Z" (.ref a269)) (H24 : Fld Z h0 a33 own_k0 "extents" own_k4 (.ref a270)) (H25 : Fld Z h0 a33 own_k0 "addedAtThreshold" "[Z" (.ref a271)) (H26 : Fld Z h0 a33 own_k0 "copies" "[J" (.ref a272)) (H27 : Fld Z h0 a33 own_k0 "nextOf" "[I" (.ref a273)) (H28 : Fld Z h0 a33 own_k0 "previousOf" "[I" (.ref a274)) (H29 : Fld Z h0 a33 own_k0 "first" "I" (.int (0 : Int32))) (H30 : Fld Z h0 a33 own_k0 "last" "I" (.int (0 : Int32))) (H31 : Fld Z h0 a33 own_k0 "free" "I" (.int (-1 : Int32))) (H32 : Fld Z h0 a33 own_k0 "smallestMagnitude" "D" (.double (9218868437227405312 : UInt64))) (H33 : Fld Z h0 a33 own_k0 "size" "I" (.int (1 : Int32))) (H34 : Fld Z h0 a33 own_k0 "used" "I" (.int (1 : Int32))) (H42 : Exa Z h0 a933 own_k1) (H60 : a33 < a274) (H61 : a33 < a273) (H62 : a33 < a272) (H63 : a33 < a271) (H64 : a33 < a270) (H65 : a33 < a269) (H66 : a33 < a268) (H67 : a33 < a267) (H70 : n0 ≤ a33) (H71 : a273 < a274) (H72 : a272 < a274) (H73 : a271 < a274) (H74 : a270 < a274) (H75 : a269 < a274) (H76 : a268 < a274) (H77 : a267 < a274) (H80 : n0 ≤ a274) (H81 : a272 < a273) (H82 : a271 < a273) (H83 : a270 < a273) (H84 : a269 < a273) (H85 : a268 < a273) (H86 : a267 < a273) (H89 : n0 ≤ a273) (H90 : a271 < a272) (H91 : a270 < a272) (H92 : a269 < a272) (H93 : a268 < a272) (H94 : a267 < a272) (H97 : n0 ≤ a272) (H98 : a270 < a271) (H99 : a269 < a271) (H100 : a268 < a271) (H101 : a267 < a271) (H104 : n0 ≤ a271) (H105 : a269 < a270) (H106 : a268 < a270) (H107 : a267 < a270) (H110 : n0 ≤ a270) (H111 : a268 < a269) (H112 : a267 < a269) (H115 : n0 ≤ a269) (H116 : a267 < a268) (H119 : n0 ≤ a268) (H122 : n0 ≤ a267) :
    MetFree l (⟨own_k0, "insertBefore", own_k6⟩ : MethodName) (head1 (Jvm.Cond.code (⟨own_k0, "insertBefore", own_k6⟩ : MethodName) prog_5_method_55_code 11 (some .int) :: wds) ({ frames := 1, cells := 0, slots := 0, locals := 13 } : Room)) (fun ar_ U_ => ar_ = #[(.ref a33), (.int (-1 : Int32)), (.double (4626322717216342016 : UInt64)), (.double f858), (.ref a933), (.long (0 : Int64))] ∧ Z.Warmed39 U_.vm ∧ U_.heap = h0) (fun _ _ _ _ _ => True) (fun _ U_ o_ V_ => ∃ v_ L_, o_ = .returned v_ ∧ own_s17_Q Z a33 f858 a933 a274 a273 a272 a271 a270 a269 a268 a267 a811 f386 h0 n0 v_ V_.heap L_ ∧ FrameEnd U_ o_ V_ L_ ({ frames := 1, cells := 0, slots := 0, locals := 13 } : Room).cells ({ frames := 1, cells := 0, slots := 0, locals := 13 } : Room).slots) := by
  refine own_met (y := ⟨own_k0, "insertBefore", own_k6⟩) (Q := own_s17_Q Z a33 f858 a933 a274 a273 a272 a271 a270 a269 a268 a267 a811 f386 h0 n0) own_pn1 ?_
  intro p e s m below meth c s₁ hx hby hml hZ hown hnm hret hlk X0 e0
  have N0 := Fr.nil n0
  refine own_cast (g' := (mkF m 0 #[.val (.ref a33), .val (.int (-1 : Int32)), .val (.double (4626322717216342016 : UInt64)), .second, .val (.double f858), .second, .val (.ref a933), .val (.long (0 : Int64)), .second, .unset, .unset] [])) (by first | (simp [entryFrame, mkF, argsToLocals, Value.category]; done) | rfl) ?_
  generalize hL998 : (#[.val (.ref a33), .val (.int (-1 : Int32)), .val (.double (4626322717216342016 : UInt64)), .second, .val (.double f858), .second, .val (.ref a933), .val (.long (0 : Int64)), .second, .unset, .unset] : Array Slot) = L998
  refine own_alN (w := (.ref a33)) X0 hx (hb hby d8_0) (by rw [← hL998]; rfl) rfl ?_
  refine own_callp (a := a33) (argsL := []) (rest := []) X0 hx hZ hown (own_s18 l Z a0 hw [] a33 a274 a273 a272 a271 a270 a269 a268 a267 h0 n0 Z0 H3 H20 H21 H22 H23 H24 H25 H26 H27 H28 H29 H30 H31 H32 H33 H34 H70) H3 (own_w hw 86 rfl) (own_w hw 5 rfl) (own_w hw 88 rfl) (own_w hw 87 rfl) (own_w hw 89 rfl) (own_w hw 6 rfl) (by decide) e0 (hb hby d8_1) (by rw [hml, ← hL998]; rfl) rfl (lenOf own_pd3 rfl) (by decide) (W := 0) (Nat.le_of_eq rfl) (by decide) (by decide) (by decide) ?_
  intro v1018 T1018 lo1018 X1018 Q1018
  obtain ⟨h1018, e1018⟩ : ∃ h, T1018.heap = h := ⟨_, rfl⟩
  rw [e1018] at Q1018
  obtain ⟨rfl, N1018, K1018, F1019, F1020, F1021, F1022, F1023, F1024, F1025, F1026, F1027, F1028, F1029, F1030, F1031, F1032⟩ := Q1018
  have N1018' := Fr.app N0 N1018
  show own_Go _ _ _ _ _ _ _ T1018 (mkF m 4 L998 [(.int (1 : Int32))])
  refine own_pre (g' := (mkF m 6 #[.val (.ref a33), .val (.int (-1 : Int32)), .val (.double (4626322717216342016 : UInt64)), .second, .val (.double f858), .second, .val (.ref a933), .val (.long (0 : Int64)), .second, .val (.int (1 : Int32)), .unset] [])) (fun t k => XS.istore X1018.here hx rfl (hb hby d8_4) rfl (l' := #[.val (.ref a33), .val (.int (-1 : Int32)), .val (.double (4626322717216342016 : UInt64)), .second, .val (.double f858), .second, .val (.ref a933), .val (.long (0 : Int64)), .second, .val (.int (1 : Int32)), .unset]) (by rw [← hL998]; rfl) k) ?_
  generalize hL1034 : (#[.val (.ref a33), .val (.int (-1 : Int32)), .val (.double (4626322717216342016 : UInt64)), .second, .val (.double f858), .second, .val (.ref a933), .val (.long (0 : Int64)), .second, .val (.int (1 : Int32)), .unset] : Array Slot) = L1034
  refine own_alN (w := (.ref a33)) X1018 hx (hb hby d8_6) (by rw [← hL1034]; rfl) rfl ?_
  refine own_getf X1018 hx hZ hown (own_w hw 13 rfl) e1018 F1019 (hb hby d8_7) ?_
  intro T1035 X1035 e1035
  show own_Go _ _ _ _ _ _ _ T1035 (mkF m 10 L1034 [(.ref a267)])
  refine own_il (w := (1 : Int32)) X1035 hx (hb hby d8_10) (by rw [← hL1034]; rfl) ?_
  refine own_dlN (w := (4626322717216342016 : UInt64)) X1035 hx (hb hby d8_12) (by rw [← hL1034]; rfl) ?_
  have F1036 := (H20.keep K1018 (ninS (Nat.ne_of_gt H67) nin0))
  refine own_dastore X1035 hx hZ e1035 N1018' H122 F1036 (hb hby d8_13) (n := 1) (by decide) (by decide) (by show 1 < 16; decide) ?_
  intro T1037 h1037 lo1037 X1037 e1037 N1037 W1037
  have F1038 : own_Ary Z h1037 a267 .double ([(.double (4621819117588971520 : UInt64)), (.double (4626322717216342016 : UInt64))] ++ own_rD 14) := F1036.set W1037
  show own_Go _ _ _ _ _ _ _ T1037 (mkF m 14 L1034 [])
  refine own_alN (w := (.ref a33)) X1037 hx (hb hby d8_14) (by rw [← hL1034]; rfl) rfl ?_
  have F1039 := (F1020.other W1037 (Or.inl (Nat.ne_of_lt H67)))
  refine own_getf X1037 hx hZ hown (own_w hw 15 rfl) e1037 F1039 (hb hby d8_15) ?_
  intro T1040 X1040 e1040
  show own_Go _ _ _ _ _ _ _ T1040 (mkF m 18 L1034 [(.ref a268)])
  refine own_il (w := (1 : Int32)) X1040 hx (hb hby d8_18) (by rw [← hL1034]; rfl) ?_
  refine own_dl (w := f858) X1040 hx (hb hby d8_20) (by rw [← hL1034]; rfl) ?_
  have F1041 := ((H19.keep K1018 (ninS (Nat.ne_of_gt H66) nin0)).other W1037 (Nat.ne_of_gt H116))
  refine own_dastore X1040 hx hZ e1040 N1037 H119 F1041 (hb hby d8_22) (n := 1) (by decide) (by decide) (by show 1 < 16; decide) ?_
  intro T1042 h1042 lo1042 X1042 e1042 N1042 W1042
  have F1043 : own_Ary Z h1042 a268 .double ([(.double f386), (.double f858)] ++ own_rD 14) := F1041.set W1042
  show own_Go _ _ _ _ _ _ _ T1042 (mkF m 23 L1034 [])
  refine own_alN (w := (.ref a33)) X1042 hx (hb hby d8_23) (by rw [← hL1034]; rfl) rfl ?_
  have F1044 := ((F1021.other W1037 (Or.inl (Nat.ne_of_lt H67))).other W1042 (Or.inl (Nat.ne_of_lt H66)))
  refine own_getf X1042 hx hZ hown (own_w hw 18 rfl) e1042 F1044 (hb hby d8_24) ?_
  intro T1045 X1045 e1045
  show own_Go _ _ _ _ _ _ _ T1045 (mkF m 27 L1034 [(.ref a269)])
  refine own_il (w := (1 : Int32)) X1045 hx (hb hby d8_27) (by rw [← hL1034]; rfl) ?_
  refine own_ic X1045 hx (0 : Int32) (hb hby d8_29) rfl ?_
  have F1046 := (((H18.keep K1018 (ninS (Nat.ne_of_gt H65) nin0)).other W1037 (Nat.ne_of_gt H112)).other W1042 (Nat.ne_of_gt H111))
  refine own_zastore X1045 hx hZ e1045 N1042 H115 F1046 (hb hby d8_30) (n := 1) (x' := (0 : Int32)) (by decide) (by decide) (by show 1 < 16; decide) (by decide) ?_
  intro T1047 h1047 lo1047 X1047 e1047 N1047 W1047
  have F1048 : own_Ary Z h1047 a269 .boolean (own_rI 16) := F1046.set W1047
  show own_Go _ _ _ _ _ _ _ T1047 (mkF m 31 L1034 [])
  refine own_alN (w := (.ref a33)) X1047 hx (hb hby d8_31) (by rw [← hL1034]; rfl) rfl ?_
  have F1049 := (((F1022.other W1037 (Or.inl (Nat.ne_of_lt H67))).other W1042 (Or.inl (Nat.ne_of_lt H66))).other W1047 (Or.inl (Nat.ne_of_lt H65)))
  refine own_getf X1047 hx hZ hown (own_w hw 22 rfl) e1047 F1049 (hb hby d8_32) ?_
  intro T1050 X1050 e1050
  show own_Go _ _ _ _ _ _ _ T1050 (mkF m 35 L1034 [(.ref a270)])
  refine own_il (w := (1 : Int32)) X1050 hx (hb hby d8_35) (by rw [← hL1034]; rfl) ?_
  refine own_al (w := (.ref a933)) X1050 hx (hb hby d8_37) (by rw [← hL1034]; rfl) rfl ?_
  have F1051 := ((((H17.keep K1018 (ninS (Nat.ne_of_gt H64) nin0)).other W1037 (Nat.ne_of_gt H107)).other W1042 (Nat.ne_of_gt H106)).other W1047 (Nat.ne_of_gt H105))
  have F1053 := ((((H42.keep K1018).wr W1037).wr W1042).wr W1047)
  have F1054 := ((((H9.keep K1018).wr W1037).wr W1042).wr W1047)
  refine own_aastore X1050 hx hZ e1050 N1047 H110 F1051 F1054 (Ins.self F1053) (hb hby d8_39) (n := 1) (by decide) (by decide) (by show 1 < 16; decide) ?_
  intro T1052 h1052 lo1052 X1052 e1052 N1052 W1052
  have F1055 : own_Ary Z h1052 a270 (.object own_k1) ([(.ref a811), (.ref a933)] ++ own_rN 14) := F1051.set W1052
  show own_Go _ _ _ _ _ _ _ T1052 (mkF m 40 L1034 [])
  refine own_alN (w := (.ref a33)) X1052 hx (hb hby d8_40) (by rw [← hL1034]; rfl) rfl ?_
  have F1056 := ((((F1023.other W1037 (Or.inl (Nat.ne_of_lt H67))).other W1042 (Or.inl (Nat.ne_of_lt H66))).other W1047 (Or.inl (Nat.ne_of_lt H65))).other W1052 (Or.inl (Nat.ne_of_lt H64)))
  refine own_getf X1052 hx hZ hown (own_w hw 24 rfl) e1052 F1056 (hb hby d8_41) ?_
  intro T1057 X1057 e1057
  show own_Go _ _ _ _ _ _ _ T1057 (mkF m 44 L1034 [(.ref a271)])
  refine own_il (w := (1 : Int32)) X1057 hx (hb hby d8_44) (by rw [← hL1034]; rfl) ?_
  refine own_ic X1057 hx (0 : Int32) (hb hby d8_46) rfl ?_
  have F1058 := (((((H16.keep K1018 (ninS (Nat.ne_of_gt H63) nin0)).other W1037 (Nat.ne_of_gt H101)).other W1042 (Nat.ne_of_gt H100)).other W1047 (Nat.ne_of_gt H99)).other W1052 (Nat.ne_of_gt H98))
  refine own_zastore X1057 hx hZ e1057 N1052 H104 F1058 (hb hby d8_47) (n := 1) (x' := (0 : Int32)) (by decide) (by decide) (by show 1 < 16; decide) (by decide) ?_
  intro T1059 h1059 lo1059 X1059 e1059 N1059 W1059
  have F1060 : own_Ary Z h1059 a271 .boolean (own_rI 16) := F1058.set W1059
  show own_Go _ _ _ _ _ _ _ T1059 (mkF m 48 L1034 [])
  refine own_alN (w := (.ref a33)) X1059 hx (hb hby d8_48) (by rw [← hL1034]; rfl) rfl ?_
  have F1061 := (((((F1024.other W1037 (Or.inl (Nat.ne_of_lt H67))).other W1042 (Or.inl (Nat.ne_of_lt H66))).other W1047 (Or.inl (Nat.ne_of_lt H65))).other W1052 (Or.inl (Nat.ne_of_lt H64))).other W1059 (Or.inl (Nat.ne_of_lt H63)))
  refine own_getf X1059 hx hZ hown (own_w hw 26 rfl) e1059 F1061 (hb hby d8_49) ?_
  intro T1062 X1062 e1062
  show own_Go _ _ _ _ _ _ _ T1062 (mkF m 52 L1034 [(.ref a272)])
  refine own_il (w := (1 : Int32)) X1062 hx (hb hby d8_52) (by rw [← hL1034]; rfl) ?_
  refine own_ll (w := (0 : Int64)) X1062 hx (hb hby d8_54) (by rw [← hL1034]; rfl) ?_
  have F1063 := ((((((H15.keep K1018 (ninS (Nat.ne_of_gt H62) nin0)).other W1037 (Nat.ne_of_gt H94)).other W1042 (Nat.ne_of_gt H93)).other W1047 (Nat.ne_of_gt H92)).other W1052 (Nat.ne_of_gt H91)).other W1059 (Nat.ne_of_gt H90))
  refine own_lastore X1062 hx hZ e1062 N1059 H97 F1063 (hb hby d8_56) (n := 1) (by decide) (by decide) (by show 1 < 16; decide) ?_
  intro T1064 h1064 lo1064 X1064 e1064 N1064 W1064
  have F1065 : own_Ary Z h1064 a272 .long (own_rJ 16) := F1063.set W1064
  show own_Go _ _ _ _ _ _ _ T1064 (mkF m 57 L1034 [])
  refine own_ilN (w := (-1 : Int32)) X1064 hx (hb hby d8_57) (by rw [← hL1034]; rfl) ?_
  refine own_ic X1064 hx (-1 : Int32) (hb hby d8_58) rfl ?_
  refine own_pre (g' := (mkF m 62 L1034 [])) (fun t k => XS.icmpNo X1064.here hx rfl (hb hby d8_59) rfl (by decide) k) ?_
  refine own_alN (w := (.ref a33)) X1064 hx (hb hby d8_62) (by rw [← hL1034]; rfl) rfl ?_
  have F1066 := ((((((F1028.other W1037 (Or.inl (Nat.ne_of_lt H67))).other W1042 (Or.inl (Nat.ne_of_lt H66))).other W1047 (Or.inl (Nat.ne_of_lt H65))).other W1052 (Or.inl (Nat.ne_of_lt H64))).other W1059 (Or.inl (Nat.ne_of_lt H63))).other W1064 (Or.inl (Nat.ne_of_lt H62)))
  refine own_getf X1064 hx hZ hown (own_w hw 35 rfl) e1064 F1066 (hb hby d8_63) ?_
  intro T1067 X1067 e1067
  show own_Go _ _ _ _ _ _ _ T1067 (mkF m 66 L1034 [(.int (0 : Int32))])
  refine own_gt X1067 hx 75 (hb hby d8_66) (by decide) (by decide) ?_
  refine own_pre (g' := (mkF m 77 #[.val (.ref a33), .val (.int (-1 : Int32)), .val (.double (4626322717216342016 : UInt64)), .second, .val (.double f858), .second, .val (.ref a933), .val (.long (0 : Int64)), .second, .val (.int (1 : Int32)), .val (.int (0 : Int32))] [])) (fun t k => XS.istore X1067.here hx rfl (hb hby d8_75) rfl (l' := #[.val (.ref a33), .val (.int (-1 : Int32)), .val (.double (4626322717216342016 : UInt64)), .second, .val (.double f858), .second, .val (.ref a933), .val (.long (0 : Int64)), .second, .val (.int (1 : Int32)), .val (.int (0 : Int32))]) (by rw [← hL1034]; rfl) k) ?_
  generalize hL1068 : (#[.val (.ref a33), .val (.int (-1 : Int32)), .val (.double (4626322717216342016 : UInt64)), .second, .val (.double f858), .second, .val (.ref a933), .val (.long (0 : Int64)), .second, .val (.int (1 : Int32)), .val (.int (0 : Int32))] : Array Slot) = L1068
  refine own_alN (w := (.ref a33)) X1067 hx (hb hby d8_77) (by rw [← hL1068]; rfl) rfl ?_
  have F1069 := ((((((F1025.other W1037 (Or.inl (Nat.ne_of_lt H67))).other W1042 (Or.inl (Nat.ne_of_lt H66))).other W1047 (Or.inl (Nat.ne_of_lt H65))).other W1052 (Or.inl (Nat.ne_of_lt H64))).other W1059 (Or.inl (Nat.ne_of_lt H63))).other W1064 (Or.inl (Nat.ne_of_lt H62)))
  refine own_getf X1067 hx hZ hown (own_w hw 29 rfl) e1067 F1069 (hb hby d8_78) ?_
  intro T1070 X1070 e1070
  show own_Go _ _ _ _ _ _ _ T1070 (mkF m 81 L1068 [(.ref a273)])
  refine own_il (w := (1 : Int32)) X1070 hx (hb hby d8_81) (by rw [← hL1068]; rfl) ?_
  refine own_ilN (w := (-1 : Int32)) X1070 hx (hb hby d8_83) (by rw [← hL1068]; rfl) ?_
  have F1071 := (((((((H14.keep K1018 (ninS (Nat.ne_of_gt H61) nin0)).other W1037 (Nat.ne_of_gt H86)).other W1042 (Nat.ne_of_gt H85)).other W1047 (Nat.ne_of_gt H84)).other W1052 (Nat.ne_of_gt H83)).other W1059 (Nat.ne_of_gt H82)).other W1064 (Nat.ne_of_gt H81))
  refine own_iastore X1070 hx hZ e1070 N1064 H89 F1071 (hb hby d8_84) (n := 1) (by decide) (by decide) (by show 1 < 16; decide) ?_
  intro T1072 h1072 lo1072 X1072 e1072 N1072 W1072
  have F1073 : own_Ary Z h1072 a273 .int ([(.int (-1 : Int32)), (.int (-1 : Int32))] ++ own_rI 14) := F1071.set W1072
  show own_Go _ _ _ _ _ _ _ T1072 (mkF m 85 L1068 [])
  refine own_alN (w := (.ref a33)) X1072 hx (hb hby d8_85) (by rw [← hL1068]; rfl) rfl ?_
  have F1074 := (((((((F1026.other W1037 (Or.inl (Nat.ne_of_lt H67))).other W1042 (Or.inl (Nat.ne_of_lt H66))).other W1047 (Or.inl (Nat.ne_of_lt H65))).other W1052 (Or.inl (Nat.ne_of_lt H64))).other W1059 (Or.inl (Nat.ne_of_lt H63))).other W1064 (Or.inl (Nat.ne_of_lt H62))).other W1072 (Or.inl (Nat.ne_of_lt H61)))
  refine own_getf X1072 hx hZ hown (own_w hw 31 rfl) e1072 F1074 (hb hby d8_86) ?_
  intro T1075 X1075 e1075
  show own_Go _ _ _ _ _ _ _ T1075 (mkF m 89 L1068 [(.ref a274)])
  refine own_il (w := (1 : Int32)) X1075 hx (hb hby d8_89) (by rw [← hL1068]; rfl) ?_
  refine own_il (w := (0 : Int32)) X1075 hx (hb hby d8_91) (by rw [← hL1068]; rfl) ?_
  have F1076 := ((((((((H13.keep K1018 (ninS (Nat.ne_of_gt H60) nin0)).other W1037 (Nat.ne_of_gt H77)).other W1042 (Nat.ne_of_gt H76)).other W1047 (Nat.ne_of_gt H75)).other W1052 (Nat.ne_of_gt H74)).other W1059 (Nat.ne_of_gt H73)).other W1064 (Nat.ne_of_gt H72)).other W1072 (Nat.ne_of_gt H71))
  refine own_iastore X1075 hx hZ e1075 N1072 H80 F1076 (hb hby d8_93) (n := 1) (by decide) (by decide) (by show 1 < 16; decide) ?_
  intro T1077 h1077 lo1077 X1077 e1077 N1077 W1077
  have F1078 : own_Ary Z h1077 a274 .int ([(.int (-1 : Int32))] ++ own_rI 15) := F1076.set W1077
  show own_Go _ _ _ _ _ _ _ T1077 (mkF m 94 L1068 [])
  refine own_il (w := (0 : Int32)) X1077 hx (hb hby d8_94) (by rw [← hL1068]; rfl) ?_
  refine own_ic X1077 hx (-1 : Int32) (hb hby d8_96) rfl ?_
  refine own_pre (g' := (mkF m 109 L1068 [])) (fun t k => XS.icmpYes X1077.here hx rfl (pc0 := 97) (pc' := 109) rfl (hb hby d8_97) rfl (by decide) (by decide) (by decide) k) ?_
  refine own_alN (w := (.ref a33)) X1077 hx (hb hby d8_109) (by rw [← hL1068]; rfl) rfl ?_
  have F1079 := ((F1069.other W1072 (Or.inl (Nat.ne_of_lt H61))).other W1077 (Or.inl (Nat.ne_of_lt H60)))
  refine own_getf X1077 hx hZ hown (own_w hw 29 rfl) e1077 F1079 (hb hby d8_110) ?_
  intro T1080 X1080 e1080
  show own_Go _ _ _ _ _ _ _ T1080 (mkF m 113 L1068 [(.ref a273)])
  refine own_il (w := (0 : Int32)) X1080 hx (hb hby d8_113) (by rw [← hL1068]; rfl) ?_
  refine own_il (w := (1 : Int32)) X1080 hx (hb hby d8_115) (by rw [← hL1068]; rfl) ?_
  have F1081 := (F1073.other W1077 (Nat.ne_of_lt H71))
  refine own_iastore X1080 hx hZ e1080 N1077 H89 F1081 (hb hby d8_117) (n := 0) (by decide) (by decide) (by show 0 < 16; decide) ?_
  intro T1082 h1082 lo1082 X1082 e1082 N1082 W1082
  have F1083 : own_Ary Z h1082 a273 .int ([(.int (1 : Int32)), (.int (-1 : Int32))] ++ own_rI 14) := F1081.set W1082
  show own_Go _ _ _ _ _ _ _ T1082 (mkF m 118 L1068 [])
  refine own_ilN (w := (-1 : Int32)) X1082 hx (hb hby d8_118) (by rw [← hL1068]; rfl) ?_
  refine own_ic X1082 hx (-1 : Int32) (hb hby d8_119) rfl ?_
  refine own_pre (g' := (mkF m 123 L1068 [])) (fun t k => XS.icmpNo X1082.here hx rfl (hb hby d8_120) rfl (by decide) k) ?_
  refine own_alN (w := (.ref a33)) X1082 hx (hb hby d8_123) (by rw [← hL1068]; rfl) rfl ?_
  refine own_il (w := (1 : Int32)) X1082 hx (hb hby d8_124) (by rw [← hL1068]; rfl) ?_
  have F1084 := (((F1066.other W1072 (Or.inl (Nat.ne_of_lt H61))).other W1077 (Or.inl (Nat.ne_of_lt H60))).other W1082 (Or.inl (Nat.ne_of_lt H61)))
  have F1085 := ((((((((((H3.keep K1018).wr W1037).wr W1042).wr W1047).wr W1052).wr W1059).wr W1064).wr W1072).wr W1077).wr W1082)
  refine own_putf X1082 hx hZ hown (own_w hw 35 rfl) e1082 N1082 H70 F1084 F1085 (Or.inl (own_w hw 36 rfl)) (own_w hw 5 rfl) (ty := .int) (by decide) rfl rfl (hb hby d8_126) ?_
  intro T1086 h1086 lo1086 X1086 e1086 N1086 W1086
  have F1087 := F1084.same W1086
  show own_Go _ _ _ _ _ _ _ T1086 (mkF m 129 L1068 [])
  refine own_gt X1086 hx 140 (hb hby d8_129) (by decide) (by decide) ?_
  refine own_alN (w := (.ref a33)) X1086 hx (hb hby d8_140) (by rw [← hL1068]; rfl) rfl ?_
  refine own_pre (g' := (mkF m 142 L1068 [(.ref a33), (.ref a33)])) (fun t k => XS.dup X1086.here hx rfl (hb hby d8_141) rfl rfl k) ?_
  have F1088 := ((((((((((F1031.other W1037 (Or.inl (Nat.ne_of_lt H67))).other W1042 (Or.inl (Nat.ne_of_lt H66))).other W1047 (Or.inl (Nat.ne_of_lt H65))).other W1052 (Or.inl (Nat.ne_of_lt H64))).other W1059 (Or.inl (Nat.ne_of_lt H63))).other W1064 (Or.inl (Nat.ne_of_lt H62))).other W1072 (Or.inl (Nat.ne_of_lt H61))).other W1077 (Or.inl (Nat.ne_of_lt H60))).other W1082 (Or.inl (Nat.ne_of_lt H61))).other W1086 (Or.inr (own_sne (own_f12 hw) (own_f9 hw) (by decide))))
  refine own_getf X1086 hx hZ hown (own_w hw 48 rfl) e1086 F1088 (hb hby d8_142) ?_
  intro T1089 X1089 e1089
  show own_Go _ _ _ _ _ _ _ T1089 (mkF m 145 L1068 [(.int (1 : Int32)), (.ref a33)])
  refine own_ic X1089 hx (1 : Int32) (hb hby d8_145) rfl ?_
  refine own_pre (g' := (mkF m 147 L1068 [(.int (2 : Int32)), (.ref a33)])) (fun t k => XS.iadd X1089.here hx rfl (hb hby d8_146) rfl k) ?_
  have F1090 := (F1085.wr W1086)
  refine own_putf X1089 hx hZ hown (own_w hw 48 rfl) e1089 N1086 H70 F1088 F1090 (Or.inl (own_w hw 49 rfl)) (own_w hw 5 rfl) (ty := .int) (by decide) rfl rfl (hb hby d8_147) ?_
  intro T1091 h1091 lo1091 X1091 e1091 N1091 W1091
  have F1092 := F1088.same W1091
  show own_Go _ _ _ _ _ _ _ T1091 (mkF m 150 L1068 [])
  refine own_il (w := (1 : Int32)) X1091 hx (hb hby d8_150) (by rw [← hL1068]; rfl) ?_
  have F1093 := (((F1078.other W1082 (Nat.ne_of_gt H71)).other W1086 (Nat.ne_of_gt H60)).other W1091 (Nat.ne_of_gt H60))
  have F1094 := ((F1083.other W1086 (Nat.ne_of_gt H61)).other W1091 (Nat.ne_of_gt H61))
  have F1095 := (((((F1065.other W1072 (Nat.ne_of_lt H81)).other W1077 (Nat.ne_of_lt H72)).other W1082 (Nat.ne_of_lt H81)).other W1086 (Nat.ne_of_gt H62)).other W1091 (Nat.ne_of_gt H62))
  have F1096 := ((((((F1060.other W1064 (Nat.ne_of_lt H90)).other W1072 (Nat.ne_of_lt H82)).other W1077 (Nat.ne_of_lt H73)).other W1082 (Nat.ne_of_lt H82)).other W1086 (Nat.ne_of_gt H63)).other W1091 (Nat.ne_of_gt H63))
  have F1097 := (((((((F1055.other W1059 (Nat.ne_of_lt H98)).other W1064 (Nat.ne_of_lt H91)).other W1072 (Nat.ne_of_lt H83)).other W1077 (Nat.ne_of_lt H74)).other W1082 (Nat.ne_of_lt H83)).other W1086 (Nat.ne_of_gt H64)).other W1091 (Nat.ne_of_gt H64))
  have F1098 := ((((((((F1048.other W1052 (Nat.ne_of_lt H105)).other W1059 (Nat.ne_of_lt H99)).other W1064 (Nat.ne_of_lt H92)).other W1072 (Nat.ne_of_lt H84)).other W1077 (Nat.ne_of_lt H75)).other W1082 (Nat.ne_of_lt H84)).other W1086 (Nat.ne_of_gt H65)).other W1091 (Nat.ne_of_gt H65))
  have F1099 := (((((((((F1043.other W1047 (Nat.ne_of_lt H111)).other W1052 (Nat.ne_of_lt H106)).other W1059 (Nat.ne_of_lt H100)).other W1064 (Nat.ne_of_lt H93)).other W1072 (Nat.ne_of_lt H85)).other W1077 (Nat.ne_of_lt H76)).other W1082 (Nat.ne_of_lt H85)).other W1086 (Nat.ne_of_gt H66)).other W1091 (Nat.ne_of_gt H66))
  have F1100 := ((((((((((F1038.other W1042 (Nat.ne_of_lt H116)).other W1047 (Nat.ne_of_lt H112)).other W1052 (Nat.ne_of_lt H107)).other W1059 (Nat.ne_of_lt H101)).other W1064 (Nat.ne_of_lt H94)).other W1072 (Nat.ne_of_lt H86)).other W1077 (Nat.ne_of_lt H77)).other W1082 (Nat.ne_of_lt H86)).other W1086 (Nat.ne_of_gt H67)).other W1091 (Nat.ne_of_gt H67))
  have F1101 := (((((((((((F1019.other W1037 (Or.inl (Nat.ne_of_lt H67))).other W1042 (Or.inl (Nat.ne_of_lt H66))).other W1047 (Or.inl (Nat.ne_of_lt H65))).other W1052 (Or.inl (Nat.ne_of_lt H64))).other W1059 (Or.inl (Nat.ne_of_lt H63))).other W1064 (Or.inl (Nat.ne_of_lt H62))).other W1072 (Or.inl (Nat.ne_of_lt H61))).other W1077 (Or.inl (Nat.ne_of_lt H60))).other W1082 (Or.inl (Nat.ne_of_lt H61))).other W1086 (Or.inr (own_sne (own_f1 hw) (own_f9 hw) (by decide)))).other W1091 (Or.inr (own_sne (own_f1 hw) (own_f12 hw) (by decide))))
  have F1102 := ((((((((((F1039.other W1042 (Or.inl (Nat.ne_of_lt H66))).other W1047 (Or.inl (Nat.ne_of_lt H65))).other W1052 (Or.inl (Nat.ne_of_lt H64))).other W1059 (Or.inl (Nat.ne_of_lt H63))).other W1064 (Or.inl (Nat.ne_of_lt H62))).other W1072 (Or.inl (Nat.ne_of_lt H61))).other W1077 (Or.inl (Nat.ne_of_lt H60))).other W1082 (Or.inl (Nat.ne_of_lt H61))).other W1086 (Or.inr (own_sne (own_f0 hw) (own_f9 hw) (by decide)))).other W1091 (Or.inr (own_sne (own_f0 hw) (own_f12 hw) (by decide))))
  have F1103 := (((((((((F1044.other W1047 (Or.inl (Nat.ne_of_lt H65))).other W1052 (Or.inl (Nat.ne_of_lt H64))).other W1059 (Or.inl (Nat.ne_of_lt H63))).other W1064 (Or.inl (Nat.ne_of_lt H62))).other W1072 (Or.inl (Nat.ne_of_lt H61))).other W1077 (Or.inl (Nat.ne_of_lt H60))).other W1082 (Or.inl (Nat.ne_of_lt H61))).other W1086 (Or.inr (own_sne (own_f2 hw) (own_f9 hw) (by decide)))).other W1091 (Or.inr (own_sne (own_f2 hw) (own_f12 hw) (by decide))))
  have F1104 := ((((((((F1049.other W1052 (Or.inl (Nat.ne_of_lt H64))).other W1059 (Or.inl (Nat.ne_of_lt H63))).other W1064 (Or.inl (Nat.ne_of_lt H62))).other W1072 (Or.inl (Nat.ne_of_lt H61))).other W1077 (Or.inl (Nat.ne_of_lt H60))).other W1082 (Or.inl (Nat.ne_of_lt H61))).other W1086 (Or.inr (own_sne (own_f3 hw) (own_f9 hw) (by decide)))).other W1091 (Or.inr (own_sne (own_f3 hw) (own_f12 hw) (by decide))))
  have F1105 := (((((((F1056.other W1059 (Or.inl (Nat.ne_of_lt H63))).other W1064 (Or.inl (Nat.ne_of_lt H62))).other W1072 (Or.inl (Nat.ne_of_lt H61))).other W1077 (Or.inl (Nat.ne_of_lt H60))).other W1082 (Or.inl (Nat.ne_of_lt H61))).other W1086 (Or.inr (own_sne (own_f4 hw) (own_f9 hw) (by decide)))).other W1091 (Or.inr (own_sne (own_f4 hw) (own_f12 hw) (by decide))))
  have F1106 := ((((((F1061.other W1064 (Or.inl (Nat.ne_of_lt H62))).other W1072 (Or.inl (Nat.ne_of_lt H61))).other W1077 (Or.inl (Nat.ne_of_lt H60))).other W1082 (Or.inl (Nat.ne_of_lt H61))).other W1086 (Or.inr (own_sne (own_f5 hw) (own_f9 hw) (by decide)))).other W1091 (Or.inr (own_sne (own_f5 hw) (own_f12 hw) (by decide))))
  have F1107 := (((F1079.other W1082 (Or.inl (Nat.ne_of_lt H61))).other W1086 (Or.inr (own_sne (own_f6 hw) (own_f9 hw) (by decide)))).other W1091 (Or.inr (own_sne (own_f6 hw) (own_f12 hw) (by decide))))
  have F1108 := ((((F1074.other W1077 (Or.inl (Nat.ne_of_lt H60))).other W1082 (Or.inl (Nat.ne_of_lt H61))).other W1086 (Or.inr (own_sne (own_f7 hw) (own_f9 hw) (by decide)))).other W1091 (Or.inr (own_sne (own_f7 hw) (own_f12 hw) (by decide))))
  have F1109 := (((((((((((F1027.other W1037 (Or.inl (Nat.ne_of_lt H67))).other W1042 (Or.inl (Nat.ne_of_lt H66))).other W1047 (Or.inl (Nat.ne_of_lt H65))).other W1052 (Or.inl (Nat.ne_of_lt H64))).other W1059 (Or.inl (Nat.ne_of_lt H63))).other W1064 (Or.inl (Nat.ne_of_lt H62))).other W1072 (Or.inl (Nat.ne_of_lt H61))).other W1077 (Or.inl (Nat.ne_of_lt H60))).other W1082 (Or.inl (Nat.ne_of_lt H61))).other W1086 (Or.inr (own_sne (own_f8 hw) (own_f9 hw) (by decide)))).other W1091 (Or.inr (own_sne (own_f8 hw) (own_f12 hw) (by decide))))
  have F1110 := (F1087.other W1091 (Or.inr (own_sne (own_f9 hw) (own_f12 hw) (by decide))))
  have F1111 := (((((((((((F1029.other W1037 (Or.inl (Nat.ne_of_lt H67))).other W1042 (Or.inl (Nat.ne_of_lt H66))).other W1047 (Or.inl (Nat.ne_of_lt H65))).other W1052 (Or.inl (Nat.ne_of_lt H64))).other W1059 (Or.inl (Nat.ne_of_lt H63))).other W1064 (Or.inl (Nat.ne_of_lt H62))).other W1072 (Or.inl (Nat.ne_of_lt H61))).other W1077 (Or.inl (Nat.ne_of_lt H60))).other W1082 (Or.inl (Nat.ne_of_lt H61))).other W1086 (Or.inr (own_sne (own_f10 hw) (own_f9 hw) (by decide)))).other W1091 (Or.inr (own_sne (own_f10 hw) (own_f12 hw) (by decide))))
  have F1112 := (((((((((((F1030.other W1037 (Or.inl (Nat.ne_of_lt H67))).other W1042 (Or.inl (Nat.ne_of_lt H66))).other W1047 (Or.inl (Nat.ne_of_lt H65))).other W1052 (Or.inl (Nat.ne_of_lt H64))).other W1059 (Or.inl (Nat.ne_of_lt H63))).other W1064 (Or.inl (Nat.ne_of_lt H62))).other W1072 (Or.inl (Nat.ne_of_lt H61))).other W1077 (Or.inl (Nat.ne_of_lt H60))).other W1082 (Or.inl (Nat.ne_of_lt H61))).other W1086 (Or.inr (own_sne (own_f11 hw) (own_f9 hw) (by decide)))).other W1091 (Or.inr (own_sne (own_f11 hw) (own_f12 hw) (by decide))))
  have F1113 := (((((((((((F1032.other W1037 (Or.inl (Nat.ne_of_lt H67))).other W1042 (Or.inl (Nat.ne_of_lt H66))).other W1047 (Or.inl (Nat.ne_of_lt H65))).other W1052 (Or.inl (Nat.ne_of_lt H64))).other W1059 (Or.inl (Nat.ne_of_lt H63))).other W1064 (Or.inl (Nat.ne_of_lt H62))).other W1072 (Or.inl (Nat.ne_of_lt H61))).other W1077 (Or.inl (Nat.ne_of_lt H60))).other W1082 (Or.inl (Nat.ne_of_lt H61))).other W1086 (Or.inr (own_sne (own_f13 hw) (own_f9 hw) (by decide)))).other W1091 (Or.inr (own_sne (own_f13 hw) (own_f12 hw) (by decide))))
  exact own_retI X1091 hx hlk hret (hb hby d8_152) e1091 ⟨rfl, N1091, (((((((((((((Keep.refl _ _).trans K1018 (allS (Or.inl (by simp)) all0)).wr W1037 (Or.inl (by simp))).wr W1042 (Or.inl (by simp))).wr W1047 (Or.inl (by simp))).wr W1052 (Or.inl (by simp))).wr W1059 (Or.inl (by simp))).wr W1064 (Or.inl (by simp))).wr W1072 (Or.inl (by simp))).wr W1077 (Or.inl (by simp))).wr W1082 (Or.inl (by simp))).wr W1086 (Or.inl (by simp))).wr W1091 (Or.inl (by simp))), F1093, F1094, F1095, F1096, F1097, F1098, F1099, F1100, F1101, F1102, F1103, F1104, F1105, F1106, F1107, F1108, F1109, F1110, F1111, F1112, F1092, F1113⟩ (by decide) (by decide)
def own_s16_Q (Z : State) (a33 : Addr) (f858 : UInt64) (a933 : Addr) (a274 : Addr) (a273 : Addr) (a272 : Addr) (a271 : Addr) (a270 : Addr) (a269 : Addr) (a268 : Addr) (a267 : Addr) (a811 : Addr) (f386 : UInt64) (h0 : Heap) (n0 : Nat) (v_ : Option Value) (h_ : Heap) (L_ : List Loc) : Prop := (fun v h L => v = none ∧ Fr n0 L ∧ Keep h0 h [a33, a267, a268, a269, a270, a271, a272, a273, a274] ∧ own_Ary Z h a274 .int ([(.int (-1 : Int32))] ++ own_rI 15) ∧ own_Ary Z h a273 .int ([(.int (1 : Int32)), (.int (-1 : Int32))] ++ own_rI 14) ∧ own_Ary Z h a272 .long (own_rJ 16) ∧ own_Ary Z h a271 .boolean (own_rI 16) ∧ own_Ary Z h a270 (.object own_k1) ([(.ref a811), (.ref a933)] ++ own_rN 14) ∧ own_Ary Z h a269 .boolean (own_rI 16) ∧ own_Ary Z h a268 .double ([(.double f386), (.double f858)] ++ own_rD 14) ∧ own_Ary Z h a267 .double ([(.double (4621819117588971520 : UInt64)), (.double (4626322717216342016 : UInt64))] ++ own_rD 14) ∧ Fld Z h a33 own_k0 "thresholds" "[D" (.ref a267) ∧ Fld Z h a33 own_k0 "ranks" "[D" (.ref a268) ∧ Fld Z h a33 own_k0 "guarded" "[Z" (.ref a269) ∧ Fld Z h a33 own_k0 "extents" own_k4 (.ref a270) ∧ Fld Z h a33 own_k0 "addedAtThreshold" "[Z" (.ref a271) ∧ Fld Z h a33 own_k0 "copies" "[J" (.ref a272) ∧ Fld Z h a33 own_k0 "nextOf" "[I" (.ref a273) ∧ Fld Z h a33 own_k0 "previousOf" "[I" (.ref a274) ∧ Fld Z h a33 own_k0 "first" "I" (.int (0 : Int32)) ∧ Fld Z h a33 own_k0 "last" "I" (.int (1 : Int32)) ∧ Fld Z h a33 own_k0 "free" "I" (.int (-1 : Int32)) ∧ Fld Z h a33 own_k0 "smallestMagnitude" "D" (.double (9218868437227405312 : UInt64)) ∧ Fld Z h a33 own_k0 "size" "I" (.int (2 : Int32)) ∧ Fld Z h a33 own_k0 "used" "I" (.int (2 : Int32))) v_ h_ L_
set_option maxRecDepth 65536 in
set_option maxHeartbeats 40000000 in
theorem own_s16 (l : Launch) (Z : State) (a0 : Array Value) (hw : ∀ d ∈ tables_1, d.before a0 Z = true) (wds : List Jvm.Cond) (a33 : Addr) (f858 : UInt64) (a933 : Addr) (a274 : Addr) (a273 : Addr) (a272 : Addr) (a271 : Addr) (a270 : Addr) (a269 : Addr) (a268 : Addr) (a267 : Addr) (a811 : Addr) (f386 : UInt64) (h0 : Heap) (n0 : Nat) (Z0 : n0 ≤ h0.size) (H3 : Exa Z h0 a33 own_k0) (H9 : own_Ovr Z h0 a270 own_k1) (H13 : own_Ary Z h0 a274 .int ([(.int (-1 : Int32))] ++ own_rI 15)) (H14 : own_Ary Z h0 a273 .int ([(.int (-1 : Int32))] ++ own_rI 15)) (H15 : own_Ary Z h0 a272 .long (own_rJ 16)) (H16 : own_Ary Z h0 a271 .boolean (own_rI 16)) (H17 : own_Ary Z h0 a270 (.object own_k1) ([(.ref a811)] ++ own_rN 15)) (H18 : own_Ary Z h0 a269 .boolean (own_rI 16)) (H19 : own_Ary Z h0 a268 .double ([(.double f386)] ++ own_rD 15)) (H20 : own_Ary Z h0 a267 .double ([(.double (4621819117588971520 : UInt64))] ++ own_rD 15)) (H21 : Fld Z h0 a33 own_k0 "thresholds" "[D" (.ref a267)) (H22 : Fld Z h0 a33 own_k0 "ranks" "[D" (.ref a268)) (H23 : Fld Z h0 a33 own_k0 "guarded" "[Z" (.ref a269)) (H24 : Fld Z h0 a33 own_k0 "extents" own_k4 (.ref a270)) (H25 : Fld Z h0 a33 own_k0 "addedAtThreshold" "[Z" (.ref a271)) (H26 : Fld Z h0 a33 own_k0 "copies" "[J" (.ref a272)) (H27 : Fld Z h0 a33 own_k0 "nextOf" "[I" (.ref a273)) (H28 : Fld Z h0 a33 own_k0 "previousOf" "[I" (.ref a274)) (H29 : Fld Z h0 a33 own_k0 "first" "I" (.int (0 : Int32))) (H30 : Fld Z h0 a33 own_k0 "last" "I" (.int (0 : Int32))) (H31 : Fld Z h0 a33 own_k0 "free" "I" (.int (-1 : Int32))) (H32 : Fld Z h0 a33 own_k0 "smallestMagnitude" "D" (.double (9218868437227405312 : UInt64))) (H33 : Fld Z h0 a33 own_k0 "size" "I" (.int (1 : Int32))) (H34 : Fld Z h0 a33 own_k0 "used" "I" (.int (1 : Int32))) (H42 : Exa Z h0 a933 own_k1) (H60 : a33 < a274) (H61 : a33 < a273) (H62 : a33 < a272) (H63 : a33 < a271) (H64 : a33 < a270) (H65 : a33 < a269) (H66 : a33 < a268) (H67 : a33 < a267) (H70 : n0 ≤ a33) (H71 : a273 < a274) (H72 : a272 < a274) (H73 : a271 < a274) (H74 : a270 < a274) (H75 : a269 < a274) (H76 : a268 < a274) (H77 : a267 < a274) (H80 : n0 ≤ a274) (H81 : a272 < a273) (H82 : a271 < a273) (H83 : a270 < a273) (H84 : a269 < a273) (H85 : a268 < a273) (H86 : a267 < a273) (H89 : n0 ≤ a273) (H90 : a271 < a272) (H91 : a270 < a272) (H92 : a269 < a272) (H93 : a268 < a272) (H94 : a267 < a272) (H97 : n0 ≤ a272) (H98 : a270 < a271) (H99 : a269 < a271) (H100 : a268 < a271) (H101 : a267 < a271) (H104 : n0 ≤ a271) (H105 : a269 < a270) (H106 : a268 < a270) (H107 : a267 < a270) (H110 : n0 ≤ a270) (H111 : a268 < a269) (H112 : a267 < a269) (H115 : n0 ≤ a269) (H116 : a267 < a268) (H119 : n0 ≤ a268) (H122 : n0 ≤ a267) :
    MetFree l (⟨own_k0, "append", own_k7⟩ : MethodName) (head1 (Jvm.Cond.code (⟨own_k0, "append", own_k7⟩ : MethodName) prog_5_method_13_code 8 none :: wds) ({ frames := 2, cells := 0, slots := 0, locals := 35 } : Room)) (fun ar_ U_ => ar_ = #[(.ref a33), (.double (4626322717216342016 : UInt64)), (.double f858), (.ref a933), (.long (0 : Int64))] ∧ Z.Warmed39 U_.vm ∧ U_.heap = h0) (fun _ _ _ _ _ => True) (fun _ U_ o_ V_ => ∃ v_ L_, o_ = .returned v_ ∧ own_s16_Q Z a33 f858 a933 a274 a273 a272 a271 a270 a269 a268 a267 a811 f386 h0 n0 v_ V_.heap L_ ∧ FrameEnd U_ o_ V_ L_ ({ frames := 2, cells := 0, slots := 0, locals := 35 } : Room).cells ({ frames := 2, cells := 0, slots := 0, locals := 35 } : Room).slots) := by
  refine own_met (y := ⟨own_k0, "append", own_k7⟩) (Q := own_s16_Q Z a33 f858 a933 a274 a273 a272 a271 a270 a269 a268 a267 a811 f386 h0 n0) own_pn1 ?_
  intro p e s m below meth c s₁ hx hby hml hZ hown hnm hret hlk X0 e0
  have N0 := Fr.nil n0
  refine own_cast (g' := (mkF m 0 #[.val (.ref a33), .val (.double (4626322717216342016 : UInt64)), .second, .val (.double f858), .second, .val (.ref a933), .val (.long (0 : Int64)), .second] [])) (by first | (simp [entryFrame, mkF, argsToLocals, Value.category]; done) | rfl) ?_
  generalize hL956 : (#[.val (.ref a33), .val (.double (4626322717216342016 : UInt64)), .second, .val (.double f858), .second, .val (.ref a933), .val (.long (0 : Int64)), .second] : Array Slot) = L956
  refine own_alN (w := (.ref a33)) X0 hx (hb hby d7_0) (by rw [← hL956]; rfl) rfl ?_
  refine own_ic X0 hx (-1 : Int32) (hb hby d7_1) rfl ?_
  refine own_dlN (w := (4626322717216342016 : UInt64)) X0 hx (hb hby d7_2) (by rw [← hL956]; rfl) ?_
  refine own_dlN (w := f858) X0 hx (hb hby d7_3) (by rw [← hL956]; rfl) ?_
  refine own_alN (w := (.ref a33)) X0 hx (hb hby d7_4) (by rw [← hL956]; rfl) rfl ?_
  refine own_getf X0 hx hZ hown (own_w hw 48 rfl) e0 H33 (hb hby d7_5) ?_
  intro T997 X997 e997
  show own_Go _ _ _ _ _ _ _ T997 (mkF m 8 L956 [(.int (1 : Int32)), (.double f858), (.double (4626322717216342016 : UInt64)), (.int (-1 : Int32)), (.ref a33)])
  refine own_pre (g' := (mkF m 20 L956 [(.double f858), (.double (4626322717216342016 : UInt64)), (.int (-1 : Int32)), (.ref a33)])) (fun t k => XS.ifYes X997.here hx rfl (pc0 := 8) (pc' := 20) rfl (hb hby d7_8) rfl (by decide) (by decide) (by decide) k) ?_
  refine own_al (w := (.ref a933)) X997 hx (hb hby d7_20) (by rw [← hL956]; rfl) rfl ?_
  refine own_ll (w := (0 : Int64)) X997 hx (hb hby d7_22) (by rw [← hL956]; rfl) ?_
  refine own_callp (a := a33) (argsL := [(.int (-1 : Int32)), (.double (4626322717216342016 : UInt64)), (.double f858), (.ref a933), (.long (0 : Int64))]) (rest := []) X997 hx hZ hown (own_s17 l Z a0 hw [] a33 f858 a933 a274 a273 a272 a271 a270 a269 a268 a267 a811 f386 h0 n0 Z0 H3 H9 H13 H14 H15 H16 H17 H18 H19 H20 H21 H22 H23 H24 H25 H26 H27 H28 H29 H30 H31 H32 H33 H34 H42 H60 H61 H62 H63 H64 H65 H66 H67 H70 H71 H72 H73 H74 H75 H76 H77 H80 H81 H82 H83 H84 H85 H86 H89 H90 H91 H92 H93 H94 H97 H98 H99 H100 H101 H104 H105 H106 H107 H110 H111 H112 H115 H116 H119 H122) H3 (own_w hw 82 rfl) (own_w hw 5 rfl) (own_w hw 84 rfl) (own_w hw 83 rfl) (own_w hw 85 rfl) (own_w hw 6 rfl) (by decide) e997 (hb hby d7_24) (by rw [hml, ← hL956]; rfl) rfl (lenOf own_pd4 rfl) (by decide) (W := 0) (Nat.le_of_eq rfl) (by decide) (by decide) (by decide) ?_
  intro v1114 T1114 lo1114 X1114 Q1114
  obtain ⟨h1114, e1114⟩ : ∃ h, T1114.heap = h := ⟨_, rfl⟩
  rw [e1114] at Q1114
  obtain ⟨rfl, N1114, K1114, F1115, F1116, F1117, F1118, F1119, F1120, F1121, F1122, F1123, F1124, F1125, F1126, F1127, F1128, F1129, F1130, F1131, F1132, F1133, F1134, F1135, F1136⟩ := Q1114
  have N1114' := Fr.app N0 N1114
  show own_Go _ _ _ _ _ _ _ T1114 (mkF m 27 L956 [(.int (1 : Int32))])
  refine own_pre (g' := (mkF m 28 L956 [])) (fun t k => XT.pop X1114.here hx rfl (hb hby d7_27) rfl rfl k) ?_
  exact own_ret0 X1114 hx hlk hret (hb hby d7_28) e1114 ⟨rfl, N1114', ((Keep.refl _ _).trans K1114 (allS (Or.inl (by simp)) (allS (Or.inl (by simp)) (allS (Or.inl (by simp)) (allS (Or.inl (by simp)) (allS (Or.inl (by simp)) (allS (Or.inl (by simp)) (allS (Or.inl (by simp)) (allS (Or.inl (by simp)) (allS (Or.inl (by simp)) all0)))))))))), F1115, F1116, F1117, F1118, F1119, F1120, F1121, F1122, F1123, F1124, F1125, F1126, F1127, F1128, F1129, F1130, F1131, F1132, F1133, F1134, F1135, F1136⟩ (by decide) (by decide)
def own_s12_Q (Z : State) (a33 : Addr) (f858 : UInt64) (a274 : Addr) (a273 : Addr) (a272 : Addr) (a271 : Addr) (a270 : Addr) (a269 : Addr) (a268 : Addr) (a267 : Addr) (a811 : Addr) (f386 : UInt64) (v4 : Int32) (v2 : Int32) (v6 : Int32) (v8 : Int32) (v10 : Int32) (h0 : Heap) (n0 : Nat) (v_ : Option Value) (h_ : Heap) (L_ : List Loc) : Prop := (fun v h L => ∃ (a933 : Addr) (f878 : UInt64), v = none ∧ Fr n0 L ∧ Keep h0 h [a33, a267, a268, a269, a270, a271, a272, a273, a274] ∧ h0.size ≤ a933 ∧ own_Ary Z h a274 .int ([(.int (-1 : Int32))] ++ own_rI 15) ∧ own_Ary Z h a273 .int ([(.int (1 : Int32)), (.int (-1 : Int32))] ++ own_rI 14) ∧ own_Ary Z h a272 .long (own_rJ 16) ∧ own_Ary Z h a271 .boolean (own_rI 16) ∧ own_Ary Z h a270 (.object own_k1) ([(.ref a811), (.ref a933)] ++ own_rN 14) ∧ own_Ary Z h a269 .boolean (own_rI 16) ∧ own_Ary Z h a268 .double ([(.double f386), (.double f858)] ++ own_rD 14) ∧ own_Ary Z h a267 .double ([(.double (4621819117588971520 : UInt64)), (.double (4626322717216342016 : UInt64))] ++ own_rD 14) ∧ Fld Z h a33 own_k0 "thresholds" "[D" (.ref a267) ∧ Fld Z h a33 own_k0 "ranks" "[D" (.ref a268) ∧ Fld Z h a33 own_k0 "guarded" "[Z" (.ref a269) ∧ Fld Z h a33 own_k0 "extents" own_k4 (.ref a270) ∧ Fld Z h a33 own_k0 "addedAtThreshold" "[Z" (.ref a271) ∧ Fld Z h a33 own_k0 "copies" "[J" (.ref a272) ∧ Fld Z h a33 own_k0 "nextOf" "[I" (.ref a273) ∧ Fld Z h a33 own_k0 "previousOf" "[I" (.ref a274) ∧ Fld Z h a33 own_k0 "first" "I" (.int (0 : Int32)) ∧ Fld Z h a33 own_k0 "last" "I" (.int (1 : Int32)) ∧ Fld Z h a33 own_k0 "free" "I" (.int (-1 : Int32)) ∧ Fld Z h a33 own_k0 "smallestMagnitude" "D" (.double (9218868437227405312 : UInt64)) ∧ Fld Z h a33 own_k0 "size" "I" (.int (2 : Int32)) ∧ Fld Z h a33 own_k0 "used" "I" (.int (2 : Int32)) ∧ Exa Z h a933 own_k1 ∧ Fld Z h a933 own_k1 "low" "D" (.double (4621819117588971520 : UInt64)) ∧ Fld Z h a933 own_k1 "gapLow" "D" (.double (4626322717216342016 : UInt64)) ∧ Fld Z h a933 own_k1 "gapHigh" "D" (.double (4626322717216342016 : UInt64)) ∧ Fld Z h a933 own_k1 "high" "D" (.double (4626322717216342016 : UInt64)) ∧ Fld Z h a933 own_k1 "below" "D" (.double f878) ∧ Fld Z h a933 own_k1 "count" "D" (.double f878) ∧ FP.Core.DInt (v4.toInt - v2.toInt) f878) v_ h_ L_
set_option maxRecDepth 65536 in
set_option maxHeartbeats 40000000 in
theorem own_s12 (l : Launch) (Z : State) (a0 : Array Value) (hw : ∀ d ∈ tables_1, d.before a0 Z = true) (wds : List Jvm.Cond) (a33 : Addr) (f858 : UInt64) (a274 : Addr) (a273 : Addr) (a272 : Addr) (a271 : Addr) (a270 : Addr) (a269 : Addr) (a268 : Addr) (a267 : Addr) (a811 : Addr) (f386 : UInt64) (v4 : Int32) (v2 : Int32) (v6 : Int32) (v8 : Int32) (v10 : Int32) (h0 : Heap) (n0 : Nat) (Z0 : n0 ≤ h0.size) (H3 : Exa Z h0 a33 own_k0) (H4 : Exa Z h0 a274 "[I") (H5 : Exa Z h0 a273 "[I") (H6 : Exa Z h0 a272 "[J") (H7 : Exa Z h0 a271 "[Z") (H8 : Exa Z h0 a270 own_k4) (H9 : own_Ovr Z h0 a270 own_k1) (H10 : Exa Z h0 a269 "[Z") (H11 : Exa Z h0 a268 "[D") (H12 : Exa Z h0 a267 "[D") (H13 : own_Ary Z h0 a274 .int ([(.int (-1 : Int32))] ++ own_rI 15)) (H14 : own_Ary Z h0 a273 .int ([(.int (-1 : Int32))] ++ own_rI 15)) (H15 : own_Ary Z h0 a272 .long (own_rJ 16)) (H16 : own_Ary Z h0 a271 .boolean (own_rI 16)) (H17 : own_Ary Z h0 a270 (.object own_k1) ([(.ref a811)] ++ own_rN 15)) (H18 : own_Ary Z h0 a269 .boolean (own_rI 16)) (H19 : own_Ary Z h0 a268 .double ([(.double f386)] ++ own_rD 15)) (H20 : own_Ary Z h0 a267 .double ([(.double (4621819117588971520 : UInt64))] ++ own_rD 15)) (H21 : Fld Z h0 a33 own_k0 "thresholds" "[D" (.ref a267)) (H22 : Fld Z h0 a33 own_k0 "ranks" "[D" (.ref a268)) (H23 : Fld Z h0 a33 own_k0 "guarded" "[Z" (.ref a269)) (H24 : Fld Z h0 a33 own_k0 "extents" own_k4 (.ref a270)) (H25 : Fld Z h0 a33 own_k0 "addedAtThreshold" "[Z" (.ref a271)) (H26 : Fld Z h0 a33 own_k0 "copies" "[J" (.ref a272)) (H27 : Fld Z h0 a33 own_k0 "nextOf" "[I" (.ref a273)) (H28 : Fld Z h0 a33 own_k0 "previousOf" "[I" (.ref a274)) (H29 : Fld Z h0 a33 own_k0 "first" "I" (.int (0 : Int32))) (H30 : Fld Z h0 a33 own_k0 "last" "I" (.int (0 : Int32))) (H31 : Fld Z h0 a33 own_k0 "free" "I" (.int (-1 : Int32))) (H32 : Fld Z h0 a33 own_k0 "smallestMagnitude" "D" (.double (9218868437227405312 : UInt64))) (H33 : Fld Z h0 a33 own_k0 "size" "I" (.int (1 : Int32))) (H34 : Fld Z h0 a33 own_k0 "used" "I" (.int (1 : Int32))) (H52 : a33 < a267) (H53 : a33 < a268) (H54 : a33 < a269) (H55 : a33 < a270) (H56 : a33 < a271) (H57 : a33 < a272) (H58 : a33 < a273) (H59 : a33 < a274) (H61 : n0 ≤ a33) (H62 : a267 < a268) (H63 : a267 < a269) (H64 : a267 < a270) (H65 : a267 < a271) (H66 : a267 < a272) (H67 : a267 < a273) (H68 : a267 < a274) (H70 : n0 ≤ a267) (H71 : a268 < a269) (H72 : a268 < a270) (H73 : a268 < a271) (H74 : a268 < a272) (H75 : a268 < a273) (H76 : a268 < a274) (H78 : n0 ≤ a268) (H79 : a269 < a270) (H80 : a269 < a271) (H81 : a269 < a272) (H82 : a269 < a273) (H83 : a269 < a274) (H85 : n0 ≤ a269) (H86 : a270 < a271) (H87 : a270 < a272) (H88 : a270 < a273) (H89 : a270 < a274) (H91 : n0 ≤ a270) (H92 : a271 < a272) (H93 : a271 < a273) (H94 : a271 < a274) (H96 : n0 ≤ a271) (H97 : a272 < a273) (H98 : a272 < a274) (H100 : n0 ≤ a272) (H101 : a273 < a274) (H103 : n0 ≤ a273) (H105 : n0 ≤ a274) (H107 : FP.Core.DInt v4.toInt f858) (H108 : FP.Core.DInt v2.toInt f386) (H109 : 1 ≤ v2.toInt ∧ v2.toInt ≤ v4.toInt ∧ v4.toInt < v6.toInt ∧ v6.toInt < v8.toInt ∧ v8.toInt ≤ 8388608 ∧ 1 ≤ v10.toInt ∧ v10.toInt ≤ 8388608) :
    MetFree l (⟨own_k0, "append", "(DD)V"⟩ : MethodName) (head1 (Jvm.Cond.code (⟨own_k0, "append", "(DD)V"⟩ : MethodName) prog_5_method_12_code 7 none :: wds) ({ frames := 4, cells := 1, slots := 6, locals := 71 } : Room)) (fun ar_ U_ => ar_ = #[(.ref a33), (.double (4626322717216342016 : UInt64)), (.double f858)] ∧ Z.Warmed39 U_.vm ∧ U_.heap = h0) (fun _ _ _ _ _ => True) (fun _ U_ o_ V_ => ∃ v_ L_, o_ = .returned v_ ∧ own_s12_Q Z a33 f858 a274 a273 a272 a271 a270 a269 a268 a267 a811 f386 v4 v2 v6 v8 v10 h0 n0 v_ V_.heap L_ ∧ FrameEnd U_ o_ V_ L_ ({ frames := 4, cells := 1, slots := 6, locals := 71 } : Room).cells ({ frames := 4, cells := 1, slots := 6, locals := 71 } : Room).slots) := by
  refine own_met (y := ⟨own_k0, "append", "(DD)V"⟩) (Q := own_s12_Q Z a33 f858 a274 a273 a272 a271 a270 a269 a268 a267 a811 f386 v4 v2 v6 v8 v10 h0 n0) own_pn1 ?_
  intro p e s m below meth c s₁ hx hby hml hZ hown hnm hret hlk X0 e0
  have N0 := Fr.nil n0
  refine own_cast (g' := (mkF m 0 #[.val (.ref a33), .val (.double (4626322717216342016 : UInt64)), .second, .val (.double f858), .second, .unset, .unset] [])) (by first | (simp [entryFrame, mkF, argsToLocals, Value.category]; done) | rfl) ?_
  generalize hL859 : (#[.val (.ref a33), .val (.double (4626322717216342016 : UInt64)), .second, .val (.double f858), .second, .unset, .unset] : Array Slot) = L859
  refine own_alN (w := (.ref a33)) X0 hx (hb hby d3_0) (by rw [← hL859]; rfl) rfl ?_
  refine own_getf X0 hx hZ hown (own_w hw 48 rfl) e0 H33 (hb hby d3_1) ?_
  intro T871 X871 e871
  show own_Go _ _ _ _ _ _ _ T871 (mkF m 4 L859 [(.int (1 : Int32))])
  refine own_pre (g' := (mkF m 11 L859 [])) (fun t k => XS.ifYes X871.here hx rfl (pc0 := 4) (pc' := 11) rfl (hb hby d3_4) rfl (by decide) (by decide) (by decide) k) ?_
  refine own_alN (w := (.ref a33)) X871 hx (hb hby d3_11) (by rw [← hL859]; rfl) rfl ?_
  refine own_getf X871 hx hZ hown (own_w hw 13 rfl) e871 H21 (hb hby d3_12) ?_
  intro T872 X872 e872
  show own_Go _ _ _ _ _ _ _ T872 (mkF m 15 L859 [(.ref a267)])
  refine own_alN (w := (.ref a33)) X872 hx (hb hby d3_15) (by rw [← hL859]; rfl) rfl ?_
  refine own_getf X872 hx hZ hown (own_w hw 35 rfl) e872 H30 (hb hby d3_16) ?_
  intro T873 X873 e873
  show own_Go _ _ _ _ _ _ _ T873 (mkF m 19 L859 [(.int (0 : Int32)), (.ref a267)])
  refine own_daload X873 hx hZ e873 H20 (hb hby d3_19) (n := 0) (v := (.double (4621819117588971520 : UInt64))) (by decide) (by decide) rfl ?_
  show own_Go _ _ _ _ _ _ _ T873 (mkF m 20 L859 [(.double (4621819117588971520 : UInt64))])
  refine own_pre (g' := (mkF m 22 #[.val (.ref a33), .val (.double (4626322717216342016 : UInt64)), .second, .val (.double f858), .second, .val (.double (4621819117588971520 : UInt64)), .second] [])) (fun t k => XS.dstore X873.here hx rfl (hb hby d3_20) rfl (l' := #[.val (.ref a33), .val (.double (4626322717216342016 : UInt64)), .second, .val (.double f858), .second, .val (.double (4621819117588971520 : UInt64)), .second]) (by rw [← hL859]; rfl) k) ?_
  generalize hL874 : (#[.val (.ref a33), .val (.double (4626322717216342016 : UInt64)), .second, .val (.double f858), .second, .val (.double (4621819117588971520 : UInt64)), .second] : Array Slot) = L874
  refine own_alN (w := (.ref a33)) X873 hx (hb hby d3_22) (by rw [← hL874]; rfl) rfl ?_
  refine own_dlN (w := (4626322717216342016 : UInt64)) X873 hx (hb hby d3_23) (by rw [← hL874]; rfl) ?_
  refine own_dlN (w := f858) X873 hx (hb hby d3_24) (by rw [← hL874]; rfl) ?_
  refine own_dl (w := (4621819117588971520 : UInt64)) X873 hx (hb hby d3_25) (by rw [← hL874]; rfl) ?_
  refine own_dlN (w := (4626322717216342016 : UInt64)) X873 hx (hb hby d3_27) (by rw [← hL874]; rfl) ?_
  refine own_alN (w := (.ref a33)) X873 hx (hb hby d3_28) (by rw [← hL874]; rfl) rfl ?_
  refine own_getf X873 hx hZ hown (own_w hw 48 rfl) e873 H33 (hb hby d3_29) ?_
  intro T875 X875 e875
  show own_Go _ _ _ _ _ _ _ T875 (mkF m 32 L874 [(.int (1 : Int32)), (.double (4626322717216342016 : UInt64)), (.double (4621819117588971520 : UInt64)), (.double f858), (.double (4626322717216342016 : UInt64)), (.ref a33)])
  refine own_pre (g' := (mkF m 39 L874 [(.double (4626322717216342016 : UInt64)), (.double (4621819117588971520 : UInt64)), (.double f858), (.double (4626322717216342016 : UInt64)), (.ref a33)])) (fun t k => XS.ifYes X875.here hx rfl (pc0 := 32) (pc' := 39) rfl (hb hby d3_32) rfl (by decide) (by decide) (by decide) k) ?_
  refine own_dlN (w := f858) X875 hx (hb hby d3_39) (by rw [← hL874]; rfl) ?_
  refine own_alN (w := (.ref a33)) X875 hx (hb hby d3_40) (by rw [← hL874]; rfl) rfl ?_
  refine own_getf X875 hx hZ hown (own_w hw 15 rfl) e875 H22 (hb hby d3_41) ?_
  intro T876 X876 e876
  show own_Go _ _ _ _ _ _ _ T876 (mkF m 44 L874 [(.ref a268), (.double f858), (.double (4626322717216342016 : UInt64)), (.double (4621819117588971520 : UInt64)), (.double f858), (.double (4626322717216342016 : UInt64)), (.ref a33)])
  refine own_alN (w := (.ref a33)) X876 hx (hb hby d3_44) (by rw [← hL874]; rfl) rfl ?_
  refine own_getf X876 hx hZ hown (own_w hw 35 rfl) e876 H30 (hb hby d3_45) ?_
  intro T877 X877 e877
  show own_Go _ _ _ _ _ _ _ T877 (mkF m 48 L874 [(.int (0 : Int32)), (.ref a268), (.double f858), (.double (4626322717216342016 : UInt64)), (.double (4621819117588971520 : UInt64)), (.double f858), (.double (4626322717216342016 : UInt64)), (.ref a33)])
  refine own_daload X877 hx hZ e877 H19 (hb hby d3_48) (n := 0) (v := (.double f386)) (by decide) (by decide) rfl ?_
  show own_Go _ _ _ _ _ _ _ T877 (mkF m 49 L874 [(.double f386), (.double f858), (.double (4626322717216342016 : UInt64)), (.double (4621819117588971520 : UInt64)), (.double f858), (.double (4626322717216342016 : UInt64)), (.ref a33)])
  obtain ⟨f878, hf878⟩ : ∃ z, FP.dsub f858 f386 = z := ⟨_, rfl⟩
  have Df878 : Jvm.FP.Core.DInt (v4.toInt - v2.toInt) f878 := hf878 ▸ Jvm.FP.Core.dsub_int H107 H108 (by have := H109; have := rng32 v4; have := rng32 v2; omega)
  refine own_pre (g' := (mkF m 50 L874 [(.double f878), (.double (4626322717216342016 : UInt64)), (.double (4621819117588971520 : UInt64)), (.double f858), (.double (4626322717216342016 : UInt64)), (.ref a33)])) (fun t k => XS.dsubS X877.here hx rfl (hb hby d3_49) rfl (by rw [hf878]; exact own_DInt_nn Df878) hf878 k) ?_
  refine own_calls (argsL := [(.double (4621819117588971520 : UInt64)), (.double (4626322717216342016 : UInt64)), (.double f878)]) (rest := [(.double f858), (.double (4626322717216342016 : UInt64)), (.ref a33)]) X877 hx hZ hown (own_s13 l Z a0 hw [] f878 h0 n0 Z0 ) (own_w hw 50 rfl) (own_w hw 51 rfl) (own_w hw 53 rfl) (own_w hw 52 rfl) (by decide) e877 (hb hby d3_50) (by rw [hml, ← hL874]; rfl) rfl (lenOf own_pd2 rfl) (by decide) (W := 5) (Nat.le_of_eq rfl) (by decide) (by decide) (by decide) ?_
  intro v932 T932 lo932 X932 Q932
  obtain ⟨h932, e932⟩ : ∃ h, T932.heap = h := ⟨_, rfl⟩
  rw [e932] at Q932
  obtain ⟨a933, rfl, N932, K932, ge934, F935, F936, F937, F938, F939, F940, F941⟩ := Q932
  have N932' := Fr.app N0 N932
  show own_Go _ _ _ _ _ _ _ T932 (mkF m 53 L874 [(.ref a933), (.double f858), (.double (4626322717216342016 : UInt64)), (.ref a33)])
  have lt944 : a33 < a933 := Nat.lt_of_lt_of_le H3.lt ge934
  have lt945 : a274 < a933 := Nat.lt_of_lt_of_le H4.lt ge934
  have lt946 : a273 < a933 := Nat.lt_of_lt_of_le H5.lt ge934
  have lt947 : a272 < a933 := Nat.lt_of_lt_of_le H6.lt ge934
  have lt948 : a271 < a933 := Nat.lt_of_lt_of_le H7.lt ge934
  have lt949 : a270 < a933 := Nat.lt_of_lt_of_le H8.lt ge934
  have lt950 : a269 < a933 := Nat.lt_of_lt_of_le H10.lt ge934
  have lt951 : a268 < a933 := Nat.lt_of_lt_of_le H11.lt ge934
  have lt952 : a267 < a933 := Nat.lt_of_lt_of_le H12.lt ge934
  have ge955 : h0.size ≤ a933 := Nat.le_trans (Nat.le_refl _) ge934
  refine own_pre (g' := (mkF m 54 L874 [(.long (0 : Int64)), (.ref a933), (.double f858), (.double (4626322717216342016 : UInt64)), (.ref a33)])) (fun t k => XT.lconst X932.here hx rfl (hb hby d3_53) k) ?_
  have F958 := (H3.keep K932)
  have F964 := (H9.keep K932)
  have F968 := (H13.keep K932 nin0)
  have F969 := (H14.keep K932 nin0)
  have F970 := (H15.keep K932 nin0)
  have F971 := (H16.keep K932 nin0)
  have F972 := (H17.keep K932 nin0)
  have F973 := (H18.keep K932 nin0)
  have F974 := (H19.keep K932 nin0)
  have F975 := (H20.keep K932 nin0)
  have F976 := (H21.keep K932 nin0)
  have F977 := (H22.keep K932 nin0)
  have F978 := (H23.keep K932 nin0)
  have F979 := (H24.keep K932 nin0)
  have F980 := (H25.keep K932 nin0)
  have F981 := (H26.keep K932 nin0)
  have F982 := (H27.keep K932 nin0)
  have F983 := (H28.keep K932 nin0)
  have F984 := (H29.keep K932 nin0)
  have F985 := (H30.keep K932 nin0)
  have F986 := (H31.keep K932 nin0)
  have F987 := (H32.keep K932 nin0)
  have F988 := (H33.keep K932 nin0)
  have F989 := (H34.keep K932 nin0)
  have F1138 : n0 ≤ h932.size := (Nat.le_trans Z0 K932.1)
  refine own_callv (a := a33) (argsL := [(.double (4626322717216342016 : UInt64)), (.double f858), (.ref a933), (.long (0 : Int64))]) (rest := []) X932 hx hZ hown (own_s16 l Z a0 hw [] a33 f858 a933 a274 a273 a272 a271 a270 a269 a268 a267 a811 f386 h932 n0 F1138 F958 F964 F968 F969 F970 F971 F972 F973 F974 F975 F976 F977 F978 F979 F980 F981 F982 F983 F984 F985 F986 F987 F988 F989 F935 H59 H58 H57 H56 H55 H54 H53 H52 H61 H101 H98 H94 H89 H83 H76 H68 H105 H97 H93 H88 H82 H75 H67 H103 H92 H87 H81 H74 H66 H100 H86 H80 H73 H65 H96 H79 H72 H64 H91 H71 H63 H85 H62 H78 H70) F958 (own_w hw 77 rfl) (own_w hw 78 rfl) (own_w hw 80 rfl) (own_w hw 79 rfl) (own_w hw 81 rfl) (own_w hw 6 rfl) (by decide) e932 (hb hby d3_54) (by rw [hml, ← hL874]; rfl) rfl (lenOf own_pd5 rfl) (by decide) (W := 0) (Nat.le_of_eq rfl) (by decide) (by decide) (by decide) ?_
  intro v1139 T1139 lo1139 X1139 Q1139
  obtain ⟨h1139, e1139⟩ : ∃ h, T1139.heap = h := ⟨_, rfl⟩
  rw [e1139] at Q1139
  obtain ⟨rfl, N1139, K1139, F1140, F1141, F1142, F1143, F1144, F1145, F1146, F1147, F1148, F1149, F1150, F1151, F1152, F1153, F1154, F1155, F1156, F1157, F1158, F1159, F1160, F1161⟩ := Q1139
  have N1139' := Fr.app N932' N1139
  show own_Go _ _ _ _ _ _ _ T1139 (mkF m 57 L874 [])
  have F1163 := (F935.keep K1139)
  have F1164 := (F936.keep K1139 (ninS (Nat.ne_of_gt lt944) (ninS (Nat.ne_of_gt lt952) (ninS (Nat.ne_of_gt lt951) (ninS (Nat.ne_of_gt lt950) (ninS (Nat.ne_of_gt lt949) (ninS (Nat.ne_of_gt lt948) (ninS (Nat.ne_of_gt lt947) (ninS (Nat.ne_of_gt lt946) (ninS (Nat.ne_of_gt lt945) nin0))))))))))
  have F1165 := (F937.keep K1139 (ninS (Nat.ne_of_gt lt944) (ninS (Nat.ne_of_gt lt952) (ninS (Nat.ne_of_gt lt951) (ninS (Nat.ne_of_gt lt950) (ninS (Nat.ne_of_gt lt949) (ninS (Nat.ne_of_gt lt948) (ninS (Nat.ne_of_gt lt947) (ninS (Nat.ne_of_gt lt946) (ninS (Nat.ne_of_gt lt945) nin0))))))))))
  have F1166 := (F938.keep K1139 (ninS (Nat.ne_of_gt lt944) (ninS (Nat.ne_of_gt lt952) (ninS (Nat.ne_of_gt lt951) (ninS (Nat.ne_of_gt lt950) (ninS (Nat.ne_of_gt lt949) (ninS (Nat.ne_of_gt lt948) (ninS (Nat.ne_of_gt lt947) (ninS (Nat.ne_of_gt lt946) (ninS (Nat.ne_of_gt lt945) nin0))))))))))
  have F1167 := (F939.keep K1139 (ninS (Nat.ne_of_gt lt944) (ninS (Nat.ne_of_gt lt952) (ninS (Nat.ne_of_gt lt951) (ninS (Nat.ne_of_gt lt950) (ninS (Nat.ne_of_gt lt949) (ninS (Nat.ne_of_gt lt948) (ninS (Nat.ne_of_gt lt947) (ninS (Nat.ne_of_gt lt946) (ninS (Nat.ne_of_gt lt945) nin0))))))))))
  have F1168 := (F940.keep K1139 (ninS (Nat.ne_of_gt lt944) (ninS (Nat.ne_of_gt lt952) (ninS (Nat.ne_of_gt lt951) (ninS (Nat.ne_of_gt lt950) (ninS (Nat.ne_of_gt lt949) (ninS (Nat.ne_of_gt lt948) (ninS (Nat.ne_of_gt lt947) (ninS (Nat.ne_of_gt lt946) (ninS (Nat.ne_of_gt lt945) nin0))))))))))
  have F1169 := (F941.keep K1139 (ninS (Nat.ne_of_gt lt944) (ninS (Nat.ne_of_gt lt952) (ninS (Nat.ne_of_gt lt951) (ninS (Nat.ne_of_gt lt950) (ninS (Nat.ne_of_gt lt949) (ninS (Nat.ne_of_gt lt948) (ninS (Nat.ne_of_gt lt947) (ninS (Nat.ne_of_gt lt946) (ninS (Nat.ne_of_gt lt945) nin0))))))))))
  exact own_ret0 X1139 hx hlk hret (hb hby d3_57) e1139 ⟨a933, f878, rfl, N1139', (((Keep.refl _ _).trans K932 all0).trans K1139 (allS (Or.inl (by simp)) (allS (Or.inl (by simp)) (allS (Or.inl (by simp)) (allS (Or.inl (by simp)) (allS (Or.inl (by simp)) (allS (Or.inl (by simp)) (allS (Or.inl (by simp)) (allS (Or.inl (by simp)) (allS (Or.inl (by simp)) all0)))))))))), ge955, F1140, F1141, F1142, F1143, F1144, F1145, F1146, F1147, F1148, F1149, F1150, F1151, F1152, F1153, F1154, F1155, F1156, F1157, F1158, F1159, F1160, F1161, F1163, F1164, F1165, F1166, F1167, F1168, F1169, Df878⟩ (by decide) (by decide)
def own_s22_Q (Z : State) (a1251 : Addr) (h0 : Heap) (n0 : Nat) (v_ : Option Value) (h_ : Heap) (L_ : List Loc) : Prop := (fun v h L => v = none ∧ Fr n0 L ∧ h = h0) v_ h_ L_
set_option maxRecDepth 65536 in
set_option maxHeartbeats 40000000 in
theorem own_s22 (l : Launch) (Z : State) (a0 : Array Value) (hw : ∀ d ∈ tables_1, d.before a0 Z = true) (wds : List Jvm.Cond) (a1251 : Addr) (h0 : Heap) (n0 : Nat) (Z0 : n0 ≤ h0.size)  :
    MetFree l (⟨"java/lang/Record", "<init>", "()V"⟩ : MethodName) (head1 (Jvm.Cond.code (⟨"java/lang/Record", "<init>", "()V"⟩ : MethodName) jdk_30_method_1_code 1 none :: wds) ({ frames := 1, cells := 0, slots := 0, locals := 12 } : Room)) (fun ar_ U_ => ar_ = #[(.ref a1251)] ∧ Z.Warmed39 U_.vm ∧ U_.heap = h0) (fun _ _ _ _ _ => True) (fun _ U_ o_ V_ => ∃ v_ L_, o_ = .returned v_ ∧ own_s22_Q Z a1251 h0 n0 v_ V_.heap L_ ∧ FrameEnd U_ o_ V_ L_ ({ frames := 1, cells := 0, slots := 0, locals := 12 } : Room).cells ({ frames := 1, cells := 0, slots := 0, locals := 12 } : Room).slots) := by
  refine own_met (y := ⟨"java/lang/Record", "<init>", "()V"⟩) (Q := own_s22_Q Z a1251 h0 n0) own_pn3 ?_
  intro p e s m below meth c s₁ hx hby hml hZ hown hnm hret hlk X0 e0
  have N0 := Fr.nil n0
  refine own_cast (g' := (mkF m 0 #[.val (.ref a1251)] [])) (by first | (simp [entryFrame, mkF, argsToLocals, Value.category]; done) | rfl) ?_
  refine own_alN (w := (.ref a1251)) X0 hx (hb hby d6_0) rfl rfl ?_
  refine own_init0 X0 hx hZ hown (own_w hw 64 rfl) (own_w hw 11 rfl) (own_w hw 12 rfl) e0 (hb hby d6_1) (by rw [hml]; rfl) (by decide) (W := 0) (Nat.le_of_eq rfl) (by decide) ?_
  intro T1264 X1264 e1264
  show own_Go _ _ _ _ _ _ _ T1264 (mkF m 4 #[.val (.ref a1251)] [])
  exact own_ret0 X1264 hx hlk hret (hb hby d6_4) e1264 ⟨rfl, N0, rfl⟩ (by decide) (by decide)
def own_s21_Q (Z : State) (a1251 : Addr) (f1249 : UInt64) (h0 : Heap) (n0 : Nat) (v_ : Option Value) (h_ : Heap) (L_ : List Loc) : Prop := (fun v h L => v = none ∧ Fr n0 L ∧ Keep h0 h [a1251] ∧ Fld Z h a1251 own_k1 "low" "D" (.double (4626322717216342016 : UInt64)) ∧ Fld Z h a1251 own_k1 "gapLow" "D" (.double (4629137466983448576 : UInt64)) ∧ Fld Z h a1251 own_k1 "gapHigh" "D" (.double (4629137466983448576 : UInt64)) ∧ Fld Z h a1251 own_k1 "high" "D" (.double (4629137466983448576 : UInt64)) ∧ Fld Z h a1251 own_k1 "below" "D" (.double f1249) ∧ Fld Z h a1251 own_k1 "count" "D" (.double f1249)) v_ h_ L_
set_option maxRecDepth 65536 in
set_option maxHeartbeats 40000000 in
theorem own_s21 (l : Launch) (Z : State) (a0 : Array Value) (hw : ∀ d ∈ tables_1, d.before a0 Z = true) (wds : List Jvm.Cond) (a1251 : Addr) (f1249 : UInt64) (h0 : Heap) (n0 : Nat) (Z0 : n0 ≤ h0.size) (H3 : Exa Z h0 a1251 own_k1) (H4 : Fld Z h0 a1251 own_k1 "low" "D" (.double (0 : UInt64))) (H5 : Fld Z h0 a1251 own_k1 "gapLow" "D" (.double (0 : UInt64))) (H6 : Fld Z h0 a1251 own_k1 "gapHigh" "D" (.double (0 : UInt64))) (H7 : Fld Z h0 a1251 own_k1 "high" "D" (.double (0 : UInt64))) (H8 : Fld Z h0 a1251 own_k1 "below" "D" (.double (0 : UInt64))) (H9 : Fld Z h0 a1251 own_k1 "count" "D" (.double (0 : UInt64))) (H11 : n0 ≤ a1251) :
    MetFree l (⟨own_k1, "<init>", "(DDDDDD)V"⟩ : MethodName) (head1 (Jvm.Cond.code (⟨own_k1, "<init>", "(DDDDDD)V"⟩ : MethodName) prog_17_method_1_code 13 none :: wds) ({ frames := 2, cells := 0, slots := 0, locals := 24 } : Room)) (fun ar_ U_ => ar_ = #[(.ref a1251), (.double (4626322717216342016 : UInt64)), (.double (4629137466983448576 : UInt64)), (.double (4629137466983448576 : UInt64)), (.double (4629137466983448576 : UInt64)), (.double f1249), (.double f1249)] ∧ Z.Warmed39 U_.vm ∧ U_.heap = h0) (fun _ _ _ _ _ => True) (fun _ U_ o_ V_ => ∃ v_ L_, o_ = .returned v_ ∧ own_s21_Q Z a1251 f1249 h0 n0 v_ V_.heap L_ ∧ FrameEnd U_ o_ V_ L_ ({ frames := 2, cells := 0, slots := 0, locals := 24 } : Room).cells ({ frames := 2, cells := 0, slots := 0, locals := 24 } : Room).slots) := by
  refine own_met (y := ⟨own_k1, "<init>", "(DDDDDD)V"⟩) (Q := own_s21_Q Z a1251 f1249 h0 n0) own_pn2 ?_
  intro p e s m below meth c s₁ hx hby hml hZ hown hnm hret hlk X0 e0
  have N0 := Fr.nil n0
  refine own_cast (g' := (mkF m 0 #[.val (.ref a1251), .val (.double (4626322717216342016 : UInt64)), .second, .val (.double (4629137466983448576 : UInt64)), .second, .val (.double (4629137466983448576 : UInt64)), .second, .val (.double (4629137466983448576 : UInt64)), .second, .val (.double f1249), .second, .val (.double f1249), .second] [])) (by first | (simp [entryFrame, mkF, argsToLocals, Value.category]; done) | rfl) ?_
  generalize hL1261 : (#[.val (.ref a1251), .val (.double (4626322717216342016 : UInt64)), .second, .val (.double (4629137466983448576 : UInt64)), .second, .val (.double (4629137466983448576 : UInt64)), .second, .val (.double (4629137466983448576 : UInt64)), .second, .val (.double f1249), .second, .val (.double f1249), .second] : Array Slot) = L1261
  refine own_alN (w := (.ref a1251)) X0 hx (hb hby d5_0) (by rw [← hL1261]; rfl) rfl ?_
  refine own_init (a := a1251) (argsL := []) (rest := []) X0 hx hZ hown (own_s22 l Z a0 hw [] a1251 h0 n0 Z0 ) rfl (own_w hw 59 rfl) (own_w hw 60 rfl) (own_w hw 63 rfl) (own_w hw 62 rfl) (by decide) e0 (hb hby d5_1) (by rw [hml, ← hL1261]; rfl) rfl (lenOf own_pd0 rfl) (by decide) (W := 0) (Nat.le_of_eq rfl) (by decide) (by decide) (by decide) ?_
  intro v1265 T1265 lo1265 X1265 Q1265
  obtain ⟨h1265, e1265⟩ : ∃ h, T1265.heap = h := ⟨_, rfl⟩
  rw [e1265] at Q1265
  obtain ⟨rfl, N1265, K1265⟩ := Q1265
  have N1265' := Fr.app N0 N1265
  have e1265' : T1265.heap = h0 := e1265.trans K1265
  show own_Go _ _ _ _ _ _ _ T1265 (mkF m 4 L1261 [])
  refine own_alN (w := (.ref a1251)) X1265 hx (hb hby d5_4) (by rw [← hL1261]; rfl) rfl ?_
  refine own_dlN (w := (4626322717216342016 : UInt64)) X1265 hx (hb hby d5_5) (by rw [← hL1261]; rfl) ?_
  refine own_putf X1265 hx hZ hown (own_w hw 65 rfl) e1265' N1265' H11 H4 H3 (Or.inr ⟨(own_w hw 66 rfl), rfl, hnm⟩) (own_w hw 55 rfl) (ty := .double) (by decide) rfl rfl (hb hby d5_6) ?_
  intro T1266 h1266 lo1266 X1266 e1266 N1266 W1266
  have F1267 := H4.same W1266
  show own_Go _ _ _ _ _ _ _ T1266 (mkF m 9 L1261 [])
  refine own_alN (w := (.ref a1251)) X1266 hx (hb hby d5_9) (by rw [← hL1261]; rfl) rfl ?_
  refine own_dlN (w := (4629137466983448576 : UInt64)) X1266 hx (hb hby d5_10) (by rw [← hL1261]; rfl) ?_
  have F1268 := (H5.other W1266 (Or.inr (own_sne (own_f14 hw) (own_f15 hw) (by decide))))
  have F1269 := (H3.wr W1266)
  refine own_putf X1266 hx hZ hown (own_w hw 67 rfl) e1266 N1266 H11 F1268 F1269 (Or.inr ⟨(own_w hw 68 rfl), rfl, hnm⟩) (own_w hw 55 rfl) (ty := .double) (by decide) rfl rfl (hb hby d5_11) ?_
  intro T1270 h1270 lo1270 X1270 e1270 N1270 W1270
  have F1271 := F1268.same W1270
  show own_Go _ _ _ _ _ _ _ T1270 (mkF m 14 L1261 [])
  refine own_alN (w := (.ref a1251)) X1270 hx (hb hby d5_14) (by rw [← hL1261]; rfl) rfl ?_
  refine own_dl (w := (4629137466983448576 : UInt64)) X1270 hx (hb hby d5_15) (by rw [← hL1261]; rfl) ?_
  have F1272 := ((H6.other W1266 (Or.inr (own_sne (own_f16 hw) (own_f15 hw) (by decide)))).other W1270 (Or.inr (own_sne (own_f16 hw) (own_f14 hw) (by decide))))
  have F1273 := (F1269.wr W1270)
  refine own_putf X1270 hx hZ hown (own_w hw 69 rfl) e1270 N1270 H11 F1272 F1273 (Or.inr ⟨(own_w hw 70 rfl), rfl, hnm⟩) (own_w hw 55 rfl) (ty := .double) (by decide) rfl rfl (hb hby d5_17) ?_
  intro T1274 h1274 lo1274 X1274 e1274 N1274 W1274
  have F1275 := F1272.same W1274
  show own_Go _ _ _ _ _ _ _ T1274 (mkF m 20 L1261 [])
  refine own_alN (w := (.ref a1251)) X1274 hx (hb hby d5_20) (by rw [← hL1261]; rfl) rfl ?_
  refine own_dl (w := (4629137466983448576 : UInt64)) X1274 hx (hb hby d5_21) (by rw [← hL1261]; rfl) ?_
  have F1276 := (((H7.other W1266 (Or.inr (own_sne (own_f17 hw) (own_f15 hw) (by decide)))).other W1270 (Or.inr (own_sne (own_f17 hw) (own_f14 hw) (by decide)))).other W1274 (Or.inr (own_sne (own_f17 hw) (own_f16 hw) (by decide))))
  have F1277 := (F1273.wr W1274)
  refine own_putf X1274 hx hZ hown (own_w hw 71 rfl) e1274 N1274 H11 F1276 F1277 (Or.inr ⟨(own_w hw 72 rfl), rfl, hnm⟩) (own_w hw 55 rfl) (ty := .double) (by decide) rfl rfl (hb hby d5_23) ?_
  intro T1278 h1278 lo1278 X1278 e1278 N1278 W1278
  have F1279 := F1276.same W1278
  show own_Go _ _ _ _ _ _ _ T1278 (mkF m 26 L1261 [])
  refine own_alN (w := (.ref a1251)) X1278 hx (hb hby d5_26) (by rw [← hL1261]; rfl) rfl ?_
  refine own_dl (w := f1249) X1278 hx (hb hby d5_27) (by rw [← hL1261]; rfl) ?_
  have F1280 := ((((H8.other W1266 (Or.inr (own_sne (own_f18 hw) (own_f15 hw) (by decide)))).other W1270 (Or.inr (own_sne (own_f18 hw) (own_f14 hw) (by decide)))).other W1274 (Or.inr (own_sne (own_f18 hw) (own_f16 hw) (by decide)))).other W1278 (Or.inr (own_sne (own_f18 hw) (own_f17 hw) (by decide))))
  have F1281 := (F1277.wr W1278)
  refine own_putf X1278 hx hZ hown (own_w hw 73 rfl) e1278 N1278 H11 F1280 F1281 (Or.inr ⟨(own_w hw 74 rfl), rfl, hnm⟩) (own_w hw 55 rfl) (ty := .double) (by decide) rfl rfl (hb hby d5_29) ?_
  intro T1282 h1282 lo1282 X1282 e1282 N1282 W1282
  have F1283 := F1280.same W1282
  show own_Go _ _ _ _ _ _ _ T1282 (mkF m 32 L1261 [])
  refine own_alN (w := (.ref a1251)) X1282 hx (hb hby d5_32) (by rw [← hL1261]; rfl) rfl ?_
  refine own_dl (w := f1249) X1282 hx (hb hby d5_33) (by rw [← hL1261]; rfl) ?_
  have F1284 := (((((H9.other W1266 (Or.inr (own_sne (own_f19 hw) (own_f15 hw) (by decide)))).other W1270 (Or.inr (own_sne (own_f19 hw) (own_f14 hw) (by decide)))).other W1274 (Or.inr (own_sne (own_f19 hw) (own_f16 hw) (by decide)))).other W1278 (Or.inr (own_sne (own_f19 hw) (own_f17 hw) (by decide)))).other W1282 (Or.inr (own_sne (own_f19 hw) (own_f18 hw) (by decide))))
  have F1285 := (F1281.wr W1282)
  refine own_putf X1282 hx hZ hown (own_w hw 75 rfl) e1282 N1282 H11 F1284 F1285 (Or.inr ⟨(own_w hw 76 rfl), rfl, hnm⟩) (own_w hw 55 rfl) (ty := .double) (by decide) rfl rfl (hb hby d5_35) ?_
  intro T1286 h1286 lo1286 X1286 e1286 N1286 W1286
  have F1287 := F1284.same W1286
  show own_Go _ _ _ _ _ _ _ T1286 (mkF m 38 L1261 [])
  have F1288 := (((((F1267.other W1270 (Or.inr (own_sne (own_f15 hw) (own_f14 hw) (by decide)))).other W1274 (Or.inr (own_sne (own_f15 hw) (own_f16 hw) (by decide)))).other W1278 (Or.inr (own_sne (own_f15 hw) (own_f17 hw) (by decide)))).other W1282 (Or.inr (own_sne (own_f15 hw) (own_f18 hw) (by decide)))).other W1286 (Or.inr (own_sne (own_f15 hw) (own_f19 hw) (by decide))))
  have F1289 := ((((F1271.other W1274 (Or.inr (own_sne (own_f14 hw) (own_f16 hw) (by decide)))).other W1278 (Or.inr (own_sne (own_f14 hw) (own_f17 hw) (by decide)))).other W1282 (Or.inr (own_sne (own_f14 hw) (own_f18 hw) (by decide)))).other W1286 (Or.inr (own_sne (own_f14 hw) (own_f19 hw) (by decide))))
  have F1290 := (((F1275.other W1278 (Or.inr (own_sne (own_f16 hw) (own_f17 hw) (by decide)))).other W1282 (Or.inr (own_sne (own_f16 hw) (own_f18 hw) (by decide)))).other W1286 (Or.inr (own_sne (own_f16 hw) (own_f19 hw) (by decide))))
  have F1291 := ((F1279.other W1282 (Or.inr (own_sne (own_f17 hw) (own_f18 hw) (by decide)))).other W1286 (Or.inr (own_sne (own_f17 hw) (own_f19 hw) (by decide))))
  have F1292 := (F1283.other W1286 (Or.inr (own_sne (own_f18 hw) (own_f19 hw) (by decide))))
  exact own_ret0 X1286 hx hlk hret (hb hby d5_38) e1286 ⟨rfl, N1286, (((((((Keep.refl _ _).wr W1266 (Or.inl (by simp))).wr W1270 (Or.inl (by simp))).wr W1274 (Or.inl (by simp))).wr W1278 (Or.inl (by simp))).wr W1282 (Or.inl (by simp))).wr W1286 (Or.inl (by simp))), F1288, F1289, F1290, F1291, F1292, F1287⟩ (by decide) (by decide)
def own_s20_Q (Z : State) (f1249 : UInt64) (h0 : Heap) (n0 : Nat) (v_ : Option Value) (h_ : Heap) (L_ : List Loc) : Prop := (fun v h L => ∃ (a1251 : Addr), v = some (.ref a1251) ∧ Fr n0 L ∧ Keep h0 h [] ∧ h0.size ≤ a1251 ∧ Exa Z h a1251 own_k1 ∧ Fld Z h a1251 own_k1 "low" "D" (.double (4626322717216342016 : UInt64)) ∧ Fld Z h a1251 own_k1 "gapLow" "D" (.double (4629137466983448576 : UInt64)) ∧ Fld Z h a1251 own_k1 "gapHigh" "D" (.double (4629137466983448576 : UInt64)) ∧ Fld Z h a1251 own_k1 "high" "D" (.double (4629137466983448576 : UInt64)) ∧ Fld Z h a1251 own_k1 "below" "D" (.double f1249) ∧ Fld Z h a1251 own_k1 "count" "D" (.double f1249)) v_ h_ L_
set_option maxRecDepth 65536 in
set_option maxHeartbeats 40000000 in
theorem own_s20 (l : Launch) (Z : State) (a0 : Array Value) (hw : ∀ d ∈ tables_1, d.before a0 Z = true) (wds : List Jvm.Cond) (f1249 : UInt64) (h0 : Heap) (n0 : Nat) (Z0 : n0 ≤ h0.size)  :
    MetFree l (⟨own_k1, "of", own_k5⟩ : MethodName) (head1 (Jvm.Cond.code (⟨own_k1, "of", own_k5⟩ : MethodName) prog_17_method_2_code 6 (some (.object own_k1)) :: wds) ({ frames := 3, cells := 1, slots := 6, locals := 49 } : Room)) (fun ar_ U_ => ar_ = #[(.double (4626322717216342016 : UInt64)), (.double (4629137466983448576 : UInt64)), (.double f1249)] ∧ Z.Warmed39 U_.vm ∧ U_.heap = h0) (fun _ _ _ _ _ => True) (fun _ U_ o_ V_ => ∃ v_ L_, o_ = .returned v_ ∧ own_s20_Q Z f1249 h0 n0 v_ V_.heap L_ ∧ FrameEnd U_ o_ V_ L_ ({ frames := 3, cells := 1, slots := 6, locals := 49 } : Room).cells ({ frames := 3, cells := 1, slots := 6, locals := 49 } : Room).slots) := by
  refine own_met (y := ⟨own_k1, "of", own_k5⟩) (Q := own_s20_Q Z f1249 h0 n0) own_pn2 ?_
  intro p e s m below meth c s₁ hx hby hml hZ hown hnm hret hlk X0 e0
  have N0 := Fr.nil n0
  refine own_cast (g' := (mkF m 0 #[.val (.double (4626322717216342016 : UInt64)), .second, .val (.double (4629137466983448576 : UInt64)), .second, .val (.double f1249), .second] [])) (by first | (simp [entryFrame, mkF, argsToLocals, Value.category]; done) | rfl) ?_
  generalize hL1250 : (#[.val (.double (4626322717216342016 : UInt64)), .second, .val (.double (4629137466983448576 : UInt64)), .second, .val (.double f1249), .second] : Array Slot) = L1250
  refine own_newobj X0 hx hZ hown (own_w hw 54 rfl) (own_w hw 55 rfl) (own_w hw 52 rfl) e0 (hb hby d4_0) (by decide) (by decide) ?_
  intro T1251 h1251 a1251 g1251 X1251 e1251 E1251 A1251 D1251
  have ge1253 : h0.size ≤ a1251 := Nat.le_trans (Nat.le_refl _) (Nat.le_of_eq g1251.symm)
  have nw1254 : n0 ≤ a1251 := Nat.le_trans Z0 (Nat.le_of_eq g1251.symm)
  have F1255 : Fld Z h1251 a1251 own_k1 "low" "D" (.double (0 : UInt64)) := D1251 (Or.inr (own_w hw 66 rfl)) (ty := .double) (by decide)
  have F1256 : Fld Z h1251 a1251 own_k1 "gapLow" "D" (.double (0 : UInt64)) := D1251 (Or.inr (own_w hw 68 rfl)) (ty := .double) (by decide)
  have F1257 : Fld Z h1251 a1251 own_k1 "gapHigh" "D" (.double (0 : UInt64)) := D1251 (Or.inr (own_w hw 70 rfl)) (ty := .double) (by decide)
  have F1258 : Fld Z h1251 a1251 own_k1 "high" "D" (.double (0 : UInt64)) := D1251 (Or.inr (own_w hw 72 rfl)) (ty := .double) (by decide)
  have F1259 : Fld Z h1251 a1251 own_k1 "below" "D" (.double (0 : UInt64)) := D1251 (Or.inr (own_w hw 74 rfl)) (ty := .double) (by decide)
  have F1260 : Fld Z h1251 a1251 own_k1 "count" "D" (.double (0 : UInt64)) := D1251 (Or.inr (own_w hw 76 rfl)) (ty := .double) (by decide)
  show own_Go _ _ _ _ _ _ _ T1251 (mkF m 3 L1250 [(.ref a1251)])
  refine own_pre (g' := (mkF m 4 L1250 [(.ref a1251), (.ref a1251)])) (fun t k => XS.dup X1251.here hx rfl (hb hby d4_3) rfl rfl k) ?_
  refine own_dlN (w := (4626322717216342016 : UInt64)) X1251 hx (hb hby d4_4) (by rw [← hL1250]; rfl) ?_
  refine own_dlN (w := (4629137466983448576 : UInt64)) X1251 hx (hb hby d4_5) (by rw [← hL1250]; rfl) ?_
  refine own_dlN (w := (4629137466983448576 : UInt64)) X1251 hx (hb hby d4_6) (by rw [← hL1250]; rfl) ?_
  refine own_dlN (w := (4629137466983448576 : UInt64)) X1251 hx (hb hby d4_7) (by rw [← hL1250]; rfl) ?_
  refine own_dl (w := f1249) X1251 hx (hb hby d4_8) (by rw [← hL1250]; rfl) ?_
  refine own_dl (w := f1249) X1251 hx (hb hby d4_10) (by rw [← hL1250]; rfl) ?_
  have F1293 : n0 ≤ h1251.size := (Nat.le_trans Z0 E1251.1)
  refine own_init (a := a1251) (argsL := [(.double (4626322717216342016 : UInt64)), (.double (4629137466983448576 : UInt64)), (.double (4629137466983448576 : UInt64)), (.double (4629137466983448576 : UInt64)), (.double f1249), (.double f1249)]) (rest := [(.ref a1251)]) X1251 hx hZ hown (own_s21 l Z a0 hw [] a1251 f1249 h1251 n0 F1293 A1251 F1255 F1256 F1257 F1258 F1259 F1260 nw1254) rfl (own_w hw 56 rfl) (own_w hw 57 rfl) (own_w hw 58 rfl) (own_w hw 52 rfl) (by decide) e1251 (hb hby d4_12) (by rw [hml, ← hL1250]; rfl) rfl (lenOf own_pd1 rfl) (by decide) (W := 1) (Nat.le_of_eq rfl) (by decide) (by decide) (by decide) ?_
  intro v1294 T1294 lo1294 X1294 Q1294
  obtain ⟨h1294, e1294⟩ : ∃ h, T1294.heap = h := ⟨_, rfl⟩
  rw [e1294] at Q1294
  obtain ⟨rfl, N1294, K1294, F1295, F1296, F1297, F1298, F1299, F1300⟩ := Q1294
  have N1294' := Fr.app N0 N1294
  show own_Go _ _ _ _ _ _ _ T1294 (mkF m 15 L1250 [(.ref a1251)])
  have F1302 := (A1251.keep K1294)
  exact own_retA X1294 hx hlk hret rfl rfl rfl (hb hby d4_15) e1294 ⟨a1251, rfl, N1294', (((Keep.refl _ _).ext E1251).trans K1294 (allS (Or.inr ge1253) all0)), ge1253, F1302, F1295, F1296, F1297, F1298, F1299, F1300⟩ (by decide) (by decide)
def own_s25_Q (Z : State) (a33 : Addr) (a274 : Addr) (a273 : Addr) (a272 : Addr) (a271 : Addr) (a270 : Addr) (a269 : Addr) (a268 : Addr) (a267 : Addr) (h0 : Heap) (n0 : Nat) (v_ : Option Value) (h_ : Heap) (L_ : List Loc) : Prop := (fun v h L => v = some (.int (2 : Int32)) ∧ Fr n0 L ∧ Keep h0 h [a33] ∧ Fld Z h a33 own_k0 "thresholds" "[D" (.ref a267) ∧ Fld Z h a33 own_k0 "ranks" "[D" (.ref a268) ∧ Fld Z h a33 own_k0 "guarded" "[Z" (.ref a269) ∧ Fld Z h a33 own_k0 "extents" own_k4 (.ref a270) ∧ Fld Z h a33 own_k0 "addedAtThreshold" "[Z" (.ref a271) ∧ Fld Z h a33 own_k0 "copies" "[J" (.ref a272) ∧ Fld Z h a33 own_k0 "nextOf" "[I" (.ref a273) ∧ Fld Z h a33 own_k0 "previousOf" "[I" (.ref a274) ∧ Fld Z h a33 own_k0 "first" "I" (.int (0 : Int32)) ∧ Fld Z h a33 own_k0 "last" "I" (.int (1 : Int32)) ∧ Fld Z h a33 own_k0 "free" "I" (.int (-1 : Int32)) ∧ Fld Z h a33 own_k0 "smallestMagnitude" "D" (.double (9218868437227405312 : UInt64)) ∧ Fld Z h a33 own_k0 "size" "I" (.int (2 : Int32)) ∧ Fld Z h a33 own_k0 "used" "I" (.int (3 : Int32))) v_ h_ L_
set_option maxRecDepth 65536 in
set_option maxHeartbeats 40000000 in
theorem own_s25 (l : Launch) (Z : State) (a0 : Array Value) (hw : ∀ d ∈ tables_1, d.before a0 Z = true) (wds : List Jvm.Cond) (a33 : Addr) (a274 : Addr) (a273 : Addr) (a272 : Addr) (a271 : Addr) (a270 : Addr) (a269 : Addr) (a268 : Addr) (a267 : Addr) (h0 : Heap) (n0 : Nat) (Z0 : n0 ≤ h0.size) (H3 : Exa Z h0 a33 own_k0) (H27 : own_Ary Z h0 a267 .double ([(.double (4621819117588971520 : UInt64)), (.double (4626322717216342016 : UInt64))] ++ own_rD 14)) (H28 : Fld Z h0 a33 own_k0 "thresholds" "[D" (.ref a267)) (H29 : Fld Z h0 a33 own_k0 "ranks" "[D" (.ref a268)) (H30 : Fld Z h0 a33 own_k0 "guarded" "[Z" (.ref a269)) (H31 : Fld Z h0 a33 own_k0 "extents" own_k4 (.ref a270)) (H32 : Fld Z h0 a33 own_k0 "addedAtThreshold" "[Z" (.ref a271)) (H33 : Fld Z h0 a33 own_k0 "copies" "[J" (.ref a272)) (H34 : Fld Z h0 a33 own_k0 "nextOf" "[I" (.ref a273)) (H35 : Fld Z h0 a33 own_k0 "previousOf" "[I" (.ref a274)) (H36 : Fld Z h0 a33 own_k0 "first" "I" (.int (0 : Int32))) (H37 : Fld Z h0 a33 own_k0 "last" "I" (.int (1 : Int32))) (H38 : Fld Z h0 a33 own_k0 "free" "I" (.int (-1 : Int32))) (H39 : Fld Z h0 a33 own_k0 "smallestMagnitude" "D" (.double (9218868437227405312 : UInt64))) (H40 : Fld Z h0 a33 own_k0 "size" "I" (.int (2 : Int32))) (H41 : Fld Z h0 a33 own_k0 "used" "I" (.int (2 : Int32))) (H70 : n0 ≤ a33) :
    MetFree l (⟨own_k0, "allocate", "()I"⟩ : MethodName) (head1 (Jvm.Cond.code (⟨own_k0, "allocate", "()I"⟩ : MethodName) prog_5_method_56_code 2 (some .int) :: wds) ({ frames := 0, cells := 0, slots := 0, locals := 0 } : Room)) (fun ar_ U_ => ar_ = #[(.ref a33)] ∧ Z.Warmed39 U_.vm ∧ U_.heap = h0) (fun _ _ _ _ _ => True) (fun _ U_ o_ V_ => ∃ v_ L_, o_ = .returned v_ ∧ own_s25_Q Z a33 a274 a273 a272 a271 a270 a269 a268 a267 h0 n0 v_ V_.heap L_ ∧ FrameEnd U_ o_ V_ L_ ({ frames := 0, cells := 0, slots := 0, locals := 0 } : Room).cells ({ frames := 0, cells := 0, slots := 0, locals := 0 } : Room).slots) := by
  refine own_met (y := ⟨own_k0, "allocate", "()I"⟩) (Q := own_s25_Q Z a33 a274 a273 a272 a271 a270 a269 a268 a267 h0 n0) own_pn1 ?_
  intro p e s m below meth c s₁ hx hby hml hZ hown hnm hret hlk X0 e0
  have N0 := Fr.nil n0
  refine own_cast (g' := (mkF m 0 #[.val (.ref a33), .unset] [])) (by first | (simp [entryFrame, mkF, argsToLocals, Value.category]; done) | rfl) ?_
  refine own_alN (w := (.ref a33)) X0 hx (hb hby d9_0) rfl rfl ?_
  refine own_getf X0 hx hZ hown (own_w hw 37 rfl) e0 H38 (hb hby d9_1) ?_
  intro T1378 X1378 e1378
  show own_Go _ _ _ _ _ _ _ T1378 (mkF m 4 #[.val (.ref a33), .unset] [(.int (-1 : Int32))])
  refine own_ic X1378 hx (-1 : Int32) (hb hby d9_4) rfl ?_
  refine own_pre (g' := (mkF m 25 #[.val (.ref a33), .unset] [])) (fun t k => XS.icmpYes X1378.here hx rfl (pc0 := 5) (pc' := 25) rfl (hb hby d9_5) rfl (by decide) (by decide) (by decide) k) ?_
  refine own_alN (w := (.ref a33)) X1378 hx (hb hby d9_25) rfl rfl ?_
  refine own_getf X1378 hx hZ hown (own_w hw 90 rfl) e1378 H41 (hb hby d9_26) ?_
  intro T1379 X1379 e1379
  show own_Go _ _ _ _ _ _ _ T1379 (mkF m 29 #[.val (.ref a33), .unset] [(.int (2 : Int32))])
  refine own_alN (w := (.ref a33)) X1379 hx (hb hby d9_29) rfl rfl ?_
  refine own_getf X1379 hx hZ hown (own_w hw 13 rfl) e1379 H28 (hb hby d9_30) ?_
  intro T1380 X1380 e1380
  show own_Go _ _ _ _ _ _ _ T1380 (mkF m 33 #[.val (.ref a33), .unset] [(.ref a267), (.int (2 : Int32))])
  refine own_len X1380 hx hZ e1380 H27 (hb hby d9_33) (n := (16 : Int32)) rfl ?_
  show own_Go _ _ _ _ _ _ _ T1380 (mkF m 34 #[.val (.ref a33), .unset] [(.int (16 : Int32)), (.int (2 : Int32))])
  refine own_pre (g' := (mkF m 143 #[.val (.ref a33), .unset] [])) (fun t k => XS.icmpYes X1380.here hx rfl (pc0 := 34) (pc' := 143) rfl (hb hby d9_34) rfl (by decide) (by decide) (by decide) k) ?_
  refine own_alN (w := (.ref a33)) X1380 hx (hb hby d9_143) rfl rfl ?_
  refine own_pre (g' := (mkF m 145 #[.val (.ref a33), .unset] [(.ref a33), (.ref a33)])) (fun t k => XS.dup X1380.here hx rfl (hb hby d9_144) rfl rfl k) ?_
  refine own_getf X1380 hx hZ hown (own_w hw 90 rfl) e1380 H41 (hb hby d9_145) ?_
  intro T1381 X1381 e1381
  show own_Go _ _ _ _ _ _ _ T1381 (mkF m 148 #[.val (.ref a33), .unset] [(.int (2 : Int32)), (.ref a33)])
  refine own_pre (g' := (mkF m 149 #[.val (.ref a33), .unset] [(.int (2 : Int32)), (.ref a33), (.int (2 : Int32))])) (fun t k => XT.dupX1 X1381.here hx rfl (hb hby d9_148) rfl rfl rfl k) ?_
  refine own_ic X1381 hx (1 : Int32) (hb hby d9_149) rfl ?_
  refine own_pre (g' := (mkF m 151 #[.val (.ref a33), .unset] [(.int (3 : Int32)), (.ref a33), (.int (2 : Int32))])) (fun t k => XS.iadd X1381.here hx rfl (hb hby d9_150) rfl k) ?_
  refine own_putf X1381 hx hZ hown (own_w hw 90 rfl) e1381 N0 H70 H41 H3 (Or.inl (own_w hw 91 rfl)) (own_w hw 5 rfl) (ty := .int) (by decide) rfl rfl (hb hby d9_151) ?_
  intro T1382 h1382 lo1382 X1382 e1382 N1382 W1382
  have F1383 := H41.same W1382
  show own_Go _ _ _ _ _ _ _ T1382 (mkF m 154 #[.val (.ref a33), .unset] [(.int (2 : Int32))])
  have F1384 := (H28.other W1382 (Or.inr (own_sne (own_f1 hw) (own_f13 hw) (by decide))))
  have F1385 := (H29.other W1382 (Or.inr (own_sne (own_f0 hw) (own_f13 hw) (by decide))))
  have F1386 := (H30.other W1382 (Or.inr (own_sne (own_f2 hw) (own_f13 hw) (by decide))))
  have F1387 := (H31.other W1382 (Or.inr (own_sne (own_f3 hw) (own_f13 hw) (by decide))))
  have F1388 := (H32.other W1382 (Or.inr (own_sne (own_f4 hw) (own_f13 hw) (by decide))))
  have F1389 := (H33.other W1382 (Or.inr (own_sne (own_f5 hw) (own_f13 hw) (by decide))))
  have F1390 := (H34.other W1382 (Or.inr (own_sne (own_f6 hw) (own_f13 hw) (by decide))))
  have F1391 := (H35.other W1382 (Or.inr (own_sne (own_f7 hw) (own_f13 hw) (by decide))))
  have F1392 := (H36.other W1382 (Or.inr (own_sne (own_f8 hw) (own_f13 hw) (by decide))))
  have F1393 := (H37.other W1382 (Or.inr (own_sne (own_f9 hw) (own_f13 hw) (by decide))))
  have F1394 := (H38.other W1382 (Or.inr (own_sne (own_f10 hw) (own_f13 hw) (by decide))))
  have F1395 := (H39.other W1382 (Or.inr (own_sne (own_f11 hw) (own_f13 hw) (by decide))))
  have F1396 := (H40.other W1382 (Or.inr (own_sne (own_f12 hw) (own_f13 hw) (by decide))))
  exact own_retI X1382 hx hlk hret (hb hby d9_154) e1382 ⟨rfl, N1382, ((Keep.refl _ _).wr W1382 (Or.inl (by simp))), F1384, F1385, F1386, F1387, F1388, F1389, F1390, F1391, F1392, F1393, F1394, F1395, F1396, F1383⟩ (by decide) (by decide)
def own_s24_Q (Z : State) (a33 : Addr) (f1222 : UInt64) (a1304 : Addr) (a274 : Addr) (a273 : Addr) (a272 : Addr) (a271 : Addr) (a270 : Addr) (a269 : Addr) (a268 : Addr) (a267 : Addr) (a811 : Addr) (f386 : UInt64) (a1172 : Addr) (f858 : UInt64) (h0 : Heap) (n0 : Nat) (v_ : Option Value) (h_ : Heap) (L_ : List Loc) : Prop := (fun v h L => v = some (.int (2 : Int32)) ∧ Fr n0 L ∧ Keep h0 h [a33, a267, a268, a269, a270, a271, a272, a273, a274] ∧ own_Ary Z h a274 .int ([(.int (-1 : Int32)), (.int (0 : Int32)), (.int (1 : Int32))] ++ own_rI 13) ∧ own_Ary Z h a273 .int ([(.int (1 : Int32)), (.int (2 : Int32)), (.int (-1 : Int32))] ++ own_rI 13) ∧ own_Ary Z h a272 .long (own_rJ 16) ∧ own_Ary Z h a271 .boolean (own_rI 16) ∧ own_Ary Z h a270 (.object own_k1) ([(.ref a811), (.ref a1172), (.ref a1304)] ++ own_rN 13) ∧ own_Ary Z h a269 .boolean (own_rI 16) ∧ own_Ary Z h a268 .double ([(.double f386), (.double f858), (.double f1222)] ++ own_rD 13) ∧ own_Ary Z h a267 .double ([(.double (4621819117588971520 : UInt64)), (.double (4626322717216342016 : UInt64)), (.double (4629137466983448576 : UInt64))] ++ own_rD 13) ∧ Fld Z h a33 own_k0 "thresholds" "[D" (.ref a267) ∧ Fld Z h a33 own_k0 "ranks" "[D" (.ref a268) ∧ Fld Z h a33 own_k0 "guarded" "[Z" (.ref a269) ∧ Fld Z h a33 own_k0 "extents" own_k4 (.ref a270) ∧ Fld Z h a33 own_k0 "addedAtThreshold" "[Z" (.ref a271) ∧ Fld Z h a33 own_k0 "copies" "[J" (.ref a272) ∧ Fld Z h a33 own_k0 "nextOf" "[I" (.ref a273) ∧ Fld Z h a33 own_k0 "previousOf" "[I" (.ref a274) ∧ Fld Z h a33 own_k0 "first" "I" (.int (0 : Int32)) ∧ Fld Z h a33 own_k0 "last" "I" (.int (2 : Int32)) ∧ Fld Z h a33 own_k0 "free" "I" (.int (-1 : Int32)) ∧ Fld Z h a33 own_k0 "smallestMagnitude" "D" (.double (9218868437227405312 : UInt64)) ∧ Fld Z h a33 own_k0 "size" "I" (.int (3 : Int32)) ∧ Fld Z h a33 own_k0 "used" "I" (.int (3 : Int32))) v_ h_ L_
set_option maxRecDepth 65536 in
set_option maxHeartbeats 40000000 in
theorem own_s24 (l : Launch) (Z : State) (a0 : Array Value) (hw : ∀ d ∈ tables_1, d.before a0 Z = true) (wds : List Jvm.Cond) (a33 : Addr) (f1222 : UInt64) (a1304 : Addr) (a274 : Addr) (a273 : Addr) (a272 : Addr) (a271 : Addr) (a270 : Addr) (a269 : Addr) (a268 : Addr) (a267 : Addr) (a811 : Addr) (f386 : UInt64) (a1172 : Addr) (f858 : UInt64) (h0 : Heap) (n0 : Nat) (Z0 : n0 ≤ h0.size) (H3 : Exa Z h0 a33 own_k0) (H9 : own_Ovr Z h0 a270 own_k1) (H20 : own_Ary Z h0 a274 .int ([(.int (-1 : Int32))] ++ own_rI 15)) (H21 : own_Ary Z h0 a273 .int ([(.int (1 : Int32)), (.int (-1 : Int32))] ++ own_rI 14)) (H22 : own_Ary Z h0 a272 .long (own_rJ 16)) (H23 : own_Ary Z h0 a271 .boolean (own_rI 16)) (H24 : own_Ary Z h0 a270 (.object own_k1) ([(.ref a811), (.ref a1172)] ++ own_rN 14)) (H25 : own_Ary Z h0 a269 .boolean (own_rI 16)) (H26 : own_Ary Z h0 a268 .double ([(.double f386), (.double f858)] ++ own_rD 14)) (H27 : own_Ary Z h0 a267 .double ([(.double (4621819117588971520 : UInt64)), (.double (4626322717216342016 : UInt64))] ++ own_rD 14)) (H28 : Fld Z h0 a33 own_k0 "thresholds" "[D" (.ref a267)) (H29 : Fld Z h0 a33 own_k0 "ranks" "[D" (.ref a268)) (H30 : Fld Z h0 a33 own_k0 "guarded" "[Z" (.ref a269)) (H31 : Fld Z h0 a33 own_k0 "extents" own_k4 (.ref a270)) (H32 : Fld Z h0 a33 own_k0 "addedAtThreshold" "[Z" (.ref a271)) (H33 : Fld Z h0 a33 own_k0 "copies" "[J" (.ref a272)) (H34 : Fld Z h0 a33 own_k0 "nextOf" "[I" (.ref a273)) (H35 : Fld Z h0 a33 own_k0 "previousOf" "[I" (.ref a274)) (H36 : Fld Z h0 a33 own_k0 "first" "I" (.int (0 : Int32))) (H37 : Fld Z h0 a33 own_k0 "last" "I" (.int (1 : Int32))) (H38 : Fld Z h0 a33 own_k0 "free" "I" (.int (-1 : Int32))) (H39 : Fld Z h0 a33 own_k0 "smallestMagnitude" "D" (.double (9218868437227405312 : UInt64))) (H40 : Fld Z h0 a33 own_k0 "size" "I" (.int (2 : Int32))) (H41 : Fld Z h0 a33 own_k0 "used" "I" (.int (2 : Int32))) (H49 : Exa Z h0 a1304 own_k1) (H68 : a33 < a274) (H69 : a33 < a273) (H70 : a33 < a272) (H71 : a33 < a271) (H72 : a33 < a270) (H73 : a33 < a269) (H74 : a33 < a268) (H75 : a33 < a267) (H79 : n0 ≤ a33) (H80 : a273 < a274) (H81 : a272 < a274) (H82 : a271 < a274) (H83 : a270 < a274) (H84 : a269 < a274) (H85 : a268 < a274) (H86 : a267 < a274) (H90 : n0 ≤ a274) (H91 : a272 < a273) (H92 : a271 < a273) (H93 : a270 < a273) (H94 : a269 < a273) (H95 : a268 < a273) (H96 : a267 < a273) (H100 : n0 ≤ a273) (H101 : a271 < a272) (H102 : a270 < a272) (H103 : a269 < a272) (H104 : a268 < a272) (H105 : a267 < a272) (H109 : n0 ≤ a272) (H110 : a270 < a271) (H111 : a269 < a271) (H112 : a268 < a271) (H113 : a267 < a271) (H117 : n0 ≤ a271) (H118 : a269 < a270) (H119 : a268 < a270) (H120 : a267 < a270) (H124 : n0 ≤ a270) (H125 : a268 < a269) (H126 : a267 < a269) (H130 : n0 ≤ a269) (H131 : a267 < a268) (H135 : n0 ≤ a268) (H139 : n0 ≤ a267) :
    MetFree l (⟨own_k0, "insertBefore", own_k6⟩ : MethodName) (head1 (Jvm.Cond.code (⟨own_k0, "insertBefore", own_k6⟩ : MethodName) prog_5_method_55_code 11 (some .int) :: wds) ({ frames := 1, cells := 0, slots := 0, locals := 13 } : Room)) (fun ar_ U_ => ar_ = #[(.ref a33), (.int (-1 : Int32)), (.double (4629137466983448576 : UInt64)), (.double f1222), (.ref a1304), (.long (0 : Int64))] ∧ Z.Warmed39 U_.vm ∧ U_.heap = h0) (fun _ _ _ _ _ => True) (fun _ U_ o_ V_ => ∃ v_ L_, o_ = .returned v_ ∧ own_s24_Q Z a33 f1222 a1304 a274 a273 a272 a271 a270 a269 a268 a267 a811 f386 a1172 f858 h0 n0 v_ V_.heap L_ ∧ FrameEnd U_ o_ V_ L_ ({ frames := 1, cells := 0, slots := 0, locals := 13 } : Room).cells ({ frames := 1, cells := 0, slots := 0, locals := 13 } : Room).slots) := by
  refine own_met (y := ⟨own_k0, "insertBefore", own_k6⟩) (Q := own_s24_Q Z a33 f1222 a1304 a274 a273 a272 a271 a270 a269 a268 a267 a811 f386 a1172 f858 h0 n0) own_pn1 ?_
  intro p e s m below meth c s₁ hx hby hml hZ hown hnm hret hlk X0 e0
  have N0 := Fr.nil n0
  refine own_cast (g' := (mkF m 0 #[.val (.ref a33), .val (.int (-1 : Int32)), .val (.double (4629137466983448576 : UInt64)), .second, .val (.double f1222), .second, .val (.ref a1304), .val (.long (0 : Int64)), .second, .unset, .unset] [])) (by first | (simp [entryFrame, mkF, argsToLocals, Value.category]; done) | rfl) ?_
  generalize hL1377 : (#[.val (.ref a33), .val (.int (-1 : Int32)), .val (.double (4629137466983448576 : UInt64)), .second, .val (.double f1222), .second, .val (.ref a1304), .val (.long (0 : Int64)), .second, .unset, .unset] : Array Slot) = L1377
  refine own_alN (w := (.ref a33)) X0 hx (hb hby d8_0) (by rw [← hL1377]; rfl) rfl ?_
  refine own_callp (a := a33) (argsL := []) (rest := []) X0 hx hZ hown (own_s25 l Z a0 hw [] a33 a274 a273 a272 a271 a270 a269 a268 a267 h0 n0 Z0 H3 H27 H28 H29 H30 H31 H32 H33 H34 H35 H36 H37 H38 H39 H40 H41 H79) H3 (own_w hw 86 rfl) (own_w hw 5 rfl) (own_w hw 88 rfl) (own_w hw 87 rfl) (own_w hw 89 rfl) (own_w hw 6 rfl) (by decide) e0 (hb hby d8_1) (by rw [hml, ← hL1377]; rfl) rfl (lenOf own_pd3 rfl) (by decide) (W := 0) (Nat.le_of_eq rfl) (by decide) (by decide) (by decide) ?_
  intro v1397 T1397 lo1397 X1397 Q1397
  obtain ⟨h1397, e1397⟩ : ∃ h, T1397.heap = h := ⟨_, rfl⟩
  rw [e1397] at Q1397
  obtain ⟨rfl, N1397, K1397, F1398, F1399, F1400, F1401, F1402, F1403, F1404, F1405, F1406, F1407, F1408, F1409, F1410, F1411⟩ := Q1397
  have N1397' := Fr.app N0 N1397
  show own_Go _ _ _ _ _ _ _ T1397 (mkF m 4 L1377 [(.int (2 : Int32))])
  refine own_pre (g' := (mkF m 6 #[.val (.ref a33), .val (.int (-1 : Int32)), .val (.double (4629137466983448576 : UInt64)), .second, .val (.double f1222), .second, .val (.ref a1304), .val (.long (0 : Int64)), .second, .val (.int (2 : Int32)), .unset] [])) (fun t k => XS.istore X1397.here hx rfl (hb hby d8_4) rfl (l' := #[.val (.ref a33), .val (.int (-1 : Int32)), .val (.double (4629137466983448576 : UInt64)), .second, .val (.double f1222), .second, .val (.ref a1304), .val (.long (0 : Int64)), .second, .val (.int (2 : Int32)), .unset]) (by rw [← hL1377]; rfl) k) ?_
  generalize hL1413 : (#[.val (.ref a33), .val (.int (-1 : Int32)), .val (.double (4629137466983448576 : UInt64)), .second, .val (.double f1222), .second, .val (.ref a1304), .val (.long (0 : Int64)), .second, .val (.int (2 : Int32)), .unset] : Array Slot) = L1413
  refine own_alN (w := (.ref a33)) X1397 hx (hb hby d8_6) (by rw [← hL1413]; rfl) rfl ?_
  refine own_getf X1397 hx hZ hown (own_w hw 13 rfl) e1397 F1398 (hb hby d8_7) ?_
  intro T1414 X1414 e1414
  show own_Go _ _ _ _ _ _ _ T1414 (mkF m 10 L1413 [(.ref a267)])
  refine own_il (w := (2 : Int32)) X1414 hx (hb hby d8_10) (by rw [← hL1413]; rfl) ?_
  refine own_dlN (w := (4629137466983448576 : UInt64)) X1414 hx (hb hby d8_12) (by rw [← hL1413]; rfl) ?_
  have F1415 := (H27.keep K1397 (ninS (Nat.ne_of_gt H75) nin0))
  refine own_dastore X1414 hx hZ e1414 N1397' H139 F1415 (hb hby d8_13) (n := 2) (by decide) (by decide) (by show 2 < 16; decide) ?_
  intro T1416 h1416 lo1416 X1416 e1416 N1416 W1416
  have F1417 : own_Ary Z h1416 a267 .double ([(.double (4621819117588971520 : UInt64)), (.double (4626322717216342016 : UInt64)), (.double (4629137466983448576 : UInt64))] ++ own_rD 13) := F1415.set W1416
  show own_Go _ _ _ _ _ _ _ T1416 (mkF m 14 L1413 [])
  refine own_alN (w := (.ref a33)) X1416 hx (hb hby d8_14) (by rw [← hL1413]; rfl) rfl ?_
  have F1418 := (F1399.other W1416 (Or.inl (Nat.ne_of_lt H75)))
  refine own_getf X1416 hx hZ hown (own_w hw 15 rfl) e1416 F1418 (hb hby d8_15) ?_
  intro T1419 X1419 e1419
  show own_Go _ _ _ _ _ _ _ T1419 (mkF m 18 L1413 [(.ref a268)])
  refine own_il (w := (2 : Int32)) X1419 hx (hb hby d8_18) (by rw [← hL1413]; rfl) ?_
  refine own_dl (w := f1222) X1419 hx (hb hby d8_20) (by rw [← hL1413]; rfl) ?_
  have F1420 := ((H26.keep K1397 (ninS (Nat.ne_of_gt H74) nin0)).other W1416 (Nat.ne_of_gt H131))
  refine own_dastore X1419 hx hZ e1419 N1416 H135 F1420 (hb hby d8_22) (n := 2) (by decide) (by decide) (by show 2 < 16; decide) ?_
  intro T1421 h1421 lo1421 X1421 e1421 N1421 W1421
  have F1422 : own_Ary Z h1421 a268 .double ([(.double f386), (.double f858), (.double f1222)] ++ own_rD 13) := F1420.set W1421
  show own_Go _ _ _ _ _ _ _ T1421 (mkF m 23 L1413 [])
  refine own_alN (w := (.ref a33)) X1421 hx (hb hby d8_23) (by rw [← hL1413]; rfl) rfl ?_
  have F1423 := ((F1400.other W1416 (Or.inl (Nat.ne_of_lt H75))).other W1421 (Or.inl (Nat.ne_of_lt H74)))
  refine own_getf X1421 hx hZ hown (own_w hw 18 rfl) e1421 F1423 (hb hby d8_24) ?_
  intro T1424 X1424 e1424
  show own_Go _ _ _ _ _ _ _ T1424 (mkF m 27 L1413 [(.ref a269)])
  refine own_il (w := (2 : Int32)) X1424 hx (hb hby d8_27) (by rw [← hL1413]; rfl) ?_
  refine own_ic X1424 hx (0 : Int32) (hb hby d8_29) rfl ?_
  have F1425 := (((H25.keep K1397 (ninS (Nat.ne_of_gt H73) nin0)).other W1416 (Nat.ne_of_gt H126)).other W1421 (Nat.ne_of_gt H125))
  refine own_zastore X1424 hx hZ e1424 N1421 H130 F1425 (hb hby d8_30) (n := 2) (x' := (0 : Int32)) (by decide) (by decide) (by show 2 < 16; decide) (by decide) ?_
  intro T1426 h1426 lo1426 X1426 e1426 N1426 W1426
  have F1427 : own_Ary Z h1426 a269 .boolean (own_rI 16) := F1425.set W1426
  show own_Go _ _ _ _ _ _ _ T1426 (mkF m 31 L1413 [])
  refine own_alN (w := (.ref a33)) X1426 hx (hb hby d8_31) (by rw [← hL1413]; rfl) rfl ?_
  have F1428 := (((F1401.other W1416 (Or.inl (Nat.ne_of_lt H75))).other W1421 (Or.inl (Nat.ne_of_lt H74))).other W1426 (Or.inl (Nat.ne_of_lt H73)))
  refine own_getf X1426 hx hZ hown (own_w hw 22 rfl) e1426 F1428 (hb hby d8_32) ?_
  intro T1429 X1429 e1429
  show own_Go _ _ _ _ _ _ _ T1429 (mkF m 35 L1413 [(.ref a270)])
  refine own_il (w := (2 : Int32)) X1429 hx (hb hby d8_35) (by rw [← hL1413]; rfl) ?_
  refine own_al (w := (.ref a1304)) X1429 hx (hb hby d8_37) (by rw [← hL1413]; rfl) rfl ?_
  have F1430 := ((((H24.keep K1397 (ninS (Nat.ne_of_gt H72) nin0)).other W1416 (Nat.ne_of_gt H120)).other W1421 (Nat.ne_of_gt H119)).other W1426 (Nat.ne_of_gt H118))
  have F1432 := ((((H49.keep K1397).wr W1416).wr W1421).wr W1426)
  have F1433 := ((((H9.keep K1397).wr W1416).wr W1421).wr W1426)
  refine own_aastore X1429 hx hZ e1429 N1426 H124 F1430 F1433 (Ins.self F1432) (hb hby d8_39) (n := 2) (by decide) (by decide) (by show 2 < 16; decide) ?_
  intro T1431 h1431 lo1431 X1431 e1431 N1431 W1431
  have F1434 : own_Ary Z h1431 a270 (.object own_k1) ([(.ref a811), (.ref a1172), (.ref a1304)] ++ own_rN 13) := F1430.set W1431
  show own_Go _ _ _ _ _ _ _ T1431 (mkF m 40 L1413 [])
  refine own_alN (w := (.ref a33)) X1431 hx (hb hby d8_40) (by rw [← hL1413]; rfl) rfl ?_
  have F1435 := ((((F1402.other W1416 (Or.inl (Nat.ne_of_lt H75))).other W1421 (Or.inl (Nat.ne_of_lt H74))).other W1426 (Or.inl (Nat.ne_of_lt H73))).other W1431 (Or.inl (Nat.ne_of_lt H72)))
  refine own_getf X1431 hx hZ hown (own_w hw 24 rfl) e1431 F1435 (hb hby d8_41) ?_
  intro T1436 X1436 e1436
  show own_Go _ _ _ _ _ _ _ T1436 (mkF m 44 L1413 [(.ref a271)])
  refine own_il (w := (2 : Int32)) X1436 hx (hb hby d8_44) (by rw [← hL1413]; rfl) ?_
  refine own_ic X1436 hx (0 : Int32) (hb hby d8_46) rfl ?_
  have F1437 := (((((H23.keep K1397 (ninS (Nat.ne_of_gt H71) nin0)).other W1416 (Nat.ne_of_gt H113)).other W1421 (Nat.ne_of_gt H112)).other W1426 (Nat.ne_of_gt H111)).other W1431 (Nat.ne_of_gt H110))
  refine own_zastore X1436 hx hZ e1436 N1431 H117 F1437 (hb hby d8_47) (n := 2) (x' := (0 : Int32)) (by decide) (by decide) (by show 2 < 16; decide) (by decide) ?_
  intro T1438 h1438 lo1438 X1438 e1438 N1438 W1438
  have F1439 : own_Ary Z h1438 a271 .boolean (own_rI 16) := F1437.set W1438
  show own_Go _ _ _ _ _ _ _ T1438 (mkF m 48 L1413 [])
  refine own_alN (w := (.ref a33)) X1438 hx (hb hby d8_48) (by rw [← hL1413]; rfl) rfl ?_
  have F1440 := (((((F1403.other W1416 (Or.inl (Nat.ne_of_lt H75))).other W1421 (Or.inl (Nat.ne_of_lt H74))).other W1426 (Or.inl (Nat.ne_of_lt H73))).other W1431 (Or.inl (Nat.ne_of_lt H72))).other W1438 (Or.inl (Nat.ne_of_lt H71)))
  refine own_getf X1438 hx hZ hown (own_w hw 26 rfl) e1438 F1440 (hb hby d8_49) ?_
  intro T1441 X1441 e1441
  show own_Go _ _ _ _ _ _ _ T1441 (mkF m 52 L1413 [(.ref a272)])
  refine own_il (w := (2 : Int32)) X1441 hx (hb hby d8_52) (by rw [← hL1413]; rfl) ?_
  refine own_ll (w := (0 : Int64)) X1441 hx (hb hby d8_54) (by rw [← hL1413]; rfl) ?_
  have F1442 := ((((((H22.keep K1397 (ninS (Nat.ne_of_gt H70) nin0)).other W1416 (Nat.ne_of_gt H105)).other W1421 (Nat.ne_of_gt H104)).other W1426 (Nat.ne_of_gt H103)).other W1431 (Nat.ne_of_gt H102)).other W1438 (Nat.ne_of_gt H101))
  refine own_lastore X1441 hx hZ e1441 N1438 H109 F1442 (hb hby d8_56) (n := 2) (by decide) (by decide) (by show 2 < 16; decide) ?_
  intro T1443 h1443 lo1443 X1443 e1443 N1443 W1443
  have F1444 : own_Ary Z h1443 a272 .long (own_rJ 16) := F1442.set W1443
  show own_Go _ _ _ _ _ _ _ T1443 (mkF m 57 L1413 [])
  refine own_ilN (w := (-1 : Int32)) X1443 hx (hb hby d8_57) (by rw [← hL1413]; rfl) ?_
  refine own_ic X1443 hx (-1 : Int32) (hb hby d8_58) rfl ?_
  refine own_pre (g' := (mkF m 62 L1413 [])) (fun t k => XS.icmpNo X1443.here hx rfl (hb hby d8_59) rfl (by decide) k) ?_
  refine own_alN (w := (.ref a33)) X1443 hx (hb hby d8_62) (by rw [← hL1413]; rfl) rfl ?_
  have F1445 := ((((((F1407.other W1416 (Or.inl (Nat.ne_of_lt H75))).other W1421 (Or.inl (Nat.ne_of_lt H74))).other W1426 (Or.inl (Nat.ne_of_lt H73))).other W1431 (Or.inl (Nat.ne_of_lt H72))).other W1438 (Or.inl (Nat.ne_of_lt H71))).other W1443 (Or.inl (Nat.ne_of_lt H70)))
  refine own_getf X1443 hx hZ hown (own_w hw 35 rfl) e1443 F1445 (hb hby d8_63) ?_
  intro T1446 X1446 e1446
  show own_Go _ _ _ _ _ _ _ T1446 (mkF m 66 L1413 [(.int (1 : Int32))])
  refine own_gt X1446 hx 75 (hb hby d8_66) (by decide) (by decide) ?_
  refine own_pre (g' := (mkF m 77 #[.val (.ref a33), .val (.int (-1 : Int32)), .val (.double (4629137466983448576 : UInt64)), .second, .val (.double f1222), .second, .val (.ref a1304), .val (.long (0 : Int64)), .second, .val (.int (2 : Int32)), .val (.int (1 : Int32))] [])) (fun t k => XS.istore X1446.here hx rfl (hb hby d8_75) rfl (l' := #[.val (.ref a33), .val (.int (-1 : Int32)), .val (.double (4629137466983448576 : UInt64)), .second, .val (.double f1222), .second, .val (.ref a1304), .val (.long (0 : Int64)), .second, .val (.int (2 : Int32)), .val (.int (1 : Int32))]) (by rw [← hL1413]; rfl) k) ?_
  generalize hL1447 : (#[.val (.ref a33), .val (.int (-1 : Int32)), .val (.double (4629137466983448576 : UInt64)), .second, .val (.double f1222), .second, .val (.ref a1304), .val (.long (0 : Int64)), .second, .val (.int (2 : Int32)), .val (.int (1 : Int32))] : Array Slot) = L1447
  refine own_alN (w := (.ref a33)) X1446 hx (hb hby d8_77) (by rw [← hL1447]; rfl) rfl ?_
  have F1448 := ((((((F1404.other W1416 (Or.inl (Nat.ne_of_lt H75))).other W1421 (Or.inl (Nat.ne_of_lt H74))).other W1426 (Or.inl (Nat.ne_of_lt H73))).other W1431 (Or.inl (Nat.ne_of_lt H72))).other W1438 (Or.inl (Nat.ne_of_lt H71))).other W1443 (Or.inl (Nat.ne_of_lt H70)))
  refine own_getf X1446 hx hZ hown (own_w hw 29 rfl) e1446 F1448 (hb hby d8_78) ?_
  intro T1449 X1449 e1449
  show own_Go _ _ _ _ _ _ _ T1449 (mkF m 81 L1447 [(.ref a273)])
  refine own_il (w := (2 : Int32)) X1449 hx (hb hby d8_81) (by rw [← hL1447]; rfl) ?_
  refine own_ilN (w := (-1 : Int32)) X1449 hx (hb hby d8_83) (by rw [← hL1447]; rfl) ?_
  have F1450 := (((((((H21.keep K1397 (ninS (Nat.ne_of_gt H69) nin0)).other W1416 (Nat.ne_of_gt H96)).other W1421 (Nat.ne_of_gt H95)).other W1426 (Nat.ne_of_gt H94)).other W1431 (Nat.ne_of_gt H93)).other W1438 (Nat.ne_of_gt H92)).other W1443 (Nat.ne_of_gt H91))
  refine own_iastore X1449 hx hZ e1449 N1443 H100 F1450 (hb hby d8_84) (n := 2) (by decide) (by decide) (by show 2 < 16; decide) ?_
  intro T1451 h1451 lo1451 X1451 e1451 N1451 W1451
  have F1452 : own_Ary Z h1451 a273 .int ([(.int (1 : Int32)), (.int (-1 : Int32)), (.int (-1 : Int32))] ++ own_rI 13) := F1450.set W1451
  show own_Go _ _ _ _ _ _ _ T1451 (mkF m 85 L1447 [])
  refine own_alN (w := (.ref a33)) X1451 hx (hb hby d8_85) (by rw [← hL1447]; rfl) rfl ?_
  have F1453 := (((((((F1405.other W1416 (Or.inl (Nat.ne_of_lt H75))).other W1421 (Or.inl (Nat.ne_of_lt H74))).other W1426 (Or.inl (Nat.ne_of_lt H73))).other W1431 (Or.inl (Nat.ne_of_lt H72))).other W1438 (Or.inl (Nat.ne_of_lt H71))).other W1443 (Or.inl (Nat.ne_of_lt H70))).other W1451 (Or.inl (Nat.ne_of_lt H69)))
  refine own_getf X1451 hx hZ hown (own_w hw 31 rfl) e1451 F1453 (hb hby d8_86) ?_
  intro T1454 X1454 e1454
  show own_Go _ _ _ _ _ _ _ T1454 (mkF m 89 L1447 [(.ref a274)])
  refine own_il (w := (2 : Int32)) X1454 hx (hb hby d8_89) (by rw [← hL1447]; rfl) ?_
  refine own_il (w := (1 : Int32)) X1454 hx (hb hby d8_91) (by rw [← hL1447]; rfl) ?_
  have F1455 := ((((((((H20.keep K1397 (ninS (Nat.ne_of_gt H68) nin0)).other W1416 (Nat.ne_of_gt H86)).other W1421 (Nat.ne_of_gt H85)).other W1426 (Nat.ne_of_gt H84)).other W1431 (Nat.ne_of_gt H83)).other W1438 (Nat.ne_of_gt H82)).other W1443 (Nat.ne_of_gt H81)).other W1451 (Nat.ne_of_gt H80))
  refine own_iastore X1454 hx hZ e1454 N1451 H90 F1455 (hb hby d8_93) (n := 2) (by decide) (by decide) (by show 2 < 16; decide) ?_
  intro T1456 h1456 lo1456 X1456 e1456 N1456 W1456
  have F1457 : own_Ary Z h1456 a274 .int ([(.int (-1 : Int32)), (.int (0 : Int32)), (.int (1 : Int32))] ++ own_rI 13) := F1455.set W1456
  show own_Go _ _ _ _ _ _ _ T1456 (mkF m 94 L1447 [])
  refine own_il (w := (1 : Int32)) X1456 hx (hb hby d8_94) (by rw [← hL1447]; rfl) ?_
  refine own_ic X1456 hx (-1 : Int32) (hb hby d8_96) rfl ?_
  refine own_pre (g' := (mkF m 109 L1447 [])) (fun t k => XS.icmpYes X1456.here hx rfl (pc0 := 97) (pc' := 109) rfl (hb hby d8_97) rfl (by decide) (by decide) (by decide) k) ?_
  refine own_alN (w := (.ref a33)) X1456 hx (hb hby d8_109) (by rw [← hL1447]; rfl) rfl ?_
  have F1458 := ((F1448.other W1451 (Or.inl (Nat.ne_of_lt H69))).other W1456 (Or.inl (Nat.ne_of_lt H68)))
  refine own_getf X1456 hx hZ hown (own_w hw 29 rfl) e1456 F1458 (hb hby d8_110) ?_
  intro T1459 X1459 e1459
  show own_Go _ _ _ _ _ _ _ T1459 (mkF m 113 L1447 [(.ref a273)])
  refine own_il (w := (1 : Int32)) X1459 hx (hb hby d8_113) (by rw [← hL1447]; rfl) ?_
  refine own_il (w := (2 : Int32)) X1459 hx (hb hby d8_115) (by rw [← hL1447]; rfl) ?_
  have F1460 := (F1452.other W1456 (Nat.ne_of_lt H80))
  refine own_iastore X1459 hx hZ e1459 N1456 H100 F1460 (hb hby d8_117) (n := 1) (by decide) (by decide) (by show 1 < 16; decide) ?_
  intro T1461 h1461 lo1461 X1461 e1461 N1461 W1461
  have F1462 : own_Ary Z h1461 a273 .int ([(.int (1 : Int32)), (.int (2 : Int32)), (.int (-1 : Int32))] ++ own_rI 13) := F1460.set W1461
  show own_Go _ _ _ _ _ _ _ T1461 (mkF m 118 L1447 [])
  refine own_ilN (w := (-1 : Int32)) X1461 hx (hb hby d8_118) (by rw [← hL1447]; rfl) ?_
  refine own_ic X1461 hx (-1 : Int32) (hb hby d8_119) rfl ?_
  refine own_pre (g' := (mkF m 123 L1447 [])) (fun t k => XS.icmpNo X1461.here hx rfl (hb hby d8_120) rfl (by decide) k) ?_
  refine own_alN (w := (.ref a33)) X1461 hx (hb hby d8_123) (by rw [← hL1447]; rfl) rfl ?_
  refine own_il (w := (2 : Int32)) X1461 hx (hb hby d8_124) (by rw [← hL1447]; rfl) ?_
  have F1463 := (((F1445.other W1451 (Or.inl (Nat.ne_of_lt H69))).other W1456 (Or.inl (Nat.ne_of_lt H68))).other W1461 (Or.inl (Nat.ne_of_lt H69)))
  have F1464 := ((((((((((H3.keep K1397).wr W1416).wr W1421).wr W1426).wr W1431).wr W1438).wr W1443).wr W1451).wr W1456).wr W1461)
  refine own_putf X1461 hx hZ hown (own_w hw 35 rfl) e1461 N1461 H79 F1463 F1464 (Or.inl (own_w hw 36 rfl)) (own_w hw 5 rfl) (ty := .int) (by decide) rfl rfl (hb hby d8_126) ?_
  intro T1465 h1465 lo1465 X1465 e1465 N1465 W1465
  have F1466 := F1463.same W1465
  show own_Go _ _ _ _ _ _ _ T1465 (mkF m 129 L1447 [])
  refine own_gt X1465 hx 140 (hb hby d8_129) (by decide) (by decide) ?_
  refine own_alN (w := (.ref a33)) X1465 hx (hb hby d8_140) (by rw [← hL1447]; rfl) rfl ?_
  refine own_pre (g' := (mkF m 142 L1447 [(.ref a33), (.ref a33)])) (fun t k => XS.dup X1465.here hx rfl (hb hby d8_141) rfl rfl k) ?_
  have F1467 := ((((((((((F1410.other W1416 (Or.inl (Nat.ne_of_lt H75))).other W1421 (Or.inl (Nat.ne_of_lt H74))).other W1426 (Or.inl (Nat.ne_of_lt H73))).other W1431 (Or.inl (Nat.ne_of_lt H72))).other W1438 (Or.inl (Nat.ne_of_lt H71))).other W1443 (Or.inl (Nat.ne_of_lt H70))).other W1451 (Or.inl (Nat.ne_of_lt H69))).other W1456 (Or.inl (Nat.ne_of_lt H68))).other W1461 (Or.inl (Nat.ne_of_lt H69))).other W1465 (Or.inr (own_sne (own_f12 hw) (own_f9 hw) (by decide))))
  refine own_getf X1465 hx hZ hown (own_w hw 48 rfl) e1465 F1467 (hb hby d8_142) ?_
  intro T1468 X1468 e1468
  show own_Go _ _ _ _ _ _ _ T1468 (mkF m 145 L1447 [(.int (2 : Int32)), (.ref a33)])
  refine own_ic X1468 hx (1 : Int32) (hb hby d8_145) rfl ?_
  refine own_pre (g' := (mkF m 147 L1447 [(.int (3 : Int32)), (.ref a33)])) (fun t k => XS.iadd X1468.here hx rfl (hb hby d8_146) rfl k) ?_
  have F1469 := (F1464.wr W1465)
  refine own_putf X1468 hx hZ hown (own_w hw 48 rfl) e1468 N1465 H79 F1467 F1469 (Or.inl (own_w hw 49 rfl)) (own_w hw 5 rfl) (ty := .int) (by decide) rfl rfl (hb hby d8_147) ?_
  intro T1470 h1470 lo1470 X1470 e1470 N1470 W1470
  have F1471 := F1467.same W1470
  show own_Go _ _ _ _ _ _ _ T1470 (mkF m 150 L1447 [])
  refine own_il (w := (2 : Int32)) X1470 hx (hb hby d8_150) (by rw [← hL1447]; rfl) ?_
  have F1472 := (((F1457.other W1461 (Nat.ne_of_gt H80)).other W1465 (Nat.ne_of_gt H68)).other W1470 (Nat.ne_of_gt H68))
  have F1473 := ((F1462.other W1465 (Nat.ne_of_gt H69)).other W1470 (Nat.ne_of_gt H69))
  have F1474 := (((((F1444.other W1451 (Nat.ne_of_lt H91)).other W1456 (Nat.ne_of_lt H81)).other W1461 (Nat.ne_of_lt H91)).other W1465 (Nat.ne_of_gt H70)).other W1470 (Nat.ne_of_gt H70))
  have F1475 := ((((((F1439.other W1443 (Nat.ne_of_lt H101)).other W1451 (Nat.ne_of_lt H92)).other W1456 (Nat.ne_of_lt H82)).other W1461 (Nat.ne_of_lt H92)).other W1465 (Nat.ne_of_gt H71)).other W1470 (Nat.ne_of_gt H71))
  have F1476 := (((((((F1434.other W1438 (Nat.ne_of_lt H110)).other W1443 (Nat.ne_of_lt H102)).other W1451 (Nat.ne_of_lt H93)).other W1456 (Nat.ne_of_lt H83)).other W1461 (Nat.ne_of_lt H93)).other W1465 (Nat.ne_of_gt H72)).other W1470 (Nat.ne_of_gt H72))
  have F1477 := ((((((((F1427.other W1431 (Nat.ne_of_lt H118)).other W1438 (Nat.ne_of_lt H111)).other W1443 (Nat.ne_of_lt H103)).other W1451 (Nat.ne_of_lt H94)).other W1456 (Nat.ne_of_lt H84)).other W1461 (Nat.ne_of_lt H94)).other W1465 (Nat.ne_of_gt H73)).other W1470 (Nat.ne_of_gt H73))
  have F1478 := (((((((((F1422.other W1426 (Nat.ne_of_lt H125)).other W1431 (Nat.ne_of_lt H119)).other W1438 (Nat.ne_of_lt H112)).other W1443 (Nat.ne_of_lt H104)).other W1451 (Nat.ne_of_lt H95)).other W1456 (Nat.ne_of_lt H85)).other W1461 (Nat.ne_of_lt H95)).other W1465 (Nat.ne_of_gt H74)).other W1470 (Nat.ne_of_gt H74))
  have F1479 := ((((((((((F1417.other W1421 (Nat.ne_of_lt H131)).other W1426 (Nat.ne_of_lt H126)).other W1431 (Nat.ne_of_lt H120)).other W1438 (Nat.ne_of_lt H113)).other W1443 (Nat.ne_of_lt H105)).other W1451 (Nat.ne_of_lt H96)).other W1456 (Nat.ne_of_lt H86)).other W1461 (Nat.ne_of_lt H96)).other W1465 (Nat.ne_of_gt H75)).other W1470 (Nat.ne_of_gt H75))
  have F1480 := (((((((((((F1398.other W1416 (Or.inl (Nat.ne_of_lt H75))).other W1421 (Or.inl (Nat.ne_of_lt H74))).other W1426 (Or.inl (Nat.ne_of_lt H73))).other W1431 (Or.inl (Nat.ne_of_lt H72))).other W1438 (Or.inl (Nat.ne_of_lt H71))).other W1443 (Or.inl (Nat.ne_of_lt H70))).other W1451 (Or.inl (Nat.ne_of_lt H69))).other W1456 (Or.inl (Nat.ne_of_lt H68))).other W1461 (Or.inl (Nat.ne_of_lt H69))).other W1465 (Or.inr (own_sne (own_f1 hw) (own_f9 hw) (by decide)))).other W1470 (Or.inr (own_sne (own_f1 hw) (own_f12 hw) (by decide))))
  have F1481 := ((((((((((F1418.other W1421 (Or.inl (Nat.ne_of_lt H74))).other W1426 (Or.inl (Nat.ne_of_lt H73))).other W1431 (Or.inl (Nat.ne_of_lt H72))).other W1438 (Or.inl (Nat.ne_of_lt H71))).other W1443 (Or.inl (Nat.ne_of_lt H70))).other W1451 (Or.inl (Nat.ne_of_lt H69))).other W1456 (Or.inl (Nat.ne_of_lt H68))).other W1461 (Or.inl (Nat.ne_of_lt H69))).other W1465 (Or.inr (own_sne (own_f0 hw) (own_f9 hw) (by decide)))).other W1470 (Or.inr (own_sne (own_f0 hw) (own_f12 hw) (by decide))))
  have F1482 := (((((((((F1423.other W1426 (Or.inl (Nat.ne_of_lt H73))).other W1431 (Or.inl (Nat.ne_of_lt H72))).other W1438 (Or.inl (Nat.ne_of_lt H71))).other W1443 (Or.inl (Nat.ne_of_lt H70))).other W1451 (Or.inl (Nat.ne_of_lt H69))).other W1456 (Or.inl (Nat.ne_of_lt H68))).other W1461 (Or.inl (Nat.ne_of_lt H69))).other W1465 (Or.inr (own_sne (own_f2 hw) (own_f9 hw) (by decide)))).other W1470 (Or.inr (own_sne (own_f2 hw) (own_f12 hw) (by decide))))
  have F1483 := ((((((((F1428.other W1431 (Or.inl (Nat.ne_of_lt H72))).other W1438 (Or.inl (Nat.ne_of_lt H71))).other W1443 (Or.inl (Nat.ne_of_lt H70))).other W1451 (Or.inl (Nat.ne_of_lt H69))).other W1456 (Or.inl (Nat.ne_of_lt H68))).other W1461 (Or.inl (Nat.ne_of_lt H69))).other W1465 (Or.inr (own_sne (own_f3 hw) (own_f9 hw) (by decide)))).other W1470 (Or.inr (own_sne (own_f3 hw) (own_f12 hw) (by decide))))
  have F1484 := (((((((F1435.other W1438 (Or.inl (Nat.ne_of_lt H71))).other W1443 (Or.inl (Nat.ne_of_lt H70))).other W1451 (Or.inl (Nat.ne_of_lt H69))).other W1456 (Or.inl (Nat.ne_of_lt H68))).other W1461 (Or.inl (Nat.ne_of_lt H69))).other W1465 (Or.inr (own_sne (own_f4 hw) (own_f9 hw) (by decide)))).other W1470 (Or.inr (own_sne (own_f4 hw) (own_f12 hw) (by decide))))
  have F1485 := ((((((F1440.other W1443 (Or.inl (Nat.ne_of_lt H70))).other W1451 (Or.inl (Nat.ne_of_lt H69))).other W1456 (Or.inl (Nat.ne_of_lt H68))).other W1461 (Or.inl (Nat.ne_of_lt H69))).other W1465 (Or.inr (own_sne (own_f5 hw) (own_f9 hw) (by decide)))).other W1470 (Or.inr (own_sne (own_f5 hw) (own_f12 hw) (by decide))))
  have F1486 := (((F1458.other W1461 (Or.inl (Nat.ne_of_lt H69))).other W1465 (Or.inr (own_sne (own_f6 hw) (own_f9 hw) (by decide)))).other W1470 (Or.inr (own_sne (own_f6 hw) (own_f12 hw) (by decide))))
  have F1487 := ((((F1453.other W1456 (Or.inl (Nat.ne_of_lt H68))).other W1461 (Or.inl (Nat.ne_of_lt H69))).other W1465 (Or.inr (own_sne (own_f7 hw) (own_f9 hw) (by decide)))).other W1470 (Or.inr (own_sne (own_f7 hw) (own_f12 hw) (by decide))))
  have F1488 := (((((((((((F1406.other W1416 (Or.inl (Nat.ne_of_lt H75))).other W1421 (Or.inl (Nat.ne_of_lt H74))).other W1426 (Or.inl (Nat.ne_of_lt H73))).other W1431 (Or.inl (Nat.ne_of_lt H72))).other W1438 (Or.inl (Nat.ne_of_lt H71))).other W1443 (Or.inl (Nat.ne_of_lt H70))).other W1451 (Or.inl (Nat.ne_of_lt H69))).other W1456 (Or.inl (Nat.ne_of_lt H68))).other W1461 (Or.inl (Nat.ne_of_lt H69))).other W1465 (Or.inr (own_sne (own_f8 hw) (own_f9 hw) (by decide)))).other W1470 (Or.inr (own_sne (own_f8 hw) (own_f12 hw) (by decide))))
  have F1489 := (F1466.other W1470 (Or.inr (own_sne (own_f9 hw) (own_f12 hw) (by decide))))
  have F1490 := (((((((((((F1408.other W1416 (Or.inl (Nat.ne_of_lt H75))).other W1421 (Or.inl (Nat.ne_of_lt H74))).other W1426 (Or.inl (Nat.ne_of_lt H73))).other W1431 (Or.inl (Nat.ne_of_lt H72))).other W1438 (Or.inl (Nat.ne_of_lt H71))).other W1443 (Or.inl (Nat.ne_of_lt H70))).other W1451 (Or.inl (Nat.ne_of_lt H69))).other W1456 (Or.inl (Nat.ne_of_lt H68))).other W1461 (Or.inl (Nat.ne_of_lt H69))).other W1465 (Or.inr (own_sne (own_f10 hw) (own_f9 hw) (by decide)))).other W1470 (Or.inr (own_sne (own_f10 hw) (own_f12 hw) (by decide))))
  have F1491 := (((((((((((F1409.other W1416 (Or.inl (Nat.ne_of_lt H75))).other W1421 (Or.inl (Nat.ne_of_lt H74))).other W1426 (Or.inl (Nat.ne_of_lt H73))).other W1431 (Or.inl (Nat.ne_of_lt H72))).other W1438 (Or.inl (Nat.ne_of_lt H71))).other W1443 (Or.inl (Nat.ne_of_lt H70))).other W1451 (Or.inl (Nat.ne_of_lt H69))).other W1456 (Or.inl (Nat.ne_of_lt H68))).other W1461 (Or.inl (Nat.ne_of_lt H69))).other W1465 (Or.inr (own_sne (own_f11 hw) (own_f9 hw) (by decide)))).other W1470 (Or.inr (own_sne (own_f11 hw) (own_f12 hw) (by decide))))
  have F1492 := (((((((((((F1411.other W1416 (Or.inl (Nat.ne_of_lt H75))).other W1421 (Or.inl (Nat.ne_of_lt H74))).other W1426 (Or.inl (Nat.ne_of_lt H73))).other W1431 (Or.inl (Nat.ne_of_lt H72))).other W1438 (Or.inl (Nat.ne_of_lt H71))).other W1443 (Or.inl (Nat.ne_of_lt H70))).other W1451 (Or.inl (Nat.ne_of_lt H69))).other W1456 (Or.inl (Nat.ne_of_lt H68))).other W1461 (Or.inl (Nat.ne_of_lt H69))).other W1465 (Or.inr (own_sne (own_f13 hw) (own_f9 hw) (by decide)))).other W1470 (Or.inr (own_sne (own_f13 hw) (own_f12 hw) (by decide))))
  exact own_retI X1470 hx hlk hret (hb hby d8_152) e1470 ⟨rfl, N1470, (((((((((((((Keep.refl _ _).trans K1397 (allS (Or.inl (by simp)) all0)).wr W1416 (Or.inl (by simp))).wr W1421 (Or.inl (by simp))).wr W1426 (Or.inl (by simp))).wr W1431 (Or.inl (by simp))).wr W1438 (Or.inl (by simp))).wr W1443 (Or.inl (by simp))).wr W1451 (Or.inl (by simp))).wr W1456 (Or.inl (by simp))).wr W1461 (Or.inl (by simp))).wr W1465 (Or.inl (by simp))).wr W1470 (Or.inl (by simp))), F1472, F1473, F1474, F1475, F1476, F1477, F1478, F1479, F1480, F1481, F1482, F1483, F1484, F1485, F1486, F1487, F1488, F1489, F1490, F1491, F1471, F1492⟩ (by decide) (by decide)
def own_s23_Q (Z : State) (a33 : Addr) (f1222 : UInt64) (a1304 : Addr) (a274 : Addr) (a273 : Addr) (a272 : Addr) (a271 : Addr) (a270 : Addr) (a269 : Addr) (a268 : Addr) (a267 : Addr) (a811 : Addr) (f386 : UInt64) (a1172 : Addr) (f858 : UInt64) (h0 : Heap) (n0 : Nat) (v_ : Option Value) (h_ : Heap) (L_ : List Loc) : Prop := (fun v h L => v = none ∧ Fr n0 L ∧ Keep h0 h [a33, a267, a268, a269, a270, a271, a272, a273, a274] ∧ own_Ary Z h a274 .int ([(.int (-1 : Int32)), (.int (0 : Int32)), (.int (1 : Int32))] ++ own_rI 13) ∧ own_Ary Z h a273 .int ([(.int (1 : Int32)), (.int (2 : Int32)), (.int (-1 : Int32))] ++ own_rI 13) ∧ own_Ary Z h a272 .long (own_rJ 16) ∧ own_Ary Z h a271 .boolean (own_rI 16) ∧ own_Ary Z h a270 (.object own_k1) ([(.ref a811), (.ref a1172), (.ref a1304)] ++ own_rN 13) ∧ own_Ary Z h a269 .boolean (own_rI 16) ∧ own_Ary Z h a268 .double ([(.double f386), (.double f858), (.double f1222)] ++ own_rD 13) ∧ own_Ary Z h a267 .double ([(.double (4621819117588971520 : UInt64)), (.double (4626322717216342016 : UInt64)), (.double (4629137466983448576 : UInt64))] ++ own_rD 13) ∧ Fld Z h a33 own_k0 "thresholds" "[D" (.ref a267) ∧ Fld Z h a33 own_k0 "ranks" "[D" (.ref a268) ∧ Fld Z h a33 own_k0 "guarded" "[Z" (.ref a269) ∧ Fld Z h a33 own_k0 "extents" own_k4 (.ref a270) ∧ Fld Z h a33 own_k0 "addedAtThreshold" "[Z" (.ref a271) ∧ Fld Z h a33 own_k0 "copies" "[J" (.ref a272) ∧ Fld Z h a33 own_k0 "nextOf" "[I" (.ref a273) ∧ Fld Z h a33 own_k0 "previousOf" "[I" (.ref a274) ∧ Fld Z h a33 own_k0 "first" "I" (.int (0 : Int32)) ∧ Fld Z h a33 own_k0 "last" "I" (.int (2 : Int32)) ∧ Fld Z h a33 own_k0 "free" "I" (.int (-1 : Int32)) ∧ Fld Z h a33 own_k0 "smallestMagnitude" "D" (.double (9218868437227405312 : UInt64)) ∧ Fld Z h a33 own_k0 "size" "I" (.int (3 : Int32)) ∧ Fld Z h a33 own_k0 "used" "I" (.int (3 : Int32))) v_ h_ L_
set_option maxRecDepth 65536 in
set_option maxHeartbeats 40000000 in
theorem own_s23 (l : Launch) (Z : State) (a0 : Array Value) (hw : ∀ d ∈ tables_1, d.before a0 Z = true) (wds : List Jvm.Cond) (a33 : Addr) (f1222 : UInt64) (a1304 : Addr) (a274 : Addr) (a273 : Addr) (a272 : Addr) (a271 : Addr) (a270 : Addr) (a269 : Addr) (a268 : Addr) (a267 : Addr) (a811 : Addr) (f386 : UInt64) (a1172 : Addr) (f858 : UInt64) (h0 : Heap) (n0 : Nat) (Z0 : n0 ≤ h0.size) (H3 : Exa Z h0 a33 own_k0) (H9 : own_Ovr Z h0 a270 own_k1) (H20 : own_Ary Z h0 a274 .int ([(.int (-1 : Int32))] ++ own_rI 15)) (H21 : own_Ary Z h0 a273 .int ([(.int (1 : Int32)), (.int (-1 : Int32))] ++ own_rI 14)) (H22 : own_Ary Z h0 a272 .long (own_rJ 16)) (H23 : own_Ary Z h0 a271 .boolean (own_rI 16)) (H24 : own_Ary Z h0 a270 (.object own_k1) ([(.ref a811), (.ref a1172)] ++ own_rN 14)) (H25 : own_Ary Z h0 a269 .boolean (own_rI 16)) (H26 : own_Ary Z h0 a268 .double ([(.double f386), (.double f858)] ++ own_rD 14)) (H27 : own_Ary Z h0 a267 .double ([(.double (4621819117588971520 : UInt64)), (.double (4626322717216342016 : UInt64))] ++ own_rD 14)) (H28 : Fld Z h0 a33 own_k0 "thresholds" "[D" (.ref a267)) (H29 : Fld Z h0 a33 own_k0 "ranks" "[D" (.ref a268)) (H30 : Fld Z h0 a33 own_k0 "guarded" "[Z" (.ref a269)) (H31 : Fld Z h0 a33 own_k0 "extents" own_k4 (.ref a270)) (H32 : Fld Z h0 a33 own_k0 "addedAtThreshold" "[Z" (.ref a271)) (H33 : Fld Z h0 a33 own_k0 "copies" "[J" (.ref a272)) (H34 : Fld Z h0 a33 own_k0 "nextOf" "[I" (.ref a273)) (H35 : Fld Z h0 a33 own_k0 "previousOf" "[I" (.ref a274)) (H36 : Fld Z h0 a33 own_k0 "first" "I" (.int (0 : Int32))) (H37 : Fld Z h0 a33 own_k0 "last" "I" (.int (1 : Int32))) (H38 : Fld Z h0 a33 own_k0 "free" "I" (.int (-1 : Int32))) (H39 : Fld Z h0 a33 own_k0 "smallestMagnitude" "D" (.double (9218868437227405312 : UInt64))) (H40 : Fld Z h0 a33 own_k0 "size" "I" (.int (2 : Int32))) (H41 : Fld Z h0 a33 own_k0 "used" "I" (.int (2 : Int32))) (H49 : Exa Z h0 a1304 own_k1) (H68 : a33 < a274) (H69 : a33 < a273) (H70 : a33 < a272) (H71 : a33 < a271) (H72 : a33 < a270) (H73 : a33 < a269) (H74 : a33 < a268) (H75 : a33 < a267) (H79 : n0 ≤ a33) (H80 : a273 < a274) (H81 : a272 < a274) (H82 : a271 < a274) (H83 : a270 < a274) (H84 : a269 < a274) (H85 : a268 < a274) (H86 : a267 < a274) (H90 : n0 ≤ a274) (H91 : a272 < a273) (H92 : a271 < a273) (H93 : a270 < a273) (H94 : a269 < a273) (H95 : a268 < a273) (H96 : a267 < a273) (H100 : n0 ≤ a273) (H101 : a271 < a272) (H102 : a270 < a272) (H103 : a269 < a272) (H104 : a268 < a272) (H105 : a267 < a272) (H109 : n0 ≤ a272) (H110 : a270 < a271) (H111 : a269 < a271) (H112 : a268 < a271) (H113 : a267 < a271) (H117 : n0 ≤ a271) (H118 : a269 < a270) (H119 : a268 < a270) (H120 : a267 < a270) (H124 : n0 ≤ a270) (H125 : a268 < a269) (H126 : a267 < a269) (H130 : n0 ≤ a269) (H131 : a267 < a268) (H135 : n0 ≤ a268) (H139 : n0 ≤ a267) :
    MetFree l (⟨own_k0, "append", own_k7⟩ : MethodName) (head1 (Jvm.Cond.code (⟨own_k0, "append", own_k7⟩ : MethodName) prog_5_method_13_code 8 none :: wds) ({ frames := 2, cells := 0, slots := 0, locals := 35 } : Room)) (fun ar_ U_ => ar_ = #[(.ref a33), (.double (4629137466983448576 : UInt64)), (.double f1222), (.ref a1304), (.long (0 : Int64))] ∧ Z.Warmed39 U_.vm ∧ U_.heap = h0) (fun _ _ _ _ _ => True) (fun _ U_ o_ V_ => ∃ v_ L_, o_ = .returned v_ ∧ own_s23_Q Z a33 f1222 a1304 a274 a273 a272 a271 a270 a269 a268 a267 a811 f386 a1172 f858 h0 n0 v_ V_.heap L_ ∧ FrameEnd U_ o_ V_ L_ ({ frames := 2, cells := 0, slots := 0, locals := 35 } : Room).cells ({ frames := 2, cells := 0, slots := 0, locals := 35 } : Room).slots) := by
  refine own_met (y := ⟨own_k0, "append", own_k7⟩) (Q := own_s23_Q Z a33 f1222 a1304 a274 a273 a272 a271 a270 a269 a268 a267 a811 f386 a1172 f858 h0 n0) own_pn1 ?_
  intro p e s m below meth c s₁ hx hby hml hZ hown hnm hret hlk X0 e0
  have N0 := Fr.nil n0
  refine own_cast (g' := (mkF m 0 #[.val (.ref a33), .val (.double (4629137466983448576 : UInt64)), .second, .val (.double f1222), .second, .val (.ref a1304), .val (.long (0 : Int64)), .second] [])) (by first | (simp [entryFrame, mkF, argsToLocals, Value.category]; done) | rfl) ?_
  generalize hL1328 : (#[.val (.ref a33), .val (.double (4629137466983448576 : UInt64)), .second, .val (.double f1222), .second, .val (.ref a1304), .val (.long (0 : Int64)), .second] : Array Slot) = L1328
  refine own_alN (w := (.ref a33)) X0 hx (hb hby d7_0) (by rw [← hL1328]; rfl) rfl ?_
  refine own_ic X0 hx (-1 : Int32) (hb hby d7_1) rfl ?_
  refine own_dlN (w := (4629137466983448576 : UInt64)) X0 hx (hb hby d7_2) (by rw [← hL1328]; rfl) ?_
  refine own_dlN (w := f1222) X0 hx (hb hby d7_3) (by rw [← hL1328]; rfl) ?_
  refine own_alN (w := (.ref a33)) X0 hx (hb hby d7_4) (by rw [← hL1328]; rfl) rfl ?_
  refine own_getf X0 hx hZ hown (own_w hw 48 rfl) e0 H40 (hb hby d7_5) ?_
  intro T1376 X1376 e1376
  show own_Go _ _ _ _ _ _ _ T1376 (mkF m 8 L1328 [(.int (2 : Int32)), (.double f1222), (.double (4629137466983448576 : UInt64)), (.int (-1 : Int32)), (.ref a33)])
  refine own_pre (g' := (mkF m 20 L1328 [(.double f1222), (.double (4629137466983448576 : UInt64)), (.int (-1 : Int32)), (.ref a33)])) (fun t k => XS.ifYes X1376.here hx rfl (pc0 := 8) (pc' := 20) rfl (hb hby d7_8) rfl (by decide) (by decide) (by decide) k) ?_
  refine own_al (w := (.ref a1304)) X1376 hx (hb hby d7_20) (by rw [← hL1328]; rfl) rfl ?_
  refine own_ll (w := (0 : Int64)) X1376 hx (hb hby d7_22) (by rw [← hL1328]; rfl) ?_
  refine own_callp (a := a33) (argsL := [(.int (-1 : Int32)), (.double (4629137466983448576 : UInt64)), (.double f1222), (.ref a1304), (.long (0 : Int64))]) (rest := []) X1376 hx hZ hown (own_s24 l Z a0 hw [] a33 f1222 a1304 a274 a273 a272 a271 a270 a269 a268 a267 a811 f386 a1172 f858 h0 n0 Z0 H3 H9 H20 H21 H22 H23 H24 H25 H26 H27 H28 H29 H30 H31 H32 H33 H34 H35 H36 H37 H38 H39 H40 H41 H49 H68 H69 H70 H71 H72 H73 H74 H75 H79 H80 H81 H82 H83 H84 H85 H86 H90 H91 H92 H93 H94 H95 H96 H100 H101 H102 H103 H104 H105 H109 H110 H111 H112 H113 H117 H118 H119 H120 H124 H125 H126 H130 H131 H135 H139) H3 (own_w hw 82 rfl) (own_w hw 5 rfl) (own_w hw 84 rfl) (own_w hw 83 rfl) (own_w hw 85 rfl) (own_w hw 6 rfl) (by decide) e1376 (hb hby d7_24) (by rw [hml, ← hL1328]; rfl) rfl (lenOf own_pd4 rfl) (by decide) (W := 0) (Nat.le_of_eq rfl) (by decide) (by decide) (by decide) ?_
  intro v1493 T1493 lo1493 X1493 Q1493
  obtain ⟨h1493, e1493⟩ : ∃ h, T1493.heap = h := ⟨_, rfl⟩
  rw [e1493] at Q1493
  obtain ⟨rfl, N1493, K1493, F1494, F1495, F1496, F1497, F1498, F1499, F1500, F1501, F1502, F1503, F1504, F1505, F1506, F1507, F1508, F1509, F1510, F1511, F1512, F1513, F1514, F1515⟩ := Q1493
  have N1493' := Fr.app N0 N1493
  show own_Go _ _ _ _ _ _ _ T1493 (mkF m 27 L1328 [(.int (2 : Int32))])
  refine own_pre (g' := (mkF m 28 L1328 [])) (fun t k => XT.pop X1493.here hx rfl (hb hby d7_27) rfl rfl k) ?_
  exact own_ret0 X1493 hx hlk hret (hb hby d7_28) e1493 ⟨rfl, N1493', ((Keep.refl _ _).trans K1493 (allS (Or.inl (by simp)) (allS (Or.inl (by simp)) (allS (Or.inl (by simp)) (allS (Or.inl (by simp)) (allS (Or.inl (by simp)) (allS (Or.inl (by simp)) (allS (Or.inl (by simp)) (allS (Or.inl (by simp)) (allS (Or.inl (by simp)) all0)))))))))), F1494, F1495, F1496, F1497, F1498, F1499, F1500, F1501, F1502, F1503, F1504, F1505, F1506, F1507, F1508, F1509, F1510, F1511, F1512, F1513, F1514, F1515⟩ (by decide) (by decide)
def own_s19_Q (Z : State) (a33 : Addr) (f1222 : UInt64) (a274 : Addr) (a273 : Addr) (a272 : Addr) (a271 : Addr) (a270 : Addr) (a269 : Addr) (a268 : Addr) (a267 : Addr) (a811 : Addr) (f386 : UInt64) (a1172 : Addr) (f858 : UInt64) (v6 : Int32) (v2 : Int32) (v4 : Int32) (v8 : Int32) (v10 : Int32) (h0 : Heap) (n0 : Nat) (v_ : Option Value) (h_ : Heap) (L_ : List Loc) : Prop := (fun v h L => ∃ (a1304 : Addr) (f1249 : UInt64), v = none ∧ Fr n0 L ∧ Keep h0 h [a33, a267, a268, a269, a270, a271, a272, a273, a274] ∧ h0.size ≤ a1304 ∧ own_Ary Z h a274 .int ([(.int (-1 : Int32)), (.int (0 : Int32)), (.int (1 : Int32))] ++ own_rI 13) ∧ own_Ary Z h a273 .int ([(.int (1 : Int32)), (.int (2 : Int32)), (.int (-1 : Int32))] ++ own_rI 13) ∧ own_Ary Z h a272 .long (own_rJ 16) ∧ own_Ary Z h a271 .boolean (own_rI 16) ∧ own_Ary Z h a270 (.object own_k1) ([(.ref a811), (.ref a1172), (.ref a1304)] ++ own_rN 13) ∧ own_Ary Z h a269 .boolean (own_rI 16) ∧ own_Ary Z h a268 .double ([(.double f386), (.double f858), (.double f1222)] ++ own_rD 13) ∧ own_Ary Z h a267 .double ([(.double (4621819117588971520 : UInt64)), (.double (4626322717216342016 : UInt64)), (.double (4629137466983448576 : UInt64))] ++ own_rD 13) ∧ Fld Z h a33 own_k0 "thresholds" "[D" (.ref a267) ∧ Fld Z h a33 own_k0 "ranks" "[D" (.ref a268) ∧ Fld Z h a33 own_k0 "guarded" "[Z" (.ref a269) ∧ Fld Z h a33 own_k0 "extents" own_k4 (.ref a270) ∧ Fld Z h a33 own_k0 "addedAtThreshold" "[Z" (.ref a271) ∧ Fld Z h a33 own_k0 "copies" "[J" (.ref a272) ∧ Fld Z h a33 own_k0 "nextOf" "[I" (.ref a273) ∧ Fld Z h a33 own_k0 "previousOf" "[I" (.ref a274) ∧ Fld Z h a33 own_k0 "first" "I" (.int (0 : Int32)) ∧ Fld Z h a33 own_k0 "last" "I" (.int (2 : Int32)) ∧ Fld Z h a33 own_k0 "free" "I" (.int (-1 : Int32)) ∧ Fld Z h a33 own_k0 "smallestMagnitude" "D" (.double (9218868437227405312 : UInt64)) ∧ Fld Z h a33 own_k0 "size" "I" (.int (3 : Int32)) ∧ Fld Z h a33 own_k0 "used" "I" (.int (3 : Int32)) ∧ Exa Z h a1304 own_k1 ∧ Fld Z h a1304 own_k1 "low" "D" (.double (4626322717216342016 : UInt64)) ∧ Fld Z h a1304 own_k1 "gapLow" "D" (.double (4629137466983448576 : UInt64)) ∧ Fld Z h a1304 own_k1 "gapHigh" "D" (.double (4629137466983448576 : UInt64)) ∧ Fld Z h a1304 own_k1 "high" "D" (.double (4629137466983448576 : UInt64)) ∧ Fld Z h a1304 own_k1 "below" "D" (.double f1249) ∧ Fld Z h a1304 own_k1 "count" "D" (.double f1249) ∧ FP.Core.DInt (v6.toInt - v4.toInt) f1249) v_ h_ L_
set_option maxRecDepth 65536 in
set_option maxHeartbeats 40000000 in
theorem own_s19 (l : Launch) (Z : State) (a0 : Array Value) (hw : ∀ d ∈ tables_1, d.before a0 Z = true) (wds : List Jvm.Cond) (a33 : Addr) (f1222 : UInt64) (a274 : Addr) (a273 : Addr) (a272 : Addr) (a271 : Addr) (a270 : Addr) (a269 : Addr) (a268 : Addr) (a267 : Addr) (a811 : Addr) (f386 : UInt64) (a1172 : Addr) (f858 : UInt64) (v6 : Int32) (v2 : Int32) (v4 : Int32) (v8 : Int32) (v10 : Int32) (h0 : Heap) (n0 : Nat) (Z0 : n0 ≤ h0.size) (H3 : Exa Z h0 a33 own_k0) (H4 : Exa Z h0 a274 "[I") (H5 : Exa Z h0 a273 "[I") (H6 : Exa Z h0 a272 "[J") (H7 : Exa Z h0 a271 "[Z") (H8 : Exa Z h0 a270 own_k4) (H9 : own_Ovr Z h0 a270 own_k1) (H10 : Exa Z h0 a269 "[Z") (H11 : Exa Z h0 a268 "[D") (H12 : Exa Z h0 a267 "[D") (H20 : own_Ary Z h0 a274 .int ([(.int (-1 : Int32))] ++ own_rI 15)) (H21 : own_Ary Z h0 a273 .int ([(.int (1 : Int32)), (.int (-1 : Int32))] ++ own_rI 14)) (H22 : own_Ary Z h0 a272 .long (own_rJ 16)) (H23 : own_Ary Z h0 a271 .boolean (own_rI 16)) (H24 : own_Ary Z h0 a270 (.object own_k1) ([(.ref a811), (.ref a1172)] ++ own_rN 14)) (H25 : own_Ary Z h0 a269 .boolean (own_rI 16)) (H26 : own_Ary Z h0 a268 .double ([(.double f386), (.double f858)] ++ own_rD 14)) (H27 : own_Ary Z h0 a267 .double ([(.double (4621819117588971520 : UInt64)), (.double (4626322717216342016 : UInt64))] ++ own_rD 14)) (H28 : Fld Z h0 a33 own_k0 "thresholds" "[D" (.ref a267)) (H29 : Fld Z h0 a33 own_k0 "ranks" "[D" (.ref a268)) (H30 : Fld Z h0 a33 own_k0 "guarded" "[Z" (.ref a269)) (H31 : Fld Z h0 a33 own_k0 "extents" own_k4 (.ref a270)) (H32 : Fld Z h0 a33 own_k0 "addedAtThreshold" "[Z" (.ref a271)) (H33 : Fld Z h0 a33 own_k0 "copies" "[J" (.ref a272)) (H34 : Fld Z h0 a33 own_k0 "nextOf" "[I" (.ref a273)) (H35 : Fld Z h0 a33 own_k0 "previousOf" "[I" (.ref a274)) (H36 : Fld Z h0 a33 own_k0 "first" "I" (.int (0 : Int32))) (H37 : Fld Z h0 a33 own_k0 "last" "I" (.int (1 : Int32))) (H38 : Fld Z h0 a33 own_k0 "free" "I" (.int (-1 : Int32))) (H39 : Fld Z h0 a33 own_k0 "smallestMagnitude" "D" (.double (9218868437227405312 : UInt64))) (H40 : Fld Z h0 a33 own_k0 "size" "I" (.int (2 : Int32))) (H41 : Fld Z h0 a33 own_k0 "used" "I" (.int (2 : Int32))) (H60 : a33 < a267) (H61 : a33 < a268) (H62 : a33 < a269) (H63 : a33 < a270) (H64 : a33 < a271) (H65 : a33 < a272) (H66 : a33 < a273) (H67 : a33 < a274) (H70 : n0 ≤ a33) (H71 : a267 < a268) (H72 : a267 < a269) (H73 : a267 < a270) (H74 : a267 < a271) (H75 : a267 < a272) (H76 : a267 < a273) (H77 : a267 < a274) (H80 : n0 ≤ a267) (H81 : a268 < a269) (H82 : a268 < a270) (H83 : a268 < a271) (H84 : a268 < a272) (H85 : a268 < a273) (H86 : a268 < a274) (H89 : n0 ≤ a268) (H90 : a269 < a270) (H91 : a269 < a271) (H92 : a269 < a272) (H93 : a269 < a273) (H94 : a269 < a274) (H97 : n0 ≤ a269) (H98 : a270 < a271) (H99 : a270 < a272) (H100 : a270 < a273) (H101 : a270 < a274) (H104 : n0 ≤ a270) (H105 : a271 < a272) (H106 : a271 < a273) (H107 : a271 < a274) (H110 : n0 ≤ a271) (H111 : a272 < a273) (H112 : a272 < a274) (H115 : n0 ≤ a272) (H116 : a273 < a274) (H119 : n0 ≤ a273) (H122 : n0 ≤ a274) (H126 : FP.Core.DInt v6.toInt f1222) (H128 : FP.Core.DInt v4.toInt f858) (H130 : 1 ≤ v2.toInt ∧ v2.toInt ≤ v4.toInt ∧ v4.toInt < v6.toInt ∧ v6.toInt < v8.toInt ∧ v8.toInt ≤ 8388608 ∧ 1 ≤ v10.toInt ∧ v10.toInt ≤ 8388608) :
    MetFree l (⟨own_k0, "append", "(DD)V"⟩ : MethodName) (head1 (Jvm.Cond.code (⟨own_k0, "append", "(DD)V"⟩ : MethodName) prog_5_method_12_code 7 none :: wds) ({ frames := 4, cells := 1, slots := 6, locals := 71 } : Room)) (fun ar_ U_ => ar_ = #[(.ref a33), (.double (4629137466983448576 : UInt64)), (.double f1222)] ∧ Z.Warmed39 U_.vm ∧ U_.heap = h0) (fun _ _ _ _ _ => True) (fun _ U_ o_ V_ => ∃ v_ L_, o_ = .returned v_ ∧ own_s19_Q Z a33 f1222 a274 a273 a272 a271 a270 a269 a268 a267 a811 f386 a1172 f858 v6 v2 v4 v8 v10 h0 n0 v_ V_.heap L_ ∧ FrameEnd U_ o_ V_ L_ ({ frames := 4, cells := 1, slots := 6, locals := 71 } : Room).cells ({ frames := 4, cells := 1, slots := 6, locals := 71 } : Room).slots) := by
  refine own_met (y := ⟨own_k0, "append", "(DD)V"⟩) (Q := own_s19_Q Z a33 f1222 a274 a273 a272 a271 a270 a269 a268 a267 a811 f386 a1172 f858 v6 v2 v4 v8 v10 h0 n0) own_pn1 ?_
  intro p e s m below meth c s₁ hx hby hml hZ hown hnm hret hlk X0 e0
  have N0 := Fr.nil n0
  refine own_cast (g' := (mkF m 0 #[.val (.ref a33), .val (.double (4629137466983448576 : UInt64)), .second, .val (.double f1222), .second, .unset, .unset] [])) (by first | (simp [entryFrame, mkF, argsToLocals, Value.category]; done) | rfl) ?_
  generalize hL1223 : (#[.val (.ref a33), .val (.double (4629137466983448576 : UInt64)), .second, .val (.double f1222), .second, .unset, .unset] : Array Slot) = L1223
  refine own_alN (w := (.ref a33)) X0 hx (hb hby d3_0) (by rw [← hL1223]; rfl) rfl ?_
  refine own_getf X0 hx hZ hown (own_w hw 48 rfl) e0 H40 (hb hby d3_1) ?_
  intro T1242 X1242 e1242
  show own_Go _ _ _ _ _ _ _ T1242 (mkF m 4 L1223 [(.int (2 : Int32))])
  refine own_pre (g' := (mkF m 11 L1223 [])) (fun t k => XS.ifYes X1242.here hx rfl (pc0 := 4) (pc' := 11) rfl (hb hby d3_4) rfl (by decide) (by decide) (by decide) k) ?_
  refine own_alN (w := (.ref a33)) X1242 hx (hb hby d3_11) (by rw [← hL1223]; rfl) rfl ?_
  refine own_getf X1242 hx hZ hown (own_w hw 13 rfl) e1242 H28 (hb hby d3_12) ?_
  intro T1243 X1243 e1243
  show own_Go _ _ _ _ _ _ _ T1243 (mkF m 15 L1223 [(.ref a267)])
  refine own_alN (w := (.ref a33)) X1243 hx (hb hby d3_15) (by rw [← hL1223]; rfl) rfl ?_
  refine own_getf X1243 hx hZ hown (own_w hw 35 rfl) e1243 H37 (hb hby d3_16) ?_
  intro T1244 X1244 e1244
  show own_Go _ _ _ _ _ _ _ T1244 (mkF m 19 L1223 [(.int (1 : Int32)), (.ref a267)])
  refine own_daload X1244 hx hZ e1244 H27 (hb hby d3_19) (n := 1) (v := (.double (4626322717216342016 : UInt64))) (by decide) (by decide) rfl ?_
  show own_Go _ _ _ _ _ _ _ T1244 (mkF m 20 L1223 [(.double (4626322717216342016 : UInt64))])
  refine own_pre (g' := (mkF m 22 #[.val (.ref a33), .val (.double (4629137466983448576 : UInt64)), .second, .val (.double f1222), .second, .val (.double (4626322717216342016 : UInt64)), .second] [])) (fun t k => XS.dstore X1244.here hx rfl (hb hby d3_20) rfl (l' := #[.val (.ref a33), .val (.double (4629137466983448576 : UInt64)), .second, .val (.double f1222), .second, .val (.double (4626322717216342016 : UInt64)), .second]) (by rw [← hL1223]; rfl) k) ?_
  generalize hL1245 : (#[.val (.ref a33), .val (.double (4629137466983448576 : UInt64)), .second, .val (.double f1222), .second, .val (.double (4626322717216342016 : UInt64)), .second] : Array Slot) = L1245
  refine own_alN (w := (.ref a33)) X1244 hx (hb hby d3_22) (by rw [← hL1245]; rfl) rfl ?_
  refine own_dlN (w := (4629137466983448576 : UInt64)) X1244 hx (hb hby d3_23) (by rw [← hL1245]; rfl) ?_
  refine own_dlN (w := f1222) X1244 hx (hb hby d3_24) (by rw [← hL1245]; rfl) ?_
  refine own_dl (w := (4626322717216342016 : UInt64)) X1244 hx (hb hby d3_25) (by rw [← hL1245]; rfl) ?_
  refine own_dlN (w := (4629137466983448576 : UInt64)) X1244 hx (hb hby d3_27) (by rw [← hL1245]; rfl) ?_
  refine own_alN (w := (.ref a33)) X1244 hx (hb hby d3_28) (by rw [← hL1245]; rfl) rfl ?_
  refine own_getf X1244 hx hZ hown (own_w hw 48 rfl) e1244 H40 (hb hby d3_29) ?_
  intro T1246 X1246 e1246
  show own_Go _ _ _ _ _ _ _ T1246 (mkF m 32 L1245 [(.int (2 : Int32)), (.double (4629137466983448576 : UInt64)), (.double (4626322717216342016 : UInt64)), (.double f1222), (.double (4629137466983448576 : UInt64)), (.ref a33)])
  refine own_pre (g' := (mkF m 39 L1245 [(.double (4629137466983448576 : UInt64)), (.double (4626322717216342016 : UInt64)), (.double f1222), (.double (4629137466983448576 : UInt64)), (.ref a33)])) (fun t k => XS.ifYes X1246.here hx rfl (pc0 := 32) (pc' := 39) rfl (hb hby d3_32) rfl (by decide) (by decide) (by decide) k) ?_
  refine own_dlN (w := f1222) X1246 hx (hb hby d3_39) (by rw [← hL1245]; rfl) ?_
  refine own_alN (w := (.ref a33)) X1246 hx (hb hby d3_40) (by rw [← hL1245]; rfl) rfl ?_
  refine own_getf X1246 hx hZ hown (own_w hw 15 rfl) e1246 H29 (hb hby d3_41) ?_
  intro T1247 X1247 e1247
  show own_Go _ _ _ _ _ _ _ T1247 (mkF m 44 L1245 [(.ref a268), (.double f1222), (.double (4629137466983448576 : UInt64)), (.double (4626322717216342016 : UInt64)), (.double f1222), (.double (4629137466983448576 : UInt64)), (.ref a33)])
  refine own_alN (w := (.ref a33)) X1247 hx (hb hby d3_44) (by rw [← hL1245]; rfl) rfl ?_
  refine own_getf X1247 hx hZ hown (own_w hw 35 rfl) e1247 H37 (hb hby d3_45) ?_
  intro T1248 X1248 e1248
  show own_Go _ _ _ _ _ _ _ T1248 (mkF m 48 L1245 [(.int (1 : Int32)), (.ref a268), (.double f1222), (.double (4629137466983448576 : UInt64)), (.double (4626322717216342016 : UInt64)), (.double f1222), (.double (4629137466983448576 : UInt64)), (.ref a33)])
  refine own_daload X1248 hx hZ e1248 H26 (hb hby d3_48) (n := 1) (v := (.double f858)) (by decide) (by decide) rfl ?_
  show own_Go _ _ _ _ _ _ _ T1248 (mkF m 49 L1245 [(.double f858), (.double f1222), (.double (4629137466983448576 : UInt64)), (.double (4626322717216342016 : UInt64)), (.double f1222), (.double (4629137466983448576 : UInt64)), (.ref a33)])
  obtain ⟨f1249, hf1249⟩ : ∃ z, FP.dsub f1222 f858 = z := ⟨_, rfl⟩
  have Df1249 : Jvm.FP.Core.DInt (v6.toInt - v4.toInt) f1249 := hf1249 ▸ Jvm.FP.Core.dsub_int H126 H128 (by have := H130; have := rng32 v6; have := rng32 v4; omega)
  refine own_pre (g' := (mkF m 50 L1245 [(.double f1249), (.double (4629137466983448576 : UInt64)), (.double (4626322717216342016 : UInt64)), (.double f1222), (.double (4629137466983448576 : UInt64)), (.ref a33)])) (fun t k => XS.dsubS X1248.here hx rfl (hb hby d3_49) rfl (by rw [hf1249]; exact own_DInt_nn Df1249) hf1249 k) ?_
  refine own_calls (argsL := [(.double (4626322717216342016 : UInt64)), (.double (4629137466983448576 : UInt64)), (.double f1249)]) (rest := [(.double f1222), (.double (4629137466983448576 : UInt64)), (.ref a33)]) X1248 hx hZ hown (own_s20 l Z a0 hw [] f1249 h0 n0 Z0 ) (own_w hw 50 rfl) (own_w hw 51 rfl) (own_w hw 53 rfl) (own_w hw 52 rfl) (by decide) e1248 (hb hby d3_50) (by rw [hml, ← hL1245]; rfl) rfl (lenOf own_pd2 rfl) (by decide) (W := 5) (Nat.le_of_eq rfl) (by decide) (by decide) (by decide) ?_
  intro v1303 T1303 lo1303 X1303 Q1303
  obtain ⟨h1303, e1303⟩ : ∃ h, T1303.heap = h := ⟨_, rfl⟩
  rw [e1303] at Q1303
  obtain ⟨a1304, rfl, N1303, K1303, ge1305, F1306, F1307, F1308, F1309, F1310, F1311, F1312⟩ := Q1303
  have N1303' := Fr.app N0 N1303
  show own_Go _ _ _ _ _ _ _ T1303 (mkF m 53 L1245 [(.ref a1304), (.double f1222), (.double (4629137466983448576 : UInt64)), (.ref a33)])
  have lt1315 : a33 < a1304 := Nat.lt_of_lt_of_le H3.lt ge1305
  have lt1316 : a274 < a1304 := Nat.lt_of_lt_of_le H4.lt ge1305
  have lt1317 : a273 < a1304 := Nat.lt_of_lt_of_le H5.lt ge1305
  have lt1318 : a272 < a1304 := Nat.lt_of_lt_of_le H6.lt ge1305
  have lt1319 : a271 < a1304 := Nat.lt_of_lt_of_le H7.lt ge1305
  have lt1320 : a270 < a1304 := Nat.lt_of_lt_of_le H8.lt ge1305
  have lt1321 : a269 < a1304 := Nat.lt_of_lt_of_le H10.lt ge1305
  have lt1322 : a268 < a1304 := Nat.lt_of_lt_of_le H11.lt ge1305
  have lt1323 : a267 < a1304 := Nat.lt_of_lt_of_le H12.lt ge1305
  have ge1327 : h0.size ≤ a1304 := Nat.le_trans (Nat.le_refl _) ge1305
  refine own_pre (g' := (mkF m 54 L1245 [(.long (0 : Int64)), (.ref a1304), (.double f1222), (.double (4629137466983448576 : UInt64)), (.ref a33)])) (fun t k => XT.lconst X1303.here hx rfl (hb hby d3_53) k) ?_
  have F1330 := (H3.keep K1303)
  have F1336 := (H9.keep K1303)
  have F1347 := (H20.keep K1303 nin0)
  have F1348 := (H21.keep K1303 nin0)
  have F1349 := (H22.keep K1303 nin0)
  have F1350 := (H23.keep K1303 nin0)
  have F1351 := (H24.keep K1303 nin0)
  have F1352 := (H25.keep K1303 nin0)
  have F1353 := (H26.keep K1303 nin0)
  have F1354 := (H27.keep K1303 nin0)
  have F1355 := (H28.keep K1303 nin0)
  have F1356 := (H29.keep K1303 nin0)
  have F1357 := (H30.keep K1303 nin0)
  have F1358 := (H31.keep K1303 nin0)
  have F1359 := (H32.keep K1303 nin0)
  have F1360 := (H33.keep K1303 nin0)
  have F1361 := (H34.keep K1303 nin0)
  have F1362 := (H35.keep K1303 nin0)
  have F1363 := (H36.keep K1303 nin0)
  have F1364 := (H37.keep K1303 nin0)
  have F1365 := (H38.keep K1303 nin0)
  have F1366 := (H39.keep K1303 nin0)
  have F1367 := (H40.keep K1303 nin0)
  have F1368 := (H41.keep K1303 nin0)
  have F1517 : n0 ≤ h1303.size := (Nat.le_trans Z0 K1303.1)
  refine own_callv (a := a33) (argsL := [(.double (4629137466983448576 : UInt64)), (.double f1222), (.ref a1304), (.long (0 : Int64))]) (rest := []) X1303 hx hZ hown (own_s23 l Z a0 hw [] a33 f1222 a1304 a274 a273 a272 a271 a270 a269 a268 a267 a811 f386 a1172 f858 h1303 n0 F1517 F1330 F1336 F1347 F1348 F1349 F1350 F1351 F1352 F1353 F1354 F1355 F1356 F1357 F1358 F1359 F1360 F1361 F1362 F1363 F1364 F1365 F1366 F1367 F1368 F1306 H67 H66 H65 H64 H63 H62 H61 H60 H70 H116 H112 H107 H101 H94 H86 H77 H122 H111 H106 H100 H93 H85 H76 H119 H105 H99 H92 H84 H75 H115 H98 H91 H83 H74 H110 H90 H82 H73 H104 H81 H72 H97 H71 H89 H80) F1330 (own_w hw 77 rfl) (own_w hw 78 rfl) (own_w hw 80 rfl) (own_w hw 79 rfl) (own_w hw 81 rfl) (own_w hw 6 rfl) (by decide) e1303 (hb hby d3_54) (by rw [hml, ← hL1245]; rfl) rfl (lenOf own_pd5 rfl) (by decide) (W := 0) (Nat.le_of_eq rfl) (by decide) (by decide) (by decide) ?_
  intro v1518 T1518 lo1518 X1518 Q1518
  obtain ⟨h1518, e1518⟩ : ∃ h, T1518.heap = h := ⟨_, rfl⟩
  rw [e1518] at Q1518
  obtain ⟨rfl, N1518, K1518, F1519, F1520, F1521, F1522, F1523, F1524, F1525, F1526, F1527, F1528, F1529, F1530, F1531, F1532, F1533, F1534, F1535, F1536, F1537, F1538, F1539, F1540⟩ := Q1518
  have N1518' := Fr.app N1303' N1518
  show own_Go _ _ _ _ _ _ _ T1518 (mkF m 57 L1245 [])
  have F1542 := (F1306.keep K1518)
  have F1543 := (F1307.keep K1518 (ninS (Nat.ne_of_gt lt1315) (ninS (Nat.ne_of_gt lt1323) (ninS (Nat.ne_of_gt lt1322) (ninS (Nat.ne_of_gt lt1321) (ninS (Nat.ne_of_gt lt1320) (ninS (Nat.ne_of_gt lt1319) (ninS (Nat.ne_of_gt lt1318) (ninS (Nat.ne_of_gt lt1317) (ninS (Nat.ne_of_gt lt1316) nin0))))))))))
  have F1544 := (F1308.keep K1518 (ninS (Nat.ne_of_gt lt1315) (ninS (Nat.ne_of_gt lt1323) (ninS (Nat.ne_of_gt lt1322) (ninS (Nat.ne_of_gt lt1321) (ninS (Nat.ne_of_gt lt1320) (ninS (Nat.ne_of_gt lt1319) (ninS (Nat.ne_of_gt lt1318) (ninS (Nat.ne_of_gt lt1317) (ninS (Nat.ne_of_gt lt1316) nin0))))))))))
  have F1545 := (F1309.keep K1518 (ninS (Nat.ne_of_gt lt1315) (ninS (Nat.ne_of_gt lt1323) (ninS (Nat.ne_of_gt lt1322) (ninS (Nat.ne_of_gt lt1321) (ninS (Nat.ne_of_gt lt1320) (ninS (Nat.ne_of_gt lt1319) (ninS (Nat.ne_of_gt lt1318) (ninS (Nat.ne_of_gt lt1317) (ninS (Nat.ne_of_gt lt1316) nin0))))))))))
  have F1546 := (F1310.keep K1518 (ninS (Nat.ne_of_gt lt1315) (ninS (Nat.ne_of_gt lt1323) (ninS (Nat.ne_of_gt lt1322) (ninS (Nat.ne_of_gt lt1321) (ninS (Nat.ne_of_gt lt1320) (ninS (Nat.ne_of_gt lt1319) (ninS (Nat.ne_of_gt lt1318) (ninS (Nat.ne_of_gt lt1317) (ninS (Nat.ne_of_gt lt1316) nin0))))))))))
  have F1547 := (F1311.keep K1518 (ninS (Nat.ne_of_gt lt1315) (ninS (Nat.ne_of_gt lt1323) (ninS (Nat.ne_of_gt lt1322) (ninS (Nat.ne_of_gt lt1321) (ninS (Nat.ne_of_gt lt1320) (ninS (Nat.ne_of_gt lt1319) (ninS (Nat.ne_of_gt lt1318) (ninS (Nat.ne_of_gt lt1317) (ninS (Nat.ne_of_gt lt1316) nin0))))))))))
  have F1548 := (F1312.keep K1518 (ninS (Nat.ne_of_gt lt1315) (ninS (Nat.ne_of_gt lt1323) (ninS (Nat.ne_of_gt lt1322) (ninS (Nat.ne_of_gt lt1321) (ninS (Nat.ne_of_gt lt1320) (ninS (Nat.ne_of_gt lt1319) (ninS (Nat.ne_of_gt lt1318) (ninS (Nat.ne_of_gt lt1317) (ninS (Nat.ne_of_gt lt1316) nin0))))))))))
  exact own_ret0 X1518 hx hlk hret (hb hby d3_57) e1518 ⟨a1304, f1249, rfl, N1518', (((Keep.refl _ _).trans K1303 all0).trans K1518 (allS (Or.inl (by simp)) (allS (Or.inl (by simp)) (allS (Or.inl (by simp)) (allS (Or.inl (by simp)) (allS (Or.inl (by simp)) (allS (Or.inl (by simp)) (allS (Or.inl (by simp)) (allS (Or.inl (by simp)) (allS (Or.inl (by simp)) all0)))))))))), ge1327, F1519, F1520, F1521, F1522, F1523, F1524, F1525, F1526, F1527, F1528, F1529, F1530, F1531, F1532, F1533, F1534, F1535, F1536, F1537, F1538, F1539, F1540, F1542, F1543, F1544, F1545, F1546, F1547, F1548, Df1249⟩ (by decide) (by decide)
theorem d10_0 : decode prog_5_method_27_code 0 = .ok (.aload_n 0, 1) := by decide +kernel
theorem d10_1 : decode prog_5_method_27_code 1 = .ok (.getfield 33, 3) := by decide +kernel
theorem d10_4 : decode prog_5_method_27_code 4 = .ok (.iload_n 1, 1) := by decide +kernel
theorem d10_5 : decode prog_5_method_27_code 5 = .ok (.iaload, 1) := by decide +kernel
theorem d10_6 : decode prog_5_method_27_code 6 = .ok (.istore_n 2, 1) := by decide +kernel
theorem d10_7 : decode prog_5_method_27_code 7 = .ok (.aload_n 0, 1) := by decide +kernel
theorem d10_8 : decode prog_5_method_27_code 8 = .ok (.getfield 37, 3) := by decide +kernel
theorem d10_11 : decode prog_5_method_27_code 11 = .ok (.iload_n 1, 1) := by decide +kernel
theorem d10_12 : decode prog_5_method_27_code 12 = .ok (.iaload, 1) := by decide +kernel
theorem d10_13 : decode prog_5_method_27_code 13 = .ok (.istore_n 3, 1) := by decide +kernel
theorem d10_14 : decode prog_5_method_27_code 14 = .ok (.aload_n 0, 1) := by decide +kernel
theorem d10_15 : decode prog_5_method_27_code 15 = .ok (.getfield 22, 3) := by decide +kernel
theorem d10_18 : decode prog_5_method_27_code 18 = .ok (.iload_n 2, 1) := by decide +kernel
theorem d10_19 : decode prog_5_method_27_code 19 = .ok (.aload_n 0, 1) := by decide +kernel
theorem d10_20 : decode prog_5_method_27_code 20 = .ok (.getfield 22, 3) := by decide +kernel
theorem d10_23 : decode prog_5_method_27_code 23 = .ok (.iload_n 1, 1) := by decide +kernel
theorem d10_24 : decode prog_5_method_27_code 24 = .ok (.aaload, 1) := by decide +kernel
theorem d10_25 : decode prog_5_method_27_code 25 = .ok (.aload_n 0, 1) := by decide +kernel
theorem d10_26 : decode prog_5_method_27_code 26 = .ok (.getfield 22, 3) := by decide +kernel
theorem d10_29 : decode prog_5_method_27_code 29 = .ok (.iload_n 2, 1) := by decide +kernel
theorem d10_30 : decode prog_5_method_27_code 30 = .ok (.aaload, 1) := by decide +kernel
theorem d10_31 : decode prog_5_method_27_code 31 = .ok (.invokevirtual 174, 3) := by decide +kernel
theorem d10_34 : decode prog_5_method_27_code 34 = .ok (.aastore, 1) := by decide +kernel
theorem d10_35 : decode prog_5_method_27_code 35 = .ok (.aload_n 0, 1) := by decide +kernel
theorem d10_36 : decode prog_5_method_27_code 36 = .ok (.getfield 26, 3) := by decide +kernel
theorem d10_39 : decode prog_5_method_27_code 39 = .ok (.iload_n 2, 1) := by decide +kernel
theorem d10_40 : decode prog_5_method_27_code 40 = .ok (.iconst 0, 1) := by decide +kernel
theorem d10_41 : decode prog_5_method_27_code 41 = .ok (.bastore, 1) := by decide +kernel
theorem d10_42 : decode prog_5_method_27_code 42 = .ok (.aload_n 0, 1) := by decide +kernel
theorem d10_43 : decode prog_5_method_27_code 43 = .ok (.getfield 33, 3) := by decide +kernel
theorem d10_46 : decode prog_5_method_27_code 46 = .ok (.iload_n 3, 1) := by decide +kernel
theorem d10_47 : decode prog_5_method_27_code 47 = .ok (.iload_n 2, 1) := by decide +kernel
theorem d10_48 : decode prog_5_method_27_code 48 = .ok (.iastore, 1) := by decide +kernel
theorem d10_49 : decode prog_5_method_27_code 49 = .ok (.aload_n 0, 1) := by decide +kernel
theorem d10_50 : decode prog_5_method_27_code 50 = .ok (.getfield 37, 3) := by decide +kernel
theorem d10_53 : decode prog_5_method_27_code 53 = .ok (.iload_n 2, 1) := by decide +kernel
theorem d10_54 : decode prog_5_method_27_code 54 = .ok (.iload_n 3, 1) := by decide +kernel
theorem d10_55 : decode prog_5_method_27_code 55 = .ok (.iastore, 1) := by decide +kernel
theorem d10_56 : decode prog_5_method_27_code 56 = .ok (.aload_n 0, 1) := by decide +kernel
theorem d10_57 : decode prog_5_method_27_code 57 = .ok (.getfield 22, 3) := by decide +kernel
theorem d10_60 : decode prog_5_method_27_code 60 = .ok (.iload_n 1, 1) := by decide +kernel
theorem d10_61 : decode prog_5_method_27_code 61 = .ok (.aconst_null, 1) := by decide +kernel
theorem d10_62 : decode prog_5_method_27_code 62 = .ok (.aastore, 1) := by decide +kernel
theorem d10_63 : decode prog_5_method_27_code 63 = .ok (.aload_n 0, 1) := by decide +kernel
theorem d10_64 : decode prog_5_method_27_code 64 = .ok (.getfield 33, 3) := by decide +kernel
theorem d10_67 : decode prog_5_method_27_code 67 = .ok (.iload_n 1, 1) := by decide +kernel
theorem d10_68 : decode prog_5_method_27_code 68 = .ok (.aload_n 0, 1) := by decide +kernel
theorem d10_69 : decode prog_5_method_27_code 69 = .ok (.getfield 47, 3) := by decide +kernel
theorem d10_72 : decode prog_5_method_27_code 72 = .ok (.iastore, 1) := by decide +kernel
theorem d10_73 : decode prog_5_method_27_code 73 = .ok (.aload_n 0, 1) := by decide +kernel
theorem d10_74 : decode prog_5_method_27_code 74 = .ok (.iload_n 1, 1) := by decide +kernel
theorem d10_75 : decode prog_5_method_27_code 75 = .ok (.putfield 47, 3) := by decide +kernel
theorem d10_78 : decode prog_5_method_27_code 78 = .ok (.aload_n 0, 1) := by decide +kernel
theorem d10_79 : decode prog_5_method_27_code 79 = .ok (.dup, 1) := by decide +kernel
theorem d10_80 : decode prog_5_method_27_code 80 = .ok (.getfield 58, 3) := by decide +kernel
theorem d10_83 : decode prog_5_method_27_code 83 = .ok (.iconst 1, 1) := by decide +kernel
theorem d10_84 : decode prog_5_method_27_code 84 = .ok (.isub, 1) := by decide +kernel
theorem d10_85 : decode prog_5_method_27_code 85 = .ok (.putfield 58, 3) := by decide +kernel
theorem d10_88 : decode prog_5_method_27_code 88 = .ok (.return_, 1) := by decide +kernel
theorem d11_0 : decode prog_17_method_8_code 0 = .ok (.bipush 12, 2) := by decide +kernel
theorem d11_2 : decode prog_17_method_8_code 2 = .ok (.newarray .double, 2) := by decide +kernel
theorem d11_4 : decode prog_17_method_8_code 4 = .ok (.astore_n 2, 1) := by decide +kernel
theorem d11_5 : decode prog_17_method_8_code 5 = .ok (.aload_n 1, 1) := by decide +kernel
theorem d11_6 : decode prog_17_method_8_code 6 = .ok (.aload_n 2, 1) := by decide +kernel
theorem d11_7 : decode prog_17_method_8_code 7 = .ok (.aload_n 0, 1) := by decide +kernel
theorem d11_8 : decode prog_17_method_8_code 8 = .ok (.aload_n 2, 1) := by decide +kernel
theorem d11_9 : decode prog_17_method_8_code 9 = .ok (.iconst 0, 1) := by decide +kernel
theorem d11_10 : decode prog_17_method_8_code 10 = .ok (.invokevirtual 56, 3) := by decide +kernel
theorem d11_13 : decode prog_17_method_8_code 13 = .ok (.invokevirtual 56, 3) := by decide +kernel
theorem d11_16 : decode prog_17_method_8_code 16 = .ok (.istore_n 3, 1) := by decide +kernel
theorem d11_17 : decode prog_17_method_8_code 17 = .ok (.iconst 3, 1) := by decide +kernel
theorem d11_18 : decode prog_17_method_8_code 18 = .ok (.istore 4, 2) := by decide +kernel
theorem d11_20 : decode prog_17_method_8_code 20 = .ok (.iload 4, 2) := by decide +kernel
theorem d11_22 : decode prog_17_method_8_code 22 = .ok (.iload_n 3, 1) := by decide +kernel
theorem d11_23 : decode prog_17_method_8_code 23 = .ok (.if_icmp .ge 69, 3) := by decide +kernel
theorem d11_26 : decode prog_17_method_8_code 26 = .ok (.iload 4, 2) := by decide +kernel
theorem d11_28 : decode prog_17_method_8_code 28 = .ok (.istore 5, 2) := by decide +kernel
theorem d11_30 : decode prog_17_method_8_code 30 = .ok (.iload 5, 2) := by decide +kernel
theorem d11_32 : decode prog_17_method_8_code 32 = .ok (.ifCond .le 54, 3) := by decide +kernel
theorem d11_35 : decode prog_17_method_8_code 35 = .ok (.aload_n 2, 1) := by decide +kernel
theorem d11_36 : decode prog_17_method_8_code 36 = .ok (.iload 5, 2) := by decide +kernel
theorem d11_38 : decode prog_17_method_8_code 38 = .ok (.daload, 1) := by decide +kernel
theorem d11_39 : decode prog_17_method_8_code 39 = .ok (.aload_n 2, 1) := by decide +kernel
theorem d11_40 : decode prog_17_method_8_code 40 = .ok (.iload 5, 2) := by decide +kernel
theorem d11_42 : decode prog_17_method_8_code 42 = .ok (.iconst 3, 1) := by decide +kernel
theorem d11_43 : decode prog_17_method_8_code 43 = .ok (.isub, 1) := by decide +kernel
theorem d11_44 : decode prog_17_method_8_code 44 = .ok (.daload, 1) := by decide +kernel
theorem d11_45 : decode prog_17_method_8_code 45 = .ok (.dcmp .g, 1) := by decide +kernel
theorem d11_46 : decode prog_17_method_8_code 46 = .ok (.ifCond .ge 40, 3) := by decide +kernel
theorem d11_86 : decode prog_17_method_8_code 86 = .ok (.iinc 4 3, 3) := by decide +kernel
theorem d11_89 : decode prog_17_method_8_code 89 = .ok (.goto (-69), 3) := by decide +kernel
theorem d11_92 : decode prog_17_method_8_code 92 = .ok (.new 64, 3) := by decide +kernel
theorem d11_95 : decode prog_17_method_8_code 95 = .ok (.dup, 1) := by decide +kernel
theorem d11_96 : decode prog_17_method_8_code 96 = .ok (.invokespecial 66, 3) := by decide +kernel
theorem d11_99 : decode prog_17_method_8_code 99 = .ok (.astore 4, 2) := by decide +kernel
theorem d11_101 : decode prog_17_method_8_code 101 = .ok (.iconst 0, 1) := by decide +kernel
theorem d11_102 : decode prog_17_method_8_code 102 = .ok (.istore 5, 2) := by decide +kernel
theorem d11_104 : decode prog_17_method_8_code 104 = .ok (.iload 5, 2) := by decide +kernel
theorem d11_106 : decode prog_17_method_8_code 106 = .ok (.iload_n 3, 1) := by decide +kernel
theorem d11_107 : decode prog_17_method_8_code 107 = .ok (.if_icmp .ge 30, 3) := by decide +kernel
theorem d11_110 : decode prog_17_method_8_code 110 = .ok (.aload 4, 2) := by decide +kernel
theorem d11_112 : decode prog_17_method_8_code 112 = .ok (.aload_n 2, 1) := by decide +kernel
theorem d11_113 : decode prog_17_method_8_code 113 = .ok (.iload 5, 2) := by decide +kernel
theorem d11_115 : decode prog_17_method_8_code 115 = .ok (.daload, 1) := by decide +kernel
theorem d11_116 : decode prog_17_method_8_code 116 = .ok (.aload_n 2, 1) := by decide +kernel
theorem d11_117 : decode prog_17_method_8_code 117 = .ok (.iload 5, 2) := by decide +kernel
theorem d11_119 : decode prog_17_method_8_code 119 = .ok (.iconst 1, 1) := by decide +kernel
theorem d11_120 : decode prog_17_method_8_code 120 = .ok (.iadd, 1) := by decide +kernel
theorem d11_121 : decode prog_17_method_8_code 121 = .ok (.daload, 1) := by decide +kernel
theorem d11_122 : decode prog_17_method_8_code 122 = .ok (.aload_n 2, 1) := by decide +kernel
theorem d11_123 : decode prog_17_method_8_code 123 = .ok (.iload 5, 2) := by decide +kernel
theorem d11_125 : decode prog_17_method_8_code 125 = .ok (.iconst 2, 1) := by decide +kernel
theorem d11_126 : decode prog_17_method_8_code 126 = .ok (.iadd, 1) := by decide +kernel
theorem d11_127 : decode prog_17_method_8_code 127 = .ok (.daload, 1) := by decide +kernel
theorem d11_128 : decode prog_17_method_8_code 128 = .ok (.invokevirtual 67, 3) := by decide +kernel
theorem d11_131 : decode prog_17_method_8_code 131 = .ok (.iinc 5 3, 3) := by decide +kernel
theorem d11_134 : decode prog_17_method_8_code 134 = .ok (.goto (-30), 3) := by decide +kernel
theorem d11_137 : decode prog_17_method_8_code 137 = .ok (.aload 4, 2) := by decide +kernel
theorem d11_139 : decode prog_17_method_8_code 139 = .ok (.invokevirtual 71, 3) := by decide +kernel
theorem d11_142 : decode prog_17_method_8_code 142 = .ok (.areturn, 1) := by decide +kernel
theorem d12_0 : decode prog_17_method_10_code 0 = .ok (.aload_n 0, 1) := by decide +kernel
theorem d12_1 : decode prog_17_method_10_code 1 = .ok (.invokevirtual 31, 3) := by decide +kernel
theorem d12_4 : decode prog_17_method_10_code 4 = .ok (.ifCond .eq 5, 3) := by decide +kernel
theorem d12_9 : decode prog_17_method_10_code 9 = .ok (.aload_n 1, 1) := by decide +kernel
theorem d12_10 : decode prog_17_method_10_code 10 = .ok (.iload_n 2, 1) := by decide +kernel
theorem d12_11 : decode prog_17_method_10_code 11 = .ok (.aload_n 0, 1) := by decide +kernel
theorem d12_12 : decode prog_17_method_10_code 12 = .ok (.getfield 7, 3) := by decide +kernel
theorem d12_15 : decode prog_17_method_10_code 15 = .ok (.dastore, 1) := by decide +kernel
theorem d12_16 : decode prog_17_method_10_code 16 = .ok (.aload_n 0, 1) := by decide +kernel
theorem d12_17 : decode prog_17_method_10_code 17 = .ok (.invokevirtual 84, 3) := by decide +kernel
theorem d12_20 : decode prog_17_method_10_code 20 = .ok (.ifCond .ne 25, 3) := by decide +kernel
theorem d12_23 : decode prog_17_method_10_code 23 = .ok (.aload_n 1, 1) := by decide +kernel
theorem d12_24 : decode prog_17_method_10_code 24 = .ok (.iload_n 2, 1) := by decide +kernel
theorem d12_25 : decode prog_17_method_10_code 25 = .ok (.iconst 1, 1) := by decide +kernel
theorem d12_26 : decode prog_17_method_10_code 26 = .ok (.iadd, 1) := by decide +kernel
theorem d12_27 : decode prog_17_method_10_code 27 = .ok (.aload_n 0, 1) := by decide +kernel
theorem d12_28 : decode prog_17_method_10_code 28 = .ok (.getfield 19, 3) := by decide +kernel
theorem d12_31 : decode prog_17_method_10_code 31 = .ok (.dastore, 1) := by decide +kernel
theorem d12_32 : decode prog_17_method_10_code 32 = .ok (.aload_n 1, 1) := by decide +kernel
theorem d12_33 : decode prog_17_method_10_code 33 = .ok (.iload_n 2, 1) := by decide +kernel
theorem d12_34 : decode prog_17_method_10_code 34 = .ok (.iconst 2, 1) := by decide +kernel
theorem d12_35 : decode prog_17_method_10_code 35 = .ok (.iadd, 1) := by decide +kernel
theorem d12_36 : decode prog_17_method_10_code 36 = .ok (.aload_n 0, 1) := by decide +kernel
theorem d12_37 : decode prog_17_method_10_code 37 = .ok (.getfield 25, 3) := by decide +kernel
theorem d12_40 : decode prog_17_method_10_code 40 = .ok (.dastore, 1) := by decide +kernel
theorem d12_41 : decode prog_17_method_10_code 41 = .ok (.iload_n 2, 1) := by decide +kernel
theorem d12_42 : decode prog_17_method_10_code 42 = .ok (.iconst 3, 1) := by decide +kernel
theorem d12_43 : decode prog_17_method_10_code 43 = .ok (.iadd, 1) := by decide +kernel
theorem d12_44 : decode prog_17_method_10_code 44 = .ok (.ireturn, 1) := by decide +kernel
theorem d13_0 : decode prog_17_method_3_code 0 = .ok (.aload_n 0, 1) := by decide +kernel
theorem d13_1 : decode prog_17_method_3_code 1 = .ok (.getfield 7, 3) := by decide +kernel
theorem d13_4 : decode prog_17_method_3_code 4 = .ok (.aload_n 0, 1) := by decide +kernel
theorem d13_5 : decode prog_17_method_3_code 5 = .ok (.getfield 19, 3) := by decide +kernel
theorem d13_8 : decode prog_17_method_3_code 8 = .ok (.dcmp .l, 1) := by decide +kernel
theorem d13_9 : decode prog_17_method_3_code 9 = .ok (.ifCond .le 7, 3) := by decide +kernel
theorem d13_16 : decode prog_17_method_3_code 16 = .ok (.iconst 0, 1) := by decide +kernel
theorem d13_17 : decode prog_17_method_3_code 17 = .ok (.ireturn, 1) := by decide +kernel
def own_s29_Q (Z : State) (a1172 : Addr) (h0 : Heap) (n0 : Nat) (v_ : Option Value) (h_ : Heap) (L_ : List Loc) : Prop := (fun v h L => v = some (.int (0 : Int32)) ∧ Fr n0 L ∧ h = h0) v_ h_ L_
set_option maxRecDepth 65536 in
set_option maxHeartbeats 40000000 in
theorem own_s29 (l : Launch) (Z : State) (a0 : Array Value) (hw : ∀ d ∈ tables_1, d.before a0 Z = true) (wds : List Jvm.Cond) (a1172 : Addr) (h0 : Heap) (n0 : Nat) (Z0 : n0 ≤ h0.size) (H4 : Fld Z h0 a1172 own_k1 "low" "D" (.double (4621819117588971520 : UInt64))) (H7 : Fld Z h0 a1172 own_k1 "high" "D" (.double (4626322717216342016 : UInt64))) :
    MetFree l (⟨own_k1, "isEmpty", "()Z"⟩ : MethodName) (head1 (Jvm.Cond.code (⟨own_k1, "isEmpty", "()Z"⟩ : MethodName) prog_17_method_3_code 1 (some .boolean) :: wds) ({ frames := 0, cells := 0, slots := 0, locals := 0 } : Room)) (fun ar_ U_ => ar_ = #[(.ref a1172)] ∧ Z.Warmed39 U_.vm ∧ U_.heap = h0) (fun _ _ _ _ _ => True) (fun _ U_ o_ V_ => ∃ v_ L_, o_ = .returned v_ ∧ own_s29_Q Z a1172 h0 n0 v_ V_.heap L_ ∧ FrameEnd U_ o_ V_ L_ ({ frames := 0, cells := 0, slots := 0, locals := 0 } : Room).cells ({ frames := 0, cells := 0, slots := 0, locals := 0 } : Room).slots) := by
  refine own_met (y := ⟨own_k1, "isEmpty", "()Z"⟩) (Q := own_s29_Q Z a1172 h0 n0) own_pn2 ?_
  intro p e s m below meth c s₁ hx hby hml hZ hown hnm hret hlk X0 e0
  have N0 := Fr.nil n0
  refine own_cast (g' := (mkF m 0 #[.val (.ref a1172)] [])) (by first | (simp [entryFrame, mkF, argsToLocals, Value.category]; done) | rfl) ?_
  refine own_alN (w := (.ref a1172)) X0 hx (hb hby d13_0) rfl rfl ?_
  refine own_getf X0 hx hZ hown (own_w hw 65 rfl) e0 H4 (hb hby d13_1) ?_
  intro T1650 X1650 e1650
  show own_Go _ _ _ _ _ _ _ T1650 (mkF m 4 #[.val (.ref a1172)] [(.double (4621819117588971520 : UInt64))])
  refine own_alN (w := (.ref a1172)) X1650 hx (hb hby d13_4) rfl rfl ?_
  refine own_getf X1650 hx hZ hown (own_w hw 71 rfl) e1650 H7 (hb hby d13_5) ?_
  intro T1651 X1651 e1651
  show own_Go _ _ _ _ _ _ _ T1651 (mkF m 8 #[.val (.ref a1172)] [(.double (4626322717216342016 : UInt64)), (.double (4621819117588971520 : UInt64))])
  refine own_pre (g' := (mkF m 9 #[.val (.ref a1172)] [(.int (-1 : Int32))])) (fun t k => XS.dcmpS X1651.here hx rfl (v := (-1 : Int32)) (hb hby d13_8) rfl (by decide +kernel) k) ?_
  refine own_pre (g' := (mkF m 16 #[.val (.ref a1172)] [])) (fun t k => XS.ifYes X1651.here hx rfl (pc0 := 9) (pc' := 16) rfl (hb hby d13_9) rfl (by decide) (by decide) (by decide) k) ?_
  refine own_ic X1651 hx (0 : Int32) (hb hby d13_16) rfl ?_
  exact own_retZ X1651 hx hlk hret rfl (hb hby d13_17) e1651 ⟨rfl, N0, rfl⟩ (by decide) (by decide)
theorem own_pd7 : parseMethodDescriptor "()Z" = some ⟨[], some .boolean⟩ := by decide +kernel
theorem d14_0 : decode prog_17_method_4_code 0 = .ok (.aload_n 0, 1) := by decide +kernel
theorem d14_1 : decode prog_17_method_4_code 1 = .ok (.getfield 13, 3) := by decide +kernel
theorem d14_4 : decode prog_17_method_4_code 4 = .ok (.aload_n 0, 1) := by decide +kernel
theorem d14_5 : decode prog_17_method_4_code 5 = .ok (.getfield 16, 3) := by decide +kernel
theorem d14_8 : decode prog_17_method_4_code 8 = .ok (.dcmp .g, 1) := by decide +kernel
theorem d14_9 : decode prog_17_method_4_code 9 = .ok (.ifCond .ge 7, 3) := by decide +kernel
theorem d14_16 : decode prog_17_method_4_code 16 = .ok (.iconst 0, 1) := by decide +kernel
theorem d14_17 : decode prog_17_method_4_code 17 = .ok (.ireturn, 1) := by decide +kernel
def own_s30_Q (Z : State) (a1172 : Addr) (h0 : Heap) (n0 : Nat) (v_ : Option Value) (h_ : Heap) (L_ : List Loc) : Prop := (fun v h L => v = some (.int (0 : Int32)) ∧ Fr n0 L ∧ h = h0) v_ h_ L_
set_option maxRecDepth 65536 in
set_option maxHeartbeats 40000000 in
theorem own_s30 (l : Launch) (Z : State) (a0 : Array Value) (hw : ∀ d ∈ tables_1, d.before a0 Z = true) (wds : List Jvm.Cond) (a1172 : Addr) (h0 : Heap) (n0 : Nat) (Z0 : n0 ≤ h0.size) (H5 : Fld Z h0 a1172 own_k1 "gapLow" "D" (.double (4626322717216342016 : UInt64))) (H6 : Fld Z h0 a1172 own_k1 "gapHigh" "D" (.double (4626322717216342016 : UInt64))) :
    MetFree l (⟨own_k1, "hasGap", "()Z"⟩ : MethodName) (head1 (Jvm.Cond.code (⟨own_k1, "hasGap", "()Z"⟩ : MethodName) prog_17_method_4_code 1 (some .boolean) :: wds) ({ frames := 0, cells := 0, slots := 0, locals := 0 } : Room)) (fun ar_ U_ => ar_ = #[(.ref a1172)] ∧ Z.Warmed39 U_.vm ∧ U_.heap = h0) (fun _ _ _ _ _ => True) (fun _ U_ o_ V_ => ∃ v_ L_, o_ = .returned v_ ∧ own_s30_Q Z a1172 h0 n0 v_ V_.heap L_ ∧ FrameEnd U_ o_ V_ L_ ({ frames := 0, cells := 0, slots := 0, locals := 0 } : Room).cells ({ frames := 0, cells := 0, slots := 0, locals := 0 } : Room).slots) := by
  refine own_met (y := ⟨own_k1, "hasGap", "()Z"⟩) (Q := own_s30_Q Z a1172 h0 n0) own_pn2 ?_
  intro p e s m below meth c s₁ hx hby hml hZ hown hnm hret hlk X0 e0
  have N0 := Fr.nil n0
  refine own_cast (g' := (mkF m 0 #[.val (.ref a1172)] [])) (by first | (simp [entryFrame, mkF, argsToLocals, Value.category]; done) | rfl) ?_
  refine own_alN (w := (.ref a1172)) X0 hx (hb hby d14_0) rfl rfl ?_
  refine own_getf X0 hx hZ hown (own_w hw 67 rfl) e0 H5 (hb hby d14_1) ?_
  intro T1665 X1665 e1665
  show own_Go _ _ _ _ _ _ _ T1665 (mkF m 4 #[.val (.ref a1172)] [(.double (4626322717216342016 : UInt64))])
  refine own_alN (w := (.ref a1172)) X1665 hx (hb hby d14_4) rfl rfl ?_
  refine own_getf X1665 hx hZ hown (own_w hw 69 rfl) e1665 H6 (hb hby d14_5) ?_
  intro T1666 X1666 e1666
  show own_Go _ _ _ _ _ _ _ T1666 (mkF m 8 #[.val (.ref a1172)] [(.double (4626322717216342016 : UInt64)), (.double (4626322717216342016 : UInt64))])
  refine own_pre (g' := (mkF m 9 #[.val (.ref a1172)] [(.int (0 : Int32))])) (fun t k => XS.dcmpS X1666.here hx rfl (v := (0 : Int32)) (hb hby d14_8) rfl (by decide +kernel) k) ?_
  refine own_pre (g' := (mkF m 16 #[.val (.ref a1172)] [])) (fun t k => XS.ifYes X1666.here hx rfl (pc0 := 9) (pc' := 16) rfl (hb hby d14_9) rfl (by decide) (by decide) (by decide) k) ?_
  refine own_ic X1666 hx (0 : Int32) (hb hby d14_16) rfl ?_
  exact own_retZ X1666 hx hlk hret rfl (hb hby d14_17) e1666 ⟨rfl, N0, rfl⟩ (by decide) (by decide)
def own_s28_Q (Z : State) (a1172 : Addr) (a1633 : Addr) (f1173 : UInt64) (h0 : Heap) (n0 : Nat) (v_ : Option Value) (h_ : Heap) (L_ : List Loc) : Prop := (fun v h L => v = some (.int (3 : Int32)) ∧ Fr n0 L ∧ Keep h0 h [a1633] ∧ own_Ary Z h a1633 .double ([(.double (4621819117588971520 : UInt64)), (.double (4626322717216342016 : UInt64)), (.double f1173)] ++ own_rD 9)) v_ h_ L_
set_option maxRecDepth 65536 in
set_option maxHeartbeats 40000000 in
theorem own_s28 (l : Launch) (Z : State) (a0 : Array Value) (hw : ∀ d ∈ tables_1, d.before a0 Z = true) (wds : List Jvm.Cond) (a1172 : Addr) (a1633 : Addr) (f1173 : UInt64) (h0 : Heap) (n0 : Nat) (Z0 : n0 ≤ h0.size) (H3 : Exa Z h0 a1172 own_k1) (H4 : Fld Z h0 a1172 own_k1 "low" "D" (.double (4621819117588971520 : UInt64))) (H5 : Fld Z h0 a1172 own_k1 "gapLow" "D" (.double (4626322717216342016 : UInt64))) (H6 : Fld Z h0 a1172 own_k1 "gapHigh" "D" (.double (4626322717216342016 : UInt64))) (H7 : Fld Z h0 a1172 own_k1 "high" "D" (.double (4626322717216342016 : UInt64))) (H9 : Fld Z h0 a1172 own_k1 "count" "D" (.double f1173)) (H10 : own_Ary Z h0 a1633 .double (own_rD 12)) (H14 : a1172 < a1633) (H16 : n0 ≤ a1633) :
    MetFree l (⟨own_k1, "blocks", "([DI)I"⟩ : MethodName) (head1 (Jvm.Cond.code (⟨own_k1, "blocks", "([DI)I"⟩ : MethodName) prog_17_method_10_code 3 (some .int) :: wds) ({ frames := 1, cells := 0, slots := 0, locals := 12 } : Room)) (fun ar_ U_ => ar_ = #[(.ref a1172), (.ref a1633), (.int (0 : Int32))] ∧ Z.Warmed39 U_.vm ∧ U_.heap = h0) (fun _ _ _ _ _ => True) (fun _ U_ o_ V_ => ∃ v_ L_, o_ = .returned v_ ∧ own_s28_Q Z a1172 a1633 f1173 h0 n0 v_ V_.heap L_ ∧ FrameEnd U_ o_ V_ L_ ({ frames := 1, cells := 0, slots := 0, locals := 12 } : Room).cells ({ frames := 1, cells := 0, slots := 0, locals := 12 } : Room).slots) := by
  refine own_met (y := ⟨own_k1, "blocks", "([DI)I"⟩) (Q := own_s28_Q Z a1172 a1633 f1173 h0 n0) own_pn2 ?_
  intro p e s m below meth c s₁ hx hby hml hZ hown hnm hret hlk X0 e0
  have N0 := Fr.nil n0
  refine own_cast (g' := (mkF m 0 #[.val (.ref a1172), .val (.ref a1633), .val (.int (0 : Int32))] [])) (by first | (simp [entryFrame, mkF, argsToLocals, Value.category]; done) | rfl) ?_
  refine own_alN (w := (.ref a1172)) X0 hx (hb hby d12_0) rfl rfl ?_
  refine own_callv (a := a1172) (argsL := []) (rest := []) X0 hx hZ hown (own_s29 l Z a0 hw [] a1172 h0 n0 Z0 H4 H7) H3 (own_w hw 109 rfl) (own_w hw 110 rfl) (own_w hw 112 rfl) (own_w hw 111 rfl) (own_w hw 113 rfl) (own_w hw 52 rfl) (by decide) e0 (hb hby d12_1) (by rw [hml]; rfl) rfl (lenOf own_pd7 rfl) (by decide) (W := 0) (Nat.le_of_eq rfl) (by decide) (by decide) (by decide) ?_
  intro v1652 T1652 lo1652 X1652 Q1652
  obtain ⟨h1652, e1652⟩ : ∃ h, T1652.heap = h := ⟨_, rfl⟩
  rw [e1652] at Q1652
  obtain ⟨rfl, N1652, K1652⟩ := Q1652
  have N1652' := Fr.app N0 N1652
  have e1652' : T1652.heap = h0 := e1652.trans K1652
  show own_Go _ _ _ _ _ _ _ T1652 (mkF m 4 #[.val (.ref a1172), .val (.ref a1633), .val (.int (0 : Int32))] [(.int (0 : Int32))])
  refine own_pre (g' := (mkF m 9 #[.val (.ref a1172), .val (.ref a1633), .val (.int (0 : Int32))] [])) (fun t k => XS.ifYes X1652.here hx rfl (pc0 := 4) (pc' := 9) rfl (hb hby d12_4) rfl (by decide) (by decide) (by decide) k) ?_
  refine own_alN (w := (.ref a1633)) X1652 hx (hb hby d12_9) rfl rfl ?_
  refine own_ilN (w := (0 : Int32)) X1652 hx (hb hby d12_10) rfl ?_
  refine own_alN (w := (.ref a1172)) X1652 hx (hb hby d12_11) rfl rfl ?_
  refine own_getf X1652 hx hZ hown (own_w hw 65 rfl) e1652' H4 (hb hby d12_12) ?_
  intro T1653 X1653 e1653
  show own_Go _ _ _ _ _ _ _ T1653 (mkF m 15 #[.val (.ref a1172), .val (.ref a1633), .val (.int (0 : Int32))] [(.double (4621819117588971520 : UInt64)), (.int (0 : Int32)), (.ref a1633)])
  refine own_dastore X1653 hx hZ e1653 N1652' H16 H10 (hb hby d12_15) (n := 0) (by decide) (by decide) (by show 0 < 12; decide) ?_
  intro T1654 h1654 lo1654 X1654 e1654 N1654 W1654
  have F1655 : own_Ary Z h1654 a1633 .double ([(.double (4621819117588971520 : UInt64))] ++ own_rD 11) := H10.set W1654
  show own_Go _ _ _ _ _ _ _ T1654 (mkF m 16 #[.val (.ref a1172), .val (.ref a1633), .val (.int (0 : Int32))] [])
  refine own_alN (w := (.ref a1172)) X1654 hx (hb hby d12_16) rfl rfl ?_
  have F1658 := (H3.wr W1654)
  have F1660 := (H5.other W1654 (Or.inl (Nat.ne_of_lt H14)))
  have F1661 := (H6.other W1654 (Or.inl (Nat.ne_of_lt H14)))
  have F1662 := (H7.other W1654 (Or.inl (Nat.ne_of_lt H14)))
  have F1664 := (H9.other W1654 (Or.inl (Nat.ne_of_lt H14)))
  have F1667 : n0 ≤ h1654.size := (Nat.le_trans Z0 (Nat.le_of_eq W1654.size.symm))
  refine own_callv (a := a1172) (argsL := []) (rest := []) X1654 hx hZ hown (own_s30 l Z a0 hw [] a1172 h1654 n0 F1667 F1660 F1661) F1658 (own_w hw 114 rfl) (own_w hw 115 rfl) (own_w hw 117 rfl) (own_w hw 116 rfl) (own_w hw 118 rfl) (own_w hw 52 rfl) (by decide) e1654 (hb hby d12_17) (by rw [hml]; rfl) rfl (lenOf own_pd7 rfl) (by decide) (W := 0) (Nat.le_of_eq rfl) (by decide) (by decide) (by decide) ?_
  intro v1668 T1668 lo1668 X1668 Q1668
  obtain ⟨h1668, e1668⟩ : ∃ h, T1668.heap = h := ⟨_, rfl⟩
  rw [e1668] at Q1668
  obtain ⟨rfl, N1668, K1668⟩ := Q1668
  have N1668' := Fr.app N1654 N1668
  have e1668' : T1668.heap = h1654 := e1668.trans K1668
  show own_Go _ _ _ _ _ _ _ T1668 (mkF m 20 #[.val (.ref a1172), .val (.ref a1633), .val (.int (0 : Int32))] [(.int (0 : Int32))])
  refine own_pre (g' := (mkF m 23 #[.val (.ref a1172), .val (.ref a1633), .val (.int (0 : Int32))] [])) (fun t k => XS.ifNo X1668.here hx rfl (hb hby d12_20) rfl (by decide) k) ?_
  refine own_alN (w := (.ref a1633)) X1668 hx (hb hby d12_23) rfl rfl ?_
  refine own_ilN (w := (0 : Int32)) X1668 hx (hb hby d12_24) rfl ?_
  refine own_ic X1668 hx (1 : Int32) (hb hby d12_25) rfl ?_
  refine own_pre (g' := (mkF m 27 #[.val (.ref a1172), .val (.ref a1633), .val (.int (0 : Int32))] [(.int (1 : Int32)), (.ref a1633)])) (fun t k => XS.iadd X1668.here hx rfl (hb hby d12_26) rfl k) ?_
  refine own_alN (w := (.ref a1172)) X1668 hx (hb hby d12_27) rfl rfl ?_
  refine own_getf X1668 hx hZ hown (own_w hw 71 rfl) e1668' F1662 (hb hby d12_28) ?_
  intro T1669 X1669 e1669
  show own_Go _ _ _ _ _ _ _ T1669 (mkF m 31 #[.val (.ref a1172), .val (.ref a1633), .val (.int (0 : Int32))] [(.double (4626322717216342016 : UInt64)), (.int (1 : Int32)), (.ref a1633)])
  refine own_dastore X1669 hx hZ e1669 N1668' H16 F1655 (hb hby d12_31) (n := 1) (by decide) (by decide) (by show 1 < 12; decide) ?_
  intro T1670 h1670 lo1670 X1670 e1670 N1670 W1670
  have F1671 : own_Ary Z h1670 a1633 .double ([(.double (4621819117588971520 : UInt64)), (.double (4626322717216342016 : UInt64))] ++ own_rD 10) := F1655.set W1670
  show own_Go _ _ _ _ _ _ _ T1670 (mkF m 32 #[.val (.ref a1172), .val (.ref a1633), .val (.int (0 : Int32))] [])
  refine own_alN (w := (.ref a1633)) X1670 hx (hb hby d12_32) rfl rfl ?_
  refine own_ilN (w := (0 : Int32)) X1670 hx (hb hby d12_33) rfl ?_
  refine own_ic X1670 hx (2 : Int32) (hb hby d12_34) rfl ?_
  refine own_pre (g' := (mkF m 36 #[.val (.ref a1172), .val (.ref a1633), .val (.int (0 : Int32))] [(.int (2 : Int32)), (.ref a1633)])) (fun t k => XS.iadd X1670.here hx rfl (hb hby d12_35) rfl k) ?_
  refine own_alN (w := (.ref a1172)) X1670 hx (hb hby d12_36) rfl rfl ?_
  have F1672 := (F1664.other W1670 (Or.inl (Nat.ne_of_lt H14)))
  refine own_getf X1670 hx hZ hown (own_w hw 75 rfl) e1670 F1672 (hb hby d12_37) ?_
  intro T1673 X1673 e1673
  show own_Go _ _ _ _ _ _ _ T1673 (mkF m 40 #[.val (.ref a1172), .val (.ref a1633), .val (.int (0 : Int32))] [(.double f1173), (.int (2 : Int32)), (.ref a1633)])
  refine own_dastore X1673 hx hZ e1673 N1670 H16 F1671 (hb hby d12_40) (n := 2) (by decide) (by decide) (by show 2 < 12; decide) ?_
  intro T1674 h1674 lo1674 X1674 e1674 N1674 W1674
  have F1675 : own_Ary Z h1674 a1633 .double ([(.double (4621819117588971520 : UInt64)), (.double (4626322717216342016 : UInt64)), (.double f1173)] ++ own_rD 9) := F1671.set W1674
  show own_Go _ _ _ _ _ _ _ T1674 (mkF m 41 #[.val (.ref a1172), .val (.ref a1633), .val (.int (0 : Int32))] [])
  refine own_ilN (w := (0 : Int32)) X1674 hx (hb hby d12_41) rfl ?_
  refine own_ic X1674 hx (3 : Int32) (hb hby d12_42) rfl ?_
  refine own_pre (g' := (mkF m 44 #[.val (.ref a1172), .val (.ref a1633), .val (.int (0 : Int32))] [(.int (3 : Int32))])) (fun t k => XS.iadd X1674.here hx rfl (hb hby d12_43) rfl k) ?_
  exact own_retI X1674 hx hlk hret (hb hby d12_44) e1674 ⟨rfl, N1674, ((((Keep.refl _ _).wr W1654 (Or.inl (by simp))).wr W1670 (Or.inl (by simp))).wr W1674 (Or.inl (by simp))), F1675⟩ (by decide) (by decide)
theorem own_pd8 : parseMethodDescriptor "([DI)I" = some ⟨[(.array .double), .int], some .int⟩ := by decide +kernel
def own_s32_Q (Z : State) (a1551 : Addr) (h0 : Heap) (n0 : Nat) (v_ : Option Value) (h_ : Heap) (L_ : List Loc) : Prop := (fun v h L => v = some (.int (0 : Int32)) ∧ Fr n0 L ∧ h = h0) v_ h_ L_
set_option maxRecDepth 65536 in
set_option maxHeartbeats 40000000 in
theorem own_s32 (l : Launch) (Z : State) (a0 : Array Value) (hw : ∀ d ∈ tables_1, d.before a0 Z = true) (wds : List Jvm.Cond) (a1551 : Addr) (h0 : Heap) (n0 : Nat) (Z0 : n0 ≤ h0.size) (H4 : Fld Z h0 a1551 own_k1 "low" "D" (.double (4626322717216342016 : UInt64))) (H7 : Fld Z h0 a1551 own_k1 "high" "D" (.double (4629137466983448576 : UInt64))) :
    MetFree l (⟨own_k1, "isEmpty", "()Z"⟩ : MethodName) (head1 (Jvm.Cond.code (⟨own_k1, "isEmpty", "()Z"⟩ : MethodName) prog_17_method_3_code 1 (some .boolean) :: wds) ({ frames := 0, cells := 0, slots := 0, locals := 0 } : Room)) (fun ar_ U_ => ar_ = #[(.ref a1551)] ∧ Z.Warmed39 U_.vm ∧ U_.heap = h0) (fun _ _ _ _ _ => True) (fun _ U_ o_ V_ => ∃ v_ L_, o_ = .returned v_ ∧ own_s32_Q Z a1551 h0 n0 v_ V_.heap L_ ∧ FrameEnd U_ o_ V_ L_ ({ frames := 0, cells := 0, slots := 0, locals := 0 } : Room).cells ({ frames := 0, cells := 0, slots := 0, locals := 0 } : Room).slots) := by
  refine own_met (y := ⟨own_k1, "isEmpty", "()Z"⟩) (Q := own_s32_Q Z a1551 h0 n0) own_pn2 ?_
  intro p e s m below meth c s₁ hx hby hml hZ hown hnm hret hlk X0 e0
  have N0 := Fr.nil n0
  refine own_cast (g' := (mkF m 0 #[.val (.ref a1551)] [])) (by first | (simp [entryFrame, mkF, argsToLocals, Value.category]; done) | rfl) ?_
  refine own_alN (w := (.ref a1551)) X0 hx (hb hby d13_0) rfl rfl ?_
  refine own_getf X0 hx hZ hown (own_w hw 65 rfl) e0 H4 (hb hby d13_1) ?_
  intro T1689 X1689 e1689
  show own_Go _ _ _ _ _ _ _ T1689 (mkF m 4 #[.val (.ref a1551)] [(.double (4626322717216342016 : UInt64))])
  refine own_alN (w := (.ref a1551)) X1689 hx (hb hby d13_4) rfl rfl ?_
  refine own_getf X1689 hx hZ hown (own_w hw 71 rfl) e1689 H7 (hb hby d13_5) ?_
  intro T1690 X1690 e1690
  show own_Go _ _ _ _ _ _ _ T1690 (mkF m 8 #[.val (.ref a1551)] [(.double (4629137466983448576 : UInt64)), (.double (4626322717216342016 : UInt64))])
  refine own_pre (g' := (mkF m 9 #[.val (.ref a1551)] [(.int (-1 : Int32))])) (fun t k => XS.dcmpS X1690.here hx rfl (v := (-1 : Int32)) (hb hby d13_8) rfl (by decide +kernel) k) ?_
  refine own_pre (g' := (mkF m 16 #[.val (.ref a1551)] [])) (fun t k => XS.ifYes X1690.here hx rfl (pc0 := 9) (pc' := 16) rfl (hb hby d13_9) rfl (by decide) (by decide) (by decide) k) ?_
  refine own_ic X1690 hx (0 : Int32) (hb hby d13_16) rfl ?_
  exact own_retZ X1690 hx hlk hret rfl (hb hby d13_17) e1690 ⟨rfl, N0, rfl⟩ (by decide) (by decide)
def own_s33_Q (Z : State) (a1551 : Addr) (h0 : Heap) (n0 : Nat) (v_ : Option Value) (h_ : Heap) (L_ : List Loc) : Prop := (fun v h L => v = some (.int (0 : Int32)) ∧ Fr n0 L ∧ h = h0) v_ h_ L_
set_option maxRecDepth 65536 in
set_option maxHeartbeats 40000000 in
theorem own_s33 (l : Launch) (Z : State) (a0 : Array Value) (hw : ∀ d ∈ tables_1, d.before a0 Z = true) (wds : List Jvm.Cond) (a1551 : Addr) (h0 : Heap) (n0 : Nat) (Z0 : n0 ≤ h0.size) (H5 : Fld Z h0 a1551 own_k1 "gapLow" "D" (.double (4629137466983448576 : UInt64))) (H6 : Fld Z h0 a1551 own_k1 "gapHigh" "D" (.double (4629137466983448576 : UInt64))) :
    MetFree l (⟨own_k1, "hasGap", "()Z"⟩ : MethodName) (head1 (Jvm.Cond.code (⟨own_k1, "hasGap", "()Z"⟩ : MethodName) prog_17_method_4_code 1 (some .boolean) :: wds) ({ frames := 0, cells := 0, slots := 0, locals := 0 } : Room)) (fun ar_ U_ => ar_ = #[(.ref a1551)] ∧ Z.Warmed39 U_.vm ∧ U_.heap = h0) (fun _ _ _ _ _ => True) (fun _ U_ o_ V_ => ∃ v_ L_, o_ = .returned v_ ∧ own_s33_Q Z a1551 h0 n0 v_ V_.heap L_ ∧ FrameEnd U_ o_ V_ L_ ({ frames := 0, cells := 0, slots := 0, locals := 0 } : Room).cells ({ frames := 0, cells := 0, slots := 0, locals := 0 } : Room).slots) := by
  refine own_met (y := ⟨own_k1, "hasGap", "()Z"⟩) (Q := own_s33_Q Z a1551 h0 n0) own_pn2 ?_
  intro p e s m below meth c s₁ hx hby hml hZ hown hnm hret hlk X0 e0
  have N0 := Fr.nil n0
  refine own_cast (g' := (mkF m 0 #[.val (.ref a1551)] [])) (by first | (simp [entryFrame, mkF, argsToLocals, Value.category]; done) | rfl) ?_
  refine own_alN (w := (.ref a1551)) X0 hx (hb hby d14_0) rfl rfl ?_
  refine own_getf X0 hx hZ hown (own_w hw 67 rfl) e0 H5 (hb hby d14_1) ?_
  intro T1704 X1704 e1704
  show own_Go _ _ _ _ _ _ _ T1704 (mkF m 4 #[.val (.ref a1551)] [(.double (4629137466983448576 : UInt64))])
  refine own_alN (w := (.ref a1551)) X1704 hx (hb hby d14_4) rfl rfl ?_
  refine own_getf X1704 hx hZ hown (own_w hw 69 rfl) e1704 H6 (hb hby d14_5) ?_
  intro T1705 X1705 e1705
  show own_Go _ _ _ _ _ _ _ T1705 (mkF m 8 #[.val (.ref a1551)] [(.double (4629137466983448576 : UInt64)), (.double (4629137466983448576 : UInt64))])
  refine own_pre (g' := (mkF m 9 #[.val (.ref a1551)] [(.int (0 : Int32))])) (fun t k => XS.dcmpS X1705.here hx rfl (v := (0 : Int32)) (hb hby d14_8) rfl (by decide +kernel) k) ?_
  refine own_pre (g' := (mkF m 16 #[.val (.ref a1551)] [])) (fun t k => XS.ifYes X1705.here hx rfl (pc0 := 9) (pc' := 16) rfl (hb hby d14_9) rfl (by decide) (by decide) (by decide) k) ?_
  refine own_ic X1705 hx (0 : Int32) (hb hby d14_16) rfl ?_
  exact own_retZ X1705 hx hlk hret rfl (hb hby d14_17) e1705 ⟨rfl, N0, rfl⟩ (by decide) (by decide)
def own_s31_Q (Z : State) (a1551 : Addr) (a1633 : Addr) (f1552 : UInt64) (f1173 : UInt64) (h0 : Heap) (n0 : Nat) (v_ : Option Value) (h_ : Heap) (L_ : List Loc) : Prop := (fun v h L => v = some (.int (6 : Int32)) ∧ Fr n0 L ∧ Keep h0 h [a1633] ∧ own_Ary Z h a1633 .double ([(.double (4621819117588971520 : UInt64)), (.double (4626322717216342016 : UInt64)), (.double f1173), (.double (4626322717216342016 : UInt64)), (.double (4629137466983448576 : UInt64)), (.double f1552)] ++ own_rD 6)) v_ h_ L_
set_option maxRecDepth 65536 in
set_option maxHeartbeats 40000000 in
theorem own_s31 (l : Launch) (Z : State) (a0 : Array Value) (hw : ∀ d ∈ tables_1, d.before a0 Z = true) (wds : List Jvm.Cond) (a1551 : Addr) (a1633 : Addr) (f1552 : UInt64) (f1173 : UInt64) (h0 : Heap) (n0 : Nat) (Z0 : n0 ≤ h0.size) (H3 : Exa Z h0 a1551 own_k1) (H4 : Fld Z h0 a1551 own_k1 "low" "D" (.double (4626322717216342016 : UInt64))) (H5 : Fld Z h0 a1551 own_k1 "gapLow" "D" (.double (4629137466983448576 : UInt64))) (H6 : Fld Z h0 a1551 own_k1 "gapHigh" "D" (.double (4629137466983448576 : UInt64))) (H7 : Fld Z h0 a1551 own_k1 "high" "D" (.double (4629137466983448576 : UInt64))) (H9 : Fld Z h0 a1551 own_k1 "count" "D" (.double f1552)) (H11 : own_Ary Z h0 a1633 .double ([(.double (4621819117588971520 : UInt64)), (.double (4626322717216342016 : UInt64)), (.double f1173)] ++ own_rD 9)) (H14 : a1551 < a1633) (H16 : n0 ≤ a1633) :
    MetFree l (⟨own_k1, "blocks", "([DI)I"⟩ : MethodName) (head1 (Jvm.Cond.code (⟨own_k1, "blocks", "([DI)I"⟩ : MethodName) prog_17_method_10_code 3 (some .int) :: wds) ({ frames := 1, cells := 0, slots := 0, locals := 12 } : Room)) (fun ar_ U_ => ar_ = #[(.ref a1551), (.ref a1633), (.int (3 : Int32))] ∧ Z.Warmed39 U_.vm ∧ U_.heap = h0) (fun _ _ _ _ _ => True) (fun _ U_ o_ V_ => ∃ v_ L_, o_ = .returned v_ ∧ own_s31_Q Z a1551 a1633 f1552 f1173 h0 n0 v_ V_.heap L_ ∧ FrameEnd U_ o_ V_ L_ ({ frames := 1, cells := 0, slots := 0, locals := 12 } : Room).cells ({ frames := 1, cells := 0, slots := 0, locals := 12 } : Room).slots) := by
  refine own_met (y := ⟨own_k1, "blocks", "([DI)I"⟩) (Q := own_s31_Q Z a1551 a1633 f1552 f1173 h0 n0) own_pn2 ?_
  intro p e s m below meth c s₁ hx hby hml hZ hown hnm hret hlk X0 e0
  have N0 := Fr.nil n0
  refine own_cast (g' := (mkF m 0 #[.val (.ref a1551), .val (.ref a1633), .val (.int (3 : Int32))] [])) (by first | (simp [entryFrame, mkF, argsToLocals, Value.category]; done) | rfl) ?_
  refine own_alN (w := (.ref a1551)) X0 hx (hb hby d12_0) rfl rfl ?_
  refine own_callv (a := a1551) (argsL := []) (rest := []) X0 hx hZ hown (own_s32 l Z a0 hw [] a1551 h0 n0 Z0 H4 H7) H3 (own_w hw 109 rfl) (own_w hw 110 rfl) (own_w hw 112 rfl) (own_w hw 111 rfl) (own_w hw 113 rfl) (own_w hw 52 rfl) (by decide) e0 (hb hby d12_1) (by rw [hml]; rfl) rfl (lenOf own_pd7 rfl) (by decide) (W := 0) (Nat.le_of_eq rfl) (by decide) (by decide) (by decide) ?_
  intro v1691 T1691 lo1691 X1691 Q1691
  obtain ⟨h1691, e1691⟩ : ∃ h, T1691.heap = h := ⟨_, rfl⟩
  rw [e1691] at Q1691
  obtain ⟨rfl, N1691, K1691⟩ := Q1691
  have N1691' := Fr.app N0 N1691
  have e1691' : T1691.heap = h0 := e1691.trans K1691
  show own_Go _ _ _ _ _ _ _ T1691 (mkF m 4 #[.val (.ref a1551), .val (.ref a1633), .val (.int (3 : Int32))] [(.int (0 : Int32))])
  refine own_pre (g' := (mkF m 9 #[.val (.ref a1551), .val (.ref a1633), .val (.int (3 : Int32))] [])) (fun t k => XS.ifYes X1691.here hx rfl (pc0 := 4) (pc' := 9) rfl (hb hby d12_4) rfl (by decide) (by decide) (by decide) k) ?_
  refine own_alN (w := (.ref a1633)) X1691 hx (hb hby d12_9) rfl rfl ?_
  refine own_ilN (w := (3 : Int32)) X1691 hx (hb hby d12_10) rfl ?_
  refine own_alN (w := (.ref a1551)) X1691 hx (hb hby d12_11) rfl rfl ?_
  refine own_getf X1691 hx hZ hown (own_w hw 65 rfl) e1691' H4 (hb hby d12_12) ?_
  intro T1692 X1692 e1692
  show own_Go _ _ _ _ _ _ _ T1692 (mkF m 15 #[.val (.ref a1551), .val (.ref a1633), .val (.int (3 : Int32))] [(.double (4626322717216342016 : UInt64)), (.int (3 : Int32)), (.ref a1633)])
  refine own_dastore X1692 hx hZ e1692 N1691' H16 H11 (hb hby d12_15) (n := 3) (by decide) (by decide) (by show 3 < 12; decide) ?_
  intro T1693 h1693 lo1693 X1693 e1693 N1693 W1693
  have F1694 : own_Ary Z h1693 a1633 .double ([(.double (4621819117588971520 : UInt64)), (.double (4626322717216342016 : UInt64)), (.double f1173), (.double (4626322717216342016 : UInt64))] ++ own_rD 8) := H11.set W1693
  show own_Go _ _ _ _ _ _ _ T1693 (mkF m 16 #[.val (.ref a1551), .val (.ref a1633), .val (.int (3 : Int32))] [])
  refine own_alN (w := (.ref a1551)) X1693 hx (hb hby d12_16) rfl rfl ?_
  have F1697 := (H3.wr W1693)
  have F1699 := (H5.other W1693 (Or.inl (Nat.ne_of_lt H14)))
  have F1700 := (H6.other W1693 (Or.inl (Nat.ne_of_lt H14)))
  have F1701 := (H7.other W1693 (Or.inl (Nat.ne_of_lt H14)))
  have F1703 := (H9.other W1693 (Or.inl (Nat.ne_of_lt H14)))
  have F1706 : n0 ≤ h1693.size := (Nat.le_trans Z0 (Nat.le_of_eq W1693.size.symm))
  refine own_callv (a := a1551) (argsL := []) (rest := []) X1693 hx hZ hown (own_s33 l Z a0 hw [] a1551 h1693 n0 F1706 F1699 F1700) F1697 (own_w hw 114 rfl) (own_w hw 115 rfl) (own_w hw 117 rfl) (own_w hw 116 rfl) (own_w hw 118 rfl) (own_w hw 52 rfl) (by decide) e1693 (hb hby d12_17) (by rw [hml]; rfl) rfl (lenOf own_pd7 rfl) (by decide) (W := 0) (Nat.le_of_eq rfl) (by decide) (by decide) (by decide) ?_
  intro v1707 T1707 lo1707 X1707 Q1707
  obtain ⟨h1707, e1707⟩ : ∃ h, T1707.heap = h := ⟨_, rfl⟩
  rw [e1707] at Q1707
  obtain ⟨rfl, N1707, K1707⟩ := Q1707
  have N1707' := Fr.app N1693 N1707
  have e1707' : T1707.heap = h1693 := e1707.trans K1707
  show own_Go _ _ _ _ _ _ _ T1707 (mkF m 20 #[.val (.ref a1551), .val (.ref a1633), .val (.int (3 : Int32))] [(.int (0 : Int32))])
  refine own_pre (g' := (mkF m 23 #[.val (.ref a1551), .val (.ref a1633), .val (.int (3 : Int32))] [])) (fun t k => XS.ifNo X1707.here hx rfl (hb hby d12_20) rfl (by decide) k) ?_
  refine own_alN (w := (.ref a1633)) X1707 hx (hb hby d12_23) rfl rfl ?_
  refine own_ilN (w := (3 : Int32)) X1707 hx (hb hby d12_24) rfl ?_
  refine own_ic X1707 hx (1 : Int32) (hb hby d12_25) rfl ?_
  refine own_pre (g' := (mkF m 27 #[.val (.ref a1551), .val (.ref a1633), .val (.int (3 : Int32))] [(.int (4 : Int32)), (.ref a1633)])) (fun t k => XS.iadd X1707.here hx rfl (hb hby d12_26) rfl k) ?_
  refine own_alN (w := (.ref a1551)) X1707 hx (hb hby d12_27) rfl rfl ?_
  refine own_getf X1707 hx hZ hown (own_w hw 71 rfl) e1707' F1701 (hb hby d12_28) ?_
  intro T1708 X1708 e1708
  show own_Go _ _ _ _ _ _ _ T1708 (mkF m 31 #[.val (.ref a1551), .val (.ref a1633), .val (.int (3 : Int32))] [(.double (4629137466983448576 : UInt64)), (.int (4 : Int32)), (.ref a1633)])
  refine own_dastore X1708 hx hZ e1708 N1707' H16 F1694 (hb hby d12_31) (n := 4) (by decide) (by decide) (by show 4 < 12; decide) ?_
  intro T1709 h1709 lo1709 X1709 e1709 N1709 W1709
  have F1710 : own_Ary Z h1709 a1633 .double ([(.double (4621819117588971520 : UInt64)), (.double (4626322717216342016 : UInt64)), (.double f1173), (.double (4626322717216342016 : UInt64)), (.double (4629137466983448576 : UInt64))] ++ own_rD 7) := F1694.set W1709
  show own_Go _ _ _ _ _ _ _ T1709 (mkF m 32 #[.val (.ref a1551), .val (.ref a1633), .val (.int (3 : Int32))] [])
  refine own_alN (w := (.ref a1633)) X1709 hx (hb hby d12_32) rfl rfl ?_
  refine own_ilN (w := (3 : Int32)) X1709 hx (hb hby d12_33) rfl ?_
  refine own_ic X1709 hx (2 : Int32) (hb hby d12_34) rfl ?_
  refine own_pre (g' := (mkF m 36 #[.val (.ref a1551), .val (.ref a1633), .val (.int (3 : Int32))] [(.int (5 : Int32)), (.ref a1633)])) (fun t k => XS.iadd X1709.here hx rfl (hb hby d12_35) rfl k) ?_
  refine own_alN (w := (.ref a1551)) X1709 hx (hb hby d12_36) rfl rfl ?_
  have F1711 := (F1703.other W1709 (Or.inl (Nat.ne_of_lt H14)))
  refine own_getf X1709 hx hZ hown (own_w hw 75 rfl) e1709 F1711 (hb hby d12_37) ?_
  intro T1712 X1712 e1712
  show own_Go _ _ _ _ _ _ _ T1712 (mkF m 40 #[.val (.ref a1551), .val (.ref a1633), .val (.int (3 : Int32))] [(.double f1552), (.int (5 : Int32)), (.ref a1633)])
  refine own_dastore X1712 hx hZ e1712 N1709 H16 F1710 (hb hby d12_40) (n := 5) (by decide) (by decide) (by show 5 < 12; decide) ?_
  intro T1713 h1713 lo1713 X1713 e1713 N1713 W1713
  have F1714 : own_Ary Z h1713 a1633 .double ([(.double (4621819117588971520 : UInt64)), (.double (4626322717216342016 : UInt64)), (.double f1173), (.double (4626322717216342016 : UInt64)), (.double (4629137466983448576 : UInt64)), (.double f1552)] ++ own_rD 6) := F1710.set W1713
  show own_Go _ _ _ _ _ _ _ T1713 (mkF m 41 #[.val (.ref a1551), .val (.ref a1633), .val (.int (3 : Int32))] [])
  refine own_ilN (w := (3 : Int32)) X1713 hx (hb hby d12_41) rfl ?_
  refine own_ic X1713 hx (3 : Int32) (hb hby d12_42) rfl ?_
  refine own_pre (g' := (mkF m 44 #[.val (.ref a1551), .val (.ref a1633), .val (.int (3 : Int32))] [(.int (6 : Int32))])) (fun t k => XS.iadd X1713.here hx rfl (hb hby d12_43) rfl k) ?_
  exact own_retI X1713 hx hlk hret (hb hby d12_44) e1713 ⟨rfl, N1713, ((((Keep.refl _ _).wr W1693 (Or.inl (by simp))).wr W1709 (Or.inl (by simp))).wr W1713 (Or.inl (by simp))), F1714⟩ (by decide) (by decide)
theorem d15_0 : decode prog_18_method_1_code 0 = .ok (.aload_n 0, 1) := by decide +kernel
theorem d15_1 : decode prog_18_method_1_code 1 = .ok (.invokespecial 1, 3) := by decide +kernel
theorem d15_4 : decode prog_18_method_1_code 4 = .ok (.aload_n 0, 1) := by decide +kernel
theorem d15_5 : decode prog_18_method_1_code 5 = .ok (.ldc2_w 9, 3) := by decide +kernel
theorem d15_8 : decode prog_18_method_1_code 8 = .ok (.putfield 11, 3) := by decide +kernel
theorem d15_11 : decode prog_18_method_1_code 11 = .ok (.aload_n 0, 1) := by decide +kernel
theorem d15_12 : decode prog_18_method_1_code 12 = .ok (.ldc2_w 17, 3) := by decide +kernel
theorem d15_15 : decode prog_18_method_1_code 15 = .ok (.putfield 19, 3) := by decide +kernel
theorem d15_18 : decode prog_18_method_1_code 18 = .ok (.return_, 1) := by decide +kernel
theorem own_pn4 : plainName "com/example/rankline/rankline/Extent$Cover" = true := by first | (simp [plainName, overriddenIn]; done) | decide +kernel
theorem own_f20 {a0 : Array Value} {Z : State} (hw : ∀ d ∈ tables_1, d.before a0 Z = true) : Laid Z a0 own_k2 own_k2 "high" "D" ∧ parseFieldDescriptor "D" = some .double := ⟨(Or.inl (own_w hw 131 rfl)), by decide⟩
theorem own_f21 {a0 : Array Value} {Z : State} (hw : ∀ d ∈ tables_1, d.before a0 Z = true) : Laid Z a0 own_k2 own_k2 "low" "D" ∧ parseFieldDescriptor "D" = some .double := ⟨(Or.inl (own_w hw 128 rfl)), by decide⟩
theorem own_f22 {a0 : Array Value} {Z : State} (hw : ∀ d ∈ tables_1, d.before a0 Z = true) : Laid Z a0 own_k2 own_k2 "gapLow" "D" ∧ parseFieldDescriptor "D" = some .double := ⟨(Or.inl (own_w hw 138 rfl)), by decide⟩
theorem own_f23 {a0 : Array Value} {Z : State} (hw : ∀ d ∈ tables_1, d.before a0 Z = true) : Laid Z a0 own_k2 own_k2 "gapHigh" "D" ∧ parseFieldDescriptor "D" = some .double := ⟨(Or.inl (own_w hw 140 rfl)), by decide⟩
theorem own_f24 {a0 : Array Value} {Z : State} (hw : ∀ d ∈ tables_1, d.before a0 Z = true) : Laid Z a0 own_k2 own_k2 "count" "D" ∧ parseFieldDescriptor "D" = some .double := ⟨(Or.inl (own_w hw 142 rfl)), by decide⟩
theorem own_f25 {a0 : Array Value} {Z : State} (hw : ∀ d ∈ tables_1, d.before a0 Z = true) : Laid Z a0 own_k2 own_k2 "below" "D" ∧ parseFieldDescriptor "D" = some .double := ⟨(Or.inl (own_w hw 219 rfl)), by decide⟩
def own_s34_Q (Z : State) (a1728 : Addr) (h0 : Heap) (n0 : Nat) (v_ : Option Value) (h_ : Heap) (L_ : List Loc) : Prop := (fun v h L => v = none ∧ Fr n0 L ∧ Keep h0 h [a1728] ∧ Fld Z h a1728 own_k2 "low" "D" (.double (9218868437227405312 : UInt64)) ∧ Fld Z h a1728 own_k2 "high" "D" (.double (18442240474082181120 : UInt64)) ∧ Fld Z h a1728 own_k2 "gapLow" "D" (.double (0 : UInt64)) ∧ Fld Z h a1728 own_k2 "gapHigh" "D" (.double (0 : UInt64)) ∧ Fld Z h a1728 own_k2 "count" "D" (.double (0 : UInt64)) ∧ Fld Z h a1728 own_k2 "below" "D" (.double (0 : UInt64))) v_ h_ L_
set_option maxRecDepth 65536 in
set_option maxHeartbeats 40000000 in
theorem own_s34 (l : Launch) (Z : State) (a0 : Array Value) (hw : ∀ d ∈ tables_1, d.before a0 Z = true) (wds : List Jvm.Cond) (a1728 : Addr) (h0 : Heap) (n0 : Nat) (Z0 : n0 ≤ h0.size) (H3 : Exa Z h0 a1728 own_k2) (H4 : Fld Z h0 a1728 own_k2 "low" "D" (.double (0 : UInt64))) (H5 : Fld Z h0 a1728 own_k2 "high" "D" (.double (0 : UInt64))) (H6 : Fld Z h0 a1728 own_k2 "gapLow" "D" (.double (0 : UInt64))) (H7 : Fld Z h0 a1728 own_k2 "gapHigh" "D" (.double (0 : UInt64))) (H8 : Fld Z h0 a1728 own_k2 "count" "D" (.double (0 : UInt64))) (H9 : Fld Z h0 a1728 own_k2 "below" "D" (.double (0 : UInt64))) (H11 : n0 ≤ a1728) :
    MetFree l (⟨own_k2, "<init>", "()V"⟩ : MethodName) (head1 (Jvm.Cond.code (⟨own_k2, "<init>", "()V"⟩ : MethodName) prog_18_method_1_code 1 none :: wds) ({ frames := 1, cells := 0, slots := 0, locals := 12 } : Room)) (fun ar_ U_ => ar_ = #[(.ref a1728)] ∧ Z.Warmed39 U_.vm ∧ U_.heap = h0) (fun _ _ _ _ _ => True) (fun _ U_ o_ V_ => ∃ v_ L_, o_ = .returned v_ ∧ own_s34_Q Z a1728 h0 n0 v_ V_.heap L_ ∧ FrameEnd U_ o_ V_ L_ ({ frames := 1, cells := 0, slots := 0, locals := 12 } : Room).cells ({ frames := 1, cells := 0, slots := 0, locals := 12 } : Room).slots) := by
  refine own_met (y := ⟨own_k2, "<init>", "()V"⟩) (Q := own_s34_Q Z a1728 h0 n0) own_pn4 ?_
  intro p e s m below meth c s₁ hx hby hml hZ hown hnm hret hlk X0 e0
  have N0 := Fr.nil n0
  refine own_cast (g' := (mkF m 0 #[.val (.ref a1728)] [])) (by first | (simp [entryFrame, mkF, argsToLocals, Value.category]; done) | rfl) ?_
  refine own_alN (w := (.ref a1728)) X0 hx (hb hby d15_0) rfl rfl ?_
  refine own_init0 X0 hx hZ hown (own_w hw 125 rfl) (own_w hw 11 rfl) (own_w hw 12 rfl) e0 (hb hby d15_1) (by rw [hml]; rfl) (by decide) (W := 0) (Nat.le_of_eq rfl) (by decide) ?_
  intro T1744 X1744 e1744
  show own_Go _ _ _ _ _ _ _ T1744 (mkF m 4 #[.val (.ref a1728)] [])
  refine own_alN (w := (.ref a1728)) X1744 hx (hb hby d15_4) rfl rfl ?_
  refine own_ldcd X1744 hx hZ hown (own_w hw 126 rfl) (hb hby d15_5) ?_
  show own_Go _ _ _ _ _ _ _ T1744 (mkF m 8 #[.val (.ref a1728)] [(.double (9218868437227405312 : UInt64)), (.ref a1728)])
  refine own_putf X1744 hx hZ hown (own_w hw 127 rfl) e1744 N0 H11 H4 H3 (Or.inl (own_w hw 128 rfl)) (own_w hw 120 rfl) (ty := .double) (by decide) rfl rfl (hb hby d15_8) ?_
  intro T1745 h1745 lo1745 X1745 e1745 N1745 W1745
  have F1746 := H4.same W1745
  show own_Go _ _ _ _ _ _ _ T1745 (mkF m 11 #[.val (.ref a1728)] [])
  refine own_alN (w := (.ref a1728)) X1745 hx (hb hby d15_11) rfl rfl ?_
  refine own_ldcd X1745 hx hZ hown (own_w hw 129 rfl) (hb hby d15_12) ?_
  show own_Go _ _ _ _ _ _ _ T1745 (mkF m 15 #[.val (.ref a1728)] [(.double (18442240474082181120 : UInt64)), (.ref a1728)])
  have F1747 := (H5.other W1745 (Or.inr (own_sne (own_f20 hw) (own_f21 hw) (by decide))))
  have F1748 := (H3.wr W1745)
  refine own_putf X1745 hx hZ hown (own_w hw 130 rfl) e1745 N1745 H11 F1747 F1748 (Or.inl (own_w hw 131 rfl)) (own_w hw 120 rfl) (ty := .double) (by decide) rfl rfl (hb hby d15_15) ?_
  intro T1749 h1749 lo1749 X1749 e1749 N1749 W1749
  have F1750 := F1747.same W1749
  show own_Go _ _ _ _ _ _ _ T1749 (mkF m 18 #[.val (.ref a1728)] [])
  have F1751 := (F1746.other W1749 (Or.inr (own_sne (own_f21 hw) (own_f20 hw) (by decide))))
  have F1752 := ((H6.other W1745 (Or.inr (own_sne (own_f22 hw) (own_f21 hw) (by decide)))).other W1749 (Or.inr (own_sne (own_f22 hw) (own_f20 hw) (by decide))))
  have F1753 := ((H7.other W1745 (Or.inr (own_sne (own_f23 hw) (own_f21 hw) (by decide)))).other W1749 (Or.inr (own_sne (own_f23 hw) (own_f20 hw) (by decide))))
  have F1754 := ((H8.other W1745 (Or.inr (own_sne (own_f24 hw) (own_f21 hw) (by decide)))).other W1749 (Or.inr (own_sne (own_f24 hw) (own_f20 hw) (by decide))))
  have F1755 := ((H9.other W1745 (Or.inr (own_sne (own_f25 hw) (own_f21 hw) (by decide)))).other W1749 (Or.inr (own_sne (own_f25 hw) (own_f20 hw) (by decide))))
  exact own_ret0 X1749 hx hlk hret (hb hby d15_18) e1749 ⟨rfl, N1749, (((Keep.refl _ _).wr W1745 (Or.inl (by simp))).wr W1749 (Or.inl (by simp))), F1751, F1750, F1752, F1753, F1754, F1755⟩ (by decide) (by decide)
theorem d16_0 : decode prog_18_method_2_code 0 = .ok (.aload_n 0, 1) := by decide +kernel
theorem d16_1 : decode prog_18_method_2_code 1 = .ok (.getfield 11, 3) := by decide +kernel
theorem d16_4 : decode prog_18_method_2_code 4 = .ok (.aload_n 0, 1) := by decide +kernel
theorem d16_5 : decode prog_18_method_2_code 5 = .ok (.getfield 19, 3) := by decide +kernel
theorem d16_8 : decode prog_18_method_2_code 8 = .ok (.dcmp .l, 1) := by decide +kernel
theorem d16_9 : decode prog_18_method_2_code 9 = .ok (.ifCond .le 30, 3) := by decide +kernel
theorem d16_12 : decode prog_18_method_2_code 12 = .ok (.aload_n 0, 1) := by decide +kernel
theorem d16_13 : decode prog_18_method_2_code 13 = .ok (.dload_n 1, 1) := by decide +kernel
theorem d16_14 : decode prog_18_method_2_code 14 = .ok (.putfield 11, 3) := by decide +kernel
theorem d16_17 : decode prog_18_method_2_code 17 = .ok (.aload_n 0, 1) := by decide +kernel
theorem d16_18 : decode prog_18_method_2_code 18 = .ok (.dload_n 3, 1) := by decide +kernel
theorem d16_19 : decode prog_18_method_2_code 19 = .ok (.putfield 19, 3) := by decide +kernel
theorem d16_22 : decode prog_18_method_2_code 22 = .ok (.aload_n 0, 1) := by decide +kernel
theorem d16_23 : decode prog_18_method_2_code 23 = .ok (.dload_n 3, 1) := by decide +kernel
theorem d16_24 : decode prog_18_method_2_code 24 = .ok (.putfield 22, 3) := by decide +kernel
theorem d16_27 : decode prog_18_method_2_code 27 = .ok (.aload_n 0, 1) := by decide +kernel
theorem d16_28 : decode prog_18_method_2_code 28 = .ok (.dload_n 3, 1) := by decide +kernel
theorem d16_29 : decode prog_18_method_2_code 29 = .ok (.putfield 25, 3) := by decide +kernel
theorem d16_32 : decode prog_18_method_2_code 32 = .ok (.aload_n 0, 1) := by decide +kernel
theorem d16_33 : decode prog_18_method_2_code 33 = .ok (.dload 5, 2) := by decide +kernel
theorem d16_35 : decode prog_18_method_2_code 35 = .ok (.putfield 28, 3) := by decide +kernel
theorem d16_38 : decode prog_18_method_2_code 38 = .ok (.return_, 1) := by decide +kernel
theorem d16_39 : decode prog_18_method_2_code 39 = .ok (.dload_n 1, 1) := by decide +kernel
theorem d16_40 : decode prog_18_method_2_code 40 = .ok (.aload_n 0, 1) := by decide +kernel
theorem d16_41 : decode prog_18_method_2_code 41 = .ok (.getfield 19, 3) := by decide +kernel
theorem d16_44 : decode prog_18_method_2_code 44 = .ok (.dcmp .l, 1) := by decide +kernel
theorem d16_45 : decode prog_18_method_2_code 45 = .ok (.ifCond .le 55, 3) := by decide +kernel
theorem d16_100 : decode prog_18_method_2_code 100 = .ok (.aload_n 0, 1) := by decide +kernel
theorem d16_101 : decode prog_18_method_2_code 101 = .ok (.aload_n 0, 1) := by decide +kernel
theorem d16_102 : decode prog_18_method_2_code 102 = .ok (.getfield 19, 3) := by decide +kernel
theorem d16_105 : decode prog_18_method_2_code 105 = .ok (.dload_n 3, 1) := by decide +kernel
theorem d16_106 : decode prog_18_method_2_code 106 = .ok (.invokestatic 40, 3) := by decide +kernel
theorem d16_109 : decode prog_18_method_2_code 109 = .ok (.putfield 19, 3) := by decide +kernel
theorem d16_112 : decode prog_18_method_2_code 112 = .ok (.aload_n 0, 1) := by decide +kernel
theorem d16_113 : decode prog_18_method_2_code 113 = .ok (.dup, 1) := by decide +kernel
theorem d16_114 : decode prog_18_method_2_code 114 = .ok (.getfield 28, 3) := by decide +kernel
theorem d16_117 : decode prog_18_method_2_code 117 = .ok (.dload 5, 2) := by decide +kernel
theorem d16_119 : decode prog_18_method_2_code 119 = .ok (.dadd, 1) := by decide +kernel
theorem d16_120 : decode prog_18_method_2_code 120 = .ok (.putfield 28, 3) := by decide +kernel
theorem d16_123 : decode prog_18_method_2_code 123 = .ok (.return_, 1) := by decide +kernel
def own_s35_Q (Z : State) (a1728 : Addr) (f1173 : UInt64) (h0 : Heap) (n0 : Nat) (v_ : Option Value) (h_ : Heap) (L_ : List Loc) : Prop := (fun v h L => v = none ∧ Fr n0 L ∧ Keep h0 h [a1728] ∧ Fld Z h a1728 own_k2 "low" "D" (.double (4621819117588971520 : UInt64)) ∧ Fld Z h a1728 own_k2 "high" "D" (.double (4626322717216342016 : UInt64)) ∧ Fld Z h a1728 own_k2 "gapLow" "D" (.double (4626322717216342016 : UInt64)) ∧ Fld Z h a1728 own_k2 "gapHigh" "D" (.double (4626322717216342016 : UInt64)) ∧ Fld Z h a1728 own_k2 "count" "D" (.double f1173) ∧ Fld Z h a1728 own_k2 "below" "D" (.double (0 : UInt64))) v_ h_ L_
set_option maxRecDepth 65536 in
set_option maxHeartbeats 40000000 in
theorem own_s35 (l : Launch) (Z : State) (a0 : Array Value) (hw : ∀ d ∈ tables_1, d.before a0 Z = true) (wds : List Jvm.Cond) (a1728 : Addr) (f1173 : UInt64) (h0 : Heap) (n0 : Nat) (Z0 : n0 ≤ h0.size) (H3 : Exa Z h0 a1728 own_k2) (H4 : Fld Z h0 a1728 own_k2 "low" "D" (.double (9218868437227405312 : UInt64))) (H5 : Fld Z h0 a1728 own_k2 "high" "D" (.double (18442240474082181120 : UInt64))) (H6 : Fld Z h0 a1728 own_k2 "gapLow" "D" (.double (0 : UInt64))) (H7 : Fld Z h0 a1728 own_k2 "gapHigh" "D" (.double (0 : UInt64))) (H8 : Fld Z h0 a1728 own_k2 "count" "D" (.double (0 : UInt64))) (H9 : Fld Z h0 a1728 own_k2 "below" "D" (.double (0 : UInt64))) (H11 : n0 ≤ a1728) :
    MetFree l (⟨own_k2, "take", "(DDD)V"⟩ : MethodName) (head1 (Jvm.Cond.code (⟨own_k2, "take", "(DDD)V"⟩ : MethodName) prog_18_method_2_code 7 none :: wds) ({ frames := 0, cells := 0, slots := 0, locals := 0 } : Room)) (fun ar_ U_ => ar_ = #[(.ref a1728), (.double (4621819117588971520 : UInt64)), (.double (4626322717216342016 : UInt64)), (.double f1173)] ∧ Z.Warmed39 U_.vm ∧ U_.heap = h0) (fun _ _ _ _ _ => True) (fun _ U_ o_ V_ => ∃ v_ L_, o_ = .returned v_ ∧ own_s35_Q Z a1728 f1173 h0 n0 v_ V_.heap L_ ∧ FrameEnd U_ o_ V_ L_ ({ frames := 0, cells := 0, slots := 0, locals := 0 } : Room).cells ({ frames := 0, cells := 0, slots := 0, locals := 0 } : Room).slots) := by
  refine own_met (y := ⟨own_k2, "take", "(DDD)V"⟩) (Q := own_s35_Q Z a1728 f1173 h0 n0) own_pn4 ?_
  intro p e s m below meth c s₁ hx hby hml hZ hown hnm hret hlk X0 e0
  have N0 := Fr.nil n0
  refine own_cast (g' := (mkF m 0 #[.val (.ref a1728), .val (.double (4621819117588971520 : UInt64)), .second, .val (.double (4626322717216342016 : UInt64)), .second, .val (.double f1173), .second] [])) (by first | (simp [entryFrame, mkF, argsToLocals, Value.category]; done) | rfl) ?_
  generalize hL1768 : (#[.val (.ref a1728), .val (.double (4621819117588971520 : UInt64)), .second, .val (.double (4626322717216342016 : UInt64)), .second, .val (.double f1173), .second] : Array Slot) = L1768
  refine own_alN (w := (.ref a1728)) X0 hx (hb hby d16_0) (by rw [← hL1768]; rfl) rfl ?_
  refine own_getf X0 hx hZ hown (own_w hw 127 rfl) e0 H4 (hb hby d16_1) ?_
  intro T1771 X1771 e1771
  show own_Go _ _ _ _ _ _ _ T1771 (mkF m 4 L1768 [(.double (9218868437227405312 : UInt64))])
  refine own_alN (w := (.ref a1728)) X1771 hx (hb hby d16_4) (by rw [← hL1768]; rfl) rfl ?_
  refine own_getf X1771 hx hZ hown (own_w hw 130 rfl) e1771 H5 (hb hby d16_5) ?_
  intro T1772 X1772 e1772
  show own_Go _ _ _ _ _ _ _ T1772 (mkF m 8 L1768 [(.double (18442240474082181120 : UInt64)), (.double (9218868437227405312 : UInt64))])
  refine own_pre (g' := (mkF m 9 L1768 [(.int (1 : Int32))])) (fun t k => XS.dcmpS X1772.here hx rfl (v := (1 : Int32)) (hb hby d16_8) rfl (by decide +kernel) k) ?_
  refine own_pre (g' := (mkF m 12 L1768 [])) (fun t k => XS.ifNo X1772.here hx rfl (hb hby d16_9) rfl (by decide) k) ?_
  refine own_alN (w := (.ref a1728)) X1772 hx (hb hby d16_12) (by rw [← hL1768]; rfl) rfl ?_
  refine own_dlN (w := (4621819117588971520 : UInt64)) X1772 hx (hb hby d16_13) (by rw [← hL1768]; rfl) ?_
  refine own_putf X1772 hx hZ hown (own_w hw 127 rfl) e1772 N0 H11 H4 H3 (Or.inl (own_w hw 128 rfl)) (own_w hw 120 rfl) (ty := .double) (by decide) rfl rfl (hb hby d16_14) ?_
  intro T1773 h1773 lo1773 X1773 e1773 N1773 W1773
  have F1774 := H4.same W1773
  show own_Go _ _ _ _ _ _ _ T1773 (mkF m 17 L1768 [])
  refine own_alN (w := (.ref a1728)) X1773 hx (hb hby d16_17) (by rw [← hL1768]; rfl) rfl ?_
  refine own_dlN (w := (4626322717216342016 : UInt64)) X1773 hx (hb hby d16_18) (by rw [← hL1768]; rfl) ?_
  have F1775 := (H5.other W1773 (Or.inr (own_sne (own_f20 hw) (own_f21 hw) (by decide))))
  have F1776 := (H3.wr W1773)
  refine own_putf X1773 hx hZ hown (own_w hw 130 rfl) e1773 N1773 H11 F1775 F1776 (Or.inl (own_w hw 131 rfl)) (own_w hw 120 rfl) (ty := .double) (by decide) rfl rfl (hb hby d16_19) ?_
  intro T1777 h1777 lo1777 X1777 e1777 N1777 W1777
  have F1778 := F1775.same W1777
  show own_Go _ _ _ _ _ _ _ T1777 (mkF m 22 L1768 [])
  refine own_alN (w := (.ref a1728)) X1777 hx (hb hby d16_22) (by rw [← hL1768]; rfl) rfl ?_
  refine own_dlN (w := (4626322717216342016 : UInt64)) X1777 hx (hb hby d16_23) (by rw [← hL1768]; rfl) ?_
  have F1779 := ((H6.other W1773 (Or.inr (own_sne (own_f22 hw) (own_f21 hw) (by decide)))).other W1777 (Or.inr (own_sne (own_f22 hw) (own_f20 hw) (by decide))))
  have F1780 := (F1776.wr W1777)
  refine own_putf X1777 hx hZ hown (own_w hw 137 rfl) e1777 N1777 H11 F1779 F1780 (Or.inl (own_w hw 138 rfl)) (own_w hw 120 rfl) (ty := .double) (by decide) rfl rfl (hb hby d16_24) ?_
  intro T1781 h1781 lo1781 X1781 e1781 N1781 W1781
  have F1782 := F1779.same W1781
  show own_Go _ _ _ _ _ _ _ T1781 (mkF m 27 L1768 [])
  refine own_alN (w := (.ref a1728)) X1781 hx (hb hby d16_27) (by rw [← hL1768]; rfl) rfl ?_
  refine own_dlN (w := (4626322717216342016 : UInt64)) X1781 hx (hb hby d16_28) (by rw [← hL1768]; rfl) ?_
  have F1783 := (((H7.other W1773 (Or.inr (own_sne (own_f23 hw) (own_f21 hw) (by decide)))).other W1777 (Or.inr (own_sne (own_f23 hw) (own_f20 hw) (by decide)))).other W1781 (Or.inr (own_sne (own_f23 hw) (own_f22 hw) (by decide))))
  have F1784 := (F1780.wr W1781)
  refine own_putf X1781 hx hZ hown (own_w hw 139 rfl) e1781 N1781 H11 F1783 F1784 (Or.inl (own_w hw 140 rfl)) (own_w hw 120 rfl) (ty := .double) (by decide) rfl rfl (hb hby d16_29) ?_
  intro T1785 h1785 lo1785 X1785 e1785 N1785 W1785
  have F1786 := F1783.same W1785
  show own_Go _ _ _ _ _ _ _ T1785 (mkF m 32 L1768 [])
  refine own_alN (w := (.ref a1728)) X1785 hx (hb hby d16_32) (by rw [← hL1768]; rfl) rfl ?_
  refine own_dl (w := f1173) X1785 hx (hb hby d16_33) (by rw [← hL1768]; rfl) ?_
  have F1787 := ((((H8.other W1773 (Or.inr (own_sne (own_f24 hw) (own_f21 hw) (by decide)))).other W1777 (Or.inr (own_sne (own_f24 hw) (own_f20 hw) (by decide)))).other W1781 (Or.inr (own_sne (own_f24 hw) (own_f22 hw) (by decide)))).other W1785 (Or.inr (own_sne (own_f24 hw) (own_f23 hw) (by decide))))
  have F1788 := (F1784.wr W1785)
  refine own_putf X1785 hx hZ hown (own_w hw 141 rfl) e1785 N1785 H11 F1787 F1788 (Or.inl (own_w hw 142 rfl)) (own_w hw 120 rfl) (ty := .double) (by decide) rfl rfl (hb hby d16_35) ?_
  intro T1789 h1789 lo1789 X1789 e1789 N1789 W1789
  have F1790 := F1787.same W1789
  show own_Go _ _ _ _ _ _ _ T1789 (mkF m 38 L1768 [])
  have F1791 := ((((F1774.other W1777 (Or.inr (own_sne (own_f21 hw) (own_f20 hw) (by decide)))).other W1781 (Or.inr (own_sne (own_f21 hw) (own_f22 hw) (by decide)))).other W1785 (Or.inr (own_sne (own_f21 hw) (own_f23 hw) (by decide)))).other W1789 (Or.inr (own_sne (own_f21 hw) (own_f24 hw) (by decide))))
  have F1792 := (((F1778.other W1781 (Or.inr (own_sne (own_f20 hw) (own_f22 hw) (by decide)))).other W1785 (Or.inr (own_sne (own_f20 hw) (own_f23 hw) (by decide)))).other W1789 (Or.inr (own_sne (own_f20 hw) (own_f24 hw) (by decide))))
  have F1793 := ((F1782.other W1785 (Or.inr (own_sne (own_f22 hw) (own_f23 hw) (by decide)))).other W1789 (Or.inr (own_sne (own_f22 hw) (own_f24 hw) (by decide))))
  have F1794 := (F1786.other W1789 (Or.inr (own_sne (own_f23 hw) (own_f24 hw) (by decide))))
  have F1795 := (((((H9.other W1773 (Or.inr (own_sne (own_f25 hw) (own_f21 hw) (by decide)))).other W1777 (Or.inr (own_sne (own_f25 hw) (own_f20 hw) (by decide)))).other W1781 (Or.inr (own_sne (own_f25 hw) (own_f22 hw) (by decide)))).other W1785 (Or.inr (own_sne (own_f25 hw) (own_f23 hw) (by decide)))).other W1789 (Or.inr (own_sne (own_f25 hw) (own_f24 hw) (by decide))))
  exact own_ret0 X1789 hx hlk hret (hb hby d16_38) e1789 ⟨rfl, N1789, ((((((Keep.refl _ _).wr W1773 (Or.inl (by simp))).wr W1777 (Or.inl (by simp))).wr W1781 (Or.inl (by simp))).wr W1785 (Or.inl (by simp))).wr W1789 (Or.inl (by simp))), F1791, F1792, F1793, F1794, F1790, F1795⟩ (by decide) (by decide)
theorem own_pd9 : parseMethodDescriptor "(DDD)V" = some ⟨[.double, .double, .double], none⟩ := by decide +kernel
def own_s36_Q (Z : State) (a1728 : Addr) (f1552 : UInt64) (f1173 : UInt64) (v6 : Int32) (v4 : Int32) (v2 : Int32) (v8 : Int32) (v10 : Int32) (h0 : Heap) (n0 : Nat) (v_ : Option Value) (h_ : Heap) (L_ : List Loc) : Prop := (fun v h L => ∃ (f1819 : UInt64), v = none ∧ Fr n0 L ∧ Keep h0 h [a1728] ∧ Fld Z h a1728 own_k2 "low" "D" (.double (4621819117588971520 : UInt64)) ∧ Fld Z h a1728 own_k2 "high" "D" (.double (4629137466983448576 : UInt64)) ∧ Fld Z h a1728 own_k2 "gapLow" "D" (.double (4626322717216342016 : UInt64)) ∧ Fld Z h a1728 own_k2 "gapHigh" "D" (.double (4626322717216342016 : UInt64)) ∧ Fld Z h a1728 own_k2 "count" "D" (.double f1819) ∧ Fld Z h a1728 own_k2 "below" "D" (.double (0 : UInt64)) ∧ FP.Core.DInt ((v4.toInt - v2.toInt) + (v6.toInt - v4.toInt)) f1819) v_ h_ L_
set_option maxRecDepth 65536 in
set_option maxHeartbeats 40000000 in
theorem own_s36 (l : Launch) (Z : State) (a0 : Array Value) (hw : ∀ d ∈ tables_1, d.before a0 Z = true) (wds : List Jvm.Cond) (a1728 : Addr) (f1552 : UInt64) (f1173 : UInt64) (v6 : Int32) (v4 : Int32) (v2 : Int32) (v8 : Int32) (v10 : Int32) (h0 : Heap) (n0 : Nat) (Z0 : n0 ≤ h0.size) (H3 : Exa Z h0 a1728 own_k2) (H4 : Fld Z h0 a1728 own_k2 "low" "D" (.double (4621819117588971520 : UInt64))) (H5 : Fld Z h0 a1728 own_k2 "high" "D" (.double (4626322717216342016 : UInt64))) (H6 : Fld Z h0 a1728 own_k2 "gapLow" "D" (.double (4626322717216342016 : UInt64))) (H7 : Fld Z h0 a1728 own_k2 "gapHigh" "D" (.double (4626322717216342016 : UInt64))) (H8 : Fld Z h0 a1728 own_k2 "count" "D" (.double f1173)) (H9 : Fld Z h0 a1728 own_k2 "below" "D" (.double (0 : UInt64))) (H11 : n0 ≤ a1728) (H12 : FP.Core.DInt (v6.toInt - v4.toInt) f1552) (H13 : FP.Core.DInt (v4.toInt - v2.toInt) f1173) (H14 : 1 ≤ v2.toInt ∧ v2.toInt ≤ v4.toInt ∧ v4.toInt < v6.toInt ∧ v6.toInt < v8.toInt ∧ v8.toInt ≤ 8388608 ∧ 1 ≤ v10.toInt ∧ v10.toInt ≤ 8388608) :
    MetFree l (⟨own_k2, "take", "(DDD)V"⟩ : MethodName) (head1 (Jvm.Cond.code (⟨own_k2, "take", "(DDD)V"⟩ : MethodName) prog_18_method_2_code 7 none :: wds) ({ frames := 1, cells := 0, slots := 0, locals := 16 } : Room)) (fun ar_ U_ => ar_ = #[(.ref a1728), (.double (4626322717216342016 : UInt64)), (.double (4629137466983448576 : UInt64)), (.double f1552)] ∧ Z.Warmed39 U_.vm ∧ U_.heap = h0) (fun _ _ _ _ _ => True) (fun _ U_ o_ V_ => ∃ v_ L_, o_ = .returned v_ ∧ own_s36_Q Z a1728 f1552 f1173 v6 v4 v2 v8 v10 h0 n0 v_ V_.heap L_ ∧ FrameEnd U_ o_ V_ L_ ({ frames := 1, cells := 0, slots := 0, locals := 16 } : Room).cells ({ frames := 1, cells := 0, slots := 0, locals := 16 } : Room).slots) := by
  refine own_met (y := ⟨own_k2, "take", "(DDD)V"⟩) (Q := own_s36_Q Z a1728 f1552 f1173 v6 v4 v2 v8 v10 h0 n0) own_pn4 ?_
  intro p e s m below meth c s₁ hx hby hml hZ hown hnm hret hlk X0 e0
  have N0 := Fr.nil n0
  refine own_cast (g' := (mkF m 0 #[.val (.ref a1728), .val (.double (4626322717216342016 : UInt64)), .second, .val (.double (4629137466983448576 : UInt64)), .second, .val (.double f1552), .second] [])) (by first | (simp [entryFrame, mkF, argsToLocals, Value.category]; done) | rfl) ?_
  generalize hL1807 : (#[.val (.ref a1728), .val (.double (4626322717216342016 : UInt64)), .second, .val (.double (4629137466983448576 : UInt64)), .second, .val (.double f1552), .second] : Array Slot) = L1807
  refine own_alN (w := (.ref a1728)) X0 hx (hb hby d16_0) (by rw [← hL1807]; rfl) rfl ?_
  refine own_getf X0 hx hZ hown (own_w hw 127 rfl) e0 H4 (hb hby d16_1) ?_
  intro T1810 X1810 e1810
  show own_Go _ _ _ _ _ _ _ T1810 (mkF m 4 L1807 [(.double (4621819117588971520 : UInt64))])
  refine own_alN (w := (.ref a1728)) X1810 hx (hb hby d16_4) (by rw [← hL1807]; rfl) rfl ?_
  refine own_getf X1810 hx hZ hown (own_w hw 130 rfl) e1810 H5 (hb hby d16_5) ?_
  intro T1811 X1811 e1811
  show own_Go _ _ _ _ _ _ _ T1811 (mkF m 8 L1807 [(.double (4626322717216342016 : UInt64)), (.double (4621819117588971520 : UInt64))])
  refine own_pre (g' := (mkF m 9 L1807 [(.int (-1 : Int32))])) (fun t k => XS.dcmpS X1811.here hx rfl (v := (-1 : Int32)) (hb hby d16_8) rfl (by decide +kernel) k) ?_
  refine own_pre (g' := (mkF m 39 L1807 [])) (fun t k => XS.ifYes X1811.here hx rfl (pc0 := 9) (pc' := 39) rfl (hb hby d16_9) rfl (by decide) (by decide) (by decide) k) ?_
  refine own_dlN (w := (4626322717216342016 : UInt64)) X1811 hx (hb hby d16_39) (by rw [← hL1807]; rfl) ?_
  refine own_alN (w := (.ref a1728)) X1811 hx (hb hby d16_40) (by rw [← hL1807]; rfl) rfl ?_
  refine own_getf X1811 hx hZ hown (own_w hw 130 rfl) e1811 H5 (hb hby d16_41) ?_
  intro T1812 X1812 e1812
  show own_Go _ _ _ _ _ _ _ T1812 (mkF m 44 L1807 [(.double (4626322717216342016 : UInt64)), (.double (4626322717216342016 : UInt64))])
  refine own_pre (g' := (mkF m 45 L1807 [(.int (0 : Int32))])) (fun t k => XS.dcmpS X1812.here hx rfl (v := (0 : Int32)) (hb hby d16_44) rfl (by decide +kernel) k) ?_
  refine own_pre (g' := (mkF m 100 L1807 [])) (fun t k => XS.ifYes X1812.here hx rfl (pc0 := 45) (pc' := 100) rfl (hb hby d16_45) rfl (by decide) (by decide) (by decide) k) ?_
  refine own_alN (w := (.ref a1728)) X1812 hx (hb hby d16_100) (by rw [← hL1807]; rfl) rfl ?_
  refine own_alN (w := (.ref a1728)) X1812 hx (hb hby d16_101) (by rw [← hL1807]; rfl) rfl ?_
  refine own_getf X1812 hx hZ hown (own_w hw 130 rfl) e1812 H5 (hb hby d16_102) ?_
  intro T1813 X1813 e1813
  show own_Go _ _ _ _ _ _ _ T1813 (mkF m 105 L1807 [(.double (4626322717216342016 : UInt64)), (.ref a1728)])
  refine own_dlN (w := (4629137466983448576 : UInt64)) X1813 hx (hb hby d16_105) (by rw [← hL1807]; rfl) ?_
  refine own_maxd X1813 hx hZ hown (own_w hw 143 rfl) (own_w hw 144 rfl) (own_w hw 145 rfl) (own_w hw 146 rfl) e1813 (hb hby d16_106) (by rw [hml, ← hL1807]; rfl) (by unfold Jvm.Free.Fl.NoNaN64; decide) (by unfold Jvm.Free.Fl.NoNaN64; decide) (r := (4629137466983448576 : UInt64)) (by decide +kernel) (by decide) (W := 1) (Nat.le_of_eq rfl) (by decide) (by decide) (by decide) ?_
  intro T1814 X1814 e1814
  show own_Go _ _ _ _ _ _ _ T1814 (mkF m 109 L1807 [(.double (4629137466983448576 : UInt64)), (.ref a1728)])
  refine own_putf X1814 hx hZ hown (own_w hw 130 rfl) e1814 N0 H11 H5 H3 (Or.inl (own_w hw 131 rfl)) (own_w hw 120 rfl) (ty := .double) (by decide) rfl rfl (hb hby d16_109) ?_
  intro T1815 h1815 lo1815 X1815 e1815 N1815 W1815
  have F1816 := H5.same W1815
  show own_Go _ _ _ _ _ _ _ T1815 (mkF m 112 L1807 [])
  refine own_alN (w := (.ref a1728)) X1815 hx (hb hby d16_112) (by rw [← hL1807]; rfl) rfl ?_
  refine own_pre (g' := (mkF m 114 L1807 [(.ref a1728), (.ref a1728)])) (fun t k => XS.dup X1815.here hx rfl (hb hby d16_113) rfl rfl k) ?_
  have F1817 := (H8.other W1815 (Or.inr (own_sne (own_f24 hw) (own_f20 hw) (by decide))))
  refine own_getf X1815 hx hZ hown (own_w hw 141 rfl) e1815 F1817 (hb hby d16_114) ?_
  intro T1818 X1818 e1818
  show own_Go _ _ _ _ _ _ _ T1818 (mkF m 117 L1807 [(.double f1173), (.ref a1728)])
  refine own_dl (w := f1552) X1818 hx (hb hby d16_117) (by rw [← hL1807]; rfl) ?_
  obtain ⟨f1819, hf1819⟩ : ∃ z, FP.dadd f1173 f1552 = z := ⟨_, rfl⟩
  have Df1819 : Jvm.FP.Core.DInt ((v4.toInt - v2.toInt) + (v6.toInt - v4.toInt)) f1819 := hf1819 ▸ Jvm.FP.Core.dadd_int H13 H12 (by have := H14; have := rng32 v4; have := rng32 v2; have := rng32 v6; omega)
  refine own_pre (g' := (mkF m 120 L1807 [(.double f1819), (.ref a1728)])) (fun t k => XS.daddS X1818.here hx rfl (hb hby d16_119) rfl (by rw [hf1819]; exact own_DInt_nn Df1819) hf1819 k) ?_
  have F1820 := (H3.wr W1815)
  refine own_putf X1818 hx hZ hown (own_w hw 141 rfl) e1818 N1815 H11 F1817 F1820 (Or.inl (own_w hw 142 rfl)) (own_w hw 120 rfl) (ty := .double) (by decide) rfl rfl (hb hby d16_120) ?_
  intro T1821 h1821 lo1821 X1821 e1821 N1821 W1821
  have F1822 := F1817.same W1821
  show own_Go _ _ _ _ _ _ _ T1821 (mkF m 123 L1807 [])
  have F1823 := ((H4.other W1815 (Or.inr (own_sne (own_f21 hw) (own_f20 hw) (by decide)))).other W1821 (Or.inr (own_sne (own_f21 hw) (own_f24 hw) (by decide))))
  have F1824 := (F1816.other W1821 (Or.inr (own_sne (own_f20 hw) (own_f24 hw) (by decide))))
  have F1825 := ((H6.other W1815 (Or.inr (own_sne (own_f22 hw) (own_f20 hw) (by decide)))).other W1821 (Or.inr (own_sne (own_f22 hw) (own_f24 hw) (by decide))))
  have F1826 := ((H7.other W1815 (Or.inr (own_sne (own_f23 hw) (own_f20 hw) (by decide)))).other W1821 (Or.inr (own_sne (own_f23 hw) (own_f24 hw) (by decide))))
  have F1827 := ((H9.other W1815 (Or.inr (own_sne (own_f25 hw) (own_f20 hw) (by decide)))).other W1821 (Or.inr (own_sne (own_f25 hw) (own_f24 hw) (by decide))))
  exact own_ret0 X1821 hx hlk hret (hb hby d16_123) e1821 ⟨f1819, rfl, N1821, (((Keep.refl _ _).wr W1815 (Or.inl (by simp))).wr W1821 (Or.inl (by simp))), F1823, F1824, F1825, F1826, F1822, F1827, Df1819⟩ (by decide) (by decide)
theorem d18_0 : decode prog_18_method_3_code 0 = .ok (.aload_n 0, 1) := by decide +kernel
theorem d18_1 : decode prog_18_method_3_code 1 = .ok (.getfield 11, 3) := by decide +kernel
theorem d18_4 : decode prog_18_method_3_code 4 = .ok (.aload_n 0, 1) := by decide +kernel
theorem d18_5 : decode prog_18_method_3_code 5 = .ok (.getfield 19, 3) := by decide +kernel
theorem d18_8 : decode prog_18_method_3_code 8 = .ok (.dcmp .l, 1) := by decide +kernel
theorem d18_9 : decode prog_18_method_3_code 9 = .ok (.ifCond .le 7, 3) := by decide +kernel
theorem d18_16 : decode prog_18_method_3_code 16 = .ok (.aload_n 0, 1) := by decide +kernel
theorem d18_17 : decode prog_18_method_3_code 17 = .ok (.getfield 22, 3) := by decide +kernel
theorem d18_20 : decode prog_18_method_3_code 20 = .ok (.aload_n 0, 1) := by decide +kernel
theorem d18_21 : decode prog_18_method_3_code 21 = .ok (.getfield 25, 3) := by decide +kernel
theorem d18_24 : decode prog_18_method_3_code 24 = .ok (.dcmp .g, 1) := by decide +kernel
theorem d18_25 : decode prog_18_method_3_code 25 = .ok (.ifCond .ge 37, 3) := by decide +kernel
theorem d18_62 : decode prog_18_method_3_code 62 = .ok (.aload_n 0, 1) := by decide +kernel
theorem d18_63 : decode prog_18_method_3_code 63 = .ok (.getfield 11, 3) := by decide +kernel
theorem d18_66 : decode prog_18_method_3_code 66 = .ok (.aload_n 0, 1) := by decide +kernel
theorem d18_67 : decode prog_18_method_3_code 67 = .ok (.getfield 19, 3) := by decide +kernel
theorem d18_70 : decode prog_18_method_3_code 70 = .ok (.aload_n 0, 1) := by decide +kernel
theorem d18_71 : decode prog_18_method_3_code 71 = .ok (.getfield 28, 3) := by decide +kernel
theorem d18_74 : decode prog_18_method_3_code 74 = .ok (.invokestatic 53, 3) := by decide +kernel
theorem d18_77 : decode prog_18_method_3_code 77 = .ok (.areturn, 1) := by decide +kernel
def own_s40_Q (Z : State) (a1850 : Addr) (h0 : Heap) (n0 : Nat) (v_ : Option Value) (h_ : Heap) (L_ : List Loc) : Prop := (fun v h L => v = none ∧ Fr n0 L ∧ h = h0) v_ h_ L_
set_option maxRecDepth 65536 in
set_option maxHeartbeats 40000000 in
theorem own_s40 (l : Launch) (Z : State) (a0 : Array Value) (hw : ∀ d ∈ tables_1, d.before a0 Z = true) (wds : List Jvm.Cond) (a1850 : Addr) (h0 : Heap) (n0 : Nat) (Z0 : n0 ≤ h0.size)  :
    MetFree l (⟨"java/lang/Record", "<init>", "()V"⟩ : MethodName) (head1 (Jvm.Cond.code (⟨"java/lang/Record", "<init>", "()V"⟩ : MethodName) jdk_30_method_1_code 1 none :: wds) ({ frames := 1, cells := 0, slots := 0, locals := 12 } : Room)) (fun ar_ U_ => ar_ = #[(.ref a1850)] ∧ Z.Warmed39 U_.vm ∧ U_.heap = h0) (fun _ _ _ _ _ => True) (fun _ U_ o_ V_ => ∃ v_ L_, o_ = .returned v_ ∧ own_s40_Q Z a1850 h0 n0 v_ V_.heap L_ ∧ FrameEnd U_ o_ V_ L_ ({ frames := 1, cells := 0, slots := 0, locals := 12 } : Room).cells ({ frames := 1, cells := 0, slots := 0, locals := 12 } : Room).slots) := by
  refine own_met (y := ⟨"java/lang/Record", "<init>", "()V"⟩) (Q := own_s40_Q Z a1850 h0 n0) own_pn3 ?_
  intro p e s m below meth c s₁ hx hby hml hZ hown hnm hret hlk X0 e0
  have N0 := Fr.nil n0
  refine own_cast (g' := (mkF m 0 #[.val (.ref a1850)] [])) (by first | (simp [entryFrame, mkF, argsToLocals, Value.category]; done) | rfl) ?_
  refine own_alN (w := (.ref a1850)) X0 hx (hb hby d6_0) rfl rfl ?_
  refine own_init0 X0 hx hZ hown (own_w hw 64 rfl) (own_w hw 11 rfl) (own_w hw 12 rfl) e0 (hb hby d6_1) (by rw [hml]; rfl) (by decide) (W := 0) (Nat.le_of_eq rfl) (by decide) ?_
  intro T1863 X1863 e1863
  show own_Go _ _ _ _ _ _ _ T1863 (mkF m 4 #[.val (.ref a1850)] [])
  exact own_ret0 X1863 hx hlk hret (hb hby d6_4) e1863 ⟨rfl, N0, rfl⟩ (by decide) (by decide)
def own_s39_Q (Z : State) (a1850 : Addr) (f1830 : UInt64) (h0 : Heap) (n0 : Nat) (v_ : Option Value) (h_ : Heap) (L_ : List Loc) : Prop := (fun v h L => v = none ∧ Fr n0 L ∧ Keep h0 h [a1850] ∧ Fld Z h a1850 own_k1 "low" "D" (.double (4621819117588971520 : UInt64)) ∧ Fld Z h a1850 own_k1 "gapLow" "D" (.double (4629137466983448576 : UInt64)) ∧ Fld Z h a1850 own_k1 "gapHigh" "D" (.double (4629137466983448576 : UInt64)) ∧ Fld Z h a1850 own_k1 "high" "D" (.double (4629137466983448576 : UInt64)) ∧ Fld Z h a1850 own_k1 "below" "D" (.double f1830) ∧ Fld Z h a1850 own_k1 "count" "D" (.double f1830)) v_ h_ L_
set_option maxRecDepth 65536 in
set_option maxHeartbeats 40000000 in
theorem own_s39 (l : Launch) (Z : State) (a0 : Array Value) (hw : ∀ d ∈ tables_1, d.before a0 Z = true) (wds : List Jvm.Cond) (a1850 : Addr) (f1830 : UInt64) (h0 : Heap) (n0 : Nat) (Z0 : n0 ≤ h0.size) (H3 : Exa Z h0 a1850 own_k1) (H4 : Fld Z h0 a1850 own_k1 "low" "D" (.double (0 : UInt64))) (H5 : Fld Z h0 a1850 own_k1 "gapLow" "D" (.double (0 : UInt64))) (H6 : Fld Z h0 a1850 own_k1 "gapHigh" "D" (.double (0 : UInt64))) (H7 : Fld Z h0 a1850 own_k1 "high" "D" (.double (0 : UInt64))) (H8 : Fld Z h0 a1850 own_k1 "below" "D" (.double (0 : UInt64))) (H9 : Fld Z h0 a1850 own_k1 "count" "D" (.double (0 : UInt64))) (H11 : n0 ≤ a1850) :
    MetFree l (⟨own_k1, "<init>", "(DDDDDD)V"⟩ : MethodName) (head1 (Jvm.Cond.code (⟨own_k1, "<init>", "(DDDDDD)V"⟩ : MethodName) prog_17_method_1_code 13 none :: wds) ({ frames := 2, cells := 0, slots := 0, locals := 24 } : Room)) (fun ar_ U_ => ar_ = #[(.ref a1850), (.double (4621819117588971520 : UInt64)), (.double (4629137466983448576 : UInt64)), (.double (4629137466983448576 : UInt64)), (.double (4629137466983448576 : UInt64)), (.double f1830), (.double f1830)] ∧ Z.Warmed39 U_.vm ∧ U_.heap = h0) (fun _ _ _ _ _ => True) (fun _ U_ o_ V_ => ∃ v_ L_, o_ = .returned v_ ∧ own_s39_Q Z a1850 f1830 h0 n0 v_ V_.heap L_ ∧ FrameEnd U_ o_ V_ L_ ({ frames := 2, cells := 0, slots := 0, locals := 24 } : Room).cells ({ frames := 2, cells := 0, slots := 0, locals := 24 } : Room).slots) := by
  refine own_met (y := ⟨own_k1, "<init>", "(DDDDDD)V"⟩) (Q := own_s39_Q Z a1850 f1830 h0 n0) own_pn2 ?_
  intro p e s m below meth c s₁ hx hby hml hZ hown hnm hret hlk X0 e0
  have N0 := Fr.nil n0
  refine own_cast (g' := (mkF m 0 #[.val (.ref a1850), .val (.double (4621819117588971520 : UInt64)), .second, .val (.double (4629137466983448576 : UInt64)), .second, .val (.double (4629137466983448576 : UInt64)), .second, .val (.double (4629137466983448576 : UInt64)), .second, .val (.double f1830), .second, .val (.double f1830), .second] [])) (by first | (simp [entryFrame, mkF, argsToLocals, Value.category]; done) | rfl) ?_
  generalize hL1860 : (#[.val (.ref a1850), .val (.double (4621819117588971520 : UInt64)), .second, .val (.double (4629137466983448576 : UInt64)), .second, .val (.double (4629137466983448576 : UInt64)), .second, .val (.double (4629137466983448576 : UInt64)), .second, .val (.double f1830), .second, .val (.double f1830), .second] : Array Slot) = L1860
  refine own_alN (w := (.ref a1850)) X0 hx (hb hby d5_0) (by rw [← hL1860]; rfl) rfl ?_
  refine own_init (a := a1850) (argsL := []) (rest := []) X0 hx hZ hown (own_s40 l Z a0 hw [] a1850 h0 n0 Z0 ) rfl (own_w hw 59 rfl) (own_w hw 60 rfl) (own_w hw 63 rfl) (own_w hw 62 rfl) (by decide) e0 (hb hby d5_1) (by rw [hml, ← hL1860]; rfl) rfl (lenOf own_pd0 rfl) (by decide) (W := 0) (Nat.le_of_eq rfl) (by decide) (by decide) (by decide) ?_
  intro v1864 T1864 lo1864 X1864 Q1864
  obtain ⟨h1864, e1864⟩ : ∃ h, T1864.heap = h := ⟨_, rfl⟩
  rw [e1864] at Q1864
  obtain ⟨rfl, N1864, K1864⟩ := Q1864
  have N1864' := Fr.app N0 N1864
  have e1864' : T1864.heap = h0 := e1864.trans K1864
  show own_Go _ _ _ _ _ _ _ T1864 (mkF m 4 L1860 [])
  refine own_alN (w := (.ref a1850)) X1864 hx (hb hby d5_4) (by rw [← hL1860]; rfl) rfl ?_
  refine own_dlN (w := (4621819117588971520 : UInt64)) X1864 hx (hb hby d5_5) (by rw [← hL1860]; rfl) ?_
  refine own_putf X1864 hx hZ hown (own_w hw 65 rfl) e1864' N1864' H11 H4 H3 (Or.inr ⟨(own_w hw 66 rfl), rfl, hnm⟩) (own_w hw 55 rfl) (ty := .double) (by decide) rfl rfl (hb hby d5_6) ?_
  intro T1865 h1865 lo1865 X1865 e1865 N1865 W1865
  have F1866 := H4.same W1865
  show own_Go _ _ _ _ _ _ _ T1865 (mkF m 9 L1860 [])
  refine own_alN (w := (.ref a1850)) X1865 hx (hb hby d5_9) (by rw [← hL1860]; rfl) rfl ?_
  refine own_dlN (w := (4629137466983448576 : UInt64)) X1865 hx (hb hby d5_10) (by rw [← hL1860]; rfl) ?_
  have F1867 := (H5.other W1865 (Or.inr (own_sne (own_f14 hw) (own_f15 hw) (by decide))))
  have F1868 := (H3.wr W1865)
  refine own_putf X1865 hx hZ hown (own_w hw 67 rfl) e1865 N1865 H11 F1867 F1868 (Or.inr ⟨(own_w hw 68 rfl), rfl, hnm⟩) (own_w hw 55 rfl) (ty := .double) (by decide) rfl rfl (hb hby d5_11) ?_
  intro T1869 h1869 lo1869 X1869 e1869 N1869 W1869
  have F1870 := F1867.same W1869
  show own_Go _ _ _ _ _ _ _ T1869 (mkF m 14 L1860 [])
  refine own_alN (w := (.ref a1850)) X1869 hx (hb hby d5_14) (by rw [← hL1860]; rfl) rfl ?_
  refine own_dl (w := (4629137466983448576 : UInt64)) X1869 hx (hb hby d5_15) (by rw [← hL1860]; rfl) ?_
  have F1871 := ((H6.other W1865 (Or.inr (own_sne (own_f16 hw) (own_f15 hw) (by decide)))).other W1869 (Or.inr (own_sne (own_f16 hw) (own_f14 hw) (by decide))))
  have F1872 := (F1868.wr W1869)
  refine own_putf X1869 hx hZ hown (own_w hw 69 rfl) e1869 N1869 H11 F1871 F1872 (Or.inr ⟨(own_w hw 70 rfl), rfl, hnm⟩) (own_w hw 55 rfl) (ty := .double) (by decide) rfl rfl (hb hby d5_17) ?_
  intro T1873 h1873 lo1873 X1873 e1873 N1873 W1873
  have F1874 := F1871.same W1873
  show own_Go _ _ _ _ _ _ _ T1873 (mkF m 20 L1860 [])
  refine own_alN (w := (.ref a1850)) X1873 hx (hb hby d5_20) (by rw [← hL1860]; rfl) rfl ?_
  refine own_dl (w := (4629137466983448576 : UInt64)) X1873 hx (hb hby d5_21) (by rw [← hL1860]; rfl) ?_
  have F1875 := (((H7.other W1865 (Or.inr (own_sne (own_f17 hw) (own_f15 hw) (by decide)))).other W1869 (Or.inr (own_sne (own_f17 hw) (own_f14 hw) (by decide)))).other W1873 (Or.inr (own_sne (own_f17 hw) (own_f16 hw) (by decide))))
  have F1876 := (F1872.wr W1873)
  refine own_putf X1873 hx hZ hown (own_w hw 71 rfl) e1873 N1873 H11 F1875 F1876 (Or.inr ⟨(own_w hw 72 rfl), rfl, hnm⟩) (own_w hw 55 rfl) (ty := .double) (by decide) rfl rfl (hb hby d5_23) ?_
  intro T1877 h1877 lo1877 X1877 e1877 N1877 W1877
  have F1878 := F1875.same W1877
  show own_Go _ _ _ _ _ _ _ T1877 (mkF m 26 L1860 [])
  refine own_alN (w := (.ref a1850)) X1877 hx (hb hby d5_26) (by rw [← hL1860]; rfl) rfl ?_
  refine own_dl (w := f1830) X1877 hx (hb hby d5_27) (by rw [← hL1860]; rfl) ?_
  have F1879 := ((((H8.other W1865 (Or.inr (own_sne (own_f18 hw) (own_f15 hw) (by decide)))).other W1869 (Or.inr (own_sne (own_f18 hw) (own_f14 hw) (by decide)))).other W1873 (Or.inr (own_sne (own_f18 hw) (own_f16 hw) (by decide)))).other W1877 (Or.inr (own_sne (own_f18 hw) (own_f17 hw) (by decide))))
  have F1880 := (F1876.wr W1877)
  refine own_putf X1877 hx hZ hown (own_w hw 73 rfl) e1877 N1877 H11 F1879 F1880 (Or.inr ⟨(own_w hw 74 rfl), rfl, hnm⟩) (own_w hw 55 rfl) (ty := .double) (by decide) rfl rfl (hb hby d5_29) ?_
  intro T1881 h1881 lo1881 X1881 e1881 N1881 W1881
  have F1882 := F1879.same W1881
  show own_Go _ _ _ _ _ _ _ T1881 (mkF m 32 L1860 [])
  refine own_alN (w := (.ref a1850)) X1881 hx (hb hby d5_32) (by rw [← hL1860]; rfl) rfl ?_
  refine own_dl (w := f1830) X1881 hx (hb hby d5_33) (by rw [← hL1860]; rfl) ?_
  have F1883 := (((((H9.other W1865 (Or.inr (own_sne (own_f19 hw) (own_f15 hw) (by decide)))).other W1869 (Or.inr (own_sne (own_f19 hw) (own_f14 hw) (by decide)))).other W1873 (Or.inr (own_sne (own_f19 hw) (own_f16 hw) (by decide)))).other W1877 (Or.inr (own_sne (own_f19 hw) (own_f17 hw) (by decide)))).other W1881 (Or.inr (own_sne (own_f19 hw) (own_f18 hw) (by decide))))
  have F1884 := (F1880.wr W1881)
  refine own_putf X1881 hx hZ hown (own_w hw 75 rfl) e1881 N1881 H11 F1883 F1884 (Or.inr ⟨(own_w hw 76 rfl), rfl, hnm⟩) (own_w hw 55 rfl) (ty := .double) (by decide) rfl rfl (hb hby d5_35) ?_
  intro T1885 h1885 lo1885 X1885 e1885 N1885 W1885
  have F1886 := F1883.same W1885
  show own_Go _ _ _ _ _ _ _ T1885 (mkF m 38 L1860 [])
  have F1887 := (((((F1866.other W1869 (Or.inr (own_sne (own_f15 hw) (own_f14 hw) (by decide)))).other W1873 (Or.inr (own_sne (own_f15 hw) (own_f16 hw) (by decide)))).other W1877 (Or.inr (own_sne (own_f15 hw) (own_f17 hw) (by decide)))).other W1881 (Or.inr (own_sne (own_f15 hw) (own_f18 hw) (by decide)))).other W1885 (Or.inr (own_sne (own_f15 hw) (own_f19 hw) (by decide))))
  have F1888 := ((((F1870.other W1873 (Or.inr (own_sne (own_f14 hw) (own_f16 hw) (by decide)))).other W1877 (Or.inr (own_sne (own_f14 hw) (own_f17 hw) (by decide)))).other W1881 (Or.inr (own_sne (own_f14 hw) (own_f18 hw) (by decide)))).other W1885 (Or.inr (own_sne (own_f14 hw) (own_f19 hw) (by decide))))
  have F1889 := (((F1874.other W1877 (Or.inr (own_sne (own_f16 hw) (own_f17 hw) (by decide)))).other W1881 (Or.inr (own_sne (own_f16 hw) (own_f18 hw) (by decide)))).other W1885 (Or.inr (own_sne (own_f16 hw) (own_f19 hw) (by decide))))
  have F1890 := ((F1878.other W1881 (Or.inr (own_sne (own_f17 hw) (own_f18 hw) (by decide)))).other W1885 (Or.inr (own_sne (own_f17 hw) (own_f19 hw) (by decide))))
  have F1891 := (F1882.other W1885 (Or.inr (own_sne (own_f18 hw) (own_f19 hw) (by decide))))
  exact own_ret0 X1885 hx hlk hret (hb hby d5_38) e1885 ⟨rfl, N1885, (((((((Keep.refl _ _).wr W1865 (Or.inl (by simp))).wr W1869 (Or.inl (by simp))).wr W1873 (Or.inl (by simp))).wr W1877 (Or.inl (by simp))).wr W1881 (Or.inl (by simp))).wr W1885 (Or.inl (by simp))), F1887, F1888, F1889, F1890, F1891, F1886⟩ (by decide) (by decide)
def own_s38_Q (Z : State) (f1830 : UInt64) (h0 : Heap) (n0 : Nat) (v_ : Option Value) (h_ : Heap) (L_ : List Loc) : Prop := (fun v h L => ∃ (a1850 : Addr), v = some (.ref a1850) ∧ Fr n0 L ∧ Keep h0 h [] ∧ h0.size ≤ a1850 ∧ Exa Z h a1850 own_k1 ∧ Fld Z h a1850 own_k1 "low" "D" (.double (4621819117588971520 : UInt64)) ∧ Fld Z h a1850 own_k1 "gapLow" "D" (.double (4629137466983448576 : UInt64)) ∧ Fld Z h a1850 own_k1 "gapHigh" "D" (.double (4629137466983448576 : UInt64)) ∧ Fld Z h a1850 own_k1 "high" "D" (.double (4629137466983448576 : UInt64)) ∧ Fld Z h a1850 own_k1 "below" "D" (.double f1830) ∧ Fld Z h a1850 own_k1 "count" "D" (.double f1830)) v_ h_ L_
set_option maxRecDepth 65536 in
set_option maxHeartbeats 40000000 in
theorem own_s38 (l : Launch) (Z : State) (a0 : Array Value) (hw : ∀ d ∈ tables_1, d.before a0 Z = true) (wds : List Jvm.Cond) (f1830 : UInt64) (h0 : Heap) (n0 : Nat) (Z0 : n0 ≤ h0.size)  :
    MetFree l (⟨own_k1, "of", own_k5⟩ : MethodName) (head1 (Jvm.Cond.code (⟨own_k1, "of", own_k5⟩ : MethodName) prog_17_method_2_code 6 (some (.object own_k1)) :: wds) ({ frames := 3, cells := 1, slots := 6, locals := 49 } : Room)) (fun ar_ U_ => ar_ = #[(.double (4621819117588971520 : UInt64)), (.double (4629137466983448576 : UInt64)), (.double f1830)] ∧ Z.Warmed39 U_.vm ∧ U_.heap = h0) (fun _ _ _ _ _ => True) (fun _ U_ o_ V_ => ∃ v_ L_, o_ = .returned v_ ∧ own_s38_Q Z f1830 h0 n0 v_ V_.heap L_ ∧ FrameEnd U_ o_ V_ L_ ({ frames := 3, cells := 1, slots := 6, locals := 49 } : Room).cells ({ frames := 3, cells := 1, slots := 6, locals := 49 } : Room).slots) := by
  refine own_met (y := ⟨own_k1, "of", own_k5⟩) (Q := own_s38_Q Z f1830 h0 n0) own_pn2 ?_
  intro p e s m below meth c s₁ hx hby hml hZ hown hnm hret hlk X0 e0
  have N0 := Fr.nil n0
  refine own_cast (g' := (mkF m 0 #[.val (.double (4621819117588971520 : UInt64)), .second, .val (.double (4629137466983448576 : UInt64)), .second, .val (.double f1830), .second] [])) (by first | (simp [entryFrame, mkF, argsToLocals, Value.category]; done) | rfl) ?_
  generalize hL1849 : (#[.val (.double (4621819117588971520 : UInt64)), .second, .val (.double (4629137466983448576 : UInt64)), .second, .val (.double f1830), .second] : Array Slot) = L1849
  refine own_newobj X0 hx hZ hown (own_w hw 54 rfl) (own_w hw 55 rfl) (own_w hw 52 rfl) e0 (hb hby d4_0) (by decide) (by decide) ?_
  intro T1850 h1850 a1850 g1850 X1850 e1850 E1850 A1850 D1850
  have ge1852 : h0.size ≤ a1850 := Nat.le_trans (Nat.le_refl _) (Nat.le_of_eq g1850.symm)
  have nw1853 : n0 ≤ a1850 := Nat.le_trans Z0 (Nat.le_of_eq g1850.symm)
  have F1854 : Fld Z h1850 a1850 own_k1 "low" "D" (.double (0 : UInt64)) := D1850 (Or.inr (own_w hw 66 rfl)) (ty := .double) (by decide)
  have F1855 : Fld Z h1850 a1850 own_k1 "gapLow" "D" (.double (0 : UInt64)) := D1850 (Or.inr (own_w hw 68 rfl)) (ty := .double) (by decide)
  have F1856 : Fld Z h1850 a1850 own_k1 "gapHigh" "D" (.double (0 : UInt64)) := D1850 (Or.inr (own_w hw 70 rfl)) (ty := .double) (by decide)
  have F1857 : Fld Z h1850 a1850 own_k1 "high" "D" (.double (0 : UInt64)) := D1850 (Or.inr (own_w hw 72 rfl)) (ty := .double) (by decide)
  have F1858 : Fld Z h1850 a1850 own_k1 "below" "D" (.double (0 : UInt64)) := D1850 (Or.inr (own_w hw 74 rfl)) (ty := .double) (by decide)
  have F1859 : Fld Z h1850 a1850 own_k1 "count" "D" (.double (0 : UInt64)) := D1850 (Or.inr (own_w hw 76 rfl)) (ty := .double) (by decide)
  show own_Go _ _ _ _ _ _ _ T1850 (mkF m 3 L1849 [(.ref a1850)])
  refine own_pre (g' := (mkF m 4 L1849 [(.ref a1850), (.ref a1850)])) (fun t k => XS.dup X1850.here hx rfl (hb hby d4_3) rfl rfl k) ?_
  refine own_dlN (w := (4621819117588971520 : UInt64)) X1850 hx (hb hby d4_4) (by rw [← hL1849]; rfl) ?_
  refine own_dlN (w := (4629137466983448576 : UInt64)) X1850 hx (hb hby d4_5) (by rw [← hL1849]; rfl) ?_
  refine own_dlN (w := (4629137466983448576 : UInt64)) X1850 hx (hb hby d4_6) (by rw [← hL1849]; rfl) ?_
  refine own_dlN (w := (4629137466983448576 : UInt64)) X1850 hx (hb hby d4_7) (by rw [← hL1849]; rfl) ?_
  refine own_dl (w := f1830) X1850 hx (hb hby d4_8) (by rw [← hL1849]; rfl) ?_
  refine own_dl (w := f1830) X1850 hx (hb hby d4_10) (by rw [← hL1849]; rfl) ?_
  have F1892 : n0 ≤ h1850.size := (Nat.le_trans Z0 E1850.1)
  refine own_init (a := a1850) (argsL := [(.double (4621819117588971520 : UInt64)), (.double (4629137466983448576 : UInt64)), (.double (4629137466983448576 : UInt64)), (.double (4629137466983448576 : UInt64)), (.double f1830), (.double f1830)]) (rest := [(.ref a1850)]) X1850 hx hZ hown (own_s39 l Z a0 hw [] a1850 f1830 h1850 n0 F1892 A1850 F1854 F1855 F1856 F1857 F1858 F1859 nw1853) rfl (own_w hw 56 rfl) (own_w hw 57 rfl) (own_w hw 58 rfl) (own_w hw 52 rfl) (by decide) e1850 (hb hby d4_12) (by rw [hml, ← hL1849]; rfl) rfl (lenOf own_pd1 rfl) (by decide) (W := 1) (Nat.le_of_eq rfl) (by decide) (by decide) (by decide) ?_
  intro v1893 T1893 lo1893 X1893 Q1893
  obtain ⟨h1893, e1893⟩ : ∃ h, T1893.heap = h := ⟨_, rfl⟩
  rw [e1893] at Q1893
  obtain ⟨rfl, N1893, K1893, F1894, F1895, F1896, F1897, F1898, F1899⟩ := Q1893
  have N1893' := Fr.app N0 N1893
  show own_Go _ _ _ _ _ _ _ T1893 (mkF m 15 L1849 [(.ref a1850)])
  have F1901 := (A1850.keep K1893)
  exact own_retA X1893 hx hlk hret rfl rfl rfl (hb hby d4_15) e1893 ⟨a1850, rfl, N1893', (((Keep.refl _ _).ext E1850).trans K1893 (allS (Or.inr ge1852) all0)), ge1852, F1901, F1894, F1895, F1896, F1897, F1898, F1899⟩ (by decide) (by decide)
def own_s37_Q (Z : State) (a1728 : Addr) (f1830 : UInt64) (h0 : Heap) (n0 : Nat) (v_ : Option Value) (h_ : Heap) (L_ : List Loc) : Prop := (fun v h L => ∃ (a1903 : Addr), v = some (.ref a1903) ∧ Fr n0 L ∧ Keep h0 h [] ∧ h0.size ≤ a1903 ∧ Exa Z h a1903 own_k1 ∧ Fld Z h a1903 own_k1 "low" "D" (.double (4621819117588971520 : UInt64)) ∧ Fld Z h a1903 own_k1 "gapLow" "D" (.double (4629137466983448576 : UInt64)) ∧ Fld Z h a1903 own_k1 "gapHigh" "D" (.double (4629137466983448576 : UInt64)) ∧ Fld Z h a1903 own_k1 "high" "D" (.double (4629137466983448576 : UInt64)) ∧ Fld Z h a1903 own_k1 "below" "D" (.double f1830) ∧ Fld Z h a1903 own_k1 "count" "D" (.double f1830)) v_ h_ L_
set_option maxRecDepth 65536 in
set_option maxHeartbeats 40000000 in
theorem own_s37 (l : Launch) (Z : State) (a0 : Array Value) (hw : ∀ d ∈ tables_1, d.before a0 Z = true) (wds : List Jvm.Cond) (a1728 : Addr) (f1830 : UInt64) (h0 : Heap) (n0 : Nat) (Z0 : n0 ≤ h0.size) (H4 : Fld Z h0 a1728 own_k2 "low" "D" (.double (4621819117588971520 : UInt64))) (H5 : Fld Z h0 a1728 own_k2 "high" "D" (.double (4629137466983448576 : UInt64))) (H6 : Fld Z h0 a1728 own_k2 "gapLow" "D" (.double (4626322717216342016 : UInt64))) (H7 : Fld Z h0 a1728 own_k2 "gapHigh" "D" (.double (4626322717216342016 : UInt64))) (H8 : Fld Z h0 a1728 own_k2 "count" "D" (.double f1830)) :
    MetFree l (⟨own_k2, "extent", "()Lcom/example/rankline/rankline/Extent;"⟩ : MethodName) (head1 (Jvm.Cond.code (⟨own_k2, "extent", "()Lcom/example/rankline/rankline/Extent;"⟩ : MethodName) prog_18_method_3_code 1 (some (.object own_k1)) :: wds) ({ frames := 4, cells := 1, slots := 6, locals := 66 } : Room)) (fun ar_ U_ => ar_ = #[(.ref a1728)] ∧ Z.Warmed39 U_.vm ∧ U_.heap = h0) (fun _ _ _ _ _ => True) (fun _ U_ o_ V_ => ∃ v_ L_, o_ = .returned v_ ∧ own_s37_Q Z a1728 f1830 h0 n0 v_ V_.heap L_ ∧ FrameEnd U_ o_ V_ L_ ({ frames := 4, cells := 1, slots := 6, locals := 66 } : Room).cells ({ frames := 4, cells := 1, slots := 6, locals := 66 } : Room).slots) := by
  refine own_met (y := ⟨own_k2, "extent", "()Lcom/example/rankline/rankline/Extent;"⟩) (Q := own_s37_Q Z a1728 f1830 h0 n0) own_pn4 ?_
  intro p e s m below meth c s₁ hx hby hml hZ hown hnm hret hlk X0 e0
  have N0 := Fr.nil n0
  refine own_cast (g' := (mkF m 0 #[.val (.ref a1728)] [])) (by first | (simp [entryFrame, mkF, argsToLocals, Value.category]; done) | rfl) ?_
  refine own_alN (w := (.ref a1728)) X0 hx (hb hby d18_0) rfl rfl ?_
  refine own_getf X0 hx hZ hown (own_w hw 127 rfl) e0 H4 (hb hby d18_1) ?_
  intro T1842 X1842 e1842
  show own_Go _ _ _ _ _ _ _ T1842 (mkF m 4 #[.val (.ref a1728)] [(.double (4621819117588971520 : UInt64))])
  refine own_alN (w := (.ref a1728)) X1842 hx (hb hby d18_4) rfl rfl ?_
  refine own_getf X1842 hx hZ hown (own_w hw 130 rfl) e1842 H5 (hb hby d18_5) ?_
  intro T1843 X1843 e1843
  show own_Go _ _ _ _ _ _ _ T1843 (mkF m 8 #[.val (.ref a1728)] [(.double (4629137466983448576 : UInt64)), (.double (4621819117588971520 : UInt64))])
  refine own_pre (g' := (mkF m 9 #[.val (.ref a1728)] [(.int (-1 : Int32))])) (fun t k => XS.dcmpS X1843.here hx rfl (v := (-1 : Int32)) (hb hby d18_8) rfl (by decide +kernel) k) ?_
  refine own_pre (g' := (mkF m 16 #[.val (.ref a1728)] [])) (fun t k => XS.ifYes X1843.here hx rfl (pc0 := 9) (pc' := 16) rfl (hb hby d18_9) rfl (by decide) (by decide) (by decide) k) ?_
  refine own_alN (w := (.ref a1728)) X1843 hx (hb hby d18_16) rfl rfl ?_
  refine own_getf X1843 hx hZ hown (own_w hw 137 rfl) e1843 H6 (hb hby d18_17) ?_
  intro T1844 X1844 e1844
  show own_Go _ _ _ _ _ _ _ T1844 (mkF m 20 #[.val (.ref a1728)] [(.double (4626322717216342016 : UInt64))])
  refine own_alN (w := (.ref a1728)) X1844 hx (hb hby d18_20) rfl rfl ?_
  refine own_getf X1844 hx hZ hown (own_w hw 139 rfl) e1844 H7 (hb hby d18_21) ?_
  intro T1845 X1845 e1845
  show own_Go _ _ _ _ _ _ _ T1845 (mkF m 24 #[.val (.ref a1728)] [(.double (4626322717216342016 : UInt64)), (.double (4626322717216342016 : UInt64))])
  refine own_pre (g' := (mkF m 25 #[.val (.ref a1728)] [(.int (0 : Int32))])) (fun t k => XS.dcmpS X1845.here hx rfl (v := (0 : Int32)) (hb hby d18_24) rfl (by decide +kernel) k) ?_
  refine own_pre (g' := (mkF m 62 #[.val (.ref a1728)] [])) (fun t k => XS.ifYes X1845.here hx rfl (pc0 := 25) (pc' := 62) rfl (hb hby d18_25) rfl (by decide) (by decide) (by decide) k) ?_
  refine own_alN (w := (.ref a1728)) X1845 hx (hb hby d18_62) rfl rfl ?_
  refine own_getf X1845 hx hZ hown (own_w hw 127 rfl) e1845 H4 (hb hby d18_63) ?_
  intro T1846 X1846 e1846
  show own_Go _ _ _ _ _ _ _ T1846 (mkF m 66 #[.val (.ref a1728)] [(.double (4621819117588971520 : UInt64))])
  refine own_alN (w := (.ref a1728)) X1846 hx (hb hby d18_66) rfl rfl ?_
  refine own_getf X1846 hx hZ hown (own_w hw 130 rfl) e1846 H5 (hb hby d18_67) ?_
  intro T1847 X1847 e1847
  show own_Go _ _ _ _ _ _ _ T1847 (mkF m 70 #[.val (.ref a1728)] [(.double (4629137466983448576 : UInt64)), (.double (4621819117588971520 : UInt64))])
  refine own_alN (w := (.ref a1728)) X1847 hx (hb hby d18_70) rfl rfl ?_
  refine own_getf X1847 hx hZ hown (own_w hw 141 rfl) e1847 H8 (hb hby d18_71) ?_
  intro T1848 X1848 e1848
  show own_Go _ _ _ _ _ _ _ T1848 (mkF m 74 #[.val (.ref a1728)] [(.double f1830), (.double (4629137466983448576 : UInt64)), (.double (4621819117588971520 : UInt64))])
  refine own_calls (argsL := [(.double (4621819117588971520 : UInt64)), (.double (4629137466983448576 : UInt64)), (.double f1830)]) (rest := []) X1848 hx hZ hown (own_s38 l Z a0 hw [] f1830 h0 n0 Z0 ) (own_w hw 152 rfl) (own_w hw 51 rfl) (own_w hw 53 rfl) (own_w hw 52 rfl) (by decide) e1848 (hb hby d18_74) (by rw [hml]; rfl) rfl (lenOf own_pd2 rfl) (by decide) (W := 0) (Nat.le_of_eq rfl) (by decide) (by decide) (by decide) ?_
  intro v1902 T1902 lo1902 X1902 Q1902
  obtain ⟨h1902, e1902⟩ : ∃ h, T1902.heap = h := ⟨_, rfl⟩
  rw [e1902] at Q1902
  obtain ⟨a1903, rfl, N1902, K1902, ge1904, F1905, F1906, F1907, F1908, F1909, F1910, F1911⟩ := Q1902
  have N1902' := Fr.app N0 N1902
  show own_Go _ _ _ _ _ _ _ T1902 (mkF m 77 #[.val (.ref a1728)] [(.ref a1903)])
  have ge1916 : h0.size ≤ a1903 := Nat.le_trans (Nat.le_refl _) ge1904
  exact own_retA X1902 hx hlk hret rfl rfl rfl (hb hby d18_77) e1902 ⟨a1903, rfl, N1902', ((Keep.refl _ _).trans K1902 all0), ge1916, F1905, F1906, F1907, F1908, F1909, F1910, F1911⟩ (by decide) (by decide)
theorem own_pd10 : parseMethodDescriptor "()Lcom/example/rankline/rankline/Extent;" = some ⟨[], some (.object "com/example/rankline/rankline/Extent")⟩ := by decide +kernel
def own_s27_Q (Z : State) (a1172 : Addr) (a1551 : Addr) (f1173 : UInt64) (f1552 : UInt64) (v4 : Int32) (v2 : Int32) (v6 : Int32) (v8 : Int32) (v10 : Int32) (h0 : Heap) (n0 : Nat) (v_ : Option Value) (h_ : Heap) (L_ : List Loc) : Prop := (fun v h L => ∃ (a1919 : Addr) (f1830 : UInt64), v = some (.ref a1919) ∧ Fr n0 L ∧ Keep h0 h [] ∧ h0.size ≤ a1919 ∧ Exa Z h a1919 own_k1 ∧ Fld Z h a1919 own_k1 "low" "D" (.double (4621819117588971520 : UInt64)) ∧ Fld Z h a1919 own_k1 "gapLow" "D" (.double (4629137466983448576 : UInt64)) ∧ Fld Z h a1919 own_k1 "gapHigh" "D" (.double (4629137466983448576 : UInt64)) ∧ Fld Z h a1919 own_k1 "high" "D" (.double (4629137466983448576 : UInt64)) ∧ Fld Z h a1919 own_k1 "below" "D" (.double f1830) ∧ Fld Z h a1919 own_k1 "count" "D" (.double f1830) ∧ FP.Core.DInt ((v4.toInt - v2.toInt) + (v6.toInt - v4.toInt)) f1830) v_ h_ L_
set_option maxRecDepth 65536 in
set_option maxHeartbeats 40000000 in
theorem own_s27 (l : Launch) (Z : State) (a0 : Array Value) (hw : ∀ d ∈ tables_1, d.before a0 Z = true) (wds : List Jvm.Cond) (a1172 : Addr) (a1551 : Addr) (f1173 : UInt64) (f1552 : UInt64) (v4 : Int32) (v2 : Int32) (v6 : Int32) (v8 : Int32) (v10 : Int32) (h0 : Heap) (n0 : Nat) (Z0 : n0 ≤ h0.size) (H3 : Exa Z h0 a1172 own_k1) (H4 : Fld Z h0 a1172 own_k1 "low" "D" (.double (4621819117588971520 : UInt64))) (H5 : Fld Z h0 a1172 own_k1 "gapLow" "D" (.double (4626322717216342016 : UInt64))) (H6 : Fld Z h0 a1172 own_k1 "gapHigh" "D" (.double (4626322717216342016 : UInt64))) (H7 : Fld Z h0 a1172 own_k1 "high" "D" (.double (4626322717216342016 : UInt64))) (H9 : Fld Z h0 a1172 own_k1 "count" "D" (.double f1173)) (H10 : Exa Z h0 a1551 own_k1) (H11 : Fld Z h0 a1551 own_k1 "low" "D" (.double (4626322717216342016 : UInt64))) (H12 : Fld Z h0 a1551 own_k1 "gapLow" "D" (.double (4629137466983448576 : UInt64))) (H13 : Fld Z h0 a1551 own_k1 "gapHigh" "D" (.double (4629137466983448576 : UInt64))) (H14 : Fld Z h0 a1551 own_k1 "high" "D" (.double (4629137466983448576 : UInt64))) (H16 : Fld Z h0 a1551 own_k1 "count" "D" (.double f1552)) (H22 : FP.Core.DInt (v4.toInt - v2.toInt) f1173) (H23 : FP.Core.DInt (v6.toInt - v4.toInt) f1552) (H24 : 1 ≤ v2.toInt ∧ v2.toInt ≤ v4.toInt ∧ v4.toInt < v6.toInt ∧ v6.toInt < v8.toInt ∧ v8.toInt ≤ 8388608 ∧ 1 ≤ v10.toInt ∧ v10.toInt ≤ 8388608) :
    MetFree l (⟨own_k1, "union", "(Lcom/example/rankline/rankline/Extent;)Lcom/example/rankline/rankline/Extent;"⟩ : MethodName) (head1 (Jvm.Cond.code (⟨own_k1, "union", "(Lcom/example/rankline/rankline/Extent;)Lcom/example/rankline/rankline/Extent;"⟩ : MethodName) prog_17_method_8_code 7 (some (.object own_k1)) :: wds) ({ frames := 5, cells := 3, slots := 24, locals := 78 } : Room)) (fun ar_ U_ => ar_ = #[(.ref a1172), (.ref a1551)] ∧ Z.Warmed39 U_.vm ∧ U_.heap = h0) (fun _ _ _ _ _ => True) (fun _ U_ o_ V_ => ∃ v_ L_, o_ = .returned v_ ∧ own_s27_Q Z a1172 a1551 f1173 f1552 v4 v2 v6 v8 v10 h0 n0 v_ V_.heap L_ ∧ FrameEnd U_ o_ V_ L_ ({ frames := 5, cells := 3, slots := 24, locals := 78 } : Room).cells ({ frames := 5, cells := 3, slots := 24, locals := 78 } : Room).slots) := by
  refine own_met (y := ⟨own_k1, "union", "(Lcom/example/rankline/rankline/Extent;)Lcom/example/rankline/rankline/Extent;"⟩) (Q := own_s27_Q Z a1172 a1551 f1173 f1552 v4 v2 v6 v8 v10 h0 n0) own_pn2 ?_
  intro p e s m below meth c s₁ hx hby hml hZ hown hnm hret hlk X0 e0
  have N0 := Fr.nil n0
  refine own_cast (g' := (mkF m 0 #[.val (.ref a1172), .val (.ref a1551), .unset, .unset, .unset, .unset, .unset] [])) (by first | (simp [entryFrame, mkF, argsToLocals, Value.category]; done) | rfl) ?_
  generalize hL1632 : (#[.val (.ref a1172), .val (.ref a1551), .unset, .unset, .unset, .unset, .unset] : Array Slot) = L1632
  refine own_pre (g' := (mkF m 2 L1632 [(.int (12 : Int32))])) (fun t k => XS.bipush X0.here hx rfl (hb hby d11_0) k) ?_
  refine own_newarr X0 hx hZ (aty := .double) (own_w hw 1 rfl) e0 (hb hby d11_2) (n := 12) (by decide) (by decide) (by decide) (by decide) (by decide) (ad := "[D") rfl ?_
  intro T1633 h1633 a1633 g1633 X1633 e1633 E1633 A1633 B1633
  have lt1635 : a1172 < a1633 := Nat.lt_of_lt_of_le H3.lt (Nat.le_of_eq g1633.symm)
  have lt1636 : a1551 < a1633 := Nat.lt_of_lt_of_le H10.lt (Nat.le_of_eq g1633.symm)
  have ge1637 : h0.size ≤ a1633 := Nat.le_trans (Nat.le_refl _) (Nat.le_of_eq g1633.symm)
  have nw1638 : n0 ≤ a1633 := Nat.le_trans Z0 (Nat.le_of_eq g1633.symm)
  have F1639 : own_Ary Z h1633 a1633 .double (own_rD 12) := A1633
  show own_Go _ _ _ _ _ _ _ T1633 (mkF m 4 L1632 [(.ref a1633)])
  refine own_pre (g' := (mkF m 5 #[.val (.ref a1172), .val (.ref a1551), .val (.ref a1633), .unset, .unset, .unset, .unset] [])) (fun t k => XS.astoreN X1633.here hx rfl (hb hby d11_4) rfl rfl (l' := #[.val (.ref a1172), .val (.ref a1551), .val (.ref a1633), .unset, .unset, .unset, .unset]) (by rw [← hL1632]; rfl) k) ?_
  generalize hL1640 : (#[.val (.ref a1172), .val (.ref a1551), .val (.ref a1633), .unset, .unset, .unset, .unset] : Array Slot) = L1640
  refine own_alN (w := (.ref a1551)) X1633 hx (hb hby d11_5) (by rw [← hL1640]; rfl) rfl ?_
  refine own_alN (w := (.ref a1633)) X1633 hx (hb hby d11_6) (by rw [← hL1640]; rfl) rfl ?_
  refine own_alN (w := (.ref a1172)) X1633 hx (hb hby d11_7) (by rw [← hL1640]; rfl) rfl ?_
  refine own_alN (w := (.ref a1633)) X1633 hx (hb hby d11_8) (by rw [← hL1640]; rfl) rfl ?_
  refine own_ic X1633 hx (0 : Int32) (hb hby d11_9) rfl ?_
  have F1643 := (H3.ext E1633)
  have F1644 := (H4.ext E1633)
  have F1645 := (H5.ext E1633)
  have F1646 := (H6.ext E1633)
  have F1647 := (H7.ext E1633)
  have F1649 := (H9.ext E1633)
  have F1676 : n0 ≤ h1633.size := (Nat.le_trans Z0 E1633.1)
  refine own_callp (a := a1172) (argsL := [(.ref a1633), (.int (0 : Int32))]) (rest := [(.ref a1633), (.ref a1551)]) X1633 hx hZ hown (own_s28 l Z a0 hw [] a1172 a1633 f1173 h1633 n0 F1676 F1643 F1644 F1645 F1646 F1647 F1649 F1639 lt1635 nw1638) F1643 (own_w hw 105 rfl) (own_w hw 55 rfl) (own_w hw 107 rfl) (own_w hw 106 rfl) (own_w hw 108 rfl) (own_w hw 52 rfl) (by decide) e1633 (hb hby d11_10) (by rw [hml, ← hL1640]; rfl) rfl (lenOf own_pd8 rfl) (by decide) (W := 2) (Nat.le_of_eq rfl) (by decide) (by decide) (by decide) ?_
  intro v1677 T1677 lo1677 X1677 Q1677
  obtain ⟨h1677, e1677⟩ : ∃ h, T1677.heap = h := ⟨_, rfl⟩
  rw [e1677] at Q1677
  obtain ⟨rfl, N1677, K1677, F1678⟩ := Q1677
  have N1677' := Fr.app N0 N1677
  show own_Go _ _ _ _ _ _ _ T1677 (mkF m 13 L1640 [(.int (3 : Int32)), (.ref a1633), (.ref a1551)])
  have F1681 := ((H10.ext E1633).keep K1677)
  have F1682 := ((H11.ext E1633).keep K1677 (ninS (Nat.ne_of_lt lt1636) nin0))
  have F1683 := ((H12.ext E1633).keep K1677 (ninS (Nat.ne_of_lt lt1636) nin0))
  have F1684 := ((H13.ext E1633).keep K1677 (ninS (Nat.ne_of_lt lt1636) nin0))
  have F1685 := ((H14.ext E1633).keep K1677 (ninS (Nat.ne_of_lt lt1636) nin0))
  have F1687 := ((H16.ext E1633).keep K1677 (ninS (Nat.ne_of_lt lt1636) nin0))
  have F1688 := (B1633.keep K1677)
  have F1715 : n0 ≤ h1677.size := (Nat.le_trans F1676 K1677.1)
  refine own_callp (a := a1551) (argsL := [(.ref a1633), (.int (3 : Int32))]) (rest := []) X1677 hx hZ hown (own_s31 l Z a0 hw [] a1551 a1633 f1552 f1173 h1677 n0 F1715 F1681 F1682 F1683 F1684 F1685 F1687 F1678 lt1636 nw1638) F1681 (own_w hw 105 rfl) (own_w hw 55 rfl) (own_w hw 107 rfl) (own_w hw 106 rfl) (own_w hw 108 rfl) (own_w hw 52 rfl) (by decide) e1677 (hb hby d11_13) (by rw [hml, ← hL1640]; rfl) rfl (lenOf own_pd8 rfl) (by decide) (W := 0) (Nat.le_of_eq rfl) (by decide) (by decide) (by decide) ?_
  intro v1716 T1716 lo1716 X1716 Q1716
  obtain ⟨h1716, e1716⟩ : ∃ h, T1716.heap = h := ⟨_, rfl⟩
  rw [e1716] at Q1716
  obtain ⟨rfl, N1716, K1716, F1717⟩ := Q1716
  have N1716' := Fr.app N1677' N1716
  show own_Go _ _ _ _ _ _ _ T1716 (mkF m 16 L1640 [(.int (6 : Int32))])
  refine own_pre (g' := (mkF m 17 #[.val (.ref a1172), .val (.ref a1551), .val (.ref a1633), .val (.int (6 : Int32)), .unset, .unset, .unset] [])) (fun t k => XS.istoreN X1716.here hx rfl (hb hby d11_16) rfl (l' := #[.val (.ref a1172), .val (.ref a1551), .val (.ref a1633), .val (.int (6 : Int32)), .unset, .unset, .unset]) (by rw [← hL1640]; rfl) k) ?_
  generalize hL1719 : (#[.val (.ref a1172), .val (.ref a1551), .val (.ref a1633), .val (.int (6 : Int32)), .unset, .unset, .unset] : Array Slot) = L1719
  refine own_ic X1716 hx (3 : Int32) (hb hby d11_17) rfl ?_
  refine own_pre (g' := (mkF m 20 #[.val (.ref a1172), .val (.ref a1551), .val (.ref a1633), .val (.int (6 : Int32)), .val (.int (3 : Int32)), .unset, .unset] [])) (fun t k => XS.istore X1716.here hx rfl (hb hby d11_18) rfl (l' := #[.val (.ref a1172), .val (.ref a1551), .val (.ref a1633), .val (.int (6 : Int32)), .val (.int (3 : Int32)), .unset, .unset]) (by rw [← hL1719]; rfl) k) ?_
  generalize hL1720 : (#[.val (.ref a1172), .val (.ref a1551), .val (.ref a1633), .val (.int (6 : Int32)), .val (.int (3 : Int32)), .unset, .unset] : Array Slot) = L1720
  refine own_il (w := (3 : Int32)) X1716 hx (hb hby d11_20) (by rw [← hL1720]; rfl) ?_
  refine own_ilN (w := (6 : Int32)) X1716 hx (hb hby d11_22) (by rw [← hL1720]; rfl) ?_
  refine own_pre (g' := (mkF m 26 L1720 [])) (fun t k => XS.icmpNo X1716.here hx rfl (hb hby d11_23) rfl (by decide) k) ?_
  refine own_il (w := (3 : Int32)) X1716 hx (hb hby d11_26) (by rw [← hL1720]; rfl) ?_
  refine own_pre (g' := (mkF m 30 #[.val (.ref a1172), .val (.ref a1551), .val (.ref a1633), .val (.int (6 : Int32)), .val (.int (3 : Int32)), .val (.int (3 : Int32)), .unset] [])) (fun t k => XS.istore X1716.here hx rfl (hb hby d11_28) rfl (l' := #[.val (.ref a1172), .val (.ref a1551), .val (.ref a1633), .val (.int (6 : Int32)), .val (.int (3 : Int32)), .val (.int (3 : Int32)), .unset]) (by rw [← hL1720]; rfl) k) ?_
  generalize hL1721 : (#[.val (.ref a1172), .val (.ref a1551), .val (.ref a1633), .val (.int (6 : Int32)), .val (.int (3 : Int32)), .val (.int (3 : Int32)), .unset] : Array Slot) = L1721
  refine own_il (w := (3 : Int32)) X1716 hx (hb hby d11_30) (by rw [← hL1721]; rfl) ?_
  refine own_pre (g' := (mkF m 35 L1721 [])) (fun t k => XS.ifNo X1716.here hx rfl (hb hby d11_32) rfl (by decide) k) ?_
  refine own_alN (w := (.ref a1633)) X1716 hx (hb hby d11_35) (by rw [← hL1721]; rfl) rfl ?_
  refine own_il (w := (3 : Int32)) X1716 hx (hb hby d11_36) (by rw [← hL1721]; rfl) ?_
  refine own_daload X1716 hx hZ e1716 F1717 (hb hby d11_38) (n := 3) (v := (.double (4626322717216342016 : UInt64))) (by decide) (by decide) rfl ?_
  show own_Go _ _ _ _ _ _ _ T1716 (mkF m 39 L1721 [(.double (4626322717216342016 : UInt64))])
  refine own_alN (w := (.ref a1633)) X1716 hx (hb hby d11_39) (by rw [← hL1721]; rfl) rfl ?_
  refine own_il (w := (3 : Int32)) X1716 hx (hb hby d11_40) (by rw [← hL1721]; rfl) ?_
  refine own_ic X1716 hx (3 : Int32) (hb hby d11_42) rfl ?_
  refine own_pre (g' := (mkF m 44 L1721 [(.int (0 : Int32)), (.ref a1633), (.double (4626322717216342016 : UInt64))])) (fun t k => XS.isub X1716.here hx rfl (hb hby d11_43) rfl k) ?_
  refine own_daload X1716 hx hZ e1716 F1717 (hb hby d11_44) (n := 0) (v := (.double (4621819117588971520 : UInt64))) (by decide) (by decide) rfl ?_
  show own_Go _ _ _ _ _ _ _ T1716 (mkF m 45 L1721 [(.double (4621819117588971520 : UInt64)), (.double (4626322717216342016 : UInt64))])
  refine own_pre (g' := (mkF m 46 L1721 [(.int (1 : Int32))])) (fun t k => XS.dcmpS X1716.here hx rfl (v := (1 : Int32)) (hb hby d11_45) rfl (by decide +kernel) k) ?_
  refine own_pre (g' := (mkF m 86 L1721 [])) (fun t k => XS.ifYes X1716.here hx rfl (pc0 := 46) (pc' := 86) rfl (hb hby d11_46) rfl (by decide) (by decide) (by decide) k) ?_
  refine own_pre (g' := (mkF m 89 #[.val (.ref a1172), .val (.ref a1551), .val (.ref a1633), .val (.int (6 : Int32)), .val (.int (6 : Int32)), .val (.int (3 : Int32)), .unset] [])) (fun t k => XS.iinc X1716.here hx rfl (hb hby d11_86) (x := (3 : Int32)) (by rw [← hL1721]; rfl) (l' := #[.val (.ref a1172), .val (.ref a1551), .val (.ref a1633), .val (.int (6 : Int32)), .val (.int (6 : Int32)), .val (.int (3 : Int32)), .unset]) (by rw [← hL1721]; rfl) k) ?_
  generalize hL1722 : (#[.val (.ref a1172), .val (.ref a1551), .val (.ref a1633), .val (.int (6 : Int32)), .val (.int (6 : Int32)), .val (.int (3 : Int32)), .unset] : Array Slot) = L1722
  refine own_gt X1716 hx 20 (hb hby d11_89) (by decide) (by decide) ?_
  refine own_il (w := (6 : Int32)) X1716 hx (hb hby d11_20) (by rw [← hL1722]; rfl) ?_
  refine own_ilN (w := (6 : Int32)) X1716 hx (hb hby d11_22) (by rw [← hL1722]; rfl) ?_
  refine own_pre (g' := (mkF m 92 L1722 [])) (fun t k => XS.icmpYes X1716.here hx rfl (pc0 := 23) (pc' := 92) rfl (hb hby d11_23) rfl (by decide) (by decide) (by decide) k) ?_
  have F1726 := (F1688.keep K1716)
  have F1727 : n0 ≤ h1716.size := (Nat.le_trans F1715 K1716.1)
  refine own_newobj X1716 hx hZ hown (own_w hw 119 rfl) (own_w hw 120 rfl) (own_w hw 121 rfl) e1716 (hb hby d11_92) (by decide) (by decide) ?_
  intro T1728 h1728 a1728 g1728 X1728 e1728 E1728 A1728 D1728
  have lt1732 : a1633 < a1728 := Nat.lt_of_lt_of_le F1726.lt (Nat.le_of_eq g1728.symm)
  have F1733 : h0.size ≤ h1716.size := (Nat.le_trans (Nat.le_trans (Nat.le_trans (Nat.le_refl _) E1633.1) K1677.1) K1716.1)
  have ge1734 : h0.size ≤ a1728 := Nat.le_trans F1733 (Nat.le_of_eq g1728.symm)
  have nw1735 : n0 ≤ a1728 := Nat.le_trans F1727 (Nat.le_of_eq g1728.symm)
  have F1736 : Fld Z h1728 a1728 own_k2 "low" "D" (.double (0 : UInt64)) := D1728 (Or.inl (own_w hw 128 rfl)) (ty := .double) (by decide)
  have F1737 : Fld Z h1728 a1728 own_k2 "high" "D" (.double (0 : UInt64)) := D1728 (Or.inl (own_w hw 131 rfl)) (ty := .double) (by decide)
  have F1738 : Fld Z h1728 a1728 own_k2 "gapLow" "D" (.double (0 : UInt64)) := D1728 (Or.inl (own_w hw 138 rfl)) (ty := .double) (by decide)
  have F1739 : Fld Z h1728 a1728 own_k2 "gapHigh" "D" (.double (0 : UInt64)) := D1728 (Or.inl (own_w hw 140 rfl)) (ty := .double) (by decide)
  have F1740 : Fld Z h1728 a1728 own_k2 "count" "D" (.double (0 : UInt64)) := D1728 (Or.inl (own_w hw 142 rfl)) (ty := .double) (by decide)
  have F1741 : Fld Z h1728 a1728 own_k2 "below" "D" (.double (0 : UInt64)) := D1728 (Or.inl (own_w hw 219 rfl)) (ty := .double) (by decide)
  show own_Go _ _ _ _ _ _ _ T1728 (mkF m 95 L1722 [(.ref a1728)])
  refine own_pre (g' := (mkF m 96 L1722 [(.ref a1728), (.ref a1728)])) (fun t k => XS.dup X1728.here hx rfl (hb hby d11_95) rfl rfl k) ?_
  have F1756 : n0 ≤ h1728.size := (Nat.le_trans F1727 E1728.1)
  refine own_initR (a := a1728) (argsL := []) (rest := [(.ref a1728)]) X1728 hx hZ hown (own_s34 l Z a0 hw [] a1728 h1728 n0 F1756 A1728 F1736 F1737 F1738 F1739 F1740 F1741 nw1735) rfl (own_w hw 122 rfl) (own_w hw 123 rfl) (own_w hw 124 rfl) (own_w hw 121 rfl) (by decide) e1728 (hb hby d11_96) (by rw [hml, ← hL1722]; rfl) rfl (lenOf own_pd0 rfl) (by decide) (W := 1) (Nat.le_of_eq rfl) (by decide) (by decide) (by decide) ?_
  intro v1757 T1757 lo1757 X1757 Q1757
  obtain ⟨h1757, e1757⟩ : ∃ h, T1757.heap = h := ⟨_, rfl⟩
  rw [e1757] at Q1757
  obtain ⟨rfl, N1757, K1757, F1758, F1759, F1760, F1761, F1762, F1763⟩ := Q1757
  have N1757' := Fr.app N1716' N1757
  show own_Go _ _ _ _ _ _ _ T1757 (mkF m 99 L1722 [(.ref a1728)])
  refine own_pre (g' := (mkF m 101 #[.val (.ref a1172), .val (.ref a1551), .val (.ref a1633), .val (.int (6 : Int32)), .val (.ref a1728), .val (.int (3 : Int32)), .unset] [])) (fun t k => XS.astore X1757.here hx rfl (hb hby d11_99) rfl rfl (l' := #[.val (.ref a1172), .val (.ref a1551), .val (.ref a1633), .val (.int (6 : Int32)), .val (.ref a1728), .val (.int (3 : Int32)), .unset]) (by rw [← hL1722]; rfl) k) ?_
  generalize hL1765 : (#[.val (.ref a1172), .val (.ref a1551), .val (.ref a1633), .val (.int (6 : Int32)), .val (.ref a1728), .val (.int (3 : Int32)), .unset] : Array Slot) = L1765
  refine own_ic X1757 hx (0 : Int32) (hb hby d11_101) rfl ?_
  refine own_pre (g' := (mkF m 104 #[.val (.ref a1172), .val (.ref a1551), .val (.ref a1633), .val (.int (6 : Int32)), .val (.ref a1728), .val (.int (0 : Int32)), .unset] [])) (fun t k => XS.istore X1757.here hx rfl (hb hby d11_102) rfl (l' := #[.val (.ref a1172), .val (.ref a1551), .val (.ref a1633), .val (.int (6 : Int32)), .val (.ref a1728), .val (.int (0 : Int32)), .unset]) (by rw [← hL1765]; rfl) k) ?_
  generalize hL1766 : (#[.val (.ref a1172), .val (.ref a1551), .val (.ref a1633), .val (.int (6 : Int32)), .val (.ref a1728), .val (.int (0 : Int32)), .unset] : Array Slot) = L1766
  refine own_il (w := (0 : Int32)) X1757 hx (hb hby d11_104) (by rw [← hL1766]; rfl) ?_
  refine own_ilN (w := (6 : Int32)) X1757 hx (hb hby d11_106) (by rw [← hL1766]; rfl) ?_
  refine own_pre (g' := (mkF m 110 L1766 [])) (fun t k => XS.icmpNo X1757.here hx rfl (hb hby d11_107) rfl (by decide) k) ?_
  refine own_al (w := (.ref a1728)) X1757 hx (hb hby d11_110) (by rw [← hL1766]; rfl) rfl ?_
  refine own_alN (w := (.ref a1633)) X1757 hx (hb hby d11_112) (by rw [← hL1766]; rfl) rfl ?_
  refine own_il (w := (0 : Int32)) X1757 hx (hb hby d11_113) (by rw [← hL1766]; rfl) ?_
  have F1767 := ((F1717.ext E1728).keep K1757 (ninS (Nat.ne_of_lt lt1732) nin0))
  refine own_daload X1757 hx hZ e1757 F1767 (hb hby d11_115) (n := 0) (v := (.double (4621819117588971520 : UInt64))) (by decide) (by decide) rfl ?_
  show own_Go _ _ _ _ _ _ _ T1757 (mkF m 116 L1766 [(.double (4621819117588971520 : UInt64)), (.ref a1728)])
  refine own_alN (w := (.ref a1633)) X1757 hx (hb hby d11_116) (by rw [← hL1766]; rfl) rfl ?_
  refine own_il (w := (0 : Int32)) X1757 hx (hb hby d11_117) (by rw [← hL1766]; rfl) ?_
  refine own_ic X1757 hx (1 : Int32) (hb hby d11_119) rfl ?_
  refine own_pre (g' := (mkF m 121 L1766 [(.int (1 : Int32)), (.ref a1633), (.double (4621819117588971520 : UInt64)), (.ref a1728)])) (fun t k => XS.iadd X1757.here hx rfl (hb hby d11_120) rfl k) ?_
  refine own_daload X1757 hx hZ e1757 F1767 (hb hby d11_121) (n := 1) (v := (.double (4626322717216342016 : UInt64))) (by decide) (by decide) rfl ?_
  show own_Go _ _ _ _ _ _ _ T1757 (mkF m 122 L1766 [(.double (4626322717216342016 : UInt64)), (.double (4621819117588971520 : UInt64)), (.ref a1728)])
  refine own_alN (w := (.ref a1633)) X1757 hx (hb hby d11_122) (by rw [← hL1766]; rfl) rfl ?_
  refine own_il (w := (0 : Int32)) X1757 hx (hb hby d11_123) (by rw [← hL1766]; rfl) ?_
  refine own_ic X1757 hx (2 : Int32) (hb hby d11_125) rfl ?_
  refine own_pre (g' := (mkF m 127 L1766 [(.int (2 : Int32)), (.ref a1633), (.double (4626322717216342016 : UInt64)), (.double (4621819117588971520 : UInt64)), (.ref a1728)])) (fun t k => XS.iadd X1757.here hx rfl (hb hby d11_126) rfl k) ?_
  refine own_daload X1757 hx hZ e1757 F1767 (hb hby d11_127) (n := 2) (v := (.double f1173)) (by decide) (by decide) rfl ?_
  show own_Go _ _ _ _ _ _ _ T1757 (mkF m 128 L1766 [(.double f1173), (.double (4626322717216342016 : UInt64)), (.double (4621819117588971520 : UInt64)), (.ref a1728)])
  have F1770 := (A1728.keep K1757)
  have F1796 : n0 ≤ h1757.size := (Nat.le_trans F1756 K1757.1)
  refine own_callv (a := a1728) (argsL := [(.double (4621819117588971520 : UInt64)), (.double (4626322717216342016 : UInt64)), (.double f1173)]) (rest := []) X1757 hx hZ hown (own_s35 l Z a0 hw [] a1728 f1173 h1757 n0 F1796 F1770 F1758 F1759 F1760 F1761 F1762 F1763 nw1735) F1770 (own_w hw 132 rfl) (own_w hw 133 rfl) (own_w hw 135 rfl) (own_w hw 134 rfl) (own_w hw 136 rfl) (own_w hw 121 rfl) (by decide) e1757 (hb hby d11_128) (by rw [hml, ← hL1766]; rfl) rfl (lenOf own_pd9 rfl) (by decide) (W := 0) (Nat.le_of_eq rfl) (by decide) (by decide) (by decide) ?_
  intro v1797 T1797 lo1797 X1797 Q1797
  obtain ⟨h1797, e1797⟩ : ∃ h, T1797.heap = h := ⟨_, rfl⟩
  rw [e1797] at Q1797
  obtain ⟨rfl, N1797, K1797, F1798, F1799, F1800, F1801, F1802, F1803⟩ := Q1797
  have N1797' := Fr.app N1757' N1797
  show own_Go _ _ _ _ _ _ _ T1797 (mkF m 131 L1766 [])
  refine own_pre (g' := (mkF m 134 #[.val (.ref a1172), .val (.ref a1551), .val (.ref a1633), .val (.int (6 : Int32)), .val (.ref a1728), .val (.int (3 : Int32)), .unset] [])) (fun t k => XS.iinc X1797.here hx rfl (hb hby d11_131) (x := (0 : Int32)) (by rw [← hL1766]; rfl) (l' := #[.val (.ref a1172), .val (.ref a1551), .val (.ref a1633), .val (.int (6 : Int32)), .val (.ref a1728), .val (.int (3 : Int32)), .unset]) (by rw [← hL1766]; rfl) k) ?_
  generalize hL1805 : (#[.val (.ref a1172), .val (.ref a1551), .val (.ref a1633), .val (.int (6 : Int32)), .val (.ref a1728), .val (.int (3 : Int32)), .unset] : Array Slot) = L1805
  refine own_gt X1797 hx 104 (hb hby d11_134) (by decide) (by decide) ?_
  refine own_il (w := (3 : Int32)) X1797 hx (hb hby d11_104) (by rw [← hL1805]; rfl) ?_
  refine own_ilN (w := (6 : Int32)) X1797 hx (hb hby d11_106) (by rw [← hL1805]; rfl) ?_
  refine own_pre (g' := (mkF m 110 L1805 [])) (fun t k => XS.icmpNo X1797.here hx rfl (hb hby d11_107) rfl (by decide) k) ?_
  refine own_al (w := (.ref a1728)) X1797 hx (hb hby d11_110) (by rw [← hL1805]; rfl) rfl ?_
  refine own_alN (w := (.ref a1633)) X1797 hx (hb hby d11_112) (by rw [← hL1805]; rfl) rfl ?_
  refine own_il (w := (3 : Int32)) X1797 hx (hb hby d11_113) (by rw [← hL1805]; rfl) ?_
  have F1806 := (F1767.keep K1797 (ninS (Nat.ne_of_lt lt1732) nin0))
  refine own_daload X1797 hx hZ e1797 F1806 (hb hby d11_115) (n := 3) (v := (.double (4626322717216342016 : UInt64))) (by decide) (by decide) rfl ?_
  show own_Go _ _ _ _ _ _ _ T1797 (mkF m 116 L1805 [(.double (4626322717216342016 : UInt64)), (.ref a1728)])
  refine own_alN (w := (.ref a1633)) X1797 hx (hb hby d11_116) (by rw [← hL1805]; rfl) rfl ?_
  refine own_il (w := (3 : Int32)) X1797 hx (hb hby d11_117) (by rw [← hL1805]; rfl) ?_
  refine own_ic X1797 hx (1 : Int32) (hb hby d11_119) rfl ?_
  refine own_pre (g' := (mkF m 121 L1805 [(.int (4 : Int32)), (.ref a1633), (.double (4626322717216342016 : UInt64)), (.ref a1728)])) (fun t k => XS.iadd X1797.here hx rfl (hb hby d11_120) rfl k) ?_
  refine own_daload X1797 hx hZ e1797 F1806 (hb hby d11_121) (n := 4) (v := (.double (4629137466983448576 : UInt64))) (by decide) (by decide) rfl ?_
  show own_Go _ _ _ _ _ _ _ T1797 (mkF m 122 L1805 [(.double (4629137466983448576 : UInt64)), (.double (4626322717216342016 : UInt64)), (.ref a1728)])
  refine own_alN (w := (.ref a1633)) X1797 hx (hb hby d11_122) (by rw [← hL1805]; rfl) rfl ?_
  refine own_il (w := (3 : Int32)) X1797 hx (hb hby d11_123) (by rw [← hL1805]; rfl) ?_
  refine own_ic X1797 hx (2 : Int32) (hb hby d11_125) rfl ?_
  refine own_pre (g' := (mkF m 127 L1805 [(.int (5 : Int32)), (.ref a1633), (.double (4629137466983448576 : UInt64)), (.double (4626322717216342016 : UInt64)), (.ref a1728)])) (fun t k => XS.iadd X1797.here hx rfl (hb hby d11_126) rfl k) ?_
  refine own_daload X1797 hx hZ e1797 F1806 (hb hby d11_127) (n := 5) (v := (.double f1552)) (by decide) (by decide) rfl ?_
  show own_Go _ _ _ _ _ _ _ T1797 (mkF m 128 L1805 [(.double f1552), (.double (4629137466983448576 : UInt64)), (.double (4626322717216342016 : UInt64)), (.ref a1728)])
  have F1809 := (F1770.keep K1797)
  have F1828 : n0 ≤ h1797.size := (Nat.le_trans F1796 K1797.1)
  refine own_callv (a := a1728) (argsL := [(.double (4626322717216342016 : UInt64)), (.double (4629137466983448576 : UInt64)), (.double f1552)]) (rest := []) X1797 hx hZ hown (own_s36 l Z a0 hw [] a1728 f1552 f1173 v6 v4 v2 v8 v10 h1797 n0 F1828 F1809 F1798 F1799 F1800 F1801 F1802 F1803 nw1735 H23 H22 H24) F1809 (own_w hw 132 rfl) (own_w hw 133 rfl) (own_w hw 135 rfl) (own_w hw 134 rfl) (own_w hw 136 rfl) (own_w hw 121 rfl) (by decide) e1797 (hb hby d11_128) (by rw [hml, ← hL1805]; rfl) rfl (lenOf own_pd9 rfl) (by decide) (W := 0) (Nat.le_of_eq rfl) (by decide) (by decide) (by decide) ?_
  intro v1829 T1829 lo1829 X1829 Q1829
  obtain ⟨h1829, e1829⟩ : ∃ h, T1829.heap = h := ⟨_, rfl⟩
  rw [e1829] at Q1829
  obtain ⟨f1830, rfl, N1829, K1829, F1831, F1832, F1833, F1834, F1835, F1836, D1837⟩ := Q1829
  have N1829' := Fr.app N1797' N1829
  show own_Go _ _ _ _ _ _ _ T1829 (mkF m 131 L1805 [])
  refine own_pre (g' := (mkF m 134 #[.val (.ref a1172), .val (.ref a1551), .val (.ref a1633), .val (.int (6 : Int32)), .val (.ref a1728), .val (.int (6 : Int32)), .unset] [])) (fun t k => XS.iinc X1829.here hx rfl (hb hby d11_131) (x := (3 : Int32)) (by rw [← hL1805]; rfl) (l' := #[.val (.ref a1172), .val (.ref a1551), .val (.ref a1633), .val (.int (6 : Int32)), .val (.ref a1728), .val (.int (6 : Int32)), .unset]) (by rw [← hL1805]; rfl) k) ?_
  generalize hL1839 : (#[.val (.ref a1172), .val (.ref a1551), .val (.ref a1633), .val (.int (6 : Int32)), .val (.ref a1728), .val (.int (6 : Int32)), .unset] : Array Slot) = L1839
  refine own_gt X1829 hx 104 (hb hby d11_134) (by decide) (by decide) ?_
  refine own_il (w := (6 : Int32)) X1829 hx (hb hby d11_104) (by rw [← hL1839]; rfl) ?_
  refine own_ilN (w := (6 : Int32)) X1829 hx (hb hby d11_106) (by rw [← hL1839]; rfl) ?_
  refine own_pre (g' := (mkF m 137 L1839 [])) (fun t k => XS.icmpYes X1829.here hx rfl (pc0 := 107) (pc' := 137) rfl (hb hby d11_107) rfl (by decide) (by decide) (by decide) k) ?_
  refine own_al (w := (.ref a1728)) X1829 hx (hb hby d11_137) (by rw [← hL1839]; rfl) rfl ?_
  have F1841 := (F1809.keep K1829)
  have F1917 : n0 ≤ h1829.size := (Nat.le_trans F1828 K1829.1)
  refine own_callv (a := a1728) (argsL := []) (rest := []) X1829 hx hZ hown (own_s37 l Z a0 hw [] a1728 f1830 h1829 n0 F1917 F1831 F1832 F1833 F1834 F1835) F1841 (own_w hw 147 rfl) (own_w hw 148 rfl) (own_w hw 150 rfl) (own_w hw 149 rfl) (own_w hw 151 rfl) (own_w hw 121 rfl) (by decide) e1829 (hb hby d11_139) (by rw [hml, ← hL1839]; rfl) rfl (lenOf own_pd10 rfl) (by decide) (W := 0) (Nat.le_of_eq rfl) (by decide) (by decide) (by decide) ?_
  intro v1918 T1918 lo1918 X1918 Q1918
  obtain ⟨h1918, e1918⟩ : ∃ h, T1918.heap = h := ⟨_, rfl⟩
  rw [e1918] at Q1918
  have F1931 : h0.size ≤ h1829.size := (Nat.le_trans (Nat.le_trans (Nat.le_trans (Nat.le_trans F1733 E1728.1) K1757.1) K1797.1) K1829.1)
  obtain ⟨a1919, rfl, N1918, K1918, ge1920, F1921, F1922, F1923, F1924, F1925, F1926, F1927⟩ := Q1918
  have N1918' := Fr.app N1829' N1918
  show own_Go _ _ _ _ _ _ _ T1918 (mkF m 142 L1839 [(.ref a1919)])
  have ge1939 : h0.size ≤ a1919 := Nat.le_trans F1931 ge1920
  exact own_retA X1918 hx hlk hret rfl rfl rfl (hb hby d11_142) e1918 ⟨a1919, f1830, rfl, N1918', (((((((((Keep.refl _ _).ext E1633).trans K1677 (allS (Or.inr ge1637) all0)).trans K1716 (allS (Or.inr ge1637) all0)).ext E1728).trans K1757 (allS (Or.inr ge1734) all0)).trans K1797 (allS (Or.inr ge1734) all0)).trans K1829 (allS (Or.inr ge1734) all0)).trans K1918 all0), ge1939, F1921, F1922, F1923, F1924, F1925, F1926, F1927, D1837⟩ (by decide) (by decide)
theorem own_pd11 : parseMethodDescriptor "(Lcom/example/rankline/rankline/Extent;)Lcom/example/rankline/rankline/Extent;" = some ⟨[(.object "com/example/rankline/rankline/Extent")], some (.object "com/example/rankline/rankline/Extent")⟩ := by decide +kernel
def own_s26_Q (Z : State) (a33 : Addr) (a274 : Addr) (a273 : Addr) (a272 : Addr) (a271 : Addr) (a270 : Addr) (a269 : Addr) (a268 : Addr) (a267 : Addr) (a811 : Addr) (a1172 : Addr) (f1173 : UInt64) (a1551 : Addr) (f1552 : UInt64) (v2 : Int32) (v4 : Int32) (v6 : Int32) (v8 : Int32) (v10 : Int32) (h0 : Heap) (n0 : Nat) (v_ : Option Value) (h_ : Heap) (L_ : List Loc) : Prop := (fun v h L => ∃ (a1941 : Addr) (f1942 : UInt64), v = none ∧ Fr n0 L ∧ Keep h0 h [a270, a271, a273, a274, a33] ∧ h0.size ≤ a1941 ∧ own_Ary Z h a274 .int ([(.int (-1 : Int32))] ++ own_rI 15) ∧ own_Ary Z h a273 .int ([(.int (2 : Int32)), (.int (-1 : Int32)), (.int (-1 : Int32))] ++ own_rI 13) ∧ own_Ary Z h a271 .boolean (own_rI 16) ∧ own_Ary Z h a270 (.object own_k1) ([(.ref a811), .null, (.ref a1941)] ++ own_rN 13) ∧ Fld Z h a33 own_k0 "thresholds" "[D" (.ref a267) ∧ Fld Z h a33 own_k0 "ranks" "[D" (.ref a268) ∧ Fld Z h a33 own_k0 "guarded" "[Z" (.ref a269) ∧ Fld Z h a33 own_k0 "extents" own_k4 (.ref a270) ∧ Fld Z h a33 own_k0 "addedAtThreshold" "[Z" (.ref a271) ∧ Fld Z h a33 own_k0 "copies" "[J" (.ref a272) ∧ Fld Z h a33 own_k0 "nextOf" "[I" (.ref a273) ∧ Fld Z h a33 own_k0 "previousOf" "[I" (.ref a274) ∧ Fld Z h a33 own_k0 "first" "I" (.int (0 : Int32)) ∧ Fld Z h a33 own_k0 "last" "I" (.int (2 : Int32)) ∧ Fld Z h a33 own_k0 "free" "I" (.int (1 : Int32)) ∧ Fld Z h a33 own_k0 "smallestMagnitude" "D" (.double (9218868437227405312 : UInt64)) ∧ Fld Z h a33 own_k0 "size" "I" (.int (2 : Int32)) ∧ Fld Z h a33 own_k0 "used" "I" (.int (3 : Int32)) ∧ Exa Z h a1941 own_k1 ∧ Fld Z h a1941 own_k1 "low" "D" (.double (4621819117588971520 : UInt64)) ∧ Fld Z h a1941 own_k1 "gapLow" "D" (.double (4629137466983448576 : UInt64)) ∧ Fld Z h a1941 own_k1 "gapHigh" "D" (.double (4629137466983448576 : UInt64)) ∧ Fld Z h a1941 own_k1 "high" "D" (.double (4629137466983448576 : UInt64)) ∧ Fld Z h a1941 own_k1 "below" "D" (.double f1942) ∧ Fld Z h a1941 own_k1 "count" "D" (.double f1942) ∧ FP.Core.DInt ((v4.toInt - v2.toInt) + (v6.toInt - v4.toInt)) f1942) v_ h_ L_
set_option maxRecDepth 65536 in
set_option maxHeartbeats 40000000 in
theorem own_s26 (l : Launch) (Z : State) (a0 : Array Value) (hw : ∀ d ∈ tables_1, d.before a0 Z = true) (wds : List Jvm.Cond) (a33 : Addr) (a274 : Addr) (a273 : Addr) (a272 : Addr) (a271 : Addr) (a270 : Addr) (a269 : Addr) (a268 : Addr) (a267 : Addr) (a811 : Addr) (a1172 : Addr) (f1173 : UInt64) (a1551 : Addr) (f1552 : UInt64) (v2 : Int32) (v4 : Int32) (v6 : Int32) (v8 : Int32) (v10 : Int32) (h0 : Heap) (n0 : Nat) (Z0 : n0 ≤ h0.size) (H3 : Exa Z h0 a33 own_k0) (H4 : Exa Z h0 a274 "[I") (H5 : Exa Z h0 a273 "[I") (H7 : Exa Z h0 a271 "[Z") (H8 : Exa Z h0 a270 own_k4) (H9 : own_Ovr Z h0 a270 own_k1) (H20 : Exa Z h0 a1172 own_k1) (H21 : Fld Z h0 a1172 own_k1 "low" "D" (.double (4621819117588971520 : UInt64))) (H22 : Fld Z h0 a1172 own_k1 "gapLow" "D" (.double (4626322717216342016 : UInt64))) (H23 : Fld Z h0 a1172 own_k1 "gapHigh" "D" (.double (4626322717216342016 : UInt64))) (H24 : Fld Z h0 a1172 own_k1 "high" "D" (.double (4626322717216342016 : UInt64))) (H26 : Fld Z h0 a1172 own_k1 "count" "D" (.double f1173)) (H27 : own_Ary Z h0 a274 .int ([(.int (-1 : Int32)), (.int (0 : Int32)), (.int (1 : Int32))] ++ own_rI 13)) (H28 : own_Ary Z h0 a273 .int ([(.int (1 : Int32)), (.int (2 : Int32)), (.int (-1 : Int32))] ++ own_rI 13)) (H30 : own_Ary Z h0 a271 .boolean (own_rI 16)) (H31 : own_Ary Z h0 a270 (.object own_k1) ([(.ref a811), (.ref a1172), (.ref a1551)] ++ own_rN 13)) (H35 : Fld Z h0 a33 own_k0 "thresholds" "[D" (.ref a267)) (H36 : Fld Z h0 a33 own_k0 "ranks" "[D" (.ref a268)) (H37 : Fld Z h0 a33 own_k0 "guarded" "[Z" (.ref a269)) (H38 : Fld Z h0 a33 own_k0 "extents" own_k4 (.ref a270)) (H39 : Fld Z h0 a33 own_k0 "addedAtThreshold" "[Z" (.ref a271)) (H40 : Fld Z h0 a33 own_k0 "copies" "[J" (.ref a272)) (H41 : Fld Z h0 a33 own_k0 "nextOf" "[I" (.ref a273)) (H42 : Fld Z h0 a33 own_k0 "previousOf" "[I" (.ref a274)) (H43 : Fld Z h0 a33 own_k0 "first" "I" (.int (0 : Int32))) (H44 : Fld Z h0 a33 own_k0 "last" "I" (.int (2 : Int32))) (H45 : Fld Z h0 a33 own_k0 "free" "I" (.int (-1 : Int32))) (H46 : Fld Z h0 a33 own_k0 "smallestMagnitude" "D" (.double (9218868437227405312 : UInt64))) (H47 : Fld Z h0 a33 own_k0 "size" "I" (.int (3 : Int32))) (H48 : Fld Z h0 a33 own_k0 "used" "I" (.int (3 : Int32))) (H49 : Exa Z h0 a1551 own_k1) (H50 : Fld Z h0 a1551 own_k1 "low" "D" (.double (4626322717216342016 : UInt64))) (H51 : Fld Z h0 a1551 own_k1 "gapLow" "D" (.double (4629137466983448576 : UInt64))) (H52 : Fld Z h0 a1551 own_k1 "gapHigh" "D" (.double (4629137466983448576 : UInt64))) (H53 : Fld Z h0 a1551 own_k1 "high" "D" (.double (4629137466983448576 : UInt64))) (H55 : Fld Z h0 a1551 own_k1 "count" "D" (.double f1552)) (H71 : a33 < a270) (H72 : a33 < a271) (H74 : a33 < a273) (H75 : a33 < a274) (H79 : n0 ≤ a33) (H110 : a270 < a271) (H112 : a270 < a273) (H113 : a270 < a274) (H117 : n0 ≤ a270) (H119 : a271 < a273) (H120 : a271 < a274) (H124 : n0 ≤ a271) (H131 : a273 < a274) (H135 : n0 ≤ a273) (H139 : n0 ≤ a274) (H147 : FP.Core.DInt (v4.toInt - v2.toInt) f1173) (H150 : FP.Core.DInt (v6.toInt - v4.toInt) f1552) (H151 : 1 ≤ v2.toInt ∧ v2.toInt ≤ v4.toInt ∧ v4.toInt < v6.toInt ∧ v6.toInt < v8.toInt ∧ v8.toInt ≤ 8388608 ∧ 1 ≤ v10.toInt ∧ v10.toInt ≤ 8388608) :
    MetFree l (⟨own_k0, "join", "(I)V"⟩ : MethodName) (head1 (Jvm.Cond.code (⟨own_k0, "join", "(I)V"⟩ : MethodName) prog_5_method_27_code 4 none :: wds) ({ frames := 6, cells := 3, slots := 24, locals := 98 } : Room)) (fun ar_ U_ => ar_ = #[(.ref a33), (.int (1 : Int32))] ∧ Z.Warmed39 U_.vm ∧ U_.heap = h0) (fun _ _ _ _ _ => True) (fun _ U_ o_ V_ => ∃ v_ L_, o_ = .returned v_ ∧ own_s26_Q Z a33 a274 a273 a272 a271 a270 a269 a268 a267 a811 a1172 f1173 a1551 f1552 v2 v4 v6 v8 v10 h0 n0 v_ V_.heap L_ ∧ FrameEnd U_ o_ V_ L_ ({ frames := 6, cells := 3, slots := 24, locals := 98 } : Room).cells ({ frames := 6, cells := 3, slots := 24, locals := 98 } : Room).slots) := by
  refine own_met (y := ⟨own_k0, "join", "(I)V"⟩) (Q := own_s26_Q Z a33 a274 a273 a272 a271 a270 a269 a268 a267 a811 a1172 f1173 a1551 f1552 v2 v4 v6 v8 v10 h0 n0) own_pn1 ?_
  intro p e s m below meth c s₁ hx hby hml hZ hown hnm hret hlk X0 e0
  have N0 := Fr.nil n0
  refine own_cast (g' := (mkF m 0 #[.val (.ref a33), .val (.int (1 : Int32)), .unset, .unset] [])) (by first | (simp [entryFrame, mkF, argsToLocals, Value.category]; done) | rfl) ?_
  refine own_alN (w := (.ref a33)) X0 hx (hb hby d10_0) rfl rfl ?_
  refine own_getf X0 hx hZ hown (own_w hw 29 rfl) e0 H41 (hb hby d10_1) ?_
  intro T1627 X1627 e1627
  show own_Go _ _ _ _ _ _ _ T1627 (mkF m 4 #[.val (.ref a33), .val (.int (1 : Int32)), .unset, .unset] [(.ref a273)])
  refine own_ilN (w := (1 : Int32)) X1627 hx (hb hby d10_4) rfl ?_
  refine own_iaload X1627 hx hZ e1627 H28 (hb hby d10_5) (n := 1) (v := (.int (2 : Int32))) (by decide) (by decide) rfl ?_
  show own_Go _ _ _ _ _ _ _ T1627 (mkF m 6 #[.val (.ref a33), .val (.int (1 : Int32)), .unset, .unset] [(.int (2 : Int32))])
  refine own_pre (g' := (mkF m 7 #[.val (.ref a33), .val (.int (1 : Int32)), .val (.int (2 : Int32)), .unset] [])) (fun t k => XS.istoreN X1627.here hx rfl (hb hby d10_6) rfl (l' := #[.val (.ref a33), .val (.int (1 : Int32)), .val (.int (2 : Int32)), .unset]) rfl k) ?_
  refine own_alN (w := (.ref a33)) X1627 hx (hb hby d10_7) rfl rfl ?_
  refine own_getf X1627 hx hZ hown (own_w hw 31 rfl) e1627 H42 (hb hby d10_8) ?_
  intro T1628 X1628 e1628
  show own_Go _ _ _ _ _ _ _ T1628 (mkF m 11 #[.val (.ref a33), .val (.int (1 : Int32)), .val (.int (2 : Int32)), .unset] [(.ref a274)])
  refine own_ilN (w := (1 : Int32)) X1628 hx (hb hby d10_11) rfl ?_
  refine own_iaload X1628 hx hZ e1628 H27 (hb hby d10_12) (n := 1) (v := (.int (0 : Int32))) (by decide) (by decide) rfl ?_
  show own_Go _ _ _ _ _ _ _ T1628 (mkF m 13 #[.val (.ref a33), .val (.int (1 : Int32)), .val (.int (2 : Int32)), .unset] [(.int (0 : Int32))])
  refine own_pre (g' := (mkF m 14 #[.val (.ref a33), .val (.int (1 : Int32)), .val (.int (2 : Int32)), .val (.int (0 : Int32))] [])) (fun t k => XS.istoreN X1628.here hx rfl (hb hby d10_13) rfl (l' := #[.val (.ref a33), .val (.int (1 : Int32)), .val (.int (2 : Int32)), .val (.int (0 : Int32))]) rfl k) ?_
  refine own_alN (w := (.ref a33)) X1628 hx (hb hby d10_14) rfl rfl ?_
  refine own_getf X1628 hx hZ hown (own_w hw 22 rfl) e1628 H38 (hb hby d10_15) ?_
  intro T1629 X1629 e1629
  show own_Go _ _ _ _ _ _ _ T1629 (mkF m 18 #[.val (.ref a33), .val (.int (1 : Int32)), .val (.int (2 : Int32)), .val (.int (0 : Int32))] [(.ref a270)])
  refine own_ilN (w := (2 : Int32)) X1629 hx (hb hby d10_18) rfl ?_
  refine own_alN (w := (.ref a33)) X1629 hx (hb hby d10_19) rfl rfl ?_
  refine own_getf X1629 hx hZ hown (own_w hw 22 rfl) e1629 H38 (hb hby d10_20) ?_
  intro T1630 X1630 e1630
  show own_Go _ _ _ _ _ _ _ T1630 (mkF m 23 #[.val (.ref a33), .val (.int (1 : Int32)), .val (.int (2 : Int32)), .val (.int (0 : Int32))] [(.ref a270), (.int (2 : Int32)), (.ref a270)])
  refine own_ilN (w := (1 : Int32)) X1630 hx (hb hby d10_23) rfl ?_
  refine own_aaload X1630 hx hZ e1630 H31 rfl (hb hby d10_24) (n := 1) (v := (.ref a1172)) (by decide) (by decide) rfl ?_
  show own_Go _ _ _ _ _ _ _ T1630 (mkF m 25 #[.val (.ref a33), .val (.int (1 : Int32)), .val (.int (2 : Int32)), .val (.int (0 : Int32))] [(.ref a1172), (.int (2 : Int32)), (.ref a270)])
  refine own_alN (w := (.ref a33)) X1630 hx (hb hby d10_25) rfl rfl ?_
  refine own_getf X1630 hx hZ hown (own_w hw 22 rfl) e1630 H38 (hb hby d10_26) ?_
  intro T1631 X1631 e1631
  show own_Go _ _ _ _ _ _ _ T1631 (mkF m 29 #[.val (.ref a33), .val (.int (1 : Int32)), .val (.int (2 : Int32)), .val (.int (0 : Int32))] [(.ref a270), (.ref a1172), (.int (2 : Int32)), (.ref a270)])
  refine own_ilN (w := (2 : Int32)) X1631 hx (hb hby d10_29) rfl ?_
  refine own_aaload X1631 hx hZ e1631 H31 rfl (hb hby d10_30) (n := 2) (v := (.ref a1551)) (by decide) (by decide) rfl ?_
  show own_Go _ _ _ _ _ _ _ T1631 (mkF m 31 #[.val (.ref a33), .val (.int (1 : Int32)), .val (.int (2 : Int32)), .val (.int (0 : Int32))] [(.ref a1551), (.ref a1172), (.int (2 : Int32)), (.ref a270)])
  refine own_callv (a := a1172) (argsL := [(.ref a1551)]) (rest := [(.int (2 : Int32)), (.ref a270)]) X1631 hx hZ hown (own_s27 l Z a0 hw [] a1172 a1551 f1173 f1552 v4 v2 v6 v8 v10 h0 n0 Z0 H20 H21 H22 H23 H24 H26 H49 H50 H51 H52 H53 H55 H147 H150 H151) H20 (own_w hw 100 rfl) (own_w hw 101 rfl) (own_w hw 103 rfl) (own_w hw 102 rfl) (own_w hw 104 rfl) (own_w hw 52 rfl) (by decide) e1631 (hb hby d10_31) (by rw [hml]; rfl) rfl (lenOf own_pd11 rfl) (by decide) (W := 2) (Nat.le_of_eq rfl) (by decide) (by decide) (by decide) ?_
  intro v1940 T1940 lo1940 X1940 Q1940
  obtain ⟨h1940, e1940⟩ : ∃ h, T1940.heap = h := ⟨_, rfl⟩
  rw [e1940] at Q1940
  obtain ⟨a1941, f1942, rfl, N1940, K1940, ge1943, F1944, F1945, F1946, F1947, F1948, F1949, F1950, D1951⟩ := Q1940
  have N1940' := Fr.app N0 N1940
  show own_Go _ _ _ _ _ _ _ T1940 (mkF m 34 #[.val (.ref a33), .val (.int (1 : Int32)), .val (.int (2 : Int32)), .val (.int (0 : Int32))] [(.ref a1941), (.int (2 : Int32)), (.ref a270)])
  have lt1954 : a33 < a1941 := Nat.lt_of_lt_of_le H3.lt ge1943
  have lt1955 : a274 < a1941 := Nat.lt_of_lt_of_le H4.lt ge1943
  have lt1956 : a273 < a1941 := Nat.lt_of_lt_of_le H5.lt ge1943
  have lt1958 : a271 < a1941 := Nat.lt_of_lt_of_le H7.lt ge1943
  have lt1959 : a270 < a1941 := Nat.lt_of_lt_of_le H8.lt ge1943
  have ge1967 : h0.size ≤ a1941 := Nat.le_trans (Nat.le_refl _) ge1943
  have F1968 := (H31.keep K1940 nin0)
  have F1970 := (H9.keep K1940)
  refine own_aastore X1940 hx hZ e1940 N1940' H117 F1968 F1970 (Ins.self F1944) (hb hby d10_34) (n := 2) (by decide) (by decide) (by show 2 < 16; decide) ?_
  intro T1969 h1969 lo1969 X1969 e1969 N1969 W1969
  have F1971 : own_Ary Z h1969 a270 (.object own_k1) ([(.ref a811), (.ref a1172), (.ref a1941)] ++ own_rN 13) := F1968.set W1969
  show own_Go _ _ _ _ _ _ _ T1969 (mkF m 35 #[.val (.ref a33), .val (.int (1 : Int32)), .val (.int (2 : Int32)), .val (.int (0 : Int32))] [])
  refine own_alN (w := (.ref a33)) X1969 hx (hb hby d10_35) rfl rfl ?_
  have F1972 := ((H39.keep K1940 nin0).other W1969 (Or.inl (Nat.ne_of_lt H71)))
  refine own_getf X1969 hx hZ hown (own_w hw 24 rfl) e1969 F1972 (hb hby d10_36) ?_
  intro T1973 X1973 e1973
  show own_Go _ _ _ _ _ _ _ T1973 (mkF m 39 #[.val (.ref a33), .val (.int (1 : Int32)), .val (.int (2 : Int32)), .val (.int (0 : Int32))] [(.ref a271)])
  refine own_ilN (w := (2 : Int32)) X1973 hx (hb hby d10_39) rfl ?_
  refine own_ic X1973 hx (0 : Int32) (hb hby d10_40) rfl ?_
  have F1974 := ((H30.keep K1940 nin0).other W1969 (Nat.ne_of_gt H110))
  refine own_zastore X1973 hx hZ e1973 N1969 H124 F1974 (hb hby d10_41) (n := 2) (x' := (0 : Int32)) (by decide) (by decide) (by show 2 < 16; decide) (by decide) ?_
  intro T1975 h1975 lo1975 X1975 e1975 N1975 W1975
  have F1976 : own_Ary Z h1975 a271 .boolean (own_rI 16) := F1974.set W1975
  show own_Go _ _ _ _ _ _ _ T1975 (mkF m 42 #[.val (.ref a33), .val (.int (1 : Int32)), .val (.int (2 : Int32)), .val (.int (0 : Int32))] [])
  refine own_alN (w := (.ref a33)) X1975 hx (hb hby d10_42) rfl rfl ?_
  have F1977 := (((H41.keep K1940 nin0).other W1969 (Or.inl (Nat.ne_of_lt H71))).other W1975 (Or.inl (Nat.ne_of_lt H72)))
  refine own_getf X1975 hx hZ hown (own_w hw 29 rfl) e1975 F1977 (hb hby d10_43) ?_
  intro T1978 X1978 e1978
  show own_Go _ _ _ _ _ _ _ T1978 (mkF m 46 #[.val (.ref a33), .val (.int (1 : Int32)), .val (.int (2 : Int32)), .val (.int (0 : Int32))] [(.ref a273)])
  refine own_ilN (w := (0 : Int32)) X1978 hx (hb hby d10_46) rfl ?_
  refine own_ilN (w := (2 : Int32)) X1978 hx (hb hby d10_47) rfl ?_
  have F1979 := (((H28.keep K1940 nin0).other W1969 (Nat.ne_of_gt H112)).other W1975 (Nat.ne_of_gt H119))
  refine own_iastore X1978 hx hZ e1978 N1975 H135 F1979 (hb hby d10_48) (n := 0) (by decide) (by decide) (by show 0 < 16; decide) ?_
  intro T1980 h1980 lo1980 X1980 e1980 N1980 W1980
  have F1981 : own_Ary Z h1980 a273 .int ([(.int (2 : Int32)), (.int (2 : Int32)), (.int (-1 : Int32))] ++ own_rI 13) := F1979.set W1980
  show own_Go _ _ _ _ _ _ _ T1980 (mkF m 49 #[.val (.ref a33), .val (.int (1 : Int32)), .val (.int (2 : Int32)), .val (.int (0 : Int32))] [])
  refine own_alN (w := (.ref a33)) X1980 hx (hb hby d10_49) rfl rfl ?_
  have F1982 := ((((H42.keep K1940 nin0).other W1969 (Or.inl (Nat.ne_of_lt H71))).other W1975 (Or.inl (Nat.ne_of_lt H72))).other W1980 (Or.inl (Nat.ne_of_lt H74)))
  refine own_getf X1980 hx hZ hown (own_w hw 31 rfl) e1980 F1982 (hb hby d10_50) ?_
  intro T1983 X1983 e1983
  show own_Go _ _ _ _ _ _ _ T1983 (mkF m 53 #[.val (.ref a33), .val (.int (1 : Int32)), .val (.int (2 : Int32)), .val (.int (0 : Int32))] [(.ref a274)])
  refine own_ilN (w := (2 : Int32)) X1983 hx (hb hby d10_53) rfl ?_
  refine own_ilN (w := (0 : Int32)) X1983 hx (hb hby d10_54) rfl ?_
  have F1984 := ((((H27.keep K1940 nin0).other W1969 (Nat.ne_of_gt H113)).other W1975 (Nat.ne_of_gt H120)).other W1980 (Nat.ne_of_gt H131))
  refine own_iastore X1983 hx hZ e1983 N1980 H139 F1984 (hb hby d10_55) (n := 2) (by decide) (by decide) (by show 2 < 16; decide) ?_
  intro T1985 h1985 lo1985 X1985 e1985 N1985 W1985
  have F1986 : own_Ary Z h1985 a274 .int ([(.int (-1 : Int32))] ++ own_rI 15) := F1984.set W1985
  show own_Go _ _ _ _ _ _ _ T1985 (mkF m 56 #[.val (.ref a33), .val (.int (1 : Int32)), .val (.int (2 : Int32)), .val (.int (0 : Int32))] [])
  refine own_alN (w := (.ref a33)) X1985 hx (hb hby d10_56) rfl rfl ?_
  have F1987 := (((((H38.keep K1940 nin0).other W1969 (Or.inl (Nat.ne_of_lt H71))).other W1975 (Or.inl (Nat.ne_of_lt H72))).other W1980 (Or.inl (Nat.ne_of_lt H74))).other W1985 (Or.inl (Nat.ne_of_lt H75)))
  refine own_getf X1985 hx hZ hown (own_w hw 22 rfl) e1985 F1987 (hb hby d10_57) ?_
  intro T1988 X1988 e1988
  show own_Go _ _ _ _ _ _ _ T1988 (mkF m 60 #[.val (.ref a33), .val (.int (1 : Int32)), .val (.int (2 : Int32)), .val (.int (0 : Int32))] [(.ref a270)])
  refine own_ilN (w := (1 : Int32)) X1988 hx (hb hby d10_60) rfl ?_
  refine own_pre (g' := (mkF m 62 #[.val (.ref a33), .val (.int (1 : Int32)), .val (.int (2 : Int32)), .val (.int (0 : Int32))] [.null, (.int (1 : Int32)), (.ref a270)])) (fun t k => XS.aconstNull X1988.here hx rfl (hb hby d10_61) k) ?_
  have F1989 := (((F1971.other W1975 (Nat.ne_of_lt H110)).other W1980 (Nat.ne_of_lt H112)).other W1985 (Nat.ne_of_lt H113))
  refine own_aastore0 X1988 hx hZ e1988 N1985 H117 F1989 (hb hby d10_62) (n := 1) (by decide) (by decide) (by show 1 < 16; decide) ?_
  intro T1990 h1990 lo1990 X1990 e1990 N1990 W1990
  have F1991 : own_Ary Z h1990 a270 (.object own_k1) ([(.ref a811), .null, (.ref a1941)] ++ own_rN 13) := F1989.set W1990
  show own_Go _ _ _ _ _ _ _ T1990 (mkF m 63 #[.val (.ref a33), .val (.int (1 : Int32)), .val (.int (2 : Int32)), .val (.int (0 : Int32))] [])
  refine own_alN (w := (.ref a33)) X1990 hx (hb hby d10_63) rfl rfl ?_
  have F1992 := (((F1977.other W1980 (Or.inl (Nat.ne_of_lt H74))).other W1985 (Or.inl (Nat.ne_of_lt H75))).other W1990 (Or.inl (Nat.ne_of_lt H71)))
  refine own_getf X1990 hx hZ hown (own_w hw 29 rfl) e1990 F1992 (hb hby d10_64) ?_
  intro T1993 X1993 e1993
  show own_Go _ _ _ _ _ _ _ T1993 (mkF m 67 #[.val (.ref a33), .val (.int (1 : Int32)), .val (.int (2 : Int32)), .val (.int (0 : Int32))] [(.ref a273)])
  refine own_ilN (w := (1 : Int32)) X1993 hx (hb hby d10_67) rfl ?_
  refine own_alN (w := (.ref a33)) X1993 hx (hb hby d10_68) rfl rfl ?_
  have F1994 := ((((((H45.keep K1940 nin0).other W1969 (Or.inl (Nat.ne_of_lt H71))).other W1975 (Or.inl (Nat.ne_of_lt H72))).other W1980 (Or.inl (Nat.ne_of_lt H74))).other W1985 (Or.inl (Nat.ne_of_lt H75))).other W1990 (Or.inl (Nat.ne_of_lt H71)))
  refine own_getf X1993 hx hZ hown (own_w hw 37 rfl) e1993 F1994 (hb hby d10_69) ?_
  intro T1995 X1995 e1995
  show own_Go _ _ _ _ _ _ _ T1995 (mkF m 72 #[.val (.ref a33), .val (.int (1 : Int32)), .val (.int (2 : Int32)), .val (.int (0 : Int32))] [(.int (-1 : Int32)), (.int (1 : Int32)), (.ref a273)])
  have F1996 := ((F1981.other W1985 (Nat.ne_of_lt H131)).other W1990 (Nat.ne_of_gt H112))
  refine own_iastore X1995 hx hZ e1995 N1990 H135 F1996 (hb hby d10_72) (n := 1) (by decide) (by decide) (by show 1 < 16; decide) ?_
  intro T1997 h1997 lo1997 X1997 e1997 N1997 W1997
  have F1998 : own_Ary Z h1997 a273 .int ([(.int (2 : Int32)), (.int (-1 : Int32)), (.int (-1 : Int32))] ++ own_rI 13) := F1996.set W1997
  show own_Go _ _ _ _ _ _ _ T1997 (mkF m 73 #[.val (.ref a33), .val (.int (1 : Int32)), .val (.int (2 : Int32)), .val (.int (0 : Int32))] [])
  refine own_alN (w := (.ref a33)) X1997 hx (hb hby d10_73) rfl rfl ?_
  refine own_ilN (w := (1 : Int32)) X1997 hx (hb hby d10_74) rfl ?_
  have F1999 := (F1994.other W1997 (Or.inl (Nat.ne_of_lt H74)))
  have F2000 := (((((((H3.keep K1940).wr W1969).wr W1975).wr W1980).wr W1985).wr W1990).wr W1997)
  refine own_putf X1997 hx hZ hown (own_w hw 37 rfl) e1997 N1997 H79 F1999 F2000 (Or.inl (own_w hw 38 rfl)) (own_w hw 5 rfl) (ty := .int) (by decide) rfl rfl (hb hby d10_75) ?_
  intro T2001 h2001 lo2001 X2001 e2001 N2001 W2001
  have F2002 := F1999.same W2001
  show own_Go _ _ _ _ _ _ _ T2001 (mkF m 78 #[.val (.ref a33), .val (.int (1 : Int32)), .val (.int (2 : Int32)), .val (.int (0 : Int32))] [])
  refine own_alN (w := (.ref a33)) X2001 hx (hb hby d10_78) rfl rfl ?_
  refine own_pre (g' := (mkF m 80 #[.val (.ref a33), .val (.int (1 : Int32)), .val (.int (2 : Int32)), .val (.int (0 : Int32))] [(.ref a33), (.ref a33)])) (fun t k => XS.dup X2001.here hx rfl (hb hby d10_79) rfl rfl k) ?_
  have F2003 := ((((((((H47.keep K1940 nin0).other W1969 (Or.inl (Nat.ne_of_lt H71))).other W1975 (Or.inl (Nat.ne_of_lt H72))).other W1980 (Or.inl (Nat.ne_of_lt H74))).other W1985 (Or.inl (Nat.ne_of_lt H75))).other W1990 (Or.inl (Nat.ne_of_lt H71))).other W1997 (Or.inl (Nat.ne_of_lt H74))).other W2001 (Or.inr (own_sne (own_f12 hw) (own_f10 hw) (by decide))))
  refine own_getf X2001 hx hZ hown (own_w hw 48 rfl) e2001 F2003 (hb hby d10_80) ?_
  intro T2004 X2004 e2004
  show own_Go _ _ _ _ _ _ _ T2004 (mkF m 83 #[.val (.ref a33), .val (.int (1 : Int32)), .val (.int (2 : Int32)), .val (.int (0 : Int32))] [(.int (3 : Int32)), (.ref a33)])
  refine own_ic X2004 hx (1 : Int32) (hb hby d10_83) rfl ?_
  refine own_pre (g' := (mkF m 85 #[.val (.ref a33), .val (.int (1 : Int32)), .val (.int (2 : Int32)), .val (.int (0 : Int32))] [(.int (2 : Int32)), (.ref a33)])) (fun t k => XS.isub X2004.here hx rfl (hb hby d10_84) rfl k) ?_
  have F2005 := (F2000.wr W2001)
  refine own_putf X2004 hx hZ hown (own_w hw 48 rfl) e2004 N2001 H79 F2003 F2005 (Or.inl (own_w hw 49 rfl)) (own_w hw 5 rfl) (ty := .int) (by decide) rfl rfl (hb hby d10_85) ?_
  intro T2006 h2006 lo2006 X2006 e2006 N2006 W2006
  have F2007 := F2003.same W2006
  show own_Go _ _ _ _ _ _ _ T2006 (mkF m 88 #[.val (.ref a33), .val (.int (1 : Int32)), .val (.int (2 : Int32)), .val (.int (0 : Int32))] [])
  have F2008 := ((((F1986.other W1990 (Nat.ne_of_gt H113)).other W1997 (Nat.ne_of_gt H131)).other W2001 (Nat.ne_of_gt H75)).other W2006 (Nat.ne_of_gt H75))
  have F2009 := ((F1998.other W2001 (Nat.ne_of_gt H74)).other W2006 (Nat.ne_of_gt H74))
  have F2010 := ((((((F1976.other W1980 (Nat.ne_of_lt H119)).other W1985 (Nat.ne_of_lt H120)).other W1990 (Nat.ne_of_gt H110)).other W1997 (Nat.ne_of_lt H119)).other W2001 (Nat.ne_of_gt H72)).other W2006 (Nat.ne_of_gt H72))
  have F2011 := (((F1991.other W1997 (Nat.ne_of_lt H112)).other W2001 (Nat.ne_of_gt H71)).other W2006 (Nat.ne_of_gt H71))
  have F2012 := (((((((((H35.keep K1940 nin0).other W1969 (Or.inl (Nat.ne_of_lt H71))).other W1975 (Or.inl (Nat.ne_of_lt H72))).other W1980 (Or.inl (Nat.ne_of_lt H74))).other W1985 (Or.inl (Nat.ne_of_lt H75))).other W1990 (Or.inl (Nat.ne_of_lt H71))).other W1997 (Or.inl (Nat.ne_of_lt H74))).other W2001 (Or.inr (own_sne (own_f1 hw) (own_f10 hw) (by decide)))).other W2006 (Or.inr (own_sne (own_f1 hw) (own_f12 hw) (by decide))))
  have F2013 := (((((((((H36.keep K1940 nin0).other W1969 (Or.inl (Nat.ne_of_lt H71))).other W1975 (Or.inl (Nat.ne_of_lt H72))).other W1980 (Or.inl (Nat.ne_of_lt H74))).other W1985 (Or.inl (Nat.ne_of_lt H75))).other W1990 (Or.inl (Nat.ne_of_lt H71))).other W1997 (Or.inl (Nat.ne_of_lt H74))).other W2001 (Or.inr (own_sne (own_f0 hw) (own_f10 hw) (by decide)))).other W2006 (Or.inr (own_sne (own_f0 hw) (own_f12 hw) (by decide))))
  have F2014 := (((((((((H37.keep K1940 nin0).other W1969 (Or.inl (Nat.ne_of_lt H71))).other W1975 (Or.inl (Nat.ne_of_lt H72))).other W1980 (Or.inl (Nat.ne_of_lt H74))).other W1985 (Or.inl (Nat.ne_of_lt H75))).other W1990 (Or.inl (Nat.ne_of_lt H71))).other W1997 (Or.inl (Nat.ne_of_lt H74))).other W2001 (Or.inr (own_sne (own_f2 hw) (own_f10 hw) (by decide)))).other W2006 (Or.inr (own_sne (own_f2 hw) (own_f12 hw) (by decide))))
  have F2015 := ((((F1987.other W1990 (Or.inl (Nat.ne_of_lt H71))).other W1997 (Or.inl (Nat.ne_of_lt H74))).other W2001 (Or.inr (own_sne (own_f3 hw) (own_f10 hw) (by decide)))).other W2006 (Or.inr (own_sne (own_f3 hw) (own_f12 hw) (by decide))))
  have F2016 := (((((((F1972.other W1975 (Or.inl (Nat.ne_of_lt H72))).other W1980 (Or.inl (Nat.ne_of_lt H74))).other W1985 (Or.inl (Nat.ne_of_lt H75))).other W1990 (Or.inl (Nat.ne_of_lt H71))).other W1997 (Or.inl (Nat.ne_of_lt H74))).other W2001 (Or.inr (own_sne (own_f4 hw) (own_f10 hw) (by decide)))).other W2006 (Or.inr (own_sne (own_f4 hw) (own_f12 hw) (by decide))))
  have F2017 := (((((((((H40.keep K1940 nin0).other W1969 (Or.inl (Nat.ne_of_lt H71))).other W1975 (Or.inl (Nat.ne_of_lt H72))).other W1980 (Or.inl (Nat.ne_of_lt H74))).other W1985 (Or.inl (Nat.ne_of_lt H75))).other W1990 (Or.inl (Nat.ne_of_lt H71))).other W1997 (Or.inl (Nat.ne_of_lt H74))).other W2001 (Or.inr (own_sne (own_f5 hw) (own_f10 hw) (by decide)))).other W2006 (Or.inr (own_sne (own_f5 hw) (own_f12 hw) (by decide))))
  have F2018 := (((F1992.other W1997 (Or.inl (Nat.ne_of_lt H74))).other W2001 (Or.inr (own_sne (own_f6 hw) (own_f10 hw) (by decide)))).other W2006 (Or.inr (own_sne (own_f6 hw) (own_f12 hw) (by decide))))
  have F2019 := (((((F1982.other W1985 (Or.inl (Nat.ne_of_lt H75))).other W1990 (Or.inl (Nat.ne_of_lt H71))).other W1997 (Or.inl (Nat.ne_of_lt H74))).other W2001 (Or.inr (own_sne (own_f7 hw) (own_f10 hw) (by decide)))).other W2006 (Or.inr (own_sne (own_f7 hw) (own_f12 hw) (by decide))))
  have F2020 := (((((((((H43.keep K1940 nin0).other W1969 (Or.inl (Nat.ne_of_lt H71))).other W1975 (Or.inl (Nat.ne_of_lt H72))).other W1980 (Or.inl (Nat.ne_of_lt H74))).other W1985 (Or.inl (Nat.ne_of_lt H75))).other W1990 (Or.inl (Nat.ne_of_lt H71))).other W1997 (Or.inl (Nat.ne_of_lt H74))).other W2001 (Or.inr (own_sne (own_f8 hw) (own_f10 hw) (by decide)))).other W2006 (Or.inr (own_sne (own_f8 hw) (own_f12 hw) (by decide))))
  have F2021 := (((((((((H44.keep K1940 nin0).other W1969 (Or.inl (Nat.ne_of_lt H71))).other W1975 (Or.inl (Nat.ne_of_lt H72))).other W1980 (Or.inl (Nat.ne_of_lt H74))).other W1985 (Or.inl (Nat.ne_of_lt H75))).other W1990 (Or.inl (Nat.ne_of_lt H71))).other W1997 (Or.inl (Nat.ne_of_lt H74))).other W2001 (Or.inr (own_sne (own_f9 hw) (own_f10 hw) (by decide)))).other W2006 (Or.inr (own_sne (own_f9 hw) (own_f12 hw) (by decide))))
  have F2022 := (F2002.other W2006 (Or.inr (own_sne (own_f10 hw) (own_f12 hw) (by decide))))
  have F2023 := (((((((((H46.keep K1940 nin0).other W1969 (Or.inl (Nat.ne_of_lt H71))).other W1975 (Or.inl (Nat.ne_of_lt H72))).other W1980 (Or.inl (Nat.ne_of_lt H74))).other W1985 (Or.inl (Nat.ne_of_lt H75))).other W1990 (Or.inl (Nat.ne_of_lt H71))).other W1997 (Or.inl (Nat.ne_of_lt H74))).other W2001 (Or.inr (own_sne (own_f11 hw) (own_f10 hw) (by decide)))).other W2006 (Or.inr (own_sne (own_f11 hw) (own_f12 hw) (by decide))))
  have F2024 := (((((((((H48.keep K1940 nin0).other W1969 (Or.inl (Nat.ne_of_lt H71))).other W1975 (Or.inl (Nat.ne_of_lt H72))).other W1980 (Or.inl (Nat.ne_of_lt H74))).other W1985 (Or.inl (Nat.ne_of_lt H75))).other W1990 (Or.inl (Nat.ne_of_lt H71))).other W1997 (Or.inl (Nat.ne_of_lt H74))).other W2001 (Or.inr (own_sne (own_f13 hw) (own_f10 hw) (by decide)))).other W2006 (Or.inr (own_sne (own_f13 hw) (own_f12 hw) (by decide))))
  have F2025 := ((((((((F1944.wr W1969).wr W1975).wr W1980).wr W1985).wr W1990).wr W1997).wr W2001).wr W2006)
  have F2026 := ((((((((F1945.other W1969 (Or.inl (Nat.ne_of_gt lt1959))).other W1975 (Or.inl (Nat.ne_of_gt lt1958))).other W1980 (Or.inl (Nat.ne_of_gt lt1956))).other W1985 (Or.inl (Nat.ne_of_gt lt1955))).other W1990 (Or.inl (Nat.ne_of_gt lt1959))).other W1997 (Or.inl (Nat.ne_of_gt lt1956))).other W2001 (Or.inl (Nat.ne_of_gt lt1954))).other W2006 (Or.inl (Nat.ne_of_gt lt1954)))
  have F2027 := ((((((((F1946.other W1969 (Or.inl (Nat.ne_of_gt lt1959))).other W1975 (Or.inl (Nat.ne_of_gt lt1958))).other W1980 (Or.inl (Nat.ne_of_gt lt1956))).other W1985 (Or.inl (Nat.ne_of_gt lt1955))).other W1990 (Or.inl (Nat.ne_of_gt lt1959))).other W1997 (Or.inl (Nat.ne_of_gt lt1956))).other W2001 (Or.inl (Nat.ne_of_gt lt1954))).other W2006 (Or.inl (Nat.ne_of_gt lt1954)))
  have F2028 := ((((((((F1947.other W1969 (Or.inl (Nat.ne_of_gt lt1959))).other W1975 (Or.inl (Nat.ne_of_gt lt1958))).other W1980 (Or.inl (Nat.ne_of_gt lt1956))).other W1985 (Or.inl (Nat.ne_of_gt lt1955))).other W1990 (Or.inl (Nat.ne_of_gt lt1959))).other W1997 (Or.inl (Nat.ne_of_gt lt1956))).other W2001 (Or.inl (Nat.ne_of_gt lt1954))).other W2006 (Or.inl (Nat.ne_of_gt lt1954)))
  have F2029 := ((((((((F1948.other W1969 (Or.inl (Nat.ne_of_gt lt1959))).other W1975 (Or.inl (Nat.ne_of_gt lt1958))).other W1980 (Or.inl (Nat.ne_of_gt lt1956))).other W1985 (Or.inl (Nat.ne_of_gt lt1955))).other W1990 (Or.inl (Nat.ne_of_gt lt1959))).other W1997 (Or.inl (Nat.ne_of_gt lt1956))).other W2001 (Or.inl (Nat.ne_of_gt lt1954))).other W2006 (Or.inl (Nat.ne_of_gt lt1954)))
  have F2030 := ((((((((F1949.other W1969 (Or.inl (Nat.ne_of_gt lt1959))).other W1975 (Or.inl (Nat.ne_of_gt lt1958))).other W1980 (Or.inl (Nat.ne_of_gt lt1956))).other W1985 (Or.inl (Nat.ne_of_gt lt1955))).other W1990 (Or.inl (Nat.ne_of_gt lt1959))).other W1997 (Or.inl (Nat.ne_of_gt lt1956))).other W2001 (Or.inl (Nat.ne_of_gt lt1954))).other W2006 (Or.inl (Nat.ne_of_gt lt1954)))
  have F2031 := ((((((((F1950.other W1969 (Or.inl (Nat.ne_of_gt lt1959))).other W1975 (Or.inl (Nat.ne_of_gt lt1958))).other W1980 (Or.inl (Nat.ne_of_gt lt1956))).other W1985 (Or.inl (Nat.ne_of_gt lt1955))).other W1990 (Or.inl (Nat.ne_of_gt lt1959))).other W1997 (Or.inl (Nat.ne_of_gt lt1956))).other W2001 (Or.inl (Nat.ne_of_gt lt1954))).other W2006 (Or.inl (Nat.ne_of_gt lt1954)))
  exact own_ret0 X2006 hx hlk hret (hb hby d10_88) e2006 ⟨a1941, f1942, rfl, N2006, ((((((((((Keep.refl _ _).trans K1940 all0).wr W1969 (Or.inl (by simp))).wr W1975 (Or.inl (by simp))).wr W1980 (Or.inl (by simp))).wr W1985 (Or.inl (by simp))).wr W1990 (Or.inl (by simp))).wr W1997 (Or.inl (by simp))).wr W2001 (Or.inl (by simp))).wr W2006 (Or.inl (by simp))), ge1967, F2008, F2009, F2010, F2011, F2012, F2013, F2014, F2015, F2016, F2017, F2018, F2019, F2020, F2021, F2022, F2023, F2007, F2024, F2025, F2026, F2027, F2028, F2029, F2030, F2031, D1951⟩ (by decide) (by decide)
theorem own_pd12 : parseMethodDescriptor "(I)V" = some ⟨[.int], none⟩ := by decide +kernel
def own_s44_Q (Z : State) (a2115 : Addr) (h0 : Heap) (n0 : Nat) (v_ : Option Value) (h_ : Heap) (L_ : List Loc) : Prop := (fun v h L => v = none ∧ Fr n0 L ∧ h = h0) v_ h_ L_
set_option maxRecDepth 65536 in
set_option maxHeartbeats 40000000 in
theorem own_s44 (l : Launch) (Z : State) (a0 : Array Value) (hw : ∀ d ∈ tables_1, d.before a0 Z = true) (wds : List Jvm.Cond) (a2115 : Addr) (h0 : Heap) (n0 : Nat) (Z0 : n0 ≤ h0.size)  :
    MetFree l (⟨"java/lang/Record", "<init>", "()V"⟩ : MethodName) (head1 (Jvm.Cond.code (⟨"java/lang/Record", "<init>", "()V"⟩ : MethodName) jdk_30_method_1_code 1 none :: wds) ({ frames := 1, cells := 0, slots := 0, locals := 12 } : Room)) (fun ar_ U_ => ar_ = #[(.ref a2115)] ∧ Z.Warmed39 U_.vm ∧ U_.heap = h0) (fun _ _ _ _ _ => True) (fun _ U_ o_ V_ => ∃ v_ L_, o_ = .returned v_ ∧ own_s44_Q Z a2115 h0 n0 v_ V_.heap L_ ∧ FrameEnd U_ o_ V_ L_ ({ frames := 1, cells := 0, slots := 0, locals := 12 } : Room).cells ({ frames := 1, cells := 0, slots := 0, locals := 12 } : Room).slots) := by
  refine own_met (y := ⟨"java/lang/Record", "<init>", "()V"⟩) (Q := own_s44_Q Z a2115 h0 n0) own_pn3 ?_
  intro p e s m below meth c s₁ hx hby hml hZ hown hnm hret hlk X0 e0
  have N0 := Fr.nil n0
  refine own_cast (g' := (mkF m 0 #[.val (.ref a2115)] [])) (by first | (simp [entryFrame, mkF, argsToLocals, Value.category]; done) | rfl) ?_
  refine own_alN (w := (.ref a2115)) X0 hx (hb hby d6_0) rfl rfl ?_
  refine own_init0 X0 hx hZ hown (own_w hw 64 rfl) (own_w hw 11 rfl) (own_w hw 12 rfl) e0 (hb hby d6_1) (by rw [hml]; rfl) (by decide) (W := 0) (Nat.le_of_eq rfl) (by decide) ?_
  intro T2128 X2128 e2128
  show own_Go _ _ _ _ _ _ _ T2128 (mkF m 4 #[.val (.ref a2115)] [])
  exact own_ret0 X2128 hx hlk hret (hb hby d6_4) e2128 ⟨rfl, N0, rfl⟩ (by decide) (by decide)
def own_s43_Q (Z : State) (a2115 : Addr) (f2113 : UInt64) (h0 : Heap) (n0 : Nat) (v_ : Option Value) (h_ : Heap) (L_ : List Loc) : Prop := (fun v h L => v = none ∧ Fr n0 L ∧ Keep h0 h [a2115] ∧ Fld Z h a2115 own_k1 "low" "D" (.double (4629137466983448576 : UInt64)) ∧ Fld Z h a2115 own_k1 "gapLow" "D" (.double (4630826316843712512 : UInt64)) ∧ Fld Z h a2115 own_k1 "gapHigh" "D" (.double (4630826316843712512 : UInt64)) ∧ Fld Z h a2115 own_k1 "high" "D" (.double (4630826316843712512 : UInt64)) ∧ Fld Z h a2115 own_k1 "below" "D" (.double f2113) ∧ Fld Z h a2115 own_k1 "count" "D" (.double f2113)) v_ h_ L_
set_option maxRecDepth 65536 in
set_option maxHeartbeats 40000000 in
theorem own_s43 (l : Launch) (Z : State) (a0 : Array Value) (hw : ∀ d ∈ tables_1, d.before a0 Z = true) (wds : List Jvm.Cond) (a2115 : Addr) (f2113 : UInt64) (h0 : Heap) (n0 : Nat) (Z0 : n0 ≤ h0.size) (H3 : Exa Z h0 a2115 own_k1) (H4 : Fld Z h0 a2115 own_k1 "low" "D" (.double (0 : UInt64))) (H5 : Fld Z h0 a2115 own_k1 "gapLow" "D" (.double (0 : UInt64))) (H6 : Fld Z h0 a2115 own_k1 "gapHigh" "D" (.double (0 : UInt64))) (H7 : Fld Z h0 a2115 own_k1 "high" "D" (.double (0 : UInt64))) (H8 : Fld Z h0 a2115 own_k1 "below" "D" (.double (0 : UInt64))) (H9 : Fld Z h0 a2115 own_k1 "count" "D" (.double (0 : UInt64))) (H11 : n0 ≤ a2115) :
    MetFree l (⟨own_k1, "<init>", "(DDDDDD)V"⟩ : MethodName) (head1 (Jvm.Cond.code (⟨own_k1, "<init>", "(DDDDDD)V"⟩ : MethodName) prog_17_method_1_code 13 none :: wds) ({ frames := 2, cells := 0, slots := 0, locals := 24 } : Room)) (fun ar_ U_ => ar_ = #[(.ref a2115), (.double (4629137466983448576 : UInt64)), (.double (4630826316843712512 : UInt64)), (.double (4630826316843712512 : UInt64)), (.double (4630826316843712512 : UInt64)), (.double f2113), (.double f2113)] ∧ Z.Warmed39 U_.vm ∧ U_.heap = h0) (fun _ _ _ _ _ => True) (fun _ U_ o_ V_ => ∃ v_ L_, o_ = .returned v_ ∧ own_s43_Q Z a2115 f2113 h0 n0 v_ V_.heap L_ ∧ FrameEnd U_ o_ V_ L_ ({ frames := 2, cells := 0, slots := 0, locals := 24 } : Room).cells ({ frames := 2, cells := 0, slots := 0, locals := 24 } : Room).slots) := by
  refine own_met (y := ⟨own_k1, "<init>", "(DDDDDD)V"⟩) (Q := own_s43_Q Z a2115 f2113 h0 n0) own_pn2 ?_
  intro p e s m below meth c s₁ hx hby hml hZ hown hnm hret hlk X0 e0
  have N0 := Fr.nil n0
  refine own_cast (g' := (mkF m 0 #[.val (.ref a2115), .val (.double (4629137466983448576 : UInt64)), .second, .val (.double (4630826316843712512 : UInt64)), .second, .val (.double (4630826316843712512 : UInt64)), .second, .val (.double (4630826316843712512 : UInt64)), .second, .val (.double f2113), .second, .val (.double f2113), .second] [])) (by first | (simp [entryFrame, mkF, argsToLocals, Value.category]; done) | rfl) ?_
  generalize hL2125 : (#[.val (.ref a2115), .val (.double (4629137466983448576 : UInt64)), .second, .val (.double (4630826316843712512 : UInt64)), .second, .val (.double (4630826316843712512 : UInt64)), .second, .val (.double (4630826316843712512 : UInt64)), .second, .val (.double f2113), .second, .val (.double f2113), .second] : Array Slot) = L2125
  refine own_alN (w := (.ref a2115)) X0 hx (hb hby d5_0) (by rw [← hL2125]; rfl) rfl ?_
  refine own_init (a := a2115) (argsL := []) (rest := []) X0 hx hZ hown (own_s44 l Z a0 hw [] a2115 h0 n0 Z0 ) rfl (own_w hw 59 rfl) (own_w hw 60 rfl) (own_w hw 63 rfl) (own_w hw 62 rfl) (by decide) e0 (hb hby d5_1) (by rw [hml, ← hL2125]; rfl) rfl (lenOf own_pd0 rfl) (by decide) (W := 0) (Nat.le_of_eq rfl) (by decide) (by decide) (by decide) ?_
  intro v2129 T2129 lo2129 X2129 Q2129
  obtain ⟨h2129, e2129⟩ : ∃ h, T2129.heap = h := ⟨_, rfl⟩
  rw [e2129] at Q2129
  obtain ⟨rfl, N2129, K2129⟩ := Q2129
  have N2129' := Fr.app N0 N2129
  have e2129' : T2129.heap = h0 := e2129.trans K2129
  show own_Go _ _ _ _ _ _ _ T2129 (mkF m 4 L2125 [])
  refine own_alN (w := (.ref a2115)) X2129 hx (hb hby d5_4) (by rw [← hL2125]; rfl) rfl ?_
  refine own_dlN (w := (4629137466983448576 : UInt64)) X2129 hx (hb hby d5_5) (by rw [← hL2125]; rfl) ?_
  refine own_putf X2129 hx hZ hown (own_w hw 65 rfl) e2129' N2129' H11 H4 H3 (Or.inr ⟨(own_w hw 66 rfl), rfl, hnm⟩) (own_w hw 55 rfl) (ty := .double) (by decide) rfl rfl (hb hby d5_6) ?_
  intro T2130 h2130 lo2130 X2130 e2130 N2130 W2130
  have F2131 := H4.same W2130
  show own_Go _ _ _ _ _ _ _ T2130 (mkF m 9 L2125 [])
  refine own_alN (w := (.ref a2115)) X2130 hx (hb hby d5_9) (by rw [← hL2125]; rfl) rfl ?_
  refine own_dlN (w := (4630826316843712512 : UInt64)) X2130 hx (hb hby d5_10) (by rw [← hL2125]; rfl) ?_
  have F2132 := (H5.other W2130 (Or.inr (own_sne (own_f14 hw) (own_f15 hw) (by decide))))
  have F2133 := (H3.wr W2130)
  refine own_putf X2130 hx hZ hown (own_w hw 67 rfl) e2130 N2130 H11 F2132 F2133 (Or.inr ⟨(own_w hw 68 rfl), rfl, hnm⟩) (own_w hw 55 rfl) (ty := .double) (by decide) rfl rfl (hb hby d5_11) ?_
  intro T2134 h2134 lo2134 X2134 e2134 N2134 W2134
  have F2135 := F2132.same W2134
  show own_Go _ _ _ _ _ _ _ T2134 (mkF m 14 L2125 [])
  refine own_alN (w := (.ref a2115)) X2134 hx (hb hby d5_14) (by rw [← hL2125]; rfl) rfl ?_
  refine own_dl (w := (4630826316843712512 : UInt64)) X2134 hx (hb hby d5_15) (by rw [← hL2125]; rfl) ?_
  have F2136 := ((H6.other W2130 (Or.inr (own_sne (own_f16 hw) (own_f15 hw) (by decide)))).other W2134 (Or.inr (own_sne (own_f16 hw) (own_f14 hw) (by decide))))
  have F2137 := (F2133.wr W2134)
  refine own_putf X2134 hx hZ hown (own_w hw 69 rfl) e2134 N2134 H11 F2136 F2137 (Or.inr ⟨(own_w hw 70 rfl), rfl, hnm⟩) (own_w hw 55 rfl) (ty := .double) (by decide) rfl rfl (hb hby d5_17) ?_
  intro T2138 h2138 lo2138 X2138 e2138 N2138 W2138
  have F2139 := F2136.same W2138
  show own_Go _ _ _ _ _ _ _ T2138 (mkF m 20 L2125 [])
  refine own_alN (w := (.ref a2115)) X2138 hx (hb hby d5_20) (by rw [← hL2125]; rfl) rfl ?_
  refine own_dl (w := (4630826316843712512 : UInt64)) X2138 hx (hb hby d5_21) (by rw [← hL2125]; rfl) ?_
  have F2140 := (((H7.other W2130 (Or.inr (own_sne (own_f17 hw) (own_f15 hw) (by decide)))).other W2134 (Or.inr (own_sne (own_f17 hw) (own_f14 hw) (by decide)))).other W2138 (Or.inr (own_sne (own_f17 hw) (own_f16 hw) (by decide))))
  have F2141 := (F2137.wr W2138)
  refine own_putf X2138 hx hZ hown (own_w hw 71 rfl) e2138 N2138 H11 F2140 F2141 (Or.inr ⟨(own_w hw 72 rfl), rfl, hnm⟩) (own_w hw 55 rfl) (ty := .double) (by decide) rfl rfl (hb hby d5_23) ?_
  intro T2142 h2142 lo2142 X2142 e2142 N2142 W2142
  have F2143 := F2140.same W2142
  show own_Go _ _ _ _ _ _ _ T2142 (mkF m 26 L2125 [])
  refine own_alN (w := (.ref a2115)) X2142 hx (hb hby d5_26) (by rw [← hL2125]; rfl) rfl ?_
  refine own_dl (w := f2113) X2142 hx (hb hby d5_27) (by rw [← hL2125]; rfl) ?_
  have F2144 := ((((H8.other W2130 (Or.inr (own_sne (own_f18 hw) (own_f15 hw) (by decide)))).other W2134 (Or.inr (own_sne (own_f18 hw) (own_f14 hw) (by decide)))).other W2138 (Or.inr (own_sne (own_f18 hw) (own_f16 hw) (by decide)))).other W2142 (Or.inr (own_sne (own_f18 hw) (own_f17 hw) (by decide))))
  have F2145 := (F2141.wr W2142)
  refine own_putf X2142 hx hZ hown (own_w hw 73 rfl) e2142 N2142 H11 F2144 F2145 (Or.inr ⟨(own_w hw 74 rfl), rfl, hnm⟩) (own_w hw 55 rfl) (ty := .double) (by decide) rfl rfl (hb hby d5_29) ?_
  intro T2146 h2146 lo2146 X2146 e2146 N2146 W2146
  have F2147 := F2144.same W2146
  show own_Go _ _ _ _ _ _ _ T2146 (mkF m 32 L2125 [])
  refine own_alN (w := (.ref a2115)) X2146 hx (hb hby d5_32) (by rw [← hL2125]; rfl) rfl ?_
  refine own_dl (w := f2113) X2146 hx (hb hby d5_33) (by rw [← hL2125]; rfl) ?_
  have F2148 := (((((H9.other W2130 (Or.inr (own_sne (own_f19 hw) (own_f15 hw) (by decide)))).other W2134 (Or.inr (own_sne (own_f19 hw) (own_f14 hw) (by decide)))).other W2138 (Or.inr (own_sne (own_f19 hw) (own_f16 hw) (by decide)))).other W2142 (Or.inr (own_sne (own_f19 hw) (own_f17 hw) (by decide)))).other W2146 (Or.inr (own_sne (own_f19 hw) (own_f18 hw) (by decide))))
  have F2149 := (F2145.wr W2146)
  refine own_putf X2146 hx hZ hown (own_w hw 75 rfl) e2146 N2146 H11 F2148 F2149 (Or.inr ⟨(own_w hw 76 rfl), rfl, hnm⟩) (own_w hw 55 rfl) (ty := .double) (by decide) rfl rfl (hb hby d5_35) ?_
  intro T2150 h2150 lo2150 X2150 e2150 N2150 W2150
  have F2151 := F2148.same W2150
  show own_Go _ _ _ _ _ _ _ T2150 (mkF m 38 L2125 [])
  have F2152 := (((((F2131.other W2134 (Or.inr (own_sne (own_f15 hw) (own_f14 hw) (by decide)))).other W2138 (Or.inr (own_sne (own_f15 hw) (own_f16 hw) (by decide)))).other W2142 (Or.inr (own_sne (own_f15 hw) (own_f17 hw) (by decide)))).other W2146 (Or.inr (own_sne (own_f15 hw) (own_f18 hw) (by decide)))).other W2150 (Or.inr (own_sne (own_f15 hw) (own_f19 hw) (by decide))))
  have F2153 := ((((F2135.other W2138 (Or.inr (own_sne (own_f14 hw) (own_f16 hw) (by decide)))).other W2142 (Or.inr (own_sne (own_f14 hw) (own_f17 hw) (by decide)))).other W2146 (Or.inr (own_sne (own_f14 hw) (own_f18 hw) (by decide)))).other W2150 (Or.inr (own_sne (own_f14 hw) (own_f19 hw) (by decide))))
  have F2154 := (((F2139.other W2142 (Or.inr (own_sne (own_f16 hw) (own_f17 hw) (by decide)))).other W2146 (Or.inr (own_sne (own_f16 hw) (own_f18 hw) (by decide)))).other W2150 (Or.inr (own_sne (own_f16 hw) (own_f19 hw) (by decide))))
  have F2155 := ((F2143.other W2146 (Or.inr (own_sne (own_f17 hw) (own_f18 hw) (by decide)))).other W2150 (Or.inr (own_sne (own_f17 hw) (own_f19 hw) (by decide))))
  have F2156 := (F2147.other W2150 (Or.inr (own_sne (own_f18 hw) (own_f19 hw) (by decide))))
  exact own_ret0 X2150 hx hlk hret (hb hby d5_38) e2150 ⟨rfl, N2150, (((((((Keep.refl _ _).wr W2130 (Or.inl (by simp))).wr W2134 (Or.inl (by simp))).wr W2138 (Or.inl (by simp))).wr W2142 (Or.inl (by simp))).wr W2146 (Or.inl (by simp))).wr W2150 (Or.inl (by simp))), F2152, F2153, F2154, F2155, F2156, F2151⟩ (by decide) (by decide)
def own_s42_Q (Z : State) (f2113 : UInt64) (h0 : Heap) (n0 : Nat) (v_ : Option Value) (h_ : Heap) (L_ : List Loc) : Prop := (fun v h L => ∃ (a2115 : Addr), v = some (.ref a2115) ∧ Fr n0 L ∧ Keep h0 h [] ∧ h0.size ≤ a2115 ∧ Exa Z h a2115 own_k1 ∧ Fld Z h a2115 own_k1 "low" "D" (.double (4629137466983448576 : UInt64)) ∧ Fld Z h a2115 own_k1 "gapLow" "D" (.double (4630826316843712512 : UInt64)) ∧ Fld Z h a2115 own_k1 "gapHigh" "D" (.double (4630826316843712512 : UInt64)) ∧ Fld Z h a2115 own_k1 "high" "D" (.double (4630826316843712512 : UInt64)) ∧ Fld Z h a2115 own_k1 "below" "D" (.double f2113) ∧ Fld Z h a2115 own_k1 "count" "D" (.double f2113)) v_ h_ L_
set_option maxRecDepth 65536 in
set_option maxHeartbeats 40000000 in
theorem own_s42 (l : Launch) (Z : State) (a0 : Array Value) (hw : ∀ d ∈ tables_1, d.before a0 Z = true) (wds : List Jvm.Cond) (f2113 : UInt64) (h0 : Heap) (n0 : Nat) (Z0 : n0 ≤ h0.size)  :
    MetFree l (⟨own_k1, "of", own_k5⟩ : MethodName) (head1 (Jvm.Cond.code (⟨own_k1, "of", own_k5⟩ : MethodName) prog_17_method_2_code 6 (some (.object own_k1)) :: wds) ({ frames := 3, cells := 1, slots := 6, locals := 49 } : Room)) (fun ar_ U_ => ar_ = #[(.double (4629137466983448576 : UInt64)), (.double (4630826316843712512 : UInt64)), (.double f2113)] ∧ Z.Warmed39 U_.vm ∧ U_.heap = h0) (fun _ _ _ _ _ => True) (fun _ U_ o_ V_ => ∃ v_ L_, o_ = .returned v_ ∧ own_s42_Q Z f2113 h0 n0 v_ V_.heap L_ ∧ FrameEnd U_ o_ V_ L_ ({ frames := 3, cells := 1, slots := 6, locals := 49 } : Room).cells ({ frames := 3, cells := 1, slots := 6, locals := 49 } : Room).slots) := by
  refine own_met (y := ⟨own_k1, "of", own_k5⟩) (Q := own_s42_Q Z f2113 h0 n0) own_pn2 ?_
  intro p e s m below meth c s₁ hx hby hml hZ hown hnm hret hlk X0 e0
  have N0 := Fr.nil n0
  refine own_cast (g' := (mkF m 0 #[.val (.double (4629137466983448576 : UInt64)), .second, .val (.double (4630826316843712512 : UInt64)), .second, .val (.double f2113), .second] [])) (by first | (simp [entryFrame, mkF, argsToLocals, Value.category]; done) | rfl) ?_
  generalize hL2114 : (#[.val (.double (4629137466983448576 : UInt64)), .second, .val (.double (4630826316843712512 : UInt64)), .second, .val (.double f2113), .second] : Array Slot) = L2114
  refine own_newobj X0 hx hZ hown (own_w hw 54 rfl) (own_w hw 55 rfl) (own_w hw 52 rfl) e0 (hb hby d4_0) (by decide) (by decide) ?_
  intro T2115 h2115 a2115 g2115 X2115 e2115 E2115 A2115 D2115
  have ge2117 : h0.size ≤ a2115 := Nat.le_trans (Nat.le_refl _) (Nat.le_of_eq g2115.symm)
  have nw2118 : n0 ≤ a2115 := Nat.le_trans Z0 (Nat.le_of_eq g2115.symm)
  have F2119 : Fld Z h2115 a2115 own_k1 "low" "D" (.double (0 : UInt64)) := D2115 (Or.inr (own_w hw 66 rfl)) (ty := .double) (by decide)
  have F2120 : Fld Z h2115 a2115 own_k1 "gapLow" "D" (.double (0 : UInt64)) := D2115 (Or.inr (own_w hw 68 rfl)) (ty := .double) (by decide)
  have F2121 : Fld Z h2115 a2115 own_k1 "gapHigh" "D" (.double (0 : UInt64)) := D2115 (Or.inr (own_w hw 70 rfl)) (ty := .double) (by decide)
  have F2122 : Fld Z h2115 a2115 own_k1 "high" "D" (.double (0 : UInt64)) := D2115 (Or.inr (own_w hw 72 rfl)) (ty := .double) (by decide)
  have F2123 : Fld Z h2115 a2115 own_k1 "below" "D" (.double (0 : UInt64)) := D2115 (Or.inr (own_w hw 74 rfl)) (ty := .double) (by decide)
  have F2124 : Fld Z h2115 a2115 own_k1 "count" "D" (.double (0 : UInt64)) := D2115 (Or.inr (own_w hw 76 rfl)) (ty := .double) (by decide)
  show own_Go _ _ _ _ _ _ _ T2115 (mkF m 3 L2114 [(.ref a2115)])
  refine own_pre (g' := (mkF m 4 L2114 [(.ref a2115), (.ref a2115)])) (fun t k => XS.dup X2115.here hx rfl (hb hby d4_3) rfl rfl k) ?_
  refine own_dlN (w := (4629137466983448576 : UInt64)) X2115 hx (hb hby d4_4) (by rw [← hL2114]; rfl) ?_
  refine own_dlN (w := (4630826316843712512 : UInt64)) X2115 hx (hb hby d4_5) (by rw [← hL2114]; rfl) ?_
  refine own_dlN (w := (4630826316843712512 : UInt64)) X2115 hx (hb hby d4_6) (by rw [← hL2114]; rfl) ?_
  refine own_dlN (w := (4630826316843712512 : UInt64)) X2115 hx (hb hby d4_7) (by rw [← hL2114]; rfl) ?_
  refine own_dl (w := f2113) X2115 hx (hb hby d4_8) (by rw [← hL2114]; rfl) ?_
  refine own_dl (w := f2113) X2115 hx (hb hby d4_10) (by rw [← hL2114]; rfl) ?_
  have F2157 : n0 ≤ h2115.size := (Nat.le_trans Z0 E2115.1)
  refine own_init (a := a2115) (argsL := [(.double (4629137466983448576 : UInt64)), (.double (4630826316843712512 : UInt64)), (.double (4630826316843712512 : UInt64)), (.double (4630826316843712512 : UInt64)), (.double f2113), (.double f2113)]) (rest := [(.ref a2115)]) X2115 hx hZ hown (own_s43 l Z a0 hw [] a2115 f2113 h2115 n0 F2157 A2115 F2119 F2120 F2121 F2122 F2123 F2124 nw2118) rfl (own_w hw 56 rfl) (own_w hw 57 rfl) (own_w hw 58 rfl) (own_w hw 52 rfl) (by decide) e2115 (hb hby d4_12) (by rw [hml, ← hL2114]; rfl) rfl (lenOf own_pd1 rfl) (by decide) (W := 1) (Nat.le_of_eq rfl) (by decide) (by decide) (by decide) ?_
  intro v2158 T2158 lo2158 X2158 Q2158
  obtain ⟨h2158, e2158⟩ : ∃ h, T2158.heap = h := ⟨_, rfl⟩
  rw [e2158] at Q2158
  obtain ⟨rfl, N2158, K2158, F2159, F2160, F2161, F2162, F2163, F2164⟩ := Q2158
  have N2158' := Fr.app N0 N2158
  show own_Go _ _ _ _ _ _ _ T2158 (mkF m 15 L2114 [(.ref a2115)])
  have F2166 := (A2115.keep K2158)
  exact own_retA X2158 hx hlk hret rfl rfl rfl (hb hby d4_15) e2158 ⟨a2115, rfl, N2158', (((Keep.refl _ _).ext E2115).trans K2158 (allS (Or.inr ge2117) all0)), ge2117, F2166, F2159, F2160, F2161, F2162, F2163, F2164⟩ (by decide) (by decide)
def own_s47_Q (Z : State) (a33 : Addr) (a274 : Addr) (a273 : Addr) (a272 : Addr) (a271 : Addr) (a270 : Addr) (a269 : Addr) (a268 : Addr) (a267 : Addr) (h0 : Heap) (n0 : Nat) (v_ : Option Value) (h_ : Heap) (L_ : List Loc) : Prop := (fun v h L => v = some (.int (1 : Int32)) ∧ Fr n0 L ∧ Keep h0 h [a33] ∧ Fld Z h a33 own_k0 "thresholds" "[D" (.ref a267) ∧ Fld Z h a33 own_k0 "ranks" "[D" (.ref a268) ∧ Fld Z h a33 own_k0 "guarded" "[Z" (.ref a269) ∧ Fld Z h a33 own_k0 "extents" own_k4 (.ref a270) ∧ Fld Z h a33 own_k0 "addedAtThreshold" "[Z" (.ref a271) ∧ Fld Z h a33 own_k0 "copies" "[J" (.ref a272) ∧ Fld Z h a33 own_k0 "nextOf" "[I" (.ref a273) ∧ Fld Z h a33 own_k0 "previousOf" "[I" (.ref a274) ∧ Fld Z h a33 own_k0 "first" "I" (.int (0 : Int32)) ∧ Fld Z h a33 own_k0 "last" "I" (.int (2 : Int32)) ∧ Fld Z h a33 own_k0 "free" "I" (.int (-1 : Int32)) ∧ Fld Z h a33 own_k0 "smallestMagnitude" "D" (.double (9218868437227405312 : UInt64)) ∧ Fld Z h a33 own_k0 "size" "I" (.int (2 : Int32)) ∧ Fld Z h a33 own_k0 "used" "I" (.int (3 : Int32))) v_ h_ L_
set_option maxRecDepth 65536 in
set_option maxHeartbeats 40000000 in
theorem own_s47 (l : Launch) (Z : State) (a0 : Array Value) (hw : ∀ d ∈ tables_1, d.before a0 Z = true) (wds : List Jvm.Cond) (a33 : Addr) (a274 : Addr) (a273 : Addr) (a272 : Addr) (a271 : Addr) (a270 : Addr) (a269 : Addr) (a268 : Addr) (a267 : Addr) (h0 : Heap) (n0 : Nat) (Z0 : n0 ≤ h0.size) (H3 : Exa Z h0 a33 own_k0) (H25 : own_Ary Z h0 a273 .int ([(.int (2 : Int32)), (.int (-1 : Int32)), (.int (-1 : Int32))] ++ own_rI 13)) (H28 : Fld Z h0 a33 own_k0 "thresholds" "[D" (.ref a267)) (H29 : Fld Z h0 a33 own_k0 "ranks" "[D" (.ref a268)) (H30 : Fld Z h0 a33 own_k0 "guarded" "[Z" (.ref a269)) (H31 : Fld Z h0 a33 own_k0 "extents" own_k4 (.ref a270)) (H32 : Fld Z h0 a33 own_k0 "addedAtThreshold" "[Z" (.ref a271)) (H33 : Fld Z h0 a33 own_k0 "copies" "[J" (.ref a272)) (H34 : Fld Z h0 a33 own_k0 "nextOf" "[I" (.ref a273)) (H35 : Fld Z h0 a33 own_k0 "previousOf" "[I" (.ref a274)) (H36 : Fld Z h0 a33 own_k0 "first" "I" (.int (0 : Int32))) (H37 : Fld Z h0 a33 own_k0 "last" "I" (.int (2 : Int32))) (H38 : Fld Z h0 a33 own_k0 "free" "I" (.int (1 : Int32))) (H39 : Fld Z h0 a33 own_k0 "smallestMagnitude" "D" (.double (9218868437227405312 : UInt64))) (H40 : Fld Z h0 a33 own_k0 "size" "I" (.int (2 : Int32))) (H41 : Fld Z h0 a33 own_k0 "used" "I" (.int (3 : Int32))) (H70 : n0 ≤ a33) :
    MetFree l (⟨own_k0, "allocate", "()I"⟩ : MethodName) (head1 (Jvm.Cond.code (⟨own_k0, "allocate", "()I"⟩ : MethodName) prog_5_method_56_code 2 (some .int) :: wds) ({ frames := 0, cells := 0, slots := 0, locals := 0 } : Room)) (fun ar_ U_ => ar_ = #[(.ref a33)] ∧ Z.Warmed39 U_.vm ∧ U_.heap = h0) (fun _ _ _ _ _ => True) (fun _ U_ o_ V_ => ∃ v_ L_, o_ = .returned v_ ∧ own_s47_Q Z a33 a274 a273 a272 a271 a270 a269 a268 a267 h0 n0 v_ V_.heap L_ ∧ FrameEnd U_ o_ V_ L_ ({ frames := 0, cells := 0, slots := 0, locals := 0 } : Room).cells ({ frames := 0, cells := 0, slots := 0, locals := 0 } : Room).slots) := by
  refine own_met (y := ⟨own_k0, "allocate", "()I"⟩) (Q := own_s47_Q Z a33 a274 a273 a272 a271 a270 a269 a268 a267 h0 n0) own_pn1 ?_
  intro p e s m below meth c s₁ hx hby hml hZ hown hnm hret hlk X0 e0
  have N0 := Fr.nil n0
  refine own_cast (g' := (mkF m 0 #[.val (.ref a33), .unset] [])) (by first | (simp [entryFrame, mkF, argsToLocals, Value.category]; done) | rfl) ?_
  refine own_alN (w := (.ref a33)) X0 hx (hb hby d9_0) rfl rfl ?_
  refine own_getf X0 hx hZ hown (own_w hw 37 rfl) e0 H38 (hb hby d9_1) ?_
  intro T2242 X2242 e2242
  show own_Go _ _ _ _ _ _ _ T2242 (mkF m 4 #[.val (.ref a33), .unset] [(.int (1 : Int32))])
  refine own_ic X2242 hx (-1 : Int32) (hb hby d9_4) rfl ?_
  refine own_pre (g' := (mkF m 8 #[.val (.ref a33), .unset] [])) (fun t k => XS.icmpNo X2242.here hx rfl (hb hby d9_5) rfl (by decide) k) ?_
  refine own_alN (w := (.ref a33)) X2242 hx (hb hby d9_8) rfl rfl ?_
  refine own_getf X2242 hx hZ hown (own_w hw 37 rfl) e2242 H38 (hb hby d9_9) ?_
  intro T2243 X2243 e2243
  show own_Go _ _ _ _ _ _ _ T2243 (mkF m 12 #[.val (.ref a33), .unset] [(.int (1 : Int32))])
  refine own_pre (g' := (mkF m 13 #[.val (.ref a33), .val (.int (1 : Int32))] [])) (fun t k => XS.istoreN X2243.here hx rfl (hb hby d9_12) rfl (l' := #[.val (.ref a33), .val (.int (1 : Int32))]) rfl k) ?_
  refine own_alN (w := (.ref a33)) X2243 hx (hb hby d9_13) rfl rfl ?_
  refine own_alN (w := (.ref a33)) X2243 hx (hb hby d9_14) rfl rfl ?_
  refine own_getf X2243 hx hZ hown (own_w hw 29 rfl) e2243 H34 (hb hby d9_15) ?_
  intro T2244 X2244 e2244
  show own_Go _ _ _ _ _ _ _ T2244 (mkF m 18 #[.val (.ref a33), .val (.int (1 : Int32))] [(.ref a273), (.ref a33)])
  refine own_ilN (w := (1 : Int32)) X2244 hx (hb hby d9_18) rfl ?_
  refine own_iaload X2244 hx hZ e2244 H25 (hb hby d9_19) (n := 1) (v := (.int (-1 : Int32))) (by decide) (by decide) rfl ?_
  show own_Go _ _ _ _ _ _ _ T2244 (mkF m 20 #[.val (.ref a33), .val (.int (1 : Int32))] [(.int (-1 : Int32)), (.ref a33)])
  refine own_putf X2244 hx hZ hown (own_w hw 37 rfl) e2244 N0 H70 H38 H3 (Or.inl (own_w hw 38 rfl)) (own_w hw 5 rfl) (ty := .int) (by decide) rfl rfl (hb hby d9_20) ?_
  intro T2245 h2245 lo2245 X2245 e2245 N2245 W2245
  have F2246 := H38.same W2245
  show own_Go _ _ _ _ _ _ _ T2245 (mkF m 23 #[.val (.ref a33), .val (.int (1 : Int32))] [])
  refine own_ilN (w := (1 : Int32)) X2245 hx (hb hby d9_23) rfl ?_
  have F2247 := (H28.other W2245 (Or.inr (own_sne (own_f1 hw) (own_f10 hw) (by decide))))
  have F2248 := (H29.other W2245 (Or.inr (own_sne (own_f0 hw) (own_f10 hw) (by decide))))
  have F2249 := (H30.other W2245 (Or.inr (own_sne (own_f2 hw) (own_f10 hw) (by decide))))
  have F2250 := (H31.other W2245 (Or.inr (own_sne (own_f3 hw) (own_f10 hw) (by decide))))
  have F2251 := (H32.other W2245 (Or.inr (own_sne (own_f4 hw) (own_f10 hw) (by decide))))
  have F2252 := (H33.other W2245 (Or.inr (own_sne (own_f5 hw) (own_f10 hw) (by decide))))
  have F2253 := (H34.other W2245 (Or.inr (own_sne (own_f6 hw) (own_f10 hw) (by decide))))
  have F2254 := (H35.other W2245 (Or.inr (own_sne (own_f7 hw) (own_f10 hw) (by decide))))
  have F2255 := (H36.other W2245 (Or.inr (own_sne (own_f8 hw) (own_f10 hw) (by decide))))
  have F2256 := (H37.other W2245 (Or.inr (own_sne (own_f9 hw) (own_f10 hw) (by decide))))
  have F2257 := (H39.other W2245 (Or.inr (own_sne (own_f11 hw) (own_f10 hw) (by decide))))
  have F2258 := (H40.other W2245 (Or.inr (own_sne (own_f12 hw) (own_f10 hw) (by decide))))
  have F2259 := (H41.other W2245 (Or.inr (own_sne (own_f13 hw) (own_f10 hw) (by decide))))
  exact own_retI X2245 hx hlk hret (hb hby d9_24) e2245 ⟨rfl, N2245, ((Keep.refl _ _).wr W2245 (Or.inl (by simp))), F2247, F2248, F2249, F2250, F2251, F2252, F2253, F2254, F2255, F2256, F2246, F2257, F2258, F2259⟩ (by decide) (by decide)
def own_s46_Q (Z : State) (a33 : Addr) (f2082 : UInt64) (a2168 : Addr) (a274 : Addr) (a273 : Addr) (a272 : Addr) (a271 : Addr) (a270 : Addr) (a269 : Addr) (a268 : Addr) (a267 : Addr) (a811 : Addr) (f386 : UInt64) (f858 : UInt64) (f1222 : UInt64) (a2034 : Addr) (h0 : Heap) (n0 : Nat) (v_ : Option Value) (h_ : Heap) (L_ : List Loc) : Prop := (fun v h L => v = some (.int (1 : Int32)) ∧ Fr n0 L ∧ Keep h0 h [a33, a267, a268, a269, a270, a271, a272, a273, a274] ∧ own_Ary Z h a272 .long (own_rJ 16) ∧ own_Ary Z h a269 .boolean (own_rI 16) ∧ own_Ary Z h a268 .double ([(.double f386), (.double f2082), (.double f1222)] ++ own_rD 13) ∧ own_Ary Z h a267 .double ([(.double (4621819117588971520 : UInt64)), (.double (4630826316843712512 : UInt64)), (.double (4629137466983448576 : UInt64))] ++ own_rD 13) ∧ own_Ary Z h a274 .int ([(.int (-1 : Int32)), (.int (2 : Int32))] ++ own_rI 14) ∧ own_Ary Z h a273 .int ([(.int (2 : Int32)), (.int (-1 : Int32)), (.int (1 : Int32))] ++ own_rI 13) ∧ own_Ary Z h a271 .boolean (own_rI 16) ∧ own_Ary Z h a270 (.object own_k1) ([(.ref a811), (.ref a2168), (.ref a2034)] ++ own_rN 13) ∧ Fld Z h a33 own_k0 "thresholds" "[D" (.ref a267) ∧ Fld Z h a33 own_k0 "ranks" "[D" (.ref a268) ∧ Fld Z h a33 own_k0 "guarded" "[Z" (.ref a269) ∧ Fld Z h a33 own_k0 "extents" own_k4 (.ref a270) ∧ Fld Z h a33 own_k0 "addedAtThreshold" "[Z" (.ref a271) ∧ Fld Z h a33 own_k0 "copies" "[J" (.ref a272) ∧ Fld Z h a33 own_k0 "nextOf" "[I" (.ref a273) ∧ Fld Z h a33 own_k0 "previousOf" "[I" (.ref a274) ∧ Fld Z h a33 own_k0 "first" "I" (.int (0 : Int32)) ∧ Fld Z h a33 own_k0 "last" "I" (.int (1 : Int32)) ∧ Fld Z h a33 own_k0 "free" "I" (.int (-1 : Int32)) ∧ Fld Z h a33 own_k0 "smallestMagnitude" "D" (.double (9218868437227405312 : UInt64)) ∧ Fld Z h a33 own_k0 "size" "I" (.int (3 : Int32)) ∧ Fld Z h a33 own_k0 "used" "I" (.int (3 : Int32))) v_ h_ L_
set_option maxRecDepth 65536 in
set_option maxHeartbeats 40000000 in
theorem own_s46 (l : Launch) (Z : State) (a0 : Array Value) (hw : ∀ d ∈ tables_1, d.before a0 Z = true) (wds : List Jvm.Cond) (a33 : Addr) (f2082 : UInt64) (a2168 : Addr) (a274 : Addr) (a273 : Addr) (a272 : Addr) (a271 : Addr) (a270 : Addr) (a269 : Addr) (a268 : Addr) (a267 : Addr) (a811 : Addr) (f386 : UInt64) (f858 : UInt64) (f1222 : UInt64) (a2034 : Addr) (h0 : Heap) (n0 : Nat) (Z0 : n0 ≤ h0.size) (H3 : Exa Z h0 a33 own_k0) (H9 : own_Ovr Z h0 a270 own_k1) (H20 : own_Ary Z h0 a272 .long (own_rJ 16)) (H21 : own_Ary Z h0 a269 .boolean (own_rI 16)) (H22 : own_Ary Z h0 a268 .double ([(.double f386), (.double f858), (.double f1222)] ++ own_rD 13)) (H23 : own_Ary Z h0 a267 .double ([(.double (4621819117588971520 : UInt64)), (.double (4626322717216342016 : UInt64)), (.double (4629137466983448576 : UInt64))] ++ own_rD 13)) (H24 : own_Ary Z h0 a274 .int ([(.int (-1 : Int32))] ++ own_rI 15)) (H25 : own_Ary Z h0 a273 .int ([(.int (2 : Int32)), (.int (-1 : Int32)), (.int (-1 : Int32))] ++ own_rI 13)) (H26 : own_Ary Z h0 a271 .boolean (own_rI 16)) (H27 : own_Ary Z h0 a270 (.object own_k1) ([(.ref a811), .null, (.ref a2034)] ++ own_rN 13)) (H28 : Fld Z h0 a33 own_k0 "thresholds" "[D" (.ref a267)) (H29 : Fld Z h0 a33 own_k0 "ranks" "[D" (.ref a268)) (H30 : Fld Z h0 a33 own_k0 "guarded" "[Z" (.ref a269)) (H31 : Fld Z h0 a33 own_k0 "extents" own_k4 (.ref a270)) (H32 : Fld Z h0 a33 own_k0 "addedAtThreshold" "[Z" (.ref a271)) (H33 : Fld Z h0 a33 own_k0 "copies" "[J" (.ref a272)) (H34 : Fld Z h0 a33 own_k0 "nextOf" "[I" (.ref a273)) (H35 : Fld Z h0 a33 own_k0 "previousOf" "[I" (.ref a274)) (H36 : Fld Z h0 a33 own_k0 "first" "I" (.int (0 : Int32))) (H37 : Fld Z h0 a33 own_k0 "last" "I" (.int (2 : Int32))) (H38 : Fld Z h0 a33 own_k0 "free" "I" (.int (1 : Int32))) (H39 : Fld Z h0 a33 own_k0 "smallestMagnitude" "D" (.double (9218868437227405312 : UInt64))) (H40 : Fld Z h0 a33 own_k0 "size" "I" (.int (2 : Int32))) (H41 : Fld Z h0 a33 own_k0 "used" "I" (.int (3 : Int32))) (H49 : Exa Z h0 a2168 own_k1) (H68 : a33 < a274) (H69 : a33 < a273) (H70 : a33 < a272) (H71 : a33 < a271) (H72 : a33 < a270) (H73 : a33 < a269) (H74 : a33 < a268) (H75 : a33 < a267) (H79 : n0 ≤ a33) (H80 : a273 < a274) (H81 : a272 < a274) (H82 : a271 < a274) (H83 : a270 < a274) (H84 : a269 < a274) (H85 : a268 < a274) (H86 : a267 < a274) (H90 : n0 ≤ a274) (H91 : a272 < a273) (H92 : a271 < a273) (H93 : a270 < a273) (H94 : a269 < a273) (H95 : a268 < a273) (H96 : a267 < a273) (H100 : n0 ≤ a273) (H101 : a271 < a272) (H102 : a270 < a272) (H103 : a269 < a272) (H104 : a268 < a272) (H105 : a267 < a272) (H109 : n0 ≤ a272) (H110 : a270 < a271) (H111 : a269 < a271) (H112 : a268 < a271) (H113 : a267 < a271) (H117 : n0 ≤ a271) (H118 : a269 < a270) (H119 : a268 < a270) (H120 : a267 < a270) (H124 : n0 ≤ a270) (H125 : a268 < a269) (H126 : a267 < a269) (H130 : n0 ≤ a269) (H131 : a267 < a268) (H135 : n0 ≤ a268) (H139 : n0 ≤ a267) :
    MetFree l (⟨own_k0, "insertBefore", own_k6⟩ : MethodName) (head1 (Jvm.Cond.code (⟨own_k0, "insertBefore", own_k6⟩ : MethodName) prog_5_method_55_code 11 (some .int) :: wds) ({ frames := 1, cells := 0, slots := 0, locals := 13 } : Room)) (fun ar_ U_ => ar_ = #[(.ref a33), (.int (-1 : Int32)), (.double (4630826316843712512 : UInt64)), (.double f2082), (.ref a2168), (.long (0 : Int64))] ∧ Z.Warmed39 U_.vm ∧ U_.heap = h0) (fun _ _ _ _ _ => True) (fun _ U_ o_ V_ => ∃ v_ L_, o_ = .returned v_ ∧ own_s46_Q Z a33 f2082 a2168 a274 a273 a272 a271 a270 a269 a268 a267 a811 f386 f858 f1222 a2034 h0 n0 v_ V_.heap L_ ∧ FrameEnd U_ o_ V_ L_ ({ frames := 1, cells := 0, slots := 0, locals := 13 } : Room).cells ({ frames := 1, cells := 0, slots := 0, locals := 13 } : Room).slots) := by
  refine own_met (y := ⟨own_k0, "insertBefore", own_k6⟩) (Q := own_s46_Q Z a33 f2082 a2168 a274 a273 a272 a271 a270 a269 a268 a267 a811 f386 f858 f1222 a2034 h0 n0) own_pn1 ?_
  intro p e s m below meth c s₁ hx hby hml hZ hown hnm hret hlk X0 e0
  have N0 := Fr.nil n0
  refine own_cast (g' := (mkF m 0 #[.val (.ref a33), .val (.int (-1 : Int32)), .val (.double (4630826316843712512 : UInt64)), .second, .val (.double f2082), .second, .val (.ref a2168), .val (.long (0 : Int64)), .second, .unset, .unset] [])) (by first | (simp [entryFrame, mkF, argsToLocals, Value.category]; done) | rfl) ?_
  generalize hL2241 : (#[.val (.ref a33), .val (.int (-1 : Int32)), .val (.double (4630826316843712512 : UInt64)), .second, .val (.double f2082), .second, .val (.ref a2168), .val (.long (0 : Int64)), .second, .unset, .unset] : Array Slot) = L2241
  refine own_alN (w := (.ref a33)) X0 hx (hb hby d8_0) (by rw [← hL2241]; rfl) rfl ?_
  refine own_callp (a := a33) (argsL := []) (rest := []) X0 hx hZ hown (own_s47 l Z a0 hw [] a33 a274 a273 a272 a271 a270 a269 a268 a267 h0 n0 Z0 H3 H25 H28 H29 H30 H31 H32 H33 H34 H35 H36 H37 H38 H39 H40 H41 H79) H3 (own_w hw 86 rfl) (own_w hw 5 rfl) (own_w hw 88 rfl) (own_w hw 87 rfl) (own_w hw 89 rfl) (own_w hw 6 rfl) (by decide) e0 (hb hby d8_1) (by rw [hml, ← hL2241]; rfl) rfl (lenOf own_pd3 rfl) (by decide) (W := 0) (Nat.le_of_eq rfl) (by decide) (by decide) (by decide) ?_
  intro v2260 T2260 lo2260 X2260 Q2260
  obtain ⟨h2260, e2260⟩ : ∃ h, T2260.heap = h := ⟨_, rfl⟩
  rw [e2260] at Q2260
  obtain ⟨rfl, N2260, K2260, F2261, F2262, F2263, F2264, F2265, F2266, F2267, F2268, F2269, F2270, F2271, F2272, F2273, F2274⟩ := Q2260
  have N2260' := Fr.app N0 N2260
  show own_Go _ _ _ _ _ _ _ T2260 (mkF m 4 L2241 [(.int (1 : Int32))])
  refine own_pre (g' := (mkF m 6 #[.val (.ref a33), .val (.int (-1 : Int32)), .val (.double (4630826316843712512 : UInt64)), .second, .val (.double f2082), .second, .val (.ref a2168), .val (.long (0 : Int64)), .second, .val (.int (1 : Int32)), .unset] [])) (fun t k => XS.istore X2260.here hx rfl (hb hby d8_4) rfl (l' := #[.val (.ref a33), .val (.int (-1 : Int32)), .val (.double (4630826316843712512 : UInt64)), .second, .val (.double f2082), .second, .val (.ref a2168), .val (.long (0 : Int64)), .second, .val (.int (1 : Int32)), .unset]) (by rw [← hL2241]; rfl) k) ?_
  generalize hL2276 : (#[.val (.ref a33), .val (.int (-1 : Int32)), .val (.double (4630826316843712512 : UInt64)), .second, .val (.double f2082), .second, .val (.ref a2168), .val (.long (0 : Int64)), .second, .val (.int (1 : Int32)), .unset] : Array Slot) = L2276
  refine own_alN (w := (.ref a33)) X2260 hx (hb hby d8_6) (by rw [← hL2276]; rfl) rfl ?_
  refine own_getf X2260 hx hZ hown (own_w hw 13 rfl) e2260 F2261 (hb hby d8_7) ?_
  intro T2277 X2277 e2277
  show own_Go _ _ _ _ _ _ _ T2277 (mkF m 10 L2276 [(.ref a267)])
  refine own_il (w := (1 : Int32)) X2277 hx (hb hby d8_10) (by rw [← hL2276]; rfl) ?_
  refine own_dlN (w := (4630826316843712512 : UInt64)) X2277 hx (hb hby d8_12) (by rw [← hL2276]; rfl) ?_
  have F2278 := (H23.keep K2260 (ninS (Nat.ne_of_gt H75) nin0))
  refine own_dastore X2277 hx hZ e2277 N2260' H139 F2278 (hb hby d8_13) (n := 1) (by decide) (by decide) (by show 1 < 16; decide) ?_
  intro T2279 h2279 lo2279 X2279 e2279 N2279 W2279
  have F2280 : own_Ary Z h2279 a267 .double ([(.double (4621819117588971520 : UInt64)), (.double (4630826316843712512 : UInt64)), (.double (4629137466983448576 : UInt64))] ++ own_rD 13) := F2278.set W2279
  show own_Go _ _ _ _ _ _ _ T2279 (mkF m 14 L2276 [])
  refine own_alN (w := (.ref a33)) X2279 hx (hb hby d8_14) (by rw [← hL2276]; rfl) rfl ?_
  have F2281 := (F2262.other W2279 (Or.inl (Nat.ne_of_lt H75)))
  refine own_getf X2279 hx hZ hown (own_w hw 15 rfl) e2279 F2281 (hb hby d8_15) ?_
  intro T2282 X2282 e2282
  show own_Go _ _ _ _ _ _ _ T2282 (mkF m 18 L2276 [(.ref a268)])
  refine own_il (w := (1 : Int32)) X2282 hx (hb hby d8_18) (by rw [← hL2276]; rfl) ?_
  refine own_dl (w := f2082) X2282 hx (hb hby d8_20) (by rw [← hL2276]; rfl) ?_
  have F2283 := ((H22.keep K2260 (ninS (Nat.ne_of_gt H74) nin0)).other W2279 (Nat.ne_of_gt H131))
  refine own_dastore X2282 hx hZ e2282 N2279 H135 F2283 (hb hby d8_22) (n := 1) (by decide) (by decide) (by show 1 < 16; decide) ?_
  intro T2284 h2284 lo2284 X2284 e2284 N2284 W2284
  have F2285 : own_Ary Z h2284 a268 .double ([(.double f386), (.double f2082), (.double f1222)] ++ own_rD 13) := F2283.set W2284
  show own_Go _ _ _ _ _ _ _ T2284 (mkF m 23 L2276 [])
  refine own_alN (w := (.ref a33)) X2284 hx (hb hby d8_23) (by rw [← hL2276]; rfl) rfl ?_
  have F2286 := ((F2263.other W2279 (Or.inl (Nat.ne_of_lt H75))).other W2284 (Or.inl (Nat.ne_of_lt H74)))
  refine own_getf X2284 hx hZ hown (own_w hw 18 rfl) e2284 F2286 (hb hby d8_24) ?_
  intro T2287 X2287 e2287
  show own_Go _ _ _ _ _ _ _ T2287 (mkF m 27 L2276 [(.ref a269)])
  refine own_il (w := (1 : Int32)) X2287 hx (hb hby d8_27) (by rw [← hL2276]; rfl) ?_
  refine own_ic X2287 hx (0 : Int32) (hb hby d8_29) rfl ?_
  have F2288 := (((H21.keep K2260 (ninS (Nat.ne_of_gt H73) nin0)).other W2279 (Nat.ne_of_gt H126)).other W2284 (Nat.ne_of_gt H125))
  refine own_zastore X2287 hx hZ e2287 N2284 H130 F2288 (hb hby d8_30) (n := 1) (x' := (0 : Int32)) (by decide) (by decide) (by show 1 < 16; decide) (by decide) ?_
  intro T2289 h2289 lo2289 X2289 e2289 N2289 W2289
  have F2290 : own_Ary Z h2289 a269 .boolean (own_rI 16) := F2288.set W2289
  show own_Go _ _ _ _ _ _ _ T2289 (mkF m 31 L2276 [])
  refine own_alN (w := (.ref a33)) X2289 hx (hb hby d8_31) (by rw [← hL2276]; rfl) rfl ?_
  have F2291 := (((F2264.other W2279 (Or.inl (Nat.ne_of_lt H75))).other W2284 (Or.inl (Nat.ne_of_lt H74))).other W2289 (Or.inl (Nat.ne_of_lt H73)))
  refine own_getf X2289 hx hZ hown (own_w hw 22 rfl) e2289 F2291 (hb hby d8_32) ?_
  intro T2292 X2292 e2292
  show own_Go _ _ _ _ _ _ _ T2292 (mkF m 35 L2276 [(.ref a270)])
  refine own_il (w := (1 : Int32)) X2292 hx (hb hby d8_35) (by rw [← hL2276]; rfl) ?_
  refine own_al (w := (.ref a2168)) X2292 hx (hb hby d8_37) (by rw [← hL2276]; rfl) rfl ?_
  have F2293 := ((((H27.keep K2260 (ninS (Nat.ne_of_gt H72) nin0)).other W2279 (Nat.ne_of_gt H120)).other W2284 (Nat.ne_of_gt H119)).other W2289 (Nat.ne_of_gt H118))
  have F2295 := ((((H49.keep K2260).wr W2279).wr W2284).wr W2289)
  have F2296 := ((((H9.keep K2260).wr W2279).wr W2284).wr W2289)
  refine own_aastore X2292 hx hZ e2292 N2289 H124 F2293 F2296 (Ins.self F2295) (hb hby d8_39) (n := 1) (by decide) (by decide) (by show 1 < 16; decide) ?_
  intro T2294 h2294 lo2294 X2294 e2294 N2294 W2294
  have F2297 : own_Ary Z h2294 a270 (.object own_k1) ([(.ref a811), (.ref a2168), (.ref a2034)] ++ own_rN 13) := F2293.set W2294
  show own_Go _ _ _ _ _ _ _ T2294 (mkF m 40 L2276 [])
  refine own_alN (w := (.ref a33)) X2294 hx (hb hby d8_40) (by rw [← hL2276]; rfl) rfl ?_
  have F2298 := ((((F2265.other W2279 (Or.inl (Nat.ne_of_lt H75))).other W2284 (Or.inl (Nat.ne_of_lt H74))).other W2289 (Or.inl (Nat.ne_of_lt H73))).other W2294 (Or.inl (Nat.ne_of_lt H72)))
  refine own_getf X2294 hx hZ hown (own_w hw 24 rfl) e2294 F2298 (hb hby d8_41) ?_
  intro T2299 X2299 e2299
  show own_Go _ _ _ _ _ _ _ T2299 (mkF m 44 L2276 [(.ref a271)])
  refine own_il (w := (1 : Int32)) X2299 hx (hb hby d8_44) (by rw [← hL2276]; rfl) ?_
  refine own_ic X2299 hx (0 : Int32) (hb hby d8_46) rfl ?_
  have F2300 := (((((H26.keep K2260 (ninS (Nat.ne_of_gt H71) nin0)).other W2279 (Nat.ne_of_gt H113)).other W2284 (Nat.ne_of_gt H112)).other W2289 (Nat.ne_of_gt H111)).other W2294 (Nat.ne_of_gt H110))
  refine own_zastore X2299 hx hZ e2299 N2294 H117 F2300 (hb hby d8_47) (n := 1) (x' := (0 : Int32)) (by decide) (by decide) (by show 1 < 16; decide) (by decide) ?_
  intro T2301 h2301 lo2301 X2301 e2301 N2301 W2301
  have F2302 : own_Ary Z h2301 a271 .boolean (own_rI 16) := F2300.set W2301
  show own_Go _ _ _ _ _ _ _ T2301 (mkF m 48 L2276 [])
  refine own_alN (w := (.ref a33)) X2301 hx (hb hby d8_48) (by rw [← hL2276]; rfl) rfl ?_
  have F2303 := (((((F2266.other W2279 (Or.inl (Nat.ne_of_lt H75))).other W2284 (Or.inl (Nat.ne_of_lt H74))).other W2289 (Or.inl (Nat.ne_of_lt H73))).other W2294 (Or.inl (Nat.ne_of_lt H72))).other W2301 (Or.inl (Nat.ne_of_lt H71)))
  refine own_getf X2301 hx hZ hown (own_w hw 26 rfl) e2301 F2303 (hb hby d8_49) ?_
  intro T2304 X2304 e2304
  show own_Go _ _ _ _ _ _ _ T2304 (mkF m 52 L2276 [(.ref a272)])
  refine own_il (w := (1 : Int32)) X2304 hx (hb hby d8_52) (by rw [← hL2276]; rfl) ?_
  refine own_ll (w := (0 : Int64)) X2304 hx (hb hby d8_54) (by rw [← hL2276]; rfl) ?_
  have F2305 := ((((((H20.keep K2260 (ninS (Nat.ne_of_gt H70) nin0)).other W2279 (Nat.ne_of_gt H105)).other W2284 (Nat.ne_of_gt H104)).other W2289 (Nat.ne_of_gt H103)).other W2294 (Nat.ne_of_gt H102)).other W2301 (Nat.ne_of_gt H101))
  refine own_lastore X2304 hx hZ e2304 N2301 H109 F2305 (hb hby d8_56) (n := 1) (by decide) (by decide) (by show 1 < 16; decide) ?_
  intro T2306 h2306 lo2306 X2306 e2306 N2306 W2306
  have F2307 : own_Ary Z h2306 a272 .long (own_rJ 16) := F2305.set W2306
  show own_Go _ _ _ _ _ _ _ T2306 (mkF m 57 L2276 [])
  refine own_ilN (w := (-1 : Int32)) X2306 hx (hb hby d8_57) (by rw [← hL2276]; rfl) ?_
  refine own_ic X2306 hx (-1 : Int32) (hb hby d8_58) rfl ?_
  refine own_pre (g' := (mkF m 62 L2276 [])) (fun t k => XS.icmpNo X2306.here hx rfl (hb hby d8_59) rfl (by decide) k) ?_
  refine own_alN (w := (.ref a33)) X2306 hx (hb hby d8_62) (by rw [← hL2276]; rfl) rfl ?_
  have F2308 := ((((((F2270.other W2279 (Or.inl (Nat.ne_of_lt H75))).other W2284 (Or.inl (Nat.ne_of_lt H74))).other W2289 (Or.inl (Nat.ne_of_lt H73))).other W2294 (Or.inl (Nat.ne_of_lt H72))).other W2301 (Or.inl (Nat.ne_of_lt H71))).other W2306 (Or.inl (Nat.ne_of_lt H70)))
  refine own_getf X2306 hx hZ hown (own_w hw 35 rfl) e2306 F2308 (hb hby d8_63) ?_
  intro T2309 X2309 e2309
  show own_Go _ _ _ _ _ _ _ T2309 (mkF m 66 L2276 [(.int (2 : Int32))])
  refine own_gt X2309 hx 75 (hb hby d8_66) (by decide) (by decide) ?_
  refine own_pre (g' := (mkF m 77 #[.val (.ref a33), .val (.int (-1 : Int32)), .val (.double (4630826316843712512 : UInt64)), .second, .val (.double f2082), .second, .val (.ref a2168), .val (.long (0 : Int64)), .second, .val (.int (1 : Int32)), .val (.int (2 : Int32))] [])) (fun t k => XS.istore X2309.here hx rfl (hb hby d8_75) rfl (l' := #[.val (.ref a33), .val (.int (-1 : Int32)), .val (.double (4630826316843712512 : UInt64)), .second, .val (.double f2082), .second, .val (.ref a2168), .val (.long (0 : Int64)), .second, .val (.int (1 : Int32)), .val (.int (2 : Int32))]) (by rw [← hL2276]; rfl) k) ?_
  generalize hL2310 : (#[.val (.ref a33), .val (.int (-1 : Int32)), .val (.double (4630826316843712512 : UInt64)), .second, .val (.double f2082), .second, .val (.ref a2168), .val (.long (0 : Int64)), .second, .val (.int (1 : Int32)), .val (.int (2 : Int32))] : Array Slot) = L2310
  refine own_alN (w := (.ref a33)) X2309 hx (hb hby d8_77) (by rw [← hL2310]; rfl) rfl ?_
  have F2311 := ((((((F2267.other W2279 (Or.inl (Nat.ne_of_lt H75))).other W2284 (Or.inl (Nat.ne_of_lt H74))).other W2289 (Or.inl (Nat.ne_of_lt H73))).other W2294 (Or.inl (Nat.ne_of_lt H72))).other W2301 (Or.inl (Nat.ne_of_lt H71))).other W2306 (Or.inl (Nat.ne_of_lt H70)))
  refine own_getf X2309 hx hZ hown (own_w hw 29 rfl) e2309 F2311 (hb hby d8_78) ?_
  intro T2312 X2312 e2312
  show own_Go _ _ _ _ _ _ _ T2312 (mkF m 81 L2310 [(.ref a273)])
  refine own_il (w := (1 : Int32)) X2312 hx (hb hby d8_81) (by rw [← hL2310]; rfl) ?_
  refine own_ilN (w := (-1 : Int32)) X2312 hx (hb hby d8_83) (by rw [← hL2310]; rfl) ?_
  have F2313 := (((((((H25.keep K2260 (ninS (Nat.ne_of_gt H69) nin0)).other W2279 (Nat.ne_of_gt H96)).other W2284 (Nat.ne_of_gt H95)).other W2289 (Nat.ne_of_gt H94)).other W2294 (Nat.ne_of_gt H93)).other W2301 (Nat.ne_of_gt H92)).other W2306 (Nat.ne_of_gt H91))
  refine own_iastore X2312 hx hZ e2312 N2306 H100 F2313 (hb hby d8_84) (n := 1) (by decide) (by decide) (by show 1 < 16; decide) ?_
  intro T2314 h2314 lo2314 X2314 e2314 N2314 W2314
  have F2315 : own_Ary Z h2314 a273 .int ([(.int (2 : Int32)), (.int (-1 : Int32)), (.int (-1 : Int32))] ++ own_rI 13) := F2313.set W2314
  show own_Go _ _ _ _ _ _ _ T2314 (mkF m 85 L2310 [])
  refine own_alN (w := (.ref a33)) X2314 hx (hb hby d8_85) (by rw [← hL2310]; rfl) rfl ?_
  have F2316 := (((((((F2268.other W2279 (Or.inl (Nat.ne_of_lt H75))).other W2284 (Or.inl (Nat.ne_of_lt H74))).other W2289 (Or.inl (Nat.ne_of_lt H73))).other W2294 (Or.inl (Nat.ne_of_lt H72))).other W2301 (Or.inl (Nat.ne_of_lt H71))).other W2306 (Or.inl (Nat.ne_of_lt H70))).other W2314 (Or.inl (Nat.ne_of_lt H69)))
  refine own_getf X2314 hx hZ hown (own_w hw 31 rfl) e2314 F2316 (hb hby d8_86) ?_
  intro T2317 X2317 e2317
  show own_Go _ _ _ _ _ _ _ T2317 (mkF m 89 L2310 [(.ref a274)])
  refine own_il (w := (1 : Int32)) X2317 hx (hb hby d8_89) (by rw [← hL2310]; rfl) ?_
  refine own_il (w := (2 : Int32)) X2317 hx (hb hby d8_91) (by rw [← hL2310]; rfl) ?_
  have F2318 := ((((((((H24.keep K2260 (ninS (Nat.ne_of_gt H68) nin0)).other W2279 (Nat.ne_of_gt H86)).other W2284 (Nat.ne_of_gt H85)).other W2289 (Nat.ne_of_gt H84)).other W2294 (Nat.ne_of_gt H83)).other W2301 (Nat.ne_of_gt H82)).other W2306 (Nat.ne_of_gt H81)).other W2314 (Nat.ne_of_gt H80))
  refine own_iastore X2317 hx hZ e2317 N2314 H90 F2318 (hb hby d8_93) (n := 1) (by decide) (by decide) (by show 1 < 16; decide) ?_
  intro T2319 h2319 lo2319 X2319 e2319 N2319 W2319
  have F2320 : own_Ary Z h2319 a274 .int ([(.int (-1 : Int32)), (.int (2 : Int32))] ++ own_rI 14) := F2318.set W2319
  show own_Go _ _ _ _ _ _ _ T2319 (mkF m 94 L2310 [])
  refine own_il (w := (2 : Int32)) X2319 hx (hb hby d8_94) (by rw [← hL2310]; rfl) ?_
  refine own_ic X2319 hx (-1 : Int32) (hb hby d8_96) rfl ?_
  refine own_pre (g' := (mkF m 109 L2310 [])) (fun t k => XS.icmpYes X2319.here hx rfl (pc0 := 97) (pc' := 109) rfl (hb hby d8_97) rfl (by decide) (by decide) (by decide) k) ?_
  refine own_alN (w := (.ref a33)) X2319 hx (hb hby d8_109) (by rw [← hL2310]; rfl) rfl ?_
  have F2321 := ((F2311.other W2314 (Or.inl (Nat.ne_of_lt H69))).other W2319 (Or.inl (Nat.ne_of_lt H68)))
  refine own_getf X2319 hx hZ hown (own_w hw 29 rfl) e2319 F2321 (hb hby d8_110) ?_
  intro T2322 X2322 e2322
  show own_Go _ _ _ _ _ _ _ T2322 (mkF m 113 L2310 [(.ref a273)])
  refine own_il (w := (2 : Int32)) X2322 hx (hb hby d8_113) (by rw [← hL2310]; rfl) ?_
  refine own_il (w := (1 : Int32)) X2322 hx (hb hby d8_115) (by rw [← hL2310]; rfl) ?_
  have F2323 := (F2315.other W2319 (Nat.ne_of_lt H80))
  refine own_iastore X2322 hx hZ e2322 N2319 H100 F2323 (hb hby d8_117) (n := 2) (by decide) (by decide) (by show 2 < 16; decide) ?_
  intro T2324 h2324 lo2324 X2324 e2324 N2324 W2324
  have F2325 : own_Ary Z h2324 a273 .int ([(.int (2 : Int32)), (.int (-1 : Int32)), (.int (1 : Int32))] ++ own_rI 13) := F2323.set W2324
  show own_Go _ _ _ _ _ _ _ T2324 (mkF m 118 L2310 [])
  refine own_ilN (w := (-1 : Int32)) X2324 hx (hb hby d8_118) (by rw [← hL2310]; rfl) ?_
  refine own_ic X2324 hx (-1 : Int32) (hb hby d8_119) rfl ?_
  refine own_pre (g' := (mkF m 123 L2310 [])) (fun t k => XS.icmpNo X2324.here hx rfl (hb hby d8_120) rfl (by decide) k) ?_
  refine own_alN (w := (.ref a33)) X2324 hx (hb hby d8_123) (by rw [← hL2310]; rfl) rfl ?_
  refine own_il (w := (1 : Int32)) X2324 hx (hb hby d8_124) (by rw [← hL2310]; rfl) ?_
  have F2326 := (((F2308.other W2314 (Or.inl (Nat.ne_of_lt H69))).other W2319 (Or.inl (Nat.ne_of_lt H68))).other W2324 (Or.inl (Nat.ne_of_lt H69)))
  have F2327 := ((((((((((H3.keep K2260).wr W2279).wr W2284).wr W2289).wr W2294).wr W2301).wr W2306).wr W2314).wr W2319).wr W2324)
  refine own_putf X2324 hx hZ hown (own_w hw 35 rfl) e2324 N2324 H79 F2326 F2327 (Or.inl (own_w hw 36 rfl)) (own_w hw 5 rfl) (ty := .int) (by decide) rfl rfl (hb hby d8_126) ?_
  intro T2328 h2328 lo2328 X2328 e2328 N2328 W2328
  have F2329 := F2326.same W2328
  show own_Go _ _ _ _ _ _ _ T2328 (mkF m 129 L2310 [])
  refine own_gt X2328 hx 140 (hb hby d8_129) (by decide) (by decide) ?_
  refine own_alN (w := (.ref a33)) X2328 hx (hb hby d8_140) (by rw [← hL2310]; rfl) rfl ?_
  refine own_pre (g' := (mkF m 142 L2310 [(.ref a33), (.ref a33)])) (fun t k => XS.dup X2328.here hx rfl (hb hby d8_141) rfl rfl k) ?_
  have F2330 := ((((((((((F2273.other W2279 (Or.inl (Nat.ne_of_lt H75))).other W2284 (Or.inl (Nat.ne_of_lt H74))).other W2289 (Or.inl (Nat.ne_of_lt H73))).other W2294 (Or.inl (Nat.ne_of_lt H72))).other W2301 (Or.inl (Nat.ne_of_lt H71))).other W2306 (Or.inl (Nat.ne_of_lt H70))).other W2314 (Or.inl (Nat.ne_of_lt H69))).other W2319 (Or.inl (Nat.ne_of_lt H68))).other W2324 (Or.inl (Nat.ne_of_lt H69))).other W2328 (Or.inr (own_sne (own_f12 hw) (own_f9 hw) (by decide))))
  refine own_getf X2328 hx hZ hown (own_w hw 48 rfl) e2328 F2330 (hb hby d8_142) ?_
  intro T2331 X2331 e2331
  show own_Go _ _ _ _ _ _ _ T2331 (mkF m 145 L2310 [(.int (2 : Int32)), (.ref a33)])
  refine own_ic X2331 hx (1 : Int32) (hb hby d8_145) rfl ?_
  refine own_pre (g' := (mkF m 147 L2310 [(.int (3 : Int32)), (.ref a33)])) (fun t k => XS.iadd X2331.here hx rfl (hb hby d8_146) rfl k) ?_
  have F2332 := (F2327.wr W2328)
  refine own_putf X2331 hx hZ hown (own_w hw 48 rfl) e2331 N2328 H79 F2330 F2332 (Or.inl (own_w hw 49 rfl)) (own_w hw 5 rfl) (ty := .int) (by decide) rfl rfl (hb hby d8_147) ?_
  intro T2333 h2333 lo2333 X2333 e2333 N2333 W2333
  have F2334 := F2330.same W2333
  show own_Go _ _ _ _ _ _ _ T2333 (mkF m 150 L2310 [])
  refine own_il (w := (1 : Int32)) X2333 hx (hb hby d8_150) (by rw [← hL2310]; rfl) ?_
  have F2335 := (((((F2307.other W2314 (Nat.ne_of_lt H91)).other W2319 (Nat.ne_of_lt H81)).other W2324 (Nat.ne_of_lt H91)).other W2328 (Nat.ne_of_gt H70)).other W2333 (Nat.ne_of_gt H70))
  have F2336 := ((((((((F2290.other W2294 (Nat.ne_of_lt H118)).other W2301 (Nat.ne_of_lt H111)).other W2306 (Nat.ne_of_lt H103)).other W2314 (Nat.ne_of_lt H94)).other W2319 (Nat.ne_of_lt H84)).other W2324 (Nat.ne_of_lt H94)).other W2328 (Nat.ne_of_gt H73)).other W2333 (Nat.ne_of_gt H73))
  have F2337 := (((((((((F2285.other W2289 (Nat.ne_of_lt H125)).other W2294 (Nat.ne_of_lt H119)).other W2301 (Nat.ne_of_lt H112)).other W2306 (Nat.ne_of_lt H104)).other W2314 (Nat.ne_of_lt H95)).other W2319 (Nat.ne_of_lt H85)).other W2324 (Nat.ne_of_lt H95)).other W2328 (Nat.ne_of_gt H74)).other W2333 (Nat.ne_of_gt H74))
  have F2338 := ((((((((((F2280.other W2284 (Nat.ne_of_lt H131)).other W2289 (Nat.ne_of_lt H126)).other W2294 (Nat.ne_of_lt H120)).other W2301 (Nat.ne_of_lt H113)).other W2306 (Nat.ne_of_lt H105)).other W2314 (Nat.ne_of_lt H96)).other W2319 (Nat.ne_of_lt H86)).other W2324 (Nat.ne_of_lt H96)).other W2328 (Nat.ne_of_gt H75)).other W2333 (Nat.ne_of_gt H75))
  have F2339 := (((F2320.other W2324 (Nat.ne_of_gt H80)).other W2328 (Nat.ne_of_gt H68)).other W2333 (Nat.ne_of_gt H68))
  have F2340 := ((F2325.other W2328 (Nat.ne_of_gt H69)).other W2333 (Nat.ne_of_gt H69))
  have F2341 := ((((((F2302.other W2306 (Nat.ne_of_lt H101)).other W2314 (Nat.ne_of_lt H92)).other W2319 (Nat.ne_of_lt H82)).other W2324 (Nat.ne_of_lt H92)).other W2328 (Nat.ne_of_gt H71)).other W2333 (Nat.ne_of_gt H71))
  have F2342 := (((((((F2297.other W2301 (Nat.ne_of_lt H110)).other W2306 (Nat.ne_of_lt H102)).other W2314 (Nat.ne_of_lt H93)).other W2319 (Nat.ne_of_lt H83)).other W2324 (Nat.ne_of_lt H93)).other W2328 (Nat.ne_of_gt H72)).other W2333 (Nat.ne_of_gt H72))
  have F2343 := (((((((((((F2261.other W2279 (Or.inl (Nat.ne_of_lt H75))).other W2284 (Or.inl (Nat.ne_of_lt H74))).other W2289 (Or.inl (Nat.ne_of_lt H73))).other W2294 (Or.inl (Nat.ne_of_lt H72))).other W2301 (Or.inl (Nat.ne_of_lt H71))).other W2306 (Or.inl (Nat.ne_of_lt H70))).other W2314 (Or.inl (Nat.ne_of_lt H69))).other W2319 (Or.inl (Nat.ne_of_lt H68))).other W2324 (Or.inl (Nat.ne_of_lt H69))).other W2328 (Or.inr (own_sne (own_f1 hw) (own_f9 hw) (by decide)))).other W2333 (Or.inr (own_sne (own_f1 hw) (own_f12 hw) (by decide))))
  have F2344 := ((((((((((F2281.other W2284 (Or.inl (Nat.ne_of_lt H74))).other W2289 (Or.inl (Nat.ne_of_lt H73))).other W2294 (Or.inl (Nat.ne_of_lt H72))).other W2301 (Or.inl (Nat.ne_of_lt H71))).other W2306 (Or.inl (Nat.ne_of_lt H70))).other W2314 (Or.inl (Nat.ne_of_lt H69))).other W2319 (Or.inl (Nat.ne_of_lt H68))).other W2324 (Or.inl (Nat.ne_of_lt H69))).other W2328 (Or.inr (own_sne (own_f0 hw) (own_f9 hw) (by decide)))).other W2333 (Or.inr (own_sne (own_f0 hw) (own_f12 hw) (by decide))))
  have F2345 := (((((((((F2286.other W2289 (Or.inl (Nat.ne_of_lt H73))).other W2294 (Or.inl (Nat.ne_of_lt H72))).other W2301 (Or.inl (Nat.ne_of_lt H71))).other W2306 (Or.inl (Nat.ne_of_lt H70))).other W2314 (Or.inl (Nat.ne_of_lt H69))).other W2319 (Or.inl (Nat.ne_of_lt H68))).other W2324 (Or.inl (Nat.ne_of_lt H69))).other W2328 (Or.inr (own_sne (own_f2 hw) (own_f9 hw) (by decide)))).other W2333 (Or.inr (own_sne (own_f2 hw) (own_f12 hw) (by decide))))
  have F2346 := ((((((((F2291.other W2294 (Or.inl (Nat.ne_of_lt H72))).other W2301 (Or.inl (Nat.ne_of_lt H71))).other W2306 (Or.inl (Nat.ne_of_lt H70))).other W2314 (Or.inl (Nat.ne_of_lt H69))).other W2319 (Or.inl (Nat.ne_of_lt H68))).other W2324 (Or.inl (Nat.ne_of_lt H69))).other W2328 (Or.inr (own_sne (own_f3 hw) (own_f9 hw) (by decide)))).other W2333 (Or.inr (own_sne (own_f3 hw) (own_f12 hw) (by decide))))
  have F2347 := (((((((F2298.other W2301 (Or.inl (Nat.ne_of_lt H71))).other W2306 (Or.inl (Nat.ne_of_lt H70))).other W2314 (Or.inl (Nat.ne_of_lt H69))).other W2319 (Or.inl (Nat.ne_of_lt H68))).other W2324 (Or.inl (Nat.ne_of_lt H69))).other W2328 (Or.inr (own_sne (own_f4 hw) (own_f9 hw) (by decide)))).other W2333 (Or.inr (own_sne (own_f4 hw) (own_f12 hw) (by decide))))
  have F2348 := ((((((F2303.other W2306 (Or.inl (Nat.ne_of_lt H70))).other W2314 (Or.inl (Nat.ne_of_lt H69))).other W2319 (Or.inl (Nat.ne_of_lt H68))).other W2324 (Or.inl (Nat.ne_of_lt H69))).other W2328 (Or.inr (own_sne (own_f5 hw) (own_f9 hw) (by decide)))).other W2333 (Or.inr (own_sne (own_f5 hw) (own_f12 hw) (by decide))))
  have F2349 := (((F2321.other W2324 (Or.inl (Nat.ne_of_lt H69))).other W2328 (Or.inr (own_sne (own_f6 hw) (own_f9 hw) (by decide)))).other W2333 (Or.inr (own_sne (own_f6 hw) (own_f12 hw) (by decide))))
  have F2350 := ((((F2316.other W2319 (Or.inl (Nat.ne_of_lt H68))).other W2324 (Or.inl (Nat.ne_of_lt H69))).other W2328 (Or.inr (own_sne (own_f7 hw) (own_f9 hw) (by decide)))).other W2333 (Or.inr (own_sne (own_f7 hw) (own_f12 hw) (by decide))))
  have F2351 := (((((((((((F2269.other W2279 (Or.inl (Nat.ne_of_lt H75))).other W2284 (Or.inl (Nat.ne_of_lt H74))).other W2289 (Or.inl (Nat.ne_of_lt H73))).other W2294 (Or.inl (Nat.ne_of_lt H72))).other W2301 (Or.inl (Nat.ne_of_lt H71))).other W2306 (Or.inl (Nat.ne_of_lt H70))).other W2314 (Or.inl (Nat.ne_of_lt H69))).other W2319 (Or.inl (Nat.ne_of_lt H68))).other W2324 (Or.inl (Nat.ne_of_lt H69))).other W2328 (Or.inr (own_sne (own_f8 hw) (own_f9 hw) (by decide)))).other W2333 (Or.inr (own_sne (own_f8 hw) (own_f12 hw) (by decide))))
  have F2352 := (F2329.other W2333 (Or.inr (own_sne (own_f9 hw) (own_f12 hw) (by decide))))
  have F2353 := (((((((((((F2271.other W2279 (Or.inl (Nat.ne_of_lt H75))).other W2284 (Or.inl (Nat.ne_of_lt H74))).other W2289 (Or.inl (Nat.ne_of_lt H73))).other W2294 (Or.inl (Nat.ne_of_lt H72))).other W2301 (Or.inl (Nat.ne_of_lt H71))).other W2306 (Or.inl (Nat.ne_of_lt H70))).other W2314 (Or.inl (Nat.ne_of_lt H69))).other W2319 (Or.inl (Nat.ne_of_lt H68))).other W2324 (Or.inl (Nat.ne_of_lt H69))).other W2328 (Or.inr (own_sne (own_f10 hw) (own_f9 hw) (by decide)))).other W2333 (Or.inr (own_sne (own_f10 hw) (own_f12 hw) (by decide))))
  have F2354 := (((((((((((F2272.other W2279 (Or.inl (Nat.ne_of_lt H75))).other W2284 (Or.inl (Nat.ne_of_lt H74))).other W2289 (Or.inl (Nat.ne_of_lt H73))).other W2294 (Or.inl (Nat.ne_of_lt H72))).other W2301 (Or.inl (Nat.ne_of_lt H71))).other W2306 (Or.inl (Nat.ne_of_lt H70))).other W2314 (Or.inl (Nat.ne_of_lt H69))).other W2319 (Or.inl (Nat.ne_of_lt H68))).other W2324 (Or.inl (Nat.ne_of_lt H69))).other W2328 (Or.inr (own_sne (own_f11 hw) (own_f9 hw) (by decide)))).other W2333 (Or.inr (own_sne (own_f11 hw) (own_f12 hw) (by decide))))
  have F2355 := (((((((((((F2274.other W2279 (Or.inl (Nat.ne_of_lt H75))).other W2284 (Or.inl (Nat.ne_of_lt H74))).other W2289 (Or.inl (Nat.ne_of_lt H73))).other W2294 (Or.inl (Nat.ne_of_lt H72))).other W2301 (Or.inl (Nat.ne_of_lt H71))).other W2306 (Or.inl (Nat.ne_of_lt H70))).other W2314 (Or.inl (Nat.ne_of_lt H69))).other W2319 (Or.inl (Nat.ne_of_lt H68))).other W2324 (Or.inl (Nat.ne_of_lt H69))).other W2328 (Or.inr (own_sne (own_f13 hw) (own_f9 hw) (by decide)))).other W2333 (Or.inr (own_sne (own_f13 hw) (own_f12 hw) (by decide))))
  exact own_retI X2333 hx hlk hret (hb hby d8_152) e2333 ⟨rfl, N2333, (((((((((((((Keep.refl _ _).trans K2260 (allS (Or.inl (by simp)) all0)).wr W2279 (Or.inl (by simp))).wr W2284 (Or.inl (by simp))).wr W2289 (Or.inl (by simp))).wr W2294 (Or.inl (by simp))).wr W2301 (Or.inl (by simp))).wr W2306 (Or.inl (by simp))).wr W2314 (Or.inl (by simp))).wr W2319 (Or.inl (by simp))).wr W2324 (Or.inl (by simp))).wr W2328 (Or.inl (by simp))).wr W2333 (Or.inl (by simp))), F2335, F2336, F2337, F2338, F2339, F2340, F2341, F2342, F2343, F2344, F2345, F2346, F2347, F2348, F2349, F2350, F2351, F2352, F2353, F2354, F2334, F2355⟩ (by decide) (by decide)
def own_s45_Q (Z : State) (a33 : Addr) (f2082 : UInt64) (a2168 : Addr) (a274 : Addr) (a273 : Addr) (a272 : Addr) (a271 : Addr) (a270 : Addr) (a269 : Addr) (a268 : Addr) (a267 : Addr) (a811 : Addr) (f386 : UInt64) (f858 : UInt64) (f1222 : UInt64) (a2034 : Addr) (h0 : Heap) (n0 : Nat) (v_ : Option Value) (h_ : Heap) (L_ : List Loc) : Prop := (fun v h L => v = none ∧ Fr n0 L ∧ Keep h0 h [a33, a267, a268, a269, a270, a271, a272, a273, a274] ∧ own_Ary Z h a272 .long (own_rJ 16) ∧ own_Ary Z h a269 .boolean (own_rI 16) ∧ own_Ary Z h a268 .double ([(.double f386), (.double f2082), (.double f1222)] ++ own_rD 13) ∧ own_Ary Z h a267 .double ([(.double (4621819117588971520 : UInt64)), (.double (4630826316843712512 : UInt64)), (.double (4629137466983448576 : UInt64))] ++ own_rD 13) ∧ own_Ary Z h a274 .int ([(.int (-1 : Int32)), (.int (2 : Int32))] ++ own_rI 14) ∧ own_Ary Z h a273 .int ([(.int (2 : Int32)), (.int (-1 : Int32)), (.int (1 : Int32))] ++ own_rI 13) ∧ own_Ary Z h a271 .boolean (own_rI 16) ∧ own_Ary Z h a270 (.object own_k1) ([(.ref a811), (.ref a2168), (.ref a2034)] ++ own_rN 13) ∧ Fld Z h a33 own_k0 "thresholds" "[D" (.ref a267) ∧ Fld Z h a33 own_k0 "ranks" "[D" (.ref a268) ∧ Fld Z h a33 own_k0 "guarded" "[Z" (.ref a269) ∧ Fld Z h a33 own_k0 "extents" own_k4 (.ref a270) ∧ Fld Z h a33 own_k0 "addedAtThreshold" "[Z" (.ref a271) ∧ Fld Z h a33 own_k0 "copies" "[J" (.ref a272) ∧ Fld Z h a33 own_k0 "nextOf" "[I" (.ref a273) ∧ Fld Z h a33 own_k0 "previousOf" "[I" (.ref a274) ∧ Fld Z h a33 own_k0 "first" "I" (.int (0 : Int32)) ∧ Fld Z h a33 own_k0 "last" "I" (.int (1 : Int32)) ∧ Fld Z h a33 own_k0 "free" "I" (.int (-1 : Int32)) ∧ Fld Z h a33 own_k0 "smallestMagnitude" "D" (.double (9218868437227405312 : UInt64)) ∧ Fld Z h a33 own_k0 "size" "I" (.int (3 : Int32)) ∧ Fld Z h a33 own_k0 "used" "I" (.int (3 : Int32))) v_ h_ L_
set_option maxRecDepth 65536 in
set_option maxHeartbeats 40000000 in
theorem own_s45 (l : Launch) (Z : State) (a0 : Array Value) (hw : ∀ d ∈ tables_1, d.before a0 Z = true) (wds : List Jvm.Cond) (a33 : Addr) (f2082 : UInt64) (a2168 : Addr) (a274 : Addr) (a273 : Addr) (a272 : Addr) (a271 : Addr) (a270 : Addr) (a269 : Addr) (a268 : Addr) (a267 : Addr) (a811 : Addr) (f386 : UInt64) (f858 : UInt64) (f1222 : UInt64) (a2034 : Addr) (h0 : Heap) (n0 : Nat) (Z0 : n0 ≤ h0.size) (H3 : Exa Z h0 a33 own_k0) (H9 : own_Ovr Z h0 a270 own_k1) (H20 : own_Ary Z h0 a272 .long (own_rJ 16)) (H21 : own_Ary Z h0 a269 .boolean (own_rI 16)) (H22 : own_Ary Z h0 a268 .double ([(.double f386), (.double f858), (.double f1222)] ++ own_rD 13)) (H23 : own_Ary Z h0 a267 .double ([(.double (4621819117588971520 : UInt64)), (.double (4626322717216342016 : UInt64)), (.double (4629137466983448576 : UInt64))] ++ own_rD 13)) (H24 : own_Ary Z h0 a274 .int ([(.int (-1 : Int32))] ++ own_rI 15)) (H25 : own_Ary Z h0 a273 .int ([(.int (2 : Int32)), (.int (-1 : Int32)), (.int (-1 : Int32))] ++ own_rI 13)) (H26 : own_Ary Z h0 a271 .boolean (own_rI 16)) (H27 : own_Ary Z h0 a270 (.object own_k1) ([(.ref a811), .null, (.ref a2034)] ++ own_rN 13)) (H28 : Fld Z h0 a33 own_k0 "thresholds" "[D" (.ref a267)) (H29 : Fld Z h0 a33 own_k0 "ranks" "[D" (.ref a268)) (H30 : Fld Z h0 a33 own_k0 "guarded" "[Z" (.ref a269)) (H31 : Fld Z h0 a33 own_k0 "extents" own_k4 (.ref a270)) (H32 : Fld Z h0 a33 own_k0 "addedAtThreshold" "[Z" (.ref a271)) (H33 : Fld Z h0 a33 own_k0 "copies" "[J" (.ref a272)) (H34 : Fld Z h0 a33 own_k0 "nextOf" "[I" (.ref a273)) (H35 : Fld Z h0 a33 own_k0 "previousOf" "[I" (.ref a274)) (H36 : Fld Z h0 a33 own_k0 "first" "I" (.int (0 : Int32))) (H37 : Fld Z h0 a33 own_k0 "last" "I" (.int (2 : Int32))) (H38 : Fld Z h0 a33 own_k0 "free" "I" (.int (1 : Int32))) (H39 : Fld Z h0 a33 own_k0 "smallestMagnitude" "D" (.double (9218868437227405312 : UInt64))) (H40 : Fld Z h0 a33 own_k0 "size" "I" (.int (2 : Int32))) (H41 : Fld Z h0 a33 own_k0 "used" "I" (.int (3 : Int32))) (H49 : Exa Z h0 a2168 own_k1) (H68 : a33 < a274) (H69 : a33 < a273) (H70 : a33 < a272) (H71 : a33 < a271) (H72 : a33 < a270) (H73 : a33 < a269) (H74 : a33 < a268) (H75 : a33 < a267) (H79 : n0 ≤ a33) (H80 : a273 < a274) (H81 : a272 < a274) (H82 : a271 < a274) (H83 : a270 < a274) (H84 : a269 < a274) (H85 : a268 < a274) (H86 : a267 < a274) (H90 : n0 ≤ a274) (H91 : a272 < a273) (H92 : a271 < a273) (H93 : a270 < a273) (H94 : a269 < a273) (H95 : a268 < a273) (H96 : a267 < a273) (H100 : n0 ≤ a273) (H101 : a271 < a272) (H102 : a270 < a272) (H103 : a269 < a272) (H104 : a268 < a272) (H105 : a267 < a272) (H109 : n0 ≤ a272) (H110 : a270 < a271) (H111 : a269 < a271) (H112 : a268 < a271) (H113 : a267 < a271) (H117 : n0 ≤ a271) (H118 : a269 < a270) (H119 : a268 < a270) (H120 : a267 < a270) (H124 : n0 ≤ a270) (H125 : a268 < a269) (H126 : a267 < a269) (H130 : n0 ≤ a269) (H131 : a267 < a268) (H135 : n0 ≤ a268) (H139 : n0 ≤ a267) :
    MetFree l (⟨own_k0, "append", own_k7⟩ : MethodName) (head1 (Jvm.Cond.code (⟨own_k0, "append", own_k7⟩ : MethodName) prog_5_method_13_code 8 none :: wds) ({ frames := 2, cells := 0, slots := 0, locals := 35 } : Room)) (fun ar_ U_ => ar_ = #[(.ref a33), (.double (4630826316843712512 : UInt64)), (.double f2082), (.ref a2168), (.long (0 : Int64))] ∧ Z.Warmed39 U_.vm ∧ U_.heap = h0) (fun _ _ _ _ _ => True) (fun _ U_ o_ V_ => ∃ v_ L_, o_ = .returned v_ ∧ own_s45_Q Z a33 f2082 a2168 a274 a273 a272 a271 a270 a269 a268 a267 a811 f386 f858 f1222 a2034 h0 n0 v_ V_.heap L_ ∧ FrameEnd U_ o_ V_ L_ ({ frames := 2, cells := 0, slots := 0, locals := 35 } : Room).cells ({ frames := 2, cells := 0, slots := 0, locals := 35 } : Room).slots) := by
  refine own_met (y := ⟨own_k0, "append", own_k7⟩) (Q := own_s45_Q Z a33 f2082 a2168 a274 a273 a272 a271 a270 a269 a268 a267 a811 f386 f858 f1222 a2034 h0 n0) own_pn1 ?_
  intro p e s m below meth c s₁ hx hby hml hZ hown hnm hret hlk X0 e0
  have N0 := Fr.nil n0
  refine own_cast (g' := (mkF m 0 #[.val (.ref a33), .val (.double (4630826316843712512 : UInt64)), .second, .val (.double f2082), .second, .val (.ref a2168), .val (.long (0 : Int64)), .second] [])) (by first | (simp [entryFrame, mkF, argsToLocals, Value.category]; done) | rfl) ?_
  generalize hL2192 : (#[.val (.ref a33), .val (.double (4630826316843712512 : UInt64)), .second, .val (.double f2082), .second, .val (.ref a2168), .val (.long (0 : Int64)), .second] : Array Slot) = L2192
  refine own_alN (w := (.ref a33)) X0 hx (hb hby d7_0) (by rw [← hL2192]; rfl) rfl ?_
  refine own_ic X0 hx (-1 : Int32) (hb hby d7_1) rfl ?_
  refine own_dlN (w := (4630826316843712512 : UInt64)) X0 hx (hb hby d7_2) (by rw [← hL2192]; rfl) ?_
  refine own_dlN (w := f2082) X0 hx (hb hby d7_3) (by rw [← hL2192]; rfl) ?_
  refine own_alN (w := (.ref a33)) X0 hx (hb hby d7_4) (by rw [← hL2192]; rfl) rfl ?_
  refine own_getf X0 hx hZ hown (own_w hw 48 rfl) e0 H40 (hb hby d7_5) ?_
  intro T2240 X2240 e2240
  show own_Go _ _ _ _ _ _ _ T2240 (mkF m 8 L2192 [(.int (2 : Int32)), (.double f2082), (.double (4630826316843712512 : UInt64)), (.int (-1 : Int32)), (.ref a33)])
  refine own_pre (g' := (mkF m 20 L2192 [(.double f2082), (.double (4630826316843712512 : UInt64)), (.int (-1 : Int32)), (.ref a33)])) (fun t k => XS.ifYes X2240.here hx rfl (pc0 := 8) (pc' := 20) rfl (hb hby d7_8) rfl (by decide) (by decide) (by decide) k) ?_
  refine own_al (w := (.ref a2168)) X2240 hx (hb hby d7_20) (by rw [← hL2192]; rfl) rfl ?_
  refine own_ll (w := (0 : Int64)) X2240 hx (hb hby d7_22) (by rw [← hL2192]; rfl) ?_
  refine own_callp (a := a33) (argsL := [(.int (-1 : Int32)), (.double (4630826316843712512 : UInt64)), (.double f2082), (.ref a2168), (.long (0 : Int64))]) (rest := []) X2240 hx hZ hown (own_s46 l Z a0 hw [] a33 f2082 a2168 a274 a273 a272 a271 a270 a269 a268 a267 a811 f386 f858 f1222 a2034 h0 n0 Z0 H3 H9 H20 H21 H22 H23 H24 H25 H26 H27 H28 H29 H30 H31 H32 H33 H34 H35 H36 H37 H38 H39 H40 H41 H49 H68 H69 H70 H71 H72 H73 H74 H75 H79 H80 H81 H82 H83 H84 H85 H86 H90 H91 H92 H93 H94 H95 H96 H100 H101 H102 H103 H104 H105 H109 H110 H111 H112 H113 H117 H118 H119 H120 H124 H125 H126 H130 H131 H135 H139) H3 (own_w hw 82 rfl) (own_w hw 5 rfl) (own_w hw 84 rfl) (own_w hw 83 rfl) (own_w hw 85 rfl) (own_w hw 6 rfl) (by decide) e2240 (hb hby d7_24) (by rw [hml, ← hL2192]; rfl) rfl (lenOf own_pd4 rfl) (by decide) (W := 0) (Nat.le_of_eq rfl) (by decide) (by decide) (by decide) ?_
  intro v2356 T2356 lo2356 X2356 Q2356
  obtain ⟨h2356, e2356⟩ : ∃ h, T2356.heap = h := ⟨_, rfl⟩
  rw [e2356] at Q2356
  obtain ⟨rfl, N2356, K2356, F2357, F2358, F2359, F2360, F2361, F2362, F2363, F2364, F2365, F2366, F2367, F2368, F2369, F2370, F2371, F2372, F2373, F2374, F2375, F2376, F2377, F2378⟩ := Q2356
  have N2356' := Fr.app N0 N2356
  show own_Go _ _ _ _ _ _ _ T2356 (mkF m 27 L2192 [(.int (1 : Int32))])
  refine own_pre (g' := (mkF m 28 L2192 [])) (fun t k => XT.pop X2356.here hx rfl (hb hby d7_27) rfl rfl k) ?_
  exact own_ret0 X2356 hx hlk hret (hb hby d7_28) e2356 ⟨rfl, N2356', ((Keep.refl _ _).trans K2356 (allS (Or.inl (by simp)) (allS (Or.inl (by simp)) (allS (Or.inl (by simp)) (allS (Or.inl (by simp)) (allS (Or.inl (by simp)) (allS (Or.inl (by simp)) (allS (Or.inl (by simp)) (allS (Or.inl (by simp)) (allS (Or.inl (by simp)) all0)))))))))), F2357, F2358, F2359, F2360, F2361, F2362, F2363, F2364, F2365, F2366, F2367, F2368, F2369, F2370, F2371, F2372, F2373, F2374, F2375, F2376, F2377, F2378⟩ (by decide) (by decide)
def own_s41_Q (Z : State) (a33 : Addr) (f2082 : UInt64) (a274 : Addr) (a273 : Addr) (a272 : Addr) (a271 : Addr) (a270 : Addr) (a269 : Addr) (a268 : Addr) (a267 : Addr) (a811 : Addr) (f386 : UInt64) (f858 : UInt64) (f1222 : UInt64) (a2034 : Addr) (v8 : Int32) (v2 : Int32) (v4 : Int32) (v6 : Int32) (v10 : Int32) (h0 : Heap) (n0 : Nat) (v_ : Option Value) (h_ : Heap) (L_ : List Loc) : Prop := (fun v h L => ∃ (a2168 : Addr) (f2113 : UInt64), v = none ∧ Fr n0 L ∧ Keep h0 h [a33, a267, a268, a269, a270, a271, a272, a273, a274] ∧ h0.size ≤ a2168 ∧ own_Ary Z h a272 .long (own_rJ 16) ∧ own_Ary Z h a269 .boolean (own_rI 16) ∧ own_Ary Z h a268 .double ([(.double f386), (.double f2082), (.double f1222)] ++ own_rD 13) ∧ own_Ary Z h a267 .double ([(.double (4621819117588971520 : UInt64)), (.double (4630826316843712512 : UInt64)), (.double (4629137466983448576 : UInt64))] ++ own_rD 13) ∧ own_Ary Z h a274 .int ([(.int (-1 : Int32)), (.int (2 : Int32))] ++ own_rI 14) ∧ own_Ary Z h a273 .int ([(.int (2 : Int32)), (.int (-1 : Int32)), (.int (1 : Int32))] ++ own_rI 13) ∧ own_Ary Z h a271 .boolean (own_rI 16) ∧ own_Ary Z h a270 (.object own_k1) ([(.ref a811), (.ref a2168), (.ref a2034)] ++ own_rN 13) ∧ Fld Z h a33 own_k0 "thresholds" "[D" (.ref a267) ∧ Fld Z h a33 own_k0 "ranks" "[D" (.ref a268) ∧ Fld Z h a33 own_k0 "guarded" "[Z" (.ref a269) ∧ Fld Z h a33 own_k0 "extents" own_k4 (.ref a270) ∧ Fld Z h a33 own_k0 "addedAtThreshold" "[Z" (.ref a271) ∧ Fld Z h a33 own_k0 "copies" "[J" (.ref a272) ∧ Fld Z h a33 own_k0 "nextOf" "[I" (.ref a273) ∧ Fld Z h a33 own_k0 "previousOf" "[I" (.ref a274) ∧ Fld Z h a33 own_k0 "first" "I" (.int (0 : Int32)) ∧ Fld Z h a33 own_k0 "last" "I" (.int (1 : Int32)) ∧ Fld Z h a33 own_k0 "free" "I" (.int (-1 : Int32)) ∧ Fld Z h a33 own_k0 "smallestMagnitude" "D" (.double (9218868437227405312 : UInt64)) ∧ Fld Z h a33 own_k0 "size" "I" (.int (3 : Int32)) ∧ Fld Z h a33 own_k0 "used" "I" (.int (3 : Int32)) ∧ Exa Z h a2168 own_k1 ∧ Fld Z h a2168 own_k1 "low" "D" (.double (4629137466983448576 : UInt64)) ∧ Fld Z h a2168 own_k1 "gapLow" "D" (.double (4630826316843712512 : UInt64)) ∧ Fld Z h a2168 own_k1 "gapHigh" "D" (.double (4630826316843712512 : UInt64)) ∧ Fld Z h a2168 own_k1 "high" "D" (.double (4630826316843712512 : UInt64)) ∧ Fld Z h a2168 own_k1 "below" "D" (.double f2113) ∧ Fld Z h a2168 own_k1 "count" "D" (.double f2113) ∧ FP.Core.DInt (v8.toInt - v6.toInt) f2113) v_ h_ L_
set_option maxRecDepth 65536 in
set_option maxHeartbeats 40000000 in
theorem own_s41 (l : Launch) (Z : State) (a0 : Array Value) (hw : ∀ d ∈ tables_1, d.before a0 Z = true) (wds : List Jvm.Cond) (a33 : Addr) (f2082 : UInt64) (a274 : Addr) (a273 : Addr) (a272 : Addr) (a271 : Addr) (a270 : Addr) (a269 : Addr) (a268 : Addr) (a267 : Addr) (a811 : Addr) (f386 : UInt64) (f858 : UInt64) (f1222 : UInt64) (a2034 : Addr) (v8 : Int32) (v2 : Int32) (v4 : Int32) (v6 : Int32) (v10 : Int32) (h0 : Heap) (n0 : Nat) (Z0 : n0 ≤ h0.size) (H3 : Exa Z h0 a33 own_k0) (H4 : Exa Z h0 a274 "[I") (H5 : Exa Z h0 a273 "[I") (H6 : Exa Z h0 a272 "[J") (H7 : Exa Z h0 a271 "[Z") (H8 : Exa Z h0 a270 own_k4) (H9 : own_Ovr Z h0 a270 own_k1) (H10 : Exa Z h0 a269 "[Z") (H11 : Exa Z h0 a268 "[D") (H12 : Exa Z h0 a267 "[D") (H20 : own_Ary Z h0 a272 .long (own_rJ 16)) (H21 : own_Ary Z h0 a269 .boolean (own_rI 16)) (H22 : own_Ary Z h0 a268 .double ([(.double f386), (.double f858), (.double f1222)] ++ own_rD 13)) (H23 : own_Ary Z h0 a267 .double ([(.double (4621819117588971520 : UInt64)), (.double (4626322717216342016 : UInt64)), (.double (4629137466983448576 : UInt64))] ++ own_rD 13)) (H24 : own_Ary Z h0 a274 .int ([(.int (-1 : Int32))] ++ own_rI 15)) (H25 : own_Ary Z h0 a273 .int ([(.int (2 : Int32)), (.int (-1 : Int32)), (.int (-1 : Int32))] ++ own_rI 13)) (H26 : own_Ary Z h0 a271 .boolean (own_rI 16)) (H27 : own_Ary Z h0 a270 (.object own_k1) ([(.ref a811), .null, (.ref a2034)] ++ own_rN 13)) (H28 : Fld Z h0 a33 own_k0 "thresholds" "[D" (.ref a267)) (H29 : Fld Z h0 a33 own_k0 "ranks" "[D" (.ref a268)) (H30 : Fld Z h0 a33 own_k0 "guarded" "[Z" (.ref a269)) (H31 : Fld Z h0 a33 own_k0 "extents" own_k4 (.ref a270)) (H32 : Fld Z h0 a33 own_k0 "addedAtThreshold" "[Z" (.ref a271)) (H33 : Fld Z h0 a33 own_k0 "copies" "[J" (.ref a272)) (H34 : Fld Z h0 a33 own_k0 "nextOf" "[I" (.ref a273)) (H35 : Fld Z h0 a33 own_k0 "previousOf" "[I" (.ref a274)) (H36 : Fld Z h0 a33 own_k0 "first" "I" (.int (0 : Int32))) (H37 : Fld Z h0 a33 own_k0 "last" "I" (.int (2 : Int32))) (H38 : Fld Z h0 a33 own_k0 "free" "I" (.int (1 : Int32))) (H39 : Fld Z h0 a33 own_k0 "smallestMagnitude" "D" (.double (9218868437227405312 : UInt64))) (H40 : Fld Z h0 a33 own_k0 "size" "I" (.int (2 : Int32))) (H41 : Fld Z h0 a33 own_k0 "used" "I" (.int (3 : Int32))) (H60 : a33 < a267) (H61 : a33 < a268) (H62 : a33 < a269) (H63 : a33 < a270) (H64 : a33 < a271) (H65 : a33 < a272) (H66 : a33 < a273) (H67 : a33 < a274) (H70 : n0 ≤ a33) (H71 : a267 < a268) (H72 : a267 < a269) (H73 : a267 < a270) (H74 : a267 < a271) (H75 : a267 < a272) (H76 : a267 < a273) (H77 : a267 < a274) (H80 : n0 ≤ a267) (H81 : a268 < a269) (H82 : a268 < a270) (H83 : a268 < a271) (H84 : a268 < a272) (H85 : a268 < a273) (H86 : a268 < a274) (H89 : n0 ≤ a268) (H90 : a269 < a270) (H91 : a269 < a271) (H92 : a269 < a272) (H93 : a269 < a273) (H94 : a269 < a274) (H97 : n0 ≤ a269) (H98 : a270 < a271) (H99 : a270 < a272) (H100 : a270 < a273) (H101 : a270 < a274) (H104 : n0 ≤ a270) (H105 : a271 < a272) (H106 : a271 < a273) (H107 : a271 < a274) (H110 : n0 ≤ a271) (H111 : a272 < a273) (H112 : a272 < a274) (H115 : n0 ≤ a272) (H116 : a273 < a274) (H119 : n0 ≤ a273) (H122 : n0 ≤ a274) (H126 : FP.Core.DInt v8.toInt f2082) (H129 : FP.Core.DInt v6.toInt f1222) (H131 : 1 ≤ v2.toInt ∧ v2.toInt ≤ v4.toInt ∧ v4.toInt < v6.toInt ∧ v6.toInt < v8.toInt ∧ v8.toInt ≤ 8388608 ∧ 1 ≤ v10.toInt ∧ v10.toInt ≤ 8388608) :
    MetFree l (⟨own_k0, "append", "(DD)V"⟩ : MethodName) (head1 (Jvm.Cond.code (⟨own_k0, "append", "(DD)V"⟩ : MethodName) prog_5_method_12_code 7 none :: wds) ({ frames := 4, cells := 1, slots := 6, locals := 71 } : Room)) (fun ar_ U_ => ar_ = #[(.ref a33), (.double (4630826316843712512 : UInt64)), (.double f2082)] ∧ Z.Warmed39 U_.vm ∧ U_.heap = h0) (fun _ _ _ _ _ => True) (fun _ U_ o_ V_ => ∃ v_ L_, o_ = .returned v_ ∧ own_s41_Q Z a33 f2082 a274 a273 a272 a271 a270 a269 a268 a267 a811 f386 f858 f1222 a2034 v8 v2 v4 v6 v10 h0 n0 v_ V_.heap L_ ∧ FrameEnd U_ o_ V_ L_ ({ frames := 4, cells := 1, slots := 6, locals := 71 } : Room).cells ({ frames := 4, cells := 1, slots := 6, locals := 71 } : Room).slots) := by
  refine own_met (y := ⟨own_k0, "append", "(DD)V"⟩) (Q := own_s41_Q Z a33 f2082 a274 a273 a272 a271 a270 a269 a268 a267 a811 f386 f858 f1222 a2034 v8 v2 v4 v6 v10 h0 n0) own_pn1 ?_
  intro p e s m below meth c s₁ hx hby hml hZ hown hnm hret hlk X0 e0
  have N0 := Fr.nil n0
  refine own_cast (g' := (mkF m 0 #[.val (.ref a33), .val (.double (4630826316843712512 : UInt64)), .second, .val (.double f2082), .second, .unset, .unset] [])) (by first | (simp [entryFrame, mkF, argsToLocals, Value.category]; done) | rfl) ?_
  generalize hL2083 : (#[.val (.ref a33), .val (.double (4630826316843712512 : UInt64)), .second, .val (.double f2082), .second, .unset, .unset] : Array Slot) = L2083
  refine own_alN (w := (.ref a33)) X0 hx (hb hby d3_0) (by rw [← hL2083]; rfl) rfl ?_
  refine own_getf X0 hx hZ hown (own_w hw 48 rfl) e0 H40 (hb hby d3_1) ?_
  intro T2106 X2106 e2106
  show own_Go _ _ _ _ _ _ _ T2106 (mkF m 4 L2083 [(.int (2 : Int32))])
  refine own_pre (g' := (mkF m 11 L2083 [])) (fun t k => XS.ifYes X2106.here hx rfl (pc0 := 4) (pc' := 11) rfl (hb hby d3_4) rfl (by decide) (by decide) (by decide) k) ?_
  refine own_alN (w := (.ref a33)) X2106 hx (hb hby d3_11) (by rw [← hL2083]; rfl) rfl ?_
  refine own_getf X2106 hx hZ hown (own_w hw 13 rfl) e2106 H28 (hb hby d3_12) ?_
  intro T2107 X2107 e2107
  show own_Go _ _ _ _ _ _ _ T2107 (mkF m 15 L2083 [(.ref a267)])
  refine own_alN (w := (.ref a33)) X2107 hx (hb hby d3_15) (by rw [← hL2083]; rfl) rfl ?_
  refine own_getf X2107 hx hZ hown (own_w hw 35 rfl) e2107 H37 (hb hby d3_16) ?_
  intro T2108 X2108 e2108
  show own_Go _ _ _ _ _ _ _ T2108 (mkF m 19 L2083 [(.int (2 : Int32)), (.ref a267)])
  refine own_daload X2108 hx hZ e2108 H23 (hb hby d3_19) (n := 2) (v := (.double (4629137466983448576 : UInt64))) (by decide) (by decide) rfl ?_
  show own_Go _ _ _ _ _ _ _ T2108 (mkF m 20 L2083 [(.double (4629137466983448576 : UInt64))])
  refine own_pre (g' := (mkF m 22 #[.val (.ref a33), .val (.double (4630826316843712512 : UInt64)), .second, .val (.double f2082), .second, .val (.double (4629137466983448576 : UInt64)), .second] [])) (fun t k => XS.dstore X2108.here hx rfl (hb hby d3_20) rfl (l' := #[.val (.ref a33), .val (.double (4630826316843712512 : UInt64)), .second, .val (.double f2082), .second, .val (.double (4629137466983448576 : UInt64)), .second]) (by rw [← hL2083]; rfl) k) ?_
  generalize hL2109 : (#[.val (.ref a33), .val (.double (4630826316843712512 : UInt64)), .second, .val (.double f2082), .second, .val (.double (4629137466983448576 : UInt64)), .second] : Array Slot) = L2109
  refine own_alN (w := (.ref a33)) X2108 hx (hb hby d3_22) (by rw [← hL2109]; rfl) rfl ?_
  refine own_dlN (w := (4630826316843712512 : UInt64)) X2108 hx (hb hby d3_23) (by rw [← hL2109]; rfl) ?_
  refine own_dlN (w := f2082) X2108 hx (hb hby d3_24) (by rw [← hL2109]; rfl) ?_
  refine own_dl (w := (4629137466983448576 : UInt64)) X2108 hx (hb hby d3_25) (by rw [← hL2109]; rfl) ?_
  refine own_dlN (w := (4630826316843712512 : UInt64)) X2108 hx (hb hby d3_27) (by rw [← hL2109]; rfl) ?_
  refine own_alN (w := (.ref a33)) X2108 hx (hb hby d3_28) (by rw [← hL2109]; rfl) rfl ?_
  refine own_getf X2108 hx hZ hown (own_w hw 48 rfl) e2108 H40 (hb hby d3_29) ?_
  intro T2110 X2110 e2110
  show own_Go _ _ _ _ _ _ _ T2110 (mkF m 32 L2109 [(.int (2 : Int32)), (.double (4630826316843712512 : UInt64)), (.double (4629137466983448576 : UInt64)), (.double f2082), (.double (4630826316843712512 : UInt64)), (.ref a33)])
  refine own_pre (g' := (mkF m 39 L2109 [(.double (4630826316843712512 : UInt64)), (.double (4629137466983448576 : UInt64)), (.double f2082), (.double (4630826316843712512 : UInt64)), (.ref a33)])) (fun t k => XS.ifYes X2110.here hx rfl (pc0 := 32) (pc' := 39) rfl (hb hby d3_32) rfl (by decide) (by decide) (by decide) k) ?_
  refine own_dlN (w := f2082) X2110 hx (hb hby d3_39) (by rw [← hL2109]; rfl) ?_
  refine own_alN (w := (.ref a33)) X2110 hx (hb hby d3_40) (by rw [← hL2109]; rfl) rfl ?_
  refine own_getf X2110 hx hZ hown (own_w hw 15 rfl) e2110 H29 (hb hby d3_41) ?_
  intro T2111 X2111 e2111
  show own_Go _ _ _ _ _ _ _ T2111 (mkF m 44 L2109 [(.ref a268), (.double f2082), (.double (4630826316843712512 : UInt64)), (.double (4629137466983448576 : UInt64)), (.double f2082), (.double (4630826316843712512 : UInt64)), (.ref a33)])
  refine own_alN (w := (.ref a33)) X2111 hx (hb hby d3_44) (by rw [← hL2109]; rfl) rfl ?_
  refine own_getf X2111 hx hZ hown (own_w hw 35 rfl) e2111 H37 (hb hby d3_45) ?_
  intro T2112 X2112 e2112
  show own_Go _ _ _ _ _ _ _ T2112 (mkF m 48 L2109 [(.int (2 : Int32)), (.ref a268), (.double f2082), (.double (4630826316843712512 : UInt64)), (.double (4629137466983448576 : UInt64)), (.double f2082), (.double (4630826316843712512 : UInt64)), (.ref a33)])
  refine own_daload X2112 hx hZ e2112 H22 (hb hby d3_48) (n := 2) (v := (.double f1222)) (by decide) (by decide) rfl ?_
  show own_Go _ _ _ _ _ _ _ T2112 (mkF m 49 L2109 [(.double f1222), (.double f2082), (.double (4630826316843712512 : UInt64)), (.double (4629137466983448576 : UInt64)), (.double f2082), (.double (4630826316843712512 : UInt64)), (.ref a33)])
  obtain ⟨f2113, hf2113⟩ : ∃ z, FP.dsub f2082 f1222 = z := ⟨_, rfl⟩
  have Df2113 : Jvm.FP.Core.DInt (v8.toInt - v6.toInt) f2113 := hf2113 ▸ Jvm.FP.Core.dsub_int H126 H129 (by have := H131; have := rng32 v8; have := rng32 v6; omega)
  refine own_pre (g' := (mkF m 50 L2109 [(.double f2113), (.double (4630826316843712512 : UInt64)), (.double (4629137466983448576 : UInt64)), (.double f2082), (.double (4630826316843712512 : UInt64)), (.ref a33)])) (fun t k => XS.dsubS X2112.here hx rfl (hb hby d3_49) rfl (by rw [hf2113]; exact own_DInt_nn Df2113) hf2113 k) ?_
  refine own_calls (argsL := [(.double (4629137466983448576 : UInt64)), (.double (4630826316843712512 : UInt64)), (.double f2113)]) (rest := [(.double f2082), (.double (4630826316843712512 : UInt64)), (.ref a33)]) X2112 hx hZ hown (own_s42 l Z a0 hw [] f2113 h0 n0 Z0 ) (own_w hw 50 rfl) (own_w hw 51 rfl) (own_w hw 53 rfl) (own_w hw 52 rfl) (by decide) e2112 (hb hby d3_50) (by rw [hml, ← hL2109]; rfl) rfl (lenOf own_pd2 rfl) (by decide) (W := 5) (Nat.le_of_eq rfl) (by decide) (by decide) (by decide) ?_
  intro v2167 T2167 lo2167 X2167 Q2167
  obtain ⟨h2167, e2167⟩ : ∃ h, T2167.heap = h := ⟨_, rfl⟩
  rw [e2167] at Q2167
  obtain ⟨a2168, rfl, N2167, K2167, ge2169, F2170, F2171, F2172, F2173, F2174, F2175, F2176⟩ := Q2167
  have N2167' := Fr.app N0 N2167
  show own_Go _ _ _ _ _ _ _ T2167 (mkF m 53 L2109 [(.ref a2168), (.double f2082), (.double (4630826316843712512 : UInt64)), (.ref a33)])
  have lt2179 : a33 < a2168 := Nat.lt_of_lt_of_le H3.lt ge2169
  have lt2180 : a274 < a2168 := Nat.lt_of_lt_of_le H4.lt ge2169
  have lt2181 : a273 < a2168 := Nat.lt_of_lt_of_le H5.lt ge2169
  have lt2182 : a272 < a2168 := Nat.lt_of_lt_of_le H6.lt ge2169
  have lt2183 : a271 < a2168 := Nat.lt_of_lt_of_le H7.lt ge2169
  have lt2184 : a270 < a2168 := Nat.lt_of_lt_of_le H8.lt ge2169
  have lt2185 : a269 < a2168 := Nat.lt_of_lt_of_le H10.lt ge2169
  have lt2186 : a268 < a2168 := Nat.lt_of_lt_of_le H11.lt ge2169
  have lt2187 : a267 < a2168 := Nat.lt_of_lt_of_le H12.lt ge2169
  have ge2191 : h0.size ≤ a2168 := Nat.le_trans (Nat.le_refl _) ge2169
  refine own_pre (g' := (mkF m 54 L2109 [(.long (0 : Int64)), (.ref a2168), (.double f2082), (.double (4630826316843712512 : UInt64)), (.ref a33)])) (fun t k => XT.lconst X2167.here hx rfl (hb hby d3_53) k) ?_
  have F2194 := (H3.keep K2167)
  have F2200 := (H9.keep K2167)
  have F2211 := (H20.keep K2167 nin0)
  have F2212 := (H21.keep K2167 nin0)
  have F2213 := (H22.keep K2167 nin0)
  have F2214 := (H23.keep K2167 nin0)
  have F2215 := (H24.keep K2167 nin0)
  have F2216 := (H25.keep K2167 nin0)
  have F2217 := (H26.keep K2167 nin0)
  have F2218 := (H27.keep K2167 nin0)
  have F2219 := (H28.keep K2167 nin0)
  have F2220 := (H29.keep K2167 nin0)
  have F2221 := (H30.keep K2167 nin0)
  have F2222 := (H31.keep K2167 nin0)
  have F2223 := (H32.keep K2167 nin0)
  have F2224 := (H33.keep K2167 nin0)
  have F2225 := (H34.keep K2167 nin0)
  have F2226 := (H35.keep K2167 nin0)
  have F2227 := (H36.keep K2167 nin0)
  have F2228 := (H37.keep K2167 nin0)
  have F2229 := (H38.keep K2167 nin0)
  have F2230 := (H39.keep K2167 nin0)
  have F2231 := (H40.keep K2167 nin0)
  have F2232 := (H41.keep K2167 nin0)
  have F2380 : n0 ≤ h2167.size := (Nat.le_trans Z0 K2167.1)
  refine own_callv (a := a33) (argsL := [(.double (4630826316843712512 : UInt64)), (.double f2082), (.ref a2168), (.long (0 : Int64))]) (rest := []) X2167 hx hZ hown (own_s45 l Z a0 hw [] a33 f2082 a2168 a274 a273 a272 a271 a270 a269 a268 a267 a811 f386 f858 f1222 a2034 h2167 n0 F2380 F2194 F2200 F2211 F2212 F2213 F2214 F2215 F2216 F2217 F2218 F2219 F2220 F2221 F2222 F2223 F2224 F2225 F2226 F2227 F2228 F2229 F2230 F2231 F2232 F2170 H67 H66 H65 H64 H63 H62 H61 H60 H70 H116 H112 H107 H101 H94 H86 H77 H122 H111 H106 H100 H93 H85 H76 H119 H105 H99 H92 H84 H75 H115 H98 H91 H83 H74 H110 H90 H82 H73 H104 H81 H72 H97 H71 H89 H80) F2194 (own_w hw 77 rfl) (own_w hw 78 rfl) (own_w hw 80 rfl) (own_w hw 79 rfl) (own_w hw 81 rfl) (own_w hw 6 rfl) (by decide) e2167 (hb hby d3_54) (by rw [hml, ← hL2109]; rfl) rfl (lenOf own_pd5 rfl) (by decide) (W := 0) (Nat.le_of_eq rfl) (by decide) (by decide) (by decide) ?_
  intro v2381 T2381 lo2381 X2381 Q2381
  obtain ⟨h2381, e2381⟩ : ∃ h, T2381.heap = h := ⟨_, rfl⟩
  rw [e2381] at Q2381
  obtain ⟨rfl, N2381, K2381, F2382, F2383, F2384, F2385, F2386, F2387, F2388, F2389, F2390, F2391, F2392, F2393, F2394, F2395, F2396, F2397, F2398, F2399, F2400, F2401, F2402, F2403⟩ := Q2381
  have N2381' := Fr.app N2167' N2381
  show own_Go _ _ _ _ _ _ _ T2381 (mkF m 57 L2109 [])
  have F2405 := (F2170.keep K2381)
  have F2406 := (F2171.keep K2381 (ninS (Nat.ne_of_gt lt2179) (ninS (Nat.ne_of_gt lt2187) (ninS (Nat.ne_of_gt lt2186) (ninS (Nat.ne_of_gt lt2185) (ninS (Nat.ne_of_gt lt2184) (ninS (Nat.ne_of_gt lt2183) (ninS (Nat.ne_of_gt lt2182) (ninS (Nat.ne_of_gt lt2181) (ninS (Nat.ne_of_gt lt2180) nin0))))))))))
  have F2407 := (F2172.keep K2381 (ninS (Nat.ne_of_gt lt2179) (ninS (Nat.ne_of_gt lt2187) (ninS (Nat.ne_of_gt lt2186) (ninS (Nat.ne_of_gt lt2185) (ninS (Nat.ne_of_gt lt2184) (ninS (Nat.ne_of_gt lt2183) (ninS (Nat.ne_of_gt lt2182) (ninS (Nat.ne_of_gt lt2181) (ninS (Nat.ne_of_gt lt2180) nin0))))))))))
  have F2408 := (F2173.keep K2381 (ninS (Nat.ne_of_gt lt2179) (ninS (Nat.ne_of_gt lt2187) (ninS (Nat.ne_of_gt lt2186) (ninS (Nat.ne_of_gt lt2185) (ninS (Nat.ne_of_gt lt2184) (ninS (Nat.ne_of_gt lt2183) (ninS (Nat.ne_of_gt lt2182) (ninS (Nat.ne_of_gt lt2181) (ninS (Nat.ne_of_gt lt2180) nin0))))))))))
  have F2409 := (F2174.keep K2381 (ninS (Nat.ne_of_gt lt2179) (ninS (Nat.ne_of_gt lt2187) (ninS (Nat.ne_of_gt lt2186) (ninS (Nat.ne_of_gt lt2185) (ninS (Nat.ne_of_gt lt2184) (ninS (Nat.ne_of_gt lt2183) (ninS (Nat.ne_of_gt lt2182) (ninS (Nat.ne_of_gt lt2181) (ninS (Nat.ne_of_gt lt2180) nin0))))))))))
  have F2410 := (F2175.keep K2381 (ninS (Nat.ne_of_gt lt2179) (ninS (Nat.ne_of_gt lt2187) (ninS (Nat.ne_of_gt lt2186) (ninS (Nat.ne_of_gt lt2185) (ninS (Nat.ne_of_gt lt2184) (ninS (Nat.ne_of_gt lt2183) (ninS (Nat.ne_of_gt lt2182) (ninS (Nat.ne_of_gt lt2181) (ninS (Nat.ne_of_gt lt2180) nin0))))))))))
  have F2411 := (F2176.keep K2381 (ninS (Nat.ne_of_gt lt2179) (ninS (Nat.ne_of_gt lt2187) (ninS (Nat.ne_of_gt lt2186) (ninS (Nat.ne_of_gt lt2185) (ninS (Nat.ne_of_gt lt2184) (ninS (Nat.ne_of_gt lt2183) (ninS (Nat.ne_of_gt lt2182) (ninS (Nat.ne_of_gt lt2181) (ninS (Nat.ne_of_gt lt2180) nin0))))))))))
  exact own_ret0 X2381 hx hlk hret (hb hby d3_57) e2381 ⟨a2168, f2113, rfl, N2381', (((Keep.refl _ _).trans K2167 all0).trans K2381 (allS (Or.inl (by simp)) (allS (Or.inl (by simp)) (allS (Or.inl (by simp)) (allS (Or.inl (by simp)) (allS (Or.inl (by simp)) (allS (Or.inl (by simp)) (allS (Or.inl (by simp)) (allS (Or.inl (by simp)) (allS (Or.inl (by simp)) all0)))))))))), ge2191, F2382, F2383, F2384, F2385, F2386, F2387, F2388, F2389, F2390, F2391, F2392, F2393, F2394, F2395, F2396, F2397, F2398, F2399, F2400, F2401, F2402, F2403, F2405, F2406, F2407, F2408, F2409, F2410, F2411, Df2113⟩ (by decide) (by decide)
theorem d19_0 : decode prog_40_method_3_code 0 = .ok (.iload_n 2, 1) := by decide +kernel
theorem d19_1 : decode prog_40_method_3_code 1 = .ok (.newarray .long, 2) := by decide +kernel
theorem d19_3 : decode prog_40_method_3_code 3 = .ok (.astore_n 3, 1) := by decide +kernel
theorem d19_4 : decode prog_40_method_3_code 4 = .ok (.lconst 0, 1) := by decide +kernel
theorem d19_5 : decode prog_40_method_3_code 5 = .ok (.lstore 4, 2) := by decide +kernel
theorem d19_7 : decode prog_40_method_3_code 7 = .ok (.iconst 0, 1) := by decide +kernel
theorem d19_8 : decode prog_40_method_3_code 8 = .ok (.istore 6, 2) := by decide +kernel
theorem d19_10 : decode prog_40_method_3_code 10 = .ok (.iload 6, 2) := by decide +kernel
theorem d19_12 : decode prog_40_method_3_code 12 = .ok (.iload_n 2, 1) := by decide +kernel
theorem d19_13 : decode prog_40_method_3_code 13 = .ok (.if_icmp .ge 24, 3) := by decide +kernel
theorem d19_16 : decode prog_40_method_3_code 16 = .ok (.lload 4, 2) := by decide +kernel
theorem d19_18 : decode prog_40_method_3_code 18 = .ok (.aload_n 1, 1) := by decide +kernel
theorem d19_19 : decode prog_40_method_3_code 19 = .ok (.iload 6, 2) := by decide +kernel
theorem d19_21 : decode prog_40_method_3_code 21 = .ok (.laload, 1) := by decide +kernel
theorem d19_22 : decode prog_40_method_3_code 22 = .ok (.ladd, 1) := by decide +kernel
theorem d19_23 : decode prog_40_method_3_code 23 = .ok (.lstore 4, 2) := by decide +kernel
theorem d19_25 : decode prog_40_method_3_code 25 = .ok (.aload_n 3, 1) := by decide +kernel
theorem d19_26 : decode prog_40_method_3_code 26 = .ok (.iload 6, 2) := by decide +kernel
theorem d19_28 : decode prog_40_method_3_code 28 = .ok (.lload 4, 2) := by decide +kernel
theorem d19_30 : decode prog_40_method_3_code 30 = .ok (.lastore, 1) := by decide +kernel
theorem d19_31 : decode prog_40_method_3_code 31 = .ok (.iinc 6 1, 3) := by decide +kernel
theorem d19_34 : decode prog_40_method_3_code 34 = .ok (.goto (-24), 3) := by decide +kernel
theorem d19_37 : decode prog_40_method_3_code 37 = .ok (.new 8, 3) := by decide +kernel
theorem d19_40 : decode prog_40_method_3_code 40 = .ok (.dup, 1) := by decide +kernel
theorem d19_41 : decode prog_40_method_3_code 41 = .ok (.aload_n 0, 1) := by decide +kernel
theorem d19_42 : decode prog_40_method_3_code 42 = .ok (.iload_n 2, 1) := by decide +kernel
theorem d19_43 : decode prog_40_method_3_code 43 = .ok (.invokestatic 20, 3) := by decide +kernel
theorem d19_46 : decode prog_40_method_3_code 46 = .ok (.aload_n 3, 1) := by decide +kernel
theorem d19_47 : decode prog_40_method_3_code 47 = .ok (.invokespecial 17, 3) := by decide +kernel
theorem d19_50 : decode prog_40_method_3_code 50 = .ok (.areturn, 1) := by decide +kernel
theorem own_pn5 : plainName "com/example/rankline/rankline/ValueCounts" = true := by first | (simp [plainName, overriddenIn]; done) | decide +kernel
theorem d20_0 : decode jdk_65_method_127_code 0 = .ok (.iload_n 1, 1) := by decide +kernel
theorem d20_1 : decode jdk_65_method_127_code 1 = .ok (.aload_n 0, 1) := by decide +kernel
theorem d20_2 : decode jdk_65_method_127_code 2 = .ok (.arraylength, 1) := by decide +kernel
theorem d20_3 : decode jdk_65_method_127_code 3 = .ok (.if_icmp .ne 11, 3) := by decide +kernel
theorem d20_6 : decode jdk_65_method_127_code 6 = .ok (.aload_n 0, 1) := by decide +kernel
theorem d20_7 : decode jdk_65_method_127_code 7 = .ok (.invokevirtual 328, 3) := by decide +kernel
theorem d20_10 : decode jdk_65_method_127_code 10 = .ok (.checkcast 329, 3) := by decide +kernel
theorem d20_13 : decode jdk_65_method_127_code 13 = .ok (.areturn, 1) := by decide +kernel
theorem own_pn6 : plainName "java/util/Arrays" = true := by first | (simp [plainName, overriddenIn]; done) | decide +kernel
def own_s49_Q (Z : State) (a12 : Addr) (h0 : Heap) (n0 : Nat) (v_ : Option Value) (h_ : Heap) (L_ : List Loc) : Prop := (fun v h L => ∃ (a2509 : Addr), v = some (.ref a2509) ∧ Fr n0 L ∧ Keep h0 h [] ∧ h0.size ≤ a2509 ∧ own_Ary Z h a2509 .double [(.double (4617315517961601024 : UInt64))] ∧ Exa Z h a2509 "[D") v_ h_ L_
set_option maxRecDepth 65536 in
set_option maxHeartbeats 40000000 in
theorem own_s49 (l : Launch) (Z : State) (a0 : Array Value) (hw : ∀ d ∈ tables_1, d.before a0 Z = true) (wds : List Jvm.Cond) (a12 : Addr) (h0 : Heap) (n0 : Nat) (Z0 : n0 ≤ h0.size) (H3 : own_Ary Z h0 a12 .double [(.double (4617315517961601024 : UInt64))]) (H4 : Exa Z h0 a12 "[D") :
    MetFree l (⟨"java/util/Arrays", "copyOf", "([DI)[D"⟩ : MethodName) (head1 (Jvm.Cond.code (⟨"java/util/Arrays", "copyOf", "([DI)[D"⟩ : MethodName) jdk_65_method_127_code 3 (some (.array .double)) :: wds) ({ frames := 1, cells := 1, slots := 1, locals := 14 } : Room)) (fun ar_ U_ => ar_ = #[(.ref a12), (.int (1 : Int32))] ∧ Z.Warmed39 U_.vm ∧ U_.heap = h0) (fun _ _ _ _ _ => True) (fun _ U_ o_ V_ => ∃ v_ L_, o_ = .returned v_ ∧ own_s49_Q Z a12 h0 n0 v_ V_.heap L_ ∧ FrameEnd U_ o_ V_ L_ ({ frames := 1, cells := 1, slots := 1, locals := 14 } : Room).cells ({ frames := 1, cells := 1, slots := 1, locals := 14 } : Room).slots) := by
  refine own_met (y := ⟨"java/util/Arrays", "copyOf", "([DI)[D"⟩) (Q := own_s49_Q Z a12 h0 n0) own_pn6 ?_
  intro p e s m below meth c s₁ hx hby hml hZ hown hnm hret hlk X0 e0
  have N0 := Fr.nil n0
  refine own_cast (g' := (mkF m 0 #[.val (.ref a12), .val (.int (1 : Int32)), .unset] [])) (by first | (simp [entryFrame, mkF, argsToLocals, Value.category]; done) | rfl) ?_
  refine own_ilN (w := (1 : Int32)) X0 hx (hb hby d20_0) rfl ?_
  refine own_alN (w := (.ref a12)) X0 hx (hb hby d20_1) rfl rfl ?_
  refine own_len X0 hx hZ e0 H3 (hb hby d20_2) (n := (1 : Int32)) rfl ?_
  show own_Go _ _ _ _ _ _ _ s₁ (mkF m 3 #[.val (.ref a12), .val (.int (1 : Int32)), .unset] [(.int (1 : Int32)), (.int (1 : Int32))])
  refine own_pre (g' := (mkF m 6 #[.val (.ref a12), .val (.int (1 : Int32)), .unset] [])) (fun t k => XS.icmpNo X0.here hx rfl (hb hby d20_3) rfl (by decide) k) ?_
  refine own_alN (w := (.ref a12)) X0 hx (hb hby d20_6) rfl rfl ?_
  refine own_clone X0 hx hZ hown (own_w hw 164 rfl) (own_w hw 165 rfl) (own_w hw 169 rfl) (own_w hw 167 rfl) (own_w hw 168 rfl) (own_w hw 170 rfl) e0 H3 H4 (by intro v hv; simp at hv; rcases hv with rfl <;> rfl) (hb hby d20_7) (by rw [hml]; rfl) (by decide) (W := 0) (n := 1) (Nat.le_of_eq rfl) (by decide) rfl (by decide) (by decide) ?_
  intro T2509 h2509 a2509 g2509 X2509 e2509 E2509 A2509 B2509
  have ge2512 : h0.size ≤ a2509 := Nat.le_trans (Nat.le_refl _) (Nat.le_of_eq g2509.symm)
  show own_Go _ _ _ _ _ _ _ T2509 (mkF m 10 #[.val (.ref a12), .val (.int (1 : Int32)), .unset] [(.ref a2509)])
  refine own_cast1 X2509 hx hZ hown (own_w hw 171 rfl) e2509 (Ins.self B2509) (hb hby d20_10) ?_
  intro T2514 X2514 e2514
  show own_Go _ _ _ _ _ _ _ T2514 (mkF m 13 #[.val (.ref a12), .val (.int (1 : Int32)), .unset] [(.ref a2509)])
  exact own_retA X2514 hx hlk hret rfl rfl rfl (hb hby d20_13) e2514 ⟨a2509, rfl, N0, ((Keep.refl _ _).ext E2509), ge2512, A2509, B2509⟩ (by decide) (by decide)
theorem own_pd13 : parseMethodDescriptor "([DI)[D" = some ⟨[(.array .double), .int], some (.array .double)⟩ := by decide +kernel
theorem d21_0 : decode prog_40_method_1_code 0 = .ok (.aload_n 0, 1) := by decide +kernel
theorem d21_1 : decode prog_40_method_1_code 1 = .ok (.invokespecial 1, 3) := by decide +kernel
theorem d21_4 : decode prog_40_method_1_code 4 = .ok (.aload_n 0, 1) := by decide +kernel
theorem d21_5 : decode prog_40_method_1_code 5 = .ok (.aload_n 1, 1) := by decide +kernel
theorem d21_6 : decode prog_40_method_1_code 6 = .ok (.putfield 7, 3) := by decide +kernel
theorem d21_9 : decode prog_40_method_1_code 9 = .ok (.aload_n 0, 1) := by decide +kernel
theorem d21_10 : decode prog_40_method_1_code 10 = .ok (.aload_n 2, 1) := by decide +kernel
theorem d21_11 : decode prog_40_method_1_code 11 = .ok (.putfield 13, 3) := by decide +kernel
theorem d21_14 : decode prog_40_method_1_code 14 = .ok (.return_, 1) := by decide +kernel
theorem own_f26 {a0 : Array Value} {Z : State} (hw : ∀ d ∈ tables_1, d.before a0 Z = true) : Laid Z a0 own_k3 own_k3 "ranks" "[J" ∧ parseFieldDescriptor "[J" = some (.array .long) := ⟨(Or.inr (own_w hw 180 rfl)), by decide⟩
theorem own_f27 {a0 : Array Value} {Z : State} (hw : ∀ d ∈ tables_1, d.before a0 Z = true) : Laid Z a0 own_k3 own_k3 "values" "[D" ∧ parseFieldDescriptor "[D" = some (.array .double) := ⟨(Or.inr (own_w hw 178 rfl)), by decide⟩
def own_s50_Q (Z : State) (a2495 : Addr) (a2517 : Addr) (a2475 : Addr) (h0 : Heap) (n0 : Nat) (v_ : Option Value) (h_ : Heap) (L_ : List Loc) : Prop := (fun v h L => v = none ∧ Fr n0 L ∧ Keep h0 h [a2495] ∧ Fld Z h a2495 own_k3 "values" "[D" (.ref a2517) ∧ Fld Z h a2495 own_k3 "ranks" "[J" (.ref a2475)) v_ h_ L_
set_option maxRecDepth 65536 in
set_option maxHeartbeats 40000000 in
theorem own_s50 (l : Launch) (Z : State) (a0 : Array Value) (hw : ∀ d ∈ tables_1, d.before a0 Z = true) (wds : List Jvm.Cond) (a2495 : Addr) (a2517 : Addr) (a2475 : Addr) (h0 : Heap) (n0 : Nat) (Z0 : n0 ≤ h0.size) (H5 : Exa Z h0 a2495 own_k3) (H6 : Fld Z h0 a2495 own_k3 "values" "[D" .null) (H7 : Fld Z h0 a2495 own_k3 "ranks" "[J" .null) (H17 : n0 ≤ a2495) :
    MetFree l (⟨own_k3, "<init>", "([D[J)V"⟩ : MethodName) (head1 (Jvm.Cond.code (⟨own_k3, "<init>", "([D[J)V"⟩ : MethodName) prog_40_method_1_code 3 none :: wds) ({ frames := 1, cells := 0, slots := 0, locals := 12 } : Room)) (fun ar_ U_ => ar_ = #[(.ref a2495), (.ref a2517), (.ref a2475)] ∧ Z.Warmed39 U_.vm ∧ U_.heap = h0) (fun _ _ _ _ _ => True) (fun _ U_ o_ V_ => ∃ v_ L_, o_ = .returned v_ ∧ own_s50_Q Z a2495 a2517 a2475 h0 n0 v_ V_.heap L_ ∧ FrameEnd U_ o_ V_ L_ ({ frames := 1, cells := 0, slots := 0, locals := 12 } : Room).cells ({ frames := 1, cells := 0, slots := 0, locals := 12 } : Room).slots) := by
  refine own_met (y := ⟨own_k3, "<init>", "([D[J)V"⟩) (Q := own_s50_Q Z a2495 a2517 a2475 h0 n0) own_pn5 ?_
  intro p e s m below meth c s₁ hx hby hml hZ hown hnm hret hlk X0 e0
  have N0 := Fr.nil n0
  refine own_cast (g' := (mkF m 0 #[.val (.ref a2495), .val (.ref a2517), .val (.ref a2475)] [])) (by first | (simp [entryFrame, mkF, argsToLocals, Value.category]; done) | rfl) ?_
  refine own_alN (w := (.ref a2495)) X0 hx (hb hby d21_0) rfl rfl ?_
  refine own_init0 X0 hx hZ hown (own_w hw 176 rfl) (own_w hw 11 rfl) (own_w hw 12 rfl) e0 (hb hby d21_1) (by rw [hml]; rfl) (by decide) (W := 0) (Nat.le_of_eq rfl) (by decide) ?_
  intro T2538 X2538 e2538
  show own_Go _ _ _ _ _ _ _ T2538 (mkF m 4 #[.val (.ref a2495), .val (.ref a2517), .val (.ref a2475)] [])
  refine own_alN (w := (.ref a2495)) X2538 hx (hb hby d21_4) rfl rfl ?_
  refine own_alN (w := (.ref a2517)) X2538 hx (hb hby d21_5) rfl rfl ?_
  refine own_putf X2538 hx hZ hown (own_w hw 177 rfl) e2538 N0 H17 H6 H5 (Or.inr ⟨(own_w hw 178 rfl), rfl, hnm⟩) (own_w hw 159 rfl) (ty := (.array .double)) (by decide) rfl rfl (hb hby d21_6) ?_
  intro T2539 h2539 lo2539 X2539 e2539 N2539 W2539
  have F2540 := H6.same W2539
  show own_Go _ _ _ _ _ _ _ T2539 (mkF m 9 #[.val (.ref a2495), .val (.ref a2517), .val (.ref a2475)] [])
  refine own_alN (w := (.ref a2495)) X2539 hx (hb hby d21_9) rfl rfl ?_
  refine own_alN (w := (.ref a2475)) X2539 hx (hb hby d21_10) rfl rfl ?_
  have F2541 := (H7.other W2539 (Or.inr (own_sne (own_f26 hw) (own_f27 hw) (by decide))))
  have F2542 := (H5.wr W2539)
  refine own_putf X2539 hx hZ hown (own_w hw 179 rfl) e2539 N2539 H17 F2541 F2542 (Or.inr ⟨(own_w hw 180 rfl), rfl, hnm⟩) (own_w hw 159 rfl) (ty := (.array .long)) (by decide) rfl rfl (hb hby d21_11) ?_
  intro T2543 h2543 lo2543 X2543 e2543 N2543 W2543
  have F2544 := F2541.same W2543
  show own_Go _ _ _ _ _ _ _ T2543 (mkF m 14 #[.val (.ref a2495), .val (.ref a2517), .val (.ref a2475)] [])
  have F2545 := (F2540.other W2543 (Or.inr (own_sne (own_f27 hw) (own_f26 hw) (by decide))))
  exact own_ret0 X2543 hx hlk hret (hb hby d21_14) e2543 ⟨rfl, N2543, (((Keep.refl _ _).wr W2539 (Or.inl (by simp))).wr W2543 (Or.inl (by simp))), F2545, F2544⟩ (by decide) (by decide)
theorem own_pd14 : parseMethodDescriptor "([D[J)V" = some ⟨[(.array .double), (.array .long)], none⟩ := by decide +kernel
def own_s48_Q (Z : State) (a12 : Addr) (a21 : Addr) (v26 : Int64) (h0 : Heap) (n0 : Nat) (v_ : Option Value) (h_ : Heap) (L_ : List Loc) : Prop := (fun v h L => ∃ (a2475 : Addr) (a2495 : Addr) (a2517 : Addr), v = some (.ref a2495) ∧ Fr n0 L ∧ Keep h0 h [] ∧ h0.size ≤ a2475 ∧ h0.size ≤ a2495 ∧ h0.size ≤ a2517 ∧ a2475 < a2495 ∧ a2475 < a2517 ∧ a2495 < a2517 ∧ Exa Z h a2495 own_k3 ∧ Fld Z h a2495 own_k3 "values" "[D" (.ref a2517) ∧ Fld Z h a2495 own_k3 "ranks" "[J" (.ref a2475) ∧ own_Ary Z h a2475 .long [(.long ((0 : Int64) + v26))] ∧ Exa Z h a2475 "[J" ∧ own_Ary Z h a2517 .double [(.double (4617315517961601024 : UInt64))] ∧ Exa Z h a2517 "[D") v_ h_ L_
set_option maxRecDepth 65536 in
set_option maxHeartbeats 40000000 in
theorem own_s48 (l : Launch) (Z : State) (a0 : Array Value) (hw : ∀ d ∈ tables_1, d.before a0 Z = true) (wds : List Jvm.Cond) (a12 : Addr) (a21 : Addr) (v26 : Int64) (h0 : Heap) (n0 : Nat) (Z0 : n0 ≤ h0.size) (H3 : own_Ary Z h0 a12 .double [(.double (4617315517961601024 : UInt64))]) (H4 : Exa Z h0 a12 "[D") (H5 : own_Ary Z h0 a21 .long [(.long v26)]) :
    MetFree l (⟨own_k3, "of", "([D[JI)Lcom/example/rankline/rankline/ValueCounts;"⟩ : MethodName) (head1 (Jvm.Cond.code (⟨own_k3, "of", "([D[JI)Lcom/example/rankline/rankline/ValueCounts;"⟩ : MethodName) prog_40_method_3_code 7 (some (.object own_k3)) :: wds) ({ frames := 2, cells := 3, slots := 4, locals := 30 } : Room)) (fun ar_ U_ => ar_ = #[(.ref a12), (.ref a21), (.int (1 : Int32))] ∧ Z.Warmed39 U_.vm ∧ U_.heap = h0) (fun _ _ _ _ _ => True) (fun _ U_ o_ V_ => ∃ v_ L_, o_ = .returned v_ ∧ own_s48_Q Z a12 a21 v26 h0 n0 v_ V_.heap L_ ∧ FrameEnd U_ o_ V_ L_ ({ frames := 2, cells := 3, slots := 4, locals := 30 } : Room).cells ({ frames := 2, cells := 3, slots := 4, locals := 30 } : Room).slots) := by
  refine own_met (y := ⟨own_k3, "of", "([D[JI)Lcom/example/rankline/rankline/ValueCounts;"⟩) (Q := own_s48_Q Z a12 a21 v26 h0 n0) own_pn5 ?_
  intro p e s m below meth c s₁ hx hby hml hZ hown hnm hret hlk X0 e0
  have N0 := Fr.nil n0
  refine own_cast (g' := (mkF m 0 #[.val (.ref a12), .val (.ref a21), .val (.int (1 : Int32)), .unset, .unset, .unset, .unset] [])) (by first | (simp [entryFrame, mkF, argsToLocals, Value.category]; done) | rfl) ?_
  generalize hL2469 : (#[.val (.ref a12), .val (.ref a21), .val (.int (1 : Int32)), .unset, .unset, .unset, .unset] : Array Slot) = L2469
  refine own_ilN (w := (1 : Int32)) X0 hx (hb hby d19_0) (by rw [← hL2469]; rfl) ?_
  refine own_newarr X0 hx hZ (aty := .long) (own_w hw 3 rfl) e0 (hb hby d19_1) (n := 1) (by decide) (by decide) (by decide) (by decide) (by decide) (ad := "[J") rfl ?_
  intro T2475 h2475 a2475 g2475 X2475 e2475 E2475 A2475 B2475
  have lt2477 : a12 < a2475 := Nat.lt_of_lt_of_le H3.lt (Nat.le_of_eq g2475.symm)
  have ge2479 : h0.size ≤ a2475 := Nat.le_trans (Nat.le_refl _) (Nat.le_of_eq g2475.symm)
  have nw2480 : n0 ≤ a2475 := Nat.le_trans Z0 (Nat.le_of_eq g2475.symm)
  have F2481 : own_Ary Z h2475 a2475 .long [(.long (0 : Int64))] := A2475
  show own_Go _ _ _ _ _ _ _ T2475 (mkF m 3 L2469 [(.ref a2475)])
  refine own_pre (g' := (mkF m 4 #[.val (.ref a12), .val (.ref a21), .val (.int (1 : Int32)), .val (.ref a2475), .unset, .unset, .unset] [])) (fun t k => XS.astoreN X2475.here hx rfl (hb hby d19_3) rfl rfl (l' := #[.val (.ref a12), .val (.ref a21), .val (.int (1 : Int32)), .val (.ref a2475), .unset, .unset, .unset]) (by rw [← hL2469]; rfl) k) ?_
  generalize hL2482 : (#[.val (.ref a12), .val (.ref a21), .val (.int (1 : Int32)), .val (.ref a2475), .unset, .unset, .unset] : Array Slot) = L2482
  refine own_pre (g' := (mkF m 5 L2482 [(.long (0 : Int64))])) (fun t k => XT.lconst X2475.here hx rfl (hb hby d19_4) k) ?_
  refine own_pre (g' := (mkF m 7 #[.val (.ref a12), .val (.ref a21), .val (.int (1 : Int32)), .val (.ref a2475), .val (.long (0 : Int64)), .second, .unset] [])) (fun t k => XT.lstore X2475.here hx rfl (hb hby d19_5) rfl (l' := #[.val (.ref a12), .val (.ref a21), .val (.int (1 : Int32)), .val (.ref a2475), .val (.long (0 : Int64)), .second, .unset]) (by rw [← hL2482]; rfl) k) ?_
  generalize hL2483 : (#[.val (.ref a12), .val (.ref a21), .val (.int (1 : Int32)), .val (.ref a2475), .val (.long (0 : Int64)), .second, .unset] : Array Slot) = L2483
  refine own_ic X2475 hx (0 : Int32) (hb hby d19_7) rfl ?_
  refine own_pre (g' := (mkF m 10 #[.val (.ref a12), .val (.ref a21), .val (.int (1 : Int32)), .val (.ref a2475), .val (.long (0 : Int64)), .second, .val (.int (0 : Int32))] [])) (fun t k => XS.istore X2475.here hx rfl (hb hby d19_8) rfl (l' := #[.val (.ref a12), .val (.ref a21), .val (.int (1 : Int32)), .val (.ref a2475), .val (.long (0 : Int64)), .second, .val (.int (0 : Int32))]) (by rw [← hL2483]; rfl) k) ?_
  generalize hL2484 : (#[.val (.ref a12), .val (.ref a21), .val (.int (1 : Int32)), .val (.ref a2475), .val (.long (0 : Int64)), .second, .val (.int (0 : Int32))] : Array Slot) = L2484
  refine own_il (w := (0 : Int32)) X2475 hx (hb hby d19_10) (by rw [← hL2484]; rfl) ?_
  refine own_ilN (w := (1 : Int32)) X2475 hx (hb hby d19_12) (by rw [← hL2484]; rfl) ?_
  refine own_pre (g' := (mkF m 16 L2484 [])) (fun t k => XS.icmpNo X2475.here hx rfl (hb hby d19_13) rfl (by decide) k) ?_
  refine own_ll (w := (0 : Int64)) X2475 hx (hb hby d19_16) (by rw [← hL2484]; rfl) ?_
  refine own_alN (w := (.ref a21)) X2475 hx (hb hby d19_18) (by rw [← hL2484]; rfl) rfl ?_
  refine own_il (w := (0 : Int32)) X2475 hx (hb hby d19_19) (by rw [← hL2484]; rfl) ?_
  have F2485 := (H5.ext E2475)
  refine own_laload X2475 hx hZ e2475 F2485 (hb hby d19_21) (n := 0) (v := (.long v26)) (by decide) (by decide) rfl ?_
  show own_Go _ _ _ _ _ _ _ T2475 (mkF m 22 L2484 [(.long v26), (.long (0 : Int64))])
  refine own_pre (g' := (mkF m 23 L2484 [(.long ((0 : Int64) + v26))])) (fun t k => XT.ladd X2475.here hx rfl (hb hby d19_22) rfl k) ?_
  generalize hv2486 : (0 : Int64) + v26 = v2486
  refine own_pre (g' := (mkF m 25 #[.val (.ref a12), .val (.ref a21), .val (.int (1 : Int32)), .val (.ref a2475), .val (.long v2486), .second, .val (.int (0 : Int32))] [])) (fun t k => XT.lstore X2475.here hx rfl (hb hby d19_23) rfl (l' := #[.val (.ref a12), .val (.ref a21), .val (.int (1 : Int32)), .val (.ref a2475), .val (.long v2486), .second, .val (.int (0 : Int32))]) (by rw [← hL2484]; rfl) k) ?_
  generalize hL2487 : (#[.val (.ref a12), .val (.ref a21), .val (.int (1 : Int32)), .val (.ref a2475), .val (.long v2486), .second, .val (.int (0 : Int32))] : Array Slot) = L2487
  refine own_alN (w := (.ref a2475)) X2475 hx (hb hby d19_25) (by rw [← hL2487]; rfl) rfl ?_
  refine own_il (w := (0 : Int32)) X2475 hx (hb hby d19_26) (by rw [← hL2487]; rfl) ?_
  refine own_ll (w := v2486) X2475 hx (hb hby d19_28) (by rw [← hL2487]; rfl) ?_
  refine own_lastore X2475 hx hZ e2475 N0 nw2480 F2481 (hb hby d19_30) (n := 0) (by decide) (by decide) (by show 0 < 1; decide) ?_
  intro T2488 h2488 lo2488 X2488 e2488 N2488 W2488
  have F2489 : own_Ary Z h2488 a2475 .long [(.long v2486)] := F2481.set W2488
  show own_Go _ _ _ _ _ _ _ T2488 (mkF m 31 L2487 [])
  refine own_pre (g' := (mkF m 34 #[.val (.ref a12), .val (.ref a21), .val (.int (1 : Int32)), .val (.ref a2475), .val (.long v2486), .second, .val (.int (1 : Int32))] [])) (fun t k => XS.iinc X2488.here hx rfl (hb hby d19_31) (x := (0 : Int32)) (by rw [← hL2487]; rfl) (l' := #[.val (.ref a12), .val (.ref a21), .val (.int (1 : Int32)), .val (.ref a2475), .val (.long v2486), .second, .val (.int (1 : Int32))]) (by rw [← hL2487]; rfl) k) ?_
  generalize hL2490 : (#[.val (.ref a12), .val (.ref a21), .val (.int (1 : Int32)), .val (.ref a2475), .val (.long v2486), .second, .val (.int (1 : Int32))] : Array Slot) = L2490
  refine own_gt X2488 hx 10 (hb hby d19_34) (by decide) (by decide) ?_
  refine own_il (w := (1 : Int32)) X2488 hx (hb hby d19_10) (by rw [← hL2490]; rfl) ?_
  refine own_ilN (w := (1 : Int32)) X2488 hx (hb hby d19_12) (by rw [← hL2490]; rfl) ?_
  refine own_pre (g' := (mkF m 37 L2490 [])) (fun t k => XS.icmpYes X2488.here hx rfl (pc0 := 13) (pc' := 37) rfl (hb hby d19_13) rfl (by decide) (by decide) (by decide) k) ?_
  have F2492 := ((H3.ext E2475).other W2488 (Nat.ne_of_lt lt2477))
  have F2494 : n0 ≤ h2488.size := (Nat.le_trans (Nat.le_trans Z0 E2475.1) (Nat.le_of_eq W2488.size.symm))
  refine own_newobj X2488 hx hZ hown (own_w hw 158 rfl) (own_w hw 159 rfl) (own_w hw 156 rfl) e2488 (hb hby d19_37) (by decide) (by decide) ?_
  intro T2495 h2495 a2495 g2495 X2495 e2495 E2495 A2495 D2495
  have lt2499 : a2475 < a2495 := Nat.lt_of_lt_of_le F2489.lt (Nat.le_of_eq g2495.symm)
  have F2500 : h0.size ≤ h2488.size := (Nat.le_trans (Nat.le_trans (Nat.le_refl _) E2475.1) (Nat.le_of_eq W2488.size.symm))
  have ge2501 : h0.size ≤ a2495 := Nat.le_trans F2500 (Nat.le_of_eq g2495.symm)
  have nw2502 : n0 ≤ a2495 := Nat.le_trans F2494 (Nat.le_of_eq g2495.symm)
  have F2503 : Fld Z h2495 a2495 own_k3 "values" "[D" .null := D2495 (Or.inr (own_w hw 178 rfl)) (ty := (.array .double)) (by decide)
  have F2504 : Fld Z h2495 a2495 own_k3 "ranks" "[J" .null := D2495 (Or.inr (own_w hw 180 rfl)) (ty := (.array .long)) (by decide)
  show own_Go _ _ _ _ _ _ _ T2495 (mkF m 40 L2490 [(.ref a2495)])
  refine own_pre (g' := (mkF m 41 L2490 [(.ref a2495), (.ref a2495)])) (fun t k => XS.dup X2495.here hx rfl (hb hby d19_40) rfl rfl k) ?_
  refine own_alN (w := (.ref a12)) X2495 hx (hb hby d19_41) (by rw [← hL2490]; rfl) rfl ?_
  refine own_ilN (w := (1 : Int32)) X2495 hx (hb hby d19_42) (by rw [← hL2490]; rfl) ?_
  have F2507 := (F2492.ext E2495)
  have F2508 := (((H4.ext E2475).wr W2488).ext E2495)
  have F2515 : n0 ≤ h2495.size := (Nat.le_trans F2494 E2495.1)
  refine own_calls (argsL := [(.ref a12), (.int (1 : Int32))]) (rest := [(.ref a2495), (.ref a2495)]) X2495 hx hZ hown (own_s49 l Z a0 hw [] a12 h2495 n0 F2515 F2507 F2508) (own_w hw 160 rfl) (own_w hw 161 rfl) (own_w hw 163 rfl) (own_w hw 162 rfl) (by decide) e2495 (hb hby d19_43) (by rw [hml, ← hL2490]; rfl) rfl (lenOf own_pd13 rfl) (by decide) (W := 2) (Nat.le_of_eq rfl) (by decide) (by decide) (by decide) ?_
  intro v2516 T2516 lo2516 X2516 Q2516
  obtain ⟨h2516, e2516⟩ : ∃ h, T2516.heap = h := ⟨_, rfl⟩
  rw [e2516] at Q2516
  have F2522 := (F2489.ext E2495)
  have F2523 : h0.size ≤ h2495.size := (Nat.le_trans F2500 E2495.1)
  obtain ⟨a2517, rfl, N2516, K2516, ge2518, F2519, F2520⟩ := Q2516
  have N2516' := Fr.app N2488 N2516
  show own_Go _ _ _ _ _ _ _ T2516 (mkF m 46 L2490 [(.ref a2517), (.ref a2495), (.ref a2495)])
  have lt2528 : a2475 < a2517 := Nat.lt_of_lt_of_le F2522.lt ge2518
  have lt2529 : a2495 < a2517 := Nat.lt_of_lt_of_le A2495.lt ge2518
  have ge2531 : h0.size ≤ a2517 := Nat.le_trans F2523 ge2518
  refine own_alN (w := (.ref a2475)) X2516 hx (hb hby d19_46) (by rw [← hL2490]; rfl) rfl ?_
  have F2533 := (F2522.keep K2516 nin0)
  have F2534 := (((B2475.wr W2488).ext E2495).keep K2516)
  have F2535 := (A2495.keep K2516)
  have F2536 := (F2503.keep K2516 nin0)
  have F2537 := (F2504.keep K2516 nin0)
  have F2546 : n0 ≤ h2516.size := (Nat.le_trans F2515 K2516.1)
  refine own_init (a := a2495) (argsL := [(.ref a2517), (.ref a2475)]) (rest := [(.ref a2495)]) X2516 hx hZ hown (own_s50 l Z a0 hw [] a2495 a2517 a2475 h2516 n0 F2546 F2535 F2536 F2537 nw2502) rfl (own_w hw 173 rfl) (own_w hw 174 rfl) (own_w hw 175 rfl) (own_w hw 156 rfl) (by decide) e2516 (hb hby d19_47) (by rw [hml, ← hL2490]; rfl) rfl (lenOf own_pd14 rfl) (by decide) (W := 1) (Nat.le_of_eq rfl) (by decide) (by decide) (by decide) ?_
  intro v2547 T2547 lo2547 X2547 Q2547
  obtain ⟨h2547, e2547⟩ : ∃ h, T2547.heap = h := ⟨_, rfl⟩
  rw [e2547] at Q2547
  obtain ⟨rfl, N2547, K2547, F2548, F2549⟩ := Q2547
  have N2547' := Fr.app N2516' N2547
  show own_Go _ _ _ _ _ _ _ T2547 (mkF m 50 L2490 [(.ref a2495)])
  have F2551 := (F2535.keep K2547)
  have F2552 := (F2533.keep K2547 (ninS (Nat.ne_of_lt lt2499) nin0))
  have F2553 := (F2534.keep K2547)
  have F2554 := (F2519.keep K2547 (ninS (Nat.ne_of_gt lt2529) nin0))
  have F2555 := (F2520.keep K2547)
  exact own_retA X2547 hx hlk hret rfl rfl rfl (hb hby d19_50) e2547 ⟨a2475, a2495, a2517, rfl, N2547', ((((((Keep.refl _ _).ext E2475).wr W2488 (Or.inr ge2479)).ext E2495).trans K2516 all0).trans K2547 (allS (Or.inr ge2501) all0)), ge2479, ge2501, ge2531, lt2499, lt2528, lt2529, F2551, F2548, F2549, (by subst hv2486; exact F2552), F2553, F2554, F2555⟩ (by decide) (by decide)
theorem own_pd15 : parseMethodDescriptor "([D[JI)Lcom/example/rankline/rankline/ValueCounts;" = some ⟨[(.array .double), (.array .long), .int], some (.object "com/example/rankline/rankline/ValueCounts")⟩ := by decide +kernel
theorem d22_0 : decode prog_5_method_14_code 0 = .ok (.aload_n 1, 1) := by decide +kernel
theorem d22_1 : decode prog_5_method_14_code 1 = .ok (.invokevirtual 76, 3) := by decide +kernel
theorem d22_4 : decode prog_5_method_14_code 4 = .ok (.istore_n 2, 1) := by decide +kernel
theorem d22_5 : decode prog_5_method_14_code 5 = .ok (.iload_n 2, 1) := by decide +kernel
theorem d22_6 : decode prog_5_method_14_code 6 = .ok (.ifCond .ne 4, 3) := by decide +kernel
theorem d22_10 : decode prog_5_method_14_code 10 = .ok (.aload_n 1, 1) := by decide +kernel
theorem d22_11 : decode prog_5_method_14_code 11 = .ok (.iconst 0, 1) := by decide +kernel
theorem d22_12 : decode prog_5_method_14_code 12 = .ok (.invokevirtual 81, 3) := by decide +kernel
theorem d22_15 : decode prog_5_method_14_code 15 = .ok (.aload_n 0, 1) := by decide +kernel
theorem d22_16 : decode prog_5_method_14_code 16 = .ok (.getfield 9, 3) := by decide +kernel
theorem d22_19 : decode prog_5_method_14_code 19 = .ok (.aload_n 0, 1) := by decide +kernel
theorem d22_20 : decode prog_5_method_14_code 20 = .ok (.getfield 40, 3) := by decide +kernel
theorem d22_23 : decode prog_5_method_14_code 23 = .ok (.daload, 1) := by decide +kernel
theorem d22_24 : decode prog_5_method_14_code 24 = .ok (.dcmp .g, 1) := by decide +kernel
theorem d22_25 : decode prog_5_method_14_code 25 = .ok (.ifCond .ge 22, 3) := by decide +kernel
theorem d22_28 : decode prog_5_method_14_code 28 = .ok (.aload_n 0, 1) := by decide +kernel
theorem d22_29 : decode prog_5_method_14_code 29 = .ok (.aload_n 0, 1) := by decide +kernel
theorem d22_30 : decode prog_5_method_14_code 30 = .ok (.getfield 40, 3) := by decide +kernel
theorem d22_33 : decode prog_5_method_14_code 33 = .ok (.aload_n 1, 1) := by decide +kernel
theorem d22_34 : decode prog_5_method_14_code 34 = .ok (.iconst 0, 1) := by decide +kernel
theorem d22_35 : decode prog_5_method_14_code 35 = .ok (.invokevirtual 81, 3) := by decide +kernel
theorem d22_38 : decode prog_5_method_14_code 38 = .ok (.dconst 0, 1) := by decide +kernel
theorem d22_39 : decode prog_5_method_14_code 39 = .ok (.getstatic 85, 3) := by decide +kernel
theorem d22_42 : decode prog_5_method_14_code 42 = .ok (.lconst 0, 1) := by decide +kernel
theorem d22_43 : decode prog_5_method_14_code 43 = .ok (.invokevirtual 72, 3) := by decide +kernel
theorem d22_46 : decode prog_5_method_14_code 46 = .ok (.pop, 1) := by decide +kernel
theorem d22_47 : decode prog_5_method_14_code 47 = .ok (.aload_n 1, 1) := by decide +kernel
theorem d22_48 : decode prog_5_method_14_code 48 = .ok (.iload_n 2, 1) := by decide +kernel
theorem d22_49 : decode prog_5_method_14_code 49 = .ok (.iconst 1, 1) := by decide +kernel
theorem d22_50 : decode prog_5_method_14_code 50 = .ok (.isub, 1) := by decide +kernel
theorem d22_51 : decode prog_5_method_14_code 51 = .ok (.invokevirtual 81, 3) := by decide +kernel
theorem d22_54 : decode prog_5_method_14_code 54 = .ok (.aload_n 0, 1) := by decide +kernel
theorem d22_55 : decode prog_5_method_14_code 55 = .ok (.getfield 9, 3) := by decide +kernel
theorem d22_58 : decode prog_5_method_14_code 58 = .ok (.aload_n 0, 1) := by decide +kernel
theorem d22_59 : decode prog_5_method_14_code 59 = .ok (.getfield 44, 3) := by decide +kernel
theorem d22_62 : decode prog_5_method_14_code 62 = .ok (.daload, 1) := by decide +kernel
theorem d22_63 : decode prog_5_method_14_code 63 = .ok (.dcmp .l, 1) := by decide +kernel
theorem d22_64 : decode prog_5_method_14_code 64 = .ok (.ifCond .le 29, 3) := by decide +kernel
theorem d22_93 : decode prog_5_method_14_code 93 = .ok (.iconst 0, 1) := by decide +kernel
theorem d22_94 : decode prog_5_method_14_code 94 = .ok (.istore_n 3, 1) := by decide +kernel
theorem d22_95 : decode prog_5_method_14_code 95 = .ok (.aload_n 0, 1) := by decide +kernel
theorem d22_96 : decode prog_5_method_14_code 96 = .ok (.getfield 40, 3) := by decide +kernel
theorem d22_99 : decode prog_5_method_14_code 99 = .ok (.istore 4, 2) := by decide +kernel
theorem d22_101 : decode prog_5_method_14_code 101 = .ok (.iload 4, 2) := by decide +kernel
theorem d22_103 : decode prog_5_method_14_code 103 = .ok (.iconst (-1), 1) := by decide +kernel
theorem d22_104 : decode prog_5_method_14_code 104 = .ok (.if_icmp .eq 141, 3) := by decide +kernel
theorem d22_107 : decode prog_5_method_14_code 107 = .ok (.iload_n 3, 1) := by decide +kernel
theorem d22_108 : decode prog_5_method_14_code 108 = .ok (.istore 5, 2) := by decide +kernel
theorem d22_110 : decode prog_5_method_14_code 110 = .ok (.iload_n 3, 1) := by decide +kernel
theorem d22_111 : decode prog_5_method_14_code 111 = .ok (.iload_n 2, 1) := by decide +kernel
theorem d22_112 : decode prog_5_method_14_code 112 = .ok (.if_icmp .ge 25, 3) := by decide +kernel
theorem d22_115 : decode prog_5_method_14_code 115 = .ok (.aload_n 1, 1) := by decide +kernel
theorem d22_116 : decode prog_5_method_14_code 116 = .ok (.iload_n 3, 1) := by decide +kernel
theorem d22_117 : decode prog_5_method_14_code 117 = .ok (.invokevirtual 81, 3) := by decide +kernel
theorem d22_120 : decode prog_5_method_14_code 120 = .ok (.aload_n 0, 1) := by decide +kernel
theorem d22_121 : decode prog_5_method_14_code 121 = .ok (.getfield 9, 3) := by decide +kernel
theorem d22_124 : decode prog_5_method_14_code 124 = .ok (.iload 4, 2) := by decide +kernel
theorem d22_126 : decode prog_5_method_14_code 126 = .ok (.daload, 1) := by decide +kernel
theorem d22_127 : decode prog_5_method_14_code 127 = .ok (.dcmp .g, 1) := by decide +kernel
theorem d22_128 : decode prog_5_method_14_code 128 = .ok (.ifCond .gt 9, 3) := by decide +kernel
theorem d22_131 : decode prog_5_method_14_code 131 = .ok (.iinc 3 1, 3) := by decide +kernel
theorem d22_134 : decode prog_5_method_14_code 134 = .ok (.goto (-24), 3) := by decide +kernel
theorem d22_137 : decode prog_5_method_14_code 137 = .ok (.iload_n 3, 1) := by decide +kernel
theorem d22_138 : decode prog_5_method_14_code 138 = .ok (.iload 5, 2) := by decide +kernel
theorem d22_140 : decode prog_5_method_14_code 140 = .ok (.if_icmp .le 67, 3) := by decide +kernel
theorem d22_143 : decode prog_5_method_14_code 143 = .ok (.aload_n 0, 1) := by decide +kernel
theorem d22_144 : decode prog_5_method_14_code 144 = .ok (.getfield 26, 3) := by decide +kernel
theorem d22_147 : decode prog_5_method_14_code 147 = .ok (.iload 4, 2) := by decide +kernel
theorem d22_149 : decode prog_5_method_14_code 149 = .ok (.aload_n 1, 1) := by decide +kernel
theorem d22_150 : decode prog_5_method_14_code 150 = .ok (.iload 5, 2) := by decide +kernel
theorem d22_152 : decode prog_5_method_14_code 152 = .ok (.invokevirtual 81, 3) := by decide +kernel
theorem d22_155 : decode prog_5_method_14_code 155 = .ok (.aload_n 0, 1) := by decide +kernel
theorem d22_156 : decode prog_5_method_14_code 156 = .ok (.getfield 9, 3) := by decide +kernel
theorem d22_159 : decode prog_5_method_14_code 159 = .ok (.iload 4, 2) := by decide +kernel
theorem d22_161 : decode prog_5_method_14_code 161 = .ok (.daload, 1) := by decide +kernel
theorem d22_162 : decode prog_5_method_14_code 162 = .ok (.dcmp .l, 1) := by decide +kernel
theorem d22_163 : decode prog_5_method_14_code 163 = .ok (.ifCond .ne 7, 3) := by decide +kernel
theorem d22_166 : decode prog_5_method_14_code 166 = .ok (.iconst 1, 1) := by decide +kernel
theorem d22_167 : decode prog_5_method_14_code 167 = .ok (.goto 4, 3) := by decide +kernel
theorem d22_171 : decode prog_5_method_14_code 171 = .ok (.bastore, 1) := by decide +kernel
theorem d22_172 : decode prog_5_method_14_code 172 = .ok (.aload_n 1, 1) := by decide +kernel
theorem d22_173 : decode prog_5_method_14_code 173 = .ok (.iload_n 3, 1) := by decide +kernel
theorem d22_174 : decode prog_5_method_14_code 174 = .ok (.iconst 1, 1) := by decide +kernel
theorem d22_175 : decode prog_5_method_14_code 175 = .ok (.isub, 1) := by decide +kernel
theorem d22_176 : decode prog_5_method_14_code 176 = .ok (.invokevirtual 81, 3) := by decide +kernel
theorem d22_179 : decode prog_5_method_14_code 179 = .ok (.aload_n 0, 1) := by decide +kernel
theorem d22_180 : decode prog_5_method_14_code 180 = .ok (.getfield 9, 3) := by decide +kernel
theorem d22_183 : decode prog_5_method_14_code 183 = .ok (.iload 4, 2) := by decide +kernel
theorem d22_185 : decode prog_5_method_14_code 185 = .ok (.daload, 1) := by decide +kernel
theorem d22_186 : decode prog_5_method_14_code 186 = .ok (.dcmp .l, 1) := by decide +kernel
theorem d22_187 : decode prog_5_method_14_code 187 = .ok (.ifCond .ne 20, 3) := by decide +kernel
theorem d22_190 : decode prog_5_method_14_code 190 = .ok (.aload_n 0, 1) := by decide +kernel
theorem d22_191 : decode prog_5_method_14_code 191 = .ok (.getfield 29, 3) := by decide +kernel
theorem d22_194 : decode prog_5_method_14_code 194 = .ok (.iload 4, 2) := by decide +kernel
theorem d22_196 : decode prog_5_method_14_code 196 = .ok (.dup2, 1) := by decide +kernel
theorem d22_197 : decode prog_5_method_14_code 197 = .ok (.laload, 1) := by decide +kernel
theorem d22_198 : decode prog_5_method_14_code 198 = .ok (.aload_n 1, 1) := by decide +kernel
theorem d22_199 : decode prog_5_method_14_code 199 = .ok (.iload_n 3, 1) := by decide +kernel
theorem d22_200 : decode prog_5_method_14_code 200 = .ok (.iconst 1, 1) := by decide +kernel
theorem d22_201 : decode prog_5_method_14_code 201 = .ok (.isub, 1) := by decide +kernel
theorem d22_202 : decode prog_5_method_14_code 202 = .ok (.invokevirtual 89, 3) := by decide +kernel
theorem d22_205 : decode prog_5_method_14_code 205 = .ok (.ladd, 1) := by decide +kernel
theorem d22_206 : decode prog_5_method_14_code 206 = .ok (.lastore, 1) := by decide +kernel
theorem d22_207 : decode prog_5_method_14_code 207 = .ok (.aload_n 0, 1) := by decide +kernel
theorem d22_208 : decode prog_5_method_14_code 208 = .ok (.getfield 13, 3) := by decide +kernel
theorem d22_211 : decode prog_5_method_14_code 211 = .ok (.iload 4, 2) := by decide +kernel
theorem d22_213 : decode prog_5_method_14_code 213 = .ok (.dup2, 1) := by decide +kernel
theorem d22_214 : decode prog_5_method_14_code 214 = .ok (.daload, 1) := by decide +kernel
theorem d22_215 : decode prog_5_method_14_code 215 = .ok (.iload_n 3, 1) := by decide +kernel
theorem d22_216 : decode prog_5_method_14_code 216 = .ok (.ifCond .ne 7, 3) := by decide +kernel
theorem d22_223 : decode prog_5_method_14_code 223 = .ok (.aload_n 1, 1) := by decide +kernel
theorem d22_224 : decode prog_5_method_14_code 224 = .ok (.iload_n 3, 1) := by decide +kernel
theorem d22_225 : decode prog_5_method_14_code 225 = .ok (.iconst 1, 1) := by decide +kernel
theorem d22_226 : decode prog_5_method_14_code 226 = .ok (.isub, 1) := by decide +kernel
theorem d22_227 : decode prog_5_method_14_code 227 = .ok (.invokevirtual 93, 3) := by decide +kernel
theorem d22_230 : decode prog_5_method_14_code 230 = .ok (.l2d, 1) := by decide +kernel
theorem d22_231 : decode prog_5_method_14_code 231 = .ok (.dadd, 1) := by decide +kernel
theorem d22_232 : decode prog_5_method_14_code 232 = .ok (.dastore, 1) := by decide +kernel
theorem d22_233 : decode prog_5_method_14_code 233 = .ok (.aload_n 0, 1) := by decide +kernel
theorem d22_234 : decode prog_5_method_14_code 234 = .ok (.getfield 33, 3) := by decide +kernel
theorem d22_237 : decode prog_5_method_14_code 237 = .ok (.iload 4, 2) := by decide +kernel
theorem d22_239 : decode prog_5_method_14_code 239 = .ok (.iaload, 1) := by decide +kernel
theorem d22_240 : decode prog_5_method_14_code 240 = .ok (.istore 4, 2) := by decide +kernel
theorem d22_242 : decode prog_5_method_14_code 242 = .ok (.goto (-141), 3) := by decide +kernel
theorem d22_245 : decode prog_5_method_14_code 245 = .ok (.aload_n 0, 1) := by decide +kernel
theorem d22_246 : decode prog_5_method_14_code 246 = .ok (.invokevirtual 96, 3) := by decide +kernel
theorem d22_249 : decode prog_5_method_14_code 249 = .ok (.return_, 1) := by decide +kernel
theorem d23_0 : decode prog_40_method_5_code 0 = .ok (.aload_n 0, 1) := by decide +kernel
theorem d23_1 : decode prog_40_method_5_code 1 = .ok (.getfield 7, 3) := by decide +kernel
theorem d23_4 : decode prog_40_method_5_code 4 = .ok (.arraylength, 1) := by decide +kernel
theorem d23_5 : decode prog_40_method_5_code 5 = .ok (.ireturn, 1) := by decide +kernel
def own_s52_Q (Z : State) (a2559 : Addr) (a2560 : Addr) (h0 : Heap) (n0 : Nat) (v_ : Option Value) (h_ : Heap) (L_ : List Loc) : Prop := (fun v h L => v = some (.int (1 : Int32)) ∧ Fr n0 L ∧ h = h0) v_ h_ L_
set_option maxRecDepth 65536 in
set_option maxHeartbeats 40000000 in
theorem own_s52 (l : Launch) (Z : State) (a0 : Array Value) (hw : ∀ d ∈ tables_1, d.before a0 Z = true) (wds : List Jvm.Cond) (a2559 : Addr) (a2560 : Addr) (h0 : Heap) (n0 : Nat) (Z0 : n0 ≤ h0.size) (H4 : Fld Z h0 a2559 own_k3 "values" "[D" (.ref a2560)) (H8 : own_Ary Z h0 a2560 .double [(.double (4617315517961601024 : UInt64))]) :
    MetFree l (⟨own_k3, "size", "()I"⟩ : MethodName) (head1 (Jvm.Cond.code (⟨own_k3, "size", "()I"⟩ : MethodName) prog_40_method_5_code 1 (some .int) :: wds) ({ frames := 0, cells := 0, slots := 0, locals := 0 } : Room)) (fun ar_ U_ => ar_ = #[(.ref a2559)] ∧ Z.Warmed39 U_.vm ∧ U_.heap = h0) (fun _ _ _ _ _ => True) (fun _ U_ o_ V_ => ∃ v_ L_, o_ = .returned v_ ∧ own_s52_Q Z a2559 a2560 h0 n0 v_ V_.heap L_ ∧ FrameEnd U_ o_ V_ L_ ({ frames := 0, cells := 0, slots := 0, locals := 0 } : Room).cells ({ frames := 0, cells := 0, slots := 0, locals := 0 } : Room).slots) := by
  refine own_met (y := ⟨own_k3, "size", "()I"⟩) (Q := own_s52_Q Z a2559 a2560 h0 n0) own_pn5 ?_
  intro p e s m below meth c s₁ hx hby hml hZ hown hnm hret hlk X0 e0
  have N0 := Fr.nil n0
  refine own_cast (g' := (mkF m 0 #[.val (.ref a2559)] [])) (by first | (simp [entryFrame, mkF, argsToLocals, Value.category]; done) | rfl) ?_
  refine own_alN (w := (.ref a2559)) X0 hx (hb hby d23_0) rfl rfl ?_
  refine own_getf X0 hx hZ hown (own_w hw 177 rfl) e0 H4 (hb hby d23_1) ?_
  intro T2697 X2697 e2697
  show own_Go _ _ _ _ _ _ _ T2697 (mkF m 4 #[.val (.ref a2559)] [(.ref a2560)])
  refine own_len X2697 hx hZ e2697 H8 (hb hby d23_4) (n := (1 : Int32)) rfl ?_
  show own_Go _ _ _ _ _ _ _ T2697 (mkF m 5 #[.val (.ref a2559)] [(.int (1 : Int32))])
  exact own_retI X2697 hx hlk hret (hb hby d23_5) e2697 ⟨rfl, N0, rfl⟩ (by decide) (by decide)
theorem d24_0 : decode prog_40_method_6_code 0 = .ok (.aload_n 0, 1) := by decide +kernel
theorem d24_1 : decode prog_40_method_6_code 1 = .ok (.getfield 7, 3) := by decide +kernel
theorem d24_4 : decode prog_40_method_6_code 4 = .ok (.iload_n 1, 1) := by decide +kernel
theorem d24_5 : decode prog_40_method_6_code 5 = .ok (.daload, 1) := by decide +kernel
theorem d24_6 : decode prog_40_method_6_code 6 = .ok (.dreturn, 1) := by decide +kernel
def own_s53_Q (Z : State) (a2559 : Addr) (a2560 : Addr) (h0 : Heap) (n0 : Nat) (v_ : Option Value) (h_ : Heap) (L_ : List Loc) : Prop := (fun v h L => v = some (.double (4617315517961601024 : UInt64)) ∧ Fr n0 L ∧ h = h0) v_ h_ L_
set_option maxRecDepth 65536 in
set_option maxHeartbeats 40000000 in
theorem own_s53 (l : Launch) (Z : State) (a0 : Array Value) (hw : ∀ d ∈ tables_1, d.before a0 Z = true) (wds : List Jvm.Cond) (a2559 : Addr) (a2560 : Addr) (h0 : Heap) (n0 : Nat) (Z0 : n0 ≤ h0.size) (H4 : Fld Z h0 a2559 own_k3 "values" "[D" (.ref a2560)) (H8 : own_Ary Z h0 a2560 .double [(.double (4617315517961601024 : UInt64))]) :
    MetFree l (⟨own_k3, "value", "(I)D"⟩ : MethodName) (head1 (Jvm.Cond.code (⟨own_k3, "value", "(I)D"⟩ : MethodName) prog_40_method_6_code 2 (some .double) :: wds) ({ frames := 0, cells := 0, slots := 0, locals := 0 } : Room)) (fun ar_ U_ => ar_ = #[(.ref a2559), (.int (0 : Int32))] ∧ Z.Warmed39 U_.vm ∧ U_.heap = h0) (fun _ _ _ _ _ => True) (fun _ U_ o_ V_ => ∃ v_ L_, o_ = .returned v_ ∧ own_s53_Q Z a2559 a2560 h0 n0 v_ V_.heap L_ ∧ FrameEnd U_ o_ V_ L_ ({ frames := 0, cells := 0, slots := 0, locals := 0 } : Room).cells ({ frames := 0, cells := 0, slots := 0, locals := 0 } : Room).slots) := by
  refine own_met (y := ⟨own_k3, "value", "(I)D"⟩) (Q := own_s53_Q Z a2559 a2560 h0 n0) own_pn5 ?_
  intro p e s m below meth c s₁ hx hby hml hZ hown hnm hret hlk X0 e0
  have N0 := Fr.nil n0
  refine own_cast (g' := (mkF m 0 #[.val (.ref a2559), .val (.int (0 : Int32))] [])) (by first | (simp [entryFrame, mkF, argsToLocals, Value.category]; done) | rfl) ?_
  refine own_alN (w := (.ref a2559)) X0 hx (hb hby d24_0) rfl rfl ?_
  refine own_getf X0 hx hZ hown (own_w hw 177 rfl) e0 H4 (hb hby d24_1) ?_
  intro T2700 X2700 e2700
  show own_Go _ _ _ _ _ _ _ T2700 (mkF m 4 #[.val (.ref a2559), .val (.int (0 : Int32))] [(.ref a2560)])
  refine own_ilN (w := (0 : Int32)) X2700 hx (hb hby d24_4) rfl ?_
  refine own_daload X2700 hx hZ e2700 H8 (hb hby d24_5) (n := 0) (v := (.double (4617315517961601024 : UInt64))) (by decide) (by decide) rfl ?_
  show own_Go _ _ _ _ _ _ _ T2700 (mkF m 6 #[.val (.ref a2559), .val (.int (0 : Int32))] [(.double (4617315517961601024 : UInt64))])
  exact own_retD X2700 hx hlk hret (hb hby d24_6) e2700 ⟨rfl, N0, rfl⟩ (by decide) (by decide)
theorem own_pd16 : parseMethodDescriptor "(I)D" = some ⟨[.int], some .double⟩ := by decide +kernel
def own_s54_Q (Z : State) (a2559 : Addr) (a2560 : Addr) (h0 : Heap) (n0 : Nat) (v_ : Option Value) (h_ : Heap) (L_ : List Loc) : Prop := (fun v h L => v = some (.double (4617315517961601024 : UInt64)) ∧ Fr n0 L ∧ h = h0) v_ h_ L_
set_option maxRecDepth 65536 in
set_option maxHeartbeats 40000000 in
theorem own_s54 (l : Launch) (Z : State) (a0 : Array Value) (hw : ∀ d ∈ tables_1, d.before a0 Z = true) (wds : List Jvm.Cond) (a2559 : Addr) (a2560 : Addr) (h0 : Heap) (n0 : Nat) (Z0 : n0 ≤ h0.size) (H4 : Fld Z h0 a2559 own_k3 "values" "[D" (.ref a2560)) (H8 : own_Ary Z h0 a2560 .double [(.double (4617315517961601024 : UInt64))]) :
    MetFree l (⟨own_k3, "value", "(I)D"⟩ : MethodName) (head1 (Jvm.Cond.code (⟨own_k3, "value", "(I)D"⟩ : MethodName) prog_40_method_6_code 2 (some .double) :: wds) ({ frames := 0, cells := 0, slots := 0, locals := 0 } : Room)) (fun ar_ U_ => ar_ = #[(.ref a2559), (.int (0 : Int32))] ∧ Z.Warmed39 U_.vm ∧ U_.heap = h0) (fun _ _ _ _ _ => True) (fun _ U_ o_ V_ => ∃ v_ L_, o_ = .returned v_ ∧ own_s54_Q Z a2559 a2560 h0 n0 v_ V_.heap L_ ∧ FrameEnd U_ o_ V_ L_ ({ frames := 0, cells := 0, slots := 0, locals := 0 } : Room).cells ({ frames := 0, cells := 0, slots := 0, locals := 0 } : Room).slots) := by
  refine own_met (y := ⟨own_k3, "value", "(I)D"⟩) (Q := own_s54_Q Z a2559 a2560 h0 n0) own_pn5 ?_
  intro p e s m below meth c s₁ hx hby hml hZ hown hnm hret hlk X0 e0
  have N0 := Fr.nil n0
  refine own_cast (g' := (mkF m 0 #[.val (.ref a2559), .val (.int (0 : Int32))] [])) (by first | (simp [entryFrame, mkF, argsToLocals, Value.category]; done) | rfl) ?_
  refine own_alN (w := (.ref a2559)) X0 hx (hb hby d24_0) rfl rfl ?_
  refine own_getf X0 hx hZ hown (own_w hw 177 rfl) e0 H4 (hb hby d24_1) ?_
  intro T2705 X2705 e2705
  show own_Go _ _ _ _ _ _ _ T2705 (mkF m 4 #[.val (.ref a2559), .val (.int (0 : Int32))] [(.ref a2560)])
  refine own_ilN (w := (0 : Int32)) X2705 hx (hb hby d24_4) rfl ?_
  refine own_daload X2705 hx hZ e2705 H8 (hb hby d24_5) (n := 0) (v := (.double (4617315517961601024 : UInt64))) (by decide) (by decide) rfl ?_
  show own_Go _ _ _ _ _ _ _ T2705 (mkF m 6 #[.val (.ref a2559), .val (.int (0 : Int32))] [(.double (4617315517961601024 : UInt64))])
  exact own_retD X2705 hx hlk hret (hb hby d24_6) e2705 ⟨rfl, N0, rfl⟩ (by decide) (by decide)
def own_s56_Q (Z : State) (a33 : Addr) (a274 : Addr) (a273 : Addr) (a272 : Addr) (a271 : Addr) (a270 : Addr) (a269 : Addr) (a268 : Addr) (a267 : Addr) (h0 : Heap) (n0 : Nat) (v_ : Option Value) (h_ : Heap) (L_ : List Loc) : Prop := (fun v h L => v = some (.int (3 : Int32)) ∧ Fr n0 L ∧ Keep h0 h [a33] ∧ Fld Z h a33 own_k0 "thresholds" "[D" (.ref a267) ∧ Fld Z h a33 own_k0 "ranks" "[D" (.ref a268) ∧ Fld Z h a33 own_k0 "guarded" "[Z" (.ref a269) ∧ Fld Z h a33 own_k0 "extents" own_k4 (.ref a270) ∧ Fld Z h a33 own_k0 "addedAtThreshold" "[Z" (.ref a271) ∧ Fld Z h a33 own_k0 "copies" "[J" (.ref a272) ∧ Fld Z h a33 own_k0 "nextOf" "[I" (.ref a273) ∧ Fld Z h a33 own_k0 "previousOf" "[I" (.ref a274) ∧ Fld Z h a33 own_k0 "first" "I" (.int (0 : Int32)) ∧ Fld Z h a33 own_k0 "last" "I" (.int (1 : Int32)) ∧ Fld Z h a33 own_k0 "free" "I" (.int (-1 : Int32)) ∧ Fld Z h a33 own_k0 "smallestMagnitude" "D" (.double (9218868437227405312 : UInt64)) ∧ Fld Z h a33 own_k0 "size" "I" (.int (3 : Int32)) ∧ Fld Z h a33 own_k0 "used" "I" (.int (4 : Int32))) v_ h_ L_
set_option maxRecDepth 65536 in
set_option maxHeartbeats 40000000 in
theorem own_s56 (l : Launch) (Z : State) (a0 : Array Value) (hw : ∀ d ∈ tables_1, d.before a0 Z = true) (wds : List Jvm.Cond) (a33 : Addr) (a274 : Addr) (a273 : Addr) (a272 : Addr) (a271 : Addr) (a270 : Addr) (a269 : Addr) (a268 : Addr) (a267 : Addr) (h0 : Heap) (n0 : Nat) (Z0 : n0 ≤ h0.size) (H3 : Exa Z h0 a33 own_k0) (H30 : own_Ary Z h0 a267 .double ([(.double (4621819117588971520 : UInt64)), (.double (4630826316843712512 : UInt64)), (.double (4629137466983448576 : UInt64))] ++ own_rD 13)) (H35 : Fld Z h0 a33 own_k0 "thresholds" "[D" (.ref a267)) (H36 : Fld Z h0 a33 own_k0 "ranks" "[D" (.ref a268)) (H37 : Fld Z h0 a33 own_k0 "guarded" "[Z" (.ref a269)) (H38 : Fld Z h0 a33 own_k0 "extents" own_k4 (.ref a270)) (H39 : Fld Z h0 a33 own_k0 "addedAtThreshold" "[Z" (.ref a271)) (H40 : Fld Z h0 a33 own_k0 "copies" "[J" (.ref a272)) (H41 : Fld Z h0 a33 own_k0 "nextOf" "[I" (.ref a273)) (H42 : Fld Z h0 a33 own_k0 "previousOf" "[I" (.ref a274)) (H43 : Fld Z h0 a33 own_k0 "first" "I" (.int (0 : Int32))) (H44 : Fld Z h0 a33 own_k0 "last" "I" (.int (1 : Int32))) (H45 : Fld Z h0 a33 own_k0 "free" "I" (.int (-1 : Int32))) (H46 : Fld Z h0 a33 own_k0 "smallestMagnitude" "D" (.double (9218868437227405312 : UInt64))) (H47 : Fld Z h0 a33 own_k0 "size" "I" (.int (3 : Int32))) (H48 : Fld Z h0 a33 own_k0 "used" "I" (.int (3 : Int32))) (H79 : n0 ≤ a33) :
    MetFree l (⟨own_k0, "allocate", "()I"⟩ : MethodName) (head1 (Jvm.Cond.code (⟨own_k0, "allocate", "()I"⟩ : MethodName) prog_5_method_56_code 2 (some .int) :: wds) ({ frames := 0, cells := 0, slots := 0, locals := 0 } : Room)) (fun ar_ U_ => ar_ = #[(.ref a33)] ∧ Z.Warmed39 U_.vm ∧ U_.heap = h0) (fun _ _ _ _ _ => True) (fun _ U_ o_ V_ => ∃ v_ L_, o_ = .returned v_ ∧ own_s56_Q Z a33 a274 a273 a272 a271 a270 a269 a268 a267 h0 n0 v_ V_.heap L_ ∧ FrameEnd U_ o_ V_ L_ ({ frames := 0, cells := 0, slots := 0, locals := 0 } : Room).cells ({ frames := 0, cells := 0, slots := 0, locals := 0 } : Room).slots) := by
  refine own_met (y := ⟨own_k0, "allocate", "()I"⟩) (Q := own_s56_Q Z a33 a274 a273 a272 a271 a270 a269 a268 a267 h0 n0) own_pn1 ?_
  intro p e s m below meth c s₁ hx hby hml hZ hown hnm hret hlk X0 e0
  have N0 := Fr.nil n0
  refine own_cast (g' := (mkF m 0 #[.val (.ref a33), .unset] [])) (by first | (simp [entryFrame, mkF, argsToLocals, Value.category]; done) | rfl) ?_
  refine own_alN (w := (.ref a33)) X0 hx (hb hby d9_0) rfl rfl ?_
  refine own_getf X0 hx hZ hown (own_w hw 37 rfl) e0 H45 (hb hby d9_1) ?_
  intro T2709 X2709 e2709
  show own_Go _ _ _ _ _ _ _ T2709 (mkF m 4 #[.val (.ref a33), .unset] [(.int (-1 : Int32))])
  refine own_ic X2709 hx (-1 : Int32) (hb hby d9_4) rfl ?_
  refine own_pre (g' := (mkF m 25 #[.val (.ref a33), .unset] [])) (fun t k => XS.icmpYes X2709.here hx rfl (pc0 := 5) (pc' := 25) rfl (hb hby d9_5) rfl (by decide) (by decide) (by decide) k) ?_
  refine own_alN (w := (.ref a33)) X2709 hx (hb hby d9_25) rfl rfl ?_
  refine own_getf X2709 hx hZ hown (own_w hw 90 rfl) e2709 H48 (hb hby d9_26) ?_
  intro T2710 X2710 e2710
  show own_Go _ _ _ _ _ _ _ T2710 (mkF m 29 #[.val (.ref a33), .unset] [(.int (3 : Int32))])
  refine own_alN (w := (.ref a33)) X2710 hx (hb hby d9_29) rfl rfl ?_
  refine own_getf X2710 hx hZ hown (own_w hw 13 rfl) e2710 H35 (hb hby d9_30) ?_
  intro T2711 X2711 e2711
  show own_Go _ _ _ _ _ _ _ T2711 (mkF m 33 #[.val (.ref a33), .unset] [(.ref a267), (.int (3 : Int32))])
  refine own_len X2711 hx hZ e2711 H30 (hb hby d9_33) (n := (16 : Int32)) rfl ?_
  show own_Go _ _ _ _ _ _ _ T2711 (mkF m 34 #[.val (.ref a33), .unset] [(.int (16 : Int32)), (.int (3 : Int32))])
  refine own_pre (g' := (mkF m 143 #[.val (.ref a33), .unset] [])) (fun t k => XS.icmpYes X2711.here hx rfl (pc0 := 34) (pc' := 143) rfl (hb hby d9_34) rfl (by decide) (by decide) (by decide) k) ?_
  refine own_alN (w := (.ref a33)) X2711 hx (hb hby d9_143) rfl rfl ?_
  refine own_pre (g' := (mkF m 145 #[.val (.ref a33), .unset] [(.ref a33), (.ref a33)])) (fun t k => XS.dup X2711.here hx rfl (hb hby d9_144) rfl rfl k) ?_
  refine own_getf X2711 hx hZ hown (own_w hw 90 rfl) e2711 H48 (hb hby d9_145) ?_
  intro T2712 X2712 e2712
  show own_Go _ _ _ _ _ _ _ T2712 (mkF m 148 #[.val (.ref a33), .unset] [(.int (3 : Int32)), (.ref a33)])
  refine own_pre (g' := (mkF m 149 #[.val (.ref a33), .unset] [(.int (3 : Int32)), (.ref a33), (.int (3 : Int32))])) (fun t k => XT.dupX1 X2712.here hx rfl (hb hby d9_148) rfl rfl rfl k) ?_
  refine own_ic X2712 hx (1 : Int32) (hb hby d9_149) rfl ?_
  refine own_pre (g' := (mkF m 151 #[.val (.ref a33), .unset] [(.int (4 : Int32)), (.ref a33), (.int (3 : Int32))])) (fun t k => XS.iadd X2712.here hx rfl (hb hby d9_150) rfl k) ?_
  refine own_putf X2712 hx hZ hown (own_w hw 90 rfl) e2712 N0 H79 H48 H3 (Or.inl (own_w hw 91 rfl)) (own_w hw 5 rfl) (ty := .int) (by decide) rfl rfl (hb hby d9_151) ?_
  intro T2713 h2713 lo2713 X2713 e2713 N2713 W2713
  have F2714 := H48.same W2713
  show own_Go _ _ _ _ _ _ _ T2713 (mkF m 154 #[.val (.ref a33), .unset] [(.int (3 : Int32))])
  have F2715 := (H35.other W2713 (Or.inr (own_sne (own_f1 hw) (own_f13 hw) (by decide))))
  have F2716 := (H36.other W2713 (Or.inr (own_sne (own_f0 hw) (own_f13 hw) (by decide))))
  have F2717 := (H37.other W2713 (Or.inr (own_sne (own_f2 hw) (own_f13 hw) (by decide))))
  have F2718 := (H38.other W2713 (Or.inr (own_sne (own_f3 hw) (own_f13 hw) (by decide))))
  have F2719 := (H39.other W2713 (Or.inr (own_sne (own_f4 hw) (own_f13 hw) (by decide))))
  have F2720 := (H40.other W2713 (Or.inr (own_sne (own_f5 hw) (own_f13 hw) (by decide))))
  have F2721 := (H41.other W2713 (Or.inr (own_sne (own_f6 hw) (own_f13 hw) (by decide))))
  have F2722 := (H42.other W2713 (Or.inr (own_sne (own_f7 hw) (own_f13 hw) (by decide))))
  have F2723 := (H43.other W2713 (Or.inr (own_sne (own_f8 hw) (own_f13 hw) (by decide))))
  have F2724 := (H44.other W2713 (Or.inr (own_sne (own_f9 hw) (own_f13 hw) (by decide))))
  have F2725 := (H45.other W2713 (Or.inr (own_sne (own_f10 hw) (own_f13 hw) (by decide))))
  have F2726 := (H46.other W2713 (Or.inr (own_sne (own_f11 hw) (own_f13 hw) (by decide))))
  have F2727 := (H47.other W2713 (Or.inr (own_sne (own_f12 hw) (own_f13 hw) (by decide))))
  exact own_retI X2713 hx hlk hret (hb hby d9_154) e2713 ⟨rfl, N2713, ((Keep.refl _ _).wr W2713 (Or.inl (by simp))), F2715, F2716, F2717, F2718, F2719, F2720, F2721, F2722, F2723, F2724, F2725, F2726, F2727, F2714⟩ (by decide) (by decide)
def own_s55_Q (Z : State) (a33 : Addr) (rn : Addr) (a274 : Addr) (a273 : Addr) (a272 : Addr) (a271 : Addr) (a270 : Addr) (a269 : Addr) (a268 : Addr) (a267 : Addr) (a811 : Addr) (f386 : UInt64) (a2034 : Addr) (f2082 : UInt64) (f1222 : UInt64) (a2414 : Addr) (h0 : Heap) (n0 : Nat) (v_ : Option Value) (h_ : Heap) (L_ : List Loc) : Prop := (fun v h L => v = some (.int (3 : Int32)) ∧ Fr n0 L ∧ Keep h0 h [a33, a267, a268, a269, a270, a271, a272, a273, a274] ∧ own_Ary Z h a272 .long (own_rJ 16) ∧ own_Ary Z h a269 .boolean (own_rI 16) ∧ own_Ary Z h a268 .double ([(.double f386), (.double f2082), (.double f1222)] ++ own_rD 13) ∧ own_Ary Z h a267 .double ([(.double (4621819117588971520 : UInt64)), (.double (4630826316843712512 : UInt64)), (.double (4629137466983448576 : UInt64)), (.double (4617315517961601024 : UInt64))] ++ own_rD 12) ∧ own_Ary Z h a274 .int ([(.int (3 : Int32)), (.int (2 : Int32)), (.int (0 : Int32)), (.int (-1 : Int32))] ++ own_rI 12) ∧ own_Ary Z h a273 .int ([(.int (2 : Int32)), (.int (-1 : Int32)), (.int (1 : Int32))] ++ own_rI 13) ∧ own_Ary Z h a271 .boolean (own_rI 16) ∧ own_Ary Z h a270 (.object own_k1) ([(.ref a811), (.ref a2414), (.ref a2034), (.ref rn)] ++ own_rN 12) ∧ Fld Z h a33 own_k0 "thresholds" "[D" (.ref a267) ∧ Fld Z h a33 own_k0 "ranks" "[D" (.ref a268) ∧ Fld Z h a33 own_k0 "guarded" "[Z" (.ref a269) ∧ Fld Z h a33 own_k0 "extents" own_k4 (.ref a270) ∧ Fld Z h a33 own_k0 "addedAtThreshold" "[Z" (.ref a271) ∧ Fld Z h a33 own_k0 "copies" "[J" (.ref a272) ∧ Fld Z h a33 own_k0 "nextOf" "[I" (.ref a273) ∧ Fld Z h a33 own_k0 "previousOf" "[I" (.ref a274) ∧ Fld Z h a33 own_k0 "first" "I" (.int (3 : Int32)) ∧ Fld Z h a33 own_k0 "last" "I" (.int (1 : Int32)) ∧ Fld Z h a33 own_k0 "free" "I" (.int (-1 : Int32)) ∧ Fld Z h a33 own_k0 "smallestMagnitude" "D" (.double (9218868437227405312 : UInt64)) ∧ Fld Z h a33 own_k0 "size" "I" (.int (4 : Int32)) ∧ Fld Z h a33 own_k0 "used" "I" (.int (4 : Int32))) v_ h_ L_
set_option maxRecDepth 65536 in
set_option maxHeartbeats 40000000 in
theorem own_s55 (l : Launch) (Z : State) (a0 : Array Value) (hw : ∀ d ∈ tables_1, d.before a0 Z = true) (wds : List Jvm.Cond) (a33 : Addr) (rn : Addr) (a274 : Addr) (a273 : Addr) (a272 : Addr) (a271 : Addr) (a270 : Addr) (a269 : Addr) (a268 : Addr) (a267 : Addr) (a811 : Addr) (f386 : UInt64) (a2034 : Addr) (f2082 : UInt64) (f1222 : UInt64) (a2414 : Addr) (h0 : Heap) (n0 : Nat) (Z0 : n0 ≤ h0.size) (H2 : Exa Z h0 rn own_k1) (H3 : Exa Z h0 a33 own_k0) (H9 : own_Ovr Z h0 a270 own_k1) (H27 : own_Ary Z h0 a272 .long (own_rJ 16)) (H28 : own_Ary Z h0 a269 .boolean (own_rI 16)) (H29 : own_Ary Z h0 a268 .double ([(.double f386), (.double f2082), (.double f1222)] ++ own_rD 13)) (H30 : own_Ary Z h0 a267 .double ([(.double (4621819117588971520 : UInt64)), (.double (4630826316843712512 : UInt64)), (.double (4629137466983448576 : UInt64))] ++ own_rD 13)) (H31 : own_Ary Z h0 a274 .int ([(.int (-1 : Int32)), (.int (2 : Int32))] ++ own_rI 14)) (H32 : own_Ary Z h0 a273 .int ([(.int (2 : Int32)), (.int (-1 : Int32)), (.int (1 : Int32))] ++ own_rI 13)) (H33 : own_Ary Z h0 a271 .boolean (own_rI 16)) (H34 : own_Ary Z h0 a270 (.object own_k1) ([(.ref a811), (.ref a2414), (.ref a2034)] ++ own_rN 13)) (H35 : Fld Z h0 a33 own_k0 "thresholds" "[D" (.ref a267)) (H36 : Fld Z h0 a33 own_k0 "ranks" "[D" (.ref a268)) (H37 : Fld Z h0 a33 own_k0 "guarded" "[Z" (.ref a269)) (H38 : Fld Z h0 a33 own_k0 "extents" own_k4 (.ref a270)) (H39 : Fld Z h0 a33 own_k0 "addedAtThreshold" "[Z" (.ref a271)) (H40 : Fld Z h0 a33 own_k0 "copies" "[J" (.ref a272)) (H41 : Fld Z h0 a33 own_k0 "nextOf" "[I" (.ref a273)) (H42 : Fld Z h0 a33 own_k0 "previousOf" "[I" (.ref a274)) (H43 : Fld Z h0 a33 own_k0 "first" "I" (.int (0 : Int32))) (H44 : Fld Z h0 a33 own_k0 "last" "I" (.int (1 : Int32))) (H45 : Fld Z h0 a33 own_k0 "free" "I" (.int (-1 : Int32))) (H46 : Fld Z h0 a33 own_k0 "smallestMagnitude" "D" (.double (9218868437227405312 : UInt64))) (H47 : Fld Z h0 a33 own_k0 "size" "I" (.int (3 : Int32))) (H48 : Fld Z h0 a33 own_k0 "used" "I" (.int (3 : Int32))) (H68 : a33 < a274) (H69 : a33 < a273) (H70 : a33 < a272) (H71 : a33 < a271) (H72 : a33 < a270) (H73 : a33 < a269) (H74 : a33 < a268) (H75 : a33 < a267) (H79 : n0 ≤ a33) (H80 : a273 < a274) (H81 : a272 < a274) (H82 : a271 < a274) (H83 : a270 < a274) (H84 : a269 < a274) (H85 : a268 < a274) (H86 : a267 < a274) (H90 : n0 ≤ a274) (H91 : a272 < a273) (H92 : a271 < a273) (H93 : a270 < a273) (H94 : a269 < a273) (H95 : a268 < a273) (H96 : a267 < a273) (H100 : n0 ≤ a273) (H101 : a271 < a272) (H102 : a270 < a272) (H103 : a269 < a272) (H104 : a268 < a272) (H105 : a267 < a272) (H109 : n0 ≤ a272) (H110 : a270 < a271) (H111 : a269 < a271) (H112 : a268 < a271) (H113 : a267 < a271) (H117 : n0 ≤ a271) (H118 : a269 < a270) (H119 : a268 < a270) (H120 : a267 < a270) (H124 : n0 ≤ a270) (H125 : a268 < a269) (H126 : a267 < a269) (H130 : n0 ≤ a269) (H131 : a267 < a268) (H135 : n0 ≤ a268) (H139 : n0 ≤ a267) :
    MetFree l (⟨own_k0, "insertBefore", own_k6⟩ : MethodName) (head1 (Jvm.Cond.code (⟨own_k0, "insertBefore", own_k6⟩ : MethodName) prog_5_method_55_code 11 (some .int) :: wds) ({ frames := 1, cells := 0, slots := 0, locals := 13 } : Room)) (fun ar_ U_ => ar_ = #[(.ref a33), (.int (0 : Int32)), (.double (4617315517961601024 : UInt64)), (.double (0 : UInt64)), (.ref rn), (.long (0 : Int64))] ∧ Z.Warmed39 U_.vm ∧ U_.heap = h0) (fun _ _ _ _ _ => True) (fun _ U_ o_ V_ => ∃ v_ L_, o_ = .returned v_ ∧ own_s55_Q Z a33 rn a274 a273 a272 a271 a270 a269 a268 a267 a811 f386 a2034 f2082 f1222 a2414 h0 n0 v_ V_.heap L_ ∧ FrameEnd U_ o_ V_ L_ ({ frames := 1, cells := 0, slots := 0, locals := 13 } : Room).cells ({ frames := 1, cells := 0, slots := 0, locals := 13 } : Room).slots) := by
  refine own_met (y := ⟨own_k0, "insertBefore", own_k6⟩) (Q := own_s55_Q Z a33 rn a274 a273 a272 a271 a270 a269 a268 a267 a811 f386 a2034 f2082 f1222 a2414 h0 n0) own_pn1 ?_
  intro p e s m below meth c s₁ hx hby hml hZ hown hnm hret hlk X0 e0
  have N0 := Fr.nil n0
  refine own_cast (g' := (mkF m 0 #[.val (.ref a33), .val (.int (0 : Int32)), .val (.double (4617315517961601024 : UInt64)), .second, .val (.double (0 : UInt64)), .second, .val (.ref rn), .val (.long (0 : Int64)), .second, .unset, .unset] [])) (by first | (simp [entryFrame, mkF, argsToLocals, Value.category]; done) | rfl) ?_
  generalize hL2708 : (#[.val (.ref a33), .val (.int (0 : Int32)), .val (.double (4617315517961601024 : UInt64)), .second, .val (.double (0 : UInt64)), .second, .val (.ref rn), .val (.long (0 : Int64)), .second, .unset, .unset] : Array Slot) = L2708
  refine own_alN (w := (.ref a33)) X0 hx (hb hby d8_0) (by rw [← hL2708]; rfl) rfl ?_
  refine own_callp (a := a33) (argsL := []) (rest := []) X0 hx hZ hown (own_s56 l Z a0 hw [] a33 a274 a273 a272 a271 a270 a269 a268 a267 h0 n0 Z0 H3 H30 H35 H36 H37 H38 H39 H40 H41 H42 H43 H44 H45 H46 H47 H48 H79) H3 (own_w hw 86 rfl) (own_w hw 5 rfl) (own_w hw 88 rfl) (own_w hw 87 rfl) (own_w hw 89 rfl) (own_w hw 6 rfl) (by decide) e0 (hb hby d8_1) (by rw [hml, ← hL2708]; rfl) rfl (lenOf own_pd3 rfl) (by decide) (W := 0) (Nat.le_of_eq rfl) (by decide) (by decide) (by decide) ?_
  intro v2728 T2728 lo2728 X2728 Q2728
  obtain ⟨h2728, e2728⟩ : ∃ h, T2728.heap = h := ⟨_, rfl⟩
  rw [e2728] at Q2728
  obtain ⟨rfl, N2728, K2728, F2729, F2730, F2731, F2732, F2733, F2734, F2735, F2736, F2737, F2738, F2739, F2740, F2741, F2742⟩ := Q2728
  have N2728' := Fr.app N0 N2728
  show own_Go _ _ _ _ _ _ _ T2728 (mkF m 4 L2708 [(.int (3 : Int32))])
  refine own_pre (g' := (mkF m 6 #[.val (.ref a33), .val (.int (0 : Int32)), .val (.double (4617315517961601024 : UInt64)), .second, .val (.double (0 : UInt64)), .second, .val (.ref rn), .val (.long (0 : Int64)), .second, .val (.int (3 : Int32)), .unset] [])) (fun t k => XS.istore X2728.here hx rfl (hb hby d8_4) rfl (l' := #[.val (.ref a33), .val (.int (0 : Int32)), .val (.double (4617315517961601024 : UInt64)), .second, .val (.double (0 : UInt64)), .second, .val (.ref rn), .val (.long (0 : Int64)), .second, .val (.int (3 : Int32)), .unset]) (by rw [← hL2708]; rfl) k) ?_
  generalize hL2744 : (#[.val (.ref a33), .val (.int (0 : Int32)), .val (.double (4617315517961601024 : UInt64)), .second, .val (.double (0 : UInt64)), .second, .val (.ref rn), .val (.long (0 : Int64)), .second, .val (.int (3 : Int32)), .unset] : Array Slot) = L2744
  refine own_alN (w := (.ref a33)) X2728 hx (hb hby d8_6) (by rw [← hL2744]; rfl) rfl ?_
  refine own_getf X2728 hx hZ hown (own_w hw 13 rfl) e2728 F2729 (hb hby d8_7) ?_
  intro T2745 X2745 e2745
  show own_Go _ _ _ _ _ _ _ T2745 (mkF m 10 L2744 [(.ref a267)])
  refine own_il (w := (3 : Int32)) X2745 hx (hb hby d8_10) (by rw [← hL2744]; rfl) ?_
  refine own_dlN (w := (4617315517961601024 : UInt64)) X2745 hx (hb hby d8_12) (by rw [← hL2744]; rfl) ?_
  have F2746 := (H30.keep K2728 (ninS (Nat.ne_of_gt H75) nin0))
  refine own_dastore X2745 hx hZ e2745 N2728' H139 F2746 (hb hby d8_13) (n := 3) (by decide) (by decide) (by show 3 < 16; decide) ?_
  intro T2747 h2747 lo2747 X2747 e2747 N2747 W2747
  have F2748 : own_Ary Z h2747 a267 .double ([(.double (4621819117588971520 : UInt64)), (.double (4630826316843712512 : UInt64)), (.double (4629137466983448576 : UInt64)), (.double (4617315517961601024 : UInt64))] ++ own_rD 12) := F2746.set W2747
  show own_Go _ _ _ _ _ _ _ T2747 (mkF m 14 L2744 [])
  refine own_alN (w := (.ref a33)) X2747 hx (hb hby d8_14) (by rw [← hL2744]; rfl) rfl ?_
  have F2749 := (F2730.other W2747 (Or.inl (Nat.ne_of_lt H75)))
  refine own_getf X2747 hx hZ hown (own_w hw 15 rfl) e2747 F2749 (hb hby d8_15) ?_
  intro T2750 X2750 e2750
  show own_Go _ _ _ _ _ _ _ T2750 (mkF m 18 L2744 [(.ref a268)])
  refine own_il (w := (3 : Int32)) X2750 hx (hb hby d8_18) (by rw [← hL2744]; rfl) ?_
  refine own_dl (w := (0 : UInt64)) X2750 hx (hb hby d8_20) (by rw [← hL2744]; rfl) ?_
  have F2751 := ((H29.keep K2728 (ninS (Nat.ne_of_gt H74) nin0)).other W2747 (Nat.ne_of_gt H131))
  refine own_dastore X2750 hx hZ e2750 N2747 H135 F2751 (hb hby d8_22) (n := 3) (by decide) (by decide) (by show 3 < 16; decide) ?_
  intro T2752 h2752 lo2752 X2752 e2752 N2752 W2752
  have F2753 : own_Ary Z h2752 a268 .double ([(.double f386), (.double f2082), (.double f1222)] ++ own_rD 13) := F2751.set W2752
  show own_Go _ _ _ _ _ _ _ T2752 (mkF m 23 L2744 [])
  refine own_alN (w := (.ref a33)) X2752 hx (hb hby d8_23) (by rw [← hL2744]; rfl) rfl ?_
  have F2754 := ((F2731.other W2747 (Or.inl (Nat.ne_of_lt H75))).other W2752 (Or.inl (Nat.ne_of_lt H74)))
  refine own_getf X2752 hx hZ hown (own_w hw 18 rfl) e2752 F2754 (hb hby d8_24) ?_
  intro T2755 X2755 e2755
  show own_Go _ _ _ _ _ _ _ T2755 (mkF m 27 L2744 [(.ref a269)])
  refine own_il (w := (3 : Int32)) X2755 hx (hb hby d8_27) (by rw [← hL2744]; rfl) ?_
  refine own_ic X2755 hx (0 : Int32) (hb hby d8_29) rfl ?_
  have F2756 := (((H28.keep K2728 (ninS (Nat.ne_of_gt H73) nin0)).other W2747 (Nat.ne_of_gt H126)).other W2752 (Nat.ne_of_gt H125))
  refine own_zastore X2755 hx hZ e2755 N2752 H130 F2756 (hb hby d8_30) (n := 3) (x' := (0 : Int32)) (by decide) (by decide) (by show 3 < 16; decide) (by decide) ?_
  intro T2757 h2757 lo2757 X2757 e2757 N2757 W2757
  have F2758 : own_Ary Z h2757 a269 .boolean (own_rI 16) := F2756.set W2757
  show own_Go _ _ _ _ _ _ _ T2757 (mkF m 31 L2744 [])
  refine own_alN (w := (.ref a33)) X2757 hx (hb hby d8_31) (by rw [← hL2744]; rfl) rfl ?_
  have F2759 := (((F2732.other W2747 (Or.inl (Nat.ne_of_lt H75))).other W2752 (Or.inl (Nat.ne_of_lt H74))).other W2757 (Or.inl (Nat.ne_of_lt H73)))
  refine own_getf X2757 hx hZ hown (own_w hw 22 rfl) e2757 F2759 (hb hby d8_32) ?_
  intro T2760 X2760 e2760
  show own_Go _ _ _ _ _ _ _ T2760 (mkF m 35 L2744 [(.ref a270)])
  refine own_il (w := (3 : Int32)) X2760 hx (hb hby d8_35) (by rw [← hL2744]; rfl) ?_
  refine own_al (w := (.ref rn)) X2760 hx (hb hby d8_37) (by rw [← hL2744]; rfl) rfl ?_
  have F2761 := ((((H34.keep K2728 (ninS (Nat.ne_of_gt H72) nin0)).other W2747 (Nat.ne_of_gt H120)).other W2752 (Nat.ne_of_gt H119)).other W2757 (Nat.ne_of_gt H118))
  have F2763 := ((((H2.keep K2728).wr W2747).wr W2752).wr W2757)
  have F2764 := ((((H9.keep K2728).wr W2747).wr W2752).wr W2757)
  refine own_aastore X2760 hx hZ e2760 N2757 H124 F2761 F2764 (Ins.self F2763) (hb hby d8_39) (n := 3) (by decide) (by decide) (by show 3 < 16; decide) ?_
  intro T2762 h2762 lo2762 X2762 e2762 N2762 W2762
  have F2765 : own_Ary Z h2762 a270 (.object own_k1) ([(.ref a811), (.ref a2414), (.ref a2034), (.ref rn)] ++ own_rN 12) := F2761.set W2762
  show own_Go _ _ _ _ _ _ _ T2762 (mkF m 40 L2744 [])
  refine own_alN (w := (.ref a33)) X2762 hx (hb hby d8_40) (by rw [← hL2744]; rfl) rfl ?_
  have F2766 := ((((F2733.other W2747 (Or.inl (Nat.ne_of_lt H75))).other W2752 (Or.inl (Nat.ne_of_lt H74))).other W2757 (Or.inl (Nat.ne_of_lt H73))).other W2762 (Or.inl (Nat.ne_of_lt H72)))
  refine own_getf X2762 hx hZ hown (own_w hw 24 rfl) e2762 F2766 (hb hby d8_41) ?_
  intro T2767 X2767 e2767
  show own_Go _ _ _ _ _ _ _ T2767 (mkF m 44 L2744 [(.ref a271)])
  refine own_il (w := (3 : Int32)) X2767 hx (hb hby d8_44) (by rw [← hL2744]; rfl) ?_
  refine own_ic X2767 hx (0 : Int32) (hb hby d8_46) rfl ?_
  have F2768 := (((((H33.keep K2728 (ninS (Nat.ne_of_gt H71) nin0)).other W2747 (Nat.ne_of_gt H113)).other W2752 (Nat.ne_of_gt H112)).other W2757 (Nat.ne_of_gt H111)).other W2762 (Nat.ne_of_gt H110))
  refine own_zastore X2767 hx hZ e2767 N2762 H117 F2768 (hb hby d8_47) (n := 3) (x' := (0 : Int32)) (by decide) (by decide) (by show 3 < 16; decide) (by decide) ?_
  intro T2769 h2769 lo2769 X2769 e2769 N2769 W2769
  have F2770 : own_Ary Z h2769 a271 .boolean (own_rI 16) := F2768.set W2769
  show own_Go _ _ _ _ _ _ _ T2769 (mkF m 48 L2744 [])
  refine own_alN (w := (.ref a33)) X2769 hx (hb hby d8_48) (by rw [← hL2744]; rfl) rfl ?_
  have F2771 := (((((F2734.other W2747 (Or.inl (Nat.ne_of_lt H75))).other W2752 (Or.inl (Nat.ne_of_lt H74))).other W2757 (Or.inl (Nat.ne_of_lt H73))).other W2762 (Or.inl (Nat.ne_of_lt H72))).other W2769 (Or.inl (Nat.ne_of_lt H71)))
  refine own_getf X2769 hx hZ hown (own_w hw 26 rfl) e2769 F2771 (hb hby d8_49) ?_
  intro T2772 X2772 e2772
  show own_Go _ _ _ _ _ _ _ T2772 (mkF m 52 L2744 [(.ref a272)])
  refine own_il (w := (3 : Int32)) X2772 hx (hb hby d8_52) (by rw [← hL2744]; rfl) ?_
  refine own_ll (w := (0 : Int64)) X2772 hx (hb hby d8_54) (by rw [← hL2744]; rfl) ?_
  have F2773 := ((((((H27.keep K2728 (ninS (Nat.ne_of_gt H70) nin0)).other W2747 (Nat.ne_of_gt H105)).other W2752 (Nat.ne_of_gt H104)).other W2757 (Nat.ne_of_gt H103)).other W2762 (Nat.ne_of_gt H102)).other W2769 (Nat.ne_of_gt H101))
  refine own_lastore X2772 hx hZ e2772 N2769 H109 F2773 (hb hby d8_56) (n := 3) (by decide) (by decide) (by show 3 < 16; decide) ?_
  intro T2774 h2774 lo2774 X2774 e2774 N2774 W2774
  have F2775 : own_Ary Z h2774 a272 .long (own_rJ 16) := F2773.set W2774
  show own_Go _ _ _ _ _ _ _ T2774 (mkF m 57 L2744 [])
  refine own_ilN (w := (0 : Int32)) X2774 hx (hb hby d8_57) (by rw [← hL2744]; rfl) ?_
  refine own_ic X2774 hx (-1 : Int32) (hb hby d8_58) rfl ?_
  refine own_pre (g' := (mkF m 69 L2744 [])) (fun t k => XS.icmpYes X2774.here hx rfl (pc0 := 59) (pc' := 69) rfl (hb hby d8_59) rfl (by decide) (by decide) (by decide) k) ?_
  refine own_alN (w := (.ref a33)) X2774 hx (hb hby d8_69) (by rw [← hL2744]; rfl) rfl ?_
  have F2776 := ((((((F2736.other W2747 (Or.inl (Nat.ne_of_lt H75))).other W2752 (Or.inl (Nat.ne_of_lt H74))).other W2757 (Or.inl (Nat.ne_of_lt H73))).other W2762 (Or.inl (Nat.ne_of_lt H72))).other W2769 (Or.inl (Nat.ne_of_lt H71))).other W2774 (Or.inl (Nat.ne_of_lt H70)))
  refine own_getf X2774 hx hZ hown (own_w hw 31 rfl) e2774 F2776 (hb hby d8_70) ?_
  intro T2777 X2777 e2777
  show own_Go _ _ _ _ _ _ _ T2777 (mkF m 73 L2744 [(.ref a274)])
  refine own_ilN (w := (0 : Int32)) X2777 hx (hb hby d8_73) (by rw [← hL2744]; rfl) ?_
  have F2778 := (((((((H31.keep K2728 (ninS (Nat.ne_of_gt H68) nin0)).other W2747 (Nat.ne_of_gt H86)).other W2752 (Nat.ne_of_gt H85)).other W2757 (Nat.ne_of_gt H84)).other W2762 (Nat.ne_of_gt H83)).other W2769 (Nat.ne_of_gt H82)).other W2774 (Nat.ne_of_gt H81))
  refine own_iaload X2777 hx hZ e2777 F2778 (hb hby d8_74) (n := 0) (v := (.int (-1 : Int32))) (by decide) (by decide) rfl ?_
  show own_Go _ _ _ _ _ _ _ T2777 (mkF m 75 L2744 [(.int (-1 : Int32))])
  refine own_pre (g' := (mkF m 77 #[.val (.ref a33), .val (.int (0 : Int32)), .val (.double (4617315517961601024 : UInt64)), .second, .val (.double (0 : UInt64)), .second, .val (.ref rn), .val (.long (0 : Int64)), .second, .val (.int (3 : Int32)), .val (.int (-1 : Int32))] [])) (fun t k => XS.istore X2777.here hx rfl (hb hby d8_75) rfl (l' := #[.val (.ref a33), .val (.int (0 : Int32)), .val (.double (4617315517961601024 : UInt64)), .second, .val (.double (0 : UInt64)), .second, .val (.ref rn), .val (.long (0 : Int64)), .second, .val (.int (3 : Int32)), .val (.int (-1 : Int32))]) (by rw [← hL2744]; rfl) k) ?_
  generalize hL2779 : (#[.val (.ref a33), .val (.int (0 : Int32)), .val (.double (4617315517961601024 : UInt64)), .second, .val (.double (0 : UInt64)), .second, .val (.ref rn), .val (.long (0 : Int64)), .second, .val (.int (3 : Int32)), .val (.int (-1 : Int32))] : Array Slot) = L2779
  refine own_alN (w := (.ref a33)) X2777 hx (hb hby d8_77) (by rw [← hL2779]; rfl) rfl ?_
  have F2780 := ((((((F2735.other W2747 (Or.inl (Nat.ne_of_lt H75))).other W2752 (Or.inl (Nat.ne_of_lt H74))).other W2757 (Or.inl (Nat.ne_of_lt H73))).other W2762 (Or.inl (Nat.ne_of_lt H72))).other W2769 (Or.inl (Nat.ne_of_lt H71))).other W2774 (Or.inl (Nat.ne_of_lt H70)))
  refine own_getf X2777 hx hZ hown (own_w hw 29 rfl) e2777 F2780 (hb hby d8_78) ?_
  intro T2781 X2781 e2781
  show own_Go _ _ _ _ _ _ _ T2781 (mkF m 81 L2779 [(.ref a273)])
  refine own_il (w := (3 : Int32)) X2781 hx (hb hby d8_81) (by rw [← hL2779]; rfl) ?_
  refine own_ilN (w := (0 : Int32)) X2781 hx (hb hby d8_83) (by rw [← hL2779]; rfl) ?_
  have F2782 := (((((((H32.keep K2728 (ninS (Nat.ne_of_gt H69) nin0)).other W2747 (Nat.ne_of_gt H96)).other W2752 (Nat.ne_of_gt H95)).other W2757 (Nat.ne_of_gt H94)).other W2762 (Nat.ne_of_gt H93)).other W2769 (Nat.ne_of_gt H92)).other W2774 (Nat.ne_of_gt H91))
  refine own_iastore X2781 hx hZ e2781 N2774 H100 F2782 (hb hby d8_84) (n := 3) (by decide) (by decide) (by show 3 < 16; decide) ?_
  intro T2783 h2783 lo2783 X2783 e2783 N2783 W2783
  have F2784 : own_Ary Z h2783 a273 .int ([(.int (2 : Int32)), (.int (-1 : Int32)), (.int (1 : Int32))] ++ own_rI 13) := F2782.set W2783
  show own_Go _ _ _ _ _ _ _ T2783 (mkF m 85 L2779 [])
  refine own_alN (w := (.ref a33)) X2783 hx (hb hby d8_85) (by rw [← hL2779]; rfl) rfl ?_
  have F2785 := (F2776.other W2783 (Or.inl (Nat.ne_of_lt H69)))
  refine own_getf X2783 hx hZ hown (own_w hw 31 rfl) e2783 F2785 (hb hby d8_86) ?_
  intro T2786 X2786 e2786
  show own_Go _ _ _ _ _ _ _ T2786 (mkF m 89 L2779 [(.ref a274)])
  refine own_il (w := (3 : Int32)) X2786 hx (hb hby d8_89) (by rw [← hL2779]; rfl) ?_
  refine own_il (w := (-1 : Int32)) X2786 hx (hb hby d8_91) (by rw [← hL2779]; rfl) ?_
  have F2787 := (F2778.other W2783 (Nat.ne_of_gt H80))
  refine own_iastore X2786 hx hZ e2786 N2783 H90 F2787 (hb hby d8_93) (n := 3) (by decide) (by decide) (by show 3 < 16; decide) ?_
  intro T2788 h2788 lo2788 X2788 e2788 N2788 W2788
  have F2789 : own_Ary Z h2788 a274 .int ([(.int (-1 : Int32)), (.int (2 : Int32)), (.int (0 : Int32)), (.int (-1 : Int32))] ++ own_rI 12) := F2787.set W2788
  show own_Go _ _ _ _ _ _ _ T2788 (mkF m 94 L2779 [])
  refine own_il (w := (-1 : Int32)) X2788 hx (hb hby d8_94) (by rw [← hL2779]; rfl) ?_
  refine own_ic X2788 hx (-1 : Int32) (hb hby d8_96) rfl ?_
  refine own_pre (g' := (mkF m 100 L2779 [])) (fun t k => XS.icmpNo X2788.here hx rfl (hb hby d8_97) rfl (by decide) k) ?_
  refine own_alN (w := (.ref a33)) X2788 hx (hb hby d8_100) (by rw [← hL2779]; rfl) rfl ?_
  refine own_il (w := (3 : Int32)) X2788 hx (hb hby d8_101) (by rw [← hL2779]; rfl) ?_
  have F2790 := ((((((((F2737.other W2747 (Or.inl (Nat.ne_of_lt H75))).other W2752 (Or.inl (Nat.ne_of_lt H74))).other W2757 (Or.inl (Nat.ne_of_lt H73))).other W2762 (Or.inl (Nat.ne_of_lt H72))).other W2769 (Or.inl (Nat.ne_of_lt H71))).other W2774 (Or.inl (Nat.ne_of_lt H70))).other W2783 (Or.inl (Nat.ne_of_lt H69))).other W2788 (Or.inl (Nat.ne_of_lt H68)))
  have F2791 := (((((((((H3.keep K2728).wr W2747).wr W2752).wr W2757).wr W2762).wr W2769).wr W2774).wr W2783).wr W2788)
  refine own_putf X2788 hx hZ hown (own_w hw 33 rfl) e2788 N2788 H79 F2790 F2791 (Or.inl (own_w hw 34 rfl)) (own_w hw 5 rfl) (ty := .int) (by decide) rfl rfl (hb hby d8_103) ?_
  intro T2792 h2792 lo2792 X2792 e2792 N2792 W2792
  have F2793 := F2790.same W2792
  show own_Go _ _ _ _ _ _ _ T2792 (mkF m 106 L2779 [])
  refine own_gt X2792 hx 118 (hb hby d8_106) (by decide) (by decide) ?_
  refine own_ilN (w := (0 : Int32)) X2792 hx (hb hby d8_118) (by rw [← hL2779]; rfl) ?_
  refine own_ic X2792 hx (-1 : Int32) (hb hby d8_119) rfl ?_
  refine own_pre (g' := (mkF m 132 L2779 [])) (fun t k => XS.icmpYes X2792.here hx rfl (pc0 := 120) (pc' := 132) rfl (hb hby d8_120) rfl (by decide) (by decide) (by decide) k) ?_
  refine own_alN (w := (.ref a33)) X2792 hx (hb hby d8_132) (by rw [← hL2779]; rfl) rfl ?_
  have F2794 := ((F2785.other W2788 (Or.inl (Nat.ne_of_lt H68))).other W2792 (Or.inr (own_sne (own_f7 hw) (own_f8 hw) (by decide))))
  refine own_getf X2792 hx hZ hown (own_w hw 31 rfl) e2792 F2794 (hb hby d8_133) ?_
  intro T2795 X2795 e2795
  show own_Go _ _ _ _ _ _ _ T2795 (mkF m 136 L2779 [(.ref a274)])
  refine own_ilN (w := (0 : Int32)) X2795 hx (hb hby d8_136) (by rw [← hL2779]; rfl) ?_
  refine own_il (w := (3 : Int32)) X2795 hx (hb hby d8_137) (by rw [← hL2779]; rfl) ?_
  have F2796 := (F2789.other W2792 (Nat.ne_of_gt H68))
  refine own_iastore X2795 hx hZ e2795 N2792 H90 F2796 (hb hby d8_139) (n := 0) (by decide) (by decide) (by show 0 < 16; decide) ?_
  intro T2797 h2797 lo2797 X2797 e2797 N2797 W2797
  have F2798 : own_Ary Z h2797 a274 .int ([(.int (3 : Int32)), (.int (2 : Int32)), (.int (0 : Int32)), (.int (-1 : Int32))] ++ own_rI 12) := F2796.set W2797
  show own_Go _ _ _ _ _ _ _ T2797 (mkF m 140 L2779 [])
  refine own_alN (w := (.ref a33)) X2797 hx (hb hby d8_140) (by rw [← hL2779]; rfl) rfl ?_
  refine own_pre (g' := (mkF m 142 L2779 [(.ref a33), (.ref a33)])) (fun t k => XS.dup X2797.here hx rfl (hb hby d8_141) rfl rfl k) ?_
  have F2799 := ((((((((((F2741.other W2747 (Or.inl (Nat.ne_of_lt H75))).other W2752 (Or.inl (Nat.ne_of_lt H74))).other W2757 (Or.inl (Nat.ne_of_lt H73))).other W2762 (Or.inl (Nat.ne_of_lt H72))).other W2769 (Or.inl (Nat.ne_of_lt H71))).other W2774 (Or.inl (Nat.ne_of_lt H70))).other W2783 (Or.inl (Nat.ne_of_lt H69))).other W2788 (Or.inl (Nat.ne_of_lt H68))).other W2792 (Or.inr (own_sne (own_f12 hw) (own_f8 hw) (by decide)))).other W2797 (Or.inl (Nat.ne_of_lt H68)))
  refine own_getf X2797 hx hZ hown (own_w hw 48 rfl) e2797 F2799 (hb hby d8_142) ?_
  intro T2800 X2800 e2800
  show own_Go _ _ _ _ _ _ _ T2800 (mkF m 145 L2779 [(.int (3 : Int32)), (.ref a33)])
  refine own_ic X2800 hx (1 : Int32) (hb hby d8_145) rfl ?_
  refine own_pre (g' := (mkF m 147 L2779 [(.int (4 : Int32)), (.ref a33)])) (fun t k => XS.iadd X2800.here hx rfl (hb hby d8_146) rfl k) ?_
  have F2801 := ((F2791.wr W2792).wr W2797)
  refine own_putf X2800 hx hZ hown (own_w hw 48 rfl) e2800 N2797 H79 F2799 F2801 (Or.inl (own_w hw 49 rfl)) (own_w hw 5 rfl) (ty := .int) (by decide) rfl rfl (hb hby d8_147) ?_
  intro T2802 h2802 lo2802 X2802 e2802 N2802 W2802
  have F2803 := F2799.same W2802
  show own_Go _ _ _ _ _ _ _ T2802 (mkF m 150 L2779 [])
  refine own_il (w := (3 : Int32)) X2802 hx (hb hby d8_150) (by rw [← hL2779]; rfl) ?_
  have F2804 := (((((F2775.other W2783 (Nat.ne_of_lt H91)).other W2788 (Nat.ne_of_lt H81)).other W2792 (Nat.ne_of_gt H70)).other W2797 (Nat.ne_of_lt H81)).other W2802 (Nat.ne_of_gt H70))
  have F2805 := ((((((((F2758.other W2762 (Nat.ne_of_lt H118)).other W2769 (Nat.ne_of_lt H111)).other W2774 (Nat.ne_of_lt H103)).other W2783 (Nat.ne_of_lt H94)).other W2788 (Nat.ne_of_lt H84)).other W2792 (Nat.ne_of_gt H73)).other W2797 (Nat.ne_of_lt H84)).other W2802 (Nat.ne_of_gt H73))
  have F2806 := (((((((((F2753.other W2757 (Nat.ne_of_lt H125)).other W2762 (Nat.ne_of_lt H119)).other W2769 (Nat.ne_of_lt H112)).other W2774 (Nat.ne_of_lt H104)).other W2783 (Nat.ne_of_lt H95)).other W2788 (Nat.ne_of_lt H85)).other W2792 (Nat.ne_of_gt H74)).other W2797 (Nat.ne_of_lt H85)).other W2802 (Nat.ne_of_gt H74))
  have F2807 := ((((((((((F2748.other W2752 (Nat.ne_of_lt H131)).other W2757 (Nat.ne_of_lt H126)).other W2762 (Nat.ne_of_lt H120)).other W2769 (Nat.ne_of_lt H113)).other W2774 (Nat.ne_of_lt H105)).other W2783 (Nat.ne_of_lt H96)).other W2788 (Nat.ne_of_lt H86)).other W2792 (Nat.ne_of_gt H75)).other W2797 (Nat.ne_of_lt H86)).other W2802 (Nat.ne_of_gt H75))
  have F2808 := (F2798.other W2802 (Nat.ne_of_gt H68))
  have F2809 := ((((F2784.other W2788 (Nat.ne_of_lt H80)).other W2792 (Nat.ne_of_gt H69)).other W2797 (Nat.ne_of_lt H80)).other W2802 (Nat.ne_of_gt H69))
  have F2810 := ((((((F2770.other W2774 (Nat.ne_of_lt H101)).other W2783 (Nat.ne_of_lt H92)).other W2788 (Nat.ne_of_lt H82)).other W2792 (Nat.ne_of_gt H71)).other W2797 (Nat.ne_of_lt H82)).other W2802 (Nat.ne_of_gt H71))
  have F2811 := (((((((F2765.other W2769 (Nat.ne_of_lt H110)).other W2774 (Nat.ne_of_lt H102)).other W2783 (Nat.ne_of_lt H93)).other W2788 (Nat.ne_of_lt H83)).other W2792 (Nat.ne_of_gt H72)).other W2797 (Nat.ne_of_lt H83)).other W2802 (Nat.ne_of_gt H72))
  have F2812 := (((((((((((F2729.other W2747 (Or.inl (Nat.ne_of_lt H75))).other W2752 (Or.inl (Nat.ne_of_lt H74))).other W2757 (Or.inl (Nat.ne_of_lt H73))).other W2762 (Or.inl (Nat.ne_of_lt H72))).other W2769 (Or.inl (Nat.ne_of_lt H71))).other W2774 (Or.inl (Nat.ne_of_lt H70))).other W2783 (Or.inl (Nat.ne_of_lt H69))).other W2788 (Or.inl (Nat.ne_of_lt H68))).other W2792 (Or.inr (own_sne (own_f1 hw) (own_f8 hw) (by decide)))).other W2797 (Or.inl (Nat.ne_of_lt H68))).other W2802 (Or.inr (own_sne (own_f1 hw) (own_f12 hw) (by decide))))
  have F2813 := ((((((((((F2749.other W2752 (Or.inl (Nat.ne_of_lt H74))).other W2757 (Or.inl (Nat.ne_of_lt H73))).other W2762 (Or.inl (Nat.ne_of_lt H72))).other W2769 (Or.inl (Nat.ne_of_lt H71))).other W2774 (Or.inl (Nat.ne_of_lt H70))).other W2783 (Or.inl (Nat.ne_of_lt H69))).other W2788 (Or.inl (Nat.ne_of_lt H68))).other W2792 (Or.inr (own_sne (own_f0 hw) (own_f8 hw) (by decide)))).other W2797 (Or.inl (Nat.ne_of_lt H68))).other W2802 (Or.inr (own_sne (own_f0 hw) (own_f12 hw) (by decide))))
  have F2814 := (((((((((F2754.other W2757 (Or.inl (Nat.ne_of_lt H73))).other W2762 (Or.inl (Nat.ne_of_lt H72))).other W2769 (Or.inl (Nat.ne_of_lt H71))).other W2774 (Or.inl (Nat.ne_of_lt H70))).other W2783 (Or.inl (Nat.ne_of_lt H69))).other W2788 (Or.inl (Nat.ne_of_lt H68))).other W2792 (Or.inr (own_sne (own_f2 hw) (own_f8 hw) (by decide)))).other W2797 (Or.inl (Nat.ne_of_lt H68))).other W2802 (Or.inr (own_sne (own_f2 hw) (own_f12 hw) (by decide))))
  have F2815 := ((((((((F2759.other W2762 (Or.inl (Nat.ne_of_lt H72))).other W2769 (Or.inl (Nat.ne_of_lt H71))).other W2774 (Or.inl (Nat.ne_of_lt H70))).other W2783 (Or.inl (Nat.ne_of_lt H69))).other W2788 (Or.inl (Nat.ne_of_lt H68))).other W2792 (Or.inr (own_sne (own_f3 hw) (own_f8 hw) (by decide)))).other W2797 (Or.inl (Nat.ne_of_lt H68))).other W2802 (Or.inr (own_sne (own_f3 hw) (own_f12 hw) (by decide))))
  have F2816 := (((((((F2766.other W2769 (Or.inl (Nat.ne_of_lt H71))).other W2774 (Or.inl (Nat.ne_of_lt H70))).other W2783 (Or.inl (Nat.ne_of_lt H69))).other W2788 (Or.inl (Nat.ne_of_lt H68))).other W2792 (Or.inr (own_sne (own_f4 hw) (own_f8 hw) (by decide)))).other W2797 (Or.inl (Nat.ne_of_lt H68))).other W2802 (Or.inr (own_sne (own_f4 hw) (own_f12 hw) (by decide))))
  have F2817 := ((((((F2771.other W2774 (Or.inl (Nat.ne_of_lt H70))).other W2783 (Or.inl (Nat.ne_of_lt H69))).other W2788 (Or.inl (Nat.ne_of_lt H68))).other W2792 (Or.inr (own_sne (own_f5 hw) (own_f8 hw) (by decide)))).other W2797 (Or.inl (Nat.ne_of_lt H68))).other W2802 (Or.inr (own_sne (own_f5 hw) (own_f12 hw) (by decide))))
  have F2818 := (((((F2780.other W2783 (Or.inl (Nat.ne_of_lt H69))).other W2788 (Or.inl (Nat.ne_of_lt H68))).other W2792 (Or.inr (own_sne (own_f6 hw) (own_f8 hw) (by decide)))).other W2797 (Or.inl (Nat.ne_of_lt H68))).other W2802 (Or.inr (own_sne (own_f6 hw) (own_f12 hw) (by decide))))
  have F2819 := ((F2794.other W2797 (Or.inl (Nat.ne_of_lt H68))).other W2802 (Or.inr (own_sne (own_f7 hw) (own_f12 hw) (by decide))))
  have F2820 := ((F2793.other W2797 (Or.inl (Nat.ne_of_lt H68))).other W2802 (Or.inr (own_sne (own_f8 hw) (own_f12 hw) (by decide))))
  have F2821 := (((((((((((F2738.other W2747 (Or.inl (Nat.ne_of_lt H75))).other W2752 (Or.inl (Nat.ne_of_lt H74))).other W2757 (Or.inl (Nat.ne_of_lt H73))).other W2762 (Or.inl (Nat.ne_of_lt H72))).other W2769 (Or.inl (Nat.ne_of_lt H71))).other W2774 (Or.inl (Nat.ne_of_lt H70))).other W2783 (Or.inl (Nat.ne_of_lt H69))).other W2788 (Or.inl (Nat.ne_of_lt H68))).other W2792 (Or.inr (own_sne (own_f9 hw) (own_f8 hw) (by decide)))).other W2797 (Or.inl (Nat.ne_of_lt H68))).other W2802 (Or.inr (own_sne (own_f9 hw) (own_f12 hw) (by decide))))
  have F2822 := (((((((((((F2739.other W2747 (Or.inl (Nat.ne_of_lt H75))).other W2752 (Or.inl (Nat.ne_of_lt H74))).other W2757 (Or.inl (Nat.ne_of_lt H73))).other W2762 (Or.inl (Nat.ne_of_lt H72))).other W2769 (Or.inl (Nat.ne_of_lt H71))).other W2774 (Or.inl (Nat.ne_of_lt H70))).other W2783 (Or.inl (Nat.ne_of_lt H69))).other W2788 (Or.inl (Nat.ne_of_lt H68))).other W2792 (Or.inr (own_sne (own_f10 hw) (own_f8 hw) (by decide)))).other W2797 (Or.inl (Nat.ne_of_lt H68))).other W2802 (Or.inr (own_sne (own_f10 hw) (own_f12 hw) (by decide))))
  have F2823 := (((((((((((F2740.other W2747 (Or.inl (Nat.ne_of_lt H75))).other W2752 (Or.inl (Nat.ne_of_lt H74))).other W2757 (Or.inl (Nat.ne_of_lt H73))).other W2762 (Or.inl (Nat.ne_of_lt H72))).other W2769 (Or.inl (Nat.ne_of_lt H71))).other W2774 (Or.inl (Nat.ne_of_lt H70))).other W2783 (Or.inl (Nat.ne_of_lt H69))).other W2788 (Or.inl (Nat.ne_of_lt H68))).other W2792 (Or.inr (own_sne (own_f11 hw) (own_f8 hw) (by decide)))).other W2797 (Or.inl (Nat.ne_of_lt H68))).other W2802 (Or.inr (own_sne (own_f11 hw) (own_f12 hw) (by decide))))
  have F2824 := (((((((((((F2742.other W2747 (Or.inl (Nat.ne_of_lt H75))).other W2752 (Or.inl (Nat.ne_of_lt H74))).other W2757 (Or.inl (Nat.ne_of_lt H73))).other W2762 (Or.inl (Nat.ne_of_lt H72))).other W2769 (Or.inl (Nat.ne_of_lt H71))).other W2774 (Or.inl (Nat.ne_of_lt H70))).other W2783 (Or.inl (Nat.ne_of_lt H69))).other W2788 (Or.inl (Nat.ne_of_lt H68))).other W2792 (Or.inr (own_sne (own_f13 hw) (own_f8 hw) (by decide)))).other W2797 (Or.inl (Nat.ne_of_lt H68))).other W2802 (Or.inr (own_sne (own_f13 hw) (own_f12 hw) (by decide))))
  exact own_retI X2802 hx hlk hret (hb hby d8_152) e2802 ⟨rfl, N2802, (((((((((((((Keep.refl _ _).trans K2728 (allS (Or.inl (by simp)) all0)).wr W2747 (Or.inl (by simp))).wr W2752 (Or.inl (by simp))).wr W2757 (Or.inl (by simp))).wr W2762 (Or.inl (by simp))).wr W2769 (Or.inl (by simp))).wr W2774 (Or.inl (by simp))).wr W2783 (Or.inl (by simp))).wr W2788 (Or.inl (by simp))).wr W2792 (Or.inl (by simp))).wr W2797 (Or.inl (by simp))).wr W2802 (Or.inl (by simp))), F2804, F2805, F2806, F2807, F2808, F2809, F2810, F2811, F2812, F2813, F2814, F2815, F2816, F2817, F2818, F2819, F2820, F2821, F2822, F2823, F2803, F2824⟩ (by decide) (by decide)
def own_s57_Q (Z : State) (a2559 : Addr) (a2560 : Addr) (h0 : Heap) (n0 : Nat) (v_ : Option Value) (h_ : Heap) (L_ : List Loc) : Prop := (fun v h L => v = some (.double (4617315517961601024 : UInt64)) ∧ Fr n0 L ∧ h = h0) v_ h_ L_
set_option maxRecDepth 65536 in
set_option maxHeartbeats 40000000 in
theorem own_s57 (l : Launch) (Z : State) (a0 : Array Value) (hw : ∀ d ∈ tables_1, d.before a0 Z = true) (wds : List Jvm.Cond) (a2559 : Addr) (a2560 : Addr) (h0 : Heap) (n0 : Nat) (Z0 : n0 ≤ h0.size) (H4 : Fld Z h0 a2559 own_k3 "values" "[D" (.ref a2560)) (H8 : own_Ary Z h0 a2560 .double [(.double (4617315517961601024 : UInt64))]) :
    MetFree l (⟨own_k3, "value", "(I)D"⟩ : MethodName) (head1 (Jvm.Cond.code (⟨own_k3, "value", "(I)D"⟩ : MethodName) prog_40_method_6_code 2 (some .double) :: wds) ({ frames := 0, cells := 0, slots := 0, locals := 0 } : Room)) (fun ar_ U_ => ar_ = #[(.ref a2559), (.int (0 : Int32))] ∧ Z.Warmed39 U_.vm ∧ U_.heap = h0) (fun _ _ _ _ _ => True) (fun _ U_ o_ V_ => ∃ v_ L_, o_ = .returned v_ ∧ own_s57_Q Z a2559 a2560 h0 n0 v_ V_.heap L_ ∧ FrameEnd U_ o_ V_ L_ ({ frames := 0, cells := 0, slots := 0, locals := 0 } : Room).cells ({ frames := 0, cells := 0, slots := 0, locals := 0 } : Room).slots) := by
  refine own_met (y := ⟨own_k3, "value", "(I)D"⟩) (Q := own_s57_Q Z a2559 a2560 h0 n0) own_pn5 ?_
  intro p e s m below meth c s₁ hx hby hml hZ hown hnm hret hlk X0 e0
  have N0 := Fr.nil n0
  refine own_cast (g' := (mkF m 0 #[.val (.ref a2559), .val (.int (0 : Int32))] [])) (by first | (simp [entryFrame, mkF, argsToLocals, Value.category]; done) | rfl) ?_
  refine own_alN (w := (.ref a2559)) X0 hx (hb hby d24_0) rfl rfl ?_
  refine own_getf X0 hx hZ hown (own_w hw 177 rfl) e0 H4 (hb hby d24_1) ?_
  intro T2857 X2857 e2857
  show own_Go _ _ _ _ _ _ _ T2857 (mkF m 4 #[.val (.ref a2559), .val (.int (0 : Int32))] [(.ref a2560)])
  refine own_ilN (w := (0 : Int32)) X2857 hx (hb hby d24_4) rfl ?_
  refine own_daload X2857 hx hZ e2857 H8 (hb hby d24_5) (n := 0) (v := (.double (4617315517961601024 : UInt64))) (by decide) (by decide) rfl ?_
  show own_Go _ _ _ _ _ _ _ T2857 (mkF m 6 #[.val (.ref a2559), .val (.int (0 : Int32))] [(.double (4617315517961601024 : UInt64))])
  exact own_retD X2857 hx hlk hret (hb hby d24_6) e2857 ⟨rfl, N0, rfl⟩ (by decide) (by decide)
def own_s58_Q (Z : State) (a2559 : Addr) (a2560 : Addr) (h0 : Heap) (n0 : Nat) (v_ : Option Value) (h_ : Heap) (L_ : List Loc) : Prop := (fun v h L => v = some (.double (4617315517961601024 : UInt64)) ∧ Fr n0 L ∧ h = h0) v_ h_ L_
set_option maxRecDepth 65536 in
set_option maxHeartbeats 40000000 in
theorem own_s58 (l : Launch) (Z : State) (a0 : Array Value) (hw : ∀ d ∈ tables_1, d.before a0 Z = true) (wds : List Jvm.Cond) (a2559 : Addr) (a2560 : Addr) (h0 : Heap) (n0 : Nat) (Z0 : n0 ≤ h0.size) (H4 : Fld Z h0 a2559 own_k3 "values" "[D" (.ref a2560)) (H8 : own_Ary Z h0 a2560 .double [(.double (4617315517961601024 : UInt64))]) :
    MetFree l (⟨own_k3, "value", "(I)D"⟩ : MethodName) (head1 (Jvm.Cond.code (⟨own_k3, "value", "(I)D"⟩ : MethodName) prog_40_method_6_code 2 (some .double) :: wds) ({ frames := 0, cells := 0, slots := 0, locals := 0 } : Room)) (fun ar_ U_ => ar_ = #[(.ref a2559), (.int (0 : Int32))] ∧ Z.Warmed39 U_.vm ∧ U_.heap = h0) (fun _ _ _ _ _ => True) (fun _ U_ o_ V_ => ∃ v_ L_, o_ = .returned v_ ∧ own_s58_Q Z a2559 a2560 h0 n0 v_ V_.heap L_ ∧ FrameEnd U_ o_ V_ L_ ({ frames := 0, cells := 0, slots := 0, locals := 0 } : Room).cells ({ frames := 0, cells := 0, slots := 0, locals := 0 } : Room).slots) := by
  refine own_met (y := ⟨own_k3, "value", "(I)D"⟩) (Q := own_s58_Q Z a2559 a2560 h0 n0) own_pn5 ?_
  intro p e s m below meth c s₁ hx hby hml hZ hown hnm hret hlk X0 e0
  have N0 := Fr.nil n0
  refine own_cast (g' := (mkF m 0 #[.val (.ref a2559), .val (.int (0 : Int32))] [])) (by first | (simp [entryFrame, mkF, argsToLocals, Value.category]; done) | rfl) ?_
  refine own_alN (w := (.ref a2559)) X0 hx (hb hby d24_0) rfl rfl ?_
  refine own_getf X0 hx hZ hown (own_w hw 177 rfl) e0 H4 (hb hby d24_1) ?_
  intro T2866 X2866 e2866
  show own_Go _ _ _ _ _ _ _ T2866 (mkF m 4 #[.val (.ref a2559), .val (.int (0 : Int32))] [(.ref a2560)])
  refine own_ilN (w := (0 : Int32)) X2866 hx (hb hby d24_4) rfl ?_
  refine own_daload X2866 hx hZ e2866 H8 (hb hby d24_5) (n := 0) (v := (.double (4617315517961601024 : UInt64))) (by decide) (by decide) rfl ?_
  show own_Go _ _ _ _ _ _ _ T2866 (mkF m 6 #[.val (.ref a2559), .val (.int (0 : Int32))] [(.double (4617315517961601024 : UInt64))])
  exact own_retD X2866 hx hlk hret (hb hby d24_6) e2866 ⟨rfl, N0, rfl⟩ (by decide) (by decide)
def own_s59_Q (Z : State) (a2559 : Addr) (a2560 : Addr) (h0 : Heap) (n0 : Nat) (v_ : Option Value) (h_ : Heap) (L_ : List Loc) : Prop := (fun v h L => v = some (.double (4617315517961601024 : UInt64)) ∧ Fr n0 L ∧ h = h0) v_ h_ L_
set_option maxRecDepth 65536 in
set_option maxHeartbeats 40000000 in
theorem own_s59 (l : Launch) (Z : State) (a0 : Array Value) (hw : ∀ d ∈ tables_1, d.before a0 Z = true) (wds : List Jvm.Cond) (a2559 : Addr) (a2560 : Addr) (h0 : Heap) (n0 : Nat) (Z0 : n0 ≤ h0.size) (H4 : Fld Z h0 a2559 own_k3 "values" "[D" (.ref a2560)) (H8 : own_Ary Z h0 a2560 .double [(.double (4617315517961601024 : UInt64))]) :
    MetFree l (⟨own_k3, "value", "(I)D"⟩ : MethodName) (head1 (Jvm.Cond.code (⟨own_k3, "value", "(I)D"⟩ : MethodName) prog_40_method_6_code 2 (some .double) :: wds) ({ frames := 0, cells := 0, slots := 0, locals := 0 } : Room)) (fun ar_ U_ => ar_ = #[(.ref a2559), (.int (0 : Int32))] ∧ Z.Warmed39 U_.vm ∧ U_.heap = h0) (fun _ _ _ _ _ => True) (fun _ U_ o_ V_ => ∃ v_ L_, o_ = .returned v_ ∧ own_s59_Q Z a2559 a2560 h0 n0 v_ V_.heap L_ ∧ FrameEnd U_ o_ V_ L_ ({ frames := 0, cells := 0, slots := 0, locals := 0 } : Room).cells ({ frames := 0, cells := 0, slots := 0, locals := 0 } : Room).slots) := by
  refine own_met (y := ⟨own_k3, "value", "(I)D"⟩) (Q := own_s59_Q Z a2559 a2560 h0 n0) own_pn5 ?_
  intro p e s m below meth c s₁ hx hby hml hZ hown hnm hret hlk X0 e0
  have N0 := Fr.nil n0
  refine own_cast (g' := (mkF m 0 #[.val (.ref a2559), .val (.int (0 : Int32))] [])) (by first | (simp [entryFrame, mkF, argsToLocals, Value.category]; done) | rfl) ?_
  refine own_alN (w := (.ref a2559)) X0 hx (hb hby d24_0) rfl rfl ?_
  refine own_getf X0 hx hZ hown (own_w hw 177 rfl) e0 H4 (hb hby d24_1) ?_
  intro T2871 X2871 e2871
  show own_Go _ _ _ _ _ _ _ T2871 (mkF m 4 #[.val (.ref a2559), .val (.int (0 : Int32))] [(.ref a2560)])
  refine own_ilN (w := (0 : Int32)) X2871 hx (hb hby d24_4) rfl ?_
  refine own_daload X2871 hx hZ e2871 H8 (hb hby d24_5) (n := 0) (v := (.double (4617315517961601024 : UInt64))) (by decide) (by decide) rfl ?_
  show own_Go _ _ _ _ _ _ _ T2871 (mkF m 6 #[.val (.ref a2559), .val (.int (0 : Int32))] [(.double (4617315517961601024 : UInt64))])
  exact own_retD X2871 hx hlk hret (hb hby d24_6) e2871 ⟨rfl, N0, rfl⟩ (by decide) (by decide)
def own_s60_Q (Z : State) (a2559 : Addr) (a2560 : Addr) (h0 : Heap) (n0 : Nat) (v_ : Option Value) (h_ : Heap) (L_ : List Loc) : Prop := (fun v h L => v = some (.double (4617315517961601024 : UInt64)) ∧ Fr n0 L ∧ h = h0) v_ h_ L_
set_option maxRecDepth 65536 in
set_option maxHeartbeats 40000000 in
theorem own_s60 (l : Launch) (Z : State) (a0 : Array Value) (hw : ∀ d ∈ tables_1, d.before a0 Z = true) (wds : List Jvm.Cond) (a2559 : Addr) (a2560 : Addr) (h0 : Heap) (n0 : Nat) (Z0 : n0 ≤ h0.size) (H4 : Fld Z h0 a2559 own_k3 "values" "[D" (.ref a2560)) (H8 : own_Ary Z h0 a2560 .double [(.double (4617315517961601024 : UInt64))]) :
    MetFree l (⟨own_k3, "value", "(I)D"⟩ : MethodName) (head1 (Jvm.Cond.code (⟨own_k3, "value", "(I)D"⟩ : MethodName) prog_40_method_6_code 2 (some .double) :: wds) ({ frames := 0, cells := 0, slots := 0, locals := 0 } : Room)) (fun ar_ U_ => ar_ = #[(.ref a2559), (.int (0 : Int32))] ∧ Z.Warmed39 U_.vm ∧ U_.heap = h0) (fun _ _ _ _ _ => True) (fun _ U_ o_ V_ => ∃ v_ L_, o_ = .returned v_ ∧ own_s60_Q Z a2559 a2560 h0 n0 v_ V_.heap L_ ∧ FrameEnd U_ o_ V_ L_ ({ frames := 0, cells := 0, slots := 0, locals := 0 } : Room).cells ({ frames := 0, cells := 0, slots := 0, locals := 0 } : Room).slots) := by
  refine own_met (y := ⟨own_k3, "value", "(I)D"⟩) (Q := own_s60_Q Z a2559 a2560 h0 n0) own_pn5 ?_
  intro p e s m below meth c s₁ hx hby hml hZ hown hnm hret hlk X0 e0
  have N0 := Fr.nil n0
  refine own_cast (g' := (mkF m 0 #[.val (.ref a2559), .val (.int (0 : Int32))] [])) (by first | (simp [entryFrame, mkF, argsToLocals, Value.category]; done) | rfl) ?_
  refine own_alN (w := (.ref a2559)) X0 hx (hb hby d24_0) rfl rfl ?_
  refine own_getf X0 hx hZ hown (own_w hw 177 rfl) e0 H4 (hb hby d24_1) ?_
  intro T2885 X2885 e2885
  show own_Go _ _ _ _ _ _ _ T2885 (mkF m 4 #[.val (.ref a2559), .val (.int (0 : Int32))] [(.ref a2560)])
  refine own_ilN (w := (0 : Int32)) X2885 hx (hb hby d24_4) rfl ?_
  refine own_daload X2885 hx hZ e2885 H8 (hb hby d24_5) (n := 0) (v := (.double (4617315517961601024 : UInt64))) (by decide) (by decide) rfl ?_
  show own_Go _ _ _ _ _ _ _ T2885 (mkF m 6 #[.val (.ref a2559), .val (.int (0 : Int32))] [(.double (4617315517961601024 : UInt64))])
  exact own_retD X2885 hx hlk hret (hb hby d24_6) e2885 ⟨rfl, N0, rfl⟩ (by decide) (by decide)
theorem d25_0 : decode prog_40_method_7_code 0 = .ok (.iload_n 1, 1) := by decide +kernel
theorem d25_1 : decode prog_40_method_7_code 1 = .ok (.ifCond .ne 12, 3) := by decide +kernel
theorem d25_4 : decode prog_40_method_7_code 4 = .ok (.aload_n 0, 1) := by decide +kernel
theorem d25_5 : decode prog_40_method_7_code 5 = .ok (.getfield 13, 3) := by decide +kernel
theorem d25_8 : decode prog_40_method_7_code 8 = .ok (.iconst 0, 1) := by decide +kernel
theorem d25_9 : decode prog_40_method_7_code 9 = .ok (.laload, 1) := by decide +kernel
theorem d25_10 : decode prog_40_method_7_code 10 = .ok (.goto 18, 3) := by decide +kernel
theorem d25_28 : decode prog_40_method_7_code 28 = .ok (.lreturn, 1) := by decide +kernel
def own_s61_Q (Z : State) (a2559 : Addr) (a2558 : Addr) (cc : Int64) (h0 : Heap) (n0 : Nat) (v_ : Option Value) (h_ : Heap) (L_ : List Loc) : Prop := (fun v h L => v = some (.long cc) ∧ Fr n0 L ∧ h = h0) v_ h_ L_
set_option maxRecDepth 65536 in
set_option maxHeartbeats 40000000 in
theorem own_s61 (l : Launch) (Z : State) (a0 : Array Value) (hw : ∀ d ∈ tables_1, d.before a0 Z = true) (wds : List Jvm.Cond) (a2559 : Addr) (a2558 : Addr) (cc : Int64) (h0 : Heap) (n0 : Nat) (Z0 : n0 ≤ h0.size) (H5 : Fld Z h0 a2559 own_k3 "ranks" "[J" (.ref a2558)) (H6 : own_Ary Z h0 a2558 .long [(.long cc)]) :
    MetFree l (⟨own_k3, "count", "(I)J"⟩ : MethodName) (head1 (Jvm.Cond.code (⟨own_k3, "count", "(I)J"⟩ : MethodName) prog_40_method_7_code 2 (some .long) :: wds) ({ frames := 0, cells := 0, slots := 0, locals := 0 } : Room)) (fun ar_ U_ => ar_ = #[(.ref a2559), (.int (0 : Int32))] ∧ Z.Warmed39 U_.vm ∧ U_.heap = h0) (fun _ _ _ _ _ => True) (fun _ U_ o_ V_ => ∃ v_ L_, o_ = .returned v_ ∧ own_s61_Q Z a2559 a2558 cc h0 n0 v_ V_.heap L_ ∧ FrameEnd U_ o_ V_ L_ ({ frames := 0, cells := 0, slots := 0, locals := 0 } : Room).cells ({ frames := 0, cells := 0, slots := 0, locals := 0 } : Room).slots) := by
  refine own_met (y := ⟨own_k3, "count", "(I)J"⟩) (Q := own_s61_Q Z a2559 a2558 cc h0 n0) own_pn5 ?_
  intro p e s m below meth c s₁ hx hby hml hZ hown hnm hret hlk X0 e0
  have N0 := Fr.nil n0
  refine own_cast (g' := (mkF m 0 #[.val (.ref a2559), .val (.int (0 : Int32))] [])) (by first | (simp [entryFrame, mkF, argsToLocals, Value.category]; done) | rfl) ?_
  refine own_ilN (w := (0 : Int32)) X0 hx (hb hby d25_0) rfl ?_
  refine own_pre (g' := (mkF m 4 #[.val (.ref a2559), .val (.int (0 : Int32))] [])) (fun t k => XS.ifNo X0.here hx rfl (hb hby d25_1) rfl (by decide) k) ?_
  refine own_alN (w := (.ref a2559)) X0 hx (hb hby d25_4) rfl rfl ?_
  refine own_getf X0 hx hZ hown (own_w hw 179 rfl) e0 H5 (hb hby d25_5) ?_
  intro T2894 X2894 e2894
  show own_Go _ _ _ _ _ _ _ T2894 (mkF m 8 #[.val (.ref a2559), .val (.int (0 : Int32))] [(.ref a2558)])
  refine own_ic X2894 hx (0 : Int32) (hb hby d25_8) rfl ?_
  refine own_laload X2894 hx hZ e2894 H6 (hb hby d25_9) (n := 0) (v := (.long cc)) (by decide) (by decide) rfl ?_
  show own_Go _ _ _ _ _ _ _ T2894 (mkF m 10 #[.val (.ref a2559), .val (.int (0 : Int32))] [(.long cc)])
  refine own_gt X2894 hx 28 (hb hby d25_10) (by decide) (by decide) ?_
  exact own_retL X2894 hx hlk hret (hb hby d25_28) e2894 ⟨rfl, N0, rfl⟩ (by decide) (by decide)
theorem own_pd17 : parseMethodDescriptor "(I)J" = some ⟨[.int], some .long⟩ := by decide +kernel
theorem d26_0 : decode prog_40_method_8_code 0 = .ok (.aload_n 0, 1) := by decide +kernel
theorem d26_1 : decode prog_40_method_8_code 1 = .ok (.getfield 13, 3) := by decide +kernel
theorem d26_4 : decode prog_40_method_8_code 4 = .ok (.iload_n 1, 1) := by decide +kernel
theorem d26_5 : decode prog_40_method_8_code 5 = .ok (.laload, 1) := by decide +kernel
theorem d26_6 : decode prog_40_method_8_code 6 = .ok (.lreturn, 1) := by decide +kernel
def own_s62_Q (Z : State) (a2559 : Addr) (a2558 : Addr) (cc : Int64) (h0 : Heap) (n0 : Nat) (v_ : Option Value) (h_ : Heap) (L_ : List Loc) : Prop := (fun v h L => v = some (.long cc) ∧ Fr n0 L ∧ h = h0) v_ h_ L_
set_option maxRecDepth 65536 in
set_option maxHeartbeats 40000000 in
theorem own_s62 (l : Launch) (Z : State) (a0 : Array Value) (hw : ∀ d ∈ tables_1, d.before a0 Z = true) (wds : List Jvm.Cond) (a2559 : Addr) (a2558 : Addr) (cc : Int64) (h0 : Heap) (n0 : Nat) (Z0 : n0 ≤ h0.size) (H5 : Fld Z h0 a2559 own_k3 "ranks" "[J" (.ref a2558)) (H6 : own_Ary Z h0 a2558 .long [(.long cc)]) :
    MetFree l (⟨own_k3, "rank", "(I)J"⟩ : MethodName) (head1 (Jvm.Cond.code (⟨own_k3, "rank", "(I)J"⟩ : MethodName) prog_40_method_8_code 2 (some .long) :: wds) ({ frames := 0, cells := 0, slots := 0, locals := 0 } : Room)) (fun ar_ U_ => ar_ = #[(.ref a2559), (.int (0 : Int32))] ∧ Z.Warmed39 U_.vm ∧ U_.heap = h0) (fun _ _ _ _ _ => True) (fun _ U_ o_ V_ => ∃ v_ L_, o_ = .returned v_ ∧ own_s62_Q Z a2559 a2558 cc h0 n0 v_ V_.heap L_ ∧ FrameEnd U_ o_ V_ L_ ({ frames := 0, cells := 0, slots := 0, locals := 0 } : Room).cells ({ frames := 0, cells := 0, slots := 0, locals := 0 } : Room).slots) := by
  refine own_met (y := ⟨own_k3, "rank", "(I)J"⟩) (Q := own_s62_Q Z a2559 a2558 cc h0 n0) own_pn5 ?_
  intro p e s m below meth c s₁ hx hby hml hZ hown hnm hret hlk X0 e0
  have N0 := Fr.nil n0
  refine own_cast (g' := (mkF m 0 #[.val (.ref a2559), .val (.int (0 : Int32))] [])) (by first | (simp [entryFrame, mkF, argsToLocals, Value.category]; done) | rfl) ?_
  refine own_alN (w := (.ref a2559)) X0 hx (hb hby d26_0) rfl rfl ?_
  refine own_getf X0 hx hZ hown (own_w hw 179 rfl) e0 H5 (hb hby d26_1) ?_
  intro T2911 X2911 e2911
  show own_Go _ _ _ _ _ _ _ T2911 (mkF m 4 #[.val (.ref a2559), .val (.int (0 : Int32))] [(.ref a2558)])
  refine own_ilN (w := (0 : Int32)) X2911 hx (hb hby d26_4) rfl ?_
  refine own_laload X2911 hx hZ e2911 H6 (hb hby d26_5) (n := 0) (v := (.long cc)) (by decide) (by decide) rfl ?_
  show own_Go _ _ _ _ _ _ _ T2911 (mkF m 6 #[.val (.ref a2559), .val (.int (0 : Int32))] [(.long cc)])
  exact own_retL X2911 hx hlk hret (hb hby d26_6) e2911 ⟨rfl, N0, rfl⟩ (by decide) (by decide)
def own_s63_Q (Z : State) (a2559 : Addr) (a2558 : Addr) (cc : Int64) (h0 : Heap) (n0 : Nat) (v_ : Option Value) (h_ : Heap) (L_ : List Loc) : Prop := (fun v h L => v = some (.long cc) ∧ Fr n0 L ∧ h = h0) v_ h_ L_
set_option maxRecDepth 65536 in
set_option maxHeartbeats 40000000 in
theorem own_s63 (l : Launch) (Z : State) (a0 : Array Value) (hw : ∀ d ∈ tables_1, d.before a0 Z = true) (wds : List Jvm.Cond) (a2559 : Addr) (a2558 : Addr) (cc : Int64) (h0 : Heap) (n0 : Nat) (Z0 : n0 ≤ h0.size) (H5 : Fld Z h0 a2559 own_k3 "ranks" "[J" (.ref a2558)) (H6 : own_Ary Z h0 a2558 .long [(.long cc)]) :
    MetFree l (⟨own_k3, "rank", "(I)J"⟩ : MethodName) (head1 (Jvm.Cond.code (⟨own_k3, "rank", "(I)J"⟩ : MethodName) prog_40_method_8_code 2 (some .long) :: wds) ({ frames := 0, cells := 0, slots := 0, locals := 0 } : Room)) (fun ar_ U_ => ar_ = #[(.ref a2559), (.int (0 : Int32))] ∧ Z.Warmed39 U_.vm ∧ U_.heap = h0) (fun _ _ _ _ _ => True) (fun _ U_ o_ V_ => ∃ v_ L_, o_ = .returned v_ ∧ own_s63_Q Z a2559 a2558 cc h0 n0 v_ V_.heap L_ ∧ FrameEnd U_ o_ V_ L_ ({ frames := 0, cells := 0, slots := 0, locals := 0 } : Room).cells ({ frames := 0, cells := 0, slots := 0, locals := 0 } : Room).slots) := by
  refine own_met (y := ⟨own_k3, "rank", "(I)J"⟩) (Q := own_s63_Q Z a2559 a2558 cc h0 n0) own_pn5 ?_
  intro p e s m below meth c s₁ hx hby hml hZ hown hnm hret hlk X0 e0
  have N0 := Fr.nil n0
  refine own_cast (g' := (mkF m 0 #[.val (.ref a2559), .val (.int (0 : Int32))] [])) (by first | (simp [entryFrame, mkF, argsToLocals, Value.category]; done) | rfl) ?_
  refine own_alN (w := (.ref a2559)) X0 hx (hb hby d26_0) rfl rfl ?_
  refine own_getf X0 hx hZ hown (own_w hw 179 rfl) e0 H5 (hb hby d26_1) ?_
  intro T2934 X2934 e2934
  show own_Go _ _ _ _ _ _ _ T2934 (mkF m 4 #[.val (.ref a2559), .val (.int (0 : Int32))] [(.ref a2558)])
  refine own_ilN (w := (0 : Int32)) X2934 hx (hb hby d26_4) rfl ?_
  refine own_laload X2934 hx hZ e2934 H6 (hb hby d26_5) (n := 0) (v := (.long cc)) (by decide) (by decide) rfl ?_
  show own_Go _ _ _ _ _ _ _ T2934 (mkF m 6 #[.val (.ref a2559), .val (.int (0 : Int32))] [(.long cc)])
  exact own_retL X2934 hx hlk hret (hb hby d26_6) e2934 ⟨rfl, N0, rfl⟩ (by decide) (by decide)
def own_s64_Q (Z : State) (a2559 : Addr) (a2558 : Addr) (cc : Int64) (h0 : Heap) (n0 : Nat) (v_ : Option Value) (h_ : Heap) (L_ : List Loc) : Prop := (fun v h L => v = some (.long cc) ∧ Fr n0 L ∧ h = h0) v_ h_ L_
set_option maxRecDepth 65536 in
set_option maxHeartbeats 40000000 in
theorem own_s64 (l : Launch) (Z : State) (a0 : Array Value) (hw : ∀ d ∈ tables_1, d.before a0 Z = true) (wds : List Jvm.Cond) (a2559 : Addr) (a2558 : Addr) (cc : Int64) (h0 : Heap) (n0 : Nat) (Z0 : n0 ≤ h0.size) (H5 : Fld Z h0 a2559 own_k3 "ranks" "[J" (.ref a2558)) (H6 : own_Ary Z h0 a2558 .long [(.long cc)]) :
    MetFree l (⟨own_k3, "rank", "(I)J"⟩ : MethodName) (head1 (Jvm.Cond.code (⟨own_k3, "rank", "(I)J"⟩ : MethodName) prog_40_method_8_code 2 (some .long) :: wds) ({ frames := 0, cells := 0, slots := 0, locals := 0 } : Room)) (fun ar_ U_ => ar_ = #[(.ref a2559), (.int (0 : Int32))] ∧ Z.Warmed39 U_.vm ∧ U_.heap = h0) (fun _ _ _ _ _ => True) (fun _ U_ o_ V_ => ∃ v_ L_, o_ = .returned v_ ∧ own_s64_Q Z a2559 a2558 cc h0 n0 v_ V_.heap L_ ∧ FrameEnd U_ o_ V_ L_ ({ frames := 0, cells := 0, slots := 0, locals := 0 } : Room).cells ({ frames := 0, cells := 0, slots := 0, locals := 0 } : Room).slots) := by
  refine own_met (y := ⟨own_k3, "rank", "(I)J"⟩) (Q := own_s64_Q Z a2559 a2558 cc h0 n0) own_pn5 ?_
  intro p e s m below meth c s₁ hx hby hml hZ hown hnm hret hlk X0 e0
  have N0 := Fr.nil n0
  refine own_cast (g' := (mkF m 0 #[.val (.ref a2559), .val (.int (0 : Int32))] [])) (by first | (simp [entryFrame, mkF, argsToLocals, Value.category]; done) | rfl) ?_
  refine own_alN (w := (.ref a2559)) X0 hx (hb hby d26_0) rfl rfl ?_
  refine own_getf X0 hx hZ hown (own_w hw 179 rfl) e0 H5 (hb hby d26_1) ?_
  intro T2957 X2957 e2957
  show own_Go _ _ _ _ _ _ _ T2957 (mkF m 4 #[.val (.ref a2559), .val (.int (0 : Int32))] [(.ref a2558)])
  refine own_ilN (w := (0 : Int32)) X2957 hx (hb hby d26_4) rfl ?_
  refine own_laload X2957 hx hZ e2957 H6 (hb hby d26_5) (n := 0) (v := (.long cc)) (by decide) (by decide) rfl ?_
  show own_Go _ _ _ _ _ _ _ T2957 (mkF m 6 #[.val (.ref a2559), .val (.int (0 : Int32))] [(.long cc)])
  exact own_retL X2957 hx hlk hret (hb hby d26_6) e2957 ⟨rfl, N0, rfl⟩ (by decide) (by decide)
def own_s65_Q (Z : State) (a2559 : Addr) (a2558 : Addr) (cc : Int64) (h0 : Heap) (n0 : Nat) (v_ : Option Value) (h_ : Heap) (L_ : List Loc) : Prop := (fun v h L => v = some (.long cc) ∧ Fr n0 L ∧ h = h0) v_ h_ L_
set_option maxRecDepth 65536 in
set_option maxHeartbeats 40000000 in
theorem own_s65 (l : Launch) (Z : State) (a0 : Array Value) (hw : ∀ d ∈ tables_1, d.before a0 Z = true) (wds : List Jvm.Cond) (a2559 : Addr) (a2558 : Addr) (cc : Int64) (h0 : Heap) (n0 : Nat) (Z0 : n0 ≤ h0.size) (H5 : Fld Z h0 a2559 own_k3 "ranks" "[J" (.ref a2558)) (H6 : own_Ary Z h0 a2558 .long [(.long cc)]) :
    MetFree l (⟨own_k3, "rank", "(I)J"⟩ : MethodName) (head1 (Jvm.Cond.code (⟨own_k3, "rank", "(I)J"⟩ : MethodName) prog_40_method_8_code 2 (some .long) :: wds) ({ frames := 0, cells := 0, slots := 0, locals := 0 } : Room)) (fun ar_ U_ => ar_ = #[(.ref a2559), (.int (0 : Int32))] ∧ Z.Warmed39 U_.vm ∧ U_.heap = h0) (fun _ _ _ _ _ => True) (fun _ U_ o_ V_ => ∃ v_ L_, o_ = .returned v_ ∧ own_s65_Q Z a2559 a2558 cc h0 n0 v_ V_.heap L_ ∧ FrameEnd U_ o_ V_ L_ ({ frames := 0, cells := 0, slots := 0, locals := 0 } : Room).cells ({ frames := 0, cells := 0, slots := 0, locals := 0 } : Room).slots) := by
  refine own_met (y := ⟨own_k3, "rank", "(I)J"⟩) (Q := own_s65_Q Z a2559 a2558 cc h0 n0) own_pn5 ?_
  intro p e s m below meth c s₁ hx hby hml hZ hown hnm hret hlk X0 e0
  have N0 := Fr.nil n0
  refine own_cast (g' := (mkF m 0 #[.val (.ref a2559), .val (.int (0 : Int32))] [])) (by first | (simp [entryFrame, mkF, argsToLocals, Value.category]; done) | rfl) ?_
  refine own_alN (w := (.ref a2559)) X0 hx (hb hby d26_0) rfl rfl ?_
  refine own_getf X0 hx hZ hown (own_w hw 179 rfl) e0 H5 (hb hby d26_1) ?_
  intro T2980 X2980 e2980
  show own_Go _ _ _ _ _ _ _ T2980 (mkF m 4 #[.val (.ref a2559), .val (.int (0 : Int32))] [(.ref a2558)])
  refine own_ilN (w := (0 : Int32)) X2980 hx (hb hby d26_4) rfl ?_
  refine own_laload X2980 hx hZ e2980 H6 (hb hby d26_5) (n := 0) (v := (.long cc)) (by decide) (by decide) rfl ?_
  show own_Go _ _ _ _ _ _ _ T2980 (mkF m 6 #[.val (.ref a2559), .val (.int (0 : Int32))] [(.long cc)])
  exact own_retL X2980 hx hlk hret (hb hby d26_6) e2980 ⟨rfl, N0, rfl⟩ (by decide) (by decide)
theorem d27_0 : decode prog_5_method_17_code 0 = .ok (.aload_n 0, 1) := by decide +kernel
theorem d27_1 : decode prog_5_method_17_code 1 = .ok (.getfield 44, 3) := by decide +kernel
theorem d27_4 : decode prog_5_method_17_code 4 = .ok (.istore_n 1, 1) := by decide +kernel
theorem d27_5 : decode prog_5_method_17_code 5 = .ok (.iload_n 1, 1) := by decide +kernel
theorem d27_6 : decode prog_5_method_17_code 6 = .ok (.aload_n 0, 1) := by decide +kernel
theorem d27_7 : decode prog_5_method_17_code 7 = .ok (.getfield 40, 3) := by decide +kernel
theorem d27_10 : decode prog_5_method_17_code 10 = .ok (.if_icmp .eq 57, 3) := by decide +kernel
theorem d27_13 : decode prog_5_method_17_code 13 = .ok (.aload_n 0, 1) := by decide +kernel
theorem d27_14 : decode prog_5_method_17_code 14 = .ok (.getfield 37, 3) := by decide +kernel
theorem d27_17 : decode prog_5_method_17_code 17 = .ok (.iload_n 1, 1) := by decide +kernel
theorem d27_18 : decode prog_5_method_17_code 18 = .ok (.iaload, 1) := by decide +kernel
theorem d27_19 : decode prog_5_method_17_code 19 = .ok (.istore_n 2, 1) := by decide +kernel
theorem d27_20 : decode prog_5_method_17_code 20 = .ok (.aload_n 0, 1) := by decide +kernel
theorem d27_21 : decode prog_5_method_17_code 21 = .ok (.getfield 13, 3) := by decide +kernel
theorem d27_24 : decode prog_5_method_17_code 24 = .ok (.iload_n 1, 1) := by decide +kernel
theorem d27_25 : decode prog_5_method_17_code 25 = .ok (.daload, 1) := by decide +kernel
theorem d27_26 : decode prog_5_method_17_code 26 = .ok (.aload_n 0, 1) := by decide +kernel
theorem d27_27 : decode prog_5_method_17_code 27 = .ok (.getfield 13, 3) := by decide +kernel
theorem d27_30 : decode prog_5_method_17_code 30 = .ok (.iload_n 2, 1) := by decide +kernel
theorem d27_31 : decode prog_5_method_17_code 31 = .ok (.daload, 1) := by decide +kernel
theorem d27_32 : decode prog_5_method_17_code 32 = .ok (.dcmp .g, 1) := by decide +kernel
theorem d27_33 : decode prog_5_method_17_code 33 = .ok (.ifCond .le 8, 3) := by decide +kernel
theorem d27_36 : decode prog_5_method_17_code 36 = .ok (.iload_n 2, 1) := by decide +kernel
theorem d27_37 : decode prog_5_method_17_code 37 = .ok (.istore_n 1, 1) := by decide +kernel
theorem d27_38 : decode prog_5_method_17_code 38 = .ok (.goto 26, 3) := by decide +kernel
theorem d27_64 : decode prog_5_method_17_code 64 = .ok (.goto (-59), 3) := by decide +kernel
theorem d27_67 : decode prog_5_method_17_code 67 = .ok (.return_, 1) := by decide +kernel
def own_s66_Q (Z : State) (a33 : Addr) (a274 : Addr) (a268 : Addr) (f2938 : UInt64) (f2984 : UInt64) (f2961 : UInt64) (f2915 : UInt64) (v2 : Int32) (v4 : Int32) (v6 : Int32) (v8 : Int32) (v10 : Int32) (cc : Int64) (h0 : Heap) (n0 : Nat) (v_ : Option Value) (h_ : Heap) (L_ : List Loc) : Prop := (fun v h L => v = none ∧ Fr n0 L ∧ h = h0) v_ h_ L_
set_option maxRecDepth 65536 in
set_option maxHeartbeats 40000000 in
theorem own_s66 (l : Launch) (Z : State) (a0 : Array Value) (hw : ∀ d ∈ tables_1, d.before a0 Z = true) (wds : List Jvm.Cond) (a33 : Addr) (a274 : Addr) (a268 : Addr) (f2938 : UInt64) (f2984 : UInt64) (f2961 : UInt64) (f2915 : UInt64) (v2 : Int32) (v4 : Int32) (v6 : Int32) (v8 : Int32) (v10 : Int32) (cc : Int64) (h0 : Heap) (n0 : Nat) (Z0 : n0 ≤ h0.size) (H36 : own_Ary Z h0 a268 .double ([(.double f2938), (.double f2984), (.double f2961), (.double f2915)] ++ own_rD 12)) (H38 : own_Ary Z h0 a274 .int ([(.int (3 : Int32)), (.int (2 : Int32)), (.int (0 : Int32)), (.int (-1 : Int32))] ++ own_rI 12)) (H43 : Fld Z h0 a33 own_k0 "ranks" "[D" (.ref a268)) (H49 : Fld Z h0 a33 own_k0 "previousOf" "[I" (.ref a274)) (H50 : Fld Z h0 a33 own_k0 "first" "I" (.int (3 : Int32))) (H51 : Fld Z h0 a33 own_k0 "last" "I" (.int (1 : Int32))) (H149 : FP.Core.DInt (v2.toInt + v10.toInt) f2938) (H150 : FP.Core.DInt (v8.toInt + v10.toInt) f2984) (H151 : FP.Core.DInt (v6.toInt + v10.toInt) f2961) (H152 : FP.Core.DInt (0 + v10.toInt) f2915) (H153 : 1 ≤ v2.toInt ∧ v2.toInt ≤ v4.toInt ∧ v4.toInt < v6.toInt ∧ v6.toInt < v8.toInt ∧ v8.toInt ≤ 8388608 ∧ 1 ≤ v10.toInt ∧ v10.toInt ≤ 8388608) (H154 : cc.toInt = v10.toInt) :
    MetFree l (⟨own_k0, "removeEmpty", "()V"⟩ : MethodName) (head1 (Jvm.Cond.code (⟨own_k0, "removeEmpty", "()V"⟩ : MethodName) prog_5_method_17_code 3 none :: wds) ({ frames := 0, cells := 0, slots := 0, locals := 0 } : Room)) (fun ar_ U_ => ar_ = #[(.ref a33)] ∧ Z.Warmed39 U_.vm ∧ U_.heap = h0) (fun _ _ _ _ _ => True) (fun _ U_ o_ V_ => ∃ v_ L_, o_ = .returned v_ ∧ own_s66_Q Z a33 a274 a268 f2938 f2984 f2961 f2915 v2 v4 v6 v8 v10 cc h0 n0 v_ V_.heap L_ ∧ FrameEnd U_ o_ V_ L_ ({ frames := 0, cells := 0, slots := 0, locals := 0 } : Room).cells ({ frames := 0, cells := 0, slots := 0, locals := 0 } : Room).slots) := by
  refine own_met (y := ⟨own_k0, "removeEmpty", "()V"⟩) (Q := own_s66_Q Z a33 a274 a268 f2938 f2984 f2961 f2915 v2 v4 v6 v8 v10 cc h0 n0) own_pn1 ?_
  intro p e s m below meth c s₁ hx hby hml hZ hown hnm hret hlk X0 e0
  have N0 := Fr.nil n0
  refine own_cast (g' := (mkF m 0 #[.val (.ref a33), .unset, .unset] [])) (by first | (simp [entryFrame, mkF, argsToLocals, Value.category]; done) | rfl) ?_
  refine own_alN (w := (.ref a33)) X0 hx (hb hby d27_0) rfl rfl ?_
  refine own_getf X0 hx hZ hown (own_w hw 35 rfl) e0 H51 (hb hby d27_1) ?_
  intro T3043 X3043 e3043
  show own_Go _ _ _ _ _ _ _ T3043 (mkF m 4 #[.val (.ref a33), .unset, .unset] [(.int (1 : Int32))])
  refine own_pre (g' := (mkF m 5 #[.val (.ref a33), .val (.int (1 : Int32)), .unset] [])) (fun t k => XS.istoreN X3043.here hx rfl (hb hby d27_4) rfl (l' := #[.val (.ref a33), .val (.int (1 : Int32)), .unset]) rfl k) ?_
  refine own_ilN (w := (1 : Int32)) X3043 hx (hb hby d27_5) rfl ?_
  refine own_alN (w := (.ref a33)) X3043 hx (hb hby d27_6) rfl rfl ?_
  refine own_getf X3043 hx hZ hown (own_w hw 33 rfl) e3043 H50 (hb hby d27_7) ?_
  intro T3044 X3044 e3044
  show own_Go _ _ _ _ _ _ _ T3044 (mkF m 10 #[.val (.ref a33), .val (.int (1 : Int32)), .unset] [(.int (3 : Int32)), (.int (1 : Int32))])
  refine own_pre (g' := (mkF m 13 #[.val (.ref a33), .val (.int (1 : Int32)), .unset] [])) (fun t k => XS.icmpNo X3044.here hx rfl (hb hby d27_10) rfl (by decide) k) ?_
  refine own_alN (w := (.ref a33)) X3044 hx (hb hby d27_13) rfl rfl ?_
  refine own_getf X3044 hx hZ hown (own_w hw 31 rfl) e3044 H49 (hb hby d27_14) ?_
  intro T3045 X3045 e3045
  show own_Go _ _ _ _ _ _ _ T3045 (mkF m 17 #[.val (.ref a33), .val (.int (1 : Int32)), .unset] [(.ref a274)])
  refine own_ilN (w := (1 : Int32)) X3045 hx (hb hby d27_17) rfl ?_
  refine own_iaload X3045 hx hZ e3045 H38 (hb hby d27_18) (n := 1) (v := (.int (2 : Int32))) (by decide) (by decide) rfl ?_
  show own_Go _ _ _ _ _ _ _ T3045 (mkF m 19 #[.val (.ref a33), .val (.int (1 : Int32)), .unset] [(.int (2 : Int32))])
  refine own_pre (g' := (mkF m 20 #[.val (.ref a33), .val (.int (1 : Int32)), .val (.int (2 : Int32))] [])) (fun t k => XS.istoreN X3045.here hx rfl (hb hby d27_19) rfl (l' := #[.val (.ref a33), .val (.int (1 : Int32)), .val (.int (2 : Int32))]) rfl k) ?_
  refine own_alN (w := (.ref a33)) X3045 hx (hb hby d27_20) rfl rfl ?_
  refine own_getf X3045 hx hZ hown (own_w hw 15 rfl) e3045 H43 (hb hby d27_21) ?_
  intro T3046 X3046 e3046
  show own_Go _ _ _ _ _ _ _ T3046 (mkF m 24 #[.val (.ref a33), .val (.int (1 : Int32)), .val (.int (2 : Int32))] [(.ref a268)])
  refine own_ilN (w := (1 : Int32)) X3046 hx (hb hby d27_24) rfl ?_
  refine own_daload X3046 hx hZ e3046 H36 (hb hby d27_25) (n := 1) (v := (.double f2984)) (by decide) (by decide) rfl ?_
  show own_Go _ _ _ _ _ _ _ T3046 (mkF m 26 #[.val (.ref a33), .val (.int (1 : Int32)), .val (.int (2 : Int32))] [(.double f2984)])
  refine own_alN (w := (.ref a33)) X3046 hx (hb hby d27_26) rfl rfl ?_
  refine own_getf X3046 hx hZ hown (own_w hw 15 rfl) e3046 H43 (hb hby d27_27) ?_
  intro T3047 X3047 e3047
  show own_Go _ _ _ _ _ _ _ T3047 (mkF m 30 #[.val (.ref a33), .val (.int (1 : Int32)), .val (.int (2 : Int32))] [(.ref a268), (.double f2984)])
  refine own_ilN (w := (2 : Int32)) X3047 hx (hb hby d27_30) rfl ?_
  refine own_daload X3047 hx hZ e3047 H36 (hb hby d27_31) (n := 2) (v := (.double f2961)) (by decide) (by decide) rfl ?_
  show own_Go _ _ _ _ _ _ _ T3047 (mkF m 32 #[.val (.ref a33), .val (.int (1 : Int32)), .val (.int (2 : Int32))] [(.double f2961), (.double f2984)])
  obtain ⟨k3048, hk3048⟩ : ∃ z, own_c (v8.toInt + v10.toInt) (v6.toInt + v10.toInt) = z := ⟨_, rfl⟩
  refine own_pre (g' := (mkF m 33 #[.val (.ref a33), .val (.int (1 : Int32)), .val (.int (2 : Int32))] [(.int k3048)])) (fun t k => XS.dcmpS X3047.here hx rfl (hb hby d27_32) rfl ((own_dcmp H150 H151 _).trans hk3048) k) ?_
  have hc3049 : (0 : Int32) < k3048 := by rw [← hk3048, own_c_gt]; have := H153; have := H154; have := rng32 v8; have := rng32 v10; have := rng32 v6; omega
  refine own_pre (g' := (mkF m 36 #[.val (.ref a33), .val (.int (1 : Int32)), .val (.int (2 : Int32))] [])) (fun t k => XS.ifNo X3047.here hx rfl (hb hby d27_33) rfl ((if0 _ _).trans (tlt hc3049).2.2.2) k) ?_
  refine own_ilN (w := (2 : Int32)) X3047 hx (hb hby d27_36) rfl ?_
  refine own_pre (g' := (mkF m 38 #[.val (.ref a33), .val (.int (2 : Int32)), .val (.int (2 : Int32))] [])) (fun t k => XS.istoreN X3047.here hx rfl (hb hby d27_37) rfl (l' := #[.val (.ref a33), .val (.int (2 : Int32)), .val (.int (2 : Int32))]) rfl k) ?_
  refine own_gt X3047 hx 64 (hb hby d27_38) (by decide) (by decide) ?_
  refine own_gt X3047 hx 5 (hb hby d27_64) (by decide) (by decide) ?_
  refine own_ilN (w := (2 : Int32)) X3047 hx (hb hby d27_5) rfl ?_
  refine own_alN (w := (.ref a33)) X3047 hx (hb hby d27_6) rfl rfl ?_
  refine own_getf X3047 hx hZ hown (own_w hw 33 rfl) e3047 H50 (hb hby d27_7) ?_
  intro T3050 X3050 e3050
  show own_Go _ _ _ _ _ _ _ T3050 (mkF m 10 #[.val (.ref a33), .val (.int (2 : Int32)), .val (.int (2 : Int32))] [(.int (3 : Int32)), (.int (2 : Int32))])
  refine own_pre (g' := (mkF m 13 #[.val (.ref a33), .val (.int (2 : Int32)), .val (.int (2 : Int32))] [])) (fun t k => XS.icmpNo X3050.here hx rfl (hb hby d27_10) rfl (by decide) k) ?_
  refine own_alN (w := (.ref a33)) X3050 hx (hb hby d27_13) rfl rfl ?_
  refine own_getf X3050 hx hZ hown (own_w hw 31 rfl) e3050 H49 (hb hby d27_14) ?_
  intro T3051 X3051 e3051
  show own_Go _ _ _ _ _ _ _ T3051 (mkF m 17 #[.val (.ref a33), .val (.int (2 : Int32)), .val (.int (2 : Int32))] [(.ref a274)])
  refine own_ilN (w := (2 : Int32)) X3051 hx (hb hby d27_17) rfl ?_
  refine own_iaload X3051 hx hZ e3051 H38 (hb hby d27_18) (n := 2) (v := (.int (0 : Int32))) (by decide) (by decide) rfl ?_
  show own_Go _ _ _ _ _ _ _ T3051 (mkF m 19 #[.val (.ref a33), .val (.int (2 : Int32)), .val (.int (2 : Int32))] [(.int (0 : Int32))])
  refine own_pre (g' := (mkF m 20 #[.val (.ref a33), .val (.int (2 : Int32)), .val (.int (0 : Int32))] [])) (fun t k => XS.istoreN X3051.here hx rfl (hb hby d27_19) rfl (l' := #[.val (.ref a33), .val (.int (2 : Int32)), .val (.int (0 : Int32))]) rfl k) ?_
  refine own_alN (w := (.ref a33)) X3051 hx (hb hby d27_20) rfl rfl ?_
  refine own_getf X3051 hx hZ hown (own_w hw 15 rfl) e3051 H43 (hb hby d27_21) ?_
  intro T3052 X3052 e3052
  show own_Go _ _ _ _ _ _ _ T3052 (mkF m 24 #[.val (.ref a33), .val (.int (2 : Int32)), .val (.int (0 : Int32))] [(.ref a268)])
  refine own_ilN (w := (2 : Int32)) X3052 hx (hb hby d27_24) rfl ?_
  refine own_daload X3052 hx hZ e3052 H36 (hb hby d27_25) (n := 2) (v := (.double f2961)) (by decide) (by decide) rfl ?_
  show own_Go _ _ _ _ _ _ _ T3052 (mkF m 26 #[.val (.ref a33), .val (.int (2 : Int32)), .val (.int (0 : Int32))] [(.double f2961)])
  refine own_alN (w := (.ref a33)) X3052 hx (hb hby d27_26) rfl rfl ?_
  refine own_getf X3052 hx hZ hown (own_w hw 15 rfl) e3052 H43 (hb hby d27_27) ?_
  intro T3053 X3053 e3053
  show own_Go _ _ _ _ _ _ _ T3053 (mkF m 30 #[.val (.ref a33), .val (.int (2 : Int32)), .val (.int (0 : Int32))] [(.ref a268), (.double f2961)])
  refine own_ilN (w := (0 : Int32)) X3053 hx (hb hby d27_30) rfl ?_
  refine own_daload X3053 hx hZ e3053 H36 (hb hby d27_31) (n := 0) (v := (.double f2938)) (by decide) (by decide) rfl ?_
  show own_Go _ _ _ _ _ _ _ T3053 (mkF m 32 #[.val (.ref a33), .val (.int (2 : Int32)), .val (.int (0 : Int32))] [(.double f2938), (.double f2961)])
  obtain ⟨k3054, hk3054⟩ : ∃ z, own_c (v6.toInt + v10.toInt) (v2.toInt + v10.toInt) = z := ⟨_, rfl⟩
  refine own_pre (g' := (mkF m 33 #[.val (.ref a33), .val (.int (2 : Int32)), .val (.int (0 : Int32))] [(.int k3054)])) (fun t k => XS.dcmpS X3053.here hx rfl (hb hby d27_32) rfl ((own_dcmp H151 H149 _).trans hk3054) k) ?_
  have hc3055 : (0 : Int32) < k3054 := by rw [← hk3054, own_c_gt]; have := H153; have := H154; have := rng32 v6; have := rng32 v10; have := rng32 v2; omega
  refine own_pre (g' := (mkF m 36 #[.val (.ref a33), .val (.int (2 : Int32)), .val (.int (0 : Int32))] [])) (fun t k => XS.ifNo X3053.here hx rfl (hb hby d27_33) rfl ((if0 _ _).trans (tlt hc3055).2.2.2) k) ?_
  refine own_ilN (w := (0 : Int32)) X3053 hx (hb hby d27_36) rfl ?_
  refine own_pre (g' := (mkF m 38 #[.val (.ref a33), .val (.int (0 : Int32)), .val (.int (0 : Int32))] [])) (fun t k => XS.istoreN X3053.here hx rfl (hb hby d27_37) rfl (l' := #[.val (.ref a33), .val (.int (0 : Int32)), .val (.int (0 : Int32))]) rfl k) ?_
  refine own_gt X3053 hx 64 (hb hby d27_38) (by decide) (by decide) ?_
  refine own_gt X3053 hx 5 (hb hby d27_64) (by decide) (by decide) ?_
  refine own_ilN (w := (0 : Int32)) X3053 hx (hb hby d27_5) rfl ?_
  refine own_alN (w := (.ref a33)) X3053 hx (hb hby d27_6) rfl rfl ?_
  refine own_getf X3053 hx hZ hown (own_w hw 33 rfl) e3053 H50 (hb hby d27_7) ?_
  intro T3056 X3056 e3056
  show own_Go _ _ _ _ _ _ _ T3056 (mkF m 10 #[.val (.ref a33), .val (.int (0 : Int32)), .val (.int (0 : Int32))] [(.int (3 : Int32)), (.int (0 : Int32))])
  refine own_pre (g' := (mkF m 13 #[.val (.ref a33), .val (.int (0 : Int32)), .val (.int (0 : Int32))] [])) (fun t k => XS.icmpNo X3056.here hx rfl (hb hby d27_10) rfl (by decide) k) ?_
  refine own_alN (w := (.ref a33)) X3056 hx (hb hby d27_13) rfl rfl ?_
  refine own_getf X3056 hx hZ hown (own_w hw 31 rfl) e3056 H49 (hb hby d27_14) ?_
  intro T3057 X3057 e3057
  show own_Go _ _ _ _ _ _ _ T3057 (mkF m 17 #[.val (.ref a33), .val (.int (0 : Int32)), .val (.int (0 : Int32))] [(.ref a274)])
  refine own_ilN (w := (0 : Int32)) X3057 hx (hb hby d27_17) rfl ?_
  refine own_iaload X3057 hx hZ e3057 H38 (hb hby d27_18) (n := 0) (v := (.int (3 : Int32))) (by decide) (by decide) rfl ?_
  show own_Go _ _ _ _ _ _ _ T3057 (mkF m 19 #[.val (.ref a33), .val (.int (0 : Int32)), .val (.int (0 : Int32))] [(.int (3 : Int32))])
  refine own_pre (g' := (mkF m 20 #[.val (.ref a33), .val (.int (0 : Int32)), .val (.int (3 : Int32))] [])) (fun t k => XS.istoreN X3057.here hx rfl (hb hby d27_19) rfl (l' := #[.val (.ref a33), .val (.int (0 : Int32)), .val (.int (3 : Int32))]) rfl k) ?_
  refine own_alN (w := (.ref a33)) X3057 hx (hb hby d27_20) rfl rfl ?_
  refine own_getf X3057 hx hZ hown (own_w hw 15 rfl) e3057 H43 (hb hby d27_21) ?_
  intro T3058 X3058 e3058
  show own_Go _ _ _ _ _ _ _ T3058 (mkF m 24 #[.val (.ref a33), .val (.int (0 : Int32)), .val (.int (3 : Int32))] [(.ref a268)])
  refine own_ilN (w := (0 : Int32)) X3058 hx (hb hby d27_24) rfl ?_
  refine own_daload X3058 hx hZ e3058 H36 (hb hby d27_25) (n := 0) (v := (.double f2938)) (by decide) (by decide) rfl ?_
  show own_Go _ _ _ _ _ _ _ T3058 (mkF m 26 #[.val (.ref a33), .val (.int (0 : Int32)), .val (.int (3 : Int32))] [(.double f2938)])
  refine own_alN (w := (.ref a33)) X3058 hx (hb hby d27_26) rfl rfl ?_
  refine own_getf X3058 hx hZ hown (own_w hw 15 rfl) e3058 H43 (hb hby d27_27) ?_
  intro T3059 X3059 e3059
  show own_Go _ _ _ _ _ _ _ T3059 (mkF m 30 #[.val (.ref a33), .val (.int (0 : Int32)), .val (.int (3 : Int32))] [(.ref a268), (.double f2938)])
  refine own_ilN (w := (3 : Int32)) X3059 hx (hb hby d27_30) rfl ?_
  refine own_daload X3059 hx hZ e3059 H36 (hb hby d27_31) (n := 3) (v := (.double f2915)) (by decide) (by decide) rfl ?_
  show own_Go _ _ _ _ _ _ _ T3059 (mkF m 32 #[.val (.ref a33), .val (.int (0 : Int32)), .val (.int (3 : Int32))] [(.double f2915), (.double f2938)])
  obtain ⟨k3060, hk3060⟩ : ∃ z, own_c (v2.toInt + v10.toInt) (0 + v10.toInt) = z := ⟨_, rfl⟩
  refine own_pre (g' := (mkF m 33 #[.val (.ref a33), .val (.int (0 : Int32)), .val (.int (3 : Int32))] [(.int k3060)])) (fun t k => XS.dcmpS X3059.here hx rfl (hb hby d27_32) rfl ((own_dcmp H149 H152 _).trans hk3060) k) ?_
  have hc3061 : (0 : Int32) < k3060 := by rw [← hk3060, own_c_gt]; have := H153; have := H154; have := rng32 v2; have := rng32 v10; omega
  refine own_pre (g' := (mkF m 36 #[.val (.ref a33), .val (.int (0 : Int32)), .val (.int (3 : Int32))] [])) (fun t k => XS.ifNo X3059.here hx rfl (hb hby d27_33) rfl ((if0 _ _).trans (tlt hc3061).2.2.2) k) ?_
  refine own_ilN (w := (3 : Int32)) X3059 hx (hb hby d27_36) rfl ?_
  refine own_pre (g' := (mkF m 38 #[.val (.ref a33), .val (.int (3 : Int32)), .val (.int (3 : Int32))] [])) (fun t k => XS.istoreN X3059.here hx rfl (hb hby d27_37) rfl (l' := #[.val (.ref a33), .val (.int (3 : Int32)), .val (.int (3 : Int32))]) rfl k) ?_
  refine own_gt X3059 hx 64 (hb hby d27_38) (by decide) (by decide) ?_
  refine own_gt X3059 hx 5 (hb hby d27_64) (by decide) (by decide) ?_
  refine own_ilN (w := (3 : Int32)) X3059 hx (hb hby d27_5) rfl ?_
  refine own_alN (w := (.ref a33)) X3059 hx (hb hby d27_6) rfl rfl ?_
  refine own_getf X3059 hx hZ hown (own_w hw 33 rfl) e3059 H50 (hb hby d27_7) ?_
  intro T3062 X3062 e3062
  show own_Go _ _ _ _ _ _ _ T3062 (mkF m 10 #[.val (.ref a33), .val (.int (3 : Int32)), .val (.int (3 : Int32))] [(.int (3 : Int32)), (.int (3 : Int32))])
  refine own_pre (g' := (mkF m 67 #[.val (.ref a33), .val (.int (3 : Int32)), .val (.int (3 : Int32))] [])) (fun t k => XS.icmpYes X3062.here hx rfl (pc0 := 10) (pc' := 67) rfl (hb hby d27_10) rfl (by decide) (by decide) (by decide) k) ?_
  exact own_ret0 X3062 hx hlk hret (hb hby d27_67) e3062 ⟨rfl, N0, rfl⟩ (by decide) (by decide)
def own_s51_Q (Z : State) (a33 : Addr) (a2559 : Addr) (rn : Addr) (a274 : Addr) (a273 : Addr) (a272 : Addr) (a271 : Addr) (a270 : Addr) (a269 : Addr) (a268 : Addr) (a267 : Addr) (a811 : Addr) (f386 : UInt64) (a2034 : Addr) (f2082 : UInt64) (f1222 : UInt64) (a2414 : Addr) (a2560 : Addr) (a2558 : Addr) (cc : Int64) (v2 : Int32) (v4 : Int32) (v6 : Int32) (v8 : Int32) (v10 : Int32) (h0 : Heap) (n0 : Nat) (v_ : Option Value) (h_ : Heap) (L_ : List Loc) : Prop := (fun v h L => ∃ (f2938 : UInt64) (f2984 : UInt64) (f2961 : UInt64) (f2915 : UInt64), v = none ∧ Fr n0 L ∧ Keep h0 h [a33, a267, a268, a269, a270, a271, a272, a273, a274] ∧ own_Ary Z h a272 .long ([(.long (0 : Int64)), (.long (0 : Int64)), (.long (0 : Int64)), (.long ((0 : Int64) + cc))] ++ own_rJ 12) ∧ own_Ary Z h a269 .boolean (own_rI 16) ∧ own_Ary Z h a268 .double ([(.double f2938), (.double f2984), (.double f2961), (.double f2915)] ++ own_rD 12) ∧ own_Ary Z h a267 .double ([(.double (4621819117588971520 : UInt64)), (.double (4630826316843712512 : UInt64)), (.double (4629137466983448576 : UInt64)), (.double (4617315517961601024 : UInt64))] ++ own_rD 12) ∧ own_Ary Z h a274 .int ([(.int (3 : Int32)), (.int (2 : Int32)), (.int (0 : Int32)), (.int (-1 : Int32))] ++ own_rI 12) ∧ own_Ary Z h a273 .int ([(.int (2 : Int32)), (.int (-1 : Int32)), (.int (1 : Int32))] ++ own_rI 13) ∧ own_Ary Z h a271 .boolean ([(.int (0 : Int32)), (.int (0 : Int32)), (.int (0 : Int32)), (.int (1 : Int32))] ++ own_rI 12) ∧ own_Ary Z h a270 (.object own_k1) ([(.ref a811), (.ref a2414), (.ref a2034), (.ref rn)] ++ own_rN 12) ∧ Fld Z h a33 own_k0 "thresholds" "[D" (.ref a267) ∧ Fld Z h a33 own_k0 "ranks" "[D" (.ref a268) ∧ Fld Z h a33 own_k0 "guarded" "[Z" (.ref a269) ∧ Fld Z h a33 own_k0 "extents" own_k4 (.ref a270) ∧ Fld Z h a33 own_k0 "addedAtThreshold" "[Z" (.ref a271) ∧ Fld Z h a33 own_k0 "copies" "[J" (.ref a272) ∧ Fld Z h a33 own_k0 "nextOf" "[I" (.ref a273) ∧ Fld Z h a33 own_k0 "previousOf" "[I" (.ref a274) ∧ Fld Z h a33 own_k0 "first" "I" (.int (3 : Int32)) ∧ Fld Z h a33 own_k0 "last" "I" (.int (1 : Int32)) ∧ Fld Z h a33 own_k0 "free" "I" (.int (-1 : Int32)) ∧ Fld Z h a33 own_k0 "smallestMagnitude" "D" (.double (9218868437227405312 : UInt64)) ∧ Fld Z h a33 own_k0 "size" "I" (.int (4 : Int32)) ∧ Fld Z h a33 own_k0 "used" "I" (.int (4 : Int32)) ∧ FP.Core.DInt (v2.toInt + v10.toInt) f2938 ∧ FP.Core.DInt (v8.toInt + v10.toInt) f2984 ∧ FP.Core.DInt (v6.toInt + v10.toInt) f2961 ∧ FP.Core.DInt (0 + v10.toInt) f2915) v_ h_ L_
set_option maxRecDepth 65536 in
set_option maxHeartbeats 40000000 in
theorem own_s51 (l : Launch) (Z : State) (a0 : Array Value) (hw : ∀ d ∈ tables_1, d.before a0 Z = true) (wds : List Jvm.Cond) (a33 : Addr) (a2559 : Addr) (rn : Addr) (a274 : Addr) (a273 : Addr) (a272 : Addr) (a271 : Addr) (a270 : Addr) (a269 : Addr) (a268 : Addr) (a267 : Addr) (a811 : Addr) (f386 : UInt64) (a2034 : Addr) (f2082 : UInt64) (f1222 : UInt64) (a2414 : Addr) (a2560 : Addr) (a2558 : Addr) (cc : Int64) (v2 : Int32) (v4 : Int32) (v6 : Int32) (v8 : Int32) (v10 : Int32) (h0 : Heap) (n0 : Nat) (Z0 : n0 ≤ h0.size) (H1 : Sta Z h0 own_k1 "NONE" "Lcom/example/rankline/rankline/Extent;" (.ref rn)) (H2 : Exa Z h0 rn own_k1) (H3 : Exa Z h0 a33 own_k0) (H9 : own_Ovr Z h0 a270 own_k1) (H27 : own_Ary Z h0 a272 .long (own_rJ 16)) (H28 : own_Ary Z h0 a269 .boolean (own_rI 16)) (H29 : own_Ary Z h0 a268 .double ([(.double f386), (.double f2082), (.double f1222)] ++ own_rD 13)) (H30 : own_Ary Z h0 a267 .double ([(.double (4621819117588971520 : UInt64)), (.double (4630826316843712512 : UInt64)), (.double (4629137466983448576 : UInt64))] ++ own_rD 13)) (H31 : own_Ary Z h0 a274 .int ([(.int (-1 : Int32)), (.int (2 : Int32))] ++ own_rI 14)) (H32 : own_Ary Z h0 a273 .int ([(.int (2 : Int32)), (.int (-1 : Int32)), (.int (1 : Int32))] ++ own_rI 13)) (H33 : own_Ary Z h0 a271 .boolean (own_rI 16)) (H34 : own_Ary Z h0 a270 (.object own_k1) ([(.ref a811), (.ref a2414), (.ref a2034)] ++ own_rN 13)) (H35 : Fld Z h0 a33 own_k0 "thresholds" "[D" (.ref a267)) (H36 : Fld Z h0 a33 own_k0 "ranks" "[D" (.ref a268)) (H37 : Fld Z h0 a33 own_k0 "guarded" "[Z" (.ref a269)) (H38 : Fld Z h0 a33 own_k0 "extents" own_k4 (.ref a270)) (H39 : Fld Z h0 a33 own_k0 "addedAtThreshold" "[Z" (.ref a271)) (H40 : Fld Z h0 a33 own_k0 "copies" "[J" (.ref a272)) (H41 : Fld Z h0 a33 own_k0 "nextOf" "[I" (.ref a273)) (H42 : Fld Z h0 a33 own_k0 "previousOf" "[I" (.ref a274)) (H43 : Fld Z h0 a33 own_k0 "first" "I" (.int (0 : Int32))) (H44 : Fld Z h0 a33 own_k0 "last" "I" (.int (1 : Int32))) (H45 : Fld Z h0 a33 own_k0 "free" "I" (.int (-1 : Int32))) (H46 : Fld Z h0 a33 own_k0 "smallestMagnitude" "D" (.double (9218868437227405312 : UInt64))) (H47 : Fld Z h0 a33 own_k0 "size" "I" (.int (3 : Int32))) (H48 : Fld Z h0 a33 own_k0 "used" "I" (.int (3 : Int32))) (H56 : Exa Z h0 a2559 own_k3) (H57 : Fld Z h0 a2559 own_k3 "values" "[D" (.ref a2560)) (H58 : Fld Z h0 a2559 own_k3 "ranks" "[J" (.ref a2558)) (H59 : own_Ary Z h0 a2558 .long [(.long cc)]) (H61 : own_Ary Z h0 a2560 .double [(.double (4617315517961601024 : UInt64))]) (H78 : a33 < a267) (H79 : a33 < a268) (H80 : a33 < a269) (H81 : a33 < a270) (H82 : a33 < a271) (H83 : a33 < a272) (H84 : a33 < a273) (H85 : a33 < a274) (H89 : a33 < a2558) (H90 : a33 < a2559) (H91 : a33 < a2560) (H92 : n0 ≤ a33) (H93 : a267 < a268) (H94 : a267 < a269) (H95 : a267 < a270) (H96 : a267 < a271) (H97 : a267 < a272) (H98 : a267 < a273) (H99 : a267 < a274) (H103 : a267 < a2558) (H104 : a267 < a2559) (H105 : a267 < a2560) (H106 : n0 ≤ a267) (H107 : a268 < a269) (H108 : a268 < a270) (H109 : a268 < a271) (H110 : a268 < a272) (H111 : a268 < a273) (H112 : a268 < a274) (H116 : a268 < a2558) (H117 : a268 < a2559) (H118 : a268 < a2560) (H119 : n0 ≤ a268) (H120 : a269 < a270) (H121 : a269 < a271) (H122 : a269 < a272) (H123 : a269 < a273) (H124 : a269 < a274) (H128 : a269 < a2558) (H129 : a269 < a2559) (H130 : a269 < a2560) (H131 : n0 ≤ a269) (H132 : a270 < a271) (H133 : a270 < a272) (H134 : a270 < a273) (H135 : a270 < a274) (H139 : a270 < a2558) (H140 : a270 < a2559) (H141 : a270 < a2560) (H142 : n0 ≤ a270) (H143 : a271 < a272) (H144 : a271 < a273) (H145 : a271 < a274) (H149 : a271 < a2558) (H150 : a271 < a2559) (H151 : a271 < a2560) (H152 : n0 ≤ a271) (H153 : a272 < a273) (H154 : a272 < a274) (H158 : a272 < a2558) (H159 : a272 < a2559) (H160 : a272 < a2560) (H161 : n0 ≤ a272) (H162 : a273 < a274) (H166 : a273 < a2558) (H167 : a273 < a2559) (H168 : a273 < a2560) (H169 : n0 ≤ a273) (H173 : a274 < a2558) (H174 : a274 < a2559) (H175 : a274 < a2560) (H176 : n0 ≤ a274) (H198 : FP.Core.DInt v2.toInt f386) (H200 : FP.Core.DInt v8.toInt f2082) (H201 : FP.Core.DInt v6.toInt f1222) (H203 : 1 ≤ v2.toInt ∧ v2.toInt ≤ v4.toInt ∧ v4.toInt < v6.toInt ∧ v6.toInt < v8.toInt ∧ v8.toInt ≤ 8388608 ∧ 1 ≤ v10.toInt ∧ v10.toInt ≤ 8388608) (H204 : cc.toInt = v10.toInt) :
    MetFree l (⟨own_k0, "add", "(Lcom/example/rankline/rankline/ValueCounts;)V"⟩ : MethodName) (head1 (Jvm.Cond.code (⟨own_k0, "add", "(Lcom/example/rankline/rankline/ValueCounts;)V"⟩ : MethodName) prog_5_method_14_code 6 none :: wds) ({ frames := 2, cells := 0, slots := 0, locals := 35 } : Room)) (fun ar_ U_ => ar_ = #[(.ref a33), (.ref a2559)] ∧ Z.Warmed39 U_.vm ∧ U_.heap = h0) (fun _ _ _ _ _ => True) (fun _ U_ o_ V_ => ∃ v_ L_, o_ = .returned v_ ∧ own_s51_Q Z a33 a2559 rn a274 a273 a272 a271 a270 a269 a268 a267 a811 f386 a2034 f2082 f1222 a2414 a2560 a2558 cc v2 v4 v6 v8 v10 h0 n0 v_ V_.heap L_ ∧ FrameEnd U_ o_ V_ L_ ({ frames := 2, cells := 0, slots := 0, locals := 35 } : Room).cells ({ frames := 2, cells := 0, slots := 0, locals := 35 } : Room).slots) := by
  refine own_met (y := ⟨own_k0, "add", "(Lcom/example/rankline/rankline/ValueCounts;)V"⟩) (Q := own_s51_Q Z a33 a2559 rn a274 a273 a272 a271 a270 a269 a268 a267 a811 f386 a2034 f2082 f1222 a2414 a2560 a2558 cc v2 v4 v6 v8 v10 h0 n0) own_pn1 ?_
  intro p e s m below meth c s₁ hx hby hml hZ hown hnm hret hlk X0 e0
  have N0 := Fr.nil n0
  refine own_cast (g' := (mkF m 0 #[.val (.ref a33), .val (.ref a2559), .unset, .unset, .unset, .unset] [])) (by first | (simp [entryFrame, mkF, argsToLocals, Value.category]; done) | rfl) ?_
  generalize hL2642 : (#[.val (.ref a33), .val (.ref a2559), .unset, .unset, .unset, .unset] : Array Slot) = L2642
  refine own_alN (w := (.ref a2559)) X0 hx (hb hby d22_0) (by rw [← hL2642]; rfl) rfl ?_
  refine own_callv (a := a2559) (argsL := []) (rest := []) X0 hx hZ hown (own_s52 l Z a0 hw [] a2559 a2560 h0 n0 Z0 H57 H61) H56 (own_w hw 186 rfl) (own_w hw 187 rfl) (own_w hw 189 rfl) (own_w hw 188 rfl) (own_w hw 190 rfl) (own_w hw 156 rfl) (by decide) e0 (hb hby d22_1) (by rw [hml, ← hL2642]; rfl) rfl (lenOf own_pd3 rfl) (by decide) (W := 0) (Nat.le_of_eq rfl) (by decide) (by decide) (by decide) ?_
  intro v2698 T2698 lo2698 X2698 Q2698
  obtain ⟨h2698, e2698⟩ : ∃ h, T2698.heap = h := ⟨_, rfl⟩
  rw [e2698] at Q2698
  obtain ⟨rfl, N2698, K2698⟩ := Q2698
  have N2698' := Fr.app N0 N2698
  have e2698' : T2698.heap = h0 := e2698.trans K2698
  show own_Go _ _ _ _ _ _ _ T2698 (mkF m 4 L2642 [(.int (1 : Int32))])
  refine own_pre (g' := (mkF m 5 #[.val (.ref a33), .val (.ref a2559), .val (.int (1 : Int32)), .unset, .unset, .unset] [])) (fun t k => XS.istoreN X2698.here hx rfl (hb hby d22_4) rfl (l' := #[.val (.ref a33), .val (.ref a2559), .val (.int (1 : Int32)), .unset, .unset, .unset]) (by rw [← hL2642]; rfl) k) ?_
  generalize hL2699 : (#[.val (.ref a33), .val (.ref a2559), .val (.int (1 : Int32)), .unset, .unset, .unset] : Array Slot) = L2699
  refine own_ilN (w := (1 : Int32)) X2698 hx (hb hby d22_5) (by rw [← hL2699]; rfl) ?_
  refine own_pre (g' := (mkF m 10 L2699 [])) (fun t k => XS.ifYes X2698.here hx rfl (pc0 := 6) (pc' := 10) rfl (hb hby d22_6) rfl (by decide) (by decide) (by decide) k) ?_
  refine own_alN (w := (.ref a2559)) X2698 hx (hb hby d22_10) (by rw [← hL2699]; rfl) rfl ?_
  refine own_ic X2698 hx (0 : Int32) (hb hby d22_11) rfl ?_
  refine own_callv (a := a2559) (argsL := [(.int (0 : Int32))]) (rest := []) X2698 hx hZ hown (own_s53 l Z a0 hw [] a2559 a2560 h0 n0 Z0 H57 H61) H56 (own_w hw 191 rfl) (own_w hw 192 rfl) (own_w hw 194 rfl) (own_w hw 193 rfl) (own_w hw 195 rfl) (own_w hw 156 rfl) (by decide) e2698' (hb hby d22_12) (by rw [hml, ← hL2699]; rfl) rfl (lenOf own_pd16 rfl) (by decide) (W := 0) (Nat.le_of_eq rfl) (by decide) (by decide) (by decide) ?_
  intro v2701 T2701 lo2701 X2701 Q2701
  obtain ⟨h2701, e2701⟩ : ∃ h, T2701.heap = h := ⟨_, rfl⟩
  rw [e2701] at Q2701
  obtain ⟨rfl, N2701, K2701⟩ := Q2701
  have N2701' := Fr.app N2698' N2701
  have e2701' : T2701.heap = h0 := e2701.trans K2701
  show own_Go _ _ _ _ _ _ _ T2701 (mkF m 15 L2699 [(.double (4617315517961601024 : UInt64))])
  refine own_alN (w := (.ref a33)) X2701 hx (hb hby d22_15) (by rw [← hL2699]; rfl) rfl ?_
  refine own_getf X2701 hx hZ hown (own_w hw 13 rfl) e2701' H35 (hb hby d22_16) ?_
  intro T2702 X2702 e2702
  show own_Go _ _ _ _ _ _ _ T2702 (mkF m 19 L2699 [(.ref a267), (.double (4617315517961601024 : UInt64))])
  refine own_alN (w := (.ref a33)) X2702 hx (hb hby d22_19) (by rw [← hL2699]; rfl) rfl ?_
  refine own_getf X2702 hx hZ hown (own_w hw 33 rfl) e2702 H43 (hb hby d22_20) ?_
  intro T2703 X2703 e2703
  show own_Go _ _ _ _ _ _ _ T2703 (mkF m 23 L2699 [(.int (0 : Int32)), (.ref a267), (.double (4617315517961601024 : UInt64))])
  refine own_daload X2703 hx hZ e2703 H30 (hb hby d22_23) (n := 0) (v := (.double (4621819117588971520 : UInt64))) (by decide) (by decide) rfl ?_
  show own_Go _ _ _ _ _ _ _ T2703 (mkF m 24 L2699 [(.double (4621819117588971520 : UInt64)), (.double (4617315517961601024 : UInt64))])
  refine own_pre (g' := (mkF m 25 L2699 [(.int (-1 : Int32))])) (fun t k => XS.dcmpS X2703.here hx rfl (v := (-1 : Int32)) (hb hby d22_24) rfl (by decide +kernel) k) ?_
  refine own_pre (g' := (mkF m 28 L2699 [])) (fun t k => XS.ifNo X2703.here hx rfl (hb hby d22_25) rfl (by decide) k) ?_
  refine own_alN (w := (.ref a33)) X2703 hx (hb hby d22_28) (by rw [← hL2699]; rfl) rfl ?_
  refine own_alN (w := (.ref a33)) X2703 hx (hb hby d22_29) (by rw [← hL2699]; rfl) rfl ?_
  refine own_getf X2703 hx hZ hown (own_w hw 33 rfl) e2703 H43 (hb hby d22_30) ?_
  intro T2704 X2704 e2704
  show own_Go _ _ _ _ _ _ _ T2704 (mkF m 33 L2699 [(.int (0 : Int32)), (.ref a33)])
  refine own_alN (w := (.ref a2559)) X2704 hx (hb hby d22_33) (by rw [← hL2699]; rfl) rfl ?_
  refine own_ic X2704 hx (0 : Int32) (hb hby d22_34) rfl ?_
  refine own_callv (a := a2559) (argsL := [(.int (0 : Int32))]) (rest := [(.int (0 : Int32)), (.ref a33)]) X2704 hx hZ hown (own_s54 l Z a0 hw [] a2559 a2560 h0 n0 Z0 H57 H61) H56 (own_w hw 191 rfl) (own_w hw 192 rfl) (own_w hw 194 rfl) (own_w hw 193 rfl) (own_w hw 195 rfl) (own_w hw 156 rfl) (by decide) e2704 (hb hby d22_35) (by rw [hml, ← hL2699]; rfl) rfl (lenOf own_pd16 rfl) (by decide) (W := 2) (Nat.le_of_eq rfl) (by decide) (by decide) (by decide) ?_
  intro v2706 T2706 lo2706 X2706 Q2706
  obtain ⟨h2706, e2706⟩ : ∃ h, T2706.heap = h := ⟨_, rfl⟩
  rw [e2706] at Q2706
  obtain ⟨rfl, N2706, K2706⟩ := Q2706
  have N2706' := Fr.app N2701' N2706
  have e2706' : T2706.heap = h0 := e2706.trans K2706
  show own_Go _ _ _ _ _ _ _ T2706 (mkF m 38 L2699 [(.double (4617315517961601024 : UInt64)), (.int (0 : Int32)), (.ref a33)])
  refine own_pre (g' := (mkF m 39 L2699 [(.double (0 : UInt64)), (.double (4617315517961601024 : UInt64)), (.int (0 : Int32)), (.ref a33)])) (fun t k => XS.dconst0 X2706.here hx rfl (v := (0 : UInt64)) (hb hby d22_38) (by decide) k) ?_
  refine own_gets X2706 hx hZ hown (own_w hw 196 rfl) e2706' H1 (hb hby d22_39) ?_
  intro T2707 X2707 e2707
  show own_Go _ _ _ _ _ _ _ T2707 (mkF m 42 L2699 [(.ref rn), (.double (0 : UInt64)), (.double (4617315517961601024 : UInt64)), (.int (0 : Int32)), (.ref a33)])
  refine own_pre (g' := (mkF m 43 L2699 [(.long (0 : Int64)), (.ref rn), (.double (0 : UInt64)), (.double (4617315517961601024 : UInt64)), (.int (0 : Int32)), (.ref a33)])) (fun t k => XT.lconst X2707.here hx rfl (hb hby d22_42) k) ?_
  refine own_callp (a := a33) (argsL := [(.int (0 : Int32)), (.double (4617315517961601024 : UInt64)), (.double (0 : UInt64)), (.ref rn), (.long (0 : Int64))]) (rest := []) X2707 hx hZ hown (own_s55 l Z a0 hw [] a33 rn a274 a273 a272 a271 a270 a269 a268 a267 a811 f386 a2034 f2082 f1222 a2414 h0 n0 Z0 H2 H3 H9 H27 H28 H29 H30 H31 H32 H33 H34 H35 H36 H37 H38 H39 H40 H41 H42 H43 H44 H45 H46 H47 H48 H85 H84 H83 H82 H81 H80 H79 H78 H92 H162 H154 H145 H135 H124 H112 H99 H176 H153 H144 H134 H123 H111 H98 H169 H143 H133 H122 H110 H97 H161 H132 H121 H109 H96 H152 H120 H108 H95 H142 H107 H94 H131 H93 H119 H106) H3 (own_w hw 82 rfl) (own_w hw 5 rfl) (own_w hw 84 rfl) (own_w hw 83 rfl) (own_w hw 85 rfl) (own_w hw 6 rfl) (by decide) e2707 (hb hby d22_43) (by rw [hml, ← hL2699]; rfl) rfl (lenOf own_pd4 rfl) (by decide) (W := 0) (Nat.le_of_eq rfl) (by decide) (by decide) (by decide) ?_
  intro v2825 T2825 lo2825 X2825 Q2825
  obtain ⟨h2825, e2825⟩ : ∃ h, T2825.heap = h := ⟨_, rfl⟩
  rw [e2825] at Q2825
  obtain ⟨rfl, N2825, K2825, F2826, F2827, F2828, F2829, F2830, F2831, F2832, F2833, F2834, F2835, F2836, F2837, F2838, F2839, F2840, F2841, F2842, F2843, F2844, F2845, F2846, F2847⟩ := Q2825
  have N2825' := Fr.app N2706' N2825
  show own_Go _ _ _ _ _ _ _ T2825 (mkF m 46 L2699 [(.int (3 : Int32))])
  refine own_pre (g' := (mkF m 47 L2699 [])) (fun t k => XT.pop X2825.here hx rfl (hb hby d22_46) rfl rfl k) ?_
  refine own_alN (w := (.ref a2559)) X2825 hx (hb hby d22_47) (by rw [← hL2699]; rfl) rfl ?_
  refine own_ilN (w := (1 : Int32)) X2825 hx (hb hby d22_48) (by rw [← hL2699]; rfl) ?_
  refine own_ic X2825 hx (1 : Int32) (hb hby d22_49) rfl ?_
  refine own_pre (g' := (mkF m 51 L2699 [(.int (0 : Int32)), (.ref a2559)])) (fun t k => XS.isub X2825.here hx rfl (hb hby d22_50) rfl k) ?_
  have F2850 := (H56.keep K2825)
  have F2851 := (H57.keep K2825 (ninS (Nat.ne_of_gt H90) (ninS (Nat.ne_of_gt H104) (ninS (Nat.ne_of_gt H117) (ninS (Nat.ne_of_gt H129) (ninS (Nat.ne_of_gt H140) (ninS (Nat.ne_of_gt H150) (ninS (Nat.ne_of_gt H159) (ninS (Nat.ne_of_gt H167) (ninS (Nat.ne_of_gt H174) nin0))))))))))
  have F2852 := (H58.keep K2825 (ninS (Nat.ne_of_gt H90) (ninS (Nat.ne_of_gt H104) (ninS (Nat.ne_of_gt H117) (ninS (Nat.ne_of_gt H129) (ninS (Nat.ne_of_gt H140) (ninS (Nat.ne_of_gt H150) (ninS (Nat.ne_of_gt H159) (ninS (Nat.ne_of_gt H167) (ninS (Nat.ne_of_gt H174) nin0))))))))))
  have F2853 := (H59.keep K2825 (ninS (Nat.ne_of_gt H89) (ninS (Nat.ne_of_gt H103) (ninS (Nat.ne_of_gt H116) (ninS (Nat.ne_of_gt H128) (ninS (Nat.ne_of_gt H139) (ninS (Nat.ne_of_gt H149) (ninS (Nat.ne_of_gt H158) (ninS (Nat.ne_of_gt H166) (ninS (Nat.ne_of_gt H173) nin0))))))))))
  have F2855 := (H61.keep K2825 (ninS (Nat.ne_of_gt H91) (ninS (Nat.ne_of_gt H105) (ninS (Nat.ne_of_gt H118) (ninS (Nat.ne_of_gt H130) (ninS (Nat.ne_of_gt H141) (ninS (Nat.ne_of_gt H151) (ninS (Nat.ne_of_gt H160) (ninS (Nat.ne_of_gt H168) (ninS (Nat.ne_of_gt H175) nin0))))))))))
  have F2858 : n0 ≤ h2825.size := (Nat.le_trans Z0 K2825.1)
  refine own_callv (a := a2559) (argsL := [(.int (0 : Int32))]) (rest := []) X2825 hx hZ hown (own_s57 l Z a0 hw [] a2559 a2560 h2825 n0 F2858 F2851 F2855) F2850 (own_w hw 191 rfl) (own_w hw 192 rfl) (own_w hw 194 rfl) (own_w hw 193 rfl) (own_w hw 195 rfl) (own_w hw 156 rfl) (by decide) e2825 (hb hby d22_51) (by rw [hml, ← hL2699]; rfl) rfl (lenOf own_pd16 rfl) (by decide) (W := 0) (Nat.le_of_eq rfl) (by decide) (by decide) (by decide) ?_
  intro v2859 T2859 lo2859 X2859 Q2859
  obtain ⟨h2859, e2859⟩ : ∃ h, T2859.heap = h := ⟨_, rfl⟩
  rw [e2859] at Q2859
  obtain ⟨rfl, N2859, K2859⟩ := Q2859
  have N2859' := Fr.app N2825' N2859
  have e2859' : T2859.heap = h2825 := e2859.trans K2859
  show own_Go _ _ _ _ _ _ _ T2859 (mkF m 54 L2699 [(.double (4617315517961601024 : UInt64))])
  refine own_alN (w := (.ref a33)) X2859 hx (hb hby d22_54) (by rw [← hL2699]; rfl) rfl ?_
  refine own_getf X2859 hx hZ hown (own_w hw 13 rfl) e2859' F2834 (hb hby d22_55) ?_
  intro T2860 X2860 e2860
  show own_Go _ _ _ _ _ _ _ T2860 (mkF m 58 L2699 [(.ref a267), (.double (4617315517961601024 : UInt64))])
  refine own_alN (w := (.ref a33)) X2860 hx (hb hby d22_58) (by rw [← hL2699]; rfl) rfl ?_
  refine own_getf X2860 hx hZ hown (own_w hw 35 rfl) e2860 F2843 (hb hby d22_59) ?_
  intro T2861 X2861 e2861
  show own_Go _ _ _ _ _ _ _ T2861 (mkF m 62 L2699 [(.int (1 : Int32)), (.ref a267), (.double (4617315517961601024 : UInt64))])
  refine own_daload X2861 hx hZ e2861 F2829 (hb hby d22_62) (n := 1) (v := (.double (4630826316843712512 : UInt64))) (by decide) (by decide) rfl ?_
  show own_Go _ _ _ _ _ _ _ T2861 (mkF m 63 L2699 [(.double (4630826316843712512 : UInt64)), (.double (4617315517961601024 : UInt64))])
  refine own_pre (g' := (mkF m 64 L2699 [(.int (-1 : Int32))])) (fun t k => XS.dcmpS X2861.here hx rfl (v := (-1 : Int32)) (hb hby d22_63) rfl (by decide +kernel) k) ?_
  refine own_pre (g' := (mkF m 93 L2699 [])) (fun t k => XS.ifYes X2861.here hx rfl (pc0 := 64) (pc' := 93) rfl (hb hby d22_64) rfl (by decide) (by decide) (by decide) k) ?_
  refine own_ic X2861 hx (0 : Int32) (hb hby d22_93) rfl ?_
  refine own_pre (g' := (mkF m 95 #[.val (.ref a33), .val (.ref a2559), .val (.int (1 : Int32)), .val (.int (0 : Int32)), .unset, .unset] [])) (fun t k => XS.istoreN X2861.here hx rfl (hb hby d22_94) rfl (l' := #[.val (.ref a33), .val (.ref a2559), .val (.int (1 : Int32)), .val (.int (0 : Int32)), .unset, .unset]) (by rw [← hL2699]; rfl) k) ?_
  generalize hL2862 : (#[.val (.ref a33), .val (.ref a2559), .val (.int (1 : Int32)), .val (.int (0 : Int32)), .unset, .unset] : Array Slot) = L2862
  refine own_alN (w := (.ref a33)) X2861 hx (hb hby d22_95) (by rw [← hL2862]; rfl) rfl ?_
  refine own_getf X2861 hx hZ hown (own_w hw 33 rfl) e2861 F2842 (hb hby d22_96) ?_
  intro T2863 X2863 e2863
  show own_Go _ _ _ _ _ _ _ T2863 (mkF m 99 L2862 [(.int (3 : Int32))])
  refine own_pre (g' := (mkF m 101 #[.val (.ref a33), .val (.ref a2559), .val (.int (1 : Int32)), .val (.int (0 : Int32)), .val (.int (3 : Int32)), .unset] [])) (fun t k => XS.istore X2863.here hx rfl (hb hby d22_99) rfl (l' := #[.val (.ref a33), .val (.ref a2559), .val (.int (1 : Int32)), .val (.int (0 : Int32)), .val (.int (3 : Int32)), .unset]) (by rw [← hL2862]; rfl) k) ?_
  generalize hL2864 : (#[.val (.ref a33), .val (.ref a2559), .val (.int (1 : Int32)), .val (.int (0 : Int32)), .val (.int (3 : Int32)), .unset] : Array Slot) = L2864
  refine own_il (w := (3 : Int32)) X2863 hx (hb hby d22_101) (by rw [← hL2864]; rfl) ?_
  refine own_ic X2863 hx (-1 : Int32) (hb hby d22_103) rfl ?_
  refine own_pre (g' := (mkF m 107 L2864 [])) (fun t k => XS.icmpNo X2863.here hx rfl (hb hby d22_104) rfl (by decide) k) ?_
  refine own_ilN (w := (0 : Int32)) X2863 hx (hb hby d22_107) (by rw [← hL2864]; rfl) ?_
  refine own_pre (g' := (mkF m 110 #[.val (.ref a33), .val (.ref a2559), .val (.int (1 : Int32)), .val (.int (0 : Int32)), .val (.int (3 : Int32)), .val (.int (0 : Int32))] [])) (fun t k => XS.istore X2863.here hx rfl (hb hby d22_108) rfl (l' := #[.val (.ref a33), .val (.ref a2559), .val (.int (1 : Int32)), .val (.int (0 : Int32)), .val (.int (3 : Int32)), .val (.int (0 : Int32))]) (by rw [← hL2864]; rfl) k) ?_
  generalize hL2865 : (#[.val (.ref a33), .val (.ref a2559), .val (.int (1 : Int32)), .val (.int (0 : Int32)), .val (.int (3 : Int32)), .val (.int (0 : Int32))] : Array Slot) = L2865
  refine own_ilN (w := (0 : Int32)) X2863 hx (hb hby d22_110) (by rw [← hL2865]; rfl) ?_
  refine own_ilN (w := (1 : Int32)) X2863 hx (hb hby d22_111) (by rw [← hL2865]; rfl) ?_
  refine own_pre (g' := (mkF m 115 L2865 [])) (fun t k => XS.icmpNo X2863.here hx rfl (hb hby d22_112) rfl (by decide) k) ?_
  refine own_alN (w := (.ref a2559)) X2863 hx (hb hby d22_115) (by rw [← hL2865]; rfl) rfl ?_
  refine own_ilN (w := (0 : Int32)) X2863 hx (hb hby d22_116) (by rw [← hL2865]; rfl) ?_
  refine own_callv (a := a2559) (argsL := [(.int (0 : Int32))]) (rest := []) X2863 hx hZ hown (own_s58 l Z a0 hw [] a2559 a2560 h2825 n0 F2858 F2851 F2855) F2850 (own_w hw 191 rfl) (own_w hw 192 rfl) (own_w hw 194 rfl) (own_w hw 193 rfl) (own_w hw 195 rfl) (own_w hw 156 rfl) (by decide) e2863 (hb hby d22_117) (by rw [hml, ← hL2865]; rfl) rfl (lenOf own_pd16 rfl) (by decide) (W := 0) (Nat.le_of_eq rfl) (by decide) (by decide) (by decide) ?_
  intro v2867 T2867 lo2867 X2867 Q2867
  obtain ⟨h2867, e2867⟩ : ∃ h, T2867.heap = h := ⟨_, rfl⟩
  rw [e2867] at Q2867
  obtain ⟨rfl, N2867, K2867⟩ := Q2867
  have N2867' := Fr.app N2859' N2867
  have e2867' : T2867.heap = h2825 := e2867.trans K2867
  show own_Go _ _ _ _ _ _ _ T2867 (mkF m 120 L2865 [(.double (4617315517961601024 : UInt64))])
  refine own_alN (w := (.ref a33)) X2867 hx (hb hby d22_120) (by rw [← hL2865]; rfl) rfl ?_
  refine own_getf X2867 hx hZ hown (own_w hw 13 rfl) e2867' F2834 (hb hby d22_121) ?_
  intro T2868 X2868 e2868
  show own_Go _ _ _ _ _ _ _ T2868 (mkF m 124 L2865 [(.ref a267), (.double (4617315517961601024 : UInt64))])
  refine own_il (w := (3 : Int32)) X2868 hx (hb hby d22_124) (by rw [← hL2865]; rfl) ?_
  refine own_daload X2868 hx hZ e2868 F2829 (hb hby d22_126) (n := 3) (v := (.double (4617315517961601024 : UInt64))) (by decide) (by decide) rfl ?_
  show own_Go _ _ _ _ _ _ _ T2868 (mkF m 127 L2865 [(.double (4617315517961601024 : UInt64)), (.double (4617315517961601024 : UInt64))])
  refine own_pre (g' := (mkF m 128 L2865 [(.int (0 : Int32))])) (fun t k => XS.dcmpS X2868.here hx rfl (v := (0 : Int32)) (hb hby d22_127) rfl (by decide +kernel) k) ?_
  refine own_pre (g' := (mkF m 131 L2865 [])) (fun t k => XS.ifNo X2868.here hx rfl (hb hby d22_128) rfl (by decide) k) ?_
  refine own_pre (g' := (mkF m 134 #[.val (.ref a33), .val (.ref a2559), .val (.int (1 : Int32)), .val (.int (1 : Int32)), .val (.int (3 : Int32)), .val (.int (0 : Int32))] [])) (fun t k => XS.iinc X2868.here hx rfl (hb hby d22_131) (x := (0 : Int32)) (by rw [← hL2865]; rfl) (l' := #[.val (.ref a33), .val (.ref a2559), .val (.int (1 : Int32)), .val (.int (1 : Int32)), .val (.int (3 : Int32)), .val (.int (0 : Int32))]) (by rw [← hL2865]; rfl) k) ?_
  generalize hL2869 : (#[.val (.ref a33), .val (.ref a2559), .val (.int (1 : Int32)), .val (.int (1 : Int32)), .val (.int (3 : Int32)), .val (.int (0 : Int32))] : Array Slot) = L2869
  refine own_gt X2868 hx 110 (hb hby d22_134) (by decide) (by decide) ?_
  refine own_ilN (w := (1 : Int32)) X2868 hx (hb hby d22_110) (by rw [← hL2869]; rfl) ?_
  refine own_ilN (w := (1 : Int32)) X2868 hx (hb hby d22_111) (by rw [← hL2869]; rfl) ?_
  refine own_pre (g' := (mkF m 137 L2869 [])) (fun t k => XS.icmpYes X2868.here hx rfl (pc0 := 112) (pc' := 137) rfl (hb hby d22_112) rfl (by decide) (by decide) (by decide) k) ?_
  refine own_ilN (w := (1 : Int32)) X2868 hx (hb hby d22_137) (by rw [← hL2869]; rfl) ?_
  refine own_il (w := (0 : Int32)) X2868 hx (hb hby d22_138) (by rw [← hL2869]; rfl) ?_
  refine own_pre (g' := (mkF m 143 L2869 [])) (fun t k => XS.icmpNo X2868.here hx rfl (hb hby d22_140) rfl (by decide) k) ?_
  refine own_alN (w := (.ref a33)) X2868 hx (hb hby d22_143) (by rw [← hL2869]; rfl) rfl ?_
  refine own_getf X2868 hx hZ hown (own_w hw 24 rfl) e2868 F2838 (hb hby d22_144) ?_
  intro T2870 X2870 e2870
  show own_Go _ _ _ _ _ _ _ T2870 (mkF m 147 L2869 [(.ref a271)])
  refine own_il (w := (3 : Int32)) X2870 hx (hb hby d22_147) (by rw [← hL2869]; rfl) ?_
  refine own_alN (w := (.ref a2559)) X2870 hx (hb hby d22_149) (by rw [← hL2869]; rfl) rfl ?_
  refine own_il (w := (0 : Int32)) X2870 hx (hb hby d22_150) (by rw [← hL2869]; rfl) ?_
  refine own_callv (a := a2559) (argsL := [(.int (0 : Int32))]) (rest := [(.int (3 : Int32)), (.ref a271)]) X2870 hx hZ hown (own_s59 l Z a0 hw [] a2559 a2560 h2825 n0 F2858 F2851 F2855) F2850 (own_w hw 191 rfl) (own_w hw 192 rfl) (own_w hw 194 rfl) (own_w hw 193 rfl) (own_w hw 195 rfl) (own_w hw 156 rfl) (by decide) e2870 (hb hby d22_152) (by rw [hml, ← hL2869]; rfl) rfl (lenOf own_pd16 rfl) (by decide) (W := 2) (Nat.le_of_eq rfl) (by decide) (by decide) (by decide) ?_
  intro v2872 T2872 lo2872 X2872 Q2872
  obtain ⟨h2872, e2872⟩ : ∃ h, T2872.heap = h := ⟨_, rfl⟩
  rw [e2872] at Q2872
  obtain ⟨rfl, N2872, K2872⟩ := Q2872
  have N2872' := Fr.app N2867' N2872
  have e2872' : T2872.heap = h2825 := e2872.trans K2872
  show own_Go _ _ _ _ _ _ _ T2872 (mkF m 155 L2869 [(.double (4617315517961601024 : UInt64)), (.int (3 : Int32)), (.ref a271)])
  refine own_alN (w := (.ref a33)) X2872 hx (hb hby d22_155) (by rw [← hL2869]; rfl) rfl ?_
  refine own_getf X2872 hx hZ hown (own_w hw 13 rfl) e2872' F2834 (hb hby d22_156) ?_
  intro T2873 X2873 e2873
  show own_Go _ _ _ _ _ _ _ T2873 (mkF m 159 L2869 [(.ref a267), (.double (4617315517961601024 : UInt64)), (.int (3 : Int32)), (.ref a271)])
  refine own_il (w := (3 : Int32)) X2873 hx (hb hby d22_159) (by rw [← hL2869]; rfl) ?_
  refine own_daload X2873 hx hZ e2873 F2829 (hb hby d22_161) (n := 3) (v := (.double (4617315517961601024 : UInt64))) (by decide) (by decide) rfl ?_
  show own_Go _ _ _ _ _ _ _ T2873 (mkF m 162 L2869 [(.double (4617315517961601024 : UInt64)), (.double (4617315517961601024 : UInt64)), (.int (3 : Int32)), (.ref a271)])
  refine own_pre (g' := (mkF m 163 L2869 [(.int (0 : Int32)), (.int (3 : Int32)), (.ref a271)])) (fun t k => XS.dcmpS X2873.here hx rfl (v := (0 : Int32)) (hb hby d22_162) rfl (by decide +kernel) k) ?_
  refine own_pre (g' := (mkF m 166 L2869 [(.int (3 : Int32)), (.ref a271)])) (fun t k => XS.ifNo X2873.here hx rfl (hb hby d22_163) rfl (by decide) k) ?_
  refine own_ic X2873 hx (1 : Int32) (hb hby d22_166) rfl ?_
  refine own_gt X2873 hx 171 (hb hby d22_167) (by decide) (by decide) ?_
  refine own_zastore X2873 hx hZ e2873 N2872' H152 F2832 (hb hby d22_171) (n := 3) (x' := (1 : Int32)) (by decide) (by decide) (by show 3 < 16; decide) (by decide) ?_
  intro T2874 h2874 lo2874 X2874 e2874 N2874 W2874
  have F2875 : own_Ary Z h2874 a271 .boolean ([(.int (0 : Int32)), (.int (0 : Int32)), (.int (0 : Int32)), (.int (1 : Int32))] ++ own_rI 12) := F2832.set W2874
  show own_Go _ _ _ _ _ _ _ T2874 (mkF m 172 L2869 [])
  refine own_alN (w := (.ref a2559)) X2874 hx (hb hby d22_172) (by rw [← hL2869]; rfl) rfl ?_
  refine own_ilN (w := (1 : Int32)) X2874 hx (hb hby d22_173) (by rw [← hL2869]; rfl) ?_
  refine own_ic X2874 hx (1 : Int32) (hb hby d22_174) rfl ?_
  refine own_pre (g' := (mkF m 176 L2869 [(.int (0 : Int32)), (.ref a2559)])) (fun t k => XS.isub X2874.here hx rfl (hb hby d22_175) rfl k) ?_
  have F2878 := (F2850.wr W2874)
  have F2879 := (F2851.other W2874 (Or.inl (Nat.ne_of_gt H150)))
  have F2880 := (F2852.other W2874 (Or.inl (Nat.ne_of_gt H150)))
  have F2881 := (F2853.other W2874 (Nat.ne_of_gt H149))
  have F2883 := (F2855.other W2874 (Nat.ne_of_gt H151))
  have F2886 : n0 ≤ h2874.size := (Nat.le_trans F2858 (Nat.le_of_eq W2874.size.symm))
  refine own_callv (a := a2559) (argsL := [(.int (0 : Int32))]) (rest := []) X2874 hx hZ hown (own_s60 l Z a0 hw [] a2559 a2560 h2874 n0 F2886 F2879 F2883) F2878 (own_w hw 191 rfl) (own_w hw 192 rfl) (own_w hw 194 rfl) (own_w hw 193 rfl) (own_w hw 195 rfl) (own_w hw 156 rfl) (by decide) e2874 (hb hby d22_176) (by rw [hml, ← hL2869]; rfl) rfl (lenOf own_pd16 rfl) (by decide) (W := 0) (Nat.le_of_eq rfl) (by decide) (by decide) (by decide) ?_
  intro v2887 T2887 lo2887 X2887 Q2887
  obtain ⟨h2887, e2887⟩ : ∃ h, T2887.heap = h := ⟨_, rfl⟩
  rw [e2887] at Q2887
  obtain ⟨rfl, N2887, K2887⟩ := Q2887
  have N2887' := Fr.app N2874 N2887
  have e2887' : T2887.heap = h2874 := e2887.trans K2887
  show own_Go _ _ _ _ _ _ _ T2887 (mkF m 179 L2869 [(.double (4617315517961601024 : UInt64))])
  refine own_alN (w := (.ref a33)) X2887 hx (hb hby d22_179) (by rw [← hL2869]; rfl) rfl ?_
  have F2888 := (F2834.other W2874 (Or.inl (Nat.ne_of_lt H82)))
  refine own_getf X2887 hx hZ hown (own_w hw 13 rfl) e2887' F2888 (hb hby d22_180) ?_
  intro T2889 X2889 e2889
  show own_Go _ _ _ _ _ _ _ T2889 (mkF m 183 L2869 [(.ref a267), (.double (4617315517961601024 : UInt64))])
  refine own_il (w := (3 : Int32)) X2889 hx (hb hby d22_183) (by rw [← hL2869]; rfl) ?_
  have F2890 := (F2829.other W2874 (Nat.ne_of_lt H96))
  refine own_daload X2889 hx hZ e2889 F2890 (hb hby d22_185) (n := 3) (v := (.double (4617315517961601024 : UInt64))) (by decide) (by decide) rfl ?_
  show own_Go _ _ _ _ _ _ _ T2889 (mkF m 186 L2869 [(.double (4617315517961601024 : UInt64)), (.double (4617315517961601024 : UInt64))])
  refine own_pre (g' := (mkF m 187 L2869 [(.int (0 : Int32))])) (fun t k => XS.dcmpS X2889.here hx rfl (v := (0 : Int32)) (hb hby d22_186) rfl (by decide +kernel) k) ?_
  refine own_pre (g' := (mkF m 190 L2869 [])) (fun t k => XS.ifNo X2889.here hx rfl (hb hby d22_187) rfl (by decide) k) ?_
  refine own_alN (w := (.ref a33)) X2889 hx (hb hby d22_190) (by rw [← hL2869]; rfl) rfl ?_
  have F2891 := (F2839.other W2874 (Or.inl (Nat.ne_of_lt H82)))
  refine own_getf X2889 hx hZ hown (own_w hw 26 rfl) e2889 F2891 (hb hby d22_191) ?_
  intro T2892 X2892 e2892
  show own_Go _ _ _ _ _ _ _ T2892 (mkF m 194 L2869 [(.ref a272)])
  refine own_il (w := (3 : Int32)) X2892 hx (hb hby d22_194) (by rw [← hL2869]; rfl) ?_
  refine own_pre (g' := (mkF m 197 L2869 [(.int (3 : Int32)), (.ref a272), (.int (3 : Int32)), (.ref a272)])) (fun t k => XT.dup2 X2892.here hx rfl (hb hby d22_196) rfl rfl rfl k) ?_
  have F2893 := (F2826.other W2874 (Nat.ne_of_gt H143))
  refine own_laload X2892 hx hZ e2892 F2893 (hb hby d22_197) (n := 3) (v := (.long (0 : Int64))) (by decide) (by decide) rfl ?_
  show own_Go _ _ _ _ _ _ _ T2892 (mkF m 198 L2869 [(.long (0 : Int64)), (.int (3 : Int32)), (.ref a272)])
  refine own_alN (w := (.ref a2559)) X2892 hx (hb hby d22_198) (by rw [← hL2869]; rfl) rfl ?_
  refine own_ilN (w := (1 : Int32)) X2892 hx (hb hby d22_199) (by rw [← hL2869]; rfl) ?_
  refine own_ic X2892 hx (1 : Int32) (hb hby d22_200) rfl ?_
  refine own_pre (g' := (mkF m 202 L2869 [(.int (0 : Int32)), (.ref a2559), (.long (0 : Int64)), (.int (3 : Int32)), (.ref a272)])) (fun t k => XS.isub X2892.here hx rfl (hb hby d22_201) rfl k) ?_
  refine own_callv (a := a2559) (argsL := [(.int (0 : Int32))]) (rest := [(.long (0 : Int64)), (.int (3 : Int32)), (.ref a272)]) X2892 hx hZ hown (own_s61 l Z a0 hw [] a2559 a2558 cc h2874 n0 F2886 F2880 F2881) F2878 (own_w hw 198 rfl) (own_w hw 199 rfl) (own_w hw 201 rfl) (own_w hw 200 rfl) (own_w hw 202 rfl) (own_w hw 156 rfl) (by decide) e2892 (hb hby d22_202) (by rw [hml, ← hL2869]; rfl) rfl (lenOf own_pd17 rfl) (by decide) (W := 4) (Nat.le_of_eq rfl) (by decide) (by decide) (by decide) ?_
  intro v2895 T2895 lo2895 X2895 Q2895
  obtain ⟨h2895, e2895⟩ : ∃ h, T2895.heap = h := ⟨_, rfl⟩
  rw [e2895] at Q2895
  obtain ⟨rfl, N2895, K2895⟩ := Q2895
  have N2895' := Fr.app N2887' N2895
  have e2895' : T2895.heap = h2874 := e2895.trans K2895
  show own_Go _ _ _ _ _ _ _ T2895 (mkF m 205 L2869 [(.long cc), (.long (0 : Int64)), (.int (3 : Int32)), (.ref a272)])
  refine own_pre (g' := (mkF m 206 L2869 [(.long ((0 : Int64) + cc)), (.int (3 : Int32)), (.ref a272)])) (fun t k => XT.ladd X2895.here hx rfl (hb hby d22_205) rfl k) ?_
  generalize hv2896 : (0 : Int64) + cc = v2896
  refine own_lastore X2895 hx hZ e2895' N2895' H161 F2893 (hb hby d22_206) (n := 3) (by decide) (by decide) (by show 3 < 16; decide) ?_
  intro T2897 h2897 lo2897 X2897 e2897 N2897 W2897
  have F2898 : own_Ary Z h2897 a272 .long ([(.long (0 : Int64)), (.long (0 : Int64)), (.long (0 : Int64)), (.long v2896)] ++ own_rJ 12) := F2893.set W2897
  show own_Go _ _ _ _ _ _ _ T2897 (mkF m 207 L2869 [])
  refine own_alN (w := (.ref a33)) X2897 hx (hb hby d22_207) (by rw [← hL2869]; rfl) rfl ?_
  have F2899 := ((F2835.other W2874 (Or.inl (Nat.ne_of_lt H82))).other W2897 (Or.inl (Nat.ne_of_lt H83)))
  refine own_getf X2897 hx hZ hown (own_w hw 15 rfl) e2897 F2899 (hb hby d22_208) ?_
  intro T2900 X2900 e2900
  show own_Go _ _ _ _ _ _ _ T2900 (mkF m 211 L2869 [(.ref a268)])
  refine own_il (w := (3 : Int32)) X2900 hx (hb hby d22_211) (by rw [← hL2869]; rfl) ?_
  refine own_pre (g' := (mkF m 214 L2869 [(.int (3 : Int32)), (.ref a268), (.int (3 : Int32)), (.ref a268)])) (fun t k => XT.dup2 X2900.here hx rfl (hb hby d22_213) rfl rfl rfl k) ?_
  have F2901 := ((F2828.other W2874 (Nat.ne_of_lt H109)).other W2897 (Nat.ne_of_lt H110))
  refine own_daload X2900 hx hZ e2900 F2901 (hb hby d22_214) (n := 3) (v := (.double (0 : UInt64))) (by decide) (by decide) rfl ?_
  show own_Go _ _ _ _ _ _ _ T2900 (mkF m 215 L2869 [(.double (0 : UInt64)), (.int (3 : Int32)), (.ref a268)])
  refine own_ilN (w := (1 : Int32)) X2900 hx (hb hby d22_215) (by rw [← hL2869]; rfl) ?_
  refine own_pre (g' := (mkF m 223 L2869 [(.double (0 : UInt64)), (.int (3 : Int32)), (.ref a268)])) (fun t k => XS.ifYes X2900.here hx rfl (pc0 := 216) (pc' := 223) rfl (hb hby d22_216) rfl (by decide) (by decide) (by decide) k) ?_
  refine own_alN (w := (.ref a2559)) X2900 hx (hb hby d22_223) (by rw [← hL2869]; rfl) rfl ?_
  refine own_ilN (w := (1 : Int32)) X2900 hx (hb hby d22_224) (by rw [← hL2869]; rfl) ?_
  refine own_ic X2900 hx (1 : Int32) (hb hby d22_225) rfl ?_
  refine own_pre (g' := (mkF m 227 L2869 [(.int (0 : Int32)), (.ref a2559), (.double (0 : UInt64)), (.int (3 : Int32)), (.ref a268)])) (fun t k => XS.isub X2900.here hx rfl (hb hby d22_226) rfl k) ?_
  have F2904 := (F2878.wr W2897)
  have F2906 := (F2880.other W2897 (Or.inl (Nat.ne_of_gt H159)))
  have F2907 := (F2881.other W2897 (Nat.ne_of_gt H158))
  have F2912 : n0 ≤ h2897.size := (Nat.le_trans F2886 (Nat.le_of_eq W2897.size.symm))
  refine own_callv (a := a2559) (argsL := [(.int (0 : Int32))]) (rest := [(.double (0 : UInt64)), (.int (3 : Int32)), (.ref a268)]) X2900 hx hZ hown (own_s62 l Z a0 hw [] a2559 a2558 cc h2897 n0 F2912 F2906 F2907) F2904 (own_w hw 203 rfl) (own_w hw 204 rfl) (own_w hw 206 rfl) (own_w hw 205 rfl) (own_w hw 207 rfl) (own_w hw 156 rfl) (by decide) e2900 (hb hby d22_227) (by rw [hml, ← hL2869]; rfl) rfl (lenOf own_pd17 rfl) (by decide) (W := 4) (Nat.le_of_eq rfl) (by decide) (by decide) (by decide) ?_
  intro v2913 T2913 lo2913 X2913 Q2913
  obtain ⟨h2913, e2913⟩ : ∃ h, T2913.heap = h := ⟨_, rfl⟩
  rw [e2913] at Q2913
  obtain ⟨rfl, N2913, K2913⟩ := Q2913
  have N2913' := Fr.app N2897 N2913
  have e2913' : T2913.heap = h2897 := e2913.trans K2913
  show own_Go _ _ _ _ _ _ _ T2913 (mkF m 230 L2869 [(.long cc), (.double (0 : UInt64)), (.int (3 : Int32)), (.ref a268)])
  obtain ⟨f2914, hf2914⟩ : ∃ z, FP.l2d cc = z := ⟨_, rfl⟩
  refine own_pre (g' := (mkF m 231 L2869 [(.double f2914), (.double (0 : UInt64)), (.int (3 : Int32)), (.ref a268)])) (fun t k => XS.l2dS X2913.here hx rfl (hb hby d22_230) rfl hf2914 k) ?_
  have Df2914 : FP.Core.DInt v10.toInt f2914 := by have q := H204; rw [← q]; exact hf2914 ▸ FP.Core.l2d_int (by rw [q]; have := H203; have := H204; have := rng32 v10; omega)
  obtain ⟨f2915, hf2915⟩ : ∃ z, FP.dadd (0 : UInt64) f2914 = z := ⟨_, rfl⟩
  have Df2915 : Jvm.FP.Core.DInt (0 + v10.toInt) f2915 := hf2915 ▸ Jvm.FP.Core.dadd_int own_DInt0 Df2914 (by have := H203; have := H204; have := rng32 v10; omega)
  refine own_pre (g' := (mkF m 232 L2869 [(.double f2915), (.int (3 : Int32)), (.ref a268)])) (fun t k => XS.daddS X2913.here hx rfl (hb hby d22_231) rfl (by rw [hf2915]; exact own_DInt_nn Df2915) hf2915 k) ?_
  refine own_dastore X2913 hx hZ e2913' N2913' H119 F2901 (hb hby d22_232) (n := 3) (by decide) (by decide) (by show 3 < 16; decide) ?_
  intro T2916 h2916 lo2916 X2916 e2916 N2916 W2916
  have F2917 : own_Ary Z h2916 a268 .double ([(.double f386), (.double f2082), (.double f1222), (.double f2915)] ++ own_rD 12) := F2901.set W2916
  show own_Go _ _ _ _ _ _ _ T2916 (mkF m 233 L2869 [])
  refine own_alN (w := (.ref a33)) X2916 hx (hb hby d22_233) (by rw [← hL2869]; rfl) rfl ?_
  have F2918 := (((F2840.other W2874 (Or.inl (Nat.ne_of_lt H82))).other W2897 (Or.inl (Nat.ne_of_lt H83))).other W2916 (Or.inl (Nat.ne_of_lt H79)))
  refine own_getf X2916 hx hZ hown (own_w hw 29 rfl) e2916 F2918 (hb hby d22_234) ?_
  intro T2919 X2919 e2919
  show own_Go _ _ _ _ _ _ _ T2919 (mkF m 237 L2869 [(.ref a273)])
  refine own_il (w := (3 : Int32)) X2919 hx (hb hby d22_237) (by rw [← hL2869]; rfl) ?_
  have F2920 := (((F2831.other W2874 (Nat.ne_of_gt H144)).other W2897 (Nat.ne_of_gt H153)).other W2916 (Nat.ne_of_gt H111))
  refine own_iaload X2919 hx hZ e2919 F2920 (hb hby d22_239) (n := 3) (v := (.int (0 : Int32))) (by decide) (by decide) rfl ?_
  show own_Go _ _ _ _ _ _ _ T2919 (mkF m 240 L2869 [(.int (0 : Int32))])
  refine own_pre (g' := (mkF m 242 #[.val (.ref a33), .val (.ref a2559), .val (.int (1 : Int32)), .val (.int (1 : Int32)), .val (.int (0 : Int32)), .val (.int (0 : Int32))] [])) (fun t k => XS.istore X2919.here hx rfl (hb hby d22_240) rfl (l' := #[.val (.ref a33), .val (.ref a2559), .val (.int (1 : Int32)), .val (.int (1 : Int32)), .val (.int (0 : Int32)), .val (.int (0 : Int32))]) (by rw [← hL2869]; rfl) k) ?_
  generalize hL2921 : (#[.val (.ref a33), .val (.ref a2559), .val (.int (1 : Int32)), .val (.int (1 : Int32)), .val (.int (0 : Int32)), .val (.int (0 : Int32))] : Array Slot) = L2921
  refine own_gt X2919 hx 101 (hb hby d22_242) (by decide) (by decide) ?_
  refine own_il (w := (0 : Int32)) X2919 hx (hb hby d22_101) (by rw [← hL2921]; rfl) ?_
  refine own_ic X2919 hx (-1 : Int32) (hb hby d22_103) rfl ?_
  refine own_pre (g' := (mkF m 107 L2921 [])) (fun t k => XS.icmpNo X2919.here hx rfl (hb hby d22_104) rfl (by decide) k) ?_
  refine own_ilN (w := (1 : Int32)) X2919 hx (hb hby d22_107) (by rw [← hL2921]; rfl) ?_
  refine own_pre (g' := (mkF m 110 #[.val (.ref a33), .val (.ref a2559), .val (.int (1 : Int32)), .val (.int (1 : Int32)), .val (.int (0 : Int32)), .val (.int (1 : Int32))] [])) (fun t k => XS.istore X2919.here hx rfl (hb hby d22_108) rfl (l' := #[.val (.ref a33), .val (.ref a2559), .val (.int (1 : Int32)), .val (.int (1 : Int32)), .val (.int (0 : Int32)), .val (.int (1 : Int32))]) (by rw [← hL2921]; rfl) k) ?_
  generalize hL2922 : (#[.val (.ref a33), .val (.ref a2559), .val (.int (1 : Int32)), .val (.int (1 : Int32)), .val (.int (0 : Int32)), .val (.int (1 : Int32))] : Array Slot) = L2922
  refine own_ilN (w := (1 : Int32)) X2919 hx (hb hby d22_110) (by rw [← hL2922]; rfl) ?_
  refine own_ilN (w := (1 : Int32)) X2919 hx (hb hby d22_111) (by rw [← hL2922]; rfl) ?_
  refine own_pre (g' := (mkF m 137 L2922 [])) (fun t k => XS.icmpYes X2919.here hx rfl (pc0 := 112) (pc' := 137) rfl (hb hby d22_112) rfl (by decide) (by decide) (by decide) k) ?_
  refine own_ilN (w := (1 : Int32)) X2919 hx (hb hby d22_137) (by rw [← hL2922]; rfl) ?_
  refine own_il (w := (1 : Int32)) X2919 hx (hb hby d22_138) (by rw [← hL2922]; rfl) ?_
  refine own_pre (g' := (mkF m 207 L2922 [])) (fun t k => XS.icmpYes X2919.here hx rfl (pc0 := 140) (pc' := 207) rfl (hb hby d22_140) rfl (by decide) (by decide) (by decide) k) ?_
  refine own_alN (w := (.ref a33)) X2919 hx (hb hby d22_207) (by rw [← hL2922]; rfl) rfl ?_
  have F2923 := (F2899.other W2916 (Or.inl (Nat.ne_of_lt H79)))
  refine own_getf X2919 hx hZ hown (own_w hw 15 rfl) e2919 F2923 (hb hby d22_208) ?_
  intro T2924 X2924 e2924
  show own_Go _ _ _ _ _ _ _ T2924 (mkF m 211 L2922 [(.ref a268)])
  refine own_il (w := (0 : Int32)) X2924 hx (hb hby d22_211) (by rw [← hL2922]; rfl) ?_
  refine own_pre (g' := (mkF m 214 L2922 [(.int (0 : Int32)), (.ref a268), (.int (0 : Int32)), (.ref a268)])) (fun t k => XT.dup2 X2924.here hx rfl (hb hby d22_213) rfl rfl rfl k) ?_
  refine own_daload X2924 hx hZ e2924 F2917 (hb hby d22_214) (n := 0) (v := (.double f386)) (by decide) (by decide) rfl ?_
  show own_Go _ _ _ _ _ _ _ T2924 (mkF m 215 L2922 [(.double f386), (.int (0 : Int32)), (.ref a268)])
  refine own_ilN (w := (1 : Int32)) X2924 hx (hb hby d22_215) (by rw [← hL2922]; rfl) ?_
  refine own_pre (g' := (mkF m 223 L2922 [(.double f386), (.int (0 : Int32)), (.ref a268)])) (fun t k => XS.ifYes X2924.here hx rfl (pc0 := 216) (pc' := 223) rfl (hb hby d22_216) rfl (by decide) (by decide) (by decide) k) ?_
  refine own_alN (w := (.ref a2559)) X2924 hx (hb hby d22_223) (by rw [← hL2922]; rfl) rfl ?_
  refine own_ilN (w := (1 : Int32)) X2924 hx (hb hby d22_224) (by rw [← hL2922]; rfl) ?_
  refine own_ic X2924 hx (1 : Int32) (hb hby d22_225) rfl ?_
  refine own_pre (g' := (mkF m 227 L2922 [(.int (0 : Int32)), (.ref a2559), (.double f386), (.int (0 : Int32)), (.ref a268)])) (fun t k => XS.isub X2924.here hx rfl (hb hby d22_226) rfl k) ?_
  have F2927 := (F2904.wr W2916)
  have F2929 := (F2906.other W2916 (Or.inl (Nat.ne_of_gt H117)))
  have F2930 := (F2907.other W2916 (Nat.ne_of_gt H116))
  have F2935 : n0 ≤ h2916.size := (Nat.le_trans F2912 (Nat.le_of_eq W2916.size.symm))
  refine own_callv (a := a2559) (argsL := [(.int (0 : Int32))]) (rest := [(.double f386), (.int (0 : Int32)), (.ref a268)]) X2924 hx hZ hown (own_s63 l Z a0 hw [] a2559 a2558 cc h2916 n0 F2935 F2929 F2930) F2927 (own_w hw 203 rfl) (own_w hw 204 rfl) (own_w hw 206 rfl) (own_w hw 205 rfl) (own_w hw 207 rfl) (own_w hw 156 rfl) (by decide) e2924 (hb hby d22_227) (by rw [hml, ← hL2922]; rfl) rfl (lenOf own_pd17 rfl) (by decide) (W := 4) (Nat.le_of_eq rfl) (by decide) (by decide) (by decide) ?_
  intro v2936 T2936 lo2936 X2936 Q2936
  obtain ⟨h2936, e2936⟩ : ∃ h, T2936.heap = h := ⟨_, rfl⟩
  rw [e2936] at Q2936
  obtain ⟨rfl, N2936, K2936⟩ := Q2936
  have N2936' := Fr.app N2916 N2936
  have e2936' : T2936.heap = h2916 := e2936.trans K2936
  show own_Go _ _ _ _ _ _ _ T2936 (mkF m 230 L2922 [(.long cc), (.double f386), (.int (0 : Int32)), (.ref a268)])
  obtain ⟨f2937, hf2937⟩ : ∃ z, FP.l2d cc = z := ⟨_, rfl⟩
  refine own_pre (g' := (mkF m 231 L2922 [(.double f2937), (.double f386), (.int (0 : Int32)), (.ref a268)])) (fun t k => XS.l2dS X2936.here hx rfl (hb hby d22_230) rfl hf2937 k) ?_
  have Df2937 : FP.Core.DInt v10.toInt f2937 := by have q := H204; rw [← q]; exact hf2937 ▸ FP.Core.l2d_int (by rw [q]; have := H203; have := H204; have := rng32 v10; omega)
  obtain ⟨f2938, hf2938⟩ : ∃ z, FP.dadd f386 f2937 = z := ⟨_, rfl⟩
  have Df2938 : Jvm.FP.Core.DInt (v2.toInt + v10.toInt) f2938 := hf2938 ▸ Jvm.FP.Core.dadd_int H198 Df2937 (by have := H203; have := H204; have := rng32 v2; have := rng32 v10; omega)
  refine own_pre (g' := (mkF m 232 L2922 [(.double f2938), (.int (0 : Int32)), (.ref a268)])) (fun t k => XS.daddS X2936.here hx rfl (hb hby d22_231) rfl (by rw [hf2938]; exact own_DInt_nn Df2938) hf2938 k) ?_
  refine own_dastore X2936 hx hZ e2936' N2936' H119 F2917 (hb hby d22_232) (n := 0) (by decide) (by decide) (by show 0 < 16; decide) ?_
  intro T2939 h2939 lo2939 X2939 e2939 N2939 W2939
  have F2940 : own_Ary Z h2939 a268 .double ([(.double f2938), (.double f2082), (.double f1222), (.double f2915)] ++ own_rD 12) := F2917.set W2939
  show own_Go _ _ _ _ _ _ _ T2939 (mkF m 233 L2922 [])
  refine own_alN (w := (.ref a33)) X2939 hx (hb hby d22_233) (by rw [← hL2922]; rfl) rfl ?_
  have F2941 := (F2918.other W2939 (Or.inl (Nat.ne_of_lt H79)))
  refine own_getf X2939 hx hZ hown (own_w hw 29 rfl) e2939 F2941 (hb hby d22_234) ?_
  intro T2942 X2942 e2942
  show own_Go _ _ _ _ _ _ _ T2942 (mkF m 237 L2922 [(.ref a273)])
  refine own_il (w := (0 : Int32)) X2942 hx (hb hby d22_237) (by rw [← hL2922]; rfl) ?_
  have F2943 := (F2920.other W2939 (Nat.ne_of_gt H111))
  refine own_iaload X2942 hx hZ e2942 F2943 (hb hby d22_239) (n := 0) (v := (.int (2 : Int32))) (by decide) (by decide) rfl ?_
  show own_Go _ _ _ _ _ _ _ T2942 (mkF m 240 L2922 [(.int (2 : Int32))])
  refine own_pre (g' := (mkF m 242 #[.val (.ref a33), .val (.ref a2559), .val (.int (1 : Int32)), .val (.int (1 : Int32)), .val (.int (2 : Int32)), .val (.int (1 : Int32))] [])) (fun t k => XS.istore X2942.here hx rfl (hb hby d22_240) rfl (l' := #[.val (.ref a33), .val (.ref a2559), .val (.int (1 : Int32)), .val (.int (1 : Int32)), .val (.int (2 : Int32)), .val (.int (1 : Int32))]) (by rw [← hL2922]; rfl) k) ?_
  generalize hL2944 : (#[.val (.ref a33), .val (.ref a2559), .val (.int (1 : Int32)), .val (.int (1 : Int32)), .val (.int (2 : Int32)), .val (.int (1 : Int32))] : Array Slot) = L2944
  refine own_gt X2942 hx 101 (hb hby d22_242) (by decide) (by decide) ?_
  refine own_il (w := (2 : Int32)) X2942 hx (hb hby d22_101) (by rw [← hL2944]; rfl) ?_
  refine own_ic X2942 hx (-1 : Int32) (hb hby d22_103) rfl ?_
  refine own_pre (g' := (mkF m 107 L2944 [])) (fun t k => XS.icmpNo X2942.here hx rfl (hb hby d22_104) rfl (by decide) k) ?_
  refine own_ilN (w := (1 : Int32)) X2942 hx (hb hby d22_107) (by rw [← hL2944]; rfl) ?_
  refine own_pre (g' := (mkF m 110 #[.val (.ref a33), .val (.ref a2559), .val (.int (1 : Int32)), .val (.int (1 : Int32)), .val (.int (2 : Int32)), .val (.int (1 : Int32))] [])) (fun t k => XS.istore X2942.here hx rfl (hb hby d22_108) rfl (l' := #[.val (.ref a33), .val (.ref a2559), .val (.int (1 : Int32)), .val (.int (1 : Int32)), .val (.int (2 : Int32)), .val (.int (1 : Int32))]) (by rw [← hL2944]; rfl) k) ?_
  generalize hL2945 : (#[.val (.ref a33), .val (.ref a2559), .val (.int (1 : Int32)), .val (.int (1 : Int32)), .val (.int (2 : Int32)), .val (.int (1 : Int32))] : Array Slot) = L2945
  refine own_ilN (w := (1 : Int32)) X2942 hx (hb hby d22_110) (by rw [← hL2945]; rfl) ?_
  refine own_ilN (w := (1 : Int32)) X2942 hx (hb hby d22_111) (by rw [← hL2945]; rfl) ?_
  refine own_pre (g' := (mkF m 137 L2945 [])) (fun t k => XS.icmpYes X2942.here hx rfl (pc0 := 112) (pc' := 137) rfl (hb hby d22_112) rfl (by decide) (by decide) (by decide) k) ?_
  refine own_ilN (w := (1 : Int32)) X2942 hx (hb hby d22_137) (by rw [← hL2945]; rfl) ?_
  refine own_il (w := (1 : Int32)) X2942 hx (hb hby d22_138) (by rw [← hL2945]; rfl) ?_
  refine own_pre (g' := (mkF m 207 L2945 [])) (fun t k => XS.icmpYes X2942.here hx rfl (pc0 := 140) (pc' := 207) rfl (hb hby d22_140) rfl (by decide) (by decide) (by decide) k) ?_
  refine own_alN (w := (.ref a33)) X2942 hx (hb hby d22_207) (by rw [← hL2945]; rfl) rfl ?_
  have F2946 := (F2923.other W2939 (Or.inl (Nat.ne_of_lt H79)))
  refine own_getf X2942 hx hZ hown (own_w hw 15 rfl) e2942 F2946 (hb hby d22_208) ?_
  intro T2947 X2947 e2947
  show own_Go _ _ _ _ _ _ _ T2947 (mkF m 211 L2945 [(.ref a268)])
  refine own_il (w := (2 : Int32)) X2947 hx (hb hby d22_211) (by rw [← hL2945]; rfl) ?_
  refine own_pre (g' := (mkF m 214 L2945 [(.int (2 : Int32)), (.ref a268), (.int (2 : Int32)), (.ref a268)])) (fun t k => XT.dup2 X2947.here hx rfl (hb hby d22_213) rfl rfl rfl k) ?_
  refine own_daload X2947 hx hZ e2947 F2940 (hb hby d22_214) (n := 2) (v := (.double f1222)) (by decide) (by decide) rfl ?_
  show own_Go _ _ _ _ _ _ _ T2947 (mkF m 215 L2945 [(.double f1222), (.int (2 : Int32)), (.ref a268)])
  refine own_ilN (w := (1 : Int32)) X2947 hx (hb hby d22_215) (by rw [← hL2945]; rfl) ?_
  refine own_pre (g' := (mkF m 223 L2945 [(.double f1222), (.int (2 : Int32)), (.ref a268)])) (fun t k => XS.ifYes X2947.here hx rfl (pc0 := 216) (pc' := 223) rfl (hb hby d22_216) rfl (by decide) (by decide) (by decide) k) ?_
  refine own_alN (w := (.ref a2559)) X2947 hx (hb hby d22_223) (by rw [← hL2945]; rfl) rfl ?_
  refine own_ilN (w := (1 : Int32)) X2947 hx (hb hby d22_224) (by rw [← hL2945]; rfl) ?_
  refine own_ic X2947 hx (1 : Int32) (hb hby d22_225) rfl ?_
  refine own_pre (g' := (mkF m 227 L2945 [(.int (0 : Int32)), (.ref a2559), (.double f1222), (.int (2 : Int32)), (.ref a268)])) (fun t k => XS.isub X2947.here hx rfl (hb hby d22_226) rfl k) ?_
  have F2950 := (F2927.wr W2939)
  have F2952 := (F2929.other W2939 (Or.inl (Nat.ne_of_gt H117)))
  have F2953 := (F2930.other W2939 (Nat.ne_of_gt H116))
  have F2958 : n0 ≤ h2939.size := (Nat.le_trans F2935 (Nat.le_of_eq W2939.size.symm))
  refine own_callv (a := a2559) (argsL := [(.int (0 : Int32))]) (rest := [(.double f1222), (.int (2 : Int32)), (.ref a268)]) X2947 hx hZ hown (own_s64 l Z a0 hw [] a2559 a2558 cc h2939 n0 F2958 F2952 F2953) F2950 (own_w hw 203 rfl) (own_w hw 204 rfl) (own_w hw 206 rfl) (own_w hw 205 rfl) (own_w hw 207 rfl) (own_w hw 156 rfl) (by decide) e2947 (hb hby d22_227) (by rw [hml, ← hL2945]; rfl) rfl (lenOf own_pd17 rfl) (by decide) (W := 4) (Nat.le_of_eq rfl) (by decide) (by decide) (by decide) ?_
  intro v2959 T2959 lo2959 X2959 Q2959
  obtain ⟨h2959, e2959⟩ : ∃ h, T2959.heap = h := ⟨_, rfl⟩
  rw [e2959] at Q2959
  obtain ⟨rfl, N2959, K2959⟩ := Q2959
  have N2959' := Fr.app N2939 N2959
  have e2959' : T2959.heap = h2939 := e2959.trans K2959
  show own_Go _ _ _ _ _ _ _ T2959 (mkF m 230 L2945 [(.long cc), (.double f1222), (.int (2 : Int32)), (.ref a268)])
  obtain ⟨f2960, hf2960⟩ : ∃ z, FP.l2d cc = z := ⟨_, rfl⟩
  refine own_pre (g' := (mkF m 231 L2945 [(.double f2960), (.double f1222), (.int (2 : Int32)), (.ref a268)])) (fun t k => XS.l2dS X2959.here hx rfl (hb hby d22_230) rfl hf2960 k) ?_
  have Df2960 : FP.Core.DInt v10.toInt f2960 := by have q := H204; rw [← q]; exact hf2960 ▸ FP.Core.l2d_int (by rw [q]; have := H203; have := H204; have := rng32 v10; omega)
  obtain ⟨f2961, hf2961⟩ : ∃ z, FP.dadd f1222 f2960 = z := ⟨_, rfl⟩
  have Df2961 : Jvm.FP.Core.DInt (v6.toInt + v10.toInt) f2961 := hf2961 ▸ Jvm.FP.Core.dadd_int H201 Df2960 (by have := H203; have := H204; have := rng32 v6; have := rng32 v10; omega)
  refine own_pre (g' := (mkF m 232 L2945 [(.double f2961), (.int (2 : Int32)), (.ref a268)])) (fun t k => XS.daddS X2959.here hx rfl (hb hby d22_231) rfl (by rw [hf2961]; exact own_DInt_nn Df2961) hf2961 k) ?_
  refine own_dastore X2959 hx hZ e2959' N2959' H119 F2940 (hb hby d22_232) (n := 2) (by decide) (by decide) (by show 2 < 16; decide) ?_
  intro T2962 h2962 lo2962 X2962 e2962 N2962 W2962
  have F2963 : own_Ary Z h2962 a268 .double ([(.double f2938), (.double f2082), (.double f2961), (.double f2915)] ++ own_rD 12) := F2940.set W2962
  show own_Go _ _ _ _ _ _ _ T2962 (mkF m 233 L2945 [])
  refine own_alN (w := (.ref a33)) X2962 hx (hb hby d22_233) (by rw [← hL2945]; rfl) rfl ?_
  have F2964 := (F2941.other W2962 (Or.inl (Nat.ne_of_lt H79)))
  refine own_getf X2962 hx hZ hown (own_w hw 29 rfl) e2962 F2964 (hb hby d22_234) ?_
  intro T2965 X2965 e2965
  show own_Go _ _ _ _ _ _ _ T2965 (mkF m 237 L2945 [(.ref a273)])
  refine own_il (w := (2 : Int32)) X2965 hx (hb hby d22_237) (by rw [← hL2945]; rfl) ?_
  have F2966 := (F2943.other W2962 (Nat.ne_of_gt H111))
  refine own_iaload X2965 hx hZ e2965 F2966 (hb hby d22_239) (n := 2) (v := (.int (1 : Int32))) (by decide) (by decide) rfl ?_
  show own_Go _ _ _ _ _ _ _ T2965 (mkF m 240 L2945 [(.int (1 : Int32))])
  refine own_pre (g' := (mkF m 242 #[.val (.ref a33), .val (.ref a2559), .val (.int (1 : Int32)), .val (.int (1 : Int32)), .val (.int (1 : Int32)), .val (.int (1 : Int32))] [])) (fun t k => XS.istore X2965.here hx rfl (hb hby d22_240) rfl (l' := #[.val (.ref a33), .val (.ref a2559), .val (.int (1 : Int32)), .val (.int (1 : Int32)), .val (.int (1 : Int32)), .val (.int (1 : Int32))]) (by rw [← hL2945]; rfl) k) ?_
  generalize hL2967 : (#[.val (.ref a33), .val (.ref a2559), .val (.int (1 : Int32)), .val (.int (1 : Int32)), .val (.int (1 : Int32)), .val (.int (1 : Int32))] : Array Slot) = L2967
  refine own_gt X2965 hx 101 (hb hby d22_242) (by decide) (by decide) ?_
  refine own_il (w := (1 : Int32)) X2965 hx (hb hby d22_101) (by rw [← hL2967]; rfl) ?_
  refine own_ic X2965 hx (-1 : Int32) (hb hby d22_103) rfl ?_
  refine own_pre (g' := (mkF m 107 L2967 [])) (fun t k => XS.icmpNo X2965.here hx rfl (hb hby d22_104) rfl (by decide) k) ?_
  refine own_ilN (w := (1 : Int32)) X2965 hx (hb hby d22_107) (by rw [← hL2967]; rfl) ?_
  refine own_pre (g' := (mkF m 110 #[.val (.ref a33), .val (.ref a2559), .val (.int (1 : Int32)), .val (.int (1 : Int32)), .val (.int (1 : Int32)), .val (.int (1 : Int32))] [])) (fun t k => XS.istore X2965.here hx rfl (hb hby d22_108) rfl (l' := #[.val (.ref a33), .val (.ref a2559), .val (.int (1 : Int32)), .val (.int (1 : Int32)), .val (.int (1 : Int32)), .val (.int (1 : Int32))]) (by rw [← hL2967]; rfl) k) ?_
  generalize hL2968 : (#[.val (.ref a33), .val (.ref a2559), .val (.int (1 : Int32)), .val (.int (1 : Int32)), .val (.int (1 : Int32)), .val (.int (1 : Int32))] : Array Slot) = L2968
  refine own_ilN (w := (1 : Int32)) X2965 hx (hb hby d22_110) (by rw [← hL2968]; rfl) ?_
  refine own_ilN (w := (1 : Int32)) X2965 hx (hb hby d22_111) (by rw [← hL2968]; rfl) ?_
  refine own_pre (g' := (mkF m 137 L2968 [])) (fun t k => XS.icmpYes X2965.here hx rfl (pc0 := 112) (pc' := 137) rfl (hb hby d22_112) rfl (by decide) (by decide) (by decide) k) ?_
  refine own_ilN (w := (1 : Int32)) X2965 hx (hb hby d22_137) (by rw [← hL2968]; rfl) ?_
  refine own_il (w := (1 : Int32)) X2965 hx (hb hby d22_138) (by rw [← hL2968]; rfl) ?_
  refine own_pre (g' := (mkF m 207 L2968 [])) (fun t k => XS.icmpYes X2965.here hx rfl (pc0 := 140) (pc' := 207) rfl (hb hby d22_140) rfl (by decide) (by decide) (by decide) k) ?_
  refine own_alN (w := (.ref a33)) X2965 hx (hb hby d22_207) (by rw [← hL2968]; rfl) rfl ?_
  have F2969 := (F2946.other W2962 (Or.inl (Nat.ne_of_lt H79)))
  refine own_getf X2965 hx hZ hown (own_w hw 15 rfl) e2965 F2969 (hb hby d22_208) ?_
  intro T2970 X2970 e2970
  show own_Go _ _ _ _ _ _ _ T2970 (mkF m 211 L2968 [(.ref a268)])
  refine own_il (w := (1 : Int32)) X2970 hx (hb hby d22_211) (by rw [← hL2968]; rfl) ?_
  refine own_pre (g' := (mkF m 214 L2968 [(.int (1 : Int32)), (.ref a268), (.int (1 : Int32)), (.ref a268)])) (fun t k => XT.dup2 X2970.here hx rfl (hb hby d22_213) rfl rfl rfl k) ?_
  refine own_daload X2970 hx hZ e2970 F2963 (hb hby d22_214) (n := 1) (v := (.double f2082)) (by decide) (by decide) rfl ?_
  show own_Go _ _ _ _ _ _ _ T2970 (mkF m 215 L2968 [(.double f2082), (.int (1 : Int32)), (.ref a268)])
  refine own_ilN (w := (1 : Int32)) X2970 hx (hb hby d22_215) (by rw [← hL2968]; rfl) ?_
  refine own_pre (g' := (mkF m 223 L2968 [(.double f2082), (.int (1 : Int32)), (.ref a268)])) (fun t k => XS.ifYes X2970.here hx rfl (pc0 := 216) (pc' := 223) rfl (hb hby d22_216) rfl (by decide) (by decide) (by decide) k) ?_
  refine own_alN (w := (.ref a2559)) X2970 hx (hb hby d22_223) (by rw [← hL2968]; rfl) rfl ?_
  refine own_ilN (w := (1 : Int32)) X2970 hx (hb hby d22_224) (by rw [← hL2968]; rfl) ?_
  refine own_ic X2970 hx (1 : Int32) (hb hby d22_225) rfl ?_
  refine own_pre (g' := (mkF m 227 L2968 [(.int (0 : Int32)), (.ref a2559), (.double f2082), (.int (1 : Int32)), (.ref a268)])) (fun t k => XS.isub X2970.here hx rfl (hb hby d22_226) rfl k) ?_
  have F2973 := (F2950.wr W2962)
  have F2975 := (F2952.other W2962 (Or.inl (Nat.ne_of_gt H117)))
  have F2976 := (F2953.other W2962 (Nat.ne_of_gt H116))
  have F2981 : n0 ≤ h2962.size := (Nat.le_trans F2958 (Nat.le_of_eq W2962.size.symm))
  refine own_callv (a := a2559) (argsL := [(.int (0 : Int32))]) (rest := [(.double f2082), (.int (1 : Int32)), (.ref a268)]) X2970 hx hZ hown (own_s65 l Z a0 hw [] a2559 a2558 cc h2962 n0 F2981 F2975 F2976) F2973 (own_w hw 203 rfl) (own_w hw 204 rfl) (own_w hw 206 rfl) (own_w hw 205 rfl) (own_w hw 207 rfl) (own_w hw 156 rfl) (by decide) e2970 (hb hby d22_227) (by rw [hml, ← hL2968]; rfl) rfl (lenOf own_pd17 rfl) (by decide) (W := 4) (Nat.le_of_eq rfl) (by decide) (by decide) (by decide) ?_
  intro v2982 T2982 lo2982 X2982 Q2982
  obtain ⟨h2982, e2982⟩ : ∃ h, T2982.heap = h := ⟨_, rfl⟩
  rw [e2982] at Q2982
  obtain ⟨rfl, N2982, K2982⟩ := Q2982
  have N2982' := Fr.app N2962 N2982
  have e2982' : T2982.heap = h2962 := e2982.trans K2982
  show own_Go _ _ _ _ _ _ _ T2982 (mkF m 230 L2968 [(.long cc), (.double f2082), (.int (1 : Int32)), (.ref a268)])
  obtain ⟨f2983, hf2983⟩ : ∃ z, FP.l2d cc = z := ⟨_, rfl⟩
  refine own_pre (g' := (mkF m 231 L2968 [(.double f2983), (.double f2082), (.int (1 : Int32)), (.ref a268)])) (fun t k => XS.l2dS X2982.here hx rfl (hb hby d22_230) rfl hf2983 k) ?_
  have Df2983 : FP.Core.DInt v10.toInt f2983 := by have q := H204; rw [← q]; exact hf2983 ▸ FP.Core.l2d_int (by rw [q]; have := H203; have := H204; have := rng32 v10; omega)
  obtain ⟨f2984, hf2984⟩ : ∃ z, FP.dadd f2082 f2983 = z := ⟨_, rfl⟩
  have Df2984 : Jvm.FP.Core.DInt (v8.toInt + v10.toInt) f2984 := hf2984 ▸ Jvm.FP.Core.dadd_int H200 Df2983 (by have := H203; have := H204; have := rng32 v8; have := rng32 v10; omega)
  refine own_pre (g' := (mkF m 232 L2968 [(.double f2984), (.int (1 : Int32)), (.ref a268)])) (fun t k => XS.daddS X2982.here hx rfl (hb hby d22_231) rfl (by rw [hf2984]; exact own_DInt_nn Df2984) hf2984 k) ?_
  refine own_dastore X2982 hx hZ e2982' N2982' H119 F2963 (hb hby d22_232) (n := 1) (by decide) (by decide) (by show 1 < 16; decide) ?_
  intro T2985 h2985 lo2985 X2985 e2985 N2985 W2985
  have F2986 : own_Ary Z h2985 a268 .double ([(.double f2938), (.double f2984), (.double f2961), (.double f2915)] ++ own_rD 12) := F2963.set W2985
  show own_Go _ _ _ _ _ _ _ T2985 (mkF m 233 L2968 [])
  refine own_alN (w := (.ref a33)) X2985 hx (hb hby d22_233) (by rw [← hL2968]; rfl) rfl ?_
  have F2987 := (F2964.other W2985 (Or.inl (Nat.ne_of_lt H79)))
  refine own_getf X2985 hx hZ hown (own_w hw 29 rfl) e2985 F2987 (hb hby d22_234) ?_
  intro T2988 X2988 e2988
  show own_Go _ _ _ _ _ _ _ T2988 (mkF m 237 L2968 [(.ref a273)])
  refine own_il (w := (1 : Int32)) X2988 hx (hb hby d22_237) (by rw [← hL2968]; rfl) ?_
  have F2989 := (F2966.other W2985 (Nat.ne_of_gt H111))
  refine own_iaload X2988 hx hZ e2988 F2989 (hb hby d22_239) (n := 1) (v := (.int (-1 : Int32))) (by decide) (by decide) rfl ?_
  show own_Go _ _ _ _ _ _ _ T2988 (mkF m 240 L2968 [(.int (-1 : Int32))])
  refine own_pre (g' := (mkF m 242 #[.val (.ref a33), .val (.ref a2559), .val (.int (1 : Int32)), .val (.int (1 : Int32)), .val (.int (-1 : Int32)), .val (.int (1 : Int32))] [])) (fun t k => XS.istore X2988.here hx rfl (hb hby d22_240) rfl (l' := #[.val (.ref a33), .val (.ref a2559), .val (.int (1 : Int32)), .val (.int (1 : Int32)), .val (.int (-1 : Int32)), .val (.int (1 : Int32))]) (by rw [← hL2968]; rfl) k) ?_
  generalize hL2990 : (#[.val (.ref a33), .val (.ref a2559), .val (.int (1 : Int32)), .val (.int (1 : Int32)), .val (.int (-1 : Int32)), .val (.int (1 : Int32))] : Array Slot) = L2990
  refine own_gt X2988 hx 101 (hb hby d22_242) (by decide) (by decide) ?_
  refine own_il (w := (-1 : Int32)) X2988 hx (hb hby d22_101) (by rw [← hL2990]; rfl) ?_
  refine own_ic X2988 hx (-1 : Int32) (hb hby d22_103) rfl ?_
  refine own_pre (g' := (mkF m 245 L2990 [])) (fun t k => XS.icmpYes X2988.here hx rfl (pc0 := 104) (pc' := 245) rfl (hb hby d22_104) rfl (by decide) (by decide) (by decide) k) ?_
  refine own_alN (w := (.ref a33)) X2988 hx (hb hby d22_245) (by rw [← hL2990]; rfl) rfl ?_
  have F2993 := (((((((H3.keep K2825).wr W2874).wr W2897).wr W2916).wr W2939).wr W2962).wr W2985)
  have F3024 := ((((F2898.other W2916 (Nat.ne_of_gt H110)).other W2939 (Nat.ne_of_gt H110)).other W2962 (Nat.ne_of_gt H110)).other W2985 (Nat.ne_of_gt H110))
  have F3025 := ((((((F2827.other W2874 (Nat.ne_of_lt H121)).other W2897 (Nat.ne_of_lt H122)).other W2916 (Nat.ne_of_gt H107)).other W2939 (Nat.ne_of_gt H107)).other W2962 (Nat.ne_of_gt H107)).other W2985 (Nat.ne_of_gt H107))
  have F3026 := (((((F2890.other W2897 (Nat.ne_of_lt H97)).other W2916 (Nat.ne_of_lt H93)).other W2939 (Nat.ne_of_lt H93)).other W2962 (Nat.ne_of_lt H93)).other W2985 (Nat.ne_of_lt H93))
  have F3027 := ((((((F2830.other W2874 (Nat.ne_of_gt H145)).other W2897 (Nat.ne_of_gt H154)).other W2916 (Nat.ne_of_gt H112)).other W2939 (Nat.ne_of_gt H112)).other W2962 (Nat.ne_of_gt H112)).other W2985 (Nat.ne_of_gt H112))
  have F3028 := (((((F2875.other W2897 (Nat.ne_of_lt H143)).other W2916 (Nat.ne_of_gt H109)).other W2939 (Nat.ne_of_gt H109)).other W2962 (Nat.ne_of_gt H109)).other W2985 (Nat.ne_of_gt H109))
  have F3029 := ((((((F2833.other W2874 (Nat.ne_of_lt H132)).other W2897 (Nat.ne_of_lt H133)).other W2916 (Nat.ne_of_gt H108)).other W2939 (Nat.ne_of_gt H108)).other W2962 (Nat.ne_of_gt H108)).other W2985 (Nat.ne_of_gt H108))
  have F3030 := (((((F2888.other W2897 (Or.inl (Nat.ne_of_lt H83))).other W2916 (Or.inl (Nat.ne_of_lt H79))).other W2939 (Or.inl (Nat.ne_of_lt H79))).other W2962 (Or.inl (Nat.ne_of_lt H79))).other W2985 (Or.inl (Nat.ne_of_lt H79)))
  have F3031 := (F2969.other W2985 (Or.inl (Nat.ne_of_lt H79)))
  have F3032 := ((((((F2836.other W2874 (Or.inl (Nat.ne_of_lt H82))).other W2897 (Or.inl (Nat.ne_of_lt H83))).other W2916 (Or.inl (Nat.ne_of_lt H79))).other W2939 (Or.inl (Nat.ne_of_lt H79))).other W2962 (Or.inl (Nat.ne_of_lt H79))).other W2985 (Or.inl (Nat.ne_of_lt H79)))
  have F3033 := ((((((F2837.other W2874 (Or.inl (Nat.ne_of_lt H82))).other W2897 (Or.inl (Nat.ne_of_lt H83))).other W2916 (Or.inl (Nat.ne_of_lt H79))).other W2939 (Or.inl (Nat.ne_of_lt H79))).other W2962 (Or.inl (Nat.ne_of_lt H79))).other W2985 (Or.inl (Nat.ne_of_lt H79)))
  have F3034 := ((((((F2838.other W2874 (Or.inl (Nat.ne_of_lt H82))).other W2897 (Or.inl (Nat.ne_of_lt H83))).other W2916 (Or.inl (Nat.ne_of_lt H79))).other W2939 (Or.inl (Nat.ne_of_lt H79))).other W2962 (Or.inl (Nat.ne_of_lt H79))).other W2985 (Or.inl (Nat.ne_of_lt H79)))
  have F3035 := (((((F2891.other W2897 (Or.inl (Nat.ne_of_lt H83))).other W2916 (Or.inl (Nat.ne_of_lt H79))).other W2939 (Or.inl (Nat.ne_of_lt H79))).other W2962 (Or.inl (Nat.ne_of_lt H79))).other W2985 (Or.inl (Nat.ne_of_lt H79)))
  have F3036 := ((((((F2841.other W2874 (Or.inl (Nat.ne_of_lt H82))).other W2897 (Or.inl (Nat.ne_of_lt H83))).other W2916 (Or.inl (Nat.ne_of_lt H79))).other W2939 (Or.inl (Nat.ne_of_lt H79))).other W2962 (Or.inl (Nat.ne_of_lt H79))).other W2985 (Or.inl (Nat.ne_of_lt H79)))
  have F3037 := ((((((F2842.other W2874 (Or.inl (Nat.ne_of_lt H82))).other W2897 (Or.inl (Nat.ne_of_lt H83))).other W2916 (Or.inl (Nat.ne_of_lt H79))).other W2939 (Or.inl (Nat.ne_of_lt H79))).other W2962 (Or.inl (Nat.ne_of_lt H79))).other W2985 (Or.inl (Nat.ne_of_lt H79)))
  have F3038 := ((((((F2843.other W2874 (Or.inl (Nat.ne_of_lt H82))).other W2897 (Or.inl (Nat.ne_of_lt H83))).other W2916 (Or.inl (Nat.ne_of_lt H79))).other W2939 (Or.inl (Nat.ne_of_lt H79))).other W2962 (Or.inl (Nat.ne_of_lt H79))).other W2985 (Or.inl (Nat.ne_of_lt H79)))
  have F3039 := ((((((F2844.other W2874 (Or.inl (Nat.ne_of_lt H82))).other W2897 (Or.inl (Nat.ne_of_lt H83))).other W2916 (Or.inl (Nat.ne_of_lt H79))).other W2939 (Or.inl (Nat.ne_of_lt H79))).other W2962 (Or.inl (Nat.ne_of_lt H79))).other W2985 (Or.inl (Nat.ne_of_lt H79)))
  have F3040 := ((((((F2845.other W2874 (Or.inl (Nat.ne_of_lt H82))).other W2897 (Or.inl (Nat.ne_of_lt H83))).other W2916 (Or.inl (Nat.ne_of_lt H79))).other W2939 (Or.inl (Nat.ne_of_lt H79))).other W2962 (Or.inl (Nat.ne_of_lt H79))).other W2985 (Or.inl (Nat.ne_of_lt H79)))
  have F3041 := ((((((F2846.other W2874 (Or.inl (Nat.ne_of_lt H82))).other W2897 (Or.inl (Nat.ne_of_lt H83))).other W2916 (Or.inl (Nat.ne_of_lt H79))).other W2939 (Or.inl (Nat.ne_of_lt H79))).other W2962 (Or.inl (Nat.ne_of_lt H79))).other W2985 (Or.inl (Nat.ne_of_lt H79)))
  have F3042 := ((((((F2847.other W2874 (Or.inl (Nat.ne_of_lt H82))).other W2897 (Or.inl (Nat.ne_of_lt H83))).other W2916 (Or.inl (Nat.ne_of_lt H79))).other W2939 (Or.inl (Nat.ne_of_lt H79))).other W2962 (Or.inl (Nat.ne_of_lt H79))).other W2985 (Or.inl (Nat.ne_of_lt H79)))
  have F3063 : n0 ≤ h2985.size := (Nat.le_trans F2981 (Nat.le_of_eq W2985.size.symm))
  refine own_callp (a := a33) (argsL := []) (rest := []) X2988 hx hZ hown (own_s66 l Z a0 hw [] a33 a274 a268 f2938 f2984 f2961 f2915 v2 v4 v6 v8 v10 cc h2985 n0 F3063 F2986 F3027 F3031 F3036 F3037 F3038 Df2938 Df2984 Df2961 Df2915 H203 H204) F2993 (own_w hw 208 rfl) (own_w hw 5 rfl) (own_w hw 210 rfl) (own_w hw 209 rfl) (own_w hw 211 rfl) (own_w hw 6 rfl) (by decide) e2988 (hb hby d22_246) (by rw [hml, ← hL2990]; rfl) rfl (lenOf own_pd0 rfl) (by decide) (W := 0) (Nat.le_of_eq rfl) (by decide) (by decide) (by decide) ?_
  intro v3064 T3064 lo3064 X3064 Q3064
  obtain ⟨h3064, e3064⟩ : ∃ h, T3064.heap = h := ⟨_, rfl⟩
  rw [e3064] at Q3064
  obtain ⟨rfl, N3064, K3064⟩ := Q3064
  have N3064' := Fr.app N2985 N3064
  have e3064' : T3064.heap = h2985 := e3064.trans K3064
  show own_Go _ _ _ _ _ _ _ T3064 (mkF m 249 L2990 [])
  exact own_ret0 X3064 hx hlk hret (hb hby d22_249) e3064' ⟨f2938, f2984, f2961, f2915, rfl, N3064', ((((((((Keep.refl _ _).trans K2825 (allS (Or.inl (by simp)) (allS (Or.inl (by simp)) (allS (Or.inl (by simp)) (allS (Or.inl (by simp)) (allS (Or.inl (by simp)) (allS (Or.inl (by simp)) (allS (Or.inl (by simp)) (allS (Or.inl (by simp)) (allS (Or.inl (by simp)) all0)))))))))).wr W2874 (Or.inl (by simp))).wr W2897 (Or.inl (by simp))).wr W2916 (Or.inl (by simp))).wr W2939 (Or.inl (by simp))).wr W2962 (Or.inl (by simp))).wr W2985 (Or.inl (by simp))), (by subst hv2896; exact F3024), F3025, F2986, F3026, F3027, F2989, F3028, F3029, F3030, F3031, F3032, F3033, F3034, F3035, F2987, F3036, F3037, F3038, F3039, F3040, F3041, F3042, Df2938, Df2984, Df2961, Df2915⟩ (by decide) (by decide)
theorem own_pd18 : parseMethodDescriptor "(Lcom/example/rankline/rankline/ValueCounts;)V" = some ⟨[(.object "com/example/rankline/rankline/ValueCounts")], none⟩ := by decide +kernel
theorem d28_0 : decode prog_5_method_10_code 0 = .ok (.iload_n 1, 1) := by decide +kernel
theorem d28_1 : decode prog_5_method_10_code 1 = .ok (.aload_n 0, 1) := by decide +kernel
theorem d28_2 : decode prog_5_method_10_code 2 = .ok (.getfield 40, 3) := by decide +kernel
theorem d28_5 : decode prog_5_method_10_code 5 = .ok (.if_icmp .ne 12, 3) := by decide +kernel
theorem d28_8 : decode prog_5_method_10_code 8 = .ok (.aload_n 0, 1) := by decide +kernel
theorem d28_9 : decode prog_5_method_10_code 9 = .ok (.getfield 13, 3) := by decide +kernel
theorem d28_12 : decode prog_5_method_10_code 12 = .ok (.iload_n 1, 1) := by decide +kernel
theorem d28_13 : decode prog_5_method_10_code 13 = .ok (.daload, 1) := by decide +kernel
theorem d28_14 : decode prog_5_method_10_code 14 = .ok (.goto 21, 3) := by decide +kernel
theorem d28_17 : decode prog_5_method_10_code 17 = .ok (.aload_n 0, 1) := by decide +kernel
theorem d28_18 : decode prog_5_method_10_code 18 = .ok (.getfield 13, 3) := by decide +kernel
theorem d28_21 : decode prog_5_method_10_code 21 = .ok (.iload_n 1, 1) := by decide +kernel
theorem d28_22 : decode prog_5_method_10_code 22 = .ok (.daload, 1) := by decide +kernel
theorem d28_23 : decode prog_5_method_10_code 23 = .ok (.aload_n 0, 1) := by decide +kernel
theorem d28_24 : decode prog_5_method_10_code 24 = .ok (.getfield 13, 3) := by decide +kernel
theorem d28_27 : decode prog_5_method_10_code 27 = .ok (.aload_n 0, 1) := by decide +kernel
theorem d28_28 : decode prog_5_method_10_code 28 = .ok (.getfield 37, 3) := by decide +kernel
theorem d28_31 : decode prog_5_method_10_code 31 = .ok (.iload_n 1, 1) := by decide +kernel
theorem d28_32 : decode prog_5_method_10_code 32 = .ok (.iaload, 1) := by decide +kernel
theorem d28_33 : decode prog_5_method_10_code 33 = .ok (.daload, 1) := by decide +kernel
theorem d28_34 : decode prog_5_method_10_code 34 = .ok (.dsub, 1) := by decide +kernel
theorem d28_35 : decode prog_5_method_10_code 35 = .ok (.dreturn, 1) := by decide +kernel
def own_s67_Q (Z : State) (a33 : Addr) (a268 : Addr) (f3067 : UInt64) (f3068 : UInt64) (f3069 : UInt64) (f3070 : UInt64) (h0 : Heap) (n0 : Nat) (v_ : Option Value) (h_ : Heap) (L_ : List Loc) : Prop := (fun v h L => v = some (.double f3070) ∧ Fr n0 L ∧ h = h0) v_ h_ L_
set_option maxRecDepth 65536 in
set_option maxHeartbeats 40000000 in
theorem own_s67 (l : Launch) (Z : State) (a0 : Array Value) (hw : ∀ d ∈ tables_1, d.before a0 Z = true) (wds : List Jvm.Cond) (a33 : Addr) (a268 : Addr) (f3067 : UInt64) (f3068 : UInt64) (f3069 : UInt64) (f3070 : UInt64) (h0 : Heap) (n0 : Nat) (Z0 : n0 ≤ h0.size) (H36 : own_Ary Z h0 a268 .double ([(.double f3067), (.double f3068), (.double f3069), (.double f3070)] ++ own_rD 12)) (H43 : Fld Z h0 a33 own_k0 "ranks" "[D" (.ref a268)) (H50 : Fld Z h0 a33 own_k0 "first" "I" (.int (3 : Int32))) :
    MetFree l (⟨own_k0, "count", "(I)D"⟩ : MethodName) (head1 (Jvm.Cond.code (⟨own_k0, "count", "(I)D"⟩ : MethodName) prog_5_method_10_code 2 (some .double) :: wds) ({ frames := 0, cells := 0, slots := 0, locals := 0 } : Room)) (fun ar_ U_ => ar_ = #[(.ref a33), (.int (3 : Int32))] ∧ Z.Warmed39 U_.vm ∧ U_.heap = h0) (fun _ _ _ _ _ => True) (fun _ U_ o_ V_ => ∃ v_ L_, o_ = .returned v_ ∧ own_s67_Q Z a33 a268 f3067 f3068 f3069 f3070 h0 n0 v_ V_.heap L_ ∧ FrameEnd U_ o_ V_ L_ ({ frames := 0, cells := 0, slots := 0, locals := 0 } : Room).cells ({ frames := 0, cells := 0, slots := 0, locals := 0 } : Room).slots) := by
  refine own_met (y := ⟨own_k0, "count", "(I)D"⟩) (Q := own_s67_Q Z a33 a268 f3067 f3068 f3069 f3070 h0 n0) own_pn1 ?_
  intro p e s m below meth c s₁ hx hby hml hZ hown hnm hret hlk X0 e0
  have N0 := Fr.nil n0
  refine own_cast (g' := (mkF m 0 #[.val (.ref a33), .val (.int (3 : Int32))] [])) (by first | (simp [entryFrame, mkF, argsToLocals, Value.category]; done) | rfl) ?_
  refine own_ilN (w := (3 : Int32)) X0 hx (hb hby d28_0) rfl ?_
  refine own_alN (w := (.ref a33)) X0 hx (hb hby d28_1) rfl rfl ?_
  refine own_getf X0 hx hZ hown (own_w hw 33 rfl) e0 H50 (hb hby d28_2) ?_
  intro T3130 X3130 e3130
  show own_Go _ _ _ _ _ _ _ T3130 (mkF m 5 #[.val (.ref a33), .val (.int (3 : Int32))] [(.int (3 : Int32)), (.int (3 : Int32))])
  refine own_pre (g' := (mkF m 8 #[.val (.ref a33), .val (.int (3 : Int32))] [])) (fun t k => XS.icmpNo X3130.here hx rfl (hb hby d28_5) rfl (by decide) k) ?_
  refine own_alN (w := (.ref a33)) X3130 hx (hb hby d28_8) rfl rfl ?_
  refine own_getf X3130 hx hZ hown (own_w hw 15 rfl) e3130 H43 (hb hby d28_9) ?_
  intro T3131 X3131 e3131
  show own_Go _ _ _ _ _ _ _ T3131 (mkF m 12 #[.val (.ref a33), .val (.int (3 : Int32))] [(.ref a268)])
  refine own_ilN (w := (3 : Int32)) X3131 hx (hb hby d28_12) rfl ?_
  refine own_daload X3131 hx hZ e3131 H36 (hb hby d28_13) (n := 3) (v := (.double f3070)) (by decide) (by decide) rfl ?_
  show own_Go _ _ _ _ _ _ _ T3131 (mkF m 14 #[.val (.ref a33), .val (.int (3 : Int32))] [(.double f3070)])
  refine own_gt X3131 hx 35 (hb hby d28_14) (by decide) (by decide) ?_
  exact own_retD X3131 hx hlk hret (hb hby d28_35) e3131 ⟨rfl, N0, rfl⟩ (by decide) (by decide)
def own_s68_Q (Z : State) (a33 : Addr) (a274 : Addr) (a268 : Addr) (cc : Int64) (f3067 : UInt64) (f3068 : UInt64) (f3069 : UInt64) (f3070 : UInt64) (v2 : Int32) (v4 : Int32) (v6 : Int32) (v8 : Int32) (v10 : Int32) (h0 : Heap) (n0 : Nat) (v_ : Option Value) (h_ : Heap) (L_ : List Loc) : Prop := (fun v h L => ∃ (f3141 : UInt64), v = some (.double f3141) ∧ Fr n0 L ∧ h = h0 ∧ FP.Core.DInt ((v2.toInt + v10.toInt) - (0 + v10.toInt)) f3141) v_ h_ L_
set_option maxRecDepth 65536 in
set_option maxHeartbeats 40000000 in
theorem own_s68 (l : Launch) (Z : State) (a0 : Array Value) (hw : ∀ d ∈ tables_1, d.before a0 Z = true) (wds : List Jvm.Cond) (a33 : Addr) (a274 : Addr) (a268 : Addr) (cc : Int64) (f3067 : UInt64) (f3068 : UInt64) (f3069 : UInt64) (f3070 : UInt64) (v2 : Int32) (v4 : Int32) (v6 : Int32) (v8 : Int32) (v10 : Int32) (h0 : Heap) (n0 : Nat) (Z0 : n0 ≤ h0.size) (H36 : own_Ary Z h0 a268 .double ([(.double f3067), (.double f3068), (.double f3069), (.double f3070)] ++ own_rD 12)) (H38 : own_Ary Z h0 a274 .int ([(.int (3 : Int32)), (.int (2 : Int32)), (.int (0 : Int32)), (.int (-1 : Int32))] ++ own_rI 12)) (H43 : Fld Z h0 a33 own_k0 "ranks" "[D" (.ref a268)) (H49 : Fld Z h0 a33 own_k0 "previousOf" "[I" (.ref a274)) (H50 : Fld Z h0 a33 own_k0 "first" "I" (.int (3 : Int32))) (H149 : FP.Core.DInt (v2.toInt + v10.toInt) f3067) (H152 : FP.Core.DInt (0 + v10.toInt) f3070) (H153 : 1 ≤ v2.toInt ∧ v2.toInt ≤ v4.toInt ∧ v4.toInt < v6.toInt ∧ v6.toInt < v8.toInt ∧ v8.toInt ≤ 8388608 ∧ 1 ≤ v10.toInt ∧ v10.toInt ≤ 8388608) (H154 : cc.toInt = v10.toInt) :
    MetFree l (⟨own_k0, "count", "(I)D"⟩ : MethodName) (head1 (Jvm.Cond.code (⟨own_k0, "count", "(I)D"⟩ : MethodName) prog_5_method_10_code 2 (some .double) :: wds) ({ frames := 0, cells := 0, slots := 0, locals := 0 } : Room)) (fun ar_ U_ => ar_ = #[(.ref a33), (.int (0 : Int32))] ∧ Z.Warmed39 U_.vm ∧ U_.heap = h0) (fun _ _ _ _ _ => True) (fun _ U_ o_ V_ => ∃ v_ L_, o_ = .returned v_ ∧ own_s68_Q Z a33 a274 a268 cc f3067 f3068 f3069 f3070 v2 v4 v6 v8 v10 h0 n0 v_ V_.heap L_ ∧ FrameEnd U_ o_ V_ L_ ({ frames := 0, cells := 0, slots := 0, locals := 0 } : Room).cells ({ frames := 0, cells := 0, slots := 0, locals := 0 } : Room).slots) := by
  refine own_met (y := ⟨own_k0, "count", "(I)D"⟩) (Q := own_s68_Q Z a33 a274 a268 cc f3067 f3068 f3069 f3070 v2 v4 v6 v8 v10 h0 n0) own_pn1 ?_
  intro p e s m below meth c s₁ hx hby hml hZ hown hnm hret hlk X0 e0
  have N0 := Fr.nil n0
  refine own_cast (g' := (mkF m 0 #[.val (.ref a33), .val (.int (0 : Int32))] [])) (by first | (simp [entryFrame, mkF, argsToLocals, Value.category]; done) | rfl) ?_
  refine own_ilN (w := (0 : Int32)) X0 hx (hb hby d28_0) rfl ?_
  refine own_alN (w := (.ref a33)) X0 hx (hb hby d28_1) rfl rfl ?_
  refine own_getf X0 hx hZ hown (own_w hw 33 rfl) e0 H50 (hb hby d28_2) ?_
  intro T3137 X3137 e3137
  show own_Go _ _ _ _ _ _ _ T3137 (mkF m 5 #[.val (.ref a33), .val (.int (0 : Int32))] [(.int (3 : Int32)), (.int (0 : Int32))])
  refine own_pre (g' := (mkF m 17 #[.val (.ref a33), .val (.int (0 : Int32))] [])) (fun t k => XS.icmpYes X3137.here hx rfl (pc0 := 5) (pc' := 17) rfl (hb hby d28_5) rfl (by decide) (by decide) (by decide) k) ?_
  refine own_alN (w := (.ref a33)) X3137 hx (hb hby d28_17) rfl rfl ?_
  refine own_getf X3137 hx hZ hown (own_w hw 15 rfl) e3137 H43 (hb hby d28_18) ?_
  intro T3138 X3138 e3138
  show own_Go _ _ _ _ _ _ _ T3138 (mkF m 21 #[.val (.ref a33), .val (.int (0 : Int32))] [(.ref a268)])
  refine own_ilN (w := (0 : Int32)) X3138 hx (hb hby d28_21) rfl ?_
  refine own_daload X3138 hx hZ e3138 H36 (hb hby d28_22) (n := 0) (v := (.double f3067)) (by decide) (by decide) rfl ?_
  show own_Go _ _ _ _ _ _ _ T3138 (mkF m 23 #[.val (.ref a33), .val (.int (0 : Int32))] [(.double f3067)])
  refine own_alN (w := (.ref a33)) X3138 hx (hb hby d28_23) rfl rfl ?_
  refine own_getf X3138 hx hZ hown (own_w hw 15 rfl) e3138 H43 (hb hby d28_24) ?_
  intro T3139 X3139 e3139
  show own_Go _ _ _ _ _ _ _ T3139 (mkF m 27 #[.val (.ref a33), .val (.int (0 : Int32))] [(.ref a268), (.double f3067)])
  refine own_alN (w := (.ref a33)) X3139 hx (hb hby d28_27) rfl rfl ?_
  refine own_getf X3139 hx hZ hown (own_w hw 31 rfl) e3139 H49 (hb hby d28_28) ?_
  intro T3140 X3140 e3140
  show own_Go _ _ _ _ _ _ _ T3140 (mkF m 31 #[.val (.ref a33), .val (.int (0 : Int32))] [(.ref a274), (.ref a268), (.double f3067)])
  refine own_ilN (w := (0 : Int32)) X3140 hx (hb hby d28_31) rfl ?_
  refine own_iaload X3140 hx hZ e3140 H38 (hb hby d28_32) (n := 0) (v := (.int (3 : Int32))) (by decide) (by decide) rfl ?_
  show own_Go _ _ _ _ _ _ _ T3140 (mkF m 33 #[.val (.ref a33), .val (.int (0 : Int32))] [(.int (3 : Int32)), (.ref a268), (.double f3067)])
  refine own_daload X3140 hx hZ e3140 H36 (hb hby d28_33) (n := 3) (v := (.double f3070)) (by decide) (by decide) rfl ?_
  show own_Go _ _ _ _ _ _ _ T3140 (mkF m 34 #[.val (.ref a33), .val (.int (0 : Int32))] [(.double f3070), (.double f3067)])
  obtain ⟨f3141, hf3141⟩ : ∃ z, FP.dsub f3067 f3070 = z := ⟨_, rfl⟩
  have Df3141 : Jvm.FP.Core.DInt ((v2.toInt + v10.toInt) - (0 + v10.toInt)) f3141 := hf3141 ▸ Jvm.FP.Core.dsub_int H149 H152 (by have := H153; have := H154; have := rng32 v2; have := rng32 v10; omega)
  refine own_pre (g' := (mkF m 35 #[.val (.ref a33), .val (.int (0 : Int32))] [(.double f3141)])) (fun t k => XS.dsubS X3140.here hx rfl (hb hby d28_34) rfl (by rw [hf3141]; exact own_DInt_nn Df3141) hf3141 k) ?_
  exact own_retD X3140 hx hlk hret (hb hby d28_35) e3140 ⟨f3141, rfl, N0, rfl, Df3141⟩ (by decide) (by decide)
def own_s69_Q (Z : State) (a33 : Addr) (a274 : Addr) (a268 : Addr) (cc : Int64) (f3067 : UInt64) (f3068 : UInt64) (f3069 : UInt64) (f3070 : UInt64) (v2 : Int32) (v4 : Int32) (v6 : Int32) (v8 : Int32) (v10 : Int32) (h0 : Heap) (n0 : Nat) (v_ : Option Value) (h_ : Heap) (L_ : List Loc) : Prop := (fun v h L => ∃ (f3152 : UInt64), v = some (.double f3152) ∧ Fr n0 L ∧ h = h0 ∧ FP.Core.DInt ((v6.toInt + v10.toInt) - (v2.toInt + v10.toInt)) f3152) v_ h_ L_
set_option maxRecDepth 65536 in
set_option maxHeartbeats 40000000 in
theorem own_s69 (l : Launch) (Z : State) (a0 : Array Value) (hw : ∀ d ∈ tables_1, d.before a0 Z = true) (wds : List Jvm.Cond) (a33 : Addr) (a274 : Addr) (a268 : Addr) (cc : Int64) (f3067 : UInt64) (f3068 : UInt64) (f3069 : UInt64) (f3070 : UInt64) (v2 : Int32) (v4 : Int32) (v6 : Int32) (v8 : Int32) (v10 : Int32) (h0 : Heap) (n0 : Nat) (Z0 : n0 ≤ h0.size) (H36 : own_Ary Z h0 a268 .double ([(.double f3067), (.double f3068), (.double f3069), (.double f3070)] ++ own_rD 12)) (H38 : own_Ary Z h0 a274 .int ([(.int (3 : Int32)), (.int (2 : Int32)), (.int (0 : Int32)), (.int (-1 : Int32))] ++ own_rI 12)) (H43 : Fld Z h0 a33 own_k0 "ranks" "[D" (.ref a268)) (H49 : Fld Z h0 a33 own_k0 "previousOf" "[I" (.ref a274)) (H50 : Fld Z h0 a33 own_k0 "first" "I" (.int (3 : Int32))) (H149 : FP.Core.DInt (v2.toInt + v10.toInt) f3067) (H151 : FP.Core.DInt (v6.toInt + v10.toInt) f3069) (H153 : 1 ≤ v2.toInt ∧ v2.toInt ≤ v4.toInt ∧ v4.toInt < v6.toInt ∧ v6.toInt < v8.toInt ∧ v8.toInt ≤ 8388608 ∧ 1 ≤ v10.toInt ∧ v10.toInt ≤ 8388608) (H154 : cc.toInt = v10.toInt) :
    MetFree l (⟨own_k0, "count", "(I)D"⟩ : MethodName) (head1 (Jvm.Cond.code (⟨own_k0, "count", "(I)D"⟩ : MethodName) prog_5_method_10_code 2 (some .double) :: wds) ({ frames := 0, cells := 0, slots := 0, locals := 0 } : Room)) (fun ar_ U_ => ar_ = #[(.ref a33), (.int (2 : Int32))] ∧ Z.Warmed39 U_.vm ∧ U_.heap = h0) (fun _ _ _ _ _ => True) (fun _ U_ o_ V_ => ∃ v_ L_, o_ = .returned v_ ∧ own_s69_Q Z a33 a274 a268 cc f3067 f3068 f3069 f3070 v2 v4 v6 v8 v10 h0 n0 v_ V_.heap L_ ∧ FrameEnd U_ o_ V_ L_ ({ frames := 0, cells := 0, slots := 0, locals := 0 } : Room).cells ({ frames := 0, cells := 0, slots := 0, locals := 0 } : Room).slots) := by
  refine own_met (y := ⟨own_k0, "count", "(I)D"⟩) (Q := own_s69_Q Z a33 a274 a268 cc f3067 f3068 f3069 f3070 v2 v4 v6 v8 v10 h0 n0) own_pn1 ?_
  intro p e s m below meth c s₁ hx hby hml hZ hown hnm hret hlk X0 e0
  have N0 := Fr.nil n0
  refine own_cast (g' := (mkF m 0 #[.val (.ref a33), .val (.int (2 : Int32))] [])) (by first | (simp [entryFrame, mkF, argsToLocals, Value.category]; done) | rfl) ?_
  refine own_ilN (w := (2 : Int32)) X0 hx (hb hby d28_0) rfl ?_
  refine own_alN (w := (.ref a33)) X0 hx (hb hby d28_1) rfl rfl ?_
  refine own_getf X0 hx hZ hown (own_w hw 33 rfl) e0 H50 (hb hby d28_2) ?_
  intro T3148 X3148 e3148
  show own_Go _ _ _ _ _ _ _ T3148 (mkF m 5 #[.val (.ref a33), .val (.int (2 : Int32))] [(.int (3 : Int32)), (.int (2 : Int32))])
  refine own_pre (g' := (mkF m 17 #[.val (.ref a33), .val (.int (2 : Int32))] [])) (fun t k => XS.icmpYes X3148.here hx rfl (pc0 := 5) (pc' := 17) rfl (hb hby d28_5) rfl (by decide) (by decide) (by decide) k) ?_
  refine own_alN (w := (.ref a33)) X3148 hx (hb hby d28_17) rfl rfl ?_
  refine own_getf X3148 hx hZ hown (own_w hw 15 rfl) e3148 H43 (hb hby d28_18) ?_
  intro T3149 X3149 e3149
  show own_Go _ _ _ _ _ _ _ T3149 (mkF m 21 #[.val (.ref a33), .val (.int (2 : Int32))] [(.ref a268)])
  refine own_ilN (w := (2 : Int32)) X3149 hx (hb hby d28_21) rfl ?_
  refine own_daload X3149 hx hZ e3149 H36 (hb hby d28_22) (n := 2) (v := (.double f3069)) (by decide) (by decide) rfl ?_
  show own_Go _ _ _ _ _ _ _ T3149 (mkF m 23 #[.val (.ref a33), .val (.int (2 : Int32))] [(.double f3069)])
  refine own_alN (w := (.ref a33)) X3149 hx (hb hby d28_23) rfl rfl ?_
  refine own_getf X3149 hx hZ hown (own_w hw 15 rfl) e3149 H43 (hb hby d28_24) ?_
  intro T3150 X3150 e3150
  show own_Go _ _ _ _ _ _ _ T3150 (mkF m 27 #[.val (.ref a33), .val (.int (2 : Int32))] [(.ref a268), (.double f3069)])
  refine own_alN (w := (.ref a33)) X3150 hx (hb hby d28_27) rfl rfl ?_
  refine own_getf X3150 hx hZ hown (own_w hw 31 rfl) e3150 H49 (hb hby d28_28) ?_
  intro T3151 X3151 e3151
  show own_Go _ _ _ _ _ _ _ T3151 (mkF m 31 #[.val (.ref a33), .val (.int (2 : Int32))] [(.ref a274), (.ref a268), (.double f3069)])
  refine own_ilN (w := (2 : Int32)) X3151 hx (hb hby d28_31) rfl ?_
  refine own_iaload X3151 hx hZ e3151 H38 (hb hby d28_32) (n := 2) (v := (.int (0 : Int32))) (by decide) (by decide) rfl ?_
  show own_Go _ _ _ _ _ _ _ T3151 (mkF m 33 #[.val (.ref a33), .val (.int (2 : Int32))] [(.int (0 : Int32)), (.ref a268), (.double f3069)])
  refine own_daload X3151 hx hZ e3151 H36 (hb hby d28_33) (n := 0) (v := (.double f3067)) (by decide) (by decide) rfl ?_
  show own_Go _ _ _ _ _ _ _ T3151 (mkF m 34 #[.val (.ref a33), .val (.int (2 : Int32))] [(.double f3067), (.double f3069)])
  obtain ⟨f3152, hf3152⟩ : ∃ z, FP.dsub f3069 f3067 = z := ⟨_, rfl⟩
  have Df3152 : Jvm.FP.Core.DInt ((v6.toInt + v10.toInt) - (v2.toInt + v10.toInt)) f3152 := hf3152 ▸ Jvm.FP.Core.dsub_int H151 H149 (by have := H153; have := H154; have := rng32 v6; have := rng32 v10; have := rng32 v2; omega)
  refine own_pre (g' := (mkF m 35 #[.val (.ref a33), .val (.int (2 : Int32))] [(.double f3152)])) (fun t k => XS.dsubS X3151.here hx rfl (hb hby d28_34) rfl (by rw [hf3152]; exact own_DInt_nn Df3152) hf3152 k) ?_
  exact own_retD X3151 hx hlk hret (hb hby d28_35) e3151 ⟨f3152, rfl, N0, rfl, Df3152⟩ (by decide) (by decide)
def own_s70_Q (Z : State) (a33 : Addr) (a274 : Addr) (a268 : Addr) (cc : Int64) (f3067 : UInt64) (f3068 : UInt64) (f3069 : UInt64) (f3070 : UInt64) (v2 : Int32) (v4 : Int32) (v6 : Int32) (v8 : Int32) (v10 : Int32) (h0 : Heap) (n0 : Nat) (v_ : Option Value) (h_ : Heap) (L_ : List Loc) : Prop := (fun v h L => ∃ (f3164 : UInt64), v = some (.double f3164) ∧ Fr n0 L ∧ h = h0 ∧ FP.Core.DInt ((v8.toInt + v10.toInt) - (v6.toInt + v10.toInt)) f3164) v_ h_ L_
set_option maxRecDepth 65536 in
set_option maxHeartbeats 40000000 in
theorem own_s70 (l : Launch) (Z : State) (a0 : Array Value) (hw : ∀ d ∈ tables_1, d.before a0 Z = true) (wds : List Jvm.Cond) (a33 : Addr) (a274 : Addr) (a268 : Addr) (cc : Int64) (f3067 : UInt64) (f3068 : UInt64) (f3069 : UInt64) (f3070 : UInt64) (v2 : Int32) (v4 : Int32) (v6 : Int32) (v8 : Int32) (v10 : Int32) (h0 : Heap) (n0 : Nat) (Z0 : n0 ≤ h0.size) (H36 : own_Ary Z h0 a268 .double ([(.double f3067), (.double f3068), (.double f3069), (.double f3070)] ++ own_rD 12)) (H38 : own_Ary Z h0 a274 .int ([(.int (3 : Int32)), (.int (2 : Int32)), (.int (0 : Int32)), (.int (-1 : Int32))] ++ own_rI 12)) (H43 : Fld Z h0 a33 own_k0 "ranks" "[D" (.ref a268)) (H49 : Fld Z h0 a33 own_k0 "previousOf" "[I" (.ref a274)) (H50 : Fld Z h0 a33 own_k0 "first" "I" (.int (3 : Int32))) (H150 : FP.Core.DInt (v8.toInt + v10.toInt) f3068) (H151 : FP.Core.DInt (v6.toInt + v10.toInt) f3069) (H153 : 1 ≤ v2.toInt ∧ v2.toInt ≤ v4.toInt ∧ v4.toInt < v6.toInt ∧ v6.toInt < v8.toInt ∧ v8.toInt ≤ 8388608 ∧ 1 ≤ v10.toInt ∧ v10.toInt ≤ 8388608) (H154 : cc.toInt = v10.toInt) :
    MetFree l (⟨own_k0, "count", "(I)D"⟩ : MethodName) (head1 (Jvm.Cond.code (⟨own_k0, "count", "(I)D"⟩ : MethodName) prog_5_method_10_code 2 (some .double) :: wds) ({ frames := 0, cells := 0, slots := 0, locals := 0 } : Room)) (fun ar_ U_ => ar_ = #[(.ref a33), (.int (1 : Int32))] ∧ Z.Warmed39 U_.vm ∧ U_.heap = h0) (fun _ _ _ _ _ => True) (fun _ U_ o_ V_ => ∃ v_ L_, o_ = .returned v_ ∧ own_s70_Q Z a33 a274 a268 cc f3067 f3068 f3069 f3070 v2 v4 v6 v8 v10 h0 n0 v_ V_.heap L_ ∧ FrameEnd U_ o_ V_ L_ ({ frames := 0, cells := 0, slots := 0, locals := 0 } : Room).cells ({ frames := 0, cells := 0, slots := 0, locals := 0 } : Room).slots) := by
  refine own_met (y := ⟨own_k0, "count", "(I)D"⟩) (Q := own_s70_Q Z a33 a274 a268 cc f3067 f3068 f3069 f3070 v2 v4 v6 v8 v10 h0 n0) own_pn1 ?_
  intro p e s m below meth c s₁ hx hby hml hZ hown hnm hret hlk X0 e0
  have N0 := Fr.nil n0
  refine own_cast (g' := (mkF m 0 #[.val (.ref a33), .val (.int (1 : Int32))] [])) (by first | (simp [entryFrame, mkF, argsToLocals, Value.category]; done) | rfl) ?_
  refine own_ilN (w := (1 : Int32)) X0 hx (hb hby d28_0) rfl ?_
  refine own_alN (w := (.ref a33)) X0 hx (hb hby d28_1) rfl rfl ?_
  refine own_getf X0 hx hZ hown (own_w hw 33 rfl) e0 H50 (hb hby d28_2) ?_
  intro T3160 X3160 e3160
  show own_Go _ _ _ _ _ _ _ T3160 (mkF m 5 #[.val (.ref a33), .val (.int (1 : Int32))] [(.int (3 : Int32)), (.int (1 : Int32))])
  refine own_pre (g' := (mkF m 17 #[.val (.ref a33), .val (.int (1 : Int32))] [])) (fun t k => XS.icmpYes X3160.here hx rfl (pc0 := 5) (pc' := 17) rfl (hb hby d28_5) rfl (by decide) (by decide) (by decide) k) ?_
  refine own_alN (w := (.ref a33)) X3160 hx (hb hby d28_17) rfl rfl ?_
  refine own_getf X3160 hx hZ hown (own_w hw 15 rfl) e3160 H43 (hb hby d28_18) ?_
  intro T3161 X3161 e3161
  show own_Go _ _ _ _ _ _ _ T3161 (mkF m 21 #[.val (.ref a33), .val (.int (1 : Int32))] [(.ref a268)])
  refine own_ilN (w := (1 : Int32)) X3161 hx (hb hby d28_21) rfl ?_
  refine own_daload X3161 hx hZ e3161 H36 (hb hby d28_22) (n := 1) (v := (.double f3068)) (by decide) (by decide) rfl ?_
  show own_Go _ _ _ _ _ _ _ T3161 (mkF m 23 #[.val (.ref a33), .val (.int (1 : Int32))] [(.double f3068)])
  refine own_alN (w := (.ref a33)) X3161 hx (hb hby d28_23) rfl rfl ?_
  refine own_getf X3161 hx hZ hown (own_w hw 15 rfl) e3161 H43 (hb hby d28_24) ?_
  intro T3162 X3162 e3162
  show own_Go _ _ _ _ _ _ _ T3162 (mkF m 27 #[.val (.ref a33), .val (.int (1 : Int32))] [(.ref a268), (.double f3068)])
  refine own_alN (w := (.ref a33)) X3162 hx (hb hby d28_27) rfl rfl ?_
  refine own_getf X3162 hx hZ hown (own_w hw 31 rfl) e3162 H49 (hb hby d28_28) ?_
  intro T3163 X3163 e3163
  show own_Go _ _ _ _ _ _ _ T3163 (mkF m 31 #[.val (.ref a33), .val (.int (1 : Int32))] [(.ref a274), (.ref a268), (.double f3068)])
  refine own_ilN (w := (1 : Int32)) X3163 hx (hb hby d28_31) rfl ?_
  refine own_iaload X3163 hx hZ e3163 H38 (hb hby d28_32) (n := 1) (v := (.int (2 : Int32))) (by decide) (by decide) rfl ?_
  show own_Go _ _ _ _ _ _ _ T3163 (mkF m 33 #[.val (.ref a33), .val (.int (1 : Int32))] [(.int (2 : Int32)), (.ref a268), (.double f3068)])
  refine own_daload X3163 hx hZ e3163 H36 (hb hby d28_33) (n := 2) (v := (.double f3069)) (by decide) (by decide) rfl ?_
  show own_Go _ _ _ _ _ _ _ T3163 (mkF m 34 #[.val (.ref a33), .val (.int (1 : Int32))] [(.double f3069), (.double f3068)])
  obtain ⟨f3164, hf3164⟩ : ∃ z, FP.dsub f3068 f3069 = z := ⟨_, rfl⟩
  have Df3164 : Jvm.FP.Core.DInt ((v8.toInt + v10.toInt) - (v6.toInt + v10.toInt)) f3164 := hf3164 ▸ Jvm.FP.Core.dsub_int H150 H151 (by have := H153; have := H154; have := rng32 v8; have := rng32 v10; have := rng32 v6; omega)
  refine own_pre (g' := (mkF m 35 #[.val (.ref a33), .val (.int (1 : Int32))] [(.double f3164)])) (fun t k => XS.dsubS X3163.here hx rfl (hb hby d28_34) rfl (by rw [hf3164]; exact own_DInt_nn Df3164) hf3164 k) ?_
  exact own_retD X3163 hx hlk hret (hb hby d28_35) e3163 ⟨f3164, rfl, N0, rfl, Df3164⟩ (by decide) (by decide)
def own_law_Q (Z : State) (p0 p1 p2 p3 p4 : Int32) (rn : Addr) (h0 : Heap) (n0 : Nat) (v_ : Option Value) (h_ : Heap) (L_ : List Loc) : Prop := (fun v h L => v = some (.int 1) ∧ Fr n0 L) v_ h_ L_
set_option maxRecDepth 65536 in
set_option maxHeartbeats 40000000 in
theorem own_law (l : Launch) (Z : State) (a0 : Array Value) (hw : ∀ d ∈ tables_1, d.before a0 Z = true) (wds : List Jvm.Cond) (p0 p1 p2 p3 p4 : Int32) (rn : Addr) (h0 : Heap) (n0 : Nat) (Z0 : n0 ≤ h0.size) (Sn : Sta Z h0 own_k1 "NONE" "Lcom/example/rankline/rankline/Extent;" (.ref rn)) (En : Exa Z h0 rn own_k1) :
    MetFree l x (head1 (Jvm.Cond.code x code maxLocals ret :: wds) room_1) (fun ar_ U_ => ar_ = #[(.int p0), (.int p1), (.int p2), (.int p3), (.int p4)] ∧ Z.Warmed39 U_.vm ∧ U_.heap = h0) (fun _ _ _ _ _ => True) (fun _ U_ o_ V_ => ∃ v_ L_, o_ = .returned v_ ∧ own_law_Q Z p0 p1 p2 p3 p4 rn h0 n0 v_ V_.heap L_ ∧ FrameEnd U_ o_ V_ L_ room_1.cells room_1.slots) := by
  refine own_met (y := x) (Q := own_law_Q Z p0 p1 p2 p3 p4 rn h0 n0) own_pn0 ?_
  intro p e s m below meth c s₁ hx hby hml hZ hown hnm hret hlk X0 e0
  have N0 := Fr.nil n0
  refine own_cast (g' := (mkF m 0 #[.val (.int p0), .val (.int p1), .val (.int p2), .val (.int p3), .val (.int p4), .unset, .unset, .unset, .unset, .unset, .unset, .unset, .unset] [])) (by first | (simp [entryFrame, mkF, argsToLocals, Value.category, maxLocals]; done) | rfl) ?_
  generalize hL1 : (#[.val (.int p0), .val (.int p1), .val (.int p2), .val (.int p3), .val (.int p4), .unset, .unset, .unset, .unset, .unset, .unset, .unset, .unset] : Array Slot) = L1
  refine own_ilN (w := p0) X0 hx (hb hby at_0) (by rw [← hL1]; rfl) ?_
  refine own_ldci X0 hx hZ hown (own_w hw 0 rfl) (hb hby at_1) ?_
  show own_Go _ _ _ _ _ _ _ s₁ (mkF m 3 L1 [(.int (1048575 : Int32)), (.int p0)])
  refine own_pre (g' := (mkF m 4 L1 [(.int (p0 &&& (1048575 : Int32)))])) (fun t k => XS.iand X0.here hx rfl (hb hby at_3) rfl k) ?_
  refine own_ic X0 hx (1 : Int32) (hb hby at_4) rfl ?_
  refine own_pre (g' := (mkF m 6 L1 [(.int ((p0 &&& (1048575 : Int32)) + (1 : Int32)))])) (fun t k => XS.iadd X0.here hx rfl (hb hby at_5) rfl k) ?_
  generalize hv2 : (p0 &&& (1048575 : Int32)) + (1 : Int32) = v2
  refine own_pre (g' := (mkF m 8 #[.val (.int p0), .val (.int p1), .val (.int p2), .val (.int p3), .val (.int p4), .val (.int v2), .unset, .unset, .unset, .unset, .unset, .unset, .unset] [])) (fun t k => XS.istore X0.here hx rfl (hb hby at_6) rfl (l' := #[.val (.int p0), .val (.int p1), .val (.int p2), .val (.int p3), .val (.int p4), .val (.int v2), .unset, .unset, .unset, .unset, .unset, .unset, .unset]) (by rw [← hL1]; rfl) k) ?_
  generalize hL3 : (#[.val (.int p0), .val (.int p1), .val (.int p2), .val (.int p3), .val (.int p4), .val (.int v2), .unset, .unset, .unset, .unset, .unset, .unset, .unset] : Array Slot) = L3
  refine own_il (w := v2) X0 hx (hb hby at_8) (by rw [← hL3]; rfl) ?_
  refine own_ilN (w := p1) X0 hx (hb hby at_10) (by rw [← hL3]; rfl) ?_
  refine own_ldci X0 hx hZ hown (own_w hw 0 rfl) (hb hby at_11) ?_
  show own_Go _ _ _ _ _ _ _ s₁ (mkF m 13 L3 [(.int (1048575 : Int32)), (.int p1), (.int v2)])
  refine own_pre (g' := (mkF m 14 L3 [(.int (p1 &&& (1048575 : Int32))), (.int v2)])) (fun t k => XS.iand X0.here hx rfl (hb hby at_13) rfl k) ?_
  refine own_pre (g' := (mkF m 15 L3 [(.int (v2 + (p1 &&& (1048575 : Int32))))])) (fun t k => XS.iadd X0.here hx rfl (hb hby at_14) rfl k) ?_
  generalize hv4 : v2 + (p1 &&& (1048575 : Int32)) = v4
  refine own_pre (g' := (mkF m 17 #[.val (.int p0), .val (.int p1), .val (.int p2), .val (.int p3), .val (.int p4), .val (.int v2), .val (.int v4), .unset, .unset, .unset, .unset, .unset, .unset] [])) (fun t k => XS.istore X0.here hx rfl (hb hby at_15) rfl (l' := #[.val (.int p0), .val (.int p1), .val (.int p2), .val (.int p3), .val (.int p4), .val (.int v2), .val (.int v4), .unset, .unset, .unset, .unset, .unset, .unset]) (by rw [← hL3]; rfl) k) ?_
  generalize hL5 : (#[.val (.int p0), .val (.int p1), .val (.int p2), .val (.int p3), .val (.int p4), .val (.int v2), .val (.int v4), .unset, .unset, .unset, .unset, .unset, .unset] : Array Slot) = L5
  refine own_il (w := v4) X0 hx (hb hby at_17) (by rw [← hL5]; rfl) ?_
  refine own_ilN (w := p2) X0 hx (hb hby at_19) (by rw [← hL5]; rfl) ?_
  refine own_ldci X0 hx hZ hown (own_w hw 0 rfl) (hb hby at_20) ?_
  show own_Go _ _ _ _ _ _ _ s₁ (mkF m 22 L5 [(.int (1048575 : Int32)), (.int p2), (.int v4)])
  refine own_pre (g' := (mkF m 23 L5 [(.int (p2 &&& (1048575 : Int32))), (.int v4)])) (fun t k => XS.iand X0.here hx rfl (hb hby at_22) rfl k) ?_
  refine own_pre (g' := (mkF m 24 L5 [(.int (v4 + (p2 &&& (1048575 : Int32))))])) (fun t k => XS.iadd X0.here hx rfl (hb hby at_23) rfl k) ?_
  refine own_ic X0 hx (1 : Int32) (hb hby at_24) rfl ?_
  refine own_pre (g' := (mkF m 26 L5 [(.int ((v4 + (p2 &&& (1048575 : Int32))) + (1 : Int32)))])) (fun t k => XS.iadd X0.here hx rfl (hb hby at_25) rfl k) ?_
  generalize hv6 : (v4 + (p2 &&& (1048575 : Int32))) + (1 : Int32) = v6
  refine own_pre (g' := (mkF m 28 #[.val (.int p0), .val (.int p1), .val (.int p2), .val (.int p3), .val (.int p4), .val (.int v2), .val (.int v4), .val (.int v6), .unset, .unset, .unset, .unset, .unset] [])) (fun t k => XS.istore X0.here hx rfl (hb hby at_26) rfl (l' := #[.val (.int p0), .val (.int p1), .val (.int p2), .val (.int p3), .val (.int p4), .val (.int v2), .val (.int v4), .val (.int v6), .unset, .unset, .unset, .unset, .unset]) (by rw [← hL5]; rfl) k) ?_
  generalize hL7 : (#[.val (.int p0), .val (.int p1), .val (.int p2), .val (.int p3), .val (.int p4), .val (.int v2), .val (.int v4), .val (.int v6), .unset, .unset, .unset, .unset, .unset] : Array Slot) = L7
  refine own_il (w := v6) X0 hx (hb hby at_28) (by rw [← hL7]; rfl) ?_
  refine own_ilN (w := p3) X0 hx (hb hby at_30) (by rw [← hL7]; rfl) ?_
  refine own_ldci X0 hx hZ hown (own_w hw 0 rfl) (hb hby at_31) ?_
  show own_Go _ _ _ _ _ _ _ s₁ (mkF m 33 L7 [(.int (1048575 : Int32)), (.int p3), (.int v6)])
  refine own_pre (g' := (mkF m 34 L7 [(.int (p3 &&& (1048575 : Int32))), (.int v6)])) (fun t k => XS.iand X0.here hx rfl (hb hby at_33) rfl k) ?_
  refine own_pre (g' := (mkF m 35 L7 [(.int (v6 + (p3 &&& (1048575 : Int32))))])) (fun t k => XS.iadd X0.here hx rfl (hb hby at_34) rfl k) ?_
  refine own_ic X0 hx (1 : Int32) (hb hby at_35) rfl ?_
  refine own_pre (g' := (mkF m 37 L7 [(.int ((v6 + (p3 &&& (1048575 : Int32))) + (1 : Int32)))])) (fun t k => XS.iadd X0.here hx rfl (hb hby at_36) rfl k) ?_
  generalize hv8 : (v6 + (p3 &&& (1048575 : Int32))) + (1 : Int32) = v8
  refine own_pre (g' := (mkF m 39 #[.val (.int p0), .val (.int p1), .val (.int p2), .val (.int p3), .val (.int p4), .val (.int v2), .val (.int v4), .val (.int v6), .val (.int v8), .unset, .unset, .unset, .unset] [])) (fun t k => XS.istore X0.here hx rfl (hb hby at_37) rfl (l' := #[.val (.int p0), .val (.int p1), .val (.int p2), .val (.int p3), .val (.int p4), .val (.int v2), .val (.int v4), .val (.int v6), .val (.int v8), .unset, .unset, .unset, .unset]) (by rw [← hL7]; rfl) k) ?_
  generalize hL9 : (#[.val (.int p0), .val (.int p1), .val (.int p2), .val (.int p3), .val (.int p4), .val (.int v2), .val (.int v4), .val (.int v6), .val (.int v8), .unset, .unset, .unset, .unset] : Array Slot) = L9
  refine own_il (w := p4) X0 hx (hb hby at_39) (by rw [← hL9]; rfl) ?_
  refine own_ldci X0 hx hZ hown (own_w hw 0 rfl) (hb hby at_41) ?_
  show own_Go _ _ _ _ _ _ _ s₁ (mkF m 43 L9 [(.int (1048575 : Int32)), (.int p4)])
  refine own_pre (g' := (mkF m 44 L9 [(.int (p4 &&& (1048575 : Int32)))])) (fun t k => XS.iand X0.here hx rfl (hb hby at_43) rfl k) ?_
  refine own_ic X0 hx (1 : Int32) (hb hby at_44) rfl ?_
  refine own_pre (g' := (mkF m 46 L9 [(.int ((p4 &&& (1048575 : Int32)) + (1 : Int32)))])) (fun t k => XS.iadd X0.here hx rfl (hb hby at_45) rfl k) ?_
  generalize hv10 : (p4 &&& (1048575 : Int32)) + (1 : Int32) = v10
  refine own_pre (g' := (mkF m 48 #[.val (.int p0), .val (.int p1), .val (.int p2), .val (.int p3), .val (.int p4), .val (.int v2), .val (.int v4), .val (.int v6), .val (.int v8), .val (.int v10), .unset, .unset, .unset] [])) (fun t k => XS.istore X0.here hx rfl (hb hby at_46) rfl (l' := #[.val (.int p0), .val (.int p1), .val (.int p2), .val (.int p3), .val (.int p4), .val (.int v2), .val (.int v4), .val (.int v6), .val (.int v8), .val (.int v10), .unset, .unset, .unset]) (by rw [← hL9]; rfl) k) ?_
  generalize hL11 : (#[.val (.int p0), .val (.int p1), .val (.int p2), .val (.int p3), .val (.int p4), .val (.int v2), .val (.int v4), .val (.int v6), .val (.int v8), .val (.int v10), .unset, .unset, .unset] : Array Slot) = L11
  have hP := own_rng hv2 hv4 hv6 hv8 hv10
  refine own_ic X0 hx (1 : Int32) (hb hby at_48) rfl ?_
  refine own_newarr X0 hx hZ (aty := .double) (own_w hw 1 rfl) e0 (hb hby at_49) (n := 1) (by decide) (by decide) (by decide) (by decide) (by decide) (ad := "[D") rfl ?_
  intro T12 h12 a12 g12 X12 e12 E12 A12 B12
  have nw14 : n0 ≤ a12 := Nat.le_trans Z0 (Nat.le_of_eq g12.symm)
  have F15 : own_Ary Z h12 a12 .double [(.double (0 : UInt64))] := A12
  show own_Go _ _ _ _ _ _ _ T12 (mkF m 51 L11 [(.ref a12)])
  refine own_pre (g' := (mkF m 52 L11 [(.ref a12), (.ref a12)])) (fun t k => XS.dup X12.here hx rfl (hb hby at_51) rfl rfl k) ?_
  refine own_ic X12 hx (0 : Int32) (hb hby at_52) rfl ?_
  refine own_ldcd X12 hx hZ hown (own_w hw 2 rfl) (hb hby at_53) ?_
  show own_Go _ _ _ _ _ _ _ T12 (mkF m 56 L11 [(.double (4617315517961601024 : UInt64)), (.int (0 : Int32)), (.ref a12), (.ref a12)])
  refine own_dastore X12 hx hZ e12 N0 nw14 F15 (hb hby at_56) (n := 0) (by decide) (by decide) (by show 0 < 1; decide) ?_
  intro T16 h16 lo16 X16 e16 N16 W16
  have F17 : own_Ary Z h16 a12 .double [(.double (4617315517961601024 : UInt64))] := F15.set W16
  show own_Go _ _ _ _ _ _ _ T16 (mkF m 57 L11 [(.ref a12)])
  refine own_pre (g' := (mkF m 59 #[.val (.int p0), .val (.int p1), .val (.int p2), .val (.int p3), .val (.int p4), .val (.int v2), .val (.int v4), .val (.int v6), .val (.int v8), .val (.int v10), .val (.ref a12), .unset, .unset] [])) (fun t k => XS.astore X16.here hx rfl (hb hby at_57) rfl rfl (l' := #[.val (.int p0), .val (.int p1), .val (.int p2), .val (.int p3), .val (.int p4), .val (.int v2), .val (.int v4), .val (.int v6), .val (.int v8), .val (.int v10), .val (.ref a12), .unset, .unset]) (by rw [← hL11]; rfl) k) ?_
  generalize hL18 : (#[.val (.int p0), .val (.int p1), .val (.int p2), .val (.int p3), .val (.int p4), .val (.int v2), .val (.int v4), .val (.int v6), .val (.int v8), .val (.int v10), .val (.ref a12), .unset, .unset] : Array Slot) = L18
  refine own_ic X16 hx (1 : Int32) (hb hby at_59) rfl ?_
  have F19 := ((En.ext E12).wr W16)
  have F20 : n0 ≤ h16.size := (Nat.le_trans (Nat.le_trans Z0 E12.1) (Nat.le_of_eq W16.size.symm))
  refine own_newarr X16 hx hZ (aty := .long) (own_w hw 3 rfl) e16 (hb hby at_60) (n := 1) (by decide) (by decide) (by decide) (by decide) (by decide) (ad := "[J") rfl ?_
  intro T21 h21 a21 g21 X21 e21 E21 A21 B21
  have lt23 : a12 < a21 := Nat.lt_of_lt_of_le F17.lt (Nat.le_of_eq g21.symm)
  have nw24 : n0 ≤ a21 := Nat.le_trans F20 (Nat.le_of_eq g21.symm)
  have F25 : own_Ary Z h21 a21 .long [(.long (0 : Int64))] := A21
  show own_Go _ _ _ _ _ _ _ T21 (mkF m 62 L18 [(.ref a21)])
  refine own_pre (g' := (mkF m 63 L18 [(.ref a21), (.ref a21)])) (fun t k => XS.dup X21.here hx rfl (hb hby at_62) rfl rfl k) ?_
  refine own_ic X21 hx (0 : Int32) (hb hby at_63) rfl ?_
  refine own_il (w := v10) X21 hx (hb hby at_64) (by rw [← hL18]; rfl) ?_
  refine own_pre (g' := (mkF m 67 L18 [(.long v10.toInt64), (.int (0 : Int32)), (.ref a21), (.ref a21)])) (fun t k => XT.i2l X21.here hx rfl (hb hby at_66) rfl k) ?_
  generalize hv26 : v10.toInt64 = v26
  refine own_lastore X21 hx hZ e21 N16 nw24 F25 (hb hby at_67) (n := 0) (by decide) (by decide) (by show 0 < 1; decide) ?_
  intro T27 h27 lo27 X27 e27 N27 W27
  have F28 : own_Ary Z h27 a21 .long [(.long v26)] := F25.set W27
  show own_Go _ _ _ _ _ _ _ T27 (mkF m 68 L18 [(.ref a21)])
  refine own_pre (g' := (mkF m 70 #[.val (.int p0), .val (.int p1), .val (.int p2), .val (.int p3), .val (.int p4), .val (.int v2), .val (.int v4), .val (.int v6), .val (.int v8), .val (.int v10), .val (.ref a12), .val (.ref a21), .unset] [])) (fun t k => XS.astore X27.here hx rfl (hb hby at_68) rfl rfl (l' := #[.val (.int p0), .val (.int p1), .val (.int p2), .val (.int p3), .val (.int p4), .val (.int v2), .val (.int v4), .val (.int v6), .val (.int v8), .val (.int v10), .val (.ref a12), .val (.ref a21), .unset]) (by rw [← hL18]; rfl) k) ?_
  generalize hL29 : (#[.val (.int p0), .val (.int p1), .val (.int p2), .val (.int p3), .val (.int p4), .val (.int v2), .val (.int v4), .val (.int v6), .val (.int v8), .val (.int v10), .val (.ref a12), .val (.ref a21), .unset] : Array Slot) = L29
  have F30 := ((F19.ext E21).wr W27)
  have F31 := ((F17.ext E21).other W27 (Nat.ne_of_lt lt23))
  have F32 : n0 ≤ h27.size := (Nat.le_trans (Nat.le_trans F20 E21.1) (Nat.le_of_eq W27.size.symm))
  refine own_newobj X27 hx hZ hown (own_w hw 4 rfl) (own_w hw 5 rfl) (own_w hw 6 rfl) e27 (hb hby at_70) (by decide) (by decide) ?_
  intro T33 h33 a33 g33 X33 e33 E33 A33 D33
  have lt35 : a12 < a33 := Nat.lt_of_lt_of_le F31.lt (Nat.le_of_eq g33.symm)
  have lt36 : a21 < a33 := Nat.lt_of_lt_of_le F28.lt (Nat.le_of_eq g33.symm)
  have nw37 : n0 ≤ a33 := Nat.le_trans F32 (Nat.le_of_eq g33.symm)
  have F38 : Fld Z h33 a33 own_k0 "thresholds" "[D" .null := D33 (Or.inl (own_w hw 14 rfl)) (ty := (.array .double)) (by decide)
  have F39 : Fld Z h33 a33 own_k0 "ranks" "[D" .null := D33 (Or.inl (own_w hw 16 rfl)) (ty := (.array .double)) (by decide)
  have F40 : Fld Z h33 a33 own_k0 "guarded" "[Z" .null := D33 (Or.inl (own_w hw 19 rfl)) (ty := (.array .boolean)) (by decide)
  have F41 : Fld Z h33 a33 own_k0 "extents" own_k4 .null := D33 (Or.inl (own_w hw 23 rfl)) (ty := (.array (.object own_k1))) (by decide)
  have F42 : Fld Z h33 a33 own_k0 "addedAtThreshold" "[Z" .null := D33 (Or.inl (own_w hw 25 rfl)) (ty := (.array .boolean)) (by decide)
  have F43 : Fld Z h33 a33 own_k0 "copies" "[J" .null := D33 (Or.inl (own_w hw 27 rfl)) (ty := (.array .long)) (by decide)
  have F44 : Fld Z h33 a33 own_k0 "nextOf" "[I" .null := D33 (Or.inl (own_w hw 30 rfl)) (ty := (.array .int)) (by decide)
  have F45 : Fld Z h33 a33 own_k0 "previousOf" "[I" .null := D33 (Or.inl (own_w hw 32 rfl)) (ty := (.array .int)) (by decide)
  have F46 : Fld Z h33 a33 own_k0 "first" "I" (.int (0 : Int32)) := D33 (Or.inl (own_w hw 34 rfl)) (ty := .int) (by decide)
  have F47 : Fld Z h33 a33 own_k0 "last" "I" (.int (0 : Int32)) := D33 (Or.inl (own_w hw 36 rfl)) (ty := .int) (by decide)
  have F48 : Fld Z h33 a33 own_k0 "free" "I" (.int (0 : Int32)) := D33 (Or.inl (own_w hw 38 rfl)) (ty := .int) (by decide)
  have F49 : Fld Z h33 a33 own_k0 "smallestMagnitude" "D" (.double (0 : UInt64)) := D33 (Or.inl (own_w hw 41 rfl)) (ty := .double) (by decide)
  have F50 : Fld Z h33 a33 own_k0 "size" "I" (.int (0 : Int32)) := D33 (Or.inl (own_w hw 49 rfl)) (ty := .int) (by decide)
  have F51 : Fld Z h33 a33 own_k0 "used" "I" (.int (0 : Int32)) := D33 (Or.inl (own_w hw 91 rfl)) (ty := .int) (by decide)
  show own_Go _ _ _ _ _ _ _ T33 (mkF m 73 L29 [(.ref a33)])
  refine own_pre (g' := (mkF m 74 L29 [(.ref a33), (.ref a33)])) (fun t k => XS.dup X33.here hx rfl (hb hby at_73) rfl rfl k) ?_
  have F52 := (((((Sn.ext E12).wr W16).ext E21).wr W27).ext E33)
  have F53 := (F30.ext E33)
  have F265 : n0 ≤ h33.size := (Nat.le_trans F32 E33.1)
  refine own_init (a := a33) (argsL := []) (rest := [(.ref a33)]) X33 hx hZ hown (own_s1 l Z a0 hw [] a33 h33 n0 F265 A33 F38 F39 F40 F41 F42 F43 F44 F45 F46 F47 F48 F49 F50 F51 nw37) rfl (own_w hw 7 rfl) (own_w hw 8 rfl) (own_w hw 9 rfl) (own_w hw 6 rfl) (by decide) e33 (hb hby at_74) (by rw [hml, ← hL29]; rfl) rfl (lenOf own_pd0 rfl) (by decide) (W := 1) (Nat.le_of_eq rfl) (by decide) (by decide) (by decide) ?_
  intro v266 T266 lo266 X266 Q266
  obtain ⟨h266, e266⟩ : ∃ h, T266.heap = h := ⟨_, rfl⟩
  rw [e266] at Q266
  have F342 := (F31.ext E33)
  have F343 := (F28.ext E33)
  obtain ⟨a267, a268, a269, a270, a271, a272, a273, a274, rfl, N266, K266, ge275, ge276, ge277, ge278, ge279, ge280, ge281, ge282, lt283, lt284, lt285, lt286, lt287, lt288, lt289, lt290, lt291, lt292, lt293, lt294, lt295, lt296, lt297, lt298, lt299, lt300, lt301, lt302, lt303, lt304, lt305, lt306, lt307, lt308, lt309, lt310, F311, F312, F313, F314, F315, F316, F317, F318, F319, F320, F321, F322, F323, F324, F325, F326, F327, F328, F329, F330, F331, F332, F333, F334, F335, F336, F337, F338, F339, F340, F341⟩ := Q266
  have N266' := Fr.app N27 N266
  have F344 : Sta Z h266 own_k1 "NONE" "Lcom/example/rankline/rankline/Extent;" (.ref rn) := own_Sta_keep F52 K266 (allS (own_exs A33) all0)
  show own_Go _ _ _ _ _ _ _ T266 (mkF m 77 L29 [(.ref a33)])
  have lt346 : a12 < a267 := Nat.lt_of_lt_of_le F342.lt ge275
  have lt347 : a21 < a267 := Nat.lt_of_lt_of_le F343.lt ge275
  have lt348 : a33 < a267 := Nat.lt_of_lt_of_le A33.lt ge275
  have nw349 : n0 ≤ a267 := Nat.le_trans F265 ge275
  have lt351 : a12 < a268 := Nat.lt_of_lt_of_le F342.lt ge276
  have lt352 : a21 < a268 := Nat.lt_of_lt_of_le F343.lt ge276
  have lt353 : a33 < a268 := Nat.lt_of_lt_of_le A33.lt ge276
  have nw354 : n0 ≤ a268 := Nat.le_trans F265 ge276
  have lt356 : a12 < a269 := Nat.lt_of_lt_of_le F342.lt ge277
  have lt357 : a21 < a269 := Nat.lt_of_lt_of_le F343.lt ge277
  have lt358 : a33 < a269 := Nat.lt_of_lt_of_le A33.lt ge277
  have nw359 : n0 ≤ a269 := Nat.le_trans F265 ge277
  have lt361 : a12 < a270 := Nat.lt_of_lt_of_le F342.lt ge278
  have lt362 : a21 < a270 := Nat.lt_of_lt_of_le F343.lt ge278
  have lt363 : a33 < a270 := Nat.lt_of_lt_of_le A33.lt ge278
  have nw364 : n0 ≤ a270 := Nat.le_trans F265 ge278
  have lt366 : a12 < a271 := Nat.lt_of_lt_of_le F342.lt ge279
  have lt367 : a21 < a271 := Nat.lt_of_lt_of_le F343.lt ge279
  have lt368 : a33 < a271 := Nat.lt_of_lt_of_le A33.lt ge279
  have nw369 : n0 ≤ a271 := Nat.le_trans F265 ge279
  have lt371 : a12 < a272 := Nat.lt_of_lt_of_le F342.lt ge280
  have lt372 : a21 < a272 := Nat.lt_of_lt_of_le F343.lt ge280
  have lt373 : a33 < a272 := Nat.lt_of_lt_of_le A33.lt ge280
  have nw374 : n0 ≤ a272 := Nat.le_trans F265 ge280
  have lt376 : a12 < a273 := Nat.lt_of_lt_of_le F342.lt ge281
  have lt377 : a21 < a273 := Nat.lt_of_lt_of_le F343.lt ge281
  have lt378 : a33 < a273 := Nat.lt_of_lt_of_le A33.lt ge281
  have nw379 : n0 ≤ a273 := Nat.le_trans F265 ge281
  have lt381 : a12 < a274 := Nat.lt_of_lt_of_le F342.lt ge282
  have lt382 : a21 < a274 := Nat.lt_of_lt_of_le F343.lt ge282
  have lt383 : a33 < a274 := Nat.lt_of_lt_of_le A33.lt ge282
  have nw384 : n0 ≤ a274 := Nat.le_trans F265 ge282
  refine own_pre (g' := (mkF m 79 #[.val (.int p0), .val (.int p1), .val (.int p2), .val (.int p3), .val (.int p4), .val (.int v2), .val (.int v4), .val (.int v6), .val (.int v8), .val (.int v10), .val (.ref a12), .val (.ref a21), .val (.ref a33)] [])) (fun t k => XS.astore X266.here hx rfl (hb hby at_77) rfl rfl (l' := #[.val (.int p0), .val (.int p1), .val (.int p2), .val (.int p3), .val (.int p4), .val (.int v2), .val (.int v4), .val (.int v6), .val (.int v8), .val (.int v10), .val (.ref a12), .val (.ref a21), .val (.ref a33)]) (by rw [← hL29]; rfl) k) ?_
  generalize hL385 : (#[.val (.int p0), .val (.int p1), .val (.int p2), .val (.int p3), .val (.int p4), .val (.int v2), .val (.int v4), .val (.int v6), .val (.int v8), .val (.int v10), .val (.ref a12), .val (.ref a21), .val (.ref a33)] : Array Slot) = L385
  refine own_al (w := (.ref a33)) X266 hx (hb hby at_79) (by rw [← hL385]; rfl) rfl ?_
  refine own_ldcd X266 hx hZ hown (own_w hw 42 rfl) (hb hby at_81) ?_
  show own_Go _ _ _ _ _ _ _ T266 (mkF m 84 L385 [(.double (4621819117588971520 : UInt64)), (.ref a33)])
  refine own_il (w := v2) X266 hx (hb hby at_84) (by rw [← hL385]; rfl) ?_
  obtain ⟨f386, hf386⟩ : ∃ z, FP.i2d v2 = z := ⟨_, rfl⟩
  refine own_pre (g' := (mkF m 87 L385 [(.double f386), (.double (4621819117588971520 : UInt64)), (.ref a33)])) (fun t k => XS.i2dS X266.here hx rfl (hb hby at_86) rfl hf386 k) ?_
  have Df386 : Jvm.FP.Core.DInt v2.toInt f386 := hf386 ▸ Jvm.FP.Core.i2d_int _
  have F388 := (F53.keep K266)
  have F389 := (A33.keep K266)
  have F809 : n0 ≤ h266.size := (Nat.le_trans F265 K266.1)
  refine own_callv (a := a33) (argsL := [(.double (4621819117588971520 : UInt64)), (.double f386)]) (rest := []) X266 hx hZ hown (own_s2 l Z a0 hw [] a33 f386 a267 a268 a269 a270 a271 a272 a273 a274 h266 n0 F809 F389 F311 F312 F313 F314 F315 F316 F317 F318 F319 F320 F321 F322 F323 F324 F325 F327 F329 F331 F333 F335 F336 F338 F340 lt348 lt353 lt358 lt363 lt368 lt373 lt378 lt383 nw37 lt283 lt284 lt285 lt286 lt287 lt288 lt289 nw349 lt290 lt291 lt292 lt293 lt294 lt295 nw354 lt296 lt297 lt298 lt299 lt300 nw359 lt301 lt302 lt303 lt304 nw364 lt305 lt306 lt307 nw369 lt308 lt309 nw374 lt310 nw379 nw384) F389 (own_w hw 43 rfl) (own_w hw 44 rfl) (own_w hw 46 rfl) (own_w hw 45 rfl) (own_w hw 47 rfl) (own_w hw 6 rfl) (by decide) e266 (hb hby at_87) (by rw [hml, ← hL385]; rfl) rfl (lenOf own_pd6 rfl) (by decide) (W := 0) (Nat.le_of_eq rfl) (by decide) (by decide) (by decide) ?_
  intro v810 T810 lo810 X810 Q810
  obtain ⟨h810, e810⟩ : ∃ h, T810.heap = h := ⟨_, rfl⟩
  rw [e810] at Q810
  have F842 := (F342.keep K266 (ninS (Nat.ne_of_lt lt35) nin0))
  have F843 := (F343.keep K266 (ninS (Nat.ne_of_lt lt36) nin0))
  obtain ⟨a811, rfl, N810, K810, ge812, F813, F814, F815, F816, F817, F818, F819, F820, F821, F822, F823, F824, F825, F826, F827, F828, F829, F830, F831, F832, F833, F834, F835, F836, F837, F838, F839, F840, F841⟩ := Q810
  have N810' := Fr.app N266' N810
  have F844 : Sta Z h810 own_k1 "NONE" "Lcom/example/rankline/rankline/Extent;" (.ref rn) := own_Sta_keep F344 K810 (allS (own_exs F389) (allS (own_exs F341) (allS (own_exs F339) (allS (own_exs F337) (allS (own_exs F334) (allS (own_exs F332) (allS (own_exs F330) (allS (own_exs F328) (allS (own_exs F326) all0)))))))))
  show own_Go _ _ _ _ _ _ _ T810 (mkF m 90 L385 [])
  refine own_al (w := (.ref a33)) X810 hx (hb hby at_90) (by rw [← hL385]; rfl) rfl ?_
  refine own_ldcd X810 hx hZ hown (own_w hw 93 rfl) (hb hby at_92) ?_
  show own_Go _ _ _ _ _ _ _ T810 (mkF m 95 L385 [(.double (4626322717216342016 : UInt64)), (.ref a33)])
  refine own_il (w := v4) X810 hx (hb hby at_95) (by rw [← hL385]; rfl) ?_
  obtain ⟨f858, hf858⟩ : ∃ z, FP.i2d v4 = z := ⟨_, rfl⟩
  refine own_pre (g' := (mkF m 98 L385 [(.double f858), (.double (4626322717216342016 : UInt64)), (.ref a33)])) (fun t k => XS.i2dS X810.here hx rfl (hb hby at_97) rfl hf858 k) ?_
  have Df858 : Jvm.FP.Core.DInt v4.toInt f858 := hf858 ▸ Jvm.FP.Core.i2d_int _
  have F860 := (F388.keep K810)
  have F861 := (F389.keep K810)
  have F862 := (F326.keep K810)
  have F863 := (F328.keep K810)
  have F864 := (F330.keep K810)
  have F865 := (F332.keep K810)
  have F866 := (F334.keep K810)
  have F867 := (F335.keep K810)
  have F868 := (F337.keep K810)
  have F869 := (F339.keep K810)
  have F870 := (F341.keep K810)
  have F1170 : n0 ≤ h810.size := (Nat.le_trans F809 K810.1)
  refine own_callv (a := a33) (argsL := [(.double (4626322717216342016 : UInt64)), (.double f858)]) (rest := []) X810 hx hZ hown (own_s12 l Z a0 hw [] a33 f858 a274 a273 a272 a271 a270 a269 a268 a267 a811 f386 v4 v2 v6 v8 v10 h810 n0 F1170 F861 F862 F863 F864 F865 F866 F867 F868 F869 F870 F813 F814 F815 F816 F817 F818 F819 F820 F821 F822 F823 F824 F825 F826 F827 F828 F829 F830 F831 F832 F833 F834 lt348 lt353 lt358 lt363 lt368 lt373 lt378 lt383 nw37 lt283 lt284 lt285 lt286 lt287 lt288 lt289 nw349 lt290 lt291 lt292 lt293 lt294 lt295 nw354 lt296 lt297 lt298 lt299 lt300 nw359 lt301 lt302 lt303 lt304 nw364 lt305 lt306 lt307 nw369 lt308 lt309 nw374 lt310 nw379 nw384 Df858 Df386 hP) F861 (own_w hw 43 rfl) (own_w hw 44 rfl) (own_w hw 46 rfl) (own_w hw 45 rfl) (own_w hw 47 rfl) (own_w hw 6 rfl) (by decide) e810 (hb hby at_98) (by rw [hml, ← hL385]; rfl) rfl (lenOf own_pd6 rfl) (by decide) (W := 0) (Nat.le_of_eq rfl) (by decide) (by decide) (by decide) ?_
  intro v1171 T1171 lo1171 X1171 Q1171
  obtain ⟨h1171, e1171⟩ : ∃ h, T1171.heap = h := ⟨_, rfl⟩
  rw [e1171] at Q1171
  have F1205 := (F842.keep K810 (ninS (Nat.ne_of_lt lt35) (ninS (Nat.ne_of_lt lt346) (ninS (Nat.ne_of_lt lt351) (ninS (Nat.ne_of_lt lt356) (ninS (Nat.ne_of_lt lt361) (ninS (Nat.ne_of_lt lt366) (ninS (Nat.ne_of_lt lt371) (ninS (Nat.ne_of_lt lt376) (ninS (Nat.ne_of_lt lt381) nin0))))))))))
  have F1206 := (F843.keep K810 (ninS (Nat.ne_of_lt lt36) (ninS (Nat.ne_of_lt lt347) (ninS (Nat.ne_of_lt lt352) (ninS (Nat.ne_of_lt lt357) (ninS (Nat.ne_of_lt lt362) (ninS (Nat.ne_of_lt lt367) (ninS (Nat.ne_of_lt lt372) (ninS (Nat.ne_of_lt lt377) (ninS (Nat.ne_of_lt lt382) nin0))))))))))
  obtain ⟨a1172, f1173, rfl, N1171, K1171, ge1174, F1175, F1176, F1177, F1178, F1179, F1180, F1181, F1182, F1183, F1184, F1185, F1186, F1187, F1188, F1189, F1190, F1191, F1192, F1193, F1194, F1195, F1196, F1197, F1198, F1199, F1200, F1201, F1202, F1203, D1204⟩ := Q1171
  have N1171' := Fr.app N810' N1171
  have F1207 : Sta Z h1171 own_k1 "NONE" "Lcom/example/rankline/rankline/Extent;" (.ref rn) := own_Sta_keep F844 K1171 (allS (own_exs F861) (allS (own_exs F870) (allS (own_exs F869) (allS (own_exs F868) (allS (own_exs F866) (allS (own_exs F865) (allS (own_exs F864) (allS (own_exs F863) (allS (own_exs F862) all0)))))))))
  show own_Go _ _ _ _ _ _ _ T1171 (mkF m 101 L385 [])
  have lt1211 : a33 < a1172 := Nat.lt_of_lt_of_le F861.lt ge1174
  have lt1212 : a267 < a1172 := Nat.lt_of_lt_of_le F870.lt ge1174
  have lt1213 : a268 < a1172 := Nat.lt_of_lt_of_le F869.lt ge1174
  have lt1214 : a269 < a1172 := Nat.lt_of_lt_of_le F868.lt ge1174
  have lt1215 : a270 < a1172 := Nat.lt_of_lt_of_le F866.lt ge1174
  have lt1216 : a271 < a1172 := Nat.lt_of_lt_of_le F865.lt ge1174
  have lt1217 : a272 < a1172 := Nat.lt_of_lt_of_le F864.lt ge1174
  have lt1218 : a273 < a1172 := Nat.lt_of_lt_of_le F863.lt ge1174
  have lt1219 : a274 < a1172 := Nat.lt_of_lt_of_le F862.lt ge1174
  refine own_al (w := (.ref a33)) X1171 hx (hb hby at_101) (by rw [← hL385]; rfl) rfl ?_
  refine own_ldcd X1171 hx hZ hown (own_w hw 94 rfl) (hb hby at_103) ?_
  show own_Go _ _ _ _ _ _ _ T1171 (mkF m 106 L385 [(.double (4629137466983448576 : UInt64)), (.ref a33)])
  refine own_il (w := v6) X1171 hx (hb hby at_106) (by rw [← hL385]; rfl) ?_
  obtain ⟨f1222, hf1222⟩ : ∃ z, FP.i2d v6 = z := ⟨_, rfl⟩
  refine own_pre (g' := (mkF m 109 L385 [(.double f1222), (.double (4629137466983448576 : UInt64)), (.ref a33)])) (fun t k => XS.i2dS X1171.here hx rfl (hb hby at_108) rfl hf1222 k) ?_
  have Df1222 : Jvm.FP.Core.DInt v6.toInt f1222 := hf1222 ▸ Jvm.FP.Core.i2d_int _
  have F1224 := (F860.keep K1171)
  have F1225 := (F861.keep K1171)
  have F1226 := (F862.keep K1171)
  have F1227 := (F863.keep K1171)
  have F1228 := (F864.keep K1171)
  have F1229 := (F865.keep K1171)
  have F1230 := (F866.keep K1171)
  have F1231 := (F867.keep K1171)
  have F1232 := (F868.keep K1171)
  have F1233 := (F869.keep K1171)
  have F1234 := (F870.keep K1171)
  have F1549 : n0 ≤ h1171.size := (Nat.le_trans F1170 K1171.1)
  refine own_callv (a := a33) (argsL := [(.double (4629137466983448576 : UInt64)), (.double f1222)]) (rest := []) X1171 hx hZ hown (own_s19 l Z a0 hw [] a33 f1222 a274 a273 a272 a271 a270 a269 a268 a267 a811 f386 a1172 f858 v6 v2 v4 v8 v10 h1171 n0 F1549 F1225 F1226 F1227 F1228 F1229 F1230 F1231 F1232 F1233 F1234 F1175 F1176 F1177 F1178 F1179 F1180 F1181 F1182 F1183 F1184 F1185 F1186 F1187 F1188 F1189 F1190 F1191 F1192 F1193 F1194 F1195 F1196 lt348 lt353 lt358 lt363 lt368 lt373 lt378 lt383 nw37 lt283 lt284 lt285 lt286 lt287 lt288 lt289 nw349 lt290 lt291 lt292 lt293 lt294 lt295 nw354 lt296 lt297 lt298 lt299 lt300 nw359 lt301 lt302 lt303 lt304 nw364 lt305 lt306 lt307 nw369 lt308 lt309 nw374 lt310 nw379 nw384 Df1222 Df858 hP) F1225 (own_w hw 43 rfl) (own_w hw 44 rfl) (own_w hw 46 rfl) (own_w hw 45 rfl) (own_w hw 47 rfl) (own_w hw 6 rfl) (by decide) e1171 (hb hby at_109) (by rw [hml, ← hL385]; rfl) rfl (lenOf own_pd6 rfl) (by decide) (W := 0) (Nat.le_of_eq rfl) (by decide) (by decide) (by decide) ?_
  intro v1550 T1550 lo1550 X1550 Q1550
  obtain ⟨h1550, e1550⟩ : ∃ h, T1550.heap = h := ⟨_, rfl⟩
  rw [e1550] at Q1550
  have F1584 := (F1205.keep K1171 (ninS (Nat.ne_of_lt lt35) (ninS (Nat.ne_of_lt lt346) (ninS (Nat.ne_of_lt lt351) (ninS (Nat.ne_of_lt lt356) (ninS (Nat.ne_of_lt lt361) (ninS (Nat.ne_of_lt lt366) (ninS (Nat.ne_of_lt lt371) (ninS (Nat.ne_of_lt lt376) (ninS (Nat.ne_of_lt lt381) nin0))))))))))
  have F1585 := (F1206.keep K1171 (ninS (Nat.ne_of_lt lt36) (ninS (Nat.ne_of_lt lt347) (ninS (Nat.ne_of_lt lt352) (ninS (Nat.ne_of_lt lt357) (ninS (Nat.ne_of_lt lt362) (ninS (Nat.ne_of_lt lt367) (ninS (Nat.ne_of_lt lt372) (ninS (Nat.ne_of_lt lt377) (ninS (Nat.ne_of_lt lt382) nin0))))))))))
  obtain ⟨a1551, f1552, rfl, N1550, K1550, ge1553, F1554, F1555, F1556, F1557, F1558, F1559, F1560, F1561, F1562, F1563, F1564, F1565, F1566, F1567, F1568, F1569, F1570, F1571, F1572, F1573, F1574, F1575, F1576, F1577, F1578, F1579, F1580, F1581, F1582, D1583⟩ := Q1550
  have N1550' := Fr.app N1171' N1550
  have F1586 : Sta Z h1550 own_k1 "NONE" "Lcom/example/rankline/rankline/Extent;" (.ref rn) := own_Sta_keep F1207 K1550 (allS (own_exs F1225) (allS (own_exs F1234) (allS (own_exs F1233) (allS (own_exs F1232) (allS (own_exs F1230) (allS (own_exs F1229) (allS (own_exs F1228) (allS (own_exs F1227) (allS (own_exs F1226) all0)))))))))
  show own_Go _ _ _ _ _ _ _ T1550 (mkF m 112 L385 [])
  refine own_al (w := (.ref a33)) X1550 hx (hb hby at_112) (by rw [← hL385]; rfl) rfl ?_
  refine own_ic X1550 hx (1 : Int32) (hb hby at_114) rfl ?_
  have F1602 := (F1224.keep K1550)
  have F1603 := (F1225.keep K1550)
  have F1604 := (F1226.keep K1550)
  have F1605 := (F1227.keep K1550)
  have F1606 := (F1228.keep K1550)
  have F1607 := (F1229.keep K1550)
  have F1608 := (F1230.keep K1550)
  have F1609 := (F1231.keep K1550)
  have F1610 := (F1232.keep K1550)
  have F1611 := (F1233.keep K1550)
  have F1612 := (F1234.keep K1550)
  have F1620 := (F1197.keep K1550)
  have F1621 := (F1198.keep K1550 (ninS (Nat.ne_of_gt lt1211) (ninS (Nat.ne_of_gt lt1212) (ninS (Nat.ne_of_gt lt1213) (ninS (Nat.ne_of_gt lt1214) (ninS (Nat.ne_of_gt lt1215) (ninS (Nat.ne_of_gt lt1216) (ninS (Nat.ne_of_gt lt1217) (ninS (Nat.ne_of_gt lt1218) (ninS (Nat.ne_of_gt lt1219) nin0))))))))))
  have F1622 := (F1199.keep K1550 (ninS (Nat.ne_of_gt lt1211) (ninS (Nat.ne_of_gt lt1212) (ninS (Nat.ne_of_gt lt1213) (ninS (Nat.ne_of_gt lt1214) (ninS (Nat.ne_of_gt lt1215) (ninS (Nat.ne_of_gt lt1216) (ninS (Nat.ne_of_gt lt1217) (ninS (Nat.ne_of_gt lt1218) (ninS (Nat.ne_of_gt lt1219) nin0))))))))))
  have F1623 := (F1200.keep K1550 (ninS (Nat.ne_of_gt lt1211) (ninS (Nat.ne_of_gt lt1212) (ninS (Nat.ne_of_gt lt1213) (ninS (Nat.ne_of_gt lt1214) (ninS (Nat.ne_of_gt lt1215) (ninS (Nat.ne_of_gt lt1216) (ninS (Nat.ne_of_gt lt1217) (ninS (Nat.ne_of_gt lt1218) (ninS (Nat.ne_of_gt lt1219) nin0))))))))))
  have F1624 := (F1201.keep K1550 (ninS (Nat.ne_of_gt lt1211) (ninS (Nat.ne_of_gt lt1212) (ninS (Nat.ne_of_gt lt1213) (ninS (Nat.ne_of_gt lt1214) (ninS (Nat.ne_of_gt lt1215) (ninS (Nat.ne_of_gt lt1216) (ninS (Nat.ne_of_gt lt1217) (ninS (Nat.ne_of_gt lt1218) (ninS (Nat.ne_of_gt lt1219) nin0))))))))))
  have F1626 := (F1203.keep K1550 (ninS (Nat.ne_of_gt lt1211) (ninS (Nat.ne_of_gt lt1212) (ninS (Nat.ne_of_gt lt1213) (ninS (Nat.ne_of_gt lt1214) (ninS (Nat.ne_of_gt lt1215) (ninS (Nat.ne_of_gt lt1216) (ninS (Nat.ne_of_gt lt1217) (ninS (Nat.ne_of_gt lt1218) (ninS (Nat.ne_of_gt lt1219) nin0))))))))))
  have F2032 : n0 ≤ h1550.size := (Nat.le_trans F1549 K1550.1)
  refine own_callv (a := a33) (argsL := [(.int (1 : Int32))]) (rest := []) X1550 hx hZ hown (own_s26 l Z a0 hw [] a33 a274 a273 a272 a271 a270 a269 a268 a267 a811 a1172 f1173 a1551 f1552 v2 v4 v6 v8 v10 h1550 n0 F2032 F1603 F1604 F1605 F1607 F1608 F1609 F1620 F1621 F1622 F1623 F1624 F1626 F1554 F1555 F1557 F1558 F1562 F1563 F1564 F1565 F1566 F1567 F1568 F1569 F1570 F1571 F1572 F1573 F1574 F1575 F1576 F1577 F1578 F1579 F1580 F1582 lt363 lt368 lt378 lt383 nw37 lt301 lt303 lt304 nw364 lt306 lt307 nw369 lt310 nw379 nw384 D1204 D1583 hP) F1603 (own_w hw 95 rfl) (own_w hw 96 rfl) (own_w hw 98 rfl) (own_w hw 97 rfl) (own_w hw 99 rfl) (own_w hw 6 rfl) (by decide) e1550 (hb hby at_115) (by rw [hml, ← hL385]; rfl) rfl (lenOf own_pd12 rfl) (by decide) (W := 0) (Nat.le_of_eq rfl) (by decide) (by decide) (by decide) ?_
  intro v2033 T2033 lo2033 X2033 Q2033
  obtain ⟨h2033, e2033⟩ : ∃ h, T2033.heap = h := ⟨_, rfl⟩
  rw [e2033] at Q2033
  have F2063 := (F1584.keep K1550 (ninS (Nat.ne_of_lt lt35) (ninS (Nat.ne_of_lt lt346) (ninS (Nat.ne_of_lt lt351) (ninS (Nat.ne_of_lt lt356) (ninS (Nat.ne_of_lt lt361) (ninS (Nat.ne_of_lt lt366) (ninS (Nat.ne_of_lt lt371) (ninS (Nat.ne_of_lt lt376) (ninS (Nat.ne_of_lt lt381) nin0))))))))))
  have F2064 := (F1585.keep K1550 (ninS (Nat.ne_of_lt lt36) (ninS (Nat.ne_of_lt lt347) (ninS (Nat.ne_of_lt lt352) (ninS (Nat.ne_of_lt lt357) (ninS (Nat.ne_of_lt lt362) (ninS (Nat.ne_of_lt lt367) (ninS (Nat.ne_of_lt lt372) (ninS (Nat.ne_of_lt lt377) (ninS (Nat.ne_of_lt lt382) nin0))))))))))
  obtain ⟨a2034, f2035, rfl, N2033, K2033, ge2036, F2037, F2038, F2039, F2040, F2041, F2042, F2043, F2044, F2045, F2046, F2047, F2048, F2049, F2050, F2051, F2052, F2053, F2054, F2055, F2056, F2057, F2058, F2059, F2060, F2061, D2062⟩ := Q2033
  have N2033' := Fr.app N1550' N2033
  have F2065 : Sta Z h2033 own_k1 "NONE" "Lcom/example/rankline/rankline/Extent;" (.ref rn) := own_Sta_keep F1586 K2033 (allS (own_exs F1608) (allS (own_exs F1607) (allS (own_exs F1605) (allS (own_exs F1604) (allS (own_exs F1603) all0)))))
  show own_Go _ _ _ _ _ _ _ T2033 (mkF m 118 L385 [])
  refine own_al (w := (.ref a33)) X2033 hx (hb hby at_118) (by rw [← hL385]; rfl) rfl ?_
  refine own_ldcd X2033 hx hZ hown (own_w hw 153 rfl) (hb hby at_120) ?_
  show own_Go _ _ _ _ _ _ _ T2033 (mkF m 123 L385 [(.double (4630826316843712512 : UInt64)), (.ref a33)])
  refine own_il (w := v8) X2033 hx (hb hby at_123) (by rw [← hL385]; rfl) ?_
  obtain ⟨f2082, hf2082⟩ : ∃ z, FP.i2d v8 = z := ⟨_, rfl⟩
  refine own_pre (g' := (mkF m 126 L385 [(.double f2082), (.double (4630826316843712512 : UInt64)), (.ref a33)])) (fun t k => XS.i2dS X2033.here hx rfl (hb hby at_125) rfl hf2082 k) ?_
  have Df2082 : Jvm.FP.Core.DInt v8.toInt f2082 := hf2082 ▸ Jvm.FP.Core.i2d_int _
  have F2084 := (F1602.keep K2033)
  have F2085 := (F1603.keep K2033)
  have F2086 := (F1604.keep K2033)
  have F2087 := (F1605.keep K2033)
  have F2088 := (F1606.keep K2033)
  have F2089 := (F1607.keep K2033)
  have F2090 := (F1608.keep K2033)
  have F2091 := (F1609.keep K2033)
  have F2092 := (F1610.keep K2033)
  have F2093 := (F1611.keep K2033)
  have F2094 := (F1612.keep K2033)
  have F2102 := (F1556.keep K2033 (ninS (Nat.ne_of_gt lt302) (ninS (Nat.ne_of_gt lt305) (ninS (Nat.ne_of_lt lt308) (ninS (Nat.ne_of_lt lt309) (ninS (Nat.ne_of_gt lt373) nin0))))))
  have F2103 := (F1559.keep K2033 (ninS (Nat.ne_of_lt lt296) (ninS (Nat.ne_of_lt lt297) (ninS (Nat.ne_of_lt lt299) (ninS (Nat.ne_of_lt lt300) (ninS (Nat.ne_of_gt lt358) nin0))))))
  have F2104 := (F1560.keep K2033 (ninS (Nat.ne_of_lt lt291) (ninS (Nat.ne_of_lt lt292) (ninS (Nat.ne_of_lt lt294) (ninS (Nat.ne_of_lt lt295) (ninS (Nat.ne_of_gt lt353) nin0))))))
  have F2105 := (F1561.keep K2033 (ninS (Nat.ne_of_lt lt285) (ninS (Nat.ne_of_lt lt286) (ninS (Nat.ne_of_lt lt288) (ninS (Nat.ne_of_lt lt289) (ninS (Nat.ne_of_gt lt348) nin0))))))
  have F2412 : n0 ≤ h2033.size := (Nat.le_trans F2032 K2033.1)
  refine own_callv (a := a33) (argsL := [(.double (4630826316843712512 : UInt64)), (.double f2082)]) (rest := []) X2033 hx hZ hown (own_s41 l Z a0 hw [] a33 f2082 a274 a273 a272 a271 a270 a269 a268 a267 a811 f386 f858 f1222 a2034 v8 v2 v4 v6 v10 h2033 n0 F2412 F2085 F2086 F2087 F2088 F2089 F2090 F2091 F2092 F2093 F2094 F2102 F2103 F2104 F2105 F2037 F2038 F2039 F2040 F2041 F2042 F2043 F2044 F2045 F2046 F2047 F2048 F2049 F2050 F2051 F2052 F2053 F2054 lt348 lt353 lt358 lt363 lt368 lt373 lt378 lt383 nw37 lt283 lt284 lt285 lt286 lt287 lt288 lt289 nw349 lt290 lt291 lt292 lt293 lt294 lt295 nw354 lt296 lt297 lt298 lt299 lt300 nw359 lt301 lt302 lt303 lt304 nw364 lt305 lt306 lt307 nw369 lt308 lt309 nw374 lt310 nw379 nw384 Df2082 Df1222 hP) F2085 (own_w hw 43 rfl) (own_w hw 44 rfl) (own_w hw 46 rfl) (own_w hw 45 rfl) (own_w hw 47 rfl) (own_w hw 6 rfl) (by decide) e2033 (hb hby at_126) (by rw [hml, ← hL385]; rfl) rfl (lenOf own_pd6 rfl) (by decide) (W := 0) (Nat.le_of_eq rfl) (by decide) (by decide) (by decide) ?_
  intro v2413 T2413 lo2413 X2413 Q2413
  obtain ⟨h2413, e2413⟩ : ∃ h, T2413.heap = h := ⟨_, rfl⟩
  rw [e2413] at Q2413
  have F2447 := (F2063.keep K2033 (ninS (Nat.ne_of_lt lt361) (ninS (Nat.ne_of_lt lt366) (ninS (Nat.ne_of_lt lt376) (ninS (Nat.ne_of_lt lt381) (ninS (Nat.ne_of_lt lt35) nin0))))))
  have F2448 := (F2064.keep K2033 (ninS (Nat.ne_of_lt lt362) (ninS (Nat.ne_of_lt lt367) (ninS (Nat.ne_of_lt lt377) (ninS (Nat.ne_of_lt lt382) (ninS (Nat.ne_of_lt lt36) nin0))))))
  obtain ⟨a2414, f2415, rfl, N2413, K2413, ge2416, F2417, F2418, F2419, F2420, F2421, F2422, F2423, F2424, F2425, F2426, F2427, F2428, F2429, F2430, F2431, F2432, F2433, F2434, F2435, F2436, F2437, F2438, F2439, F2440, F2441, F2442, F2443, F2444, F2445, D2446⟩ := Q2413
  have N2413' := Fr.app N2033' N2413
  have F2451 : Sta Z h2413 own_k1 "NONE" "Lcom/example/rankline/rankline/Extent;" (.ref rn) := own_Sta_keep F2065 K2413 (allS (own_exs F2085) (allS (own_exs F2094) (allS (own_exs F2093) (allS (own_exs F2092) (allS (own_exs F2090) (allS (own_exs F2089) (allS (own_exs F2088) (allS (own_exs F2087) (allS (own_exs F2086) all0)))))))))
  show own_Go _ _ _ _ _ _ _ T2413 (mkF m 129 L385 [])
  refine own_al (w := (.ref a33)) X2413 hx (hb hby at_129) (by rw [← hL385]; rfl) rfl ?_
  refine own_al (w := (.ref a12)) X2413 hx (hb hby at_131) (by rw [← hL385]; rfl) rfl ?_
  refine own_al (w := (.ref a21)) X2413 hx (hb hby at_133) (by rw [← hL385]; rfl) rfl ?_
  refine own_ic X2413 hx (1 : Int32) (hb hby at_135) rfl ?_
  have F2470 := (F2084.keep K2413)
  have F2471 := (F2447.keep K2413 (ninS (Nat.ne_of_lt lt35) (ninS (Nat.ne_of_lt lt346) (ninS (Nat.ne_of_lt lt351) (ninS (Nat.ne_of_lt lt356) (ninS (Nat.ne_of_lt lt361) (ninS (Nat.ne_of_lt lt366) (ninS (Nat.ne_of_lt lt371) (ninS (Nat.ne_of_lt lt376) (ninS (Nat.ne_of_lt lt381) nin0))))))))))
  have F2472 := ((((((((((B12.wr W16).ext E21).wr W27).ext E33).keep K266).keep K810).keep K1171).keep K1550).keep K2033).keep K2413)
  have F2473 := (F2448.keep K2413 (ninS (Nat.ne_of_lt lt36) (ninS (Nat.ne_of_lt lt347) (ninS (Nat.ne_of_lt lt352) (ninS (Nat.ne_of_lt lt357) (ninS (Nat.ne_of_lt lt362) (ninS (Nat.ne_of_lt lt367) (ninS (Nat.ne_of_lt lt372) (ninS (Nat.ne_of_lt lt377) (ninS (Nat.ne_of_lt lt382) nin0))))))))))
  have F2556 : n0 ≤ h2413.size := (Nat.le_trans F2412 K2413.1)
  refine own_calls (argsL := [(.ref a12), (.ref a21), (.int (1 : Int32))]) (rest := [(.ref a33)]) X2413 hx hZ hown (own_s48 l Z a0 hw [] a12 a21 v26 h2413 n0 F2556 F2471 F2472 F2473) (own_w hw 154 rfl) (own_w hw 155 rfl) (own_w hw 157 rfl) (own_w hw 156 rfl) (by decide) e2413 (hb hby at_136) (by rw [hml, ← hL385]; rfl) rfl (lenOf own_pd15 rfl) (by decide) (W := 1) (Nat.le_of_eq rfl) (by decide) (by decide) (by decide) ?_
  intro v2557 T2557 lo2557 X2557 Q2557
  obtain ⟨h2557, e2557⟩ : ∃ h, T2557.heap = h := ⟨_, rfl⟩
  rw [e2557] at Q2557
  have F2574 := (F2085.keep K2413)
  have F2575 := (F2094.keep K2413)
  have F2576 := (F2093.keep K2413)
  have F2577 := (F2092.keep K2413)
  have F2578 := (F2090.keep K2413)
  have F2579 := (F2089.keep K2413)
  have F2580 := (F2088.keep K2413)
  have F2581 := (F2087.keep K2413)
  have F2582 := (F2086.keep K2413)
  obtain ⟨a2558, a2559, a2560, rfl, N2557, K2557, ge2561, ge2562, ge2563, lt2564, lt2565, lt2566, F2567, F2568, F2569, F2570, F2571, F2572, F2573⟩ := Q2557
  have N2557' := Fr.app N2413' N2557
  have F2587 : Sta Z h2557 own_k1 "NONE" "Lcom/example/rankline/rankline/Extent;" (.ref rn) := own_Sta_keep F2451 K2557 all0
  show own_Go _ _ _ _ _ _ _ T2557 (mkF m 139 L385 [(.ref a2559), (.ref a33)])
  have lt2591 : a33 < a2558 := Nat.lt_of_lt_of_le F2574.lt ge2561
  have lt2592 : a267 < a2558 := Nat.lt_of_lt_of_le F2575.lt ge2561
  have lt2593 : a268 < a2558 := Nat.lt_of_lt_of_le F2576.lt ge2561
  have lt2594 : a269 < a2558 := Nat.lt_of_lt_of_le F2577.lt ge2561
  have lt2595 : a270 < a2558 := Nat.lt_of_lt_of_le F2578.lt ge2561
  have lt2596 : a271 < a2558 := Nat.lt_of_lt_of_le F2579.lt ge2561
  have lt2597 : a272 < a2558 := Nat.lt_of_lt_of_le F2580.lt ge2561
  have lt2598 : a273 < a2558 := Nat.lt_of_lt_of_le F2581.lt ge2561
  have lt2599 : a274 < a2558 := Nat.lt_of_lt_of_le F2582.lt ge2561
  have lt2609 : a33 < a2559 := Nat.lt_of_lt_of_le F2574.lt ge2562
  have lt2610 : a267 < a2559 := Nat.lt_of_lt_of_le F2575.lt ge2562
  have lt2611 : a268 < a2559 := Nat.lt_of_lt_of_le F2576.lt ge2562
  have lt2612 : a269 < a2559 := Nat.lt_of_lt_of_le F2577.lt ge2562
  have lt2613 : a270 < a2559 := Nat.lt_of_lt_of_le F2578.lt ge2562
  have lt2614 : a271 < a2559 := Nat.lt_of_lt_of_le F2579.lt ge2562
  have lt2615 : a272 < a2559 := Nat.lt_of_lt_of_le F2580.lt ge2562
  have lt2616 : a273 < a2559 := Nat.lt_of_lt_of_le F2581.lt ge2562
  have lt2617 : a274 < a2559 := Nat.lt_of_lt_of_le F2582.lt ge2562
  have lt2627 : a33 < a2560 := Nat.lt_of_lt_of_le F2574.lt ge2563
  have lt2628 : a267 < a2560 := Nat.lt_of_lt_of_le F2575.lt ge2563
  have lt2629 : a268 < a2560 := Nat.lt_of_lt_of_le F2576.lt ge2563
  have lt2630 : a269 < a2560 := Nat.lt_of_lt_of_le F2577.lt ge2563
  have lt2631 : a270 < a2560 := Nat.lt_of_lt_of_le F2578.lt ge2563
  have lt2632 : a271 < a2560 := Nat.lt_of_lt_of_le F2579.lt ge2563
  have lt2633 : a272 < a2560 := Nat.lt_of_lt_of_le F2580.lt ge2563
  have lt2634 : a273 < a2560 := Nat.lt_of_lt_of_le F2581.lt ge2563
  have lt2635 : a274 < a2560 := Nat.lt_of_lt_of_le F2582.lt ge2563
  obtain ⟨cc, hcc⟩ : ∃ z, ((0 : Int64) + v26) = z := ⟨_, rfl⟩
  have Fcc : own_Ary Z h2557 a2558 .long [(.long cc)] := hcc ▸ F2570
  have hC : cc.toInt = v10.toInt := own_cl hv26 hcc
  have F2643 := (F2470.keep K2557)
  have F2644 := (F2574.keep K2557)
  have F2650 := ((F2091.keep K2413).keep K2557)
  have F2668 := (F2417.keep K2557 nin0)
  have F2669 := (F2418.keep K2557 nin0)
  have F2670 := (F2419.keep K2557 nin0)
  have F2671 := (F2420.keep K2557 nin0)
  have F2672 := (F2421.keep K2557 nin0)
  have F2673 := (F2422.keep K2557 nin0)
  have F2674 := (F2423.keep K2557 nin0)
  have F2675 := (F2424.keep K2557 nin0)
  have F2676 := (F2425.keep K2557 nin0)
  have F2677 := (F2426.keep K2557 nin0)
  have F2678 := (F2427.keep K2557 nin0)
  have F2679 := (F2428.keep K2557 nin0)
  have F2680 := (F2429.keep K2557 nin0)
  have F2681 := (F2430.keep K2557 nin0)
  have F2682 := (F2431.keep K2557 nin0)
  have F2683 := (F2432.keep K2557 nin0)
  have F2684 := (F2433.keep K2557 nin0)
  have F2685 := (F2434.keep K2557 nin0)
  have F2686 := (F2435.keep K2557 nin0)
  have F2687 := (F2436.keep K2557 nin0)
  have F2688 := (F2437.keep K2557 nin0)
  have F2689 := (F2438.keep K2557 nin0)
  have F3065 : n0 ≤ h2557.size := (Nat.le_trans F2556 K2557.1)
  refine own_callv (a := a33) (argsL := [(.ref a2559)]) (rest := []) X2557 hx hZ hown (own_s51 l Z a0 hw [] a33 a2559 rn a274 a273 a272 a271 a270 a269 a268 a267 a811 f386 a2034 f2082 f1222 a2414 a2560 a2558 cc v2 v4 v6 v8 v10 h2557 n0 F3065 F2587 F2643 F2644 F2650 F2668 F2669 F2670 F2671 F2672 F2673 F2674 F2675 F2676 F2677 F2678 F2679 F2680 F2681 F2682 F2683 F2684 F2685 F2686 F2687 F2688 F2689 F2567 F2568 F2569 Fcc F2572 lt348 lt353 lt358 lt363 lt368 lt373 lt378 lt383 lt2591 lt2609 lt2627 nw37 lt283 lt284 lt285 lt286 lt287 lt288 lt289 lt2592 lt2610 lt2628 nw349 lt290 lt291 lt292 lt293 lt294 lt295 lt2593 lt2611 lt2629 nw354 lt296 lt297 lt298 lt299 lt300 lt2594 lt2612 lt2630 nw359 lt301 lt302 lt303 lt304 lt2595 lt2613 lt2631 nw364 lt305 lt306 lt307 lt2596 lt2614 lt2632 nw369 lt308 lt309 lt2597 lt2615 lt2633 nw374 lt310 lt2598 lt2616 lt2634 nw379 lt2599 lt2617 lt2635 nw384 Df386 Df2082 Df1222 hP hC) F2644 (own_w hw 181 rfl) (own_w hw 182 rfl) (own_w hw 184 rfl) (own_w hw 183 rfl) (own_w hw 185 rfl) (own_w hw 6 rfl) (by decide) e2557 (hb hby at_139) (by rw [hml, ← hL385]; rfl) rfl (lenOf own_pd18 rfl) (by decide) (W := 0) (Nat.le_of_eq rfl) (by decide) (by decide) (by decide) ?_
  intro v3066 T3066 lo3066 X3066 Q3066
  obtain ⟨h3066, e3066⟩ : ∃ h, T3066.heap = h := ⟨_, rfl⟩
  rw [e3066] at Q3066
  obtain ⟨f3067, f3068, f3069, f3070, rfl, N3066, K3066, F3071, F3072, F3073, F3074, F3075, F3076, F3077, F3078, F3079, F3080, F3081, F3082, F3083, F3084, F3085, F3086, F3087, F3088, F3089, F3090, F3091, F3092, D3093, D3094, D3095, D3096⟩ := Q3066
  have N3066' := Fr.app N2557' N3066
  show own_Go _ _ _ _ _ _ _ T3066 (mkF m 142 L385 [])
  refine own_al (w := (.ref a33)) X3066 hx (hb hby at_142) (by rw [← hL385]; rfl) rfl ?_
  refine own_ic X3066 hx (3 : Int32) (hb hby at_144) rfl ?_
  have F3099 := (F2644.keep K3066)
  have F3132 : n0 ≤ h3066.size := (Nat.le_trans F3065 K3066.1)
  refine own_callv (a := a33) (argsL := [(.int (3 : Int32))]) (rest := []) X3066 hx hZ hown (own_s67 l Z a0 hw [] a33 a268 f3067 f3068 f3069 f3070 h3066 n0 F3132 F3073 F3080 F3087) F3099 (own_w hw 212 rfl) (own_w hw 213 rfl) (own_w hw 215 rfl) (own_w hw 214 rfl) (own_w hw 216 rfl) (own_w hw 6 rfl) (by decide) e3066 (hb hby at_145) (by rw [hml, ← hL385]; rfl) rfl (lenOf own_pd16 rfl) (by decide) (W := 0) (Nat.le_of_eq rfl) (by decide) (by decide) (by decide) ?_
  intro v3133 T3133 lo3133 X3133 Q3133
  obtain ⟨h3133, e3133⟩ : ∃ h, T3133.heap = h := ⟨_, rfl⟩
  rw [e3133] at Q3133
  obtain ⟨rfl, N3133, K3133⟩ := Q3133
  have N3133' := Fr.app N3066' N3133
  have e3133' : T3133.heap = h3066 := e3133.trans K3133
  show own_Go _ _ _ _ _ _ _ T3133 (mkF m 148 L385 [(.double f3070)])
  refine own_il (w := v10) X3133 hx (hb hby at_148) (by rw [← hL385]; rfl) ?_
  obtain ⟨f3134, hf3134⟩ : ∃ z, FP.i2d v10 = z := ⟨_, rfl⟩
  refine own_pre (g' := (mkF m 151 L385 [(.double f3134), (.double f3070)])) (fun t k => XS.i2dS X3133.here hx rfl (hb hby at_150) rfl hf3134 k) ?_
  have Df3134 : Jvm.FP.Core.DInt v10.toInt f3134 := hf3134 ▸ Jvm.FP.Core.i2d_int _
  obtain ⟨k3135, hk3135⟩ : ∃ z, own_c (0 + v10.toInt) v10.toInt = z := ⟨_, rfl⟩
  refine own_pre (g' := (mkF m 152 L385 [(.int k3135)])) (fun t k => XS.dcmpS X3133.here hx rfl (hb hby at_151) rfl ((own_dcmp D3096 Df3134 _).trans hk3135) k) ?_
  have hc3136 : k3135 = (0 : Int32) := by rw [← hk3135, own_c_eq]; have := hP; have := hC; have := rng32 v10; omega
  refine own_pre (g' := (mkF m 155 L385 [])) (fun t k => XS.ifNo X3133.here hx rfl (hb hby at_152) rfl ((if0 _ _).trans (teq hc3136).2) k) ?_
  refine own_al (w := (.ref a33)) X3133 hx (hb hby at_155) (by rw [← hL385]; rfl) rfl ?_
  refine own_ic X3133 hx (0 : Int32) (hb hby at_157) rfl ?_
  refine own_callv (a := a33) (argsL := [(.int (0 : Int32))]) (rest := []) X3133 hx hZ hown (own_s68 l Z a0 hw [] a33 a274 a268 cc f3067 f3068 f3069 f3070 v2 v4 v6 v8 v10 h3066 n0 F3132 F3073 F3075 F3080 F3086 F3087 D3093 D3096 hP hC) F3099 (own_w hw 212 rfl) (own_w hw 213 rfl) (own_w hw 215 rfl) (own_w hw 214 rfl) (own_w hw 216 rfl) (own_w hw 6 rfl) (by decide) e3133' (hb hby at_158) (by rw [hml, ← hL385]; rfl) rfl (lenOf own_pd16 rfl) (by decide) (W := 0) (Nat.le_of_eq rfl) (by decide) (by decide) (by decide) ?_
  intro v3142 T3142 lo3142 X3142 Q3142
  obtain ⟨h3142, e3142⟩ : ∃ h, T3142.heap = h := ⟨_, rfl⟩
  rw [e3142] at Q3142
  obtain ⟨f3143, rfl, N3142, K3142, D3144⟩ := Q3142
  have N3142' := Fr.app N3133' N3142
  have e3142' : T3142.heap = h3066 := e3142.trans K3142
  show own_Go _ _ _ _ _ _ _ T3142 (mkF m 161 L385 [(.double f3143)])
  refine own_il (w := v2) X3142 hx (hb hby at_161) (by rw [← hL385]; rfl) ?_
  obtain ⟨f3145, hf3145⟩ : ∃ z, FP.i2d v2 = z := ⟨_, rfl⟩
  refine own_pre (g' := (mkF m 164 L385 [(.double f3145), (.double f3143)])) (fun t k => XS.i2dS X3142.here hx rfl (hb hby at_163) rfl hf3145 k) ?_
  have Df3145 : Jvm.FP.Core.DInt v2.toInt f3145 := hf3145 ▸ Jvm.FP.Core.i2d_int _
  obtain ⟨k3146, hk3146⟩ : ∃ z, own_c ((v2.toInt + v10.toInt) - (0 + v10.toInt)) v2.toInt = z := ⟨_, rfl⟩
  refine own_pre (g' := (mkF m 165 L385 [(.int k3146)])) (fun t k => XS.dcmpS X3142.here hx rfl (hb hby at_164) rfl ((own_dcmp D3144 Df3145 _).trans hk3146) k) ?_
  have hc3147 : k3146 = (0 : Int32) := by rw [← hk3146, own_c_eq]; have := hP; have := hC; have := rng32 v2; have := rng32 v10; omega
  refine own_pre (g' := (mkF m 168 L385 [])) (fun t k => XS.ifNo X3142.here hx rfl (hb hby at_165) rfl ((if0 _ _).trans (teq hc3147).2) k) ?_
  refine own_al (w := (.ref a33)) X3142 hx (hb hby at_168) (by rw [← hL385]; rfl) rfl ?_
  refine own_ic X3142 hx (2 : Int32) (hb hby at_170) rfl ?_
  refine own_callv (a := a33) (argsL := [(.int (2 : Int32))]) (rest := []) X3142 hx hZ hown (own_s69 l Z a0 hw [] a33 a274 a268 cc f3067 f3068 f3069 f3070 v2 v4 v6 v8 v10 h3066 n0 F3132 F3073 F3075 F3080 F3086 F3087 D3093 D3095 hP hC) F3099 (own_w hw 212 rfl) (own_w hw 213 rfl) (own_w hw 215 rfl) (own_w hw 214 rfl) (own_w hw 216 rfl) (own_w hw 6 rfl) (by decide) e3142' (hb hby at_171) (by rw [hml, ← hL385]; rfl) rfl (lenOf own_pd16 rfl) (by decide) (W := 0) (Nat.le_of_eq rfl) (by decide) (by decide) (by decide) ?_
  intro v3153 T3153 lo3153 X3153 Q3153
  obtain ⟨h3153, e3153⟩ : ∃ h, T3153.heap = h := ⟨_, rfl⟩
  rw [e3153] at Q3153
  obtain ⟨f3154, rfl, N3153, K3153, D3155⟩ := Q3153
  have N3153' := Fr.app N3142' N3153
  have e3153' : T3153.heap = h3066 := e3153.trans K3153
  show own_Go _ _ _ _ _ _ _ T3153 (mkF m 174 L385 [(.double f3154)])
  refine own_il (w := v6) X3153 hx (hb hby at_174) (by rw [← hL385]; rfl) ?_
  refine own_il (w := v2) X3153 hx (hb hby at_176) (by rw [← hL385]; rfl) ?_
  refine own_pre (g' := (mkF m 179 L385 [(.int (v6 - v2)), (.double f3154)])) (fun t k => XS.isub X3153.here hx rfl (hb hby at_178) rfl k) ?_
  generalize hv3156 : v6 - v2 = v3156
  have zv3156 : v3156.toInt = v6.toInt - v2.toInt := own_dif hv3156 (by omega) (by omega)
  obtain ⟨f3157, hf3157⟩ : ∃ z, FP.i2d v3156 = z := ⟨_, rfl⟩
  refine own_pre (g' := (mkF m 180 L385 [(.double f3157), (.double f3154)])) (fun t k => XS.i2dS X3153.here hx rfl (hb hby at_179) rfl hf3157 k) ?_
  have Df3157 : Jvm.FP.Core.DInt v3156.toInt f3157 := hf3157 ▸ Jvm.FP.Core.i2d_int _
  have Ef3157 : FP.Core.DInt (v6.toInt - v2.toInt) f3157 := zv3156 ▸ Df3157
  obtain ⟨k3158, hk3158⟩ : ∃ z, own_c ((v6.toInt + v10.toInt) - (v2.toInt + v10.toInt)) (v6.toInt - v2.toInt) = z := ⟨_, rfl⟩
  refine own_pre (g' := (mkF m 181 L385 [(.int k3158)])) (fun t k => XS.dcmpS X3153.here hx rfl (hb hby at_180) rfl ((own_dcmp D3155 Ef3157 _).trans hk3158) k) ?_
  have hc3159 : k3158 = (0 : Int32) := by rw [← hk3158, own_c_eq]; have := hP; have := hC; have := rng32 v6; have := rng32 v10; have := rng32 v2; omega
  refine own_pre (g' := (mkF m 184 L385 [])) (fun t k => XS.ifNo X3153.here hx rfl (hb hby at_181) rfl ((if0 _ _).trans (teq hc3159).2) k) ?_
  refine own_al (w := (.ref a33)) X3153 hx (hb hby at_184) (by rw [← hL385]; rfl) rfl ?_
  refine own_ic X3153 hx (1 : Int32) (hb hby at_186) rfl ?_
  refine own_callv (a := a33) (argsL := [(.int (1 : Int32))]) (rest := []) X3153 hx hZ hown (own_s70 l Z a0 hw [] a33 a274 a268 cc f3067 f3068 f3069 f3070 v2 v4 v6 v8 v10 h3066 n0 F3132 F3073 F3075 F3080 F3086 F3087 D3094 D3095 hP hC) F3099 (own_w hw 212 rfl) (own_w hw 213 rfl) (own_w hw 215 rfl) (own_w hw 214 rfl) (own_w hw 216 rfl) (own_w hw 6 rfl) (by decide) e3153' (hb hby at_187) (by rw [hml, ← hL385]; rfl) rfl (lenOf own_pd16 rfl) (by decide) (W := 0) (Nat.le_of_eq rfl) (by decide) (by decide) (by decide) ?_
  intro v3165 T3165 lo3165 X3165 Q3165
  obtain ⟨h3165, e3165⟩ : ∃ h, T3165.heap = h := ⟨_, rfl⟩
  rw [e3165] at Q3165
  obtain ⟨f3166, rfl, N3165, K3165, D3167⟩ := Q3165
  have N3165' := Fr.app N3153' N3165
  have e3165' : T3165.heap = h3066 := e3165.trans K3165
  show own_Go _ _ _ _ _ _ _ T3165 (mkF m 190 L385 [(.double f3166)])
  refine own_il (w := v8) X3165 hx (hb hby at_190) (by rw [← hL385]; rfl) ?_
  refine own_il (w := v6) X3165 hx (hb hby at_192) (by rw [← hL385]; rfl) ?_
  refine own_pre (g' := (mkF m 195 L385 [(.int (v8 - v6)), (.double f3166)])) (fun t k => XS.isub X3165.here hx rfl (hb hby at_194) rfl k) ?_
  generalize hv3168 : v8 - v6 = v3168
  have zv3168 : v3168.toInt = v8.toInt - v6.toInt := own_dif hv3168 (by omega) (by omega)
  obtain ⟨f3169, hf3169⟩ : ∃ z, FP.i2d v3168 = z := ⟨_, rfl⟩
  refine own_pre (g' := (mkF m 196 L385 [(.double f3169), (.double f3166)])) (fun t k => XS.i2dS X3165.here hx rfl (hb hby at_195) rfl hf3169 k) ?_
  have Df3169 : Jvm.FP.Core.DInt v3168.toInt f3169 := hf3169 ▸ Jvm.FP.Core.i2d_int _
  have Ef3169 : FP.Core.DInt (v8.toInt - v6.toInt) f3169 := zv3168 ▸ Df3169
  obtain ⟨k3170, hk3170⟩ : ∃ z, own_c ((v8.toInt + v10.toInt) - (v6.toInt + v10.toInt)) (v8.toInt - v6.toInt) = z := ⟨_, rfl⟩
  refine own_pre (g' := (mkF m 197 L385 [(.int k3170)])) (fun t k => XS.dcmpS X3165.here hx rfl (hb hby at_196) rfl ((own_dcmp D3167 Ef3169 _).trans hk3170) k) ?_
  have hc3171 : k3170 = (0 : Int32) := by rw [← hk3170, own_c_eq]; have := hP; have := hC; have := rng32 v8; have := rng32 v10; have := rng32 v6; omega
  refine own_pre (g' := (mkF m 200 L385 [])) (fun t k => XS.ifNo X3165.here hx rfl (hb hby at_197) rfl ((if0 _ _).trans (teq hc3171).2) k) ?_
  refine own_ic X3165 hx (1 : Int32) (hb hby at_200) rfl ?_
  refine own_gt X3165 hx 205 (hb hby at_201) (by decide) (by decide) ?_
  exact own_retZ X3165 hx hlk hret rfl (hb hby at_205) e3165' ⟨rfl, N3165'⟩ (by decide) (by decide)
set_option maxRecDepth 65536 in
set_option maxHeartbeats 40000000 in
theorem own_comes {Post : Tables → Env → Array Value → State → Outcome → State → Prop} (hpost : ∀ tb e args s v u, (limb_1_1.after args s (.returned v) u = true ∧ limb_1_2.after args s (.returned v) u = true ∧ True) → FrameEnd s (.returned v) u (Jvm.fieldLocs frame_1_writes args s ++ Jvm.arrayLocs frame_1_arrays args s ++ Jvm.staticLocs frame_1_statics s) 56 512 → Post tb e args s (.returned v) u) :
    ArmFor flags0 classFile x code maxLocals ret World_1 tables_1 room_1 Calls_1 rest_1 Pre_1 Post := by
  intro l hfl _ _ p e ha hc hk s m args below hf hA hF happ hP
  obtain ⟨hcalls, hrest, hpre⟩ := hP
  obtain ⟨-, -, -, hnamed, -, -, -, hat⟩ := (Spec.applies_iff hf).mp happ
  obtain ⟨hg, hn⟩ := and_e (Cond.before_iff.mp (show (Jvm.Cond.and given_1 narrow_1).before args s = true from hpre))
  obtain ⟨hcount, g0⟩ := and_e hg
  obtain ⟨k0, g1⟩ := and_e g0
  obtain ⟨k1, g2⟩ := and_e g1
  obtain ⟨k2, g3⟩ := and_e g2
  obtain ⟨k3, g4⟩ := and_e g3
  have k4 := g4
  obtain ⟨w0, w1, w2, w3, w4, rfl⟩ : ∃ w0 w1 w2 w3 w4, args = #[w0, w1, w2, w3, w4] := by
    have hs : args.size = 5 := by simpa [Cond.value, given_1] using hcount
    obtain ⟨L⟩ := args
    match L, hs with
    | [w0, w1, w2, w3, w4], _ => exact ⟨w0, w1, w2, w3, w4, rfl⟩
  have hw := fun d (hd : d ∈ tables_1) => atoms_spec (ws := Jvm.Cond.code x code maxLocals ret :: tables_1) hat d (List.mem_cons_of_mem _ hd)
  obtain ⟨i0, e0⟩ := is_v k0
  obtain rfl : w0 = (.int i0) := Option.some.inj e0
  obtain ⟨i1, e1⟩ := is_v k1
  obtain rfl : w1 = (.int i1) := Option.some.inj e1
  obtain ⟨i2, e2⟩ := is_v k2
  obtain rfl : w2 = (.int i2) := Option.some.inj e2
  obtain ⟨i3, e3⟩ := is_v k3
  obtain rfl : w3 = (.int i3) := Option.some.inj e3
  obtain ⟨i4, e4⟩ := is_v k4
  obtain rfl : w4 = (.int i4) := Option.some.inj e4
  obtain ⟨rn, en⟩ := exa_v hn
  have Sn := Sta.start en (Or.inr ⟨(own_w hw 52 rfl), (own_w hw 197 rfl)⟩)
  have En := Exa.start en hn
  obtain ⟨n, o, h1, h2, h3, _, L, rfl, ⟨rfl, N⟩, hq⟩ := own_law l s _ hw tables_1 i0 i1 i2 i3 i4 rn s.heap s.heap.size (Nat.le_refl _) Sn En p e ha hc hk s m _ below hf ((Spec.applies_iff_loose hf).mp happ).1 ⟨rfl, State.Warmed39.refl s, rfl⟩ trivial
  refine ⟨n, _, h1, h2, h3, hpost _ _ _ _ _ _ ⟨Cond.after_iff.mpr rfl, Cond.after_iff.mpr (eq_i res_at (Term.int_eval (1)) rfl), trivial⟩ ⟨hq.1, hq.2.1, (hq.2.2.sift fun y hy => Or.inr (N y hy)).mono (by decide) (by decide)⟩⟩
theorem main_1_1 : Claimed_1_1 := own_comes fun _ _ _ _ _ _ h hF => ⟨h.1, hF⟩
theorem main_1_2 : Claimed_1_2 := own_comes fun _ _ _ _ _ _ h hF => ⟨h.2.1, hF⟩
end Jvm.Pilot.@@N@@
namespace Jvm.Pilot.@@N@@
open Jvm Jvm.ClassFile Sem Op Lib Jvm.Free Jvm.Stand Jvm.Pilot.@@N@@.Jvm.D
/-! MADE BY PROGRAM (witnessworld.py) out of the Statement's table words and the real class files: 22 classes; the members and pool entries that the words name. The judged class is class 1, her method 1. -/
namespace start1
open Jvm.ClassFile
def u (s : String) : CpInfo := .utf8 (stringToUtf16 s)
/-- a pool by its gaps: so many unusable entries, then the entry; so many at the end -/
def gap : Nat → List CpInfo → List CpInfo
  | 0, r => r
  | n + 1, r => .unusable :: gap n r
def poolList (es : List (Nat × CpInfo)) (last : Nat) : List CpInfo := es.foldr (fun e r => gap e.1 (e.2 :: r)) (gap last [])
def pool (es : List (Nat × CpInfo)) (last : Nat) : Array CpInfo := ⟨poolList es last⟩
def fileOf (pool : Array CpInfo) (this : Nat) (attrs : Array Attribute := #[]) (ms : Array MethodInfo := #[]) (fl : Nat := 33) (sup : Nat := 0) (ifs : Array Nat := #[]) (fds : Array FieldInfo := #[]) : ClassFile where
  minorVersion := 0
  majorVersion := 65
  constantPool := pool
  accessFlags := fl
  thisClass := this
  superClass := sup
  interfaces := ifs
  fields := fds
  methods := ms
  attributes := attrs
def plain (name : String) (sup : Option ClassId) : Class where
  name := name
  kind := .ordinary
  loader := none
  accessFlags := 33
  super := sup
  interfaces := #[]
  cf := none
  fields := #[]
  methods := #[]
  instanceTypes := #[]
  staticTypes := #[]
  resolved := #[]
  callSites := []
  init := .initialized
  statics := none
  mirror := none

def pool0 : Array CpInfo := pool [(5, u "<init>"), (0, u "()V"), (1, .class_ 10), (1, u "java/lang/Object"), (85, u "clone"), (0, u "()Ljava/lang/Object;")] 26

def k0c0 : Code := { maxStack := 0, maxLocals := 1, code := object_method_1_code, exceptionTable := #[], attributes := #[] }
def k0m0 : Method := { name := "<init>", desc := "()V", sig := { parameters := [], returnType := none }, accessFlags := 1, code := some k0c0 }
def k0m1 : Method := { name := "clone", desc := "()Ljava/lang/Object;", sig := { parameters := [], returnType := some (.object "java/lang/Object") }, accessFlags := 260, code := none }
/-- java/lang/Object -/
def k0 : Class := { plain "java/lang/Object" none with
  accessFlags := 33
  interfaces := #[]
  cf := some (fileOf pool0 8 #[] #[{ accessFlags := 1, nameIndex := 5, descriptorIndex := 6, attributes := #[] }, { accessFlags := 260, nameIndex := 96, descriptorIndex := 97, attributes := #[] }] 33 0 #[] #[])
  fields := #[]
  methods := #[k0m0, k0m1]
  instanceTypes := #[]
  staticTypes := #[]
  resolved := Array.replicate 124 none
  statics := none }

def pool1 : Array CpInfo := pool [(2, .class_ 4), (0, .nameAndType 5 6), (0, u "java/lang/Object"), (0, u "<init>"), (0, u "()V"), (0, .integer 1048575), (0, .double 4617315517961601024), (1, .class_ 11), (0, u "com/example/rankline/rankline/Buckets"), (0, .methodref 10 3), (0, .double 4621819117588971520), (1, .methodref 10 16), (0, .nameAndType 17 18), (0, u "append"), (0, u "(DD)V"), (0, .double 4626322717216342016), (1, .double 4629137466983448576), (1, .methodref 10 24), (0, .nameAndType 25 26), (0, u "join"), (0, u "(I)V"), (0, .double 4630826316843712512), (1, .methodref 30 31), (0, .class_ 32), (0, .nameAndType 33 34), (0, u "com/example/rankline/rankline/ValueCounts"), (0, u "of"), (0, u "([D[JI)Lcom/example/rankline/rankline/ValueCounts;"), (0, .methodref 10 36), (0, .nameAndType 37 38), (0, u "add"), (0, u "(Lcom/example/rankline/rankline/ValueCounts;)V"), (0, .methodref 10 40), (0, .nameAndType 41 42), (0, u "count"), (0, u "(I)D"), (0, .class_ 44), (0, u "com/example/rankline/rankline/BucketsCountPinLaw"), (2, u "law"), (0, u "(IIIII)Z")] 7

def k1m0 : Method := { name := "<init>", desc := "()V", sig := { parameters := [], returnType := none }, accessFlags := 1, code := none }
def k1c1 : Code := { maxStack := 5, maxLocals := 13, code := code, exceptionTable := #[], attributes := #[] }
def k1m1 : Method := { name := "law", desc := "(IIIII)Z", sig := { parameters := [.int, .int, .int, .int, .int], returnType := some .boolean }, accessFlags := 9, code := some k1c1 }
/-- com/example/rankline/rankline/BucketsCountPinLaw -/
def k1 : Class := { plain "com/example/rankline/rankline/BucketsCountPinLaw" (some 0) with
  accessFlags := 49
  interfaces := #[]
  cf := some (fileOf pool1 43 #[] #[{ accessFlags := 1, nameIndex := 5, descriptorIndex := 6, attributes := #[] }, { accessFlags := 9, nameIndex := 47, descriptorIndex := 48, attributes := #[] }] 49 2 #[] #[])
  fields := #[]
  methods := #[k1m0, k1m1]
  instanceTypes := #[]
  staticTypes := #[]
  resolved := Array.replicate 56 none
  statics := none }

def pool2 : Array CpInfo := pool [(1, .methodref 2 3), (0, .class_ 4), (0, .nameAndType 5 6), (0, u "java/lang/Object"), (0, u "<init>"), (0, u "()V"), (0, .class_ 8), (0, u "com/example/rankline/rankline/Buckets"), (0, .fieldref 7 10), (0, .nameAndType 11 12), (0, u "thresholds"), (0, u "[D"), (0, .fieldref 7 14), (0, .nameAndType 15 12), (0, u "ranks"), (0, .fieldref 7 17), (0, .nameAndType 18 19), (0, u "guarded"), (0, u "[Z"), (0, .class_ 21), (0, u "com/example/rankline/rankline/Extent"), (0, .fieldref 7 23), (0, .nameAndType 24 25), (0, u "extents"), (0, u "[Lcom/example/rankline/rankline/Extent;"), (0, .fieldref 7 27), (0, .nameAndType 28 19), (0, u "addedAtThreshold"), (0, .fieldref 7 30), (0, .nameAndType 31 32), (0, u "copies"), (0, u "[J"), (0, .fieldref 7 34), (0, .nameAndType 35 36), (0, u "nextOf"), (0, u "[I"), (0, .fieldref 7 38), (0, .nameAndType 39 36), (0, u "previousOf"), (0, .fieldref 7 41), (0, .nameAndType 42 43), (0, u "first"), (0, u "I"), (0, .fieldref 7 45), (0, .nameAndType 46 43), (0, u "last"), (0, .fieldref 7 48), (0, .nameAndType 49 43), (0, u "free"), (2, .double 9218868437227405312), (1, .fieldref 7 55), (0, .nameAndType 56 57), (0, u "smallestMagnitude"), (0, u "D"), (0, .fieldref 7 59), (0, .nameAndType 60 43), (0, u "size"), (0, .fieldref 7 62), (0, .nameAndType 63 43), (0, u "used"), (0, .methodref 20 65), (0, .nameAndType 66 67), (0, u "of"), (0, u "(DDD)Lcom/example/rankline/rankline/Extent;"), (0, .methodref 7 69), (0, .nameAndType 70 71), (0, u "append"), (0, u "(DDLcom/example/rankline/rankline/Extent;J)V"), (0, .methodref 7 73), (0, .nameAndType 74 75), (0, u "insertBefore"), (0, u "(IDDLcom/example/rankline/rankline/Extent;J)I"), (0, .methodref 77 78), (0, .class_ 79), (0, .nameAndType 60 80), (0, u "com/example/rankline/rankline/ValueCounts"), (0, u "()I"), (0, .methodref 77 82), (0, .nameAndType 83 84), (0, u "value"), (0, u "(I)D"), (0, .fieldref 20 86), (0, .nameAndType 87 88), (0, u "NONE"), (0, u "Lcom/example/rankline/rankline/Extent;"), (0, .methodref 77 90), (0, .nameAndType 91 92), (0, u "count"), (0, u "(I)J"), (0, .methodref 77 94), (0, .nameAndType 95 92), (0, u "rank"), (0, .methodref 7 97), (0, .nameAndType 98 6), (0, u "removeEmpty"), (18, u "(DD)V"), (0, .methodref 7 119), (0, .nameAndType 120 121), (0, u "join"), (0, u "(I)V"), (4, .class_ 128), (1, u "java/util/Arrays"), (45, .methodref 20 175), (0, .nameAndType 176 177), (0, u "union"), (0, u "(Lcom/example/rankline/rankline/Extent;)Lcom/example/rankline/rankline/Extent;"), (117, .methodref 7 296), (0, .nameAndType 297 80), (0, u "allocate"), (0, .methodref 126 299), (0, .nameAndType 300 301), (0, u "copyOf"), (0, u "([DI)[D"), (13, u "RELATIVE_LENGTH_FLOOR"), (1, u "RELATIVE_COUNT_FLOOR"), (0, u "POINT_BOUND_FRACTION"), (0, u "JOIN_FRACTION"), (0, u "MISPLACED_FRACTION"), (0, u "INITIAL_CAPACITY"), (10, u "add"), (0, u "(Lcom/example/rankline/rankline/ValueCounts;)V")] 33

def k2c0 : Code := { maxStack := 3, maxLocals := 1, code := prog_5_method_1_code, exceptionTable := #[], attributes := #[] }
def k2m0 : Method := { name := "<init>", desc := "()V", sig := { parameters := [], returnType := none }, accessFlags := 0, code := some k2c0 }
def k2c1 : Code := { maxStack := 5, maxLocals := 2, code := prog_5_method_10_code, exceptionTable := #[], attributes := #[] }
def k2m1 : Method := { name := "count", desc := "(I)D", sig := { parameters := [.int], returnType := some .double }, accessFlags := 0, code := some k2c1 }
def k2c2 : Code := { maxStack := 13, maxLocals := 7, code := prog_5_method_12_code, exceptionTable := #[], attributes := #[] }
def k2m2 : Method := { name := "append", desc := "(DD)V", sig := { parameters := [.double, .double], returnType := none }, accessFlags := 0, code := some k2c2 }
def k2c3 : Code := { maxStack := 12, maxLocals := 8, code := prog_5_method_13_code, exceptionTable := #[], attributes := #[] }
def k2m3 : Method := { name := "append", desc := "(DDLcom/example/rankline/rankline/Extent;J)V", sig := { parameters := [.double, .double, (.object "com/example/rankline/rankline/Extent"), .long], returnType := none }, accessFlags := 0, code := some k2c3 }
def k2c4 : Code := { maxStack := 9, maxLocals := 6, code := prog_5_method_14_code, exceptionTable := #[], attributes := #[] }
def k2m4 : Method := { name := "add", desc := "(Lcom/example/rankline/rankline/ValueCounts;)V", sig := { parameters := [(.object "com/example/rankline/rankline/ValueCounts")], returnType := none }, accessFlags := 0, code := some k2c4 }
def k2c5 : Code := { maxStack := 4, maxLocals := 3, code := prog_5_method_17_code, exceptionTable := #[], attributes := #[] }
def k2m5 : Method := { name := "removeEmpty", desc := "()V", sig := { parameters := [], returnType := none }, accessFlags := 2, code := some k2c5 }
def k2c6 : Code := { maxStack := 5, maxLocals := 4, code := prog_5_method_27_code, exceptionTable := #[], attributes := #[] }
def k2m6 : Method := { name := "join", desc := "(I)V", sig := { parameters := [.int], returnType := none }, accessFlags := 0, code := some k2c6 }
def k2c7 : Code := { maxStack := 4, maxLocals := 11, code := prog_5_method_55_code, exceptionTable := #[], attributes := #[] }
def k2m7 : Method := { name := "insertBefore", desc := "(IDDLcom/example/rankline/rankline/Extent;J)I", sig := { parameters := [.int, .double, .double, (.object "com/example/rankline/rankline/Extent"), .long], returnType := some .int }, accessFlags := 2, code := some k2c7 }
def k2c8 : Code := { maxStack := 4, maxLocals := 2, code := prog_5_method_56_code, exceptionTable := #[], attributes := #[] }
def k2m8 : Method := { name := "allocate", desc := "()I", sig := { parameters := [], returnType := some .int }, accessFlags := 2, code := some k2c8 }
/-- com/example/rankline/rankline/Buckets -/
def k2 : Class := { plain "com/example/rankline/rankline/Buckets" (some 0) with
  accessFlags := 48
  interfaces := #[]
  cf := some (fileOf pool2 7 #[] #[{ accessFlags := 0, nameIndex := 5, descriptorIndex := 6, attributes := #[] }, { accessFlags := 0, nameIndex := 91, descriptorIndex := 84, attributes := #[] }, { accessFlags := 0, nameIndex := 70, descriptorIndex := 117, attributes := #[] }, { accessFlags := 0, nameIndex := 70, descriptorIndex := 71, attributes := #[] }, { accessFlags := 0, nameIndex := 332, descriptorIndex := 333, attributes := #[] }, { accessFlags := 2, nameIndex := 98, descriptorIndex := 6, attributes := #[] }, { accessFlags := 0, nameIndex := 120, descriptorIndex := 121, attributes := #[] }, { accessFlags := 2, nameIndex := 74, descriptorIndex := 75, attributes := #[] }, { accessFlags := 2, nameIndex := 297, descriptorIndex := 80, attributes := #[] }] 48 2 #[] #[{ accessFlags := 26, nameIndex := 315, descriptorIndex := 57, attributes := #[] }, { accessFlags := 26, nameIndex := 317, descriptorIndex := 57, attributes := #[] }, { accessFlags := 26, nameIndex := 318, descriptorIndex := 57, attributes := #[] }, { accessFlags := 26, nameIndex := 319, descriptorIndex := 57, attributes := #[] }, { accessFlags := 26, nameIndex := 320, descriptorIndex := 57, attributes := #[] }, { accessFlags := 26, nameIndex := 321, descriptorIndex := 43, attributes := #[] }, { accessFlags := 24, nameIndex := 87, descriptorIndex := 43, attributes := #[] }, { accessFlags := 2, nameIndex := 11, descriptorIndex := 12, attributes := #[] }, { accessFlags := 2, nameIndex := 15, descriptorIndex := 12, attributes := #[] }, { accessFlags := 2, nameIndex := 18, descriptorIndex := 19, attributes := #[] }, { accessFlags := 2, nameIndex := 24, descriptorIndex := 25, attributes := #[] }, { accessFlags := 2, nameIndex := 28, descriptorIndex := 19, attributes := #[] }, { accessFlags := 2, nameIndex := 31, descriptorIndex := 32, attributes := #[] }, { accessFlags := 2, nameIndex := 35, descriptorIndex := 36, attributes := #[] }, { accessFlags := 2, nameIndex := 39, descriptorIndex := 36, attributes := #[] }, { accessFlags := 2, nameIndex := 42, descriptorIndex := 43, attributes := #[] }, { accessFlags := 2, nameIndex := 46, descriptorIndex := 43, attributes := #[] }, { accessFlags := 2, nameIndex := 60, descriptorIndex := 43, attributes := #[] }, { accessFlags := 2, nameIndex := 63, descriptorIndex := 43, attributes := #[] }, { accessFlags := 2, nameIndex := 49, descriptorIndex := 43, attributes := #[] }, { accessFlags := 2, nameIndex := 56, descriptorIndex := 57, attributes := #[] }])
  fields := #[{ name := "RELATIVE_LENGTH_FLOOR", type := .double, accessFlags := 26, slot := 0, constantValue := 0 }, { name := "RELATIVE_COUNT_FLOOR", type := .double, accessFlags := 26, slot := 1, constantValue := 0 }, { name := "POINT_BOUND_FRACTION", type := .double, accessFlags := 26, slot := 2, constantValue := 0 }, { name := "JOIN_FRACTION", type := .double, accessFlags := 26, slot := 3, constantValue := 0 }, { name := "MISPLACED_FRACTION", type := .double, accessFlags := 26, slot := 4, constantValue := 0 }, { name := "INITIAL_CAPACITY", type := .int, accessFlags := 26, slot := 5, constantValue := 0 }, { name := "NONE", type := .int, accessFlags := 24, slot := 6, constantValue := 0 }, { name := "thresholds", type := (.array .double), accessFlags := 2, slot := 0, constantValue := 0 }, { name := "ranks", type := (.array .double), accessFlags := 2, slot := 1, constantValue := 0 }, { name := "guarded", type := (.array .boolean), accessFlags := 2, slot := 2, constantValue := 0 }, { name := "extents", type := (.array (.object "com/example/rankline/rankline/Extent")), accessFlags := 2, slot := 3, constantValue := 0 }, { name := "addedAtThreshold", type := (.array .boolean), accessFlags := 2, slot := 4, constantValue := 0 }, { name := "copies", type := (.array .long), accessFlags := 2, slot := 5, constantValue := 0 }, { name := "nextOf", type := (.array .int), accessFlags := 2, slot := 6, constantValue := 0 }, { name := "previousOf", type := (.array .int), accessFlags := 2, slot := 7, constantValue := 0 }, { name := "first", type := .int, accessFlags := 2, slot := 8, constantValue := 0 }, { name := "last", type := .int, accessFlags := 2, slot := 9, constantValue := 0 }, { name := "size", type := .int, accessFlags := 2, slot := 10, constantValue := 0 }, { name := "used", type := .int, accessFlags := 2, slot := 11, constantValue := 0 }, { name := "free", type := .int, accessFlags := 2, slot := 12, constantValue := 0 }, { name := "smallestMagnitude", type := .double, accessFlags := 2, slot := 13, constantValue := 0 }]
  methods := #[k2m0, k2m1, k2m2, k2m3, k2m4, k2m5, k2m6, k2m7, k2m8]
  instanceTypes := #[(.array .double), (.array .double), (.array .boolean), (.array (.object "com/example/rankline/rankline/Extent")), (.array .boolean), (.array .long), (.array .int), (.array .int), .int, .int, .int, .int, .int, .double]
  staticTypes := #[.double, .double, .double, .double, .double, .int, .int]
  resolved := Array.replicate 367 none
  statics := none }

def pool3 : Array CpInfo := pool [(1, .methodref 2 3), (0, .class_ 4), (0, .nameAndType 5 6), (0, u "java/lang/Object"), (0, u "<init>"), (0, u "()V"), (0, .class_ 8), (0, u "java/lang/Record")] 13

def k3c0 : Code := { maxStack := 1, maxLocals := 1, code := jdk_30_method_1_code, exceptionTable := #[], attributes := #[] }
def k3m0 : Method := { name := "<init>", desc := "()V", sig := { parameters := [], returnType := none }, accessFlags := 4, code := some k3c0 }
/-- java/lang/Record -/
def k3 : Class := { plain "java/lang/Record" (some 0) with
  accessFlags := 1057
  interfaces := #[]
  cf := some (fileOf pool3 7 #[] #[{ accessFlags := 4, nameIndex := 5, descriptorIndex := 6, attributes := #[] }] 1057 2 #[] #[])
  fields := #[]
  methods := #[k3m0]
  instanceTypes := #[]
  staticTypes := #[]
  resolved := Array.replicate 22 none
  statics := none }

def pool4 : Array CpInfo := pool [(1, .methodref 2 3), (0, .class_ 4), (0, .nameAndType 5 6), (0, u "java/lang/Record"), (0, u "<init>"), (0, u "()V"), (0, .fieldref 8 9), (0, .class_ 10), (0, .nameAndType 11 12), (0, u "com/example/rankline/rankline/Extent"), (0, u "low"), (0, u "D"), (0, .fieldref 8 14), (0, .nameAndType 15 12), (0, u "gapLow"), (0, .fieldref 8 17), (0, .nameAndType 18 12), (0, u "gapHigh"), (0, .fieldref 8 20), (0, .nameAndType 21 12), (0, u "high"), (0, .fieldref 8 23), (0, .nameAndType 24 12), (0, u "below"), (0, .fieldref 8 26), (0, .nameAndType 27 12), (0, u "count"), (0, .methodref 8 29), (0, .nameAndType 5 30), (0, u "(DDDDDD)V"), (0, .methodref 8 32), (0, .nameAndType 33 34), (0, u "isEmpty"), (0, u "()Z"), (2, u "NONE"), (0, u "Lcom/example/rankline/rankline/Extent;"), (6, u "of"), (0, u "(DDD)Lcom/example/rankline/rankline/Extent;"), (9, .methodref 8 57), (0, .nameAndType 58 59), (0, u "blocks"), (0, u "([DI)I"), (4, .class_ 65), (0, u "com/example/rankline/rankline/Extent$Cover"), (0, .methodref 64 3), (0, .methodref 64 68), (0, .nameAndType 69 70), (0, u "take"), (0, u "(DDD)V"), (0, .methodref 64 72), (0, .nameAndType 73 74), (0, u "extent"), (0, u "()Lcom/example/rankline/rankline/Extent;"), (9, .methodref 8 85), (0, .nameAndType 86 34), (0, u "hasGap"), (37, u "BLOCK"), (0, u "I"), (9, u "union"), (0, u "(Lcom/example/rankline/rankline/Extent;)Lcom/example/rankline/rankline/Extent;")] 41

def k4c0 : Code := { maxStack := 3, maxLocals := 13, code := prog_17_method_1_code, exceptionTable := #[], attributes := #[] }
def k4m0 : Method := { name := "<init>", desc := "(DDDDDD)V", sig := { parameters := [.double, .double, .double, .double, .double, .double], returnType := none }, accessFlags := 0, code := some k4c0 }
def k4c1 : Code := { maxStack := 14, maxLocals := 6, code := prog_17_method_2_code, exceptionTable := #[], attributes := #[] }
def k4m1 : Method := { name := "of", desc := "(DDD)Lcom/example/rankline/rankline/Extent;", sig := { parameters := [.double, .double, .double], returnType := some (.object "com/example/rankline/rankline/Extent") }, accessFlags := 8, code := some k4c1 }
def k4c2 : Code := { maxStack := 4, maxLocals := 1, code := prog_17_method_3_code, exceptionTable := #[], attributes := #[] }
def k4m2 : Method := { name := "isEmpty", desc := "()Z", sig := { parameters := [], returnType := some .boolean }, accessFlags := 0, code := some k4c2 }
def k4c3 : Code := { maxStack := 4, maxLocals := 1, code := prog_17_method_4_code, exceptionTable := #[], attributes := #[] }
def k4m3 : Method := { name := "hasGap", desc := "()Z", sig := { parameters := [], returnType := some .boolean }, accessFlags := 0, code := some k4c3 }
def k4c4 : Code := { maxStack := 8, maxLocals := 7, code := prog_17_method_8_code, exceptionTable := #[], attributes := #[] }
def k4m4 : Method := { name := "union", desc := "(Lcom/example/rankline/rankline/Extent;)Lcom/example/rankline/rankline/Extent;", sig := { parameters := [(.object "com/example/rankline/rankline/Extent")], returnType := some (.object "com/example/rankline/rankline/Extent") }, accessFlags := 0, code := some k4c4 }
def k4c5 : Code := { maxStack := 6, maxLocals := 3, code := prog_17_method_10_code, exceptionTable := #[], attributes := #[] }
def k4m5 : Method := { name := "blocks", desc := "([DI)I", sig := { parameters := [(.array .double), .int], returnType := some .int }, accessFlags := 2, code := some k4c5 }
/-- com/example/rankline/rankline/Extent -/
def k4 : Class := { plain "com/example/rankline/rankline/Extent" (some 3) with
  accessFlags := 48
  interfaces := #[]
  cf := some (fileOf pool4 8 #[.nestMembers #[64]] #[{ accessFlags := 0, nameIndex := 5, descriptorIndex := 30, attributes := #[] }, { accessFlags := 8, nameIndex := 45, descriptorIndex := 46, attributes := #[] }, { accessFlags := 0, nameIndex := 33, descriptorIndex := 34, attributes := #[] }, { accessFlags := 0, nameIndex := 86, descriptorIndex := 34, attributes := #[] }, { accessFlags := 0, nameIndex := 135, descriptorIndex := 136, attributes := #[] }, { accessFlags := 2, nameIndex := 58, descriptorIndex := 59, attributes := #[] }] 48 2 #[] #[{ accessFlags := 18, nameIndex := 11, descriptorIndex := 12, attributes := #[] }, { accessFlags := 18, nameIndex := 15, descriptorIndex := 12, attributes := #[] }, { accessFlags := 18, nameIndex := 18, descriptorIndex := 12, attributes := #[] }, { accessFlags := 18, nameIndex := 21, descriptorIndex := 12, attributes := #[] }, { accessFlags := 18, nameIndex := 24, descriptorIndex := 12, attributes := #[] }, { accessFlags := 18, nameIndex := 27, descriptorIndex := 12, attributes := #[] }, { accessFlags := 24, nameIndex := 37, descriptorIndex := 38, attributes := #[] }, { accessFlags := 26, nameIndex := 124, descriptorIndex := 125, attributes := #[] }])
  fields := #[{ name := "low", type := .double, accessFlags := 18, slot := 0, constantValue := 0 }, { name := "gapLow", type := .double, accessFlags := 18, slot := 1, constantValue := 0 }, { name := "gapHigh", type := .double, accessFlags := 18, slot := 2, constantValue := 0 }, { name := "high", type := .double, accessFlags := 18, slot := 3, constantValue := 0 }, { name := "below", type := .double, accessFlags := 18, slot := 4, constantValue := 0 }, { name := "count", type := .double, accessFlags := 18, slot := 5, constantValue := 0 }, { name := "NONE", type := (.object "com/example/rankline/rankline/Extent"), accessFlags := 24, slot := 0, constantValue := 0 }, { name := "BLOCK", type := .int, accessFlags := 26, slot := 1, constantValue := 0 }]
  methods := #[k4m0, k4m1, k4m2, k4m3, k4m4, k4m5]
  instanceTypes := #[.double, .double, .double, .double, .double, .double]
  staticTypes := #[(.object "com/example/rankline/rankline/Extent"), .int]
  resolved := ((Array.replicate 178 none).setIfInBounds 64 (some (.cls 5))).setIfInBounds 66 (some (.method ⟨5, 0⟩))
  statics := some 0 }

def pool5 : Array CpInfo := pool [(1, .methodref 2 3), (0, .class_ 4), (0, .nameAndType 5 6), (0, u "java/lang/Object"), (0, u "<init>"), (0, u "()V"), (2, .double 9218868437227405312), (1, .fieldref 12 13), (0, .class_ 14), (0, .nameAndType 15 16), (0, u "com/example/rankline/rankline/Extent$Cover"), (0, u "low"), (0, u "D"), (0, .double 18442240474082181120), (1, .fieldref 12 20), (0, .nameAndType 21 16), (0, u "high"), (0, .fieldref 12 23), (0, .nameAndType 24 16), (0, u "gapLow"), (0, .fieldref 12 26), (0, .nameAndType 27 16), (0, u "gapHigh"), (0, .fieldref 12 29), (0, .nameAndType 30 16), (0, u "count"), (1, .class_ 34), (1, u "com/example/rankline/rankline/Extent"), (2, .fieldref 12 38), (0, .nameAndType 39 16), (0, u "below"), (0, .methodref 41 42), (0, .class_ 43), (0, .nameAndType 44 45), (0, u "java/lang/Math"), (0, u "max"), (0, u "(DD)D"), (4, .methodref 32 51), (0, .nameAndType 5 52), (0, u "(DDDDDD)V"), (0, .methodref 32 54), (0, .nameAndType 55 56), (0, u "of"), (0, u "(DDD)Lcom/example/rankline/rankline/Extent;"), (2, u "take"), (0, u "(DDD)V"), (1, u "extent"), (0, u "()Lcom/example/rankline/rankline/Extent;")] 5

def k5c0 : Code := { maxStack := 3, maxLocals := 1, code := prog_18_method_1_code, exceptionTable := #[], attributes := #[] }
def k5m0 : Method := { name := "<init>", desc := "()V", sig := { parameters := [], returnType := none }, accessFlags := 2, code := some k5c0 }
def k5c1 : Code := { maxStack := 8, maxLocals := 7, code := prog_18_method_2_code, exceptionTable := #[], attributes := #[] }
def k5m1 : Method := { name := "take", desc := "(DDD)V", sig := { parameters := [.double, .double, .double], returnType := none }, accessFlags := 0, code := some k5c1 }
def k5c2 : Code := { maxStack := 14, maxLocals := 1, code := prog_18_method_3_code, exceptionTable := #[], attributes := #[] }
def k5m2 : Method := { name := "extent", desc := "()Lcom/example/rankline/rankline/Extent;", sig := { parameters := [], returnType := some (.object "com/example/rankline/rankline/Extent") }, accessFlags := 0, code := some k5c2 }
/-- com/example/rankline/rankline/Extent$Cover -/
def k5 : Class := { plain "com/example/rankline/rankline/Extent$Cover" (some 0) with
  accessFlags := 48
  interfaces := #[]
  cf := some (fileOf pool5 12 #[.nestHost 32] #[{ accessFlags := 2, nameIndex := 5, descriptorIndex := 6, attributes := #[] }, { accessFlags := 0, nameIndex := 59, descriptorIndex := 60, attributes := #[] }, { accessFlags := 0, nameIndex := 62, descriptorIndex := 63, attributes := #[] }] 48 2 #[] #[{ accessFlags := 2, nameIndex := 15, descriptorIndex := 16, attributes := #[] }, { accessFlags := 2, nameIndex := 21, descriptorIndex := 16, attributes := #[] }, { accessFlags := 2, nameIndex := 24, descriptorIndex := 16, attributes := #[] }, { accessFlags := 2, nameIndex := 27, descriptorIndex := 16, attributes := #[] }, { accessFlags := 2, nameIndex := 39, descriptorIndex := 16, attributes := #[] }, { accessFlags := 2, nameIndex := 30, descriptorIndex := 16, attributes := #[] }])
  fields := #[{ name := "low", type := .double, accessFlags := 2, slot := 0, constantValue := 0 }, { name := "high", type := .double, accessFlags := 2, slot := 1, constantValue := 0 }, { name := "gapLow", type := .double, accessFlags := 2, slot := 2, constantValue := 0 }, { name := "gapHigh", type := .double, accessFlags := 2, slot := 3, constantValue := 0 }, { name := "below", type := .double, accessFlags := 2, slot := 4, constantValue := 0 }, { name := "count", type := .double, accessFlags := 2, slot := 5, constantValue := 0 }]
  methods := #[k5m0, k5m1, k5m2]
  instanceTypes := #[.double, .double, .double, .double, .double, .double]
  staticTypes := #[]
  resolved := Array.replicate 69 none
  statics := none }

def pool6 : Array CpInfo := pool [(1, .class_ 2), (0, u "java/lang/Math"), (1, .class_ 6), (1, u "java/lang/Object"), (0, u "<init>"), (0, u "()V"), (43, u "(DD)D"), (45, .class_ 100), (1, u "java/lang/Math$RandomNumberGeneratorHolder"), (71, u "negativeZeroFloatBits"), (0, u "J"), (2, u "negativeZeroDoubleBits"), (21, u "max"), (46, u "$assertionsDisabled"), (0, u "Z"), (91, u "twoToTheDoubleScaleDown"), (0, u "D"), (4, u "twoToTheDoubleScaleUp"), (9, u "E"), (3, u "PI"), (2, u "TAU"), (2, u "DEGREES_TO_RADIANS"), (0, u "RADIANS_TO_DEGREES")] 94

def k6m0 : Method := { name := "<init>", desc := "()V", sig := { parameters := [], returnType := none }, accessFlags := 2, code := none }
def k6c1 : Code := { maxStack := 4, maxLocals := 4, code := jdk_29_method_68_code, exceptionTable := #[], attributes := #[] }
def k6m1 : Method := { name := "max", desc := "(DD)D", sig := { parameters := [.double, .double], returnType := some .double }, accessFlags := 9, code := some k6c1 }
/-- java/lang/Math -/
def k6 : Class := { plain "java/lang/Math" (some 0) with
  accessFlags := 49
  interfaces := #[]
  cf := some (fileOf pool6 1 #[.nestMembers #[98]] #[{ accessFlags := 2, nameIndex := 7, descriptorIndex := 8, attributes := #[] }, { accessFlags := 9, nameIndex := 198, descriptorIndex := 52, attributes := #[] }] 49 4 #[] #[{ accessFlags := 25, nameIndex := 354, descriptorIndex := 339, attributes := #[] }, { accessFlags := 25, nameIndex := 358, descriptorIndex := 339, attributes := #[] }, { accessFlags := 25, nameIndex := 361, descriptorIndex := 339, attributes := #[] }, { accessFlags := 26, nameIndex := 364, descriptorIndex := 339, attributes := #[] }, { accessFlags := 26, nameIndex := 365, descriptorIndex := 339, attributes := #[] }, { accessFlags := 26, nameIndex := 172, descriptorIndex := 173, attributes := #[] }, { accessFlags := 26, nameIndex := 176, descriptorIndex := 173, attributes := #[] }, { accessFlags := 8, nameIndex := 344, descriptorIndex := 339, attributes := #[] }, { accessFlags := 8, nameIndex := 338, descriptorIndex := 339, attributes := #[] }, { accessFlags := 4120, nameIndex := 245, descriptorIndex := 246, attributes := #[] }])
  fields := #[{ name := "E", type := .double, accessFlags := 25, slot := 0, constantValue := 0 }, { name := "PI", type := .double, accessFlags := 25, slot := 1, constantValue := 0 }, { name := "TAU", type := .double, accessFlags := 25, slot := 2, constantValue := 0 }, { name := "DEGREES_TO_RADIANS", type := .double, accessFlags := 26, slot := 3, constantValue := 0 }, { name := "RADIANS_TO_DEGREES", type := .double, accessFlags := 26, slot := 4, constantValue := 0 }, { name := "negativeZeroFloatBits", type := .long, accessFlags := 26, slot := 5, constantValue := 0 }, { name := "negativeZeroDoubleBits", type := .long, accessFlags := 26, slot := 6, constantValue := 0 }, { name := "twoToTheDoubleScaleUp", type := .double, accessFlags := 8, slot := 7, constantValue := 0 }, { name := "twoToTheDoubleScaleDown", type := .double, accessFlags := 8, slot := 8, constantValue := 0 }, { name := "$assertionsDisabled", type := .boolean, accessFlags := 4120, slot := 9, constantValue := 0 }]
  methods := #[k6m0, k6m1]
  instanceTypes := #[]
  staticTypes := #[.double, .double, .double, .double, .double, .long, .long, .double, .double, .boolean]
  resolved := Array.replicate 460 none
  statics := none }

def pool7 : Array CpInfo := pool [(1, .methodref 2 3), (0, .class_ 4), (0, .nameAndType 5 6), (0, u "java/lang/Object"), (0, u "<init>"), (0, u "()V"), (0, .fieldref 8 9), (0, .class_ 10), (0, .nameAndType 11 12), (0, u "com/example/rankline/rankline/ValueCounts"), (0, u "values"), (0, u "[D"), (0, .fieldref 8 14), (0, .nameAndType 15 16), (0, u "ranks"), (0, u "[J"), (0, .methodref 8 18), (0, .nameAndType 5 19), (0, u "([D[J)V"), (0, .methodref 21 22), (0, .class_ 23), (0, .nameAndType 24 25), (0, u "java/util/Arrays"), (0, u "copyOf"), (0, u "([DI)[D"), (5, u "size"), (0, u "()I"), (2, u "count"), (0, u "(I)J"), (2, u "of"), (0, u "([D[JI)Lcom/example/rankline/rankline/ValueCounts;"), (6, u "EMPTY"), (0, u "Lcom/example/rankline/rankline/ValueCounts;"), (9, u "value"), (0, u "(I)D"), (0, u "rank")] 9

def k7c0 : Code := { maxStack := 2, maxLocals := 3, code := prog_40_method_1_code, exceptionTable := #[], attributes := #[] }
def k7m0 : Method := { name := "<init>", desc := "([D[J)V", sig := { parameters := [(.array .double), (.array .long)], returnType := none }, accessFlags := 2, code := some k7c0 }
def k7c1 : Code := { maxStack := 4, maxLocals := 7, code := prog_40_method_3_code, exceptionTable := #[], attributes := #[] }
def k7m1 : Method := { name := "of", desc := "([D[JI)Lcom/example/rankline/rankline/ValueCounts;", sig := { parameters := [(.array .double), (.array .long), .int], returnType := some (.object "com/example/rankline/rankline/ValueCounts") }, accessFlags := 8, code := some k7c1 }
def k7c2 : Code := { maxStack := 1, maxLocals := 1, code := prog_40_method_5_code, exceptionTable := #[], attributes := #[] }
def k7m2 : Method := { name := "size", desc := "()I", sig := { parameters := [], returnType := some .int }, accessFlags := 0, code := some k7c2 }
def k7c3 : Code := { maxStack := 2, maxLocals := 2, code := prog_40_method_6_code, exceptionTable := #[], attributes := #[] }
def k7m3 : Method := { name := "value", desc := "(I)D", sig := { parameters := [.int], returnType := some .double }, accessFlags := 0, code := some k7c3 }
def k7c4 : Code := { maxStack := 5, maxLocals := 2, code := prog_40_method_7_code, exceptionTable := #[], attributes := #[] }
def k7m4 : Method := { name := "count", desc := "(I)J", sig := { parameters := [.int], returnType := some .long }, accessFlags := 0, code := some k7c4 }
def k7c5 : Code := { maxStack := 2, maxLocals := 2, code := prog_40_method_8_code, exceptionTable := #[], attributes := #[] }
def k7m5 : Method := { name := "rank", desc := "(I)J", sig := { parameters := [.int], returnType := some .long }, accessFlags := 0, code := some k7c5 }
/-- com/example/rankline/rankline/ValueCounts -/
def k7 : Class := { plain "com/example/rankline/rankline/ValueCounts" (some 0) with
  accessFlags := 48
  interfaces := #[]
  cf := some (fileOf pool7 8 #[] #[{ accessFlags := 2, nameIndex := 5, descriptorIndex := 19, attributes := #[] }, { accessFlags := 8, nameIndex := 39, descriptorIndex := 40, attributes := #[] }, { accessFlags := 0, nameIndex := 31, descriptorIndex := 32, attributes := #[] }, { accessFlags := 0, nameIndex := 58, descriptorIndex := 59, attributes := #[] }, { accessFlags := 0, nameIndex := 35, descriptorIndex := 36, attributes := #[] }, { accessFlags := 0, nameIndex := 60, descriptorIndex := 36, attributes := #[] }] 48 2 #[] #[{ accessFlags := 24, nameIndex := 47, descriptorIndex := 48, attributes := #[] }, { accessFlags := 18, nameIndex := 11, descriptorIndex := 12, attributes := #[] }, { accessFlags := 18, nameIndex := 15, descriptorIndex := 16, attributes := #[] }])
  fields := #[{ name := "EMPTY", type := (.object "com/example/rankline/rankline/ValueCounts"), accessFlags := 24, slot := 0, constantValue := 0 }, { name := "values", type := (.array .double), accessFlags := 18, slot := 0, constantValue := 0 }, { name := "ranks", type := (.array .long), accessFlags := 18, slot := 1, constantValue := 0 }]
  methods := #[k7m0, k7m1, k7m2, k7m3, k7m4, k7m5]
  instanceTypes := #[(.array .double), (.array .long)]
  staticTypes := #[(.object "com/example/rankline/rankline/ValueCounts")]
  resolved := Array.replicate 70 none
  statics := none }

def pool8 : Array CpInfo := pool [(2, .class_ 4), (1, u "java/lang/Object"), (0, u "<init>"), (0, u "()V"), (7, .class_ 16), (1, u "java/util/Arrays"), (57, .class_ 76), (1, u "java/util/Arrays$NaturalOrder"), (32, u "()Ljava/lang/Object;"), (3, .class_ 115), (1, u "java/util/Arrays$LegacyMergeSort"), (1, u "Z"), (10, .nameAndType 129 109), (0, u "clone"), (172, u "copyOf"), (25, .methodref 329 128), (0, .class_ 330), (0, u "[D"), (44, .class_ 376), (0, u "java/util/Arrays$ArrayList"), (68, u "$assertionsDisabled"), (269, u "MIN_ARRAY_SORT_GRAN"), (0, u "I"), (2, u "INSERTIONSORT_THRESHOLD"), (155, u "([DI)[D"), (99, .class_ 976), (0, u "java/util/Arrays$ArrayItr")] 52

def k8m0 : Method := { name := "<init>", desc := "()V", sig := { parameters := [], returnType := none }, accessFlags := 2, code := none }
def k8c1 : Code := { maxStack := 6, maxLocals := 3, code := jdk_65_method_127_code, exceptionTable := #[], attributes := #[] }
def k8m1 : Method := { name := "copyOf", desc := "([DI)[D", sig := { parameters := [(.array .double), .int], returnType := some (.array .double) }, accessFlags := 9, code := some k8c1 }
/-- java/util/Arrays -/
def k8 : Class := { plain "java/util/Arrays" (some 0) with
  accessFlags := 49
  interfaces := #[]
  cf := some (fileOf pool8 14 #[.nestMembers #[975, 375, 113, 74]] #[{ accessFlags := 2, nameIndex := 5, descriptorIndex := 6, attributes := #[] }, { accessFlags := 9, nameIndex := 302, descriptorIndex := 875, attributes := #[] }] 49 2 #[] #[{ accessFlags := 26, nameIndex := 715, descriptorIndex := 716, attributes := #[] }, { accessFlags := 26, nameIndex := 719, descriptorIndex := 716, attributes := #[] }, { accessFlags := 4120, nameIndex := 445, descriptorIndex := 117, attributes := #[] }])
  fields := #[{ name := "MIN_ARRAY_SORT_GRAN", type := .int, accessFlags := 26, slot := 0, constantValue := 0 }, { name := "INSERTIONSORT_THRESHOLD", type := .int, accessFlags := 26, slot := 1, constantValue := 0 }, { name := "$assertionsDisabled", type := .boolean, accessFlags := 4120, slot := 2, constantValue := 0 }]
  methods := #[k8m0, k8m1]
  instanceTypes := #[]
  staticTypes := #[.int, .int, .boolean]
  resolved := Array.replicate 1029 none
  statics := none }

def pool9 : Array CpInfo := pool [(1, .class_ 2), (0, u "java/lang/Cloneable"), (0, .class_ 4), (0, u "java/lang/Object")] 2

/-- java/lang/Cloneable -/
def k9 : Class := { plain "java/lang/Cloneable" (some 0) with
  accessFlags := 1537
  interfaces := #[]
  cf := some (fileOf pool9 1 #[] #[] 1537 3 #[] #[])
  fields := #[]
  methods := #[]
  instanceTypes := #[]
  staticTypes := #[]
  resolved := Array.replicate 7 none
  statics := none }

def pool10 : Array CpInfo := pool [(1, u "java/io/Serializable"), (0, .class_ 1), (0, u "java/lang/Object"), (0, .class_ 3)] 3

/-- java/io/Serializable -/
def k10 : Class := { plain "java/io/Serializable" (some 0) with
  accessFlags := 1537
  interfaces := #[]
  cf := some (fileOf pool10 2 #[] #[] 1537 4 #[] #[])
  fields := #[]
  methods := #[]
  instanceTypes := #[]
  staticTypes := #[]
  resolved := Array.replicate 8 none
  statics := none }

/-- the primitive boolean -/
def k11 : Class := { plain "boolean" none with kind := .primitive 'Z', accessFlags := 0x411 }
/-- [Z -/
def k12 : Class := { plain "[Z" (some 0) with kind := .array 11 .boolean, interfaces := #[9, 10], accessFlags := 1041 }

/-- the primitive byte -/
def k13 : Class := { plain "byte" none with kind := .primitive 'B', accessFlags := 0x411 }
/-- [B -/
def k14 : Class := { plain "[B" (some 0) with kind := .array 13 .byte, interfaces := #[9, 10], accessFlags := 1041 }

/-- the primitive double -/
def k15 : Class := { plain "double" none with kind := .primitive 'D', accessFlags := 0x411 }
/-- [D -/
def k16 : Class := { plain "[D" (some 0) with kind := .array 15 .double, interfaces := #[9, 10], accessFlags := 1041 }

/-- the primitive int -/
def k17 : Class := { plain "int" none with kind := .primitive 'I', accessFlags := 0x411 }
/-- [I -/
def k18 : Class := { plain "[I" (some 0) with kind := .array 17 .int, interfaces := #[9, 10], accessFlags := 1041 }

/-- the primitive long -/
def k19 : Class := { plain "long" none with kind := .primitive 'J', accessFlags := 0x411 }
/-- [J -/
def k20 : Class := { plain "[J" (some 0) with kind := .array 19 .long, interfaces := #[9, 10], accessFlags := 1041 }

/-- [Lcom/example/rankline/rankline/Extent; -/
def k21 : Class := { plain "[Lcom/example/rankline/rankline/Extent;" (some 0) with kind := .array 4 (.object "com/example/rankline/rankline/Extent"), interfaces := #[9, 10], accessFlags := 1041 }

def heap : Heap := #[{ cls := 4, slots := #[.ref 1, .int 0], vm := .statics 4 },
  { cls := 4, slots := #[.double 0, .double 0, .double 0, .double 0, .double 0, .double 0], vm := .none }]
def classes : Array Class := #[k0, k1, k2, k3, k4, k5, k6, k7, k8, k9, k10, k11, k12, k13, k14, k15, k16, k17, k18, k19, k20, k21]
def interned : List (Array UInt16 × Addr) := []
def slotsUsed : Nat := 8
def theMethod : MethodId := ⟨1, 1⟩
def args0 : Array Value := #[.int 5, .int 7, .int 9, .int 9, .int 9]
def aboutOver (below : List Frame) : State where
  vm := { classes := classes, interned := interned.toArray }
  heap := heap
  slotsUsed := slotsUsed
  threads := #[{ frames := .invoking theMethod args0 :: below }]
def below0 : List Frame := [.native { method := ⟨0, 0⟩, args := #[] }]
def about1 : State := aboutOver below0
def p0 : Program := .bare "" "" ""
def e0 : Env := launch0.env 0 0 0
theorem w_frames : about1.frames = Frame.invoking theMethod args0 :: below0 := rfl
set_option maxRecDepth 65536 in
theorem w_args : argsFit about1.vm theMethod args0 = true := by decide +kernel
set_option maxRecDepth 65536 in
theorem w_heap : heapFits about1 = true := by decide +kernel
set_option maxRecDepth 65536 in
theorem w_runnable : about1.curStatus? = some .runnable := by decide +kernel
set_option maxRecDepth 65536 in
theorem w_alone : about1.alone = true := by decide +kernel
set_option maxRecDepth 65536 in
theorem w_named : about1.methodNamed? x = some theMethod := by decide +kernel
set_option maxRecDepth 65536 in
theorem w_hears : about1.hears theMethod below0 = true := by decide +kernel
set_option maxRecDepth 65536 in
theorem w_ripe : about1.ripe theMethod args0 below0 = true := by decide +kernel
theorem w_running : about1.status = .running := rfl
set_option maxRecDepth 65536 in
theorem w_room : about1.hasRoom e0.platform room_1 = true :=
  launch0.hasRoom_least _ room_1 (by decide +kernel) (by decide +kernel) (by decide +kernel) (by decide +kernel) (by decide +kernel) (by decide +kernel)
theorem allAtoms_all (ts : List Jvm.Cond) (a : Array Jvm.Value) (st : Jvm.State) : (allAtoms ts).before a st = ts.all (fun c => c.before a st) := by
  induction ts with
  | nil => rfl
  | cons c t ih =>
    show (Jvm.Cond.and c (allAtoms t)).before a st = _
    rw [Jvm.Cond.before_and, ih, List.all_cons]
def words1 : List Jvm.Cond := Jvm.Cond.code x code maxLocals ret :: tables_1
/-- a 'code' word, met by the world's own term for the bytes: nothing is compared byte by byte -/
theorem code_word {y : MethodName} {bytes : ByteArray} {mx : Nat} {rt : Option FieldType} {a : Array Value} {s : State} {m : MethodId} {meth : Method} {c : Code} (h1 : s.methodNamed? y = some m) (h2 : s.vm.method? m = some meth) (h3 : meth.code = some c) (h4 : c.code = bytes)
    (h5 : (c.maxLocals == mx && c.exceptionTable.isEmpty && decide (c.maxStack ≤ mostOperands) && decide (meth.sig.returnType = rt) && !meth.locks && decide (parseMethodDescriptor y.desc = some meth.sig)) = true) : (Jvm.Cond.code y bytes mx rt).before a s = true := by
  simp only [Bool.and_eq_true, beq_iff_eq, Bool.not_eq_true', decide_eq_true_eq] at h5
  obtain ⟨⟨⟨⟨⟨g1, g2⟩, g3⟩, g4⟩, g5⟩, g6⟩ := h5
  simp [Cond.before, Cond.holds, Cond.value, h1, h2, h3, h4, g1, g2, g3, g4, g5, g6]
def isCode : Jvm.Cond → Bool
  | .code _ _ _ _ => true
  | _ => false
theorem all_split {L : List Jvm.Cond} {P : Jvm.Cond → Bool} (h1 : L.all (fun c => isCode c || P c) = true) (h2 : ∀ c ∈ L.filter isCode, P c = true) : L.all P = true := by
  refine List.all_eq_true.mpr fun c hc => ?_
  have h := List.all_eq_true.mp h1 c hc
  rcases Bool.eq_false_or_eq_true (isCode c) with hi | hi
  · exact h2 c (List.mem_filter.mpr ⟨hc, hi⟩)
  · simpa [hi] using h
set_option maxRecDepth 65536 in
theorem w_c0 : (Jvm.Cond.code x code maxLocals ret).before args0 about1 = true := code_word (m := ⟨1, 1⟩) (meth := k1m1) (c := k1c1) (by decide +kernel) rfl rfl rfl (by decide +kernel)
set_option maxRecDepth 65536 in
theorem w_c1 : (Jvm.Cond.code ({ cls := "com/example/rankline/rankline/Buckets", name := "<init>", desc := "()V" } : Jvm.MethodName) prog_5_method_1_code (1 : Nat) (Option.none : Option Jvm.ClassFile.FieldType)).before args0 about1 = true := code_word (m := ⟨2, 0⟩) (meth := k2m0) (c := k2c0) (by decide +kernel) rfl rfl rfl (by decide +kernel)
set_option maxRecDepth 65536 in
theorem w_c2 : (Jvm.Cond.code ({ cls := "java/lang/Object", name := "<init>", desc := "()V" } : Jvm.MethodName) object_method_1_code (1 : Nat) (Option.none : Option Jvm.ClassFile.FieldType)).before args0 about1 = true := code_word (m := ⟨0, 0⟩) (meth := k0m0) (c := k0c0) (by decide +kernel) rfl rfl rfl (by decide +kernel)
set_option maxRecDepth 65536 in
theorem w_c3 : (Jvm.Cond.code ({ cls := "com/example/rankline/rankline/Buckets", name := "append", desc := "(DD)V" } : Jvm.MethodName) prog_5_method_12_code (7 : Nat) (Option.none : Option Jvm.ClassFile.FieldType)).before args0 about1 = true := code_word (m := ⟨2, 2⟩) (meth := k2m2) (c := k2c2) (by decide +kernel) rfl rfl rfl (by decide +kernel)
set_option maxRecDepth 65536 in
theorem w_c4 : (Jvm.Cond.code ({ cls := "com/example/rankline/rankline/Extent", name := "of", desc := "(DDD)Lcom/example/rankline/rankline/Extent;" } : Jvm.MethodName) prog_17_method_2_code (6 : Nat) (Option.some (Jvm.ClassFile.FieldType.object "com/example/rankline/rankline/Extent"))).before args0 about1 = true := code_word (m := ⟨4, 1⟩) (meth := k4m1) (c := k4c1) (by decide +kernel) rfl rfl rfl (by decide +kernel)
set_option maxRecDepth 65536 in
theorem w_c5 : (Jvm.Cond.code ({ cls := "com/example/rankline/rankline/Extent", name := "<init>", desc := "(DDDDDD)V" } : Jvm.MethodName) prog_17_method_1_code (13 : Nat) (Option.none : Option Jvm.ClassFile.FieldType)).before args0 about1 = true := code_word (m := ⟨4, 0⟩) (meth := k4m0) (c := k4c0) (by decide +kernel) rfl rfl rfl (by decide +kernel)
set_option maxRecDepth 65536 in
theorem w_c6 : (Jvm.Cond.code ({ cls := "java/lang/Record", name := "<init>", desc := "()V" } : Jvm.MethodName) jdk_30_method_1_code (1 : Nat) (Option.none : Option Jvm.ClassFile.FieldType)).before args0 about1 = true := code_word (m := ⟨3, 0⟩) (meth := k3m0) (c := k3c0) (by decide +kernel) rfl rfl rfl (by decide +kernel)
set_option maxRecDepth 65536 in
theorem w_c7 : (Jvm.Cond.code ({ cls := "com/example/rankline/rankline/Buckets", name := "append", desc := "(DDLcom/example/rankline/rankline/Extent;J)V" } : Jvm.MethodName) prog_5_method_13_code (8 : Nat) (Option.none : Option Jvm.ClassFile.FieldType)).before args0 about1 = true := code_word (m := ⟨2, 3⟩) (meth := k2m3) (c := k2c3) (by decide +kernel) rfl rfl rfl (by decide +kernel)
set_option maxRecDepth 65536 in
theorem w_c8 : (Jvm.Cond.code ({ cls := "com/example/rankline/rankline/Buckets", name := "insertBefore", desc := "(IDDLcom/example/rankline/rankline/Extent;J)I" } : Jvm.MethodName) prog_5_method_55_code (11 : Nat) (Option.some Jvm.ClassFile.FieldType.int)).before args0 about1 = true := code_word (m := ⟨2, 7⟩) (meth := k2m7) (c := k2c7) (by decide +kernel) rfl rfl rfl (by decide +kernel)
set_option maxRecDepth 65536 in
theorem w_c9 : (Jvm.Cond.code ({ cls := "com/example/rankline/rankline/Buckets", name := "allocate", desc := "()I" } : Jvm.MethodName) prog_5_method_56_code (2 : Nat) (Option.some Jvm.ClassFile.FieldType.int)).before args0 about1 = true := code_word (m := ⟨2, 8⟩) (meth := k2m8) (c := k2c8) (by decide +kernel) rfl rfl rfl (by decide +kernel)
set_option maxRecDepth 65536 in
theorem w_c10 : (Jvm.Cond.code ({ cls := "com/example/rankline/rankline/Buckets", name := "join", desc := "(I)V" } : Jvm.MethodName) prog_5_method_27_code (4 : Nat) (Option.none : Option Jvm.ClassFile.FieldType)).before args0 about1 = true := code_word (m := ⟨2, 6⟩) (meth := k2m6) (c := k2c6) (by decide +kernel) rfl rfl rfl (by decide +kernel)
set_option maxRecDepth 65536 in
theorem w_c11 : (Jvm.Cond.code ({ cls := "com/example/rankline/rankline/Extent", name := "union", desc := "(Lcom/example/rankline/rankline/Extent;)Lcom/example/rankline/rankline/Extent;" } : Jvm.MethodName) prog_17_method_8_code (7 : Nat) (Option.some (Jvm.ClassFile.FieldType.object "com/example/rankline/rankline/Extent"))).before args0 about1 = true := code_word (m := ⟨4, 4⟩) (meth := k4m4) (c := k4c4) (by decide +kernel) rfl rfl rfl (by decide +kernel)
set_option maxRecDepth 65536 in
theorem w_c12 : (Jvm.Cond.code ({ cls := "com/example/rankline/rankline/Extent", name := "blocks", desc := "([DI)I" } : Jvm.MethodName) prog_17_method_10_code (3 : Nat) (Option.some Jvm.ClassFile.FieldType.int)).before args0 about1 = true := code_word (m := ⟨4, 5⟩) (meth := k4m5) (c := k4c5) (by decide +kernel) rfl rfl rfl (by decide +kernel)
set_option maxRecDepth 65536 in
theorem w_c13 : (Jvm.Cond.code ({ cls := "com/example/rankline/rankline/Extent", name := "isEmpty", desc := "()Z" } : Jvm.MethodName) prog_17_method_3_code (1 : Nat) (Option.some Jvm.ClassFile.FieldType.boolean)).before args0 about1 = true := code_word (m := ⟨4, 2⟩) (meth := k4m2) (c := k4c2) (by decide +kernel) rfl rfl rfl (by decide +kernel)
set_option maxRecDepth 65536 in
theorem w_c14 : (Jvm.Cond.code ({ cls := "com/example/rankline/rankline/Extent", name := "hasGap", desc := "()Z" } : Jvm.MethodName) prog_17_method_4_code (1 : Nat) (Option.some Jvm.ClassFile.FieldType.boolean)).before args0 about1 = true := code_word (m := ⟨4, 3⟩) (meth := k4m3) (c := k4c3) (by decide +kernel) rfl rfl rfl (by decide +kernel)
set_option maxRecDepth 65536 in
theorem w_c15 : (Jvm.Cond.code ({ cls := "com/example/rankline/rankline/Extent$Cover", name := "<init>", desc := "()V" } : Jvm.MethodName) prog_18_method_1_code (1 : Nat) (Option.none : Option Jvm.ClassFile.FieldType)).before args0 about1 = true := code_word (m := ⟨5, 0⟩) (meth := k5m0) (c := k5c0) (by decide +kernel) rfl rfl rfl (by decide +kernel)
set_option maxRecDepth 65536 in
theorem w_c16 : (Jvm.Cond.code ({ cls := "com/example/rankline/rankline/Extent$Cover", name := "take", desc := "(DDD)V" } : Jvm.MethodName) prog_18_method_2_code (7 : Nat) (Option.none : Option Jvm.ClassFile.FieldType)).before args0 about1 = true := code_word (m := ⟨5, 1⟩) (meth := k5m1) (c := k5c1) (by decide +kernel) rfl rfl rfl (by decide +kernel)
set_option maxRecDepth 65536 in
theorem w_c17 : (Jvm.Cond.code ({ cls := "java/lang/Math", name := "max", desc := "(DD)D" } : Jvm.MethodName) jdk_29_method_68_code (4 : Nat) (Option.some Jvm.ClassFile.FieldType.double)).before args0 about1 = true := code_word (m := ⟨6, 1⟩) (meth := k6m1) (c := k6c1) (by decide +kernel) rfl rfl rfl (by decide +kernel)
set_option maxRecDepth 65536 in
theorem w_c18 : (Jvm.Cond.code ({ cls := "com/example/rankline/rankline/Extent$Cover", name := "extent", desc := "()Lcom/example/rankline/rankline/Extent;" } : Jvm.MethodName) prog_18_method_3_code (1 : Nat) (Option.some (Jvm.ClassFile.FieldType.object "com/example/rankline/rankline/Extent"))).before args0 about1 = true := code_word (m := ⟨5, 2⟩) (meth := k5m2) (c := k5c2) (by decide +kernel) rfl rfl rfl (by decide +kernel)
set_option maxRecDepth 65536 in
theorem w_c19 : (Jvm.Cond.code ({ cls := "com/example/rankline/rankline/ValueCounts", name := "of", desc := "([D[JI)Lcom/example/rankline/rankline/ValueCounts;" } : Jvm.MethodName) prog_40_method_3_code (7 : Nat) (Option.some (Jvm.ClassFile.FieldType.object "com/example/rankline/rankline/ValueCounts"))).before args0 about1 = true := code_word (m := ⟨7, 1⟩) (meth := k7m1) (c := k7c1) (by decide +kernel) rfl rfl rfl (by decide +kernel)
set_option maxRecDepth 65536 in
theorem w_c20 : (Jvm.Cond.code ({ cls := "java/util/Arrays", name := "copyOf", desc := "([DI)[D" } : Jvm.MethodName) jdk_65_method_127_code (3 : Nat) (Option.some (Jvm.ClassFile.FieldType.array Jvm.ClassFile.FieldType.double))).before args0 about1 = true := code_word (m := ⟨8, 1⟩) (meth := k8m1) (c := k8c1) (by decide +kernel) rfl rfl rfl (by decide +kernel)
set_option maxRecDepth 65536 in
theorem w_c21 : (Jvm.Cond.code ({ cls := "com/example/rankline/rankline/ValueCounts", name := "<init>", desc := "([D[J)V" } : Jvm.MethodName) prog_40_method_1_code (3 : Nat) (Option.none : Option Jvm.ClassFile.FieldType)).before args0 about1 = true := code_word (m := ⟨7, 0⟩) (meth := k7m0) (c := k7c0) (by decide +kernel) rfl rfl rfl (by decide +kernel)
set_option maxRecDepth 65536 in
theorem w_c22 : (Jvm.Cond.code ({ cls := "com/example/rankline/rankline/Buckets", name := "add", desc := "(Lcom/example/rankline/rankline/ValueCounts;)V" } : Jvm.MethodName) prog_5_method_14_code (6 : Nat) (Option.none : Option Jvm.ClassFile.FieldType)).before args0 about1 = true := code_word (m := ⟨2, 4⟩) (meth := k2m4) (c := k2c4) (by decide +kernel) rfl rfl rfl (by decide +kernel)
set_option maxRecDepth 65536 in
theorem w_c23 : (Jvm.Cond.code ({ cls := "com/example/rankline/rankline/ValueCounts", name := "size", desc := "()I" } : Jvm.MethodName) prog_40_method_5_code (1 : Nat) (Option.some Jvm.ClassFile.FieldType.int)).before args0 about1 = true := code_word (m := ⟨7, 2⟩) (meth := k7m2) (c := k7c2) (by decide +kernel) rfl rfl rfl (by decide +kernel)
set_option maxRecDepth 65536 in
theorem w_c24 : (Jvm.Cond.code ({ cls := "com/example/rankline/rankline/ValueCounts", name := "value", desc := "(I)D" } : Jvm.MethodName) prog_40_method_6_code (2 : Nat) (Option.some Jvm.ClassFile.FieldType.double)).before args0 about1 = true := code_word (m := ⟨7, 3⟩) (meth := k7m3) (c := k7c3) (by decide +kernel) rfl rfl rfl (by decide +kernel)
set_option maxRecDepth 65536 in
theorem w_c25 : (Jvm.Cond.code ({ cls := "com/example/rankline/rankline/ValueCounts", name := "count", desc := "(I)J" } : Jvm.MethodName) prog_40_method_7_code (2 : Nat) (Option.some Jvm.ClassFile.FieldType.long)).before args0 about1 = true := code_word (m := ⟨7, 4⟩) (meth := k7m4) (c := k7c4) (by decide +kernel) rfl rfl rfl (by decide +kernel)
set_option maxRecDepth 65536 in
theorem w_c26 : (Jvm.Cond.code ({ cls := "com/example/rankline/rankline/ValueCounts", name := "rank", desc := "(I)J" } : Jvm.MethodName) prog_40_method_8_code (2 : Nat) (Option.some Jvm.ClassFile.FieldType.long)).before args0 about1 = true := code_word (m := ⟨7, 5⟩) (meth := k7m5) (c := k7c5) (by decide +kernel) rfl rfl rfl (by decide +kernel)
set_option maxRecDepth 65536 in
theorem w_c27 : (Jvm.Cond.code ({ cls := "com/example/rankline/rankline/Buckets", name := "removeEmpty", desc := "()V" } : Jvm.MethodName) prog_5_method_17_code (3 : Nat) (Option.none : Option Jvm.ClassFile.FieldType)).before args0 about1 = true := code_word (m := ⟨2, 5⟩) (meth := k2m5) (c := k2c5) (by decide +kernel) rfl rfl rfl (by decide +kernel)
set_option maxRecDepth 65536 in
theorem w_c28 : (Jvm.Cond.code ({ cls := "com/example/rankline/rankline/Buckets", name := "count", desc := "(I)D" } : Jvm.MethodName) prog_5_method_10_code (2 : Nat) (Option.some Jvm.ClassFile.FieldType.double)).before args0 about1 = true := code_word (m := ⟨2, 1⟩) (meth := k2m1) (c := k2c1) (by decide +kernel) rfl rfl rfl (by decide +kernel)
def codes1 : List Jvm.Cond := [Jvm.Cond.code x code maxLocals ret, Jvm.Cond.code ({ cls := "com/example/rankline/rankline/Buckets", name := "<init>", desc := "()V" } : Jvm.MethodName) prog_5_method_1_code (1 : Nat) (Option.none : Option Jvm.ClassFile.FieldType), Jvm.Cond.code ({ cls := "java/lang/Object", name := "<init>", desc := "()V" } : Jvm.MethodName) object_method_1_code (1 : Nat) (Option.none : Option Jvm.ClassFile.FieldType), Jvm.Cond.code ({ cls := "com/example/rankline/rankline/Buckets", name := "append", desc := "(DD)V" } : Jvm.MethodName) prog_5_method_12_code (7 : Nat) (Option.none : Option Jvm.ClassFile.FieldType), Jvm.Cond.code ({ cls := "com/example/rankline/rankline/Extent", name := "of", desc := "(DDD)Lcom/example/rankline/rankline/Extent;" } : Jvm.MethodName) prog_17_method_2_code (6 : Nat) (Option.some (Jvm.ClassFile.FieldType.object "com/example/rankline/rankline/Extent")), Jvm.Cond.code ({ cls := "com/example/rankline/rankline/Extent", name := "<init>", desc := "(DDDDDD)V" } : Jvm.MethodName) prog_17_method_1_code (13 : Nat) (Option.none : Option Jvm.ClassFile.FieldType), Jvm.Cond.code ({ cls := "java/lang/Record", name := "<init>", desc := "()V" } : Jvm.MethodName) jdk_30_method_1_code (1 : Nat) (Option.none : Option Jvm.ClassFile.FieldType), Jvm.Cond.code ({ cls := "com/example/rankline/rankline/Buckets", name := "append", desc := "(DDLcom/example/rankline/rankline/Extent;J)V" } : Jvm.MethodName) prog_5_method_13_code (8 : Nat) (Option.none : Option Jvm.ClassFile.FieldType), Jvm.Cond.code ({ cls := "com/example/rankline/rankline/Buckets", name := "insertBefore", desc := "(IDDLcom/example/rankline/rankline/Extent;J)I" } : Jvm.MethodName) prog_5_method_55_code (11 : Nat) (Option.some Jvm.ClassFile.FieldType.int), Jvm.Cond.code ({ cls := "com/example/rankline/rankline/Buckets", name := "allocate", desc := "()I" } : Jvm.MethodName) prog_5_method_56_code (2 : Nat) (Option.some Jvm.ClassFile.FieldType.int), Jvm.Cond.code ({ cls := "com/example/rankline/rankline/Buckets", name := "join", desc := "(I)V" } : Jvm.MethodName) prog_5_method_27_code (4 : Nat) (Option.none : Option Jvm.ClassFile.FieldType), Jvm.Cond.code ({ cls := "com/example/rankline/rankline/Extent", name := "union", desc := "(Lcom/example/rankline/rankline/Extent;)Lcom/example/rankline/rankline/Extent;" } : Jvm.MethodName) prog_17_method_8_code (7 : Nat) (Option.some (Jvm.ClassFile.FieldType.object "com/example/rankline/rankline/Extent")), Jvm.Cond.code ({ cls := "com/example/rankline/rankline/Extent", name := "blocks", desc := "([DI)I" } : Jvm.MethodName) prog_17_method_10_code (3 : Nat) (Option.some Jvm.ClassFile.FieldType.int), Jvm.Cond.code ({ cls := "com/example/rankline/rankline/Extent", name := "isEmpty", desc := "()Z" } : Jvm.MethodName) prog_17_method_3_code (1 : Nat) (Option.some Jvm.ClassFile.FieldType.boolean), Jvm.Cond.code ({ cls := "com/example/rankline/rankline/Extent", name := "hasGap", desc := "()Z" } : Jvm.MethodName) prog_17_method_4_code (1 : Nat) (Option.some Jvm.ClassFile.FieldType.boolean), Jvm.Cond.code ({ cls := "com/example/rankline/rankline/Extent$Cover", name := "<init>", desc := "()V" } : Jvm.MethodName) prog_18_method_1_code (1 : Nat) (Option.none : Option Jvm.ClassFile.FieldType), Jvm.Cond.code ({ cls := "com/example/rankline/rankline/Extent$Cover", name := "take", desc := "(DDD)V" } : Jvm.MethodName) prog_18_method_2_code (7 : Nat) (Option.none : Option Jvm.ClassFile.FieldType), Jvm.Cond.code ({ cls := "java/lang/Math", name := "max", desc := "(DD)D" } : Jvm.MethodName) jdk_29_method_68_code (4 : Nat) (Option.some Jvm.ClassFile.FieldType.double), Jvm.Cond.code ({ cls := "com/example/rankline/rankline/Extent$Cover", name := "extent", desc := "()Lcom/example/rankline/rankline/Extent;" } : Jvm.MethodName) prog_18_method_3_code (1 : Nat) (Option.some (Jvm.ClassFile.FieldType.object "com/example/rankline/rankline/Extent")), Jvm.Cond.code ({ cls := "com/example/rankline/rankline/ValueCounts", name := "of", desc := "([D[JI)Lcom/example/rankline/rankline/ValueCounts;" } : Jvm.MethodName) prog_40_method_3_code (7 : Nat) (Option.some (Jvm.ClassFile.FieldType.object "com/example/rankline/rankline/ValueCounts")), Jvm.Cond.code ({ cls := "java/util/Arrays", name := "copyOf", desc := "([DI)[D" } : Jvm.MethodName) jdk_65_method_127_code (3 : Nat) (Option.some (Jvm.ClassFile.FieldType.array Jvm.ClassFile.FieldType.double)), Jvm.Cond.code ({ cls := "com/example/rankline/rankline/ValueCounts", name := "<init>", desc := "([D[J)V" } : Jvm.MethodName) prog_40_method_1_code (3 : Nat) (Option.none : Option Jvm.ClassFile.FieldType), Jvm.Cond.code ({ cls := "com/example/rankline/rankline/Buckets", name := "add", desc := "(Lcom/example/rankline/rankline/ValueCounts;)V" } : Jvm.MethodName) prog_5_method_14_code (6 : Nat) (Option.none : Option Jvm.ClassFile.FieldType), Jvm.Cond.code ({ cls := "com/example/rankline/rankline/ValueCounts", name := "size", desc := "()I" } : Jvm.MethodName) prog_40_method_5_code (1 : Nat) (Option.some Jvm.ClassFile.FieldType.int), Jvm.Cond.code ({ cls := "com/example/rankline/rankline/ValueCounts", name := "value", desc := "(I)D" } : Jvm.MethodName) prog_40_method_6_code (2 : Nat) (Option.some Jvm.ClassFile.FieldType.double), Jvm.Cond.code ({ cls := "com/example/rankline/rankline/ValueCounts", name := "count", desc := "(I)J" } : Jvm.MethodName) prog_40_method_7_code (2 : Nat) (Option.some Jvm.ClassFile.FieldType.long), Jvm.Cond.code ({ cls := "com/example/rankline/rankline/ValueCounts", name := "rank", desc := "(I)J" } : Jvm.MethodName) prog_40_method_8_code (2 : Nat) (Option.some Jvm.ClassFile.FieldType.long), Jvm.Cond.code ({ cls := "com/example/rankline/rankline/Buckets", name := "removeEmpty", desc := "()V" } : Jvm.MethodName) prog_5_method_17_code (3 : Nat) (Option.none : Option Jvm.ClassFile.FieldType), Jvm.Cond.code ({ cls := "com/example/rankline/rankline/Buckets", name := "count", desc := "(I)D" } : Jvm.MethodName) prog_5_method_10_code (2 : Nat) (Option.some Jvm.ClassFile.FieldType.double)]
set_option maxRecDepth 65536 in
theorem codes_eq : words1.filter isCode = codes1 := rfl
theorem w_codes : ∀ c ∈ words1.filter isCode, c.before args0 about1 = true := by
  rw [codes_eq]
  intro c hc
  simp only [codes1, List.mem_cons, List.not_mem_nil, or_false] at hc
  rcases hc with rfl | rfl | rfl | rfl | rfl | rfl | rfl | rfl | rfl | rfl | rfl | rfl | rfl | rfl | rfl | rfl | rfl | rfl | rfl | rfl | rfl | rfl | rfl | rfl | rfl | rfl | rfl | rfl | rfl
  · exact w_c0
  · exact w_c1
  · exact w_c2
  · exact w_c3
  · exact w_c4
  · exact w_c5
  · exact w_c6
  · exact w_c7
  · exact w_c8
  · exact w_c9
  · exact w_c10
  · exact w_c11
  · exact w_c12
  · exact w_c13
  · exact w_c14
  · exact w_c15
  · exact w_c16
  · exact w_c17
  · exact w_c18
  · exact w_c19
  · exact w_c20
  · exact w_c21
  · exact w_c22
  · exact w_c23
  · exact w_c24
  · exact w_c25
  · exact w_c26
  · exact w_c27
  · exact w_c28
set_option maxRecDepth 65536 in
theorem w_t1 : (words1.take 24).all (fun c => isCode c || c.before args0 about1) = true := by decide +kernel
set_option maxRecDepth 65536 in
theorem w_t2 : ((words1.drop 24).take 24).all (fun c => isCode c || c.before args0 about1) = true := by decide +kernel
set_option maxRecDepth 65536 in
theorem w_t3 : (((words1.drop 24).drop 24).take 24).all (fun c => isCode c || c.before args0 about1) = true := by decide +kernel
set_option maxRecDepth 65536 in
theorem w_t4 : ((((words1.drop 24).drop 24).drop 24).take 24).all (fun c => isCode c || c.before args0 about1) = true := by decide +kernel
set_option maxRecDepth 65536 in
theorem w_t5 : (((((words1.drop 24).drop 24).drop 24).drop 24).take 24).all (fun c => isCode c || c.before args0 about1) = true := by decide +kernel
set_option maxRecDepth 65536 in
theorem w_t6 : ((((((words1.drop 24).drop 24).drop 24).drop 24).drop 24).take 24).all (fun c => isCode c || c.before args0 about1) = true := by decide +kernel
set_option maxRecDepth 65536 in
theorem w_t7 : (((((((words1.drop 24).drop 24).drop 24).drop 24).drop 24).drop 24).take 24).all (fun c => isCode c || c.before args0 about1) = true := by decide +kernel
set_option maxRecDepth 65536 in
theorem w_t8 : ((((((((words1.drop 24).drop 24).drop 24).drop 24).drop 24).drop 24).drop 24).take 24).all (fun c => isCode c || c.before args0 about1) = true := by decide +kernel
set_option maxRecDepth 65536 in
theorem w_t9 : (((((((((words1.drop 24).drop 24).drop 24).drop 24).drop 24).drop 24).drop 24).drop 24).take 24).all (fun c => isCode c || c.before args0 about1) = true := by decide +kernel
set_option maxRecDepth 65536 in
theorem w_t10 : (((((((((words1.drop 24).drop 24).drop 24).drop 24).drop 24).drop 24).drop 24).drop 24).drop 24).all (fun c => isCode c || c.before args0 about1) = true := by decide +kernel
theorem w_tables : (allAtoms (Jvm.Cond.code x code maxLocals ret :: tables_1)).before args0 about1 = true := by
  rw [allAtoms_all]
  show words1.all (fun c => c.before args0 about1) = true
  refine all_split ?_ w_codes
  rw [← List.take_append_drop 24 words1, List.all_append, w_t1, ← List.take_append_drop 24 (words1.drop 24), List.all_append, w_t2, ← List.take_append_drop 24 ((words1.drop 24).drop 24), List.all_append, w_t3, ← List.take_append_drop 24 (((words1.drop 24).drop 24).drop 24), List.all_append, w_t4, ← List.take_append_drop 24 ((((words1.drop 24).drop 24).drop 24).drop 24), List.all_append, w_t5, ← List.take_append_drop 24 (((((words1.drop 24).drop 24).drop 24).drop 24).drop 24), List.all_append, w_t6, ← List.take_append_drop 24 ((((((words1.drop 24).drop 24).drop 24).drop 24).drop 24).drop 24), List.all_append, w_t7, ← List.take_append_drop 24 (((((((words1.drop 24).drop 24).drop 24).drop 24).drop 24).drop 24).drop 24), List.all_append, w_t8, ← List.take_append_drop 24 ((((((((words1.drop 24).drop 24).drop 24).drop 24).drop 24).drop 24).drop 24).drop 24), List.all_append, w_t9, w_t10]
  rfl
set_option maxRecDepth 65536 in
theorem w_case : (Jvm.Cond.and given_1 narrow_1).before args0 about1 = true := by decide +kernel
theorem w_applies : (headSpec (Jvm.Cond.code x code maxLocals ret :: tables_1) room_1).applies x e0.platform about1 = true :=
  (Spec.applies_iff w_frames).mpr ⟨w_running, w_runnable, w_alone, w_named, w_hears, w_ripe, w_room, w_tables⟩
theorem atStart : AtStart classFile x code maxLocals ret World_1 tables_1 room_1 Calls_1 rest_1 Pre_1 launch0 p0 e0 about1 theMethod args0 below0 :=
  ⟨lists_1, trivial, launch0.admits_env _ _ _, launch0.least_env, fairChoices_fair.cas, fairChoices_fair.clock, w_frames, w_args, w_heap, w_applies, trivial, trivial, w_case⟩
end start1
theorem witness_1 : WitnessClaimed_1 := ⟨start1.p0, start1.e0, start1.about1, start1.theMethod, start1.args0, start1.below0, start1.atStart⟩
end Jvm.Pilot.@@N@@
