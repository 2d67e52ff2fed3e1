import JvmDerived
import JvmDerived.Pilot.@@N@@Statement
import JvmDerived.Pilot.@@N@@Code
set_option linter.unusedVariables false
set_option linter.unusedSimpArgs false
namespace Jvm.RoadKit
open Sem ClassFile Op Lib Jvm.Stand Jvm.Free Jvm.LawKit
/-- what is left of a walk: from this frame the method returns, and what it leaves is as Q says -/
def own_Go (p : Program) (e : Env) (below : List Frame) (s : State) (Q : Option Value → Heap → List Loc → Prop) (kc ks : Nat) (T : State) (g : JFrame) : Prop :=
  ∃ s₂ o, Steps p.tables e below (T.setTop g) s₂ ∧ s₂.status = .running ∧ Ended s₂ below o ∧ ∃ v L, o = .returned v ∧ Q v s₂.heap L ∧ FrameEnd s o s₂ L kc ks
section Own
variable {p : Program} {l : Launch} {e : Env} {R : Room} {s : State} {m : MethodId} {args : Array Value} {below : List Frame} {meth : Method} {c : Code} {T T' : State} {locs : List Loc} {cells slots : Nat} {Z : State} {h h' h0 : Heap} {Q : Option Value → Heap → List Loc → Prop} {kc ks : Nat} {g g' : JFrame} {a0 : Array Value} {pc : Nat} {Ls : Array Slot} {rest : List Value} {a b : Addr} {n0 : Nat} {ty : FieldType} {vs : List Value} {C : String} {sl : Nat} {v : Value} {ws : List Addr}
theorem own_pre (st : ∀ t, Steps p.tables e below (T'.setTop g') t → Steps p.tables e below (T.setTop g) t) (k : own_Go p e below s Q kc ks T' g') : own_Go p e below s Q kc ks T g := by
  obtain ⟨s₂, o, h1, r⟩ := k
  exact ⟨s₂, o, st _ h1, r⟩
theorem own_tr (st : Steps p.tables e below (T.setTop g) (T'.setTop g')) (k : own_Go p e below s Q kc ks T' g') : own_Go p e below s Q kc ks T g := by
  obtain ⟨s₂, o, h1, r⟩ := k
  exact ⟨s₂, o, st.trans h1, r⟩
theorem own_cast (q : g = g') (k : own_Go p e below s Q kc ks T g') : own_Go p e below s Q kc ks T g := q ▸ k
theorem own_ret (X : Stand p l e R s m args below meth c T locs cells slots) (hlk : meth.locks = false) {v : Option Value} (hv : meth.sig.returnType = none → v = none) (eT : T.heap = h)
    (st : ∀ fs, (∀ (f : JFrame) (acts : List Action), f.method = m → f.locked = none → f.entered = [] → (doReturn e (T.setTop f) acts v).1 = T.setFrames fs) → Steps p.tables e below (T.setTop g) (T.setFrames fs))
    (hq : Q v h locs) (hc : cells ≤ kc) (hs : slots ≤ ks) : own_Go p e below s Q kc ks T g := by
  obtain ⟨fs, hr, hrun, hended, hW, hsame⟩ := X.leave (v := v) hv hlk
  exact ⟨_, _, st fs hr, hrun, hended, _, _, rfl, (by show Q v T.heap _; rw [eT]; exact hq), ⟨_, rfl⟩, hW, hsame.mono hc hs⟩
theorem own_ret0 (X : Stand p l e R s m args below meth c T locs cells slots) (hx : p.tables.exec = Jvm.exec) (hlk : meth.locks = false) (hret : meth.sig.returnType = none) (hd : decode c.code pc = .ok (.return_, 1)) (eT : T.heap = h) (hq : Q none h locs) (hc : cells ≤ kc) (hs : slots ≤ ks) : own_Go p e below s Q kc ks T (mkF m pc Ls []) :=
  own_ret X hlk (fun _ => rfl) eT (fun _ hr => X.returnOut hx hret hd hr) hq hc hs
theorem own_ret1 (X : Stand p l e R s m args below meth c T locs cells slots) (hx : p.tables.exec = Jvm.exec) (hlk : meth.locks = false) {w : Value} {t : FieldType} {i : Instr} (hret : meth.sig.returnType = some t) (hn : narrow t w = w)
    (hi : (i = .ireturn ∧ (t = .int ∨ t = .boolean ∨ t = .byte ∨ t = .char ∨ t = .short) ∧ ∃ z, w = .int z) ∨ (i = .lreturn ∧ t = .long ∧ ∃ z, w = .long z) ∨ (i = .dreturn ∧ t = .double ∧ ∃ z, w = .double z) ∨ (i = .freturn ∧ t = .float ∧ ∃ z, w = .float z) ∨ (i = .areturn ∧ t.isReference = true ∧ w.isRef = true))
    (hd : decode c.code pc = .ok (i, 1)) (eT : T.heap = h) (hq : Q (some w) h locs) (hc : cells ≤ kc) (hs : slots ≤ ks) : own_Go p e below s Q kc ks T (mkF m pc Ls (w :: rest)) :=
  own_ret X hlk (fun q => by rw [hret] at q; cases q) eT (fun _ hr => retOut X hx hret hn hi hd hr) hq hc hs
theorem own_retI (X : Stand p l e R s m args below meth c T locs cells slots) (hx : p.tables.exec = Jvm.exec) (hlk : meth.locks = false) {z : Int32} (hret : meth.sig.returnType = some .int) (hd : decode c.code pc = .ok (.ireturn, 1)) (eT : T.heap = h) (hq : Q (some (.int z)) h locs) (hc : cells ≤ kc) (hs : slots ≤ ks) : own_Go p e below s Q kc ks T (mkF m pc Ls (.int z :: rest)) :=
  own_ret1 X hx hlk hret rfl (Or.inl ⟨rfl, Or.inl rfl, _, rfl⟩) hd eT hq hc hs
theorem own_retZ (X : Stand p l e R s m args below meth c T locs cells slots) (hx : p.tables.exec = Jvm.exec) (hlk : meth.locks = false) {z : Int32} (hret : meth.sig.returnType = some .boolean) (hn : narrow .boolean (.int z) = .int z) (hd : decode c.code pc = .ok (.ireturn, 1)) (eT : T.heap = h) (hq : Q (some (.int z)) h locs) (hc : cells ≤ kc) (hs : slots ≤ ks) : own_Go p e below s Q kc ks T (mkF m pc Ls (.int z :: rest)) :=
  own_ret1 X hx hlk hret hn (Or.inl ⟨rfl, Or.inr (Or.inl rfl), _, rfl⟩) hd eT hq hc hs
theorem own_retL (X : Stand p l e R s m args below meth c T locs cells slots) (hx : p.tables.exec = Jvm.exec) (hlk : meth.locks = false) {z : Int64} (hret : meth.sig.returnType = some .long) (hd : decode c.code pc = .ok (.lreturn, 1)) (eT : T.heap = h) (hq : Q (some (.long z)) h locs) (hc : cells ≤ kc) (hs : slots ≤ ks) : own_Go p e below s Q kc ks T (mkF m pc Ls (.long z :: rest)) :=
  own_ret1 X hx hlk hret rfl (Or.inr (Or.inl ⟨rfl, rfl, _, rfl⟩)) hd eT hq hc hs
theorem own_retD (X : Stand p l e R s m args below meth c T locs cells slots) (hx : p.tables.exec = Jvm.exec) (hlk : meth.locks = false) {z : UInt64} (hret : meth.sig.returnType = some .double) (hd : decode c.code pc = .ok (.dreturn, 1)) (eT : T.heap = h) (hq : Q (some (.double z)) h locs) (hc : cells ≤ kc) (hs : slots ≤ ks) : own_Go p e below s Q kc ks T (mkF m pc Ls (.double z :: rest)) :=
  own_ret1 X hx hlk hret rfl (Or.inr (Or.inr (Or.inl ⟨rfl, rfl, _, rfl⟩))) hd eT hq hc hs
theorem own_retA (X : Stand p l e R s m args below meth c T locs cells slots) (hx : p.tables.exec = Jvm.exec) (hlk : meth.locks = false) {w : Value} {t : FieldType} (hret : meth.sig.returnType = some t) (ht : t.isReference = true) (hw : w.isRef = true) (hn : narrow t w = w) (hd : decode c.code pc = .ok (.areturn, 1)) (eT : T.heap = h) (hq : Q (some w) h locs) (hc : cells ≤ kc) (hs : slots ≤ ks) : own_Go p e below s Q kc ks T (mkF m pc Ls (w :: rest)) :=
  own_ret1 X hx hlk hret hn (Or.inr (Or.inr (Or.inr (Or.inr ⟨rfl, ht, hw⟩)))) hd eT hq hc hs
/-- a contract out of a walk -/
theorem own_met {y : MethodName} {bytes : ByteArray} {maxL : Nat} {ret : Option FieldType} {wds : List Cond} {rm : Room} {as' : Array Value} (hpl : plainName y.cls = true)
    (body : ∀ p e s m below meth c s₁, p.tables.exec = Jvm.exec → c.code = bytes → c.maxLocals = maxL → Z.Warmed39 s.vm → s.vm.findClass y.cls = some m.cls → meth.name = y.name → meth.sig.returnType = ret → meth.locks = false → Stand p l e rm s m as' below meth c s₁ [] 0 0 → s₁.heap = h → own_Go p e below s Q rm.cells rm.slots s₁ (entryFrame m as' maxL)) :
    MetFree l y (head1 (Cond.code y bytes maxL ret :: wds) rm) (fun a U => a = as' ∧ Z.Warmed39 U.vm ∧ U.heap = h) (fun _ _ _ _ _ => True) (fun _ U o U' => ∃ v L, o = .returned v ∧ Q v U'.heap L ∧ FrameEnd U o U' L rm.cells rm.slots) := by
  refine MetFree.of_bodySF (plainFor_of_name hpl) hisR ?_
  intro p e s m args below meth c s₁ Bd hml0 hP hK
  obtain ⟨rfl, hZ, hh⟩ := hP
  exact body p e s m below meth c s₁ Bd.exec Bd.bytes hml0 hZ (findClass_of_methodNamed Bd.named) (name_of_methodNamed Bd.named Bd.method).1 Bd.returns Bd.notSynchronized (Stand.of_body Bd) (by rw [← hh, Bd.state]; rfl)
/-! arrays by their list -/
def own_Ary (Z : State) (h : Heap) (a : Addr) (ty : FieldType) (vs : List Value) : Prop := ∃ c : Cell, Arr Z h a c ty ∧ c.slots.toList = vs ∧ vs.length < 2 ^ 31
theorem own_Ary.lt (F : own_Ary Z h a ty vs) : a < h.size := by obtain ⟨c, A, -⟩ := F; exact A.lt
theorem own_Ary.ext (F : own_Ary Z h a ty vs) (E : Ext h h') : own_Ary Z h' a ty vs := by obtain ⟨c, A, r⟩ := F; exact ⟨c, A.ext E, r⟩
theorem own_Ary.other (F : own_Ary Z h b ty vs) (W : Wr h h' a sl v) (q : b ≠ a) : own_Ary Z h' b ty vs := by obtain ⟨c, A, r⟩ := F; exact ⟨c, A.other W q, r⟩
theorem own_Ary.keep (F : own_Ary Z h a ty vs) (K : Keep h h' ws) (q : a ∉ ws) : own_Ary Z h' a ty vs := by obtain ⟨c, A, r⟩ := F; exact ⟨c, ⟨K.2.1 a c A.1 q, A.2⟩, r⟩
theorem own_Ary.set (F : own_Ary Z h a ty vs) (W : Wr h h' a sl v) : own_Ary Z h' a ty (vs.set sl v) := by
  obtain ⟨c, A, r1, r2⟩ := F
  refine ⟨_, A.same W, ?_, by simpa using r2⟩
  simp [Cell.setSlot, r1]
theorem own_Ary.new {k : ClassId} {z : Int32} {n : Nat} (A : Arr Z h a (newA k ty z) ty) (q : z.toNatClampNeg = n) : own_Ary Z h a ty (List.replicate n (defaultValue ty)) := by
  refine ⟨_, A, ?_, ?_⟩
  · simp [newA, q]
  · have h1 := Int32.toInt_lt z
    simp only [Int32.toNatClampNeg] at q
    simp only [List.length_replicate]; omega
theorem own_inb {j : Int32} {n : Nat} {c : Cell} (h0 : 0 ≤ j) (hc : c.slots.toList = vs) (hj : j.toNatClampNeg = n) (hn : n < vs.length) : ¬ (j < 0 ∨ c.slots.size ≤ j.toNatClampNeg) := by
  subst hc hj
  rw [Array.length_toList] at hn
  intro q
  rcases q with q | q
  · exact absurd q (Int32.not_lt.mpr h0)
  · omega
theorem own_idx {n : Nat} {c : Cell} (hc : c.slots.toList = vs) (hv : vs[n]? = some v) : c.slots[n]? = some v := by
  subst hc; simpa using hv
theorem own_len (X : Stand p l e R s m args below meth c T locs cells slots) (hx : p.tables.exec = Jvm.exec) (hZ : Z.Warmed39 s.vm) (eT : T.heap = h) (F : own_Ary Z h a ty vs) (hd : decode c.code pc = .ok (.arraylength, 1)) {n : Int32} (hn : vs.length.toInt32 = n)
    (k : own_Go p e below s Q kc ks T (mkF m (pc + 1) Ls (.int n :: rest))) : own_Go p e below s Q kc ks T (mkF m pc Ls (.ref a :: rest)) := by
  obtain ⟨cl, A, r1, r2⟩ := F
  refine own_pre (fun t k => X.arraylength hx (cell := cl) (by rw [eT]; exact A.1) (State.isArrayOf_alike hZ.alike A.2.1) (g := mkF m pc Ls (.ref a :: rest)) rfl (rest := rest) rfl hd _ k) ?_
  have q : cl.slots.size = vs.length := by rw [← r1, Array.length_toList]
  rw [q, hn]; exact k
theorem own_iaload (X : Stand p l e R s m args below meth c T locs cells slots) (hx : p.tables.exec = Jvm.exec) (hZ : Z.Warmed39 s.vm) (eT : T.heap = h) (F : own_Ary Z h a .int vs) (hd : decode c.code pc = .ok (.iaload, 1)) {j : Int32} {n : Nat} (h0 : 0 ≤ j) (hj : j.toNatClampNeg = n) (hv : vs[n]? = some v)
    (k : own_Go p e below s Q kc ks T (mkF m (pc + 1) Ls (v :: rest))) : own_Go p e below s Q kc ks T (mkF m pc Ls (.int j :: .ref a :: rest)) := by
  obtain ⟨cl, A, r1, r2⟩ := F
  exact own_pre (fun t k => X.iaload hx (j := j) (v := v) (by rw [eT]; exact A.1) (State.isArrayOf_alike hZ.alike A.2.1) A.2.2 (own_inb h0 r1 hj (List.getElem?_eq_some_iff.mp hv).1) (own_idx r1 (hj ▸ hv)) (g := mkF m pc Ls (.int j :: .ref a :: rest)) rfl rfl hd _ k) k
theorem own_laload (X : Stand p l e R s m args below meth c T locs cells slots) (hx : p.tables.exec = Jvm.exec) (hZ : Z.Warmed39 s.vm) (eT : T.heap = h) (F : own_Ary Z h a .long vs) (hd : decode c.code pc = .ok (.laload, 1)) {j : Int32} {n : Nat} (h0 : 0 ≤ j) (hj : j.toNatClampNeg = n) (hv : vs[n]? = some v)
    (k : own_Go p e below s Q kc ks T (mkF m (pc + 1) Ls (v :: rest))) : own_Go p e below s Q kc ks T (mkF m pc Ls (.int j :: .ref a :: rest)) := by
  obtain ⟨cl, A, r1, r2⟩ := F
  exact own_pre (fun t k => X.laload hx (j := j) (v := v) (by rw [eT]; exact A.1) (State.isArrayOf_alike hZ.alike A.2.1) A.2.2 (own_inb h0 r1 hj (List.getElem?_eq_some_iff.mp hv).1) (own_idx r1 (hj ▸ hv)) (g := mkF m pc Ls (.int j :: .ref a :: rest)) rfl rfl hd _ k) k
theorem own_daload (X : Stand p l e R s m args below meth c T locs cells slots) (hx : p.tables.exec = Jvm.exec) (hZ : Z.Warmed39 s.vm) (eT : T.heap = h) (F : own_Ary Z h a .double vs) (hd : decode c.code pc = .ok (.daload, 1)) {j : Int32} {n : Nat} (h0 : 0 ≤ j) (hj : j.toNatClampNeg = n) (hv : vs[n]? = some v)
    (k : own_Go p e below s Q kc ks T (mkF m (pc + 1) Ls (v :: rest))) : own_Go p e below s Q kc ks T (mkF m pc Ls (.int j :: .ref a :: rest)) := by
  obtain ⟨cl, A, r1, r2⟩ := F
  exact own_pre (fun t k => X.daload hx (j := j) (v := v) (by rw [eT]; exact A.1) (State.isArrayOf_alike hZ.alike A.2.1) A.2.2 (own_inb h0 r1 hj (List.getElem?_eq_some_iff.mp hv).1) (own_idx r1 (hj ▸ hv)) (g := mkF m pc Ls (.int j :: .ref a :: rest)) rfl rfl hd _ k) k
theorem own_zaload (X : Stand p l e R s m args below meth c T locs cells slots) (hx : p.tables.exec = Jvm.exec) (hZ : Z.Warmed39 s.vm) (eT : T.heap = h) (F : own_Ary Z h a .boolean vs) (hd : decode c.code pc = .ok (.baload, 1)) {j : Int32} {n : Nat} (h0 : 0 ≤ j) (hj : j.toNatClampNeg = n) (hv : vs[n]? = some v)
    (k : own_Go p e below s Q kc ks T (mkF m (pc + 1) Ls (v :: rest))) : own_Go p e below s Q kc ks T (mkF m pc Ls (.int j :: .ref a :: rest)) := by
  obtain ⟨cl, A, r1, r2⟩ := F
  exact own_pre (fun t k => X.baloadBooleans hx (j := j) (v := v) (by rw [eT]; exact A.1) (State.isArrayOf_alike hZ.alike A.2.1) A.2.2 (own_inb h0 r1 hj (List.getElem?_eq_some_iff.mp hv).1) (own_idx r1 (hj ▸ hv)) (g := mkF m pc Ls (.int j :: .ref a :: rest)) rfl rfl hd _ k) k
theorem own_aaload (X : Stand p l e R s m args below meth c T locs cells slots) (hx : p.tables.exec = Jvm.exec) (hZ : Z.Warmed39 s.vm) (eT : T.heap = h) (F : own_Ary Z h a ty vs) (ht : ty.isReference = true) (hd : decode c.code pc = .ok (.aaload, 1)) {j : Int32} {n : Nat} (h0 : 0 ≤ j) (hj : j.toNatClampNeg = n) (hv : vs[n]? = some v)
    (k : own_Go p e below s Q kc ks T (mkF m (pc + 1) Ls (v :: rest))) : own_Go p e below s Q kc ks T (mkF m pc Ls (.int j :: .ref a :: rest)) := by
  obtain ⟨cl, A, r1, r2⟩ := F
  exact own_pre (fun t k => X.aaload hx (j := j) (v := v) (by rw [eT]; exact A.1) (State.isArrayOf_alike hZ.alike A.2.1) ht A.2.2 (own_inb h0 r1 hj (List.getElem?_eq_some_iff.mp hv).1) (own_idx r1 (hj ▸ hv)) (g := mkF m pc Ls (.int j :: .ref a :: rest)) rfl rfl hd _ k) k
theorem own_iastore (X : Stand p l e R s m args below meth c T locs cells slots) (hx : p.tables.exec = Jvm.exec) (hZ : Z.Warmed39 s.vm) (eT : T.heap = h) (N : Fr n0 locs) (q : n0 ≤ a) (F : own_Ary Z h a .int vs) (hd : decode c.code pc = .ok (.iastore, 1)) {j x : Int32} {n : Nat} (h0 : 0 ≤ j) (hj : j.toNatClampNeg = n) (hv : n < vs.length)
    (k : ∀ T' h' locs', Stand p l e R s m args below meth c T' locs' cells slots → T'.heap = h' → Fr n0 locs' → Wr h h' a n (.int x) → own_Go p e below s Q kc ks T' (mkF m (pc + 1) Ls rest)) : own_Go p e below s Q kc ks T (mkF m pc Ls (.int x :: .int j :: .ref a :: rest)) := by
  obtain ⟨cl, A, r1, r2⟩ := F
  obtain ⟨T', h', X', e', W, st⟩ := stI X hx hZ eT A (j := j) (x := x) (own_inb h0 r1 hj hv) (g := mkF m pc Ls (.int x :: .int j :: .ref a :: rest)) rfl rfl hd
  exact own_pre st (k T' h' _ X' e' (Fr.snoc X' N q) (hj ▸ W))
theorem own_lastore (X : Stand p l e R s m args below meth c T locs cells slots) (hx : p.tables.exec = Jvm.exec) (hZ : Z.Warmed39 s.vm) (eT : T.heap = h) (N : Fr n0 locs) (q : n0 ≤ a) (F : own_Ary Z h a .long vs) (hd : decode c.code pc = .ok (.lastore, 1)) {j : Int32} {x : Int64} {n : Nat} (h0 : 0 ≤ j) (hj : j.toNatClampNeg = n) (hv : n < vs.length)
    (k : ∀ T' h' locs', Stand p l e R s m args below meth c T' locs' cells slots → T'.heap = h' → Fr n0 locs' → Wr h h' a n (.long x) → own_Go p e below s Q kc ks T' (mkF m (pc + 1) Ls rest)) : own_Go p e below s Q kc ks T (mkF m pc Ls (.long x :: .int j :: .ref a :: rest)) := by
  obtain ⟨cl, A, r1, r2⟩ := F
  obtain ⟨T', h', X', e', W, st⟩ := stJ X hx hZ eT A (j := j) (x := x) (own_inb h0 r1 hj hv) (g := mkF m pc Ls (.long x :: .int j :: .ref a :: rest)) rfl rfl hd
  exact own_pre st (k T' h' _ X' e' (Fr.snoc X' N q) (hj ▸ W))
theorem own_dastore (X : Stand p l e R s m args below meth c T locs cells slots) (hx : p.tables.exec = Jvm.exec) (hZ : Z.Warmed39 s.vm) (eT : T.heap = h) (N : Fr n0 locs) (q : n0 ≤ a) (F : own_Ary Z h a .double vs) (hd : decode c.code pc = .ok (.dastore, 1)) {j : Int32} {x : UInt64} {n : Nat} (h0 : 0 ≤ j) (hj : j.toNatClampNeg = n) (hv : n < vs.length)
    (k : ∀ T' h' locs', Stand p l e R s m args below meth c T' locs' cells slots → T'.heap = h' → Fr n0 locs' → Wr h h' a n (.double x) → own_Go p e below s Q kc ks T' (mkF m (pc + 1) Ls rest)) : own_Go p e below s Q kc ks T (mkF m pc Ls (.double x :: .int j :: .ref a :: rest)) := by
  obtain ⟨cl, A, r1, r2⟩ := F
  obtain ⟨T', h', X', e', W, st⟩ := stD X hx hZ eT A (j := j) (x := x) (own_inb h0 r1 hj hv) (g := mkF m pc Ls (.double x :: .int j :: .ref a :: rest)) rfl rfl hd
  exact own_pre st (k T' h' _ X' e' (Fr.snoc X' N q) (hj ▸ W))
theorem own_newarr (X : Stand p l e R s m args below meth c T locs cells slots) (hx : p.tables.exec = Jvm.exec) (hZ : Z.Warmed39 s.vm) {aty : ArrayType} (w : (Cond.arrayClass (newarray.typeOf aty)).before a0 Z = true) (eT : T.heap = h) (hd : decode c.code pc = .ok (.newarray aty, 2)) {z : Int32} {n : Nat} (h0 : 0 ≤ z) (hz : z.toNatClampNeg = n) (hb : n * 8 ≤ 536870912) (hc : cells + 1 ≤ R.cells) (hl : slots + n ≤ R.slots) {ad : String} (had : "[" ++ (newarray.typeOf aty).toString = ad)
    (k : ∀ T' h' a, a = h.size → Stand p l e R s m args below meth c T' locs (cells + 1) (slots + n) → T'.heap = h' → Ext h h' → own_Ary Z h' a (newarray.typeOf aty) (List.replicate n (defaultValue (newarray.typeOf aty))) → Exa Z h' a ad → own_Go p e below s Q kc ks T' (mkF m (pc + 2) Ls (.ref a :: rest))) : own_Go p e below s Q kc ks T (mkF m pc Ls (.int z :: rest)) := by
  obtain ⟨T', h', cA, X', e', E, A, E2, st⟩ := newPE X hx hZ w eT (g := mkF m pc Ls (.int z :: rest)) rfl hd rfl (Int32.not_lt.mpr h0) (cap := n) (Nat.le_of_eq hz) hb hc hl had
  exact own_pre st (k T' h' _ rfl X' e' E (own_Ary.new A hz) E2)
theorem own_newobj (X : Stand p l e R s m args below meth c T locs cells slots) (hx : p.tables.exec = Jvm.exec) (hZ : Z.Warmed39 s.vm) {own : String} {index n : Nat} (hown : s.vm.findClass own = some m.cls) (w : (Cond.classLink own index C).before a0 Z = true) (wi : (Cond.instantiable C n).before a0 Z = true) (wz : (Cond.initialized C).before a0 Z = true) (eT : T.heap = h) (hd : decode c.code pc = .ok (.new index, 3)) (hc : cells + 1 ≤ R.cells) (hl : slots + n ≤ R.slots)
    (k : ∀ T' h' a, a = h.size → Stand p l e R s m args below meth c T' locs (cells + 1) (slots + n) → T'.heap = h' → Ext h h' → Exa Z h' a C → (∀ {O nm d : String} {ty : FieldType}, Laid Z a0 C O nm d → parseFieldDescriptor d = some ty → Fld Z h' a O nm d (defaultValue ty)) → own_Go p e below s Q kc ks T' (mkF m (pc + 3) Ls (.ref a :: rest))) : own_Go p e below s Q kc ks T (mkF m pc Ls rest) := by
  obtain ⟨T', h', X', e', E, A, D, -, st⟩ := newO X hx hZ hown w wi wz eT (g := mkF m pc Ls rest) rfl hd hc hl
  exact own_pre st (k T' h' _ rfl X' e' E A D)
theorem own_getf (X : Stand p l e R s m args below meth c T locs cells slots) (hx : p.tables.exec = Jvm.exec) (hZ : Z.Warmed39 s.vm) {own O n d : String} {index : Nat} (hown : s.vm.findClass own = some m.cls) (w : (Cond.fieldLink own index O n d).before a0 Z = true) (eT : T.heap = h) (F : Fld Z h a O n d v) (hd : decode c.code pc = .ok (.getfield index, 3))
    (k : ∀ T', Stand p l e R s m args below meth c T' locs cells slots → T'.heap = h → own_Go p e below s Q kc ks T' (mkF m (pc + 3) Ls (v :: rest))) : own_Go p e below s Q kc ks T (mkF m pc Ls (.ref a :: rest)) := by
  obtain ⟨T', X', e', st⟩ := getF X hx hZ hown (host := "") (Or.inl w) Via.refl eT F (g := mkF m pc Ls (.ref a :: rest)) rfl rfl hd
  exact own_pre st (k T' X' e')
theorem own_gets (X : Stand p l e R s m args below meth c T locs cells slots) (hx : p.tables.exec = Jvm.exec) (hZ : Z.Warmed39 s.vm) {own O n d : String} {index : Nat} (hown : s.vm.findClass own = some m.cls) (w : (Cond.fieldLink own index O n d).before a0 Z = true) (eT : T.heap = h) (F : Sta Z h O n d v) (hd : decode c.code pc = .ok (.getstatic index, 3))
    (k : ∀ T', Stand p l e R s m args below meth c T' locs cells slots → T'.heap = h → own_Go p e below s Q kc ks T' (mkF m (pc + 3) Ls (v :: rest))) : own_Go p e below s Q kc ks T (mkF m pc Ls rest) := by
  obtain ⟨T', X', e', st⟩ := getS X hx hZ (host := "") hown w Via.refl eT F (g := mkF m pc Ls rest) rfl hd
  exact own_pre st (k T' X' e')
theorem own_putf (X : Stand p l e R s m args below meth c T locs cells slots) (hx : p.tables.exec = Jvm.exec) (hZ : Z.Warmed39 s.vm) {own O n d : String} {index kk : Nat} (hown : s.vm.findClass own = some m.cls) (w : (Cond.fieldLink own index O n d).before a0 Z = true) (eT : T.heap = h) (N : Fr n0 locs) (q : n0 ≤ a) {old : Value} (F : Fld Z h a O n d old) (E : Exa Z h a C) (L : (Cond.lays C O n d).before a0 Z = true ∨ ((Cond.laysFinal C O n d).before a0 Z = true ∧ own = O ∧ meth.name = "<init>")) (wi : (Cond.instantiable C kk).before a0 Z = true) (hty : parseFieldDescriptor d = some ty) (hn : narrow ty v = v) (hf : fits ty v = true) (hd : decode c.code pc = .ok (.putfield index, 3))
    (k : ∀ T' h' locs', Stand p l e R s m args below meth c T' locs' cells slots → T'.heap = h' → Fr n0 locs' → Wr h h' a (slotOf Z O n d) v → own_Go p e below s Q kc ks T' (mkF m (pc + 3) Ls rest)) : own_Go p e below s Q kc ks T (mkF m pc Ls (v :: .ref a :: rest)) := by
  obtain ⟨T', h', X', e', W, st⟩ := putF X hx hZ hown (host := "") (Or.inl w) Via.refl eT F E L wi hty hn hf (g := mkF m pc Ls (v :: .ref a :: rest)) rfl rfl hd
  exact own_pre st (k T' h' _ X' e' (Fr.snoc X' N q) W)
theorem own_ldci (X : Stand p l e R s m args below meth c T locs cells slots) (hx : p.tables.exec = Jvm.exec) (hZ : Z.Warmed39 s.vm) {own : String} {index : Nat} {z : Int32} (hown : s.vm.findClass own = some m.cls) (w : (Cond.constant own index z).before a0 Z = true) (hd : decode c.code pc = .ok (.ldc index, 2))
    (k : own_Go p e below s Q kc ks T (mkF m (pc + 2) Ls (.int z :: rest))) : own_Go p e below s Q kc ks T (mkF m pc Ls rest) :=
  own_pre (X.ldcInt hx hown (mv hZ w) (g := mkF m pc Ls rest) rfl hd) k
theorem own_ldcl (X : Stand p l e R s m args below meth c T locs cells slots) (hx : p.tables.exec = Jvm.exec) (hZ : Z.Warmed39 s.vm) {own : String} {index : Nat} {z : Int64} (hown : s.vm.findClass own = some m.cls) (w : (Cond.constantLong own index z).before a0 Z = true) (hd : decode c.code pc = .ok (.ldc2_w index, 3))
    (k : own_Go p e below s Q kc ks T (mkF m (pc + 3) Ls (.long z :: rest))) : own_Go p e below s Q kc ks T (mkF m pc Ls rest) :=
  own_pre (X.ldc2Long hx hown (mv hZ w) (g := mkF m pc Ls rest) rfl hd) k
theorem own_ldcd (X : Stand p l e R s m args below meth c T locs cells slots) (hx : p.tables.exec = Jvm.exec) (hZ : Z.Warmed39 s.vm) {own : String} {index : Nat} {z : UInt64} (hown : s.vm.findClass own = some m.cls) (w : (Cond.constantDouble own index z).before a0 Z = true) (hd : decode c.code pc = .ok (.ldc2_w index, 3))
    (k : own_Go p e below s Q kc ks T (mkF m (pc + 3) Ls (.double z :: rest))) : own_Go p e below s Q kc ks T (mkF m pc Ls rest) :=
  own_pre (X.ldc2DoubleC hx hown (mv hZ w) (g := mkF m pc Ls rest) rfl hd) k
theorem own_init0 (X : Stand p l e R s m args below meth c T locs cells slots) (hx : p.tables.exec = Jvm.exec) (hZ : Z.Warmed39 s.vm) {own : String} {index : Nat} (hown : s.vm.findClass own = some m.cls) (w1 : (Cond.methodLink own index Lib.objectInit).before a0 Z = true) (w2 : (Cond.instanceMethod Lib.objectInit).before a0 Z = true) (w3 : (Cond.code Lib.objectInit ⟨#[0xb1]⟩ 1 none).before a0 Z = true) (eT : T.heap = h) (hd : decode c.code pc = .ok (.invokespecial index, 3)) (hsz : Ls.size = c.maxLocals) (hf : 1 ≤ R.frames) {W : Nat} (hW : (rest.map fun v => v.category).sum ≤ W) (hl : W + 12 ≤ R.locals)
    (k : ∀ T', Stand p l e R s m args below meth c T' locs cells slots → T'.heap = h → own_Go p e below s Q kc ks T' (mkF m (pc + 3) Ls rest)) : own_Go p e below s Q kc ks T (mkF m pc Ls (.ref a :: rest)) := by
  obtain ⟨T', X', e', st⟩ := initO X hx hZ hown w1 w2 w3 eT (g := mkF m pc Ls (.ref a :: rest)) rfl hsz rfl hd hf (W := W) (by show 2 * 0 + _ ≤ _; omega) hl
  exact own_pre st (k T' X' e')
theorem own_init (X : Stand p l e R s m args below meth c T locs cells slots) (hx : p.tables.exec = Jvm.exec) (hZ : Z.Warmed39 s.vm) {own : String} {index : Nat} (hown : s.vm.findClass own = some m.cls) {y : MethodName} {bytes : ByteArray} {maxL : Nat} {rm : Room} {argsL : List Value} {Qc : Option Value → Heap → List Loc → Prop}
    (hM : MetFree l y (head1 [Cond.code y bytes maxL none] rm) (fun a' U => a' = (.ref a :: argsL).toArray ∧ Z.Warmed39 U.vm ∧ U.heap = h) (fun _ _ _ _ _ => True) (fun _ U o U' => ∃ v L, o = .returned v ∧ Qc v U'.heap L ∧ FrameEnd U o U' L rm.cells rm.slots))
    (hy1 : y.name = "<init>") (w1 : (Cond.methodLink own index y).before a0 Z = true) (w2 : (Cond.instanceMethod y).before a0 Z = true) (w3 : (Cond.code y bytes maxL none).before a0 Z = true) (w4 : (Cond.initialized y.cls).before a0 Z = true) (hy : y.cls ≠ "java/lang/invoke/MethodHandle" ∧ y.cls ≠ "java/lang/invoke/VarHandle")
    (eT : T.heap = h) (hd : decode c.code pc = .ok (.invokespecial index, 3)) (hsz : Ls.size = c.maxLocals) {stk : List Value} (hstk : stk = argsL.reverse ++ .ref a :: rest) (hlen : ∀ sig, parseMethodDescriptor y.desc = some sig → argsL.length = sig.parameters.length) (hf : rm.frames + 1 ≤ R.frames) {W : Nat} (hW : (rest.map fun v => v.category).sum ≤ W) (hl : W + (maxL + 11) + rm.locals ≤ R.locals) (hc : cells + rm.cells ≤ R.cells) (hs : slots + rm.slots ≤ R.slots)
    (k : ∀ v T' L, Stand p l e R s m args below meth c T' (locs ++ L) (cells + rm.cells) (slots + rm.slots) → Qc v T'.heap L → own_Go p e below s Q kc ks T' (mkF m (pc + 3) Ls (v.toList ++ rest))) : own_Go p e below s Q kc ks T (mkF m pc Ls stk) := by
  obtain ⟨v, _, ⟨T', L', k', n'⟩, -, X', ⟨L, hQ, e1, e2, e3⟩, st⟩ := X.specialBack hx (y := y) hy1 hown (mvT hZ w1) (mvT hZ w2) (mvT hZ w3) hy (backOf (W := W) hM hZ w3 w4 hf hl) (g := mkF m pc Ls stk) rfl hsz (Steps.refl _) (a := a) (argsL := argsL) (rest := rest) hlen hstk (by show 2 * 0 + _ ≤ _; omega) hd (fun _ _ => ⟨rfl, eT, hc, hs⟩)
  dsimp only at X' e1 e2 e3 st hQ
  subst e1 e2 e3
  exact own_tr st (k v T' L X' hQ)
theorem own_callv (X : Stand p l e R s m args below meth c T locs cells slots) (hx : p.tables.exec = Jvm.exec) (hZ : Z.Warmed39 s.vm) {own : String} {index : Nat} (hown : s.vm.findClass own = some m.cls) {y : MethodName} {bytes : ByteArray} {maxL : Nat} {ret : Option FieldType} {rm : Room} {argsL : List Value} {Qc : Option Value → Heap → List Loc → Prop}
    (hM : MetFree l y (head1 [Cond.code y bytes maxL ret] rm) (fun a' U => a' = (.ref a :: argsL).toArray ∧ Z.Warmed39 U.vm ∧ U.heap = h) (fun _ _ _ _ _ => True) (fun _ U o U' => ∃ v L, o = .returned v ∧ Qc v U'.heap L ∧ FrameEnd U o U' L rm.cells rm.slots))
    (E : Exa Z h a C) (w1 : (Cond.methodLink own index y).before a0 Z = true) (w2 : (Cond.declares y).before a0 Z = true) (w5 : (Cond.selects C y y).before a0 Z = true) (w6 : (Cond.instanceMethod y).before a0 Z = true) (w3 : (Cond.code y bytes maxL ret).before a0 Z = true) (w4 : (Cond.initialized y.cls).before a0 Z = true) (hy : y.cls ≠ "java/lang/invoke/MethodHandle" ∧ y.cls ≠ "java/lang/invoke/VarHandle")
    (eT : T.heap = h) (hd : decode c.code pc = .ok (.invokevirtual index, 3)) (hsz : Ls.size = c.maxLocals) {stk : List Value} (hstk : stk = argsL.reverse ++ .ref a :: rest) (hlen : ∀ sig, parseMethodDescriptor y.desc = some sig → argsL.length = sig.parameters.length) (hf : rm.frames + 1 ≤ R.frames) {W : Nat} (hW : (rest.map fun v => v.category).sum ≤ W) (hl : W + (maxL + 11) + rm.locals ≤ R.locals) (hc : cells + rm.cells ≤ R.cells) (hs : slots + rm.slots ≤ R.slots)
    (k : ∀ v T' L, Stand p l e R s m args below meth c T' (locs ++ L) (cells + rm.cells) (slots + rm.slots) → Qc v T'.heap L → own_Go p e below s Q kc ks T' (mkF m (pc + 3) Ls (v.toList ++ rest))) : own_Go p e below s Q kc ks T (mkF m pc Ls stk) := by
  obtain ⟨cq, kq, q1, q2, q3⟩ := isOf hZ eT E
  obtain ⟨v, _, ⟨T', L', k', n'⟩, -, X', ⟨L, hQ, e1, e2, e3⟩, st⟩ := X.virtualBack hx (y := y) (z := y) hown (mvT hZ w1) (mvT hZ w2) (notFace_of_selects (args := #[]) (mvT hZ w5)) (mvT hZ w5) (mvT hZ w6) hy (backOf (W := W) hM hZ w3 w4 hf hl) q1 q3 (g := mkF m pc Ls stk) rfl hsz (Steps.refl _) (argsL := argsL) (rest := rest) hlen hstk (by show 2 * 0 + _ ≤ _; omega) hd (fun _ _ => ⟨rfl, eT, hc, hs⟩)
  dsimp only at X' e1 e2 e3 st hQ
  subst e1 e2 e3
  exact own_tr st (k v T' L X' hQ)
theorem own_calls (X : Stand p l e R s m args below meth c T locs cells slots) (hx : p.tables.exec = Jvm.exec) (hZ : Z.Warmed39 s.vm) {own : String} {index : Nat} (hown : s.vm.findClass own = some m.cls) {y : MethodName} {bytes : ByteArray} {maxL : Nat} {ret : Option FieldType} {rm : Room} {argsL : List Value} {Qc : Option Value → Heap → List Loc → Prop}
    (hM : MetFree l y (head1 [Cond.code y bytes maxL ret] rm) (fun a' U => a' = argsL.toArray ∧ Z.Warmed39 U.vm ∧ U.heap = h) (fun _ _ _ _ _ => True) (fun _ U o U' => ∃ v L, o = .returned v ∧ Qc v U'.heap L ∧ FrameEnd U o U' L rm.cells rm.slots))
    (w1 : (Cond.methodLink own index y).before a0 Z = true) (w2 : (Cond.static y).before a0 Z = true) (w3 : (Cond.code y bytes maxL ret).before a0 Z = true) (w4 : (Cond.initialized y.cls).before a0 Z = true) (hy : y.cls ≠ "java/lang/invoke/MethodHandle" ∧ y.cls ≠ "java/lang/invoke/VarHandle")
    (eT : T.heap = h) (hd : decode c.code pc = .ok (.invokestatic index, 3)) (hsz : Ls.size = c.maxLocals) {stk : List Value} (hstk : stk = argsL.reverse ++ rest) (hlen : ∀ sig, parseMethodDescriptor y.desc = some sig → argsL.length = sig.parameters.length) (hf : rm.frames + 1 ≤ R.frames) {W : Nat} (hW : (rest.map fun v => v.category).sum ≤ W) (hl : W + (maxL + 11) + rm.locals ≤ R.locals) (hc : cells + rm.cells ≤ R.cells) (hs : slots + rm.slots ≤ R.slots)
    (k : ∀ v T' L, Stand p l e R s m args below meth c T' (locs ++ L) (cells + rm.cells) (slots + rm.slots) → Qc v T'.heap L → own_Go p e below s Q kc ks T' (mkF m (pc + 3) Ls (v.toList ++ rest))) : own_Go p e below s Q kc ks T (mkF m pc Ls stk) := by
  obtain ⟨v, _, ⟨T', L', k', n'⟩, -, X', ⟨L, hQ, e1, e2, e3⟩, st⟩ := Jvm.LawKit.callS X hx (y := y) hown (mvT hZ w1) (mvT hZ w2) (mvT hZ w4) (mvT hZ w3) hy (backOf (W := W) hM hZ w3 w4 hf hl) (g := mkF m pc Ls stk) rfl hsz (argsL := argsL) (rest := rest) hlen hstk (by show 2 * 0 + _ ≤ _; omega) hd (fun _ _ => ⟨rfl, eT, hc, hs⟩)
  dsimp only at X' e1 e2 e3 st hQ
  subst e1 e2 e3
  exact own_pre st (k v T' L X' hQ)
theorem own_cl_lt (x y : Int64) : XT.cmpL x y < 0 ↔ x < y := by unfold XT.cmpL; split <;> (try split) <;> simp_all [Int64.lt_iff_toInt_lt, ← Int64.toInt_inj] <;> omega
theorem own_cl_gt (x y : Int64) : 0 < XT.cmpL x y ↔ y < x := by unfold XT.cmpL; split <;> (try split) <;> simp_all [Int64.lt_iff_toInt_lt, ← Int64.toInt_inj]
theorem own_cl_eq (x y : Int64) : XT.cmpL x y = 0 ↔ x = y := by unfold XT.cmpL; split <;> (try split) <;> simp_all [Int64.lt_iff_toInt_lt, ← Int64.toInt_inj] <;> omega
/-! loads, constants and jumps, written short -/
theorem own_alN (X : Stand p l e R s m args below meth c T locs cells slots) (hx : p.tables.exec = Jvm.exec) {k : Fin 4} {w : Value} (hd : decode c.code pc = .ok (.aload_n k, 1)) (hl : Ls[k.val]? = some (.val w)) (hv : w.isRef = true) (kk : own_Go p e below s Q kc ks T (mkF m (pc + 1) Ls (w :: rest))) : own_Go p e below s Q kc ks T (mkF m pc Ls rest) := own_pre (fun _ q => XS.aloadN X.here hx rfl hd hl hv q) kk
theorem own_al (X : Stand p l e R s m args below meth c T locs cells slots) (hx : p.tables.exec = Jvm.exec) {k : Nat} {w : Value} (hd : decode c.code pc = .ok (.aload k, 2)) (hl : Ls[k]? = some (.val w)) (hv : w.isRef = true) (kk : own_Go p e below s Q kc ks T (mkF m (pc + 2) Ls (w :: rest))) : own_Go p e below s Q kc ks T (mkF m pc Ls rest) := own_pre (fun _ q => XS.aload X.here hx rfl hd hl hv q) kk
theorem own_ilN (X : Stand p l e R s m args below meth c T locs cells slots) (hx : p.tables.exec = Jvm.exec) {k : Fin 4} {w : Int32} (hd : decode c.code pc = .ok (.iload_n k, 1)) (hl : Ls[k.val]? = some (.val (.int w))) (kk : own_Go p e below s Q kc ks T (mkF m (pc + 1) Ls (.int w :: rest))) : own_Go p e below s Q kc ks T (mkF m pc Ls rest) := own_pre (fun _ q => XS.iloadN X.here hx rfl hd hl q) kk
theorem own_il (X : Stand p l e R s m args below meth c T locs cells slots) (hx : p.tables.exec = Jvm.exec) {k : Nat} {w : Int32} (hd : decode c.code pc = .ok (.iload k, 2)) (hl : Ls[k]? = some (.val (.int w))) (kk : own_Go p e below s Q kc ks T (mkF m (pc + 2) Ls (.int w :: rest))) : own_Go p e below s Q kc ks T (mkF m pc Ls rest) := own_pre (fun _ q => XS.iload X.here hx rfl hd hl q) kk
theorem own_dlN (X : Stand p l e R s m args below meth c T locs cells slots) (hx : p.tables.exec = Jvm.exec) {k : Fin 4} {w : UInt64} (hd : decode c.code pc = .ok (.dload_n k, 1)) (hl : Ls[k.val]? = some (.val (.double w))) (kk : own_Go p e below s Q kc ks T (mkF m (pc + 1) Ls (.double w :: rest))) : own_Go p e below s Q kc ks T (mkF m pc Ls rest) := own_pre (fun _ q => XS.dloadN X.here hx rfl hd hl q) kk
theorem own_dl (X : Stand p l e R s m args below meth c T locs cells slots) (hx : p.tables.exec = Jvm.exec) {k : Nat} {w : UInt64} (hd : decode c.code pc = .ok (.dload k, 2)) (hl : Ls[k]? = some (.val (.double w))) (kk : own_Go p e below s Q kc ks T (mkF m (pc + 2) Ls (.double w :: rest))) : own_Go p e below s Q kc ks T (mkF m pc Ls rest) := own_pre (fun _ q => XS.dload X.here hx rfl hd hl q) kk
theorem own_llN (X : Stand p l e R s m args below meth c T locs cells slots) (hx : p.tables.exec = Jvm.exec) {k : Fin 4} {w : Int64} (hd : decode c.code pc = .ok (.lload_n k, 1)) (hl : Ls[k.val]? = some (.val (.long w))) (kk : own_Go p e below s Q kc ks T (mkF m (pc + 1) Ls (.long w :: rest))) : own_Go p e below s Q kc ks T (mkF m pc Ls rest) := own_pre (fun _ q => XT.lloadN X.here hx rfl hd hl q) kk
theorem own_ll (X : Stand p l e R s m args below meth c T locs cells slots) (hx : p.tables.exec = Jvm.exec) {k : Nat} {w : Int64} (hd : decode c.code pc = .ok (.lload k, 2)) (hl : Ls[k]? = some (.val (.long w))) (kk : own_Go p e below s Q kc ks T (mkF m (pc + 2) Ls (.long w :: rest))) : own_Go p e below s Q kc ks T (mkF m pc Ls rest) := own_pre (fun _ q => XT.lload X.here hx rfl hd hl q) kk
theorem own_ic (X : Stand p l e R s m args below meth c T locs cells slots) (hx : p.tables.exec = Jvm.exec) {i : Int} (z : Int32) (hd : decode c.code pc = .ok (.iconst i, 1)) (hz : Int32.ofInt i = z) (kk : own_Go p e below s Q kc ks T (mkF m (pc + 1) Ls (.int z :: rest))) : own_Go p e below s Q kc ks T (mkF m pc Ls rest) := own_pre (fun _ q => XS.iconst X.here hx rfl hd q) (hz ▸ kk)
theorem own_gt (X : Stand p l e R s m args below meth c T locs cells slots) (hx : p.tables.exec = Jvm.exec) {o : Int} (pc' : Nat) (hd : decode c.code pc = .ok (.goto o, 3)) (ho : 0 ≤ (pc : Int) + o) (hp : ((pc : Int) + o).toNat = pc') (kk : own_Go p e below s Q kc ks T (mkF m pc' Ls rest)) : own_Go p e below s Q kc ks T (mkF m pc Ls rest) := own_pre (fun _ q => XS.goto X.here hx rfl rfl hd ho hp q) kk
end Own
end Jvm.RoadKit
namespace Jvm.FP.Core
theorem own_cross {c d I J qp qm rp rm kp km : Nat} (h1 : c * 2 ^ qp = I * 2 ^ qm) (h2 : d * 2 ^ rp = J * 2 ^ rm) (e : kp + qm + rp = km + qp + rm) : c * J * 2 ^ kp = I * d * 2 ^ km := by
  have e' : 2 ^ kp * 2 ^ qm * 2 ^ rp = 2 ^ km * 2 ^ qp * 2 ^ rm := by rw [← Nat.pow_add, ← Nat.pow_add, ← Nat.pow_add, ← Nat.pow_add, e]
  have p1 := Nat.two_pow_pos qp
  have p2 := Nat.two_pow_pos rm
  generalize 2 ^ qp = a1 at *
  generalize 2 ^ qm = a2 at *
  generalize 2 ^ rp = a3 at *
  generalize 2 ^ rm = a4 at *
  generalize 2 ^ kp = a5 at *
  generalize 2 ^ km = a6 at *
  refine Nat.eq_of_mul_eq_mul_right (Nat.mul_pos p1 p2) ?_
  calc c * J * a5 * (a1 * a4) = (c * a1) * (J * a4) * a5 := by ac_rfl
    _ = (I * a2) * (d * a3) * a5 := by rw [h1, h2]
    _ = I * d * (a5 * a2 * a3) := by ac_rfl
    _ = I * d * (a6 * a1 * a4) := by rw [e']
    _ = I * d * a6 * (a1 * a4) := by ac_rfl
/-- a quotient of two whole doubles: the rounded ratio of the two -/
theorem own_ddiv_round {i j : Int} {a b : UInt64} (ha : DInt i a) (hb : DInt j b) (hj : 0 < j) : ∃ sg, val64 (ddiv a b) = roundRatio b64 sg i.natAbs j.natAbs 0 ∧ (i ≠ 0 → sg = decide (i < 0)) := by
  rw [val64_ddiv]
  unfold DInt at ha hb
  generalize val64 a = x at *
  generalize val64 b = y at *
  cases x with
  | nan => exact ha.elim
  | inf => exact ha.elim
  | fin s c q =>
  cases y with
  | nan => exact hb.elim
  | inf => exact hb.elim
  | fin t d r =>
    have h1 := whole_natAbs ha
    have h2 := whole_natAbs hb
    have hd : d ≠ 0 := by have := whole_zero hb; omega
    refine ⟨s != t, ?_, fun hi => ?_⟩
    · show (if d = 0 then (if c = 0 then Datum.nan else .inf (s != t)) else roundRatio b64 (s != t) c d (q - r)) = _
      rw [if_neg hd]
      exact roundRatio_congr (by omega) (by omega) (own_cross h1 h2 (by omega))
    · rw [whole_sign ha hi, whole_sign hb (by omega)]
      simp [show ¬ j < 0 by omega]
theorem own_div_le {sg : Bool} {A B : Nat} {V : UInt64} (hB : 0 < B) (hV : val64 V ≠ .nan) (h : A * one64 ≤ zmag b64 (val64 V) * B) : zmag b64 (roundRatio b64 sg A B 0) ≤ zmag b64 (val64 V) := by
  refine zmag_roundRatio_le good_b64 hB (val64_fits V) hV (e0 := b64.qmin) (Int.le_refl _) (by decide) ?_
  show A * 2 ^ (0 - b64.qmin).toNat ≤ _ * 2 ^ (b64.qmin - b64.qmin).toNat * B
  rw [Int.zero_sub, pow_qmin64, Int.sub_self]
  simpa using h
theorem own_div_ge {sg : Bool} {A B : Nat} {V : UInt64} (hB : 0 < B) (h : zmag b64 (val64 V) * B ≤ A * one64) : zmag b64 (val64 V) ≤ zmag b64 (roundRatio b64 sg A B 0) := by
  refine zmag_roundRatio_ge good_b64 hB (val64_fits V) (e0 := b64.qmin) (Int.le_refl _) (by decide) ?_
  show _ * 2 ^ (b64.qmin - b64.qmin).toNat * B ≤ A * 2 ^ (0 - b64.qmin).toNat
  rw [Int.zero_sub, pow_qmin64, Int.sub_self]
  simpa using h
theorem own_scale {A B x y u : Nat} (h : A * x ≤ y * B) : A * (x * u) ≤ (y * u) * B := by
  have h2 := Nat.mul_le_mul_right u h
  calc A * (x * u) = A * x * u := by ac_rfl
    _ ≤ y * B * u := h2
    _ = (y * u) * B := by ac_rfl
theorem own_scale' {A B x y u : Nat} (h : y * B ≤ A * x) : (y * u) * B ≤ A * (x * u) := by
  have h2 := Nat.mul_le_mul_right u h
  calc (y * u) * B = y * B * u := by ac_rfl
    _ ≤ A * x * u := h2
    _ = A * (x * u) := by ac_rfl
end Jvm.FP.Core
namespace Jvm.RoadKit
open Sem ClassFile Op Lib Jvm.Stand Jvm.Free Jvm.LawKit
theorem own_DInt_nn {i : Int} {a : UInt64} (h : FP.Core.DInt i a) : Jvm.Free.Fl.NoNaN64 a := Jvm.Free.Fl.val64_no.mpr (FP.Core.DInt_ne_nan h)
theorem own_DInt0 : FP.Core.DInt 0 0 := by
  show FP.Core.Whole 0 (FP.Core.val64 0)
  rw [FP.Core.val64_zero]
  simp [FP.Core.Whole, FP.Core.signed]
/-- the int that a comparison of two whole doubles pushes -/
def own_c (i j : Int) : Int32 := if i < j then -1 else if i = j then 0 else 1
theorem own_c_lt (i j : Int) : own_c i j < 0 ↔ i < j := by unfold own_c; split <;> (try split) <;> first | (simp; omega) | simp_all
theorem own_c_gt (i j : Int) : 0 < own_c i j ↔ j < i := by unfold own_c; split <;> (try split) <;> first | (simp; omega) | (simp_all; done) | (simp_all; omega)
theorem own_c_eq (i j : Int) : own_c i j = 0 ↔ i = j := by unfold own_c; split <;> (try split) <;> first | (simp; omega) | (simp_all; done) | (simp_all; omega)
theorem own_cmpv (i j : Int) (o : CmpOp) : cmpValue (some (compare i j)) o = own_c i j := by
  unfold own_c
  rw [FP.Core.compare_ite]
  split <;> (try split) <;> cases o <;> rfl
theorem own_dcmp {i j : Int} {a b : UInt64} (ha : FP.Core.DInt i a) (hb : FP.Core.DInt j b) (o : CmpOp) : cmpValue (FP.dcmp a b) o = own_c i j := by
  rw [show FP.dcmp a b = some (compare i j) from FP.Core.dcmp_int ha hb, own_cmpv]
theorem own_dcmpz {a b : UInt64} (ha : Jvm.Free.Fl.NoNaN64 a) (hb : Jvm.Free.Fl.NoNaN64 b) (o : CmpOp) : cmpValue (FP.dcmp a b) o = own_c (FP.Core.zval FP.Core.b64 (FP.Core.val64 a)) (FP.Core.zval FP.Core.b64 (FP.Core.val64 b)) := by
  rw [show FP.dcmp a b = some (compare _ _) from FP.Core.dcmp_zval (Jvm.Free.Fl.val64_no.mp ha) (Jvm.Free.Fl.val64_no.mp hb), own_cmpv]
end Jvm.RoadKit
namespace Jvm.RoadKit
open Sem ClassFile Op Lib Jvm.Stand Jvm.Free Jvm.LawKit
section Own2
variable {p : Program} {l : Launch} {e : Env} {R : Room} {s : State} {m : MethodId} {args : Array Value} {below : List Frame} {meth : Method} {c : Code} {T T' : State} {locs : List Loc} {cells slots : Nat} {Z : State} {h h' h0 : Heap} {Q : Option Value → Heap → List Loc → Prop} {kc ks : Nat} {g g' : JFrame} {a0 : Array Value} {pc : Nat} {Ls : Array Slot} {rest : List Value} {a b : Addr} {n0 : Nat} {ty : FieldType} {vs : List Value} {C : String} {sl : Nat} {v : Value} {ws : List Addr}
theorem own_clone (X : Stand p l e R s m args below meth c T locs cells slots) (hx : p.tables.exec = Jvm.exec) (hZ : Z.Warmed39 s.vm) {own ad : String} {index : Nat} (hown : s.vm.findClass own = some m.cls)
    (w1 : (Cond.methodLink own index ⟨ad, "clone", "()Ljava/lang/Object;"⟩).before a0 Z = true) (w2 : (Cond.sameMethod ad "java/lang/Object" "clone" "()Ljava/lang/Object;").before a0 Z = true) (w3 : (Cond.native ⟨"java/lang/Object", "clone", "()Ljava/lang/Object;"⟩).before a0 Z = true)
    (w4 : (Cond.instanceMethod ⟨"java/lang/Object", "clone", "()Ljava/lang/Object;"⟩).before a0 Z = true) (w5 : (Cond.selects ad ⟨ad, "clone", "()Ljava/lang/Object;"⟩ ⟨"java/lang/Object", "clone", "()Ljava/lang/Object;"⟩).before a0 Z = true) (w6 : (Cond.castable ad "java/lang/Cloneable").before a0 Z = true)
    (eT : T.heap = h) (F : own_Ary Z h a ty vs) (E : Exa Z h a ad) (hfit : ∀ v ∈ vs, fits ty v = true) (hd : decode c.code pc = .ok (.invokevirtual index, 3)) (hsz : Ls.size = c.maxLocals) (hf : 1 ≤ R.frames) {W n : Nat} (hW : (rest.map fun v => v.category).sum ≤ W) (hl : W + 14 ≤ R.locals) (hn : vs.length = n) (hc : cells + 1 ≤ R.cells) (hsl : slots + n ≤ R.slots)
    (k : ∀ T' h' a', a' = h.size → Stand p l e R s m args below meth c T' locs (cells + 1) (slots + n) → T'.heap = h' → Ext h h' → own_Ary Z h' a' ty vs → Exa Z h' a' ad → own_Go p e below s Q kc ks T' (mkF m (pc + 3) Ls (.ref a' :: rest))) : own_Go p e below s Q kc ks T (mkF m pc Ls (.ref a :: rest)) := by
  obtain ⟨cl, A, r1, r2⟩ := F
  have hfc : FitC Z cl := fitC_of A fun i hi v hv => hfit v (by
    rw [← r1]
    exact List.mem_of_getElem? (i := i) (by simpa using hv))
  obtain ⟨T', h', X', e', Ex, A', E', st⟩ := cloneA X hx hZ hown w1 w2 w3 w4 w5 w6 eT A E hfc (g := mkF m pc Ls (.ref a :: rest)) rfl hsz rfl hd hf (W := W) (cap := n) (by show 2 * 0 + _ ≤ _; omega) hl (by rw [← hn, ← r1, Array.length_toList]; exact Nat.le_refl _) hc hsl
  exact own_pre st (k T' h' _ rfl X' e' Ex ⟨_, A', r1, r2⟩ E')
theorem own_cast1 (X : Stand p l e R s m args below meth c T locs cells slots) (hx : p.tables.exec = Jvm.exec) (hZ : Z.Warmed39 s.vm) {own K : String} {index : Nat} (hown : s.vm.findClass own = some m.cls) (w : (Cond.classLink own index K).before a0 Z = true) (eT : T.heap = h) (F : Ins Z h a K true) (hd : decode c.code pc = .ok (.checkcast index, 3))
    (k : ∀ T', Stand p l e R s m args below meth c T' locs cells slots → T'.heap = h → own_Go p e below s Q kc ks T' (mkF m (pc + 3) Ls (.ref a :: rest))) : own_Go p e below s Q kc ks T (mkF m pc Ls (.ref a :: rest)) := by
  obtain ⟨T', X', e', st⟩ := castY X hx hZ hown w eT F (g := mkF m pc Ls (.ref a :: rest)) rfl rfl hd
  exact own_pre st (k T' X' e')
theorem own_inst1 (X : Stand p l e R s m args below meth c T locs cells slots) (hx : p.tables.exec = Jvm.exec) (hZ : Z.Warmed39 s.vm) {own K : String} {index : Nat} (hown : s.vm.findClass own = some m.cls) (w : (Cond.classLink own index K).before a0 Z = true) (eT : T.heap = h) (F : Ins Z h a K true) (hd : decode c.code pc = .ok (.instanceof index, 3))
    (k : ∀ T', Stand p l e R s m args below meth c T' locs cells slots → T'.heap = h → own_Go p e below s Q kc ks T' (mkF m (pc + 3) Ls (.int 1 :: rest))) : own_Go p e below s Q kc ks T (mkF m pc Ls (.ref a :: rest)) := by
  obtain ⟨T', X', e', st⟩ := instY X hx hZ hown w eT F (g := mkF m pc Ls (.ref a :: rest)) rfl rfl hd
  exact own_pre st (k T' X' e')
theorem own_zastore (X : Stand p l e R s m args below meth c T locs cells slots) (hx : p.tables.exec = Jvm.exec) (hZ : Z.Warmed39 s.vm) (eT : T.heap = h) (N : Fr n0 locs) (q : n0 ≤ a) (F : own_Ary Z h a .boolean vs) (hd : decode c.code pc = .ok (.bastore, 1)) {j x x' : Int32} {n : Nat} (h0 : 0 ≤ j) (hj : j.toNatClampNeg = n) (hv : n < vs.length) (hnar : nar .boolean x = x')
    (k : ∀ T' h' locs', Stand p l e R s m args below meth c T' locs' cells slots → T'.heap = h' → Fr n0 locs' → Wr h h' a n (.int x') → own_Go p e below s Q kc ks T' (mkF m (pc + 1) Ls rest)) : own_Go p e below s Q kc ks T (mkF m pc Ls (.int x :: .int j :: .ref a :: rest)) := by
  obtain ⟨cl, A, r1, r2⟩ := F
  obtain ⟨T', h', X', e', W, st⟩ := stZ X hx hZ eT A (j := j) (x := x) (own_inb h0 r1 hj hv) (g := mkF m pc Ls (.int x :: .int j :: .ref a :: rest)) rfl rfl hd
  exact own_pre st (k T' h' _ X' e' (Fr.snoc X' N q) (hnar ▸ hj ▸ W))
/-- the array's class is that of arrays over C -/
def own_Ovr (Z : State) (h : Heap) (a : Addr) (C : String) : Prop := ∃ c : Cell, h[a]? = some c ∧ Ovr Z c.cls C
theorem own_Ovr.lt (F : own_Ovr Z h a C) : a < h.size := by obtain ⟨c, h1, -⟩ := F; exact (Array.getElem?_eq_some_iff.mp h1).1
theorem own_Ovr.ext (F : own_Ovr Z h a C) (E : Ext h h') : own_Ovr Z h' a C := by obtain ⟨c, h1, r⟩ := F; exact ⟨c, E.2 _ _ h1, r⟩
theorem own_Ovr.wr (F : own_Ovr Z h b C) (W : Wr h h' a sl v) : own_Ovr Z h' b C := by
  obtain ⟨c, h1, r⟩ := F
  obtain ⟨c', e1, e2, -⟩ := wr_at W h1
  exact ⟨c', e1, by rw [e2]; exact r⟩
theorem own_Ovr.keep (F : own_Ovr Z h a C) (K : Keep h h' ws) : own_Ovr Z h' a C := by
  obtain ⟨c, h1, r⟩ := F
  obtain ⟨c', e1, e2, -⟩ := K.2.2 a c h1
  exact ⟨c', e1, by rw [e2]; exact r⟩
theorem own_anewarr (X : Stand p l e R s m args below meth c T locs cells slots) (hx : p.tables.exec = Jvm.exec) (hZ : Z.Warmed39 s.vm) {own : String} {index : Nat} (hown : s.vm.findClass own = some m.cls) (w1 : (Cond.classLink own index C).before a0 Z = true) (w2 : (Cond.arrayOver (.object C)).before a0 Z = true) (eT : T.heap = h) (hd : decode c.code pc = .ok (.anewarray index, 3)) {z : Int32} {n : Nat} (h0 : 0 ≤ z) (hz : z.toNatClampNeg = n) (hb : n * 8 ≤ 536870912) (hc : cells + 1 ≤ R.cells) (hl : slots + n ≤ R.slots) {ad : String} (had : "[" ++ (FieldType.object C).toString = ad)
    (k : ∀ T' h' a, a = h.size → Stand p l e R s m args below meth c T' locs (cells + 1) (slots + n) → T'.heap = h' → Ext h h' → own_Ary Z h' a (.object C) (List.replicate n .null) → Exa Z h' a ad → own_Ovr Z h' a C → own_Go p e below s Q kc ks T' (mkF m (pc + 3) Ls (.ref a :: rest))) : own_Go p e below s Q kc ks T (mkF m pc Ls (.int z :: rest)) := by
  obtain ⟨T', h', cA, X', e', E, A, E2, O, st⟩ := newRE X hx hZ hown w1 w2 eT (g := mkF m pc Ls (.int z :: rest)) rfl hd rfl (Int32.not_lt.mpr h0) (cap := n) (Nat.le_of_eq hz) hb hc hl had
  exact own_pre st (k T' h' _ rfl X' e' E (own_Ary.new A hz) E2 ⟨_, A.1, O⟩)
theorem own_aastore (X : Stand p l e R s m args below meth c T locs cells slots) (hx : p.tables.exec = Jvm.exec) (hZ : Z.Warmed39 s.vm) (eT : T.heap = h) (N : Fr n0 locs) (q : n0 ≤ a) (F : own_Ary Z h a (.object C) vs) (O : own_Ovr Z h a C) (I : Ins Z h b C true) (hd : decode c.code pc = .ok (.aastore, 1)) {j : Int32} {n : Nat} (h0 : 0 ≤ j) (hj : j.toNatClampNeg = n) (hv : n < vs.length)
    (k : ∀ T' h' locs', Stand p l e R s m args below meth c T' locs' cells slots → T'.heap = h' → Fr n0 locs' → Wr h h' a n (.ref b) → own_Go p e below s Q kc ks T' (mkF m (pc + 1) Ls rest)) : own_Go p e below s Q kc ks T (mkF m pc Ls (.ref b :: .int j :: .ref a :: rest)) := by
  obtain ⟨cl, A, r1, r2⟩ := F
  obtain ⟨c', o1, o2⟩ := O
  cases o1.symm.trans A.1
  obtain ⟨T', h', X', e', W, st⟩ := stR X hx hZ eT A (j := j) (v := .ref b) (own_inb h0 r1 hj hv) rfl (Sto.of A o2 I) (g := mkF m pc Ls (.ref b :: .int j :: .ref a :: rest)) rfl rfl hd
  exact own_pre st (k T' h' _ X' e' (Fr.snoc X' N q) (hj ▸ W))
theorem own_aastore0 (X : Stand p l e R s m args below meth c T locs cells slots) (hx : p.tables.exec = Jvm.exec) (hZ : Z.Warmed39 s.vm) (eT : T.heap = h) (N : Fr n0 locs) (q : n0 ≤ a) (F : own_Ary Z h a (.object C) vs) (hd : decode c.code pc = .ok (.aastore, 1)) {j : Int32} {n : Nat} (h0 : 0 ≤ j) (hj : j.toNatClampNeg = n) (hv : n < vs.length)
    (k : ∀ T' h' locs', Stand p l e R s m args below meth c T' locs' cells slots → T'.heap = h' → Fr n0 locs' → Wr h h' a n .null → own_Go p e below s Q kc ks T' (mkF m (pc + 1) Ls rest)) : own_Go p e below s Q kc ks T (mkF m pc Ls (.null :: .int j :: .ref a :: rest)) := by
  obtain ⟨cl, A, r1, r2⟩ := F
  obtain ⟨T', h', X', e', W, st⟩ := stR X hx hZ eT A (j := j) (v := .null) (own_inb h0 r1 hj hv) rfl (Or.inl rfl) (g := mkF m pc Ls (.null :: .int j :: .ref a :: rest)) rfl rfl hd
  exact own_pre st (k T' h' _ X' e' (Fr.snoc X' N q) (hj ▸ W))
theorem own_callp (X : Stand p l e R s m args below meth c T locs cells slots) (hx : p.tables.exec = Jvm.exec) (hZ : Z.Warmed39 s.vm) {own : String} {index : Nat} (hown : s.vm.findClass own = some m.cls) {y : MethodName} {bytes : ByteArray} {maxL : Nat} {ret : Option FieldType} {rm : Room} {argsL : List Value} {Qc : Option Value → Heap → List Loc → Prop}
    (hM : MetFree l y (head1 [Cond.code y bytes maxL ret] rm) (fun a' U => a' = (.ref a :: argsL).toArray ∧ Z.Warmed39 U.vm ∧ U.heap = h) (fun _ _ _ _ _ => True) (fun _ U o U' => ∃ v L, o = .returned v ∧ Qc v U'.heap L ∧ FrameEnd U o U' L rm.cells rm.slots))
    (E : Exa Z h a C) (w1 : (Cond.methodLink own index y).before a0 Z = true) {kk : Nat} (wi : (Cond.instantiable y.cls kk).before a0 Z = true) (w5 : (Cond.privateMethod y).before a0 Z = true) (w6 : (Cond.instanceMethod y).before a0 Z = true) (w3 : (Cond.code y bytes maxL ret).before a0 Z = true) (w4 : (Cond.initialized y.cls).before a0 Z = true) (hy : y.cls ≠ "java/lang/invoke/MethodHandle" ∧ y.cls ≠ "java/lang/invoke/VarHandle")
    (eT : T.heap = h) (hd : decode c.code pc = .ok (.invokevirtual index, 3)) (hsz : Ls.size = c.maxLocals) {stk : List Value} (hstk : stk = argsL.reverse ++ .ref a :: rest) (hlen : ∀ sig, parseMethodDescriptor y.desc = some sig → argsL.length = sig.parameters.length) (hf : rm.frames + 1 ≤ R.frames) {W : Nat} (hW : (rest.map fun v => v.category).sum ≤ W) (hl : W + (maxL + 11) + rm.locals ≤ R.locals) (hc : cells + rm.cells ≤ R.cells) (hs : slots + rm.slots ≤ R.slots)
    (k : ∀ v T' L, Stand p l e R s m args below meth c T' (locs ++ L) (cells + rm.cells) (slots + rm.slots) → Qc v T'.heap L → own_Go p e below s Q kc ks T' (mkF m (pc + 3) Ls (v.toList ++ rest))) : own_Go p e below s Q kc ks T (mkF m pc Ls stk) := by
  obtain ⟨cq, q1, q2⟩ := E.cell
  have hpr : s.PrivateAt y := Cond.privateMethod_at (mvP hZ w5 (args := #[]))
  have wi' : (Cond.instantiable y.cls kk).before args s = true := mvT hZ wi
  obtain ⟨ci, ki, i1, i2, -, i4, -⟩ := Cond.instantiable_spec wi'
  have hsel : (Cond.selects y.cls y y).before args s = true := selects_self_of_private i1 i2 (by cases hb : ki.isInterface <;> simp [hb] at i4 ⊢) hpr (mvT hZ w6) hy
  obtain ⟨v, _, ⟨T', L', k', n'⟩, -, X', ⟨L, hQ, e1, e2, e3⟩, st⟩ := X.privateBack hx (y := y) hown (mvT hZ w1) (mvT hZ w6) hsel hpr (mvT hZ w3) hy (backOf (W := W) hM hZ w3 w4 hf hl) (g := mkF m pc Ls stk) rfl hsz (Steps.refl _) (a := a) (by rw [eT]; exact q1) q2 (argsL := argsL) (rest := rest) hlen hstk (by show 2 * 0 + _ ≤ _; omega) hd (fun _ _ => ⟨rfl, eT, hc, hs⟩)
  dsimp only at X' e1 e2 e3 st hQ
  subst e1 e2 e3
  exact own_tr st (k v T' L X' hQ)
end Own2
end Jvm.RoadKit
namespace Jvm.RoadKit
open Sem ClassFile Op Lib Jvm.Stand Jvm.Free Jvm.LawKit
section Own3
variable {p : Program} {l : Launch} {e : Env} {R : Room} {s : State} {m : MethodId} {args : Array Value} {below : List Frame} {meth : Method} {c : Code} {T T' : State} {locs : List Loc} {cells slots : Nat} {Z : State} {h h' h0 : Heap} {Q : Option Value → Heap → List Loc → Prop} {kc ks : Nat} {g g' : JFrame} {a0 : Array Value} {pc : Nat} {Ls : Array Slot} {rest : List Value} {a b : Addr} {n0 : Nat} {ty : FieldType} {vs : List Value} {C : String} {sl : Nat} {v : Value} {ws : List Addr}
theorem own_initR (X : Stand p l e R s m args below meth c T locs cells slots) (hx : p.tables.exec = Jvm.exec) (hZ : Z.Warmed39 s.vm) {own : String} {index : Nat} (hown : s.vm.findClass own = some m.cls) {y : MethodName} {bytes : ByteArray} {maxL : Nat} {rm : Room} {argsL : List Value} {Qc : Option Value → Heap → List Loc → Prop}
    (hM : MetFree l y (head1 [Cond.code y bytes maxL none] rm) (fun a' U => a' = (.ref a :: argsL).toArray ∧ Z.Warmed39 U.vm ∧ U.heap = h) (fun _ _ _ _ _ => True) (fun _ U o U' => ∃ v L, o = .returned v ∧ Qc v U'.heap L ∧ FrameEnd U o U' L rm.cells rm.slots))
    (hy1 : y.name = "<init>") (w1 : (Cond.methodRef own index y).before a0 Z = true) (w2 : (Cond.instanceMethod y).before a0 Z = true) (w3 : (Cond.code y bytes maxL none).before a0 Z = true) (w4 : (Cond.initialized y.cls).before a0 Z = true) (hy : y.cls ≠ "java/lang/invoke/MethodHandle" ∧ y.cls ≠ "java/lang/invoke/VarHandle")
    (eT : T.heap = h) (hd : decode c.code pc = .ok (.invokespecial index, 3)) (hsz : Ls.size = c.maxLocals) {stk : List Value} (hstk : stk = argsL.reverse ++ .ref a :: rest) (hlen : ∀ sig, parseMethodDescriptor y.desc = some sig → argsL.length = sig.parameters.length) (hf : rm.frames + 1 ≤ R.frames) {W : Nat} (hW : (rest.map fun v => v.category).sum ≤ W) (hl : W + (maxL + 11) + rm.locals ≤ R.locals) (hc : cells + rm.cells ≤ R.cells) (hs : slots + rm.slots ≤ R.slots)
    (k : ∀ v T' L, Stand p l e R s m args below meth c T' (locs ++ L) (cells + rm.cells) (slots + rm.slots) → Qc v T'.heap L → own_Go p e below s Q kc ks T' (mkF m (pc + 3) Ls (v.toList ++ rest))) : own_Go p e below s Q kc ks T (mkF m pc Ls stk) := by
  have hZT : Z.Warmed39 T.vm := wtrans hZ X.warmed
  have i2 : (Cond.instanceMethod y).before args T = true := mv (s := T) hZT w2
  obtain ⟨mk, methM, hnamed, hmethM, hstM, habM⟩ := Cond.instanceMethod_spec i2
  have i3 : (Cond.code y bytes maxL none).before args T = true := mv (s := T) hZT w3
  obtain ⟨methM', cM, hmethM', -, -, -, -, -, -, hsigM⟩ := Cond.code_spec hnamed i3
  cases hmethM.symm.trans hmethM'
  obtain ⟨kO, hkO, hnameO⟩ := className_of_methodNamed hnamed
  obtain ⟨hnameMO, hdescO⟩ := name_of_methodNamed hnamed hmethM
  obtain ⟨mZ, hnZ⟩ := Cond.code_named w3
  have r1 := Cond.methodRef_warmed39 hZT hnZ hy w1
  have hownT : (Z.setVm T.vm).vm.findClass own = some m.cls := by show T.vm.findClass own = _; rw [X.warmed.alike.findClass]; exact hown
  obtain ⟨m1, c1, f1, hready, f3, hnr⟩ := Cond.methodRef_named e hownT r1
  have hnamed' : (Z.setVm T.vm).methodNamed? y = some mk := hnamed
  have f4 := State.methodFound?_of_named hnamed' hy
  cases f1.symm.trans f4
  have f5 : (Z.setVm T.vm).vm.findClass y.cls = some mk.cls := findClass_of_methodNamed hnamed'
  cases f3.symm.trans f5
  have hfound : lookupSpecial T.vm mk.cls "<init>" methM.desc = .method mk := by
    rw [hdescO, ← hy1]; exact lookupSpecial_of_named hnamed hmethM hstM
  have hname : methM.name = "<init>" := by rw [hnameMO]; exact hy1
  obtain ⟨v, ⟨T', L', k', n'⟩, X', ⟨L, hQ, e1, e2, e3⟩, hsteps⟩ := (backOf (W := W) (len := 3) hM hZ w3 w4 hf hl : Back l R p e below s args y 3 W _ _) m meth c ⟨T, locs, cells, slots⟩ (mkF m pc Ls rest) (.invokespecial index) mk (.ref a :: argsL).toArray X rfl hsz hd (by show 2 * 0 + (rest.map fun v => v.category).sum ≤ W; omega) hnamed ⟨rfl, eT, hc, hs⟩
  dsimp only at X' e1 e2 e3 hsteps hQ
  subst e1 e2 e3
  refine own_tr (T' := T') (g' := mkF m (pc + 3) Ls (v.toList ++ rest)) ?_ (k v T' L X' hQ)
  show Steps p.tables e below (T.setTop { method := m, pc := pc, locals := Ls, stack := stk, locked := none }) _
  jvm_step X.here [hx, hd, invokespecial.wp_init (e := e) (s := T) (k := kO) (meth := methM) (m := mk) (a := a) (args := argsL) (rest := rest) (f := mkF m pc Ls stk) X.here.top hnr hready hkO hmethM hname hstM habM hfound (hlen _ hsigM) hstk]
  first | exact hsteps | (intro acts; rw [doInvoke_state]; exact hsteps)
theorem own_exs (E : Exa Z h a C) : ∀ cell : Cell, h[a]? = some cell → cell.vm.isStatics = false := fun cell hc => by
  obtain ⟨c1, _, h1, -, -, h4, -⟩ := E
  cases h1.symm.trans hc; exact h4
theorem own_Sta_keep {n d : String} (F : Sta Z h C n d v) (K : Keep h h' ws) (q : ∀ x ∈ ws, ∀ cell : Cell, h[x]? = some cell → cell.vm.isStatics = false) : Sta Z h' C n d v := by
  obtain ⟨cf, i, k, f, st, cell, h1, h2, h3, h4, h5, h6, h7⟩ := F
  refine ⟨cf, i, k, f, st, cell, h1, h2, h3, h4, K.2.1 _ _ h5 (fun hm => ?_), h6, h7⟩
  rw [q st hm cell h5] at h6; cases h6
theorem own_maxd (X : Stand p l e R s m args below meth c T locs cells slots) (hx : p.tables.exec = Jvm.exec) (hZ : Z.Warmed39 s.vm) {own : String} {index : Nat} (hown : s.vm.findClass own = some m.cls)
    (w1 : (Cond.methodLink own index Jvm.Free.Fl.Abs.maxDN).before a0 Z = true) (w2 : (Cond.static Jvm.Free.Fl.Abs.maxDN).before a0 Z = true) (w3 : (Cond.initialized "java/lang/Math").before a0 Z = true) (w4 : (Cond.code Jvm.Free.Fl.Abs.maxDN Jvm.Free.Fl.Abs.maxDCode 4 (some .double)).before a0 Z = true)
    (eT : T.heap = h) (hd : decode c.code pc = .ok (.invokestatic index, 3)) (hsz : Ls.size = c.maxLocals) {x y r : UInt64} (ha : Jvm.Free.Fl.NoNaN64 x) (hb : Jvm.Free.Fl.NoNaN64 y) (hr : Native.java_lang_Math.nans.pick64 true x y = r) (hf : 1 ≤ R.frames) {W : Nat} (hW : (rest.map fun v => v.category).sum ≤ W) (hl : W + 15 ≤ R.locals) (hc : cells ≤ R.cells) (hs : slots ≤ R.slots)
    (k : ∀ T', Stand p l e R s m args below meth c T' locs cells slots → T'.heap = h → own_Go p e below s Q kc ks T' (mkF m (pc + 3) Ls (.double r :: rest))) : own_Go p e below s Q kc ks T (mkF m pc Ls (.double y :: .double x :: rest)) := by
  have hlen : ∀ sig, parseMethodDescriptor Jvm.Free.Fl.Abs.maxDN.desc = some sig → ([.double x, .double y] : List Value).length = sig.parameters.length := lenOf (d := "(DD)D") (ps := [.double, .double]) (r := some .double) (by decide) rfl
  obtain ⟨T', X', e', st⟩ := natS X hx hZ (y := Jvm.Free.Fl.Abs.maxDN) hown w1 w2 w3 w4 (by decide) eT (W := W) (fun q => Jvm.Free.Fl.Abs.maxD_pays x y q hf hl) (g := mkF m pc Ls (.double y :: .double x :: rest)) rfl hsz (argsL := [.double x, .double y]) (rest := rest) hlen rfl (by show 2 * 0 + _ ≤ _; omega) hd hc hs ⟨rfl, ha, hb⟩ (congrArg Value.double hr)
  exact own_pre st (k T' X' e')
end Own3
end Jvm.RoadKit
namespace Jvm.Pilot.@@N@@
open Jvm Jvm.ClassFile Sem Op Lib Jvm.Free Jvm.Stand Jvm.LawKit Jvm.RoadKit Bundle Jvm.Pilot.@@N@@.Jvm.D
theorem own_w {a0 : Array Value} {Z : State} (hw : ∀ d ∈ tables_1, d.before a0 Z = true) (i : Nat) {d : Jvm.Cond} (h : tables_1[i]? = some d) : d.before a0 Z = true := hw _ (List.mem_of_getElem? h)
theorem own_sne {Z : State} {a0 : Array Value} {C O n d O' n' d' : String} {t t' : FieldType} (L : Laid Z a0 C O n d ∧ parseFieldDescriptor d = some t) (L' : Laid Z a0 C O' n' d' ∧ parseFieldDescriptor d' = some t') (hn : n ≠ n') : Jvm.RoadKit.slotOf Z O n d ≠ Jvm.RoadKit.slotOf Z O' n' d' := slot_ne L.1 L'.1 hn L.2 L'.2
abbrev own_rD (n : Nat) : List Value := List.replicate n (.double (0 : UInt64))
abbrev own_rI (n : Nat) : List Value := List.replicate n (.int (0 : Int32))
abbrev own_rJ (n : Nat) : List Value := List.replicate n (.long (0 : Int64))
abbrev own_rN (n : Nat) : List Value := List.replicate n .null
abbrev own_k0 : String := "com/example/rankline/rankline/Extent"
abbrev own_k1 : String := "com/example/rankline/rankline/Extent$Cover"
abbrev own_k2 : String := "(Lcom/example/rankline/rankline/Extent;)Lcom/example/rankline/rankline/Extent;"
abbrev own_k3 : String := "(DDD)Lcom/example/rankline/rankline/Extent;"
theorem own_mask {y z : Int32} (h : (y &&& (65535 : Int32)) = z) : 0 ≤ z.toInt ∧ z.toInt ≤ 65535 := by
  have m0 := c_mask y 65535 16 (by decide) (by decide)
  rw [h] at m0
  omega
theorem own_compare (i j : Int) : compare i j = if i < j then .lt else if i = j then .eq else .gt := rfl
theorem own_pickL {i j : Int} {a b : UInt64} (ha : FP.Core.DInt i a) (hb : FP.Core.DInt j b) (h : j ≤ i) : FP.Core.DInt i (Native.java_lang_Math.nans.pick64 true a b) := by
  unfold Native.java_lang_Math.nans.pick64
  rw [show FP.dcmp a b = some (compare i j) from FP.Core.dcmp_int ha hb, own_compare]
  by_cases e : i = j
  · subst e
    rw [if_neg (by omega), if_pos rfl]
    dsimp only
    split
    · exact hb
    · exact ha
  · rw [if_neg (by omega), if_neg e]
    exact ha
theorem own_pickR {i j : Int} {a b : UInt64} (ha : FP.Core.DInt i a) (hb : FP.Core.DInt j b) (h : i < j) : FP.Core.DInt j (Native.java_lang_Math.nans.pick64 true a b) := by
  unfold Native.java_lang_Math.nans.pick64
  rw [show FP.dcmp a b = some (compare i j) from FP.Core.dcmp_int ha hb, own_compare, if_pos h]
  exact hb
theorem own_fldD {Z : State} {args : Array Value} {a : Addr} {C n d : String} {t : Jvm.Term} {k : Int64} (et : t.eval args Z none [] Z = some (.ref a)) (h : (Jvm.Cond.eq (Jvm.Term.field t C n d) (Jvm.Term.op1 Jvm.Unary.bitsD (Jvm.Term.long k))).value args Z none Z [] = some true) : Fld Z Z.heap a C n d (.double k.toUInt64) := by
  apply Fld.start
  have hb : (Jvm.Term.op1 Jvm.Unary.bitsD (Jvm.Term.long k)).eval args Z none [] Z = some (.double k.toUInt64) := rfl
  simp only [Cond.value, hb] at h
  have hf : (Jvm.Term.field t C n d).eval args Z none [] Z = Z.fieldOf? a C n d := by
    simp only [Jvm.Term.eval, et]
    rfl
  rw [hf] at h
  cases hv : Z.fieldOf? a C n d with
  | none => simp [hv] at h
  | some v => cases v <;> simp_all

theorem d4_0 : decode prog_16_method_4_code 0 = .ok (.aload_n 0, 1) := by decide +kernel
theorem d4_1 : decode prog_16_method_4_code 1 = .ok (.getfield 13, 3) := by decide +kernel
theorem d4_4 : decode prog_16_method_4_code 4 = .ok (.aload_n 0, 1) := by decide +kernel
theorem d4_5 : decode prog_16_method_4_code 5 = .ok (.getfield 16, 3) := by decide +kernel
theorem d4_8 : decode prog_16_method_4_code 8 = .ok (.dcmp .g, 1) := by decide +kernel
theorem d4_9 : decode prog_16_method_4_code 9 = .ok (.ifCond .ge 7, 3) := by decide +kernel
theorem d4_12 : decode prog_16_method_4_code 12 = .ok (.iconst 1, 1) := by decide +kernel
theorem d4_13 : decode prog_16_method_4_code 13 = .ok (.goto 4, 3) := by decide +kernel
theorem d4_16 : decode prog_16_method_4_code 16 = .ok (.iconst 0, 1) := by decide +kernel
theorem d4_17 : decode prog_16_method_4_code 17 = .ok (.ireturn, 1) := by decide +kernel
theorem own_pn0 : plainName "com/example/rankline/rankline/Extent" = true := by first | (simp [plainName, overriddenIn]; done) | decide +kernel
def own_gapT_Q (Z : State) (o : Addr) (ga gb : UInt64) (ia ib : Int) (h0 : Heap) (n0 : Nat) (v_ : Option Value) (h_ : Heap) (L_ : List Loc) : Prop := (fun v h L => v = some (.int (if ia < ib then 1 else 0)) ∧ Fr n0 L ∧ h = h0) v_ h_ L_
set_option maxRecDepth 65536 in
set_option maxHeartbeats 40000000 in
theorem own_gapT (l : Launch) (Z : State) (a0 : Array Value) (hw : ∀ d ∈ tables_1, d.before a0 Z = true) (wds : List Jvm.Cond) (o : Addr) (ga gb : UInt64) (ia ib : Int) (h0 : Heap) (n0 : Nat) (Z0 : n0 ≤ h0.size) (F1 : Fld Z h0 o own_k0 "gapLow" "D" (.double ga)) (F2 : Fld Z h0 o own_k0 "gapHigh" "D" (.double gb)) (D1 : FP.Core.DInt ia ga) (D2 : FP.Core.DInt ib gb) :
    MetFree l (⟨own_k0, "hasGap", "()Z"⟩ : MethodName) (head1 (Jvm.Cond.code (⟨own_k0, "hasGap", "()Z"⟩ : MethodName) prog_16_method_4_code 1 (some .boolean) :: wds) ({ frames := 0, cells := 0, slots := 0, locals := 0 } : Room)) (fun ar_ U_ => ar_ = #[(.ref o)] ∧ Z.Warmed39 U_.vm ∧ U_.heap = h0) (fun _ _ _ _ _ => True) (fun _ U_ o_ V_ => ∃ v_ L_, o_ = .returned v_ ∧ own_gapT_Q Z o ga gb ia ib h0 n0 v_ V_.heap L_ ∧ FrameEnd U_ o_ V_ L_ ({ frames := 0, cells := 0, slots := 0, locals := 0 } : Room).cells ({ frames := 0, cells := 0, slots := 0, locals := 0 } : Room).slots) := by
  refine own_met (y := ⟨own_k0, "hasGap", "()Z"⟩) (Q := own_gapT_Q Z o ga gb ia ib h0 n0) own_pn0 ?_
  intro p e s m below meth c s₁ hx hby hml hZ hown hnm hret hlk X0 e0
  have N0 := Fr.nil n0
  refine own_cast (g' := (mkF m 0 #[.val (.ref o)] [])) (by first | (simp [entryFrame, mkF, argsToLocals, Value.category]; done) | rfl) ?_
  refine own_alN (w := (.ref o)) X0 hx (hb hby d4_0) rfl rfl ?_
  refine own_getf X0 hx hZ hown (own_w hw 18 rfl) e0 F1 (hb hby d4_1) ?_
  intro T1 X1 e1
  show own_Go _ _ _ _ _ _ _ T1 (mkF m 4 #[.val (.ref o)] [(.double ga)])
  refine own_alN (w := (.ref o)) X1 hx (hb hby d4_4) rfl rfl ?_
  refine own_getf X1 hx hZ hown (own_w hw 20 rfl) e1 F2 (hb hby d4_5) ?_
  intro T2 X2 e2
  show own_Go _ _ _ _ _ _ _ T2 (mkF m 8 #[.val (.ref o)] [(.double gb), (.double ga)])
  obtain ⟨k3, hk3⟩ : ∃ z, own_c ia ib = z := ⟨_, rfl⟩
  refine own_pre (g' := (mkF m 9 #[.val (.ref o)] [(.int k3)])) (fun t k => XS.dcmpS X2.here hx rfl (hb hby d4_8) rfl ((own_dcmp D1 D2 _).trans hk3) k) ?_
  by_cases hlt : k3 < (0 : Int32)
  · skip
    refine own_pre (g' := (mkF m 12 #[.val (.ref o)] [])) (fun t k => XS.ifNo X2.here hx rfl (hb hby d4_9) rfl ((if0 _ _).trans (tlt hlt).2.1) k) ?_
    refine own_ic X2 hx (1 : Int32) (hb hby d4_12) rfl ?_
    refine own_gt X2 hx 17 (hb hby d4_13) (by decide) (by decide) ?_
    have hq :  ia < ib := (own_c_lt ia ib).mp (hk3 ▸ hlt)
    exact own_retZ X2 hx hlk hret rfl (hb hby d4_17) e2 ⟨by rw [if_pos hq], N0, rfl⟩ (by decide) (by decide)
  · skip
    refine own_pre (g' := (mkF m 16 #[.val (.ref o)] [])) (fun t k => XS.ifYes X2.here hx rfl (pc0 := 9) (pc' := 16) rfl (hb hby d4_9) rfl ((if0 _ _).trans (flt hlt).2.1) (by decide) (by decide) k) ?_
    refine own_ic X2 hx (0 : Int32) (hb hby d4_16) rfl ?_
    have hq : ¬ ia < ib := fun z => hlt (hk3 ▸ (own_c_lt ia ib).mpr z)
    exact own_retZ X2 hx hlk hret rfl (hb hby d4_17) e2 ⟨by rw [if_neg hq], N0, rfl⟩ (by decide) (by decide)
theorem own_pn1 : plainName "com/example/rankline/rankline/ExtentHasGapPinLaw" = true := by first | (simp [plainName, overriddenIn]; done) | decide +kernel
theorem d1_0 : decode prog_16_method_1_code 0 = .ok (.aload_n 0, 1) := by decide +kernel
theorem d1_1 : decode prog_16_method_1_code 1 = .ok (.invokespecial 1, 3) := by decide +kernel
theorem d1_4 : decode prog_16_method_1_code 4 = .ok (.aload_n 0, 1) := by decide +kernel
theorem d1_5 : decode prog_16_method_1_code 5 = .ok (.dload_n 1, 1) := by decide +kernel
theorem d1_6 : decode prog_16_method_1_code 6 = .ok (.putfield 7, 3) := by decide +kernel
theorem d1_9 : decode prog_16_method_1_code 9 = .ok (.aload_n 0, 1) := by decide +kernel
theorem d1_10 : decode prog_16_method_1_code 10 = .ok (.dload_n 3, 1) := by decide +kernel
theorem d1_11 : decode prog_16_method_1_code 11 = .ok (.putfield 13, 3) := by decide +kernel
theorem d1_14 : decode prog_16_method_1_code 14 = .ok (.aload_n 0, 1) := by decide +kernel
theorem d1_15 : decode prog_16_method_1_code 15 = .ok (.dload 5, 2) := by decide +kernel
theorem d1_17 : decode prog_16_method_1_code 17 = .ok (.putfield 16, 3) := by decide +kernel
theorem d1_20 : decode prog_16_method_1_code 20 = .ok (.aload_n 0, 1) := by decide +kernel
theorem d1_21 : decode prog_16_method_1_code 21 = .ok (.dload 7, 2) := by decide +kernel
theorem d1_23 : decode prog_16_method_1_code 23 = .ok (.putfield 19, 3) := by decide +kernel
theorem d1_26 : decode prog_16_method_1_code 26 = .ok (.aload_n 0, 1) := by decide +kernel
theorem d1_27 : decode prog_16_method_1_code 27 = .ok (.dload 9, 2) := by decide +kernel
theorem d1_29 : decode prog_16_method_1_code 29 = .ok (.putfield 22, 3) := by decide +kernel
theorem d1_32 : decode prog_16_method_1_code 32 = .ok (.aload_n 0, 1) := by decide +kernel
theorem d1_33 : decode prog_16_method_1_code 33 = .ok (.dload 11, 2) := by decide +kernel
theorem d1_35 : decode prog_16_method_1_code 35 = .ok (.putfield 25, 3) := by decide +kernel
theorem d1_38 : decode prog_16_method_1_code 38 = .ok (.return_, 1) := by decide +kernel
theorem d2_0 : decode jdk_30_method_1_code 0 = .ok (.aload_n 0, 1) := by decide +kernel
theorem d2_1 : decode jdk_30_method_1_code 1 = .ok (.invokespecial 1, 3) := by decide +kernel
theorem d2_4 : decode jdk_30_method_1_code 4 = .ok (.return_, 1) := by decide +kernel
theorem own_pn2 : plainName "java/lang/Record" = true := by first | (simp [plainName, overriddenIn]; done) | decide +kernel
def own_s2_Q (Z : State) (a19 : Addr) (h0 : Heap) (n0 : Nat) (v_ : Option Value) (h_ : Heap) (L_ : List Loc) : Prop := (fun v h L => v = none ∧ Fr n0 L ∧ h = h0) v_ h_ L_
set_option maxRecDepth 65536 in
set_option maxHeartbeats 40000000 in
theorem own_s2 (l : Launch) (Z : State) (a0 : Array Value) (hw : ∀ d ∈ tables_1, d.before a0 Z = true) (wds : List Jvm.Cond) (a19 : Addr) (h0 : Heap) (n0 : Nat) (Z0 : n0 ≤ h0.size)  :
    MetFree l (⟨"java/lang/Record", "<init>", "()V"⟩ : MethodName) (head1 (Jvm.Cond.code (⟨"java/lang/Record", "<init>", "()V"⟩ : MethodName) jdk_30_method_1_code 1 none :: wds) ({ frames := 1, cells := 0, slots := 0, locals := 12 } : Room)) (fun ar_ U_ => ar_ = #[(.ref a19)] ∧ Z.Warmed39 U_.vm ∧ U_.heap = h0) (fun _ _ _ _ _ => True) (fun _ U_ o_ V_ => ∃ v_ L_, o_ = .returned v_ ∧ own_s2_Q Z a19 h0 n0 v_ V_.heap L_ ∧ FrameEnd U_ o_ V_ L_ ({ frames := 1, cells := 0, slots := 0, locals := 12 } : Room).cells ({ frames := 1, cells := 0, slots := 0, locals := 12 } : Room).slots) := by
  refine own_met (y := ⟨"java/lang/Record", "<init>", "()V"⟩) (Q := own_s2_Q Z a19 h0 n0) own_pn2 ?_
  intro p e s m below meth c s₁ hx hby hml hZ hown hnm hret hlk X0 e0
  have N0 := Fr.nil n0
  refine own_cast (g' := (mkF m 0 #[.val (.ref a19)] [])) (by first | (simp [entryFrame, mkF, argsToLocals, Value.category]; done) | rfl) ?_
  refine own_alN (w := (.ref a19)) X0 hx (hb hby d2_0) rfl rfl ?_
  refine own_init0 X0 hx hZ hown (own_w hw 13 rfl) (own_w hw 14 rfl) (own_w hw 15 rfl) e0 (hb hby d2_1) (by rw [hml]; rfl) (by decide) (W := 0) (Nat.le_of_eq rfl) (by decide) ?_
  intro T33 X33 e33
  show own_Go _ _ _ _ _ _ _ T33 (mkF m 4 #[.val (.ref a19)] [])
  exact own_ret0 X33 hx hlk hret (hb hby d2_4) e33 ⟨rfl, N0, rfl⟩ (by decide) (by decide)
theorem own_pd0 : parseMethodDescriptor "()V" = some ⟨[], none⟩ := by decide +kernel
theorem own_f0 {a0 : Array Value} {Z : State} (hw : ∀ d ∈ tables_1, d.before a0 Z = true) : Laid Z a0 own_k0 own_k0 "gapLow" "D" ∧ parseFieldDescriptor "D" = some .double := ⟨(Or.inr (own_w hw 19 rfl)), by decide⟩
theorem own_f1 {a0 : Array Value} {Z : State} (hw : ∀ d ∈ tables_1, d.before a0 Z = true) : Laid Z a0 own_k0 own_k0 "low" "D" ∧ parseFieldDescriptor "D" = some .double := ⟨(Or.inr (own_w hw 17 rfl)), by decide⟩
theorem own_f2 {a0 : Array Value} {Z : State} (hw : ∀ d ∈ tables_1, d.before a0 Z = true) : Laid Z a0 own_k0 own_k0 "gapHigh" "D" ∧ parseFieldDescriptor "D" = some .double := ⟨(Or.inr (own_w hw 21 rfl)), by decide⟩
theorem own_f3 {a0 : Array Value} {Z : State} (hw : ∀ d ∈ tables_1, d.before a0 Z = true) : Laid Z a0 own_k0 own_k0 "high" "D" ∧ parseFieldDescriptor "D" = some .double := ⟨(Or.inr (own_w hw 23 rfl)), by decide⟩
theorem own_f4 {a0 : Array Value} {Z : State} (hw : ∀ d ∈ tables_1, d.before a0 Z = true) : Laid Z a0 own_k0 own_k0 "below" "D" ∧ parseFieldDescriptor "D" = some .double := ⟨(Or.inr (own_w hw 25 rfl)), by decide⟩
theorem own_f5 {a0 : Array Value} {Z : State} (hw : ∀ d ∈ tables_1, d.before a0 Z = true) : Laid Z a0 own_k0 own_k0 "count" "D" ∧ parseFieldDescriptor "D" = some .double := ⟨(Or.inr (own_w hw 27 rfl)), by decide⟩
def own_s1_Q (Z : State) (a19 : Addr) (f5 : UInt64) (f9 : UInt64) (f13 : UInt64) (f17 : UInt64) (h0 : Heap) (n0 : Nat) (v_ : Option Value) (h_ : Heap) (L_ : List Loc) : Prop := (fun v h L => v = none ∧ Fr n0 L ∧ Keep h0 h [a19] ∧ Fld Z h a19 own_k0 "low" "D" (.double f5) ∧ Fld Z h a19 own_k0 "gapLow" "D" (.double f9) ∧ Fld Z h a19 own_k0 "gapHigh" "D" (.double f13) ∧ Fld Z h a19 own_k0 "high" "D" (.double f17) ∧ Fld Z h a19 own_k0 "below" "D" (.double (4607182418800017408 : UInt64)) ∧ Fld Z h a19 own_k0 "count" "D" (.double (4611686018427387904 : UInt64))) v_ h_ L_
set_option maxRecDepth 65536 in
set_option maxHeartbeats 40000000 in
theorem own_s1 (l : Launch) (Z : State) (a0 : Array Value) (hw : ∀ d ∈ tables_1, d.before a0 Z = true) (wds : List Jvm.Cond) (a19 : Addr) (f5 : UInt64) (f9 : UInt64) (f13 : UInt64) (f17 : UInt64) (h0 : Heap) (n0 : Nat) (Z0 : n0 ≤ h0.size) (H5 : Exa Z h0 a19 own_k0) (H6 : Fld Z h0 a19 own_k0 "low" "D" (.double (0 : UInt64))) (H7 : Fld Z h0 a19 own_k0 "gapLow" "D" (.double (0 : UInt64))) (H8 : Fld Z h0 a19 own_k0 "gapHigh" "D" (.double (0 : UInt64))) (H9 : Fld Z h0 a19 own_k0 "high" "D" (.double (0 : UInt64))) (H10 : Fld Z h0 a19 own_k0 "below" "D" (.double (0 : UInt64))) (H11 : Fld Z h0 a19 own_k0 "count" "D" (.double (0 : UInt64))) (H13 : n0 ≤ a19) :
    MetFree l (⟨own_k0, "<init>", "(DDDDDD)V"⟩ : MethodName) (head1 (Jvm.Cond.code (⟨own_k0, "<init>", "(DDDDDD)V"⟩ : MethodName) prog_16_method_1_code 13 none :: wds) ({ frames := 2, cells := 0, slots := 0, locals := 24 } : Room)) (fun ar_ U_ => ar_ = #[(.ref a19), (.double f5), (.double f9), (.double f13), (.double f17), (.double (4607182418800017408 : UInt64)), (.double (4611686018427387904 : UInt64))] ∧ Z.Warmed39 U_.vm ∧ U_.heap = h0) (fun _ _ _ _ _ => True) (fun _ U_ o_ V_ => ∃ v_ L_, o_ = .returned v_ ∧ own_s1_Q Z a19 f5 f9 f13 f17 h0 n0 v_ V_.heap L_ ∧ FrameEnd U_ o_ V_ L_ ({ frames := 2, cells := 0, slots := 0, locals := 24 } : Room).cells ({ frames := 2, cells := 0, slots := 0, locals := 24 } : Room).slots) := by
  refine own_met (y := ⟨own_k0, "<init>", "(DDDDDD)V"⟩) (Q := own_s1_Q Z a19 f5 f9 f13 f17 h0 n0) own_pn0 ?_
  intro p e s m below meth c s₁ hx hby hml hZ hown hnm hret hlk X0 e0
  have N0 := Fr.nil n0
  refine own_cast (g' := (mkF m 0 #[.val (.ref a19), .val (.double f5), .second, .val (.double f9), .second, .val (.double f13), .second, .val (.double f17), .second, .val (.double (4607182418800017408 : UInt64)), .second, .val (.double (4611686018427387904 : UInt64)), .second] [])) (by first | (simp [entryFrame, mkF, argsToLocals, Value.category]; done) | rfl) ?_
  generalize hL28 : (#[.val (.ref a19), .val (.double f5), .second, .val (.double f9), .second, .val (.double f13), .second, .val (.double f17), .second, .val (.double (4607182418800017408 : UInt64)), .second, .val (.double (4611686018427387904 : UInt64)), .second] : Array Slot) = L28
  refine own_alN (w := (.ref a19)) X0 hx (hb hby d1_0) (by rw [← hL28]; rfl) rfl ?_
  refine own_init (a := a19) (argsL := []) (rest := []) X0 hx hZ hown (own_s2 l Z a0 hw [] a19 h0 n0 Z0 ) rfl (own_w hw 8 rfl) (own_w hw 9 rfl) (own_w hw 12 rfl) (own_w hw 11 rfl) (by decide) e0 (hb hby d1_1) (by rw [hml, ← hL28]; rfl) rfl (lenOf own_pd0 rfl) (by decide) (W := 0) (Nat.le_of_eq rfl) (by decide) (by decide) (by decide) ?_
  intro v34 T34 lo34 X34 Q34
  obtain ⟨h34, e34⟩ : ∃ h, T34.heap = h := ⟨_, rfl⟩
  rw [e34] at Q34
  obtain ⟨rfl, N34, K34⟩ := Q34
  have N34' := Fr.app N0 N34
  have e34' : T34.heap = h0 := e34.trans K34
  show own_Go _ _ _ _ _ _ _ T34 (mkF m 4 L28 [])
  refine own_alN (w := (.ref a19)) X34 hx (hb hby d1_4) (by rw [← hL28]; rfl) rfl ?_
  refine own_dlN (w := f5) X34 hx (hb hby d1_5) (by rw [← hL28]; rfl) ?_
  refine own_putf X34 hx hZ hown (own_w hw 16 rfl) e34' N34' H13 H6 H5 (Or.inr ⟨(own_w hw 17 rfl), rfl, hnm⟩) (own_w hw 2 rfl) (ty := .double) (by decide) rfl rfl (hb hby d1_6) ?_
  intro T35 h35 lo35 X35 e35 N35 W35
  have F36 := H6.same W35
  show own_Go _ _ _ _ _ _ _ T35 (mkF m 9 L28 [])
  refine own_alN (w := (.ref a19)) X35 hx (hb hby d1_9) (by rw [← hL28]; rfl) rfl ?_
  refine own_dlN (w := f9) X35 hx (hb hby d1_10) (by rw [← hL28]; rfl) ?_
  have F37 := (H7.other W35 (Or.inr (own_sne (own_f0 hw) (own_f1 hw) (by decide))))
  have F38 := (H5.wr W35)
  refine own_putf X35 hx hZ hown (own_w hw 18 rfl) e35 N35 H13 F37 F38 (Or.inr ⟨(own_w hw 19 rfl), rfl, hnm⟩) (own_w hw 2 rfl) (ty := .double) (by decide) rfl rfl (hb hby d1_11) ?_
  intro T39 h39 lo39 X39 e39 N39 W39
  have F40 := F37.same W39
  show own_Go _ _ _ _ _ _ _ T39 (mkF m 14 L28 [])
  refine own_alN (w := (.ref a19)) X39 hx (hb hby d1_14) (by rw [← hL28]; rfl) rfl ?_
  refine own_dl (w := f13) X39 hx (hb hby d1_15) (by rw [← hL28]; rfl) ?_
  have F41 := ((H8.other W35 (Or.inr (own_sne (own_f2 hw) (own_f1 hw) (by decide)))).other W39 (Or.inr (own_sne (own_f2 hw) (own_f0 hw) (by decide))))
  have F42 := (F38.wr W39)
  refine own_putf X39 hx hZ hown (own_w hw 20 rfl) e39 N39 H13 F41 F42 (Or.inr ⟨(own_w hw 21 rfl), rfl, hnm⟩) (own_w hw 2 rfl) (ty := .double) (by decide) rfl rfl (hb hby d1_17) ?_
  intro T43 h43 lo43 X43 e43 N43 W43
  have F44 := F41.same W43
  show own_Go _ _ _ _ _ _ _ T43 (mkF m 20 L28 [])
  refine own_alN (w := (.ref a19)) X43 hx (hb hby d1_20) (by rw [← hL28]; rfl) rfl ?_
  refine own_dl (w := f17) X43 hx (hb hby d1_21) (by rw [← hL28]; rfl) ?_
  have F45 := (((H9.other W35 (Or.inr (own_sne (own_f3 hw) (own_f1 hw) (by decide)))).other W39 (Or.inr (own_sne (own_f3 hw) (own_f0 hw) (by decide)))).other W43 (Or.inr (own_sne (own_f3 hw) (own_f2 hw) (by decide))))
  have F46 := (F42.wr W43)
  refine own_putf X43 hx hZ hown (own_w hw 22 rfl) e43 N43 H13 F45 F46 (Or.inr ⟨(own_w hw 23 rfl), rfl, hnm⟩) (own_w hw 2 rfl) (ty := .double) (by decide) rfl rfl (hb hby d1_23) ?_
  intro T47 h47 lo47 X47 e47 N47 W47
  have F48 := F45.same W47
  show own_Go _ _ _ _ _ _ _ T47 (mkF m 26 L28 [])
  refine own_alN (w := (.ref a19)) X47 hx (hb hby d1_26) (by rw [← hL28]; rfl) rfl ?_
  refine own_dl (w := (4607182418800017408 : UInt64)) X47 hx (hb hby d1_27) (by rw [← hL28]; rfl) ?_
  have F49 := ((((H10.other W35 (Or.inr (own_sne (own_f4 hw) (own_f1 hw) (by decide)))).other W39 (Or.inr (own_sne (own_f4 hw) (own_f0 hw) (by decide)))).other W43 (Or.inr (own_sne (own_f4 hw) (own_f2 hw) (by decide)))).other W47 (Or.inr (own_sne (own_f4 hw) (own_f3 hw) (by decide))))
  have F50 := (F46.wr W47)
  refine own_putf X47 hx hZ hown (own_w hw 24 rfl) e47 N47 H13 F49 F50 (Or.inr ⟨(own_w hw 25 rfl), rfl, hnm⟩) (own_w hw 2 rfl) (ty := .double) (by decide) rfl rfl (hb hby d1_29) ?_
  intro T51 h51 lo51 X51 e51 N51 W51
  have F52 := F49.same W51
  show own_Go _ _ _ _ _ _ _ T51 (mkF m 32 L28 [])
  refine own_alN (w := (.ref a19)) X51 hx (hb hby d1_32) (by rw [← hL28]; rfl) rfl ?_
  refine own_dl (w := (4611686018427387904 : UInt64)) X51 hx (hb hby d1_33) (by rw [← hL28]; rfl) ?_
  have F53 := (((((H11.other W35 (Or.inr (own_sne (own_f5 hw) (own_f1 hw) (by decide)))).other W39 (Or.inr (own_sne (own_f5 hw) (own_f0 hw) (by decide)))).other W43 (Or.inr (own_sne (own_f5 hw) (own_f2 hw) (by decide)))).other W47 (Or.inr (own_sne (own_f5 hw) (own_f3 hw) (by decide)))).other W51 (Or.inr (own_sne (own_f5 hw) (own_f4 hw) (by decide))))
  have F54 := (F50.wr W51)
  refine own_putf X51 hx hZ hown (own_w hw 26 rfl) e51 N51 H13 F53 F54 (Or.inr ⟨(own_w hw 27 rfl), rfl, hnm⟩) (own_w hw 2 rfl) (ty := .double) (by decide) rfl rfl (hb hby d1_35) ?_
  intro T55 h55 lo55 X55 e55 N55 W55
  have F56 := F53.same W55
  show own_Go _ _ _ _ _ _ _ T55 (mkF m 38 L28 [])
  have F57 := (((((F36.other W39 (Or.inr (own_sne (own_f1 hw) (own_f0 hw) (by decide)))).other W43 (Or.inr (own_sne (own_f1 hw) (own_f2 hw) (by decide)))).other W47 (Or.inr (own_sne (own_f1 hw) (own_f3 hw) (by decide)))).other W51 (Or.inr (own_sne (own_f1 hw) (own_f4 hw) (by decide)))).other W55 (Or.inr (own_sne (own_f1 hw) (own_f5 hw) (by decide))))
  have F58 := ((((F40.other W43 (Or.inr (own_sne (own_f0 hw) (own_f2 hw) (by decide)))).other W47 (Or.inr (own_sne (own_f0 hw) (own_f3 hw) (by decide)))).other W51 (Or.inr (own_sne (own_f0 hw) (own_f4 hw) (by decide)))).other W55 (Or.inr (own_sne (own_f0 hw) (own_f5 hw) (by decide))))
  have F59 := (((F44.other W47 (Or.inr (own_sne (own_f2 hw) (own_f3 hw) (by decide)))).other W51 (Or.inr (own_sne (own_f2 hw) (own_f4 hw) (by decide)))).other W55 (Or.inr (own_sne (own_f2 hw) (own_f5 hw) (by decide))))
  have F60 := ((F48.other W51 (Or.inr (own_sne (own_f3 hw) (own_f4 hw) (by decide)))).other W55 (Or.inr (own_sne (own_f3 hw) (own_f5 hw) (by decide))))
  have F61 := (F52.other W55 (Or.inr (own_sne (own_f4 hw) (own_f5 hw) (by decide))))
  exact own_ret0 X55 hx hlk hret (hb hby d1_38) e55 ⟨rfl, N55, (((((((Keep.refl _ _).wr W35 (Or.inl (by simp))).wr W39 (Or.inl (by simp))).wr W43 (Or.inl (by simp))).wr W47 (Or.inl (by simp))).wr W51 (Or.inl (by simp))).wr W55 (Or.inl (by simp))), F57, F58, F59, F60, F61, F56⟩ (by decide) (by decide)
theorem own_pd1 : parseMethodDescriptor "(DDDDDD)V" = some ⟨[.double, .double, .double, .double, .double, .double], none⟩ := by decide +kernel
theorem own_pd2 : parseMethodDescriptor "()Z" = some ⟨[], some .boolean⟩ := by decide +kernel
theorem d5_0 : decode prog_16_method_2_code 0 = .ok (.new 8, 3) := by decide +kernel
theorem d5_3 : decode prog_16_method_2_code 3 = .ok (.dup, 1) := by decide +kernel
theorem d5_4 : decode prog_16_method_2_code 4 = .ok (.dload_n 0, 1) := by decide +kernel
theorem d5_5 : decode prog_16_method_2_code 5 = .ok (.dload_n 2, 1) := by decide +kernel
theorem d5_6 : decode prog_16_method_2_code 6 = .ok (.dload_n 2, 1) := by decide +kernel
theorem d5_7 : decode prog_16_method_2_code 7 = .ok (.dload_n 2, 1) := by decide +kernel
theorem d5_8 : decode prog_16_method_2_code 8 = .ok (.dload 4, 2) := by decide +kernel
theorem d5_10 : decode prog_16_method_2_code 10 = .ok (.dload 4, 2) := by decide +kernel
theorem d5_12 : decode prog_16_method_2_code 12 = .ok (.invokespecial 28, 3) := by decide +kernel
theorem d5_15 : decode prog_16_method_2_code 15 = .ok (.areturn, 1) := by decide +kernel
def own_s5_Q (Z : State) (a80 : Addr) (h0 : Heap) (n0 : Nat) (v_ : Option Value) (h_ : Heap) (L_ : List Loc) : Prop := (fun v h L => v = none ∧ Fr n0 L ∧ h = h0) v_ h_ L_
set_option maxRecDepth 65536 in
set_option maxHeartbeats 40000000 in
theorem own_s5 (l : Launch) (Z : State) (a0 : Array Value) (hw : ∀ d ∈ tables_1, d.before a0 Z = true) (wds : List Jvm.Cond) (a80 : Addr) (h0 : Heap) (n0 : Nat) (Z0 : n0 ≤ h0.size)  :
    MetFree l (⟨"java/lang/Record", "<init>", "()V"⟩ : MethodName) (head1 (Jvm.Cond.code (⟨"java/lang/Record", "<init>", "()V"⟩ : MethodName) jdk_30_method_1_code 1 none :: wds) ({ frames := 1, cells := 0, slots := 0, locals := 12 } : Room)) (fun ar_ U_ => ar_ = #[(.ref a80)] ∧ Z.Warmed39 U_.vm ∧ U_.heap = h0) (fun _ _ _ _ _ => True) (fun _ U_ o_ V_ => ∃ v_ L_, o_ = .returned v_ ∧ own_s5_Q Z a80 h0 n0 v_ V_.heap L_ ∧ FrameEnd U_ o_ V_ L_ ({ frames := 1, cells := 0, slots := 0, locals := 12 } : Room).cells ({ frames := 1, cells := 0, slots := 0, locals := 12 } : Room).slots) := by
  refine own_met (y := ⟨"java/lang/Record", "<init>", "()V"⟩) (Q := own_s5_Q Z a80 h0 n0) own_pn2 ?_
  intro p e s m below meth c s₁ hx hby hml hZ hown hnm hret hlk X0 e0
  have N0 := Fr.nil n0
  refine own_cast (g' := (mkF m 0 #[.val (.ref a80)] [])) (by first | (simp [entryFrame, mkF, argsToLocals, Value.category]; done) | rfl) ?_
  refine own_alN (w := (.ref a80)) X0 hx (hb hby d2_0) rfl rfl ?_
  refine own_init0 X0 hx hZ hown (own_w hw 13 rfl) (own_w hw 14 rfl) (own_w hw 15 rfl) e0 (hb hby d2_1) (by rw [hml]; rfl) (by decide) (W := 0) (Nat.le_of_eq rfl) (by decide) ?_
  intro T95 X95 e95
  show own_Go _ _ _ _ _ _ _ T95 (mkF m 4 #[.val (.ref a80)] [])
  exact own_ret0 X95 hx hlk hret (hb hby d2_4) e95 ⟨rfl, N0, rfl⟩ (by decide) (by decide)
def own_s4_Q (Z : State) (a80 : Addr) (f5 : UInt64) (f17 : UInt64) (h0 : Heap) (n0 : Nat) (v_ : Option Value) (h_ : Heap) (L_ : List Loc) : Prop := (fun v h L => v = none ∧ Fr n0 L ∧ Keep h0 h [a80] ∧ Fld Z h a80 own_k0 "low" "D" (.double f5) ∧ Fld Z h a80 own_k0 "gapLow" "D" (.double f17) ∧ Fld Z h a80 own_k0 "gapHigh" "D" (.double f17) ∧ Fld Z h a80 own_k0 "high" "D" (.double f17) ∧ Fld Z h a80 own_k0 "below" "D" (.double (4613937818241073152 : UInt64)) ∧ Fld Z h a80 own_k0 "count" "D" (.double (4613937818241073152 : UInt64))) v_ h_ L_
set_option maxRecDepth 65536 in
set_option maxHeartbeats 40000000 in
theorem own_s4 (l : Launch) (Z : State) (a0 : Array Value) (hw : ∀ d ∈ tables_1, d.before a0 Z = true) (wds : List Jvm.Cond) (a80 : Addr) (f5 : UInt64) (f17 : UInt64) (h0 : Heap) (n0 : Nat) (Z0 : n0 ≤ h0.size) (H5 : Exa Z h0 a80 own_k0) (H6 : Fld Z h0 a80 own_k0 "low" "D" (.double (0 : UInt64))) (H7 : Fld Z h0 a80 own_k0 "gapLow" "D" (.double (0 : UInt64))) (H8 : Fld Z h0 a80 own_k0 "gapHigh" "D" (.double (0 : UInt64))) (H9 : Fld Z h0 a80 own_k0 "high" "D" (.double (0 : UInt64))) (H10 : Fld Z h0 a80 own_k0 "below" "D" (.double (0 : UInt64))) (H11 : Fld Z h0 a80 own_k0 "count" "D" (.double (0 : UInt64))) (H13 : n0 ≤ a80) :
    MetFree l (⟨own_k0, "<init>", "(DDDDDD)V"⟩ : MethodName) (head1 (Jvm.Cond.code (⟨own_k0, "<init>", "(DDDDDD)V"⟩ : MethodName) prog_16_method_1_code 13 none :: wds) ({ frames := 2, cells := 0, slots := 0, locals := 24 } : Room)) (fun ar_ U_ => ar_ = #[(.ref a80), (.double f5), (.double f17), (.double f17), (.double f17), (.double (4613937818241073152 : UInt64)), (.double (4613937818241073152 : UInt64))] ∧ Z.Warmed39 U_.vm ∧ U_.heap = h0) (fun _ _ _ _ _ => True) (fun _ U_ o_ V_ => ∃ v_ L_, o_ = .returned v_ ∧ own_s4_Q Z a80 f5 f17 h0 n0 v_ V_.heap L_ ∧ FrameEnd U_ o_ V_ L_ ({ frames := 2, cells := 0, slots := 0, locals := 24 } : Room).cells ({ frames := 2, cells := 0, slots := 0, locals := 24 } : Room).slots) := by
  refine own_met (y := ⟨own_k0, "<init>", "(DDDDDD)V"⟩) (Q := own_s4_Q Z a80 f5 f17 h0 n0) own_pn0 ?_
  intro p e s m below meth c s₁ hx hby hml hZ hown hnm hret hlk X0 e0
  have N0 := Fr.nil n0
  refine own_cast (g' := (mkF m 0 #[.val (.ref a80), .val (.double f5), .second, .val (.double f17), .second, .val (.double f17), .second, .val (.double f17), .second, .val (.double (4613937818241073152 : UInt64)), .second, .val (.double (4613937818241073152 : UInt64)), .second] [])) (by first | (simp [entryFrame, mkF, argsToLocals, Value.category]; done) | rfl) ?_
  generalize hL90 : (#[.val (.ref a80), .val (.double f5), .second, .val (.double f17), .second, .val (.double f17), .second, .val (.double f17), .second, .val (.double (4613937818241073152 : UInt64)), .second, .val (.double (4613937818241073152 : UInt64)), .second] : Array Slot) = L90
  refine own_alN (w := (.ref a80)) X0 hx (hb hby d1_0) (by rw [← hL90]; rfl) rfl ?_
  refine own_init (a := a80) (argsL := []) (rest := []) X0 hx hZ hown (own_s5 l Z a0 hw [] a80 h0 n0 Z0 ) rfl (own_w hw 8 rfl) (own_w hw 9 rfl) (own_w hw 12 rfl) (own_w hw 11 rfl) (by decide) e0 (hb hby d1_1) (by rw [hml, ← hL90]; rfl) rfl (lenOf own_pd0 rfl) (by decide) (W := 0) (Nat.le_of_eq rfl) (by decide) (by decide) (by decide) ?_
  intro v96 T96 lo96 X96 Q96
  obtain ⟨h96, e96⟩ : ∃ h, T96.heap = h := ⟨_, rfl⟩
  rw [e96] at Q96
  obtain ⟨rfl, N96, K96⟩ := Q96
  have N96' := Fr.app N0 N96
  have e96' : T96.heap = h0 := e96.trans K96
  show own_Go _ _ _ _ _ _ _ T96 (mkF m 4 L90 [])
  refine own_alN (w := (.ref a80)) X96 hx (hb hby d1_4) (by rw [← hL90]; rfl) rfl ?_
  refine own_dlN (w := f5) X96 hx (hb hby d1_5) (by rw [← hL90]; rfl) ?_
  refine own_putf X96 hx hZ hown (own_w hw 16 rfl) e96' N96' H13 H6 H5 (Or.inr ⟨(own_w hw 17 rfl), rfl, hnm⟩) (own_w hw 2 rfl) (ty := .double) (by decide) rfl rfl (hb hby d1_6) ?_
  intro T97 h97 lo97 X97 e97 N97 W97
  have F98 := H6.same W97
  show own_Go _ _ _ _ _ _ _ T97 (mkF m 9 L90 [])
  refine own_alN (w := (.ref a80)) X97 hx (hb hby d1_9) (by rw [← hL90]; rfl) rfl ?_
  refine own_dlN (w := f17) X97 hx (hb hby d1_10) (by rw [← hL90]; rfl) ?_
  have F99 := (H7.other W97 (Or.inr (own_sne (own_f0 hw) (own_f1 hw) (by decide))))
  have F100 := (H5.wr W97)
  refine own_putf X97 hx hZ hown (own_w hw 18 rfl) e97 N97 H13 F99 F100 (Or.inr ⟨(own_w hw 19 rfl), rfl, hnm⟩) (own_w hw 2 rfl) (ty := .double) (by decide) rfl rfl (hb hby d1_11) ?_
  intro T101 h101 lo101 X101 e101 N101 W101
  have F102 := F99.same W101
  show own_Go _ _ _ _ _ _ _ T101 (mkF m 14 L90 [])
  refine own_alN (w := (.ref a80)) X101 hx (hb hby d1_14) (by rw [← hL90]; rfl) rfl ?_
  refine own_dl (w := f17) X101 hx (hb hby d1_15) (by rw [← hL90]; rfl) ?_
  have F103 := ((H8.other W97 (Or.inr (own_sne (own_f2 hw) (own_f1 hw) (by decide)))).other W101 (Or.inr (own_sne (own_f2 hw) (own_f0 hw) (by decide))))
  have F104 := (F100.wr W101)
  refine own_putf X101 hx hZ hown (own_w hw 20 rfl) e101 N101 H13 F103 F104 (Or.inr ⟨(own_w hw 21 rfl), rfl, hnm⟩) (own_w hw 2 rfl) (ty := .double) (by decide) rfl rfl (hb hby d1_17) ?_
  intro T105 h105 lo105 X105 e105 N105 W105
  have F106 := F103.same W105
  show own_Go _ _ _ _ _ _ _ T105 (mkF m 20 L90 [])
  refine own_alN (w := (.ref a80)) X105 hx (hb hby d1_20) (by rw [← hL90]; rfl) rfl ?_
  refine own_dl (w := f17) X105 hx (hb hby d1_21) (by rw [← hL90]; rfl) ?_
  have F107 := (((H9.other W97 (Or.inr (own_sne (own_f3 hw) (own_f1 hw) (by decide)))).other W101 (Or.inr (own_sne (own_f3 hw) (own_f0 hw) (by decide)))).other W105 (Or.inr (own_sne (own_f3 hw) (own_f2 hw) (by decide))))
  have F108 := (F104.wr W105)
  refine own_putf X105 hx hZ hown (own_w hw 22 rfl) e105 N105 H13 F107 F108 (Or.inr ⟨(own_w hw 23 rfl), rfl, hnm⟩) (own_w hw 2 rfl) (ty := .double) (by decide) rfl rfl (hb hby d1_23) ?_
  intro T109 h109 lo109 X109 e109 N109 W109
  have F110 := F107.same W109
  show own_Go _ _ _ _ _ _ _ T109 (mkF m 26 L90 [])
  refine own_alN (w := (.ref a80)) X109 hx (hb hby d1_26) (by rw [← hL90]; rfl) rfl ?_
  refine own_dl (w := (4613937818241073152 : UInt64)) X109 hx (hb hby d1_27) (by rw [← hL90]; rfl) ?_
  have F111 := ((((H10.other W97 (Or.inr (own_sne (own_f4 hw) (own_f1 hw) (by decide)))).other W101 (Or.inr (own_sne (own_f4 hw) (own_f0 hw) (by decide)))).other W105 (Or.inr (own_sne (own_f4 hw) (own_f2 hw) (by decide)))).other W109 (Or.inr (own_sne (own_f4 hw) (own_f3 hw) (by decide))))
  have F112 := (F108.wr W109)
  refine own_putf X109 hx hZ hown (own_w hw 24 rfl) e109 N109 H13 F111 F112 (Or.inr ⟨(own_w hw 25 rfl), rfl, hnm⟩) (own_w hw 2 rfl) (ty := .double) (by decide) rfl rfl (hb hby d1_29) ?_
  intro T113 h113 lo113 X113 e113 N113 W113
  have F114 := F111.same W113
  show own_Go _ _ _ _ _ _ _ T113 (mkF m 32 L90 [])
  refine own_alN (w := (.ref a80)) X113 hx (hb hby d1_32) (by rw [← hL90]; rfl) rfl ?_
  refine own_dl (w := (4613937818241073152 : UInt64)) X113 hx (hb hby d1_33) (by rw [← hL90]; rfl) ?_
  have F115 := (((((H11.other W97 (Or.inr (own_sne (own_f5 hw) (own_f1 hw) (by decide)))).other W101 (Or.inr (own_sne (own_f5 hw) (own_f0 hw) (by decide)))).other W105 (Or.inr (own_sne (own_f5 hw) (own_f2 hw) (by decide)))).other W109 (Or.inr (own_sne (own_f5 hw) (own_f3 hw) (by decide)))).other W113 (Or.inr (own_sne (own_f5 hw) (own_f4 hw) (by decide))))
  have F116 := (F112.wr W113)
  refine own_putf X113 hx hZ hown (own_w hw 26 rfl) e113 N113 H13 F115 F116 (Or.inr ⟨(own_w hw 27 rfl), rfl, hnm⟩) (own_w hw 2 rfl) (ty := .double) (by decide) rfl rfl (hb hby d1_35) ?_
  intro T117 h117 lo117 X117 e117 N117 W117
  have F118 := F115.same W117
  show own_Go _ _ _ _ _ _ _ T117 (mkF m 38 L90 [])
  have F119 := (((((F98.other W101 (Or.inr (own_sne (own_f1 hw) (own_f0 hw) (by decide)))).other W105 (Or.inr (own_sne (own_f1 hw) (own_f2 hw) (by decide)))).other W109 (Or.inr (own_sne (own_f1 hw) (own_f3 hw) (by decide)))).other W113 (Or.inr (own_sne (own_f1 hw) (own_f4 hw) (by decide)))).other W117 (Or.inr (own_sne (own_f1 hw) (own_f5 hw) (by decide))))
  have F120 := ((((F102.other W105 (Or.inr (own_sne (own_f0 hw) (own_f2 hw) (by decide)))).other W109 (Or.inr (own_sne (own_f0 hw) (own_f3 hw) (by decide)))).other W113 (Or.inr (own_sne (own_f0 hw) (own_f4 hw) (by decide)))).other W117 (Or.inr (own_sne (own_f0 hw) (own_f5 hw) (by decide))))
  have F121 := (((F106.other W109 (Or.inr (own_sne (own_f2 hw) (own_f3 hw) (by decide)))).other W113 (Or.inr (own_sne (own_f2 hw) (own_f4 hw) (by decide)))).other W117 (Or.inr (own_sne (own_f2 hw) (own_f5 hw) (by decide))))
  have F122 := ((F110.other W113 (Or.inr (own_sne (own_f3 hw) (own_f4 hw) (by decide)))).other W117 (Or.inr (own_sne (own_f3 hw) (own_f5 hw) (by decide))))
  have F123 := (F114.other W117 (Or.inr (own_sne (own_f4 hw) (own_f5 hw) (by decide))))
  exact own_ret0 X117 hx hlk hret (hb hby d1_38) e117 ⟨rfl, N117, (((((((Keep.refl _ _).wr W97 (Or.inl (by simp))).wr W101 (Or.inl (by simp))).wr W105 (Or.inl (by simp))).wr W109 (Or.inl (by simp))).wr W113 (Or.inl (by simp))).wr W117 (Or.inl (by simp))), F119, F120, F121, F122, F123, F118⟩ (by decide) (by decide)
def own_s3_Q (Z : State) (f5 : UInt64) (f17 : UInt64) (h0 : Heap) (n0 : Nat) (v_ : Option Value) (h_ : Heap) (L_ : List Loc) : Prop := (fun v h L => ∃ (a80 : Addr), v = some (.ref a80) ∧ Fr n0 L ∧ Keep h0 h [] ∧ h0.size ≤ a80 ∧ Exa Z h a80 own_k0 ∧ Fld Z h a80 own_k0 "low" "D" (.double f5) ∧ Fld Z h a80 own_k0 "gapLow" "D" (.double f17) ∧ Fld Z h a80 own_k0 "gapHigh" "D" (.double f17) ∧ Fld Z h a80 own_k0 "high" "D" (.double f17) ∧ Fld Z h a80 own_k0 "below" "D" (.double (4613937818241073152 : UInt64)) ∧ Fld Z h a80 own_k0 "count" "D" (.double (4613937818241073152 : UInt64))) v_ h_ L_
set_option maxRecDepth 65536 in
set_option maxHeartbeats 40000000 in
theorem own_s3 (l : Launch) (Z : State) (a0 : Array Value) (hw : ∀ d ∈ tables_1, d.before a0 Z = true) (wds : List Jvm.Cond) (f5 : UInt64) (f17 : UInt64) (h0 : Heap) (n0 : Nat) (Z0 : n0 ≤ h0.size)  :
    MetFree l (⟨own_k0, "of", own_k3⟩ : MethodName) (head1 (Jvm.Cond.code (⟨own_k0, "of", own_k3⟩ : MethodName) prog_16_method_2_code 6 (some (.object own_k0)) :: wds) ({ frames := 3, cells := 1, slots := 6, locals := 49 } : Room)) (fun ar_ U_ => ar_ = #[(.double f5), (.double f17), (.double (4613937818241073152 : UInt64))] ∧ Z.Warmed39 U_.vm ∧ U_.heap = h0) (fun _ _ _ _ _ => True) (fun _ U_ o_ V_ => ∃ v_ L_, o_ = .returned v_ ∧ own_s3_Q Z f5 f17 h0 n0 v_ V_.heap L_ ∧ FrameEnd U_ o_ V_ L_ ({ frames := 3, cells := 1, slots := 6, locals := 49 } : Room).cells ({ frames := 3, cells := 1, slots := 6, locals := 49 } : Room).slots) := by
  refine own_met (y := ⟨own_k0, "of", own_k3⟩) (Q := own_s3_Q Z f5 f17 h0 n0) own_pn0 ?_
  intro p e s m below meth c s₁ hx hby hml hZ hown hnm hret hlk X0 e0
  have N0 := Fr.nil n0
  refine own_cast (g' := (mkF m 0 #[.val (.double f5), .second, .val (.double f17), .second, .val (.double (4613937818241073152 : UInt64)), .second] [])) (by first | (simp [entryFrame, mkF, argsToLocals, Value.category]; done) | rfl) ?_
  generalize hL76 : (#[.val (.double f5), .second, .val (.double f17), .second, .val (.double (4613937818241073152 : UInt64)), .second] : Array Slot) = L76
  refine own_newobj X0 hx hZ hown (own_w hw 37 rfl) (own_w hw 2 rfl) (own_w hw 3 rfl) e0 (hb hby d5_0) (by decide) (by decide) ?_
  intro T80 h80 a80 g80 X80 e80 E80 A80 D80
  have ge82 : h0.size ≤ a80 := Nat.le_trans (Nat.le_refl _) (Nat.le_of_eq g80.symm)
  have nw83 : n0 ≤ a80 := Nat.le_trans Z0 (Nat.le_of_eq g80.symm)
  have F84 : Fld Z h80 a80 own_k0 "low" "D" (.double (0 : UInt64)) := D80 (Or.inr (own_w hw 17 rfl)) (ty := .double) (by decide)
  have F85 : Fld Z h80 a80 own_k0 "gapLow" "D" (.double (0 : UInt64)) := D80 (Or.inr (own_w hw 19 rfl)) (ty := .double) (by decide)
  have F86 : Fld Z h80 a80 own_k0 "gapHigh" "D" (.double (0 : UInt64)) := D80 (Or.inr (own_w hw 21 rfl)) (ty := .double) (by decide)
  have F87 : Fld Z h80 a80 own_k0 "high" "D" (.double (0 : UInt64)) := D80 (Or.inr (own_w hw 23 rfl)) (ty := .double) (by decide)
  have F88 : Fld Z h80 a80 own_k0 "below" "D" (.double (0 : UInt64)) := D80 (Or.inr (own_w hw 25 rfl)) (ty := .double) (by decide)
  have F89 : Fld Z h80 a80 own_k0 "count" "D" (.double (0 : UInt64)) := D80 (Or.inr (own_w hw 27 rfl)) (ty := .double) (by decide)
  show own_Go _ _ _ _ _ _ _ T80 (mkF m 3 L76 [(.ref a80)])
  refine own_pre (g' := (mkF m 4 L76 [(.ref a80), (.ref a80)])) (fun t k => XS.dup X80.here hx rfl (hb hby d5_3) rfl rfl k) ?_
  refine own_dlN (w := f5) X80 hx (hb hby d5_4) (by rw [← hL76]; rfl) ?_
  refine own_dlN (w := f17) X80 hx (hb hby d5_5) (by rw [← hL76]; rfl) ?_
  refine own_dlN (w := f17) X80 hx (hb hby d5_6) (by rw [← hL76]; rfl) ?_
  refine own_dlN (w := f17) X80 hx (hb hby d5_7) (by rw [← hL76]; rfl) ?_
  refine own_dl (w := (4613937818241073152 : UInt64)) X80 hx (hb hby d5_8) (by rw [← hL76]; rfl) ?_
  refine own_dl (w := (4613937818241073152 : UInt64)) X80 hx (hb hby d5_10) (by rw [← hL76]; rfl) ?_
  have F124 : n0 ≤ h80.size := (Nat.le_trans Z0 E80.1)
  refine own_init (a := a80) (argsL := [(.double f5), (.double f17), (.double f17), (.double f17), (.double (4613937818241073152 : UInt64)), (.double (4613937818241073152 : UInt64))]) (rest := [(.ref a80)]) X80 hx hZ hown (own_s4 l Z a0 hw [] a80 f5 f17 h80 n0 F124 A80 F84 F85 F86 F87 F88 F89 nw83) rfl (own_w hw 38 rfl) (own_w hw 6 rfl) (own_w hw 7 rfl) (own_w hw 3 rfl) (by decide) e80 (hb hby d5_12) (by rw [hml, ← hL76]; rfl) rfl (lenOf own_pd1 rfl) (by decide) (W := 1) (Nat.le_of_eq rfl) (by decide) (by decide) (by decide) ?_
  intro v125 T125 lo125 X125 Q125
  obtain ⟨h125, e125⟩ : ∃ h, T125.heap = h := ⟨_, rfl⟩
  rw [e125] at Q125
  obtain ⟨rfl, N125, K125, F126, F127, F128, F129, F130, F131⟩ := Q125
  have N125' := Fr.app N0 N125
  show own_Go _ _ _ _ _ _ _ T125 (mkF m 15 L76 [(.ref a80)])
  have F133 := (A80.keep K125)
  exact own_retA X125 hx hlk hret rfl rfl rfl (hb hby d5_15) e125 ⟨a80, rfl, N125', (((Keep.refl _ _).ext E80).trans K125 (allS (Or.inr ge82) all0)), ge82, F133, F126, F127, F128, F129, F130, F131⟩ (by decide) (by decide)
theorem own_pd3 : parseMethodDescriptor "(DDD)Lcom/example/rankline/rankline/Extent;" = some ⟨[.double, .double, .double], some (.object "com/example/rankline/rankline/Extent")⟩ := by decide +kernel
def own_s6_Q (Z : State) (a135 : Addr) (f17 : UInt64) (p0 : Int32) (v7 : Int32) (w0 : Int32) (v15 : Int32) (h0 : Heap) (n0 : Nat) (v_ : Option Value) (h_ : Heap) (L_ : List Loc) : Prop := (fun v h L => v = some (.int (0 : Int32)) ∧ Fr n0 L ∧ h = h0) v_ h_ L_
set_option maxRecDepth 65536 in
set_option maxHeartbeats 40000000 in
theorem own_s6 (l : Launch) (Z : State) (a0 : Array Value) (hw : ∀ d ∈ tables_1, d.before a0 Z = true) (wds : List Jvm.Cond) (a135 : Addr) (f17 : UInt64) (p0 : Int32) (v7 : Int32) (w0 : Int32) (v15 : Int32) (h0 : Heap) (n0 : Nat) (Z0 : n0 ≤ h0.size) (H7 : Fld Z h0 a135 own_k0 "gapLow" "D" (.double f17)) (H8 : Fld Z h0 a135 own_k0 "gapHigh" "D" (.double f17)) (H15 : FP.Core.DInt (((p0.toInt + v7.toInt) + w0.toInt) + v15.toInt) f17) (H16 : 0 ≤ v7.toInt ∧ v7.toInt ≤ 65535) (H17 : 0 ≤ w0.toInt ∧ w0.toInt ≤ 65535) (H18 : 0 ≤ v15.toInt ∧ v15.toInt ≤ 65535) :
    MetFree l (⟨own_k0, "hasGap", "()Z"⟩ : MethodName) (head1 (Jvm.Cond.code (⟨own_k0, "hasGap", "()Z"⟩ : MethodName) prog_16_method_4_code 1 (some .boolean) :: wds) ({ frames := 0, cells := 0, slots := 0, locals := 0 } : Room)) (fun ar_ U_ => ar_ = #[(.ref a135)] ∧ Z.Warmed39 U_.vm ∧ U_.heap = h0) (fun _ _ _ _ _ => True) (fun _ U_ o_ V_ => ∃ v_ L_, o_ = .returned v_ ∧ own_s6_Q Z a135 f17 p0 v7 w0 v15 h0 n0 v_ V_.heap L_ ∧ FrameEnd U_ o_ V_ L_ ({ frames := 0, cells := 0, slots := 0, locals := 0 } : Room).cells ({ frames := 0, cells := 0, slots := 0, locals := 0 } : Room).slots) := by
  refine own_met (y := ⟨own_k0, "hasGap", "()Z"⟩) (Q := own_s6_Q Z a135 f17 p0 v7 w0 v15 h0 n0) own_pn0 ?_
  intro p e s m below meth c s₁ hx hby hml hZ hown hnm hret hlk X0 e0
  have N0 := Fr.nil n0
  refine own_cast (g' := (mkF m 0 #[.val (.ref a135)] [])) (by first | (simp [entryFrame, mkF, argsToLocals, Value.category]; done) | rfl) ?_
  refine own_alN (w := (.ref a135)) X0 hx (hb hby d4_0) rfl rfl ?_
  refine own_getf X0 hx hZ hown (own_w hw 18 rfl) e0 H7 (hb hby d4_1) ?_
  intro T151 X151 e151
  show own_Go _ _ _ _ _ _ _ T151 (mkF m 4 #[.val (.ref a135)] [(.double f17)])
  refine own_alN (w := (.ref a135)) X151 hx (hb hby d4_4) rfl rfl ?_
  refine own_getf X151 hx hZ hown (own_w hw 20 rfl) e151 H8 (hb hby d4_5) ?_
  intro T152 X152 e152
  show own_Go _ _ _ _ _ _ _ T152 (mkF m 8 #[.val (.ref a135)] [(.double f17), (.double f17)])
  obtain ⟨k153, hk153⟩ : ∃ z, own_c (((p0.toInt + v7.toInt) + w0.toInt) + v15.toInt) (((p0.toInt + v7.toInt) + w0.toInt) + v15.toInt) = z := ⟨_, rfl⟩
  refine own_pre (g' := (mkF m 9 #[.val (.ref a135)] [(.int k153)])) (fun t k => XS.dcmpS X152.here hx rfl (hb hby d4_8) rfl ((own_dcmp H15 H15 _).trans hk153) k) ?_
  have hc154 : ¬ k153 < (0 : Int32) := by rw [← hk153, own_c_lt] <;> (have := H16; have := H17; have := H18; have := rng32 p0; have := rng32 v7; have := rng32 w0; have := rng32 v15; omega)
  refine own_pre (g' := (mkF m 16 #[.val (.ref a135)] [])) (fun t k => XS.ifYes X152.here hx rfl (pc0 := 9) (pc' := 16) rfl (hb hby d4_9) rfl ((if0 _ _).trans (flt hc154).2.1) (by decide) (by decide) k) ?_
  refine own_ic X152 hx (0 : Int32) (hb hby d4_16) rfl ?_
  exact own_retZ X152 hx hlk hret rfl (hb hby d4_17) e152 ⟨rfl, N0, rfl⟩ (by decide) (by decide)
def own_s7_Q (Z : State) (rn : Addr) (h0 : Heap) (n0 : Nat) (v_ : Option Value) (h_ : Heap) (L_ : List Loc) : Prop := (fun v h L => v = some (.int (0 : Int32)) ∧ Fr n0 L ∧ h = h0) v_ h_ L_
set_option maxRecDepth 65536 in
set_option maxHeartbeats 40000000 in
theorem own_s7 (l : Launch) (Z : State) (a0 : Array Value) (hw : ∀ d ∈ tables_1, d.before a0 Z = true) (wds : List Jvm.Cond) (rn : Addr) (h0 : Heap) (n0 : Nat) (Z0 : n0 ≤ h0.size) (H3 : Fld Z h0 rn own_k0 "gapLow" "D" (.double (9218868437227405312 : UInt64))) (H4 : Fld Z h0 rn own_k0 "gapHigh" "D" (.double (9218868437227405312 : UInt64))) :
    MetFree l (⟨own_k0, "hasGap", "()Z"⟩ : MethodName) (head1 (Jvm.Cond.code (⟨own_k0, "hasGap", "()Z"⟩ : MethodName) prog_16_method_4_code 1 (some .boolean) :: wds) ({ frames := 0, cells := 0, slots := 0, locals := 0 } : Room)) (fun ar_ U_ => ar_ = #[(.ref rn)] ∧ Z.Warmed39 U_.vm ∧ U_.heap = h0) (fun _ _ _ _ _ => True) (fun _ U_ o_ V_ => ∃ v_ L_, o_ = .returned v_ ∧ own_s7_Q Z rn h0 n0 v_ V_.heap L_ ∧ FrameEnd U_ o_ V_ L_ ({ frames := 0, cells := 0, slots := 0, locals := 0 } : Room).cells ({ frames := 0, cells := 0, slots := 0, locals := 0 } : Room).slots) := by
  refine own_met (y := ⟨own_k0, "hasGap", "()Z"⟩) (Q := own_s7_Q Z rn h0 n0) own_pn0 ?_
  intro p e s m below meth c s₁ hx hby hml hZ hown hnm hret hlk X0 e0
  have N0 := Fr.nil n0
  refine own_cast (g' := (mkF m 0 #[.val (.ref rn)] [])) (by first | (simp [entryFrame, mkF, argsToLocals, Value.category]; done) | rfl) ?_
  refine own_alN (w := (.ref rn)) X0 hx (hb hby d4_0) rfl rfl ?_
  refine own_getf X0 hx hZ hown (own_w hw 18 rfl) e0 H3 (hb hby d4_1) ?_
  intro T159 X159 e159
  show own_Go _ _ _ _ _ _ _ T159 (mkF m 4 #[.val (.ref rn)] [(.double (9218868437227405312 : UInt64))])
  refine own_alN (w := (.ref rn)) X159 hx (hb hby d4_4) rfl rfl ?_
  refine own_getf X159 hx hZ hown (own_w hw 20 rfl) e159 H4 (hb hby d4_5) ?_
  intro T160 X160 e160
  show own_Go _ _ _ _ _ _ _ T160 (mkF m 8 #[.val (.ref rn)] [(.double (9218868437227405312 : UInt64)), (.double (9218868437227405312 : UInt64))])
  refine own_pre (g' := (mkF m 9 #[.val (.ref rn)] [(.int (0 : Int32))])) (fun t k => XS.dcmpS X160.here hx rfl (v := (0 : Int32)) (hb hby d4_8) rfl (by decide +kernel) k) ?_
  refine own_pre (g' := (mkF m 16 #[.val (.ref rn)] [])) (fun t k => XS.ifYes X160.here hx rfl (pc0 := 9) (pc' := 16) rfl (hb hby d4_9) rfl (by decide) (by decide) (by decide) k) ?_
  refine own_ic X160 hx (0 : Int32) (hb hby d4_16) rfl ?_
  exact own_retZ X160 hx hlk hret rfl (hb hby d4_17) e160 ⟨rfl, N0, rfl⟩ (by decide) (by decide)
def own_s10_Q (Z : State) (a166 : Addr) (h0 : Heap) (n0 : Nat) (v_ : Option Value) (h_ : Heap) (L_ : List Loc) : Prop := (fun v h L => v = none ∧ Fr n0 L ∧ h = h0) v_ h_ L_
set_option maxRecDepth 65536 in
set_option maxHeartbeats 40000000 in
theorem own_s10 (l : Launch) (Z : State) (a0 : Array Value) (hw : ∀ d ∈ tables_1, d.before a0 Z = true) (wds : List Jvm.Cond) (a166 : Addr) (h0 : Heap) (n0 : Nat) (Z0 : n0 ≤ h0.size)  :
    MetFree l (⟨"java/lang/Record", "<init>", "()V"⟩ : MethodName) (head1 (Jvm.Cond.code (⟨"java/lang/Record", "<init>", "()V"⟩ : MethodName) jdk_30_method_1_code 1 none :: wds) ({ frames := 1, cells := 0, slots := 0, locals := 12 } : Room)) (fun ar_ U_ => ar_ = #[(.ref a166)] ∧ Z.Warmed39 U_.vm ∧ U_.heap = h0) (fun _ _ _ _ _ => True) (fun _ U_ o_ V_ => ∃ v_ L_, o_ = .returned v_ ∧ own_s10_Q Z a166 h0 n0 v_ V_.heap L_ ∧ FrameEnd U_ o_ V_ L_ ({ frames := 1, cells := 0, slots := 0, locals := 12 } : Room).cells ({ frames := 1, cells := 0, slots := 0, locals := 12 } : Room).slots) := by
  refine own_met (y := ⟨"java/lang/Record", "<init>", "()V"⟩) (Q := own_s10_Q Z a166 h0 n0) own_pn2 ?_
  intro p e s m below meth c s₁ hx hby hml hZ hown hnm hret hlk X0 e0
  have N0 := Fr.nil n0
  refine own_cast (g' := (mkF m 0 #[.val (.ref a166)] [])) (by first | (simp [entryFrame, mkF, argsToLocals, Value.category]; done) | rfl) ?_
  refine own_alN (w := (.ref a166)) X0 hx (hb hby d2_0) rfl rfl ?_
  refine own_init0 X0 hx hZ hown (own_w hw 13 rfl) (own_w hw 14 rfl) (own_w hw 15 rfl) e0 (hb hby d2_1) (by rw [hml]; rfl) (by decide) (W := 0) (Nat.le_of_eq rfl) (by decide) ?_
  intro T181 X181 e181
  show own_Go _ _ _ _ _ _ _ T181 (mkF m 4 #[.val (.ref a166)] [])
  exact own_ret0 X181 hx hlk hret (hb hby d2_4) e181 ⟨rfl, N0, rfl⟩ (by decide) (by decide)
def own_s9_Q (Z : State) (a166 : Addr) (f163 : UInt64) (f164 : UInt64) (h0 : Heap) (n0 : Nat) (v_ : Option Value) (h_ : Heap) (L_ : List Loc) : Prop := (fun v h L => v = none ∧ Fr n0 L ∧ Keep h0 h [a166] ∧ Fld Z h a166 own_k0 "low" "D" (.double f163) ∧ Fld Z h a166 own_k0 "gapLow" "D" (.double f164) ∧ Fld Z h a166 own_k0 "gapHigh" "D" (.double f164) ∧ Fld Z h a166 own_k0 "high" "D" (.double f164) ∧ Fld Z h a166 own_k0 "below" "D" (.double (4607182418800017408 : UInt64)) ∧ Fld Z h a166 own_k0 "count" "D" (.double (4607182418800017408 : UInt64))) v_ h_ L_
set_option maxRecDepth 65536 in
set_option maxHeartbeats 40000000 in
theorem own_s9 (l : Launch) (Z : State) (a0 : Array Value) (hw : ∀ d ∈ tables_1, d.before a0 Z = true) (wds : List Jvm.Cond) (a166 : Addr) (f163 : UInt64) (f164 : UInt64) (h0 : Heap) (n0 : Nat) (Z0 : n0 ≤ h0.size) (H5 : Exa Z h0 a166 own_k0) (H6 : Fld Z h0 a166 own_k0 "low" "D" (.double (0 : UInt64))) (H7 : Fld Z h0 a166 own_k0 "gapLow" "D" (.double (0 : UInt64))) (H8 : Fld Z h0 a166 own_k0 "gapHigh" "D" (.double (0 : UInt64))) (H9 : Fld Z h0 a166 own_k0 "high" "D" (.double (0 : UInt64))) (H10 : Fld Z h0 a166 own_k0 "below" "D" (.double (0 : UInt64))) (H11 : Fld Z h0 a166 own_k0 "count" "D" (.double (0 : UInt64))) (H13 : n0 ≤ a166) :
    MetFree l (⟨own_k0, "<init>", "(DDDDDD)V"⟩ : MethodName) (head1 (Jvm.Cond.code (⟨own_k0, "<init>", "(DDDDDD)V"⟩ : MethodName) prog_16_method_1_code 13 none :: wds) ({ frames := 2, cells := 0, slots := 0, locals := 24 } : Room)) (fun ar_ U_ => ar_ = #[(.ref a166), (.double f163), (.double f164), (.double f164), (.double f164), (.double (4607182418800017408 : UInt64)), (.double (4607182418800017408 : UInt64))] ∧ Z.Warmed39 U_.vm ∧ U_.heap = h0) (fun _ _ _ _ _ => True) (fun _ U_ o_ V_ => ∃ v_ L_, o_ = .returned v_ ∧ own_s9_Q Z a166 f163 f164 h0 n0 v_ V_.heap L_ ∧ FrameEnd U_ o_ V_ L_ ({ frames := 2, cells := 0, slots := 0, locals := 24 } : Room).cells ({ frames := 2, cells := 0, slots := 0, locals := 24 } : Room).slots) := by
  refine own_met (y := ⟨own_k0, "<init>", "(DDDDDD)V"⟩) (Q := own_s9_Q Z a166 f163 f164 h0 n0) own_pn0 ?_
  intro p e s m below meth c s₁ hx hby hml hZ hown hnm hret hlk X0 e0
  have N0 := Fr.nil n0
  refine own_cast (g' := (mkF m 0 #[.val (.ref a166), .val (.double f163), .second, .val (.double f164), .second, .val (.double f164), .second, .val (.double f164), .second, .val (.double (4607182418800017408 : UInt64)), .second, .val (.double (4607182418800017408 : UInt64)), .second] [])) (by first | (simp [entryFrame, mkF, argsToLocals, Value.category]; done) | rfl) ?_
  generalize hL176 : (#[.val (.ref a166), .val (.double f163), .second, .val (.double f164), .second, .val (.double f164), .second, .val (.double f164), .second, .val (.double (4607182418800017408 : UInt64)), .second, .val (.double (4607182418800017408 : UInt64)), .second] : Array Slot) = L176
  refine own_alN (w := (.ref a166)) X0 hx (hb hby d1_0) (by rw [← hL176]; rfl) rfl ?_
  refine own_init (a := a166) (argsL := []) (rest := []) X0 hx hZ hown (own_s10 l Z a0 hw [] a166 h0 n0 Z0 ) rfl (own_w hw 8 rfl) (own_w hw 9 rfl) (own_w hw 12 rfl) (own_w hw 11 rfl) (by decide) e0 (hb hby d1_1) (by rw [hml, ← hL176]; rfl) rfl (lenOf own_pd0 rfl) (by decide) (W := 0) (Nat.le_of_eq rfl) (by decide) (by decide) (by decide) ?_
  intro v182 T182 lo182 X182 Q182
  obtain ⟨h182, e182⟩ : ∃ h, T182.heap = h := ⟨_, rfl⟩
  rw [e182] at Q182
  obtain ⟨rfl, N182, K182⟩ := Q182
  have N182' := Fr.app N0 N182
  have e182' : T182.heap = h0 := e182.trans K182
  show own_Go _ _ _ _ _ _ _ T182 (mkF m 4 L176 [])
  refine own_alN (w := (.ref a166)) X182 hx (hb hby d1_4) (by rw [← hL176]; rfl) rfl ?_
  refine own_dlN (w := f163) X182 hx (hb hby d1_5) (by rw [← hL176]; rfl) ?_
  refine own_putf X182 hx hZ hown (own_w hw 16 rfl) e182' N182' H13 H6 H5 (Or.inr ⟨(own_w hw 17 rfl), rfl, hnm⟩) (own_w hw 2 rfl) (ty := .double) (by decide) rfl rfl (hb hby d1_6) ?_
  intro T183 h183 lo183 X183 e183 N183 W183
  have F184 := H6.same W183
  show own_Go _ _ _ _ _ _ _ T183 (mkF m 9 L176 [])
  refine own_alN (w := (.ref a166)) X183 hx (hb hby d1_9) (by rw [← hL176]; rfl) rfl ?_
  refine own_dlN (w := f164) X183 hx (hb hby d1_10) (by rw [← hL176]; rfl) ?_
  have F185 := (H7.other W183 (Or.inr (own_sne (own_f0 hw) (own_f1 hw) (by decide))))
  have F186 := (H5.wr W183)
  refine own_putf X183 hx hZ hown (own_w hw 18 rfl) e183 N183 H13 F185 F186 (Or.inr ⟨(own_w hw 19 rfl), rfl, hnm⟩) (own_w hw 2 rfl) (ty := .double) (by decide) rfl rfl (hb hby d1_11) ?_
  intro T187 h187 lo187 X187 e187 N187 W187
  have F188 := F185.same W187
  show own_Go _ _ _ _ _ _ _ T187 (mkF m 14 L176 [])
  refine own_alN (w := (.ref a166)) X187 hx (hb hby d1_14) (by rw [← hL176]; rfl) rfl ?_
  refine own_dl (w := f164) X187 hx (hb hby d1_15) (by rw [← hL176]; rfl) ?_
  have F189 := ((H8.other W183 (Or.inr (own_sne (own_f2 hw) (own_f1 hw) (by decide)))).other W187 (Or.inr (own_sne (own_f2 hw) (own_f0 hw) (by decide))))
  have F190 := (F186.wr W187)
  refine own_putf X187 hx hZ hown (own_w hw 20 rfl) e187 N187 H13 F189 F190 (Or.inr ⟨(own_w hw 21 rfl), rfl, hnm⟩) (own_w hw 2 rfl) (ty := .double) (by decide) rfl rfl (hb hby d1_17) ?_
  intro T191 h191 lo191 X191 e191 N191 W191
  have F192 := F189.same W191
  show own_Go _ _ _ _ _ _ _ T191 (mkF m 20 L176 [])
  refine own_alN (w := (.ref a166)) X191 hx (hb hby d1_20) (by rw [← hL176]; rfl) rfl ?_
  refine own_dl (w := f164) X191 hx (hb hby d1_21) (by rw [← hL176]; rfl) ?_
  have F193 := (((H9.other W183 (Or.inr (own_sne (own_f3 hw) (own_f1 hw) (by decide)))).other W187 (Or.inr (own_sne (own_f3 hw) (own_f0 hw) (by decide)))).other W191 (Or.inr (own_sne (own_f3 hw) (own_f2 hw) (by decide))))
  have F194 := (F190.wr W191)
  refine own_putf X191 hx hZ hown (own_w hw 22 rfl) e191 N191 H13 F193 F194 (Or.inr ⟨(own_w hw 23 rfl), rfl, hnm⟩) (own_w hw 2 rfl) (ty := .double) (by decide) rfl rfl (hb hby d1_23) ?_
  intro T195 h195 lo195 X195 e195 N195 W195
  have F196 := F193.same W195
  show own_Go _ _ _ _ _ _ _ T195 (mkF m 26 L176 [])
  refine own_alN (w := (.ref a166)) X195 hx (hb hby d1_26) (by rw [← hL176]; rfl) rfl ?_
  refine own_dl (w := (4607182418800017408 : UInt64)) X195 hx (hb hby d1_27) (by rw [← hL176]; rfl) ?_
  have F197 := ((((H10.other W183 (Or.inr (own_sne (own_f4 hw) (own_f1 hw) (by decide)))).other W187 (Or.inr (own_sne (own_f4 hw) (own_f0 hw) (by decide)))).other W191 (Or.inr (own_sne (own_f4 hw) (own_f2 hw) (by decide)))).other W195 (Or.inr (own_sne (own_f4 hw) (own_f3 hw) (by decide))))
  have F198 := (F194.wr W195)
  refine own_putf X195 hx hZ hown (own_w hw 24 rfl) e195 N195 H13 F197 F198 (Or.inr ⟨(own_w hw 25 rfl), rfl, hnm⟩) (own_w hw 2 rfl) (ty := .double) (by decide) rfl rfl (hb hby d1_29) ?_
  intro T199 h199 lo199 X199 e199 N199 W199
  have F200 := F197.same W199
  show own_Go _ _ _ _ _ _ _ T199 (mkF m 32 L176 [])
  refine own_alN (w := (.ref a166)) X199 hx (hb hby d1_32) (by rw [← hL176]; rfl) rfl ?_
  refine own_dl (w := (4607182418800017408 : UInt64)) X199 hx (hb hby d1_33) (by rw [← hL176]; rfl) ?_
  have F201 := (((((H11.other W183 (Or.inr (own_sne (own_f5 hw) (own_f1 hw) (by decide)))).other W187 (Or.inr (own_sne (own_f5 hw) (own_f0 hw) (by decide)))).other W191 (Or.inr (own_sne (own_f5 hw) (own_f2 hw) (by decide)))).other W195 (Or.inr (own_sne (own_f5 hw) (own_f3 hw) (by decide)))).other W199 (Or.inr (own_sne (own_f5 hw) (own_f4 hw) (by decide))))
  have F202 := (F198.wr W199)
  refine own_putf X199 hx hZ hown (own_w hw 26 rfl) e199 N199 H13 F201 F202 (Or.inr ⟨(own_w hw 27 rfl), rfl, hnm⟩) (own_w hw 2 rfl) (ty := .double) (by decide) rfl rfl (hb hby d1_35) ?_
  intro T203 h203 lo203 X203 e203 N203 W203
  have F204 := F201.same W203
  show own_Go _ _ _ _ _ _ _ T203 (mkF m 38 L176 [])
  have F205 := (((((F184.other W187 (Or.inr (own_sne (own_f1 hw) (own_f0 hw) (by decide)))).other W191 (Or.inr (own_sne (own_f1 hw) (own_f2 hw) (by decide)))).other W195 (Or.inr (own_sne (own_f1 hw) (own_f3 hw) (by decide)))).other W199 (Or.inr (own_sne (own_f1 hw) (own_f4 hw) (by decide)))).other W203 (Or.inr (own_sne (own_f1 hw) (own_f5 hw) (by decide))))
  have F206 := ((((F188.other W191 (Or.inr (own_sne (own_f0 hw) (own_f2 hw) (by decide)))).other W195 (Or.inr (own_sne (own_f0 hw) (own_f3 hw) (by decide)))).other W199 (Or.inr (own_sne (own_f0 hw) (own_f4 hw) (by decide)))).other W203 (Or.inr (own_sne (own_f0 hw) (own_f5 hw) (by decide))))
  have F207 := (((F192.other W195 (Or.inr (own_sne (own_f2 hw) (own_f3 hw) (by decide)))).other W199 (Or.inr (own_sne (own_f2 hw) (own_f4 hw) (by decide)))).other W203 (Or.inr (own_sne (own_f2 hw) (own_f5 hw) (by decide))))
  have F208 := ((F196.other W199 (Or.inr (own_sne (own_f3 hw) (own_f4 hw) (by decide)))).other W203 (Or.inr (own_sne (own_f3 hw) (own_f5 hw) (by decide))))
  have F209 := (F200.other W203 (Or.inr (own_sne (own_f4 hw) (own_f5 hw) (by decide))))
  exact own_ret0 X203 hx hlk hret (hb hby d1_38) e203 ⟨rfl, N203, (((((((Keep.refl _ _).wr W183 (Or.inl (by simp))).wr W187 (Or.inl (by simp))).wr W191 (Or.inl (by simp))).wr W195 (Or.inl (by simp))).wr W199 (Or.inl (by simp))).wr W203 (Or.inl (by simp))), F205, F206, F207, F208, F209, F204⟩ (by decide) (by decide)
def own_s8_Q (Z : State) (f163 : UInt64) (f164 : UInt64) (h0 : Heap) (n0 : Nat) (v_ : Option Value) (h_ : Heap) (L_ : List Loc) : Prop := (fun v h L => ∃ (a166 : Addr), v = some (.ref a166) ∧ Fr n0 L ∧ Keep h0 h [] ∧ h0.size ≤ a166 ∧ Exa Z h a166 own_k0 ∧ Fld Z h a166 own_k0 "low" "D" (.double f163) ∧ Fld Z h a166 own_k0 "gapLow" "D" (.double f164) ∧ Fld Z h a166 own_k0 "gapHigh" "D" (.double f164) ∧ Fld Z h a166 own_k0 "high" "D" (.double f164) ∧ Fld Z h a166 own_k0 "below" "D" (.double (4607182418800017408 : UInt64)) ∧ Fld Z h a166 own_k0 "count" "D" (.double (4607182418800017408 : UInt64))) v_ h_ L_
set_option maxRecDepth 65536 in
set_option maxHeartbeats 40000000 in
theorem own_s8 (l : Launch) (Z : State) (a0 : Array Value) (hw : ∀ d ∈ tables_1, d.before a0 Z = true) (wds : List Jvm.Cond) (f163 : UInt64) (f164 : UInt64) (h0 : Heap) (n0 : Nat) (Z0 : n0 ≤ h0.size)  :
    MetFree l (⟨own_k0, "of", own_k3⟩ : MethodName) (head1 (Jvm.Cond.code (⟨own_k0, "of", own_k3⟩ : MethodName) prog_16_method_2_code 6 (some (.object own_k0)) :: wds) ({ frames := 3, cells := 1, slots := 6, locals := 49 } : Room)) (fun ar_ U_ => ar_ = #[(.double f163), (.double f164), (.double (4607182418800017408 : UInt64))] ∧ Z.Warmed39 U_.vm ∧ U_.heap = h0) (fun _ _ _ _ _ => True) (fun _ U_ o_ V_ => ∃ v_ L_, o_ = .returned v_ ∧ own_s8_Q Z f163 f164 h0 n0 v_ V_.heap L_ ∧ FrameEnd U_ o_ V_ L_ ({ frames := 3, cells := 1, slots := 6, locals := 49 } : Room).cells ({ frames := 3, cells := 1, slots := 6, locals := 49 } : Room).slots) := by
  refine own_met (y := ⟨own_k0, "of", own_k3⟩) (Q := own_s8_Q Z f163 f164 h0 n0) own_pn0 ?_
  intro p e s m below meth c s₁ hx hby hml hZ hown hnm hret hlk X0 e0
  have N0 := Fr.nil n0
  refine own_cast (g' := (mkF m 0 #[.val (.double f163), .second, .val (.double f164), .second, .val (.double (4607182418800017408 : UInt64)), .second] [])) (by first | (simp [entryFrame, mkF, argsToLocals, Value.category]; done) | rfl) ?_
  generalize hL165 : (#[.val (.double f163), .second, .val (.double f164), .second, .val (.double (4607182418800017408 : UInt64)), .second] : Array Slot) = L165
  refine own_newobj X0 hx hZ hown (own_w hw 37 rfl) (own_w hw 2 rfl) (own_w hw 3 rfl) e0 (hb hby d5_0) (by decide) (by decide) ?_
  intro T166 h166 a166 g166 X166 e166 E166 A166 D166
  have ge168 : h0.size ≤ a166 := Nat.le_trans (Nat.le_refl _) (Nat.le_of_eq g166.symm)
  have nw169 : n0 ≤ a166 := Nat.le_trans Z0 (Nat.le_of_eq g166.symm)
  have F170 : Fld Z h166 a166 own_k0 "low" "D" (.double (0 : UInt64)) := D166 (Or.inr (own_w hw 17 rfl)) (ty := .double) (by decide)
  have F171 : Fld Z h166 a166 own_k0 "gapLow" "D" (.double (0 : UInt64)) := D166 (Or.inr (own_w hw 19 rfl)) (ty := .double) (by decide)
  have F172 : Fld Z h166 a166 own_k0 "gapHigh" "D" (.double (0 : UInt64)) := D166 (Or.inr (own_w hw 21 rfl)) (ty := .double) (by decide)
  have F173 : Fld Z h166 a166 own_k0 "high" "D" (.double (0 : UInt64)) := D166 (Or.inr (own_w hw 23 rfl)) (ty := .double) (by decide)
  have F174 : Fld Z h166 a166 own_k0 "below" "D" (.double (0 : UInt64)) := D166 (Or.inr (own_w hw 25 rfl)) (ty := .double) (by decide)
  have F175 : Fld Z h166 a166 own_k0 "count" "D" (.double (0 : UInt64)) := D166 (Or.inr (own_w hw 27 rfl)) (ty := .double) (by decide)
  show own_Go _ _ _ _ _ _ _ T166 (mkF m 3 L165 [(.ref a166)])
  refine own_pre (g' := (mkF m 4 L165 [(.ref a166), (.ref a166)])) (fun t k => XS.dup X166.here hx rfl (hb hby d5_3) rfl rfl k) ?_
  refine own_dlN (w := f163) X166 hx (hb hby d5_4) (by rw [← hL165]; rfl) ?_
  refine own_dlN (w := f164) X166 hx (hb hby d5_5) (by rw [← hL165]; rfl) ?_
  refine own_dlN (w := f164) X166 hx (hb hby d5_6) (by rw [← hL165]; rfl) ?_
  refine own_dlN (w := f164) X166 hx (hb hby d5_7) (by rw [← hL165]; rfl) ?_
  refine own_dl (w := (4607182418800017408 : UInt64)) X166 hx (hb hby d5_8) (by rw [← hL165]; rfl) ?_
  refine own_dl (w := (4607182418800017408 : UInt64)) X166 hx (hb hby d5_10) (by rw [← hL165]; rfl) ?_
  have F210 : n0 ≤ h166.size := (Nat.le_trans Z0 E166.1)
  refine own_init (a := a166) (argsL := [(.double f163), (.double f164), (.double f164), (.double f164), (.double (4607182418800017408 : UInt64)), (.double (4607182418800017408 : UInt64))]) (rest := [(.ref a166)]) X166 hx hZ hown (own_s9 l Z a0 hw [] a166 f163 f164 h166 n0 F210 A166 F170 F171 F172 F173 F174 F175 nw169) rfl (own_w hw 38 rfl) (own_w hw 6 rfl) (own_w hw 7 rfl) (own_w hw 3 rfl) (by decide) e166 (hb hby d5_12) (by rw [hml, ← hL165]; rfl) rfl (lenOf own_pd1 rfl) (by decide) (W := 1) (Nat.le_of_eq rfl) (by decide) (by decide) (by decide) ?_
  intro v211 T211 lo211 X211 Q211
  obtain ⟨h211, e211⟩ : ∃ h, T211.heap = h := ⟨_, rfl⟩
  rw [e211] at Q211
  obtain ⟨rfl, N211, K211, F212, F213, F214, F215, F216, F217⟩ := Q211
  have N211' := Fr.app N0 N211
  show own_Go _ _ _ _ _ _ _ T211 (mkF m 15 L165 [(.ref a166)])
  have F219 := (A166.keep K211)
  exact own_retA X211 hx hlk hret rfl rfl rfl (hb hby d5_15) e211 ⟨a166, rfl, N211', (((Keep.refl _ _).ext E166).trans K211 (allS (Or.inr ge168) all0)), ge168, F219, F212, F213, F214, F215, F216, F217⟩ (by decide) (by decide)
def own_s13_Q (Z : State) (a243 : Addr) (h0 : Heap) (n0 : Nat) (v_ : Option Value) (h_ : Heap) (L_ : List Loc) : Prop := (fun v h L => v = none ∧ Fr n0 L ∧ h = h0) v_ h_ L_
set_option maxRecDepth 65536 in
set_option maxHeartbeats 40000000 in
theorem own_s13 (l : Launch) (Z : State) (a0 : Array Value) (hw : ∀ d ∈ tables_1, d.before a0 Z = true) (wds : List Jvm.Cond) (a243 : Addr) (h0 : Heap) (n0 : Nat) (Z0 : n0 ≤ h0.size)  :
    MetFree l (⟨"java/lang/Record", "<init>", "()V"⟩ : MethodName) (head1 (Jvm.Cond.code (⟨"java/lang/Record", "<init>", "()V"⟩ : MethodName) jdk_30_method_1_code 1 none :: wds) ({ frames := 1, cells := 0, slots := 0, locals := 12 } : Room)) (fun ar_ U_ => ar_ = #[(.ref a243)] ∧ Z.Warmed39 U_.vm ∧ U_.heap = h0) (fun _ _ _ _ _ => True) (fun _ U_ o_ V_ => ∃ v_ L_, o_ = .returned v_ ∧ own_s13_Q Z a243 h0 n0 v_ V_.heap L_ ∧ FrameEnd U_ o_ V_ L_ ({ frames := 1, cells := 0, slots := 0, locals := 12 } : Room).cells ({ frames := 1, cells := 0, slots := 0, locals := 12 } : Room).slots) := by
  refine own_met (y := ⟨"java/lang/Record", "<init>", "()V"⟩) (Q := own_s13_Q Z a243 h0 n0) own_pn2 ?_
  intro p e s m below meth c s₁ hx hby hml hZ hown hnm hret hlk X0 e0
  have N0 := Fr.nil n0
  refine own_cast (g' := (mkF m 0 #[.val (.ref a243)] [])) (by first | (simp [entryFrame, mkF, argsToLocals, Value.category]; done) | rfl) ?_
  refine own_alN (w := (.ref a243)) X0 hx (hb hby d2_0) rfl rfl ?_
  refine own_init0 X0 hx hZ hown (own_w hw 13 rfl) (own_w hw 14 rfl) (own_w hw 15 rfl) e0 (hb hby d2_1) (by rw [hml]; rfl) (by decide) (W := 0) (Nat.le_of_eq rfl) (by decide) ?_
  intro T258 X258 e258
  show own_Go _ _ _ _ _ _ _ T258 (mkF m 4 #[.val (.ref a243)] [])
  exact own_ret0 X258 hx hlk hret (hb hby d2_4) e258 ⟨rfl, N0, rfl⟩ (by decide) (by decide)
def own_s12_Q (Z : State) (a243 : Addr) (f237 : UInt64) (f238 : UInt64) (h0 : Heap) (n0 : Nat) (v_ : Option Value) (h_ : Heap) (L_ : List Loc) : Prop := (fun v h L => v = none ∧ Fr n0 L ∧ Keep h0 h [a243] ∧ Fld Z h a243 own_k0 "low" "D" (.double f237) ∧ Fld Z h a243 own_k0 "gapLow" "D" (.double f238) ∧ Fld Z h a243 own_k0 "gapHigh" "D" (.double f238) ∧ Fld Z h a243 own_k0 "high" "D" (.double f238) ∧ Fld Z h a243 own_k0 "below" "D" (.double (4607182418800017408 : UInt64)) ∧ Fld Z h a243 own_k0 "count" "D" (.double (4607182418800017408 : UInt64))) v_ h_ L_
set_option maxRecDepth 65536 in
set_option maxHeartbeats 40000000 in
theorem own_s12 (l : Launch) (Z : State) (a0 : Array Value) (hw : ∀ d ∈ tables_1, d.before a0 Z = true) (wds : List Jvm.Cond) (a243 : Addr) (f237 : UInt64) (f238 : UInt64) (h0 : Heap) (n0 : Nat) (Z0 : n0 ≤ h0.size) (H5 : Exa Z h0 a243 own_k0) (H6 : Fld Z h0 a243 own_k0 "low" "D" (.double (0 : UInt64))) (H7 : Fld Z h0 a243 own_k0 "gapLow" "D" (.double (0 : UInt64))) (H8 : Fld Z h0 a243 own_k0 "gapHigh" "D" (.double (0 : UInt64))) (H9 : Fld Z h0 a243 own_k0 "high" "D" (.double (0 : UInt64))) (H10 : Fld Z h0 a243 own_k0 "below" "D" (.double (0 : UInt64))) (H11 : Fld Z h0 a243 own_k0 "count" "D" (.double (0 : UInt64))) (H13 : n0 ≤ a243) :
    MetFree l (⟨own_k0, "<init>", "(DDDDDD)V"⟩ : MethodName) (head1 (Jvm.Cond.code (⟨own_k0, "<init>", "(DDDDDD)V"⟩ : MethodName) prog_16_method_1_code 13 none :: wds) ({ frames := 2, cells := 0, slots := 0, locals := 24 } : Room)) (fun ar_ U_ => ar_ = #[(.ref a243), (.double f237), (.double f238), (.double f238), (.double f238), (.double (4607182418800017408 : UInt64)), (.double (4607182418800017408 : UInt64))] ∧ Z.Warmed39 U_.vm ∧ U_.heap = h0) (fun _ _ _ _ _ => True) (fun _ U_ o_ V_ => ∃ v_ L_, o_ = .returned v_ ∧ own_s12_Q Z a243 f237 f238 h0 n0 v_ V_.heap L_ ∧ FrameEnd U_ o_ V_ L_ ({ frames := 2, cells := 0, slots := 0, locals := 24 } : Room).cells ({ frames := 2, cells := 0, slots := 0, locals := 24 } : Room).slots) := by
  refine own_met (y := ⟨own_k0, "<init>", "(DDDDDD)V"⟩) (Q := own_s12_Q Z a243 f237 f238 h0 n0) own_pn0 ?_
  intro p e s m below meth c s₁ hx hby hml hZ hown hnm hret hlk X0 e0
  have N0 := Fr.nil n0
  refine own_cast (g' := (mkF m 0 #[.val (.ref a243), .val (.double f237), .second, .val (.double f238), .second, .val (.double f238), .second, .val (.double f238), .second, .val (.double (4607182418800017408 : UInt64)), .second, .val (.double (4607182418800017408 : UInt64)), .second] [])) (by first | (simp [entryFrame, mkF, argsToLocals, Value.category]; done) | rfl) ?_
  generalize hL253 : (#[.val (.ref a243), .val (.double f237), .second, .val (.double f238), .second, .val (.double f238), .second, .val (.double f238), .second, .val (.double (4607182418800017408 : UInt64)), .second, .val (.double (4607182418800017408 : UInt64)), .second] : Array Slot) = L253
  refine own_alN (w := (.ref a243)) X0 hx (hb hby d1_0) (by rw [← hL253]; rfl) rfl ?_
  refine own_init (a := a243) (argsL := []) (rest := []) X0 hx hZ hown (own_s13 l Z a0 hw [] a243 h0 n0 Z0 ) rfl (own_w hw 8 rfl) (own_w hw 9 rfl) (own_w hw 12 rfl) (own_w hw 11 rfl) (by decide) e0 (hb hby d1_1) (by rw [hml, ← hL253]; rfl) rfl (lenOf own_pd0 rfl) (by decide) (W := 0) (Nat.le_of_eq rfl) (by decide) (by decide) (by decide) ?_
  intro v259 T259 lo259 X259 Q259
  obtain ⟨h259, e259⟩ : ∃ h, T259.heap = h := ⟨_, rfl⟩
  rw [e259] at Q259
  obtain ⟨rfl, N259, K259⟩ := Q259
  have N259' := Fr.app N0 N259
  have e259' : T259.heap = h0 := e259.trans K259
  show own_Go _ _ _ _ _ _ _ T259 (mkF m 4 L253 [])
  refine own_alN (w := (.ref a243)) X259 hx (hb hby d1_4) (by rw [← hL253]; rfl) rfl ?_
  refine own_dlN (w := f237) X259 hx (hb hby d1_5) (by rw [← hL253]; rfl) ?_
  refine own_putf X259 hx hZ hown (own_w hw 16 rfl) e259' N259' H13 H6 H5 (Or.inr ⟨(own_w hw 17 rfl), rfl, hnm⟩) (own_w hw 2 rfl) (ty := .double) (by decide) rfl rfl (hb hby d1_6) ?_
  intro T260 h260 lo260 X260 e260 N260 W260
  have F261 := H6.same W260
  show own_Go _ _ _ _ _ _ _ T260 (mkF m 9 L253 [])
  refine own_alN (w := (.ref a243)) X260 hx (hb hby d1_9) (by rw [← hL253]; rfl) rfl ?_
  refine own_dlN (w := f238) X260 hx (hb hby d1_10) (by rw [← hL253]; rfl) ?_
  have F262 := (H7.other W260 (Or.inr (own_sne (own_f0 hw) (own_f1 hw) (by decide))))
  have F263 := (H5.wr W260)
  refine own_putf X260 hx hZ hown (own_w hw 18 rfl) e260 N260 H13 F262 F263 (Or.inr ⟨(own_w hw 19 rfl), rfl, hnm⟩) (own_w hw 2 rfl) (ty := .double) (by decide) rfl rfl (hb hby d1_11) ?_
  intro T264 h264 lo264 X264 e264 N264 W264
  have F265 := F262.same W264
  show own_Go _ _ _ _ _ _ _ T264 (mkF m 14 L253 [])
  refine own_alN (w := (.ref a243)) X264 hx (hb hby d1_14) (by rw [← hL253]; rfl) rfl ?_
  refine own_dl (w := f238) X264 hx (hb hby d1_15) (by rw [← hL253]; rfl) ?_
  have F266 := ((H8.other W260 (Or.inr (own_sne (own_f2 hw) (own_f1 hw) (by decide)))).other W264 (Or.inr (own_sne (own_f2 hw) (own_f0 hw) (by decide))))
  have F267 := (F263.wr W264)
  refine own_putf X264 hx hZ hown (own_w hw 20 rfl) e264 N264 H13 F266 F267 (Or.inr ⟨(own_w hw 21 rfl), rfl, hnm⟩) (own_w hw 2 rfl) (ty := .double) (by decide) rfl rfl (hb hby d1_17) ?_
  intro T268 h268 lo268 X268 e268 N268 W268
  have F269 := F266.same W268
  show own_Go _ _ _ _ _ _ _ T268 (mkF m 20 L253 [])
  refine own_alN (w := (.ref a243)) X268 hx (hb hby d1_20) (by rw [← hL253]; rfl) rfl ?_
  refine own_dl (w := f238) X268 hx (hb hby d1_21) (by rw [← hL253]; rfl) ?_
  have F270 := (((H9.other W260 (Or.inr (own_sne (own_f3 hw) (own_f1 hw) (by decide)))).other W264 (Or.inr (own_sne (own_f3 hw) (own_f0 hw) (by decide)))).other W268 (Or.inr (own_sne (own_f3 hw) (own_f2 hw) (by decide))))
  have F271 := (F267.wr W268)
  refine own_putf X268 hx hZ hown (own_w hw 22 rfl) e268 N268 H13 F270 F271 (Or.inr ⟨(own_w hw 23 rfl), rfl, hnm⟩) (own_w hw 2 rfl) (ty := .double) (by decide) rfl rfl (hb hby d1_23) ?_
  intro T272 h272 lo272 X272 e272 N272 W272
  have F273 := F270.same W272
  show own_Go _ _ _ _ _ _ _ T272 (mkF m 26 L253 [])
  refine own_alN (w := (.ref a243)) X272 hx (hb hby d1_26) (by rw [← hL253]; rfl) rfl ?_
  refine own_dl (w := (4607182418800017408 : UInt64)) X272 hx (hb hby d1_27) (by rw [← hL253]; rfl) ?_
  have F274 := ((((H10.other W260 (Or.inr (own_sne (own_f4 hw) (own_f1 hw) (by decide)))).other W264 (Or.inr (own_sne (own_f4 hw) (own_f0 hw) (by decide)))).other W268 (Or.inr (own_sne (own_f4 hw) (own_f2 hw) (by decide)))).other W272 (Or.inr (own_sne (own_f4 hw) (own_f3 hw) (by decide))))
  have F275 := (F271.wr W272)
  refine own_putf X272 hx hZ hown (own_w hw 24 rfl) e272 N272 H13 F274 F275 (Or.inr ⟨(own_w hw 25 rfl), rfl, hnm⟩) (own_w hw 2 rfl) (ty := .double) (by decide) rfl rfl (hb hby d1_29) ?_
  intro T276 h276 lo276 X276 e276 N276 W276
  have F277 := F274.same W276
  show own_Go _ _ _ _ _ _ _ T276 (mkF m 32 L253 [])
  refine own_alN (w := (.ref a243)) X276 hx (hb hby d1_32) (by rw [← hL253]; rfl) rfl ?_
  refine own_dl (w := (4607182418800017408 : UInt64)) X276 hx (hb hby d1_33) (by rw [← hL253]; rfl) ?_
  have F278 := (((((H11.other W260 (Or.inr (own_sne (own_f5 hw) (own_f1 hw) (by decide)))).other W264 (Or.inr (own_sne (own_f5 hw) (own_f0 hw) (by decide)))).other W268 (Or.inr (own_sne (own_f5 hw) (own_f2 hw) (by decide)))).other W272 (Or.inr (own_sne (own_f5 hw) (own_f3 hw) (by decide)))).other W276 (Or.inr (own_sne (own_f5 hw) (own_f4 hw) (by decide))))
  have F279 := (F275.wr W276)
  refine own_putf X276 hx hZ hown (own_w hw 26 rfl) e276 N276 H13 F278 F279 (Or.inr ⟨(own_w hw 27 rfl), rfl, hnm⟩) (own_w hw 2 rfl) (ty := .double) (by decide) rfl rfl (hb hby d1_35) ?_
  intro T280 h280 lo280 X280 e280 N280 W280
  have F281 := F278.same W280
  show own_Go _ _ _ _ _ _ _ T280 (mkF m 38 L253 [])
  have F282 := (((((F261.other W264 (Or.inr (own_sne (own_f1 hw) (own_f0 hw) (by decide)))).other W268 (Or.inr (own_sne (own_f1 hw) (own_f2 hw) (by decide)))).other W272 (Or.inr (own_sne (own_f1 hw) (own_f3 hw) (by decide)))).other W276 (Or.inr (own_sne (own_f1 hw) (own_f4 hw) (by decide)))).other W280 (Or.inr (own_sne (own_f1 hw) (own_f5 hw) (by decide))))
  have F283 := ((((F265.other W268 (Or.inr (own_sne (own_f0 hw) (own_f2 hw) (by decide)))).other W272 (Or.inr (own_sne (own_f0 hw) (own_f3 hw) (by decide)))).other W276 (Or.inr (own_sne (own_f0 hw) (own_f4 hw) (by decide)))).other W280 (Or.inr (own_sne (own_f0 hw) (own_f5 hw) (by decide))))
  have F284 := (((F269.other W272 (Or.inr (own_sne (own_f2 hw) (own_f3 hw) (by decide)))).other W276 (Or.inr (own_sne (own_f2 hw) (own_f4 hw) (by decide)))).other W280 (Or.inr (own_sne (own_f2 hw) (own_f5 hw) (by decide))))
  have F285 := ((F273.other W276 (Or.inr (own_sne (own_f3 hw) (own_f4 hw) (by decide)))).other W280 (Or.inr (own_sne (own_f3 hw) (own_f5 hw) (by decide))))
  have F286 := (F277.other W280 (Or.inr (own_sne (own_f4 hw) (own_f5 hw) (by decide))))
  exact own_ret0 X280 hx hlk hret (hb hby d1_38) e280 ⟨rfl, N280, (((((((Keep.refl _ _).wr W260 (Or.inl (by simp))).wr W264 (Or.inl (by simp))).wr W268 (Or.inl (by simp))).wr W272 (Or.inl (by simp))).wr W276 (Or.inl (by simp))).wr W280 (Or.inl (by simp))), F282, F283, F284, F285, F286, F281⟩ (by decide) (by decide)
def own_s11_Q (Z : State) (f237 : UInt64) (f238 : UInt64) (h0 : Heap) (n0 : Nat) (v_ : Option Value) (h_ : Heap) (L_ : List Loc) : Prop := (fun v h L => ∃ (a243 : Addr), v = some (.ref a243) ∧ Fr n0 L ∧ Keep h0 h [] ∧ h0.size ≤ a243 ∧ Exa Z h a243 own_k0 ∧ Fld Z h a243 own_k0 "low" "D" (.double f237) ∧ Fld Z h a243 own_k0 "gapLow" "D" (.double f238) ∧ Fld Z h a243 own_k0 "gapHigh" "D" (.double f238) ∧ Fld Z h a243 own_k0 "high" "D" (.double f238) ∧ Fld Z h a243 own_k0 "below" "D" (.double (4607182418800017408 : UInt64)) ∧ Fld Z h a243 own_k0 "count" "D" (.double (4607182418800017408 : UInt64))) v_ h_ L_
set_option maxRecDepth 65536 in
set_option maxHeartbeats 40000000 in
theorem own_s11 (l : Launch) (Z : State) (a0 : Array Value) (hw : ∀ d ∈ tables_1, d.before a0 Z = true) (wds : List Jvm.Cond) (f237 : UInt64) (f238 : UInt64) (h0 : Heap) (n0 : Nat) (Z0 : n0 ≤ h0.size)  :
    MetFree l (⟨own_k0, "of", own_k3⟩ : MethodName) (head1 (Jvm.Cond.code (⟨own_k0, "of", own_k3⟩ : MethodName) prog_16_method_2_code 6 (some (.object own_k0)) :: wds) ({ frames := 3, cells := 1, slots := 6, locals := 49 } : Room)) (fun ar_ U_ => ar_ = #[(.double f237), (.double f238), (.double (4607182418800017408 : UInt64))] ∧ Z.Warmed39 U_.vm ∧ U_.heap = h0) (fun _ _ _ _ _ => True) (fun _ U_ o_ V_ => ∃ v_ L_, o_ = .returned v_ ∧ own_s11_Q Z f237 f238 h0 n0 v_ V_.heap L_ ∧ FrameEnd U_ o_ V_ L_ ({ frames := 3, cells := 1, slots := 6, locals := 49 } : Room).cells ({ frames := 3, cells := 1, slots := 6, locals := 49 } : Room).slots) := by
  refine own_met (y := ⟨own_k0, "of", own_k3⟩) (Q := own_s11_Q Z f237 f238 h0 n0) own_pn0 ?_
  intro p e s m below meth c s₁ hx hby hml hZ hown hnm hret hlk X0 e0
  have N0 := Fr.nil n0
  refine own_cast (g' := (mkF m 0 #[.val (.double f237), .second, .val (.double f238), .second, .val (.double (4607182418800017408 : UInt64)), .second] [])) (by first | (simp [entryFrame, mkF, argsToLocals, Value.category]; done) | rfl) ?_
  generalize hL239 : (#[.val (.double f237), .second, .val (.double f238), .second, .val (.double (4607182418800017408 : UInt64)), .second] : Array Slot) = L239
  refine own_newobj X0 hx hZ hown (own_w hw 37 rfl) (own_w hw 2 rfl) (own_w hw 3 rfl) e0 (hb hby d5_0) (by decide) (by decide) ?_
  intro T243 h243 a243 g243 X243 e243 E243 A243 D243
  have ge245 : h0.size ≤ a243 := Nat.le_trans (Nat.le_refl _) (Nat.le_of_eq g243.symm)
  have nw246 : n0 ≤ a243 := Nat.le_trans Z0 (Nat.le_of_eq g243.symm)
  have F247 : Fld Z h243 a243 own_k0 "low" "D" (.double (0 : UInt64)) := D243 (Or.inr (own_w hw 17 rfl)) (ty := .double) (by decide)
  have F248 : Fld Z h243 a243 own_k0 "gapLow" "D" (.double (0 : UInt64)) := D243 (Or.inr (own_w hw 19 rfl)) (ty := .double) (by decide)
  have F249 : Fld Z h243 a243 own_k0 "gapHigh" "D" (.double (0 : UInt64)) := D243 (Or.inr (own_w hw 21 rfl)) (ty := .double) (by decide)
  have F250 : Fld Z h243 a243 own_k0 "high" "D" (.double (0 : UInt64)) := D243 (Or.inr (own_w hw 23 rfl)) (ty := .double) (by decide)
  have F251 : Fld Z h243 a243 own_k0 "below" "D" (.double (0 : UInt64)) := D243 (Or.inr (own_w hw 25 rfl)) (ty := .double) (by decide)
  have F252 : Fld Z h243 a243 own_k0 "count" "D" (.double (0 : UInt64)) := D243 (Or.inr (own_w hw 27 rfl)) (ty := .double) (by decide)
  show own_Go _ _ _ _ _ _ _ T243 (mkF m 3 L239 [(.ref a243)])
  refine own_pre (g' := (mkF m 4 L239 [(.ref a243), (.ref a243)])) (fun t k => XS.dup X243.here hx rfl (hb hby d5_3) rfl rfl k) ?_
  refine own_dlN (w := f237) X243 hx (hb hby d5_4) (by rw [← hL239]; rfl) ?_
  refine own_dlN (w := f238) X243 hx (hb hby d5_5) (by rw [← hL239]; rfl) ?_
  refine own_dlN (w := f238) X243 hx (hb hby d5_6) (by rw [← hL239]; rfl) ?_
  refine own_dlN (w := f238) X243 hx (hb hby d5_7) (by rw [← hL239]; rfl) ?_
  refine own_dl (w := (4607182418800017408 : UInt64)) X243 hx (hb hby d5_8) (by rw [← hL239]; rfl) ?_
  refine own_dl (w := (4607182418800017408 : UInt64)) X243 hx (hb hby d5_10) (by rw [← hL239]; rfl) ?_
  have F287 : n0 ≤ h243.size := (Nat.le_trans Z0 E243.1)
  refine own_init (a := a243) (argsL := [(.double f237), (.double f238), (.double f238), (.double f238), (.double (4607182418800017408 : UInt64)), (.double (4607182418800017408 : UInt64))]) (rest := [(.ref a243)]) X243 hx hZ hown (own_s12 l Z a0 hw [] a243 f237 f238 h243 n0 F287 A243 F247 F248 F249 F250 F251 F252 nw246) rfl (own_w hw 38 rfl) (own_w hw 6 rfl) (own_w hw 7 rfl) (own_w hw 3 rfl) (by decide) e243 (hb hby d5_12) (by rw [hml, ← hL239]; rfl) rfl (lenOf own_pd1 rfl) (by decide) (W := 1) (Nat.le_of_eq rfl) (by decide) (by decide) (by decide) ?_
  intro v288 T288 lo288 X288 Q288
  obtain ⟨h288, e288⟩ : ∃ h, T288.heap = h := ⟨_, rfl⟩
  rw [e288] at Q288
  obtain ⟨rfl, N288, K288, F289, F290, F291, F292, F293, F294⟩ := Q288
  have N288' := Fr.app N0 N288
  show own_Go _ _ _ _ _ _ _ T288 (mkF m 15 L239 [(.ref a243)])
  have F296 := (A243.keep K288)
  exact own_retA X288 hx hlk hret rfl rfl rfl (hb hby d5_15) e288 ⟨a243, rfl, N288', (((Keep.refl _ _).ext E243).trans K288 (allS (Or.inr ge245) all0)), ge245, F296, F289, F290, F291, F292, F293, F294⟩ (by decide) (by decide)
theorem d6_0 : decode prog_16_method_8_code 0 = .ok (.bipush 12, 2) := by decide +kernel
theorem d6_2 : decode prog_16_method_8_code 2 = .ok (.newarray .double, 2) := by decide +kernel
theorem d6_4 : decode prog_16_method_8_code 4 = .ok (.astore_n 2, 1) := by decide +kernel
theorem d6_5 : decode prog_16_method_8_code 5 = .ok (.aload_n 1, 1) := by decide +kernel
theorem d6_6 : decode prog_16_method_8_code 6 = .ok (.aload_n 2, 1) := by decide +kernel
theorem d6_7 : decode prog_16_method_8_code 7 = .ok (.aload_n 0, 1) := by decide +kernel
theorem d6_8 : decode prog_16_method_8_code 8 = .ok (.aload_n 2, 1) := by decide +kernel
theorem d6_9 : decode prog_16_method_8_code 9 = .ok (.iconst 0, 1) := by decide +kernel
theorem d6_10 : decode prog_16_method_8_code 10 = .ok (.invokevirtual 56, 3) := by decide +kernel
theorem d6_13 : decode prog_16_method_8_code 13 = .ok (.invokevirtual 56, 3) := by decide +kernel
theorem d6_16 : decode prog_16_method_8_code 16 = .ok (.istore_n 3, 1) := by decide +kernel
theorem d6_17 : decode prog_16_method_8_code 17 = .ok (.iconst 3, 1) := by decide +kernel
theorem d6_18 : decode prog_16_method_8_code 18 = .ok (.istore 4, 2) := by decide +kernel
theorem d6_20 : decode prog_16_method_8_code 20 = .ok (.iload 4, 2) := by decide +kernel
theorem d6_22 : decode prog_16_method_8_code 22 = .ok (.iload_n 3, 1) := by decide +kernel
theorem d6_23 : decode prog_16_method_8_code 23 = .ok (.if_icmp .ge 69, 3) := by decide +kernel
theorem d6_26 : decode prog_16_method_8_code 26 = .ok (.iload 4, 2) := by decide +kernel
theorem d6_28 : decode prog_16_method_8_code 28 = .ok (.istore 5, 2) := by decide +kernel
theorem d6_30 : decode prog_16_method_8_code 30 = .ok (.iload 5, 2) := by decide +kernel
theorem d6_32 : decode prog_16_method_8_code 32 = .ok (.ifCond .le 54, 3) := by decide +kernel
theorem d6_35 : decode prog_16_method_8_code 35 = .ok (.aload_n 2, 1) := by decide +kernel
theorem d6_36 : decode prog_16_method_8_code 36 = .ok (.iload 5, 2) := by decide +kernel
theorem d6_38 : decode prog_16_method_8_code 38 = .ok (.daload, 1) := by decide +kernel
theorem d6_39 : decode prog_16_method_8_code 39 = .ok (.aload_n 2, 1) := by decide +kernel
theorem d6_40 : decode prog_16_method_8_code 40 = .ok (.iload 5, 2) := by decide +kernel
theorem d6_42 : decode prog_16_method_8_code 42 = .ok (.iconst 3, 1) := by decide +kernel
theorem d6_43 : decode prog_16_method_8_code 43 = .ok (.isub, 1) := by decide +kernel
theorem d6_44 : decode prog_16_method_8_code 44 = .ok (.daload, 1) := by decide +kernel
theorem d6_45 : decode prog_16_method_8_code 45 = .ok (.dcmp .g, 1) := by decide +kernel
theorem d6_46 : decode prog_16_method_8_code 46 = .ok (.ifCond .ge 40, 3) := by decide +kernel
theorem d6_49 : decode prog_16_method_8_code 49 = .ok (.iconst 0, 1) := by decide +kernel
theorem d6_50 : decode prog_16_method_8_code 50 = .ok (.istore 6, 2) := by decide +kernel
theorem d6_52 : decode prog_16_method_8_code 52 = .ok (.iload 6, 2) := by decide +kernel
theorem d6_54 : decode prog_16_method_8_code 54 = .ok (.iconst 3, 1) := by decide +kernel
theorem d6_55 : decode prog_16_method_8_code 55 = .ok (.if_icmp .ge 25, 3) := by decide +kernel
theorem d6_58 : decode prog_16_method_8_code 58 = .ok (.aload_n 2, 1) := by decide +kernel
theorem d6_59 : decode prog_16_method_8_code 59 = .ok (.iload 5, 2) := by decide +kernel
theorem d6_61 : decode prog_16_method_8_code 61 = .ok (.iload 6, 2) := by decide +kernel
theorem d6_63 : decode prog_16_method_8_code 63 = .ok (.iadd, 1) := by decide +kernel
theorem d6_64 : decode prog_16_method_8_code 64 = .ok (.iload 5, 2) := by decide +kernel
theorem d6_66 : decode prog_16_method_8_code 66 = .ok (.iconst 3, 1) := by decide +kernel
theorem d6_67 : decode prog_16_method_8_code 67 = .ok (.isub, 1) := by decide +kernel
theorem d6_68 : decode prog_16_method_8_code 68 = .ok (.iload 6, 2) := by decide +kernel
theorem d6_70 : decode prog_16_method_8_code 70 = .ok (.iadd, 1) := by decide +kernel
theorem d6_71 : decode prog_16_method_8_code 71 = .ok (.invokestatic 60, 3) := by decide +kernel
theorem d6_74 : decode prog_16_method_8_code 74 = .ok (.iinc 6 1, 3) := by decide +kernel
theorem d6_77 : decode prog_16_method_8_code 77 = .ok (.goto (-25), 3) := by decide +kernel
theorem d6_80 : decode prog_16_method_8_code 80 = .ok (.iinc 5 (-3), 3) := by decide +kernel
theorem d6_83 : decode prog_16_method_8_code 83 = .ok (.goto (-53), 3) := by decide +kernel
theorem d6_86 : decode prog_16_method_8_code 86 = .ok (.iinc 4 3, 3) := by decide +kernel
theorem d6_89 : decode prog_16_method_8_code 89 = .ok (.goto (-69), 3) := by decide +kernel
theorem d6_92 : decode prog_16_method_8_code 92 = .ok (.new 64, 3) := by decide +kernel
theorem d6_95 : decode prog_16_method_8_code 95 = .ok (.dup, 1) := by decide +kernel
theorem d6_96 : decode prog_16_method_8_code 96 = .ok (.invokespecial 66, 3) := by decide +kernel
theorem d6_99 : decode prog_16_method_8_code 99 = .ok (.astore 4, 2) := by decide +kernel
theorem d6_101 : decode prog_16_method_8_code 101 = .ok (.iconst 0, 1) := by decide +kernel
theorem d6_102 : decode prog_16_method_8_code 102 = .ok (.istore 5, 2) := by decide +kernel
theorem d6_104 : decode prog_16_method_8_code 104 = .ok (.iload 5, 2) := by decide +kernel
theorem d6_106 : decode prog_16_method_8_code 106 = .ok (.iload_n 3, 1) := by decide +kernel
theorem d6_107 : decode prog_16_method_8_code 107 = .ok (.if_icmp .ge 30, 3) := by decide +kernel
theorem d6_110 : decode prog_16_method_8_code 110 = .ok (.aload 4, 2) := by decide +kernel
theorem d6_112 : decode prog_16_method_8_code 112 = .ok (.aload_n 2, 1) := by decide +kernel
theorem d6_113 : decode prog_16_method_8_code 113 = .ok (.iload 5, 2) := by decide +kernel
theorem d6_115 : decode prog_16_method_8_code 115 = .ok (.daload, 1) := by decide +kernel
theorem d6_116 : decode prog_16_method_8_code 116 = .ok (.aload_n 2, 1) := by decide +kernel
theorem d6_117 : decode prog_16_method_8_code 117 = .ok (.iload 5, 2) := by decide +kernel
theorem d6_119 : decode prog_16_method_8_code 119 = .ok (.iconst 1, 1) := by decide +kernel
theorem d6_120 : decode prog_16_method_8_code 120 = .ok (.iadd, 1) := by decide +kernel
theorem d6_121 : decode prog_16_method_8_code 121 = .ok (.daload, 1) := by decide +kernel
theorem d6_122 : decode prog_16_method_8_code 122 = .ok (.aload_n 2, 1) := by decide +kernel
theorem d6_123 : decode prog_16_method_8_code 123 = .ok (.iload 5, 2) := by decide +kernel
theorem d6_125 : decode prog_16_method_8_code 125 = .ok (.iconst 2, 1) := by decide +kernel
theorem d6_126 : decode prog_16_method_8_code 126 = .ok (.iadd, 1) := by decide +kernel
theorem d6_127 : decode prog_16_method_8_code 127 = .ok (.daload, 1) := by decide +kernel
theorem d6_128 : decode prog_16_method_8_code 128 = .ok (.invokevirtual 67, 3) := by decide +kernel
theorem d6_131 : decode prog_16_method_8_code 131 = .ok (.iinc 5 3, 3) := by decide +kernel
theorem d6_134 : decode prog_16_method_8_code 134 = .ok (.goto (-30), 3) := by decide +kernel
theorem d6_137 : decode prog_16_method_8_code 137 = .ok (.aload 4, 2) := by decide +kernel
theorem d6_139 : decode prog_16_method_8_code 139 = .ok (.invokevirtual 71, 3) := by decide +kernel
theorem d6_142 : decode prog_16_method_8_code 142 = .ok (.areturn, 1) := by decide +kernel
theorem d7_0 : decode prog_16_method_10_code 0 = .ok (.aload_n 0, 1) := by decide +kernel
theorem d7_1 : decode prog_16_method_10_code 1 = .ok (.invokevirtual 31, 3) := by decide +kernel
theorem d7_4 : decode prog_16_method_10_code 4 = .ok (.ifCond .eq 5, 3) := by decide +kernel
theorem d7_9 : decode prog_16_method_10_code 9 = .ok (.aload_n 1, 1) := by decide +kernel
theorem d7_10 : decode prog_16_method_10_code 10 = .ok (.iload_n 2, 1) := by decide +kernel
theorem d7_11 : decode prog_16_method_10_code 11 = .ok (.aload_n 0, 1) := by decide +kernel
theorem d7_12 : decode prog_16_method_10_code 12 = .ok (.getfield 7, 3) := by decide +kernel
theorem d7_15 : decode prog_16_method_10_code 15 = .ok (.dastore, 1) := by decide +kernel
theorem d7_16 : decode prog_16_method_10_code 16 = .ok (.aload_n 0, 1) := by decide +kernel
theorem d7_17 : decode prog_16_method_10_code 17 = .ok (.invokevirtual 84, 3) := by decide +kernel
theorem d7_20 : decode prog_16_method_10_code 20 = .ok (.ifCond .ne 25, 3) := by decide +kernel
theorem d7_23 : decode prog_16_method_10_code 23 = .ok (.aload_n 1, 1) := by decide +kernel
theorem d7_24 : decode prog_16_method_10_code 24 = .ok (.iload_n 2, 1) := by decide +kernel
theorem d7_25 : decode prog_16_method_10_code 25 = .ok (.iconst 1, 1) := by decide +kernel
theorem d7_26 : decode prog_16_method_10_code 26 = .ok (.iadd, 1) := by decide +kernel
theorem d7_27 : decode prog_16_method_10_code 27 = .ok (.aload_n 0, 1) := by decide +kernel
theorem d7_28 : decode prog_16_method_10_code 28 = .ok (.getfield 19, 3) := by decide +kernel
theorem d7_31 : decode prog_16_method_10_code 31 = .ok (.dastore, 1) := by decide +kernel
theorem d7_32 : decode prog_16_method_10_code 32 = .ok (.aload_n 1, 1) := by decide +kernel
theorem d7_33 : decode prog_16_method_10_code 33 = .ok (.iload_n 2, 1) := by decide +kernel
theorem d7_34 : decode prog_16_method_10_code 34 = .ok (.iconst 2, 1) := by decide +kernel
theorem d7_35 : decode prog_16_method_10_code 35 = .ok (.iadd, 1) := by decide +kernel
theorem d7_36 : decode prog_16_method_10_code 36 = .ok (.aload_n 0, 1) := by decide +kernel
theorem d7_37 : decode prog_16_method_10_code 37 = .ok (.getfield 25, 3) := by decide +kernel
theorem d7_40 : decode prog_16_method_10_code 40 = .ok (.dastore, 1) := by decide +kernel
theorem d7_41 : decode prog_16_method_10_code 41 = .ok (.iload_n 2, 1) := by decide +kernel
theorem d7_42 : decode prog_16_method_10_code 42 = .ok (.iconst 3, 1) := by decide +kernel
theorem d7_43 : decode prog_16_method_10_code 43 = .ok (.iadd, 1) := by decide +kernel
theorem d7_44 : decode prog_16_method_10_code 44 = .ok (.ireturn, 1) := by decide +kernel
theorem d8_0 : decode prog_16_method_3_code 0 = .ok (.aload_n 0, 1) := by decide +kernel
theorem d8_1 : decode prog_16_method_3_code 1 = .ok (.getfield 7, 3) := by decide +kernel
theorem d8_4 : decode prog_16_method_3_code 4 = .ok (.aload_n 0, 1) := by decide +kernel
theorem d8_5 : decode prog_16_method_3_code 5 = .ok (.getfield 19, 3) := by decide +kernel
theorem d8_8 : decode prog_16_method_3_code 8 = .ok (.dcmp .l, 1) := by decide +kernel
theorem d8_9 : decode prog_16_method_3_code 9 = .ok (.ifCond .le 7, 3) := by decide +kernel
theorem d8_16 : decode prog_16_method_3_code 16 = .ok (.iconst 0, 1) := by decide +kernel
theorem d8_17 : decode prog_16_method_3_code 17 = .ok (.ireturn, 1) := by decide +kernel
def own_s16_Q (Z : State) (a221 : Addr) (f163 : UInt64) (f164 : UInt64) (p4 : Int32) (v7 : Int32) (w0 : Int32) (v15 : Int32) (p5 : Int32) (h0 : Heap) (n0 : Nat) (v_ : Option Value) (h_ : Heap) (L_ : List Loc) : Prop := (fun v h L => v = some (.int (0 : Int32)) ∧ Fr n0 L ∧ h = h0) v_ h_ L_
set_option maxRecDepth 65536 in
set_option maxHeartbeats 40000000 in
theorem own_s16 (l : Launch) (Z : State) (a0 : Array Value) (hw : ∀ d ∈ tables_1, d.before a0 Z = true) (wds : List Jvm.Cond) (a221 : Addr) (f163 : UInt64) (f164 : UInt64) (p4 : Int32) (v7 : Int32) (w0 : Int32) (v15 : Int32) (p5 : Int32) (h0 : Heap) (n0 : Nat) (Z0 : n0 ≤ h0.size) (H6 : Fld Z h0 a221 own_k0 "low" "D" (.double f163)) (H9 : Fld Z h0 a221 own_k0 "high" "D" (.double f164)) (H14 : FP.Core.DInt p4.toInt f163) (H15 : FP.Core.DInt p4.toInt f164) (H16 : 0 ≤ v7.toInt ∧ v7.toInt ≤ 65535) (H17 : 0 ≤ w0.toInt ∧ w0.toInt ≤ 65535) (H18 : 0 ≤ v15.toInt ∧ v15.toInt ≤ 65535) (H19 : p4.toInt < p5.toInt) :
    MetFree l (⟨own_k0, "isEmpty", "()Z"⟩ : MethodName) (head1 (Jvm.Cond.code (⟨own_k0, "isEmpty", "()Z"⟩ : MethodName) prog_16_method_3_code 1 (some .boolean) :: wds) ({ frames := 0, cells := 0, slots := 0, locals := 0 } : Room)) (fun ar_ U_ => ar_ = #[(.ref a221)] ∧ Z.Warmed39 U_.vm ∧ U_.heap = h0) (fun _ _ _ _ _ => True) (fun _ U_ o_ V_ => ∃ v_ L_, o_ = .returned v_ ∧ own_s16_Q Z a221 f163 f164 p4 v7 w0 v15 p5 h0 n0 v_ V_.heap L_ ∧ FrameEnd U_ o_ V_ L_ ({ frames := 0, cells := 0, slots := 0, locals := 0 } : Room).cells ({ frames := 0, cells := 0, slots := 0, locals := 0 } : Room).slots) := by
  refine own_met (y := ⟨own_k0, "isEmpty", "()Z"⟩) (Q := own_s16_Q Z a221 f163 f164 p4 v7 w0 v15 p5 h0 n0) own_pn0 ?_
  intro p e s m below meth c s₁ hx hby hml hZ hown hnm hret hlk X0 e0
  have N0 := Fr.nil n0
  refine own_cast (g' := (mkF m 0 #[.val (.ref a221)] [])) (by first | (simp [entryFrame, mkF, argsToLocals, Value.category]; done) | rfl) ?_
  refine own_alN (w := (.ref a221)) X0 hx (hb hby d8_0) rfl rfl ?_
  refine own_getf X0 hx hZ hown (own_w hw 16 rfl) e0 H6 (hb hby d8_1) ?_
  intro T347 X347 e347
  show own_Go _ _ _ _ _ _ _ T347 (mkF m 4 #[.val (.ref a221)] [(.double f163)])
  refine own_alN (w := (.ref a221)) X347 hx (hb hby d8_4) rfl rfl ?_
  refine own_getf X347 hx hZ hown (own_w hw 22 rfl) e347 H9 (hb hby d8_5) ?_
  intro T348 X348 e348
  show own_Go _ _ _ _ _ _ _ T348 (mkF m 8 #[.val (.ref a221)] [(.double f164), (.double f163)])
  obtain ⟨k349, hk349⟩ : ∃ z, own_c p4.toInt p4.toInt = z := ⟨_, rfl⟩
  refine own_pre (g' := (mkF m 9 #[.val (.ref a221)] [(.int k349)])) (fun t k => XS.dcmpS X348.here hx rfl (hb hby d8_8) rfl ((own_dcmp H14 H15 _).trans hk349) k) ?_
  have hc350 : ¬ (0 : Int32) < k349 := by rw [← hk349, own_c_gt] <;> (have := H16; have := H17; have := H18; have := H19; have := rng32 p4; omega)
  refine own_pre (g' := (mkF m 16 #[.val (.ref a221)] [])) (fun t k => XS.ifYes X348.here hx rfl (pc0 := 9) (pc' := 16) rfl (hb hby d8_9) rfl ((if0 _ _).trans (flt hc350).2.2.2) (by decide) (by decide) k) ?_
  refine own_ic X348 hx (0 : Int32) (hb hby d8_16) rfl ?_
  exact own_retZ X348 hx hlk hret rfl (hb hby d8_17) e348 ⟨rfl, N0, rfl⟩ (by decide) (by decide)
def own_s17_Q (Z : State) (a221 : Addr) (f164 : UInt64) (p4 : Int32) (v7 : Int32) (w0 : Int32) (v15 : Int32) (p5 : Int32) (h0 : Heap) (n0 : Nat) (v_ : Option Value) (h_ : Heap) (L_ : List Loc) : Prop := (fun v h L => v = some (.int (0 : Int32)) ∧ Fr n0 L ∧ h = h0) v_ h_ L_
set_option maxRecDepth 65536 in
set_option maxHeartbeats 40000000 in
theorem own_s17 (l : Launch) (Z : State) (a0 : Array Value) (hw : ∀ d ∈ tables_1, d.before a0 Z = true) (wds : List Jvm.Cond) (a221 : Addr) (f164 : UInt64) (p4 : Int32) (v7 : Int32) (w0 : Int32) (v15 : Int32) (p5 : Int32) (h0 : Heap) (n0 : Nat) (Z0 : n0 ≤ h0.size) (H7 : Fld Z h0 a221 own_k0 "gapLow" "D" (.double f164)) (H8 : Fld Z h0 a221 own_k0 "gapHigh" "D" (.double f164)) (H15 : FP.Core.DInt p4.toInt f164) (H16 : 0 ≤ v7.toInt ∧ v7.toInt ≤ 65535) (H17 : 0 ≤ w0.toInt ∧ w0.toInt ≤ 65535) (H18 : 0 ≤ v15.toInt ∧ v15.toInt ≤ 65535) (H19 : p4.toInt < p5.toInt) :
    MetFree l (⟨own_k0, "hasGap", "()Z"⟩ : MethodName) (head1 (Jvm.Cond.code (⟨own_k0, "hasGap", "()Z"⟩ : MethodName) prog_16_method_4_code 1 (some .boolean) :: wds) ({ frames := 0, cells := 0, slots := 0, locals := 0 } : Room)) (fun ar_ U_ => ar_ = #[(.ref a221)] ∧ Z.Warmed39 U_.vm ∧ U_.heap = h0) (fun _ _ _ _ _ => True) (fun _ U_ o_ V_ => ∃ v_ L_, o_ = .returned v_ ∧ own_s17_Q Z a221 f164 p4 v7 w0 v15 p5 h0 n0 v_ V_.heap L_ ∧ FrameEnd U_ o_ V_ L_ ({ frames := 0, cells := 0, slots := 0, locals := 0 } : Room).cells ({ frames := 0, cells := 0, slots := 0, locals := 0 } : Room).slots) := by
  refine own_met (y := ⟨own_k0, "hasGap", "()Z"⟩) (Q := own_s17_Q Z a221 f164 p4 v7 w0 v15 p5 h0 n0) own_pn0 ?_
  intro p e s m below meth c s₁ hx hby hml hZ hown hnm hret hlk X0 e0
  have N0 := Fr.nil n0
  refine own_cast (g' := (mkF m 0 #[.val (.ref a221)] [])) (by first | (simp [entryFrame, mkF, argsToLocals, Value.category]; done) | rfl) ?_
  refine own_alN (w := (.ref a221)) X0 hx (hb hby d4_0) rfl rfl ?_
  refine own_getf X0 hx hZ hown (own_w hw 18 rfl) e0 H7 (hb hby d4_1) ?_
  intro T366 X366 e366
  show own_Go _ _ _ _ _ _ _ T366 (mkF m 4 #[.val (.ref a221)] [(.double f164)])
  refine own_alN (w := (.ref a221)) X366 hx (hb hby d4_4) rfl rfl ?_
  refine own_getf X366 hx hZ hown (own_w hw 20 rfl) e366 H8 (hb hby d4_5) ?_
  intro T367 X367 e367
  show own_Go _ _ _ _ _ _ _ T367 (mkF m 8 #[.val (.ref a221)] [(.double f164), (.double f164)])
  obtain ⟨k368, hk368⟩ : ∃ z, own_c p4.toInt p4.toInt = z := ⟨_, rfl⟩
  refine own_pre (g' := (mkF m 9 #[.val (.ref a221)] [(.int k368)])) (fun t k => XS.dcmpS X367.here hx rfl (hb hby d4_8) rfl ((own_dcmp H15 H15 _).trans hk368) k) ?_
  have hc369 : ¬ k368 < (0 : Int32) := by rw [← hk368, own_c_lt] <;> (have := H16; have := H17; have := H18; have := H19; have := rng32 p4; omega)
  refine own_pre (g' := (mkF m 16 #[.val (.ref a221)] [])) (fun t k => XS.ifYes X367.here hx rfl (pc0 := 9) (pc' := 16) rfl (hb hby d4_9) rfl ((if0 _ _).trans (flt hc369).2.1) (by decide) (by decide) k) ?_
  refine own_ic X367 hx (0 : Int32) (hb hby d4_16) rfl ?_
  exact own_retZ X367 hx hlk hret rfl (hb hby d4_17) e367 ⟨rfl, N0, rfl⟩ (by decide) (by decide)
def own_s15_Q (Z : State) (a221 : Addr) (a328 : Addr) (f163 : UInt64) (f164 : UInt64) (p4 : Int32) (v7 : Int32) (w0 : Int32) (v15 : Int32) (p5 : Int32) (h0 : Heap) (n0 : Nat) (v_ : Option Value) (h_ : Heap) (L_ : List Loc) : Prop := (fun v h L => v = some (.int (3 : Int32)) ∧ Fr n0 L ∧ Keep h0 h [a328] ∧ own_Ary Z h a328 .double ([(.double f163), (.double f164), (.double (4607182418800017408 : UInt64))] ++ own_rD 9)) v_ h_ L_
set_option maxRecDepth 65536 in
set_option maxHeartbeats 40000000 in
theorem own_s15 (l : Launch) (Z : State) (a0 : Array Value) (hw : ∀ d ∈ tables_1, d.before a0 Z = true) (wds : List Jvm.Cond) (a221 : Addr) (a328 : Addr) (f163 : UInt64) (f164 : UInt64) (p4 : Int32) (v7 : Int32) (w0 : Int32) (v15 : Int32) (p5 : Int32) (h0 : Heap) (n0 : Nat) (Z0 : n0 ≤ h0.size) (H5 : Exa Z h0 a221 own_k0) (H6 : Fld Z h0 a221 own_k0 "low" "D" (.double f163)) (H7 : Fld Z h0 a221 own_k0 "gapLow" "D" (.double f164)) (H8 : Fld Z h0 a221 own_k0 "gapHigh" "D" (.double f164)) (H9 : Fld Z h0 a221 own_k0 "high" "D" (.double f164)) (H11 : Fld Z h0 a221 own_k0 "count" "D" (.double (4607182418800017408 : UInt64))) (H12 : own_Ary Z h0 a328 .double (own_rD 12)) (H16 : a221 < a328) (H18 : n0 ≤ a328) (H19 : FP.Core.DInt p4.toInt f163) (H20 : FP.Core.DInt p4.toInt f164) (H21 : 0 ≤ v7.toInt ∧ v7.toInt ≤ 65535) (H22 : 0 ≤ w0.toInt ∧ w0.toInt ≤ 65535) (H23 : 0 ≤ v15.toInt ∧ v15.toInt ≤ 65535) (H24 : p4.toInt < p5.toInt) :
    MetFree l (⟨own_k0, "blocks", "([DI)I"⟩ : MethodName) (head1 (Jvm.Cond.code (⟨own_k0, "blocks", "([DI)I"⟩ : MethodName) prog_16_method_10_code 3 (some .int) :: wds) ({ frames := 1, cells := 0, slots := 0, locals := 12 } : Room)) (fun ar_ U_ => ar_ = #[(.ref a221), (.ref a328), (.int (0 : Int32))] ∧ Z.Warmed39 U_.vm ∧ U_.heap = h0) (fun _ _ _ _ _ => True) (fun _ U_ o_ V_ => ∃ v_ L_, o_ = .returned v_ ∧ own_s15_Q Z a221 a328 f163 f164 p4 v7 w0 v15 p5 h0 n0 v_ V_.heap L_ ∧ FrameEnd U_ o_ V_ L_ ({ frames := 1, cells := 0, slots := 0, locals := 12 } : Room).cells ({ frames := 1, cells := 0, slots := 0, locals := 12 } : Room).slots) := by
  refine own_met (y := ⟨own_k0, "blocks", "([DI)I"⟩) (Q := own_s15_Q Z a221 a328 f163 f164 p4 v7 w0 v15 p5 h0 n0) own_pn0 ?_
  intro p e s m below meth c s₁ hx hby hml hZ hown hnm hret hlk X0 e0
  have N0 := Fr.nil n0
  refine own_cast (g' := (mkF m 0 #[.val (.ref a221), .val (.ref a328), .val (.int (0 : Int32))] [])) (by first | (simp [entryFrame, mkF, argsToLocals, Value.category]; done) | rfl) ?_
  refine own_alN (w := (.ref a221)) X0 hx (hb hby d7_0) rfl rfl ?_
  refine own_callv (a := a221) (argsL := []) (rest := []) X0 hx hZ hown (own_s16 l Z a0 hw [] a221 f163 f164 p4 v7 w0 v15 p5 h0 n0 Z0 H6 H9 H19 H20 H21 H22 H23 H24) H5 (own_w hw 51 rfl) (own_w hw 52 rfl) (own_w hw 54 rfl) (own_w hw 53 rfl) (own_w hw 55 rfl) (own_w hw 3 rfl) (by decide) e0 (hb hby d7_1) (by rw [hml]; rfl) rfl (lenOf own_pd2 rfl) (by decide) (W := 0) (Nat.le_of_eq rfl) (by decide) (by decide) (by decide) ?_
  intro v351 T351 lo351 X351 Q351
  obtain ⟨h351, e351⟩ : ∃ h, T351.heap = h := ⟨_, rfl⟩
  rw [e351] at Q351
  obtain ⟨rfl, N351, K351⟩ := Q351
  have N351' := Fr.app N0 N351
  have e351' : T351.heap = h0 := e351.trans K351
  show own_Go _ _ _ _ _ _ _ T351 (mkF m 4 #[.val (.ref a221), .val (.ref a328), .val (.int (0 : Int32))] [(.int (0 : Int32))])
  refine own_pre (g' := (mkF m 9 #[.val (.ref a221), .val (.ref a328), .val (.int (0 : Int32))] [])) (fun t k => XS.ifYes X351.here hx rfl (pc0 := 4) (pc' := 9) rfl (hb hby d7_4) rfl (by decide) (by decide) (by decide) k) ?_
  refine own_alN (w := (.ref a328)) X351 hx (hb hby d7_9) rfl rfl ?_
  refine own_ilN (w := (0 : Int32)) X351 hx (hb hby d7_10) rfl ?_
  refine own_alN (w := (.ref a221)) X351 hx (hb hby d7_11) rfl rfl ?_
  refine own_getf X351 hx hZ hown (own_w hw 16 rfl) e351' H6 (hb hby d7_12) ?_
  intro T352 X352 e352
  show own_Go _ _ _ _ _ _ _ T352 (mkF m 15 #[.val (.ref a221), .val (.ref a328), .val (.int (0 : Int32))] [(.double f163), (.int (0 : Int32)), (.ref a328)])
  refine own_dastore X352 hx hZ e352 N351' H18 H12 (hb hby d7_15) (n := 0) (by decide) (by decide) (by show 0 < 12; decide) ?_
  intro T353 h353 lo353 X353 e353 N353 W353
  have F354 : own_Ary Z h353 a328 .double ([(.double f163)] ++ own_rD 11) := H12.set W353
  show own_Go _ _ _ _ _ _ _ T353 (mkF m 16 #[.val (.ref a221), .val (.ref a328), .val (.int (0 : Int32))] [])
  refine own_alN (w := (.ref a221)) X353 hx (hb hby d7_16) rfl rfl ?_
  have F359 := (H5.wr W353)
  have F361 := (H7.other W353 (Or.inl (Nat.ne_of_lt H16)))
  have F362 := (H8.other W353 (Or.inl (Nat.ne_of_lt H16)))
  have F363 := (H9.other W353 (Or.inl (Nat.ne_of_lt H16)))
  have F365 := (H11.other W353 (Or.inl (Nat.ne_of_lt H16)))
  have F370 : n0 ≤ h353.size := (Nat.le_trans Z0 (Nat.le_of_eq W353.size.symm))
  refine own_callv (a := a221) (argsL := []) (rest := []) X353 hx hZ hown (own_s17 l Z a0 hw [] a221 f164 p4 v7 w0 v15 p5 h353 n0 F370 F361 F362 H20 H21 H22 H23 H24) F359 (own_w hw 56 rfl) (own_w hw 29 rfl) (own_w hw 31 rfl) (own_w hw 30 rfl) (own_w hw 32 rfl) (own_w hw 3 rfl) (by decide) e353 (hb hby d7_17) (by rw [hml]; rfl) rfl (lenOf own_pd2 rfl) (by decide) (W := 0) (Nat.le_of_eq rfl) (by decide) (by decide) (by decide) ?_
  intro v371 T371 lo371 X371 Q371
  obtain ⟨h371, e371⟩ : ∃ h, T371.heap = h := ⟨_, rfl⟩
  rw [e371] at Q371
  obtain ⟨rfl, N371, K371⟩ := Q371
  have N371' := Fr.app N353 N371
  have e371' : T371.heap = h353 := e371.trans K371
  show own_Go _ _ _ _ _ _ _ T371 (mkF m 20 #[.val (.ref a221), .val (.ref a328), .val (.int (0 : Int32))] [(.int (0 : Int32))])
  refine own_pre (g' := (mkF m 23 #[.val (.ref a221), .val (.ref a328), .val (.int (0 : Int32))] [])) (fun t k => XS.ifNo X371.here hx rfl (hb hby d7_20) rfl (by decide) k) ?_
  refine own_alN (w := (.ref a328)) X371 hx (hb hby d7_23) rfl rfl ?_
  refine own_ilN (w := (0 : Int32)) X371 hx (hb hby d7_24) rfl ?_
  refine own_ic X371 hx (1 : Int32) (hb hby d7_25) rfl ?_
  refine own_pre (g' := (mkF m 27 #[.val (.ref a221), .val (.ref a328), .val (.int (0 : Int32))] [(.int (1 : Int32)), (.ref a328)])) (fun t k => XS.iadd X371.here hx rfl (hb hby d7_26) rfl k) ?_
  refine own_alN (w := (.ref a221)) X371 hx (hb hby d7_27) rfl rfl ?_
  refine own_getf X371 hx hZ hown (own_w hw 22 rfl) e371' F363 (hb hby d7_28) ?_
  intro T372 X372 e372
  show own_Go _ _ _ _ _ _ _ T372 (mkF m 31 #[.val (.ref a221), .val (.ref a328), .val (.int (0 : Int32))] [(.double f164), (.int (1 : Int32)), (.ref a328)])
  refine own_dastore X372 hx hZ e372 N371' H18 F354 (hb hby d7_31) (n := 1) (by decide) (by decide) (by show 1 < 12; decide) ?_
  intro T373 h373 lo373 X373 e373 N373 W373
  have F374 : own_Ary Z h373 a328 .double ([(.double f163), (.double f164)] ++ own_rD 10) := F354.set W373
  show own_Go _ _ _ _ _ _ _ T373 (mkF m 32 #[.val (.ref a221), .val (.ref a328), .val (.int (0 : Int32))] [])
  refine own_alN (w := (.ref a328)) X373 hx (hb hby d7_32) rfl rfl ?_
  refine own_ilN (w := (0 : Int32)) X373 hx (hb hby d7_33) rfl ?_
  refine own_ic X373 hx (2 : Int32) (hb hby d7_34) rfl ?_
  refine own_pre (g' := (mkF m 36 #[.val (.ref a221), .val (.ref a328), .val (.int (0 : Int32))] [(.int (2 : Int32)), (.ref a328)])) (fun t k => XS.iadd X373.here hx rfl (hb hby d7_35) rfl k) ?_
  refine own_alN (w := (.ref a221)) X373 hx (hb hby d7_36) rfl rfl ?_
  have F375 := (F365.other W373 (Or.inl (Nat.ne_of_lt H16)))
  refine own_getf X373 hx hZ hown (own_w hw 26 rfl) e373 F375 (hb hby d7_37) ?_
  intro T376 X376 e376
  show own_Go _ _ _ _ _ _ _ T376 (mkF m 40 #[.val (.ref a221), .val (.ref a328), .val (.int (0 : Int32))] [(.double (4607182418800017408 : UInt64)), (.int (2 : Int32)), (.ref a328)])
  refine own_dastore X376 hx hZ e376 N373 H18 F374 (hb hby d7_40) (n := 2) (by decide) (by decide) (by show 2 < 12; decide) ?_
  intro T377 h377 lo377 X377 e377 N377 W377
  have F378 : own_Ary Z h377 a328 .double ([(.double f163), (.double f164), (.double (4607182418800017408 : UInt64))] ++ own_rD 9) := F374.set W377
  show own_Go _ _ _ _ _ _ _ T377 (mkF m 41 #[.val (.ref a221), .val (.ref a328), .val (.int (0 : Int32))] [])
  refine own_ilN (w := (0 : Int32)) X377 hx (hb hby d7_41) rfl ?_
  refine own_ic X377 hx (3 : Int32) (hb hby d7_42) rfl ?_
  refine own_pre (g' := (mkF m 44 #[.val (.ref a221), .val (.ref a328), .val (.int (0 : Int32))] [(.int (3 : Int32))])) (fun t k => XS.iadd X377.here hx rfl (hb hby d7_43) rfl k) ?_
  exact own_retI X377 hx hlk hret (hb hby d7_44) e377 ⟨rfl, N377, ((((Keep.refl _ _).wr W353 (Or.inl (by simp))).wr W373 (Or.inl (by simp))).wr W377 (Or.inl (by simp))), F378⟩ (by decide) (by decide)
theorem own_pd4 : parseMethodDescriptor "([DI)I" = some ⟨[(.array .double), .int], some .int⟩ := by decide +kernel
def own_s19_Q (Z : State) (a299 : Addr) (f237 : UInt64) (f238 : UInt64) (p5 : Int32) (v7 : Int32) (w0 : Int32) (v15 : Int32) (p4 : Int32) (h0 : Heap) (n0 : Nat) (v_ : Option Value) (h_ : Heap) (L_ : List Loc) : Prop := (fun v h L => v = some (.int (0 : Int32)) ∧ Fr n0 L ∧ h = h0) v_ h_ L_
set_option maxRecDepth 65536 in
set_option maxHeartbeats 40000000 in
theorem own_s19 (l : Launch) (Z : State) (a0 : Array Value) (hw : ∀ d ∈ tables_1, d.before a0 Z = true) (wds : List Jvm.Cond) (a299 : Addr) (f237 : UInt64) (f238 : UInt64) (p5 : Int32) (v7 : Int32) (w0 : Int32) (v15 : Int32) (p4 : Int32) (h0 : Heap) (n0 : Nat) (Z0 : n0 ≤ h0.size) (H6 : Fld Z h0 a299 own_k0 "low" "D" (.double f237)) (H9 : Fld Z h0 a299 own_k0 "high" "D" (.double f238)) (H14 : FP.Core.DInt p5.toInt f237) (H15 : FP.Core.DInt p5.toInt f238) (H16 : 0 ≤ v7.toInt ∧ v7.toInt ≤ 65535) (H17 : 0 ≤ w0.toInt ∧ w0.toInt ≤ 65535) (H18 : 0 ≤ v15.toInt ∧ v15.toInt ≤ 65535) (H19 : p4.toInt < p5.toInt) :
    MetFree l (⟨own_k0, "isEmpty", "()Z"⟩ : MethodName) (head1 (Jvm.Cond.code (⟨own_k0, "isEmpty", "()Z"⟩ : MethodName) prog_16_method_3_code 1 (some .boolean) :: wds) ({ frames := 0, cells := 0, slots := 0, locals := 0 } : Room)) (fun ar_ U_ => ar_ = #[(.ref a299)] ∧ Z.Warmed39 U_.vm ∧ U_.heap = h0) (fun _ _ _ _ _ => True) (fun _ U_ o_ V_ => ∃ v_ L_, o_ = .returned v_ ∧ own_s19_Q Z a299 f237 f238 p5 v7 w0 v15 p4 h0 n0 v_ V_.heap L_ ∧ FrameEnd U_ o_ V_ L_ ({ frames := 0, cells := 0, slots := 0, locals := 0 } : Room).cells ({ frames := 0, cells := 0, slots := 0, locals := 0 } : Room).slots) := by
  refine own_met (y := ⟨own_k0, "isEmpty", "()Z"⟩) (Q := own_s19_Q Z a299 f237 f238 p5 v7 w0 v15 p4 h0 n0) own_pn0 ?_
  intro p e s m below meth c s₁ hx hby hml hZ hown hnm hret hlk X0 e0
  have N0 := Fr.nil n0
  refine own_cast (g' := (mkF m 0 #[.val (.ref a299)] [])) (by first | (simp [entryFrame, mkF, argsToLocals, Value.category]; done) | rfl) ?_
  refine own_alN (w := (.ref a299)) X0 hx (hb hby d8_0) rfl rfl ?_
  refine own_getf X0 hx hZ hown (own_w hw 16 rfl) e0 H6 (hb hby d8_1) ?_
  intro T394 X394 e394
  show own_Go _ _ _ _ _ _ _ T394 (mkF m 4 #[.val (.ref a299)] [(.double f237)])
  refine own_alN (w := (.ref a299)) X394 hx (hb hby d8_4) rfl rfl ?_
  refine own_getf X394 hx hZ hown (own_w hw 22 rfl) e394 H9 (hb hby d8_5) ?_
  intro T395 X395 e395
  show own_Go _ _ _ _ _ _ _ T395 (mkF m 8 #[.val (.ref a299)] [(.double f238), (.double f237)])
  obtain ⟨k396, hk396⟩ : ∃ z, own_c p5.toInt p5.toInt = z := ⟨_, rfl⟩
  refine own_pre (g' := (mkF m 9 #[.val (.ref a299)] [(.int k396)])) (fun t k => XS.dcmpS X395.here hx rfl (hb hby d8_8) rfl ((own_dcmp H14 H15 _).trans hk396) k) ?_
  have hc397 : ¬ (0 : Int32) < k396 := by rw [← hk396, own_c_gt] <;> (have := H16; have := H17; have := H18; have := H19; have := rng32 p5; omega)
  refine own_pre (g' := (mkF m 16 #[.val (.ref a299)] [])) (fun t k => XS.ifYes X395.here hx rfl (pc0 := 9) (pc' := 16) rfl (hb hby d8_9) rfl ((if0 _ _).trans (flt hc397).2.2.2) (by decide) (by decide) k) ?_
  refine own_ic X395 hx (0 : Int32) (hb hby d8_16) rfl ?_
  exact own_retZ X395 hx hlk hret rfl (hb hby d8_17) e395 ⟨rfl, N0, rfl⟩ (by decide) (by decide)
def own_s20_Q (Z : State) (a299 : Addr) (f238 : UInt64) (p5 : Int32) (v7 : Int32) (w0 : Int32) (v15 : Int32) (p4 : Int32) (h0 : Heap) (n0 : Nat) (v_ : Option Value) (h_ : Heap) (L_ : List Loc) : Prop := (fun v h L => v = some (.int (0 : Int32)) ∧ Fr n0 L ∧ h = h0) v_ h_ L_
set_option maxRecDepth 65536 in
set_option maxHeartbeats 40000000 in
theorem own_s20 (l : Launch) (Z : State) (a0 : Array Value) (hw : ∀ d ∈ tables_1, d.before a0 Z = true) (wds : List Jvm.Cond) (a299 : Addr) (f238 : UInt64) (p5 : Int32) (v7 : Int32) (w0 : Int32) (v15 : Int32) (p4 : Int32) (h0 : Heap) (n0 : Nat) (Z0 : n0 ≤ h0.size) (H7 : Fld Z h0 a299 own_k0 "gapLow" "D" (.double f238)) (H8 : Fld Z h0 a299 own_k0 "gapHigh" "D" (.double f238)) (H15 : FP.Core.DInt p5.toInt f238) (H16 : 0 ≤ v7.toInt ∧ v7.toInt ≤ 65535) (H17 : 0 ≤ w0.toInt ∧ w0.toInt ≤ 65535) (H18 : 0 ≤ v15.toInt ∧ v15.toInt ≤ 65535) (H19 : p4.toInt < p5.toInt) :
    MetFree l (⟨own_k0, "hasGap", "()Z"⟩ : MethodName) (head1 (Jvm.Cond.code (⟨own_k0, "hasGap", "()Z"⟩ : MethodName) prog_16_method_4_code 1 (some .boolean) :: wds) ({ frames := 0, cells := 0, slots := 0, locals := 0 } : Room)) (fun ar_ U_ => ar_ = #[(.ref a299)] ∧ Z.Warmed39 U_.vm ∧ U_.heap = h0) (fun _ _ _ _ _ => True) (fun _ U_ o_ V_ => ∃ v_ L_, o_ = .returned v_ ∧ own_s20_Q Z a299 f238 p5 v7 w0 v15 p4 h0 n0 v_ V_.heap L_ ∧ FrameEnd U_ o_ V_ L_ ({ frames := 0, cells := 0, slots := 0, locals := 0 } : Room).cells ({ frames := 0, cells := 0, slots := 0, locals := 0 } : Room).slots) := by
  refine own_met (y := ⟨own_k0, "hasGap", "()Z"⟩) (Q := own_s20_Q Z a299 f238 p5 v7 w0 v15 p4 h0 n0) own_pn0 ?_
  intro p e s m below meth c s₁ hx hby hml hZ hown hnm hret hlk X0 e0
  have N0 := Fr.nil n0
  refine own_cast (g' := (mkF m 0 #[.val (.ref a299)] [])) (by first | (simp [entryFrame, mkF, argsToLocals, Value.category]; done) | rfl) ?_
  refine own_alN (w := (.ref a299)) X0 hx (hb hby d4_0) rfl rfl ?_
  refine own_getf X0 hx hZ hown (own_w hw 18 rfl) e0 H7 (hb hby d4_1) ?_
  intro T413 X413 e413
  show own_Go _ _ _ _ _ _ _ T413 (mkF m 4 #[.val (.ref a299)] [(.double f238)])
  refine own_alN (w := (.ref a299)) X413 hx (hb hby d4_4) rfl rfl ?_
  refine own_getf X413 hx hZ hown (own_w hw 20 rfl) e413 H8 (hb hby d4_5) ?_
  intro T414 X414 e414
  show own_Go _ _ _ _ _ _ _ T414 (mkF m 8 #[.val (.ref a299)] [(.double f238), (.double f238)])
  obtain ⟨k415, hk415⟩ : ∃ z, own_c p5.toInt p5.toInt = z := ⟨_, rfl⟩
  refine own_pre (g' := (mkF m 9 #[.val (.ref a299)] [(.int k415)])) (fun t k => XS.dcmpS X414.here hx rfl (hb hby d4_8) rfl ((own_dcmp H15 H15 _).trans hk415) k) ?_
  have hc416 : ¬ k415 < (0 : Int32) := by rw [← hk415, own_c_lt] <;> (have := H16; have := H17; have := H18; have := H19; have := rng32 p5; omega)
  refine own_pre (g' := (mkF m 16 #[.val (.ref a299)] [])) (fun t k => XS.ifYes X414.here hx rfl (pc0 := 9) (pc' := 16) rfl (hb hby d4_9) rfl ((if0 _ _).trans (flt hc416).2.1) (by decide) (by decide) k) ?_
  refine own_ic X414 hx (0 : Int32) (hb hby d4_16) rfl ?_
  exact own_retZ X414 hx hlk hret rfl (hb hby d4_17) e414 ⟨rfl, N0, rfl⟩ (by decide) (by decide)
def own_s18_Q (Z : State) (a299 : Addr) (a328 : Addr) (f237 : UInt64) (f238 : UInt64) (f163 : UInt64) (f164 : UInt64) (p5 : Int32) (p4 : Int32) (v7 : Int32) (w0 : Int32) (v15 : Int32) (h0 : Heap) (n0 : Nat) (v_ : Option Value) (h_ : Heap) (L_ : List Loc) : Prop := (fun v h L => v = some (.int (6 : Int32)) ∧ Fr n0 L ∧ Keep h0 h [a328] ∧ own_Ary Z h a328 .double ([(.double f163), (.double f164), (.double (4607182418800017408 : UInt64)), (.double f237), (.double f238), (.double (4607182418800017408 : UInt64))] ++ own_rD 6)) v_ h_ L_
set_option maxRecDepth 65536 in
set_option maxHeartbeats 40000000 in
theorem own_s18 (l : Launch) (Z : State) (a0 : Array Value) (hw : ∀ d ∈ tables_1, d.before a0 Z = true) (wds : List Jvm.Cond) (a299 : Addr) (a328 : Addr) (f237 : UInt64) (f238 : UInt64) (f163 : UInt64) (f164 : UInt64) (p5 : Int32) (p4 : Int32) (v7 : Int32) (w0 : Int32) (v15 : Int32) (h0 : Heap) (n0 : Nat) (Z0 : n0 ≤ h0.size) (H5 : Exa Z h0 a299 own_k0) (H6 : Fld Z h0 a299 own_k0 "low" "D" (.double f237)) (H7 : Fld Z h0 a299 own_k0 "gapLow" "D" (.double f238)) (H8 : Fld Z h0 a299 own_k0 "gapHigh" "D" (.double f238)) (H9 : Fld Z h0 a299 own_k0 "high" "D" (.double f238)) (H11 : Fld Z h0 a299 own_k0 "count" "D" (.double (4607182418800017408 : UInt64))) (H13 : own_Ary Z h0 a328 .double ([(.double f163), (.double f164), (.double (4607182418800017408 : UInt64))] ++ own_rD 9)) (H16 : a299 < a328) (H18 : n0 ≤ a328) (H19 : FP.Core.DInt p5.toInt f237) (H20 : FP.Core.DInt p5.toInt f238) (H23 : 0 ≤ v7.toInt ∧ v7.toInt ≤ 65535) (H24 : 0 ≤ w0.toInt ∧ w0.toInt ≤ 65535) (H25 : 0 ≤ v15.toInt ∧ v15.toInt ≤ 65535) (H26 : p4.toInt < p5.toInt) :
    MetFree l (⟨own_k0, "blocks", "([DI)I"⟩ : MethodName) (head1 (Jvm.Cond.code (⟨own_k0, "blocks", "([DI)I"⟩ : MethodName) prog_16_method_10_code 3 (some .int) :: wds) ({ frames := 1, cells := 0, slots := 0, locals := 12 } : Room)) (fun ar_ U_ => ar_ = #[(.ref a299), (.ref a328), (.int (3 : Int32))] ∧ Z.Warmed39 U_.vm ∧ U_.heap = h0) (fun _ _ _ _ _ => True) (fun _ U_ o_ V_ => ∃ v_ L_, o_ = .returned v_ ∧ own_s18_Q Z a299 a328 f237 f238 f163 f164 p5 p4 v7 w0 v15 h0 n0 v_ V_.heap L_ ∧ FrameEnd U_ o_ V_ L_ ({ frames := 1, cells := 0, slots := 0, locals := 12 } : Room).cells ({ frames := 1, cells := 0, slots := 0, locals := 12 } : Room).slots) := by
  refine own_met (y := ⟨own_k0, "blocks", "([DI)I"⟩) (Q := own_s18_Q Z a299 a328 f237 f238 f163 f164 p5 p4 v7 w0 v15 h0 n0) own_pn0 ?_
  intro p e s m below meth c s₁ hx hby hml hZ hown hnm hret hlk X0 e0
  have N0 := Fr.nil n0
  refine own_cast (g' := (mkF m 0 #[.val (.ref a299), .val (.ref a328), .val (.int (3 : Int32))] [])) (by first | (simp [entryFrame, mkF, argsToLocals, Value.category]; done) | rfl) ?_
  refine own_alN (w := (.ref a299)) X0 hx (hb hby d7_0) rfl rfl ?_
  refine own_callv (a := a299) (argsL := []) (rest := []) X0 hx hZ hown (own_s19 l Z a0 hw [] a299 f237 f238 p5 v7 w0 v15 p4 h0 n0 Z0 H6 H9 H19 H20 H23 H24 H25 H26) H5 (own_w hw 51 rfl) (own_w hw 52 rfl) (own_w hw 54 rfl) (own_w hw 53 rfl) (own_w hw 55 rfl) (own_w hw 3 rfl) (by decide) e0 (hb hby d7_1) (by rw [hml]; rfl) rfl (lenOf own_pd2 rfl) (by decide) (W := 0) (Nat.le_of_eq rfl) (by decide) (by decide) (by decide) ?_
  intro v398 T398 lo398 X398 Q398
  obtain ⟨h398, e398⟩ : ∃ h, T398.heap = h := ⟨_, rfl⟩
  rw [e398] at Q398
  obtain ⟨rfl, N398, K398⟩ := Q398
  have N398' := Fr.app N0 N398
  have e398' : T398.heap = h0 := e398.trans K398
  show own_Go _ _ _ _ _ _ _ T398 (mkF m 4 #[.val (.ref a299), .val (.ref a328), .val (.int (3 : Int32))] [(.int (0 : Int32))])
  refine own_pre (g' := (mkF m 9 #[.val (.ref a299), .val (.ref a328), .val (.int (3 : Int32))] [])) (fun t k => XS.ifYes X398.here hx rfl (pc0 := 4) (pc' := 9) rfl (hb hby d7_4) rfl (by decide) (by decide) (by decide) k) ?_
  refine own_alN (w := (.ref a328)) X398 hx (hb hby d7_9) rfl rfl ?_
  refine own_ilN (w := (3 : Int32)) X398 hx (hb hby d7_10) rfl ?_
  refine own_alN (w := (.ref a299)) X398 hx (hb hby d7_11) rfl rfl ?_
  refine own_getf X398 hx hZ hown (own_w hw 16 rfl) e398' H6 (hb hby d7_12) ?_
  intro T399 X399 e399
  show own_Go _ _ _ _ _ _ _ T399 (mkF m 15 #[.val (.ref a299), .val (.ref a328), .val (.int (3 : Int32))] [(.double f237), (.int (3 : Int32)), (.ref a328)])
  refine own_dastore X399 hx hZ e399 N398' H18 H13 (hb hby d7_15) (n := 3) (by decide) (by decide) (by show 3 < 12; decide) ?_
  intro T400 h400 lo400 X400 e400 N400 W400
  have F401 : own_Ary Z h400 a328 .double ([(.double f163), (.double f164), (.double (4607182418800017408 : UInt64)), (.double f237)] ++ own_rD 8) := H13.set W400
  show own_Go _ _ _ _ _ _ _ T400 (mkF m 16 #[.val (.ref a299), .val (.ref a328), .val (.int (3 : Int32))] [])
  refine own_alN (w := (.ref a299)) X400 hx (hb hby d7_16) rfl rfl ?_
  have F406 := (H5.wr W400)
  have F408 := (H7.other W400 (Or.inl (Nat.ne_of_lt H16)))
  have F409 := (H8.other W400 (Or.inl (Nat.ne_of_lt H16)))
  have F410 := (H9.other W400 (Or.inl (Nat.ne_of_lt H16)))
  have F412 := (H11.other W400 (Or.inl (Nat.ne_of_lt H16)))
  have F417 : n0 ≤ h400.size := (Nat.le_trans Z0 (Nat.le_of_eq W400.size.symm))
  refine own_callv (a := a299) (argsL := []) (rest := []) X400 hx hZ hown (own_s20 l Z a0 hw [] a299 f238 p5 v7 w0 v15 p4 h400 n0 F417 F408 F409 H20 H23 H24 H25 H26) F406 (own_w hw 56 rfl) (own_w hw 29 rfl) (own_w hw 31 rfl) (own_w hw 30 rfl) (own_w hw 32 rfl) (own_w hw 3 rfl) (by decide) e400 (hb hby d7_17) (by rw [hml]; rfl) rfl (lenOf own_pd2 rfl) (by decide) (W := 0) (Nat.le_of_eq rfl) (by decide) (by decide) (by decide) ?_
  intro v418 T418 lo418 X418 Q418
  obtain ⟨h418, e418⟩ : ∃ h, T418.heap = h := ⟨_, rfl⟩
  rw [e418] at Q418
  obtain ⟨rfl, N418, K418⟩ := Q418
  have N418' := Fr.app N400 N418
  have e418' : T418.heap = h400 := e418.trans K418
  show own_Go _ _ _ _ _ _ _ T418 (mkF m 20 #[.val (.ref a299), .val (.ref a328), .val (.int (3 : Int32))] [(.int (0 : Int32))])
  refine own_pre (g' := (mkF m 23 #[.val (.ref a299), .val (.ref a328), .val (.int (3 : Int32))] [])) (fun t k => XS.ifNo X418.here hx rfl (hb hby d7_20) rfl (by decide) k) ?_
  refine own_alN (w := (.ref a328)) X418 hx (hb hby d7_23) rfl rfl ?_
  refine own_ilN (w := (3 : Int32)) X418 hx (hb hby d7_24) rfl ?_
  refine own_ic X418 hx (1 : Int32) (hb hby d7_25) rfl ?_
  refine own_pre (g' := (mkF m 27 #[.val (.ref a299), .val (.ref a328), .val (.int (3 : Int32))] [(.int (4 : Int32)), (.ref a328)])) (fun t k => XS.iadd X418.here hx rfl (hb hby d7_26) rfl k) ?_
  refine own_alN (w := (.ref a299)) X418 hx (hb hby d7_27) rfl rfl ?_
  refine own_getf X418 hx hZ hown (own_w hw 22 rfl) e418' F410 (hb hby d7_28) ?_
  intro T419 X419 e419
  show own_Go _ _ _ _ _ _ _ T419 (mkF m 31 #[.val (.ref a299), .val (.ref a328), .val (.int (3 : Int32))] [(.double f238), (.int (4 : Int32)), (.ref a328)])
  refine own_dastore X419 hx hZ e419 N418' H18 F401 (hb hby d7_31) (n := 4) (by decide) (by decide) (by show 4 < 12; decide) ?_
  intro T420 h420 lo420 X420 e420 N420 W420
  have F421 : own_Ary Z h420 a328 .double ([(.double f163), (.double f164), (.double (4607182418800017408 : UInt64)), (.double f237), (.double f238)] ++ own_rD 7) := F401.set W420
  show own_Go _ _ _ _ _ _ _ T420 (mkF m 32 #[.val (.ref a299), .val (.ref a328), .val (.int (3 : Int32))] [])
  refine own_alN (w := (.ref a328)) X420 hx (hb hby d7_32) rfl rfl ?_
  refine own_ilN (w := (3 : Int32)) X420 hx (hb hby d7_33) rfl ?_
  refine own_ic X420 hx (2 : Int32) (hb hby d7_34) rfl ?_
  refine own_pre (g' := (mkF m 36 #[.val (.ref a299), .val (.ref a328), .val (.int (3 : Int32))] [(.int (5 : Int32)), (.ref a328)])) (fun t k => XS.iadd X420.here hx rfl (hb hby d7_35) rfl k) ?_
  refine own_alN (w := (.ref a299)) X420 hx (hb hby d7_36) rfl rfl ?_
  have F422 := (F412.other W420 (Or.inl (Nat.ne_of_lt H16)))
  refine own_getf X420 hx hZ hown (own_w hw 26 rfl) e420 F422 (hb hby d7_37) ?_
  intro T423 X423 e423
  show own_Go _ _ _ _ _ _ _ T423 (mkF m 40 #[.val (.ref a299), .val (.ref a328), .val (.int (3 : Int32))] [(.double (4607182418800017408 : UInt64)), (.int (5 : Int32)), (.ref a328)])
  refine own_dastore X423 hx hZ e423 N420 H18 F421 (hb hby d7_40) (n := 5) (by decide) (by decide) (by show 5 < 12; decide) ?_
  intro T424 h424 lo424 X424 e424 N424 W424
  have F425 : own_Ary Z h424 a328 .double ([(.double f163), (.double f164), (.double (4607182418800017408 : UInt64)), (.double f237), (.double f238), (.double (4607182418800017408 : UInt64))] ++ own_rD 6) := F421.set W424
  show own_Go _ _ _ _ _ _ _ T424 (mkF m 41 #[.val (.ref a299), .val (.ref a328), .val (.int (3 : Int32))] [])
  refine own_ilN (w := (3 : Int32)) X424 hx (hb hby d7_41) rfl ?_
  refine own_ic X424 hx (3 : Int32) (hb hby d7_42) rfl ?_
  refine own_pre (g' := (mkF m 44 #[.val (.ref a299), .val (.ref a328), .val (.int (3 : Int32))] [(.int (6 : Int32))])) (fun t k => XS.iadd X424.here hx rfl (hb hby d7_43) rfl k) ?_
  exact own_retI X424 hx hlk hret (hb hby d7_44) e424 ⟨rfl, N424, ((((Keep.refl _ _).wr W400 (Or.inl (by simp))).wr W420 (Or.inl (by simp))).wr W424 (Or.inl (by simp))), F425⟩ (by decide) (by decide)
theorem d9_0 : decode prog_17_method_1_code 0 = .ok (.aload_n 0, 1) := by decide +kernel
theorem d9_1 : decode prog_17_method_1_code 1 = .ok (.invokespecial 1, 3) := by decide +kernel
theorem d9_4 : decode prog_17_method_1_code 4 = .ok (.aload_n 0, 1) := by decide +kernel
theorem d9_5 : decode prog_17_method_1_code 5 = .ok (.ldc2_w 9, 3) := by decide +kernel
theorem d9_8 : decode prog_17_method_1_code 8 = .ok (.putfield 11, 3) := by decide +kernel
theorem d9_11 : decode prog_17_method_1_code 11 = .ok (.aload_n 0, 1) := by decide +kernel
theorem d9_12 : decode prog_17_method_1_code 12 = .ok (.ldc2_w 17, 3) := by decide +kernel
theorem d9_15 : decode prog_17_method_1_code 15 = .ok (.putfield 19, 3) := by decide +kernel
theorem d9_18 : decode prog_17_method_1_code 18 = .ok (.return_, 1) := by decide +kernel
theorem own_pn3 : plainName "com/example/rankline/rankline/Extent$Cover" = true := by first | (simp [plainName, overriddenIn]; done) | decide +kernel
theorem own_f6 {a0 : Array Value} {Z : State} (hw : ∀ d ∈ tables_1, d.before a0 Z = true) : Laid Z a0 own_k1 own_k1 "high" "D" ∧ parseFieldDescriptor "D" = some .double := ⟨(Or.inl (own_w hw 69 rfl)), by decide⟩
theorem own_f7 {a0 : Array Value} {Z : State} (hw : ∀ d ∈ tables_1, d.before a0 Z = true) : Laid Z a0 own_k1 own_k1 "low" "D" ∧ parseFieldDescriptor "D" = some .double := ⟨(Or.inl (own_w hw 66 rfl)), by decide⟩
theorem own_f8 {a0 : Array Value} {Z : State} (hw : ∀ d ∈ tables_1, d.before a0 Z = true) : Laid Z a0 own_k1 own_k1 "gapLow" "D" ∧ parseFieldDescriptor "D" = some .double := ⟨(Or.inl (own_w hw 76 rfl)), by decide⟩
theorem own_f9 {a0 : Array Value} {Z : State} (hw : ∀ d ∈ tables_1, d.before a0 Z = true) : Laid Z a0 own_k1 own_k1 "gapHigh" "D" ∧ parseFieldDescriptor "D" = some .double := ⟨(Or.inl (own_w hw 78 rfl)), by decide⟩
theorem own_f10 {a0 : Array Value} {Z : State} (hw : ∀ d ∈ tables_1, d.before a0 Z = true) : Laid Z a0 own_k1 own_k1 "count" "D" ∧ parseFieldDescriptor "D" = some .double := ⟨(Or.inl (own_w hw 80 rfl)), by decide⟩
theorem own_f11 {a0 : Array Value} {Z : State} (hw : ∀ d ∈ tables_1, d.before a0 Z = true) : Laid Z a0 own_k1 own_k1 "below" "D" ∧ parseFieldDescriptor "D" = some .double := ⟨(Or.inl (own_w hw 82 rfl)), by decide⟩
def own_s21_Q (Z : State) (a441 : Addr) (h0 : Heap) (n0 : Nat) (v_ : Option Value) (h_ : Heap) (L_ : List Loc) : Prop := (fun v h L => v = none ∧ Fr n0 L ∧ Keep h0 h [a441] ∧ Fld Z h a441 own_k1 "low" "D" (.double (9218868437227405312 : UInt64)) ∧ Fld Z h a441 own_k1 "high" "D" (.double (18442240474082181120 : UInt64)) ∧ Fld Z h a441 own_k1 "gapLow" "D" (.double (0 : UInt64)) ∧ Fld Z h a441 own_k1 "gapHigh" "D" (.double (0 : UInt64)) ∧ Fld Z h a441 own_k1 "count" "D" (.double (0 : UInt64)) ∧ Fld Z h a441 own_k1 "below" "D" (.double (0 : UInt64))) v_ h_ L_
set_option maxRecDepth 65536 in
set_option maxHeartbeats 40000000 in
theorem own_s21 (l : Launch) (Z : State) (a0 : Array Value) (hw : ∀ d ∈ tables_1, d.before a0 Z = true) (wds : List Jvm.Cond) (a441 : Addr) (h0 : Heap) (n0 : Nat) (Z0 : n0 ≤ h0.size) (H5 : Exa Z h0 a441 own_k1) (H6 : Fld Z h0 a441 own_k1 "low" "D" (.double (0 : UInt64))) (H7 : Fld Z h0 a441 own_k1 "high" "D" (.double (0 : UInt64))) (H8 : Fld Z h0 a441 own_k1 "gapLow" "D" (.double (0 : UInt64))) (H9 : Fld Z h0 a441 own_k1 "gapHigh" "D" (.double (0 : UInt64))) (H10 : Fld Z h0 a441 own_k1 "count" "D" (.double (0 : UInt64))) (H11 : Fld Z h0 a441 own_k1 "below" "D" (.double (0 : UInt64))) (H13 : n0 ≤ a441) :
    MetFree l (⟨own_k1, "<init>", "()V"⟩ : MethodName) (head1 (Jvm.Cond.code (⟨own_k1, "<init>", "()V"⟩ : MethodName) prog_17_method_1_code 1 none :: wds) ({ frames := 1, cells := 0, slots := 0, locals := 12 } : Room)) (fun ar_ U_ => ar_ = #[(.ref a441)] ∧ Z.Warmed39 U_.vm ∧ U_.heap = h0) (fun _ _ _ _ _ => True) (fun _ U_ o_ V_ => ∃ v_ L_, o_ = .returned v_ ∧ own_s21_Q Z a441 h0 n0 v_ V_.heap L_ ∧ FrameEnd U_ o_ V_ L_ ({ frames := 1, cells := 0, slots := 0, locals := 12 } : Room).cells ({ frames := 1, cells := 0, slots := 0, locals := 12 } : Room).slots) := by
  refine own_met (y := ⟨own_k1, "<init>", "()V"⟩) (Q := own_s21_Q Z a441 h0 n0) own_pn3 ?_
  intro p e s m below meth c s₁ hx hby hml hZ hown hnm hret hlk X0 e0
  have N0 := Fr.nil n0
  refine own_cast (g' := (mkF m 0 #[.val (.ref a441)] [])) (by first | (simp [entryFrame, mkF, argsToLocals, Value.category]; done) | rfl) ?_
  refine own_alN (w := (.ref a441)) X0 hx (hb hby d9_0) rfl rfl ?_
  refine own_init0 X0 hx hZ hown (own_w hw 63 rfl) (own_w hw 14 rfl) (own_w hw 15 rfl) e0 (hb hby d9_1) (by rw [hml]; rfl) (by decide) (W := 0) (Nat.le_of_eq rfl) (by decide) ?_
  intro T459 X459 e459
  show own_Go _ _ _ _ _ _ _ T459 (mkF m 4 #[.val (.ref a441)] [])
  refine own_alN (w := (.ref a441)) X459 hx (hb hby d9_4) rfl rfl ?_
  refine own_ldcd X459 hx hZ hown (own_w hw 64 rfl) (hb hby d9_5) ?_
  show own_Go _ _ _ _ _ _ _ T459 (mkF m 8 #[.val (.ref a441)] [(.double (9218868437227405312 : UInt64)), (.ref a441)])
  refine own_putf X459 hx hZ hown (own_w hw 65 rfl) e459 N0 H13 H6 H5 (Or.inl (own_w hw 66 rfl)) (own_w hw 58 rfl) (ty := .double) (by decide) rfl rfl (hb hby d9_8) ?_
  intro T460 h460 lo460 X460 e460 N460 W460
  have F461 := H6.same W460
  show own_Go _ _ _ _ _ _ _ T460 (mkF m 11 #[.val (.ref a441)] [])
  refine own_alN (w := (.ref a441)) X460 hx (hb hby d9_11) rfl rfl ?_
  refine own_ldcd X460 hx hZ hown (own_w hw 67 rfl) (hb hby d9_12) ?_
  show own_Go _ _ _ _ _ _ _ T460 (mkF m 15 #[.val (.ref a441)] [(.double (18442240474082181120 : UInt64)), (.ref a441)])
  have F462 := (H7.other W460 (Or.inr (own_sne (own_f6 hw) (own_f7 hw) (by decide))))
  have F463 := (H5.wr W460)
  refine own_putf X460 hx hZ hown (own_w hw 68 rfl) e460 N460 H13 F462 F463 (Or.inl (own_w hw 69 rfl)) (own_w hw 58 rfl) (ty := .double) (by decide) rfl rfl (hb hby d9_15) ?_
  intro T464 h464 lo464 X464 e464 N464 W464
  have F465 := F462.same W464
  show own_Go _ _ _ _ _ _ _ T464 (mkF m 18 #[.val (.ref a441)] [])
  have F466 := (F461.other W464 (Or.inr (own_sne (own_f7 hw) (own_f6 hw) (by decide))))
  have F467 := ((H8.other W460 (Or.inr (own_sne (own_f8 hw) (own_f7 hw) (by decide)))).other W464 (Or.inr (own_sne (own_f8 hw) (own_f6 hw) (by decide))))
  have F468 := ((H9.other W460 (Or.inr (own_sne (own_f9 hw) (own_f7 hw) (by decide)))).other W464 (Or.inr (own_sne (own_f9 hw) (own_f6 hw) (by decide))))
  have F469 := ((H10.other W460 (Or.inr (own_sne (own_f10 hw) (own_f7 hw) (by decide)))).other W464 (Or.inr (own_sne (own_f10 hw) (own_f6 hw) (by decide))))
  have F470 := ((H11.other W460 (Or.inr (own_sne (own_f11 hw) (own_f7 hw) (by decide)))).other W464 (Or.inr (own_sne (own_f11 hw) (own_f6 hw) (by decide))))
  exact own_ret0 X464 hx hlk hret (hb hby d9_18) e464 ⟨rfl, N464, (((Keep.refl _ _).wr W460 (Or.inl (by simp))).wr W464 (Or.inl (by simp))), F466, F465, F467, F468, F469, F470⟩ (by decide) (by decide)
theorem d10_0 : decode prog_17_method_2_code 0 = .ok (.aload_n 0, 1) := by decide +kernel
theorem d10_1 : decode prog_17_method_2_code 1 = .ok (.getfield 11, 3) := by decide +kernel
theorem d10_4 : decode prog_17_method_2_code 4 = .ok (.aload_n 0, 1) := by decide +kernel
theorem d10_5 : decode prog_17_method_2_code 5 = .ok (.getfield 19, 3) := by decide +kernel
theorem d10_8 : decode prog_17_method_2_code 8 = .ok (.dcmp .l, 1) := by decide +kernel
theorem d10_9 : decode prog_17_method_2_code 9 = .ok (.ifCond .le 30, 3) := by decide +kernel
theorem d10_12 : decode prog_17_method_2_code 12 = .ok (.aload_n 0, 1) := by decide +kernel
theorem d10_13 : decode prog_17_method_2_code 13 = .ok (.dload_n 1, 1) := by decide +kernel
theorem d10_14 : decode prog_17_method_2_code 14 = .ok (.putfield 11, 3) := by decide +kernel
theorem d10_17 : decode prog_17_method_2_code 17 = .ok (.aload_n 0, 1) := by decide +kernel
theorem d10_18 : decode prog_17_method_2_code 18 = .ok (.dload_n 3, 1) := by decide +kernel
theorem d10_19 : decode prog_17_method_2_code 19 = .ok (.putfield 19, 3) := by decide +kernel
theorem d10_22 : decode prog_17_method_2_code 22 = .ok (.aload_n 0, 1) := by decide +kernel
theorem d10_23 : decode prog_17_method_2_code 23 = .ok (.dload_n 3, 1) := by decide +kernel
theorem d10_24 : decode prog_17_method_2_code 24 = .ok (.putfield 22, 3) := by decide +kernel
theorem d10_27 : decode prog_17_method_2_code 27 = .ok (.aload_n 0, 1) := by decide +kernel
theorem d10_28 : decode prog_17_method_2_code 28 = .ok (.dload_n 3, 1) := by decide +kernel
theorem d10_29 : decode prog_17_method_2_code 29 = .ok (.putfield 25, 3) := by decide +kernel
theorem d10_32 : decode prog_17_method_2_code 32 = .ok (.aload_n 0, 1) := by decide +kernel
theorem d10_33 : decode prog_17_method_2_code 33 = .ok (.dload 5, 2) := by decide +kernel
theorem d10_35 : decode prog_17_method_2_code 35 = .ok (.putfield 28, 3) := by decide +kernel
theorem d10_38 : decode prog_17_method_2_code 38 = .ok (.return_, 1) := by decide +kernel
theorem d10_39 : decode prog_17_method_2_code 39 = .ok (.dload_n 1, 1) := by decide +kernel
theorem d10_40 : decode prog_17_method_2_code 40 = .ok (.aload_n 0, 1) := by decide +kernel
theorem d10_41 : decode prog_17_method_2_code 41 = .ok (.getfield 19, 3) := by decide +kernel
theorem d10_44 : decode prog_17_method_2_code 44 = .ok (.dcmp .l, 1) := by decide +kernel
theorem d10_45 : decode prog_17_method_2_code 45 = .ok (.ifCond .le 55, 3) := by decide +kernel
theorem d10_48 : decode prog_17_method_2_code 48 = .ok (.aload_n 0, 1) := by decide +kernel
theorem d10_49 : decode prog_17_method_2_code 49 = .ok (.getfield 22, 3) := by decide +kernel
theorem d10_52 : decode prog_17_method_2_code 52 = .ok (.aload_n 0, 1) := by decide +kernel
theorem d10_53 : decode prog_17_method_2_code 53 = .ok (.getfield 25, 3) := by decide +kernel
theorem d10_56 : decode prog_17_method_2_code 56 = .ok (.dcmp .l, 1) := by decide +kernel
theorem d10_57 : decode prog_17_method_2_code 57 = .ok (.ifCond .eq 22, 3) := by decide +kernel
theorem d10_79 : decode prog_17_method_2_code 79 = .ok (.aload_n 0, 1) := by decide +kernel
theorem d10_80 : decode prog_17_method_2_code 80 = .ok (.aload_n 0, 1) := by decide +kernel
theorem d10_81 : decode prog_17_method_2_code 81 = .ok (.getfield 19, 3) := by decide +kernel
theorem d10_84 : decode prog_17_method_2_code 84 = .ok (.putfield 22, 3) := by decide +kernel
theorem d10_87 : decode prog_17_method_2_code 87 = .ok (.aload_n 0, 1) := by decide +kernel
theorem d10_88 : decode prog_17_method_2_code 88 = .ok (.dload_n 1, 1) := by decide +kernel
theorem d10_89 : decode prog_17_method_2_code 89 = .ok (.putfield 25, 3) := by decide +kernel
theorem d10_92 : decode prog_17_method_2_code 92 = .ok (.aload_n 0, 1) := by decide +kernel
theorem d10_93 : decode prog_17_method_2_code 93 = .ok (.aload_n 0, 1) := by decide +kernel
theorem d10_94 : decode prog_17_method_2_code 94 = .ok (.getfield 28, 3) := by decide +kernel
theorem d10_97 : decode prog_17_method_2_code 97 = .ok (.putfield 37, 3) := by decide +kernel
theorem d10_100 : decode prog_17_method_2_code 100 = .ok (.aload_n 0, 1) := by decide +kernel
theorem d10_101 : decode prog_17_method_2_code 101 = .ok (.aload_n 0, 1) := by decide +kernel
theorem d10_102 : decode prog_17_method_2_code 102 = .ok (.getfield 19, 3) := by decide +kernel
theorem d10_105 : decode prog_17_method_2_code 105 = .ok (.dload_n 3, 1) := by decide +kernel
theorem d10_106 : decode prog_17_method_2_code 106 = .ok (.invokestatic 40, 3) := by decide +kernel
theorem d10_109 : decode prog_17_method_2_code 109 = .ok (.putfield 19, 3) := by decide +kernel
theorem d10_112 : decode prog_17_method_2_code 112 = .ok (.aload_n 0, 1) := by decide +kernel
theorem d10_113 : decode prog_17_method_2_code 113 = .ok (.dup, 1) := by decide +kernel
theorem d10_114 : decode prog_17_method_2_code 114 = .ok (.getfield 28, 3) := by decide +kernel
theorem d10_117 : decode prog_17_method_2_code 117 = .ok (.dload 5, 2) := by decide +kernel
theorem d10_119 : decode prog_17_method_2_code 119 = .ok (.dadd, 1) := by decide +kernel
theorem d10_120 : decode prog_17_method_2_code 120 = .ok (.putfield 28, 3) := by decide +kernel
theorem d10_123 : decode prog_17_method_2_code 123 = .ok (.return_, 1) := by decide +kernel
def own_s22_Q (Z : State) (a441 : Addr) (f163 : UInt64) (f164 : UInt64) (h0 : Heap) (n0 : Nat) (v_ : Option Value) (h_ : Heap) (L_ : List Loc) : Prop := (fun v h L => v = none ∧ Fr n0 L ∧ Keep h0 h [a441] ∧ Fld Z h a441 own_k1 "low" "D" (.double f163) ∧ Fld Z h a441 own_k1 "high" "D" (.double f164) ∧ Fld Z h a441 own_k1 "gapLow" "D" (.double f164) ∧ Fld Z h a441 own_k1 "gapHigh" "D" (.double f164) ∧ Fld Z h a441 own_k1 "count" "D" (.double (4607182418800017408 : UInt64)) ∧ Fld Z h a441 own_k1 "below" "D" (.double (0 : UInt64))) v_ h_ L_
set_option maxRecDepth 65536 in
set_option maxHeartbeats 40000000 in
theorem own_s22 (l : Launch) (Z : State) (a0 : Array Value) (hw : ∀ d ∈ tables_1, d.before a0 Z = true) (wds : List Jvm.Cond) (a441 : Addr) (f163 : UInt64) (f164 : UInt64) (h0 : Heap) (n0 : Nat) (Z0 : n0 ≤ h0.size) (H5 : Exa Z h0 a441 own_k1) (H6 : Fld Z h0 a441 own_k1 "low" "D" (.double (9218868437227405312 : UInt64))) (H7 : Fld Z h0 a441 own_k1 "high" "D" (.double (18442240474082181120 : UInt64))) (H8 : Fld Z h0 a441 own_k1 "gapLow" "D" (.double (0 : UInt64))) (H9 : Fld Z h0 a441 own_k1 "gapHigh" "D" (.double (0 : UInt64))) (H10 : Fld Z h0 a441 own_k1 "count" "D" (.double (0 : UInt64))) (H11 : Fld Z h0 a441 own_k1 "below" "D" (.double (0 : UInt64))) (H13 : n0 ≤ a441) :
    MetFree l (⟨own_k1, "take", "(DDD)V"⟩ : MethodName) (head1 (Jvm.Cond.code (⟨own_k1, "take", "(DDD)V"⟩ : MethodName) prog_17_method_2_code 7 none :: wds) ({ frames := 0, cells := 0, slots := 0, locals := 0 } : Room)) (fun ar_ U_ => ar_ = #[(.ref a441), (.double f163), (.double f164), (.double (4607182418800017408 : UInt64))] ∧ Z.Warmed39 U_.vm ∧ U_.heap = h0) (fun _ _ _ _ _ => True) (fun _ U_ o_ V_ => ∃ v_ L_, o_ = .returned v_ ∧ own_s22_Q Z a441 f163 f164 h0 n0 v_ V_.heap L_ ∧ FrameEnd U_ o_ V_ L_ ({ frames := 0, cells := 0, slots := 0, locals := 0 } : Room).cells ({ frames := 0, cells := 0, slots := 0, locals := 0 } : Room).slots) := by
  refine own_met (y := ⟨own_k1, "take", "(DDD)V"⟩) (Q := own_s22_Q Z a441 f163 f164 h0 n0) own_pn3 ?_
  intro p e s m below meth c s₁ hx hby hml hZ hown hnm hret hlk X0 e0
  have N0 := Fr.nil n0
  refine own_cast (g' := (mkF m 0 #[.val (.ref a441), .val (.double f163), .second, .val (.double f164), .second, .val (.double (4607182418800017408 : UInt64)), .second] [])) (by first | (simp [entryFrame, mkF, argsToLocals, Value.category]; done) | rfl) ?_
  generalize hL483 : (#[.val (.ref a441), .val (.double f163), .second, .val (.double f164), .second, .val (.double (4607182418800017408 : UInt64)), .second] : Array Slot) = L483
  refine own_alN (w := (.ref a441)) X0 hx (hb hby d10_0) (by rw [← hL483]; rfl) rfl ?_
  refine own_getf X0 hx hZ hown (own_w hw 65 rfl) e0 H6 (hb hby d10_1) ?_
  intro T488 X488 e488
  show own_Go _ _ _ _ _ _ _ T488 (mkF m 4 L483 [(.double (9218868437227405312 : UInt64))])
  refine own_alN (w := (.ref a441)) X488 hx (hb hby d10_4) (by rw [← hL483]; rfl) rfl ?_
  refine own_getf X488 hx hZ hown (own_w hw 68 rfl) e488 H7 (hb hby d10_5) ?_
  intro T489 X489 e489
  show own_Go _ _ _ _ _ _ _ T489 (mkF m 8 L483 [(.double (18442240474082181120 : UInt64)), (.double (9218868437227405312 : UInt64))])
  refine own_pre (g' := (mkF m 9 L483 [(.int (1 : Int32))])) (fun t k => XS.dcmpS X489.here hx rfl (v := (1 : Int32)) (hb hby d10_8) rfl (by decide +kernel) k) ?_
  refine own_pre (g' := (mkF m 12 L483 [])) (fun t k => XS.ifNo X489.here hx rfl (hb hby d10_9) rfl (by decide) k) ?_
  refine own_alN (w := (.ref a441)) X489 hx (hb hby d10_12) (by rw [← hL483]; rfl) rfl ?_
  refine own_dlN (w := f163) X489 hx (hb hby d10_13) (by rw [← hL483]; rfl) ?_
  refine own_putf X489 hx hZ hown (own_w hw 65 rfl) e489 N0 H13 H6 H5 (Or.inl (own_w hw 66 rfl)) (own_w hw 58 rfl) (ty := .double) (by decide) rfl rfl (hb hby d10_14) ?_
  intro T490 h490 lo490 X490 e490 N490 W490
  have F491 := H6.same W490
  show own_Go _ _ _ _ _ _ _ T490 (mkF m 17 L483 [])
  refine own_alN (w := (.ref a441)) X490 hx (hb hby d10_17) (by rw [← hL483]; rfl) rfl ?_
  refine own_dlN (w := f164) X490 hx (hb hby d10_18) (by rw [← hL483]; rfl) ?_
  have F492 := (H7.other W490 (Or.inr (own_sne (own_f6 hw) (own_f7 hw) (by decide))))
  have F493 := (H5.wr W490)
  refine own_putf X490 hx hZ hown (own_w hw 68 rfl) e490 N490 H13 F492 F493 (Or.inl (own_w hw 69 rfl)) (own_w hw 58 rfl) (ty := .double) (by decide) rfl rfl (hb hby d10_19) ?_
  intro T494 h494 lo494 X494 e494 N494 W494
  have F495 := F492.same W494
  show own_Go _ _ _ _ _ _ _ T494 (mkF m 22 L483 [])
  refine own_alN (w := (.ref a441)) X494 hx (hb hby d10_22) (by rw [← hL483]; rfl) rfl ?_
  refine own_dlN (w := f164) X494 hx (hb hby d10_23) (by rw [← hL483]; rfl) ?_
  have F496 := ((H8.other W490 (Or.inr (own_sne (own_f8 hw) (own_f7 hw) (by decide)))).other W494 (Or.inr (own_sne (own_f8 hw) (own_f6 hw) (by decide))))
  have F497 := (F493.wr W494)
  refine own_putf X494 hx hZ hown (own_w hw 75 rfl) e494 N494 H13 F496 F497 (Or.inl (own_w hw 76 rfl)) (own_w hw 58 rfl) (ty := .double) (by decide) rfl rfl (hb hby d10_24) ?_
  intro T498 h498 lo498 X498 e498 N498 W498
  have F499 := F496.same W498
  show own_Go _ _ _ _ _ _ _ T498 (mkF m 27 L483 [])
  refine own_alN (w := (.ref a441)) X498 hx (hb hby d10_27) (by rw [← hL483]; rfl) rfl ?_
  refine own_dlN (w := f164) X498 hx (hb hby d10_28) (by rw [← hL483]; rfl) ?_
  have F500 := (((H9.other W490 (Or.inr (own_sne (own_f9 hw) (own_f7 hw) (by decide)))).other W494 (Or.inr (own_sne (own_f9 hw) (own_f6 hw) (by decide)))).other W498 (Or.inr (own_sne (own_f9 hw) (own_f8 hw) (by decide))))
  have F501 := (F497.wr W498)
  refine own_putf X498 hx hZ hown (own_w hw 77 rfl) e498 N498 H13 F500 F501 (Or.inl (own_w hw 78 rfl)) (own_w hw 58 rfl) (ty := .double) (by decide) rfl rfl (hb hby d10_29) ?_
  intro T502 h502 lo502 X502 e502 N502 W502
  have F503 := F500.same W502
  show own_Go _ _ _ _ _ _ _ T502 (mkF m 32 L483 [])
  refine own_alN (w := (.ref a441)) X502 hx (hb hby d10_32) (by rw [← hL483]; rfl) rfl ?_
  refine own_dl (w := (4607182418800017408 : UInt64)) X502 hx (hb hby d10_33) (by rw [← hL483]; rfl) ?_
  have F504 := ((((H10.other W490 (Or.inr (own_sne (own_f10 hw) (own_f7 hw) (by decide)))).other W494 (Or.inr (own_sne (own_f10 hw) (own_f6 hw) (by decide)))).other W498 (Or.inr (own_sne (own_f10 hw) (own_f8 hw) (by decide)))).other W502 (Or.inr (own_sne (own_f10 hw) (own_f9 hw) (by decide))))
  have F505 := (F501.wr W502)
  refine own_putf X502 hx hZ hown (own_w hw 79 rfl) e502 N502 H13 F504 F505 (Or.inl (own_w hw 80 rfl)) (own_w hw 58 rfl) (ty := .double) (by decide) rfl rfl (hb hby d10_35) ?_
  intro T506 h506 lo506 X506 e506 N506 W506
  have F507 := F504.same W506
  show own_Go _ _ _ _ _ _ _ T506 (mkF m 38 L483 [])
  have F508 := ((((F491.other W494 (Or.inr (own_sne (own_f7 hw) (own_f6 hw) (by decide)))).other W498 (Or.inr (own_sne (own_f7 hw) (own_f8 hw) (by decide)))).other W502 (Or.inr (own_sne (own_f7 hw) (own_f9 hw) (by decide)))).other W506 (Or.inr (own_sne (own_f7 hw) (own_f10 hw) (by decide))))
  have F509 := (((F495.other W498 (Or.inr (own_sne (own_f6 hw) (own_f8 hw) (by decide)))).other W502 (Or.inr (own_sne (own_f6 hw) (own_f9 hw) (by decide)))).other W506 (Or.inr (own_sne (own_f6 hw) (own_f10 hw) (by decide))))
  have F510 := ((F499.other W502 (Or.inr (own_sne (own_f8 hw) (own_f9 hw) (by decide)))).other W506 (Or.inr (own_sne (own_f8 hw) (own_f10 hw) (by decide))))
  have F511 := (F503.other W506 (Or.inr (own_sne (own_f9 hw) (own_f10 hw) (by decide))))
  have F512 := (((((H11.other W490 (Or.inr (own_sne (own_f11 hw) (own_f7 hw) (by decide)))).other W494 (Or.inr (own_sne (own_f11 hw) (own_f6 hw) (by decide)))).other W498 (Or.inr (own_sne (own_f11 hw) (own_f8 hw) (by decide)))).other W502 (Or.inr (own_sne (own_f11 hw) (own_f9 hw) (by decide)))).other W506 (Or.inr (own_sne (own_f11 hw) (own_f10 hw) (by decide))))
  exact own_ret0 X506 hx hlk hret (hb hby d10_38) e506 ⟨rfl, N506, ((((((Keep.refl _ _).wr W490 (Or.inl (by simp))).wr W494 (Or.inl (by simp))).wr W498 (Or.inl (by simp))).wr W502 (Or.inl (by simp))).wr W506 (Or.inl (by simp))), F508, F509, F510, F511, F507, F512⟩ (by decide) (by decide)
theorem own_pd5 : parseMethodDescriptor "(DDD)V" = some ⟨[.double, .double, .double], none⟩ := by decide +kernel
def own_s23_Q (Z : State) (a441 : Addr) (f237 : UInt64) (f238 : UInt64) (f163 : UInt64) (f164 : UInt64) (p5 : Int32) (p4 : Int32) (v7 : Int32) (w0 : Int32) (v15 : Int32) (h0 : Heap) (n0 : Nat) (v_ : Option Value) (h_ : Heap) (L_ : List Loc) : Prop := (fun v h L => ∃ (f555 : UInt64) (f562 : UInt64), v = none ∧ Fr n0 L ∧ Keep h0 h [a441] ∧ Fld Z h a441 own_k1 "low" "D" (.double f163) ∧ Fld Z h a441 own_k1 "high" "D" (.double f555) ∧ Fld Z h a441 own_k1 "gapLow" "D" (.double f164) ∧ Fld Z h a441 own_k1 "gapHigh" "D" (.double f237) ∧ Fld Z h a441 own_k1 "count" "D" (.double f562) ∧ Fld Z h a441 own_k1 "below" "D" (.double (4607182418800017408 : UInt64)) ∧ FP.Core.DInt p5.toInt f555 ∧ FP.Core.DInt (1 + 1) f562) v_ h_ L_
set_option maxRecDepth 65536 in
set_option maxHeartbeats 40000000 in
theorem own_s23 (l : Launch) (Z : State) (a0 : Array Value) (hw : ∀ d ∈ tables_1, d.before a0 Z = true) (wds : List Jvm.Cond) (a441 : Addr) (f237 : UInt64) (f238 : UInt64) (f163 : UInt64) (f164 : UInt64) (p5 : Int32) (p4 : Int32) (v7 : Int32) (w0 : Int32) (v15 : Int32) (h0 : Heap) (n0 : Nat) (Z0 : n0 ≤ h0.size) (H5 : Exa Z h0 a441 own_k1) (H6 : Fld Z h0 a441 own_k1 "low" "D" (.double f163)) (H7 : Fld Z h0 a441 own_k1 "high" "D" (.double f164)) (H8 : Fld Z h0 a441 own_k1 "gapLow" "D" (.double f164)) (H9 : Fld Z h0 a441 own_k1 "gapHigh" "D" (.double f164)) (H10 : Fld Z h0 a441 own_k1 "count" "D" (.double (4607182418800017408 : UInt64))) (H11 : Fld Z h0 a441 own_k1 "below" "D" (.double (0 : UInt64))) (H13 : n0 ≤ a441) (H14 : FP.Core.DInt p5.toInt f237) (H15 : FP.Core.DInt p5.toInt f238) (H16 : FP.Core.DInt p4.toInt f163) (H17 : FP.Core.DInt p4.toInt f164) (H18 : 0 ≤ v7.toInt ∧ v7.toInt ≤ 65535) (H19 : 0 ≤ w0.toInt ∧ w0.toInt ≤ 65535) (H20 : 0 ≤ v15.toInt ∧ v15.toInt ≤ 65535) (H21 : p4.toInt < p5.toInt) :
    MetFree l (⟨own_k1, "take", "(DDD)V"⟩ : MethodName) (head1 (Jvm.Cond.code (⟨own_k1, "take", "(DDD)V"⟩ : MethodName) prog_17_method_2_code 7 none :: wds) ({ frames := 1, cells := 0, slots := 0, locals := 16 } : Room)) (fun ar_ U_ => ar_ = #[(.ref a441), (.double f237), (.double f238), (.double (4607182418800017408 : UInt64))] ∧ Z.Warmed39 U_.vm ∧ U_.heap = h0) (fun _ _ _ _ _ => True) (fun _ U_ o_ V_ => ∃ v_ L_, o_ = .returned v_ ∧ own_s23_Q Z a441 f237 f238 f163 f164 p5 p4 v7 w0 v15 h0 n0 v_ V_.heap L_ ∧ FrameEnd U_ o_ V_ L_ ({ frames := 1, cells := 0, slots := 0, locals := 16 } : Room).cells ({ frames := 1, cells := 0, slots := 0, locals := 16 } : Room).slots) := by
  refine own_met (y := ⟨own_k1, "take", "(DDD)V"⟩) (Q := own_s23_Q Z a441 f237 f238 f163 f164 p5 p4 v7 w0 v15 h0 n0) own_pn3 ?_
  intro p e s m below meth c s₁ hx hby hml hZ hown hnm hret hlk X0 e0
  have N0 := Fr.nil n0
  refine own_cast (g' := (mkF m 0 #[.val (.ref a441), .val (.double f237), .second, .val (.double f238), .second, .val (.double (4607182418800017408 : UInt64)), .second] [])) (by first | (simp [entryFrame, mkF, argsToLocals, Value.category]; done) | rfl) ?_
  generalize hL524 : (#[.val (.ref a441), .val (.double f237), .second, .val (.double f238), .second, .val (.double (4607182418800017408 : UInt64)), .second] : Array Slot) = L524
  refine own_alN (w := (.ref a441)) X0 hx (hb hby d10_0) (by rw [← hL524]; rfl) rfl ?_
  refine own_getf X0 hx hZ hown (own_w hw 65 rfl) e0 H6 (hb hby d10_1) ?_
  intro T529 X529 e529
  show own_Go _ _ _ _ _ _ _ T529 (mkF m 4 L524 [(.double f163)])
  refine own_alN (w := (.ref a441)) X529 hx (hb hby d10_4) (by rw [← hL524]; rfl) rfl ?_
  refine own_getf X529 hx hZ hown (own_w hw 68 rfl) e529 H7 (hb hby d10_5) ?_
  intro T530 X530 e530
  show own_Go _ _ _ _ _ _ _ T530 (mkF m 8 L524 [(.double f164), (.double f163)])
  obtain ⟨k531, hk531⟩ : ∃ z, own_c p4.toInt p4.toInt = z := ⟨_, rfl⟩
  refine own_pre (g' := (mkF m 9 L524 [(.int k531)])) (fun t k => XS.dcmpS X530.here hx rfl (hb hby d10_8) rfl ((own_dcmp H16 H17 _).trans hk531) k) ?_
  have hc532 : ¬ (0 : Int32) < k531 := by rw [← hk531, own_c_gt] <;> (have := H18; have := H19; have := H20; have := H21; have := rng32 p4; omega)
  refine own_pre (g' := (mkF m 39 L524 [])) (fun t k => XS.ifYes X530.here hx rfl (pc0 := 9) (pc' := 39) rfl (hb hby d10_9) rfl ((if0 _ _).trans (flt hc532).2.2.2) (by decide) (by decide) k) ?_
  refine own_dlN (w := f237) X530 hx (hb hby d10_39) (by rw [← hL524]; rfl) ?_
  refine own_alN (w := (.ref a441)) X530 hx (hb hby d10_40) (by rw [← hL524]; rfl) rfl ?_
  refine own_getf X530 hx hZ hown (own_w hw 68 rfl) e530 H7 (hb hby d10_41) ?_
  intro T533 X533 e533
  show own_Go _ _ _ _ _ _ _ T533 (mkF m 44 L524 [(.double f164), (.double f237)])
  obtain ⟨k534, hk534⟩ : ∃ z, own_c p5.toInt p4.toInt = z := ⟨_, rfl⟩
  refine own_pre (g' := (mkF m 45 L524 [(.int k534)])) (fun t k => XS.dcmpS X533.here hx rfl (hb hby d10_44) rfl ((own_dcmp H14 H17 _).trans hk534) k) ?_
  have hc535 : (0 : Int32) < k534 := by rw [← hk534, own_c_gt] <;> (have := H18; have := H19; have := H20; have := H21; have := rng32 p5; have := rng32 p4; omega)
  refine own_pre (g' := (mkF m 48 L524 [])) (fun t k => XS.ifNo X533.here hx rfl (hb hby d10_45) rfl ((if0 _ _).trans (tlt hc535).2.2.2) k) ?_
  refine own_alN (w := (.ref a441)) X533 hx (hb hby d10_48) (by rw [← hL524]; rfl) rfl ?_
  refine own_getf X533 hx hZ hown (own_w hw 75 rfl) e533 H8 (hb hby d10_49) ?_
  intro T536 X536 e536
  show own_Go _ _ _ _ _ _ _ T536 (mkF m 52 L524 [(.double f164)])
  refine own_alN (w := (.ref a441)) X536 hx (hb hby d10_52) (by rw [← hL524]; rfl) rfl ?_
  refine own_getf X536 hx hZ hown (own_w hw 77 rfl) e536 H9 (hb hby d10_53) ?_
  intro T537 X537 e537
  show own_Go _ _ _ _ _ _ _ T537 (mkF m 56 L524 [(.double f164), (.double f164)])
  obtain ⟨k538, hk538⟩ : ∃ z, own_c p4.toInt p4.toInt = z := ⟨_, rfl⟩
  refine own_pre (g' := (mkF m 57 L524 [(.int k538)])) (fun t k => XS.dcmpS X537.here hx rfl (hb hby d10_56) rfl ((own_dcmp H17 H17 _).trans hk538) k) ?_
  have hc539 : k538 = (0 : Int32) := by rw [← hk538, own_c_eq] <;> (have := H18; have := H19; have := H20; have := H21; have := rng32 p4; omega)
  refine own_pre (g' := (mkF m 79 L524 [])) (fun t k => XS.ifYes X537.here hx rfl (pc0 := 57) (pc' := 79) rfl (hb hby d10_57) rfl ((if0 _ _).trans (teq hc539).1) (by decide) (by decide) k) ?_
  refine own_alN (w := (.ref a441)) X537 hx (hb hby d10_79) (by rw [← hL524]; rfl) rfl ?_
  refine own_alN (w := (.ref a441)) X537 hx (hb hby d10_80) (by rw [← hL524]; rfl) rfl ?_
  refine own_getf X537 hx hZ hown (own_w hw 68 rfl) e537 H7 (hb hby d10_81) ?_
  intro T540 X540 e540
  show own_Go _ _ _ _ _ _ _ T540 (mkF m 84 L524 [(.double f164), (.ref a441)])
  refine own_putf X540 hx hZ hown (own_w hw 75 rfl) e540 N0 H13 H8 H5 (Or.inl (own_w hw 76 rfl)) (own_w hw 58 rfl) (ty := .double) (by decide) rfl rfl (hb hby d10_84) ?_
  intro T541 h541 lo541 X541 e541 N541 W541
  have F542 := H8.same W541
  show own_Go _ _ _ _ _ _ _ T541 (mkF m 87 L524 [])
  refine own_alN (w := (.ref a441)) X541 hx (hb hby d10_87) (by rw [← hL524]; rfl) rfl ?_
  refine own_dlN (w := f237) X541 hx (hb hby d10_88) (by rw [← hL524]; rfl) ?_
  have F543 := (H9.other W541 (Or.inr (own_sne (own_f9 hw) (own_f8 hw) (by decide))))
  have F544 := (H5.wr W541)
  refine own_putf X541 hx hZ hown (own_w hw 77 rfl) e541 N541 H13 F543 F544 (Or.inl (own_w hw 78 rfl)) (own_w hw 58 rfl) (ty := .double) (by decide) rfl rfl (hb hby d10_89) ?_
  intro T545 h545 lo545 X545 e545 N545 W545
  have F546 := F543.same W545
  show own_Go _ _ _ _ _ _ _ T545 (mkF m 92 L524 [])
  refine own_alN (w := (.ref a441)) X545 hx (hb hby d10_92) (by rw [← hL524]; rfl) rfl ?_
  refine own_alN (w := (.ref a441)) X545 hx (hb hby d10_93) (by rw [← hL524]; rfl) rfl ?_
  have F547 := ((H10.other W541 (Or.inr (own_sne (own_f10 hw) (own_f8 hw) (by decide)))).other W545 (Or.inr (own_sne (own_f10 hw) (own_f9 hw) (by decide))))
  refine own_getf X545 hx hZ hown (own_w hw 79 rfl) e545 F547 (hb hby d10_94) ?_
  intro T548 X548 e548
  show own_Go _ _ _ _ _ _ _ T548 (mkF m 97 L524 [(.double (4607182418800017408 : UInt64)), (.ref a441)])
  have F549 := ((H11.other W541 (Or.inr (own_sne (own_f11 hw) (own_f8 hw) (by decide)))).other W545 (Or.inr (own_sne (own_f11 hw) (own_f9 hw) (by decide))))
  have F550 := (F544.wr W545)
  refine own_putf X548 hx hZ hown (own_w hw 81 rfl) e548 N545 H13 F549 F550 (Or.inl (own_w hw 82 rfl)) (own_w hw 58 rfl) (ty := .double) (by decide) rfl rfl (hb hby d10_97) ?_
  intro T551 h551 lo551 X551 e551 N551 W551
  have F552 := F549.same W551
  show own_Go _ _ _ _ _ _ _ T551 (mkF m 100 L524 [])
  refine own_alN (w := (.ref a441)) X551 hx (hb hby d10_100) (by rw [← hL524]; rfl) rfl ?_
  refine own_alN (w := (.ref a441)) X551 hx (hb hby d10_101) (by rw [← hL524]; rfl) rfl ?_
  have F553 := (((H7.other W541 (Or.inr (own_sne (own_f6 hw) (own_f8 hw) (by decide)))).other W545 (Or.inr (own_sne (own_f6 hw) (own_f9 hw) (by decide)))).other W551 (Or.inr (own_sne (own_f6 hw) (own_f11 hw) (by decide))))
  refine own_getf X551 hx hZ hown (own_w hw 68 rfl) e551 F553 (hb hby d10_102) ?_
  intro T554 X554 e554
  show own_Go _ _ _ _ _ _ _ T554 (mkF m 105 L524 [(.double f164), (.ref a441)])
  refine own_dlN (w := f238) X554 hx (hb hby d10_105) (by rw [← hL524]; rfl) ?_
  obtain ⟨f555, hf555⟩ : ∃ z, Native.java_lang_Math.nans.pick64 true f164 f238 = z := ⟨_, rfl⟩
  have Df555 : FP.Core.DInt p5.toInt f555 := hf555 ▸ own_pickR H17 H15 (by have := H18; have := H19; have := H20; have := H21; have := rng32 p4; have := rng32 p5; omega)
  refine own_maxd X554 hx hZ hown (own_w hw 83 rfl) (own_w hw 84 rfl) (own_w hw 85 rfl) (own_w hw 86 rfl) e554 (hb hby d10_106) (by rw [hml, ← hL524]; rfl) (own_DInt_nn H17) (own_DInt_nn H15) (r := f555) hf555 (by decide) (W := 1) (Nat.le_of_eq rfl) (by decide) (by decide) (by decide) ?_
  intro T556 X556 e556
  show own_Go _ _ _ _ _ _ _ T556 (mkF m 109 L524 [(.double f555), (.ref a441)])
  have F557 := (F550.wr W551)
  refine own_putf X556 hx hZ hown (own_w hw 68 rfl) e556 N551 H13 F553 F557 (Or.inl (own_w hw 69 rfl)) (own_w hw 58 rfl) (ty := .double) (by decide) rfl rfl (hb hby d10_109) ?_
  intro T558 h558 lo558 X558 e558 N558 W558
  have F559 := F553.same W558
  show own_Go _ _ _ _ _ _ _ T558 (mkF m 112 L524 [])
  refine own_alN (w := (.ref a441)) X558 hx (hb hby d10_112) (by rw [← hL524]; rfl) rfl ?_
  refine own_pre (g' := (mkF m 114 L524 [(.ref a441), (.ref a441)])) (fun t k => XS.dup X558.here hx rfl (hb hby d10_113) rfl rfl k) ?_
  have F560 := ((F547.other W551 (Or.inr (own_sne (own_f10 hw) (own_f11 hw) (by decide)))).other W558 (Or.inr (own_sne (own_f10 hw) (own_f6 hw) (by decide))))
  refine own_getf X558 hx hZ hown (own_w hw 79 rfl) e558 F560 (hb hby d10_114) ?_
  intro T561 X561 e561
  show own_Go _ _ _ _ _ _ _ T561 (mkF m 117 L524 [(.double (4607182418800017408 : UInt64)), (.ref a441)])
  refine own_dl (w := (4607182418800017408 : UInt64)) X561 hx (hb hby d10_117) (by rw [← hL524]; rfl) ?_
  obtain ⟨f562, hf562⟩ : ∃ z, FP.dadd (4607182418800017408 : UInt64) (4607182418800017408 : UInt64) = z := ⟨_, rfl⟩
  have Df562 : Jvm.FP.Core.DInt (1 + 1) f562 := hf562 ▸ Jvm.FP.Core.dadd_int FP.Core.dint_one FP.Core.dint_one (by have := H18; have := H19; have := H20; have := H21; omega)
  refine own_pre (g' := (mkF m 120 L524 [(.double f562), (.ref a441)])) (fun t k => XS.daddS X561.here hx rfl (hb hby d10_119) rfl (by rw [hf562]; exact own_DInt_nn Df562) hf562 k) ?_
  have F563 := (F557.wr W558)
  refine own_putf X561 hx hZ hown (own_w hw 79 rfl) e561 N558 H13 F560 F563 (Or.inl (own_w hw 80 rfl)) (own_w hw 58 rfl) (ty := .double) (by decide) rfl rfl (hb hby d10_120) ?_
  intro T564 h564 lo564 X564 e564 N564 W564
  have F565 := F560.same W564
  show own_Go _ _ _ _ _ _ _ T564 (mkF m 123 L524 [])
  have F566 := (((((H6.other W541 (Or.inr (own_sne (own_f7 hw) (own_f8 hw) (by decide)))).other W545 (Or.inr (own_sne (own_f7 hw) (own_f9 hw) (by decide)))).other W551 (Or.inr (own_sne (own_f7 hw) (own_f11 hw) (by decide)))).other W558 (Or.inr (own_sne (own_f7 hw) (own_f6 hw) (by decide)))).other W564 (Or.inr (own_sne (own_f7 hw) (own_f10 hw) (by decide))))
  have F567 := (F559.other W564 (Or.inr (own_sne (own_f6 hw) (own_f10 hw) (by decide))))
  have F568 := ((((F542.other W545 (Or.inr (own_sne (own_f8 hw) (own_f9 hw) (by decide)))).other W551 (Or.inr (own_sne (own_f8 hw) (own_f11 hw) (by decide)))).other W558 (Or.inr (own_sne (own_f8 hw) (own_f6 hw) (by decide)))).other W564 (Or.inr (own_sne (own_f8 hw) (own_f10 hw) (by decide))))
  have F569 := (((F546.other W551 (Or.inr (own_sne (own_f9 hw) (own_f11 hw) (by decide)))).other W558 (Or.inr (own_sne (own_f9 hw) (own_f6 hw) (by decide)))).other W564 (Or.inr (own_sne (own_f9 hw) (own_f10 hw) (by decide))))
  have F570 := ((F552.other W558 (Or.inr (own_sne (own_f11 hw) (own_f6 hw) (by decide)))).other W564 (Or.inr (own_sne (own_f11 hw) (own_f10 hw) (by decide))))
  exact own_ret0 X564 hx hlk hret (hb hby d10_123) e564 ⟨f555, f562, rfl, N564, ((((((Keep.refl _ _).wr W541 (Or.inl (by simp))).wr W545 (Or.inl (by simp))).wr W551 (Or.inl (by simp))).wr W558 (Or.inl (by simp))).wr W564 (Or.inl (by simp))), F566, F567, F568, F569, F565, F570, Df555, Df562⟩ (by decide) (by decide)
theorem d12_0 : decode prog_17_method_3_code 0 = .ok (.aload_n 0, 1) := by decide +kernel
theorem d12_1 : decode prog_17_method_3_code 1 = .ok (.getfield 11, 3) := by decide +kernel
theorem d12_4 : decode prog_17_method_3_code 4 = .ok (.aload_n 0, 1) := by decide +kernel
theorem d12_5 : decode prog_17_method_3_code 5 = .ok (.getfield 19, 3) := by decide +kernel
theorem d12_8 : decode prog_17_method_3_code 8 = .ok (.dcmp .l, 1) := by decide +kernel
theorem d12_9 : decode prog_17_method_3_code 9 = .ok (.ifCond .le 7, 3) := by decide +kernel
theorem d12_16 : decode prog_17_method_3_code 16 = .ok (.aload_n 0, 1) := by decide +kernel
theorem d12_17 : decode prog_17_method_3_code 17 = .ok (.getfield 22, 3) := by decide +kernel
theorem d12_20 : decode prog_17_method_3_code 20 = .ok (.aload_n 0, 1) := by decide +kernel
theorem d12_21 : decode prog_17_method_3_code 21 = .ok (.getfield 25, 3) := by decide +kernel
theorem d12_24 : decode prog_17_method_3_code 24 = .ok (.dcmp .g, 1) := by decide +kernel
theorem d12_25 : decode prog_17_method_3_code 25 = .ok (.ifCond .ge 37, 3) := by decide +kernel
theorem d12_28 : decode prog_17_method_3_code 28 = .ok (.new 32, 3) := by decide +kernel
theorem d12_31 : decode prog_17_method_3_code 31 = .ok (.dup, 1) := by decide +kernel
theorem d12_32 : decode prog_17_method_3_code 32 = .ok (.aload_n 0, 1) := by decide +kernel
theorem d12_33 : decode prog_17_method_3_code 33 = .ok (.getfield 11, 3) := by decide +kernel
theorem d12_36 : decode prog_17_method_3_code 36 = .ok (.aload_n 0, 1) := by decide +kernel
theorem d12_37 : decode prog_17_method_3_code 37 = .ok (.getfield 22, 3) := by decide +kernel
theorem d12_40 : decode prog_17_method_3_code 40 = .ok (.aload_n 0, 1) := by decide +kernel
theorem d12_41 : decode prog_17_method_3_code 41 = .ok (.getfield 25, 3) := by decide +kernel
theorem d12_44 : decode prog_17_method_3_code 44 = .ok (.aload_n 0, 1) := by decide +kernel
theorem d12_45 : decode prog_17_method_3_code 45 = .ok (.getfield 19, 3) := by decide +kernel
theorem d12_48 : decode prog_17_method_3_code 48 = .ok (.aload_n 0, 1) := by decide +kernel
theorem d12_49 : decode prog_17_method_3_code 49 = .ok (.getfield 37, 3) := by decide +kernel
theorem d12_52 : decode prog_17_method_3_code 52 = .ok (.aload_n 0, 1) := by decide +kernel
theorem d12_53 : decode prog_17_method_3_code 53 = .ok (.getfield 28, 3) := by decide +kernel
theorem d12_56 : decode prog_17_method_3_code 56 = .ok (.invokespecial 50, 3) := by decide +kernel
theorem d12_59 : decode prog_17_method_3_code 59 = .ok (.goto 18, 3) := by decide +kernel
theorem d12_62 : decode prog_17_method_3_code 62 = .ok (.aload_n 0, 1) := by decide +kernel
theorem d12_63 : decode prog_17_method_3_code 63 = .ok (.getfield 11, 3) := by decide +kernel
theorem d12_66 : decode prog_17_method_3_code 66 = .ok (.aload_n 0, 1) := by decide +kernel
theorem d12_67 : decode prog_17_method_3_code 67 = .ok (.getfield 19, 3) := by decide +kernel
theorem d12_70 : decode prog_17_method_3_code 70 = .ok (.aload_n 0, 1) := by decide +kernel
theorem d12_71 : decode prog_17_method_3_code 71 = .ok (.getfield 28, 3) := by decide +kernel
theorem d12_74 : decode prog_17_method_3_code 74 = .ok (.invokestatic 53, 3) := by decide +kernel
theorem d12_77 : decode prog_17_method_3_code 77 = .ok (.areturn, 1) := by decide +kernel
def own_s26_Q (Z : State) (a597 : Addr) (h0 : Heap) (n0 : Nat) (v_ : Option Value) (h_ : Heap) (L_ : List Loc) : Prop := (fun v h L => v = none ∧ Fr n0 L ∧ h = h0) v_ h_ L_
set_option maxRecDepth 65536 in
set_option maxHeartbeats 40000000 in
theorem own_s26 (l : Launch) (Z : State) (a0 : Array Value) (hw : ∀ d ∈ tables_1, d.before a0 Z = true) (wds : List Jvm.Cond) (a597 : Addr) (h0 : Heap) (n0 : Nat) (Z0 : n0 ≤ h0.size)  :
    MetFree l (⟨"java/lang/Record", "<init>", "()V"⟩ : MethodName) (head1 (Jvm.Cond.code (⟨"java/lang/Record", "<init>", "()V"⟩ : MethodName) jdk_30_method_1_code 1 none :: wds) ({ frames := 1, cells := 0, slots := 0, locals := 12 } : Room)) (fun ar_ U_ => ar_ = #[(.ref a597)] ∧ Z.Warmed39 U_.vm ∧ U_.heap = h0) (fun _ _ _ _ _ => True) (fun _ U_ o_ V_ => ∃ v_ L_, o_ = .returned v_ ∧ own_s26_Q Z a597 h0 n0 v_ V_.heap L_ ∧ FrameEnd U_ o_ V_ L_ ({ frames := 1, cells := 0, slots := 0, locals := 12 } : Room).cells ({ frames := 1, cells := 0, slots := 0, locals := 12 } : Room).slots) := by
  refine own_met (y := ⟨"java/lang/Record", "<init>", "()V"⟩) (Q := own_s26_Q Z a597 h0 n0) own_pn2 ?_
  intro p e s m below meth c s₁ hx hby hml hZ hown hnm hret hlk X0 e0
  have N0 := Fr.nil n0
  refine own_cast (g' := (mkF m 0 #[.val (.ref a597)] [])) (by first | (simp [entryFrame, mkF, argsToLocals, Value.category]; done) | rfl) ?_
  refine own_alN (w := (.ref a597)) X0 hx (hb hby d2_0) rfl rfl ?_
  refine own_init0 X0 hx hZ hown (own_w hw 13 rfl) (own_w hw 14 rfl) (own_w hw 15 rfl) e0 (hb hby d2_1) (by rw [hml]; rfl) (by decide) (W := 0) (Nat.le_of_eq rfl) (by decide) ?_
  intro T625 X625 e625
  show own_Go _ _ _ _ _ _ _ T625 (mkF m 4 #[.val (.ref a597)] [])
  exact own_ret0 X625 hx hlk hret (hb hby d2_4) e625 ⟨rfl, N0, rfl⟩ (by decide) (by decide)
def own_s25_Q (Z : State) (a597 : Addr) (f163 : UInt64) (f164 : UInt64) (f237 : UInt64) (f573 : UInt64) (f574 : UInt64) (h0 : Heap) (n0 : Nat) (v_ : Option Value) (h_ : Heap) (L_ : List Loc) : Prop := (fun v h L => v = none ∧ Fr n0 L ∧ Keep h0 h [a597] ∧ Fld Z h a597 own_k0 "low" "D" (.double f163) ∧ Fld Z h a597 own_k0 "gapLow" "D" (.double f164) ∧ Fld Z h a597 own_k0 "gapHigh" "D" (.double f237) ∧ Fld Z h a597 own_k0 "high" "D" (.double f573) ∧ Fld Z h a597 own_k0 "below" "D" (.double (4607182418800017408 : UInt64)) ∧ Fld Z h a597 own_k0 "count" "D" (.double f574)) v_ h_ L_
set_option maxRecDepth 65536 in
set_option maxHeartbeats 40000000 in
theorem own_s25 (l : Launch) (Z : State) (a0 : Array Value) (hw : ∀ d ∈ tables_1, d.before a0 Z = true) (wds : List Jvm.Cond) (a597 : Addr) (f163 : UInt64) (f164 : UInt64) (f237 : UInt64) (f573 : UInt64) (f574 : UInt64) (h0 : Heap) (n0 : Nat) (Z0 : n0 ≤ h0.size) (H5 : Exa Z h0 a597 own_k0) (H6 : Fld Z h0 a597 own_k0 "low" "D" (.double (0 : UInt64))) (H7 : Fld Z h0 a597 own_k0 "gapLow" "D" (.double (0 : UInt64))) (H8 : Fld Z h0 a597 own_k0 "gapHigh" "D" (.double (0 : UInt64))) (H9 : Fld Z h0 a597 own_k0 "high" "D" (.double (0 : UInt64))) (H10 : Fld Z h0 a597 own_k0 "below" "D" (.double (0 : UInt64))) (H11 : Fld Z h0 a597 own_k0 "count" "D" (.double (0 : UInt64))) (H13 : n0 ≤ a597) :
    MetFree l (⟨own_k0, "<init>", "(DDDDDD)V"⟩ : MethodName) (head1 (Jvm.Cond.code (⟨own_k0, "<init>", "(DDDDDD)V"⟩ : MethodName) prog_16_method_1_code 13 none :: wds) ({ frames := 2, cells := 0, slots := 0, locals := 24 } : Room)) (fun ar_ U_ => ar_ = #[(.ref a597), (.double f163), (.double f164), (.double f237), (.double f573), (.double (4607182418800017408 : UInt64)), (.double f574)] ∧ Z.Warmed39 U_.vm ∧ U_.heap = h0) (fun _ _ _ _ _ => True) (fun _ U_ o_ V_ => ∃ v_ L_, o_ = .returned v_ ∧ own_s25_Q Z a597 f163 f164 f237 f573 f574 h0 n0 v_ V_.heap L_ ∧ FrameEnd U_ o_ V_ L_ ({ frames := 2, cells := 0, slots := 0, locals := 24 } : Room).cells ({ frames := 2, cells := 0, slots := 0, locals := 24 } : Room).slots) := by
  refine own_met (y := ⟨own_k0, "<init>", "(DDDDDD)V"⟩) (Q := own_s25_Q Z a597 f163 f164 f237 f573 f574 h0 n0) own_pn0 ?_
  intro p e s m below meth c s₁ hx hby hml hZ hown hnm hret hlk X0 e0
  have N0 := Fr.nil n0
  refine own_cast (g' := (mkF m 0 #[.val (.ref a597), .val (.double f163), .second, .val (.double f164), .second, .val (.double f237), .second, .val (.double f573), .second, .val (.double (4607182418800017408 : UInt64)), .second, .val (.double f574), .second] [])) (by first | (simp [entryFrame, mkF, argsToLocals, Value.category]; done) | rfl) ?_
  generalize hL620 : (#[.val (.ref a597), .val (.double f163), .second, .val (.double f164), .second, .val (.double f237), .second, .val (.double f573), .second, .val (.double (4607182418800017408 : UInt64)), .second, .val (.double f574), .second] : Array Slot) = L620
  refine own_alN (w := (.ref a597)) X0 hx (hb hby d1_0) (by rw [← hL620]; rfl) rfl ?_
  refine own_init (a := a597) (argsL := []) (rest := []) X0 hx hZ hown (own_s26 l Z a0 hw [] a597 h0 n0 Z0 ) rfl (own_w hw 8 rfl) (own_w hw 9 rfl) (own_w hw 12 rfl) (own_w hw 11 rfl) (by decide) e0 (hb hby d1_1) (by rw [hml, ← hL620]; rfl) rfl (lenOf own_pd0 rfl) (by decide) (W := 0) (Nat.le_of_eq rfl) (by decide) (by decide) (by decide) ?_
  intro v626 T626 lo626 X626 Q626
  obtain ⟨h626, e626⟩ : ∃ h, T626.heap = h := ⟨_, rfl⟩
  rw [e626] at Q626
  obtain ⟨rfl, N626, K626⟩ := Q626
  have N626' := Fr.app N0 N626
  have e626' : T626.heap = h0 := e626.trans K626
  show own_Go _ _ _ _ _ _ _ T626 (mkF m 4 L620 [])
  refine own_alN (w := (.ref a597)) X626 hx (hb hby d1_4) (by rw [← hL620]; rfl) rfl ?_
  refine own_dlN (w := f163) X626 hx (hb hby d1_5) (by rw [← hL620]; rfl) ?_
  refine own_putf X626 hx hZ hown (own_w hw 16 rfl) e626' N626' H13 H6 H5 (Or.inr ⟨(own_w hw 17 rfl), rfl, hnm⟩) (own_w hw 2 rfl) (ty := .double) (by decide) rfl rfl (hb hby d1_6) ?_
  intro T627 h627 lo627 X627 e627 N627 W627
  have F628 := H6.same W627
  show own_Go _ _ _ _ _ _ _ T627 (mkF m 9 L620 [])
  refine own_alN (w := (.ref a597)) X627 hx (hb hby d1_9) (by rw [← hL620]; rfl) rfl ?_
  refine own_dlN (w := f164) X627 hx (hb hby d1_10) (by rw [← hL620]; rfl) ?_
  have F629 := (H7.other W627 (Or.inr (own_sne (own_f0 hw) (own_f1 hw) (by decide))))
  have F630 := (H5.wr W627)
  refine own_putf X627 hx hZ hown (own_w hw 18 rfl) e627 N627 H13 F629 F630 (Or.inr ⟨(own_w hw 19 rfl), rfl, hnm⟩) (own_w hw 2 rfl) (ty := .double) (by decide) rfl rfl (hb hby d1_11) ?_
  intro T631 h631 lo631 X631 e631 N631 W631
  have F632 := F629.same W631
  show own_Go _ _ _ _ _ _ _ T631 (mkF m 14 L620 [])
  refine own_alN (w := (.ref a597)) X631 hx (hb hby d1_14) (by rw [← hL620]; rfl) rfl ?_
  refine own_dl (w := f237) X631 hx (hb hby d1_15) (by rw [← hL620]; rfl) ?_
  have F633 := ((H8.other W627 (Or.inr (own_sne (own_f2 hw) (own_f1 hw) (by decide)))).other W631 (Or.inr (own_sne (own_f2 hw) (own_f0 hw) (by decide))))
  have F634 := (F630.wr W631)
  refine own_putf X631 hx hZ hown (own_w hw 20 rfl) e631 N631 H13 F633 F634 (Or.inr ⟨(own_w hw 21 rfl), rfl, hnm⟩) (own_w hw 2 rfl) (ty := .double) (by decide) rfl rfl (hb hby d1_17) ?_
  intro T635 h635 lo635 X635 e635 N635 W635
  have F636 := F633.same W635
  show own_Go _ _ _ _ _ _ _ T635 (mkF m 20 L620 [])
  refine own_alN (w := (.ref a597)) X635 hx (hb hby d1_20) (by rw [← hL620]; rfl) rfl ?_
  refine own_dl (w := f573) X635 hx (hb hby d1_21) (by rw [← hL620]; rfl) ?_
  have F637 := (((H9.other W627 (Or.inr (own_sne (own_f3 hw) (own_f1 hw) (by decide)))).other W631 (Or.inr (own_sne (own_f3 hw) (own_f0 hw) (by decide)))).other W635 (Or.inr (own_sne (own_f3 hw) (own_f2 hw) (by decide))))
  have F638 := (F634.wr W635)
  refine own_putf X635 hx hZ hown (own_w hw 22 rfl) e635 N635 H13 F637 F638 (Or.inr ⟨(own_w hw 23 rfl), rfl, hnm⟩) (own_w hw 2 rfl) (ty := .double) (by decide) rfl rfl (hb hby d1_23) ?_
  intro T639 h639 lo639 X639 e639 N639 W639
  have F640 := F637.same W639
  show own_Go _ _ _ _ _ _ _ T639 (mkF m 26 L620 [])
  refine own_alN (w := (.ref a597)) X639 hx (hb hby d1_26) (by rw [← hL620]; rfl) rfl ?_
  refine own_dl (w := (4607182418800017408 : UInt64)) X639 hx (hb hby d1_27) (by rw [← hL620]; rfl) ?_
  have F641 := ((((H10.other W627 (Or.inr (own_sne (own_f4 hw) (own_f1 hw) (by decide)))).other W631 (Or.inr (own_sne (own_f4 hw) (own_f0 hw) (by decide)))).other W635 (Or.inr (own_sne (own_f4 hw) (own_f2 hw) (by decide)))).other W639 (Or.inr (own_sne (own_f4 hw) (own_f3 hw) (by decide))))
  have F642 := (F638.wr W639)
  refine own_putf X639 hx hZ hown (own_w hw 24 rfl) e639 N639 H13 F641 F642 (Or.inr ⟨(own_w hw 25 rfl), rfl, hnm⟩) (own_w hw 2 rfl) (ty := .double) (by decide) rfl rfl (hb hby d1_29) ?_
  intro T643 h643 lo643 X643 e643 N643 W643
  have F644 := F641.same W643
  show own_Go _ _ _ _ _ _ _ T643 (mkF m 32 L620 [])
  refine own_alN (w := (.ref a597)) X643 hx (hb hby d1_32) (by rw [← hL620]; rfl) rfl ?_
  refine own_dl (w := f574) X643 hx (hb hby d1_33) (by rw [← hL620]; rfl) ?_
  have F645 := (((((H11.other W627 (Or.inr (own_sne (own_f5 hw) (own_f1 hw) (by decide)))).other W631 (Or.inr (own_sne (own_f5 hw) (own_f0 hw) (by decide)))).other W635 (Or.inr (own_sne (own_f5 hw) (own_f2 hw) (by decide)))).other W639 (Or.inr (own_sne (own_f5 hw) (own_f3 hw) (by decide)))).other W643 (Or.inr (own_sne (own_f5 hw) (own_f4 hw) (by decide))))
  have F646 := (F642.wr W643)
  refine own_putf X643 hx hZ hown (own_w hw 26 rfl) e643 N643 H13 F645 F646 (Or.inr ⟨(own_w hw 27 rfl), rfl, hnm⟩) (own_w hw 2 rfl) (ty := .double) (by decide) rfl rfl (hb hby d1_35) ?_
  intro T647 h647 lo647 X647 e647 N647 W647
  have F648 := F645.same W647
  show own_Go _ _ _ _ _ _ _ T647 (mkF m 38 L620 [])
  have F649 := (((((F628.other W631 (Or.inr (own_sne (own_f1 hw) (own_f0 hw) (by decide)))).other W635 (Or.inr (own_sne (own_f1 hw) (own_f2 hw) (by decide)))).other W639 (Or.inr (own_sne (own_f1 hw) (own_f3 hw) (by decide)))).other W643 (Or.inr (own_sne (own_f1 hw) (own_f4 hw) (by decide)))).other W647 (Or.inr (own_sne (own_f1 hw) (own_f5 hw) (by decide))))
  have F650 := ((((F632.other W635 (Or.inr (own_sne (own_f0 hw) (own_f2 hw) (by decide)))).other W639 (Or.inr (own_sne (own_f0 hw) (own_f3 hw) (by decide)))).other W643 (Or.inr (own_sne (own_f0 hw) (own_f4 hw) (by decide)))).other W647 (Or.inr (own_sne (own_f0 hw) (own_f5 hw) (by decide))))
  have F651 := (((F636.other W639 (Or.inr (own_sne (own_f2 hw) (own_f3 hw) (by decide)))).other W643 (Or.inr (own_sne (own_f2 hw) (own_f4 hw) (by decide)))).other W647 (Or.inr (own_sne (own_f2 hw) (own_f5 hw) (by decide))))
  have F652 := ((F640.other W643 (Or.inr (own_sne (own_f3 hw) (own_f4 hw) (by decide)))).other W647 (Or.inr (own_sne (own_f3 hw) (own_f5 hw) (by decide))))
  have F653 := (F644.other W647 (Or.inr (own_sne (own_f4 hw) (own_f5 hw) (by decide))))
  exact own_ret0 X647 hx hlk hret (hb hby d1_38) e647 ⟨rfl, N647, (((((((Keep.refl _ _).wr W627 (Or.inl (by simp))).wr W631 (Or.inl (by simp))).wr W635 (Or.inl (by simp))).wr W639 (Or.inl (by simp))).wr W643 (Or.inl (by simp))).wr W647 (Or.inl (by simp))), F649, F650, F651, F652, F653, F648⟩ (by decide) (by decide)
def own_s24_Q (Z : State) (a441 : Addr) (f163 : UInt64) (f573 : UInt64) (f164 : UInt64) (f237 : UInt64) (f574 : UInt64) (p4 : Int32) (p5 : Int32) (v7 : Int32) (w0 : Int32) (v15 : Int32) (h0 : Heap) (n0 : Nat) (v_ : Option Value) (h_ : Heap) (L_ : List Loc) : Prop := (fun v h L => ∃ (a597 : Addr), v = some (.ref a597) ∧ Fr n0 L ∧ Keep h0 h [] ∧ h0.size ≤ a597 ∧ Exa Z h a597 own_k0 ∧ Fld Z h a597 own_k0 "low" "D" (.double f163) ∧ Fld Z h a597 own_k0 "gapLow" "D" (.double f164) ∧ Fld Z h a597 own_k0 "gapHigh" "D" (.double f237) ∧ Fld Z h a597 own_k0 "high" "D" (.double f573) ∧ Fld Z h a597 own_k0 "below" "D" (.double (4607182418800017408 : UInt64)) ∧ Fld Z h a597 own_k0 "count" "D" (.double f574)) v_ h_ L_
set_option maxRecDepth 65536 in
set_option maxHeartbeats 40000000 in
theorem own_s24 (l : Launch) (Z : State) (a0 : Array Value) (hw : ∀ d ∈ tables_1, d.before a0 Z = true) (wds : List Jvm.Cond) (a441 : Addr) (f163 : UInt64) (f573 : UInt64) (f164 : UInt64) (f237 : UInt64) (f574 : UInt64) (p4 : Int32) (p5 : Int32) (v7 : Int32) (w0 : Int32) (v15 : Int32) (h0 : Heap) (n0 : Nat) (Z0 : n0 ≤ h0.size) (H6 : Fld Z h0 a441 own_k1 "low" "D" (.double f163)) (H7 : Fld Z h0 a441 own_k1 "high" "D" (.double f573)) (H8 : Fld Z h0 a441 own_k1 "gapLow" "D" (.double f164)) (H9 : Fld Z h0 a441 own_k1 "gapHigh" "D" (.double f237)) (H10 : Fld Z h0 a441 own_k1 "count" "D" (.double f574)) (H11 : Fld Z h0 a441 own_k1 "below" "D" (.double (4607182418800017408 : UInt64))) (H14 : FP.Core.DInt p4.toInt f163) (H15 : FP.Core.DInt p5.toInt f573) (H16 : FP.Core.DInt p4.toInt f164) (H17 : FP.Core.DInt p5.toInt f237) (H19 : 0 ≤ v7.toInt ∧ v7.toInt ≤ 65535) (H20 : 0 ≤ w0.toInt ∧ w0.toInt ≤ 65535) (H21 : 0 ≤ v15.toInt ∧ v15.toInt ≤ 65535) (H22 : p4.toInt < p5.toInt) :
    MetFree l (⟨own_k1, "extent", "()Lcom/example/rankline/rankline/Extent;"⟩ : MethodName) (head1 (Jvm.Cond.code (⟨own_k1, "extent", "()Lcom/example/rankline/rankline/Extent;"⟩ : MethodName) prog_17_method_3_code 1 (some (.object own_k0)) :: wds) ({ frames := 3, cells := 1, slots := 6, locals := 49 } : Room)) (fun ar_ U_ => ar_ = #[(.ref a441)] ∧ Z.Warmed39 U_.vm ∧ U_.heap = h0) (fun _ _ _ _ _ => True) (fun _ U_ o_ V_ => ∃ v_ L_, o_ = .returned v_ ∧ own_s24_Q Z a441 f163 f573 f164 f237 f574 p4 p5 v7 w0 v15 h0 n0 v_ V_.heap L_ ∧ FrameEnd U_ o_ V_ L_ ({ frames := 3, cells := 1, slots := 6, locals := 49 } : Room).cells ({ frames := 3, cells := 1, slots := 6, locals := 49 } : Room).slots) := by
  refine own_met (y := ⟨own_k1, "extent", "()Lcom/example/rankline/rankline/Extent;"⟩) (Q := own_s24_Q Z a441 f163 f573 f164 f237 f574 p4 p5 v7 w0 v15 h0 n0) own_pn3 ?_
  intro p e s m below meth c s₁ hx hby hml hZ hown hnm hret hlk X0 e0
  have N0 := Fr.nil n0
  refine own_cast (g' := (mkF m 0 #[.val (.ref a441)] [])) (by first | (simp [entryFrame, mkF, argsToLocals, Value.category]; done) | rfl) ?_
  refine own_alN (w := (.ref a441)) X0 hx (hb hby d12_0) rfl rfl ?_
  refine own_getf X0 hx hZ hown (own_w hw 65 rfl) e0 H6 (hb hby d12_1) ?_
  intro T589 X589 e589
  show own_Go _ _ _ _ _ _ _ T589 (mkF m 4 #[.val (.ref a441)] [(.double f163)])
  refine own_alN (w := (.ref a441)) X589 hx (hb hby d12_4) rfl rfl ?_
  refine own_getf X589 hx hZ hown (own_w hw 68 rfl) e589 H7 (hb hby d12_5) ?_
  intro T590 X590 e590
  show own_Go _ _ _ _ _ _ _ T590 (mkF m 8 #[.val (.ref a441)] [(.double f573), (.double f163)])
  obtain ⟨k591, hk591⟩ : ∃ z, own_c p4.toInt p5.toInt = z := ⟨_, rfl⟩
  refine own_pre (g' := (mkF m 9 #[.val (.ref a441)] [(.int k591)])) (fun t k => XS.dcmpS X590.here hx rfl (hb hby d12_8) rfl ((own_dcmp H14 H15 _).trans hk591) k) ?_
  have hc592 : ¬ (0 : Int32) < k591 := by rw [← hk591, own_c_gt] <;> (have := H19; have := H20; have := H21; have := H22; have := rng32 p4; have := rng32 p5; omega)
  refine own_pre (g' := (mkF m 16 #[.val (.ref a441)] [])) (fun t k => XS.ifYes X590.here hx rfl (pc0 := 9) (pc' := 16) rfl (hb hby d12_9) rfl ((if0 _ _).trans (flt hc592).2.2.2) (by decide) (by decide) k) ?_
  refine own_alN (w := (.ref a441)) X590 hx (hb hby d12_16) rfl rfl ?_
  refine own_getf X590 hx hZ hown (own_w hw 75 rfl) e590 H8 (hb hby d12_17) ?_
  intro T593 X593 e593
  show own_Go _ _ _ _ _ _ _ T593 (mkF m 20 #[.val (.ref a441)] [(.double f164)])
  refine own_alN (w := (.ref a441)) X593 hx (hb hby d12_20) rfl rfl ?_
  refine own_getf X593 hx hZ hown (own_w hw 77 rfl) e593 H9 (hb hby d12_21) ?_
  intro T594 X594 e594
  show own_Go _ _ _ _ _ _ _ T594 (mkF m 24 #[.val (.ref a441)] [(.double f237), (.double f164)])
  obtain ⟨k595, hk595⟩ : ∃ z, own_c p4.toInt p5.toInt = z := ⟨_, rfl⟩
  refine own_pre (g' := (mkF m 25 #[.val (.ref a441)] [(.int k595)])) (fun t k => XS.dcmpS X594.here hx rfl (hb hby d12_24) rfl ((own_dcmp H16 H17 _).trans hk595) k) ?_
  have hc596 : k595 < (0 : Int32) := by rw [← hk595, own_c_lt] <;> (have := H19; have := H20; have := H21; have := H22; have := rng32 p4; have := rng32 p5; omega)
  refine own_pre (g' := (mkF m 28 #[.val (.ref a441)] [])) (fun t k => XS.ifNo X594.here hx rfl (hb hby d12_25) rfl ((if0 _ _).trans (tlt hc596).2.1) k) ?_
  refine own_newobj X594 hx hZ hown (own_w hw 92 rfl) (own_w hw 2 rfl) (own_w hw 3 rfl) e594 (hb hby d12_28) (by decide) (by decide) ?_
  intro T597 h597 a597 g597 X597 e597 E597 A597 D597
  have ge600 : h0.size ≤ a597 := Nat.le_trans (Nat.le_refl _) (Nat.le_of_eq g597.symm)
  have nw601 : n0 ≤ a597 := Nat.le_trans Z0 (Nat.le_of_eq g597.symm)
  have F602 : Fld Z h597 a597 own_k0 "low" "D" (.double (0 : UInt64)) := D597 (Or.inr (own_w hw 17 rfl)) (ty := .double) (by decide)
  have F603 : Fld Z h597 a597 own_k0 "gapLow" "D" (.double (0 : UInt64)) := D597 (Or.inr (own_w hw 19 rfl)) (ty := .double) (by decide)
  have F604 : Fld Z h597 a597 own_k0 "gapHigh" "D" (.double (0 : UInt64)) := D597 (Or.inr (own_w hw 21 rfl)) (ty := .double) (by decide)
  have F605 : Fld Z h597 a597 own_k0 "high" "D" (.double (0 : UInt64)) := D597 (Or.inr (own_w hw 23 rfl)) (ty := .double) (by decide)
  have F606 : Fld Z h597 a597 own_k0 "below" "D" (.double (0 : UInt64)) := D597 (Or.inr (own_w hw 25 rfl)) (ty := .double) (by decide)
  have F607 : Fld Z h597 a597 own_k0 "count" "D" (.double (0 : UInt64)) := D597 (Or.inr (own_w hw 27 rfl)) (ty := .double) (by decide)
  show own_Go _ _ _ _ _ _ _ T597 (mkF m 31 #[.val (.ref a441)] [(.ref a597)])
  refine own_pre (g' := (mkF m 32 #[.val (.ref a441)] [(.ref a597), (.ref a597)])) (fun t k => XS.dup X597.here hx rfl (hb hby d12_31) rfl rfl k) ?_
  refine own_alN (w := (.ref a441)) X597 hx (hb hby d12_32) rfl rfl ?_
  have F608 := (H6.ext E597)
  refine own_getf X597 hx hZ hown (own_w hw 65 rfl) e597 F608 (hb hby d12_33) ?_
  intro T609 X609 e609
  show own_Go _ _ _ _ _ _ _ T609 (mkF m 36 #[.val (.ref a441)] [(.double f163), (.ref a597), (.ref a597)])
  refine own_alN (w := (.ref a441)) X609 hx (hb hby d12_36) rfl rfl ?_
  have F610 := (H8.ext E597)
  refine own_getf X609 hx hZ hown (own_w hw 75 rfl) e609 F610 (hb hby d12_37) ?_
  intro T611 X611 e611
  show own_Go _ _ _ _ _ _ _ T611 (mkF m 40 #[.val (.ref a441)] [(.double f164), (.double f163), (.ref a597), (.ref a597)])
  refine own_alN (w := (.ref a441)) X611 hx (hb hby d12_40) rfl rfl ?_
  have F612 := (H9.ext E597)
  refine own_getf X611 hx hZ hown (own_w hw 77 rfl) e611 F612 (hb hby d12_41) ?_
  intro T613 X613 e613
  show own_Go _ _ _ _ _ _ _ T613 (mkF m 44 #[.val (.ref a441)] [(.double f237), (.double f164), (.double f163), (.ref a597), (.ref a597)])
  refine own_alN (w := (.ref a441)) X613 hx (hb hby d12_44) rfl rfl ?_
  have F614 := (H7.ext E597)
  refine own_getf X613 hx hZ hown (own_w hw 68 rfl) e613 F614 (hb hby d12_45) ?_
  intro T615 X615 e615
  show own_Go _ _ _ _ _ _ _ T615 (mkF m 48 #[.val (.ref a441)] [(.double f573), (.double f237), (.double f164), (.double f163), (.ref a597), (.ref a597)])
  refine own_alN (w := (.ref a441)) X615 hx (hb hby d12_48) rfl rfl ?_
  have F616 := (H11.ext E597)
  refine own_getf X615 hx hZ hown (own_w hw 81 rfl) e615 F616 (hb hby d12_49) ?_
  intro T617 X617 e617
  show own_Go _ _ _ _ _ _ _ T617 (mkF m 52 #[.val (.ref a441)] [(.double (4607182418800017408 : UInt64)), (.double f573), (.double f237), (.double f164), (.double f163), (.ref a597), (.ref a597)])
  refine own_alN (w := (.ref a441)) X617 hx (hb hby d12_52) rfl rfl ?_
  have F618 := (H10.ext E597)
  refine own_getf X617 hx hZ hown (own_w hw 79 rfl) e617 F618 (hb hby d12_53) ?_
  intro T619 X619 e619
  show own_Go _ _ _ _ _ _ _ T619 (mkF m 56 #[.val (.ref a441)] [(.double f574), (.double (4607182418800017408 : UInt64)), (.double f573), (.double f237), (.double f164), (.double f163), (.ref a597), (.ref a597)])
  have F654 : n0 ≤ h597.size := (Nat.le_trans Z0 E597.1)
  refine own_init (a := a597) (argsL := [(.double f163), (.double f164), (.double f237), (.double f573), (.double (4607182418800017408 : UInt64)), (.double f574)]) (rest := [(.ref a597)]) X619 hx hZ hown (own_s25 l Z a0 hw [] a597 f163 f164 f237 f573 f574 h597 n0 F654 A597 F602 F603 F604 F605 F606 F607 nw601) rfl (own_w hw 93 rfl) (own_w hw 6 rfl) (own_w hw 7 rfl) (own_w hw 3 rfl) (by decide) e619 (hb hby d12_56) (by rw [hml]; rfl) rfl (lenOf own_pd1 rfl) (by decide) (W := 1) (Nat.le_of_eq rfl) (by decide) (by decide) (by decide) ?_
  intro v655 T655 lo655 X655 Q655
  obtain ⟨h655, e655⟩ : ∃ h, T655.heap = h := ⟨_, rfl⟩
  rw [e655] at Q655
  obtain ⟨rfl, N655, K655, F656, F657, F658, F659, F660, F661⟩ := Q655
  have N655' := Fr.app N0 N655
  show own_Go _ _ _ _ _ _ _ T655 (mkF m 59 #[.val (.ref a441)] [(.ref a597)])
  refine own_gt X655 hx 77 (hb hby d12_59) (by decide) (by decide) ?_
  have F663 := (A597.keep K655)
  exact own_retA X655 hx hlk hret rfl rfl rfl (hb hby d12_77) e655 ⟨a597, rfl, N655', (((Keep.refl _ _).ext E597).trans K655 (allS (Or.inr ge600) all0)), ge600, F663, F656, F657, F658, F659, F660, F661⟩ (by decide) (by decide)
theorem own_pd6 : parseMethodDescriptor "()Lcom/example/rankline/rankline/Extent;" = some ⟨[], some (.object "com/example/rankline/rankline/Extent")⟩ := by decide +kernel
def own_s14_Q (Z : State) (a221 : Addr) (a299 : Addr) (f163 : UInt64) (f164 : UInt64) (f237 : UInt64) (f238 : UInt64) (p4 : Int32) (p5 : Int32) (v7 : Int32) (w0 : Int32) (v15 : Int32) (h0 : Heap) (n0 : Nat) (v_ : Option Value) (h_ : Heap) (L_ : List Loc) : Prop := (fun v h L => ∃ (a666 : Addr) (f573 : UInt64) (f574 : UInt64), v = some (.ref a666) ∧ Fr n0 L ∧ Keep h0 h [] ∧ h0.size ≤ a666 ∧ Exa Z h a666 own_k0 ∧ Fld Z h a666 own_k0 "low" "D" (.double f163) ∧ Fld Z h a666 own_k0 "gapLow" "D" (.double f164) ∧ Fld Z h a666 own_k0 "gapHigh" "D" (.double f237) ∧ Fld Z h a666 own_k0 "high" "D" (.double f573) ∧ Fld Z h a666 own_k0 "below" "D" (.double (4607182418800017408 : UInt64)) ∧ Fld Z h a666 own_k0 "count" "D" (.double f574) ∧ FP.Core.DInt p5.toInt f573 ∧ FP.Core.DInt (1 + 1) f574) v_ h_ L_
set_option maxRecDepth 65536 in
set_option maxHeartbeats 40000000 in
theorem own_s14 (l : Launch) (Z : State) (a0 : Array Value) (hw : ∀ d ∈ tables_1, d.before a0 Z = true) (wds : List Jvm.Cond) (a221 : Addr) (a299 : Addr) (f163 : UInt64) (f164 : UInt64) (f237 : UInt64) (f238 : UInt64) (p4 : Int32) (p5 : Int32) (v7 : Int32) (w0 : Int32) (v15 : Int32) (h0 : Heap) (n0 : Nat) (Z0 : n0 ≤ h0.size) (H5 : Exa Z h0 a221 own_k0) (H6 : Fld Z h0 a221 own_k0 "low" "D" (.double f163)) (H7 : Fld Z h0 a221 own_k0 "gapLow" "D" (.double f164)) (H8 : Fld Z h0 a221 own_k0 "gapHigh" "D" (.double f164)) (H9 : Fld Z h0 a221 own_k0 "high" "D" (.double f164)) (H11 : Fld Z h0 a221 own_k0 "count" "D" (.double (4607182418800017408 : UInt64))) (H12 : Exa Z h0 a299 own_k0) (H13 : Fld Z h0 a299 own_k0 "low" "D" (.double f237)) (H14 : Fld Z h0 a299 own_k0 "gapLow" "D" (.double f238)) (H15 : Fld Z h0 a299 own_k0 "gapHigh" "D" (.double f238)) (H16 : Fld Z h0 a299 own_k0 "high" "D" (.double f238)) (H18 : Fld Z h0 a299 own_k0 "count" "D" (.double (4607182418800017408 : UInt64))) (H24 : FP.Core.DInt p4.toInt f163) (H25 : FP.Core.DInt p4.toInt f164) (H26 : FP.Core.DInt p5.toInt f237) (H27 : FP.Core.DInt p5.toInt f238) (H28 : 0 ≤ v7.toInt ∧ v7.toInt ≤ 65535) (H29 : 0 ≤ w0.toInt ∧ w0.toInt ≤ 65535) (H30 : 0 ≤ v15.toInt ∧ v15.toInt ≤ 65535) (H31 : p4.toInt < p5.toInt) :
    MetFree l (⟨own_k0, "union", own_k2⟩ : MethodName) (head1 (Jvm.Cond.code (⟨own_k0, "union", own_k2⟩ : MethodName) prog_16_method_8_code 7 (some (.object own_k0)) :: wds) ({ frames := 4, cells := 3, slots := 24, locals := 61 } : Room)) (fun ar_ U_ => ar_ = #[(.ref a221), (.ref a299)] ∧ Z.Warmed39 U_.vm ∧ U_.heap = h0) (fun _ _ _ _ _ => True) (fun _ U_ o_ V_ => ∃ v_ L_, o_ = .returned v_ ∧ own_s14_Q Z a221 a299 f163 f164 f237 f238 p4 p5 v7 w0 v15 h0 n0 v_ V_.heap L_ ∧ FrameEnd U_ o_ V_ L_ ({ frames := 4, cells := 3, slots := 24, locals := 61 } : Room).cells ({ frames := 4, cells := 3, slots := 24, locals := 61 } : Room).slots) := by
  refine own_met (y := ⟨own_k0, "union", own_k2⟩) (Q := own_s14_Q Z a221 a299 f163 f164 f237 f238 p4 p5 v7 w0 v15 h0 n0) own_pn0 ?_
  intro p e s m below meth c s₁ hx hby hml hZ hown hnm hret hlk X0 e0
  have N0 := Fr.nil n0
  refine own_cast (g' := (mkF m 0 #[.val (.ref a221), .val (.ref a299), .unset, .unset, .unset, .unset, .unset] [])) (by first | (simp [entryFrame, mkF, argsToLocals, Value.category]; done) | rfl) ?_
  generalize hL317 : (#[.val (.ref a221), .val (.ref a299), .unset, .unset, .unset, .unset, .unset] : Array Slot) = L317
  refine own_pre (g' := (mkF m 2 L317 [(.int (12 : Int32))])) (fun t k => XS.bipush X0.here hx rfl (hb hby d6_0) k) ?_
  refine own_newarr X0 hx hZ (aty := .double) (own_w hw 46 rfl) e0 (hb hby d6_2) (n := 12) (by decide) (by decide) (by decide) (by decide) (by decide) (ad := "[D") rfl ?_
  intro T328 h328 a328 g328 X328 e328 E328 A328 B328
  have lt330 : a221 < a328 := Nat.lt_of_lt_of_le H5.lt (Nat.le_of_eq g328.symm)
  have lt331 : a299 < a328 := Nat.lt_of_lt_of_le H12.lt (Nat.le_of_eq g328.symm)
  have ge332 : h0.size ≤ a328 := Nat.le_trans (Nat.le_refl _) (Nat.le_of_eq g328.symm)
  have nw333 : n0 ≤ a328 := Nat.le_trans Z0 (Nat.le_of_eq g328.symm)
  have F334 : own_Ary Z h328 a328 .double (own_rD 12) := A328
  show own_Go _ _ _ _ _ _ _ T328 (mkF m 4 L317 [(.ref a328)])
  refine own_pre (g' := (mkF m 5 #[.val (.ref a221), .val (.ref a299), .val (.ref a328), .unset, .unset, .unset, .unset] [])) (fun t k => XS.astoreN X328.here hx rfl (hb hby d6_4) rfl rfl (l' := #[.val (.ref a221), .val (.ref a299), .val (.ref a328), .unset, .unset, .unset, .unset]) (by rw [← hL317]; rfl) k) ?_
  generalize hL335 : (#[.val (.ref a221), .val (.ref a299), .val (.ref a328), .unset, .unset, .unset, .unset] : Array Slot) = L335
  refine own_alN (w := (.ref a299)) X328 hx (hb hby d6_5) (by rw [← hL335]; rfl) rfl ?_
  refine own_alN (w := (.ref a328)) X328 hx (hb hby d6_6) (by rw [← hL335]; rfl) rfl ?_
  refine own_alN (w := (.ref a221)) X328 hx (hb hby d6_7) (by rw [← hL335]; rfl) rfl ?_
  refine own_alN (w := (.ref a328)) X328 hx (hb hby d6_8) (by rw [← hL335]; rfl) rfl ?_
  refine own_ic X328 hx (0 : Int32) (hb hby d6_9) rfl ?_
  have F340 := (H5.ext E328)
  have F341 := (H6.ext E328)
  have F342 := (H7.ext E328)
  have F343 := (H8.ext E328)
  have F344 := (H9.ext E328)
  have F346 := (H11.ext E328)
  have F379 : n0 ≤ h328.size := (Nat.le_trans Z0 E328.1)
  refine own_callp (a := a221) (argsL := [(.ref a328), (.int (0 : Int32))]) (rest := [(.ref a328), (.ref a299)]) X328 hx hZ hown (own_s15 l Z a0 hw [] a221 a328 f163 f164 p4 v7 w0 v15 p5 h328 n0 F379 F340 F341 F342 F343 F344 F346 F334 lt330 nw333 H24 H25 H28 H29 H30 H31) F340 (own_w hw 47 rfl) (own_w hw 2 rfl) (own_w hw 49 rfl) (own_w hw 48 rfl) (own_w hw 50 rfl) (own_w hw 3 rfl) (by decide) e328 (hb hby d6_10) (by rw [hml, ← hL335]; rfl) rfl (lenOf own_pd4 rfl) (by decide) (W := 2) (Nat.le_of_eq rfl) (by decide) (by decide) (by decide) ?_
  intro v380 T380 lo380 X380 Q380
  obtain ⟨h380, e380⟩ : ∃ h, T380.heap = h := ⟨_, rfl⟩
  rw [e380] at Q380
  obtain ⟨rfl, N380, K380, F381⟩ := Q380
  have N380' := Fr.app N0 N380
  show own_Go _ _ _ _ _ _ _ T380 (mkF m 13 L335 [(.int (3 : Int32)), (.ref a328), (.ref a299)])
  have F386 := ((H12.ext E328).keep K380)
  have F387 := ((H13.ext E328).keep K380 (ninS (Nat.ne_of_lt lt331) nin0))
  have F388 := ((H14.ext E328).keep K380 (ninS (Nat.ne_of_lt lt331) nin0))
  have F389 := ((H15.ext E328).keep K380 (ninS (Nat.ne_of_lt lt331) nin0))
  have F390 := ((H16.ext E328).keep K380 (ninS (Nat.ne_of_lt lt331) nin0))
  have F392 := ((H18.ext E328).keep K380 (ninS (Nat.ne_of_lt lt331) nin0))
  have F393 := (B328.keep K380)
  have F426 : n0 ≤ h380.size := (Nat.le_trans F379 K380.1)
  refine own_callp (a := a299) (argsL := [(.ref a328), (.int (3 : Int32))]) (rest := []) X380 hx hZ hown (own_s18 l Z a0 hw [] a299 a328 f237 f238 f163 f164 p5 p4 v7 w0 v15 h380 n0 F426 F386 F387 F388 F389 F390 F392 F381 lt331 nw333 H26 H27 H28 H29 H30 H31) F386 (own_w hw 47 rfl) (own_w hw 2 rfl) (own_w hw 49 rfl) (own_w hw 48 rfl) (own_w hw 50 rfl) (own_w hw 3 rfl) (by decide) e380 (hb hby d6_13) (by rw [hml, ← hL335]; rfl) rfl (lenOf own_pd4 rfl) (by decide) (W := 0) (Nat.le_of_eq rfl) (by decide) (by decide) (by decide) ?_
  intro v427 T427 lo427 X427 Q427
  obtain ⟨h427, e427⟩ : ∃ h, T427.heap = h := ⟨_, rfl⟩
  rw [e427] at Q427
  obtain ⟨rfl, N427, K427, F428⟩ := Q427
  have N427' := Fr.app N380' N427
  show own_Go _ _ _ _ _ _ _ T427 (mkF m 16 L335 [(.int (6 : Int32))])
  refine own_pre (g' := (mkF m 17 #[.val (.ref a221), .val (.ref a299), .val (.ref a328), .val (.int (6 : Int32)), .unset, .unset, .unset] [])) (fun t k => XS.istoreN X427.here hx rfl (hb hby d6_16) rfl (l' := #[.val (.ref a221), .val (.ref a299), .val (.ref a328), .val (.int (6 : Int32)), .unset, .unset, .unset]) (by rw [← hL335]; rfl) k) ?_
  generalize hL430 : (#[.val (.ref a221), .val (.ref a299), .val (.ref a328), .val (.int (6 : Int32)), .unset, .unset, .unset] : Array Slot) = L430
  refine own_ic X427 hx (3 : Int32) (hb hby d6_17) rfl ?_
  refine own_pre (g' := (mkF m 20 #[.val (.ref a221), .val (.ref a299), .val (.ref a328), .val (.int (6 : Int32)), .val (.int (3 : Int32)), .unset, .unset] [])) (fun t k => XS.istore X427.here hx rfl (hb hby d6_18) rfl (l' := #[.val (.ref a221), .val (.ref a299), .val (.ref a328), .val (.int (6 : Int32)), .val (.int (3 : Int32)), .unset, .unset]) (by rw [← hL430]; rfl) k) ?_
  generalize hL431 : (#[.val (.ref a221), .val (.ref a299), .val (.ref a328), .val (.int (6 : Int32)), .val (.int (3 : Int32)), .unset, .unset] : Array Slot) = L431
  refine own_il (w := (3 : Int32)) X427 hx (hb hby d6_20) (by rw [← hL431]; rfl) ?_
  refine own_ilN (w := (6 : Int32)) X427 hx (hb hby d6_22) (by rw [← hL431]; rfl) ?_
  refine own_pre (g' := (mkF m 26 L431 [])) (fun t k => XS.icmpNo X427.here hx rfl (hb hby d6_23) rfl (by decide) k) ?_
  refine own_il (w := (3 : Int32)) X427 hx (hb hby d6_26) (by rw [← hL431]; rfl) ?_
  refine own_pre (g' := (mkF m 30 #[.val (.ref a221), .val (.ref a299), .val (.ref a328), .val (.int (6 : Int32)), .val (.int (3 : Int32)), .val (.int (3 : Int32)), .unset] [])) (fun t k => XS.istore X427.here hx rfl (hb hby d6_28) rfl (l' := #[.val (.ref a221), .val (.ref a299), .val (.ref a328), .val (.int (6 : Int32)), .val (.int (3 : Int32)), .val (.int (3 : Int32)), .unset]) (by rw [← hL431]; rfl) k) ?_
  generalize hL432 : (#[.val (.ref a221), .val (.ref a299), .val (.ref a328), .val (.int (6 : Int32)), .val (.int (3 : Int32)), .val (.int (3 : Int32)), .unset] : Array Slot) = L432
  refine own_il (w := (3 : Int32)) X427 hx (hb hby d6_30) (by rw [← hL432]; rfl) ?_
  refine own_pre (g' := (mkF m 35 L432 [])) (fun t k => XS.ifNo X427.here hx rfl (hb hby d6_32) rfl (by decide) k) ?_
  refine own_alN (w := (.ref a328)) X427 hx (hb hby d6_35) (by rw [← hL432]; rfl) rfl ?_
  refine own_il (w := (3 : Int32)) X427 hx (hb hby d6_36) (by rw [← hL432]; rfl) ?_
  refine own_daload X427 hx hZ e427 F428 (hb hby d6_38) (n := 3) (v := (.double f237)) (by decide) (by decide) rfl ?_
  show own_Go _ _ _ _ _ _ _ T427 (mkF m 39 L432 [(.double f237)])
  refine own_alN (w := (.ref a328)) X427 hx (hb hby d6_39) (by rw [← hL432]; rfl) rfl ?_
  refine own_il (w := (3 : Int32)) X427 hx (hb hby d6_40) (by rw [← hL432]; rfl) ?_
  refine own_ic X427 hx (3 : Int32) (hb hby d6_42) rfl ?_
  refine own_pre (g' := (mkF m 44 L432 [(.int (0 : Int32)), (.ref a328), (.double f237)])) (fun t k => XS.isub X427.here hx rfl (hb hby d6_43) rfl k) ?_
  refine own_daload X427 hx hZ e427 F428 (hb hby d6_44) (n := 0) (v := (.double f163)) (by decide) (by decide) rfl ?_
  show own_Go _ _ _ _ _ _ _ T427 (mkF m 45 L432 [(.double f163), (.double f237)])
  obtain ⟨k433, hk433⟩ : ∃ z, own_c p5.toInt p4.toInt = z := ⟨_, rfl⟩
  refine own_pre (g' := (mkF m 46 L432 [(.int k433)])) (fun t k => XS.dcmpS X427.here hx rfl (hb hby d6_45) rfl ((own_dcmp H26 H24 _).trans hk433) k) ?_
  have hc434 : ¬ k433 < (0 : Int32) := by rw [← hk433, own_c_lt] <;> (have := H28; have := H29; have := H30; have := H31; have := rng32 p5; have := rng32 p4; omega)
  refine own_pre (g' := (mkF m 86 L432 [])) (fun t k => XS.ifYes X427.here hx rfl (pc0 := 46) (pc' := 86) rfl (hb hby d6_46) rfl ((if0 _ _).trans (flt hc434).2.1) (by decide) (by decide) k) ?_
  refine own_pre (g' := (mkF m 89 #[.val (.ref a221), .val (.ref a299), .val (.ref a328), .val (.int (6 : Int32)), .val (.int (6 : Int32)), .val (.int (3 : Int32)), .unset] [])) (fun t k => XS.iinc X427.here hx rfl (hb hby d6_86) (x := (3 : Int32)) (by rw [← hL432]; rfl) (l' := #[.val (.ref a221), .val (.ref a299), .val (.ref a328), .val (.int (6 : Int32)), .val (.int (6 : Int32)), .val (.int (3 : Int32)), .unset]) (by rw [← hL432]; rfl) k) ?_
  generalize hL435 : (#[.val (.ref a221), .val (.ref a299), .val (.ref a328), .val (.int (6 : Int32)), .val (.int (6 : Int32)), .val (.int (3 : Int32)), .unset] : Array Slot) = L435
  refine own_gt X427 hx 20 (hb hby d6_89) (by decide) (by decide) ?_
  refine own_il (w := (6 : Int32)) X427 hx (hb hby d6_20) (by rw [← hL435]; rfl) ?_
  refine own_ilN (w := (6 : Int32)) X427 hx (hb hby d6_22) (by rw [← hL435]; rfl) ?_
  refine own_pre (g' := (mkF m 92 L435 [])) (fun t k => XS.icmpYes X427.here hx rfl (pc0 := 23) (pc' := 92) rfl (hb hby d6_23) rfl (by decide) (by decide) (by decide) k) ?_
  have F439 := (F393.keep K427)
  have F440 : n0 ≤ h427.size := (Nat.le_trans F426 K427.1)
  refine own_newobj X427 hx hZ hown (own_w hw 57 rfl) (own_w hw 58 rfl) (own_w hw 59 rfl) e427 (hb hby d6_92) (by decide) (by decide) ?_
  intro T441 h441 a441 g441 X441 e441 E441 A441 D441
  have lt445 : a328 < a441 := Nat.lt_of_lt_of_le F439.lt (Nat.le_of_eq g441.symm)
  have F446 : h0.size ≤ h427.size := (Nat.le_trans (Nat.le_trans (Nat.le_trans (Nat.le_refl _) E328.1) K380.1) K427.1)
  have ge447 : h0.size ≤ a441 := Nat.le_trans F446 (Nat.le_of_eq g441.symm)
  have nw448 : n0 ≤ a441 := Nat.le_trans F440 (Nat.le_of_eq g441.symm)
  have F449 : Fld Z h441 a441 own_k1 "low" "D" (.double (0 : UInt64)) := D441 (Or.inl (own_w hw 66 rfl)) (ty := .double) (by decide)
  have F450 : Fld Z h441 a441 own_k1 "high" "D" (.double (0 : UInt64)) := D441 (Or.inl (own_w hw 69 rfl)) (ty := .double) (by decide)
  have F451 : Fld Z h441 a441 own_k1 "gapLow" "D" (.double (0 : UInt64)) := D441 (Or.inl (own_w hw 76 rfl)) (ty := .double) (by decide)
  have F452 : Fld Z h441 a441 own_k1 "gapHigh" "D" (.double (0 : UInt64)) := D441 (Or.inl (own_w hw 78 rfl)) (ty := .double) (by decide)
  have F453 : Fld Z h441 a441 own_k1 "count" "D" (.double (0 : UInt64)) := D441 (Or.inl (own_w hw 80 rfl)) (ty := .double) (by decide)
  have F454 : Fld Z h441 a441 own_k1 "below" "D" (.double (0 : UInt64)) := D441 (Or.inl (own_w hw 82 rfl)) (ty := .double) (by decide)
  show own_Go _ _ _ _ _ _ _ T441 (mkF m 95 L435 [(.ref a441)])
  refine own_pre (g' := (mkF m 96 L435 [(.ref a441), (.ref a441)])) (fun t k => XS.dup X441.here hx rfl (hb hby d6_95) rfl rfl k) ?_
  have F471 : n0 ≤ h441.size := (Nat.le_trans F440 E441.1)
  refine own_initR (a := a441) (argsL := []) (rest := [(.ref a441)]) X441 hx hZ hown (own_s21 l Z a0 hw [] a441 h441 n0 F471 A441 F449 F450 F451 F452 F453 F454 nw448) rfl (own_w hw 60 rfl) (own_w hw 61 rfl) (own_w hw 62 rfl) (own_w hw 59 rfl) (by decide) e441 (hb hby d6_96) (by rw [hml, ← hL435]; rfl) rfl (lenOf own_pd0 rfl) (by decide) (W := 1) (Nat.le_of_eq rfl) (by decide) (by decide) (by decide) ?_
  intro v472 T472 lo472 X472 Q472
  obtain ⟨h472, e472⟩ : ∃ h, T472.heap = h := ⟨_, rfl⟩
  rw [e472] at Q472
  obtain ⟨rfl, N472, K472, F473, F474, F475, F476, F477, F478⟩ := Q472
  have N472' := Fr.app N427' N472
  show own_Go _ _ _ _ _ _ _ T472 (mkF m 99 L435 [(.ref a441)])
  refine own_pre (g' := (mkF m 101 #[.val (.ref a221), .val (.ref a299), .val (.ref a328), .val (.int (6 : Int32)), .val (.ref a441), .val (.int (3 : Int32)), .unset] [])) (fun t k => XS.astore X472.here hx rfl (hb hby d6_99) rfl rfl (l' := #[.val (.ref a221), .val (.ref a299), .val (.ref a328), .val (.int (6 : Int32)), .val (.ref a441), .val (.int (3 : Int32)), .unset]) (by rw [← hL435]; rfl) k) ?_
  generalize hL480 : (#[.val (.ref a221), .val (.ref a299), .val (.ref a328), .val (.int (6 : Int32)), .val (.ref a441), .val (.int (3 : Int32)), .unset] : Array Slot) = L480
  refine own_ic X472 hx (0 : Int32) (hb hby d6_101) rfl ?_
  refine own_pre (g' := (mkF m 104 #[.val (.ref a221), .val (.ref a299), .val (.ref a328), .val (.int (6 : Int32)), .val (.ref a441), .val (.int (0 : Int32)), .unset] [])) (fun t k => XS.istore X472.here hx rfl (hb hby d6_102) rfl (l' := #[.val (.ref a221), .val (.ref a299), .val (.ref a328), .val (.int (6 : Int32)), .val (.ref a441), .val (.int (0 : Int32)), .unset]) (by rw [← hL480]; rfl) k) ?_
  generalize hL481 : (#[.val (.ref a221), .val (.ref a299), .val (.ref a328), .val (.int (6 : Int32)), .val (.ref a441), .val (.int (0 : Int32)), .unset] : Array Slot) = L481
  refine own_il (w := (0 : Int32)) X472 hx (hb hby d6_104) (by rw [← hL481]; rfl) ?_
  refine own_ilN (w := (6 : Int32)) X472 hx (hb hby d6_106) (by rw [← hL481]; rfl) ?_
  refine own_pre (g' := (mkF m 110 L481 [])) (fun t k => XS.icmpNo X472.here hx rfl (hb hby d6_107) rfl (by decide) k) ?_
  refine own_al (w := (.ref a441)) X472 hx (hb hby d6_110) (by rw [← hL481]; rfl) rfl ?_
  refine own_alN (w := (.ref a328)) X472 hx (hb hby d6_112) (by rw [← hL481]; rfl) rfl ?_
  refine own_il (w := (0 : Int32)) X472 hx (hb hby d6_113) (by rw [← hL481]; rfl) ?_
  have F482 := ((F428.ext E441).keep K472 (ninS (Nat.ne_of_lt lt445) nin0))
  refine own_daload X472 hx hZ e472 F482 (hb hby d6_115) (n := 0) (v := (.double f163)) (by decide) (by decide) rfl ?_
  show own_Go _ _ _ _ _ _ _ T472 (mkF m 116 L481 [(.double f163), (.ref a441)])
  refine own_alN (w := (.ref a328)) X472 hx (hb hby d6_116) (by rw [← hL481]; rfl) rfl ?_
  refine own_il (w := (0 : Int32)) X472 hx (hb hby d6_117) (by rw [← hL481]; rfl) ?_
  refine own_ic X472 hx (1 : Int32) (hb hby d6_119) rfl ?_
  refine own_pre (g' := (mkF m 121 L481 [(.int (1 : Int32)), (.ref a328), (.double f163), (.ref a441)])) (fun t k => XS.iadd X472.here hx rfl (hb hby d6_120) rfl k) ?_
  refine own_daload X472 hx hZ e472 F482 (hb hby d6_121) (n := 1) (v := (.double f164)) (by decide) (by decide) rfl ?_
  show own_Go _ _ _ _ _ _ _ T472 (mkF m 122 L481 [(.double f164), (.double f163), (.ref a441)])
  refine own_alN (w := (.ref a328)) X472 hx (hb hby d6_122) (by rw [← hL481]; rfl) rfl ?_
  refine own_il (w := (0 : Int32)) X472 hx (hb hby d6_123) (by rw [← hL481]; rfl) ?_
  refine own_ic X472 hx (2 : Int32) (hb hby d6_125) rfl ?_
  refine own_pre (g' := (mkF m 127 L481 [(.int (2 : Int32)), (.ref a328), (.double f164), (.double f163), (.ref a441)])) (fun t k => XS.iadd X472.here hx rfl (hb hby d6_126) rfl k) ?_
  refine own_daload X472 hx hZ e472 F482 (hb hby d6_127) (n := 2) (v := (.double (4607182418800017408 : UInt64))) (by decide) (by decide) rfl ?_
  show own_Go _ _ _ _ _ _ _ T472 (mkF m 128 L481 [(.double (4607182418800017408 : UInt64)), (.double f164), (.double f163), (.ref a441)])
  have F487 := (A441.keep K472)
  have F513 : n0 ≤ h472.size := (Nat.le_trans F471 K472.1)
  refine own_callv (a := a441) (argsL := [(.double f163), (.double f164), (.double (4607182418800017408 : UInt64))]) (rest := []) X472 hx hZ hown (own_s22 l Z a0 hw [] a441 f163 f164 h472 n0 F513 F487 F473 F474 F475 F476 F477 F478 nw448) F487 (own_w hw 70 rfl) (own_w hw 71 rfl) (own_w hw 73 rfl) (own_w hw 72 rfl) (own_w hw 74 rfl) (own_w hw 59 rfl) (by decide) e472 (hb hby d6_128) (by rw [hml, ← hL481]; rfl) rfl (lenOf own_pd5 rfl) (by decide) (W := 0) (Nat.le_of_eq rfl) (by decide) (by decide) (by decide) ?_
  intro v514 T514 lo514 X514 Q514
  obtain ⟨h514, e514⟩ : ∃ h, T514.heap = h := ⟨_, rfl⟩
  rw [e514] at Q514
  obtain ⟨rfl, N514, K514, F515, F516, F517, F518, F519, F520⟩ := Q514
  have N514' := Fr.app N472' N514
  show own_Go _ _ _ _ _ _ _ T514 (mkF m 131 L481 [])
  refine own_pre (g' := (mkF m 134 #[.val (.ref a221), .val (.ref a299), .val (.ref a328), .val (.int (6 : Int32)), .val (.ref a441), .val (.int (3 : Int32)), .unset] [])) (fun t k => XS.iinc X514.here hx rfl (hb hby d6_131) (x := (0 : Int32)) (by rw [← hL481]; rfl) (l' := #[.val (.ref a221), .val (.ref a299), .val (.ref a328), .val (.int (6 : Int32)), .val (.ref a441), .val (.int (3 : Int32)), .unset]) (by rw [← hL481]; rfl) k) ?_
  generalize hL522 : (#[.val (.ref a221), .val (.ref a299), .val (.ref a328), .val (.int (6 : Int32)), .val (.ref a441), .val (.int (3 : Int32)), .unset] : Array Slot) = L522
  refine own_gt X514 hx 104 (hb hby d6_134) (by decide) (by decide) ?_
  refine own_il (w := (3 : Int32)) X514 hx (hb hby d6_104) (by rw [← hL522]; rfl) ?_
  refine own_ilN (w := (6 : Int32)) X514 hx (hb hby d6_106) (by rw [← hL522]; rfl) ?_
  refine own_pre (g' := (mkF m 110 L522 [])) (fun t k => XS.icmpNo X514.here hx rfl (hb hby d6_107) rfl (by decide) k) ?_
  refine own_al (w := (.ref a441)) X514 hx (hb hby d6_110) (by rw [← hL522]; rfl) rfl ?_
  refine own_alN (w := (.ref a328)) X514 hx (hb hby d6_112) (by rw [← hL522]; rfl) rfl ?_
  refine own_il (w := (3 : Int32)) X514 hx (hb hby d6_113) (by rw [← hL522]; rfl) ?_
  have F523 := (F482.keep K514 (ninS (Nat.ne_of_lt lt445) nin0))
  refine own_daload X514 hx hZ e514 F523 (hb hby d6_115) (n := 3) (v := (.double f237)) (by decide) (by decide) rfl ?_
  show own_Go _ _ _ _ _ _ _ T514 (mkF m 116 L522 [(.double f237), (.ref a441)])
  refine own_alN (w := (.ref a328)) X514 hx (hb hby d6_116) (by rw [← hL522]; rfl) rfl ?_
  refine own_il (w := (3 : Int32)) X514 hx (hb hby d6_117) (by rw [← hL522]; rfl) ?_
  refine own_ic X514 hx (1 : Int32) (hb hby d6_119) rfl ?_
  refine own_pre (g' := (mkF m 121 L522 [(.int (4 : Int32)), (.ref a328), (.double f237), (.ref a441)])) (fun t k => XS.iadd X514.here hx rfl (hb hby d6_120) rfl k) ?_
  refine own_daload X514 hx hZ e514 F523 (hb hby d6_121) (n := 4) (v := (.double f238)) (by decide) (by decide) rfl ?_
  show own_Go _ _ _ _ _ _ _ T514 (mkF m 122 L522 [(.double f238), (.double f237), (.ref a441)])
  refine own_alN (w := (.ref a328)) X514 hx (hb hby d6_122) (by rw [← hL522]; rfl) rfl ?_
  refine own_il (w := (3 : Int32)) X514 hx (hb hby d6_123) (by rw [← hL522]; rfl) ?_
  refine own_ic X514 hx (2 : Int32) (hb hby d6_125) rfl ?_
  refine own_pre (g' := (mkF m 127 L522 [(.int (5 : Int32)), (.ref a328), (.double f238), (.double f237), (.ref a441)])) (fun t k => XS.iadd X514.here hx rfl (hb hby d6_126) rfl k) ?_
  refine own_daload X514 hx hZ e514 F523 (hb hby d6_127) (n := 5) (v := (.double (4607182418800017408 : UInt64))) (by decide) (by decide) rfl ?_
  show own_Go _ _ _ _ _ _ _ T514 (mkF m 128 L522 [(.double (4607182418800017408 : UInt64)), (.double f238), (.double f237), (.ref a441)])
  have F528 := (F487.keep K514)
  have F571 : n0 ≤ h514.size := (Nat.le_trans F513 K514.1)
  refine own_callv (a := a441) (argsL := [(.double f237), (.double f238), (.double (4607182418800017408 : UInt64))]) (rest := []) X514 hx hZ hown (own_s23 l Z a0 hw [] a441 f237 f238 f163 f164 p5 p4 v7 w0 v15 h514 n0 F571 F528 F515 F516 F517 F518 F519 F520 nw448 H26 H27 H24 H25 H28 H29 H30 H31) F528 (own_w hw 70 rfl) (own_w hw 71 rfl) (own_w hw 73 rfl) (own_w hw 72 rfl) (own_w hw 74 rfl) (own_w hw 59 rfl) (by decide) e514 (hb hby d6_128) (by rw [hml, ← hL522]; rfl) rfl (lenOf own_pd5 rfl) (by decide) (W := 0) (Nat.le_of_eq rfl) (by decide) (by decide) (by decide) ?_
  intro v572 T572 lo572 X572 Q572
  obtain ⟨h572, e572⟩ : ∃ h, T572.heap = h := ⟨_, rfl⟩
  rw [e572] at Q572
  obtain ⟨f573, f574, rfl, N572, K572, F575, F576, F577, F578, F579, F580, D581, D582⟩ := Q572
  have N572' := Fr.app N514' N572
  show own_Go _ _ _ _ _ _ _ T572 (mkF m 131 L522 [])
  refine own_pre (g' := (mkF m 134 #[.val (.ref a221), .val (.ref a299), .val (.ref a328), .val (.int (6 : Int32)), .val (.ref a441), .val (.int (6 : Int32)), .unset] [])) (fun t k => XS.iinc X572.here hx rfl (hb hby d6_131) (x := (3 : Int32)) (by rw [← hL522]; rfl) (l' := #[.val (.ref a221), .val (.ref a299), .val (.ref a328), .val (.int (6 : Int32)), .val (.ref a441), .val (.int (6 : Int32)), .unset]) (by rw [← hL522]; rfl) k) ?_
  generalize hL584 : (#[.val (.ref a221), .val (.ref a299), .val (.ref a328), .val (.int (6 : Int32)), .val (.ref a441), .val (.int (6 : Int32)), .unset] : Array Slot) = L584
  refine own_gt X572 hx 104 (hb hby d6_134) (by decide) (by decide) ?_
  refine own_il (w := (6 : Int32)) X572 hx (hb hby d6_104) (by rw [← hL584]; rfl) ?_
  refine own_ilN (w := (6 : Int32)) X572 hx (hb hby d6_106) (by rw [← hL584]; rfl) ?_
  refine own_pre (g' := (mkF m 137 L584 [])) (fun t k => XS.icmpYes X572.here hx rfl (pc0 := 107) (pc' := 137) rfl (hb hby d6_107) rfl (by decide) (by decide) (by decide) k) ?_
  refine own_al (w := (.ref a441)) X572 hx (hb hby d6_137) (by rw [← hL584]; rfl) rfl ?_
  have F588 := (F528.keep K572)
  have F664 : n0 ≤ h572.size := (Nat.le_trans F571 K572.1)
  refine own_callv (a := a441) (argsL := []) (rest := []) X572 hx hZ hown (own_s24 l Z a0 hw [] a441 f163 f573 f164 f237 f574 p4 p5 v7 w0 v15 h572 n0 F664 F575 F576 F577 F578 F579 F580 H24 D581 H25 H26 H28 H29 H30 H31) F588 (own_w hw 87 rfl) (own_w hw 88 rfl) (own_w hw 90 rfl) (own_w hw 89 rfl) (own_w hw 91 rfl) (own_w hw 59 rfl) (by decide) e572 (hb hby d6_139) (by rw [hml, ← hL584]; rfl) rfl (lenOf own_pd6 rfl) (by decide) (W := 0) (Nat.le_of_eq rfl) (by decide) (by decide) (by decide) ?_
  intro v665 T665 lo665 X665 Q665
  obtain ⟨h665, e665⟩ : ∃ h, T665.heap = h := ⟨_, rfl⟩
  rw [e665] at Q665
  have F678 : h0.size ≤ h572.size := (Nat.le_trans (Nat.le_trans (Nat.le_trans (Nat.le_trans F446 E441.1) K472.1) K514.1) K572.1)
  obtain ⟨a666, rfl, N665, K665, ge667, F668, F669, F670, F671, F672, F673, F674⟩ := Q665
  have N665' := Fr.app N572' N665
  show own_Go _ _ _ _ _ _ _ T665 (mkF m 142 L584 [(.ref a666)])
  have ge686 : h0.size ≤ a666 := Nat.le_trans F678 ge667
  exact own_retA X665 hx hlk hret rfl rfl rfl (hb hby d6_142) e665 ⟨a666, f573, f574, rfl, N665', (((((((((Keep.refl _ _).ext E328).trans K380 (allS (Or.inr ge332) all0)).trans K427 (allS (Or.inr ge332) all0)).ext E441).trans K472 (allS (Or.inr ge447) all0)).trans K514 (allS (Or.inr ge447) all0)).trans K572 (allS (Or.inr ge447) all0)).trans K665 all0), ge686, F668, F669, F670, F671, F672, F673, F674, D581, D582⟩ (by decide) (by decide)
theorem own_pd7 : parseMethodDescriptor "(Lcom/example/rankline/rankline/Extent;)Lcom/example/rankline/rankline/Extent;" = some ⟨[(.object "com/example/rankline/rankline/Extent")], some (.object "com/example/rankline/rankline/Extent")⟩ := by decide +kernel
def own_s27_Q (Z : State) (a689 : Addr) (f164 : UInt64) (f237 : UInt64) (p4 : Int32) (p5 : Int32) (v7 : Int32) (w0 : Int32) (v15 : Int32) (h0 : Heap) (n0 : Nat) (v_ : Option Value) (h_ : Heap) (L_ : List Loc) : Prop := (fun v h L => v = some (.int (1 : Int32)) ∧ Fr n0 L ∧ h = h0) v_ h_ L_
set_option maxRecDepth 65536 in
set_option maxHeartbeats 40000000 in
theorem own_s27 (l : Launch) (Z : State) (a0 : Array Value) (hw : ∀ d ∈ tables_1, d.before a0 Z = true) (wds : List Jvm.Cond) (a689 : Addr) (f164 : UInt64) (f237 : UInt64) (p4 : Int32) (p5 : Int32) (v7 : Int32) (w0 : Int32) (v15 : Int32) (h0 : Heap) (n0 : Nat) (Z0 : n0 ≤ h0.size) (H7 : Fld Z h0 a689 own_k0 "gapLow" "D" (.double f164)) (H8 : Fld Z h0 a689 own_k0 "gapHigh" "D" (.double f237)) (H15 : FP.Core.DInt p4.toInt f164) (H16 : FP.Core.DInt p5.toInt f237) (H19 : 0 ≤ v7.toInt ∧ v7.toInt ≤ 65535) (H20 : 0 ≤ w0.toInt ∧ w0.toInt ≤ 65535) (H21 : 0 ≤ v15.toInt ∧ v15.toInt ≤ 65535) (H22 : p4.toInt < p5.toInt) :
    MetFree l (⟨own_k0, "hasGap", "()Z"⟩ : MethodName) (head1 (Jvm.Cond.code (⟨own_k0, "hasGap", "()Z"⟩ : MethodName) prog_16_method_4_code 1 (some .boolean) :: wds) ({ frames := 0, cells := 0, slots := 0, locals := 0 } : Room)) (fun ar_ U_ => ar_ = #[(.ref a689)] ∧ Z.Warmed39 U_.vm ∧ U_.heap = h0) (fun _ _ _ _ _ => True) (fun _ U_ o_ V_ => ∃ v_ L_, o_ = .returned v_ ∧ own_s27_Q Z a689 f164 f237 p4 p5 v7 w0 v15 h0 n0 v_ V_.heap L_ ∧ FrameEnd U_ o_ V_ L_ ({ frames := 0, cells := 0, slots := 0, locals := 0 } : Room).cells ({ frames := 0, cells := 0, slots := 0, locals := 0 } : Room).slots) := by
  refine own_met (y := ⟨own_k0, "hasGap", "()Z"⟩) (Q := own_s27_Q Z a689 f164 f237 p4 p5 v7 w0 v15 h0 n0) own_pn0 ?_
  intro p e s m below meth c s₁ hx hby hml hZ hown hnm hret hlk X0 e0
  have N0 := Fr.nil n0
  refine own_cast (g' := (mkF m 0 #[.val (.ref a689)] [])) (by first | (simp [entryFrame, mkF, argsToLocals, Value.category]; done) | rfl) ?_
  refine own_alN (w := (.ref a689)) X0 hx (hb hby d4_0) rfl rfl ?_
  refine own_getf X0 hx hZ hown (own_w hw 18 rfl) e0 H7 (hb hby d4_1) ?_
  intro T714 X714 e714
  show own_Go _ _ _ _ _ _ _ T714 (mkF m 4 #[.val (.ref a689)] [(.double f164)])
  refine own_alN (w := (.ref a689)) X714 hx (hb hby d4_4) rfl rfl ?_
  refine own_getf X714 hx hZ hown (own_w hw 20 rfl) e714 H8 (hb hby d4_5) ?_
  intro T715 X715 e715
  show own_Go _ _ _ _ _ _ _ T715 (mkF m 8 #[.val (.ref a689)] [(.double f237), (.double f164)])
  obtain ⟨k716, hk716⟩ : ∃ z, own_c p4.toInt p5.toInt = z := ⟨_, rfl⟩
  refine own_pre (g' := (mkF m 9 #[.val (.ref a689)] [(.int k716)])) (fun t k => XS.dcmpS X715.here hx rfl (hb hby d4_8) rfl ((own_dcmp H15 H16 _).trans hk716) k) ?_
  have hc717 : k716 < (0 : Int32) := by rw [← hk716, own_c_lt] <;> (have := H19; have := H20; have := H21; have := H22; have := rng32 p4; have := rng32 p5; omega)
  refine own_pre (g' := (mkF m 12 #[.val (.ref a689)] [])) (fun t k => XS.ifNo X715.here hx rfl (hb hby d4_9) rfl ((if0 _ _).trans (tlt hc717).2.1) k) ?_
  refine own_ic X715 hx (1 : Int32) (hb hby d4_12) rfl ?_
  refine own_gt X715 hx 17 (hb hby d4_13) (by decide) (by decide) ?_
  exact own_retZ X715 hx hlk hret rfl (hb hby d4_17) e715 ⟨rfl, N0, rfl⟩ (by decide) (by decide)
def own_s30_Q (Z : State) (a221 : Addr) (f163 : UInt64) (f164 : UInt64) (p4 : Int32) (v7 : Int32) (w0 : Int32) (v15 : Int32) (p5 : Int32) (h0 : Heap) (n0 : Nat) (v_ : Option Value) (h_ : Heap) (L_ : List Loc) : Prop := (fun v h L => v = some (.int (0 : Int32)) ∧ Fr n0 L ∧ h = h0) v_ h_ L_
set_option maxRecDepth 65536 in
set_option maxHeartbeats 40000000 in
theorem own_s30 (l : Launch) (Z : State) (a0 : Array Value) (hw : ∀ d ∈ tables_1, d.before a0 Z = true) (wds : List Jvm.Cond) (a221 : Addr) (f163 : UInt64) (f164 : UInt64) (p4 : Int32) (v7 : Int32) (w0 : Int32) (v15 : Int32) (p5 : Int32) (h0 : Heap) (n0 : Nat) (Z0 : n0 ≤ h0.size) (H6 : Fld Z h0 a221 own_k0 "low" "D" (.double f163)) (H9 : Fld Z h0 a221 own_k0 "high" "D" (.double f164)) (H14 : FP.Core.DInt p4.toInt f163) (H15 : FP.Core.DInt p4.toInt f164) (H16 : 0 ≤ v7.toInt ∧ v7.toInt ≤ 65535) (H17 : 0 ≤ w0.toInt ∧ w0.toInt ≤ 65535) (H18 : 0 ≤ v15.toInt ∧ v15.toInt ≤ 65535) (H19 : p4.toInt = p5.toInt) :
    MetFree l (⟨own_k0, "isEmpty", "()Z"⟩ : MethodName) (head1 (Jvm.Cond.code (⟨own_k0, "isEmpty", "()Z"⟩ : MethodName) prog_16_method_3_code 1 (some .boolean) :: wds) ({ frames := 0, cells := 0, slots := 0, locals := 0 } : Room)) (fun ar_ U_ => ar_ = #[(.ref a221)] ∧ Z.Warmed39 U_.vm ∧ U_.heap = h0) (fun _ _ _ _ _ => True) (fun _ U_ o_ V_ => ∃ v_ L_, o_ = .returned v_ ∧ own_s30_Q Z a221 f163 f164 p4 v7 w0 v15 p5 h0 n0 v_ V_.heap L_ ∧ FrameEnd U_ o_ V_ L_ ({ frames := 0, cells := 0, slots := 0, locals := 0 } : Room).cells ({ frames := 0, cells := 0, slots := 0, locals := 0 } : Room).slots) := by
  refine own_met (y := ⟨own_k0, "isEmpty", "()Z"⟩) (Q := own_s30_Q Z a221 f163 f164 p4 v7 w0 v15 p5 h0 n0) own_pn0 ?_
  intro p e s m below meth c s₁ hx hby hml hZ hown hnm hret hlk X0 e0
  have N0 := Fr.nil n0
  refine own_cast (g' := (mkF m 0 #[.val (.ref a221)] [])) (by first | (simp [entryFrame, mkF, argsToLocals, Value.category]; done) | rfl) ?_
  refine own_alN (w := (.ref a221)) X0 hx (hb hby d8_0) rfl rfl ?_
  refine own_getf X0 hx hZ hown (own_w hw 16 rfl) e0 H6 (hb hby d8_1) ?_
  intro T751 X751 e751
  show own_Go _ _ _ _ _ _ _ T751 (mkF m 4 #[.val (.ref a221)] [(.double f163)])
  refine own_alN (w := (.ref a221)) X751 hx (hb hby d8_4) rfl rfl ?_
  refine own_getf X751 hx hZ hown (own_w hw 22 rfl) e751 H9 (hb hby d8_5) ?_
  intro T752 X752 e752
  show own_Go _ _ _ _ _ _ _ T752 (mkF m 8 #[.val (.ref a221)] [(.double f164), (.double f163)])
  obtain ⟨k753, hk753⟩ : ∃ z, own_c p4.toInt p4.toInt = z := ⟨_, rfl⟩
  refine own_pre (g' := (mkF m 9 #[.val (.ref a221)] [(.int k753)])) (fun t k => XS.dcmpS X752.here hx rfl (hb hby d8_8) rfl ((own_dcmp H14 H15 _).trans hk753) k) ?_
  have hc754 : ¬ (0 : Int32) < k753 := by rw [← hk753, own_c_gt] <;> (have := H16; have := H17; have := H18; have := H19; have := rng32 p4; omega)
  refine own_pre (g' := (mkF m 16 #[.val (.ref a221)] [])) (fun t k => XS.ifYes X752.here hx rfl (pc0 := 9) (pc' := 16) rfl (hb hby d8_9) rfl ((if0 _ _).trans (flt hc754).2.2.2) (by decide) (by decide) k) ?_
  refine own_ic X752 hx (0 : Int32) (hb hby d8_16) rfl ?_
  exact own_retZ X752 hx hlk hret rfl (hb hby d8_17) e752 ⟨rfl, N0, rfl⟩ (by decide) (by decide)
def own_s31_Q (Z : State) (a221 : Addr) (f164 : UInt64) (p4 : Int32) (v7 : Int32) (w0 : Int32) (v15 : Int32) (p5 : Int32) (h0 : Heap) (n0 : Nat) (v_ : Option Value) (h_ : Heap) (L_ : List Loc) : Prop := (fun v h L => v = some (.int (0 : Int32)) ∧ Fr n0 L ∧ h = h0) v_ h_ L_
set_option maxRecDepth 65536 in
set_option maxHeartbeats 40000000 in
theorem own_s31 (l : Launch) (Z : State) (a0 : Array Value) (hw : ∀ d ∈ tables_1, d.before a0 Z = true) (wds : List Jvm.Cond) (a221 : Addr) (f164 : UInt64) (p4 : Int32) (v7 : Int32) (w0 : Int32) (v15 : Int32) (p5 : Int32) (h0 : Heap) (n0 : Nat) (Z0 : n0 ≤ h0.size) (H7 : Fld Z h0 a221 own_k0 "gapLow" "D" (.double f164)) (H8 : Fld Z h0 a221 own_k0 "gapHigh" "D" (.double f164)) (H15 : FP.Core.DInt p4.toInt f164) (H16 : 0 ≤ v7.toInt ∧ v7.toInt ≤ 65535) (H17 : 0 ≤ w0.toInt ∧ w0.toInt ≤ 65535) (H18 : 0 ≤ v15.toInt ∧ v15.toInt ≤ 65535) (H19 : p4.toInt = p5.toInt) :
    MetFree l (⟨own_k0, "hasGap", "()Z"⟩ : MethodName) (head1 (Jvm.Cond.code (⟨own_k0, "hasGap", "()Z"⟩ : MethodName) prog_16_method_4_code 1 (some .boolean) :: wds) ({ frames := 0, cells := 0, slots := 0, locals := 0 } : Room)) (fun ar_ U_ => ar_ = #[(.ref a221)] ∧ Z.Warmed39 U_.vm ∧ U_.heap = h0) (fun _ _ _ _ _ => True) (fun _ U_ o_ V_ => ∃ v_ L_, o_ = .returned v_ ∧ own_s31_Q Z a221 f164 p4 v7 w0 v15 p5 h0 n0 v_ V_.heap L_ ∧ FrameEnd U_ o_ V_ L_ ({ frames := 0, cells := 0, slots := 0, locals := 0 } : Room).cells ({ frames := 0, cells := 0, slots := 0, locals := 0 } : Room).slots) := by
  refine own_met (y := ⟨own_k0, "hasGap", "()Z"⟩) (Q := own_s31_Q Z a221 f164 p4 v7 w0 v15 p5 h0 n0) own_pn0 ?_
  intro p e s m below meth c s₁ hx hby hml hZ hown hnm hret hlk X0 e0
  have N0 := Fr.nil n0
  refine own_cast (g' := (mkF m 0 #[.val (.ref a221)] [])) (by first | (simp [entryFrame, mkF, argsToLocals, Value.category]; done) | rfl) ?_
  refine own_alN (w := (.ref a221)) X0 hx (hb hby d4_0) rfl rfl ?_
  refine own_getf X0 hx hZ hown (own_w hw 18 rfl) e0 H7 (hb hby d4_1) ?_
  intro T770 X770 e770
  show own_Go _ _ _ _ _ _ _ T770 (mkF m 4 #[.val (.ref a221)] [(.double f164)])
  refine own_alN (w := (.ref a221)) X770 hx (hb hby d4_4) rfl rfl ?_
  refine own_getf X770 hx hZ hown (own_w hw 20 rfl) e770 H8 (hb hby d4_5) ?_
  intro T771 X771 e771
  show own_Go _ _ _ _ _ _ _ T771 (mkF m 8 #[.val (.ref a221)] [(.double f164), (.double f164)])
  obtain ⟨k772, hk772⟩ : ∃ z, own_c p4.toInt p4.toInt = z := ⟨_, rfl⟩
  refine own_pre (g' := (mkF m 9 #[.val (.ref a221)] [(.int k772)])) (fun t k => XS.dcmpS X771.here hx rfl (hb hby d4_8) rfl ((own_dcmp H15 H15 _).trans hk772) k) ?_
  have hc773 : ¬ k772 < (0 : Int32) := by rw [← hk772, own_c_lt] <;> (have := H16; have := H17; have := H18; have := H19; have := rng32 p4; omega)
  refine own_pre (g' := (mkF m 16 #[.val (.ref a221)] [])) (fun t k => XS.ifYes X771.here hx rfl (pc0 := 9) (pc' := 16) rfl (hb hby d4_9) rfl ((if0 _ _).trans (flt hc773).2.1) (by decide) (by decide) k) ?_
  refine own_ic X771 hx (0 : Int32) (hb hby d4_16) rfl ?_
  exact own_retZ X771 hx hlk hret rfl (hb hby d4_17) e771 ⟨rfl, N0, rfl⟩ (by decide) (by decide)
def own_s29_Q (Z : State) (a221 : Addr) (a732 : Addr) (f163 : UInt64) (f164 : UInt64) (p4 : Int32) (v7 : Int32) (w0 : Int32) (v15 : Int32) (p5 : Int32) (h0 : Heap) (n0 : Nat) (v_ : Option Value) (h_ : Heap) (L_ : List Loc) : Prop := (fun v h L => v = some (.int (3 : Int32)) ∧ Fr n0 L ∧ Keep h0 h [a732] ∧ own_Ary Z h a732 .double ([(.double f163), (.double f164), (.double (4607182418800017408 : UInt64))] ++ own_rD 9)) v_ h_ L_
set_option maxRecDepth 65536 in
set_option maxHeartbeats 40000000 in
theorem own_s29 (l : Launch) (Z : State) (a0 : Array Value) (hw : ∀ d ∈ tables_1, d.before a0 Z = true) (wds : List Jvm.Cond) (a221 : Addr) (a732 : Addr) (f163 : UInt64) (f164 : UInt64) (p4 : Int32) (v7 : Int32) (w0 : Int32) (v15 : Int32) (p5 : Int32) (h0 : Heap) (n0 : Nat) (Z0 : n0 ≤ h0.size) (H5 : Exa Z h0 a221 own_k0) (H6 : Fld Z h0 a221 own_k0 "low" "D" (.double f163)) (H7 : Fld Z h0 a221 own_k0 "gapLow" "D" (.double f164)) (H8 : Fld Z h0 a221 own_k0 "gapHigh" "D" (.double f164)) (H9 : Fld Z h0 a221 own_k0 "high" "D" (.double f164)) (H11 : Fld Z h0 a221 own_k0 "count" "D" (.double (4607182418800017408 : UInt64))) (H12 : own_Ary Z h0 a732 .double (own_rD 12)) (H16 : a221 < a732) (H18 : n0 ≤ a732) (H19 : FP.Core.DInt p4.toInt f163) (H20 : FP.Core.DInt p4.toInt f164) (H21 : 0 ≤ v7.toInt ∧ v7.toInt ≤ 65535) (H22 : 0 ≤ w0.toInt ∧ w0.toInt ≤ 65535) (H23 : 0 ≤ v15.toInt ∧ v15.toInt ≤ 65535) (H24 : p4.toInt = p5.toInt) :
    MetFree l (⟨own_k0, "blocks", "([DI)I"⟩ : MethodName) (head1 (Jvm.Cond.code (⟨own_k0, "blocks", "([DI)I"⟩ : MethodName) prog_16_method_10_code 3 (some .int) :: wds) ({ frames := 1, cells := 0, slots := 0, locals := 12 } : Room)) (fun ar_ U_ => ar_ = #[(.ref a221), (.ref a732), (.int (0 : Int32))] ∧ Z.Warmed39 U_.vm ∧ U_.heap = h0) (fun _ _ _ _ _ => True) (fun _ U_ o_ V_ => ∃ v_ L_, o_ = .returned v_ ∧ own_s29_Q Z a221 a732 f163 f164 p4 v7 w0 v15 p5 h0 n0 v_ V_.heap L_ ∧ FrameEnd U_ o_ V_ L_ ({ frames := 1, cells := 0, slots := 0, locals := 12 } : Room).cells ({ frames := 1, cells := 0, slots := 0, locals := 12 } : Room).slots) := by
  refine own_met (y := ⟨own_k0, "blocks", "([DI)I"⟩) (Q := own_s29_Q Z a221 a732 f163 f164 p4 v7 w0 v15 p5 h0 n0) own_pn0 ?_
  intro p e s m below meth c s₁ hx hby hml hZ hown hnm hret hlk X0 e0
  have N0 := Fr.nil n0
  refine own_cast (g' := (mkF m 0 #[.val (.ref a221), .val (.ref a732), .val (.int (0 : Int32))] [])) (by first | (simp [entryFrame, mkF, argsToLocals, Value.category]; done) | rfl) ?_
  refine own_alN (w := (.ref a221)) X0 hx (hb hby d7_0) rfl rfl ?_
  refine own_callv (a := a221) (argsL := []) (rest := []) X0 hx hZ hown (own_s30 l Z a0 hw [] a221 f163 f164 p4 v7 w0 v15 p5 h0 n0 Z0 H6 H9 H19 H20 H21 H22 H23 H24) H5 (own_w hw 51 rfl) (own_w hw 52 rfl) (own_w hw 54 rfl) (own_w hw 53 rfl) (own_w hw 55 rfl) (own_w hw 3 rfl) (by decide) e0 (hb hby d7_1) (by rw [hml]; rfl) rfl (lenOf own_pd2 rfl) (by decide) (W := 0) (Nat.le_of_eq rfl) (by decide) (by decide) (by decide) ?_
  intro v755 T755 lo755 X755 Q755
  obtain ⟨h755, e755⟩ : ∃ h, T755.heap = h := ⟨_, rfl⟩
  rw [e755] at Q755
  obtain ⟨rfl, N755, K755⟩ := Q755
  have N755' := Fr.app N0 N755
  have e755' : T755.heap = h0 := e755.trans K755
  show own_Go _ _ _ _ _ _ _ T755 (mkF m 4 #[.val (.ref a221), .val (.ref a732), .val (.int (0 : Int32))] [(.int (0 : Int32))])
  refine own_pre (g' := (mkF m 9 #[.val (.ref a221), .val (.ref a732), .val (.int (0 : Int32))] [])) (fun t k => XS.ifYes X755.here hx rfl (pc0 := 4) (pc' := 9) rfl (hb hby d7_4) rfl (by decide) (by decide) (by decide) k) ?_
  refine own_alN (w := (.ref a732)) X755 hx (hb hby d7_9) rfl rfl ?_
  refine own_ilN (w := (0 : Int32)) X755 hx (hb hby d7_10) rfl ?_
  refine own_alN (w := (.ref a221)) X755 hx (hb hby d7_11) rfl rfl ?_
  refine own_getf X755 hx hZ hown (own_w hw 16 rfl) e755' H6 (hb hby d7_12) ?_
  intro T756 X756 e756
  show own_Go _ _ _ _ _ _ _ T756 (mkF m 15 #[.val (.ref a221), .val (.ref a732), .val (.int (0 : Int32))] [(.double f163), (.int (0 : Int32)), (.ref a732)])
  refine own_dastore X756 hx hZ e756 N755' H18 H12 (hb hby d7_15) (n := 0) (by decide) (by decide) (by show 0 < 12; decide) ?_
  intro T757 h757 lo757 X757 e757 N757 W757
  have F758 : own_Ary Z h757 a732 .double ([(.double f163)] ++ own_rD 11) := H12.set W757
  show own_Go _ _ _ _ _ _ _ T757 (mkF m 16 #[.val (.ref a221), .val (.ref a732), .val (.int (0 : Int32))] [])
  refine own_alN (w := (.ref a221)) X757 hx (hb hby d7_16) rfl rfl ?_
  have F763 := (H5.wr W757)
  have F765 := (H7.other W757 (Or.inl (Nat.ne_of_lt H16)))
  have F766 := (H8.other W757 (Or.inl (Nat.ne_of_lt H16)))
  have F767 := (H9.other W757 (Or.inl (Nat.ne_of_lt H16)))
  have F769 := (H11.other W757 (Or.inl (Nat.ne_of_lt H16)))
  have F774 : n0 ≤ h757.size := (Nat.le_trans Z0 (Nat.le_of_eq W757.size.symm))
  refine own_callv (a := a221) (argsL := []) (rest := []) X757 hx hZ hown (own_s31 l Z a0 hw [] a221 f164 p4 v7 w0 v15 p5 h757 n0 F774 F765 F766 H20 H21 H22 H23 H24) F763 (own_w hw 56 rfl) (own_w hw 29 rfl) (own_w hw 31 rfl) (own_w hw 30 rfl) (own_w hw 32 rfl) (own_w hw 3 rfl) (by decide) e757 (hb hby d7_17) (by rw [hml]; rfl) rfl (lenOf own_pd2 rfl) (by decide) (W := 0) (Nat.le_of_eq rfl) (by decide) (by decide) (by decide) ?_
  intro v775 T775 lo775 X775 Q775
  obtain ⟨h775, e775⟩ : ∃ h, T775.heap = h := ⟨_, rfl⟩
  rw [e775] at Q775
  obtain ⟨rfl, N775, K775⟩ := Q775
  have N775' := Fr.app N757 N775
  have e775' : T775.heap = h757 := e775.trans K775
  show own_Go _ _ _ _ _ _ _ T775 (mkF m 20 #[.val (.ref a221), .val (.ref a732), .val (.int (0 : Int32))] [(.int (0 : Int32))])
  refine own_pre (g' := (mkF m 23 #[.val (.ref a221), .val (.ref a732), .val (.int (0 : Int32))] [])) (fun t k => XS.ifNo X775.here hx rfl (hb hby d7_20) rfl (by decide) k) ?_
  refine own_alN (w := (.ref a732)) X775 hx (hb hby d7_23) rfl rfl ?_
  refine own_ilN (w := (0 : Int32)) X775 hx (hb hby d7_24) rfl ?_
  refine own_ic X775 hx (1 : Int32) (hb hby d7_25) rfl ?_
  refine own_pre (g' := (mkF m 27 #[.val (.ref a221), .val (.ref a732), .val (.int (0 : Int32))] [(.int (1 : Int32)), (.ref a732)])) (fun t k => XS.iadd X775.here hx rfl (hb hby d7_26) rfl k) ?_
  refine own_alN (w := (.ref a221)) X775 hx (hb hby d7_27) rfl rfl ?_
  refine own_getf X775 hx hZ hown (own_w hw 22 rfl) e775' F767 (hb hby d7_28) ?_
  intro T776 X776 e776
  show own_Go _ _ _ _ _ _ _ T776 (mkF m 31 #[.val (.ref a221), .val (.ref a732), .val (.int (0 : Int32))] [(.double f164), (.int (1 : Int32)), (.ref a732)])
  refine own_dastore X776 hx hZ e776 N775' H18 F758 (hb hby d7_31) (n := 1) (by decide) (by decide) (by show 1 < 12; decide) ?_
  intro T777 h777 lo777 X777 e777 N777 W777
  have F778 : own_Ary Z h777 a732 .double ([(.double f163), (.double f164)] ++ own_rD 10) := F758.set W777
  show own_Go _ _ _ _ _ _ _ T777 (mkF m 32 #[.val (.ref a221), .val (.ref a732), .val (.int (0 : Int32))] [])
  refine own_alN (w := (.ref a732)) X777 hx (hb hby d7_32) rfl rfl ?_
  refine own_ilN (w := (0 : Int32)) X777 hx (hb hby d7_33) rfl ?_
  refine own_ic X777 hx (2 : Int32) (hb hby d7_34) rfl ?_
  refine own_pre (g' := (mkF m 36 #[.val (.ref a221), .val (.ref a732), .val (.int (0 : Int32))] [(.int (2 : Int32)), (.ref a732)])) (fun t k => XS.iadd X777.here hx rfl (hb hby d7_35) rfl k) ?_
  refine own_alN (w := (.ref a221)) X777 hx (hb hby d7_36) rfl rfl ?_
  have F779 := (F769.other W777 (Or.inl (Nat.ne_of_lt H16)))
  refine own_getf X777 hx hZ hown (own_w hw 26 rfl) e777 F779 (hb hby d7_37) ?_
  intro T780 X780 e780
  show own_Go _ _ _ _ _ _ _ T780 (mkF m 40 #[.val (.ref a221), .val (.ref a732), .val (.int (0 : Int32))] [(.double (4607182418800017408 : UInt64)), (.int (2 : Int32)), (.ref a732)])
  refine own_dastore X780 hx hZ e780 N777 H18 F778 (hb hby d7_40) (n := 2) (by decide) (by decide) (by show 2 < 12; decide) ?_
  intro T781 h781 lo781 X781 e781 N781 W781
  have F782 : own_Ary Z h781 a732 .double ([(.double f163), (.double f164), (.double (4607182418800017408 : UInt64))] ++ own_rD 9) := F778.set W781
  show own_Go _ _ _ _ _ _ _ T781 (mkF m 41 #[.val (.ref a221), .val (.ref a732), .val (.int (0 : Int32))] [])
  refine own_ilN (w := (0 : Int32)) X781 hx (hb hby d7_41) rfl ?_
  refine own_ic X781 hx (3 : Int32) (hb hby d7_42) rfl ?_
  refine own_pre (g' := (mkF m 44 #[.val (.ref a221), .val (.ref a732), .val (.int (0 : Int32))] [(.int (3 : Int32))])) (fun t k => XS.iadd X781.here hx rfl (hb hby d7_43) rfl k) ?_
  exact own_retI X781 hx hlk hret (hb hby d7_44) e781 ⟨rfl, N781, ((((Keep.refl _ _).wr W757 (Or.inl (by simp))).wr W777 (Or.inl (by simp))).wr W781 (Or.inl (by simp))), F782⟩ (by decide) (by decide)
def own_s33_Q (Z : State) (a299 : Addr) (f237 : UInt64) (f238 : UInt64) (p5 : Int32) (v7 : Int32) (w0 : Int32) (v15 : Int32) (p4 : Int32) (h0 : Heap) (n0 : Nat) (v_ : Option Value) (h_ : Heap) (L_ : List Loc) : Prop := (fun v h L => v = some (.int (0 : Int32)) ∧ Fr n0 L ∧ h = h0) v_ h_ L_
set_option maxRecDepth 65536 in
set_option maxHeartbeats 40000000 in
theorem own_s33 (l : Launch) (Z : State) (a0 : Array Value) (hw : ∀ d ∈ tables_1, d.before a0 Z = true) (wds : List Jvm.Cond) (a299 : Addr) (f237 : UInt64) (f238 : UInt64) (p5 : Int32) (v7 : Int32) (w0 : Int32) (v15 : Int32) (p4 : Int32) (h0 : Heap) (n0 : Nat) (Z0 : n0 ≤ h0.size) (H6 : Fld Z h0 a299 own_k0 "low" "D" (.double f237)) (H9 : Fld Z h0 a299 own_k0 "high" "D" (.double f238)) (H14 : FP.Core.DInt p5.toInt f237) (H15 : FP.Core.DInt p5.toInt f238) (H16 : 0 ≤ v7.toInt ∧ v7.toInt ≤ 65535) (H17 : 0 ≤ w0.toInt ∧ w0.toInt ≤ 65535) (H18 : 0 ≤ v15.toInt ∧ v15.toInt ≤ 65535) (H19 : p4.toInt = p5.toInt) :
    MetFree l (⟨own_k0, "isEmpty", "()Z"⟩ : MethodName) (head1 (Jvm.Cond.code (⟨own_k0, "isEmpty", "()Z"⟩ : MethodName) prog_16_method_3_code 1 (some .boolean) :: wds) ({ frames := 0, cells := 0, slots := 0, locals := 0 } : Room)) (fun ar_ U_ => ar_ = #[(.ref a299)] ∧ Z.Warmed39 U_.vm ∧ U_.heap = h0) (fun _ _ _ _ _ => True) (fun _ U_ o_ V_ => ∃ v_ L_, o_ = .returned v_ ∧ own_s33_Q Z a299 f237 f238 p5 v7 w0 v15 p4 h0 n0 v_ V_.heap L_ ∧ FrameEnd U_ o_ V_ L_ ({ frames := 0, cells := 0, slots := 0, locals := 0 } : Room).cells ({ frames := 0, cells := 0, slots := 0, locals := 0 } : Room).slots) := by
  refine own_met (y := ⟨own_k0, "isEmpty", "()Z"⟩) (Q := own_s33_Q Z a299 f237 f238 p5 v7 w0 v15 p4 h0 n0) own_pn0 ?_
  intro p e s m below meth c s₁ hx hby hml hZ hown hnm hret hlk X0 e0
  have N0 := Fr.nil n0
  refine own_cast (g' := (mkF m 0 #[.val (.ref a299)] [])) (by first | (simp [entryFrame, mkF, argsToLocals, Value.category]; done) | rfl) ?_
  refine own_alN (w := (.ref a299)) X0 hx (hb hby d8_0) rfl rfl ?_
  refine own_getf X0 hx hZ hown (own_w hw 16 rfl) e0 H6 (hb hby d8_1) ?_
  intro T798 X798 e798
  show own_Go _ _ _ _ _ _ _ T798 (mkF m 4 #[.val (.ref a299)] [(.double f237)])
  refine own_alN (w := (.ref a299)) X798 hx (hb hby d8_4) rfl rfl ?_
  refine own_getf X798 hx hZ hown (own_w hw 22 rfl) e798 H9 (hb hby d8_5) ?_
  intro T799 X799 e799
  show own_Go _ _ _ _ _ _ _ T799 (mkF m 8 #[.val (.ref a299)] [(.double f238), (.double f237)])
  obtain ⟨k800, hk800⟩ : ∃ z, own_c p5.toInt p5.toInt = z := ⟨_, rfl⟩
  refine own_pre (g' := (mkF m 9 #[.val (.ref a299)] [(.int k800)])) (fun t k => XS.dcmpS X799.here hx rfl (hb hby d8_8) rfl ((own_dcmp H14 H15 _).trans hk800) k) ?_
  have hc801 : ¬ (0 : Int32) < k800 := by rw [← hk800, own_c_gt] <;> (have := H16; have := H17; have := H18; have := H19; have := rng32 p5; omega)
  refine own_pre (g' := (mkF m 16 #[.val (.ref a299)] [])) (fun t k => XS.ifYes X799.here hx rfl (pc0 := 9) (pc' := 16) rfl (hb hby d8_9) rfl ((if0 _ _).trans (flt hc801).2.2.2) (by decide) (by decide) k) ?_
  refine own_ic X799 hx (0 : Int32) (hb hby d8_16) rfl ?_
  exact own_retZ X799 hx hlk hret rfl (hb hby d8_17) e799 ⟨rfl, N0, rfl⟩ (by decide) (by decide)
def own_s34_Q (Z : State) (a299 : Addr) (f238 : UInt64) (p5 : Int32) (v7 : Int32) (w0 : Int32) (v15 : Int32) (p4 : Int32) (h0 : Heap) (n0 : Nat) (v_ : Option Value) (h_ : Heap) (L_ : List Loc) : Prop := (fun v h L => v = some (.int (0 : Int32)) ∧ Fr n0 L ∧ h = h0) v_ h_ L_
set_option maxRecDepth 65536 in
set_option maxHeartbeats 40000000 in
theorem own_s34 (l : Launch) (Z : State) (a0 : Array Value) (hw : ∀ d ∈ tables_1, d.before a0 Z = true) (wds : List Jvm.Cond) (a299 : Addr) (f238 : UInt64) (p5 : Int32) (v7 : Int32) (w0 : Int32) (v15 : Int32) (p4 : Int32) (h0 : Heap) (n0 : Nat) (Z0 : n0 ≤ h0.size) (H7 : Fld Z h0 a299 own_k0 "gapLow" "D" (.double f238)) (H8 : Fld Z h0 a299 own_k0 "gapHigh" "D" (.double f238)) (H15 : FP.Core.DInt p5.toInt f238) (H16 : 0 ≤ v7.toInt ∧ v7.toInt ≤ 65535) (H17 : 0 ≤ w0.toInt ∧ w0.toInt ≤ 65535) (H18 : 0 ≤ v15.toInt ∧ v15.toInt ≤ 65535) (H19 : p4.toInt = p5.toInt) :
    MetFree l (⟨own_k0, "hasGap", "()Z"⟩ : MethodName) (head1 (Jvm.Cond.code (⟨own_k0, "hasGap", "()Z"⟩ : MethodName) prog_16_method_4_code 1 (some .boolean) :: wds) ({ frames := 0, cells := 0, slots := 0, locals := 0 } : Room)) (fun ar_ U_ => ar_ = #[(.ref a299)] ∧ Z.Warmed39 U_.vm ∧ U_.heap = h0) (fun _ _ _ _ _ => True) (fun _ U_ o_ V_ => ∃ v_ L_, o_ = .returned v_ ∧ own_s34_Q Z a299 f238 p5 v7 w0 v15 p4 h0 n0 v_ V_.heap L_ ∧ FrameEnd U_ o_ V_ L_ ({ frames := 0, cells := 0, slots := 0, locals := 0 } : Room).cells ({ frames := 0, cells := 0, slots := 0, locals := 0 } : Room).slots) := by
  refine own_met (y := ⟨own_k0, "hasGap", "()Z"⟩) (Q := own_s34_Q Z a299 f238 p5 v7 w0 v15 p4 h0 n0) own_pn0 ?_
  intro p e s m below meth c s₁ hx hby hml hZ hown hnm hret hlk X0 e0
  have N0 := Fr.nil n0
  refine own_cast (g' := (mkF m 0 #[.val (.ref a299)] [])) (by first | (simp [entryFrame, mkF, argsToLocals, Value.category]; done) | rfl) ?_
  refine own_alN (w := (.ref a299)) X0 hx (hb hby d4_0) rfl rfl ?_
  refine own_getf X0 hx hZ hown (own_w hw 18 rfl) e0 H7 (hb hby d4_1) ?_
  intro T817 X817 e817
  show own_Go _ _ _ _ _ _ _ T817 (mkF m 4 #[.val (.ref a299)] [(.double f238)])
  refine own_alN (w := (.ref a299)) X817 hx (hb hby d4_4) rfl rfl ?_
  refine own_getf X817 hx hZ hown (own_w hw 20 rfl) e817 H8 (hb hby d4_5) ?_
  intro T818 X818 e818
  show own_Go _ _ _ _ _ _ _ T818 (mkF m 8 #[.val (.ref a299)] [(.double f238), (.double f238)])
  obtain ⟨k819, hk819⟩ : ∃ z, own_c p5.toInt p5.toInt = z := ⟨_, rfl⟩
  refine own_pre (g' := (mkF m 9 #[.val (.ref a299)] [(.int k819)])) (fun t k => XS.dcmpS X818.here hx rfl (hb hby d4_8) rfl ((own_dcmp H15 H15 _).trans hk819) k) ?_
  have hc820 : ¬ k819 < (0 : Int32) := by rw [← hk819, own_c_lt] <;> (have := H16; have := H17; have := H18; have := H19; have := rng32 p5; omega)
  refine own_pre (g' := (mkF m 16 #[.val (.ref a299)] [])) (fun t k => XS.ifYes X818.here hx rfl (pc0 := 9) (pc' := 16) rfl (hb hby d4_9) rfl ((if0 _ _).trans (flt hc820).2.1) (by decide) (by decide) k) ?_
  refine own_ic X818 hx (0 : Int32) (hb hby d4_16) rfl ?_
  exact own_retZ X818 hx hlk hret rfl (hb hby d4_17) e818 ⟨rfl, N0, rfl⟩ (by decide) (by decide)
def own_s32_Q (Z : State) (a299 : Addr) (a732 : Addr) (f237 : UInt64) (f238 : UInt64) (f163 : UInt64) (f164 : UInt64) (p5 : Int32) (p4 : Int32) (v7 : Int32) (w0 : Int32) (v15 : Int32) (h0 : Heap) (n0 : Nat) (v_ : Option Value) (h_ : Heap) (L_ : List Loc) : Prop := (fun v h L => v = some (.int (6 : Int32)) ∧ Fr n0 L ∧ Keep h0 h [a732] ∧ own_Ary Z h a732 .double ([(.double f163), (.double f164), (.double (4607182418800017408 : UInt64)), (.double f237), (.double f238), (.double (4607182418800017408 : UInt64))] ++ own_rD 6)) v_ h_ L_
set_option maxRecDepth 65536 in
set_option maxHeartbeats 40000000 in
theorem own_s32 (l : Launch) (Z : State) (a0 : Array Value) (hw : ∀ d ∈ tables_1, d.before a0 Z = true) (wds : List Jvm.Cond) (a299 : Addr) (a732 : Addr) (f237 : UInt64) (f238 : UInt64) (f163 : UInt64) (f164 : UInt64) (p5 : Int32) (p4 : Int32) (v7 : Int32) (w0 : Int32) (v15 : Int32) (h0 : Heap) (n0 : Nat) (Z0 : n0 ≤ h0.size) (H5 : Exa Z h0 a299 own_k0) (H6 : Fld Z h0 a299 own_k0 "low" "D" (.double f237)) (H7 : Fld Z h0 a299 own_k0 "gapLow" "D" (.double f238)) (H8 : Fld Z h0 a299 own_k0 "gapHigh" "D" (.double f238)) (H9 : Fld Z h0 a299 own_k0 "high" "D" (.double f238)) (H11 : Fld Z h0 a299 own_k0 "count" "D" (.double (4607182418800017408 : UInt64))) (H13 : own_Ary Z h0 a732 .double ([(.double f163), (.double f164), (.double (4607182418800017408 : UInt64))] ++ own_rD 9)) (H16 : a299 < a732) (H18 : n0 ≤ a732) (H19 : FP.Core.DInt p5.toInt f237) (H20 : FP.Core.DInt p5.toInt f238) (H23 : 0 ≤ v7.toInt ∧ v7.toInt ≤ 65535) (H24 : 0 ≤ w0.toInt ∧ w0.toInt ≤ 65535) (H25 : 0 ≤ v15.toInt ∧ v15.toInt ≤ 65535) (H26 : p4.toInt = p5.toInt) :
    MetFree l (⟨own_k0, "blocks", "([DI)I"⟩ : MethodName) (head1 (Jvm.Cond.code (⟨own_k0, "blocks", "([DI)I"⟩ : MethodName) prog_16_method_10_code 3 (some .int) :: wds) ({ frames := 1, cells := 0, slots := 0, locals := 12 } : Room)) (fun ar_ U_ => ar_ = #[(.ref a299), (.ref a732), (.int (3 : Int32))] ∧ Z.Warmed39 U_.vm ∧ U_.heap = h0) (fun _ _ _ _ _ => True) (fun _ U_ o_ V_ => ∃ v_ L_, o_ = .returned v_ ∧ own_s32_Q Z a299 a732 f237 f238 f163 f164 p5 p4 v7 w0 v15 h0 n0 v_ V_.heap L_ ∧ FrameEnd U_ o_ V_ L_ ({ frames := 1, cells := 0, slots := 0, locals := 12 } : Room).cells ({ frames := 1, cells := 0, slots := 0, locals := 12 } : Room).slots) := by
  refine own_met (y := ⟨own_k0, "blocks", "([DI)I"⟩) (Q := own_s32_Q Z a299 a732 f237 f238 f163 f164 p5 p4 v7 w0 v15 h0 n0) own_pn0 ?_
  intro p e s m below meth c s₁ hx hby hml hZ hown hnm hret hlk X0 e0
  have N0 := Fr.nil n0
  refine own_cast (g' := (mkF m 0 #[.val (.ref a299), .val (.ref a732), .val (.int (3 : Int32))] [])) (by first | (simp [entryFrame, mkF, argsToLocals, Value.category]; done) | rfl) ?_
  refine own_alN (w := (.ref a299)) X0 hx (hb hby d7_0) rfl rfl ?_
  refine own_callv (a := a299) (argsL := []) (rest := []) X0 hx hZ hown (own_s33 l Z a0 hw [] a299 f237 f238 p5 v7 w0 v15 p4 h0 n0 Z0 H6 H9 H19 H20 H23 H24 H25 H26) H5 (own_w hw 51 rfl) (own_w hw 52 rfl) (own_w hw 54 rfl) (own_w hw 53 rfl) (own_w hw 55 rfl) (own_w hw 3 rfl) (by decide) e0 (hb hby d7_1) (by rw [hml]; rfl) rfl (lenOf own_pd2 rfl) (by decide) (W := 0) (Nat.le_of_eq rfl) (by decide) (by decide) (by decide) ?_
  intro v802 T802 lo802 X802 Q802
  obtain ⟨h802, e802⟩ : ∃ h, T802.heap = h := ⟨_, rfl⟩
  rw [e802] at Q802
  obtain ⟨rfl, N802, K802⟩ := Q802
  have N802' := Fr.app N0 N802
  have e802' : T802.heap = h0 := e802.trans K802
  show own_Go _ _ _ _ _ _ _ T802 (mkF m 4 #[.val (.ref a299), .val (.ref a732), .val (.int (3 : Int32))] [(.int (0 : Int32))])
  refine own_pre (g' := (mkF m 9 #[.val (.ref a299), .val (.ref a732), .val (.int (3 : Int32))] [])) (fun t k => XS.ifYes X802.here hx rfl (pc0 := 4) (pc' := 9) rfl (hb hby d7_4) rfl (by decide) (by decide) (by decide) k) ?_
  refine own_alN (w := (.ref a732)) X802 hx (hb hby d7_9) rfl rfl ?_
  refine own_ilN (w := (3 : Int32)) X802 hx (hb hby d7_10) rfl ?_
  refine own_alN (w := (.ref a299)) X802 hx (hb hby d7_11) rfl rfl ?_
  refine own_getf X802 hx hZ hown (own_w hw 16 rfl) e802' H6 (hb hby d7_12) ?_
  intro T803 X803 e803
  show own_Go _ _ _ _ _ _ _ T803 (mkF m 15 #[.val (.ref a299), .val (.ref a732), .val (.int (3 : Int32))] [(.double f237), (.int (3 : Int32)), (.ref a732)])
  refine own_dastore X803 hx hZ e803 N802' H18 H13 (hb hby d7_15) (n := 3) (by decide) (by decide) (by show 3 < 12; decide) ?_
  intro T804 h804 lo804 X804 e804 N804 W804
  have F805 : own_Ary Z h804 a732 .double ([(.double f163), (.double f164), (.double (4607182418800017408 : UInt64)), (.double f237)] ++ own_rD 8) := H13.set W804
  show own_Go _ _ _ _ _ _ _ T804 (mkF m 16 #[.val (.ref a299), .val (.ref a732), .val (.int (3 : Int32))] [])
  refine own_alN (w := (.ref a299)) X804 hx (hb hby d7_16) rfl rfl ?_
  have F810 := (H5.wr W804)
  have F812 := (H7.other W804 (Or.inl (Nat.ne_of_lt H16)))
  have F813 := (H8.other W804 (Or.inl (Nat.ne_of_lt H16)))
  have F814 := (H9.other W804 (Or.inl (Nat.ne_of_lt H16)))
  have F816 := (H11.other W804 (Or.inl (Nat.ne_of_lt H16)))
  have F821 : n0 ≤ h804.size := (Nat.le_trans Z0 (Nat.le_of_eq W804.size.symm))
  refine own_callv (a := a299) (argsL := []) (rest := []) X804 hx hZ hown (own_s34 l Z a0 hw [] a299 f238 p5 v7 w0 v15 p4 h804 n0 F821 F812 F813 H20 H23 H24 H25 H26) F810 (own_w hw 56 rfl) (own_w hw 29 rfl) (own_w hw 31 rfl) (own_w hw 30 rfl) (own_w hw 32 rfl) (own_w hw 3 rfl) (by decide) e804 (hb hby d7_17) (by rw [hml]; rfl) rfl (lenOf own_pd2 rfl) (by decide) (W := 0) (Nat.le_of_eq rfl) (by decide) (by decide) (by decide) ?_
  intro v822 T822 lo822 X822 Q822
  obtain ⟨h822, e822⟩ : ∃ h, T822.heap = h := ⟨_, rfl⟩
  rw [e822] at Q822
  obtain ⟨rfl, N822, K822⟩ := Q822
  have N822' := Fr.app N804 N822
  have e822' : T822.heap = h804 := e822.trans K822
  show own_Go _ _ _ _ _ _ _ T822 (mkF m 20 #[.val (.ref a299), .val (.ref a732), .val (.int (3 : Int32))] [(.int (0 : Int32))])
  refine own_pre (g' := (mkF m 23 #[.val (.ref a299), .val (.ref a732), .val (.int (3 : Int32))] [])) (fun t k => XS.ifNo X822.here hx rfl (hb hby d7_20) rfl (by decide) k) ?_
  refine own_alN (w := (.ref a732)) X822 hx (hb hby d7_23) rfl rfl ?_
  refine own_ilN (w := (3 : Int32)) X822 hx (hb hby d7_24) rfl ?_
  refine own_ic X822 hx (1 : Int32) (hb hby d7_25) rfl ?_
  refine own_pre (g' := (mkF m 27 #[.val (.ref a299), .val (.ref a732), .val (.int (3 : Int32))] [(.int (4 : Int32)), (.ref a732)])) (fun t k => XS.iadd X822.here hx rfl (hb hby d7_26) rfl k) ?_
  refine own_alN (w := (.ref a299)) X822 hx (hb hby d7_27) rfl rfl ?_
  refine own_getf X822 hx hZ hown (own_w hw 22 rfl) e822' F814 (hb hby d7_28) ?_
  intro T823 X823 e823
  show own_Go _ _ _ _ _ _ _ T823 (mkF m 31 #[.val (.ref a299), .val (.ref a732), .val (.int (3 : Int32))] [(.double f238), (.int (4 : Int32)), (.ref a732)])
  refine own_dastore X823 hx hZ e823 N822' H18 F805 (hb hby d7_31) (n := 4) (by decide) (by decide) (by show 4 < 12; decide) ?_
  intro T824 h824 lo824 X824 e824 N824 W824
  have F825 : own_Ary Z h824 a732 .double ([(.double f163), (.double f164), (.double (4607182418800017408 : UInt64)), (.double f237), (.double f238)] ++ own_rD 7) := F805.set W824
  show own_Go _ _ _ _ _ _ _ T824 (mkF m 32 #[.val (.ref a299), .val (.ref a732), .val (.int (3 : Int32))] [])
  refine own_alN (w := (.ref a732)) X824 hx (hb hby d7_32) rfl rfl ?_
  refine own_ilN (w := (3 : Int32)) X824 hx (hb hby d7_33) rfl ?_
  refine own_ic X824 hx (2 : Int32) (hb hby d7_34) rfl ?_
  refine own_pre (g' := (mkF m 36 #[.val (.ref a299), .val (.ref a732), .val (.int (3 : Int32))] [(.int (5 : Int32)), (.ref a732)])) (fun t k => XS.iadd X824.here hx rfl (hb hby d7_35) rfl k) ?_
  refine own_alN (w := (.ref a299)) X824 hx (hb hby d7_36) rfl rfl ?_
  have F826 := (F816.other W824 (Or.inl (Nat.ne_of_lt H16)))
  refine own_getf X824 hx hZ hown (own_w hw 26 rfl) e824 F826 (hb hby d7_37) ?_
  intro T827 X827 e827
  show own_Go _ _ _ _ _ _ _ T827 (mkF m 40 #[.val (.ref a299), .val (.ref a732), .val (.int (3 : Int32))] [(.double (4607182418800017408 : UInt64)), (.int (5 : Int32)), (.ref a732)])
  refine own_dastore X827 hx hZ e827 N824 H18 F825 (hb hby d7_40) (n := 5) (by decide) (by decide) (by show 5 < 12; decide) ?_
  intro T828 h828 lo828 X828 e828 N828 W828
  have F829 : own_Ary Z h828 a732 .double ([(.double f163), (.double f164), (.double (4607182418800017408 : UInt64)), (.double f237), (.double f238), (.double (4607182418800017408 : UInt64))] ++ own_rD 6) := F825.set W828
  show own_Go _ _ _ _ _ _ _ T828 (mkF m 41 #[.val (.ref a299), .val (.ref a732), .val (.int (3 : Int32))] [])
  refine own_ilN (w := (3 : Int32)) X828 hx (hb hby d7_41) rfl ?_
  refine own_ic X828 hx (3 : Int32) (hb hby d7_42) rfl ?_
  refine own_pre (g' := (mkF m 44 #[.val (.ref a299), .val (.ref a732), .val (.int (3 : Int32))] [(.int (6 : Int32))])) (fun t k => XS.iadd X828.here hx rfl (hb hby d7_43) rfl k) ?_
  exact own_retI X828 hx hlk hret (hb hby d7_44) e828 ⟨rfl, N828, ((((Keep.refl _ _).wr W804 (Or.inl (by simp))).wr W824 (Or.inl (by simp))).wr W828 (Or.inl (by simp))), F829⟩ (by decide) (by decide)
def own_s35_Q (Z : State) (a845 : Addr) (h0 : Heap) (n0 : Nat) (v_ : Option Value) (h_ : Heap) (L_ : List Loc) : Prop := (fun v h L => v = none ∧ Fr n0 L ∧ Keep h0 h [a845] ∧ Fld Z h a845 own_k1 "low" "D" (.double (9218868437227405312 : UInt64)) ∧ Fld Z h a845 own_k1 "high" "D" (.double (18442240474082181120 : UInt64)) ∧ Fld Z h a845 own_k1 "gapLow" "D" (.double (0 : UInt64)) ∧ Fld Z h a845 own_k1 "gapHigh" "D" (.double (0 : UInt64)) ∧ Fld Z h a845 own_k1 "count" "D" (.double (0 : UInt64)) ∧ Fld Z h a845 own_k1 "below" "D" (.double (0 : UInt64))) v_ h_ L_
set_option maxRecDepth 65536 in
set_option maxHeartbeats 40000000 in
theorem own_s35 (l : Launch) (Z : State) (a0 : Array Value) (hw : ∀ d ∈ tables_1, d.before a0 Z = true) (wds : List Jvm.Cond) (a845 : Addr) (h0 : Heap) (n0 : Nat) (Z0 : n0 ≤ h0.size) (H5 : Exa Z h0 a845 own_k1) (H6 : Fld Z h0 a845 own_k1 "low" "D" (.double (0 : UInt64))) (H7 : Fld Z h0 a845 own_k1 "high" "D" (.double (0 : UInt64))) (H8 : Fld Z h0 a845 own_k1 "gapLow" "D" (.double (0 : UInt64))) (H9 : Fld Z h0 a845 own_k1 "gapHigh" "D" (.double (0 : UInt64))) (H10 : Fld Z h0 a845 own_k1 "count" "D" (.double (0 : UInt64))) (H11 : Fld Z h0 a845 own_k1 "below" "D" (.double (0 : UInt64))) (H13 : n0 ≤ a845) :
    MetFree l (⟨own_k1, "<init>", "()V"⟩ : MethodName) (head1 (Jvm.Cond.code (⟨own_k1, "<init>", "()V"⟩ : MethodName) prog_17_method_1_code 1 none :: wds) ({ frames := 1, cells := 0, slots := 0, locals := 12 } : Room)) (fun ar_ U_ => ar_ = #[(.ref a845)] ∧ Z.Warmed39 U_.vm ∧ U_.heap = h0) (fun _ _ _ _ _ => True) (fun _ U_ o_ V_ => ∃ v_ L_, o_ = .returned v_ ∧ own_s35_Q Z a845 h0 n0 v_ V_.heap L_ ∧ FrameEnd U_ o_ V_ L_ ({ frames := 1, cells := 0, slots := 0, locals := 12 } : Room).cells ({ frames := 1, cells := 0, slots := 0, locals := 12 } : Room).slots) := by
  refine own_met (y := ⟨own_k1, "<init>", "()V"⟩) (Q := own_s35_Q Z a845 h0 n0) own_pn3 ?_
  intro p e s m below meth c s₁ hx hby hml hZ hown hnm hret hlk X0 e0
  have N0 := Fr.nil n0
  refine own_cast (g' := (mkF m 0 #[.val (.ref a845)] [])) (by first | (simp [entryFrame, mkF, argsToLocals, Value.category]; done) | rfl) ?_
  refine own_alN (w := (.ref a845)) X0 hx (hb hby d9_0) rfl rfl ?_
  refine own_init0 X0 hx hZ hown (own_w hw 63 rfl) (own_w hw 14 rfl) (own_w hw 15 rfl) e0 (hb hby d9_1) (by rw [hml]; rfl) (by decide) (W := 0) (Nat.le_of_eq rfl) (by decide) ?_
  intro T863 X863 e863
  show own_Go _ _ _ _ _ _ _ T863 (mkF m 4 #[.val (.ref a845)] [])
  refine own_alN (w := (.ref a845)) X863 hx (hb hby d9_4) rfl rfl ?_
  refine own_ldcd X863 hx hZ hown (own_w hw 64 rfl) (hb hby d9_5) ?_
  show own_Go _ _ _ _ _ _ _ T863 (mkF m 8 #[.val (.ref a845)] [(.double (9218868437227405312 : UInt64)), (.ref a845)])
  refine own_putf X863 hx hZ hown (own_w hw 65 rfl) e863 N0 H13 H6 H5 (Or.inl (own_w hw 66 rfl)) (own_w hw 58 rfl) (ty := .double) (by decide) rfl rfl (hb hby d9_8) ?_
  intro T864 h864 lo864 X864 e864 N864 W864
  have F865 := H6.same W864
  show own_Go _ _ _ _ _ _ _ T864 (mkF m 11 #[.val (.ref a845)] [])
  refine own_alN (w := (.ref a845)) X864 hx (hb hby d9_11) rfl rfl ?_
  refine own_ldcd X864 hx hZ hown (own_w hw 67 rfl) (hb hby d9_12) ?_
  show own_Go _ _ _ _ _ _ _ T864 (mkF m 15 #[.val (.ref a845)] [(.double (18442240474082181120 : UInt64)), (.ref a845)])
  have F866 := (H7.other W864 (Or.inr (own_sne (own_f6 hw) (own_f7 hw) (by decide))))
  have F867 := (H5.wr W864)
  refine own_putf X864 hx hZ hown (own_w hw 68 rfl) e864 N864 H13 F866 F867 (Or.inl (own_w hw 69 rfl)) (own_w hw 58 rfl) (ty := .double) (by decide) rfl rfl (hb hby d9_15) ?_
  intro T868 h868 lo868 X868 e868 N868 W868
  have F869 := F866.same W868
  show own_Go _ _ _ _ _ _ _ T868 (mkF m 18 #[.val (.ref a845)] [])
  have F870 := (F865.other W868 (Or.inr (own_sne (own_f7 hw) (own_f6 hw) (by decide))))
  have F871 := ((H8.other W864 (Or.inr (own_sne (own_f8 hw) (own_f7 hw) (by decide)))).other W868 (Or.inr (own_sne (own_f8 hw) (own_f6 hw) (by decide))))
  have F872 := ((H9.other W864 (Or.inr (own_sne (own_f9 hw) (own_f7 hw) (by decide)))).other W868 (Or.inr (own_sne (own_f9 hw) (own_f6 hw) (by decide))))
  have F873 := ((H10.other W864 (Or.inr (own_sne (own_f10 hw) (own_f7 hw) (by decide)))).other W868 (Or.inr (own_sne (own_f10 hw) (own_f6 hw) (by decide))))
  have F874 := ((H11.other W864 (Or.inr (own_sne (own_f11 hw) (own_f7 hw) (by decide)))).other W868 (Or.inr (own_sne (own_f11 hw) (own_f6 hw) (by decide))))
  exact own_ret0 X868 hx hlk hret (hb hby d9_18) e868 ⟨rfl, N868, (((Keep.refl _ _).wr W864 (Or.inl (by simp))).wr W868 (Or.inl (by simp))), F870, F869, F871, F872, F873, F874⟩ (by decide) (by decide)
def own_s36_Q (Z : State) (a845 : Addr) (f163 : UInt64) (f164 : UInt64) (h0 : Heap) (n0 : Nat) (v_ : Option Value) (h_ : Heap) (L_ : List Loc) : Prop := (fun v h L => v = none ∧ Fr n0 L ∧ Keep h0 h [a845] ∧ Fld Z h a845 own_k1 "low" "D" (.double f163) ∧ Fld Z h a845 own_k1 "high" "D" (.double f164) ∧ Fld Z h a845 own_k1 "gapLow" "D" (.double f164) ∧ Fld Z h a845 own_k1 "gapHigh" "D" (.double f164) ∧ Fld Z h a845 own_k1 "count" "D" (.double (4607182418800017408 : UInt64)) ∧ Fld Z h a845 own_k1 "below" "D" (.double (0 : UInt64))) v_ h_ L_
set_option maxRecDepth 65536 in
set_option maxHeartbeats 40000000 in
theorem own_s36 (l : Launch) (Z : State) (a0 : Array Value) (hw : ∀ d ∈ tables_1, d.before a0 Z = true) (wds : List Jvm.Cond) (a845 : Addr) (f163 : UInt64) (f164 : UInt64) (h0 : Heap) (n0 : Nat) (Z0 : n0 ≤ h0.size) (H5 : Exa Z h0 a845 own_k1) (H6 : Fld Z h0 a845 own_k1 "low" "D" (.double (9218868437227405312 : UInt64))) (H7 : Fld Z h0 a845 own_k1 "high" "D" (.double (18442240474082181120 : UInt64))) (H8 : Fld Z h0 a845 own_k1 "gapLow" "D" (.double (0 : UInt64))) (H9 : Fld Z h0 a845 own_k1 "gapHigh" "D" (.double (0 : UInt64))) (H10 : Fld Z h0 a845 own_k1 "count" "D" (.double (0 : UInt64))) (H11 : Fld Z h0 a845 own_k1 "below" "D" (.double (0 : UInt64))) (H13 : n0 ≤ a845) :
    MetFree l (⟨own_k1, "take", "(DDD)V"⟩ : MethodName) (head1 (Jvm.Cond.code (⟨own_k1, "take", "(DDD)V"⟩ : MethodName) prog_17_method_2_code 7 none :: wds) ({ frames := 0, cells := 0, slots := 0, locals := 0 } : Room)) (fun ar_ U_ => ar_ = #[(.ref a845), (.double f163), (.double f164), (.double (4607182418800017408 : UInt64))] ∧ Z.Warmed39 U_.vm ∧ U_.heap = h0) (fun _ _ _ _ _ => True) (fun _ U_ o_ V_ => ∃ v_ L_, o_ = .returned v_ ∧ own_s36_Q Z a845 f163 f164 h0 n0 v_ V_.heap L_ ∧ FrameEnd U_ o_ V_ L_ ({ frames := 0, cells := 0, slots := 0, locals := 0 } : Room).cells ({ frames := 0, cells := 0, slots := 0, locals := 0 } : Room).slots) := by
  refine own_met (y := ⟨own_k1, "take", "(DDD)V"⟩) (Q := own_s36_Q Z a845 f163 f164 h0 n0) own_pn3 ?_
  intro p e s m below meth c s₁ hx hby hml hZ hown hnm hret hlk X0 e0
  have N0 := Fr.nil n0
  refine own_cast (g' := (mkF m 0 #[.val (.ref a845), .val (.double f163), .second, .val (.double f164), .second, .val (.double (4607182418800017408 : UInt64)), .second] [])) (by first | (simp [entryFrame, mkF, argsToLocals, Value.category]; done) | rfl) ?_
  generalize hL887 : (#[.val (.ref a845), .val (.double f163), .second, .val (.double f164), .second, .val (.double (4607182418800017408 : UInt64)), .second] : Array Slot) = L887
  refine own_alN (w := (.ref a845)) X0 hx (hb hby d10_0) (by rw [← hL887]; rfl) rfl ?_
  refine own_getf X0 hx hZ hown (own_w hw 65 rfl) e0 H6 (hb hby d10_1) ?_
  intro T892 X892 e892
  show own_Go _ _ _ _ _ _ _ T892 (mkF m 4 L887 [(.double (9218868437227405312 : UInt64))])
  refine own_alN (w := (.ref a845)) X892 hx (hb hby d10_4) (by rw [← hL887]; rfl) rfl ?_
  refine own_getf X892 hx hZ hown (own_w hw 68 rfl) e892 H7 (hb hby d10_5) ?_
  intro T893 X893 e893
  show own_Go _ _ _ _ _ _ _ T893 (mkF m 8 L887 [(.double (18442240474082181120 : UInt64)), (.double (9218868437227405312 : UInt64))])
  refine own_pre (g' := (mkF m 9 L887 [(.int (1 : Int32))])) (fun t k => XS.dcmpS X893.here hx rfl (v := (1 : Int32)) (hb hby d10_8) rfl (by decide +kernel) k) ?_
  refine own_pre (g' := (mkF m 12 L887 [])) (fun t k => XS.ifNo X893.here hx rfl (hb hby d10_9) rfl (by decide) k) ?_
  refine own_alN (w := (.ref a845)) X893 hx (hb hby d10_12) (by rw [← hL887]; rfl) rfl ?_
  refine own_dlN (w := f163) X893 hx (hb hby d10_13) (by rw [← hL887]; rfl) ?_
  refine own_putf X893 hx hZ hown (own_w hw 65 rfl) e893 N0 H13 H6 H5 (Or.inl (own_w hw 66 rfl)) (own_w hw 58 rfl) (ty := .double) (by decide) rfl rfl (hb hby d10_14) ?_
  intro T894 h894 lo894 X894 e894 N894 W894
  have F895 := H6.same W894
  show own_Go _ _ _ _ _ _ _ T894 (mkF m 17 L887 [])
  refine own_alN (w := (.ref a845)) X894 hx (hb hby d10_17) (by rw [← hL887]; rfl) rfl ?_
  refine own_dlN (w := f164) X894 hx (hb hby d10_18) (by rw [← hL887]; rfl) ?_
  have F896 := (H7.other W894 (Or.inr (own_sne (own_f6 hw) (own_f7 hw) (by decide))))
  have F897 := (H5.wr W894)
  refine own_putf X894 hx hZ hown (own_w hw 68 rfl) e894 N894 H13 F896 F897 (Or.inl (own_w hw 69 rfl)) (own_w hw 58 rfl) (ty := .double) (by decide) rfl rfl (hb hby d10_19) ?_
  intro T898 h898 lo898 X898 e898 N898 W898
  have F899 := F896.same W898
  show own_Go _ _ _ _ _ _ _ T898 (mkF m 22 L887 [])
  refine own_alN (w := (.ref a845)) X898 hx (hb hby d10_22) (by rw [← hL887]; rfl) rfl ?_
  refine own_dlN (w := f164) X898 hx (hb hby d10_23) (by rw [← hL887]; rfl) ?_
  have F900 := ((H8.other W894 (Or.inr (own_sne (own_f8 hw) (own_f7 hw) (by decide)))).other W898 (Or.inr (own_sne (own_f8 hw) (own_f6 hw) (by decide))))
  have F901 := (F897.wr W898)
  refine own_putf X898 hx hZ hown (own_w hw 75 rfl) e898 N898 H13 F900 F901 (Or.inl (own_w hw 76 rfl)) (own_w hw 58 rfl) (ty := .double) (by decide) rfl rfl (hb hby d10_24) ?_
  intro T902 h902 lo902 X902 e902 N902 W902
  have F903 := F900.same W902
  show own_Go _ _ _ _ _ _ _ T902 (mkF m 27 L887 [])
  refine own_alN (w := (.ref a845)) X902 hx (hb hby d10_27) (by rw [← hL887]; rfl) rfl ?_
  refine own_dlN (w := f164) X902 hx (hb hby d10_28) (by rw [← hL887]; rfl) ?_
  have F904 := (((H9.other W894 (Or.inr (own_sne (own_f9 hw) (own_f7 hw) (by decide)))).other W898 (Or.inr (own_sne (own_f9 hw) (own_f6 hw) (by decide)))).other W902 (Or.inr (own_sne (own_f9 hw) (own_f8 hw) (by decide))))
  have F905 := (F901.wr W902)
  refine own_putf X902 hx hZ hown (own_w hw 77 rfl) e902 N902 H13 F904 F905 (Or.inl (own_w hw 78 rfl)) (own_w hw 58 rfl) (ty := .double) (by decide) rfl rfl (hb hby d10_29) ?_
  intro T906 h906 lo906 X906 e906 N906 W906
  have F907 := F904.same W906
  show own_Go _ _ _ _ _ _ _ T906 (mkF m 32 L887 [])
  refine own_alN (w := (.ref a845)) X906 hx (hb hby d10_32) (by rw [← hL887]; rfl) rfl ?_
  refine own_dl (w := (4607182418800017408 : UInt64)) X906 hx (hb hby d10_33) (by rw [← hL887]; rfl) ?_
  have F908 := ((((H10.other W894 (Or.inr (own_sne (own_f10 hw) (own_f7 hw) (by decide)))).other W898 (Or.inr (own_sne (own_f10 hw) (own_f6 hw) (by decide)))).other W902 (Or.inr (own_sne (own_f10 hw) (own_f8 hw) (by decide)))).other W906 (Or.inr (own_sne (own_f10 hw) (own_f9 hw) (by decide))))
  have F909 := (F905.wr W906)
  refine own_putf X906 hx hZ hown (own_w hw 79 rfl) e906 N906 H13 F908 F909 (Or.inl (own_w hw 80 rfl)) (own_w hw 58 rfl) (ty := .double) (by decide) rfl rfl (hb hby d10_35) ?_
  intro T910 h910 lo910 X910 e910 N910 W910
  have F911 := F908.same W910
  show own_Go _ _ _ _ _ _ _ T910 (mkF m 38 L887 [])
  have F912 := ((((F895.other W898 (Or.inr (own_sne (own_f7 hw) (own_f6 hw) (by decide)))).other W902 (Or.inr (own_sne (own_f7 hw) (own_f8 hw) (by decide)))).other W906 (Or.inr (own_sne (own_f7 hw) (own_f9 hw) (by decide)))).other W910 (Or.inr (own_sne (own_f7 hw) (own_f10 hw) (by decide))))
  have F913 := (((F899.other W902 (Or.inr (own_sne (own_f6 hw) (own_f8 hw) (by decide)))).other W906 (Or.inr (own_sne (own_f6 hw) (own_f9 hw) (by decide)))).other W910 (Or.inr (own_sne (own_f6 hw) (own_f10 hw) (by decide))))
  have F914 := ((F903.other W906 (Or.inr (own_sne (own_f8 hw) (own_f9 hw) (by decide)))).other W910 (Or.inr (own_sne (own_f8 hw) (own_f10 hw) (by decide))))
  have F915 := (F907.other W910 (Or.inr (own_sne (own_f9 hw) (own_f10 hw) (by decide))))
  have F916 := (((((H11.other W894 (Or.inr (own_sne (own_f11 hw) (own_f7 hw) (by decide)))).other W898 (Or.inr (own_sne (own_f11 hw) (own_f6 hw) (by decide)))).other W902 (Or.inr (own_sne (own_f11 hw) (own_f8 hw) (by decide)))).other W906 (Or.inr (own_sne (own_f11 hw) (own_f9 hw) (by decide)))).other W910 (Or.inr (own_sne (own_f11 hw) (own_f10 hw) (by decide))))
  exact own_ret0 X910 hx hlk hret (hb hby d10_38) e910 ⟨rfl, N910, ((((((Keep.refl _ _).wr W894 (Or.inl (by simp))).wr W898 (Or.inl (by simp))).wr W902 (Or.inl (by simp))).wr W906 (Or.inl (by simp))).wr W910 (Or.inl (by simp))), F912, F913, F914, F915, F911, F916⟩ (by decide) (by decide)
def own_s37_Q (Z : State) (a845 : Addr) (f237 : UInt64) (f238 : UInt64) (f163 : UInt64) (f164 : UInt64) (p5 : Int32) (p4 : Int32) (v7 : Int32) (w0 : Int32) (v15 : Int32) (h0 : Heap) (n0 : Nat) (v_ : Option Value) (h_ : Heap) (L_ : List Loc) : Prop := (fun v h L => ∃ (f941 : UInt64) (f947 : UInt64), v = none ∧ Fr n0 L ∧ Keep h0 h [a845] ∧ Fld Z h a845 own_k1 "low" "D" (.double f163) ∧ Fld Z h a845 own_k1 "high" "D" (.double f941) ∧ Fld Z h a845 own_k1 "gapLow" "D" (.double f164) ∧ Fld Z h a845 own_k1 "gapHigh" "D" (.double f164) ∧ Fld Z h a845 own_k1 "count" "D" (.double f947) ∧ Fld Z h a845 own_k1 "below" "D" (.double (0 : UInt64)) ∧ FP.Core.DInt p4.toInt f941 ∧ FP.Core.DInt (1 + 1) f947) v_ h_ L_
set_option maxRecDepth 65536 in
set_option maxHeartbeats 40000000 in
theorem own_s37 (l : Launch) (Z : State) (a0 : Array Value) (hw : ∀ d ∈ tables_1, d.before a0 Z = true) (wds : List Jvm.Cond) (a845 : Addr) (f237 : UInt64) (f238 : UInt64) (f163 : UInt64) (f164 : UInt64) (p5 : Int32) (p4 : Int32) (v7 : Int32) (w0 : Int32) (v15 : Int32) (h0 : Heap) (n0 : Nat) (Z0 : n0 ≤ h0.size) (H5 : Exa Z h0 a845 own_k1) (H6 : Fld Z h0 a845 own_k1 "low" "D" (.double f163)) (H7 : Fld Z h0 a845 own_k1 "high" "D" (.double f164)) (H8 : Fld Z h0 a845 own_k1 "gapLow" "D" (.double f164)) (H9 : Fld Z h0 a845 own_k1 "gapHigh" "D" (.double f164)) (H10 : Fld Z h0 a845 own_k1 "count" "D" (.double (4607182418800017408 : UInt64))) (H11 : Fld Z h0 a845 own_k1 "below" "D" (.double (0 : UInt64))) (H13 : n0 ≤ a845) (H14 : FP.Core.DInt p5.toInt f237) (H15 : FP.Core.DInt p5.toInt f238) (H16 : FP.Core.DInt p4.toInt f163) (H17 : FP.Core.DInt p4.toInt f164) (H18 : 0 ≤ v7.toInt ∧ v7.toInt ≤ 65535) (H19 : 0 ≤ w0.toInt ∧ w0.toInt ≤ 65535) (H20 : 0 ≤ v15.toInt ∧ v15.toInt ≤ 65535) (H21 : p4.toInt = p5.toInt) :
    MetFree l (⟨own_k1, "take", "(DDD)V"⟩ : MethodName) (head1 (Jvm.Cond.code (⟨own_k1, "take", "(DDD)V"⟩ : MethodName) prog_17_method_2_code 7 none :: wds) ({ frames := 1, cells := 0, slots := 0, locals := 16 } : Room)) (fun ar_ U_ => ar_ = #[(.ref a845), (.double f237), (.double f238), (.double (4607182418800017408 : UInt64))] ∧ Z.Warmed39 U_.vm ∧ U_.heap = h0) (fun _ _ _ _ _ => True) (fun _ U_ o_ V_ => ∃ v_ L_, o_ = .returned v_ ∧ own_s37_Q Z a845 f237 f238 f163 f164 p5 p4 v7 w0 v15 h0 n0 v_ V_.heap L_ ∧ FrameEnd U_ o_ V_ L_ ({ frames := 1, cells := 0, slots := 0, locals := 16 } : Room).cells ({ frames := 1, cells := 0, slots := 0, locals := 16 } : Room).slots) := by
  refine own_met (y := ⟨own_k1, "take", "(DDD)V"⟩) (Q := own_s37_Q Z a845 f237 f238 f163 f164 p5 p4 v7 w0 v15 h0 n0) own_pn3 ?_
  intro p e s m below meth c s₁ hx hby hml hZ hown hnm hret hlk X0 e0
  have N0 := Fr.nil n0
  refine own_cast (g' := (mkF m 0 #[.val (.ref a845), .val (.double f237), .second, .val (.double f238), .second, .val (.double (4607182418800017408 : UInt64)), .second] [])) (by first | (simp [entryFrame, mkF, argsToLocals, Value.category]; done) | rfl) ?_
  generalize hL928 : (#[.val (.ref a845), .val (.double f237), .second, .val (.double f238), .second, .val (.double (4607182418800017408 : UInt64)), .second] : Array Slot) = L928
  refine own_alN (w := (.ref a845)) X0 hx (hb hby d10_0) (by rw [← hL928]; rfl) rfl ?_
  refine own_getf X0 hx hZ hown (own_w hw 65 rfl) e0 H6 (hb hby d10_1) ?_
  intro T933 X933 e933
  show own_Go _ _ _ _ _ _ _ T933 (mkF m 4 L928 [(.double f163)])
  refine own_alN (w := (.ref a845)) X933 hx (hb hby d10_4) (by rw [← hL928]; rfl) rfl ?_
  refine own_getf X933 hx hZ hown (own_w hw 68 rfl) e933 H7 (hb hby d10_5) ?_
  intro T934 X934 e934
  show own_Go _ _ _ _ _ _ _ T934 (mkF m 8 L928 [(.double f164), (.double f163)])
  obtain ⟨k935, hk935⟩ : ∃ z, own_c p4.toInt p4.toInt = z := ⟨_, rfl⟩
  refine own_pre (g' := (mkF m 9 L928 [(.int k935)])) (fun t k => XS.dcmpS X934.here hx rfl (hb hby d10_8) rfl ((own_dcmp H16 H17 _).trans hk935) k) ?_
  have hc936 : ¬ (0 : Int32) < k935 := by rw [← hk935, own_c_gt] <;> (have := H18; have := H19; have := H20; have := H21; have := rng32 p4; omega)
  refine own_pre (g' := (mkF m 39 L928 [])) (fun t k => XS.ifYes X934.here hx rfl (pc0 := 9) (pc' := 39) rfl (hb hby d10_9) rfl ((if0 _ _).trans (flt hc936).2.2.2) (by decide) (by decide) k) ?_
  refine own_dlN (w := f237) X934 hx (hb hby d10_39) (by rw [← hL928]; rfl) ?_
  refine own_alN (w := (.ref a845)) X934 hx (hb hby d10_40) (by rw [← hL928]; rfl) rfl ?_
  refine own_getf X934 hx hZ hown (own_w hw 68 rfl) e934 H7 (hb hby d10_41) ?_
  intro T937 X937 e937
  show own_Go _ _ _ _ _ _ _ T937 (mkF m 44 L928 [(.double f164), (.double f237)])
  obtain ⟨k938, hk938⟩ : ∃ z, own_c p5.toInt p4.toInt = z := ⟨_, rfl⟩
  refine own_pre (g' := (mkF m 45 L928 [(.int k938)])) (fun t k => XS.dcmpS X937.here hx rfl (hb hby d10_44) rfl ((own_dcmp H14 H17 _).trans hk938) k) ?_
  have hc939 : ¬ (0 : Int32) < k938 := by rw [← hk938, own_c_gt] <;> (have := H18; have := H19; have := H20; have := H21; have := rng32 p5; have := rng32 p4; omega)
  refine own_pre (g' := (mkF m 100 L928 [])) (fun t k => XS.ifYes X937.here hx rfl (pc0 := 45) (pc' := 100) rfl (hb hby d10_45) rfl ((if0 _ _).trans (flt hc939).2.2.2) (by decide) (by decide) k) ?_
  refine own_alN (w := (.ref a845)) X937 hx (hb hby d10_100) (by rw [← hL928]; rfl) rfl ?_
  refine own_alN (w := (.ref a845)) X937 hx (hb hby d10_101) (by rw [← hL928]; rfl) rfl ?_
  refine own_getf X937 hx hZ hown (own_w hw 68 rfl) e937 H7 (hb hby d10_102) ?_
  intro T940 X940 e940
  show own_Go _ _ _ _ _ _ _ T940 (mkF m 105 L928 [(.double f164), (.ref a845)])
  refine own_dlN (w := f238) X940 hx (hb hby d10_105) (by rw [← hL928]; rfl) ?_
  obtain ⟨f941, hf941⟩ : ∃ z, Native.java_lang_Math.nans.pick64 true f164 f238 = z := ⟨_, rfl⟩
  have Df941 : FP.Core.DInt p4.toInt f941 := hf941 ▸ own_pickL H17 H15 (by have := H18; have := H19; have := H20; have := H21; have := rng32 p4; have := rng32 p5; omega)
  refine own_maxd X940 hx hZ hown (own_w hw 83 rfl) (own_w hw 84 rfl) (own_w hw 85 rfl) (own_w hw 86 rfl) e940 (hb hby d10_106) (by rw [hml, ← hL928]; rfl) (own_DInt_nn H17) (own_DInt_nn H15) (r := f941) hf941 (by decide) (W := 1) (Nat.le_of_eq rfl) (by decide) (by decide) (by decide) ?_
  intro T942 X942 e942
  show own_Go _ _ _ _ _ _ _ T942 (mkF m 109 L928 [(.double f941), (.ref a845)])
  refine own_putf X942 hx hZ hown (own_w hw 68 rfl) e942 N0 H13 H7 H5 (Or.inl (own_w hw 69 rfl)) (own_w hw 58 rfl) (ty := .double) (by decide) rfl rfl (hb hby d10_109) ?_
  intro T943 h943 lo943 X943 e943 N943 W943
  have F944 := H7.same W943
  show own_Go _ _ _ _ _ _ _ T943 (mkF m 112 L928 [])
  refine own_alN (w := (.ref a845)) X943 hx (hb hby d10_112) (by rw [← hL928]; rfl) rfl ?_
  refine own_pre (g' := (mkF m 114 L928 [(.ref a845), (.ref a845)])) (fun t k => XS.dup X943.here hx rfl (hb hby d10_113) rfl rfl k) ?_
  have F945 := (H10.other W943 (Or.inr (own_sne (own_f10 hw) (own_f6 hw) (by decide))))
  refine own_getf X943 hx hZ hown (own_w hw 79 rfl) e943 F945 (hb hby d10_114) ?_
  intro T946 X946 e946
  show own_Go _ _ _ _ _ _ _ T946 (mkF m 117 L928 [(.double (4607182418800017408 : UInt64)), (.ref a845)])
  refine own_dl (w := (4607182418800017408 : UInt64)) X946 hx (hb hby d10_117) (by rw [← hL928]; rfl) ?_
  obtain ⟨f947, hf947⟩ : ∃ z, FP.dadd (4607182418800017408 : UInt64) (4607182418800017408 : UInt64) = z := ⟨_, rfl⟩
  have Df947 : Jvm.FP.Core.DInt (1 + 1) f947 := hf947 ▸ Jvm.FP.Core.dadd_int FP.Core.dint_one FP.Core.dint_one (by have := H18; have := H19; have := H20; have := H21; omega)
  refine own_pre (g' := (mkF m 120 L928 [(.double f947), (.ref a845)])) (fun t k => XS.daddS X946.here hx rfl (hb hby d10_119) rfl (by rw [hf947]; exact own_DInt_nn Df947) hf947 k) ?_
  have F948 := (H5.wr W943)
  refine own_putf X946 hx hZ hown (own_w hw 79 rfl) e946 N943 H13 F945 F948 (Or.inl (own_w hw 80 rfl)) (own_w hw 58 rfl) (ty := .double) (by decide) rfl rfl (hb hby d10_120) ?_
  intro T949 h949 lo949 X949 e949 N949 W949
  have F950 := F945.same W949
  show own_Go _ _ _ _ _ _ _ T949 (mkF m 123 L928 [])
  have F951 := ((H6.other W943 (Or.inr (own_sne (own_f7 hw) (own_f6 hw) (by decide)))).other W949 (Or.inr (own_sne (own_f7 hw) (own_f10 hw) (by decide))))
  have F952 := (F944.other W949 (Or.inr (own_sne (own_f6 hw) (own_f10 hw) (by decide))))
  have F953 := ((H8.other W943 (Or.inr (own_sne (own_f8 hw) (own_f6 hw) (by decide)))).other W949 (Or.inr (own_sne (own_f8 hw) (own_f10 hw) (by decide))))
  have F954 := ((H9.other W943 (Or.inr (own_sne (own_f9 hw) (own_f6 hw) (by decide)))).other W949 (Or.inr (own_sne (own_f9 hw) (own_f10 hw) (by decide))))
  have F955 := ((H11.other W943 (Or.inr (own_sne (own_f11 hw) (own_f6 hw) (by decide)))).other W949 (Or.inr (own_sne (own_f11 hw) (own_f10 hw) (by decide))))
  exact own_ret0 X949 hx hlk hret (hb hby d10_123) e949 ⟨f941, f947, rfl, N949, (((Keep.refl _ _).wr W943 (Or.inl (by simp))).wr W949 (Or.inl (by simp))), F951, F952, F953, F954, F950, F955, Df941, Df947⟩ (by decide) (by decide)
def own_s41_Q (Z : State) (a986 : Addr) (h0 : Heap) (n0 : Nat) (v_ : Option Value) (h_ : Heap) (L_ : List Loc) : Prop := (fun v h L => v = none ∧ Fr n0 L ∧ h = h0) v_ h_ L_
set_option maxRecDepth 65536 in
set_option maxHeartbeats 40000000 in
theorem own_s41 (l : Launch) (Z : State) (a0 : Array Value) (hw : ∀ d ∈ tables_1, d.before a0 Z = true) (wds : List Jvm.Cond) (a986 : Addr) (h0 : Heap) (n0 : Nat) (Z0 : n0 ≤ h0.size)  :
    MetFree l (⟨"java/lang/Record", "<init>", "()V"⟩ : MethodName) (head1 (Jvm.Cond.code (⟨"java/lang/Record", "<init>", "()V"⟩ : MethodName) jdk_30_method_1_code 1 none :: wds) ({ frames := 1, cells := 0, slots := 0, locals := 12 } : Room)) (fun ar_ U_ => ar_ = #[(.ref a986)] ∧ Z.Warmed39 U_.vm ∧ U_.heap = h0) (fun _ _ _ _ _ => True) (fun _ U_ o_ V_ => ∃ v_ L_, o_ = .returned v_ ∧ own_s41_Q Z a986 h0 n0 v_ V_.heap L_ ∧ FrameEnd U_ o_ V_ L_ ({ frames := 1, cells := 0, slots := 0, locals := 12 } : Room).cells ({ frames := 1, cells := 0, slots := 0, locals := 12 } : Room).slots) := by
  refine own_met (y := ⟨"java/lang/Record", "<init>", "()V"⟩) (Q := own_s41_Q Z a986 h0 n0) own_pn2 ?_
  intro p e s m below meth c s₁ hx hby hml hZ hown hnm hret hlk X0 e0
  have N0 := Fr.nil n0
  refine own_cast (g' := (mkF m 0 #[.val (.ref a986)] [])) (by first | (simp [entryFrame, mkF, argsToLocals, Value.category]; done) | rfl) ?_
  refine own_alN (w := (.ref a986)) X0 hx (hb hby d2_0) rfl rfl ?_
  refine own_init0 X0 hx hZ hown (own_w hw 13 rfl) (own_w hw 14 rfl) (own_w hw 15 rfl) e0 (hb hby d2_1) (by rw [hml]; rfl) (by decide) (W := 0) (Nat.le_of_eq rfl) (by decide) ?_
  intro T1001 X1001 e1001
  show own_Go _ _ _ _ _ _ _ T1001 (mkF m 4 #[.val (.ref a986)] [])
  exact own_ret0 X1001 hx hlk hret (hb hby d2_4) e1001 ⟨rfl, N0, rfl⟩ (by decide) (by decide)
def own_s40_Q (Z : State) (a986 : Addr) (f163 : UInt64) (f958 : UInt64) (f959 : UInt64) (h0 : Heap) (n0 : Nat) (v_ : Option Value) (h_ : Heap) (L_ : List Loc) : Prop := (fun v h L => v = none ∧ Fr n0 L ∧ Keep h0 h [a986] ∧ Fld Z h a986 own_k0 "low" "D" (.double f163) ∧ Fld Z h a986 own_k0 "gapLow" "D" (.double f958) ∧ Fld Z h a986 own_k0 "gapHigh" "D" (.double f958) ∧ Fld Z h a986 own_k0 "high" "D" (.double f958) ∧ Fld Z h a986 own_k0 "below" "D" (.double f959) ∧ Fld Z h a986 own_k0 "count" "D" (.double f959)) v_ h_ L_
set_option maxRecDepth 65536 in
set_option maxHeartbeats 40000000 in
theorem own_s40 (l : Launch) (Z : State) (a0 : Array Value) (hw : ∀ d ∈ tables_1, d.before a0 Z = true) (wds : List Jvm.Cond) (a986 : Addr) (f163 : UInt64) (f958 : UInt64) (f959 : UInt64) (h0 : Heap) (n0 : Nat) (Z0 : n0 ≤ h0.size) (H5 : Exa Z h0 a986 own_k0) (H6 : Fld Z h0 a986 own_k0 "low" "D" (.double (0 : UInt64))) (H7 : Fld Z h0 a986 own_k0 "gapLow" "D" (.double (0 : UInt64))) (H8 : Fld Z h0 a986 own_k0 "gapHigh" "D" (.double (0 : UInt64))) (H9 : Fld Z h0 a986 own_k0 "high" "D" (.double (0 : UInt64))) (H10 : Fld Z h0 a986 own_k0 "below" "D" (.double (0 : UInt64))) (H11 : Fld Z h0 a986 own_k0 "count" "D" (.double (0 : UInt64))) (H13 : n0 ≤ a986) :
    MetFree l (⟨own_k0, "<init>", "(DDDDDD)V"⟩ : MethodName) (head1 (Jvm.Cond.code (⟨own_k0, "<init>", "(DDDDDD)V"⟩ : MethodName) prog_16_method_1_code 13 none :: wds) ({ frames := 2, cells := 0, slots := 0, locals := 24 } : Room)) (fun ar_ U_ => ar_ = #[(.ref a986), (.double f163), (.double f958), (.double f958), (.double f958), (.double f959), (.double f959)] ∧ Z.Warmed39 U_.vm ∧ U_.heap = h0) (fun _ _ _ _ _ => True) (fun _ U_ o_ V_ => ∃ v_ L_, o_ = .returned v_ ∧ own_s40_Q Z a986 f163 f958 f959 h0 n0 v_ V_.heap L_ ∧ FrameEnd U_ o_ V_ L_ ({ frames := 2, cells := 0, slots := 0, locals := 24 } : Room).cells ({ frames := 2, cells := 0, slots := 0, locals := 24 } : Room).slots) := by
  refine own_met (y := ⟨own_k0, "<init>", "(DDDDDD)V"⟩) (Q := own_s40_Q Z a986 f163 f958 f959 h0 n0) own_pn0 ?_
  intro p e s m below meth c s₁ hx hby hml hZ hown hnm hret hlk X0 e0
  have N0 := Fr.nil n0
  refine own_cast (g' := (mkF m 0 #[.val (.ref a986), .val (.double f163), .second, .val (.double f958), .second, .val (.double f958), .second, .val (.double f958), .second, .val (.double f959), .second, .val (.double f959), .second] [])) (by first | (simp [entryFrame, mkF, argsToLocals, Value.category]; done) | rfl) ?_
  generalize hL996 : (#[.val (.ref a986), .val (.double f163), .second, .val (.double f958), .second, .val (.double f958), .second, .val (.double f958), .second, .val (.double f959), .second, .val (.double f959), .second] : Array Slot) = L996
  refine own_alN (w := (.ref a986)) X0 hx (hb hby d1_0) (by rw [← hL996]; rfl) rfl ?_
  refine own_init (a := a986) (argsL := []) (rest := []) X0 hx hZ hown (own_s41 l Z a0 hw [] a986 h0 n0 Z0 ) rfl (own_w hw 8 rfl) (own_w hw 9 rfl) (own_w hw 12 rfl) (own_w hw 11 rfl) (by decide) e0 (hb hby d1_1) (by rw [hml, ← hL996]; rfl) rfl (lenOf own_pd0 rfl) (by decide) (W := 0) (Nat.le_of_eq rfl) (by decide) (by decide) (by decide) ?_
  intro v1002 T1002 lo1002 X1002 Q1002
  obtain ⟨h1002, e1002⟩ : ∃ h, T1002.heap = h := ⟨_, rfl⟩
  rw [e1002] at Q1002
  obtain ⟨rfl, N1002, K1002⟩ := Q1002
  have N1002' := Fr.app N0 N1002
  have e1002' : T1002.heap = h0 := e1002.trans K1002
  show own_Go _ _ _ _ _ _ _ T1002 (mkF m 4 L996 [])
  refine own_alN (w := (.ref a986)) X1002 hx (hb hby d1_4) (by rw [← hL996]; rfl) rfl ?_
  refine own_dlN (w := f163) X1002 hx (hb hby d1_5) (by rw [← hL996]; rfl) ?_
  refine own_putf X1002 hx hZ hown (own_w hw 16 rfl) e1002' N1002' H13 H6 H5 (Or.inr ⟨(own_w hw 17 rfl), rfl, hnm⟩) (own_w hw 2 rfl) (ty := .double) (by decide) rfl rfl (hb hby d1_6) ?_
  intro T1003 h1003 lo1003 X1003 e1003 N1003 W1003
  have F1004 := H6.same W1003
  show own_Go _ _ _ _ _ _ _ T1003 (mkF m 9 L996 [])
  refine own_alN (w := (.ref a986)) X1003 hx (hb hby d1_9) (by rw [← hL996]; rfl) rfl ?_
  refine own_dlN (w := f958) X1003 hx (hb hby d1_10) (by rw [← hL996]; rfl) ?_
  have F1005 := (H7.other W1003 (Or.inr (own_sne (own_f0 hw) (own_f1 hw) (by decide))))
  have F1006 := (H5.wr W1003)
  refine own_putf X1003 hx hZ hown (own_w hw 18 rfl) e1003 N1003 H13 F1005 F1006 (Or.inr ⟨(own_w hw 19 rfl), rfl, hnm⟩) (own_w hw 2 rfl) (ty := .double) (by decide) rfl rfl (hb hby d1_11) ?_
  intro T1007 h1007 lo1007 X1007 e1007 N1007 W1007
  have F1008 := F1005.same W1007
  show own_Go _ _ _ _ _ _ _ T1007 (mkF m 14 L996 [])
  refine own_alN (w := (.ref a986)) X1007 hx (hb hby d1_14) (by rw [← hL996]; rfl) rfl ?_
  refine own_dl (w := f958) X1007 hx (hb hby d1_15) (by rw [← hL996]; rfl) ?_
  have F1009 := ((H8.other W1003 (Or.inr (own_sne (own_f2 hw) (own_f1 hw) (by decide)))).other W1007 (Or.inr (own_sne (own_f2 hw) (own_f0 hw) (by decide))))
  have F1010 := (F1006.wr W1007)
  refine own_putf X1007 hx hZ hown (own_w hw 20 rfl) e1007 N1007 H13 F1009 F1010 (Or.inr ⟨(own_w hw 21 rfl), rfl, hnm⟩) (own_w hw 2 rfl) (ty := .double) (by decide) rfl rfl (hb hby d1_17) ?_
  intro T1011 h1011 lo1011 X1011 e1011 N1011 W1011
  have F1012 := F1009.same W1011
  show own_Go _ _ _ _ _ _ _ T1011 (mkF m 20 L996 [])
  refine own_alN (w := (.ref a986)) X1011 hx (hb hby d1_20) (by rw [← hL996]; rfl) rfl ?_
  refine own_dl (w := f958) X1011 hx (hb hby d1_21) (by rw [← hL996]; rfl) ?_
  have F1013 := (((H9.other W1003 (Or.inr (own_sne (own_f3 hw) (own_f1 hw) (by decide)))).other W1007 (Or.inr (own_sne (own_f3 hw) (own_f0 hw) (by decide)))).other W1011 (Or.inr (own_sne (own_f3 hw) (own_f2 hw) (by decide))))
  have F1014 := (F1010.wr W1011)
  refine own_putf X1011 hx hZ hown (own_w hw 22 rfl) e1011 N1011 H13 F1013 F1014 (Or.inr ⟨(own_w hw 23 rfl), rfl, hnm⟩) (own_w hw 2 rfl) (ty := .double) (by decide) rfl rfl (hb hby d1_23) ?_
  intro T1015 h1015 lo1015 X1015 e1015 N1015 W1015
  have F1016 := F1013.same W1015
  show own_Go _ _ _ _ _ _ _ T1015 (mkF m 26 L996 [])
  refine own_alN (w := (.ref a986)) X1015 hx (hb hby d1_26) (by rw [← hL996]; rfl) rfl ?_
  refine own_dl (w := f959) X1015 hx (hb hby d1_27) (by rw [← hL996]; rfl) ?_
  have F1017 := ((((H10.other W1003 (Or.inr (own_sne (own_f4 hw) (own_f1 hw) (by decide)))).other W1007 (Or.inr (own_sne (own_f4 hw) (own_f0 hw) (by decide)))).other W1011 (Or.inr (own_sne (own_f4 hw) (own_f2 hw) (by decide)))).other W1015 (Or.inr (own_sne (own_f4 hw) (own_f3 hw) (by decide))))
  have F1018 := (F1014.wr W1015)
  refine own_putf X1015 hx hZ hown (own_w hw 24 rfl) e1015 N1015 H13 F1017 F1018 (Or.inr ⟨(own_w hw 25 rfl), rfl, hnm⟩) (own_w hw 2 rfl) (ty := .double) (by decide) rfl rfl (hb hby d1_29) ?_
  intro T1019 h1019 lo1019 X1019 e1019 N1019 W1019
  have F1020 := F1017.same W1019
  show own_Go _ _ _ _ _ _ _ T1019 (mkF m 32 L996 [])
  refine own_alN (w := (.ref a986)) X1019 hx (hb hby d1_32) (by rw [← hL996]; rfl) rfl ?_
  refine own_dl (w := f959) X1019 hx (hb hby d1_33) (by rw [← hL996]; rfl) ?_
  have F1021 := (((((H11.other W1003 (Or.inr (own_sne (own_f5 hw) (own_f1 hw) (by decide)))).other W1007 (Or.inr (own_sne (own_f5 hw) (own_f0 hw) (by decide)))).other W1011 (Or.inr (own_sne (own_f5 hw) (own_f2 hw) (by decide)))).other W1015 (Or.inr (own_sne (own_f5 hw) (own_f3 hw) (by decide)))).other W1019 (Or.inr (own_sne (own_f5 hw) (own_f4 hw) (by decide))))
  have F1022 := (F1018.wr W1019)
  refine own_putf X1019 hx hZ hown (own_w hw 26 rfl) e1019 N1019 H13 F1021 F1022 (Or.inr ⟨(own_w hw 27 rfl), rfl, hnm⟩) (own_w hw 2 rfl) (ty := .double) (by decide) rfl rfl (hb hby d1_35) ?_
  intro T1023 h1023 lo1023 X1023 e1023 N1023 W1023
  have F1024 := F1021.same W1023
  show own_Go _ _ _ _ _ _ _ T1023 (mkF m 38 L996 [])
  have F1025 := (((((F1004.other W1007 (Or.inr (own_sne (own_f1 hw) (own_f0 hw) (by decide)))).other W1011 (Or.inr (own_sne (own_f1 hw) (own_f2 hw) (by decide)))).other W1015 (Or.inr (own_sne (own_f1 hw) (own_f3 hw) (by decide)))).other W1019 (Or.inr (own_sne (own_f1 hw) (own_f4 hw) (by decide)))).other W1023 (Or.inr (own_sne (own_f1 hw) (own_f5 hw) (by decide))))
  have F1026 := ((((F1008.other W1011 (Or.inr (own_sne (own_f0 hw) (own_f2 hw) (by decide)))).other W1015 (Or.inr (own_sne (own_f0 hw) (own_f3 hw) (by decide)))).other W1019 (Or.inr (own_sne (own_f0 hw) (own_f4 hw) (by decide)))).other W1023 (Or.inr (own_sne (own_f0 hw) (own_f5 hw) (by decide))))
  have F1027 := (((F1012.other W1015 (Or.inr (own_sne (own_f2 hw) (own_f3 hw) (by decide)))).other W1019 (Or.inr (own_sne (own_f2 hw) (own_f4 hw) (by decide)))).other W1023 (Or.inr (own_sne (own_f2 hw) (own_f5 hw) (by decide))))
  have F1028 := ((F1016.other W1019 (Or.inr (own_sne (own_f3 hw) (own_f4 hw) (by decide)))).other W1023 (Or.inr (own_sne (own_f3 hw) (own_f5 hw) (by decide))))
  have F1029 := (F1020.other W1023 (Or.inr (own_sne (own_f4 hw) (own_f5 hw) (by decide))))
  exact own_ret0 X1023 hx hlk hret (hb hby d1_38) e1023 ⟨rfl, N1023, (((((((Keep.refl _ _).wr W1003 (Or.inl (by simp))).wr W1007 (Or.inl (by simp))).wr W1011 (Or.inl (by simp))).wr W1015 (Or.inl (by simp))).wr W1019 (Or.inl (by simp))).wr W1023 (Or.inl (by simp))), F1025, F1026, F1027, F1028, F1029, F1024⟩ (by decide) (by decide)
def own_s39_Q (Z : State) (f163 : UInt64) (f958 : UInt64) (f959 : UInt64) (h0 : Heap) (n0 : Nat) (v_ : Option Value) (h_ : Heap) (L_ : List Loc) : Prop := (fun v h L => ∃ (a986 : Addr), v = some (.ref a986) ∧ Fr n0 L ∧ Keep h0 h [] ∧ h0.size ≤ a986 ∧ Exa Z h a986 own_k0 ∧ Fld Z h a986 own_k0 "low" "D" (.double f163) ∧ Fld Z h a986 own_k0 "gapLow" "D" (.double f958) ∧ Fld Z h a986 own_k0 "gapHigh" "D" (.double f958) ∧ Fld Z h a986 own_k0 "high" "D" (.double f958) ∧ Fld Z h a986 own_k0 "below" "D" (.double f959) ∧ Fld Z h a986 own_k0 "count" "D" (.double f959)) v_ h_ L_
set_option maxRecDepth 65536 in
set_option maxHeartbeats 40000000 in
theorem own_s39 (l : Launch) (Z : State) (a0 : Array Value) (hw : ∀ d ∈ tables_1, d.before a0 Z = true) (wds : List Jvm.Cond) (f163 : UInt64) (f958 : UInt64) (f959 : UInt64) (h0 : Heap) (n0 : Nat) (Z0 : n0 ≤ h0.size)  :
    MetFree l (⟨own_k0, "of", own_k3⟩ : MethodName) (head1 (Jvm.Cond.code (⟨own_k0, "of", own_k3⟩ : MethodName) prog_16_method_2_code 6 (some (.object own_k0)) :: wds) ({ frames := 3, cells := 1, slots := 6, locals := 49 } : Room)) (fun ar_ U_ => ar_ = #[(.double f163), (.double f958), (.double f959)] ∧ Z.Warmed39 U_.vm ∧ U_.heap = h0) (fun _ _ _ _ _ => True) (fun _ U_ o_ V_ => ∃ v_ L_, o_ = .returned v_ ∧ own_s39_Q Z f163 f958 f959 h0 n0 v_ V_.heap L_ ∧ FrameEnd U_ o_ V_ L_ ({ frames := 3, cells := 1, slots := 6, locals := 49 } : Room).cells ({ frames := 3, cells := 1, slots := 6, locals := 49 } : Room).slots) := by
  refine own_met (y := ⟨own_k0, "of", own_k3⟩) (Q := own_s39_Q Z f163 f958 f959 h0 n0) own_pn0 ?_
  intro p e s m below meth c s₁ hx hby hml hZ hown hnm hret hlk X0 e0
  have N0 := Fr.nil n0
  refine own_cast (g' := (mkF m 0 #[.val (.double f163), .second, .val (.double f958), .second, .val (.double f959), .second] [])) (by first | (simp [entryFrame, mkF, argsToLocals, Value.category]; done) | rfl) ?_
  generalize hL985 : (#[.val (.double f163), .second, .val (.double f958), .second, .val (.double f959), .second] : Array Slot) = L985
  refine own_newobj X0 hx hZ hown (own_w hw 37 rfl) (own_w hw 2 rfl) (own_w hw 3 rfl) e0 (hb hby d5_0) (by decide) (by decide) ?_
  intro T986 h986 a986 g986 X986 e986 E986 A986 D986
  have ge988 : h0.size ≤ a986 := Nat.le_trans (Nat.le_refl _) (Nat.le_of_eq g986.symm)
  have nw989 : n0 ≤ a986 := Nat.le_trans Z0 (Nat.le_of_eq g986.symm)
  have F990 : Fld Z h986 a986 own_k0 "low" "D" (.double (0 : UInt64)) := D986 (Or.inr (own_w hw 17 rfl)) (ty := .double) (by decide)
  have F991 : Fld Z h986 a986 own_k0 "gapLow" "D" (.double (0 : UInt64)) := D986 (Or.inr (own_w hw 19 rfl)) (ty := .double) (by decide)
  have F992 : Fld Z h986 a986 own_k0 "gapHigh" "D" (.double (0 : UInt64)) := D986 (Or.inr (own_w hw 21 rfl)) (ty := .double) (by decide)
  have F993 : Fld Z h986 a986 own_k0 "high" "D" (.double (0 : UInt64)) := D986 (Or.inr (own_w hw 23 rfl)) (ty := .double) (by decide)
  have F994 : Fld Z h986 a986 own_k0 "below" "D" (.double (0 : UInt64)) := D986 (Or.inr (own_w hw 25 rfl)) (ty := .double) (by decide)
  have F995 : Fld Z h986 a986 own_k0 "count" "D" (.double (0 : UInt64)) := D986 (Or.inr (own_w hw 27 rfl)) (ty := .double) (by decide)
  show own_Go _ _ _ _ _ _ _ T986 (mkF m 3 L985 [(.ref a986)])
  refine own_pre (g' := (mkF m 4 L985 [(.ref a986), (.ref a986)])) (fun t k => XS.dup X986.here hx rfl (hb hby d5_3) rfl rfl k) ?_
  refine own_dlN (w := f163) X986 hx (hb hby d5_4) (by rw [← hL985]; rfl) ?_
  refine own_dlN (w := f958) X986 hx (hb hby d5_5) (by rw [← hL985]; rfl) ?_
  refine own_dlN (w := f958) X986 hx (hb hby d5_6) (by rw [← hL985]; rfl) ?_
  refine own_dlN (w := f958) X986 hx (hb hby d5_7) (by rw [← hL985]; rfl) ?_
  refine own_dl (w := f959) X986 hx (hb hby d5_8) (by rw [← hL985]; rfl) ?_
  refine own_dl (w := f959) X986 hx (hb hby d5_10) (by rw [← hL985]; rfl) ?_
  have F1030 : n0 ≤ h986.size := (Nat.le_trans Z0 E986.1)
  refine own_init (a := a986) (argsL := [(.double f163), (.double f958), (.double f958), (.double f958), (.double f959), (.double f959)]) (rest := [(.ref a986)]) X986 hx hZ hown (own_s40 l Z a0 hw [] a986 f163 f958 f959 h986 n0 F1030 A986 F990 F991 F992 F993 F994 F995 nw989) rfl (own_w hw 38 rfl) (own_w hw 6 rfl) (own_w hw 7 rfl) (own_w hw 3 rfl) (by decide) e986 (hb hby d5_12) (by rw [hml, ← hL985]; rfl) rfl (lenOf own_pd1 rfl) (by decide) (W := 1) (Nat.le_of_eq rfl) (by decide) (by decide) (by decide) ?_
  intro v1031 T1031 lo1031 X1031 Q1031
  obtain ⟨h1031, e1031⟩ : ∃ h, T1031.heap = h := ⟨_, rfl⟩
  rw [e1031] at Q1031
  obtain ⟨rfl, N1031, K1031, F1032, F1033, F1034, F1035, F1036, F1037⟩ := Q1031
  have N1031' := Fr.app N0 N1031
  show own_Go _ _ _ _ _ _ _ T1031 (mkF m 15 L985 [(.ref a986)])
  have F1039 := (A986.keep K1031)
  exact own_retA X1031 hx hlk hret rfl rfl rfl (hb hby d5_15) e1031 ⟨a986, rfl, N1031', (((Keep.refl _ _).ext E986).trans K1031 (allS (Or.inr ge988) all0)), ge988, F1039, F1032, F1033, F1034, F1035, F1036, F1037⟩ (by decide) (by decide)
def own_s38_Q (Z : State) (a845 : Addr) (f163 : UInt64) (f958 : UInt64) (f164 : UInt64) (f959 : UInt64) (p4 : Int32) (v7 : Int32) (w0 : Int32) (v15 : Int32) (p5 : Int32) (h0 : Heap) (n0 : Nat) (v_ : Option Value) (h_ : Heap) (L_ : List Loc) : Prop := (fun v h L => ∃ (a1041 : Addr), v = some (.ref a1041) ∧ Fr n0 L ∧ Keep h0 h [] ∧ h0.size ≤ a1041 ∧ Exa Z h a1041 own_k0 ∧ Fld Z h a1041 own_k0 "low" "D" (.double f163) ∧ Fld Z h a1041 own_k0 "gapLow" "D" (.double f958) ∧ Fld Z h a1041 own_k0 "gapHigh" "D" (.double f958) ∧ Fld Z h a1041 own_k0 "high" "D" (.double f958) ∧ Fld Z h a1041 own_k0 "below" "D" (.double f959) ∧ Fld Z h a1041 own_k0 "count" "D" (.double f959)) v_ h_ L_
set_option maxRecDepth 65536 in
set_option maxHeartbeats 40000000 in
theorem own_s38 (l : Launch) (Z : State) (a0 : Array Value) (hw : ∀ d ∈ tables_1, d.before a0 Z = true) (wds : List Jvm.Cond) (a845 : Addr) (f163 : UInt64) (f958 : UInt64) (f164 : UInt64) (f959 : UInt64) (p4 : Int32) (v7 : Int32) (w0 : Int32) (v15 : Int32) (p5 : Int32) (h0 : Heap) (n0 : Nat) (Z0 : n0 ≤ h0.size) (H6 : Fld Z h0 a845 own_k1 "low" "D" (.double f163)) (H7 : Fld Z h0 a845 own_k1 "high" "D" (.double f958)) (H8 : Fld Z h0 a845 own_k1 "gapLow" "D" (.double f164)) (H9 : Fld Z h0 a845 own_k1 "gapHigh" "D" (.double f164)) (H10 : Fld Z h0 a845 own_k1 "count" "D" (.double f959)) (H14 : FP.Core.DInt p4.toInt f163) (H15 : FP.Core.DInt p4.toInt f958) (H16 : FP.Core.DInt p4.toInt f164) (H18 : 0 ≤ v7.toInt ∧ v7.toInt ≤ 65535) (H19 : 0 ≤ w0.toInt ∧ w0.toInt ≤ 65535) (H20 : 0 ≤ v15.toInt ∧ v15.toInt ≤ 65535) (H21 : p4.toInt = p5.toInt) :
    MetFree l (⟨own_k1, "extent", "()Lcom/example/rankline/rankline/Extent;"⟩ : MethodName) (head1 (Jvm.Cond.code (⟨own_k1, "extent", "()Lcom/example/rankline/rankline/Extent;"⟩ : MethodName) prog_17_method_3_code 1 (some (.object own_k0)) :: wds) ({ frames := 4, cells := 1, slots := 6, locals := 66 } : Room)) (fun ar_ U_ => ar_ = #[(.ref a845)] ∧ Z.Warmed39 U_.vm ∧ U_.heap = h0) (fun _ _ _ _ _ => True) (fun _ U_ o_ V_ => ∃ v_ L_, o_ = .returned v_ ∧ own_s38_Q Z a845 f163 f958 f164 f959 p4 v7 w0 v15 p5 h0 n0 v_ V_.heap L_ ∧ FrameEnd U_ o_ V_ L_ ({ frames := 4, cells := 1, slots := 6, locals := 66 } : Room).cells ({ frames := 4, cells := 1, slots := 6, locals := 66 } : Room).slots) := by
  refine own_met (y := ⟨own_k1, "extent", "()Lcom/example/rankline/rankline/Extent;"⟩) (Q := own_s38_Q Z a845 f163 f958 f164 f959 p4 v7 w0 v15 p5 h0 n0) own_pn3 ?_
  intro p e s m below meth c s₁ hx hby hml hZ hown hnm hret hlk X0 e0
  have N0 := Fr.nil n0
  refine own_cast (g' := (mkF m 0 #[.val (.ref a845)] [])) (by first | (simp [entryFrame, mkF, argsToLocals, Value.category]; done) | rfl) ?_
  refine own_alN (w := (.ref a845)) X0 hx (hb hby d12_0) rfl rfl ?_
  refine own_getf X0 hx hZ hown (own_w hw 65 rfl) e0 H6 (hb hby d12_1) ?_
  intro T974 X974 e974
  show own_Go _ _ _ _ _ _ _ T974 (mkF m 4 #[.val (.ref a845)] [(.double f163)])
  refine own_alN (w := (.ref a845)) X974 hx (hb hby d12_4) rfl rfl ?_
  refine own_getf X974 hx hZ hown (own_w hw 68 rfl) e974 H7 (hb hby d12_5) ?_
  intro T975 X975 e975
  show own_Go _ _ _ _ _ _ _ T975 (mkF m 8 #[.val (.ref a845)] [(.double f958), (.double f163)])
  obtain ⟨k976, hk976⟩ : ∃ z, own_c p4.toInt p4.toInt = z := ⟨_, rfl⟩
  refine own_pre (g' := (mkF m 9 #[.val (.ref a845)] [(.int k976)])) (fun t k => XS.dcmpS X975.here hx rfl (hb hby d12_8) rfl ((own_dcmp H14 H15 _).trans hk976) k) ?_
  have hc977 : ¬ (0 : Int32) < k976 := by rw [← hk976, own_c_gt] <;> (have := H18; have := H19; have := H20; have := H21; have := rng32 p4; omega)
  refine own_pre (g' := (mkF m 16 #[.val (.ref a845)] [])) (fun t k => XS.ifYes X975.here hx rfl (pc0 := 9) (pc' := 16) rfl (hb hby d12_9) rfl ((if0 _ _).trans (flt hc977).2.2.2) (by decide) (by decide) k) ?_
  refine own_alN (w := (.ref a845)) X975 hx (hb hby d12_16) rfl rfl ?_
  refine own_getf X975 hx hZ hown (own_w hw 75 rfl) e975 H8 (hb hby d12_17) ?_
  intro T978 X978 e978
  show own_Go _ _ _ _ _ _ _ T978 (mkF m 20 #[.val (.ref a845)] [(.double f164)])
  refine own_alN (w := (.ref a845)) X978 hx (hb hby d12_20) rfl rfl ?_
  refine own_getf X978 hx hZ hown (own_w hw 77 rfl) e978 H9 (hb hby d12_21) ?_
  intro T979 X979 e979
  show own_Go _ _ _ _ _ _ _ T979 (mkF m 24 #[.val (.ref a845)] [(.double f164), (.double f164)])
  obtain ⟨k980, hk980⟩ : ∃ z, own_c p4.toInt p4.toInt = z := ⟨_, rfl⟩
  refine own_pre (g' := (mkF m 25 #[.val (.ref a845)] [(.int k980)])) (fun t k => XS.dcmpS X979.here hx rfl (hb hby d12_24) rfl ((own_dcmp H16 H16 _).trans hk980) k) ?_
  have hc981 : ¬ k980 < (0 : Int32) := by rw [← hk980, own_c_lt] <;> (have := H18; have := H19; have := H20; have := H21; have := rng32 p4; omega)
  refine own_pre (g' := (mkF m 62 #[.val (.ref a845)] [])) (fun t k => XS.ifYes X979.here hx rfl (pc0 := 25) (pc' := 62) rfl (hb hby d12_25) rfl ((if0 _ _).trans (flt hc981).2.1) (by decide) (by decide) k) ?_
  refine own_alN (w := (.ref a845)) X979 hx (hb hby d12_62) rfl rfl ?_
  refine own_getf X979 hx hZ hown (own_w hw 65 rfl) e979 H6 (hb hby d12_63) ?_
  intro T982 X982 e982
  show own_Go _ _ _ _ _ _ _ T982 (mkF m 66 #[.val (.ref a845)] [(.double f163)])
  refine own_alN (w := (.ref a845)) X982 hx (hb hby d12_66) rfl rfl ?_
  refine own_getf X982 hx hZ hown (own_w hw 68 rfl) e982 H7 (hb hby d12_67) ?_
  intro T983 X983 e983
  show own_Go _ _ _ _ _ _ _ T983 (mkF m 70 #[.val (.ref a845)] [(.double f958), (.double f163)])
  refine own_alN (w := (.ref a845)) X983 hx (hb hby d12_70) rfl rfl ?_
  refine own_getf X983 hx hZ hown (own_w hw 79 rfl) e983 H10 (hb hby d12_71) ?_
  intro T984 X984 e984
  show own_Go _ _ _ _ _ _ _ T984 (mkF m 74 #[.val (.ref a845)] [(.double f959), (.double f958), (.double f163)])
  refine own_calls (argsL := [(.double f163), (.double f958), (.double f959)]) (rest := []) X984 hx hZ hown (own_s39 l Z a0 hw [] f163 f958 f959 h0 n0 Z0 ) (own_w hw 97 rfl) (own_w hw 35 rfl) (own_w hw 36 rfl) (own_w hw 3 rfl) (by decide) e984 (hb hby d12_74) (by rw [hml]; rfl) rfl (lenOf own_pd3 rfl) (by decide) (W := 0) (Nat.le_of_eq rfl) (by decide) (by decide) (by decide) ?_
  intro v1040 T1040 lo1040 X1040 Q1040
  obtain ⟨h1040, e1040⟩ : ∃ h, T1040.heap = h := ⟨_, rfl⟩
  rw [e1040] at Q1040
  obtain ⟨a1041, rfl, N1040, K1040, ge1042, F1043, F1044, F1045, F1046, F1047, F1048, F1049⟩ := Q1040
  have N1040' := Fr.app N0 N1040
  show own_Go _ _ _ _ _ _ _ T1040 (mkF m 77 #[.val (.ref a845)] [(.ref a1041)])
  have ge1054 : h0.size ≤ a1041 := Nat.le_trans (Nat.le_refl _) ge1042
  exact own_retA X1040 hx hlk hret rfl rfl rfl (hb hby d12_77) e1040 ⟨a1041, rfl, N1040', ((Keep.refl _ _).trans K1040 all0), ge1054, F1043, F1044, F1045, F1046, F1047, F1048, F1049⟩ (by decide) (by decide)
def own_s28_Q (Z : State) (a221 : Addr) (a299 : Addr) (f163 : UInt64) (f164 : UInt64) (f237 : UInt64) (f238 : UInt64) (p4 : Int32) (p5 : Int32) (v7 : Int32) (w0 : Int32) (v15 : Int32) (h0 : Heap) (n0 : Nat) (v_ : Option Value) (h_ : Heap) (L_ : List Loc) : Prop := (fun v h L => ∃ (a1057 : Addr) (f958 : UInt64) (f959 : UInt64), v = some (.ref a1057) ∧ Fr n0 L ∧ Keep h0 h [] ∧ h0.size ≤ a1057 ∧ Exa Z h a1057 own_k0 ∧ Fld Z h a1057 own_k0 "low" "D" (.double f163) ∧ Fld Z h a1057 own_k0 "gapLow" "D" (.double f958) ∧ Fld Z h a1057 own_k0 "gapHigh" "D" (.double f958) ∧ Fld Z h a1057 own_k0 "high" "D" (.double f958) ∧ Fld Z h a1057 own_k0 "below" "D" (.double f959) ∧ Fld Z h a1057 own_k0 "count" "D" (.double f959) ∧ FP.Core.DInt p4.toInt f958 ∧ FP.Core.DInt (1 + 1) f959) v_ h_ L_
set_option maxRecDepth 65536 in
set_option maxHeartbeats 40000000 in
theorem own_s28 (l : Launch) (Z : State) (a0 : Array Value) (hw : ∀ d ∈ tables_1, d.before a0 Z = true) (wds : List Jvm.Cond) (a221 : Addr) (a299 : Addr) (f163 : UInt64) (f164 : UInt64) (f237 : UInt64) (f238 : UInt64) (p4 : Int32) (p5 : Int32) (v7 : Int32) (w0 : Int32) (v15 : Int32) (h0 : Heap) (n0 : Nat) (Z0 : n0 ≤ h0.size) (H5 : Exa Z h0 a221 own_k0) (H6 : Fld Z h0 a221 own_k0 "low" "D" (.double f163)) (H7 : Fld Z h0 a221 own_k0 "gapLow" "D" (.double f164)) (H8 : Fld Z h0 a221 own_k0 "gapHigh" "D" (.double f164)) (H9 : Fld Z h0 a221 own_k0 "high" "D" (.double f164)) (H11 : Fld Z h0 a221 own_k0 "count" "D" (.double (4607182418800017408 : UInt64))) (H12 : Exa Z h0 a299 own_k0) (H13 : Fld Z h0 a299 own_k0 "low" "D" (.double f237)) (H14 : Fld Z h0 a299 own_k0 "gapLow" "D" (.double f238)) (H15 : Fld Z h0 a299 own_k0 "gapHigh" "D" (.double f238)) (H16 : Fld Z h0 a299 own_k0 "high" "D" (.double f238)) (H18 : Fld Z h0 a299 own_k0 "count" "D" (.double (4607182418800017408 : UInt64))) (H24 : FP.Core.DInt p4.toInt f163) (H25 : FP.Core.DInt p4.toInt f164) (H26 : FP.Core.DInt p5.toInt f237) (H27 : FP.Core.DInt p5.toInt f238) (H28 : 0 ≤ v7.toInt ∧ v7.toInt ≤ 65535) (H29 : 0 ≤ w0.toInt ∧ w0.toInt ≤ 65535) (H30 : 0 ≤ v15.toInt ∧ v15.toInt ≤ 65535) (H31 : p4.toInt = p5.toInt) :
    MetFree l (⟨own_k0, "union", own_k2⟩ : MethodName) (head1 (Jvm.Cond.code (⟨own_k0, "union", own_k2⟩ : MethodName) prog_16_method_8_code 7 (some (.object own_k0)) :: wds) ({ frames := 5, cells := 3, slots := 24, locals := 78 } : Room)) (fun ar_ U_ => ar_ = #[(.ref a221), (.ref a299)] ∧ Z.Warmed39 U_.vm ∧ U_.heap = h0) (fun _ _ _ _ _ => True) (fun _ U_ o_ V_ => ∃ v_ L_, o_ = .returned v_ ∧ own_s28_Q Z a221 a299 f163 f164 f237 f238 p4 p5 v7 w0 v15 h0 n0 v_ V_.heap L_ ∧ FrameEnd U_ o_ V_ L_ ({ frames := 5, cells := 3, slots := 24, locals := 78 } : Room).cells ({ frames := 5, cells := 3, slots := 24, locals := 78 } : Room).slots) := by
  refine own_met (y := ⟨own_k0, "union", own_k2⟩) (Q := own_s28_Q Z a221 a299 f163 f164 f237 f238 p4 p5 v7 w0 v15 h0 n0) own_pn0 ?_
  intro p e s m below meth c s₁ hx hby hml hZ hown hnm hret hlk X0 e0
  have N0 := Fr.nil n0
  refine own_cast (g' := (mkF m 0 #[.val (.ref a221), .val (.ref a299), .unset, .unset, .unset, .unset, .unset] [])) (by first | (simp [entryFrame, mkF, argsToLocals, Value.category]; done) | rfl) ?_
  generalize hL721 : (#[.val (.ref a221), .val (.ref a299), .unset, .unset, .unset, .unset, .unset] : Array Slot) = L721
  refine own_pre (g' := (mkF m 2 L721 [(.int (12 : Int32))])) (fun t k => XS.bipush X0.here hx rfl (hb hby d6_0) k) ?_
  refine own_newarr X0 hx hZ (aty := .double) (own_w hw 46 rfl) e0 (hb hby d6_2) (n := 12) (by decide) (by decide) (by decide) (by decide) (by decide) (ad := "[D") rfl ?_
  intro T732 h732 a732 g732 X732 e732 E732 A732 B732
  have lt734 : a221 < a732 := Nat.lt_of_lt_of_le H5.lt (Nat.le_of_eq g732.symm)
  have lt735 : a299 < a732 := Nat.lt_of_lt_of_le H12.lt (Nat.le_of_eq g732.symm)
  have ge736 : h0.size ≤ a732 := Nat.le_trans (Nat.le_refl _) (Nat.le_of_eq g732.symm)
  have nw737 : n0 ≤ a732 := Nat.le_trans Z0 (Nat.le_of_eq g732.symm)
  have F738 : own_Ary Z h732 a732 .double (own_rD 12) := A732
  show own_Go _ _ _ _ _ _ _ T732 (mkF m 4 L721 [(.ref a732)])
  refine own_pre (g' := (mkF m 5 #[.val (.ref a221), .val (.ref a299), .val (.ref a732), .unset, .unset, .unset, .unset] [])) (fun t k => XS.astoreN X732.here hx rfl (hb hby d6_4) rfl rfl (l' := #[.val (.ref a221), .val (.ref a299), .val (.ref a732), .unset, .unset, .unset, .unset]) (by rw [← hL721]; rfl) k) ?_
  generalize hL739 : (#[.val (.ref a221), .val (.ref a299), .val (.ref a732), .unset, .unset, .unset, .unset] : Array Slot) = L739
  refine own_alN (w := (.ref a299)) X732 hx (hb hby d6_5) (by rw [← hL739]; rfl) rfl ?_
  refine own_alN (w := (.ref a732)) X732 hx (hb hby d6_6) (by rw [← hL739]; rfl) rfl ?_
  refine own_alN (w := (.ref a221)) X732 hx (hb hby d6_7) (by rw [← hL739]; rfl) rfl ?_
  refine own_alN (w := (.ref a732)) X732 hx (hb hby d6_8) (by rw [← hL739]; rfl) rfl ?_
  refine own_ic X732 hx (0 : Int32) (hb hby d6_9) rfl ?_
  have F744 := (H5.ext E732)
  have F745 := (H6.ext E732)
  have F746 := (H7.ext E732)
  have F747 := (H8.ext E732)
  have F748 := (H9.ext E732)
  have F750 := (H11.ext E732)
  have F783 : n0 ≤ h732.size := (Nat.le_trans Z0 E732.1)
  refine own_callp (a := a221) (argsL := [(.ref a732), (.int (0 : Int32))]) (rest := [(.ref a732), (.ref a299)]) X732 hx hZ hown (own_s29 l Z a0 hw [] a221 a732 f163 f164 p4 v7 w0 v15 p5 h732 n0 F783 F744 F745 F746 F747 F748 F750 F738 lt734 nw737 H24 H25 H28 H29 H30 H31) F744 (own_w hw 47 rfl) (own_w hw 2 rfl) (own_w hw 49 rfl) (own_w hw 48 rfl) (own_w hw 50 rfl) (own_w hw 3 rfl) (by decide) e732 (hb hby d6_10) (by rw [hml, ← hL739]; rfl) rfl (lenOf own_pd4 rfl) (by decide) (W := 2) (Nat.le_of_eq rfl) (by decide) (by decide) (by decide) ?_
  intro v784 T784 lo784 X784 Q784
  obtain ⟨h784, e784⟩ : ∃ h, T784.heap = h := ⟨_, rfl⟩
  rw [e784] at Q784
  obtain ⟨rfl, N784, K784, F785⟩ := Q784
  have N784' := Fr.app N0 N784
  show own_Go _ _ _ _ _ _ _ T784 (mkF m 13 L739 [(.int (3 : Int32)), (.ref a732), (.ref a299)])
  have F790 := ((H12.ext E732).keep K784)
  have F791 := ((H13.ext E732).keep K784 (ninS (Nat.ne_of_lt lt735) nin0))
  have F792 := ((H14.ext E732).keep K784 (ninS (Nat.ne_of_lt lt735) nin0))
  have F793 := ((H15.ext E732).keep K784 (ninS (Nat.ne_of_lt lt735) nin0))
  have F794 := ((H16.ext E732).keep K784 (ninS (Nat.ne_of_lt lt735) nin0))
  have F796 := ((H18.ext E732).keep K784 (ninS (Nat.ne_of_lt lt735) nin0))
  have F797 := (B732.keep K784)
  have F830 : n0 ≤ h784.size := (Nat.le_trans F783 K784.1)
  refine own_callp (a := a299) (argsL := [(.ref a732), (.int (3 : Int32))]) (rest := []) X784 hx hZ hown (own_s32 l Z a0 hw [] a299 a732 f237 f238 f163 f164 p5 p4 v7 w0 v15 h784 n0 F830 F790 F791 F792 F793 F794 F796 F785 lt735 nw737 H26 H27 H28 H29 H30 H31) F790 (own_w hw 47 rfl) (own_w hw 2 rfl) (own_w hw 49 rfl) (own_w hw 48 rfl) (own_w hw 50 rfl) (own_w hw 3 rfl) (by decide) e784 (hb hby d6_13) (by rw [hml, ← hL739]; rfl) rfl (lenOf own_pd4 rfl) (by decide) (W := 0) (Nat.le_of_eq rfl) (by decide) (by decide) (by decide) ?_
  intro v831 T831 lo831 X831 Q831
  obtain ⟨h831, e831⟩ : ∃ h, T831.heap = h := ⟨_, rfl⟩
  rw [e831] at Q831
  obtain ⟨rfl, N831, K831, F832⟩ := Q831
  have N831' := Fr.app N784' N831
  show own_Go _ _ _ _ _ _ _ T831 (mkF m 16 L739 [(.int (6 : Int32))])
  refine own_pre (g' := (mkF m 17 #[.val (.ref a221), .val (.ref a299), .val (.ref a732), .val (.int (6 : Int32)), .unset, .unset, .unset] [])) (fun t k => XS.istoreN X831.here hx rfl (hb hby d6_16) rfl (l' := #[.val (.ref a221), .val (.ref a299), .val (.ref a732), .val (.int (6 : Int32)), .unset, .unset, .unset]) (by rw [← hL739]; rfl) k) ?_
  generalize hL834 : (#[.val (.ref a221), .val (.ref a299), .val (.ref a732), .val (.int (6 : Int32)), .unset, .unset, .unset] : Array Slot) = L834
  refine own_ic X831 hx (3 : Int32) (hb hby d6_17) rfl ?_
  refine own_pre (g' := (mkF m 20 #[.val (.ref a221), .val (.ref a299), .val (.ref a732), .val (.int (6 : Int32)), .val (.int (3 : Int32)), .unset, .unset] [])) (fun t k => XS.istore X831.here hx rfl (hb hby d6_18) rfl (l' := #[.val (.ref a221), .val (.ref a299), .val (.ref a732), .val (.int (6 : Int32)), .val (.int (3 : Int32)), .unset, .unset]) (by rw [← hL834]; rfl) k) ?_
  generalize hL835 : (#[.val (.ref a221), .val (.ref a299), .val (.ref a732), .val (.int (6 : Int32)), .val (.int (3 : Int32)), .unset, .unset] : Array Slot) = L835
  refine own_il (w := (3 : Int32)) X831 hx (hb hby d6_20) (by rw [← hL835]; rfl) ?_
  refine own_ilN (w := (6 : Int32)) X831 hx (hb hby d6_22) (by rw [← hL835]; rfl) ?_
  refine own_pre (g' := (mkF m 26 L835 [])) (fun t k => XS.icmpNo X831.here hx rfl (hb hby d6_23) rfl (by decide) k) ?_
  refine own_il (w := (3 : Int32)) X831 hx (hb hby d6_26) (by rw [← hL835]; rfl) ?_
  refine own_pre (g' := (mkF m 30 #[.val (.ref a221), .val (.ref a299), .val (.ref a732), .val (.int (6 : Int32)), .val (.int (3 : Int32)), .val (.int (3 : Int32)), .unset] [])) (fun t k => XS.istore X831.here hx rfl (hb hby d6_28) rfl (l' := #[.val (.ref a221), .val (.ref a299), .val (.ref a732), .val (.int (6 : Int32)), .val (.int (3 : Int32)), .val (.int (3 : Int32)), .unset]) (by rw [← hL835]; rfl) k) ?_
  generalize hL836 : (#[.val (.ref a221), .val (.ref a299), .val (.ref a732), .val (.int (6 : Int32)), .val (.int (3 : Int32)), .val (.int (3 : Int32)), .unset] : Array Slot) = L836
  refine own_il (w := (3 : Int32)) X831 hx (hb hby d6_30) (by rw [← hL836]; rfl) ?_
  refine own_pre (g' := (mkF m 35 L836 [])) (fun t k => XS.ifNo X831.here hx rfl (hb hby d6_32) rfl (by decide) k) ?_
  refine own_alN (w := (.ref a732)) X831 hx (hb hby d6_35) (by rw [← hL836]; rfl) rfl ?_
  refine own_il (w := (3 : Int32)) X831 hx (hb hby d6_36) (by rw [← hL836]; rfl) ?_
  refine own_daload X831 hx hZ e831 F832 (hb hby d6_38) (n := 3) (v := (.double f237)) (by decide) (by decide) rfl ?_
  show own_Go _ _ _ _ _ _ _ T831 (mkF m 39 L836 [(.double f237)])
  refine own_alN (w := (.ref a732)) X831 hx (hb hby d6_39) (by rw [← hL836]; rfl) rfl ?_
  refine own_il (w := (3 : Int32)) X831 hx (hb hby d6_40) (by rw [← hL836]; rfl) ?_
  refine own_ic X831 hx (3 : Int32) (hb hby d6_42) rfl ?_
  refine own_pre (g' := (mkF m 44 L836 [(.int (0 : Int32)), (.ref a732), (.double f237)])) (fun t k => XS.isub X831.here hx rfl (hb hby d6_43) rfl k) ?_
  refine own_daload X831 hx hZ e831 F832 (hb hby d6_44) (n := 0) (v := (.double f163)) (by decide) (by decide) rfl ?_
  show own_Go _ _ _ _ _ _ _ T831 (mkF m 45 L836 [(.double f163), (.double f237)])
  obtain ⟨k837, hk837⟩ : ∃ z, own_c p5.toInt p4.toInt = z := ⟨_, rfl⟩
  refine own_pre (g' := (mkF m 46 L836 [(.int k837)])) (fun t k => XS.dcmpS X831.here hx rfl (hb hby d6_45) rfl ((own_dcmp H26 H24 _).trans hk837) k) ?_
  have hc838 : ¬ k837 < (0 : Int32) := by rw [← hk837, own_c_lt] <;> (have := H28; have := H29; have := H30; have := H31; have := rng32 p5; have := rng32 p4; omega)
  refine own_pre (g' := (mkF m 86 L836 [])) (fun t k => XS.ifYes X831.here hx rfl (pc0 := 46) (pc' := 86) rfl (hb hby d6_46) rfl ((if0 _ _).trans (flt hc838).2.1) (by decide) (by decide) k) ?_
  refine own_pre (g' := (mkF m 89 #[.val (.ref a221), .val (.ref a299), .val (.ref a732), .val (.int (6 : Int32)), .val (.int (6 : Int32)), .val (.int (3 : Int32)), .unset] [])) (fun t k => XS.iinc X831.here hx rfl (hb hby d6_86) (x := (3 : Int32)) (by rw [← hL836]; rfl) (l' := #[.val (.ref a221), .val (.ref a299), .val (.ref a732), .val (.int (6 : Int32)), .val (.int (6 : Int32)), .val (.int (3 : Int32)), .unset]) (by rw [← hL836]; rfl) k) ?_
  generalize hL839 : (#[.val (.ref a221), .val (.ref a299), .val (.ref a732), .val (.int (6 : Int32)), .val (.int (6 : Int32)), .val (.int (3 : Int32)), .unset] : Array Slot) = L839
  refine own_gt X831 hx 20 (hb hby d6_89) (by decide) (by decide) ?_
  refine own_il (w := (6 : Int32)) X831 hx (hb hby d6_20) (by rw [← hL839]; rfl) ?_
  refine own_ilN (w := (6 : Int32)) X831 hx (hb hby d6_22) (by rw [← hL839]; rfl) ?_
  refine own_pre (g' := (mkF m 92 L839 [])) (fun t k => XS.icmpYes X831.here hx rfl (pc0 := 23) (pc' := 92) rfl (hb hby d6_23) rfl (by decide) (by decide) (by decide) k) ?_
  have F843 := (F797.keep K831)
  have F844 : n0 ≤ h831.size := (Nat.le_trans F830 K831.1)
  refine own_newobj X831 hx hZ hown (own_w hw 57 rfl) (own_w hw 58 rfl) (own_w hw 59 rfl) e831 (hb hby d6_92) (by decide) (by decide) ?_
  intro T845 h845 a845 g845 X845 e845 E845 A845 D845
  have lt849 : a732 < a845 := Nat.lt_of_lt_of_le F843.lt (Nat.le_of_eq g845.symm)
  have F850 : h0.size ≤ h831.size := (Nat.le_trans (Nat.le_trans (Nat.le_trans (Nat.le_refl _) E732.1) K784.1) K831.1)
  have ge851 : h0.size ≤ a845 := Nat.le_trans F850 (Nat.le_of_eq g845.symm)
  have nw852 : n0 ≤ a845 := Nat.le_trans F844 (Nat.le_of_eq g845.symm)
  have F853 : Fld Z h845 a845 own_k1 "low" "D" (.double (0 : UInt64)) := D845 (Or.inl (own_w hw 66 rfl)) (ty := .double) (by decide)
  have F854 : Fld Z h845 a845 own_k1 "high" "D" (.double (0 : UInt64)) := D845 (Or.inl (own_w hw 69 rfl)) (ty := .double) (by decide)
  have F855 : Fld Z h845 a845 own_k1 "gapLow" "D" (.double (0 : UInt64)) := D845 (Or.inl (own_w hw 76 rfl)) (ty := .double) (by decide)
  have F856 : Fld Z h845 a845 own_k1 "gapHigh" "D" (.double (0 : UInt64)) := D845 (Or.inl (own_w hw 78 rfl)) (ty := .double) (by decide)
  have F857 : Fld Z h845 a845 own_k1 "count" "D" (.double (0 : UInt64)) := D845 (Or.inl (own_w hw 80 rfl)) (ty := .double) (by decide)
  have F858 : Fld Z h845 a845 own_k1 "below" "D" (.double (0 : UInt64)) := D845 (Or.inl (own_w hw 82 rfl)) (ty := .double) (by decide)
  show own_Go _ _ _ _ _ _ _ T845 (mkF m 95 L839 [(.ref a845)])
  refine own_pre (g' := (mkF m 96 L839 [(.ref a845), (.ref a845)])) (fun t k => XS.dup X845.here hx rfl (hb hby d6_95) rfl rfl k) ?_
  have F875 : n0 ≤ h845.size := (Nat.le_trans F844 E845.1)
  refine own_initR (a := a845) (argsL := []) (rest := [(.ref a845)]) X845 hx hZ hown (own_s35 l Z a0 hw [] a845 h845 n0 F875 A845 F853 F854 F855 F856 F857 F858 nw852) rfl (own_w hw 60 rfl) (own_w hw 61 rfl) (own_w hw 62 rfl) (own_w hw 59 rfl) (by decide) e845 (hb hby d6_96) (by rw [hml, ← hL839]; rfl) rfl (lenOf own_pd0 rfl) (by decide) (W := 1) (Nat.le_of_eq rfl) (by decide) (by decide) (by decide) ?_
  intro v876 T876 lo876 X876 Q876
  obtain ⟨h876, e876⟩ : ∃ h, T876.heap = h := ⟨_, rfl⟩
  rw [e876] at Q876
  obtain ⟨rfl, N876, K876, F877, F878, F879, F880, F881, F882⟩ := Q876
  have N876' := Fr.app N831' N876
  show own_Go _ _ _ _ _ _ _ T876 (mkF m 99 L839 [(.ref a845)])
  refine own_pre (g' := (mkF m 101 #[.val (.ref a221), .val (.ref a299), .val (.ref a732), .val (.int (6 : Int32)), .val (.ref a845), .val (.int (3 : Int32)), .unset] [])) (fun t k => XS.astore X876.here hx rfl (hb hby d6_99) rfl rfl (l' := #[.val (.ref a221), .val (.ref a299), .val (.ref a732), .val (.int (6 : Int32)), .val (.ref a845), .val (.int (3 : Int32)), .unset]) (by rw [← hL839]; rfl) k) ?_
  generalize hL884 : (#[.val (.ref a221), .val (.ref a299), .val (.ref a732), .val (.int (6 : Int32)), .val (.ref a845), .val (.int (3 : Int32)), .unset] : Array Slot) = L884
  refine own_ic X876 hx (0 : Int32) (hb hby d6_101) rfl ?_
  refine own_pre (g' := (mkF m 104 #[.val (.ref a221), .val (.ref a299), .val (.ref a732), .val (.int (6 : Int32)), .val (.ref a845), .val (.int (0 : Int32)), .unset] [])) (fun t k => XS.istore X876.here hx rfl (hb hby d6_102) rfl (l' := #[.val (.ref a221), .val (.ref a299), .val (.ref a732), .val (.int (6 : Int32)), .val (.ref a845), .val (.int (0 : Int32)), .unset]) (by rw [← hL884]; rfl) k) ?_
  generalize hL885 : (#[.val (.ref a221), .val (.ref a299), .val (.ref a732), .val (.int (6 : Int32)), .val (.ref a845), .val (.int (0 : Int32)), .unset] : Array Slot) = L885
  refine own_il (w := (0 : Int32)) X876 hx (hb hby d6_104) (by rw [← hL885]; rfl) ?_
  refine own_ilN (w := (6 : Int32)) X876 hx (hb hby d6_106) (by rw [← hL885]; rfl) ?_
  refine own_pre (g' := (mkF m 110 L885 [])) (fun t k => XS.icmpNo X876.here hx rfl (hb hby d6_107) rfl (by decide) k) ?_
  refine own_al (w := (.ref a845)) X876 hx (hb hby d6_110) (by rw [← hL885]; rfl) rfl ?_
  refine own_alN (w := (.ref a732)) X876 hx (hb hby d6_112) (by rw [← hL885]; rfl) rfl ?_
  refine own_il (w := (0 : Int32)) X876 hx (hb hby d6_113) (by rw [← hL885]; rfl) ?_
  have F886 := ((F832.ext E845).keep K876 (ninS (Nat.ne_of_lt lt849) nin0))
  refine own_daload X876 hx hZ e876 F886 (hb hby d6_115) (n := 0) (v := (.double f163)) (by decide) (by decide) rfl ?_
  show own_Go _ _ _ _ _ _ _ T876 (mkF m 116 L885 [(.double f163), (.ref a845)])
  refine own_alN (w := (.ref a732)) X876 hx (hb hby d6_116) (by rw [← hL885]; rfl) rfl ?_
  refine own_il (w := (0 : Int32)) X876 hx (hb hby d6_117) (by rw [← hL885]; rfl) ?_
  refine own_ic X876 hx (1 : Int32) (hb hby d6_119) rfl ?_
  refine own_pre (g' := (mkF m 121 L885 [(.int (1 : Int32)), (.ref a732), (.double f163), (.ref a845)])) (fun t k => XS.iadd X876.here hx rfl (hb hby d6_120) rfl k) ?_
  refine own_daload X876 hx hZ e876 F886 (hb hby d6_121) (n := 1) (v := (.double f164)) (by decide) (by decide) rfl ?_
  show own_Go _ _ _ _ _ _ _ T876 (mkF m 122 L885 [(.double f164), (.double f163), (.ref a845)])
  refine own_alN (w := (.ref a732)) X876 hx (hb hby d6_122) (by rw [← hL885]; rfl) rfl ?_
  refine own_il (w := (0 : Int32)) X876 hx (hb hby d6_123) (by rw [← hL885]; rfl) ?_
  refine own_ic X876 hx (2 : Int32) (hb hby d6_125) rfl ?_
  refine own_pre (g' := (mkF m 127 L885 [(.int (2 : Int32)), (.ref a732), (.double f164), (.double f163), (.ref a845)])) (fun t k => XS.iadd X876.here hx rfl (hb hby d6_126) rfl k) ?_
  refine own_daload X876 hx hZ e876 F886 (hb hby d6_127) (n := 2) (v := (.double (4607182418800017408 : UInt64))) (by decide) (by decide) rfl ?_
  show own_Go _ _ _ _ _ _ _ T876 (mkF m 128 L885 [(.double (4607182418800017408 : UInt64)), (.double f164), (.double f163), (.ref a845)])
  have F891 := (A845.keep K876)
  have F917 : n0 ≤ h876.size := (Nat.le_trans F875 K876.1)
  refine own_callv (a := a845) (argsL := [(.double f163), (.double f164), (.double (4607182418800017408 : UInt64))]) (rest := []) X876 hx hZ hown (own_s36 l Z a0 hw [] a845 f163 f164 h876 n0 F917 F891 F877 F878 F879 F880 F881 F882 nw852) F891 (own_w hw 70 rfl) (own_w hw 71 rfl) (own_w hw 73 rfl) (own_w hw 72 rfl) (own_w hw 74 rfl) (own_w hw 59 rfl) (by decide) e876 (hb hby d6_128) (by rw [hml, ← hL885]; rfl) rfl (lenOf own_pd5 rfl) (by decide) (W := 0) (Nat.le_of_eq rfl) (by decide) (by decide) (by decide) ?_
  intro v918 T918 lo918 X918 Q918
  obtain ⟨h918, e918⟩ : ∃ h, T918.heap = h := ⟨_, rfl⟩
  rw [e918] at Q918
  obtain ⟨rfl, N918, K918, F919, F920, F921, F922, F923, F924⟩ := Q918
  have N918' := Fr.app N876' N918
  show own_Go _ _ _ _ _ _ _ T918 (mkF m 131 L885 [])
  refine own_pre (g' := (mkF m 134 #[.val (.ref a221), .val (.ref a299), .val (.ref a732), .val (.int (6 : Int32)), .val (.ref a845), .val (.int (3 : Int32)), .unset] [])) (fun t k => XS.iinc X918.here hx rfl (hb hby d6_131) (x := (0 : Int32)) (by rw [← hL885]; rfl) (l' := #[.val (.ref a221), .val (.ref a299), .val (.ref a732), .val (.int (6 : Int32)), .val (.ref a845), .val (.int (3 : Int32)), .unset]) (by rw [← hL885]; rfl) k) ?_
  generalize hL926 : (#[.val (.ref a221), .val (.ref a299), .val (.ref a732), .val (.int (6 : Int32)), .val (.ref a845), .val (.int (3 : Int32)), .unset] : Array Slot) = L926
  refine own_gt X918 hx 104 (hb hby d6_134) (by decide) (by decide) ?_
  refine own_il (w := (3 : Int32)) X918 hx (hb hby d6_104) (by rw [← hL926]; rfl) ?_
  refine own_ilN (w := (6 : Int32)) X918 hx (hb hby d6_106) (by rw [← hL926]; rfl) ?_
  refine own_pre (g' := (mkF m 110 L926 [])) (fun t k => XS.icmpNo X918.here hx rfl (hb hby d6_107) rfl (by decide) k) ?_
  refine own_al (w := (.ref a845)) X918 hx (hb hby d6_110) (by rw [← hL926]; rfl) rfl ?_
  refine own_alN (w := (.ref a732)) X918 hx (hb hby d6_112) (by rw [← hL926]; rfl) rfl ?_
  refine own_il (w := (3 : Int32)) X918 hx (hb hby d6_113) (by rw [← hL926]; rfl) ?_
  have F927 := (F886.keep K918 (ninS (Nat.ne_of_lt lt849) nin0))
  refine own_daload X918 hx hZ e918 F927 (hb hby d6_115) (n := 3) (v := (.double f237)) (by decide) (by decide) rfl ?_
  show own_Go _ _ _ _ _ _ _ T918 (mkF m 116 L926 [(.double f237), (.ref a845)])
  refine own_alN (w := (.ref a732)) X918 hx (hb hby d6_116) (by rw [← hL926]; rfl) rfl ?_
  refine own_il (w := (3 : Int32)) X918 hx (hb hby d6_117) (by rw [← hL926]; rfl) ?_
  refine own_ic X918 hx (1 : Int32) (hb hby d6_119) rfl ?_
  refine own_pre (g' := (mkF m 121 L926 [(.int (4 : Int32)), (.ref a732), (.double f237), (.ref a845)])) (fun t k => XS.iadd X918.here hx rfl (hb hby d6_120) rfl k) ?_
  refine own_daload X918 hx hZ e918 F927 (hb hby d6_121) (n := 4) (v := (.double f238)) (by decide) (by decide) rfl ?_
  show own_Go _ _ _ _ _ _ _ T918 (mkF m 122 L926 [(.double f238), (.double f237), (.ref a845)])
  refine own_alN (w := (.ref a732)) X918 hx (hb hby d6_122) (by rw [← hL926]; rfl) rfl ?_
  refine own_il (w := (3 : Int32)) X918 hx (hb hby d6_123) (by rw [← hL926]; rfl) ?_
  refine own_ic X918 hx (2 : Int32) (hb hby d6_125) rfl ?_
  refine own_pre (g' := (mkF m 127 L926 [(.int (5 : Int32)), (.ref a732), (.double f238), (.double f237), (.ref a845)])) (fun t k => XS.iadd X918.here hx rfl (hb hby d6_126) rfl k) ?_
  refine own_daload X918 hx hZ e918 F927 (hb hby d6_127) (n := 5) (v := (.double (4607182418800017408 : UInt64))) (by decide) (by decide) rfl ?_
  show own_Go _ _ _ _ _ _ _ T918 (mkF m 128 L926 [(.double (4607182418800017408 : UInt64)), (.double f238), (.double f237), (.ref a845)])
  have F932 := (F891.keep K918)
  have F956 : n0 ≤ h918.size := (Nat.le_trans F917 K918.1)
  refine own_callv (a := a845) (argsL := [(.double f237), (.double f238), (.double (4607182418800017408 : UInt64))]) (rest := []) X918 hx hZ hown (own_s37 l Z a0 hw [] a845 f237 f238 f163 f164 p5 p4 v7 w0 v15 h918 n0 F956 F932 F919 F920 F921 F922 F923 F924 nw852 H26 H27 H24 H25 H28 H29 H30 H31) F932 (own_w hw 70 rfl) (own_w hw 71 rfl) (own_w hw 73 rfl) (own_w hw 72 rfl) (own_w hw 74 rfl) (own_w hw 59 rfl) (by decide) e918 (hb hby d6_128) (by rw [hml, ← hL926]; rfl) rfl (lenOf own_pd5 rfl) (by decide) (W := 0) (Nat.le_of_eq rfl) (by decide) (by decide) (by decide) ?_
  intro v957 T957 lo957 X957 Q957
  obtain ⟨h957, e957⟩ : ∃ h, T957.heap = h := ⟨_, rfl⟩
  rw [e957] at Q957
  obtain ⟨f958, f959, rfl, N957, K957, F960, F961, F962, F963, F964, F965, D966, D967⟩ := Q957
  have N957' := Fr.app N918' N957
  show own_Go _ _ _ _ _ _ _ T957 (mkF m 131 L926 [])
  refine own_pre (g' := (mkF m 134 #[.val (.ref a221), .val (.ref a299), .val (.ref a732), .val (.int (6 : Int32)), .val (.ref a845), .val (.int (6 : Int32)), .unset] [])) (fun t k => XS.iinc X957.here hx rfl (hb hby d6_131) (x := (3 : Int32)) (by rw [← hL926]; rfl) (l' := #[.val (.ref a221), .val (.ref a299), .val (.ref a732), .val (.int (6 : Int32)), .val (.ref a845), .val (.int (6 : Int32)), .unset]) (by rw [← hL926]; rfl) k) ?_
  generalize hL969 : (#[.val (.ref a221), .val (.ref a299), .val (.ref a732), .val (.int (6 : Int32)), .val (.ref a845), .val (.int (6 : Int32)), .unset] : Array Slot) = L969
  refine own_gt X957 hx 104 (hb hby d6_134) (by decide) (by decide) ?_
  refine own_il (w := (6 : Int32)) X957 hx (hb hby d6_104) (by rw [← hL969]; rfl) ?_
  refine own_ilN (w := (6 : Int32)) X957 hx (hb hby d6_106) (by rw [← hL969]; rfl) ?_
  refine own_pre (g' := (mkF m 137 L969 [])) (fun t k => XS.icmpYes X957.here hx rfl (pc0 := 107) (pc' := 137) rfl (hb hby d6_107) rfl (by decide) (by decide) (by decide) k) ?_
  refine own_al (w := (.ref a845)) X957 hx (hb hby d6_137) (by rw [← hL969]; rfl) rfl ?_
  have F973 := (F932.keep K957)
  have F1055 : n0 ≤ h957.size := (Nat.le_trans F956 K957.1)
  refine own_callv (a := a845) (argsL := []) (rest := []) X957 hx hZ hown (own_s38 l Z a0 hw [] a845 f163 f958 f164 f959 p4 v7 w0 v15 p5 h957 n0 F1055 F960 F961 F962 F963 F964 H24 D966 H25 H28 H29 H30 H31) F973 (own_w hw 87 rfl) (own_w hw 88 rfl) (own_w hw 90 rfl) (own_w hw 89 rfl) (own_w hw 91 rfl) (own_w hw 59 rfl) (by decide) e957 (hb hby d6_139) (by rw [hml, ← hL969]; rfl) rfl (lenOf own_pd6 rfl) (by decide) (W := 0) (Nat.le_of_eq rfl) (by decide) (by decide) (by decide) ?_
  intro v1056 T1056 lo1056 X1056 Q1056
  obtain ⟨h1056, e1056⟩ : ∃ h, T1056.heap = h := ⟨_, rfl⟩
  rw [e1056] at Q1056
  have F1069 : h0.size ≤ h957.size := (Nat.le_trans (Nat.le_trans (Nat.le_trans (Nat.le_trans F850 E845.1) K876.1) K918.1) K957.1)
  obtain ⟨a1057, rfl, N1056, K1056, ge1058, F1059, F1060, F1061, F1062, F1063, F1064, F1065⟩ := Q1056
  have N1056' := Fr.app N957' N1056
  show own_Go _ _ _ _ _ _ _ T1056 (mkF m 142 L969 [(.ref a1057)])
  have ge1077 : h0.size ≤ a1057 := Nat.le_trans F1069 ge1058
  exact own_retA X1056 hx hlk hret rfl rfl rfl (hb hby d6_142) e1056 ⟨a1057, f958, f959, rfl, N1056', (((((((((Keep.refl _ _).ext E732).trans K784 (allS (Or.inr ge736) all0)).trans K831 (allS (Or.inr ge736) all0)).ext E845).trans K876 (allS (Or.inr ge851) all0)).trans K918 (allS (Or.inr ge851) all0)).trans K957 (allS (Or.inr ge851) all0)).trans K1056 all0), ge1077, F1059, F1060, F1061, F1062, F1063, F1064, F1065, D966, D967⟩ (by decide) (by decide)
def own_s42_Q (Z : State) (a1080 : Addr) (f1081 : UInt64) (p4 : Int32) (v7 : Int32) (w0 : Int32) (v15 : Int32) (p5 : Int32) (h0 : Heap) (n0 : Nat) (v_ : Option Value) (h_ : Heap) (L_ : List Loc) : Prop := (fun v h L => v = some (.int (0 : Int32)) ∧ Fr n0 L ∧ h = h0) v_ h_ L_
set_option maxRecDepth 65536 in
set_option maxHeartbeats 40000000 in
theorem own_s42 (l : Launch) (Z : State) (a0 : Array Value) (hw : ∀ d ∈ tables_1, d.before a0 Z = true) (wds : List Jvm.Cond) (a1080 : Addr) (f1081 : UInt64) (p4 : Int32) (v7 : Int32) (w0 : Int32) (v15 : Int32) (p5 : Int32) (h0 : Heap) (n0 : Nat) (Z0 : n0 ≤ h0.size) (H7 : Fld Z h0 a1080 own_k0 "gapLow" "D" (.double f1081)) (H8 : Fld Z h0 a1080 own_k0 "gapHigh" "D" (.double f1081)) (H15 : FP.Core.DInt p4.toInt f1081) (H17 : 0 ≤ v7.toInt ∧ v7.toInt ≤ 65535) (H18 : 0 ≤ w0.toInt ∧ w0.toInt ≤ 65535) (H19 : 0 ≤ v15.toInt ∧ v15.toInt ≤ 65535) (H20 : p4.toInt = p5.toInt) :
    MetFree l (⟨own_k0, "hasGap", "()Z"⟩ : MethodName) (head1 (Jvm.Cond.code (⟨own_k0, "hasGap", "()Z"⟩ : MethodName) prog_16_method_4_code 1 (some .boolean) :: wds) ({ frames := 0, cells := 0, slots := 0, locals := 0 } : Room)) (fun ar_ U_ => ar_ = #[(.ref a1080)] ∧ Z.Warmed39 U_.vm ∧ U_.heap = h0) (fun _ _ _ _ _ => True) (fun _ U_ o_ V_ => ∃ v_ L_, o_ = .returned v_ ∧ own_s42_Q Z a1080 f1081 p4 v7 w0 v15 p5 h0 n0 v_ V_.heap L_ ∧ FrameEnd U_ o_ V_ L_ ({ frames := 0, cells := 0, slots := 0, locals := 0 } : Room).cells ({ frames := 0, cells := 0, slots := 0, locals := 0 } : Room).slots) := by
  refine own_met (y := ⟨own_k0, "hasGap", "()Z"⟩) (Q := own_s42_Q Z a1080 f1081 p4 v7 w0 v15 p5 h0 n0) own_pn0 ?_
  intro p e s m below meth c s₁ hx hby hml hZ hown hnm hret hlk X0 e0
  have N0 := Fr.nil n0
  refine own_cast (g' := (mkF m 0 #[.val (.ref a1080)] [])) (by first | (simp [entryFrame, mkF, argsToLocals, Value.category]; done) | rfl) ?_
  refine own_alN (w := (.ref a1080)) X0 hx (hb hby d4_0) rfl rfl ?_
  refine own_getf X0 hx hZ hown (own_w hw 18 rfl) e0 H7 (hb hby d4_1) ?_
  intro T1105 X1105 e1105
  show own_Go _ _ _ _ _ _ _ T1105 (mkF m 4 #[.val (.ref a1080)] [(.double f1081)])
  refine own_alN (w := (.ref a1080)) X1105 hx (hb hby d4_4) rfl rfl ?_
  refine own_getf X1105 hx hZ hown (own_w hw 20 rfl) e1105 H8 (hb hby d4_5) ?_
  intro T1106 X1106 e1106
  show own_Go _ _ _ _ _ _ _ T1106 (mkF m 8 #[.val (.ref a1080)] [(.double f1081), (.double f1081)])
  obtain ⟨k1107, hk1107⟩ : ∃ z, own_c p4.toInt p4.toInt = z := ⟨_, rfl⟩
  refine own_pre (g' := (mkF m 9 #[.val (.ref a1080)] [(.int k1107)])) (fun t k => XS.dcmpS X1106.here hx rfl (hb hby d4_8) rfl ((own_dcmp H15 H15 _).trans hk1107) k) ?_
  have hc1108 : ¬ k1107 < (0 : Int32) := by rw [← hk1107, own_c_lt] <;> (have := H17; have := H18; have := H19; have := H20; have := rng32 p4; omega)
  refine own_pre (g' := (mkF m 16 #[.val (.ref a1080)] [])) (fun t k => XS.ifYes X1106.here hx rfl (pc0 := 9) (pc' := 16) rfl (hb hby d4_9) rfl ((if0 _ _).trans (flt hc1108).2.1) (by decide) (by decide) k) ?_
  refine own_ic X1106 hx (0 : Int32) (hb hby d4_16) rfl ?_
  exact own_retZ X1106 hx hlk hret rfl (hb hby d4_17) e1106 ⟨rfl, N0, rfl⟩ (by decide) (by decide)
def own_s45_Q (Z : State) (a221 : Addr) (f163 : UInt64) (f164 : UInt64) (p4 : Int32) (v7 : Int32) (w0 : Int32) (v15 : Int32) (p5 : Int32) (h0 : Heap) (n0 : Nat) (v_ : Option Value) (h_ : Heap) (L_ : List Loc) : Prop := (fun v h L => v = some (.int (0 : Int32)) ∧ Fr n0 L ∧ h = h0) v_ h_ L_
set_option maxRecDepth 65536 in
set_option maxHeartbeats 40000000 in
theorem own_s45 (l : Launch) (Z : State) (a0 : Array Value) (hw : ∀ d ∈ tables_1, d.before a0 Z = true) (wds : List Jvm.Cond) (a221 : Addr) (f163 : UInt64) (f164 : UInt64) (p4 : Int32) (v7 : Int32) (w0 : Int32) (v15 : Int32) (p5 : Int32) (h0 : Heap) (n0 : Nat) (Z0 : n0 ≤ h0.size) (H6 : Fld Z h0 a221 own_k0 "low" "D" (.double f163)) (H9 : Fld Z h0 a221 own_k0 "high" "D" (.double f164)) (H14 : FP.Core.DInt p4.toInt f163) (H15 : FP.Core.DInt p4.toInt f164) (H16 : 0 ≤ v7.toInt ∧ v7.toInt ≤ 65535) (H17 : 0 ≤ w0.toInt ∧ w0.toInt ≤ 65535) (H18 : 0 ≤ v15.toInt ∧ v15.toInt ≤ 65535) (H19 : p5.toInt < p4.toInt) :
    MetFree l (⟨own_k0, "isEmpty", "()Z"⟩ : MethodName) (head1 (Jvm.Cond.code (⟨own_k0, "isEmpty", "()Z"⟩ : MethodName) prog_16_method_3_code 1 (some .boolean) :: wds) ({ frames := 0, cells := 0, slots := 0, locals := 0 } : Room)) (fun ar_ U_ => ar_ = #[(.ref a221)] ∧ Z.Warmed39 U_.vm ∧ U_.heap = h0) (fun _ _ _ _ _ => True) (fun _ U_ o_ V_ => ∃ v_ L_, o_ = .returned v_ ∧ own_s45_Q Z a221 f163 f164 p4 v7 w0 v15 p5 h0 n0 v_ V_.heap L_ ∧ FrameEnd U_ o_ V_ L_ ({ frames := 0, cells := 0, slots := 0, locals := 0 } : Room).cells ({ frames := 0, cells := 0, slots := 0, locals := 0 } : Room).slots) := by
  refine own_met (y := ⟨own_k0, "isEmpty", "()Z"⟩) (Q := own_s45_Q Z a221 f163 f164 p4 v7 w0 v15 p5 h0 n0) own_pn0 ?_
  intro p e s m below meth c s₁ hx hby hml hZ hown hnm hret hlk X0 e0
  have N0 := Fr.nil n0
  refine own_cast (g' := (mkF m 0 #[.val (.ref a221)] [])) (by first | (simp [entryFrame, mkF, argsToLocals, Value.category]; done) | rfl) ?_
  refine own_alN (w := (.ref a221)) X0 hx (hb hby d8_0) rfl rfl ?_
  refine own_getf X0 hx hZ hown (own_w hw 16 rfl) e0 H6 (hb hby d8_1) ?_
  intro T1142 X1142 e1142
  show own_Go _ _ _ _ _ _ _ T1142 (mkF m 4 #[.val (.ref a221)] [(.double f163)])
  refine own_alN (w := (.ref a221)) X1142 hx (hb hby d8_4) rfl rfl ?_
  refine own_getf X1142 hx hZ hown (own_w hw 22 rfl) e1142 H9 (hb hby d8_5) ?_
  intro T1143 X1143 e1143
  show own_Go _ _ _ _ _ _ _ T1143 (mkF m 8 #[.val (.ref a221)] [(.double f164), (.double f163)])
  obtain ⟨k1144, hk1144⟩ : ∃ z, own_c p4.toInt p4.toInt = z := ⟨_, rfl⟩
  refine own_pre (g' := (mkF m 9 #[.val (.ref a221)] [(.int k1144)])) (fun t k => XS.dcmpS X1143.here hx rfl (hb hby d8_8) rfl ((own_dcmp H14 H15 _).trans hk1144) k) ?_
  have hc1145 : ¬ (0 : Int32) < k1144 := by rw [← hk1144, own_c_gt] <;> (have := H16; have := H17; have := H18; have := H19; have := rng32 p4; omega)
  refine own_pre (g' := (mkF m 16 #[.val (.ref a221)] [])) (fun t k => XS.ifYes X1143.here hx rfl (pc0 := 9) (pc' := 16) rfl (hb hby d8_9) rfl ((if0 _ _).trans (flt hc1145).2.2.2) (by decide) (by decide) k) ?_
  refine own_ic X1143 hx (0 : Int32) (hb hby d8_16) rfl ?_
  exact own_retZ X1143 hx hlk hret rfl (hb hby d8_17) e1143 ⟨rfl, N0, rfl⟩ (by decide) (by decide)
def own_s46_Q (Z : State) (a221 : Addr) (f164 : UInt64) (p4 : Int32) (v7 : Int32) (w0 : Int32) (v15 : Int32) (p5 : Int32) (h0 : Heap) (n0 : Nat) (v_ : Option Value) (h_ : Heap) (L_ : List Loc) : Prop := (fun v h L => v = some (.int (0 : Int32)) ∧ Fr n0 L ∧ h = h0) v_ h_ L_
set_option maxRecDepth 65536 in
set_option maxHeartbeats 40000000 in
theorem own_s46 (l : Launch) (Z : State) (a0 : Array Value) (hw : ∀ d ∈ tables_1, d.before a0 Z = true) (wds : List Jvm.Cond) (a221 : Addr) (f164 : UInt64) (p4 : Int32) (v7 : Int32) (w0 : Int32) (v15 : Int32) (p5 : Int32) (h0 : Heap) (n0 : Nat) (Z0 : n0 ≤ h0.size) (H7 : Fld Z h0 a221 own_k0 "gapLow" "D" (.double f164)) (H8 : Fld Z h0 a221 own_k0 "gapHigh" "D" (.double f164)) (H15 : FP.Core.DInt p4.toInt f164) (H16 : 0 ≤ v7.toInt ∧ v7.toInt ≤ 65535) (H17 : 0 ≤ w0.toInt ∧ w0.toInt ≤ 65535) (H18 : 0 ≤ v15.toInt ∧ v15.toInt ≤ 65535) (H19 : p5.toInt < p4.toInt) :
    MetFree l (⟨own_k0, "hasGap", "()Z"⟩ : MethodName) (head1 (Jvm.Cond.code (⟨own_k0, "hasGap", "()Z"⟩ : MethodName) prog_16_method_4_code 1 (some .boolean) :: wds) ({ frames := 0, cells := 0, slots := 0, locals := 0 } : Room)) (fun ar_ U_ => ar_ = #[(.ref a221)] ∧ Z.Warmed39 U_.vm ∧ U_.heap = h0) (fun _ _ _ _ _ => True) (fun _ U_ o_ V_ => ∃ v_ L_, o_ = .returned v_ ∧ own_s46_Q Z a221 f164 p4 v7 w0 v15 p5 h0 n0 v_ V_.heap L_ ∧ FrameEnd U_ o_ V_ L_ ({ frames := 0, cells := 0, slots := 0, locals := 0 } : Room).cells ({ frames := 0, cells := 0, slots := 0, locals := 0 } : Room).slots) := by
  refine own_met (y := ⟨own_k0, "hasGap", "()Z"⟩) (Q := own_s46_Q Z a221 f164 p4 v7 w0 v15 p5 h0 n0) own_pn0 ?_
  intro p e s m below meth c s₁ hx hby hml hZ hown hnm hret hlk X0 e0
  have N0 := Fr.nil n0
  refine own_cast (g' := (mkF m 0 #[.val (.ref a221)] [])) (by first | (simp [entryFrame, mkF, argsToLocals, Value.category]; done) | rfl) ?_
  refine own_alN (w := (.ref a221)) X0 hx (hb hby d4_0) rfl rfl ?_
  refine own_getf X0 hx hZ hown (own_w hw 18 rfl) e0 H7 (hb hby d4_1) ?_
  intro T1161 X1161 e1161
  show own_Go _ _ _ _ _ _ _ T1161 (mkF m 4 #[.val (.ref a221)] [(.double f164)])
  refine own_alN (w := (.ref a221)) X1161 hx (hb hby d4_4) rfl rfl ?_
  refine own_getf X1161 hx hZ hown (own_w hw 20 rfl) e1161 H8 (hb hby d4_5) ?_
  intro T1162 X1162 e1162
  show own_Go _ _ _ _ _ _ _ T1162 (mkF m 8 #[.val (.ref a221)] [(.double f164), (.double f164)])
  obtain ⟨k1163, hk1163⟩ : ∃ z, own_c p4.toInt p4.toInt = z := ⟨_, rfl⟩
  refine own_pre (g' := (mkF m 9 #[.val (.ref a221)] [(.int k1163)])) (fun t k => XS.dcmpS X1162.here hx rfl (hb hby d4_8) rfl ((own_dcmp H15 H15 _).trans hk1163) k) ?_
  have hc1164 : ¬ k1163 < (0 : Int32) := by rw [← hk1163, own_c_lt] <;> (have := H16; have := H17; have := H18; have := H19; have := rng32 p4; omega)
  refine own_pre (g' := (mkF m 16 #[.val (.ref a221)] [])) (fun t k => XS.ifYes X1162.here hx rfl (pc0 := 9) (pc' := 16) rfl (hb hby d4_9) rfl ((if0 _ _).trans (flt hc1164).2.1) (by decide) (by decide) k) ?_
  refine own_ic X1162 hx (0 : Int32) (hb hby d4_16) rfl ?_
  exact own_retZ X1162 hx hlk hret rfl (hb hby d4_17) e1162 ⟨rfl, N0, rfl⟩ (by decide) (by decide)
def own_s44_Q (Z : State) (a221 : Addr) (a1123 : Addr) (f163 : UInt64) (f164 : UInt64) (p4 : Int32) (v7 : Int32) (w0 : Int32) (v15 : Int32) (p5 : Int32) (h0 : Heap) (n0 : Nat) (v_ : Option Value) (h_ : Heap) (L_ : List Loc) : Prop := (fun v h L => v = some (.int (3 : Int32)) ∧ Fr n0 L ∧ Keep h0 h [a1123] ∧ own_Ary Z h a1123 .double ([(.double f163), (.double f164), (.double (4607182418800017408 : UInt64))] ++ own_rD 9)) v_ h_ L_
set_option maxRecDepth 65536 in
set_option maxHeartbeats 40000000 in
theorem own_s44 (l : Launch) (Z : State) (a0 : Array Value) (hw : ∀ d ∈ tables_1, d.before a0 Z = true) (wds : List Jvm.Cond) (a221 : Addr) (a1123 : Addr) (f163 : UInt64) (f164 : UInt64) (p4 : Int32) (v7 : Int32) (w0 : Int32) (v15 : Int32) (p5 : Int32) (h0 : Heap) (n0 : Nat) (Z0 : n0 ≤ h0.size) (H5 : Exa Z h0 a221 own_k0) (H6 : Fld Z h0 a221 own_k0 "low" "D" (.double f163)) (H7 : Fld Z h0 a221 own_k0 "gapLow" "D" (.double f164)) (H8 : Fld Z h0 a221 own_k0 "gapHigh" "D" (.double f164)) (H9 : Fld Z h0 a221 own_k0 "high" "D" (.double f164)) (H11 : Fld Z h0 a221 own_k0 "count" "D" (.double (4607182418800017408 : UInt64))) (H12 : own_Ary Z h0 a1123 .double (own_rD 12)) (H16 : a221 < a1123) (H18 : n0 ≤ a1123) (H19 : FP.Core.DInt p4.toInt f163) (H20 : FP.Core.DInt p4.toInt f164) (H21 : 0 ≤ v7.toInt ∧ v7.toInt ≤ 65535) (H22 : 0 ≤ w0.toInt ∧ w0.toInt ≤ 65535) (H23 : 0 ≤ v15.toInt ∧ v15.toInt ≤ 65535) (H24 : p5.toInt < p4.toInt) :
    MetFree l (⟨own_k0, "blocks", "([DI)I"⟩ : MethodName) (head1 (Jvm.Cond.code (⟨own_k0, "blocks", "([DI)I"⟩ : MethodName) prog_16_method_10_code 3 (some .int) :: wds) ({ frames := 1, cells := 0, slots := 0, locals := 12 } : Room)) (fun ar_ U_ => ar_ = #[(.ref a221), (.ref a1123), (.int (0 : Int32))] ∧ Z.Warmed39 U_.vm ∧ U_.heap = h0) (fun _ _ _ _ _ => True) (fun _ U_ o_ V_ => ∃ v_ L_, o_ = .returned v_ ∧ own_s44_Q Z a221 a1123 f163 f164 p4 v7 w0 v15 p5 h0 n0 v_ V_.heap L_ ∧ FrameEnd U_ o_ V_ L_ ({ frames := 1, cells := 0, slots := 0, locals := 12 } : Room).cells ({ frames := 1, cells := 0, slots := 0, locals := 12 } : Room).slots) := by
  refine own_met (y := ⟨own_k0, "blocks", "([DI)I"⟩) (Q := own_s44_Q Z a221 a1123 f163 f164 p4 v7 w0 v15 p5 h0 n0) own_pn0 ?_
  intro p e s m below meth c s₁ hx hby hml hZ hown hnm hret hlk X0 e0
  have N0 := Fr.nil n0
  refine own_cast (g' := (mkF m 0 #[.val (.ref a221), .val (.ref a1123), .val (.int (0 : Int32))] [])) (by first | (simp [entryFrame, mkF, argsToLocals, Value.category]; done) | rfl) ?_
  refine own_alN (w := (.ref a221)) X0 hx (hb hby d7_0) rfl rfl ?_
  refine own_callv (a := a221) (argsL := []) (rest := []) X0 hx hZ hown (own_s45 l Z a0 hw [] a221 f163 f164 p4 v7 w0 v15 p5 h0 n0 Z0 H6 H9 H19 H20 H21 H22 H23 H24) H5 (own_w hw 51 rfl) (own_w hw 52 rfl) (own_w hw 54 rfl) (own_w hw 53 rfl) (own_w hw 55 rfl) (own_w hw 3 rfl) (by decide) e0 (hb hby d7_1) (by rw [hml]; rfl) rfl (lenOf own_pd2 rfl) (by decide) (W := 0) (Nat.le_of_eq rfl) (by decide) (by decide) (by decide) ?_
  intro v1146 T1146 lo1146 X1146 Q1146
  obtain ⟨h1146, e1146⟩ : ∃ h, T1146.heap = h := ⟨_, rfl⟩
  rw [e1146] at Q1146
  obtain ⟨rfl, N1146, K1146⟩ := Q1146
  have N1146' := Fr.app N0 N1146
  have e1146' : T1146.heap = h0 := e1146.trans K1146
  show own_Go _ _ _ _ _ _ _ T1146 (mkF m 4 #[.val (.ref a221), .val (.ref a1123), .val (.int (0 : Int32))] [(.int (0 : Int32))])
  refine own_pre (g' := (mkF m 9 #[.val (.ref a221), .val (.ref a1123), .val (.int (0 : Int32))] [])) (fun t k => XS.ifYes X1146.here hx rfl (pc0 := 4) (pc' := 9) rfl (hb hby d7_4) rfl (by decide) (by decide) (by decide) k) ?_
  refine own_alN (w := (.ref a1123)) X1146 hx (hb hby d7_9) rfl rfl ?_
  refine own_ilN (w := (0 : Int32)) X1146 hx (hb hby d7_10) rfl ?_
  refine own_alN (w := (.ref a221)) X1146 hx (hb hby d7_11) rfl rfl ?_
  refine own_getf X1146 hx hZ hown (own_w hw 16 rfl) e1146' H6 (hb hby d7_12) ?_
  intro T1147 X1147 e1147
  show own_Go _ _ _ _ _ _ _ T1147 (mkF m 15 #[.val (.ref a221), .val (.ref a1123), .val (.int (0 : Int32))] [(.double f163), (.int (0 : Int32)), (.ref a1123)])
  refine own_dastore X1147 hx hZ e1147 N1146' H18 H12 (hb hby d7_15) (n := 0) (by decide) (by decide) (by show 0 < 12; decide) ?_
  intro T1148 h1148 lo1148 X1148 e1148 N1148 W1148
  have F1149 : own_Ary Z h1148 a1123 .double ([(.double f163)] ++ own_rD 11) := H12.set W1148
  show own_Go _ _ _ _ _ _ _ T1148 (mkF m 16 #[.val (.ref a221), .val (.ref a1123), .val (.int (0 : Int32))] [])
  refine own_alN (w := (.ref a221)) X1148 hx (hb hby d7_16) rfl rfl ?_
  have F1154 := (H5.wr W1148)
  have F1156 := (H7.other W1148 (Or.inl (Nat.ne_of_lt H16)))
  have F1157 := (H8.other W1148 (Or.inl (Nat.ne_of_lt H16)))
  have F1158 := (H9.other W1148 (Or.inl (Nat.ne_of_lt H16)))
  have F1160 := (H11.other W1148 (Or.inl (Nat.ne_of_lt H16)))
  have F1165 : n0 ≤ h1148.size := (Nat.le_trans Z0 (Nat.le_of_eq W1148.size.symm))
  refine own_callv (a := a221) (argsL := []) (rest := []) X1148 hx hZ hown (own_s46 l Z a0 hw [] a221 f164 p4 v7 w0 v15 p5 h1148 n0 F1165 F1156 F1157 H20 H21 H22 H23 H24) F1154 (own_w hw 56 rfl) (own_w hw 29 rfl) (own_w hw 31 rfl) (own_w hw 30 rfl) (own_w hw 32 rfl) (own_w hw 3 rfl) (by decide) e1148 (hb hby d7_17) (by rw [hml]; rfl) rfl (lenOf own_pd2 rfl) (by decide) (W := 0) (Nat.le_of_eq rfl) (by decide) (by decide) (by decide) ?_
  intro v1166 T1166 lo1166 X1166 Q1166
  obtain ⟨h1166, e1166⟩ : ∃ h, T1166.heap = h := ⟨_, rfl⟩
  rw [e1166] at Q1166
  obtain ⟨rfl, N1166, K1166⟩ := Q1166
  have N1166' := Fr.app N1148 N1166
  have e1166' : T1166.heap = h1148 := e1166.trans K1166
  show own_Go _ _ _ _ _ _ _ T1166 (mkF m 20 #[.val (.ref a221), .val (.ref a1123), .val (.int (0 : Int32))] [(.int (0 : Int32))])
  refine own_pre (g' := (mkF m 23 #[.val (.ref a221), .val (.ref a1123), .val (.int (0 : Int32))] [])) (fun t k => XS.ifNo X1166.here hx rfl (hb hby d7_20) rfl (by decide) k) ?_
  refine own_alN (w := (.ref a1123)) X1166 hx (hb hby d7_23) rfl rfl ?_
  refine own_ilN (w := (0 : Int32)) X1166 hx (hb hby d7_24) rfl ?_
  refine own_ic X1166 hx (1 : Int32) (hb hby d7_25) rfl ?_
  refine own_pre (g' := (mkF m 27 #[.val (.ref a221), .val (.ref a1123), .val (.int (0 : Int32))] [(.int (1 : Int32)), (.ref a1123)])) (fun t k => XS.iadd X1166.here hx rfl (hb hby d7_26) rfl k) ?_
  refine own_alN (w := (.ref a221)) X1166 hx (hb hby d7_27) rfl rfl ?_
  refine own_getf X1166 hx hZ hown (own_w hw 22 rfl) e1166' F1158 (hb hby d7_28) ?_
  intro T1167 X1167 e1167
  show own_Go _ _ _ _ _ _ _ T1167 (mkF m 31 #[.val (.ref a221), .val (.ref a1123), .val (.int (0 : Int32))] [(.double f164), (.int (1 : Int32)), (.ref a1123)])
  refine own_dastore X1167 hx hZ e1167 N1166' H18 F1149 (hb hby d7_31) (n := 1) (by decide) (by decide) (by show 1 < 12; decide) ?_
  intro T1168 h1168 lo1168 X1168 e1168 N1168 W1168
  have F1169 : own_Ary Z h1168 a1123 .double ([(.double f163), (.double f164)] ++ own_rD 10) := F1149.set W1168
  show own_Go _ _ _ _ _ _ _ T1168 (mkF m 32 #[.val (.ref a221), .val (.ref a1123), .val (.int (0 : Int32))] [])
  refine own_alN (w := (.ref a1123)) X1168 hx (hb hby d7_32) rfl rfl ?_
  refine own_ilN (w := (0 : Int32)) X1168 hx (hb hby d7_33) rfl ?_
  refine own_ic X1168 hx (2 : Int32) (hb hby d7_34) rfl ?_
  refine own_pre (g' := (mkF m 36 #[.val (.ref a221), .val (.ref a1123), .val (.int (0 : Int32))] [(.int (2 : Int32)), (.ref a1123)])) (fun t k => XS.iadd X1168.here hx rfl (hb hby d7_35) rfl k) ?_
  refine own_alN (w := (.ref a221)) X1168 hx (hb hby d7_36) rfl rfl ?_
  have F1170 := (F1160.other W1168 (Or.inl (Nat.ne_of_lt H16)))
  refine own_getf X1168 hx hZ hown (own_w hw 26 rfl) e1168 F1170 (hb hby d7_37) ?_
  intro T1171 X1171 e1171
  show own_Go _ _ _ _ _ _ _ T1171 (mkF m 40 #[.val (.ref a221), .val (.ref a1123), .val (.int (0 : Int32))] [(.double (4607182418800017408 : UInt64)), (.int (2 : Int32)), (.ref a1123)])
  refine own_dastore X1171 hx hZ e1171 N1168 H18 F1169 (hb hby d7_40) (n := 2) (by decide) (by decide) (by show 2 < 12; decide) ?_
  intro T1172 h1172 lo1172 X1172 e1172 N1172 W1172
  have F1173 : own_Ary Z h1172 a1123 .double ([(.double f163), (.double f164), (.double (4607182418800017408 : UInt64))] ++ own_rD 9) := F1169.set W1172
  show own_Go _ _ _ _ _ _ _ T1172 (mkF m 41 #[.val (.ref a221), .val (.ref a1123), .val (.int (0 : Int32))] [])
  refine own_ilN (w := (0 : Int32)) X1172 hx (hb hby d7_41) rfl ?_
  refine own_ic X1172 hx (3 : Int32) (hb hby d7_42) rfl ?_
  refine own_pre (g' := (mkF m 44 #[.val (.ref a221), .val (.ref a1123), .val (.int (0 : Int32))] [(.int (3 : Int32))])) (fun t k => XS.iadd X1172.here hx rfl (hb hby d7_43) rfl k) ?_
  exact own_retI X1172 hx hlk hret (hb hby d7_44) e1172 ⟨rfl, N1172, ((((Keep.refl _ _).wr W1148 (Or.inl (by simp))).wr W1168 (Or.inl (by simp))).wr W1172 (Or.inl (by simp))), F1173⟩ (by decide) (by decide)
def own_s48_Q (Z : State) (a299 : Addr) (f237 : UInt64) (f238 : UInt64) (p5 : Int32) (v7 : Int32) (w0 : Int32) (v15 : Int32) (p4 : Int32) (h0 : Heap) (n0 : Nat) (v_ : Option Value) (h_ : Heap) (L_ : List Loc) : Prop := (fun v h L => v = some (.int (0 : Int32)) ∧ Fr n0 L ∧ h = h0) v_ h_ L_
set_option maxRecDepth 65536 in
set_option maxHeartbeats 40000000 in
theorem own_s48 (l : Launch) (Z : State) (a0 : Array Value) (hw : ∀ d ∈ tables_1, d.before a0 Z = true) (wds : List Jvm.Cond) (a299 : Addr) (f237 : UInt64) (f238 : UInt64) (p5 : Int32) (v7 : Int32) (w0 : Int32) (v15 : Int32) (p4 : Int32) (h0 : Heap) (n0 : Nat) (Z0 : n0 ≤ h0.size) (H6 : Fld Z h0 a299 own_k0 "low" "D" (.double f237)) (H9 : Fld Z h0 a299 own_k0 "high" "D" (.double f238)) (H14 : FP.Core.DInt p5.toInt f237) (H15 : FP.Core.DInt p5.toInt f238) (H16 : 0 ≤ v7.toInt ∧ v7.toInt ≤ 65535) (H17 : 0 ≤ w0.toInt ∧ w0.toInt ≤ 65535) (H18 : 0 ≤ v15.toInt ∧ v15.toInt ≤ 65535) (H19 : p5.toInt < p4.toInt) :
    MetFree l (⟨own_k0, "isEmpty", "()Z"⟩ : MethodName) (head1 (Jvm.Cond.code (⟨own_k0, "isEmpty", "()Z"⟩ : MethodName) prog_16_method_3_code 1 (some .boolean) :: wds) ({ frames := 0, cells := 0, slots := 0, locals := 0 } : Room)) (fun ar_ U_ => ar_ = #[(.ref a299)] ∧ Z.Warmed39 U_.vm ∧ U_.heap = h0) (fun _ _ _ _ _ => True) (fun _ U_ o_ V_ => ∃ v_ L_, o_ = .returned v_ ∧ own_s48_Q Z a299 f237 f238 p5 v7 w0 v15 p4 h0 n0 v_ V_.heap L_ ∧ FrameEnd U_ o_ V_ L_ ({ frames := 0, cells := 0, slots := 0, locals := 0 } : Room).cells ({ frames := 0, cells := 0, slots := 0, locals := 0 } : Room).slots) := by
  refine own_met (y := ⟨own_k0, "isEmpty", "()Z"⟩) (Q := own_s48_Q Z a299 f237 f238 p5 v7 w0 v15 p4 h0 n0) own_pn0 ?_
  intro p e s m below meth c s₁ hx hby hml hZ hown hnm hret hlk X0 e0
  have N0 := Fr.nil n0
  refine own_cast (g' := (mkF m 0 #[.val (.ref a299)] [])) (by first | (simp [entryFrame, mkF, argsToLocals, Value.category]; done) | rfl) ?_
  refine own_alN (w := (.ref a299)) X0 hx (hb hby d8_0) rfl rfl ?_
  refine own_getf X0 hx hZ hown (own_w hw 16 rfl) e0 H6 (hb hby d8_1) ?_
  intro T1189 X1189 e1189
  show own_Go _ _ _ _ _ _ _ T1189 (mkF m 4 #[.val (.ref a299)] [(.double f237)])
  refine own_alN (w := (.ref a299)) X1189 hx (hb hby d8_4) rfl rfl ?_
  refine own_getf X1189 hx hZ hown (own_w hw 22 rfl) e1189 H9 (hb hby d8_5) ?_
  intro T1190 X1190 e1190
  show own_Go _ _ _ _ _ _ _ T1190 (mkF m 8 #[.val (.ref a299)] [(.double f238), (.double f237)])
  obtain ⟨k1191, hk1191⟩ : ∃ z, own_c p5.toInt p5.toInt = z := ⟨_, rfl⟩
  refine own_pre (g' := (mkF m 9 #[.val (.ref a299)] [(.int k1191)])) (fun t k => XS.dcmpS X1190.here hx rfl (hb hby d8_8) rfl ((own_dcmp H14 H15 _).trans hk1191) k) ?_
  have hc1192 : ¬ (0 : Int32) < k1191 := by rw [← hk1191, own_c_gt] <;> (have := H16; have := H17; have := H18; have := H19; have := rng32 p5; omega)
  refine own_pre (g' := (mkF m 16 #[.val (.ref a299)] [])) (fun t k => XS.ifYes X1190.here hx rfl (pc0 := 9) (pc' := 16) rfl (hb hby d8_9) rfl ((if0 _ _).trans (flt hc1192).2.2.2) (by decide) (by decide) k) ?_
  refine own_ic X1190 hx (0 : Int32) (hb hby d8_16) rfl ?_
  exact own_retZ X1190 hx hlk hret rfl (hb hby d8_17) e1190 ⟨rfl, N0, rfl⟩ (by decide) (by decide)
def own_s49_Q (Z : State) (a299 : Addr) (f238 : UInt64) (p5 : Int32) (v7 : Int32) (w0 : Int32) (v15 : Int32) (p4 : Int32) (h0 : Heap) (n0 : Nat) (v_ : Option Value) (h_ : Heap) (L_ : List Loc) : Prop := (fun v h L => v = some (.int (0 : Int32)) ∧ Fr n0 L ∧ h = h0) v_ h_ L_
set_option maxRecDepth 65536 in
set_option maxHeartbeats 40000000 in
theorem own_s49 (l : Launch) (Z : State) (a0 : Array Value) (hw : ∀ d ∈ tables_1, d.before a0 Z = true) (wds : List Jvm.Cond) (a299 : Addr) (f238 : UInt64) (p5 : Int32) (v7 : Int32) (w0 : Int32) (v15 : Int32) (p4 : Int32) (h0 : Heap) (n0 : Nat) (Z0 : n0 ≤ h0.size) (H7 : Fld Z h0 a299 own_k0 "gapLow" "D" (.double f238)) (H8 : Fld Z h0 a299 own_k0 "gapHigh" "D" (.double f238)) (H15 : FP.Core.DInt p5.toInt f238) (H16 : 0 ≤ v7.toInt ∧ v7.toInt ≤ 65535) (H17 : 0 ≤ w0.toInt ∧ w0.toInt ≤ 65535) (H18 : 0 ≤ v15.toInt ∧ v15.toInt ≤ 65535) (H19 : p5.toInt < p4.toInt) :
    MetFree l (⟨own_k0, "hasGap", "()Z"⟩ : MethodName) (head1 (Jvm.Cond.code (⟨own_k0, "hasGap", "()Z"⟩ : MethodName) prog_16_method_4_code 1 (some .boolean) :: wds) ({ frames := 0, cells := 0, slots := 0, locals := 0 } : Room)) (fun ar_ U_ => ar_ = #[(.ref a299)] ∧ Z.Warmed39 U_.vm ∧ U_.heap = h0) (fun _ _ _ _ _ => True) (fun _ U_ o_ V_ => ∃ v_ L_, o_ = .returned v_ ∧ own_s49_Q Z a299 f238 p5 v7 w0 v15 p4 h0 n0 v_ V_.heap L_ ∧ FrameEnd U_ o_ V_ L_ ({ frames := 0, cells := 0, slots := 0, locals := 0 } : Room).cells ({ frames := 0, cells := 0, slots := 0, locals := 0 } : Room).slots) := by
  refine own_met (y := ⟨own_k0, "hasGap", "()Z"⟩) (Q := own_s49_Q Z a299 f238 p5 v7 w0 v15 p4 h0 n0) own_pn0 ?_
  intro p e s m below meth c s₁ hx hby hml hZ hown hnm hret hlk X0 e0
  have N0 := Fr.nil n0
  refine own_cast (g' := (mkF m 0 #[.val (.ref a299)] [])) (by first | (simp [entryFrame, mkF, argsToLocals, Value.category]; done) | rfl) ?_
  refine own_alN (w := (.ref a299)) X0 hx (hb hby d4_0) rfl rfl ?_
  refine own_getf X0 hx hZ hown (own_w hw 18 rfl) e0 H7 (hb hby d4_1) ?_
  intro T1208 X1208 e1208
  show own_Go _ _ _ _ _ _ _ T1208 (mkF m 4 #[.val (.ref a299)] [(.double f238)])
  refine own_alN (w := (.ref a299)) X1208 hx (hb hby d4_4) rfl rfl ?_
  refine own_getf X1208 hx hZ hown (own_w hw 20 rfl) e1208 H8 (hb hby d4_5) ?_
  intro T1209 X1209 e1209
  show own_Go _ _ _ _ _ _ _ T1209 (mkF m 8 #[.val (.ref a299)] [(.double f238), (.double f238)])
  obtain ⟨k1210, hk1210⟩ : ∃ z, own_c p5.toInt p5.toInt = z := ⟨_, rfl⟩
  refine own_pre (g' := (mkF m 9 #[.val (.ref a299)] [(.int k1210)])) (fun t k => XS.dcmpS X1209.here hx rfl (hb hby d4_8) rfl ((own_dcmp H15 H15 _).trans hk1210) k) ?_
  have hc1211 : ¬ k1210 < (0 : Int32) := by rw [← hk1210, own_c_lt] <;> (have := H16; have := H17; have := H18; have := H19; have := rng32 p5; omega)
  refine own_pre (g' := (mkF m 16 #[.val (.ref a299)] [])) (fun t k => XS.ifYes X1209.here hx rfl (pc0 := 9) (pc' := 16) rfl (hb hby d4_9) rfl ((if0 _ _).trans (flt hc1211).2.1) (by decide) (by decide) k) ?_
  refine own_ic X1209 hx (0 : Int32) (hb hby d4_16) rfl ?_
  exact own_retZ X1209 hx hlk hret rfl (hb hby d4_17) e1209 ⟨rfl, N0, rfl⟩ (by decide) (by decide)
def own_s47_Q (Z : State) (a299 : Addr) (a1123 : Addr) (f237 : UInt64) (f238 : UInt64) (f163 : UInt64) (f164 : UInt64) (p5 : Int32) (p4 : Int32) (v7 : Int32) (w0 : Int32) (v15 : Int32) (h0 : Heap) (n0 : Nat) (v_ : Option Value) (h_ : Heap) (L_ : List Loc) : Prop := (fun v h L => v = some (.int (6 : Int32)) ∧ Fr n0 L ∧ Keep h0 h [a1123] ∧ own_Ary Z h a1123 .double ([(.double f163), (.double f164), (.double (4607182418800017408 : UInt64)), (.double f237), (.double f238), (.double (4607182418800017408 : UInt64))] ++ own_rD 6)) v_ h_ L_
set_option maxRecDepth 65536 in
set_option maxHeartbeats 40000000 in
theorem own_s47 (l : Launch) (Z : State) (a0 : Array Value) (hw : ∀ d ∈ tables_1, d.before a0 Z = true) (wds : List Jvm.Cond) (a299 : Addr) (a1123 : Addr) (f237 : UInt64) (f238 : UInt64) (f163 : UInt64) (f164 : UInt64) (p5 : Int32) (p4 : Int32) (v7 : Int32) (w0 : Int32) (v15 : Int32) (h0 : Heap) (n0 : Nat) (Z0 : n0 ≤ h0.size) (H5 : Exa Z h0 a299 own_k0) (H6 : Fld Z h0 a299 own_k0 "low" "D" (.double f237)) (H7 : Fld Z h0 a299 own_k0 "gapLow" "D" (.double f238)) (H8 : Fld Z h0 a299 own_k0 "gapHigh" "D" (.double f238)) (H9 : Fld Z h0 a299 own_k0 "high" "D" (.double f238)) (H11 : Fld Z h0 a299 own_k0 "count" "D" (.double (4607182418800017408 : UInt64))) (H13 : own_Ary Z h0 a1123 .double ([(.double f163), (.double f164), (.double (4607182418800017408 : UInt64))] ++ own_rD 9)) (H16 : a299 < a1123) (H18 : n0 ≤ a1123) (H19 : FP.Core.DInt p5.toInt f237) (H20 : FP.Core.DInt p5.toInt f238) (H23 : 0 ≤ v7.toInt ∧ v7.toInt ≤ 65535) (H24 : 0 ≤ w0.toInt ∧ w0.toInt ≤ 65535) (H25 : 0 ≤ v15.toInt ∧ v15.toInt ≤ 65535) (H26 : p5.toInt < p4.toInt) :
    MetFree l (⟨own_k0, "blocks", "([DI)I"⟩ : MethodName) (head1 (Jvm.Cond.code (⟨own_k0, "blocks", "([DI)I"⟩ : MethodName) prog_16_method_10_code 3 (some .int) :: wds) ({ frames := 1, cells := 0, slots := 0, locals := 12 } : Room)) (fun ar_ U_ => ar_ = #[(.ref a299), (.ref a1123), (.int (3 : Int32))] ∧ Z.Warmed39 U_.vm ∧ U_.heap = h0) (fun _ _ _ _ _ => True) (fun _ U_ o_ V_ => ∃ v_ L_, o_ = .returned v_ ∧ own_s47_Q Z a299 a1123 f237 f238 f163 f164 p5 p4 v7 w0 v15 h0 n0 v_ V_.heap L_ ∧ FrameEnd U_ o_ V_ L_ ({ frames := 1, cells := 0, slots := 0, locals := 12 } : Room).cells ({ frames := 1, cells := 0, slots := 0, locals := 12 } : Room).slots) := by
  refine own_met (y := ⟨own_k0, "blocks", "([DI)I"⟩) (Q := own_s47_Q Z a299 a1123 f237 f238 f163 f164 p5 p4 v7 w0 v15 h0 n0) own_pn0 ?_
  intro p e s m below meth c s₁ hx hby hml hZ hown hnm hret hlk X0 e0
  have N0 := Fr.nil n0
  refine own_cast (g' := (mkF m 0 #[.val (.ref a299), .val (.ref a1123), .val (.int (3 : Int32))] [])) (by first | (simp [entryFrame, mkF, argsToLocals, Value.category]; done) | rfl) ?_
  refine own_alN (w := (.ref a299)) X0 hx (hb hby d7_0) rfl rfl ?_
  refine own_callv (a := a299) (argsL := []) (rest := []) X0 hx hZ hown (own_s48 l Z a0 hw [] a299 f237 f238 p5 v7 w0 v15 p4 h0 n0 Z0 H6 H9 H19 H20 H23 H24 H25 H26) H5 (own_w hw 51 rfl) (own_w hw 52 rfl) (own_w hw 54 rfl) (own_w hw 53 rfl) (own_w hw 55 rfl) (own_w hw 3 rfl) (by decide) e0 (hb hby d7_1) (by rw [hml]; rfl) rfl (lenOf own_pd2 rfl) (by decide) (W := 0) (Nat.le_of_eq rfl) (by decide) (by decide) (by decide) ?_
  intro v1193 T1193 lo1193 X1193 Q1193
  obtain ⟨h1193, e1193⟩ : ∃ h, T1193.heap = h := ⟨_, rfl⟩
  rw [e1193] at Q1193
  obtain ⟨rfl, N1193, K1193⟩ := Q1193
  have N1193' := Fr.app N0 N1193
  have e1193' : T1193.heap = h0 := e1193.trans K1193
  show own_Go _ _ _ _ _ _ _ T1193 (mkF m 4 #[.val (.ref a299), .val (.ref a1123), .val (.int (3 : Int32))] [(.int (0 : Int32))])
  refine own_pre (g' := (mkF m 9 #[.val (.ref a299), .val (.ref a1123), .val (.int (3 : Int32))] [])) (fun t k => XS.ifYes X1193.here hx rfl (pc0 := 4) (pc' := 9) rfl (hb hby d7_4) rfl (by decide) (by decide) (by decide) k) ?_
  refine own_alN (w := (.ref a1123)) X1193 hx (hb hby d7_9) rfl rfl ?_
  refine own_ilN (w := (3 : Int32)) X1193 hx (hb hby d7_10) rfl ?_
  refine own_alN (w := (.ref a299)) X1193 hx (hb hby d7_11) rfl rfl ?_
  refine own_getf X1193 hx hZ hown (own_w hw 16 rfl) e1193' H6 (hb hby d7_12) ?_
  intro T1194 X1194 e1194
  show own_Go _ _ _ _ _ _ _ T1194 (mkF m 15 #[.val (.ref a299), .val (.ref a1123), .val (.int (3 : Int32))] [(.double f237), (.int (3 : Int32)), (.ref a1123)])
  refine own_dastore X1194 hx hZ e1194 N1193' H18 H13 (hb hby d7_15) (n := 3) (by decide) (by decide) (by show 3 < 12; decide) ?_
  intro T1195 h1195 lo1195 X1195 e1195 N1195 W1195
  have F1196 : own_Ary Z h1195 a1123 .double ([(.double f163), (.double f164), (.double (4607182418800017408 : UInt64)), (.double f237)] ++ own_rD 8) := H13.set W1195
  show own_Go _ _ _ _ _ _ _ T1195 (mkF m 16 #[.val (.ref a299), .val (.ref a1123), .val (.int (3 : Int32))] [])
  refine own_alN (w := (.ref a299)) X1195 hx (hb hby d7_16) rfl rfl ?_
  have F1201 := (H5.wr W1195)
  have F1203 := (H7.other W1195 (Or.inl (Nat.ne_of_lt H16)))
  have F1204 := (H8.other W1195 (Or.inl (Nat.ne_of_lt H16)))
  have F1205 := (H9.other W1195 (Or.inl (Nat.ne_of_lt H16)))
  have F1207 := (H11.other W1195 (Or.inl (Nat.ne_of_lt H16)))
  have F1212 : n0 ≤ h1195.size := (Nat.le_trans Z0 (Nat.le_of_eq W1195.size.symm))
  refine own_callv (a := a299) (argsL := []) (rest := []) X1195 hx hZ hown (own_s49 l Z a0 hw [] a299 f238 p5 v7 w0 v15 p4 h1195 n0 F1212 F1203 F1204 H20 H23 H24 H25 H26) F1201 (own_w hw 56 rfl) (own_w hw 29 rfl) (own_w hw 31 rfl) (own_w hw 30 rfl) (own_w hw 32 rfl) (own_w hw 3 rfl) (by decide) e1195 (hb hby d7_17) (by rw [hml]; rfl) rfl (lenOf own_pd2 rfl) (by decide) (W := 0) (Nat.le_of_eq rfl) (by decide) (by decide) (by decide) ?_
  intro v1213 T1213 lo1213 X1213 Q1213
  obtain ⟨h1213, e1213⟩ : ∃ h, T1213.heap = h := ⟨_, rfl⟩
  rw [e1213] at Q1213
  obtain ⟨rfl, N1213, K1213⟩ := Q1213
  have N1213' := Fr.app N1195 N1213
  have e1213' : T1213.heap = h1195 := e1213.trans K1213
  show own_Go _ _ _ _ _ _ _ T1213 (mkF m 20 #[.val (.ref a299), .val (.ref a1123), .val (.int (3 : Int32))] [(.int (0 : Int32))])
  refine own_pre (g' := (mkF m 23 #[.val (.ref a299), .val (.ref a1123), .val (.int (3 : Int32))] [])) (fun t k => XS.ifNo X1213.here hx rfl (hb hby d7_20) rfl (by decide) k) ?_
  refine own_alN (w := (.ref a1123)) X1213 hx (hb hby d7_23) rfl rfl ?_
  refine own_ilN (w := (3 : Int32)) X1213 hx (hb hby d7_24) rfl ?_
  refine own_ic X1213 hx (1 : Int32) (hb hby d7_25) rfl ?_
  refine own_pre (g' := (mkF m 27 #[.val (.ref a299), .val (.ref a1123), .val (.int (3 : Int32))] [(.int (4 : Int32)), (.ref a1123)])) (fun t k => XS.iadd X1213.here hx rfl (hb hby d7_26) rfl k) ?_
  refine own_alN (w := (.ref a299)) X1213 hx (hb hby d7_27) rfl rfl ?_
  refine own_getf X1213 hx hZ hown (own_w hw 22 rfl) e1213' F1205 (hb hby d7_28) ?_
  intro T1214 X1214 e1214
  show own_Go _ _ _ _ _ _ _ T1214 (mkF m 31 #[.val (.ref a299), .val (.ref a1123), .val (.int (3 : Int32))] [(.double f238), (.int (4 : Int32)), (.ref a1123)])
  refine own_dastore X1214 hx hZ e1214 N1213' H18 F1196 (hb hby d7_31) (n := 4) (by decide) (by decide) (by show 4 < 12; decide) ?_
  intro T1215 h1215 lo1215 X1215 e1215 N1215 W1215
  have F1216 : own_Ary Z h1215 a1123 .double ([(.double f163), (.double f164), (.double (4607182418800017408 : UInt64)), (.double f237), (.double f238)] ++ own_rD 7) := F1196.set W1215
  show own_Go _ _ _ _ _ _ _ T1215 (mkF m 32 #[.val (.ref a299), .val (.ref a1123), .val (.int (3 : Int32))] [])
  refine own_alN (w := (.ref a1123)) X1215 hx (hb hby d7_32) rfl rfl ?_
  refine own_ilN (w := (3 : Int32)) X1215 hx (hb hby d7_33) rfl ?_
  refine own_ic X1215 hx (2 : Int32) (hb hby d7_34) rfl ?_
  refine own_pre (g' := (mkF m 36 #[.val (.ref a299), .val (.ref a1123), .val (.int (3 : Int32))] [(.int (5 : Int32)), (.ref a1123)])) (fun t k => XS.iadd X1215.here hx rfl (hb hby d7_35) rfl k) ?_
  refine own_alN (w := (.ref a299)) X1215 hx (hb hby d7_36) rfl rfl ?_
  have F1217 := (F1207.other W1215 (Or.inl (Nat.ne_of_lt H16)))
  refine own_getf X1215 hx hZ hown (own_w hw 26 rfl) e1215 F1217 (hb hby d7_37) ?_
  intro T1218 X1218 e1218
  show own_Go _ _ _ _ _ _ _ T1218 (mkF m 40 #[.val (.ref a299), .val (.ref a1123), .val (.int (3 : Int32))] [(.double (4607182418800017408 : UInt64)), (.int (5 : Int32)), (.ref a1123)])
  refine own_dastore X1218 hx hZ e1218 N1215 H18 F1216 (hb hby d7_40) (n := 5) (by decide) (by decide) (by show 5 < 12; decide) ?_
  intro T1219 h1219 lo1219 X1219 e1219 N1219 W1219
  have F1220 : own_Ary Z h1219 a1123 .double ([(.double f163), (.double f164), (.double (4607182418800017408 : UInt64)), (.double f237), (.double f238), (.double (4607182418800017408 : UInt64))] ++ own_rD 6) := F1216.set W1219
  show own_Go _ _ _ _ _ _ _ T1219 (mkF m 41 #[.val (.ref a299), .val (.ref a1123), .val (.int (3 : Int32))] [])
  refine own_ilN (w := (3 : Int32)) X1219 hx (hb hby d7_41) rfl ?_
  refine own_ic X1219 hx (3 : Int32) (hb hby d7_42) rfl ?_
  refine own_pre (g' := (mkF m 44 #[.val (.ref a299), .val (.ref a1123), .val (.int (3 : Int32))] [(.int (6 : Int32))])) (fun t k => XS.iadd X1219.here hx rfl (hb hby d7_43) rfl k) ?_
  exact own_retI X1219 hx hlk hret (hb hby d7_44) e1219 ⟨rfl, N1219, ((((Keep.refl _ _).wr W1195 (Or.inl (by simp))).wr W1215 (Or.inl (by simp))).wr W1219 (Or.inl (by simp))), F1220⟩ (by decide) (by decide)
theorem d13_0 : decode prog_16_method_12_code 0 = .ok (.aload_n 0, 1) := by decide +kernel
theorem d13_1 : decode prog_16_method_12_code 1 = .ok (.iload_n 1, 1) := by decide +kernel
theorem d13_2 : decode prog_16_method_12_code 2 = .ok (.daload, 1) := by decide +kernel
theorem d13_3 : decode prog_16_method_12_code 3 = .ok (.dstore_n 3, 1) := by decide +kernel
theorem d13_4 : decode prog_16_method_12_code 4 = .ok (.aload_n 0, 1) := by decide +kernel
theorem d13_5 : decode prog_16_method_12_code 5 = .ok (.iload_n 1, 1) := by decide +kernel
theorem d13_6 : decode prog_16_method_12_code 6 = .ok (.aload_n 0, 1) := by decide +kernel
theorem d13_7 : decode prog_16_method_12_code 7 = .ok (.iload_n 2, 1) := by decide +kernel
theorem d13_8 : decode prog_16_method_12_code 8 = .ok (.daload, 1) := by decide +kernel
theorem d13_9 : decode prog_16_method_12_code 9 = .ok (.dastore, 1) := by decide +kernel
theorem d13_10 : decode prog_16_method_12_code 10 = .ok (.aload_n 0, 1) := by decide +kernel
theorem d13_11 : decode prog_16_method_12_code 11 = .ok (.iload_n 2, 1) := by decide +kernel
theorem d13_12 : decode prog_16_method_12_code 12 = .ok (.dload_n 3, 1) := by decide +kernel
theorem d13_13 : decode prog_16_method_12_code 13 = .ok (.dastore, 1) := by decide +kernel
theorem d13_14 : decode prog_16_method_12_code 14 = .ok (.return_, 1) := by decide +kernel
def own_s50_Q (Z : State) (a1123 : Addr) (f163 : UInt64) (f164 : UInt64) (f237 : UInt64) (f238 : UInt64) (h0 : Heap) (n0 : Nat) (v_ : Option Value) (h_ : Heap) (L_ : List Loc) : Prop := (fun v h L => v = none ∧ Fr n0 L ∧ Keep h0 h [a1123] ∧ own_Ary Z h a1123 .double ([(.double f237), (.double f164), (.double (4607182418800017408 : UInt64)), (.double f163), (.double f238), (.double (4607182418800017408 : UInt64))] ++ own_rD 6)) v_ h_ L_
set_option maxRecDepth 65536 in
set_option maxHeartbeats 40000000 in
theorem own_s50 (l : Launch) (Z : State) (a0 : Array Value) (hw : ∀ d ∈ tables_1, d.before a0 Z = true) (wds : List Jvm.Cond) (a1123 : Addr) (f163 : UInt64) (f164 : UInt64) (f237 : UInt64) (f238 : UInt64) (h0 : Heap) (n0 : Nat) (Z0 : n0 ≤ h0.size) (H6 : own_Ary Z h0 a1123 .double ([(.double f163), (.double f164), (.double (4607182418800017408 : UInt64)), (.double f237), (.double f238), (.double (4607182418800017408 : UInt64))] ++ own_rD 6)) (H8 : n0 ≤ a1123) :
    MetFree l (⟨own_k0, "swap", "([DII)V"⟩ : MethodName) (head1 (Jvm.Cond.code (⟨own_k0, "swap", "([DII)V"⟩ : MethodName) prog_16_method_12_code 5 none :: wds) ({ frames := 0, cells := 0, slots := 0, locals := 0 } : Room)) (fun ar_ U_ => ar_ = #[(.ref a1123), (.int (3 : Int32)), (.int (0 : Int32))] ∧ Z.Warmed39 U_.vm ∧ U_.heap = h0) (fun _ _ _ _ _ => True) (fun _ U_ o_ V_ => ∃ v_ L_, o_ = .returned v_ ∧ own_s50_Q Z a1123 f163 f164 f237 f238 h0 n0 v_ V_.heap L_ ∧ FrameEnd U_ o_ V_ L_ ({ frames := 0, cells := 0, slots := 0, locals := 0 } : Room).cells ({ frames := 0, cells := 0, slots := 0, locals := 0 } : Room).slots) := by
  refine own_met (y := ⟨own_k0, "swap", "([DII)V"⟩) (Q := own_s50_Q Z a1123 f163 f164 f237 f238 h0 n0) own_pn0 ?_
  intro p e s m below meth c s₁ hx hby hml hZ hown hnm hret hlk X0 e0
  have N0 := Fr.nil n0
  refine own_cast (g' := (mkF m 0 #[.val (.ref a1123), .val (.int (3 : Int32)), .val (.int (0 : Int32)), .unset, .unset] [])) (by first | (simp [entryFrame, mkF, argsToLocals, Value.category]; done) | rfl) ?_
  generalize hL1231 : (#[.val (.ref a1123), .val (.int (3 : Int32)), .val (.int (0 : Int32)), .unset, .unset] : Array Slot) = L1231
  refine own_alN (w := (.ref a1123)) X0 hx (hb hby d13_0) (by rw [← hL1231]; rfl) rfl ?_
  refine own_ilN (w := (3 : Int32)) X0 hx (hb hby d13_1) (by rw [← hL1231]; rfl) ?_
  refine own_daload X0 hx hZ e0 H6 (hb hby d13_2) (n := 3) (v := (.double f237)) (by decide) (by decide) rfl ?_
  show own_Go _ _ _ _ _ _ _ s₁ (mkF m 3 L1231 [(.double f237)])
  refine own_pre (g' := (mkF m 4 #[.val (.ref a1123), .val (.int (3 : Int32)), .val (.int (0 : Int32)), .val (.double f237), .second] [])) (fun t k => XS.dstoreN X0.here hx rfl (hb hby d13_3) rfl (l' := #[.val (.ref a1123), .val (.int (3 : Int32)), .val (.int (0 : Int32)), .val (.double f237), .second]) (by rw [← hL1231]; rfl) k) ?_
  generalize hL1236 : (#[.val (.ref a1123), .val (.int (3 : Int32)), .val (.int (0 : Int32)), .val (.double f237), .second] : Array Slot) = L1236
  refine own_alN (w := (.ref a1123)) X0 hx (hb hby d13_4) (by rw [← hL1236]; rfl) rfl ?_
  refine own_ilN (w := (3 : Int32)) X0 hx (hb hby d13_5) (by rw [← hL1236]; rfl) ?_
  refine own_alN (w := (.ref a1123)) X0 hx (hb hby d13_6) (by rw [← hL1236]; rfl) rfl ?_
  refine own_ilN (w := (0 : Int32)) X0 hx (hb hby d13_7) (by rw [← hL1236]; rfl) ?_
  refine own_daload X0 hx hZ e0 H6 (hb hby d13_8) (n := 0) (v := (.double f163)) (by decide) (by decide) rfl ?_
  show own_Go _ _ _ _ _ _ _ s₁ (mkF m 9 L1236 [(.double f163), (.int (3 : Int32)), (.ref a1123)])
  refine own_dastore X0 hx hZ e0 N0 H8 H6 (hb hby d13_9) (n := 3) (by decide) (by decide) (by show 3 < 12; decide) ?_
  intro T1237 h1237 lo1237 X1237 e1237 N1237 W1237
  have F1238 : own_Ary Z h1237 a1123 .double ([(.double f163), (.double f164), (.double (4607182418800017408 : UInt64)), (.double f163), (.double f238), (.double (4607182418800017408 : UInt64))] ++ own_rD 6) := H6.set W1237
  show own_Go _ _ _ _ _ _ _ T1237 (mkF m 10 L1236 [])
  refine own_alN (w := (.ref a1123)) X1237 hx (hb hby d13_10) (by rw [← hL1236]; rfl) rfl ?_
  refine own_ilN (w := (0 : Int32)) X1237 hx (hb hby d13_11) (by rw [← hL1236]; rfl) ?_
  refine own_dlN (w := f237) X1237 hx (hb hby d13_12) (by rw [← hL1236]; rfl) ?_
  refine own_dastore X1237 hx hZ e1237 N1237 H8 F1238 (hb hby d13_13) (n := 0) (by decide) (by decide) (by show 0 < 12; decide) ?_
  intro T1239 h1239 lo1239 X1239 e1239 N1239 W1239
  have F1240 : own_Ary Z h1239 a1123 .double ([(.double f237), (.double f164), (.double (4607182418800017408 : UInt64)), (.double f163), (.double f238), (.double (4607182418800017408 : UInt64))] ++ own_rD 6) := F1238.set W1239
  show own_Go _ _ _ _ _ _ _ T1239 (mkF m 14 L1236 [])
  exact own_ret0 X1239 hx hlk hret (hb hby d13_14) e1239 ⟨rfl, N1239, (((Keep.refl _ _).wr W1237 (Or.inl (by simp))).wr W1239 (Or.inl (by simp))), F1240⟩ (by decide) (by decide)
theorem own_pd8 : parseMethodDescriptor "([DII)V" = some ⟨[(.array .double), .int, .int], none⟩ := by decide +kernel
def own_s51_Q (Z : State) (a1123 : Addr) (f237 : UInt64) (f164 : UInt64) (f163 : UInt64) (f238 : UInt64) (h0 : Heap) (n0 : Nat) (v_ : Option Value) (h_ : Heap) (L_ : List Loc) : Prop := (fun v h L => v = none ∧ Fr n0 L ∧ Keep h0 h [a1123] ∧ own_Ary Z h a1123 .double ([(.double f237), (.double f238), (.double (4607182418800017408 : UInt64)), (.double f163), (.double f164), (.double (4607182418800017408 : UInt64))] ++ own_rD 6)) v_ h_ L_
set_option maxRecDepth 65536 in
set_option maxHeartbeats 40000000 in
theorem own_s51 (l : Launch) (Z : State) (a0 : Array Value) (hw : ∀ d ∈ tables_1, d.before a0 Z = true) (wds : List Jvm.Cond) (a1123 : Addr) (f237 : UInt64) (f164 : UInt64) (f163 : UInt64) (f238 : UInt64) (h0 : Heap) (n0 : Nat) (Z0 : n0 ≤ h0.size) (H6 : own_Ary Z h0 a1123 .double ([(.double f237), (.double f164), (.double (4607182418800017408 : UInt64)), (.double f163), (.double f238), (.double (4607182418800017408 : UInt64))] ++ own_rD 6)) (H8 : n0 ≤ a1123) :
    MetFree l (⟨own_k0, "swap", "([DII)V"⟩ : MethodName) (head1 (Jvm.Cond.code (⟨own_k0, "swap", "([DII)V"⟩ : MethodName) prog_16_method_12_code 5 none :: wds) ({ frames := 0, cells := 0, slots := 0, locals := 0 } : Room)) (fun ar_ U_ => ar_ = #[(.ref a1123), (.int (4 : Int32)), (.int (1 : Int32))] ∧ Z.Warmed39 U_.vm ∧ U_.heap = h0) (fun _ _ _ _ _ => True) (fun _ U_ o_ V_ => ∃ v_ L_, o_ = .returned v_ ∧ own_s51_Q Z a1123 f237 f164 f163 f238 h0 n0 v_ V_.heap L_ ∧ FrameEnd U_ o_ V_ L_ ({ frames := 0, cells := 0, slots := 0, locals := 0 } : Room).cells ({ frames := 0, cells := 0, slots := 0, locals := 0 } : Room).slots) := by
  refine own_met (y := ⟨own_k0, "swap", "([DII)V"⟩) (Q := own_s51_Q Z a1123 f237 f164 f163 f238 h0 n0) own_pn0 ?_
  intro p e s m below meth c s₁ hx hby hml hZ hown hnm hret hlk X0 e0
  have N0 := Fr.nil n0
  refine own_cast (g' := (mkF m 0 #[.val (.ref a1123), .val (.int (4 : Int32)), .val (.int (1 : Int32)), .unset, .unset] [])) (by first | (simp [entryFrame, mkF, argsToLocals, Value.category]; done) | rfl) ?_
  generalize hL1246 : (#[.val (.ref a1123), .val (.int (4 : Int32)), .val (.int (1 : Int32)), .unset, .unset] : Array Slot) = L1246
  refine own_alN (w := (.ref a1123)) X0 hx (hb hby d13_0) (by rw [← hL1246]; rfl) rfl ?_
  refine own_ilN (w := (4 : Int32)) X0 hx (hb hby d13_1) (by rw [← hL1246]; rfl) ?_
  refine own_daload X0 hx hZ e0 H6 (hb hby d13_2) (n := 4) (v := (.double f238)) (by decide) (by decide) rfl ?_
  show own_Go _ _ _ _ _ _ _ s₁ (mkF m 3 L1246 [(.double f238)])
  refine own_pre (g' := (mkF m 4 #[.val (.ref a1123), .val (.int (4 : Int32)), .val (.int (1 : Int32)), .val (.double f238), .second] [])) (fun t k => XS.dstoreN X0.here hx rfl (hb hby d13_3) rfl (l' := #[.val (.ref a1123), .val (.int (4 : Int32)), .val (.int (1 : Int32)), .val (.double f238), .second]) (by rw [← hL1246]; rfl) k) ?_
  generalize hL1251 : (#[.val (.ref a1123), .val (.int (4 : Int32)), .val (.int (1 : Int32)), .val (.double f238), .second] : Array Slot) = L1251
  refine own_alN (w := (.ref a1123)) X0 hx (hb hby d13_4) (by rw [← hL1251]; rfl) rfl ?_
  refine own_ilN (w := (4 : Int32)) X0 hx (hb hby d13_5) (by rw [← hL1251]; rfl) ?_
  refine own_alN (w := (.ref a1123)) X0 hx (hb hby d13_6) (by rw [← hL1251]; rfl) rfl ?_
  refine own_ilN (w := (1 : Int32)) X0 hx (hb hby d13_7) (by rw [← hL1251]; rfl) ?_
  refine own_daload X0 hx hZ e0 H6 (hb hby d13_8) (n := 1) (v := (.double f164)) (by decide) (by decide) rfl ?_
  show own_Go _ _ _ _ _ _ _ s₁ (mkF m 9 L1251 [(.double f164), (.int (4 : Int32)), (.ref a1123)])
  refine own_dastore X0 hx hZ e0 N0 H8 H6 (hb hby d13_9) (n := 4) (by decide) (by decide) (by show 4 < 12; decide) ?_
  intro T1252 h1252 lo1252 X1252 e1252 N1252 W1252
  have F1253 : own_Ary Z h1252 a1123 .double ([(.double f237), (.double f164), (.double (4607182418800017408 : UInt64)), (.double f163), (.double f164), (.double (4607182418800017408 : UInt64))] ++ own_rD 6) := H6.set W1252
  show own_Go _ _ _ _ _ _ _ T1252 (mkF m 10 L1251 [])
  refine own_alN (w := (.ref a1123)) X1252 hx (hb hby d13_10) (by rw [← hL1251]; rfl) rfl ?_
  refine own_ilN (w := (1 : Int32)) X1252 hx (hb hby d13_11) (by rw [← hL1251]; rfl) ?_
  refine own_dlN (w := f238) X1252 hx (hb hby d13_12) (by rw [← hL1251]; rfl) ?_
  refine own_dastore X1252 hx hZ e1252 N1252 H8 F1253 (hb hby d13_13) (n := 1) (by decide) (by decide) (by show 1 < 12; decide) ?_
  intro T1254 h1254 lo1254 X1254 e1254 N1254 W1254
  have F1255 : own_Ary Z h1254 a1123 .double ([(.double f237), (.double f238), (.double (4607182418800017408 : UInt64)), (.double f163), (.double f164), (.double (4607182418800017408 : UInt64))] ++ own_rD 6) := F1253.set W1254
  show own_Go _ _ _ _ _ _ _ T1254 (mkF m 14 L1251 [])
  exact own_ret0 X1254 hx hlk hret (hb hby d13_14) e1254 ⟨rfl, N1254, (((Keep.refl _ _).wr W1252 (Or.inl (by simp))).wr W1254 (Or.inl (by simp))), F1255⟩ (by decide) (by decide)
def own_s52_Q (Z : State) (a1123 : Addr) (f237 : UInt64) (f238 : UInt64) (f163 : UInt64) (f164 : UInt64) (h0 : Heap) (n0 : Nat) (v_ : Option Value) (h_ : Heap) (L_ : List Loc) : Prop := (fun v h L => v = none ∧ Fr n0 L ∧ Keep h0 h [a1123] ∧ own_Ary Z h a1123 .double ([(.double f237), (.double f238), (.double (4607182418800017408 : UInt64)), (.double f163), (.double f164), (.double (4607182418800017408 : UInt64))] ++ own_rD 6)) v_ h_ L_
set_option maxRecDepth 65536 in
set_option maxHeartbeats 40000000 in
theorem own_s52 (l : Launch) (Z : State) (a0 : Array Value) (hw : ∀ d ∈ tables_1, d.before a0 Z = true) (wds : List Jvm.Cond) (a1123 : Addr) (f237 : UInt64) (f238 : UInt64) (f163 : UInt64) (f164 : UInt64) (h0 : Heap) (n0 : Nat) (Z0 : n0 ≤ h0.size) (H6 : own_Ary Z h0 a1123 .double ([(.double f237), (.double f238), (.double (4607182418800017408 : UInt64)), (.double f163), (.double f164), (.double (4607182418800017408 : UInt64))] ++ own_rD 6)) (H8 : n0 ≤ a1123) :
    MetFree l (⟨own_k0, "swap", "([DII)V"⟩ : MethodName) (head1 (Jvm.Cond.code (⟨own_k0, "swap", "([DII)V"⟩ : MethodName) prog_16_method_12_code 5 none :: wds) ({ frames := 0, cells := 0, slots := 0, locals := 0 } : Room)) (fun ar_ U_ => ar_ = #[(.ref a1123), (.int (5 : Int32)), (.int (2 : Int32))] ∧ Z.Warmed39 U_.vm ∧ U_.heap = h0) (fun _ _ _ _ _ => True) (fun _ U_ o_ V_ => ∃ v_ L_, o_ = .returned v_ ∧ own_s52_Q Z a1123 f237 f238 f163 f164 h0 n0 v_ V_.heap L_ ∧ FrameEnd U_ o_ V_ L_ ({ frames := 0, cells := 0, slots := 0, locals := 0 } : Room).cells ({ frames := 0, cells := 0, slots := 0, locals := 0 } : Room).slots) := by
  refine own_met (y := ⟨own_k0, "swap", "([DII)V"⟩) (Q := own_s52_Q Z a1123 f237 f238 f163 f164 h0 n0) own_pn0 ?_
  intro p e s m below meth c s₁ hx hby hml hZ hown hnm hret hlk X0 e0
  have N0 := Fr.nil n0
  refine own_cast (g' := (mkF m 0 #[.val (.ref a1123), .val (.int (5 : Int32)), .val (.int (2 : Int32)), .unset, .unset] [])) (by first | (simp [entryFrame, mkF, argsToLocals, Value.category]; done) | rfl) ?_
  generalize hL1261 : (#[.val (.ref a1123), .val (.int (5 : Int32)), .val (.int (2 : Int32)), .unset, .unset] : Array Slot) = L1261
  refine own_alN (w := (.ref a1123)) X0 hx (hb hby d13_0) (by rw [← hL1261]; rfl) rfl ?_
  refine own_ilN (w := (5 : Int32)) X0 hx (hb hby d13_1) (by rw [← hL1261]; rfl) ?_
  refine own_daload X0 hx hZ e0 H6 (hb hby d13_2) (n := 5) (v := (.double (4607182418800017408 : UInt64))) (by decide) (by decide) rfl ?_
  show own_Go _ _ _ _ _ _ _ s₁ (mkF m 3 L1261 [(.double (4607182418800017408 : UInt64))])
  refine own_pre (g' := (mkF m 4 #[.val (.ref a1123), .val (.int (5 : Int32)), .val (.int (2 : Int32)), .val (.double (4607182418800017408 : UInt64)), .second] [])) (fun t k => XS.dstoreN X0.here hx rfl (hb hby d13_3) rfl (l' := #[.val (.ref a1123), .val (.int (5 : Int32)), .val (.int (2 : Int32)), .val (.double (4607182418800017408 : UInt64)), .second]) (by rw [← hL1261]; rfl) k) ?_
  generalize hL1266 : (#[.val (.ref a1123), .val (.int (5 : Int32)), .val (.int (2 : Int32)), .val (.double (4607182418800017408 : UInt64)), .second] : Array Slot) = L1266
  refine own_alN (w := (.ref a1123)) X0 hx (hb hby d13_4) (by rw [← hL1266]; rfl) rfl ?_
  refine own_ilN (w := (5 : Int32)) X0 hx (hb hby d13_5) (by rw [← hL1266]; rfl) ?_
  refine own_alN (w := (.ref a1123)) X0 hx (hb hby d13_6) (by rw [← hL1266]; rfl) rfl ?_
  refine own_ilN (w := (2 : Int32)) X0 hx (hb hby d13_7) (by rw [← hL1266]; rfl) ?_
  refine own_daload X0 hx hZ e0 H6 (hb hby d13_8) (n := 2) (v := (.double (4607182418800017408 : UInt64))) (by decide) (by decide) rfl ?_
  show own_Go _ _ _ _ _ _ _ s₁ (mkF m 9 L1266 [(.double (4607182418800017408 : UInt64)), (.int (5 : Int32)), (.ref a1123)])
  refine own_dastore X0 hx hZ e0 N0 H8 H6 (hb hby d13_9) (n := 5) (by decide) (by decide) (by show 5 < 12; decide) ?_
  intro T1267 h1267 lo1267 X1267 e1267 N1267 W1267
  have F1268 : own_Ary Z h1267 a1123 .double ([(.double f237), (.double f238), (.double (4607182418800017408 : UInt64)), (.double f163), (.double f164), (.double (4607182418800017408 : UInt64))] ++ own_rD 6) := H6.set W1267
  show own_Go _ _ _ _ _ _ _ T1267 (mkF m 10 L1266 [])
  refine own_alN (w := (.ref a1123)) X1267 hx (hb hby d13_10) (by rw [← hL1266]; rfl) rfl ?_
  refine own_ilN (w := (2 : Int32)) X1267 hx (hb hby d13_11) (by rw [← hL1266]; rfl) ?_
  refine own_dlN (w := (4607182418800017408 : UInt64)) X1267 hx (hb hby d13_12) (by rw [← hL1266]; rfl) ?_
  refine own_dastore X1267 hx hZ e1267 N1267 H8 F1268 (hb hby d13_13) (n := 2) (by decide) (by decide) (by show 2 < 12; decide) ?_
  intro T1269 h1269 lo1269 X1269 e1269 N1269 W1269
  have F1270 : own_Ary Z h1269 a1123 .double ([(.double f237), (.double f238), (.double (4607182418800017408 : UInt64)), (.double f163), (.double f164), (.double (4607182418800017408 : UInt64))] ++ own_rD 6) := F1268.set W1269
  show own_Go _ _ _ _ _ _ _ T1269 (mkF m 14 L1266 [])
  exact own_ret0 X1269 hx hlk hret (hb hby d13_14) e1269 ⟨rfl, N1269, (((Keep.refl _ _).wr W1267 (Or.inl (by simp))).wr W1269 (Or.inl (by simp))), F1270⟩ (by decide) (by decide)
def own_s53_Q (Z : State) (a1283 : Addr) (h0 : Heap) (n0 : Nat) (v_ : Option Value) (h_ : Heap) (L_ : List Loc) : Prop := (fun v h L => v = none ∧ Fr n0 L ∧ Keep h0 h [a1283] ∧ Fld Z h a1283 own_k1 "low" "D" (.double (9218868437227405312 : UInt64)) ∧ Fld Z h a1283 own_k1 "high" "D" (.double (18442240474082181120 : UInt64)) ∧ Fld Z h a1283 own_k1 "gapLow" "D" (.double (0 : UInt64)) ∧ Fld Z h a1283 own_k1 "gapHigh" "D" (.double (0 : UInt64)) ∧ Fld Z h a1283 own_k1 "count" "D" (.double (0 : UInt64)) ∧ Fld Z h a1283 own_k1 "below" "D" (.double (0 : UInt64))) v_ h_ L_
set_option maxRecDepth 65536 in
set_option maxHeartbeats 40000000 in
theorem own_s53 (l : Launch) (Z : State) (a0 : Array Value) (hw : ∀ d ∈ tables_1, d.before a0 Z = true) (wds : List Jvm.Cond) (a1283 : Addr) (h0 : Heap) (n0 : Nat) (Z0 : n0 ≤ h0.size) (H5 : Exa Z h0 a1283 own_k1) (H6 : Fld Z h0 a1283 own_k1 "low" "D" (.double (0 : UInt64))) (H7 : Fld Z h0 a1283 own_k1 "high" "D" (.double (0 : UInt64))) (H8 : Fld Z h0 a1283 own_k1 "gapLow" "D" (.double (0 : UInt64))) (H9 : Fld Z h0 a1283 own_k1 "gapHigh" "D" (.double (0 : UInt64))) (H10 : Fld Z h0 a1283 own_k1 "count" "D" (.double (0 : UInt64))) (H11 : Fld Z h0 a1283 own_k1 "below" "D" (.double (0 : UInt64))) (H13 : n0 ≤ a1283) :
    MetFree l (⟨own_k1, "<init>", "()V"⟩ : MethodName) (head1 (Jvm.Cond.code (⟨own_k1, "<init>", "()V"⟩ : MethodName) prog_17_method_1_code 1 none :: wds) ({ frames := 1, cells := 0, slots := 0, locals := 12 } : Room)) (fun ar_ U_ => ar_ = #[(.ref a1283)] ∧ Z.Warmed39 U_.vm ∧ U_.heap = h0) (fun _ _ _ _ _ => True) (fun _ U_ o_ V_ => ∃ v_ L_, o_ = .returned v_ ∧ own_s53_Q Z a1283 h0 n0 v_ V_.heap L_ ∧ FrameEnd U_ o_ V_ L_ ({ frames := 1, cells := 0, slots := 0, locals := 12 } : Room).cells ({ frames := 1, cells := 0, slots := 0, locals := 12 } : Room).slots) := by
  refine own_met (y := ⟨own_k1, "<init>", "()V"⟩) (Q := own_s53_Q Z a1283 h0 n0) own_pn3 ?_
  intro p e s m below meth c s₁ hx hby hml hZ hown hnm hret hlk X0 e0
  have N0 := Fr.nil n0
  refine own_cast (g' := (mkF m 0 #[.val (.ref a1283)] [])) (by first | (simp [entryFrame, mkF, argsToLocals, Value.category]; done) | rfl) ?_
  refine own_alN (w := (.ref a1283)) X0 hx (hb hby d9_0) rfl rfl ?_
  refine own_init0 X0 hx hZ hown (own_w hw 63 rfl) (own_w hw 14 rfl) (own_w hw 15 rfl) e0 (hb hby d9_1) (by rw [hml]; rfl) (by decide) (W := 0) (Nat.le_of_eq rfl) (by decide) ?_
  intro T1301 X1301 e1301
  show own_Go _ _ _ _ _ _ _ T1301 (mkF m 4 #[.val (.ref a1283)] [])
  refine own_alN (w := (.ref a1283)) X1301 hx (hb hby d9_4) rfl rfl ?_
  refine own_ldcd X1301 hx hZ hown (own_w hw 64 rfl) (hb hby d9_5) ?_
  show own_Go _ _ _ _ _ _ _ T1301 (mkF m 8 #[.val (.ref a1283)] [(.double (9218868437227405312 : UInt64)), (.ref a1283)])
  refine own_putf X1301 hx hZ hown (own_w hw 65 rfl) e1301 N0 H13 H6 H5 (Or.inl (own_w hw 66 rfl)) (own_w hw 58 rfl) (ty := .double) (by decide) rfl rfl (hb hby d9_8) ?_
  intro T1302 h1302 lo1302 X1302 e1302 N1302 W1302
  have F1303 := H6.same W1302
  show own_Go _ _ _ _ _ _ _ T1302 (mkF m 11 #[.val (.ref a1283)] [])
  refine own_alN (w := (.ref a1283)) X1302 hx (hb hby d9_11) rfl rfl ?_
  refine own_ldcd X1302 hx hZ hown (own_w hw 67 rfl) (hb hby d9_12) ?_
  show own_Go _ _ _ _ _ _ _ T1302 (mkF m 15 #[.val (.ref a1283)] [(.double (18442240474082181120 : UInt64)), (.ref a1283)])
  have F1304 := (H7.other W1302 (Or.inr (own_sne (own_f6 hw) (own_f7 hw) (by decide))))
  have F1305 := (H5.wr W1302)
  refine own_putf X1302 hx hZ hown (own_w hw 68 rfl) e1302 N1302 H13 F1304 F1305 (Or.inl (own_w hw 69 rfl)) (own_w hw 58 rfl) (ty := .double) (by decide) rfl rfl (hb hby d9_15) ?_
  intro T1306 h1306 lo1306 X1306 e1306 N1306 W1306
  have F1307 := F1304.same W1306
  show own_Go _ _ _ _ _ _ _ T1306 (mkF m 18 #[.val (.ref a1283)] [])
  have F1308 := (F1303.other W1306 (Or.inr (own_sne (own_f7 hw) (own_f6 hw) (by decide))))
  have F1309 := ((H8.other W1302 (Or.inr (own_sne (own_f8 hw) (own_f7 hw) (by decide)))).other W1306 (Or.inr (own_sne (own_f8 hw) (own_f6 hw) (by decide))))
  have F1310 := ((H9.other W1302 (Or.inr (own_sne (own_f9 hw) (own_f7 hw) (by decide)))).other W1306 (Or.inr (own_sne (own_f9 hw) (own_f6 hw) (by decide))))
  have F1311 := ((H10.other W1302 (Or.inr (own_sne (own_f10 hw) (own_f7 hw) (by decide)))).other W1306 (Or.inr (own_sne (own_f10 hw) (own_f6 hw) (by decide))))
  have F1312 := ((H11.other W1302 (Or.inr (own_sne (own_f11 hw) (own_f7 hw) (by decide)))).other W1306 (Or.inr (own_sne (own_f11 hw) (own_f6 hw) (by decide))))
  exact own_ret0 X1306 hx hlk hret (hb hby d9_18) e1306 ⟨rfl, N1306, (((Keep.refl _ _).wr W1302 (Or.inl (by simp))).wr W1306 (Or.inl (by simp))), F1308, F1307, F1309, F1310, F1311, F1312⟩ (by decide) (by decide)
def own_s54_Q (Z : State) (a1283 : Addr) (f237 : UInt64) (f238 : UInt64) (h0 : Heap) (n0 : Nat) (v_ : Option Value) (h_ : Heap) (L_ : List Loc) : Prop := (fun v h L => v = none ∧ Fr n0 L ∧ Keep h0 h [a1283] ∧ Fld Z h a1283 own_k1 "low" "D" (.double f237) ∧ Fld Z h a1283 own_k1 "high" "D" (.double f238) ∧ Fld Z h a1283 own_k1 "gapLow" "D" (.double f238) ∧ Fld Z h a1283 own_k1 "gapHigh" "D" (.double f238) ∧ Fld Z h a1283 own_k1 "count" "D" (.double (4607182418800017408 : UInt64)) ∧ Fld Z h a1283 own_k1 "below" "D" (.double (0 : UInt64))) v_ h_ L_
set_option maxRecDepth 65536 in
set_option maxHeartbeats 40000000 in
theorem own_s54 (l : Launch) (Z : State) (a0 : Array Value) (hw : ∀ d ∈ tables_1, d.before a0 Z = true) (wds : List Jvm.Cond) (a1283 : Addr) (f237 : UInt64) (f238 : UInt64) (h0 : Heap) (n0 : Nat) (Z0 : n0 ≤ h0.size) (H5 : Exa Z h0 a1283 own_k1) (H6 : Fld Z h0 a1283 own_k1 "low" "D" (.double (9218868437227405312 : UInt64))) (H7 : Fld Z h0 a1283 own_k1 "high" "D" (.double (18442240474082181120 : UInt64))) (H8 : Fld Z h0 a1283 own_k1 "gapLow" "D" (.double (0 : UInt64))) (H9 : Fld Z h0 a1283 own_k1 "gapHigh" "D" (.double (0 : UInt64))) (H10 : Fld Z h0 a1283 own_k1 "count" "D" (.double (0 : UInt64))) (H11 : Fld Z h0 a1283 own_k1 "below" "D" (.double (0 : UInt64))) (H13 : n0 ≤ a1283) :
    MetFree l (⟨own_k1, "take", "(DDD)V"⟩ : MethodName) (head1 (Jvm.Cond.code (⟨own_k1, "take", "(DDD)V"⟩ : MethodName) prog_17_method_2_code 7 none :: wds) ({ frames := 0, cells := 0, slots := 0, locals := 0 } : Room)) (fun ar_ U_ => ar_ = #[(.ref a1283), (.double f237), (.double f238), (.double (4607182418800017408 : UInt64))] ∧ Z.Warmed39 U_.vm ∧ U_.heap = h0) (fun _ _ _ _ _ => True) (fun _ U_ o_ V_ => ∃ v_ L_, o_ = .returned v_ ∧ own_s54_Q Z a1283 f237 f238 h0 n0 v_ V_.heap L_ ∧ FrameEnd U_ o_ V_ L_ ({ frames := 0, cells := 0, slots := 0, locals := 0 } : Room).cells ({ frames := 0, cells := 0, slots := 0, locals := 0 } : Room).slots) := by
  refine own_met (y := ⟨own_k1, "take", "(DDD)V"⟩) (Q := own_s54_Q Z a1283 f237 f238 h0 n0) own_pn3 ?_
  intro p e s m below meth c s₁ hx hby hml hZ hown hnm hret hlk X0 e0
  have N0 := Fr.nil n0
  refine own_cast (g' := (mkF m 0 #[.val (.ref a1283), .val (.double f237), .second, .val (.double f238), .second, .val (.double (4607182418800017408 : UInt64)), .second] [])) (by first | (simp [entryFrame, mkF, argsToLocals, Value.category]; done) | rfl) ?_
  generalize hL1325 : (#[.val (.ref a1283), .val (.double f237), .second, .val (.double f238), .second, .val (.double (4607182418800017408 : UInt64)), .second] : Array Slot) = L1325
  refine own_alN (w := (.ref a1283)) X0 hx (hb hby d10_0) (by rw [← hL1325]; rfl) rfl ?_
  refine own_getf X0 hx hZ hown (own_w hw 65 rfl) e0 H6 (hb hby d10_1) ?_
  intro T1330 X1330 e1330
  show own_Go _ _ _ _ _ _ _ T1330 (mkF m 4 L1325 [(.double (9218868437227405312 : UInt64))])
  refine own_alN (w := (.ref a1283)) X1330 hx (hb hby d10_4) (by rw [← hL1325]; rfl) rfl ?_
  refine own_getf X1330 hx hZ hown (own_w hw 68 rfl) e1330 H7 (hb hby d10_5) ?_
  intro T1331 X1331 e1331
  show own_Go _ _ _ _ _ _ _ T1331 (mkF m 8 L1325 [(.double (18442240474082181120 : UInt64)), (.double (9218868437227405312 : UInt64))])
  refine own_pre (g' := (mkF m 9 L1325 [(.int (1 : Int32))])) (fun t k => XS.dcmpS X1331.here hx rfl (v := (1 : Int32)) (hb hby d10_8) rfl (by decide +kernel) k) ?_
  refine own_pre (g' := (mkF m 12 L1325 [])) (fun t k => XS.ifNo X1331.here hx rfl (hb hby d10_9) rfl (by decide) k) ?_
  refine own_alN (w := (.ref a1283)) X1331 hx (hb hby d10_12) (by rw [← hL1325]; rfl) rfl ?_
  refine own_dlN (w := f237) X1331 hx (hb hby d10_13) (by rw [← hL1325]; rfl) ?_
  refine own_putf X1331 hx hZ hown (own_w hw 65 rfl) e1331 N0 H13 H6 H5 (Or.inl (own_w hw 66 rfl)) (own_w hw 58 rfl) (ty := .double) (by decide) rfl rfl (hb hby d10_14) ?_
  intro T1332 h1332 lo1332 X1332 e1332 N1332 W1332
  have F1333 := H6.same W1332
  show own_Go _ _ _ _ _ _ _ T1332 (mkF m 17 L1325 [])
  refine own_alN (w := (.ref a1283)) X1332 hx (hb hby d10_17) (by rw [← hL1325]; rfl) rfl ?_
  refine own_dlN (w := f238) X1332 hx (hb hby d10_18) (by rw [← hL1325]; rfl) ?_
  have F1334 := (H7.other W1332 (Or.inr (own_sne (own_f6 hw) (own_f7 hw) (by decide))))
  have F1335 := (H5.wr W1332)
  refine own_putf X1332 hx hZ hown (own_w hw 68 rfl) e1332 N1332 H13 F1334 F1335 (Or.inl (own_w hw 69 rfl)) (own_w hw 58 rfl) (ty := .double) (by decide) rfl rfl (hb hby d10_19) ?_
  intro T1336 h1336 lo1336 X1336 e1336 N1336 W1336
  have F1337 := F1334.same W1336
  show own_Go _ _ _ _ _ _ _ T1336 (mkF m 22 L1325 [])
  refine own_alN (w := (.ref a1283)) X1336 hx (hb hby d10_22) (by rw [← hL1325]; rfl) rfl ?_
  refine own_dlN (w := f238) X1336 hx (hb hby d10_23) (by rw [← hL1325]; rfl) ?_
  have F1338 := ((H8.other W1332 (Or.inr (own_sne (own_f8 hw) (own_f7 hw) (by decide)))).other W1336 (Or.inr (own_sne (own_f8 hw) (own_f6 hw) (by decide))))
  have F1339 := (F1335.wr W1336)
  refine own_putf X1336 hx hZ hown (own_w hw 75 rfl) e1336 N1336 H13 F1338 F1339 (Or.inl (own_w hw 76 rfl)) (own_w hw 58 rfl) (ty := .double) (by decide) rfl rfl (hb hby d10_24) ?_
  intro T1340 h1340 lo1340 X1340 e1340 N1340 W1340
  have F1341 := F1338.same W1340
  show own_Go _ _ _ _ _ _ _ T1340 (mkF m 27 L1325 [])
  refine own_alN (w := (.ref a1283)) X1340 hx (hb hby d10_27) (by rw [← hL1325]; rfl) rfl ?_
  refine own_dlN (w := f238) X1340 hx (hb hby d10_28) (by rw [← hL1325]; rfl) ?_
  have F1342 := (((H9.other W1332 (Or.inr (own_sne (own_f9 hw) (own_f7 hw) (by decide)))).other W1336 (Or.inr (own_sne (own_f9 hw) (own_f6 hw) (by decide)))).other W1340 (Or.inr (own_sne (own_f9 hw) (own_f8 hw) (by decide))))
  have F1343 := (F1339.wr W1340)
  refine own_putf X1340 hx hZ hown (own_w hw 77 rfl) e1340 N1340 H13 F1342 F1343 (Or.inl (own_w hw 78 rfl)) (own_w hw 58 rfl) (ty := .double) (by decide) rfl rfl (hb hby d10_29) ?_
  intro T1344 h1344 lo1344 X1344 e1344 N1344 W1344
  have F1345 := F1342.same W1344
  show own_Go _ _ _ _ _ _ _ T1344 (mkF m 32 L1325 [])
  refine own_alN (w := (.ref a1283)) X1344 hx (hb hby d10_32) (by rw [← hL1325]; rfl) rfl ?_
  refine own_dl (w := (4607182418800017408 : UInt64)) X1344 hx (hb hby d10_33) (by rw [← hL1325]; rfl) ?_
  have F1346 := ((((H10.other W1332 (Or.inr (own_sne (own_f10 hw) (own_f7 hw) (by decide)))).other W1336 (Or.inr (own_sne (own_f10 hw) (own_f6 hw) (by decide)))).other W1340 (Or.inr (own_sne (own_f10 hw) (own_f8 hw) (by decide)))).other W1344 (Or.inr (own_sne (own_f10 hw) (own_f9 hw) (by decide))))
  have F1347 := (F1343.wr W1344)
  refine own_putf X1344 hx hZ hown (own_w hw 79 rfl) e1344 N1344 H13 F1346 F1347 (Or.inl (own_w hw 80 rfl)) (own_w hw 58 rfl) (ty := .double) (by decide) rfl rfl (hb hby d10_35) ?_
  intro T1348 h1348 lo1348 X1348 e1348 N1348 W1348
  have F1349 := F1346.same W1348
  show own_Go _ _ _ _ _ _ _ T1348 (mkF m 38 L1325 [])
  have F1350 := ((((F1333.other W1336 (Or.inr (own_sne (own_f7 hw) (own_f6 hw) (by decide)))).other W1340 (Or.inr (own_sne (own_f7 hw) (own_f8 hw) (by decide)))).other W1344 (Or.inr (own_sne (own_f7 hw) (own_f9 hw) (by decide)))).other W1348 (Or.inr (own_sne (own_f7 hw) (own_f10 hw) (by decide))))
  have F1351 := (((F1337.other W1340 (Or.inr (own_sne (own_f6 hw) (own_f8 hw) (by decide)))).other W1344 (Or.inr (own_sne (own_f6 hw) (own_f9 hw) (by decide)))).other W1348 (Or.inr (own_sne (own_f6 hw) (own_f10 hw) (by decide))))
  have F1352 := ((F1341.other W1344 (Or.inr (own_sne (own_f8 hw) (own_f9 hw) (by decide)))).other W1348 (Or.inr (own_sne (own_f8 hw) (own_f10 hw) (by decide))))
  have F1353 := (F1345.other W1348 (Or.inr (own_sne (own_f9 hw) (own_f10 hw) (by decide))))
  have F1354 := (((((H11.other W1332 (Or.inr (own_sne (own_f11 hw) (own_f7 hw) (by decide)))).other W1336 (Or.inr (own_sne (own_f11 hw) (own_f6 hw) (by decide)))).other W1340 (Or.inr (own_sne (own_f11 hw) (own_f8 hw) (by decide)))).other W1344 (Or.inr (own_sne (own_f11 hw) (own_f9 hw) (by decide)))).other W1348 (Or.inr (own_sne (own_f11 hw) (own_f10 hw) (by decide))))
  exact own_ret0 X1348 hx hlk hret (hb hby d10_38) e1348 ⟨rfl, N1348, ((((((Keep.refl _ _).wr W1332 (Or.inl (by simp))).wr W1336 (Or.inl (by simp))).wr W1340 (Or.inl (by simp))).wr W1344 (Or.inl (by simp))).wr W1348 (Or.inl (by simp))), F1350, F1351, F1352, F1353, F1349, F1354⟩ (by decide) (by decide)
def own_s55_Q (Z : State) (a1283 : Addr) (f163 : UInt64) (f164 : UInt64) (f237 : UInt64) (f238 : UInt64) (p4 : Int32) (p5 : Int32) (v7 : Int32) (w0 : Int32) (v15 : Int32) (h0 : Heap) (n0 : Nat) (v_ : Option Value) (h_ : Heap) (L_ : List Loc) : Prop := (fun v h L => ∃ (f1397 : UInt64) (f1404 : UInt64), v = none ∧ Fr n0 L ∧ Keep h0 h [a1283] ∧ Fld Z h a1283 own_k1 "low" "D" (.double f237) ∧ Fld Z h a1283 own_k1 "high" "D" (.double f1397) ∧ Fld Z h a1283 own_k1 "gapLow" "D" (.double f238) ∧ Fld Z h a1283 own_k1 "gapHigh" "D" (.double f163) ∧ Fld Z h a1283 own_k1 "count" "D" (.double f1404) ∧ Fld Z h a1283 own_k1 "below" "D" (.double (4607182418800017408 : UInt64)) ∧ FP.Core.DInt p4.toInt f1397 ∧ FP.Core.DInt (1 + 1) f1404) v_ h_ L_
set_option maxRecDepth 65536 in
set_option maxHeartbeats 40000000 in
theorem own_s55 (l : Launch) (Z : State) (a0 : Array Value) (hw : ∀ d ∈ tables_1, d.before a0 Z = true) (wds : List Jvm.Cond) (a1283 : Addr) (f163 : UInt64) (f164 : UInt64) (f237 : UInt64) (f238 : UInt64) (p4 : Int32) (p5 : Int32) (v7 : Int32) (w0 : Int32) (v15 : Int32) (h0 : Heap) (n0 : Nat) (Z0 : n0 ≤ h0.size) (H5 : Exa Z h0 a1283 own_k1) (H6 : Fld Z h0 a1283 own_k1 "low" "D" (.double f237)) (H7 : Fld Z h0 a1283 own_k1 "high" "D" (.double f238)) (H8 : Fld Z h0 a1283 own_k1 "gapLow" "D" (.double f238)) (H9 : Fld Z h0 a1283 own_k1 "gapHigh" "D" (.double f238)) (H10 : Fld Z h0 a1283 own_k1 "count" "D" (.double (4607182418800017408 : UInt64))) (H11 : Fld Z h0 a1283 own_k1 "below" "D" (.double (0 : UInt64))) (H13 : n0 ≤ a1283) (H14 : FP.Core.DInt p4.toInt f163) (H15 : FP.Core.DInt p4.toInt f164) (H16 : FP.Core.DInt p5.toInt f237) (H17 : FP.Core.DInt p5.toInt f238) (H18 : 0 ≤ v7.toInt ∧ v7.toInt ≤ 65535) (H19 : 0 ≤ w0.toInt ∧ w0.toInt ≤ 65535) (H20 : 0 ≤ v15.toInt ∧ v15.toInt ≤ 65535) (H21 : p5.toInt < p4.toInt) :
    MetFree l (⟨own_k1, "take", "(DDD)V"⟩ : MethodName) (head1 (Jvm.Cond.code (⟨own_k1, "take", "(DDD)V"⟩ : MethodName) prog_17_method_2_code 7 none :: wds) ({ frames := 1, cells := 0, slots := 0, locals := 16 } : Room)) (fun ar_ U_ => ar_ = #[(.ref a1283), (.double f163), (.double f164), (.double (4607182418800017408 : UInt64))] ∧ Z.Warmed39 U_.vm ∧ U_.heap = h0) (fun _ _ _ _ _ => True) (fun _ U_ o_ V_ => ∃ v_ L_, o_ = .returned v_ ∧ own_s55_Q Z a1283 f163 f164 f237 f238 p4 p5 v7 w0 v15 h0 n0 v_ V_.heap L_ ∧ FrameEnd U_ o_ V_ L_ ({ frames := 1, cells := 0, slots := 0, locals := 16 } : Room).cells ({ frames := 1, cells := 0, slots := 0, locals := 16 } : Room).slots) := by
  refine own_met (y := ⟨own_k1, "take", "(DDD)V"⟩) (Q := own_s55_Q Z a1283 f163 f164 f237 f238 p4 p5 v7 w0 v15 h0 n0) own_pn3 ?_
  intro p e s m below meth c s₁ hx hby hml hZ hown hnm hret hlk X0 e0
  have N0 := Fr.nil n0
  refine own_cast (g' := (mkF m 0 #[.val (.ref a1283), .val (.double f163), .second, .val (.double f164), .second, .val (.double (4607182418800017408 : UInt64)), .second] [])) (by first | (simp [entryFrame, mkF, argsToLocals, Value.category]; done) | rfl) ?_
  generalize hL1366 : (#[.val (.ref a1283), .val (.double f163), .second, .val (.double f164), .second, .val (.double (4607182418800017408 : UInt64)), .second] : Array Slot) = L1366
  refine own_alN (w := (.ref a1283)) X0 hx (hb hby d10_0) (by rw [← hL1366]; rfl) rfl ?_
  refine own_getf X0 hx hZ hown (own_w hw 65 rfl) e0 H6 (hb hby d10_1) ?_
  intro T1371 X1371 e1371
  show own_Go _ _ _ _ _ _ _ T1371 (mkF m 4 L1366 [(.double f237)])
  refine own_alN (w := (.ref a1283)) X1371 hx (hb hby d10_4) (by rw [← hL1366]; rfl) rfl ?_
  refine own_getf X1371 hx hZ hown (own_w hw 68 rfl) e1371 H7 (hb hby d10_5) ?_
  intro T1372 X1372 e1372
  show own_Go _ _ _ _ _ _ _ T1372 (mkF m 8 L1366 [(.double f238), (.double f237)])
  obtain ⟨k1373, hk1373⟩ : ∃ z, own_c p5.toInt p5.toInt = z := ⟨_, rfl⟩
  refine own_pre (g' := (mkF m 9 L1366 [(.int k1373)])) (fun t k => XS.dcmpS X1372.here hx rfl (hb hby d10_8) rfl ((own_dcmp H16 H17 _).trans hk1373) k) ?_
  have hc1374 : ¬ (0 : Int32) < k1373 := by rw [← hk1373, own_c_gt] <;> (have := H18; have := H19; have := H20; have := H21; have := rng32 p5; omega)
  refine own_pre (g' := (mkF m 39 L1366 [])) (fun t k => XS.ifYes X1372.here hx rfl (pc0 := 9) (pc' := 39) rfl (hb hby d10_9) rfl ((if0 _ _).trans (flt hc1374).2.2.2) (by decide) (by decide) k) ?_
  refine own_dlN (w := f163) X1372 hx (hb hby d10_39) (by rw [← hL1366]; rfl) ?_
  refine own_alN (w := (.ref a1283)) X1372 hx (hb hby d10_40) (by rw [← hL1366]; rfl) rfl ?_
  refine own_getf X1372 hx hZ hown (own_w hw 68 rfl) e1372 H7 (hb hby d10_41) ?_
  intro T1375 X1375 e1375
  show own_Go _ _ _ _ _ _ _ T1375 (mkF m 44 L1366 [(.double f238), (.double f163)])
  obtain ⟨k1376, hk1376⟩ : ∃ z, own_c p4.toInt p5.toInt = z := ⟨_, rfl⟩
  refine own_pre (g' := (mkF m 45 L1366 [(.int k1376)])) (fun t k => XS.dcmpS X1375.here hx rfl (hb hby d10_44) rfl ((own_dcmp H14 H17 _).trans hk1376) k) ?_
  have hc1377 : (0 : Int32) < k1376 := by rw [← hk1376, own_c_gt] <;> (have := H18; have := H19; have := H20; have := H21; have := rng32 p4; have := rng32 p5; omega)
  refine own_pre (g' := (mkF m 48 L1366 [])) (fun t k => XS.ifNo X1375.here hx rfl (hb hby d10_45) rfl ((if0 _ _).trans (tlt hc1377).2.2.2) k) ?_
  refine own_alN (w := (.ref a1283)) X1375 hx (hb hby d10_48) (by rw [← hL1366]; rfl) rfl ?_
  refine own_getf X1375 hx hZ hown (own_w hw 75 rfl) e1375 H8 (hb hby d10_49) ?_
  intro T1378 X1378 e1378
  show own_Go _ _ _ _ _ _ _ T1378 (mkF m 52 L1366 [(.double f238)])
  refine own_alN (w := (.ref a1283)) X1378 hx (hb hby d10_52) (by rw [← hL1366]; rfl) rfl ?_
  refine own_getf X1378 hx hZ hown (own_w hw 77 rfl) e1378 H9 (hb hby d10_53) ?_
  intro T1379 X1379 e1379
  show own_Go _ _ _ _ _ _ _ T1379 (mkF m 56 L1366 [(.double f238), (.double f238)])
  obtain ⟨k1380, hk1380⟩ : ∃ z, own_c p5.toInt p5.toInt = z := ⟨_, rfl⟩
  refine own_pre (g' := (mkF m 57 L1366 [(.int k1380)])) (fun t k => XS.dcmpS X1379.here hx rfl (hb hby d10_56) rfl ((own_dcmp H17 H17 _).trans hk1380) k) ?_
  have hc1381 : k1380 = (0 : Int32) := by rw [← hk1380, own_c_eq] <;> (have := H18; have := H19; have := H20; have := H21; have := rng32 p5; omega)
  refine own_pre (g' := (mkF m 79 L1366 [])) (fun t k => XS.ifYes X1379.here hx rfl (pc0 := 57) (pc' := 79) rfl (hb hby d10_57) rfl ((if0 _ _).trans (teq hc1381).1) (by decide) (by decide) k) ?_
  refine own_alN (w := (.ref a1283)) X1379 hx (hb hby d10_79) (by rw [← hL1366]; rfl) rfl ?_
  refine own_alN (w := (.ref a1283)) X1379 hx (hb hby d10_80) (by rw [← hL1366]; rfl) rfl ?_
  refine own_getf X1379 hx hZ hown (own_w hw 68 rfl) e1379 H7 (hb hby d10_81) ?_
  intro T1382 X1382 e1382
  show own_Go _ _ _ _ _ _ _ T1382 (mkF m 84 L1366 [(.double f238), (.ref a1283)])
  refine own_putf X1382 hx hZ hown (own_w hw 75 rfl) e1382 N0 H13 H8 H5 (Or.inl (own_w hw 76 rfl)) (own_w hw 58 rfl) (ty := .double) (by decide) rfl rfl (hb hby d10_84) ?_
  intro T1383 h1383 lo1383 X1383 e1383 N1383 W1383
  have F1384 := H8.same W1383
  show own_Go _ _ _ _ _ _ _ T1383 (mkF m 87 L1366 [])
  refine own_alN (w := (.ref a1283)) X1383 hx (hb hby d10_87) (by rw [← hL1366]; rfl) rfl ?_
  refine own_dlN (w := f163) X1383 hx (hb hby d10_88) (by rw [← hL1366]; rfl) ?_
  have F1385 := (H9.other W1383 (Or.inr (own_sne (own_f9 hw) (own_f8 hw) (by decide))))
  have F1386 := (H5.wr W1383)
  refine own_putf X1383 hx hZ hown (own_w hw 77 rfl) e1383 N1383 H13 F1385 F1386 (Or.inl (own_w hw 78 rfl)) (own_w hw 58 rfl) (ty := .double) (by decide) rfl rfl (hb hby d10_89) ?_
  intro T1387 h1387 lo1387 X1387 e1387 N1387 W1387
  have F1388 := F1385.same W1387
  show own_Go _ _ _ _ _ _ _ T1387 (mkF m 92 L1366 [])
  refine own_alN (w := (.ref a1283)) X1387 hx (hb hby d10_92) (by rw [← hL1366]; rfl) rfl ?_
  refine own_alN (w := (.ref a1283)) X1387 hx (hb hby d10_93) (by rw [← hL1366]; rfl) rfl ?_
  have F1389 := ((H10.other W1383 (Or.inr (own_sne (own_f10 hw) (own_f8 hw) (by decide)))).other W1387 (Or.inr (own_sne (own_f10 hw) (own_f9 hw) (by decide))))
  refine own_getf X1387 hx hZ hown (own_w hw 79 rfl) e1387 F1389 (hb hby d10_94) ?_
  intro T1390 X1390 e1390
  show own_Go _ _ _ _ _ _ _ T1390 (mkF m 97 L1366 [(.double (4607182418800017408 : UInt64)), (.ref a1283)])
  have F1391 := ((H11.other W1383 (Or.inr (own_sne (own_f11 hw) (own_f8 hw) (by decide)))).other W1387 (Or.inr (own_sne (own_f11 hw) (own_f9 hw) (by decide))))
  have F1392 := (F1386.wr W1387)
  refine own_putf X1390 hx hZ hown (own_w hw 81 rfl) e1390 N1387 H13 F1391 F1392 (Or.inl (own_w hw 82 rfl)) (own_w hw 58 rfl) (ty := .double) (by decide) rfl rfl (hb hby d10_97) ?_
  intro T1393 h1393 lo1393 X1393 e1393 N1393 W1393
  have F1394 := F1391.same W1393
  show own_Go _ _ _ _ _ _ _ T1393 (mkF m 100 L1366 [])
  refine own_alN (w := (.ref a1283)) X1393 hx (hb hby d10_100) (by rw [← hL1366]; rfl) rfl ?_
  refine own_alN (w := (.ref a1283)) X1393 hx (hb hby d10_101) (by rw [← hL1366]; rfl) rfl ?_
  have F1395 := (((H7.other W1383 (Or.inr (own_sne (own_f6 hw) (own_f8 hw) (by decide)))).other W1387 (Or.inr (own_sne (own_f6 hw) (own_f9 hw) (by decide)))).other W1393 (Or.inr (own_sne (own_f6 hw) (own_f11 hw) (by decide))))
  refine own_getf X1393 hx hZ hown (own_w hw 68 rfl) e1393 F1395 (hb hby d10_102) ?_
  intro T1396 X1396 e1396
  show own_Go _ _ _ _ _ _ _ T1396 (mkF m 105 L1366 [(.double f238), (.ref a1283)])
  refine own_dlN (w := f164) X1396 hx (hb hby d10_105) (by rw [← hL1366]; rfl) ?_
  obtain ⟨f1397, hf1397⟩ : ∃ z, Native.java_lang_Math.nans.pick64 true f238 f164 = z := ⟨_, rfl⟩
  have Df1397 : FP.Core.DInt p4.toInt f1397 := hf1397 ▸ own_pickR H17 H15 (by have := H18; have := H19; have := H20; have := H21; have := rng32 p5; have := rng32 p4; omega)
  refine own_maxd X1396 hx hZ hown (own_w hw 83 rfl) (own_w hw 84 rfl) (own_w hw 85 rfl) (own_w hw 86 rfl) e1396 (hb hby d10_106) (by rw [hml, ← hL1366]; rfl) (own_DInt_nn H17) (own_DInt_nn H15) (r := f1397) hf1397 (by decide) (W := 1) (Nat.le_of_eq rfl) (by decide) (by decide) (by decide) ?_
  intro T1398 X1398 e1398
  show own_Go _ _ _ _ _ _ _ T1398 (mkF m 109 L1366 [(.double f1397), (.ref a1283)])
  have F1399 := (F1392.wr W1393)
  refine own_putf X1398 hx hZ hown (own_w hw 68 rfl) e1398 N1393 H13 F1395 F1399 (Or.inl (own_w hw 69 rfl)) (own_w hw 58 rfl) (ty := .double) (by decide) rfl rfl (hb hby d10_109) ?_
  intro T1400 h1400 lo1400 X1400 e1400 N1400 W1400
  have F1401 := F1395.same W1400
  show own_Go _ _ _ _ _ _ _ T1400 (mkF m 112 L1366 [])
  refine own_alN (w := (.ref a1283)) X1400 hx (hb hby d10_112) (by rw [← hL1366]; rfl) rfl ?_
  refine own_pre (g' := (mkF m 114 L1366 [(.ref a1283), (.ref a1283)])) (fun t k => XS.dup X1400.here hx rfl (hb hby d10_113) rfl rfl k) ?_
  have F1402 := ((F1389.other W1393 (Or.inr (own_sne (own_f10 hw) (own_f11 hw) (by decide)))).other W1400 (Or.inr (own_sne (own_f10 hw) (own_f6 hw) (by decide))))
  refine own_getf X1400 hx hZ hown (own_w hw 79 rfl) e1400 F1402 (hb hby d10_114) ?_
  intro T1403 X1403 e1403
  show own_Go _ _ _ _ _ _ _ T1403 (mkF m 117 L1366 [(.double (4607182418800017408 : UInt64)), (.ref a1283)])
  refine own_dl (w := (4607182418800017408 : UInt64)) X1403 hx (hb hby d10_117) (by rw [← hL1366]; rfl) ?_
  obtain ⟨f1404, hf1404⟩ : ∃ z, FP.dadd (4607182418800017408 : UInt64) (4607182418800017408 : UInt64) = z := ⟨_, rfl⟩
  have Df1404 : Jvm.FP.Core.DInt (1 + 1) f1404 := hf1404 ▸ Jvm.FP.Core.dadd_int FP.Core.dint_one FP.Core.dint_one (by have := H18; have := H19; have := H20; have := H21; omega)
  refine own_pre (g' := (mkF m 120 L1366 [(.double f1404), (.ref a1283)])) (fun t k => XS.daddS X1403.here hx rfl (hb hby d10_119) rfl (by rw [hf1404]; exact own_DInt_nn Df1404) hf1404 k) ?_
  have F1405 := (F1399.wr W1400)
  refine own_putf X1403 hx hZ hown (own_w hw 79 rfl) e1403 N1400 H13 F1402 F1405 (Or.inl (own_w hw 80 rfl)) (own_w hw 58 rfl) (ty := .double) (by decide) rfl rfl (hb hby d10_120) ?_
  intro T1406 h1406 lo1406 X1406 e1406 N1406 W1406
  have F1407 := F1402.same W1406
  show own_Go _ _ _ _ _ _ _ T1406 (mkF m 123 L1366 [])
  have F1408 := (((((H6.other W1383 (Or.inr (own_sne (own_f7 hw) (own_f8 hw) (by decide)))).other W1387 (Or.inr (own_sne (own_f7 hw) (own_f9 hw) (by decide)))).other W1393 (Or.inr (own_sne (own_f7 hw) (own_f11 hw) (by decide)))).other W1400 (Or.inr (own_sne (own_f7 hw) (own_f6 hw) (by decide)))).other W1406 (Or.inr (own_sne (own_f7 hw) (own_f10 hw) (by decide))))
  have F1409 := (F1401.other W1406 (Or.inr (own_sne (own_f6 hw) (own_f10 hw) (by decide))))
  have F1410 := ((((F1384.other W1387 (Or.inr (own_sne (own_f8 hw) (own_f9 hw) (by decide)))).other W1393 (Or.inr (own_sne (own_f8 hw) (own_f11 hw) (by decide)))).other W1400 (Or.inr (own_sne (own_f8 hw) (own_f6 hw) (by decide)))).other W1406 (Or.inr (own_sne (own_f8 hw) (own_f10 hw) (by decide))))
  have F1411 := (((F1388.other W1393 (Or.inr (own_sne (own_f9 hw) (own_f11 hw) (by decide)))).other W1400 (Or.inr (own_sne (own_f9 hw) (own_f6 hw) (by decide)))).other W1406 (Or.inr (own_sne (own_f9 hw) (own_f10 hw) (by decide))))
  have F1412 := ((F1394.other W1400 (Or.inr (own_sne (own_f11 hw) (own_f6 hw) (by decide)))).other W1406 (Or.inr (own_sne (own_f11 hw) (own_f10 hw) (by decide))))
  exact own_ret0 X1406 hx hlk hret (hb hby d10_123) e1406 ⟨f1397, f1404, rfl, N1406, ((((((Keep.refl _ _).wr W1383 (Or.inl (by simp))).wr W1387 (Or.inl (by simp))).wr W1393 (Or.inl (by simp))).wr W1400 (Or.inl (by simp))).wr W1406 (Or.inl (by simp))), F1408, F1409, F1410, F1411, F1407, F1412, Df1397, Df1404⟩ (by decide) (by decide)
def own_s58_Q (Z : State) (a1439 : Addr) (h0 : Heap) (n0 : Nat) (v_ : Option Value) (h_ : Heap) (L_ : List Loc) : Prop := (fun v h L => v = none ∧ Fr n0 L ∧ h = h0) v_ h_ L_
set_option maxRecDepth 65536 in
set_option maxHeartbeats 40000000 in
theorem own_s58 (l : Launch) (Z : State) (a0 : Array Value) (hw : ∀ d ∈ tables_1, d.before a0 Z = true) (wds : List Jvm.Cond) (a1439 : Addr) (h0 : Heap) (n0 : Nat) (Z0 : n0 ≤ h0.size)  :
    MetFree l (⟨"java/lang/Record", "<init>", "()V"⟩ : MethodName) (head1 (Jvm.Cond.code (⟨"java/lang/Record", "<init>", "()V"⟩ : MethodName) jdk_30_method_1_code 1 none :: wds) ({ frames := 1, cells := 0, slots := 0, locals := 12 } : Room)) (fun ar_ U_ => ar_ = #[(.ref a1439)] ∧ Z.Warmed39 U_.vm ∧ U_.heap = h0) (fun _ _ _ _ _ => True) (fun _ U_ o_ V_ => ∃ v_ L_, o_ = .returned v_ ∧ own_s58_Q Z a1439 h0 n0 v_ V_.heap L_ ∧ FrameEnd U_ o_ V_ L_ ({ frames := 1, cells := 0, slots := 0, locals := 12 } : Room).cells ({ frames := 1, cells := 0, slots := 0, locals := 12 } : Room).slots) := by
  refine own_met (y := ⟨"java/lang/Record", "<init>", "()V"⟩) (Q := own_s58_Q Z a1439 h0 n0) own_pn2 ?_
  intro p e s m below meth c s₁ hx hby hml hZ hown hnm hret hlk X0 e0
  have N0 := Fr.nil n0
  refine own_cast (g' := (mkF m 0 #[.val (.ref a1439)] [])) (by first | (simp [entryFrame, mkF, argsToLocals, Value.category]; done) | rfl) ?_
  refine own_alN (w := (.ref a1439)) X0 hx (hb hby d2_0) rfl rfl ?_
  refine own_init0 X0 hx hZ hown (own_w hw 13 rfl) (own_w hw 14 rfl) (own_w hw 15 rfl) e0 (hb hby d2_1) (by rw [hml]; rfl) (by decide) (W := 0) (Nat.le_of_eq rfl) (by decide) ?_
  intro T1467 X1467 e1467
  show own_Go _ _ _ _ _ _ _ T1467 (mkF m 4 #[.val (.ref a1439)] [])
  exact own_ret0 X1467 hx hlk hret (hb hby d2_4) e1467 ⟨rfl, N0, rfl⟩ (by decide) (by decide)
def own_s57_Q (Z : State) (a1439 : Addr) (f237 : UInt64) (f238 : UInt64) (f163 : UInt64) (f1415 : UInt64) (f1416 : UInt64) (h0 : Heap) (n0 : Nat) (v_ : Option Value) (h_ : Heap) (L_ : List Loc) : Prop := (fun v h L => v = none ∧ Fr n0 L ∧ Keep h0 h [a1439] ∧ Fld Z h a1439 own_k0 "low" "D" (.double f237) ∧ Fld Z h a1439 own_k0 "gapLow" "D" (.double f238) ∧ Fld Z h a1439 own_k0 "gapHigh" "D" (.double f163) ∧ Fld Z h a1439 own_k0 "high" "D" (.double f1415) ∧ Fld Z h a1439 own_k0 "below" "D" (.double (4607182418800017408 : UInt64)) ∧ Fld Z h a1439 own_k0 "count" "D" (.double f1416)) v_ h_ L_
set_option maxRecDepth 65536 in
set_option maxHeartbeats 40000000 in
theorem own_s57 (l : Launch) (Z : State) (a0 : Array Value) (hw : ∀ d ∈ tables_1, d.before a0 Z = true) (wds : List Jvm.Cond) (a1439 : Addr) (f237 : UInt64) (f238 : UInt64) (f163 : UInt64) (f1415 : UInt64) (f1416 : UInt64) (h0 : Heap) (n0 : Nat) (Z0 : n0 ≤ h0.size) (H5 : Exa Z h0 a1439 own_k0) (H6 : Fld Z h0 a1439 own_k0 "low" "D" (.double (0 : UInt64))) (H7 : Fld Z h0 a1439 own_k0 "gapLow" "D" (.double (0 : UInt64))) (H8 : Fld Z h0 a1439 own_k0 "gapHigh" "D" (.double (0 : UInt64))) (H9 : Fld Z h0 a1439 own_k0 "high" "D" (.double (0 : UInt64))) (H10 : Fld Z h0 a1439 own_k0 "below" "D" (.double (0 : UInt64))) (H11 : Fld Z h0 a1439 own_k0 "count" "D" (.double (0 : UInt64))) (H13 : n0 ≤ a1439) :
    MetFree l (⟨own_k0, "<init>", "(DDDDDD)V"⟩ : MethodName) (head1 (Jvm.Cond.code (⟨own_k0, "<init>", "(DDDDDD)V"⟩ : MethodName) prog_16_method_1_code 13 none :: wds) ({ frames := 2, cells := 0, slots := 0, locals := 24 } : Room)) (fun ar_ U_ => ar_ = #[(.ref a1439), (.double f237), (.double f238), (.double f163), (.double f1415), (.double (4607182418800017408 : UInt64)), (.double f1416)] ∧ Z.Warmed39 U_.vm ∧ U_.heap = h0) (fun _ _ _ _ _ => True) (fun _ U_ o_ V_ => ∃ v_ L_, o_ = .returned v_ ∧ own_s57_Q Z a1439 f237 f238 f163 f1415 f1416 h0 n0 v_ V_.heap L_ ∧ FrameEnd U_ o_ V_ L_ ({ frames := 2, cells := 0, slots := 0, locals := 24 } : Room).cells ({ frames := 2, cells := 0, slots := 0, locals := 24 } : Room).slots) := by
  refine own_met (y := ⟨own_k0, "<init>", "(DDDDDD)V"⟩) (Q := own_s57_Q Z a1439 f237 f238 f163 f1415 f1416 h0 n0) own_pn0 ?_
  intro p e s m below meth c s₁ hx hby hml hZ hown hnm hret hlk X0 e0
  have N0 := Fr.nil n0
  refine own_cast (g' := (mkF m 0 #[.val (.ref a1439), .val (.double f237), .second, .val (.double f238), .second, .val (.double f163), .second, .val (.double f1415), .second, .val (.double (4607182418800017408 : UInt64)), .second, .val (.double f1416), .second] [])) (by first | (simp [entryFrame, mkF, argsToLocals, Value.category]; done) | rfl) ?_
  generalize hL1462 : (#[.val (.ref a1439), .val (.double f237), .second, .val (.double f238), .second, .val (.double f163), .second, .val (.double f1415), .second, .val (.double (4607182418800017408 : UInt64)), .second, .val (.double f1416), .second] : Array Slot) = L1462
  refine own_alN (w := (.ref a1439)) X0 hx (hb hby d1_0) (by rw [← hL1462]; rfl) rfl ?_
  refine own_init (a := a1439) (argsL := []) (rest := []) X0 hx hZ hown (own_s58 l Z a0 hw [] a1439 h0 n0 Z0 ) rfl (own_w hw 8 rfl) (own_w hw 9 rfl) (own_w hw 12 rfl) (own_w hw 11 rfl) (by decide) e0 (hb hby d1_1) (by rw [hml, ← hL1462]; rfl) rfl (lenOf own_pd0 rfl) (by decide) (W := 0) (Nat.le_of_eq rfl) (by decide) (by decide) (by decide) ?_
  intro v1468 T1468 lo1468 X1468 Q1468
  obtain ⟨h1468, e1468⟩ : ∃ h, T1468.heap = h := ⟨_, rfl⟩
  rw [e1468] at Q1468
  obtain ⟨rfl, N1468, K1468⟩ := Q1468
  have N1468' := Fr.app N0 N1468
  have e1468' : T1468.heap = h0 := e1468.trans K1468
  show own_Go _ _ _ _ _ _ _ T1468 (mkF m 4 L1462 [])
  refine own_alN (w := (.ref a1439)) X1468 hx (hb hby d1_4) (by rw [← hL1462]; rfl) rfl ?_
  refine own_dlN (w := f237) X1468 hx (hb hby d1_5) (by rw [← hL1462]; rfl) ?_
  refine own_putf X1468 hx hZ hown (own_w hw 16 rfl) e1468' N1468' H13 H6 H5 (Or.inr ⟨(own_w hw 17 rfl), rfl, hnm⟩) (own_w hw 2 rfl) (ty := .double) (by decide) rfl rfl (hb hby d1_6) ?_
  intro T1469 h1469 lo1469 X1469 e1469 N1469 W1469
  have F1470 := H6.same W1469
  show own_Go _ _ _ _ _ _ _ T1469 (mkF m 9 L1462 [])
  refine own_alN (w := (.ref a1439)) X1469 hx (hb hby d1_9) (by rw [← hL1462]; rfl) rfl ?_
  refine own_dlN (w := f238) X1469 hx (hb hby d1_10) (by rw [← hL1462]; rfl) ?_
  have F1471 := (H7.other W1469 (Or.inr (own_sne (own_f0 hw) (own_f1 hw) (by decide))))
  have F1472 := (H5.wr W1469)
  refine own_putf X1469 hx hZ hown (own_w hw 18 rfl) e1469 N1469 H13 F1471 F1472 (Or.inr ⟨(own_w hw 19 rfl), rfl, hnm⟩) (own_w hw 2 rfl) (ty := .double) (by decide) rfl rfl (hb hby d1_11) ?_
  intro T1473 h1473 lo1473 X1473 e1473 N1473 W1473
  have F1474 := F1471.same W1473
  show own_Go _ _ _ _ _ _ _ T1473 (mkF m 14 L1462 [])
  refine own_alN (w := (.ref a1439)) X1473 hx (hb hby d1_14) (by rw [← hL1462]; rfl) rfl ?_
  refine own_dl (w := f163) X1473 hx (hb hby d1_15) (by rw [← hL1462]; rfl) ?_
  have F1475 := ((H8.other W1469 (Or.inr (own_sne (own_f2 hw) (own_f1 hw) (by decide)))).other W1473 (Or.inr (own_sne (own_f2 hw) (own_f0 hw) (by decide))))
  have F1476 := (F1472.wr W1473)
  refine own_putf X1473 hx hZ hown (own_w hw 20 rfl) e1473 N1473 H13 F1475 F1476 (Or.inr ⟨(own_w hw 21 rfl), rfl, hnm⟩) (own_w hw 2 rfl) (ty := .double) (by decide) rfl rfl (hb hby d1_17) ?_
  intro T1477 h1477 lo1477 X1477 e1477 N1477 W1477
  have F1478 := F1475.same W1477
  show own_Go _ _ _ _ _ _ _ T1477 (mkF m 20 L1462 [])
  refine own_alN (w := (.ref a1439)) X1477 hx (hb hby d1_20) (by rw [← hL1462]; rfl) rfl ?_
  refine own_dl (w := f1415) X1477 hx (hb hby d1_21) (by rw [← hL1462]; rfl) ?_
  have F1479 := (((H9.other W1469 (Or.inr (own_sne (own_f3 hw) (own_f1 hw) (by decide)))).other W1473 (Or.inr (own_sne (own_f3 hw) (own_f0 hw) (by decide)))).other W1477 (Or.inr (own_sne (own_f3 hw) (own_f2 hw) (by decide))))
  have F1480 := (F1476.wr W1477)
  refine own_putf X1477 hx hZ hown (own_w hw 22 rfl) e1477 N1477 H13 F1479 F1480 (Or.inr ⟨(own_w hw 23 rfl), rfl, hnm⟩) (own_w hw 2 rfl) (ty := .double) (by decide) rfl rfl (hb hby d1_23) ?_
  intro T1481 h1481 lo1481 X1481 e1481 N1481 W1481
  have F1482 := F1479.same W1481
  show own_Go _ _ _ _ _ _ _ T1481 (mkF m 26 L1462 [])
  refine own_alN (w := (.ref a1439)) X1481 hx (hb hby d1_26) (by rw [← hL1462]; rfl) rfl ?_
  refine own_dl (w := (4607182418800017408 : UInt64)) X1481 hx (hb hby d1_27) (by rw [← hL1462]; rfl) ?_
  have F1483 := ((((H10.other W1469 (Or.inr (own_sne (own_f4 hw) (own_f1 hw) (by decide)))).other W1473 (Or.inr (own_sne (own_f4 hw) (own_f0 hw) (by decide)))).other W1477 (Or.inr (own_sne (own_f4 hw) (own_f2 hw) (by decide)))).other W1481 (Or.inr (own_sne (own_f4 hw) (own_f3 hw) (by decide))))
  have F1484 := (F1480.wr W1481)
  refine own_putf X1481 hx hZ hown (own_w hw 24 rfl) e1481 N1481 H13 F1483 F1484 (Or.inr ⟨(own_w hw 25 rfl), rfl, hnm⟩) (own_w hw 2 rfl) (ty := .double) (by decide) rfl rfl (hb hby d1_29) ?_
  intro T1485 h1485 lo1485 X1485 e1485 N1485 W1485
  have F1486 := F1483.same W1485
  show own_Go _ _ _ _ _ _ _ T1485 (mkF m 32 L1462 [])
  refine own_alN (w := (.ref a1439)) X1485 hx (hb hby d1_32) (by rw [← hL1462]; rfl) rfl ?_
  refine own_dl (w := f1416) X1485 hx (hb hby d1_33) (by rw [← hL1462]; rfl) ?_
  have F1487 := (((((H11.other W1469 (Or.inr (own_sne (own_f5 hw) (own_f1 hw) (by decide)))).other W1473 (Or.inr (own_sne (own_f5 hw) (own_f0 hw) (by decide)))).other W1477 (Or.inr (own_sne (own_f5 hw) (own_f2 hw) (by decide)))).other W1481 (Or.inr (own_sne (own_f5 hw) (own_f3 hw) (by decide)))).other W1485 (Or.inr (own_sne (own_f5 hw) (own_f4 hw) (by decide))))
  have F1488 := (F1484.wr W1485)
  refine own_putf X1485 hx hZ hown (own_w hw 26 rfl) e1485 N1485 H13 F1487 F1488 (Or.inr ⟨(own_w hw 27 rfl), rfl, hnm⟩) (own_w hw 2 rfl) (ty := .double) (by decide) rfl rfl (hb hby d1_35) ?_
  intro T1489 h1489 lo1489 X1489 e1489 N1489 W1489
  have F1490 := F1487.same W1489
  show own_Go _ _ _ _ _ _ _ T1489 (mkF m 38 L1462 [])
  have F1491 := (((((F1470.other W1473 (Or.inr (own_sne (own_f1 hw) (own_f0 hw) (by decide)))).other W1477 (Or.inr (own_sne (own_f1 hw) (own_f2 hw) (by decide)))).other W1481 (Or.inr (own_sne (own_f1 hw) (own_f3 hw) (by decide)))).other W1485 (Or.inr (own_sne (own_f1 hw) (own_f4 hw) (by decide)))).other W1489 (Or.inr (own_sne (own_f1 hw) (own_f5 hw) (by decide))))
  have F1492 := ((((F1474.other W1477 (Or.inr (own_sne (own_f0 hw) (own_f2 hw) (by decide)))).other W1481 (Or.inr (own_sne (own_f0 hw) (own_f3 hw) (by decide)))).other W1485 (Or.inr (own_sne (own_f0 hw) (own_f4 hw) (by decide)))).other W1489 (Or.inr (own_sne (own_f0 hw) (own_f5 hw) (by decide))))
  have F1493 := (((F1478.other W1481 (Or.inr (own_sne (own_f2 hw) (own_f3 hw) (by decide)))).other W1485 (Or.inr (own_sne (own_f2 hw) (own_f4 hw) (by decide)))).other W1489 (Or.inr (own_sne (own_f2 hw) (own_f5 hw) (by decide))))
  have F1494 := ((F1482.other W1485 (Or.inr (own_sne (own_f3 hw) (own_f4 hw) (by decide)))).other W1489 (Or.inr (own_sne (own_f3 hw) (own_f5 hw) (by decide))))
  have F1495 := (F1486.other W1489 (Or.inr (own_sne (own_f4 hw) (own_f5 hw) (by decide))))
  exact own_ret0 X1489 hx hlk hret (hb hby d1_38) e1489 ⟨rfl, N1489, (((((((Keep.refl _ _).wr W1469 (Or.inl (by simp))).wr W1473 (Or.inl (by simp))).wr W1477 (Or.inl (by simp))).wr W1481 (Or.inl (by simp))).wr W1485 (Or.inl (by simp))).wr W1489 (Or.inl (by simp))), F1491, F1492, F1493, F1494, F1495, F1490⟩ (by decide) (by decide)
def own_s56_Q (Z : State) (a1283 : Addr) (f237 : UInt64) (f1415 : UInt64) (f238 : UInt64) (f163 : UInt64) (f1416 : UInt64) (p5 : Int32) (p4 : Int32) (v7 : Int32) (w0 : Int32) (v15 : Int32) (h0 : Heap) (n0 : Nat) (v_ : Option Value) (h_ : Heap) (L_ : List Loc) : Prop := (fun v h L => ∃ (a1439 : Addr), v = some (.ref a1439) ∧ Fr n0 L ∧ Keep h0 h [] ∧ h0.size ≤ a1439 ∧ Exa Z h a1439 own_k0 ∧ Fld Z h a1439 own_k0 "low" "D" (.double f237) ∧ Fld Z h a1439 own_k0 "gapLow" "D" (.double f238) ∧ Fld Z h a1439 own_k0 "gapHigh" "D" (.double f163) ∧ Fld Z h a1439 own_k0 "high" "D" (.double f1415) ∧ Fld Z h a1439 own_k0 "below" "D" (.double (4607182418800017408 : UInt64)) ∧ Fld Z h a1439 own_k0 "count" "D" (.double f1416)) v_ h_ L_
set_option maxRecDepth 65536 in
set_option maxHeartbeats 40000000 in
theorem own_s56 (l : Launch) (Z : State) (a0 : Array Value) (hw : ∀ d ∈ tables_1, d.before a0 Z = true) (wds : List Jvm.Cond) (a1283 : Addr) (f237 : UInt64) (f1415 : UInt64) (f238 : UInt64) (f163 : UInt64) (f1416 : UInt64) (p5 : Int32) (p4 : Int32) (v7 : Int32) (w0 : Int32) (v15 : Int32) (h0 : Heap) (n0 : Nat) (Z0 : n0 ≤ h0.size) (H6 : Fld Z h0 a1283 own_k1 "low" "D" (.double f237)) (H7 : Fld Z h0 a1283 own_k1 "high" "D" (.double f1415)) (H8 : Fld Z h0 a1283 own_k1 "gapLow" "D" (.double f238)) (H9 : Fld Z h0 a1283 own_k1 "gapHigh" "D" (.double f163)) (H10 : Fld Z h0 a1283 own_k1 "count" "D" (.double f1416)) (H11 : Fld Z h0 a1283 own_k1 "below" "D" (.double (4607182418800017408 : UInt64))) (H14 : FP.Core.DInt p5.toInt f237) (H15 : FP.Core.DInt p4.toInt f1415) (H16 : FP.Core.DInt p5.toInt f238) (H17 : FP.Core.DInt p4.toInt f163) (H19 : 0 ≤ v7.toInt ∧ v7.toInt ≤ 65535) (H20 : 0 ≤ w0.toInt ∧ w0.toInt ≤ 65535) (H21 : 0 ≤ v15.toInt ∧ v15.toInt ≤ 65535) (H22 : p5.toInt < p4.toInt) :
    MetFree l (⟨own_k1, "extent", "()Lcom/example/rankline/rankline/Extent;"⟩ : MethodName) (head1 (Jvm.Cond.code (⟨own_k1, "extent", "()Lcom/example/rankline/rankline/Extent;"⟩ : MethodName) prog_17_method_3_code 1 (some (.object own_k0)) :: wds) ({ frames := 3, cells := 1, slots := 6, locals := 49 } : Room)) (fun ar_ U_ => ar_ = #[(.ref a1283)] ∧ Z.Warmed39 U_.vm ∧ U_.heap = h0) (fun _ _ _ _ _ => True) (fun _ U_ o_ V_ => ∃ v_ L_, o_ = .returned v_ ∧ own_s56_Q Z a1283 f237 f1415 f238 f163 f1416 p5 p4 v7 w0 v15 h0 n0 v_ V_.heap L_ ∧ FrameEnd U_ o_ V_ L_ ({ frames := 3, cells := 1, slots := 6, locals := 49 } : Room).cells ({ frames := 3, cells := 1, slots := 6, locals := 49 } : Room).slots) := by
  refine own_met (y := ⟨own_k1, "extent", "()Lcom/example/rankline/rankline/Extent;"⟩) (Q := own_s56_Q Z a1283 f237 f1415 f238 f163 f1416 p5 p4 v7 w0 v15 h0 n0) own_pn3 ?_
  intro p e s m below meth c s₁ hx hby hml hZ hown hnm hret hlk X0 e0
  have N0 := Fr.nil n0
  refine own_cast (g' := (mkF m 0 #[.val (.ref a1283)] [])) (by first | (simp [entryFrame, mkF, argsToLocals, Value.category]; done) | rfl) ?_
  refine own_alN (w := (.ref a1283)) X0 hx (hb hby d12_0) rfl rfl ?_
  refine own_getf X0 hx hZ hown (own_w hw 65 rfl) e0 H6 (hb hby d12_1) ?_
  intro T1431 X1431 e1431
  show own_Go _ _ _ _ _ _ _ T1431 (mkF m 4 #[.val (.ref a1283)] [(.double f237)])
  refine own_alN (w := (.ref a1283)) X1431 hx (hb hby d12_4) rfl rfl ?_
  refine own_getf X1431 hx hZ hown (own_w hw 68 rfl) e1431 H7 (hb hby d12_5) ?_
  intro T1432 X1432 e1432
  show own_Go _ _ _ _ _ _ _ T1432 (mkF m 8 #[.val (.ref a1283)] [(.double f1415), (.double f237)])
  obtain ⟨k1433, hk1433⟩ : ∃ z, own_c p5.toInt p4.toInt = z := ⟨_, rfl⟩
  refine own_pre (g' := (mkF m 9 #[.val (.ref a1283)] [(.int k1433)])) (fun t k => XS.dcmpS X1432.here hx rfl (hb hby d12_8) rfl ((own_dcmp H14 H15 _).trans hk1433) k) ?_
  have hc1434 : ¬ (0 : Int32) < k1433 := by rw [← hk1433, own_c_gt] <;> (have := H19; have := H20; have := H21; have := H22; have := rng32 p5; have := rng32 p4; omega)
  refine own_pre (g' := (mkF m 16 #[.val (.ref a1283)] [])) (fun t k => XS.ifYes X1432.here hx rfl (pc0 := 9) (pc' := 16) rfl (hb hby d12_9) rfl ((if0 _ _).trans (flt hc1434).2.2.2) (by decide) (by decide) k) ?_
  refine own_alN (w := (.ref a1283)) X1432 hx (hb hby d12_16) rfl rfl ?_
  refine own_getf X1432 hx hZ hown (own_w hw 75 rfl) e1432 H8 (hb hby d12_17) ?_
  intro T1435 X1435 e1435
  show own_Go _ _ _ _ _ _ _ T1435 (mkF m 20 #[.val (.ref a1283)] [(.double f238)])
  refine own_alN (w := (.ref a1283)) X1435 hx (hb hby d12_20) rfl rfl ?_
  refine own_getf X1435 hx hZ hown (own_w hw 77 rfl) e1435 H9 (hb hby d12_21) ?_
  intro T1436 X1436 e1436
  show own_Go _ _ _ _ _ _ _ T1436 (mkF m 24 #[.val (.ref a1283)] [(.double f163), (.double f238)])
  obtain ⟨k1437, hk1437⟩ : ∃ z, own_c p5.toInt p4.toInt = z := ⟨_, rfl⟩
  refine own_pre (g' := (mkF m 25 #[.val (.ref a1283)] [(.int k1437)])) (fun t k => XS.dcmpS X1436.here hx rfl (hb hby d12_24) rfl ((own_dcmp H16 H17 _).trans hk1437) k) ?_
  have hc1438 : k1437 < (0 : Int32) := by rw [← hk1437, own_c_lt] <;> (have := H19; have := H20; have := H21; have := H22; have := rng32 p5; have := rng32 p4; omega)
  refine own_pre (g' := (mkF m 28 #[.val (.ref a1283)] [])) (fun t k => XS.ifNo X1436.here hx rfl (hb hby d12_25) rfl ((if0 _ _).trans (tlt hc1438).2.1) k) ?_
  refine own_newobj X1436 hx hZ hown (own_w hw 92 rfl) (own_w hw 2 rfl) (own_w hw 3 rfl) e1436 (hb hby d12_28) (by decide) (by decide) ?_
  intro T1439 h1439 a1439 g1439 X1439 e1439 E1439 A1439 D1439
  have ge1442 : h0.size ≤ a1439 := Nat.le_trans (Nat.le_refl _) (Nat.le_of_eq g1439.symm)
  have nw1443 : n0 ≤ a1439 := Nat.le_trans Z0 (Nat.le_of_eq g1439.symm)
  have F1444 : Fld Z h1439 a1439 own_k0 "low" "D" (.double (0 : UInt64)) := D1439 (Or.inr (own_w hw 17 rfl)) (ty := .double) (by decide)
  have F1445 : Fld Z h1439 a1439 own_k0 "gapLow" "D" (.double (0 : UInt64)) := D1439 (Or.inr (own_w hw 19 rfl)) (ty := .double) (by decide)
  have F1446 : Fld Z h1439 a1439 own_k0 "gapHigh" "D" (.double (0 : UInt64)) := D1439 (Or.inr (own_w hw 21 rfl)) (ty := .double) (by decide)
  have F1447 : Fld Z h1439 a1439 own_k0 "high" "D" (.double (0 : UInt64)) := D1439 (Or.inr (own_w hw 23 rfl)) (ty := .double) (by decide)
  have F1448 : Fld Z h1439 a1439 own_k0 "below" "D" (.double (0 : UInt64)) := D1439 (Or.inr (own_w hw 25 rfl)) (ty := .double) (by decide)
  have F1449 : Fld Z h1439 a1439 own_k0 "count" "D" (.double (0 : UInt64)) := D1439 (Or.inr (own_w hw 27 rfl)) (ty := .double) (by decide)
  show own_Go _ _ _ _ _ _ _ T1439 (mkF m 31 #[.val (.ref a1283)] [(.ref a1439)])
  refine own_pre (g' := (mkF m 32 #[.val (.ref a1283)] [(.ref a1439), (.ref a1439)])) (fun t k => XS.dup X1439.here hx rfl (hb hby d12_31) rfl rfl k) ?_
  refine own_alN (w := (.ref a1283)) X1439 hx (hb hby d12_32) rfl rfl ?_
  have F1450 := (H6.ext E1439)
  refine own_getf X1439 hx hZ hown (own_w hw 65 rfl) e1439 F1450 (hb hby d12_33) ?_
  intro T1451 X1451 e1451
  show own_Go _ _ _ _ _ _ _ T1451 (mkF m 36 #[.val (.ref a1283)] [(.double f237), (.ref a1439), (.ref a1439)])
  refine own_alN (w := (.ref a1283)) X1451 hx (hb hby d12_36) rfl rfl ?_
  have F1452 := (H8.ext E1439)
  refine own_getf X1451 hx hZ hown (own_w hw 75 rfl) e1451 F1452 (hb hby d12_37) ?_
  intro T1453 X1453 e1453
  show own_Go _ _ _ _ _ _ _ T1453 (mkF m 40 #[.val (.ref a1283)] [(.double f238), (.double f237), (.ref a1439), (.ref a1439)])
  refine own_alN (w := (.ref a1283)) X1453 hx (hb hby d12_40) rfl rfl ?_
  have F1454 := (H9.ext E1439)
  refine own_getf X1453 hx hZ hown (own_w hw 77 rfl) e1453 F1454 (hb hby d12_41) ?_
  intro T1455 X1455 e1455
  show own_Go _ _ _ _ _ _ _ T1455 (mkF m 44 #[.val (.ref a1283)] [(.double f163), (.double f238), (.double f237), (.ref a1439), (.ref a1439)])
  refine own_alN (w := (.ref a1283)) X1455 hx (hb hby d12_44) rfl rfl ?_
  have F1456 := (H7.ext E1439)
  refine own_getf X1455 hx hZ hown (own_w hw 68 rfl) e1455 F1456 (hb hby d12_45) ?_
  intro T1457 X1457 e1457
  show own_Go _ _ _ _ _ _ _ T1457 (mkF m 48 #[.val (.ref a1283)] [(.double f1415), (.double f163), (.double f238), (.double f237), (.ref a1439), (.ref a1439)])
  refine own_alN (w := (.ref a1283)) X1457 hx (hb hby d12_48) rfl rfl ?_
  have F1458 := (H11.ext E1439)
  refine own_getf X1457 hx hZ hown (own_w hw 81 rfl) e1457 F1458 (hb hby d12_49) ?_
  intro T1459 X1459 e1459
  show own_Go _ _ _ _ _ _ _ T1459 (mkF m 52 #[.val (.ref a1283)] [(.double (4607182418800017408 : UInt64)), (.double f1415), (.double f163), (.double f238), (.double f237), (.ref a1439), (.ref a1439)])
  refine own_alN (w := (.ref a1283)) X1459 hx (hb hby d12_52) rfl rfl ?_
  have F1460 := (H10.ext E1439)
  refine own_getf X1459 hx hZ hown (own_w hw 79 rfl) e1459 F1460 (hb hby d12_53) ?_
  intro T1461 X1461 e1461
  show own_Go _ _ _ _ _ _ _ T1461 (mkF m 56 #[.val (.ref a1283)] [(.double f1416), (.double (4607182418800017408 : UInt64)), (.double f1415), (.double f163), (.double f238), (.double f237), (.ref a1439), (.ref a1439)])
  have F1496 : n0 ≤ h1439.size := (Nat.le_trans Z0 E1439.1)
  refine own_init (a := a1439) (argsL := [(.double f237), (.double f238), (.double f163), (.double f1415), (.double (4607182418800017408 : UInt64)), (.double f1416)]) (rest := [(.ref a1439)]) X1461 hx hZ hown (own_s57 l Z a0 hw [] a1439 f237 f238 f163 f1415 f1416 h1439 n0 F1496 A1439 F1444 F1445 F1446 F1447 F1448 F1449 nw1443) rfl (own_w hw 93 rfl) (own_w hw 6 rfl) (own_w hw 7 rfl) (own_w hw 3 rfl) (by decide) e1461 (hb hby d12_56) (by rw [hml]; rfl) rfl (lenOf own_pd1 rfl) (by decide) (W := 1) (Nat.le_of_eq rfl) (by decide) (by decide) (by decide) ?_
  intro v1497 T1497 lo1497 X1497 Q1497
  obtain ⟨h1497, e1497⟩ : ∃ h, T1497.heap = h := ⟨_, rfl⟩
  rw [e1497] at Q1497
  obtain ⟨rfl, N1497, K1497, F1498, F1499, F1500, F1501, F1502, F1503⟩ := Q1497
  have N1497' := Fr.app N0 N1497
  show own_Go _ _ _ _ _ _ _ T1497 (mkF m 59 #[.val (.ref a1283)] [(.ref a1439)])
  refine own_gt X1497 hx 77 (hb hby d12_59) (by decide) (by decide) ?_
  have F1505 := (A1439.keep K1497)
  exact own_retA X1497 hx hlk hret rfl rfl rfl (hb hby d12_77) e1497 ⟨a1439, rfl, N1497', (((Keep.refl _ _).ext E1439).trans K1497 (allS (Or.inr ge1442) all0)), ge1442, F1505, F1498, F1499, F1500, F1501, F1502, F1503⟩ (by decide) (by decide)
def own_s43_Q (Z : State) (a221 : Addr) (a299 : Addr) (f163 : UInt64) (f164 : UInt64) (f237 : UInt64) (f238 : UInt64) (p4 : Int32) (p5 : Int32) (v7 : Int32) (w0 : Int32) (v15 : Int32) (h0 : Heap) (n0 : Nat) (v_ : Option Value) (h_ : Heap) (L_ : List Loc) : Prop := (fun v h L => ∃ (a1508 : Addr) (f1415 : UInt64) (f1416 : UInt64), v = some (.ref a1508) ∧ Fr n0 L ∧ Keep h0 h [] ∧ h0.size ≤ a1508 ∧ Exa Z h a1508 own_k0 ∧ Fld Z h a1508 own_k0 "low" "D" (.double f237) ∧ Fld Z h a1508 own_k0 "gapLow" "D" (.double f238) ∧ Fld Z h a1508 own_k0 "gapHigh" "D" (.double f163) ∧ Fld Z h a1508 own_k0 "high" "D" (.double f1415) ∧ Fld Z h a1508 own_k0 "below" "D" (.double (4607182418800017408 : UInt64)) ∧ Fld Z h a1508 own_k0 "count" "D" (.double f1416) ∧ FP.Core.DInt p4.toInt f1415 ∧ FP.Core.DInt (1 + 1) f1416) v_ h_ L_
set_option maxRecDepth 65536 in
set_option maxHeartbeats 40000000 in
theorem own_s43 (l : Launch) (Z : State) (a0 : Array Value) (hw : ∀ d ∈ tables_1, d.before a0 Z = true) (wds : List Jvm.Cond) (a221 : Addr) (a299 : Addr) (f163 : UInt64) (f164 : UInt64) (f237 : UInt64) (f238 : UInt64) (p4 : Int32) (p5 : Int32) (v7 : Int32) (w0 : Int32) (v15 : Int32) (h0 : Heap) (n0 : Nat) (Z0 : n0 ≤ h0.size) (H5 : Exa Z h0 a221 own_k0) (H6 : Fld Z h0 a221 own_k0 "low" "D" (.double f163)) (H7 : Fld Z h0 a221 own_k0 "gapLow" "D" (.double f164)) (H8 : Fld Z h0 a221 own_k0 "gapHigh" "D" (.double f164)) (H9 : Fld Z h0 a221 own_k0 "high" "D" (.double f164)) (H11 : Fld Z h0 a221 own_k0 "count" "D" (.double (4607182418800017408 : UInt64))) (H12 : Exa Z h0 a299 own_k0) (H13 : Fld Z h0 a299 own_k0 "low" "D" (.double f237)) (H14 : Fld Z h0 a299 own_k0 "gapLow" "D" (.double f238)) (H15 : Fld Z h0 a299 own_k0 "gapHigh" "D" (.double f238)) (H16 : Fld Z h0 a299 own_k0 "high" "D" (.double f238)) (H18 : Fld Z h0 a299 own_k0 "count" "D" (.double (4607182418800017408 : UInt64))) (H24 : FP.Core.DInt p4.toInt f163) (H25 : FP.Core.DInt p4.toInt f164) (H26 : FP.Core.DInt p5.toInt f237) (H27 : FP.Core.DInt p5.toInt f238) (H28 : 0 ≤ v7.toInt ∧ v7.toInt ≤ 65535) (H29 : 0 ≤ w0.toInt ∧ w0.toInt ≤ 65535) (H30 : 0 ≤ v15.toInt ∧ v15.toInt ≤ 65535) (H31 : p5.toInt < p4.toInt) :
    MetFree l (⟨own_k0, "union", own_k2⟩ : MethodName) (head1 (Jvm.Cond.code (⟨own_k0, "union", own_k2⟩ : MethodName) prog_16_method_8_code 7 (some (.object own_k0)) :: wds) ({ frames := 4, cells := 3, slots := 24, locals := 61 } : Room)) (fun ar_ U_ => ar_ = #[(.ref a221), (.ref a299)] ∧ Z.Warmed39 U_.vm ∧ U_.heap = h0) (fun _ _ _ _ _ => True) (fun _ U_ o_ V_ => ∃ v_ L_, o_ = .returned v_ ∧ own_s43_Q Z a221 a299 f163 f164 f237 f238 p4 p5 v7 w0 v15 h0 n0 v_ V_.heap L_ ∧ FrameEnd U_ o_ V_ L_ ({ frames := 4, cells := 3, slots := 24, locals := 61 } : Room).cells ({ frames := 4, cells := 3, slots := 24, locals := 61 } : Room).slots) := by
  refine own_met (y := ⟨own_k0, "union", own_k2⟩) (Q := own_s43_Q Z a221 a299 f163 f164 f237 f238 p4 p5 v7 w0 v15 h0 n0) own_pn0 ?_
  intro p e s m below meth c s₁ hx hby hml hZ hown hnm hret hlk X0 e0
  have N0 := Fr.nil n0
  refine own_cast (g' := (mkF m 0 #[.val (.ref a221), .val (.ref a299), .unset, .unset, .unset, .unset, .unset] [])) (by first | (simp [entryFrame, mkF, argsToLocals, Value.category]; done) | rfl) ?_
  generalize hL1112 : (#[.val (.ref a221), .val (.ref a299), .unset, .unset, .unset, .unset, .unset] : Array Slot) = L1112
  refine own_pre (g' := (mkF m 2 L1112 [(.int (12 : Int32))])) (fun t k => XS.bipush X0.here hx rfl (hb hby d6_0) k) ?_
  refine own_newarr X0 hx hZ (aty := .double) (own_w hw 46 rfl) e0 (hb hby d6_2) (n := 12) (by decide) (by decide) (by decide) (by decide) (by decide) (ad := "[D") rfl ?_
  intro T1123 h1123 a1123 g1123 X1123 e1123 E1123 A1123 B1123
  have lt1125 : a221 < a1123 := Nat.lt_of_lt_of_le H5.lt (Nat.le_of_eq g1123.symm)
  have lt1126 : a299 < a1123 := Nat.lt_of_lt_of_le H12.lt (Nat.le_of_eq g1123.symm)
  have ge1127 : h0.size ≤ a1123 := Nat.le_trans (Nat.le_refl _) (Nat.le_of_eq g1123.symm)
  have nw1128 : n0 ≤ a1123 := Nat.le_trans Z0 (Nat.le_of_eq g1123.symm)
  have F1129 : own_Ary Z h1123 a1123 .double (own_rD 12) := A1123
  show own_Go _ _ _ _ _ _ _ T1123 (mkF m 4 L1112 [(.ref a1123)])
  refine own_pre (g' := (mkF m 5 #[.val (.ref a221), .val (.ref a299), .val (.ref a1123), .unset, .unset, .unset, .unset] [])) (fun t k => XS.astoreN X1123.here hx rfl (hb hby d6_4) rfl rfl (l' := #[.val (.ref a221), .val (.ref a299), .val (.ref a1123), .unset, .unset, .unset, .unset]) (by rw [← hL1112]; rfl) k) ?_
  generalize hL1130 : (#[.val (.ref a221), .val (.ref a299), .val (.ref a1123), .unset, .unset, .unset, .unset] : Array Slot) = L1130
  refine own_alN (w := (.ref a299)) X1123 hx (hb hby d6_5) (by rw [← hL1130]; rfl) rfl ?_
  refine own_alN (w := (.ref a1123)) X1123 hx (hb hby d6_6) (by rw [← hL1130]; rfl) rfl ?_
  refine own_alN (w := (.ref a221)) X1123 hx (hb hby d6_7) (by rw [← hL1130]; rfl) rfl ?_
  refine own_alN (w := (.ref a1123)) X1123 hx (hb hby d6_8) (by rw [← hL1130]; rfl) rfl ?_
  refine own_ic X1123 hx (0 : Int32) (hb hby d6_9) rfl ?_
  have F1135 := (H5.ext E1123)
  have F1136 := (H6.ext E1123)
  have F1137 := (H7.ext E1123)
  have F1138 := (H8.ext E1123)
  have F1139 := (H9.ext E1123)
  have F1141 := (H11.ext E1123)
  have F1174 : n0 ≤ h1123.size := (Nat.le_trans Z0 E1123.1)
  refine own_callp (a := a221) (argsL := [(.ref a1123), (.int (0 : Int32))]) (rest := [(.ref a1123), (.ref a299)]) X1123 hx hZ hown (own_s44 l Z a0 hw [] a221 a1123 f163 f164 p4 v7 w0 v15 p5 h1123 n0 F1174 F1135 F1136 F1137 F1138 F1139 F1141 F1129 lt1125 nw1128 H24 H25 H28 H29 H30 H31) F1135 (own_w hw 47 rfl) (own_w hw 2 rfl) (own_w hw 49 rfl) (own_w hw 48 rfl) (own_w hw 50 rfl) (own_w hw 3 rfl) (by decide) e1123 (hb hby d6_10) (by rw [hml, ← hL1130]; rfl) rfl (lenOf own_pd4 rfl) (by decide) (W := 2) (Nat.le_of_eq rfl) (by decide) (by decide) (by decide) ?_
  intro v1175 T1175 lo1175 X1175 Q1175
  obtain ⟨h1175, e1175⟩ : ∃ h, T1175.heap = h := ⟨_, rfl⟩
  rw [e1175] at Q1175
  obtain ⟨rfl, N1175, K1175, F1176⟩ := Q1175
  have N1175' := Fr.app N0 N1175
  show own_Go _ _ _ _ _ _ _ T1175 (mkF m 13 L1130 [(.int (3 : Int32)), (.ref a1123), (.ref a299)])
  have F1181 := ((H12.ext E1123).keep K1175)
  have F1182 := ((H13.ext E1123).keep K1175 (ninS (Nat.ne_of_lt lt1126) nin0))
  have F1183 := ((H14.ext E1123).keep K1175 (ninS (Nat.ne_of_lt lt1126) nin0))
  have F1184 := ((H15.ext E1123).keep K1175 (ninS (Nat.ne_of_lt lt1126) nin0))
  have F1185 := ((H16.ext E1123).keep K1175 (ninS (Nat.ne_of_lt lt1126) nin0))
  have F1187 := ((H18.ext E1123).keep K1175 (ninS (Nat.ne_of_lt lt1126) nin0))
  have F1188 := (B1123.keep K1175)
  have F1221 : n0 ≤ h1175.size := (Nat.le_trans F1174 K1175.1)
  refine own_callp (a := a299) (argsL := [(.ref a1123), (.int (3 : Int32))]) (rest := []) X1175 hx hZ hown (own_s47 l Z a0 hw [] a299 a1123 f237 f238 f163 f164 p5 p4 v7 w0 v15 h1175 n0 F1221 F1181 F1182 F1183 F1184 F1185 F1187 F1176 lt1126 nw1128 H26 H27 H28 H29 H30 H31) F1181 (own_w hw 47 rfl) (own_w hw 2 rfl) (own_w hw 49 rfl) (own_w hw 48 rfl) (own_w hw 50 rfl) (own_w hw 3 rfl) (by decide) e1175 (hb hby d6_13) (by rw [hml, ← hL1130]; rfl) rfl (lenOf own_pd4 rfl) (by decide) (W := 0) (Nat.le_of_eq rfl) (by decide) (by decide) (by decide) ?_
  intro v1222 T1222 lo1222 X1222 Q1222
  obtain ⟨h1222, e1222⟩ : ∃ h, T1222.heap = h := ⟨_, rfl⟩
  rw [e1222] at Q1222
  obtain ⟨rfl, N1222, K1222, F1223⟩ := Q1222
  have N1222' := Fr.app N1175' N1222
  show own_Go _ _ _ _ _ _ _ T1222 (mkF m 16 L1130 [(.int (6 : Int32))])
  refine own_pre (g' := (mkF m 17 #[.val (.ref a221), .val (.ref a299), .val (.ref a1123), .val (.int (6 : Int32)), .unset, .unset, .unset] [])) (fun t k => XS.istoreN X1222.here hx rfl (hb hby d6_16) rfl (l' := #[.val (.ref a221), .val (.ref a299), .val (.ref a1123), .val (.int (6 : Int32)), .unset, .unset, .unset]) (by rw [← hL1130]; rfl) k) ?_
  generalize hL1225 : (#[.val (.ref a221), .val (.ref a299), .val (.ref a1123), .val (.int (6 : Int32)), .unset, .unset, .unset] : Array Slot) = L1225
  refine own_ic X1222 hx (3 : Int32) (hb hby d6_17) rfl ?_
  refine own_pre (g' := (mkF m 20 #[.val (.ref a221), .val (.ref a299), .val (.ref a1123), .val (.int (6 : Int32)), .val (.int (3 : Int32)), .unset, .unset] [])) (fun t k => XS.istore X1222.here hx rfl (hb hby d6_18) rfl (l' := #[.val (.ref a221), .val (.ref a299), .val (.ref a1123), .val (.int (6 : Int32)), .val (.int (3 : Int32)), .unset, .unset]) (by rw [← hL1225]; rfl) k) ?_
  generalize hL1226 : (#[.val (.ref a221), .val (.ref a299), .val (.ref a1123), .val (.int (6 : Int32)), .val (.int (3 : Int32)), .unset, .unset] : Array Slot) = L1226
  refine own_il (w := (3 : Int32)) X1222 hx (hb hby d6_20) (by rw [← hL1226]; rfl) ?_
  refine own_ilN (w := (6 : Int32)) X1222 hx (hb hby d6_22) (by rw [← hL1226]; rfl) ?_
  refine own_pre (g' := (mkF m 26 L1226 [])) (fun t k => XS.icmpNo X1222.here hx rfl (hb hby d6_23) rfl (by decide) k) ?_
  refine own_il (w := (3 : Int32)) X1222 hx (hb hby d6_26) (by rw [← hL1226]; rfl) ?_
  refine own_pre (g' := (mkF m 30 #[.val (.ref a221), .val (.ref a299), .val (.ref a1123), .val (.int (6 : Int32)), .val (.int (3 : Int32)), .val (.int (3 : Int32)), .unset] [])) (fun t k => XS.istore X1222.here hx rfl (hb hby d6_28) rfl (l' := #[.val (.ref a221), .val (.ref a299), .val (.ref a1123), .val (.int (6 : Int32)), .val (.int (3 : Int32)), .val (.int (3 : Int32)), .unset]) (by rw [← hL1226]; rfl) k) ?_
  generalize hL1227 : (#[.val (.ref a221), .val (.ref a299), .val (.ref a1123), .val (.int (6 : Int32)), .val (.int (3 : Int32)), .val (.int (3 : Int32)), .unset] : Array Slot) = L1227
  refine own_il (w := (3 : Int32)) X1222 hx (hb hby d6_30) (by rw [← hL1227]; rfl) ?_
  refine own_pre (g' := (mkF m 35 L1227 [])) (fun t k => XS.ifNo X1222.here hx rfl (hb hby d6_32) rfl (by decide) k) ?_
  refine own_alN (w := (.ref a1123)) X1222 hx (hb hby d6_35) (by rw [← hL1227]; rfl) rfl ?_
  refine own_il (w := (3 : Int32)) X1222 hx (hb hby d6_36) (by rw [← hL1227]; rfl) ?_
  refine own_daload X1222 hx hZ e1222 F1223 (hb hby d6_38) (n := 3) (v := (.double f237)) (by decide) (by decide) rfl ?_
  show own_Go _ _ _ _ _ _ _ T1222 (mkF m 39 L1227 [(.double f237)])
  refine own_alN (w := (.ref a1123)) X1222 hx (hb hby d6_39) (by rw [← hL1227]; rfl) rfl ?_
  refine own_il (w := (3 : Int32)) X1222 hx (hb hby d6_40) (by rw [← hL1227]; rfl) ?_
  refine own_ic X1222 hx (3 : Int32) (hb hby d6_42) rfl ?_
  refine own_pre (g' := (mkF m 44 L1227 [(.int (0 : Int32)), (.ref a1123), (.double f237)])) (fun t k => XS.isub X1222.here hx rfl (hb hby d6_43) rfl k) ?_
  refine own_daload X1222 hx hZ e1222 F1223 (hb hby d6_44) (n := 0) (v := (.double f163)) (by decide) (by decide) rfl ?_
  show own_Go _ _ _ _ _ _ _ T1222 (mkF m 45 L1227 [(.double f163), (.double f237)])
  obtain ⟨k1228, hk1228⟩ : ∃ z, own_c p5.toInt p4.toInt = z := ⟨_, rfl⟩
  refine own_pre (g' := (mkF m 46 L1227 [(.int k1228)])) (fun t k => XS.dcmpS X1222.here hx rfl (hb hby d6_45) rfl ((own_dcmp H26 H24 _).trans hk1228) k) ?_
  have hc1229 : k1228 < (0 : Int32) := by rw [← hk1228, own_c_lt] <;> (have := H28; have := H29; have := H30; have := H31; have := rng32 p5; have := rng32 p4; omega)
  refine own_pre (g' := (mkF m 49 L1227 [])) (fun t k => XS.ifNo X1222.here hx rfl (hb hby d6_46) rfl ((if0 _ _).trans (tlt hc1229).2.1) k) ?_
  refine own_ic X1222 hx (0 : Int32) (hb hby d6_49) rfl ?_
  refine own_pre (g' := (mkF m 52 #[.val (.ref a221), .val (.ref a299), .val (.ref a1123), .val (.int (6 : Int32)), .val (.int (3 : Int32)), .val (.int (3 : Int32)), .val (.int (0 : Int32))] [])) (fun t k => XS.istore X1222.here hx rfl (hb hby d6_50) rfl (l' := #[.val (.ref a221), .val (.ref a299), .val (.ref a1123), .val (.int (6 : Int32)), .val (.int (3 : Int32)), .val (.int (3 : Int32)), .val (.int (0 : Int32))]) (by rw [← hL1227]; rfl) k) ?_
  generalize hL1230 : (#[.val (.ref a221), .val (.ref a299), .val (.ref a1123), .val (.int (6 : Int32)), .val (.int (3 : Int32)), .val (.int (3 : Int32)), .val (.int (0 : Int32))] : Array Slot) = L1230
  refine own_il (w := (0 : Int32)) X1222 hx (hb hby d6_52) (by rw [← hL1230]; rfl) ?_
  refine own_ic X1222 hx (3 : Int32) (hb hby d6_54) rfl ?_
  refine own_pre (g' := (mkF m 58 L1230 [])) (fun t k => XS.icmpNo X1222.here hx rfl (hb hby d6_55) rfl (by decide) k) ?_
  refine own_alN (w := (.ref a1123)) X1222 hx (hb hby d6_58) (by rw [← hL1230]; rfl) rfl ?_
  refine own_il (w := (3 : Int32)) X1222 hx (hb hby d6_59) (by rw [← hL1230]; rfl) ?_
  refine own_il (w := (0 : Int32)) X1222 hx (hb hby d6_61) (by rw [← hL1230]; rfl) ?_
  refine own_pre (g' := (mkF m 64 L1230 [(.int (3 : Int32)), (.ref a1123)])) (fun t k => XS.iadd X1222.here hx rfl (hb hby d6_63) rfl k) ?_
  refine own_il (w := (3 : Int32)) X1222 hx (hb hby d6_64) (by rw [← hL1230]; rfl) ?_
  refine own_ic X1222 hx (3 : Int32) (hb hby d6_66) rfl ?_
  refine own_pre (g' := (mkF m 68 L1230 [(.int (0 : Int32)), (.int (3 : Int32)), (.ref a1123)])) (fun t k => XS.isub X1222.here hx rfl (hb hby d6_67) rfl k) ?_
  refine own_il (w := (0 : Int32)) X1222 hx (hb hby d6_68) (by rw [← hL1230]; rfl) ?_
  refine own_pre (g' := (mkF m 71 L1230 [(.int (0 : Int32)), (.int (3 : Int32)), (.ref a1123)])) (fun t k => XS.iadd X1222.here hx rfl (hb hby d6_70) rfl k) ?_
  have F1235 := (F1188.keep K1222)
  have F1241 : n0 ≤ h1222.size := (Nat.le_trans F1221 K1222.1)
  refine own_calls (argsL := [(.ref a1123), (.int (3 : Int32)), (.int (0 : Int32))]) (rest := []) X1222 hx hZ hown (own_s50 l Z a0 hw [] a1123 f163 f164 f237 f238 h1222 n0 F1241 F1223 nw1128) (own_w hw 94 rfl) (own_w hw 95 rfl) (own_w hw 96 rfl) (own_w hw 3 rfl) (by decide) e1222 (hb hby d6_71) (by rw [hml, ← hL1230]; rfl) rfl (lenOf own_pd8 rfl) (by decide) (W := 0) (Nat.le_of_eq rfl) (by decide) (by decide) (by decide) ?_
  intro v1242 T1242 lo1242 X1242 Q1242
  obtain ⟨h1242, e1242⟩ : ∃ h, T1242.heap = h := ⟨_, rfl⟩
  rw [e1242] at Q1242
  obtain ⟨rfl, N1242, K1242, F1243⟩ := Q1242
  have N1242' := Fr.app N1222' N1242
  show own_Go _ _ _ _ _ _ _ T1242 (mkF m 74 L1230 [])
  refine own_pre (g' := (mkF m 77 #[.val (.ref a221), .val (.ref a299), .val (.ref a1123), .val (.int (6 : Int32)), .val (.int (3 : Int32)), .val (.int (3 : Int32)), .val (.int (1 : Int32))] [])) (fun t k => XS.iinc X1242.here hx rfl (hb hby d6_74) (x := (0 : Int32)) (by rw [← hL1230]; rfl) (l' := #[.val (.ref a221), .val (.ref a299), .val (.ref a1123), .val (.int (6 : Int32)), .val (.int (3 : Int32)), .val (.int (3 : Int32)), .val (.int (1 : Int32))]) (by rw [← hL1230]; rfl) k) ?_
  generalize hL1245 : (#[.val (.ref a221), .val (.ref a299), .val (.ref a1123), .val (.int (6 : Int32)), .val (.int (3 : Int32)), .val (.int (3 : Int32)), .val (.int (1 : Int32))] : Array Slot) = L1245
  refine own_gt X1242 hx 52 (hb hby d6_77) (by decide) (by decide) ?_
  refine own_il (w := (1 : Int32)) X1242 hx (hb hby d6_52) (by rw [← hL1245]; rfl) ?_
  refine own_ic X1242 hx (3 : Int32) (hb hby d6_54) rfl ?_
  refine own_pre (g' := (mkF m 58 L1245 [])) (fun t k => XS.icmpNo X1242.here hx rfl (hb hby d6_55) rfl (by decide) k) ?_
  refine own_alN (w := (.ref a1123)) X1242 hx (hb hby d6_58) (by rw [← hL1245]; rfl) rfl ?_
  refine own_il (w := (3 : Int32)) X1242 hx (hb hby d6_59) (by rw [← hL1245]; rfl) ?_
  refine own_il (w := (1 : Int32)) X1242 hx (hb hby d6_61) (by rw [← hL1245]; rfl) ?_
  refine own_pre (g' := (mkF m 64 L1245 [(.int (4 : Int32)), (.ref a1123)])) (fun t k => XS.iadd X1242.here hx rfl (hb hby d6_63) rfl k) ?_
  refine own_il (w := (3 : Int32)) X1242 hx (hb hby d6_64) (by rw [← hL1245]; rfl) ?_
  refine own_ic X1242 hx (3 : Int32) (hb hby d6_66) rfl ?_
  refine own_pre (g' := (mkF m 68 L1245 [(.int (0 : Int32)), (.int (4 : Int32)), (.ref a1123)])) (fun t k => XS.isub X1242.here hx rfl (hb hby d6_67) rfl k) ?_
  refine own_il (w := (1 : Int32)) X1242 hx (hb hby d6_68) (by rw [← hL1245]; rfl) ?_
  refine own_pre (g' := (mkF m 71 L1245 [(.int (1 : Int32)), (.int (4 : Int32)), (.ref a1123)])) (fun t k => XS.iadd X1242.here hx rfl (hb hby d6_70) rfl k) ?_
  have F1250 := (F1235.keep K1242)
  have F1256 : n0 ≤ h1242.size := (Nat.le_trans F1241 K1242.1)
  refine own_calls (argsL := [(.ref a1123), (.int (4 : Int32)), (.int (1 : Int32))]) (rest := []) X1242 hx hZ hown (own_s51 l Z a0 hw [] a1123 f237 f164 f163 f238 h1242 n0 F1256 F1243 nw1128) (own_w hw 94 rfl) (own_w hw 95 rfl) (own_w hw 96 rfl) (own_w hw 3 rfl) (by decide) e1242 (hb hby d6_71) (by rw [hml, ← hL1245]; rfl) rfl (lenOf own_pd8 rfl) (by decide) (W := 0) (Nat.le_of_eq rfl) (by decide) (by decide) (by decide) ?_
  intro v1257 T1257 lo1257 X1257 Q1257
  obtain ⟨h1257, e1257⟩ : ∃ h, T1257.heap = h := ⟨_, rfl⟩
  rw [e1257] at Q1257
  obtain ⟨rfl, N1257, K1257, F1258⟩ := Q1257
  have N1257' := Fr.app N1242' N1257
  show own_Go _ _ _ _ _ _ _ T1257 (mkF m 74 L1245 [])
  refine own_pre (g' := (mkF m 77 #[.val (.ref a221), .val (.ref a299), .val (.ref a1123), .val (.int (6 : Int32)), .val (.int (3 : Int32)), .val (.int (3 : Int32)), .val (.int (2 : Int32))] [])) (fun t k => XS.iinc X1257.here hx rfl (hb hby d6_74) (x := (1 : Int32)) (by rw [← hL1245]; rfl) (l' := #[.val (.ref a221), .val (.ref a299), .val (.ref a1123), .val (.int (6 : Int32)), .val (.int (3 : Int32)), .val (.int (3 : Int32)), .val (.int (2 : Int32))]) (by rw [← hL1245]; rfl) k) ?_
  generalize hL1260 : (#[.val (.ref a221), .val (.ref a299), .val (.ref a1123), .val (.int (6 : Int32)), .val (.int (3 : Int32)), .val (.int (3 : Int32)), .val (.int (2 : Int32))] : Array Slot) = L1260
  refine own_gt X1257 hx 52 (hb hby d6_77) (by decide) (by decide) ?_
  refine own_il (w := (2 : Int32)) X1257 hx (hb hby d6_52) (by rw [← hL1260]; rfl) ?_
  refine own_ic X1257 hx (3 : Int32) (hb hby d6_54) rfl ?_
  refine own_pre (g' := (mkF m 58 L1260 [])) (fun t k => XS.icmpNo X1257.here hx rfl (hb hby d6_55) rfl (by decide) k) ?_
  refine own_alN (w := (.ref a1123)) X1257 hx (hb hby d6_58) (by rw [← hL1260]; rfl) rfl ?_
  refine own_il (w := (3 : Int32)) X1257 hx (hb hby d6_59) (by rw [← hL1260]; rfl) ?_
  refine own_il (w := (2 : Int32)) X1257 hx (hb hby d6_61) (by rw [← hL1260]; rfl) ?_
  refine own_pre (g' := (mkF m 64 L1260 [(.int (5 : Int32)), (.ref a1123)])) (fun t k => XS.iadd X1257.here hx rfl (hb hby d6_63) rfl k) ?_
  refine own_il (w := (3 : Int32)) X1257 hx (hb hby d6_64) (by rw [← hL1260]; rfl) ?_
  refine own_ic X1257 hx (3 : Int32) (hb hby d6_66) rfl ?_
  refine own_pre (g' := (mkF m 68 L1260 [(.int (0 : Int32)), (.int (5 : Int32)), (.ref a1123)])) (fun t k => XS.isub X1257.here hx rfl (hb hby d6_67) rfl k) ?_
  refine own_il (w := (2 : Int32)) X1257 hx (hb hby d6_68) (by rw [← hL1260]; rfl) ?_
  refine own_pre (g' := (mkF m 71 L1260 [(.int (2 : Int32)), (.int (5 : Int32)), (.ref a1123)])) (fun t k => XS.iadd X1257.here hx rfl (hb hby d6_70) rfl k) ?_
  have F1265 := (F1250.keep K1257)
  have F1271 : n0 ≤ h1257.size := (Nat.le_trans F1256 K1257.1)
  refine own_calls (argsL := [(.ref a1123), (.int (5 : Int32)), (.int (2 : Int32))]) (rest := []) X1257 hx hZ hown (own_s52 l Z a0 hw [] a1123 f237 f238 f163 f164 h1257 n0 F1271 F1258 nw1128) (own_w hw 94 rfl) (own_w hw 95 rfl) (own_w hw 96 rfl) (own_w hw 3 rfl) (by decide) e1257 (hb hby d6_71) (by rw [hml, ← hL1260]; rfl) rfl (lenOf own_pd8 rfl) (by decide) (W := 0) (Nat.le_of_eq rfl) (by decide) (by decide) (by decide) ?_
  intro v1272 T1272 lo1272 X1272 Q1272
  obtain ⟨h1272, e1272⟩ : ∃ h, T1272.heap = h := ⟨_, rfl⟩
  rw [e1272] at Q1272
  obtain ⟨rfl, N1272, K1272, F1273⟩ := Q1272
  have N1272' := Fr.app N1257' N1272
  show own_Go _ _ _ _ _ _ _ T1272 (mkF m 74 L1260 [])
  refine own_pre (g' := (mkF m 77 #[.val (.ref a221), .val (.ref a299), .val (.ref a1123), .val (.int (6 : Int32)), .val (.int (3 : Int32)), .val (.int (3 : Int32)), .val (.int (3 : Int32))] [])) (fun t k => XS.iinc X1272.here hx rfl (hb hby d6_74) (x := (2 : Int32)) (by rw [← hL1260]; rfl) (l' := #[.val (.ref a221), .val (.ref a299), .val (.ref a1123), .val (.int (6 : Int32)), .val (.int (3 : Int32)), .val (.int (3 : Int32)), .val (.int (3 : Int32))]) (by rw [← hL1260]; rfl) k) ?_
  generalize hL1275 : (#[.val (.ref a221), .val (.ref a299), .val (.ref a1123), .val (.int (6 : Int32)), .val (.int (3 : Int32)), .val (.int (3 : Int32)), .val (.int (3 : Int32))] : Array Slot) = L1275
  refine own_gt X1272 hx 52 (hb hby d6_77) (by decide) (by decide) ?_
  refine own_il (w := (3 : Int32)) X1272 hx (hb hby d6_52) (by rw [← hL1275]; rfl) ?_
  refine own_ic X1272 hx (3 : Int32) (hb hby d6_54) rfl ?_
  refine own_pre (g' := (mkF m 80 L1275 [])) (fun t k => XS.icmpYes X1272.here hx rfl (pc0 := 55) (pc' := 80) rfl (hb hby d6_55) rfl (by decide) (by decide) (by decide) k) ?_
  refine own_pre (g' := (mkF m 83 #[.val (.ref a221), .val (.ref a299), .val (.ref a1123), .val (.int (6 : Int32)), .val (.int (3 : Int32)), .val (.int (0 : Int32)), .val (.int (3 : Int32))] [])) (fun t k => XS.iinc X1272.here hx rfl (hb hby d6_80) (x := (3 : Int32)) (by rw [← hL1275]; rfl) (l' := #[.val (.ref a221), .val (.ref a299), .val (.ref a1123), .val (.int (6 : Int32)), .val (.int (3 : Int32)), .val (.int (0 : Int32)), .val (.int (3 : Int32))]) (by rw [← hL1275]; rfl) k) ?_
  generalize hL1276 : (#[.val (.ref a221), .val (.ref a299), .val (.ref a1123), .val (.int (6 : Int32)), .val (.int (3 : Int32)), .val (.int (0 : Int32)), .val (.int (3 : Int32))] : Array Slot) = L1276
  refine own_gt X1272 hx 30 (hb hby d6_83) (by decide) (by decide) ?_
  refine own_il (w := (0 : Int32)) X1272 hx (hb hby d6_30) (by rw [← hL1276]; rfl) ?_
  refine own_pre (g' := (mkF m 86 L1276 [])) (fun t k => XS.ifYes X1272.here hx rfl (pc0 := 32) (pc' := 86) rfl (hb hby d6_32) rfl (by decide) (by decide) (by decide) k) ?_
  refine own_pre (g' := (mkF m 89 #[.val (.ref a221), .val (.ref a299), .val (.ref a1123), .val (.int (6 : Int32)), .val (.int (6 : Int32)), .val (.int (0 : Int32)), .val (.int (3 : Int32))] [])) (fun t k => XS.iinc X1272.here hx rfl (hb hby d6_86) (x := (3 : Int32)) (by rw [← hL1276]; rfl) (l' := #[.val (.ref a221), .val (.ref a299), .val (.ref a1123), .val (.int (6 : Int32)), .val (.int (6 : Int32)), .val (.int (0 : Int32)), .val (.int (3 : Int32))]) (by rw [← hL1276]; rfl) k) ?_
  generalize hL1277 : (#[.val (.ref a221), .val (.ref a299), .val (.ref a1123), .val (.int (6 : Int32)), .val (.int (6 : Int32)), .val (.int (0 : Int32)), .val (.int (3 : Int32))] : Array Slot) = L1277
  refine own_gt X1272 hx 20 (hb hby d6_89) (by decide) (by decide) ?_
  refine own_il (w := (6 : Int32)) X1272 hx (hb hby d6_20) (by rw [← hL1277]; rfl) ?_
  refine own_ilN (w := (6 : Int32)) X1272 hx (hb hby d6_22) (by rw [← hL1277]; rfl) ?_
  refine own_pre (g' := (mkF m 92 L1277 [])) (fun t k => XS.icmpYes X1272.here hx rfl (pc0 := 23) (pc' := 92) rfl (hb hby d6_23) rfl (by decide) (by decide) (by decide) k) ?_
  have F1281 := (F1265.keep K1272)
  have F1282 : n0 ≤ h1272.size := (Nat.le_trans F1271 K1272.1)
  refine own_newobj X1272 hx hZ hown (own_w hw 57 rfl) (own_w hw 58 rfl) (own_w hw 59 rfl) e1272 (hb hby d6_92) (by decide) (by decide) ?_
  intro T1283 h1283 a1283 g1283 X1283 e1283 E1283 A1283 D1283
  have lt1287 : a1123 < a1283 := Nat.lt_of_lt_of_le F1281.lt (Nat.le_of_eq g1283.symm)
  have F1288 : h0.size ≤ h1272.size := (Nat.le_trans (Nat.le_trans (Nat.le_trans (Nat.le_trans (Nat.le_trans (Nat.le_trans (Nat.le_refl _) E1123.1) K1175.1) K1222.1) K1242.1) K1257.1) K1272.1)
  have ge1289 : h0.size ≤ a1283 := Nat.le_trans F1288 (Nat.le_of_eq g1283.symm)
  have nw1290 : n0 ≤ a1283 := Nat.le_trans F1282 (Nat.le_of_eq g1283.symm)
  have F1291 : Fld Z h1283 a1283 own_k1 "low" "D" (.double (0 : UInt64)) := D1283 (Or.inl (own_w hw 66 rfl)) (ty := .double) (by decide)
  have F1292 : Fld Z h1283 a1283 own_k1 "high" "D" (.double (0 : UInt64)) := D1283 (Or.inl (own_w hw 69 rfl)) (ty := .double) (by decide)
  have F1293 : Fld Z h1283 a1283 own_k1 "gapLow" "D" (.double (0 : UInt64)) := D1283 (Or.inl (own_w hw 76 rfl)) (ty := .double) (by decide)
  have F1294 : Fld Z h1283 a1283 own_k1 "gapHigh" "D" (.double (0 : UInt64)) := D1283 (Or.inl (own_w hw 78 rfl)) (ty := .double) (by decide)
  have F1295 : Fld Z h1283 a1283 own_k1 "count" "D" (.double (0 : UInt64)) := D1283 (Or.inl (own_w hw 80 rfl)) (ty := .double) (by decide)
  have F1296 : Fld Z h1283 a1283 own_k1 "below" "D" (.double (0 : UInt64)) := D1283 (Or.inl (own_w hw 82 rfl)) (ty := .double) (by decide)
  show own_Go _ _ _ _ _ _ _ T1283 (mkF m 95 L1277 [(.ref a1283)])
  refine own_pre (g' := (mkF m 96 L1277 [(.ref a1283), (.ref a1283)])) (fun t k => XS.dup X1283.here hx rfl (hb hby d6_95) rfl rfl k) ?_
  have F1313 : n0 ≤ h1283.size := (Nat.le_trans F1282 E1283.1)
  refine own_initR (a := a1283) (argsL := []) (rest := [(.ref a1283)]) X1283 hx hZ hown (own_s53 l Z a0 hw [] a1283 h1283 n0 F1313 A1283 F1291 F1292 F1293 F1294 F1295 F1296 nw1290) rfl (own_w hw 60 rfl) (own_w hw 61 rfl) (own_w hw 62 rfl) (own_w hw 59 rfl) (by decide) e1283 (hb hby d6_96) (by rw [hml, ← hL1277]; rfl) rfl (lenOf own_pd0 rfl) (by decide) (W := 1) (Nat.le_of_eq rfl) (by decide) (by decide) (by decide) ?_
  intro v1314 T1314 lo1314 X1314 Q1314
  obtain ⟨h1314, e1314⟩ : ∃ h, T1314.heap = h := ⟨_, rfl⟩
  rw [e1314] at Q1314
  obtain ⟨rfl, N1314, K1314, F1315, F1316, F1317, F1318, F1319, F1320⟩ := Q1314
  have N1314' := Fr.app N1272' N1314
  show own_Go _ _ _ _ _ _ _ T1314 (mkF m 99 L1277 [(.ref a1283)])
  refine own_pre (g' := (mkF m 101 #[.val (.ref a221), .val (.ref a299), .val (.ref a1123), .val (.int (6 : Int32)), .val (.ref a1283), .val (.int (0 : Int32)), .val (.int (3 : Int32))] [])) (fun t k => XS.astore X1314.here hx rfl (hb hby d6_99) rfl rfl (l' := #[.val (.ref a221), .val (.ref a299), .val (.ref a1123), .val (.int (6 : Int32)), .val (.ref a1283), .val (.int (0 : Int32)), .val (.int (3 : Int32))]) (by rw [← hL1277]; rfl) k) ?_
  generalize hL1322 : (#[.val (.ref a221), .val (.ref a299), .val (.ref a1123), .val (.int (6 : Int32)), .val (.ref a1283), .val (.int (0 : Int32)), .val (.int (3 : Int32))] : Array Slot) = L1322
  refine own_ic X1314 hx (0 : Int32) (hb hby d6_101) rfl ?_
  refine own_pre (g' := (mkF m 104 #[.val (.ref a221), .val (.ref a299), .val (.ref a1123), .val (.int (6 : Int32)), .val (.ref a1283), .val (.int (0 : Int32)), .val (.int (3 : Int32))] [])) (fun t k => XS.istore X1314.here hx rfl (hb hby d6_102) rfl (l' := #[.val (.ref a221), .val (.ref a299), .val (.ref a1123), .val (.int (6 : Int32)), .val (.ref a1283), .val (.int (0 : Int32)), .val (.int (3 : Int32))]) (by rw [← hL1322]; rfl) k) ?_
  generalize hL1323 : (#[.val (.ref a221), .val (.ref a299), .val (.ref a1123), .val (.int (6 : Int32)), .val (.ref a1283), .val (.int (0 : Int32)), .val (.int (3 : Int32))] : Array Slot) = L1323
  refine own_il (w := (0 : Int32)) X1314 hx (hb hby d6_104) (by rw [← hL1323]; rfl) ?_
  refine own_ilN (w := (6 : Int32)) X1314 hx (hb hby d6_106) (by rw [← hL1323]; rfl) ?_
  refine own_pre (g' := (mkF m 110 L1323 [])) (fun t k => XS.icmpNo X1314.here hx rfl (hb hby d6_107) rfl (by decide) k) ?_
  refine own_al (w := (.ref a1283)) X1314 hx (hb hby d6_110) (by rw [← hL1323]; rfl) rfl ?_
  refine own_alN (w := (.ref a1123)) X1314 hx (hb hby d6_112) (by rw [← hL1323]; rfl) rfl ?_
  refine own_il (w := (0 : Int32)) X1314 hx (hb hby d6_113) (by rw [← hL1323]; rfl) ?_
  have F1324 := ((F1273.ext E1283).keep K1314 (ninS (Nat.ne_of_lt lt1287) nin0))
  refine own_daload X1314 hx hZ e1314 F1324 (hb hby d6_115) (n := 0) (v := (.double f237)) (by decide) (by decide) rfl ?_
  show own_Go _ _ _ _ _ _ _ T1314 (mkF m 116 L1323 [(.double f237), (.ref a1283)])
  refine own_alN (w := (.ref a1123)) X1314 hx (hb hby d6_116) (by rw [← hL1323]; rfl) rfl ?_
  refine own_il (w := (0 : Int32)) X1314 hx (hb hby d6_117) (by rw [← hL1323]; rfl) ?_
  refine own_ic X1314 hx (1 : Int32) (hb hby d6_119) rfl ?_
  refine own_pre (g' := (mkF m 121 L1323 [(.int (1 : Int32)), (.ref a1123), (.double f237), (.ref a1283)])) (fun t k => XS.iadd X1314.here hx rfl (hb hby d6_120) rfl k) ?_
  refine own_daload X1314 hx hZ e1314 F1324 (hb hby d6_121) (n := 1) (v := (.double f238)) (by decide) (by decide) rfl ?_
  show own_Go _ _ _ _ _ _ _ T1314 (mkF m 122 L1323 [(.double f238), (.double f237), (.ref a1283)])
  refine own_alN (w := (.ref a1123)) X1314 hx (hb hby d6_122) (by rw [← hL1323]; rfl) rfl ?_
  refine own_il (w := (0 : Int32)) X1314 hx (hb hby d6_123) (by rw [← hL1323]; rfl) ?_
  refine own_ic X1314 hx (2 : Int32) (hb hby d6_125) rfl ?_
  refine own_pre (g' := (mkF m 127 L1323 [(.int (2 : Int32)), (.ref a1123), (.double f238), (.double f237), (.ref a1283)])) (fun t k => XS.iadd X1314.here hx rfl (hb hby d6_126) rfl k) ?_
  refine own_daload X1314 hx hZ e1314 F1324 (hb hby d6_127) (n := 2) (v := (.double (4607182418800017408 : UInt64))) (by decide) (by decide) rfl ?_
  show own_Go _ _ _ _ _ _ _ T1314 (mkF m 128 L1323 [(.double (4607182418800017408 : UInt64)), (.double f238), (.double f237), (.ref a1283)])
  have F1329 := (A1283.keep K1314)
  have F1355 : n0 ≤ h1314.size := (Nat.le_trans F1313 K1314.1)
  refine own_callv (a := a1283) (argsL := [(.double f237), (.double f238), (.double (4607182418800017408 : UInt64))]) (rest := []) X1314 hx hZ hown (own_s54 l Z a0 hw [] a1283 f237 f238 h1314 n0 F1355 F1329 F1315 F1316 F1317 F1318 F1319 F1320 nw1290) F1329 (own_w hw 70 rfl) (own_w hw 71 rfl) (own_w hw 73 rfl) (own_w hw 72 rfl) (own_w hw 74 rfl) (own_w hw 59 rfl) (by decide) e1314 (hb hby d6_128) (by rw [hml, ← hL1323]; rfl) rfl (lenOf own_pd5 rfl) (by decide) (W := 0) (Nat.le_of_eq rfl) (by decide) (by decide) (by decide) ?_
  intro v1356 T1356 lo1356 X1356 Q1356
  obtain ⟨h1356, e1356⟩ : ∃ h, T1356.heap = h := ⟨_, rfl⟩
  rw [e1356] at Q1356
  obtain ⟨rfl, N1356, K1356, F1357, F1358, F1359, F1360, F1361, F1362⟩ := Q1356
  have N1356' := Fr.app N1314' N1356
  show own_Go _ _ _ _ _ _ _ T1356 (mkF m 131 L1323 [])
  refine own_pre (g' := (mkF m 134 #[.val (.ref a221), .val (.ref a299), .val (.ref a1123), .val (.int (6 : Int32)), .val (.ref a1283), .val (.int (3 : Int32)), .val (.int (3 : Int32))] [])) (fun t k => XS.iinc X1356.here hx rfl (hb hby d6_131) (x := (0 : Int32)) (by rw [← hL1323]; rfl) (l' := #[.val (.ref a221), .val (.ref a299), .val (.ref a1123), .val (.int (6 : Int32)), .val (.ref a1283), .val (.int (3 : Int32)), .val (.int (3 : Int32))]) (by rw [← hL1323]; rfl) k) ?_
  generalize hL1364 : (#[.val (.ref a221), .val (.ref a299), .val (.ref a1123), .val (.int (6 : Int32)), .val (.ref a1283), .val (.int (3 : Int32)), .val (.int (3 : Int32))] : Array Slot) = L1364
  refine own_gt X1356 hx 104 (hb hby d6_134) (by decide) (by decide) ?_
  refine own_il (w := (3 : Int32)) X1356 hx (hb hby d6_104) (by rw [← hL1364]; rfl) ?_
  refine own_ilN (w := (6 : Int32)) X1356 hx (hb hby d6_106) (by rw [← hL1364]; rfl) ?_
  refine own_pre (g' := (mkF m 110 L1364 [])) (fun t k => XS.icmpNo X1356.here hx rfl (hb hby d6_107) rfl (by decide) k) ?_
  refine own_al (w := (.ref a1283)) X1356 hx (hb hby d6_110) (by rw [← hL1364]; rfl) rfl ?_
  refine own_alN (w := (.ref a1123)) X1356 hx (hb hby d6_112) (by rw [← hL1364]; rfl) rfl ?_
  refine own_il (w := (3 : Int32)) X1356 hx (hb hby d6_113) (by rw [← hL1364]; rfl) ?_
  have F1365 := (F1324.keep K1356 (ninS (Nat.ne_of_lt lt1287) nin0))
  refine own_daload X1356 hx hZ e1356 F1365 (hb hby d6_115) (n := 3) (v := (.double f163)) (by decide) (by decide) rfl ?_
  show own_Go _ _ _ _ _ _ _ T1356 (mkF m 116 L1364 [(.double f163), (.ref a1283)])
  refine own_alN (w := (.ref a1123)) X1356 hx (hb hby d6_116) (by rw [← hL1364]; rfl) rfl ?_
  refine own_il (w := (3 : Int32)) X1356 hx (hb hby d6_117) (by rw [← hL1364]; rfl) ?_
  refine own_ic X1356 hx (1 : Int32) (hb hby d6_119) rfl ?_
  refine own_pre (g' := (mkF m 121 L1364 [(.int (4 : Int32)), (.ref a1123), (.double f163), (.ref a1283)])) (fun t k => XS.iadd X1356.here hx rfl (hb hby d6_120) rfl k) ?_
  refine own_daload X1356 hx hZ e1356 F1365 (hb hby d6_121) (n := 4) (v := (.double f164)) (by decide) (by decide) rfl ?_
  show own_Go _ _ _ _ _ _ _ T1356 (mkF m 122 L1364 [(.double f164), (.double f163), (.ref a1283)])
  refine own_alN (w := (.ref a1123)) X1356 hx (hb hby d6_122) (by rw [← hL1364]; rfl) rfl ?_
  refine own_il (w := (3 : Int32)) X1356 hx (hb hby d6_123) (by rw [← hL1364]; rfl) ?_
  refine own_ic X1356 hx (2 : Int32) (hb hby d6_125) rfl ?_
  refine own_pre (g' := (mkF m 127 L1364 [(.int (5 : Int32)), (.ref a1123), (.double f164), (.double f163), (.ref a1283)])) (fun t k => XS.iadd X1356.here hx rfl (hb hby d6_126) rfl k) ?_
  refine own_daload X1356 hx hZ e1356 F1365 (hb hby d6_127) (n := 5) (v := (.double (4607182418800017408 : UInt64))) (by decide) (by decide) rfl ?_
  show own_Go _ _ _ _ _ _ _ T1356 (mkF m 128 L1364 [(.double (4607182418800017408 : UInt64)), (.double f164), (.double f163), (.ref a1283)])
  have F1370 := (F1329.keep K1356)
  have F1413 : n0 ≤ h1356.size := (Nat.le_trans F1355 K1356.1)
  refine own_callv (a := a1283) (argsL := [(.double f163), (.double f164), (.double (4607182418800017408 : UInt64))]) (rest := []) X1356 hx hZ hown (own_s55 l Z a0 hw [] a1283 f163 f164 f237 f238 p4 p5 v7 w0 v15 h1356 n0 F1413 F1370 F1357 F1358 F1359 F1360 F1361 F1362 nw1290 H24 H25 H26 H27 H28 H29 H30 H31) F1370 (own_w hw 70 rfl) (own_w hw 71 rfl) (own_w hw 73 rfl) (own_w hw 72 rfl) (own_w hw 74 rfl) (own_w hw 59 rfl) (by decide) e1356 (hb hby d6_128) (by rw [hml, ← hL1364]; rfl) rfl (lenOf own_pd5 rfl) (by decide) (W := 0) (Nat.le_of_eq rfl) (by decide) (by decide) (by decide) ?_
  intro v1414 T1414 lo1414 X1414 Q1414
  obtain ⟨h1414, e1414⟩ : ∃ h, T1414.heap = h := ⟨_, rfl⟩
  rw [e1414] at Q1414
  obtain ⟨f1415, f1416, rfl, N1414, K1414, F1417, F1418, F1419, F1420, F1421, F1422, D1423, D1424⟩ := Q1414
  have N1414' := Fr.app N1356' N1414
  show own_Go _ _ _ _ _ _ _ T1414 (mkF m 131 L1364 [])
  refine own_pre (g' := (mkF m 134 #[.val (.ref a221), .val (.ref a299), .val (.ref a1123), .val (.int (6 : Int32)), .val (.ref a1283), .val (.int (6 : Int32)), .val (.int (3 : Int32))] [])) (fun t k => XS.iinc X1414.here hx rfl (hb hby d6_131) (x := (3 : Int32)) (by rw [← hL1364]; rfl) (l' := #[.val (.ref a221), .val (.ref a299), .val (.ref a1123), .val (.int (6 : Int32)), .val (.ref a1283), .val (.int (6 : Int32)), .val (.int (3 : Int32))]) (by rw [← hL1364]; rfl) k) ?_
  generalize hL1426 : (#[.val (.ref a221), .val (.ref a299), .val (.ref a1123), .val (.int (6 : Int32)), .val (.ref a1283), .val (.int (6 : Int32)), .val (.int (3 : Int32))] : Array Slot) = L1426
  refine own_gt X1414 hx 104 (hb hby d6_134) (by decide) (by decide) ?_
  refine own_il (w := (6 : Int32)) X1414 hx (hb hby d6_104) (by rw [← hL1426]; rfl) ?_
  refine own_ilN (w := (6 : Int32)) X1414 hx (hb hby d6_106) (by rw [← hL1426]; rfl) ?_
  refine own_pre (g' := (mkF m 137 L1426 [])) (fun t k => XS.icmpYes X1414.here hx rfl (pc0 := 107) (pc' := 137) rfl (hb hby d6_107) rfl (by decide) (by decide) (by decide) k) ?_
  refine own_al (w := (.ref a1283)) X1414 hx (hb hby d6_137) (by rw [← hL1426]; rfl) rfl ?_
  have F1430 := (F1370.keep K1414)
  have F1506 : n0 ≤ h1414.size := (Nat.le_trans F1413 K1414.1)
  refine own_callv (a := a1283) (argsL := []) (rest := []) X1414 hx hZ hown (own_s56 l Z a0 hw [] a1283 f237 f1415 f238 f163 f1416 p5 p4 v7 w0 v15 h1414 n0 F1506 F1417 F1418 F1419 F1420 F1421 F1422 H26 D1423 H27 H24 H28 H29 H30 H31) F1430 (own_w hw 87 rfl) (own_w hw 88 rfl) (own_w hw 90 rfl) (own_w hw 89 rfl) (own_w hw 91 rfl) (own_w hw 59 rfl) (by decide) e1414 (hb hby d6_139) (by rw [hml, ← hL1426]; rfl) rfl (lenOf own_pd6 rfl) (by decide) (W := 0) (Nat.le_of_eq rfl) (by decide) (by decide) (by decide) ?_
  intro v1507 T1507 lo1507 X1507 Q1507
  obtain ⟨h1507, e1507⟩ : ∃ h, T1507.heap = h := ⟨_, rfl⟩
  rw [e1507] at Q1507
  have F1520 : h0.size ≤ h1414.size := (Nat.le_trans (Nat.le_trans (Nat.le_trans (Nat.le_trans F1288 E1283.1) K1314.1) K1356.1) K1414.1)
  obtain ⟨a1508, rfl, N1507, K1507, ge1509, F1510, F1511, F1512, F1513, F1514, F1515, F1516⟩ := Q1507
  have N1507' := Fr.app N1414' N1507
  show own_Go _ _ _ _ _ _ _ T1507 (mkF m 142 L1426 [(.ref a1508)])
  have ge1528 : h0.size ≤ a1508 := Nat.le_trans F1520 ge1509
  exact own_retA X1507 hx hlk hret rfl rfl rfl (hb hby d6_142) e1507 ⟨a1508, f1415, f1416, rfl, N1507', ((((((((((((Keep.refl _ _).ext E1123).trans K1175 (allS (Or.inr ge1127) all0)).trans K1222 (allS (Or.inr ge1127) all0)).trans K1242 (allS (Or.inr ge1127) all0)).trans K1257 (allS (Or.inr ge1127) all0)).trans K1272 (allS (Or.inr ge1127) all0)).ext E1283).trans K1314 (allS (Or.inr ge1289) all0)).trans K1356 (allS (Or.inr ge1289) all0)).trans K1414 (allS (Or.inr ge1289) all0)).trans K1507 all0), ge1528, F1510, F1511, F1512, F1513, F1514, F1515, F1516, D1423, D1424⟩ (by decide) (by decide)
def own_s59_Q (Z : State) (a1531 : Addr) (f238 : UInt64) (f163 : UInt64) (p5 : Int32) (p4 : Int32) (v7 : Int32) (w0 : Int32) (v15 : Int32) (h0 : Heap) (n0 : Nat) (v_ : Option Value) (h_ : Heap) (L_ : List Loc) : Prop := (fun v h L => v = some (.int (1 : Int32)) ∧ Fr n0 L ∧ h = h0) v_ h_ L_
set_option maxRecDepth 65536 in
set_option maxHeartbeats 40000000 in
theorem own_s59 (l : Launch) (Z : State) (a0 : Array Value) (hw : ∀ d ∈ tables_1, d.before a0 Z = true) (wds : List Jvm.Cond) (a1531 : Addr) (f238 : UInt64) (f163 : UInt64) (p5 : Int32) (p4 : Int32) (v7 : Int32) (w0 : Int32) (v15 : Int32) (h0 : Heap) (n0 : Nat) (Z0 : n0 ≤ h0.size) (H7 : Fld Z h0 a1531 own_k0 "gapLow" "D" (.double f238)) (H8 : Fld Z h0 a1531 own_k0 "gapHigh" "D" (.double f163)) (H15 : FP.Core.DInt p5.toInt f238) (H16 : FP.Core.DInt p4.toInt f163) (H19 : 0 ≤ v7.toInt ∧ v7.toInt ≤ 65535) (H20 : 0 ≤ w0.toInt ∧ w0.toInt ≤ 65535) (H21 : 0 ≤ v15.toInt ∧ v15.toInt ≤ 65535) (H22 : p5.toInt < p4.toInt) :
    MetFree l (⟨own_k0, "hasGap", "()Z"⟩ : MethodName) (head1 (Jvm.Cond.code (⟨own_k0, "hasGap", "()Z"⟩ : MethodName) prog_16_method_4_code 1 (some .boolean) :: wds) ({ frames := 0, cells := 0, slots := 0, locals := 0 } : Room)) (fun ar_ U_ => ar_ = #[(.ref a1531)] ∧ Z.Warmed39 U_.vm ∧ U_.heap = h0) (fun _ _ _ _ _ => True) (fun _ U_ o_ V_ => ∃ v_ L_, o_ = .returned v_ ∧ own_s59_Q Z a1531 f238 f163 p5 p4 v7 w0 v15 h0 n0 v_ V_.heap L_ ∧ FrameEnd U_ o_ V_ L_ ({ frames := 0, cells := 0, slots := 0, locals := 0 } : Room).cells ({ frames := 0, cells := 0, slots := 0, locals := 0 } : Room).slots) := by
  refine own_met (y := ⟨own_k0, "hasGap", "()Z"⟩) (Q := own_s59_Q Z a1531 f238 f163 p5 p4 v7 w0 v15 h0 n0) own_pn0 ?_
  intro p e s m below meth c s₁ hx hby hml hZ hown hnm hret hlk X0 e0
  have N0 := Fr.nil n0
  refine own_cast (g' := (mkF m 0 #[.val (.ref a1531)] [])) (by first | (simp [entryFrame, mkF, argsToLocals, Value.category]; done) | rfl) ?_
  refine own_alN (w := (.ref a1531)) X0 hx (hb hby d4_0) rfl rfl ?_
  refine own_getf X0 hx hZ hown (own_w hw 18 rfl) e0 H7 (hb hby d4_1) ?_
  intro T1556 X1556 e1556
  show own_Go _ _ _ _ _ _ _ T1556 (mkF m 4 #[.val (.ref a1531)] [(.double f238)])
  refine own_alN (w := (.ref a1531)) X1556 hx (hb hby d4_4) rfl rfl ?_
  refine own_getf X1556 hx hZ hown (own_w hw 20 rfl) e1556 H8 (hb hby d4_5) ?_
  intro T1557 X1557 e1557
  show own_Go _ _ _ _ _ _ _ T1557 (mkF m 8 #[.val (.ref a1531)] [(.double f163), (.double f238)])
  obtain ⟨k1558, hk1558⟩ : ∃ z, own_c p5.toInt p4.toInt = z := ⟨_, rfl⟩
  refine own_pre (g' := (mkF m 9 #[.val (.ref a1531)] [(.int k1558)])) (fun t k => XS.dcmpS X1557.here hx rfl (hb hby d4_8) rfl ((own_dcmp H15 H16 _).trans hk1558) k) ?_
  have hc1559 : k1558 < (0 : Int32) := by rw [← hk1558, own_c_lt] <;> (have := H19; have := H20; have := H21; have := H22; have := rng32 p5; have := rng32 p4; omega)
  refine own_pre (g' := (mkF m 12 #[.val (.ref a1531)] [])) (fun t k => XS.ifNo X1557.here hx rfl (hb hby d4_9) rfl ((if0 _ _).trans (tlt hc1559).2.1) k) ?_
  refine own_ic X1557 hx (1 : Int32) (hb hby d4_12) rfl ?_
  refine own_gt X1557 hx 17 (hb hby d4_13) (by decide) (by decide) ?_
  exact own_retZ X1557 hx hlk hret rfl (hb hby d4_17) e1557 ⟨rfl, N0, rfl⟩ (by decide) (by decide)
def own_law_Q (Z : State) (p0 p1 p2 p3 p4 p5 : Int32) (rn : Addr) (h0 : Heap) (n0 : Nat) (v_ : Option Value) (h_ : Heap) (L_ : List Loc) : Prop := (fun v h L => v = some (.int 1) ∧ Fr n0 L) v_ h_ L_
set_option maxRecDepth 65536 in
set_option maxHeartbeats 40000000 in
theorem own_law (l : Launch) (Z : State) (a0 : Array Value) (hw : ∀ d ∈ tables_1, d.before a0 Z = true) (wds : List Jvm.Cond) (p0 p1 p2 p3 p4 p5 : Int32) (rn : Addr) (h0 : Heap) (n0 : Nat) (Z0 : n0 ≤ h0.size) (Sn : Sta Z h0 own_k0 "NONE" "Lcom/example/rankline/rankline/Extent;" (.ref rn)) (En : Exa Z h0 rn own_k0) (Fn1 : Fld Z h0 rn own_k0 "gapLow" "D" (.double (9218868437227405312 : UInt64))) (Fn2 : Fld Z h0 rn own_k0 "gapHigh" "D" (.double (9218868437227405312 : UInt64))) :
    MetFree l x (head1 (Jvm.Cond.code x code maxLocals ret :: wds) room_1) (fun ar_ U_ => ar_ = #[(.int p0), (.int p1), (.int p2), (.int p3), (.int p4), (.int p5)] ∧ Z.Warmed39 U_.vm ∧ U_.heap = h0) (fun _ _ _ _ _ => True) (fun _ U_ o_ V_ => ∃ v_ L_, o_ = .returned v_ ∧ own_law_Q Z p0 p1 p2 p3 p4 p5 rn h0 n0 v_ V_.heap L_ ∧ FrameEnd U_ o_ V_ L_ room_1.cells room_1.slots) := by
  refine own_met (y := x) (Q := own_law_Q Z p0 p1 p2 p3 p4 p5 rn h0 n0) own_pn1 ?_
  intro p e s m below meth c s₁ hx hby hml hZ hown hnm hret hlk X0 e0
  have N0 := Fr.nil n0
  refine own_cast (g' := (mkF m 0 #[.val (.int p0), .val (.int p1), .val (.int p2), .val (.int p3), .val (.int p4), .val (.int p5), .unset, .unset, .unset, .unset, .unset, .unset, .unset, .unset, .unset, .unset, .unset, .unset, .unset, .unset, .unset] [])) (by first | (simp [entryFrame, mkF, argsToLocals, Value.category, maxLocals]; done) | rfl) ?_
  generalize hL4 : (#[.val (.int p0), .val (.int p1), .val (.int p2), .val (.int p3), .val (.int p4), .val (.int p5), .unset, .unset, .unset, .unset, .unset, .unset, .unset, .unset, .unset, .unset, .unset, .unset, .unset, .unset, .unset] : Array Slot) = L4
  refine own_ilN (w := p0) X0 hx (hb hby at_0) (by rw [← hL4]; rfl) ?_
  obtain ⟨f5, hf5⟩ : ∃ z, FP.i2d p0 = z := ⟨_, rfl⟩
  refine own_pre (g' := (mkF m 2 L4 [(.double f5)])) (fun t k => XS.i2dS X0.here hx rfl (hb hby at_1) rfl hf5 k) ?_
  have Df5 : Jvm.FP.Core.DInt p0.toInt f5 := hf5 ▸ Jvm.FP.Core.i2d_int _
  refine own_pre (g' := (mkF m 4 #[.val (.int p0), .val (.int p1), .val (.int p2), .val (.int p3), .val (.int p4), .val (.int p5), .val (.double f5), .second, .unset, .unset, .unset, .unset, .unset, .unset, .unset, .unset, .unset, .unset, .unset, .unset, .unset] [])) (fun t k => XS.dstore X0.here hx rfl (hb hby at_2) rfl (l' := #[.val (.int p0), .val (.int p1), .val (.int p2), .val (.int p3), .val (.int p4), .val (.int p5), .val (.double f5), .second, .unset, .unset, .unset, .unset, .unset, .unset, .unset, .unset, .unset, .unset, .unset, .unset, .unset]) (by rw [← hL4]; rfl) k) ?_
  generalize hL6 : (#[.val (.int p0), .val (.int p1), .val (.int p2), .val (.int p3), .val (.int p4), .val (.int p5), .val (.double f5), .second, .unset, .unset, .unset, .unset, .unset, .unset, .unset, .unset, .unset, .unset, .unset, .unset, .unset] : Array Slot) = L6
  refine own_dl (w := f5) X0 hx (hb hby at_4) (by rw [← hL6]; rfl) ?_
  refine own_ilN (w := p1) X0 hx (hb hby at_6) (by rw [← hL6]; rfl) ?_
  refine own_ldci X0 hx hZ hown (own_w hw 0 rfl) (hb hby at_7) ?_
  show own_Go _ _ _ _ _ _ _ s₁ (mkF m 9 L6 [(.int (65535 : Int32)), (.int p1), (.double f5)])
  refine own_pre (g' := (mkF m 10 L6 [(.int (p1 &&& (65535 : Int32))), (.double f5)])) (fun t k => XS.iand X0.here hx rfl (hb hby at_9) rfl k) ?_
  generalize hv7 : p1 &&& (65535 : Int32) = v7
  have bv7 := own_mask hv7
  obtain ⟨f8, hf8⟩ : ∃ z, FP.i2d v7 = z := ⟨_, rfl⟩
  refine own_pre (g' := (mkF m 11 L6 [(.double f8), (.double f5)])) (fun t k => XS.i2dS X0.here hx rfl (hb hby at_10) rfl hf8 k) ?_
  have Df8 : Jvm.FP.Core.DInt v7.toInt f8 := hf8 ▸ Jvm.FP.Core.i2d_int _
  obtain ⟨f9, hf9⟩ : ∃ z, FP.dadd f5 f8 = z := ⟨_, rfl⟩
  have Df9 : Jvm.FP.Core.DInt (p0.toInt + v7.toInt) f9 := hf9 ▸ Jvm.FP.Core.dadd_int Df5 Df8 (by have := bv7; have := rng32 p0; have := rng32 v7; omega)
  refine own_pre (g' := (mkF m 12 L6 [(.double f9)])) (fun t k => XS.daddS X0.here hx rfl (hb hby at_11) rfl (by rw [hf9]; exact own_DInt_nn Df9) hf9 k) ?_
  refine own_pre (g' := (mkF m 14 #[.val (.int p0), .val (.int p1), .val (.int p2), .val (.int p3), .val (.int p4), .val (.int p5), .val (.double f5), .second, .val (.double f9), .second, .unset, .unset, .unset, .unset, .unset, .unset, .unset, .unset, .unset, .unset, .unset] [])) (fun t k => XS.dstore X0.here hx rfl (hb hby at_12) rfl (l' := #[.val (.int p0), .val (.int p1), .val (.int p2), .val (.int p3), .val (.int p4), .val (.int p5), .val (.double f5), .second, .val (.double f9), .second, .unset, .unset, .unset, .unset, .unset, .unset, .unset, .unset, .unset, .unset, .unset]) (by rw [← hL6]; rfl) k) ?_
  generalize hL10 : (#[.val (.int p0), .val (.int p1), .val (.int p2), .val (.int p3), .val (.int p4), .val (.int p5), .val (.double f5), .second, .val (.double f9), .second, .unset, .unset, .unset, .unset, .unset, .unset, .unset, .unset, .unset, .unset, .unset] : Array Slot) = L10
  refine own_ilN (w := p2) X0 hx (hb hby at_14) (by rw [← hL10]; rfl) ?_
  refine own_ic X0 hx (1 : Int32) (hb hby at_15) rfl ?_
  refine own_pre (g' := (mkF m 17 L10 [(.int (p2 &&& (1 : Int32)))])) (fun t k => XS.iand X0.here hx rfl (hb hby at_16) rfl k) ?_
  have mid : ∀ w0 : Int32, (0 ≤ w0.toInt ∧ w0.toInt ≤ 65535) → own_Go p e below s (own_law_Q Z p0 p1 p2 p3 p4 p5 rn h0 n0) room_1.cells room_1.slots s₁ (mkF m 30 L10 [.int w0]) := by
    intro w0 hW
    refine own_pre (g' := (mkF m 32 #[.val (.int p0), .val (.int p1), .val (.int p2), .val (.int p3), .val (.int p4), .val (.int p5), .val (.double f5), .second, .val (.double f9), .second, .val (.int w0), .unset, .unset, .unset, .unset, .unset, .unset, .unset, .unset, .unset, .unset] [])) (fun t k => XS.istore X0.here hx rfl (hb hby at_30) rfl (l' := #[.val (.int p0), .val (.int p1), .val (.int p2), .val (.int p3), .val (.int p4), .val (.int p5), .val (.double f5), .second, .val (.double f9), .second, .val (.int w0), .unset, .unset, .unset, .unset, .unset, .unset, .unset, .unset, .unset, .unset]) (by rw [← hL10]; rfl) k) ?_
    generalize hL11 : (#[.val (.int p0), .val (.int p1), .val (.int p2), .val (.int p3), .val (.int p4), .val (.int p5), .val (.double f5), .second, .val (.double f9), .second, .val (.int w0), .unset, .unset, .unset, .unset, .unset, .unset, .unset, .unset, .unset, .unset] : Array Slot) = L11
    refine own_dl (w := f9) X0 hx (hb hby at_32) (by rw [← hL11]; rfl) ?_
    refine own_il (w := w0) X0 hx (hb hby at_34) (by rw [← hL11]; rfl) ?_
    obtain ⟨f12, hf12⟩ : ∃ z, FP.i2d w0 = z := ⟨_, rfl⟩
    refine own_pre (g' := (mkF m 37 L11 [(.double f12), (.double f9)])) (fun t k => XS.i2dS X0.here hx rfl (hb hby at_36) rfl hf12 k) ?_
    have Df12 : Jvm.FP.Core.DInt w0.toInt f12 := hf12 ▸ Jvm.FP.Core.i2d_int _
    obtain ⟨f13, hf13⟩ : ∃ z, FP.dadd f9 f12 = z := ⟨_, rfl⟩
    have Df13 : Jvm.FP.Core.DInt ((p0.toInt + v7.toInt) + w0.toInt) f13 := hf13 ▸ Jvm.FP.Core.dadd_int Df9 Df12 (by have := bv7; have := hW; have := rng32 p0; have := rng32 v7; have := rng32 w0; omega)
    refine own_pre (g' := (mkF m 38 L11 [(.double f13)])) (fun t k => XS.daddS X0.here hx rfl (hb hby at_37) rfl (by rw [hf13]; exact own_DInt_nn Df13) hf13 k) ?_
    refine own_pre (g' := (mkF m 40 #[.val (.int p0), .val (.int p1), .val (.int p2), .val (.int p3), .val (.int p4), .val (.int p5), .val (.double f5), .second, .val (.double f9), .second, .val (.int w0), .val (.double f13), .second, .unset, .unset, .unset, .unset, .unset, .unset, .unset, .unset] [])) (fun t k => XS.dstore X0.here hx rfl (hb hby at_38) rfl (l' := #[.val (.int p0), .val (.int p1), .val (.int p2), .val (.int p3), .val (.int p4), .val (.int p5), .val (.double f5), .second, .val (.double f9), .second, .val (.int w0), .val (.double f13), .second, .unset, .unset, .unset, .unset, .unset, .unset, .unset, .unset]) (by rw [← hL11]; rfl) k) ?_
    generalize hL14 : (#[.val (.int p0), .val (.int p1), .val (.int p2), .val (.int p3), .val (.int p4), .val (.int p5), .val (.double f5), .second, .val (.double f9), .second, .val (.int w0), .val (.double f13), .second, .unset, .unset, .unset, .unset, .unset, .unset, .unset, .unset] : Array Slot) = L14
    refine own_dl (w := f13) X0 hx (hb hby at_40) (by rw [← hL14]; rfl) ?_
    refine own_ilN (w := p3) X0 hx (hb hby at_42) (by rw [← hL14]; rfl) ?_
    refine own_ldci X0 hx hZ hown (own_w hw 0 rfl) (hb hby at_43) ?_
    show own_Go _ _ _ _ _ _ _ s₁ (mkF m 45 L14 [(.int (65535 : Int32)), (.int p3), (.double f13)])
    refine own_pre (g' := (mkF m 46 L14 [(.int (p3 &&& (65535 : Int32))), (.double f13)])) (fun t k => XS.iand X0.here hx rfl (hb hby at_45) rfl k) ?_
    generalize hv15 : p3 &&& (65535 : Int32) = v15
    have bv15 := own_mask hv15
    obtain ⟨f16, hf16⟩ : ∃ z, FP.i2d v15 = z := ⟨_, rfl⟩
    refine own_pre (g' := (mkF m 47 L14 [(.double f16), (.double f13)])) (fun t k => XS.i2dS X0.here hx rfl (hb hby at_46) rfl hf16 k) ?_
    have Df16 : Jvm.FP.Core.DInt v15.toInt f16 := hf16 ▸ Jvm.FP.Core.i2d_int _
    obtain ⟨f17, hf17⟩ : ∃ z, FP.dadd f13 f16 = z := ⟨_, rfl⟩
    have Df17 : Jvm.FP.Core.DInt (((p0.toInt + v7.toInt) + w0.toInt) + v15.toInt) f17 := hf17 ▸ Jvm.FP.Core.dadd_int Df13 Df16 (by have := bv7; have := hW; have := bv15; have := rng32 p0; have := rng32 v7; have := rng32 w0; have := rng32 v15; omega)
    refine own_pre (g' := (mkF m 48 L14 [(.double f17)])) (fun t k => XS.daddS X0.here hx rfl (hb hby at_47) rfl (by rw [hf17]; exact own_DInt_nn Df17) hf17 k) ?_
    refine own_pre (g' := (mkF m 50 #[.val (.int p0), .val (.int p1), .val (.int p2), .val (.int p3), .val (.int p4), .val (.int p5), .val (.double f5), .second, .val (.double f9), .second, .val (.int w0), .val (.double f13), .second, .val (.double f17), .second, .unset, .unset, .unset, .unset, .unset, .unset] [])) (fun t k => XS.dstore X0.here hx rfl (hb hby at_48) rfl (l' := #[.val (.int p0), .val (.int p1), .val (.int p2), .val (.int p3), .val (.int p4), .val (.int p5), .val (.double f5), .second, .val (.double f9), .second, .val (.int w0), .val (.double f13), .second, .val (.double f17), .second, .unset, .unset, .unset, .unset, .unset, .unset]) (by rw [← hL14]; rfl) k) ?_
    generalize hL18 : (#[.val (.int p0), .val (.int p1), .val (.int p2), .val (.int p3), .val (.int p4), .val (.int p5), .val (.double f5), .second, .val (.double f9), .second, .val (.int w0), .val (.double f13), .second, .val (.double f17), .second, .unset, .unset, .unset, .unset, .unset, .unset] : Array Slot) = L18
    refine own_newobj X0 hx hZ hown (own_w hw 1 rfl) (own_w hw 2 rfl) (own_w hw 3 rfl) e0 (hb hby at_50) (by decide) (by decide) ?_
    intro T19 h19 a19 g19 X19 e19 E19 A19 D19
    have lt20 : rn < a19 := Nat.lt_of_lt_of_le En.lt (Nat.le_of_eq g19.symm)
    have nw21 : n0 ≤ a19 := Nat.le_trans Z0 (Nat.le_of_eq g19.symm)
    have F22 : Fld Z h19 a19 own_k0 "low" "D" (.double (0 : UInt64)) := D19 (Or.inr (own_w hw 17 rfl)) (ty := .double) (by decide)
    have F23 : Fld Z h19 a19 own_k0 "gapLow" "D" (.double (0 : UInt64)) := D19 (Or.inr (own_w hw 19 rfl)) (ty := .double) (by decide)
    have F24 : Fld Z h19 a19 own_k0 "gapHigh" "D" (.double (0 : UInt64)) := D19 (Or.inr (own_w hw 21 rfl)) (ty := .double) (by decide)
    have F25 : Fld Z h19 a19 own_k0 "high" "D" (.double (0 : UInt64)) := D19 (Or.inr (own_w hw 23 rfl)) (ty := .double) (by decide)
    have F26 : Fld Z h19 a19 own_k0 "below" "D" (.double (0 : UInt64)) := D19 (Or.inr (own_w hw 25 rfl)) (ty := .double) (by decide)
    have F27 : Fld Z h19 a19 own_k0 "count" "D" (.double (0 : UInt64)) := D19 (Or.inr (own_w hw 27 rfl)) (ty := .double) (by decide)
    show own_Go _ _ _ _ _ _ _ T19 (mkF m 53 L18 [(.ref a19)])
    refine own_pre (g' := (mkF m 54 L18 [(.ref a19), (.ref a19)])) (fun t k => XS.dup X19.here hx rfl (hb hby at_53) rfl rfl k) ?_
    refine own_dl (w := f5) X19 hx (hb hby at_54) (by rw [← hL18]; rfl) ?_
    refine own_dl (w := f9) X19 hx (hb hby at_56) (by rw [← hL18]; rfl) ?_
    refine own_dl (w := f13) X19 hx (hb hby at_58) (by rw [← hL18]; rfl) ?_
    refine own_dl (w := f17) X19 hx (hb hby at_60) (by rw [← hL18]; rfl) ?_
    refine own_pre (g' := (mkF m 63 L18 [(.double (4607182418800017408 : UInt64)), (.double f17), (.double f13), (.double f9), (.double f5), (.ref a19), (.ref a19)])) (fun t k => XS.dconst1 X19.here hx rfl (v := (4607182418800017408 : UInt64)) (hb hby at_62) (by decide) k) ?_
    refine own_ldcd X19 hx hZ hown (own_w hw 4 rfl) (hb hby at_63) ?_
    show own_Go _ _ _ _ _ _ _ T19 (mkF m 66 L18 [(.double (4611686018427387904 : UInt64)), (.double (4607182418800017408 : UInt64)), (.double f17), (.double f13), (.double f9), (.double f5), (.ref a19), (.ref a19)])
    have F29 := (Sn.ext E19)
    have F30 := (En.ext E19)
    have F31 := (Fn1.ext E19)
    have F32 := (Fn2.ext E19)
    have F62 : n0 ≤ h19.size := (Nat.le_trans Z0 E19.1)
    refine own_init (a := a19) (argsL := [(.double f5), (.double f9), (.double f13), (.double f17), (.double (4607182418800017408 : UInt64)), (.double (4611686018427387904 : UInt64))]) (rest := [(.ref a19)]) X19 hx hZ hown (own_s1 l Z a0 hw [] a19 f5 f9 f13 f17 h19 n0 F62 A19 F22 F23 F24 F25 F26 F27 nw21) rfl (own_w hw 5 rfl) (own_w hw 6 rfl) (own_w hw 7 rfl) (own_w hw 3 rfl) (by decide) e19 (hb hby at_66) (by rw [hml, ← hL18]; rfl) rfl (lenOf own_pd1 rfl) (by decide) (W := 1) (Nat.le_of_eq rfl) (by decide) (by decide) (by decide) ?_
    intro v63 T63 lo63 X63 Q63
    obtain ⟨h63, e63⟩ : ∃ h, T63.heap = h := ⟨_, rfl⟩
    rw [e63] at Q63
    obtain ⟨rfl, N63, K63, F64, F65, F66, F67, F68, F69⟩ := Q63
    have N63' := Fr.app N0 N63
    have F70 : Sta Z h63 own_k0 "NONE" "Lcom/example/rankline/rankline/Extent;" (.ref rn) := own_Sta_keep F29 K63 (allS (own_exs A19) all0)
    show own_Go _ _ _ _ _ _ _ T63 (mkF m 69 L18 [(.ref a19)])
    have F71 : n0 ≤ h63.size := (Nat.le_trans F62 K63.1)
    have F72 := (A19.keep K63)
    refine own_callv (a := a19) (argsL := []) (rest := []) X63 hx hZ hown (own_gapT l Z a0 hw [] a19 f9 f13 (p0.toInt + v7.toInt) ((p0.toInt + v7.toInt) + w0.toInt) h63 n0 F71 F65 F66 Df9 Df13) F72 (own_w hw 28 rfl) (own_w hw 29 rfl) (own_w hw 31 rfl) (own_w hw 30 rfl) (own_w hw 32 rfl) (own_w hw 3 rfl) (by decide) e63 (hb hby at_69) (by rw [hml, ← hL18]; rfl) rfl (lenOf own_pd2 rfl) (by decide) (W := 0) (Nat.le_of_eq rfl) (by decide) (by decide) (by decide) ?_
    intro v73 T73 lo73 X73 Q73
    obtain ⟨h73, e73⟩ : ∃ h, T73.heap = h := ⟨_, rfl⟩
    rw [e73] at Q73
    obtain ⟨rfl, N73, q73⟩ := Q73
    have N73' := Fr.app N63' N73
    have e73' : T73.heap = h63 := e73.trans q73
    show own_Go _ _ _ _ _ _ _ T73 (mkF m 72 L18 [(.int (if (p0.toInt + v7.toInt) < ((p0.toInt + v7.toInt) + w0.toInt) then 1 else 0))])
    generalize hv74 : (if (p0.toInt + v7.toInt) < ((p0.toInt + v7.toInt) + w0.toInt) then (1 : Int32) else 0) = v74
    refine own_il (w := w0) X73 hx (hb hby at_72) (by rw [← hL18]; rfl) ?_
    have fin : own_Go p e below s (own_law_Q Z p0 p1 p2 p3 p4 p5 rn h0 n0) room_1.cells room_1.slots T73 (mkF m 90 L18 [.int (1 : Int32)]) := by
      refine own_pre (g' := (mkF m 92 #[.val (.int p0), .val (.int p1), .val (.int p2), .val (.int p3), .val (.int p4), .val (.int p5), .val (.double f5), .second, .val (.double f9), .second, .val (.int w0), .val (.double f13), .second, .val (.double f17), .second, .val (.int (1 : Int32)), .unset, .unset, .unset, .unset, .unset] [])) (fun t k => XS.istore X73.here hx rfl (hb hby at_90) rfl (l' := #[.val (.int p0), .val (.int p1), .val (.int p2), .val (.int p3), .val (.int p4), .val (.int p5), .val (.double f5), .second, .val (.double f9), .second, .val (.int w0), .val (.double f13), .second, .val (.double f17), .second, .val (.int (1 : Int32)), .unset, .unset, .unset, .unset, .unset]) (by rw [← hL18]; rfl) k) ?_
      generalize hL75 : (#[.val (.int p0), .val (.int p1), .val (.int p2), .val (.int p3), .val (.int p4), .val (.int p5), .val (.double f5), .second, .val (.double f9), .second, .val (.int w0), .val (.double f13), .second, .val (.double f17), .second, .val (.int (1 : Int32)), .unset, .unset, .unset, .unset, .unset] : Array Slot) = L75
      refine own_dl (w := f5) X73 hx (hb hby at_92) (by rw [← hL75]; rfl) ?_
      refine own_dl (w := f17) X73 hx (hb hby at_94) (by rw [← hL75]; rfl) ?_
      refine own_ldcd X73 hx hZ hown (own_w hw 33 rfl) (hb hby at_96) ?_
      show own_Go _ _ _ _ _ _ _ T73 (mkF m 99 L75 [(.double (4613937818241073152 : UInt64)), (.double f17), (.double f5)])
      have F77 := (F30.keep K63)
      have F78 := (F31.keep K63 (ninS (Nat.ne_of_lt lt20) nin0))
      have F79 := (F32.keep K63 (ninS (Nat.ne_of_lt lt20) nin0))
      refine own_calls (argsL := [(.double f5), (.double f17), (.double (4613937818241073152 : UInt64))]) (rest := []) X73 hx hZ hown (own_s3 l Z a0 hw [] f5 f17 h63 n0 F71 ) (own_w hw 34 rfl) (own_w hw 35 rfl) (own_w hw 36 rfl) (own_w hw 3 rfl) (by decide) e73' (hb hby at_99) (by rw [hml, ← hL75]; rfl) rfl (lenOf own_pd3 rfl) (by decide) (W := 0) (Nat.le_of_eq rfl) (by decide) (by decide) (by decide) ?_
      intro v134 T134 lo134 X134 Q134
      obtain ⟨h134, e134⟩ : ∃ h, T134.heap = h := ⟨_, rfl⟩
      rw [e134] at Q134
      obtain ⟨a135, rfl, N134, K134, ge136, F137, F138, F139, F140, F141, F142, F143⟩ := Q134
      have N134' := Fr.app N73' N134
      have F144 : Sta Z h134 own_k0 "NONE" "Lcom/example/rankline/rankline/Extent;" (.ref rn) := own_Sta_keep F70 K134 all0
      show own_Go _ _ _ _ _ _ _ T134 (mkF m 102 L75 [(.ref a135)])
      have F148 := (F77.keep K134)
      have F149 := (F78.keep K134 nin0)
      have F150 := (F79.keep K134 nin0)
      have F155 : n0 ≤ h134.size := (Nat.le_trans F71 K134.1)
      refine own_callv (a := a135) (argsL := []) (rest := []) X134 hx hZ hown (own_s6 l Z a0 hw [] a135 f17 p0 v7 w0 v15 h134 n0 F155 F139 F140 Df17 bv7 hW bv15) F137 (own_w hw 28 rfl) (own_w hw 29 rfl) (own_w hw 31 rfl) (own_w hw 30 rfl) (own_w hw 32 rfl) (own_w hw 3 rfl) (by decide) e134 (hb hby at_102) (by rw [hml, ← hL75]; rfl) rfl (lenOf own_pd2 rfl) (by decide) (W := 0) (Nat.le_of_eq rfl) (by decide) (by decide) (by decide) ?_
      intro v156 T156 lo156 X156 Q156
      obtain ⟨h156, e156⟩ : ∃ h, T156.heap = h := ⟨_, rfl⟩
      rw [e156] at Q156
      obtain ⟨rfl, N156, K156⟩ := Q156
      have N156' := Fr.app N134' N156
      have e156' : T156.heap = h134 := e156.trans K156
      show own_Go _ _ _ _ _ _ _ T156 (mkF m 105 L75 [(.int (0 : Int32))])
      refine own_pre (g' := (mkF m 108 L75 [])) (fun t k => XS.ifNo X156.here hx rfl (hb hby at_105) rfl (by decide) k) ?_
      refine own_ic X156 hx (1 : Int32) (hb hby at_108) rfl ?_
      refine own_gt X156 hx 113 (hb hby at_109) (by decide) (by decide) ?_
      refine own_pre (g' := (mkF m 115 #[.val (.int p0), .val (.int p1), .val (.int p2), .val (.int p3), .val (.int p4), .val (.int p5), .val (.double f5), .second, .val (.double f9), .second, .val (.int w0), .val (.double f13), .second, .val (.double f17), .second, .val (.int (1 : Int32)), .val (.int (1 : Int32)), .unset, .unset, .unset, .unset] [])) (fun t k => XS.istore X156.here hx rfl (hb hby at_113) rfl (l' := #[.val (.int p0), .val (.int p1), .val (.int p2), .val (.int p3), .val (.int p4), .val (.int p5), .val (.double f5), .second, .val (.double f9), .second, .val (.int w0), .val (.double f13), .second, .val (.double f17), .second, .val (.int (1 : Int32)), .val (.int (1 : Int32)), .unset, .unset, .unset, .unset]) (by rw [← hL75]; rfl) k) ?_
      generalize hL157 : (#[.val (.int p0), .val (.int p1), .val (.int p2), .val (.int p3), .val (.int p4), .val (.int p5), .val (.double f5), .second, .val (.double f9), .second, .val (.int w0), .val (.double f13), .second, .val (.double f17), .second, .val (.int (1 : Int32)), .val (.int (1 : Int32)), .unset, .unset, .unset, .unset] : Array Slot) = L157
      refine own_gets X156 hx hZ hown (own_w hw 39 rfl) e156' F144 (hb hby at_115) ?_
      intro T158 X158 e158
      show own_Go _ _ _ _ _ _ _ T158 (mkF m 118 L157 [(.ref rn)])
      refine own_callv (a := rn) (argsL := []) (rest := []) X158 hx hZ hown (own_s7 l Z a0 hw [] rn h134 n0 F155 F149 F150) F148 (own_w hw 28 rfl) (own_w hw 29 rfl) (own_w hw 31 rfl) (own_w hw 30 rfl) (own_w hw 32 rfl) (own_w hw 3 rfl) (by decide) e158 (hb hby at_118) (by rw [hml, ← hL157]; rfl) rfl (lenOf own_pd2 rfl) (by decide) (W := 0) (Nat.le_of_eq rfl) (by decide) (by decide) (by decide) ?_
      intro v161 T161 lo161 X161 Q161
      obtain ⟨h161, e161⟩ : ∃ h, T161.heap = h := ⟨_, rfl⟩
      rw [e161] at Q161
      obtain ⟨rfl, N161, K161⟩ := Q161
      have N161' := Fr.app N156' N161
      have e161' : T161.heap = h134 := e161.trans K161
      show own_Go _ _ _ _ _ _ _ T161 (mkF m 121 L157 [(.int (0 : Int32))])
      refine own_pre (g' := (mkF m 124 L157 [])) (fun t k => XS.ifNo X161.here hx rfl (hb hby at_121) rfl (by decide) k) ?_
      refine own_ic X161 hx (1 : Int32) (hb hby at_124) rfl ?_
      refine own_gt X161 hx 129 (hb hby at_125) (by decide) (by decide) ?_
      refine own_pre (g' := (mkF m 131 #[.val (.int p0), .val (.int p1), .val (.int p2), .val (.int p3), .val (.int p4), .val (.int p5), .val (.double f5), .second, .val (.double f9), .second, .val (.int w0), .val (.double f13), .second, .val (.double f17), .second, .val (.int (1 : Int32)), .val (.int (1 : Int32)), .val (.int (1 : Int32)), .unset, .unset, .unset] [])) (fun t k => XS.istore X161.here hx rfl (hb hby at_129) rfl (l' := #[.val (.int p0), .val (.int p1), .val (.int p2), .val (.int p3), .val (.int p4), .val (.int p5), .val (.double f5), .second, .val (.double f9), .second, .val (.int w0), .val (.double f13), .second, .val (.double f17), .second, .val (.int (1 : Int32)), .val (.int (1 : Int32)), .val (.int (1 : Int32)), .unset, .unset, .unset]) (by rw [← hL157]; rfl) k) ?_
      generalize hL162 : (#[.val (.int p0), .val (.int p1), .val (.int p2), .val (.int p3), .val (.int p4), .val (.int p5), .val (.double f5), .second, .val (.double f9), .second, .val (.int w0), .val (.double f13), .second, .val (.double f17), .second, .val (.int (1 : Int32)), .val (.int (1 : Int32)), .val (.int (1 : Int32)), .unset, .unset, .unset] : Array Slot) = L162
      refine own_il (w := p4) X161 hx (hb hby at_131) (by rw [← hL162]; rfl) ?_
      obtain ⟨f163, hf163⟩ : ∃ z, FP.i2d p4 = z := ⟨_, rfl⟩
      refine own_pre (g' := (mkF m 134 L162 [(.double f163)])) (fun t k => XS.i2dS X161.here hx rfl (hb hby at_133) rfl hf163 k) ?_
      have Df163 : Jvm.FP.Core.DInt p4.toInt f163 := hf163 ▸ Jvm.FP.Core.i2d_int _
      refine own_il (w := p4) X161 hx (hb hby at_134) (by rw [← hL162]; rfl) ?_
      obtain ⟨f164, hf164⟩ : ∃ z, FP.i2d p4 = z := ⟨_, rfl⟩
      refine own_pre (g' := (mkF m 137 L162 [(.double f164), (.double f163)])) (fun t k => XS.i2dS X161.here hx rfl (hb hby at_136) rfl hf164 k) ?_
      have Df164 : Jvm.FP.Core.DInt p4.toInt f164 := hf164 ▸ Jvm.FP.Core.i2d_int _
      refine own_pre (g' := (mkF m 138 L162 [(.double (4607182418800017408 : UInt64)), (.double f164), (.double f163)])) (fun t k => XS.dconst1 X161.here hx rfl (v := (4607182418800017408 : UInt64)) (hb hby at_137) (by decide) k) ?_
      refine own_calls (argsL := [(.double f163), (.double f164), (.double (4607182418800017408 : UInt64))]) (rest := []) X161 hx hZ hown (own_s8 l Z a0 hw [] f163 f164 h134 n0 F155 ) (own_w hw 34 rfl) (own_w hw 35 rfl) (own_w hw 36 rfl) (own_w hw 3 rfl) (by decide) e161' (hb hby at_138) (by rw [hml, ← hL162]; rfl) rfl (lenOf own_pd3 rfl) (by decide) (W := 0) (Nat.le_of_eq rfl) (by decide) (by decide) (by decide) ?_
      intro v220 T220 lo220 X220 Q220
      obtain ⟨h220, e220⟩ : ∃ h, T220.heap = h := ⟨_, rfl⟩
      rw [e220] at Q220
      obtain ⟨a221, rfl, N220, K220, ge222, F223, F224, F225, F226, F227, F228, F229⟩ := Q220
      have N220' := Fr.app N161' N220
      show own_Go _ _ _ _ _ _ _ T220 (mkF m 141 L162 [(.ref a221)])
      refine own_pre (g' := (mkF m 143 #[.val (.int p0), .val (.int p1), .val (.int p2), .val (.int p3), .val (.int p4), .val (.int p5), .val (.double f5), .second, .val (.double f9), .second, .val (.int w0), .val (.double f13), .second, .val (.double f17), .second, .val (.int (1 : Int32)), .val (.int (1 : Int32)), .val (.int (1 : Int32)), .val (.ref a221), .unset, .unset] [])) (fun t k => XS.astore X220.here hx rfl (hb hby at_141) rfl rfl (l' := #[.val (.int p0), .val (.int p1), .val (.int p2), .val (.int p3), .val (.int p4), .val (.int p5), .val (.double f5), .second, .val (.double f9), .second, .val (.int w0), .val (.double f13), .second, .val (.double f17), .second, .val (.int (1 : Int32)), .val (.int (1 : Int32)), .val (.int (1 : Int32)), .val (.ref a221), .unset, .unset]) (by rw [← hL162]; rfl) k) ?_
      generalize hL236 : (#[.val (.int p0), .val (.int p1), .val (.int p2), .val (.int p3), .val (.int p4), .val (.int p5), .val (.double f5), .second, .val (.double f9), .second, .val (.int w0), .val (.double f13), .second, .val (.double f17), .second, .val (.int (1 : Int32)), .val (.int (1 : Int32)), .val (.int (1 : Int32)), .val (.ref a221), .unset, .unset] : Array Slot) = L236
      refine own_il (w := p5) X220 hx (hb hby at_143) (by rw [← hL236]; rfl) ?_
      obtain ⟨f237, hf237⟩ : ∃ z, FP.i2d p5 = z := ⟨_, rfl⟩
      refine own_pre (g' := (mkF m 146 L236 [(.double f237)])) (fun t k => XS.i2dS X220.here hx rfl (hb hby at_145) rfl hf237 k) ?_
      have Df237 : Jvm.FP.Core.DInt p5.toInt f237 := hf237 ▸ Jvm.FP.Core.i2d_int _
      refine own_il (w := p5) X220 hx (hb hby at_146) (by rw [← hL236]; rfl) ?_
      obtain ⟨f238, hf238⟩ : ∃ z, FP.i2d p5 = z := ⟨_, rfl⟩
      refine own_pre (g' := (mkF m 149 L236 [(.double f238), (.double f237)])) (fun t k => XS.i2dS X220.here hx rfl (hb hby at_148) rfl hf238 k) ?_
      have Df238 : Jvm.FP.Core.DInt p5.toInt f238 := hf238 ▸ Jvm.FP.Core.i2d_int _
      refine own_pre (g' := (mkF m 150 L236 [(.double (4607182418800017408 : UInt64)), (.double f238), (.double f237)])) (fun t k => XS.dconst1 X220.here hx rfl (v := (4607182418800017408 : UInt64)) (hb hby at_149) (by decide) k) ?_
      have F297 : n0 ≤ h220.size := (Nat.le_trans F155 K220.1)
      refine own_calls (argsL := [(.double f237), (.double f238), (.double (4607182418800017408 : UInt64))]) (rest := []) X220 hx hZ hown (own_s11 l Z a0 hw [] f237 f238 h220 n0 F297 ) (own_w hw 34 rfl) (own_w hw 35 rfl) (own_w hw 36 rfl) (own_w hw 3 rfl) (by decide) e220 (hb hby at_150) (by rw [hml, ← hL236]; rfl) rfl (lenOf own_pd3 rfl) (by decide) (W := 0) (Nat.le_of_eq rfl) (by decide) (by decide) (by decide) ?_
      intro v298 T298 lo298 X298 Q298
      obtain ⟨h298, e298⟩ : ∃ h, T298.heap = h := ⟨_, rfl⟩
      rw [e298] at Q298
      obtain ⟨a299, rfl, N298, K298, ge300, F301, F302, F303, F304, F305, F306, F307⟩ := Q298
      have N298' := Fr.app N220' N298
      show own_Go _ _ _ _ _ _ _ T298 (mkF m 153 L236 [(.ref a299)])
      refine own_pre (g' := (mkF m 155 #[.val (.int p0), .val (.int p1), .val (.int p2), .val (.int p3), .val (.int p4), .val (.int p5), .val (.double f5), .second, .val (.double f9), .second, .val (.int w0), .val (.double f13), .second, .val (.double f17), .second, .val (.int (1 : Int32)), .val (.int (1 : Int32)), .val (.int (1 : Int32)), .val (.ref a221), .val (.ref a299), .unset] [])) (fun t k => XS.astore X298.here hx rfl (hb hby at_153) rfl rfl (l' := #[.val (.int p0), .val (.int p1), .val (.int p2), .val (.int p3), .val (.int p4), .val (.int p5), .val (.double f5), .second, .val (.double f9), .second, .val (.int w0), .val (.double f13), .second, .val (.double f17), .second, .val (.int (1 : Int32)), .val (.int (1 : Int32)), .val (.int (1 : Int32)), .val (.ref a221), .val (.ref a299), .unset]) (by rw [← hL236]; rfl) k) ?_
      generalize hL316 : (#[.val (.int p0), .val (.int p1), .val (.int p2), .val (.int p3), .val (.int p4), .val (.int p5), .val (.double f5), .second, .val (.double f9), .second, .val (.int w0), .val (.double f13), .second, .val (.double f17), .second, .val (.int (1 : Int32)), .val (.int (1 : Int32)), .val (.int (1 : Int32)), .val (.ref a221), .val (.ref a299), .unset] : Array Slot) = L316
      refine own_al (w := (.ref a221)) X298 hx (hb hby at_155) (by rw [← hL316]; rfl) rfl ?_
      refine own_al (w := (.ref a299)) X298 hx (hb hby at_157) (by rw [← hL316]; rfl) rfl ?_
      rcases Int.lt_trichotomy p4.toInt p5.toInt with hmn | hmn | hmn
      · skip
        have F321 := (F223.keep K298)
        have F322 := (F224.keep K298 nin0)
        have F323 := (F225.keep K298 nin0)
        have F324 := (F226.keep K298 nin0)
        have F325 := (F227.keep K298 nin0)
        have F327 := (F229.keep K298 nin0)
        have F687 : n0 ≤ h298.size := (Nat.le_trans F297 K298.1)
        refine own_callv (a := a221) (argsL := [(.ref a299)]) (rest := []) X298 hx hZ hown (own_s14 l Z a0 hw [] a221 a299 f163 f164 f237 f238 p4 p5 v7 w0 v15 h298 n0 F687 F321 F322 F323 F324 F325 F327 F301 F302 F303 F304 F305 F307 Df163 Df164 Df237 Df238 bv7 hW bv15 hmn) F321 (own_w hw 41 rfl) (own_w hw 42 rfl) (own_w hw 44 rfl) (own_w hw 43 rfl) (own_w hw 45 rfl) (own_w hw 3 rfl) (by decide) e298 (hb hby at_159) (by rw [hml, ← hL316]; rfl) rfl (lenOf own_pd7 rfl) (by decide) (W := 0) (Nat.le_of_eq rfl) (by decide) (by decide) (by decide) ?_
        intro v688 T688 lo688 X688 Q688
        obtain ⟨h688, e688⟩ : ∃ h, T688.heap = h := ⟨_, rfl⟩
        rw [e688] at Q688
        obtain ⟨a689, f690, f691, rfl, N688, K688, ge692, F693, F694, F695, F696, F697, F698, F699, D700, D701⟩ := Q688
        have N688' := Fr.app N298' N688
        show own_Go _ _ _ _ _ _ _ T688 (mkF m 162 L316 [(.ref a689)])
        have F718 : n0 ≤ h688.size := (Nat.le_trans F687 K688.1)
        refine own_callv (a := a689) (argsL := []) (rest := []) X688 hx hZ hown (own_s27 l Z a0 hw [] a689 f164 f237 p4 p5 v7 w0 v15 h688 n0 F718 F695 F696 Df164 Df237 bv7 hW bv15 hmn) F693 (own_w hw 28 rfl) (own_w hw 29 rfl) (own_w hw 31 rfl) (own_w hw 30 rfl) (own_w hw 32 rfl) (own_w hw 3 rfl) (by decide) e688 (hb hby at_162) (by rw [hml, ← hL316]; rfl) rfl (lenOf own_pd2 rfl) (by decide) (W := 0) (Nat.le_of_eq rfl) (by decide) (by decide) (by decide) ?_
        intro v719 T719 lo719 X719 Q719
        obtain ⟨h719, e719⟩ : ∃ h, T719.heap = h := ⟨_, rfl⟩
        rw [e719] at Q719
        obtain ⟨rfl, N719, K719⟩ := Q719
        have N719' := Fr.app N688' N719
        have e719' : T719.heap = h688 := e719.trans K719
        show own_Go _ _ _ _ _ _ _ T719 (mkF m 165 L316 [(.int (1 : Int32))])
        refine own_il (w := p4) X719 hx (hb hby at_165) (by rw [← hL316]; rfl) ?_
        refine own_il (w := p5) X719 hx (hb hby at_167) (by rw [← hL316]; rfl) ?_
        have hme : ¬ p4 = p5 := fun z => by rw [z] at hmn; omega
        refine own_pre (g' := (mkF m 172 L316 [(.int (1 : Int32))])) (fun t k => XS.icmpNo X719.here hx rfl (hb hby at_169) rfl (feq hme).1 k) ?_
        refine own_ic X719 hx (1 : Int32) (hb hby at_172) rfl ?_
        refine own_gt X719 hx 177 (hb hby at_173) (by decide) (by decide) ?_
        refine own_pre (g' := (mkF m 180 L316 [])) (fun t k => XS.icmpNo X719.here hx rfl (hb hby at_177) rfl (by decide) k) ?_
        refine own_ic X719 hx (1 : Int32) (hb hby at_180) rfl ?_
        refine own_gt X719 hx 185 (hb hby at_181) (by decide) (by decide) ?_
        refine own_pre (g' := (mkF m 187 #[.val (.int p0), .val (.int p1), .val (.int p2), .val (.int p3), .val (.int p4), .val (.int p5), .val (.double f5), .second, .val (.double f9), .second, .val (.int w0), .val (.double f13), .second, .val (.double f17), .second, .val (.int (1 : Int32)), .val (.int (1 : Int32)), .val (.int (1 : Int32)), .val (.ref a221), .val (.ref a299), .val (.int (1 : Int32))] [])) (fun t k => XS.istore X719.here hx rfl (hb hby at_185) rfl (l' := #[.val (.int p0), .val (.int p1), .val (.int p2), .val (.int p3), .val (.int p4), .val (.int p5), .val (.double f5), .second, .val (.double f9), .second, .val (.int w0), .val (.double f13), .second, .val (.double f17), .second, .val (.int (1 : Int32)), .val (.int (1 : Int32)), .val (.int (1 : Int32)), .val (.ref a221), .val (.ref a299), .val (.int (1 : Int32))]) (by rw [← hL316]; rfl) k) ?_
        generalize hL720 : (#[.val (.int p0), .val (.int p1), .val (.int p2), .val (.int p3), .val (.int p4), .val (.int p5), .val (.double f5), .second, .val (.double f9), .second, .val (.int w0), .val (.double f13), .second, .val (.double f17), .second, .val (.int (1 : Int32)), .val (.int (1 : Int32)), .val (.int (1 : Int32)), .val (.ref a221), .val (.ref a299), .val (.int (1 : Int32))] : Array Slot) = L720
        refine own_il (w := (1 : Int32)) X719 hx (hb hby at_187) (by rw [← hL720]; rfl) ?_
        refine own_pre (g' := (mkF m 192 L720 [])) (fun t k => XS.ifNo X719.here hx rfl (hb hby at_189) rfl (by decide) k) ?_
        refine own_il (w := (1 : Int32)) X719 hx (hb hby at_192) (by rw [← hL720]; rfl) ?_
        refine own_pre (g' := (mkF m 197 L720 [])) (fun t k => XS.ifNo X719.here hx rfl (hb hby at_194) rfl (by decide) k) ?_
        refine own_il (w := (1 : Int32)) X719 hx (hb hby at_197) (by rw [← hL720]; rfl) ?_
        refine own_pre (g' := (mkF m 202 L720 [])) (fun t k => XS.ifNo X719.here hx rfl (hb hby at_199) rfl (by decide) k) ?_
        refine own_il (w := (1 : Int32)) X719 hx (hb hby at_202) (by rw [← hL720]; rfl) ?_
        refine own_pre (g' := (mkF m 207 L720 [])) (fun t k => XS.ifNo X719.here hx rfl (hb hby at_204) rfl (by decide) k) ?_
        refine own_ic X719 hx (1 : Int32) (hb hby at_207) rfl ?_
        refine own_gt X719 hx 212 (hb hby at_208) (by decide) (by decide) ?_
        exact own_retZ X719 hx hlk hret rfl (hb hby at_212) e719' ⟨rfl, N719'⟩ (by decide) (by decide)
      · skip
        have F725 := (F223.keep K298)
        have F726 := (F224.keep K298 nin0)
        have F727 := (F225.keep K298 nin0)
        have F728 := (F226.keep K298 nin0)
        have F729 := (F227.keep K298 nin0)
        have F731 := (F229.keep K298 nin0)
        have F1078 : n0 ≤ h298.size := (Nat.le_trans F297 K298.1)
        refine own_callv (a := a221) (argsL := [(.ref a299)]) (rest := []) X298 hx hZ hown (own_s28 l Z a0 hw [] a221 a299 f163 f164 f237 f238 p4 p5 v7 w0 v15 h298 n0 F1078 F725 F726 F727 F728 F729 F731 F301 F302 F303 F304 F305 F307 Df163 Df164 Df237 Df238 bv7 hW bv15 hmn) F725 (own_w hw 41 rfl) (own_w hw 42 rfl) (own_w hw 44 rfl) (own_w hw 43 rfl) (own_w hw 45 rfl) (own_w hw 3 rfl) (by decide) e298 (hb hby at_159) (by rw [hml, ← hL316]; rfl) rfl (lenOf own_pd7 rfl) (by decide) (W := 0) (Nat.le_of_eq rfl) (by decide) (by decide) (by decide) ?_
        intro v1079 T1079 lo1079 X1079 Q1079
        obtain ⟨h1079, e1079⟩ : ∃ h, T1079.heap = h := ⟨_, rfl⟩
        rw [e1079] at Q1079
        obtain ⟨a1080, f1081, f1082, rfl, N1079, K1079, ge1083, F1084, F1085, F1086, F1087, F1088, F1089, F1090, D1091, D1092⟩ := Q1079
        have N1079' := Fr.app N298' N1079
        show own_Go _ _ _ _ _ _ _ T1079 (mkF m 162 L316 [(.ref a1080)])
        have F1109 : n0 ≤ h1079.size := (Nat.le_trans F1078 K1079.1)
        refine own_callv (a := a1080) (argsL := []) (rest := []) X1079 hx hZ hown (own_s42 l Z a0 hw [] a1080 f1081 p4 v7 w0 v15 p5 h1079 n0 F1109 F1086 F1087 D1091 bv7 hW bv15 hmn) F1084 (own_w hw 28 rfl) (own_w hw 29 rfl) (own_w hw 31 rfl) (own_w hw 30 rfl) (own_w hw 32 rfl) (own_w hw 3 rfl) (by decide) e1079 (hb hby at_162) (by rw [hml, ← hL316]; rfl) rfl (lenOf own_pd2 rfl) (by decide) (W := 0) (Nat.le_of_eq rfl) (by decide) (by decide) (by decide) ?_
        intro v1110 T1110 lo1110 X1110 Q1110
        obtain ⟨h1110, e1110⟩ : ∃ h, T1110.heap = h := ⟨_, rfl⟩
        rw [e1110] at Q1110
        obtain ⟨rfl, N1110, K1110⟩ := Q1110
        have N1110' := Fr.app N1079' N1110
        have e1110' : T1110.heap = h1079 := e1110.trans K1110
        show own_Go _ _ _ _ _ _ _ T1110 (mkF m 165 L316 [(.int (0 : Int32))])
        refine own_il (w := p4) X1110 hx (hb hby at_165) (by rw [← hL316]; rfl) ?_
        refine own_il (w := p5) X1110 hx (hb hby at_167) (by rw [← hL316]; rfl) ?_
        have hme : p4 = p5 := Int32.toInt_inj.mp hmn
        refine own_pre (g' := (mkF m 176 L316 [(.int (0 : Int32))])) (fun t k => XS.icmpYes X1110.here hx rfl (pc0 := 169) (pc' := 176) rfl (hb hby at_169) rfl (teq hme).1 (by decide) (by decide) k) ?_
        refine own_ic X1110 hx (0 : Int32) (hb hby at_176) rfl ?_
        refine own_pre (g' := (mkF m 180 L316 [])) (fun t k => XS.icmpNo X1110.here hx rfl (hb hby at_177) rfl (by decide) k) ?_
        refine own_ic X1110 hx (1 : Int32) (hb hby at_180) rfl ?_
        refine own_gt X1110 hx 185 (hb hby at_181) (by decide) (by decide) ?_
        refine own_pre (g' := (mkF m 187 #[.val (.int p0), .val (.int p1), .val (.int p2), .val (.int p3), .val (.int p4), .val (.int p5), .val (.double f5), .second, .val (.double f9), .second, .val (.int w0), .val (.double f13), .second, .val (.double f17), .second, .val (.int (1 : Int32)), .val (.int (1 : Int32)), .val (.int (1 : Int32)), .val (.ref a221), .val (.ref a299), .val (.int (1 : Int32))] [])) (fun t k => XS.istore X1110.here hx rfl (hb hby at_185) rfl (l' := #[.val (.int p0), .val (.int p1), .val (.int p2), .val (.int p3), .val (.int p4), .val (.int p5), .val (.double f5), .second, .val (.double f9), .second, .val (.int w0), .val (.double f13), .second, .val (.double f17), .second, .val (.int (1 : Int32)), .val (.int (1 : Int32)), .val (.int (1 : Int32)), .val (.ref a221), .val (.ref a299), .val (.int (1 : Int32))]) (by rw [← hL316]; rfl) k) ?_
        generalize hL1111 : (#[.val (.int p0), .val (.int p1), .val (.int p2), .val (.int p3), .val (.int p4), .val (.int p5), .val (.double f5), .second, .val (.double f9), .second, .val (.int w0), .val (.double f13), .second, .val (.double f17), .second, .val (.int (1 : Int32)), .val (.int (1 : Int32)), .val (.int (1 : Int32)), .val (.ref a221), .val (.ref a299), .val (.int (1 : Int32))] : Array Slot) = L1111
        refine own_il (w := (1 : Int32)) X1110 hx (hb hby at_187) (by rw [← hL1111]; rfl) ?_
        refine own_pre (g' := (mkF m 192 L1111 [])) (fun t k => XS.ifNo X1110.here hx rfl (hb hby at_189) rfl (by decide) k) ?_
        refine own_il (w := (1 : Int32)) X1110 hx (hb hby at_192) (by rw [← hL1111]; rfl) ?_
        refine own_pre (g' := (mkF m 197 L1111 [])) (fun t k => XS.ifNo X1110.here hx rfl (hb hby at_194) rfl (by decide) k) ?_
        refine own_il (w := (1 : Int32)) X1110 hx (hb hby at_197) (by rw [← hL1111]; rfl) ?_
        refine own_pre (g' := (mkF m 202 L1111 [])) (fun t k => XS.ifNo X1110.here hx rfl (hb hby at_199) rfl (by decide) k) ?_
        refine own_il (w := (1 : Int32)) X1110 hx (hb hby at_202) (by rw [← hL1111]; rfl) ?_
        refine own_pre (g' := (mkF m 207 L1111 [])) (fun t k => XS.ifNo X1110.here hx rfl (hb hby at_204) rfl (by decide) k) ?_
        refine own_ic X1110 hx (1 : Int32) (hb hby at_207) rfl ?_
        refine own_gt X1110 hx 212 (hb hby at_208) (by decide) (by decide) ?_
        exact own_retZ X1110 hx hlk hret rfl (hb hby at_212) e1110' ⟨rfl, N1110'⟩ (by decide) (by decide)
      · skip
        have F1116 := (F223.keep K298)
        have F1117 := (F224.keep K298 nin0)
        have F1118 := (F225.keep K298 nin0)
        have F1119 := (F226.keep K298 nin0)
        have F1120 := (F227.keep K298 nin0)
        have F1122 := (F229.keep K298 nin0)
        have F1529 : n0 ≤ h298.size := (Nat.le_trans F297 K298.1)
        refine own_callv (a := a221) (argsL := [(.ref a299)]) (rest := []) X298 hx hZ hown (own_s43 l Z a0 hw [] a221 a299 f163 f164 f237 f238 p4 p5 v7 w0 v15 h298 n0 F1529 F1116 F1117 F1118 F1119 F1120 F1122 F301 F302 F303 F304 F305 F307 Df163 Df164 Df237 Df238 bv7 hW bv15 hmn) F1116 (own_w hw 41 rfl) (own_w hw 42 rfl) (own_w hw 44 rfl) (own_w hw 43 rfl) (own_w hw 45 rfl) (own_w hw 3 rfl) (by decide) e298 (hb hby at_159) (by rw [hml, ← hL316]; rfl) rfl (lenOf own_pd7 rfl) (by decide) (W := 0) (Nat.le_of_eq rfl) (by decide) (by decide) (by decide) ?_
        intro v1530 T1530 lo1530 X1530 Q1530
        obtain ⟨h1530, e1530⟩ : ∃ h, T1530.heap = h := ⟨_, rfl⟩
        rw [e1530] at Q1530
        obtain ⟨a1531, f1532, f1533, rfl, N1530, K1530, ge1534, F1535, F1536, F1537, F1538, F1539, F1540, F1541, D1542, D1543⟩ := Q1530
        have N1530' := Fr.app N298' N1530
        show own_Go _ _ _ _ _ _ _ T1530 (mkF m 162 L316 [(.ref a1531)])
        have F1560 : n0 ≤ h1530.size := (Nat.le_trans F1529 K1530.1)
        refine own_callv (a := a1531) (argsL := []) (rest := []) X1530 hx hZ hown (own_s59 l Z a0 hw [] a1531 f238 f163 p5 p4 v7 w0 v15 h1530 n0 F1560 F1537 F1538 Df238 Df163 bv7 hW bv15 hmn) F1535 (own_w hw 28 rfl) (own_w hw 29 rfl) (own_w hw 31 rfl) (own_w hw 30 rfl) (own_w hw 32 rfl) (own_w hw 3 rfl) (by decide) e1530 (hb hby at_162) (by rw [hml, ← hL316]; rfl) rfl (lenOf own_pd2 rfl) (by decide) (W := 0) (Nat.le_of_eq rfl) (by decide) (by decide) (by decide) ?_
        intro v1561 T1561 lo1561 X1561 Q1561
        obtain ⟨h1561, e1561⟩ : ∃ h, T1561.heap = h := ⟨_, rfl⟩
        rw [e1561] at Q1561
        obtain ⟨rfl, N1561, K1561⟩ := Q1561
        have N1561' := Fr.app N1530' N1561
        have e1561' : T1561.heap = h1530 := e1561.trans K1561
        show own_Go _ _ _ _ _ _ _ T1561 (mkF m 165 L316 [(.int (1 : Int32))])
        refine own_il (w := p4) X1561 hx (hb hby at_165) (by rw [← hL316]; rfl) ?_
        refine own_il (w := p5) X1561 hx (hb hby at_167) (by rw [← hL316]; rfl) ?_
        have hme : ¬ p4 = p5 := fun z => by rw [z] at hmn; omega
        refine own_pre (g' := (mkF m 172 L316 [(.int (1 : Int32))])) (fun t k => XS.icmpNo X1561.here hx rfl (hb hby at_169) rfl (feq hme).1 k) ?_
        refine own_ic X1561 hx (1 : Int32) (hb hby at_172) rfl ?_
        refine own_gt X1561 hx 177 (hb hby at_173) (by decide) (by decide) ?_
        refine own_pre (g' := (mkF m 180 L316 [])) (fun t k => XS.icmpNo X1561.here hx rfl (hb hby at_177) rfl (by decide) k) ?_
        refine own_ic X1561 hx (1 : Int32) (hb hby at_180) rfl ?_
        refine own_gt X1561 hx 185 (hb hby at_181) (by decide) (by decide) ?_
        refine own_pre (g' := (mkF m 187 #[.val (.int p0), .val (.int p1), .val (.int p2), .val (.int p3), .val (.int p4), .val (.int p5), .val (.double f5), .second, .val (.double f9), .second, .val (.int w0), .val (.double f13), .second, .val (.double f17), .second, .val (.int (1 : Int32)), .val (.int (1 : Int32)), .val (.int (1 : Int32)), .val (.ref a221), .val (.ref a299), .val (.int (1 : Int32))] [])) (fun t k => XS.istore X1561.here hx rfl (hb hby at_185) rfl (l' := #[.val (.int p0), .val (.int p1), .val (.int p2), .val (.int p3), .val (.int p4), .val (.int p5), .val (.double f5), .second, .val (.double f9), .second, .val (.int w0), .val (.double f13), .second, .val (.double f17), .second, .val (.int (1 : Int32)), .val (.int (1 : Int32)), .val (.int (1 : Int32)), .val (.ref a221), .val (.ref a299), .val (.int (1 : Int32))]) (by rw [← hL316]; rfl) k) ?_
        generalize hL1562 : (#[.val (.int p0), .val (.int p1), .val (.int p2), .val (.int p3), .val (.int p4), .val (.int p5), .val (.double f5), .second, .val (.double f9), .second, .val (.int w0), .val (.double f13), .second, .val (.double f17), .second, .val (.int (1 : Int32)), .val (.int (1 : Int32)), .val (.int (1 : Int32)), .val (.ref a221), .val (.ref a299), .val (.int (1 : Int32))] : Array Slot) = L1562
        refine own_il (w := (1 : Int32)) X1561 hx (hb hby at_187) (by rw [← hL1562]; rfl) ?_
        refine own_pre (g' := (mkF m 192 L1562 [])) (fun t k => XS.ifNo X1561.here hx rfl (hb hby at_189) rfl (by decide) k) ?_
        refine own_il (w := (1 : Int32)) X1561 hx (hb hby at_192) (by rw [← hL1562]; rfl) ?_
        refine own_pre (g' := (mkF m 197 L1562 [])) (fun t k => XS.ifNo X1561.here hx rfl (hb hby at_194) rfl (by decide) k) ?_
        refine own_il (w := (1 : Int32)) X1561 hx (hb hby at_197) (by rw [← hL1562]; rfl) ?_
        refine own_pre (g' := (mkF m 202 L1562 [])) (fun t k => XS.ifNo X1561.here hx rfl (hb hby at_199) rfl (by decide) k) ?_
        refine own_il (w := (1 : Int32)) X1561 hx (hb hby at_202) (by rw [← hL1562]; rfl) ?_
        refine own_pre (g' := (mkF m 207 L1562 [])) (fun t k => XS.ifNo X1561.here hx rfl (hb hby at_204) rfl (by decide) k) ?_
        refine own_ic X1561 hx (1 : Int32) (hb hby at_207) rfl ?_
        refine own_gt X1561 hx 212 (hb hby at_208) (by decide) (by decide) ?_
        exact own_retZ X1561 hx hlk hret rfl (hb hby at_212) e1561' ⟨rfl, N1561'⟩ (by decide) (by decide)
    by_cases hw0 : (0 : Int32) < w0
    · skip
      refine own_pre (g' := (mkF m 77 L18 [(.int v74)])) (fun t k => XS.ifNo X73.here hx rfl (hb hby at_74) rfl ((if0 _ _).trans (tlt hw0).2.2.2) k) ?_
      refine own_ic X73 hx (1 : Int32) (hb hby at_77) rfl ?_
      refine own_gt X73 hx 82 (hb hby at_78) (by decide) (by decide) ?_
      have hq : (0 : Int) < w0.toInt := by have q := hw0; rw [Int32.lt_iff_toInt_lt, show (0 : Int32).toInt = 0 from rfl] at q; exact q
      have hg1 : v74 = (1 : Int32) := by rw [← hv74, if_pos (by have := hq; omega)]
      refine own_pre (g' := (mkF m 85 L18 [])) (fun t k => XS.icmpNo X73.here hx rfl (hb hby at_82) rfl (teq hg1).2 k) ?_
      refine own_ic X73 hx (1 : Int32) (hb hby at_85) rfl ?_
      refine own_gt X73 hx 90 (hb hby at_86) (by decide) (by decide) ?_
      exact fin
    · skip
      refine own_pre (g' := (mkF m 81 L18 [(.int v74)])) (fun t k => XS.ifYes X73.here hx rfl (pc0 := 74) (pc' := 81) rfl (hb hby at_74) rfl ((if0 _ _).trans (flt hw0).2.2.2) (by decide) (by decide) k) ?_
      refine own_ic X73 hx (0 : Int32) (hb hby at_81) rfl ?_
      have hq : ¬ (0 : Int) < w0.toInt := by have q := hw0; rw [Int32.lt_iff_toInt_lt, show (0 : Int32).toInt = 0 from rfl] at q; exact q
      have hg1 : v74 = (0 : Int32) := by rw [← hv74, if_neg (by have := hq; omega)]
      refine own_pre (g' := (mkF m 85 L18 [])) (fun t k => XS.icmpNo X73.here hx rfl (hb hby at_82) rfl (teq hg1).2 k) ?_
      refine own_ic X73 hx (1 : Int32) (hb hby at_85) rfl ?_
      refine own_gt X73 hx 90 (hb hby at_86) (by decide) (by decide) ?_
      exact fin
  by_cases hq1 : (p2 &&& (1 : Int32)) = (0 : Int32)
  · skip
    refine own_pre (g' := (mkF m 20 L10 [])) (fun t k => XS.ifNo X0.here hx rfl (hb hby at_17) rfl ((if0 _ _).trans (teq hq1).2) k) ?_
    refine own_ic X0 hx (0 : Int32) (hb hby at_20) rfl ?_
    refine own_gt X0 hx 30 (hb hby at_21) (by decide) (by decide) ?_
    exact mid _ (by decide)
  · skip
    refine own_pre (g' := (mkF m 24 L10 [])) (fun t k => XS.ifYes X0.here hx rfl (pc0 := 17) (pc' := 24) rfl (hb hby at_17) rfl ((if0 _ _).trans (feq hq1).2) (by decide) (by decide) k) ?_
    refine own_ilN (w := p2) X0 hx (hb hby at_24) (by rw [← hL10]; rfl) ?_
    refine own_ic X0 hx (1 : Int32) (hb hby at_25) rfl ?_
    refine own_pre (g' := (mkF m 27 L10 [(.int (XT.ushr p2 (1 : Int32)))])) (fun t k => XT.iushr X0.here hx rfl (hb hby at_26) rfl k) ?_
    refine own_ldci X0 hx hZ hown (own_w hw 0 rfl) (hb hby at_27) ?_
    show own_Go _ _ _ _ _ _ _ s₁ (mkF m 29 L10 [(.int (65535 : Int32)), (.int (XT.ushr p2 (1 : Int32)))])
    refine own_pre (g' := (mkF m 30 L10 [(.int ((XT.ushr p2 (1 : Int32)) &&& (65535 : Int32)))])) (fun t k => XS.iand X0.here hx rfl (hb hby at_29) rfl k) ?_
    exact mid _ (own_mask rfl)
set_option maxRecDepth 65536 in
set_option maxHeartbeats 40000000 in
theorem own_comes {Post : Tables → Env → Array Value → State → Outcome → State → Prop} (hpost : ∀ tb e args s v u, (limb_1_1.after args s (.returned v) u = true ∧ limb_1_2.after args s (.returned v) u = true ∧ True) → FrameEnd s (.returned v) u (Jvm.fieldLocs frame_1_writes args s ++ Jvm.arrayLocs frame_1_arrays args s ++ Jvm.staticLocs frame_1_statics s) 24 192 → Post tb e args s (.returned v) u) :
    ArmFor flags0 classFile x code maxLocals ret World_1 tables_1 room_1 Calls_1 rest_1 Pre_1 Post := by
  intro l hfl _ _ p e ha hc hk s m args below hf hA hF happ hP
  obtain ⟨hcalls, hrest, hpre⟩ := hP
  obtain ⟨-, -, -, hnamed, -, -, -, hat⟩ := (Spec.applies_iff hf).mp happ
  obtain ⟨hg, hn⟩ := and_e (Cond.before_iff.mp (show (Jvm.Cond.and given_1 narrow_1).before args s = true from hpre))
  obtain ⟨hcount, g0⟩ := and_e hg
  obtain ⟨k0, g1⟩ := and_e g0
  obtain ⟨k1, g2⟩ := and_e g1
  obtain ⟨k2, g3⟩ := and_e g2
  obtain ⟨k3, g4⟩ := and_e g3
  obtain ⟨k4, g5⟩ := and_e g4
  have k5 := g5
  obtain ⟨w0, w1, w2, w3, w4, w5, rfl⟩ : ∃ w0 w1 w2 w3 w4 w5, args = #[w0, w1, w2, w3, w4, w5] := by
    have hs : args.size = 6 := by simpa [Cond.value, given_1] using hcount
    obtain ⟨L⟩ := args
    match L, hs with
    | [w0, w1, w2, w3, w4, w5], _ => exact ⟨w0, w1, w2, w3, w4, w5, rfl⟩
  have hw := fun d (hd : d ∈ tables_1) => atoms_spec (ws := Jvm.Cond.code x code maxLocals ret :: tables_1) hat d (List.mem_cons_of_mem _ hd)
  obtain ⟨i0, e0⟩ := is_v k0
  obtain rfl : w0 = (.int i0) := Option.some.inj e0
  obtain ⟨i1, e1⟩ := is_v k1
  obtain rfl : w1 = (.int i1) := Option.some.inj e1
  obtain ⟨i2, e2⟩ := is_v k2
  obtain rfl : w2 = (.int i2) := Option.some.inj e2
  obtain ⟨i3, e3⟩ := is_v k3
  obtain rfl : w3 = (.int i3) := Option.some.inj e3
  obtain ⟨i4, e4⟩ := is_v k4
  obtain rfl : w4 = (.int i4) := Option.some.inj e4
  obtain ⟨i5, e5⟩ := is_v k5
  obtain rfl : w5 = (.int i5) := Option.some.inj e5
  obtain ⟨hn, hn1⟩ := and_e hn
  obtain ⟨hn1, hn2⟩ := and_e hn1
  obtain ⟨rn, en⟩ := exa_v hn
  have Sn := Sta.start en (Or.inr ⟨(own_w hw 3 rfl), (own_w hw 40 rfl)⟩)
  have En := Exa.start en hn
  have Fn1 := own_fldD en hn1
  have Fn2 := own_fldD en hn2
  obtain ⟨n, o, h1, h2, h3, _, L, rfl, ⟨rfl, N⟩, hq⟩ := own_law l s _ hw tables_1 i0 i1 i2 i3 i4 i5 rn s.heap s.heap.size (Nat.le_refl _) Sn En Fn1 Fn2 p e ha hc hk s m _ below hf ((Spec.applies_iff_loose hf).mp happ).1 ⟨rfl, State.Warmed39.refl s, rfl⟩ trivial
  refine ⟨n, _, h1, h2, h3, hpost _ _ _ _ _ _ ⟨Cond.after_iff.mpr rfl, Cond.after_iff.mpr (eq_i res_at (Term.int_eval (1)) rfl), trivial⟩ ⟨hq.1, hq.2.1, (hq.2.2.sift fun y hy => Or.inr (N y hy)).mono (by decide) (by decide)⟩⟩
theorem main_1_1 : Claimed_1_1 := own_comes fun _ _ _ _ _ _ h hF => ⟨h.1, hF⟩
theorem main_1_2 : Claimed_1_2 := own_comes fun _ _ _ _ _ _ h hF => ⟨h.2.1, hF⟩
end Jvm.Pilot.@@N@@
namespace Jvm.Pilot.@@N@@
open Jvm Jvm.ClassFile Sem Op Lib Jvm.Free Jvm.Stand Jvm.Pilot.@@N@@.Jvm.D
/-! MADE BY PROGRAM (witnessworld.py) out of the Statement's table words and the real class files: 14 classes; the members and pool entries that the words name. The judged class is class 1, her method 1. -/
namespace start1
open Jvm.ClassFile
def u (s : String) : CpInfo := .utf8 (stringToUtf16 s)
/-- a pool by its gaps: so many unusable entries, then the entry; so many at the end -/
def gap : Nat → List CpInfo → List CpInfo
  | 0, r => r
  | n + 1, r => .unusable :: gap n r
def poolList (es : List (Nat × CpInfo)) (last : Nat) : List CpInfo := es.foldr (fun e r => gap e.1 (e.2 :: r)) (gap last [])
def pool (es : List (Nat × CpInfo)) (last : Nat) : Array CpInfo := ⟨poolList es last⟩
def fileOf (pool : Array CpInfo) (this : Nat) (attrs : Array Attribute := #[]) (ms : Array MethodInfo := #[]) (fl : Nat := 33) (sup : Nat := 0) (ifs : Array Nat := #[]) (fds : Array FieldInfo := #[]) : ClassFile where
  minorVersion := 0
  majorVersion := 65
  constantPool := pool
  accessFlags := fl
  thisClass := this
  superClass := sup
  interfaces := ifs
  fields := fds
  methods := ms
  attributes := attrs
def plain (name : String) (sup : Option ClassId) : Class where
  name := name
  kind := .ordinary
  loader := none
  accessFlags := 33
  super := sup
  interfaces := #[]
  cf := none
  fields := #[]
  methods := #[]
  instanceTypes := #[]
  staticTypes := #[]
  resolved := #[]
  callSites := []
  init := .initialized
  statics := none
  mirror := none

def pool0 : Array CpInfo := pool [(5, u "<init>"), (0, u "()V"), (1, .class_ 10), (1, u "java/lang/Object")] 113

def k0c0 : Code := { maxStack := 0, maxLocals := 1, code := object_method_1_code, exceptionTable := #[], attributes := #[] }
def k0m0 : Method := { name := "<init>", desc := "()V", sig := { parameters := [], returnType := none }, accessFlags := 1, code := some k0c0 }
/-- java/lang/Object -/
def k0 : Class := { plain "java/lang/Object" none with
  accessFlags := 33
  interfaces := #[]
  cf := some (fileOf pool0 8 #[] #[{ accessFlags := 1, nameIndex := 5, descriptorIndex := 6, attributes := #[] }] 33 0 #[] #[])
  fields := #[]
  methods := #[k0m0]
  instanceTypes := #[]
  staticTypes := #[]
  resolved := Array.replicate 124 none
  statics := none }

def pool1 : Array CpInfo := pool [(2, .class_ 4), (1, u "java/lang/Object"), (0, u "<init>"), (0, u "()V"), (0, .integer 65535), (0, .class_ 9), (0, u "com/example/rankline/rankline/Extent"), (0, .double 4611686018427387904), (1, .methodref 8 13), (0, .nameAndType 5 14), (0, u "(DDDDDD)V"), (0, .methodref 8 16), (0, .nameAndType 17 18), (0, u "hasGap"), (0, u "()Z"), (0, .double 4613937818241073152), (1, .methodref 8 22), (0, .nameAndType 23 24), (0, u "of"), (0, u "(DDD)Lcom/example/rankline/rankline/Extent;"), (0, .fieldref 8 26), (0, .nameAndType 27 28), (0, u "NONE"), (0, u "Lcom/example/rankline/rankline/Extent;"), (0, .methodref 8 30), (0, .nameAndType 31 32), (0, u "union"), (0, u "(Lcom/example/rankline/rankline/Extent;)Lcom/example/rankline/rankline/Extent;"), (0, .class_ 34), (0, u "com/example/rankline/rankline/ExtentHasGapPinLaw"), (2, u "law"), (0, u "(IIIIII)Z")] 3

def k1m0 : Method := { name := "<init>", desc := "()V", sig := { parameters := [], returnType := none }, accessFlags := 2, code := none }
def k1c1 : Code := { maxStack := 14, maxLocals := 21, code := code, exceptionTable := #[], attributes := #[] }
def k1m1 : Method := { name := "law", desc := "(IIIIII)Z", sig := { parameters := [.int, .int, .int, .int, .int, .int], returnType := some .boolean }, accessFlags := 9, code := some k1c1 }
/-- com/example/rankline/rankline/ExtentHasGapPinLaw -/
def k1 : Class := { plain "com/example/rankline/rankline/ExtentHasGapPinLaw" (some 0) with
  accessFlags := 49
  interfaces := #[]
  cf := some (fileOf pool1 33 #[] #[{ accessFlags := 2, nameIndex := 5, descriptorIndex := 6, attributes := #[] }, { accessFlags := 9, nameIndex := 37, descriptorIndex := 38, attributes := #[] }] 49 2 #[] #[])
  fields := #[]
  methods := #[k1m0, k1m1]
  instanceTypes := #[]
  staticTypes := #[]
  resolved := Array.replicate 42 none
  statics := none }

def pool2 : Array CpInfo := pool [(1, .methodref 2 3), (0, .class_ 4), (0, .nameAndType 5 6), (0, u "java/lang/Object"), (0, u "<init>"), (0, u "()V"), (0, .class_ 8), (0, u "java/lang/Record")] 13

def k2c0 : Code := { maxStack := 1, maxLocals := 1, code := jdk_30_method_1_code, exceptionTable := #[], attributes := #[] }
def k2m0 : Method := { name := "<init>", desc := "()V", sig := { parameters := [], returnType := none }, accessFlags := 4, code := some k2c0 }
/-- java/lang/Record -/
def k2 : Class := { plain "java/lang/Record" (some 0) with
  accessFlags := 1057
  interfaces := #[]
  cf := some (fileOf pool2 7 #[] #[{ accessFlags := 4, nameIndex := 5, descriptorIndex := 6, attributes := #[] }] 1057 2 #[] #[])
  fields := #[]
  methods := #[k2m0]
  instanceTypes := #[]
  staticTypes := #[]
  resolved := Array.replicate 22 none
  statics := none }

def pool3 : Array CpInfo := pool [(1, .methodref 2 3), (0, .class_ 4), (0, .nameAndType 5 6), (0, u "java/lang/Record"), (0, u "<init>"), (0, u "()V"), (0, .fieldref 8 9), (0, .class_ 10), (0, .nameAndType 11 12), (0, u "com/example/rankline/rankline/Extent"), (0, u "low"), (0, u "D"), (0, .fieldref 8 14), (0, .nameAndType 15 12), (0, u "gapLow"), (0, .fieldref 8 17), (0, .nameAndType 18 12), (0, u "gapHigh"), (0, .fieldref 8 20), (0, .nameAndType 21 12), (0, u "high"), (0, .fieldref 8 23), (0, .nameAndType 24 12), (0, u "below"), (0, .fieldref 8 26), (0, .nameAndType 27 12), (0, u "count"), (0, .methodref 8 29), (0, .nameAndType 5 30), (0, u "(DDDDDD)V"), (0, .methodref 8 32), (0, .nameAndType 33 34), (0, u "isEmpty"), (0, u "()Z"), (2, u "NONE"), (0, u "Lcom/example/rankline/rankline/Extent;"), (6, u "of"), (0, u "(DDD)Lcom/example/rankline/rankline/Extent;"), (9, .methodref 8 57), (0, .nameAndType 58 59), (0, u "blocks"), (0, u "([DI)I"), (0, .methodref 8 61), (0, .nameAndType 62 63), (0, u "swap"), (0, u "([DII)V"), (0, .class_ 65), (0, u "com/example/rankline/rankline/Extent$Cover"), (0, .methodref 64 3), (0, .methodref 64 68), (0, .nameAndType 69 70), (0, u "take"), (0, u "(DDD)V"), (0, .methodref 64 72), (0, .nameAndType 73 74), (0, u "extent"), (0, u "()Lcom/example/rankline/rankline/Extent;"), (9, .methodref 8 85), (0, .nameAndType 86 34), (0, u "hasGap"), (37, u "BLOCK"), (0, u "I"), (9, u "union"), (0, u "(Lcom/example/rankline/rankline/Extent;)Lcom/example/rankline/rankline/Extent;")] 41

def k3c0 : Code := { maxStack := 3, maxLocals := 13, code := prog_16_method_1_code, exceptionTable := #[], attributes := #[] }
def k3m0 : Method := { name := "<init>", desc := "(DDDDDD)V", sig := { parameters := [.double, .double, .double, .double, .double, .double], returnType := none }, accessFlags := 0, code := some k3c0 }
def k3c1 : Code := { maxStack := 14, maxLocals := 6, code := prog_16_method_2_code, exceptionTable := #[], attributes := #[] }
def k3m1 : Method := { name := "of", desc := "(DDD)Lcom/example/rankline/rankline/Extent;", sig := { parameters := [.double, .double, .double], returnType := some (.object "com/example/rankline/rankline/Extent") }, accessFlags := 8, code := some k3c1 }
def k3c2 : Code := { maxStack := 4, maxLocals := 1, code := prog_16_method_3_code, exceptionTable := #[], attributes := #[] }
def k3m2 : Method := { name := "isEmpty", desc := "()Z", sig := { parameters := [], returnType := some .boolean }, accessFlags := 0, code := some k3c2 }
def k3c3 : Code := { maxStack := 4, maxLocals := 1, code := prog_16_method_4_code, exceptionTable := #[], attributes := #[] }
def k3m3 : Method := { name := "hasGap", desc := "()Z", sig := { parameters := [], returnType := some .boolean }, accessFlags := 0, code := some k3c3 }
def k3c4 : Code := { maxStack := 8, maxLocals := 7, code := prog_16_method_8_code, exceptionTable := #[], attributes := #[] }
def k3m4 : Method := { name := "union", desc := "(Lcom/example/rankline/rankline/Extent;)Lcom/example/rankline/rankline/Extent;", sig := { parameters := [(.object "com/example/rankline/rankline/Extent")], returnType := some (.object "com/example/rankline/rankline/Extent") }, accessFlags := 0, code := some k3c4 }
def k3c5 : Code := { maxStack := 6, maxLocals := 3, code := prog_16_method_10_code, exceptionTable := #[], attributes := #[] }
def k3m5 : Method := { name := "blocks", desc := "([DI)I", sig := { parameters := [(.array .double), .int], returnType := some .int }, accessFlags := 2, code := some k3c5 }
def k3c6 : Code := { maxStack := 4, maxLocals := 5, code := prog_16_method_12_code, exceptionTable := #[], attributes := #[] }
def k3m6 : Method := { name := "swap", desc := "([DII)V", sig := { parameters := [(.array .double), .int, .int], returnType := none }, accessFlags := 10, code := some k3c6 }
/-- com/example/rankline/rankline/Extent -/
def k3 : Class := { plain "com/example/rankline/rankline/Extent" (some 2) with
  accessFlags := 48
  interfaces := #[]
  cf := some (fileOf pool3 8 #[.nestMembers #[64]] #[{ accessFlags := 0, nameIndex := 5, descriptorIndex := 30, attributes := #[] }, { accessFlags := 8, nameIndex := 45, descriptorIndex := 46, attributes := #[] }, { accessFlags := 0, nameIndex := 33, descriptorIndex := 34, attributes := #[] }, { accessFlags := 0, nameIndex := 86, descriptorIndex := 34, attributes := #[] }, { accessFlags := 0, nameIndex := 135, descriptorIndex := 136, attributes := #[] }, { accessFlags := 2, nameIndex := 58, descriptorIndex := 59, attributes := #[] }, { accessFlags := 10, nameIndex := 62, descriptorIndex := 63, attributes := #[] }] 48 2 #[] #[{ accessFlags := 18, nameIndex := 11, descriptorIndex := 12, attributes := #[] }, { accessFlags := 18, nameIndex := 15, descriptorIndex := 12, attributes := #[] }, { accessFlags := 18, nameIndex := 18, descriptorIndex := 12, attributes := #[] }, { accessFlags := 18, nameIndex := 21, descriptorIndex := 12, attributes := #[] }, { accessFlags := 18, nameIndex := 24, descriptorIndex := 12, attributes := #[] }, { accessFlags := 18, nameIndex := 27, descriptorIndex := 12, attributes := #[] }, { accessFlags := 24, nameIndex := 37, descriptorIndex := 38, attributes := #[] }, { accessFlags := 26, nameIndex := 124, descriptorIndex := 125, attributes := #[] }])
  fields := #[{ name := "low", type := .double, accessFlags := 18, slot := 0, constantValue := 0 }, { name := "gapLow", type := .double, accessFlags := 18, slot := 1, constantValue := 0 }, { name := "gapHigh", type := .double, accessFlags := 18, slot := 2, constantValue := 0 }, { name := "high", type := .double, accessFlags := 18, slot := 3, constantValue := 0 }, { name := "below", type := .double, accessFlags := 18, slot := 4, constantValue := 0 }, { name := "count", type := .double, accessFlags := 18, slot := 5, constantValue := 0 }, { name := "NONE", type := (.object "com/example/rankline/rankline/Extent"), accessFlags := 24, slot := 0, constantValue := 0 }, { name := "BLOCK", type := .int, accessFlags := 26, slot := 1, constantValue := 0 }]
  methods := #[k3m0, k3m1, k3m2, k3m3, k3m4, k3m5, k3m6]
  instanceTypes := #[.double, .double, .double, .double, .double, .double]
  staticTypes := #[(.object "com/example/rankline/rankline/Extent"), .int]
  resolved := ((Array.replicate 178 none).setIfInBounds 64 (some (.cls 4))).setIfInBounds 66 (some (.method ⟨4, 0⟩))
  statics := some 0 }

def pool4 : Array CpInfo := pool [(1, .methodref 2 3), (0, .class_ 4), (0, .nameAndType 5 6), (0, u "java/lang/Object"), (0, u "<init>"), (0, u "()V"), (2, .double 9218868437227405312), (1, .fieldref 12 13), (0, .class_ 14), (0, .nameAndType 15 16), (0, u "com/example/rankline/rankline/Extent$Cover"), (0, u "low"), (0, u "D"), (0, .double 18442240474082181120), (1, .fieldref 12 20), (0, .nameAndType 21 16), (0, u "high"), (0, .fieldref 12 23), (0, .nameAndType 24 16), (0, u "gapLow"), (0, .fieldref 12 26), (0, .nameAndType 27 16), (0, u "gapHigh"), (0, .fieldref 12 29), (0, .nameAndType 30 16), (0, u "count"), (1, .class_ 34), (1, u "com/example/rankline/rankline/Extent"), (2, .fieldref 12 38), (0, .nameAndType 39 16), (0, u "below"), (0, .methodref 41 42), (0, .class_ 43), (0, .nameAndType 44 45), (0, u "java/lang/Math"), (0, u "max"), (0, u "(DD)D"), (4, .methodref 32 51), (0, .nameAndType 5 52), (0, u "(DDDDDD)V"), (0, .methodref 32 54), (0, .nameAndType 55 56), (0, u "of"), (0, u "(DDD)Lcom/example/rankline/rankline/Extent;"), (2, u "take"), (0, u "(DDD)V"), (1, u "extent"), (0, u "()Lcom/example/rankline/rankline/Extent;")] 5

def k4c0 : Code := { maxStack := 3, maxLocals := 1, code := prog_17_method_1_code, exceptionTable := #[], attributes := #[] }
def k4m0 : Method := { name := "<init>", desc := "()V", sig := { parameters := [], returnType := none }, accessFlags := 2, code := some k4c0 }
def k4c1 : Code := { maxStack := 8, maxLocals := 7, code := prog_17_method_2_code, exceptionTable := #[], attributes := #[] }
def k4m1 : Method := { name := "take", desc := "(DDD)V", sig := { parameters := [.double, .double, .double], returnType := none }, accessFlags := 0, code := some k4c1 }
def k4c2 : Code := { maxStack := 14, maxLocals := 1, code := prog_17_method_3_code, exceptionTable := #[], attributes := #[] }
def k4m2 : Method := { name := "extent", desc := "()Lcom/example/rankline/rankline/Extent;", sig := { parameters := [], returnType := some (.object "com/example/rankline/rankline/Extent") }, accessFlags := 0, code := some k4c2 }
/-- com/example/rankline/rankline/Extent$Cover -/
def k4 : Class := { plain "com/example/rankline/rankline/Extent$Cover" (some 0) with
  accessFlags := 48
  interfaces := #[]
  cf := some (fileOf pool4 12 #[.nestHost 32] #[{ accessFlags := 2, nameIndex := 5, descriptorIndex := 6, attributes := #[] }, { accessFlags := 0, nameIndex := 59, descriptorIndex := 60, attributes := #[] }, { accessFlags := 0, nameIndex := 62, descriptorIndex := 63, attributes := #[] }] 48 2 #[] #[{ accessFlags := 2, nameIndex := 15, descriptorIndex := 16, attributes := #[] }, { accessFlags := 2, nameIndex := 21, descriptorIndex := 16, attributes := #[] }, { accessFlags := 2, nameIndex := 24, descriptorIndex := 16, attributes := #[] }, { accessFlags := 2, nameIndex := 27, descriptorIndex := 16, attributes := #[] }, { accessFlags := 2, nameIndex := 39, descriptorIndex := 16, attributes := #[] }, { accessFlags := 2, nameIndex := 30, descriptorIndex := 16, attributes := #[] }])
  fields := #[{ name := "low", type := .double, accessFlags := 2, slot := 0, constantValue := 0 }, { name := "high", type := .double, accessFlags := 2, slot := 1, constantValue := 0 }, { name := "gapLow", type := .double, accessFlags := 2, slot := 2, constantValue := 0 }, { name := "gapHigh", type := .double, accessFlags := 2, slot := 3, constantValue := 0 }, { name := "below", type := .double, accessFlags := 2, slot := 4, constantValue := 0 }, { name := "count", type := .double, accessFlags := 2, slot := 5, constantValue := 0 }]
  methods := #[k4m0, k4m1, k4m2]
  instanceTypes := #[.double, .double, .double, .double, .double, .double]
  staticTypes := #[]
  resolved := Array.replicate 69 none
  statics := none }

def pool5 : Array CpInfo := pool [(1, .class_ 2), (0, u "java/lang/Math"), (1, .class_ 6), (1, u "java/lang/Object"), (0, u "<init>"), (0, u "()V"), (43, u "(DD)D"), (45, .class_ 100), (1, u "java/lang/Math$RandomNumberGeneratorHolder"), (71, u "negativeZeroFloatBits"), (0, u "J"), (2, u "negativeZeroDoubleBits"), (21, u "max"), (46, u "$assertionsDisabled"), (0, u "Z"), (91, u "twoToTheDoubleScaleDown"), (0, u "D"), (4, u "twoToTheDoubleScaleUp"), (9, u "E"), (3, u "PI"), (2, u "TAU"), (2, u "DEGREES_TO_RADIANS"), (0, u "RADIANS_TO_DEGREES")] 94

def k5m0 : Method := { name := "<init>", desc := "()V", sig := { parameters := [], returnType := none }, accessFlags := 2, code := none }
def k5c1 : Code := { maxStack := 4, maxLocals := 4, code := jdk_29_method_68_code, exceptionTable := #[], attributes := #[] }
def k5m1 : Method := { name := "max", desc := "(DD)D", sig := { parameters := [.double, .double], returnType := some .double }, accessFlags := 9, code := some k5c1 }
/-- java/lang/Math -/
def k5 : Class := { plain "java/lang/Math" (some 0) with
  accessFlags := 49
  interfaces := #[]
  cf := some (fileOf pool5 1 #[.nestMembers #[98]] #[{ accessFlags := 2, nameIndex := 7, descriptorIndex := 8, attributes := #[] }, { accessFlags := 9, nameIndex := 198, descriptorIndex := 52, attributes := #[] }] 49 4 #[] #[{ accessFlags := 25, nameIndex := 354, descriptorIndex := 339, attributes := #[] }, { accessFlags := 25, nameIndex := 358, descriptorIndex := 339, attributes := #[] }, { accessFlags := 25, nameIndex := 361, descriptorIndex := 339, attributes := #[] }, { accessFlags := 26, nameIndex := 364, descriptorIndex := 339, attributes := #[] }, { accessFlags := 26, nameIndex := 365, descriptorIndex := 339, attributes := #[] }, { accessFlags := 26, nameIndex := 172, descriptorIndex := 173, attributes := #[] }, { accessFlags := 26, nameIndex := 176, descriptorIndex := 173, attributes := #[] }, { accessFlags := 8, nameIndex := 344, descriptorIndex := 339, attributes := #[] }, { accessFlags := 8, nameIndex := 338, descriptorIndex := 339, attributes := #[] }, { accessFlags := 4120, nameIndex := 245, descriptorIndex := 246, attributes := #[] }])
  fields := #[{ name := "E", type := .double, accessFlags := 25, slot := 0, constantValue := 0 }, { name := "PI", type := .double, accessFlags := 25, slot := 1, constantValue := 0 }, { name := "TAU", type := .double, accessFlags := 25, slot := 2, constantValue := 0 }, { name := "DEGREES_TO_RADIANS", type := .double, accessFlags := 26, slot := 3, constantValue := 0 }, { name := "RADIANS_TO_DEGREES", type := .double, accessFlags := 26, slot := 4, constantValue := 0 }, { name := "negativeZeroFloatBits", type := .long, accessFlags := 26, slot := 5, constantValue := 0 }, { name := "negativeZeroDoubleBits", type := .long, accessFlags := 26, slot := 6, constantValue := 0 }, { name := "twoToTheDoubleScaleUp", type := .double, accessFlags := 8, slot := 7, constantValue := 0 }, { name := "twoToTheDoubleScaleDown", type := .double, accessFlags := 8, slot := 8, constantValue := 0 }, { name := "$assertionsDisabled", type := .boolean, accessFlags := 4120, slot := 9, constantValue := 0 }]
  methods := #[k5m0, k5m1]
  instanceTypes := #[]
  staticTypes := #[.double, .double, .double, .double, .double, .long, .long, .double, .double, .boolean]
  resolved := Array.replicate 460 none
  statics := none }

def pool6 : Array CpInfo := pool [(1, u "java/lang/Cloneable"), (0, .class_ 1), (0, u "java/lang/Object"), (0, .class_ 3)] 3

/-- java/lang/Cloneable -/
def k6 : Class := { plain "java/lang/Cloneable" (some 0) with
  accessFlags := 1537
  interfaces := #[]
  cf := some (fileOf pool6 2 #[] #[] 1537 4 #[] #[])
  fields := #[]
  methods := #[]
  instanceTypes := #[]
  staticTypes := #[]
  resolved := Array.replicate 8 none
  statics := none }

def pool7 : Array CpInfo := pool [(1, u "java/io/Serializable"), (0, .class_ 1), (0, u "java/lang/Object"), (0, .class_ 3)] 3

/-- java/io/Serializable -/
def k7 : Class := { plain "java/io/Serializable" (some 0) with
  accessFlags := 1537
  interfaces := #[]
  cf := some (fileOf pool7 2 #[] #[] 1537 4 #[] #[])
  fields := #[]
  methods := #[]
  instanceTypes := #[]
  staticTypes := #[]
  resolved := Array.replicate 8 none
  statics := none }

/-- the primitive byte -/
def k8 : Class := { plain "byte" none with kind := .primitive 'B', accessFlags := 0x411 }
/-- [B -/
def k9 : Class := { plain "[B" (some 0) with kind := .array 8 .byte, interfaces := #[6, 7], accessFlags := 1041 }

/-- the primitive double -/
def k10 : Class := { plain "double" none with kind := .primitive 'D', accessFlags := 0x411 }
/-- [D -/
def k11 : Class := { plain "[D" (some 0) with kind := .array 10 .double, interfaces := #[6, 7], accessFlags := 1041 }

/-- the primitive int -/
def k12 : Class := { plain "int" none with kind := .primitive 'I', accessFlags := 0x411 }
/-- [I -/
def k13 : Class := { plain "[I" (some 0) with kind := .array 12 .int, interfaces := #[6, 7], accessFlags := 1041 }

def heap : Heap := #[{ cls := 3, slots := #[.ref 1, .int 0], vm := .statics 3 },
  { cls := 3, slots := #[.double 0, .double 9218868437227405312, .double 9218868437227405312, .double 0, .double 0, .double 0], vm := .none }]
def classes : Array Class := #[k0, k1, k2, k3, k4, k5, k6, k7, k8, k9, k10, k11, k12, k13]
def interned : List (Array UInt16 × Addr) := []
def slotsUsed : Nat := 8
def theMethod : MethodId := ⟨1, 1⟩
def args0 : Array Value := #[.int 5, .int 6, .int 7, .int 8, .int 1, .int 2]
def aboutOver (below : List Frame) : State where
  vm := { classes := classes, interned := interned.toArray }
  heap := heap
  slotsUsed := slotsUsed
  threads := #[{ frames := .invoking theMethod args0 :: below }]
def below0 : List Frame := [.native { method := ⟨0, 0⟩, args := #[] }]
def about1 : State := aboutOver below0
def p0 : Program := .bare "" "" ""
def e0 : Env := launch0.env 0 0 0
theorem w_frames : about1.frames = Frame.invoking theMethod args0 :: below0 := rfl
set_option maxRecDepth 65536 in
theorem w_args : argsFit about1.vm theMethod args0 = true := by decide +kernel
set_option maxRecDepth 65536 in
theorem w_heap : heapFits about1 = true := by decide +kernel
set_option maxRecDepth 65536 in
theorem w_runnable : about1.curStatus? = some .runnable := by decide +kernel
set_option maxRecDepth 65536 in
theorem w_alone : about1.alone = true := by decide +kernel
set_option maxRecDepth 65536 in
theorem w_named : about1.methodNamed? x = some theMethod := by decide +kernel
set_option maxRecDepth 65536 in
theorem w_hears : about1.hears theMethod below0 = true := by decide +kernel
set_option maxRecDepth 65536 in
theorem w_ripe : about1.ripe theMethod args0 below0 = true := by decide +kernel
theorem w_running : about1.status = .running := rfl
set_option maxRecDepth 65536 in
theorem w_room : about1.hasRoom e0.platform room_1 = true :=
  launch0.hasRoom_least _ room_1 (by decide +kernel) (by decide +kernel) (by decide +kernel) (by decide +kernel) (by decide +kernel) (by decide +kernel)
theorem allAtoms_all (ts : List Jvm.Cond) (a : Array Jvm.Value) (st : Jvm.State) : (allAtoms ts).before a st = ts.all (fun c => c.before a st) := by
  induction ts with
  | nil => rfl
  | cons c t ih =>
    show (Jvm.Cond.and c (allAtoms t)).before a st = _
    rw [Jvm.Cond.before_and, ih, List.all_cons]
def words1 : List Jvm.Cond := Jvm.Cond.code x code maxLocals ret :: tables_1
/-- a 'code' word, met by the world's own term for the bytes: nothing is compared byte by byte -/
theorem code_word {y : MethodName} {bytes : ByteArray} {mx : Nat} {rt : Option FieldType} {a : Array Value} {s : State} {m : MethodId} {meth : Method} {c : Code} (h1 : s.methodNamed? y = some m) (h2 : s.vm.method? m = some meth) (h3 : meth.code = some c) (h4 : c.code = bytes)
    (h5 : (c.maxLocals == mx && c.exceptionTable.isEmpty && decide (c.maxStack ≤ mostOperands) && decide (meth.sig.returnType = rt) && !meth.locks && decide (parseMethodDescriptor y.desc = some meth.sig)) = true) : (Jvm.Cond.code y bytes mx rt).before a s = true := by
  simp only [Bool.and_eq_true, beq_iff_eq, Bool.not_eq_true', decide_eq_true_eq] at h5
  obtain ⟨⟨⟨⟨⟨g1, g2⟩, g3⟩, g4⟩, g5⟩, g6⟩ := h5
  simp [Cond.before, Cond.holds, Cond.value, h1, h2, h3, h4, g1, g2, g3, g4, g5, g6]
def isCode : Jvm.Cond → Bool
  | .code _ _ _ _ => true
  | _ => false
theorem all_split {L : List Jvm.Cond} {P : Jvm.Cond → Bool} (h1 : L.all (fun c => isCode c || P c) = true) (h2 : ∀ c ∈ L.filter isCode, P c = true) : L.all P = true := by
  refine List.all_eq_true.mpr fun c hc => ?_
  have h := List.all_eq_true.mp h1 c hc
  rcases Bool.eq_false_or_eq_true (isCode c) with hi | hi
  · exact h2 c (List.mem_filter.mpr ⟨hc, hi⟩)
  · simpa [hi] using h
set_option maxRecDepth 65536 in
theorem w_c0 : (Jvm.Cond.code x code maxLocals ret).before args0 about1 = true := code_word (m := ⟨1, 1⟩) (meth := k1m1) (c := k1c1) (by decide +kernel) rfl rfl rfl (by decide +kernel)
set_option maxRecDepth 65536 in
theorem w_c1 : (Jvm.Cond.code ({ cls := "com/example/rankline/rankline/Extent", name := "<init>", desc := "(DDDDDD)V" } : Jvm.MethodName) prog_16_method_1_code (13 : Nat) (Option.none : Option Jvm.ClassFile.FieldType)).before args0 about1 = true := code_word (m := ⟨3, 0⟩) (meth := k3m0) (c := k3c0) (by decide +kernel) rfl rfl rfl (by decide +kernel)
set_option maxRecDepth 65536 in
theorem w_c2 : (Jvm.Cond.code ({ cls := "java/lang/Record", name := "<init>", desc := "()V" } : Jvm.MethodName) jdk_30_method_1_code (1 : Nat) (Option.none : Option Jvm.ClassFile.FieldType)).before args0 about1 = true := code_word (m := ⟨2, 0⟩) (meth := k2m0) (c := k2c0) (by decide +kernel) rfl rfl rfl (by decide +kernel)
set_option maxRecDepth 65536 in
theorem w_c3 : (Jvm.Cond.code ({ cls := "java/lang/Object", name := "<init>", desc := "()V" } : Jvm.MethodName) object_method_1_code (1 : Nat) (Option.none : Option Jvm.ClassFile.FieldType)).before args0 about1 = true := code_word (m := ⟨0, 0⟩) (meth := k0m0) (c := k0c0) (by decide +kernel) rfl rfl rfl (by decide +kernel)
set_option maxRecDepth 65536 in
theorem w_c4 : (Jvm.Cond.code ({ cls := "com/example/rankline/rankline/Extent", name := "hasGap", desc := "()Z" } : Jvm.MethodName) prog_16_method_4_code (1 : Nat) (Option.some Jvm.ClassFile.FieldType.boolean)).before args0 about1 = true := code_word (m := ⟨3, 3⟩) (meth := k3m3) (c := k3c3) (by decide +kernel) rfl rfl rfl (by decide +kernel)
set_option maxRecDepth 65536 in
theorem w_c5 : (Jvm.Cond.code ({ cls := "com/example/rankline/rankline/Extent", name := "of", desc := "(DDD)Lcom/example/rankline/rankline/Extent;" } : Jvm.MethodName) prog_16_method_2_code (6 : Nat) (Option.some (Jvm.ClassFile.FieldType.object "com/example/rankline/rankline/Extent"))).before args0 about1 = true := code_word (m := ⟨3, 1⟩) (meth := k3m1) (c := k3c1) (by decide +kernel) rfl rfl rfl (by decide +kernel)
set_option maxRecDepth 65536 in
theorem w_c6 : (Jvm.Cond.code ({ cls := "com/example/rankline/rankline/Extent", name := "union", desc := "(Lcom/example/rankline/rankline/Extent;)Lcom/example/rankline/rankline/Extent;" } : Jvm.MethodName) prog_16_method_8_code (7 : Nat) (Option.some (Jvm.ClassFile.FieldType.object "com/example/rankline/rankline/Extent"))).before args0 about1 = true := code_word (m := ⟨3, 4⟩) (meth := k3m4) (c := k3c4) (by decide +kernel) rfl rfl rfl (by decide +kernel)
set_option maxRecDepth 65536 in
theorem w_c7 : (Jvm.Cond.code ({ cls := "com/example/rankline/rankline/Extent", name := "blocks", desc := "([DI)I" } : Jvm.MethodName) prog_16_method_10_code (3 : Nat) (Option.some Jvm.ClassFile.FieldType.int)).before args0 about1 = true := code_word (m := ⟨3, 5⟩) (meth := k3m5) (c := k3c5) (by decide +kernel) rfl rfl rfl (by decide +kernel)
set_option maxRecDepth 65536 in
theorem w_c8 : (Jvm.Cond.code ({ cls := "com/example/rankline/rankline/Extent", name := "isEmpty", desc := "()Z" } : Jvm.MethodName) prog_16_method_3_code (1 : Nat) (Option.some Jvm.ClassFile.FieldType.boolean)).before args0 about1 = true := code_word (m := ⟨3, 2⟩) (meth := k3m2) (c := k3c2) (by decide +kernel) rfl rfl rfl (by decide +kernel)
set_option maxRecDepth 65536 in
theorem w_c9 : (Jvm.Cond.code ({ cls := "com/example/rankline/rankline/Extent$Cover", name := "<init>", desc := "()V" } : Jvm.MethodName) prog_17_method_1_code (1 : Nat) (Option.none : Option Jvm.ClassFile.FieldType)).before args0 about1 = true := code_word (m := ⟨4, 0⟩) (meth := k4m0) (c := k4c0) (by decide +kernel) rfl rfl rfl (by decide +kernel)
set_option maxRecDepth 65536 in
theorem w_c10 : (Jvm.Cond.code ({ cls := "com/example/rankline/rankline/Extent$Cover", name := "take", desc := "(DDD)V" } : Jvm.MethodName) prog_17_method_2_code (7 : Nat) (Option.none : Option Jvm.ClassFile.FieldType)).before args0 about1 = true := code_word (m := ⟨4, 1⟩) (meth := k4m1) (c := k4c1) (by decide +kernel) rfl rfl rfl (by decide +kernel)
set_option maxRecDepth 65536 in
theorem w_c11 : (Jvm.Cond.code ({ cls := "java/lang/Math", name := "max", desc := "(DD)D" } : Jvm.MethodName) jdk_29_method_68_code (4 : Nat) (Option.some Jvm.ClassFile.FieldType.double)).before args0 about1 = true := code_word (m := ⟨5, 1⟩) (meth := k5m1) (c := k5c1) (by decide +kernel) rfl rfl rfl (by decide +kernel)
set_option maxRecDepth 65536 in
theorem w_c12 : (Jvm.Cond.code ({ cls := "com/example/rankline/rankline/Extent$Cover", name := "extent", desc := "()Lcom/example/rankline/rankline/Extent;" } : Jvm.MethodName) prog_17_method_3_code (1 : Nat) (Option.some (Jvm.ClassFile.FieldType.object "com/example/rankline/rankline/Extent"))).before args0 about1 = true := code_word (m := ⟨4, 2⟩) (meth := k4m2) (c := k4c2) (by decide +kernel) rfl rfl rfl (by decide +kernel)
set_option maxRecDepth 65536 in
theorem w_c13 : (Jvm.Cond.code ({ cls := "com/example/rankline/rankline/Extent", name := "swap", desc := "([DII)V" } : Jvm.MethodName) prog_16_method_12_code (5 : Nat) (Option.none : Option Jvm.ClassFile.FieldType)).before args0 about1 = true := code_word (m := ⟨3, 6⟩) (meth := k3m6) (c := k3c6) (by decide +kernel) rfl rfl rfl (by decide +kernel)
def codes1 : List Jvm.Cond := [Jvm.Cond.code x code maxLocals ret, Jvm.Cond.code ({ cls := "com/example/rankline/rankline/Extent", name := "<init>", desc := "(DDDDDD)V" } : Jvm.MethodName) prog_16_method_1_code (13 : Nat) (Option.none : Option Jvm.ClassFile.FieldType), Jvm.Cond.code ({ cls := "java/lang/Record", name := "<init>", desc := "()V" } : Jvm.MethodName) jdk_30_method_1_code (1 : Nat) (Option.none : Option Jvm.ClassFile.FieldType), Jvm.Cond.code ({ cls := "java/lang/Object", name := "<init>", desc := "()V" } : Jvm.MethodName) object_method_1_code (1 : Nat) (Option.none : Option Jvm.ClassFile.FieldType), Jvm.Cond.code ({ cls := "com/example/rankline/rankline/Extent", name := "hasGap", desc := "()Z" } : Jvm.MethodName) prog_16_method_4_code (1 : Nat) (Option.some Jvm.ClassFile.FieldType.boolean), Jvm.Cond.code ({ cls := "com/example/rankline/rankline/Extent", name := "of", desc := "(DDD)Lcom/example/rankline/rankline/Extent;" } : Jvm.MethodName) prog_16_method_2_code (6 : Nat) (Option.some (Jvm.ClassFile.FieldType.object "com/example/rankline/rankline/Extent")), Jvm.Cond.code ({ cls := "com/example/rankline/rankline/Extent", name := "union", desc := "(Lcom/example/rankline/rankline/Extent;)Lcom/example/rankline/rankline/Extent;" } : Jvm.MethodName) prog_16_method_8_code (7 : Nat) (Option.some (Jvm.ClassFile.FieldType.object "com/example/rankline/rankline/Extent")), Jvm.Cond.code ({ cls := "com/example/rankline/rankline/Extent", name := "blocks", desc := "([DI)I" } : Jvm.MethodName) prog_16_method_10_code (3 : Nat) (Option.some Jvm.ClassFile.FieldType.int), Jvm.Cond.code ({ cls := "com/example/rankline/rankline/Extent", name := "isEmpty", desc := "()Z" } : Jvm.MethodName) prog_16_method_3_code (1 : Nat) (Option.some Jvm.ClassFile.FieldType.boolean), Jvm.Cond.code ({ cls := "com/example/rankline/rankline/Extent$Cover", name := "<init>", desc := "()V" } : Jvm.MethodName) prog_17_method_1_code (1 : Nat) (Option.none : Option Jvm.ClassFile.FieldType), Jvm.Cond.code ({ cls := "com/example/rankline/rankline/Extent$Cover", name := "take", desc := "(DDD)V" } : Jvm.MethodName) prog_17_method_2_code (7 : Nat) (Option.none : Option Jvm.ClassFile.FieldType), Jvm.Cond.code ({ cls := "java/lang/Math", name := "max", desc := "(DD)D" } : Jvm.MethodName) jdk_29_method_68_code (4 : Nat) (Option.some Jvm.ClassFile.FieldType.double), Jvm.Cond.code ({ cls := "com/example/rankline/rankline/Extent$Cover", name := "extent", desc := "()Lcom/example/rankline/rankline/Extent;" } : Jvm.MethodName) prog_17_method_3_code (1 : Nat) (Option.some (Jvm.ClassFile.FieldType.object "com/example/rankline/rankline/Extent")), Jvm.Cond.code ({ cls := "com/example/rankline/rankline/Extent", name := "swap", desc := "([DII)V" } : Jvm.MethodName) prog_16_method_12_code (5 : Nat) (Option.none : Option Jvm.ClassFile.FieldType)]
set_option maxRecDepth 65536 in
theorem codes_eq : words1.filter isCode = codes1 := rfl
theorem w_codes : ∀ c ∈ words1.filter isCode, c.before args0 about1 = true := by
  rw [codes_eq]
  intro c hc
  simp only [codes1, List.mem_cons, List.not_mem_nil, or_false] at hc
  rcases hc with rfl | rfl | rfl | rfl | rfl | rfl | rfl | rfl | rfl | rfl | rfl | rfl | rfl | rfl
  · exact w_c0
  · exact w_c1
  · exact w_c2
  · exact w_c3
  · exact w_c4
  · exact w_c5
  · exact w_c6
  · exact w_c7
  · exact w_c8
  · exact w_c9
  · exact w_c10
  · exact w_c11
  · exact w_c12
  · exact w_c13
set_option maxRecDepth 65536 in
theorem w_t1 : (words1.take 24).all (fun c => isCode c || c.before args0 about1) = true := by decide +kernel
set_option maxRecDepth 65536 in
theorem w_t2 : ((words1.drop 24).take 24).all (fun c => isCode c || c.before args0 about1) = true := by decide +kernel
set_option maxRecDepth 65536 in
theorem w_t3 : (((words1.drop 24).drop 24).take 24).all (fun c => isCode c || c.before args0 about1) = true := by decide +kernel
set_option maxRecDepth 65536 in
theorem w_t4 : ((((words1.drop 24).drop 24).drop 24).take 24).all (fun c => isCode c || c.before args0 about1) = true := by decide +kernel
set_option maxRecDepth 65536 in
theorem w_t5 : ((((words1.drop 24).drop 24).drop 24).drop 24).all (fun c => isCode c || c.before args0 about1) = true := by decide +kernel
theorem w_tables : (allAtoms (Jvm.Cond.code x code maxLocals ret :: tables_1)).before args0 about1 = true := by
  rw [allAtoms_all]
  show words1.all (fun c => c.before args0 about1) = true
  refine all_split ?_ w_codes
  rw [← List.take_append_drop 24 words1, List.all_append, w_t1, ← List.take_append_drop 24 (words1.drop 24), List.all_append, w_t2, ← List.take_append_drop 24 ((words1.drop 24).drop 24), List.all_append, w_t3, ← List.take_append_drop 24 (((words1.drop 24).drop 24).drop 24), List.all_append, w_t4, w_t5]
  rfl
set_option maxRecDepth 65536 in
theorem w_case : (Jvm.Cond.and given_1 narrow_1).before args0 about1 = true := by decide +kernel
theorem w_applies : (headSpec (Jvm.Cond.code x code maxLocals ret :: tables_1) room_1).applies x e0.platform about1 = true :=
  (Spec.applies_iff w_frames).mpr ⟨w_running, w_runnable, w_alone, w_named, w_hears, w_ripe, w_room, w_tables⟩
theorem atStart : AtStart classFile x code maxLocals ret World_1 tables_1 room_1 Calls_1 rest_1 Pre_1 launch0 p0 e0 about1 theMethod args0 below0 :=
  ⟨lists_1, trivial, launch0.admits_env _ _ _, launch0.least_env, fairChoices_fair.cas, fairChoices_fair.clock, w_frames, w_args, w_heap, w_applies, trivial, trivial, w_case⟩
end start1
theorem witness_1 : WitnessClaimed_1 := ⟨start1.p0, start1.e0, start1.about1, start1.theMethod, start1.args0, start1.below0, start1.atStart⟩
end Jvm.Pilot.@@N@@
