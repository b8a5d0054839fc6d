import JvmDerived
import JvmDerived.Pilot.@@N@@Statement
import JvmDerived.Pilot.@@N@@Code
set_option linter.unusedVariables false
set_option linter.unusedSimpArgs false
namespace Jvm.Pilot.@@N@@
open Jvm Jvm.ClassFile Sem Op Lib Jvm.Free Jvm.Stand Jvm.LawKit Jvm.RoadKit Bundle Jvm.Pilot.@@N@@.Jvm.D
section GoKit
variable {p : Program} {l : Launch} {e : Env} {R : Room} {s : State} {m : MethodId} {args : Array Value} {below : List Frame} {meth : Method} {c : Code} {T T' : State} {locs : List Loc} {cells slots : Nat} {Z : State} {a0 : Array Value} {h h' : Heap} {G : Outcome → State → Prop} {g g' : JFrame}
/-- from here the run comes to an end of which G speaks -/
def Go (p : Program) (e : Env) (below : List Frame) (G : Outcome → State → Prop) (T : State) (g : JFrame) : Prop :=
  ∃ s₂ o, Steps p.tables e below (T.setTop g) s₂ ∧ s₂.status = .running ∧ Ended s₂ below o ∧ G o s₂
theorem Go.st (st : ∀ t, Steps p.tables e below (T'.setTop g') t → Steps p.tables e below (T.setTop g) t) (k : Go p e below G T' g') : Go p e below G T g := by
  obtain ⟨s₂, o, q, r⟩ := k; exact ⟨s₂, o, st _ q, r⟩
theorem Go.tr (st : Steps p.tables e below (T.setTop g) (T'.setTop g')) (k : Go p e below G T' g') : Go p e below G T g := by
  obtain ⟨s₂, o, q, r⟩ := k; exact ⟨s₂, o, st.trans q, r⟩
theorem Go.cast (q : g = g') (k : Go p e below G T g') : Go p e below G T g := q ▸ k
/-- a narrow end: it returned v, the heap and the written places meet Q -/
def EndQ (s : State) (Q : Option Value → Heap → List Loc → Prop) (kc ks : Nat) (o : Outcome) (t : State) : Prop := ∃ v L, o = .returned v ∧ Q v t.heap L ∧ FrameEnd s o t L kc ks
theorem Go.done (X : Stand p l e R s m args below meth c T locs cells slots) {Q : Option Value → Heap → List Loc → Prop} {kc ks : Nat} {v : Option Value} (hv : meth.sig.returnType = none → v = none) (hlk : meth.locks = false)
    (fin : ∀ fs, (∀ (f : JFrame) (acts : List Action), f.method = m → f.locked = none → f.entered = [] → (doReturn e (T.setTop f) acts v).1 = T.setFrames fs) → Steps p.tables e below (T.setTop g) (T.setFrames fs))
    (hQ : Q v T.heap locs) (hc : cells ≤ kc) (hs : slots ≤ ks) : Go p e below (EndQ s Q kc ks) T g := by
  obtain ⟨fs, hr, hrun, hended, hW, hsame⟩ := X.leave hv hlk
  exact ⟨_, _, fin fs hr, hrun, hended, v, locs, rfl, hQ, ⟨v, rfl⟩, hW, hsame.mono hc hs⟩
def Ctr (l : Launch) (Z : State) (y : MethodName) (bytes : ByteArray) (maxL : Nat) (ret : Option FieldType) (ws : List Jvm.Cond) (rm : Room) (as' : Array Value) (h0 : Heap) (Q : Option Value → Heap → List Loc → Prop) : Prop :=
  MetFree l y (head1 (Jvm.Cond.code y bytes maxL ret :: ws) rm) (fun a U => a = as' ∧ Z.Warmed39 U.vm ∧ U.heap = h0) (fun _ _ _ _ _ => True) (fun _ U o U' => ∃ v L, o = .returned v ∧ Q v U'.heap L ∧ FrameEnd U o U' L rm.cells rm.slots)
theorem Ctr.of {y : MethodName} {bytes : ByteArray} {maxL : Nat} {ret : Option FieldType} {ws : List Jvm.Cond} {rm : Room} {as' : Array Value} {h0 : Heap} {Q : Option Value → Heap → List Loc → Prop} (hpf : plainFor y = true)
    (body : ∀ p e s m below meth c s₁, p.tables.exec = Jvm.exec → c.code = bytes → c.maxLocals = maxL → s.vm.findClass y.cls = some m.cls → meth.name = y.name → meth.sig.returnType = ret → meth.locks = false → Z.Warmed39 s.vm →
      Stand p l e rm s m as' below meth c s₁ [] 0 0 → s₁.heap = h0 → Go p e below (EndQ s Q rm.cells rm.slots) s₁ (entryFrame m as' maxL)) : Ctr l Z y bytes maxL ret ws rm as' h0 Q := by
  refine MetFree.of_bodySF hpf hisR ?_
  intro p e s m args below meth c s₁ Bd hml0 hP hK
  obtain ⟨rfl, hZ, hh⟩ := hP
  exact body p e s m below meth c s₁ Bd.exec Bd.bytes hml0 (findClass_of_methodNamed Bd.named) (name_of_methodNamed Bd.named Bd.method).1 Bd.returns Bd.notSynchronized hZ (Stand.of_body Bd) (by rw [← hh, Bd.state]; rfl)
abbrev BackQ (l : Launch) (R : Room) (p : Program) (e : Env) (below : List Frame) (s : State) (args : Array Value) (y : MethodName) (W : Nat) (as' : Array Value) (h : Heap) (kc ks : Nat) (Q : Option Value → Heap → List Loc → Prop) : Prop :=
  Back l R p e below s args y 3 W (fun A a => a = as' ∧ A.U.heap = h ∧ A.cells + kc ≤ R.cells ∧ A.slots + ks ≤ R.slots) (fun A _ v B => ∃ L, Q v B.U.heap L ∧ B.locs = A.locs ++ L ∧ B.cells = A.cells + kc ∧ B.slots = A.slots + ks)
theorem Ctr.back {y : MethodName} {bytes : ByteArray} {maxL W : Nat} {ret : Option FieldType} {rm : Room} {as' : Array Value} {Q : Option Value → Heap → List Loc → Prop} (hM : Ctr l Z y bytes maxL ret [] rm as' h Q)
    (hZ : Z.Warmed39 s.vm) (wc : (Jvm.Cond.code y bytes maxL ret).before a0 Z = true) (wz : (Jvm.Cond.initialized y.cls).before a0 Z = true) (hf : rm.frames + 1 ≤ R.frames) (hl : W + (maxL + 11) + rm.locals ≤ R.locals) :
    BackQ l R p e below s args y W as' h rm.cells rm.slots Q := backOf hM hZ wc wz hf hl
theorem Go.callS (X : Stand p l e R s m args below meth c T locs cells slots) (hx : p.tables.exec = Jvm.exec) {own : String} {index : Nat} {y : MethodName} {bytes : ByteArray} {maxL : Nat} {ret : Option FieldType}
    (hown : s.vm.findClass own = some m.cls) (hlink : (Jvm.Cond.methodLink own index y).before args s = true) (hstat : (Jvm.Cond.static y).before args s = true) (hinit : (Jvm.Cond.initialized y.cls).before args s = true)
    (hcode : (Jvm.Cond.code y bytes maxL ret).before args s = true) (hy : y.cls ≠ "java/lang/invoke/MethodHandle" ∧ y.cls ≠ "java/lang/invoke/VarHandle")
    {W kc ks : Nat} {as' : Array Value} {Q : Option Value → Heap → List Loc → Prop} (hK : BackQ l R p e below s args y W as' h kc ks Q) (eT : T.heap = h)
    {g : JFrame} (hg : g.method = m) (hsize : g.locals.size = c.maxLocals) {argsL rest : List Value} (hlen : ∀ sig, parseMethodDescriptor y.desc = some sig → argsL.length = sig.parameters.length)
    (hstack : g.stack = argsL.reverse ++ rest) (hW : 2 * g.monitorRoom + (rest.map fun v => v.category).sum ≤ W) (hdg : decode c.code g.pc = .ok (.invokestatic index, 3))
    (has : argsL.toArray = as') (hc : cells + kc ≤ R.cells) (hs : slots + ks ≤ R.slots)
    (k : ∀ v T' L, Stand p l e R s m args below meth c T' (locs ++ L) (cells + kc) (slots + ks) → Q v T'.heap L → Go p e below G T' { g with pc := g.pc + 3, stack := v.toList ++ rest }) : Go p e below G T g := by
  obtain ⟨v, vm₁, ⟨T1, L1, k1, n1⟩, -, X1, ⟨L, hQ, h1, h2, h3⟩, st⟩ := Jvm.LawKit.callS X hx hown hlink hstat hinit hcode hy hK hg hsize hlen hstack hW hdg (fun _ _ => ⟨has, eT, hc, hs⟩)
  dsimp only [Pt.U, Pt.locs, Pt.cells, Pt.slots] at X1 h1 h2 h3 st hQ
  subst h1 h2 h3
  exact Go.st st (k v T1 L X1 hQ)
theorem Go.callI (X : Stand p l e R s m args below meth c T locs cells slots) (hx : p.tables.exec = Jvm.exec) {own : String} {index : Nat} {y : MethodName} {bytes : ByteArray} {maxL : Nat} (hy1 : y.name = "<init>")
    (hown : s.vm.findClass own = some m.cls) (hlink : (Jvm.Cond.methodLink own index y).before args s = true) (hinst : (Jvm.Cond.instanceMethod y).before args s = true)
    (hcode : (Jvm.Cond.code y bytes maxL none).before args s = true) (hy : y.cls ≠ "java/lang/invoke/MethodHandle" ∧ y.cls ≠ "java/lang/invoke/VarHandle")
    {W kc ks : Nat} {as' : Array Value} {Q : Option Value → Heap → List Loc → Prop} (hK : BackQ l R p e below s args y W as' h kc ks Q) (eT : T.heap = h)
    {g : JFrame} (hg : g.method = m) (hsize : g.locals.size = c.maxLocals) {a : Addr} {argsL rest : List Value} (hlen : ∀ sig, parseMethodDescriptor y.desc = some sig → argsL.length = sig.parameters.length)
    (hstack : g.stack = argsL.reverse ++ .ref a :: rest) (hW : 2 * g.monitorRoom + (rest.map fun v => v.category).sum ≤ W) (hdg : decode c.code g.pc = .ok (.invokespecial index, 3))
    (has : (.ref a :: argsL).toArray = as') (hc : cells + kc ≤ R.cells) (hs : slots + ks ≤ R.slots)
    (k : ∀ v T' L, Stand p l e R s m args below meth c T' (locs ++ L) (cells + kc) (slots + ks) → Q v T'.heap L → Go p e below G T' { g with pc := g.pc + 3, stack := v.toList ++ rest }) : Go p e below G T g := by
  obtain ⟨v, vm₁, ⟨T1, L1, k1, n1⟩, -, X1, ⟨L, hQ, h1, h2, h3⟩, st⟩ := X.specialBack hx hy1 hown hlink hinst hcode hy hK hg hsize (Steps.refl _) hlen hstack hW hdg (fun _ _ => ⟨has, eT, hc, hs⟩)
  dsimp only [Pt.U, Pt.locs, Pt.cells, Pt.slots] at X1 h1 h2 h3 st hQ
  subst h1 h2 h3
  exact Go.tr st (k v T1 L X1 hQ)
theorem Go.callV (X : Stand p l e R s m args below meth c T locs cells slots) (hx : p.tables.exec = Jvm.exec) (hZ : Z.Warmed39 s.vm) {own C : String} {index : Nat} {y z : MethodName}
    (hown : s.vm.findClass own = some m.cls) (hlink : (Jvm.Cond.methodLink own index y).before args s = true) (hdecl : (Jvm.Cond.declares y).before args s = true) 
    (hsel : (Jvm.Cond.selects C y z).before args s = true) (hinst : (Jvm.Cond.instanceMethod z).before args s = true)
    (hy : y.cls ≠ "java/lang/invoke/MethodHandle" ∧ y.cls ≠ "java/lang/invoke/VarHandle") (hnf : NotFace s y)
    {W kc ks : Nat} {as' : Array Value} {Q : Option Value → Heap → List Loc → Prop} (hK : BackQ l R p e below s args z W as' h kc ks Q) (eT : T.heap = h)
    {b : Addr} (E : Exa Z h b C)
    {g : JFrame} (hg : g.method = m) (hsize : g.locals.size = c.maxLocals) {argsL rest : List Value} (hlen : ∀ sig, parseMethodDescriptor y.desc = some sig → argsL.length = sig.parameters.length)
    (hstack : g.stack = argsL.reverse ++ .ref b :: rest) (hW : 2 * g.monitorRoom + (rest.map fun v => v.category).sum ≤ W) (hdg : decode c.code g.pc = .ok (.invokevirtual index, 3))
    (has : (.ref b :: argsL).toArray = as') (hc : cells + kc ≤ R.cells) (hs : slots + ks ≤ R.slots)
    (k : ∀ v T' L, Stand p l e R s m args below meth c T' (locs ++ L) (cells + kc) (slots + ks) → Q v T'.heap L → Go p e below G T' { g with pc := g.pc + 3, stack := v.toList ++ rest }) : Go p e below G T g := by
  obtain ⟨cq, kq, qa, qb, qc⟩ := isOf hZ eT E
  obtain ⟨v, vm₁, ⟨T1, L1, k1, n1⟩, -, X1, ⟨L, hQ, h1, h2, h3⟩, st⟩ := X.virtualBack hx hown hlink hdecl hnf hsel hinst hy hK qa qc hg hsize (Steps.refl _) hlen hstack hW hdg (fun _ _ => ⟨has, eT, hc, hs⟩)
  dsimp only [Pt.U, Pt.locs, Pt.cells, Pt.slots] at X1 h1 h2 h3 st hQ
  subst h1 h2 h3
  exact Go.tr st (k v T1 L X1 hQ)
/-! arrays of ints, chars, bytes: their contents as a list -/
def AI (Z : State) (h : Heap) (a : Addr) (ty : FieldType) (xs : List Int32) : Prop := xs.length < 2147483648 ∧ ∃ k, Arv Z h a k ty (Int32.ofNat xs.length) (xs.map Value.int) (.int 0)
theorem AI.lt {a : Addr} {ty : FieldType} {xs : List Int32} (F : AI Z h a ty xs) : a < h.size := by obtain ⟨-, k, F⟩ := F; exact F.lt
theorem AI.ext {a : Addr} {ty : FieldType} {xs : List Int32} (F : AI Z h a ty xs) (E : Ext h h') : AI Z h' a ty xs := by obtain ⟨q, k, F⟩ := F; exact ⟨q, k, F.ext E⟩
theorem AI.other {a b : Addr} {ty : FieldType} {xs : List Int32} {sl : Nat} {v : Value} (F : AI Z h b ty xs) (W : Wr h h' a sl v) (q : b ≠ a) : AI Z h' b ty xs := by obtain ⟨q0, k, F⟩ := F; exact ⟨q0, k, F.other W q⟩
theorem AI.keep {a : Addr} {ty : FieldType} {xs : List Int32} {ws : List Addr} (F : AI Z h a ty xs) (K : Keep h h' ws) (q : a ∉ ws) : AI Z h' a ty xs := by obtain ⟨q0, k, F⟩ := F; exact ⟨q0, k, F.keep K q⟩
theorem own_ofNat_nn {n : Nat} (hn : n < 2147483648) : ¬ Int32.ofNat n < 0 := by
  have q : (Int32.ofNat n).toInt = n := Int32.toInt_ofNat_small hn
  simp only [Int32.lt_iff_toInt_lt, q, Int32.reduceToInt]; omega
theorem own_ofNat_clamp {n : Nat} (hn : n < 2147483648) : (Int32.ofNat n).toNatClampNeg = n := by
  have q : (Int32.ofNat n).toInt = n := Int32.toInt_ofNat_small hn
  simp only [Int32.toNatClampNeg, q]; omega
theorem own_ofNat_lt {i n : Nat} (hi : i < n) (hn : n < 2147483648) : Int32.ofNat i < Int32.ofNat n := by
  have q : (Int32.ofNat n).toInt = n := Int32.toInt_ofNat_small hn
  have q' : (Int32.ofNat i).toInt = i := Int32.toInt_ofNat_small (by omega)
  simp only [Int32.lt_iff_toInt_lt, q, q']; omega
theorem AI.new {a : Addr} {ty : FieldType} {k : ClassId} {n : Nat} (hn : n < 2147483648) (hd : defaultValue ty = .int 0) (A : Arr Z h a (newA k ty (Int32.ofNat n)) ty) : AI Z h a ty (List.replicate n 0) := by
  have V := Arv.new A (own_ofNat_nn hn)
  rw [hd] at V
  refine ⟨by simpa using hn, k, ?_⟩
  have e : (Int32.ofNat (List.replicate n (0 : Int32)).length) = Int32.ofNat n := by simp
  rw [e, List.map_replicate]
  have := V.pad (pad_rep [] (.int (0 : Int32)) n)
  simpa using this
theorem AI.set {a : Addr} {ty : FieldType} {xs : List Int32} {x : Int32} {i : Nat} (F : AI Z h a ty xs) (hi : i < xs.length) (hf : fits ty (.int x) = true) (W : Wr h h' a i (.int x)) : AI Z h' a ty (xs.set i x) := by
  obtain ⟨q0, k, cl, A, q, S, M, H, U⟩ := F
  refine ⟨by simpa using q0, k, ?_⟩
  have e := own_ofNat_clamp (n := i) (by omega)
  rw [List.length_set, List.map_set]
  exact Arv.set A q S M H U hf (j := Int32.ofNat i) (by rw [e]; exact W) i e (by simpa using hi)
theorem AI.at {a : Addr} {ty : FieldType} {xs : List Int32} (F : AI Z h a ty xs) : ∃ cl : Cell, Arr Z h a cl ty ∧ cl.slots.size = xs.length ∧ ∀ i (hi : i < xs.length), cl.slots[i]? = some (.int xs[i]) := by
  obtain ⟨q0, k, cl, A, q, S, M, H, U⟩ := F
  rw [own_ofNat_clamp q0] at S
  refine ⟨cl, A, S, fun i hi => ?_⟩
  have := H i (by omega)
  rw [this, List.getD_eq_getElem?_getD, List.getElem?_map, List.getElem?_eq_getElem hi]
  rfl
theorem own_inb {n i : Nat} (hi : i < n) (hn : n < 2147483648) : ¬ (Int32.ofNat i < 0 ∨ n ≤ (Int32.ofNat i).toNatClampNeg) := by
  rw [own_ofNat_clamp (by omega)]
  intro q
  rcases q with q | q
  · exact own_ofNat_nn (by omega) q
  · omega
theorem Go.caload (X : Stand p l e R s m args below meth c T locs cells slots) (hx : p.tables.exec = Jvm.exec) (hZ : Z.Warmed39 s.vm) (eT : T.heap = h) {a : Addr} {xs : List Int32} (A : AI Z h a .char xs) {j x : Int32} {i : Nat} (hj : j = Int32.ofNat i) (hv : xs[i]? = some x)
    {g : JFrame} (hg : g.method = m) {rest : List Value} (hs : g.stack = .int j :: .ref a :: rest) (hd : decode c.code g.pc = .ok (.caload, 1)) (k : Go p e below G T { g with pc := g.pc + 1, stack := .int x :: rest }) : Go p e below G T g := by
  subst hj
  obtain ⟨cl, Ar, S, H⟩ := A.at
  obtain ⟨hi, rfl⟩ := List.getElem?_eq_some_iff.mp hv
  have q0 := A.1
  refine Go.st (fun t r => X.caload hx (cell := cl) (j := Int32.ofNat i) (v := .int xs[i]) (by rw [eT]; exact Ar.1) (State.isArrayOf_alike hZ.alike Ar.2.1) Ar.2.2 (by rw [S]; exact own_inb hi q0) (by rw [own_ofNat_clamp (by omega)]; exact H i hi) hg hs hd t r) k
theorem Go.baload (X : Stand p l e R s m args below meth c T locs cells slots) (hx : p.tables.exec = Jvm.exec) (hZ : Z.Warmed39 s.vm) (eT : T.heap = h) {a : Addr} {xs : List Int32} (A : AI Z h a .byte xs) {j x : Int32} {i : Nat} (hj : j = Int32.ofNat i) (hv : xs[i]? = some x)
    {g : JFrame} (hg : g.method = m) {rest : List Value} (hs : g.stack = .int j :: .ref a :: rest) (hd : decode c.code g.pc = .ok (.baload, 1)) (k : Go p e below G T { g with pc := g.pc + 1, stack := .int x :: rest }) : Go p e below G T g := by
  subst hj
  obtain ⟨cl, Ar, S, H⟩ := A.at
  obtain ⟨hi, rfl⟩ := List.getElem?_eq_some_iff.mp hv
  have q0 := A.1
  refine Go.st (fun t r => X.baloadBytes hx (cell := cl) (j := Int32.ofNat i) (v := .int xs[i]) (by rw [eT]; exact Ar.1) (State.isArrayOf_alike hZ.alike Ar.2.1) Ar.2.2 (by rw [S]; exact own_inb hi q0) (by rw [own_ofNat_clamp (by omega)]; exact H i hi) hg hs hd t r) k
theorem Go.iaload (X : Stand p l e R s m args below meth c T locs cells slots) (hx : p.tables.exec = Jvm.exec) (hZ : Z.Warmed39 s.vm) (eT : T.heap = h) {a : Addr} {xs : List Int32} (A : AI Z h a .int xs) {j x : Int32} {i : Nat} (hj : j = Int32.ofNat i) (hv : xs[i]? = some x)
    {g : JFrame} (hg : g.method = m) {rest : List Value} (hs : g.stack = .int j :: .ref a :: rest) (hd : decode c.code g.pc = .ok (.iaload, 1)) (k : Go p e below G T { g with pc := g.pc + 1, stack := .int x :: rest }) : Go p e below G T g := by
  subst hj
  obtain ⟨cl, Ar, S, H⟩ := A.at
  obtain ⟨hi, rfl⟩ := List.getElem?_eq_some_iff.mp hv
  have q0 := A.1
  refine Go.st (fun t r => X.iaload hx (cell := cl) (j := Int32.ofNat i) (v := .int xs[i]) (by rw [eT]; exact Ar.1) (State.isArrayOf_alike hZ.alike Ar.2.1) Ar.2.2 (by rw [S]; exact own_inb hi q0) (by rw [own_ofNat_clamp (by omega)]; exact H i hi) hg hs hd t r) k
theorem Go.alen (X : Stand p l e R s m args below meth c T locs cells slots) (hx : p.tables.exec = Jvm.exec) (hZ : Z.Warmed39 s.vm) (eT : T.heap = h) {a : Addr} {ty : FieldType} {xs : List Int32} (A : AI Z h a ty xs)
    {g : JFrame} (hg : g.method = m) {rest : List Value} (hs : g.stack = .ref a :: rest) (hd : decode c.code g.pc = .ok (.arraylength, 1)) (k : Go p e below G T { g with pc := g.pc + 1, stack := .int (Int32.ofNat xs.length) :: rest }) : Go p e below G T g := by
  obtain ⟨cl, Ar, S, H⟩ := A.at
  refine Go.st (fun t r => X.arraylength hx (cell := cl) (by rw [eT]; exact Ar.1) (State.isArrayOf_alike hZ.alike Ar.2.1) hg hs hd t (by rw [S]; exact r)) k
theorem Go.castore (X : Stand p l e R s m args below meth c T locs cells slots) (hx : p.tables.exec = Jvm.exec) (hZ : Z.Warmed39 s.vm) (eT : T.heap = h) {a : Addr} {xs : List Int32} (A : AI Z h a .char xs) {j x : Int32} {i : Nat} (hj : j = Int32.ofNat i) (hi : i < xs.length)
    {g : JFrame} (hg : g.method = m) {rest : List Value} (hs : g.stack = .int x :: .int j :: .ref a :: rest) (hd : decode c.code g.pc = .ok (.castore, 1))
    (k : ∀ T' h', Stand p l e R s m args below meth c T' (locs ++ [⟨a, i⟩]) cells slots → T'.heap = h' → Wr h h' a i (.int (nar .char x)) → AI Z h' a .char (xs.set i (nar .char x)) → Go p e below G T' { g with pc := g.pc + 1, stack := rest }) : Go p e below G T g := by
  subst hj
  obtain ⟨cl, Ar, S, H⟩ := A.at
  have q0 := A.1
  obtain ⟨T', h', X', e', W, st⟩ := stC X hx hZ eT Ar (j := Int32.ofNat i) (by rw [S]; exact own_inb hi q0) hg hs hd
  rw [own_ofNat_clamp (by omega)] at X' W
  exact Go.st st (k T' h' X' e' W (A.set hi (fits_nar_char _) W))
theorem Go.bastore (X : Stand p l e R s m args below meth c T locs cells slots) (hx : p.tables.exec = Jvm.exec) (hZ : Z.Warmed39 s.vm) (eT : T.heap = h) {a : Addr} {xs : List Int32} (A : AI Z h a .byte xs) {j x : Int32} {i : Nat} (hj : j = Int32.ofNat i) (hi : i < xs.length)
    {g : JFrame} (hg : g.method = m) {rest : List Value} (hs : g.stack = .int x :: .int j :: .ref a :: rest) (hd : decode c.code g.pc = .ok (.bastore, 1))
    (k : ∀ T' h', Stand p l e R s m args below meth c T' (locs ++ [⟨a, i⟩]) cells slots → T'.heap = h' → Wr h h' a i (.int (nar .byte x)) → AI Z h' a .byte (xs.set i (nar .byte x)) → Go p e below G T' { g with pc := g.pc + 1, stack := rest }) : Go p e below G T g := by
  subst hj
  obtain ⟨cl, Ar, S, H⟩ := A.at
  have q0 := A.1
  obtain ⟨T', h', X', e', W, st⟩ := stB X hx hZ eT Ar (j := Int32.ofNat i) (by rw [S]; exact own_inb hi q0) hg hs hd
  rw [own_ofNat_clamp (by omega)] at X' W
  exact Go.st st (k T' h' X' e' W (A.set hi (Jvm.Free.SBG.fits_of_int8 _) W))
theorem Go.iastore (X : Stand p l e R s m args below meth c T locs cells slots) (hx : p.tables.exec = Jvm.exec) (hZ : Z.Warmed39 s.vm) (eT : T.heap = h) {a : Addr} {xs : List Int32} (A : AI Z h a .int xs) {j x : Int32} {i : Nat} (hj : j = Int32.ofNat i) (hi : i < xs.length)
    {g : JFrame} (hg : g.method = m) {rest : List Value} (hs : g.stack = .int x :: .int j :: .ref a :: rest) (hd : decode c.code g.pc = .ok (.iastore, 1))
    (k : ∀ T' h', Stand p l e R s m args below meth c T' (locs ++ [⟨a, i⟩]) cells slots → T'.heap = h' → Wr h h' a i (.int x) → AI Z h' a .int (xs.set i x) → Go p e below G T' { g with pc := g.pc + 1, stack := rest }) : Go p e below G T g := by
  subst hj
  obtain ⟨cl, Ar, S, H⟩ := A.at
  have q0 := A.1
  obtain ⟨T', h', X', e', W, st⟩ := stI X hx hZ eT Ar (j := Int32.ofNat i) (by rw [S]; exact own_inb hi q0) hg hs hd
  rw [own_ofNat_clamp (by omega)] at X' W
  exact Go.st st (k T' h' X' e' W (A.set hi rfl W))
theorem Go.newarr (X : Stand p l e R s m args below meth c T locs cells slots) (hx : p.tables.exec = Jvm.exec) (hZ : Z.Warmed39 s.vm) {aty : ArrayType} {ty : FieldType} (hty : newarray.typeOf aty = ty) (hdv : defaultValue ty = .int 0) (w : (Jvm.Cond.arrayClass ty).before a0 Z = true) (eT : T.heap = h)
    {g : JFrame} (hg : g.method = m) (hd : decode c.code g.pc = .ok (.newarray aty, 2)) {j : Int32} {n : Nat} {rest : List Value} (hs : g.stack = .int j :: rest) (hj : j = Int32.ofNat n) (hn : n * 8 ≤ 536870912) (hc : cells + 1 ≤ R.cells) (hl : slots + n ≤ R.slots)
    (k : ∀ T' h', Stand p l e R s m args below meth c T' locs (cells + 1) (slots + n) → T'.heap = h' → Ext h h' → h.size < h'.size → AI Z h' h.size ty (List.replicate n 0) → Go p e below G T' { g with pc := g.pc + 2, stack := .ref h.size :: rest }) : Go p e below G T g := by
  subst hj
  subst hty
  obtain ⟨T', h', cA, X', e', E, A, st⟩ := newP X hx hZ w eT hg hd hs (own_ofNat_nn (by omega)) (cap := n) (by rw [own_ofNat_clamp (by omega)]; exact Nat.le_refl _) hn hc hl
  exact Go.st st (k T' h' X' e' E A.lt (AI.new (by omega) hdv A))
theorem Go.retV (X : Stand p l e R s m args below meth c T locs cells slots) (hx : p.tables.exec = Jvm.exec) {pc : Nat} {Ls : Array Slot} {Q : Option Value → Heap → List Loc → Prop} {kc ks : Nat} {rest : List Value} {w : Value} {t : FieldType} (hret : meth.sig.returnType = some t) (hlk : meth.locks = false) (ht : t.isReference = true) (hw : w.isRef = true)
    (hd : decode c.code pc = .ok (.areturn, 1)) (hQ : Q (some w) T.heap locs) (hc : cells ≤ kc) (hs : slots ≤ ks) : Go p e below (EndQ s Q kc ks) T (mkF m pc Ls (w :: rest)) :=
  Go.done X (fun q => by rw [hret] at q; cases q) hlk (fun fs hr => retOut X hx hret (by rcases ref_cases hw with rfl | ⟨z, rfl⟩ <;> cases t <;> first | rfl | cases ht) (Or.inr (Or.inr (Or.inr (Or.inr ⟨rfl, ht, hw⟩)))) hd hr) hQ hc hs
theorem Go.retI (X : Stand p l e R s m args below meth c T locs cells slots) (hx : p.tables.exec = Jvm.exec) {pc : Nat} {Ls : Array Slot} {Q : Option Value → Heap → List Loc → Prop} {kc ks : Nat} {rest : List Value} {z : Int32} (hret : meth.sig.returnType = some .int) (hlk : meth.locks = false)
    (hd : decode c.code pc = .ok (.ireturn, 1)) (hQ : Q (some (.int z)) T.heap locs) (hc : cells ≤ kc) (hs : slots ≤ ks) : Go p e below (EndQ s Q kc ks) T (mkF m pc Ls (.int z :: rest)) :=
  Go.done X (fun q => by rw [hret] at q; cases q) hlk (fun fs hr => retOut X hx hret rfl (Or.inl ⟨rfl, Or.inl rfl, z, rfl⟩) hd hr) hQ hc hs
theorem Go.retJ (X : Stand p l e R s m args below meth c T locs cells slots) (hx : p.tables.exec = Jvm.exec) {pc : Nat} {Ls : Array Slot} {Q : Option Value → Heap → List Loc → Prop} {kc ks : Nat} {rest : List Value} {z : Int64} (hret : meth.sig.returnType = some .long) (hlk : meth.locks = false)
    (hd : decode c.code pc = .ok (.lreturn, 1)) (hQ : Q (some (.long z)) T.heap locs) (hc : cells ≤ kc) (hs : slots ≤ ks) : Go p e below (EndQ s Q kc ks) T (mkF m pc Ls (.long z :: rest)) :=
  Go.done X (fun q => by rw [hret] at q; cases q) hlk (fun fs hr => retOut X hx hret rfl (Or.inr (Or.inl ⟨rfl, rfl, z, rfl⟩)) hd hr) hQ hc hs
theorem Go.retB (X : Stand p l e R s m args below meth c T locs cells slots) (hx : p.tables.exec = Jvm.exec) {pc : Nat} {Ls : Array Slot} {Q : Option Value → Heap → List Loc → Prop} {kc ks : Nat} {rest : List Value} {z : Int32} {t : FieldType} (hret : meth.sig.returnType = some t) (hlk : meth.locks = false) (ht : t = .boolean ∨ t = .byte ∨ t = .char ∨ t = .short)
    (hd : decode c.code pc = .ok (.ireturn, 1)) (hQ : Q (some (.int (nar t z))) T.heap locs) (hc : cells ≤ kc) (hs : slots ≤ ks) : Go p e below (EndQ s Q kc ks) T (mkF m pc Ls (.int z :: rest)) :=
  Go.done X (fun q => by rw [hret] at q; cases q) hlk (fun fs hr => retN X hx hret ht hd hr) hQ hc hs
theorem Go.ret0 (X : Stand p l e R s m args below meth c T locs cells slots) (hx : p.tables.exec = Jvm.exec) {pc : Nat} {Ls : Array Slot} {Q : Option Value → Heap → List Loc → Prop} {kc ks : Nat} (hret : meth.sig.returnType = none) (hlk : meth.locks = false)
    (hd : decode c.code pc = .ok (.return_, 1)) (hQ : Q none T.heap locs) (hc : cells ≤ kc) (hs : slots ≤ ks) : Go p e below (EndQ s Q kc ks) T (mkF m pc Ls []) :=
  Go.done X (fun _ => rfl) hlk (fun fs hr => X.returnOut hx hret hd hr) hQ hc hs
theorem own_storeR {L : Array Slot} {i : Nat} {v : Value} {o : Slot} {L' : Array Slot} (hv : v.isRef = true) (hold : L[i]? = some o) (ho : One o) (e : L.setIfInBounds i (.val v) = L' := by rfl) : storeLocals L i v = some L' := by
  rw [← e]; exact XS.store1 hold ho (XT.cat1 hv)
theorem own_narrowR {v : Value} {C : String} (hv : v.isRef = true) : narrow (.object C) v = v := by rcases ref_cases hv with rfl | ⟨_, rfl⟩ <;> rfl
theorem own_fitsR {v : Value} {C : String} (hv : v.isRef = true) : fits (.object C) v = true := by rcases ref_cases hv with rfl | ⟨_, rfl⟩ <;> rfl
end GoKit
section GoWide
open Jvm.Free.SB Jvm.Free.SBG
variable {p : Program} {l : Launch} {e : Env} {R : Room} {s s0 : State} {m : MethodId} {args : Array Value} {below : List Frame} {meth : Method} {c : Code} {T T' : State} {locs : List Loc} {cells slots : Nat} {Z : State} {a0 : Array Value} {h h' : Heap} {G : Outcome → State → Prop} {g g' : JFrame} {W : State} {cs : List (String × Nat)} {N N' : Nat → Prop}
/-- the cells of N stand as they stood -/
def Und (N : Nat → Prop) (h h' : Heap) : Prop := h.size ≤ h'.size ∧ ∀ (b : Addr) (c : Cell), N b → h[b]? = some c → h'[b]? = some c
theorem Und.refl (N : Nat → Prop) (h : Heap) : Und N h h := ⟨Nat.le_refl _, fun _ _ _ q => q⟩
theorem Und.ext (U : Und N h h') {h'' : Heap} (E : Ext h' h'') : Und N h h'' := ⟨Nat.le_trans U.1 E.1, fun b c q r => E.2 b c (U.2 b c q r)⟩
theorem Und.keep (U : Und N h h') {h'' : Heap} {ws : List Addr} (K : Keep h' h'' ws) (q : ∀ x ∈ ws, ¬ N x) : Und N h h'' := ⟨Nat.le_trans U.1 K.1, fun b c r y => K.2.1 b c (U.2 b c r y) fun z => absurd r (q b z)⟩
theorem Und.wr (U : Und N h h') {h'' : Heap} {a : Addr} {sl : Nat} {v : Value} (W : Wr h' h'' a sl v) (q : ¬ N a) : Und N h h'' := U.keep (Keep.of_wr W) (allS q all0)
/-- the String at a: an ordinary compact one of these units, both her cells of N -/
def SlN (N : Nat → Prop) (W : State) (a : Addr) (units : Array UInt16) : Prop :=
  ∃ (q : SQ) (cS : ClassId), q.sa = a ∧ Sl q cS W ∧ (∃ kS : Class, W.vm.classes[cS]? = some kS ∧ kS.kind = .ordinary ∧ q.sC.slots.size = kS.instanceTypes.size) ∧ W.vm.findClass "[B" = some q.SA.cls ∧ q.SA.slots = stringBytes units ∧ N q.sa ∧ N q.sd
theorem SlN.of {a : Addr} {u : Array UInt16} (h : SlN N W a u) : SlOf W a u := by
  obtain ⟨q, cS, h1, h2, h3, h4, h5, -⟩ := h; exact ⟨q, cS, h1, h2, h3, h4, h5⟩
theorem SlN.start {a : Addr} {u : Array UInt16} (h : SlOf W a u) : SlN (fun b => b < W.heap.size) W a u := by
  obtain ⟨q, cS, h1, h2, h3, h4, h5⟩ := h
  exact ⟨q, cS, h1, h2, h3, h4, h5, (Array.getElem?_eq_some_iff.mp h2.1.1).1, (Array.getElem?_eq_some_iff.mp h2.1.2.2.2.2.2.2.2.2.2.1).1⟩
theorem SlN.of_in {a : Addr} {u : Array UInt16} {lo hi : Nat} (h : SlIn lo hi W a u) : SlOf W a u := by
  obtain ⟨q, cS, h1, h2, h3, h4, h5, -⟩ := h; exact ⟨q, cS, h1, h2, h3, h4, h5⟩
theorem SlN.mv {a : Addr} {u : Array UInt16} {V : State} (h : SlN N W a u) (hal : W.vm.Alike V.vm) (hk : ∀ (b : Addr) (c : Cell), N b → W.heap[b]? = some c → V.heap[b]? = some c) : SlN N V a u := by
  obtain ⟨q, cS, h1, h2, ⟨kS, k1, k2, k3⟩, h4, h5, h6, h7⟩ := h
  obtain ⟨kS', hk', ek⟩ := hal.2.2 _ _ k1
  exact ⟨q, cS, h1, h2.carry hal (hk _ _ h6 h2.1.1) (hk _ _ h7 h2.1.2.2.2.2.2.2.2.2.2.1), ⟨kS', hk', by rw [ek]; exact k2, by rw [ek]; exact k3⟩, by rw [hal.findClass]; exact h4, h5, h6, h7⟩
theorem SlN.up {a : Addr} {u : Array UInt16} (h : SlN N W a u) (q : ∀ b, N b → N' b) : SlN N' W a u := by
  obtain ⟨q', cS, h1, h2, h3, h4, h5, h6, h7⟩ := h; exact ⟨q', cS, h1, h2, h3, h4, h5, q _ h6, q _ h7⟩
/-- every constant of the list which the tables hold already is such a String, under N -/
def CHn (cs : List (String × Nat)) (N : Nat → Prop) (U : State) : Prop := ∀ x ∈ cs, ∀ (c : ClassId) (k : Class) (cf : ClassFile) (i : Nat) (units : Array UInt16) (a : Addr), U.vm.findClass x.1 = some c → U.vm.classes[c]? = some k → k.cf = some cf →
    cf.constantPool[x.2]? = some (.string i) → cf.constantPool[i]? = some (.utf8 units) →
    (k.resolved[x.2]? = some (some (.string a)) ∨ (k.resolved[x.2]? = some none ∧ U.vm.interned.find? (fun p => p.1 == units) = some (units, a))) → SlN N U a units
theorem CHn.held (H : CHn cs N W) {own : String} {i : Nat} (hm : (own, i) ∈ cs) : ConstHeldL W own i := fun c k cf i units a h1 h2 h3 h4 h5 h6 => (H _ hm c k cf i units a h1 h2 h3 h4 h5 h6).of
theorem CHn.start (H : ∀ x ∈ cs, ConstHeldL W x.1 x.2) : CHn cs (fun b => b < W.heap.size) W := fun x hx c k cf i units a h1 h2 h3 h4 h5 h6 => SlN.start (H x hx c k cf i units a h1 h2 h3 h4 h5 h6)
theorem CHn.up (H : CHn cs N W) (q : ∀ b, N b → N' b) : CHn cs N' W := fun x hx c k cf i units a h1 h2 h3 h4 h5 h6 => (H x hx c k cf i units a h1 h2 h3 h4 h5 h6).up q
theorem CHn.lt (H : CHn cs N W) : CHn cs (fun b => b < W.heap.size) W := fun x hx c k cf i units a h1 h2 h3 h4 h5 h6 => SlN.start (H x hx c k cf i units a h1 h2 h3 h4 h5 h6).of
theorem own_right_string {U : State} {d : ClassId} {i : Nat} {a : Addr} : U.rightAt d i (.string a) = false := by
  unfold State.rightAt; split <;> simp_all
theorem CHn.mv {V : State} (H : CHn cs N W) (hW : W.WarmedH V.vm) (hk : ∀ (b : Addr) (c : Cell), N b → W.heap[b]? = some c → V.heap[b]? = some c) : CHn cs N V := by
  intro x hx c k' cf i units a h1 h2 h3 h4 h5 h6
  have hal := hW.alike
  have h1' : W.vm.findClass x.1 = some c := by rw [← hal.findClass]; exact h1
  obtain ⟨k, hkc, -⟩ := Vm.findClass_spec h1'
  obtain ⟨k2, g1, g2, -, g4, -⟩ := hW.2.2 c k hkc
  cases h2.symm.trans g1
  have h3' : k.cf = some cf := by rw [g2] at h3; exact h3
  refine (H x hx c k cf i units a h1' hkc h3' h4 h5 ?_).mv hal hk
  rcases h6 with h6 | ⟨h6, h7⟩
  · rcases g4 x.2 with q | ⟨q, r, q2, q3⟩
    · exact Or.inl (q ▸ h6)
    · rw [h6] at q2
      cases q2
      rw [own_right_string] at q3; cases q3
  · refine Or.inr ⟨?_, ?_⟩
    · rcases g4 x.2 with q | ⟨q, r, q2, q3⟩
      · exact q ▸ h6
      · exact q
    · rw [← hW.interned_eq]; exact h7
/-- a wide end -/
def EndW (cs : List (String × Nat)) (s : State) (Q : Option Value → Heap → List Loc → Prop) (kc ks : Nat) (o : Outcome) (t : State) : Prop := ∃ v L, o = .returned v ∧ Q v t.heap L ∧ CHn cs (fun b => b < t.heap.size) t ∧ ReturnedEndW s o t L kc ks
def WCtr (cs : List (String × Nat)) (N : Nat → Prop) (l : Launch) (Z : State) (y : MethodName) (bytes : ByteArray) (maxL : Nat) (ret : Option FieldType) (ws : List Jvm.Cond) (rm : Room) (as' : Array Value) (h0 : Heap) (Q : Option Value → Heap → List Loc → Prop) : Prop :=
  MetFree l y (head1 (Jvm.Cond.code y bytes maxL ret :: ws) rm) (fun a U => a = as' ∧ Z.Warmed39 U.vm ∧ U.heap = h0 ∧ CHn cs N U) (fun _ _ _ _ _ => True) (fun _ U o U' => EndW cs U Q rm.cells rm.slots o U')
/-- where the walk stands: its base is the true start s0 with other tables -/
def Bas (s0 s : State) (n : Nat) : Prop := s = s0.setVm s.vm ∧ s0.Since s.vm n
theorem Bas.refl (s : State) (n : Nat) : Bas s s n := ⟨rfl, (State.WarmedH.refl s).since n⟩
/-- the constants held, said of the base's tables and a heap -/
def CHb (cs : List (String × Nat)) (N : Nat → Prop) (s : State) (h : Heap) : Prop := CHn cs N ({ s with heap := h } : State)
theorem CHb.to (H : CHb cs N s h) (X : Stand p l e R s m args below meth c T locs cells slots) (U : Und N h T.heap) : CHn cs N T := CHn.mv H (show ({ s with heap := h } : State).WarmedH T.vm from X.warmed) U.2
theorem WCtr.of {y : MethodName} {bytes : ByteArray} {maxL : Nat} {ret : Option FieldType} {ws : List Jvm.Cond} {rm : Room} {as' : Array Value} {h0 : Heap} {Q : Option Value → Heap → List Loc → Prop} (hpf : plainFor y = true)
    (body : ∀ p e s m below meth c s₁, p.tables.exec = Jvm.exec → c.code = bytes → c.maxLocals = maxL → s.vm.findClass y.cls = some m.cls → meth.name = y.name → meth.sig.returnType = ret → meth.locks = false → Z.Warmed39 s.vm →
      Stand p l e rm s m as' below meth c s₁ [] 0 0 → s₁.heap = h0 → CHb cs N s h0 → Go p e below (EndW cs s Q rm.cells rm.slots) s₁ (entryFrame m as' maxL)) : WCtr cs N l Z y bytes maxL ret ws rm as' h0 Q := by
  refine MetFree.of_bodySF hpf hisR ?_
  intro p e s m args below meth c s₁ Bd hml0 hP hK
  obtain ⟨rfl, hZ, hh, hC⟩ := hP
  exact body p e s m below meth c s₁ Bd.exec Bd.bytes hml0 (findClass_of_methodNamed Bd.named) (name_of_methodNamed Bd.named Bd.method).1 Bd.returns Bd.notSynchronized hZ (Stand.of_body Bd) (by rw [← hh, Bd.state]; rfl) (by subst hh; exact hC)
theorem Go.doneW (X : Stand p l e R s m args below meth c T locs cells slots) {n : Nat} (hB : Bas s0 s n) (hn : n ≤ T.heap.size) (hC : CHn cs N T) {Q : Option Value → Heap → List Loc → Prop} {kc ks : Nat} {v : Option Value} (hv : meth.sig.returnType = none → v = none) (hlk : meth.locks = false)
    (fin : ∀ fs, (∀ (f : JFrame) (acts : List Action), f.method = m → f.locked = none → f.entered = [] → (doReturn e (T.setTop f) acts v).1 = T.setFrames fs) → Steps p.tables e below (T.setTop g) (T.setFrames fs))
    (hQ : Q v T.heap locs) (hc : cells ≤ kc) (hs : slots ≤ ks) : Go p e below (EndW cs s0 Q kc ks) T g := by
  obtain ⟨e1, hS⟩ := hB
  have X' : Stand p l e R (s0.setVm s.vm) m args below meth c T locs cells slots := e1 ▸ X
  obtain ⟨fs, hr, hrun, hended, r1, r2, r3, r4⟩ := X'.leaveW hS hn hv hlk
  exact ⟨_, _, fin fs hr, hrun, hended, v, locs, rfl, hQ, CHn.lt hC, r1, r2, r3, r4.mono hc hs⟩
theorem own_backW {y : MethodName} {bytes : ByteArray} {maxL Wt len : Nat} {ret : Option FieldType} {rm : Room} {as' : Array Value} {Q : Option Value → Heap → List Loc → Prop} (hM : WCtr cs N l Z y bytes maxL ret [] rm as' h Q)
    (X : Stand p l e R s m args below meth c T locs cells slots) (hZ : Z.Warmed39 s.vm) (wc : (Jvm.Cond.code y bytes maxL ret).before a0 Z = true) (wz : (Jvm.Cond.initialized y.cls).before a0 Z = true) (hf : rm.frames + 1 ≤ R.frames) (hl : Wt + (maxL + 11) + rm.locals ≤ R.locals)
    (hg : g.method = m) (hsize : g.locals.size = c.maxLocals) {ig : Instr} (hdg : decode c.code g.pc = .ok (ig, len)) (hW : 2 * g.monitorRoom + (g.stack.map fun v => v.category).sum ≤ Wt) {mk : MethodId} (hnm : T.methodNamed? y = some mk) (eT : T.heap = h) (hC : CHn cs N T)
    (hc : cells + rm.cells ≤ R.cells) (hs : slots + rm.slots ≤ R.slots) :
    ∃ (v : Option Value) (T' : State) (L : List Loc), Stand p l e R (s.setVm T'.vm) m args below meth c T' (locs ++ L) (cells + rm.cells) (slots + rm.slots) ∧ s.Since T'.vm T'.heap.size ∧ T.heap.size ≤ T'.heap.size ∧ Q v T'.heap L ∧ CHn cs (fun b => b < T'.heap.size) T' ∧
      Steps p.tables e below (doInvoke e (T.setTop g) [] mk as').1 (T'.setTop { g with pc := g.pc + len, stack := v.toList ++ g.stack }) := by
  have hU : Z.Warmed39 T.vm := wtrans hZ X.warmed
  have h2 : (Jvm.Cond.code y bytes maxL ret).before as' T = true := mvT hU wc
  have h3 : (Jvm.Cond.initialized y.cls).before as' T = true := mvT hU wz
  obtain ⟨methY, cY, hmY, hcY, -, hlY, -, -, -, -⟩ := Cond.code_spec hnm h2
  obtain ⟨kY, hkY, -⟩ := className_of_methodNamed hnm
  have hinitY : kY.init = .initialized := Cond.initialized_spec (findClass_of_methodNamed hnm) hkY h3
  have hh : At T g.method c below := by rw [hg]; exact X.here
  have h1 : (head1 [Jvm.Cond.code y bytes maxL ret] rm).pre.before as' T = true := by
    show (Cond.and _ .tt).before as' T = true
    rw [Cond.before_and, h2]; rfl
  have happ : (head1 [Jvm.Cond.code y bytes maxL ret] rm).appliesLoose y e.platform (T.calling g mk as') = true :=
    Spec.appliesLoose_calling (g := g) hh hdg hnm hkY hinitY (X.room_calling (g := g) (R' := rm) hsize hmY hcY hf (by rw [hlY]; omega) hc hs) h1
  obtain ⟨mid, hmid⟩ := hh.above
  have hfr : (T.setTop g).frames = (.java g :: mid) ++ below := by rw [State.frames_setTop' g hh.top, hmid]; rfl
  have hcv : (T.calling g mk as').vm = T.vm := by rw [State.calling_eq hh.top]; rfl
  have hch' : (T.calling g mk as').heap = T.heap := by rw [State.calling_eq hh.top]; rfl
  have hP1 : Z.Warmed39 (T.calling g mk as').vm := by rw [hcv]; exact hU
  have hP2 : (T.calling g mk as').heap = h := by rw [hch']; exact eT
  have hP3 : CHn cs N (T.calling g mk as') := CHn.mv hC (by rw [hcv]; exact State.WarmedH.refl T) (fun b c _ q => by rw [hch']; exact q)
  obtain ⟨o, s₂, hsteps, -, hend, hq⟩ := Steps.callFree hM p X.admits X.cas X.clock (acts := []) hfr happ ⟨rfl, hP1, hP2, hP3⟩ trivial
  have hq' : EndW cs (T.calling g mk as') Q rm.cells rm.slots o s₂ := hq
  obtain ⟨v, L, rfl, hQ, hCH, -, hW2, hB2, e2, q2, q3, q4, q5, q6⟩ := hq'
  rw [State.frames_setTop' g hh.top] at hend
  have hW' : T.Warmed39 s₂.vm := State.Warmed39.of_rootvm hcv.symm hW2
  have hB' : T.Booked s₂.vm s₂.heap.size := fun j q hj hq => by
    have := hB2 j q (by rw [hcv]; exact hj) hq
    rw [hch'] at this
    exact this
  obtain ⟨c₂, i₂, len₂, hc₂, hd₂, hf₂⟩ := hend
  have hcc : c₂ = c := by
    have h1 : s₂.code? g.method = T.code? g.method := by rw [State.code?_eq, State.code?_eq, hW'.alike.method?]
    exact Option.some.inj (hc₂.symm.trans (h1.trans hh.code))
  subst hcc
  have hlen : len₂ = len := by rw [hdg] at hd₂; cases hd₂; rfl
  subst hlen
  obtain ⟨g₀, hg0⟩ := Option.isSome_iff_exists.mp hh.top
  obtain ⟨r, hr⟩ := State.topJava?_eq_some.mp hg0
  have e3 : s₂ = ({ (T.calling g mk as').setFrames s₂.frames with heap := s₂.heap, slotsUsed := s₂.slotsUsed } : State).setVm s₂.vm := by
    have : s₂ = ({ s₂ with vm := (T.calling g mk as').vm } : State).setVm s₂.vm := rfl
    rw [e2] at this
    exact this
  have hs₂ : s₂ = (({ T with heap := s₂.heap, slotsUsed := s₂.slotsUsed } : State).setVm s₂.vm).setTop { g with pc := g.pc + len₂, stack := v.toList ++ g.stack } := by
    have hr' : (({ T with heap := s₂.heap, slotsUsed := s₂.slotsUsed } : State).setVm s₂.vm).frames = .java g₀ :: r := hr
    refine e3.trans ?_
    rw [hf₂, State.calling_eq hh.top, State.setFrames_setFrames, State.setTop_of_frames _ hr', hr]
    rfl
  have hsame : T.sameButNew ({ T with heap := s₂.heap, slotsUsed := s₂.slotsUsed } : State) L rm.cells rm.slots := by
    refine ⟨?_, q2, q3, q4, q5, q6⟩
    obtain ⟨t, ht, -⟩ := State.frames_cons hr
    show ({ T with heap := s₂.heap, slotsUsed := s₂.slotsUsed } : State) = { T.setFrames T.frames with heap := s₂.heap, slotsUsed := s₂.slotsUsed }
    rw [State.setFrames_self ht]
  obtain ⟨X', hS⟩ := X.movedW (T₂ := ({ T with heap := s₂.heap, slotsUsed := s₂.slotsUsed } : State).setVm s₂.vm) ((X.here.setHeapUsed s₂.heap s₂.slotsUsed).setVm hW'.alike) X.tail rfl rfl hW' hB' hsame
  refine ⟨v, _, L, X', hS, hsame.2.1, hQ, hCH, ?_⟩
  rw [← hs₂]
  exact hsteps
theorem Bas.next {n : Nat} (hB : Bas s0 s n) {T' : State} (hS : s.Since T'.vm T'.heap.size) (hn : n ≤ T'.heap.size) : Bas s0 (s.setVm T'.vm) T'.heap.size := by
  obtain ⟨e1, h1⟩ := hB
  refine ⟨?_, ?_⟩
  · rw [e1]; rfl
  · have hS' : (s0.setVm s.vm).Since T'.vm T'.heap.size := e1 ▸ hS
    exact h1.trans hS' hn
theorem Go.callSW (X : Stand p l e R s m args below meth c T locs cells slots) (hx : p.tables.exec = Jvm.exec) {n : Nat} (hB : Bas s0 s n) (hn : n ≤ T.heap.size) (hZ : Z.Warmed39 s.vm) {own : String} {index : Nat} {y : MethodName} {bytes : ByteArray} {maxL : Nat} {ret : Option FieldType}
    (hown : s.vm.findClass own = some m.cls) (hlink : (Jvm.Cond.methodLink own index y).before args s = true) (hstat : (Jvm.Cond.static y).before args s = true) (hinit : (Jvm.Cond.initialized y.cls).before args s = true)
    (hcode : (Jvm.Cond.code y bytes maxL ret).before args s = true) (hy : y.cls ≠ "java/lang/invoke/MethodHandle" ∧ y.cls ≠ "java/lang/invoke/VarHandle")
    {Wt : Nat} {rm : Room} {as' : Array Value} {Q : Option Value → Heap → List Loc → Prop} (hM : WCtr cs N l Z y bytes maxL ret [] rm as' h Q) (wc : (Jvm.Cond.code y bytes maxL ret).before a0 Z = true) (wz : (Jvm.Cond.initialized y.cls).before a0 Z = true) (hf : rm.frames + 1 ≤ R.frames) (hl : Wt + (maxL + 11) + rm.locals ≤ R.locals) (eT : T.heap = h) {hb : Heap} (hC : CHb cs N s hb) (hU : Und N hb T.heap)
    {g : JFrame} (hg : g.method = m) (hsize : g.locals.size = c.maxLocals) {argsL rest : List Value} (hlen : ∀ sig, parseMethodDescriptor y.desc = some sig → argsL.length = sig.parameters.length)
    (hstack : g.stack = argsL.reverse ++ rest) (hW : 2 * g.monitorRoom + (rest.map fun v => v.category).sum ≤ Wt) (hdg : decode c.code g.pc = .ok (.invokestatic index, 3))
    (has : argsL.toArray = as') (hc : cells + rm.cells ≤ R.cells) (hs : slots + rm.slots ≤ R.slots)
    (k : ∀ v s' T' L, Bas s0 s' T'.heap.size → Z.Warmed39 s'.vm → s'.vm.findClass own = some m.cls → CHb cs (fun b => b < T'.heap.size) s' T'.heap → T.heap.size ≤ T'.heap.size → Stand p l e R s' m args below meth c T' (locs ++ L) (cells + rm.cells) (slots + rm.slots) → Q v T'.heap L → Go p e below G T' { g with pc := g.pc + 3, stack := v.toList ++ rest }) : Go p e below G T g := by
  obtain ⟨mk, hnamed⟩ := Cond.code_named hcode
  obtain ⟨methM, cM, hmethM, -, -, -, -, -, -, hsigM⟩ := Cond.code_spec hnamed hcode
  have hstatic : methM.isStatic = true := Cond.static_spec hnamed hmethM hstat
  obtain ⟨kP, hkP, -⟩ := className_of_methodNamed hnamed
  have hinitP : kP.init = .initialized := Cond.initialized_spec (findClass_of_methodNamed hnamed) hkP hinit
  obtain ⟨vm₁, X₁, hstep₁⟩ := X.invokestatic hx hown hlink hnamed hmethM hstatic hkP hinitP hy (g := g) hg (argsL := argsL) (rest := rest) (hlen _ hsigM) hstack hdg
  subst has
  obtain ⟨v, T', L, X', hS, hsz, hQ, hCH, st⟩ := own_backW (g := { g with stack := rest }) hM X₁ hZ wc wz hf hl hg hsize hdg hW (X₁.named hnamed) eT (hC.to X₁ hU) hc hs
  have hsz' : T.heap.size ≤ T'.heap.size := hsz
  have hWs : s.Warmed39 T'.vm := hS.1
  exact Go.st (fun t q => hstep₁ t fun acts => by rw [doInvoke_state]; exact st.trans q) (k v (s.setVm T'.vm) T' L (hB.next hS (Nat.le_trans hn hsz')) (State.Warmed39.trans hZ hWs) (by show T'.vm.findClass own = _; rw [hWs.alike.findClass]; exact hown) hCH hsz' X' hQ)
theorem Go.callIW (X : Stand p l e R s m args below meth c T locs cells slots) (hx : p.tables.exec = Jvm.exec) {n : Nat} (hB : Bas s0 s n) (hn : n ≤ T.heap.size) (hZ : Z.Warmed39 s.vm) {own : String} {index : Nat} {y : MethodName} {bytes : ByteArray} {maxL : Nat} (hy1 : y.name = "<init>")
    (hown : s.vm.findClass own = some m.cls) (hlink : (Jvm.Cond.methodLink own index y).before args s = true) (hinst : (Jvm.Cond.instanceMethod y).before args s = true)
    (hcode : (Jvm.Cond.code y bytes maxL none).before args s = true) (hy : y.cls ≠ "java/lang/invoke/MethodHandle" ∧ y.cls ≠ "java/lang/invoke/VarHandle")
    {Wt : Nat} {rm : Room} {as' : Array Value} {Q : Option Value → Heap → List Loc → Prop} (hM : WCtr cs N l Z y bytes maxL none [] rm as' h Q) (wc : (Jvm.Cond.code y bytes maxL none).before a0 Z = true) (wz : (Jvm.Cond.initialized y.cls).before a0 Z = true) (hf : rm.frames + 1 ≤ R.frames) (hl : Wt + (maxL + 11) + rm.locals ≤ R.locals) (eT : T.heap = h) {hb : Heap} (hC : CHb cs N s hb) (hU : Und N hb T.heap)
    {g : JFrame} (hg : g.method = m) (hsize : g.locals.size = c.maxLocals) {a : Addr} {argsL rest : List Value} (hlen : ∀ sig, parseMethodDescriptor y.desc = some sig → argsL.length = sig.parameters.length)
    (hstack : g.stack = argsL.reverse ++ .ref a :: rest) (hW : 2 * g.monitorRoom + (rest.map fun v => v.category).sum ≤ Wt) (hdg : decode c.code g.pc = .ok (.invokespecial index, 3))
    (has : (.ref a :: argsL).toArray = as') (hc : cells + rm.cells ≤ R.cells) (hs : slots + rm.slots ≤ R.slots)
    (k : ∀ v s' T' L, Bas s0 s' T'.heap.size → Z.Warmed39 s'.vm → s'.vm.findClass own = some m.cls → CHb cs (fun b => b < T'.heap.size) s' T'.heap → T.heap.size ≤ T'.heap.size → Stand p l e R s' m args below meth c T' (locs ++ L) (cells + rm.cells) (slots + rm.slots) → Q v T'.heap L → Go p e below G T' { g with pc := g.pc + 3, stack := v.toList ++ rest }) : Go p e below G T g := by
  have hpl : e.platform.magicAccessors = ({} : Platform).magicAccessors := by rw [X.admits.platform]
  obtain ⟨mk, methM, cM, kP, vm₁, hnamed, hmethM, -, -, -, -, hkP, -, hW₁, hstep₁⟩ := Steps.initColdArgs (e := e) X.here hx X.warmed hpl hown hy1 hy hlink hinst hcode (f := g) hg hlen hstack hdg
  have X₁ := X.noted hW₁
  subst has
  obtain ⟨v, T', L, X', hS, hsz, hQ, hCH, st⟩ := own_backW (g := { g with stack := rest }) hM X₁ hZ wc wz hf hl hg hsize hdg hW (X₁.named hnamed) eT (hC.to X₁ hU) hc hs
  have hsz' : T.heap.size ≤ T'.heap.size := hsz
  have hWs : s.Warmed39 T'.vm := hS.1
  exact Go.st (fun t q => hstep₁ t fun acts => by rw [doInvoke_state]; exact st.trans q) (k v (s.setVm T'.vm) T' L (hB.next hS (Nat.le_trans hn hsz')) (State.Warmed39.trans hZ hWs) (by show T'.vm.findClass own = _; rw [hWs.alike.findClass]; exact hown) hCH hsz' X' hQ)
/-- the same over wider tables: what they find anew is such a String too -/
theorem CHn.wide {V : State} (H : CHn cs N W) (hW : W.Warmed39 V.vm) (hk : ∀ (b : Addr) (c : Cell), N b → W.heap[b]? = some c → V.heap[b]? = some c) (hN : ∀ b, N b → N' b)
    (hf : ∀ (units : Array UInt16) (a : Addr), V.vm.interned.find? (fun p => p.1 == units) = some (units, a) → W.vm.interned.find? (fun p => p.1 == units) = some (units, a) ∨ SlN N' V a units) : CHn cs N' V := by
  intro x hx c k' cf i units a h1 h2 h3 h4 h5 h6
  have hal := hW.alike
  have h1' : W.vm.findClass x.1 = some c := by rw [← hal.findClass]; exact h1
  obtain ⟨k, hkc, -⟩ := Vm.findClass_spec h1'
  obtain ⟨k2, g1, g2, -, g4, -⟩ := hW.2.2.2 c k hkc
  cases h2.symm.trans g1
  have h3' : k.cf = some cf := by rw [g2] at h3; exact h3
  have old := fun q => ((H x hx c k cf i units a h1' hkc h3' h4 h5 q).mv hal hk).up hN
  have found : k.resolved[x.2]? = some none → V.vm.interned.find? (fun p => p.1 == units) = some (units, a) → SlN N' V a units := fun q r => by
    rcases hf units a r with z | z
    · exact old (Or.inr ⟨q, z⟩)
    · exact z
  rcases h6 with h6 | ⟨h6, h7⟩
  · rcases g4 x.2 with q | ⟨q, r, q2, q3⟩
    · exact old (Or.inl (q ▸ h6))
    · rw [h6] at q2
      cases q2
      rcases q3 with q3 | ⟨a', t, si, us, e1, -, e3, e4, e5⟩
      · rw [own_right_string] at q3; cases q3
      · cases e1
        rw [h3'] at e3 e4
        have e6 : si = i := by have := e3.symm.trans h4; simpa using this
        subst e6
        have e7 : us = units := by simpa [ConstantPool.utf8?, h5] using e4.symm
        subst e7
        exact found q e5
  · rcases g4 x.2 with q | ⟨q, r, q2, q3⟩
    · exact found (q ▸ h6) h7
    · rw [h6] at q2; cases q2
theorem AI.ofCell {a : Addr} {ty : FieldType} {xs : List Int32} {c : Cell} (A : Arr Z h a c ty) (hs : c.slots.toList = xs.map Value.int) (hf : ∀ x ∈ xs, fits ty (.int x) = true) (hl : xs.length < 2147483648) : AI Z h a ty xs := by
  have hsz : c.slots.size = xs.length := by rw [← Array.length_toList, hs, List.length_map]
  refine ⟨hl, c.cls, c, A, rfl, by rw [own_ofNat_clamp hl]; exact hsz, own_ofNat_nn hl, fun i hi => ?_, fun i hi => ?_⟩
  · rw [← Array.getElem?_toList, hs, List.getD_eq_getElem?_getD]
    have : i < (xs.map Value.int).length := by rw [List.length_map]; omega
    rw [List.getElem?_eq_getElem this]; rfl
  · have hi' : i < xs.length := by omega
    rw [List.getD_eq_getElem?_getD, List.getElem?_map, List.getElem?_eq_getElem hi']
    exact hf _ (List.getElem_mem hi')
def own_bytes (units : Array UInt16) : List Int32 := units.toList.map fun u => u.toUInt8.toInt8.toInt32
theorem own_sl_core {q : SQ} {cS : ClassId} {u : Array UInt16} (h2 : Sl q cS W) (h3 : ∃ kS : Class, W.vm.classes[cS]? = some kS ∧ kS.kind = .ordinary ∧ q.sC.slots.size = kS.instanceTypes.size) (h5 : q.SA.slots = stringBytes u) (hZ : Z.Warmed39 W.vm) (hlat : u.all (· < 256) = true) :
    Exa Z W.heap q.sa "java/lang/String" ∧ Fld Z W.heap q.sa "java/lang/String" "value" "[B" (.ref q.sd) ∧ Fld Z W.heap q.sa "java/lang/String" "coder" "B" (.int 0) ∧ AI Z W.heap q.sd .byte (own_bytes u) := by
  obtain ⟨⟨s1, s2, s3, s4, s5, s6, s7, s8, s9, s10, s11, s12, s13, s14, s15, s16⟩, hc1, hc2⟩ := h2
  obtain ⟨kS, k1, k2, k3⟩ := h3
  have hal : W.vm.Alike Z.vm := hZ.alike.symm
  obtain ⟨cv, kv, iv, v1, v2⟩ := found_asg hal s4
  obtain ⟨cc, kc, ic, w1, w2⟩ := found_asg hal s5
  obtain ⟨kZ, hkZ, ekZ⟩ := hal.2.2 _ _ k1
  refine ⟨⟨q.sC, kZ, s1, by rw [hal.findClass, hc2]; exact hc1, by rw [hc2]; exact hkZ, s3, fun _ => by rw [ekZ]; exact k3⟩, ⟨q.sC, cv, kv, iv, q.fSV, s1, v1, s6, s2, s3, v2, s8⟩, ⟨q.sC, cc, kc, ic, q.fSC, s1, w1, s7, s2, s3, w2, s9⟩, ?_⟩
  refine AI.ofCell (c := q.SA) ⟨s10, State.isArrayOf_alike hal s11, s12⟩ ?_ ?_ ?_
  · rw [h5, stringBytes_lat hlat]; simp [own_bytes, byteValue, Function.comp_def]
  · intro x hx
    simp only [own_bytes, List.mem_map] at hx
    obtain ⟨y, -, rfl⟩ := hx
    exact fits_of_int8 _
  · have : (own_bytes u).length = q.SA.slots.size := by rw [h5, stringBytes_lat hlat]; simp [own_bytes]
    rw [this, s13]; exact s14
theorem SlN.facts {a : Addr} {u : Array UInt16} (F : SlN N W a u) (hZ : Z.Warmed39 W.vm) (hlat : u.all (· < 256) = true) :
    ∃ v, Exa Z W.heap a "java/lang/String" ∧ Fld Z W.heap a "java/lang/String" "value" "[B" (.ref v) ∧ Fld Z W.heap a "java/lang/String" "coder" "B" (.int 0) ∧ AI Z W.heap v .byte (own_bytes u) ∧ N a ∧ N v := by
  obtain ⟨q, cS, rfl, h2, h3, h4, h5, h6, h7⟩ := F
  obtain ⟨f1, f2, f3, f4⟩ := own_sl_core h2 h3 h5 hZ hlat
  exact ⟨q.sd, f1, f2, f3, f4, h6, h7⟩
theorem own_slIn_facts {a : Addr} {u : Array UInt16} {lo hi : Nat} (F : SlIn lo hi W a u) (hZ : Z.Warmed39 W.vm) (hlat : u.all (· < 256) = true) :
    ∃ v, Exa Z W.heap a "java/lang/String" ∧ Fld Z W.heap a "java/lang/String" "value" "[B" (.ref v) ∧ Fld Z W.heap a "java/lang/String" "coder" "B" (.int 0) ∧ AI Z W.heap v .byte (own_bytes u) ∧ ((a < lo ∧ v < lo) ∨ (hi ≤ a ∧ hi ≤ v)) := by
  obtain ⟨q, cS, rfl, h2, h3, h4, h5, h6⟩ := F
  obtain ⟨f1, f2, f3, f4⟩ := own_sl_core h2 h3 h5 hZ hlat
  exact ⟨q.sd, f1, f2, f3, f4, h6⟩
theorem own_chr (n : Nat) (h : n < 256) : (Char.ofNat n).toNat = n := by
  have : ∀ k : Fin 256, (Char.ofNat k.val).toNat = k.val := by decide +kernel
  exact this ⟨n, h⟩
theorem own_units {us : Array UInt16} {text : String} (h : utf16ToString? us = some text) (ht : ∀ c ∈ text.toList, c.toNat < 256) : text.toList = us.toList.map fun u => Char.ofNat u.toNat := by
  have hl := lat_of_text h ht
  rw [Array.all_eq_true_iff_forall_mem] at hl
  have := app_eq us.toList "" text (fun u hu => by have := hl u (Array.mem_toList_iff.mp hu); simpa using this) h
  simpa using this
theorem own_units_inj {us us' : Array UInt16} {text : String} (h : utf16ToString? us = some text) (h' : utf16ToString? us' = some text) (ht : ∀ c ∈ text.toList, c.toNat < 256) : us = us' := by
  have e := (own_units h ht).symm.trans (own_units h' ht)
  have l1 := lat_of_text h ht
  have l2 := lat_of_text h' ht
  rw [Array.all_eq_true_iff_forall_mem] at l1 l2
  apply Array.toList_inj.mp
  have key : ∀ (L L' : List UInt16), (∀ u ∈ L, u < 256) → (∀ u ∈ L', u < 256) → L.map (fun u => Char.ofNat u.toNat) = L'.map (fun u => Char.ofNat u.toNat) → L = L' := by
    intro L
    induction L with
    | nil => intro L' _ _ q; cases L' with | nil => rfl | cons => simp at q
    | cons x L ih =>
      intro L' g1 g2 q
      cases L' with
      | nil => simp at q
      | cons y L' =>
        simp only [List.map_cons, List.cons.injEq] at q
        have a1 : x.toNat < 256 := by have := g1 x (by simp); simpa [UInt16.lt_iff_toNat_lt] using this
        have a2 : y.toNat < 256 := by have := g2 y (by simp); simpa [UInt16.lt_iff_toNat_lt] using this
        have b1 : (Char.ofNat x.toNat).toNat = x.toNat := own_chr _ (by omega)
        have b2 : (Char.ofNat y.toNat).toNat = y.toNat := own_chr _ (by omega)
        have c1 : x.toNat = y.toNat := by rw [← b1, ← b2, q.1]
        rw [UInt16.toNat_inj.mp c1, ih L' (fun u hu => g1 u (by simp [hu])) (fun u hu => g2 u (by simp [hu])) q.2]
  exact key _ _ (fun u hu => by have := l1 u (Array.mem_toList_iff.mp hu); simpa using this) (fun u hu => by have := l2 u (Array.mem_toList_iff.mp hu); simpa using this) e
/-- ldc of a String constant whose entry is resolved -/
theorem Go.ldcR (X : Stand p l e R s m args below meth c T locs cells slots) (hx : p.tables.exec = Jvm.exec) (hZ : Z.Warmed39 s.vm) {own text : String} {index : Nat} (hown : s.vm.findClass own = some m.cls) (w : (Jvm.Cond.stringLink own index text).before a0 Z = true) {a : Addr}
    (hr : ∃ k₂, s.vm.classes[m.cls]? = some k₂ ∧ k₂.resolved[index]? = some (some (.string a))) {g : JFrame} (hg : g.method = m) (hdg : decode c.code g.pc = .ok (.ldc index, 2))
    (k : Go p e below G T { g with pc := g.pc + 2, stack := .ref a :: g.stack }) : Go p e below G T g := by
  have hlink : (Jvm.Cond.stringLink own index text).before args s = true := mvS (s := s) hZ w
  obtain ⟨k0, cf, i, units, hk, hcf, hc, hu, hnm, hdec, hres⟩ := Cond.stringLink_spec hown hlink
  obtain ⟨k₂, q1, q2⟩ := hr
  cases hk.symm.trans q1
  obtain ⟨k', g1, g2, -, g4, -⟩ := X.warmed.2.2 _ _ hk
  have hcf' : k'.cf = some cf := by rw [g2]; exact hcf
  have hr' : k'.resolved[index]? = some (some (.string a)) := by
    rcases g4 index with z | ⟨z, -⟩
    · exact z.trans q2
    · rw [q2] at z; cases z
  subst hg
  refine Go.st (fun t hrest => ?_) k
  jvm_step X.here [hx, hdg, ldc.wp_string (e := e) (s := T) (f := g) X.here.top g1 hcf' hc hr']
  exact hrest
theorem Go.ldcW (X : Stand p l e R s m args below meth c T locs cells slots) (hx : p.tables.exec = Jvm.exec) {n : Nat} (hB : Bas s0 s n) (hn : n ≤ T.heap.size) (hZ : Z.Warmed39 s.vm) {own text : String} {index : Nat} (hown : s.vm.findClass own = some m.cls) (w : (Jvm.Cond.stringLink own index text).before a0 Z = true)
    (wS : ∀ d ∈ Bundle.stringAtoms, d.before a0 Z = true) (htx : ∀ c ∈ text.toList, c.toNat < 256) {hb : Heap} (hC : CHb cs N s hb) (hU : Und N hb T.heap) (hm : (own, index) ∈ cs) (hfr : ∀ y ∈ locs, s.heap.size ≤ y.base)
    {g : JFrame} (hg : g.method = m) (hdg : decode c.code g.pc = .ok (.ldc index, 2)) {nn : Nat} (hnn : 4 * text.toList.length ≤ nn) (hbig : nn ≤ 536870912) (hc : cells + 2 ≤ R.cells) (hs : slots + (nn + 4) ≤ R.slots)
    (k : ∀ a v s' T' units locs', utf16ToString? units = some text → Bas s0 s' T'.heap.size → Z.Warmed39 s'.vm → s'.vm.findClass own = some m.cls → CHb cs (fun b => N b ∨ T.heap.size ≤ b) s' T'.heap → Ext T.heap T'.heap → s'.heap = s.heap → (∀ y ∈ locs', y ∈ locs) →
      Stand p l e R s' m args below meth c T' locs' (cells + 2) (slots + (nn + 4)) → (∃ k₂, s'.vm.classes[m.cls]? = some k₂ ∧ k₂.resolved[index]? = some (some (.string a))) →
      Exa Z T'.heap a "java/lang/String" → Fld Z T'.heap a "java/lang/String" "value" "[B" (.ref v) → Fld Z T'.heap a "java/lang/String" "coder" "B" (.int 0) → AI Z T'.heap v .byte (own_bytes units) → ((N a ∧ N v) ∨ (T.heap.size ≤ a ∧ T.heap.size ≤ v)) →
      Go p e below G T' { g with pc := g.pc + 2, stack := .ref a :: g.stack }) : Go p e below G T g := by
  have hlink : (Jvm.Cond.stringLink own index text).before args s = true := mvS (s := s) hZ w
  have hCT : CHn cs N T := hC.to X hU
  obtain ⟨k0, cf, i, units, hk, hcf, hcp, hu, hnm, hdec, hres⟩ := Cond.stringLink_spec hown hlink
  have hlat : units.all (· < 256) = true := lat_of_text hdec htx
  obtain ⟨k', g1, g2, -, g4, -⟩ := X.warmed.2.2 _ _ hk
  have hcf' : k'.cf = some cf := by rw [g2]; exact hcf
  have hsame : k'.resolved[index]? = k0.resolved[index]? := by
    rcases g4 index with z | ⟨z, r, z2, z3⟩
    · exact z
    · exfalso; cases r <;> simp [State.rightAt, hk, hcf, hnm] at z3
  have hownT : T.vm.findClass own = some m.cls := by rw [X.warmed.alike.findClass]; exact hown
  have hint : T.vm.interned = s.vm.interned := X.warmed.interned_eq
  have hZT : Z.Warmed39 T.vm := wtrans hZ X.warmed
  rcases hres with hop | ⟨a, hra⟩
  · cases hf : s.vm.interned.find? (fun p => p.1 == units) with
    | some pr =>
      obtain ⟨u', a⟩ := pr
      have hu' : u' = units := by have := Array.find?_some hf; simpa using this
      subst hu'
      have hopT : k'.resolved[index]? = some none := hsame.trans hop
      have hfT : T.vm.interned.find? (fun p => p.1 == u') = some (u', a) := by rw [hint]; exact hf
      have hSl : SlN N T a u' := hCT _ hm _ k' cf i u' a hownT g1 hcf' hcp hu (Or.inr ⟨hopT, hfT⟩)
      have q2 : k0.cf.bind (namesOf? ·.constantPool index) = some (.string text) := by rw [hcf]; exact hnm
      have q3 : k0.cf.bind (·.constantPool[index]?) = some (.string i) := by rw [hcf]; exact hcp
      have q4 : k0.cf.bind (·.constantPool.utf8? i) = some u' := by rw [hcf]; simp [ConstantPool.utf8?, hu]
      have hW : s.Warmed39 (T.vm.noted m.cls index (.string a)) := X.warmed.wide.notedString hk (Or.inl hop) q2 q3 q4 hfT
      have X2 := (X.mono (Nat.le_add_right cells 2) (Nat.le_add_right slots (nn + 4))).retabled hW
      have hSl2 : SlN N (T.setVm (T.vm.noted m.cls index (.string a))) a u' := hSl.mv (X.warmed.alike.symm.trans hW.alike) (fun _ _ _ q => q)
      obtain ⟨v, f1, f2, f3, f4, f5, f6⟩ := hSl2.facts (State.Warmed39.trans hZ hW) hlat
      have hS : s.Since (T.vm.noted m.cls index (.string a)) T.heap.size := ⟨hW, fun j pr hj hp => by
        have hp' : T.vm.interned[j]? = some pr := hp
        rw [hint] at hp'
        exact absurd (Array.getElem?_eq_some_iff.mp hp').1 (Nat.not_lt.mpr hj)⟩
      have hCH : CHb cs (fun b => N b ∨ T.heap.size ≤ b) (s.setVm (T.vm.noted m.cls index (.string a))) T.heap :=
        CHn.wide (V := ({ s.setVm (T.vm.noted m.cls index (.string a)) with heap := T.heap } : State)) hC (show ({ s with heap := hb } : State).Warmed39 _ from hW) hU.2 (fun _ q => Or.inl q) (fun us b q => Or.inl (by
          have q' : T.vm.interned.find? (fun p => p.1 == us) = some (us, b) := q
          rw [hint] at q'; exact q'))
      refine Go.st (fun t hrest => ?_) (k a v (s.setVm (T.vm.noted m.cls index (.string a))) (T.setVm (T.vm.noted m.cls index (.string a))) u' locs hdec (hB.next (T' := T.setVm (T.vm.noted m.cls index (.string a))) hS hn) (State.Warmed39.trans hZ hW) (by show (T.vm.noted m.cls index (.string a)).findClass own = _; rw [hW.alike.findClass]; exact hown) hCH ⟨Nat.le_refl _, fun _ _ q => q⟩ rfl (fun _ q => q) X2 ⟨_, Vm.classes_note_self index (.string a) g1, Class.resolved_note_self (.string a) hopT⟩ f1 f2 f3 f4 (Or.inl ⟨f5, f6⟩))
      subst hg
      jvm_step X.here [hx, hdg, ldc.wp_string_found (e := e) (s := T) (f := g) X.here.top g1 hcf' hcp hu hopT hfT]
      exact hrest
    | none =>
      have X0 : Stand p l e R s m args below meth c T [] cells slots := Stand.dropFresh (locs := []) (J := locs) (by simpa using X) hfr
      have hheld : ConstHeldL s own index := by
        intro c2 k2 cf2 i2 us2 a2 h1 h2 h3 h4 h5 h6
        cases hown.symm.trans h1
        cases hk.symm.trans h2
        cases hcf.symm.trans h3
        cases hcp.symm.trans h4
        cases hu.symm.trans h5
        rcases h6 with h6 | ⟨-, h6⟩
        · rw [hop] at h6; cases h6
        · rw [hf] at h6; cases h6
      have hSat : ∀ d ∈ Bundle.stringAtoms, d.before args s = true := fun d hd => by
        have q := wS d hd
        simp only [Bundle.stringAtoms, List.mem_cons, List.not_mem_nil, or_false] at hd
        rcases hd with rfl | rfl | rfl | rfl | rfl | rfl | rfl
        · exact mv hZ q
        · exact mv hZ q
        · exact mvA hZ q
        · exact mv hZ q
        · exact mv hZ q
        · exact mv hZ q
        · exact mv hZ q
      obtain ⟨a, T₂, X2, hS, hres2, hkeep, hI1, hI2, ⟨us, hus, hin⟩, st⟩ := X0.ldcStringColdSl2 hx hown hlink hSat hheld (fun us2 h2 => lat_of_text h2 htx) hg hdg hnn hbig hc hs
      have hlat2 : us.all (· < 256) = true := lat_of_text hus htx
      have hZ2 : Z.Warmed39 T₂.vm := State.Warmed39.trans hZ hS.1
      have eus : us = units := own_units_inj hus hdec htx
      subst eus
      obtain ⟨v, f1, f2, f3, f4, f5⟩ := own_slIn_facts hin hZ2 hlat2
      have hE : Ext T.heap T₂.heap := ext_of hkeep
      have hfa : T₂.vm.interned.find? (fun p => p.1 == us) = some (us, a) := by
        obtain ⟨k2, hk2, hr2⟩ := hres2
        obtain ⟨k3, b1, b2, -, b4, -⟩ := hS.1.2.2.2 _ _ hk
        cases hk2.symm.trans b1
        rcases b4 index with z | ⟨-, r, z2, z3⟩
        · rw [hop, hr2] at z; cases z
        · rw [hr2] at z2
          cases z2
          rcases z3 with z3 | ⟨a3, t3, si3, us3, y1, -, y3, y4, y5⟩
          · rw [own_right_string] at z3; cases z3
          · cases y1
            rw [hcf] at y3 y4
            have e6 : si3 = i := by have := y3.symm.trans hcp; simpa using this
            subst e6
            have e7 : us3 = us := by simpa [ConstantPool.utf8?, hu] using y4.symm
            subst e7
            exact y5
      have hnew : s.heap.size ≤ a := by
        obtain ⟨more, hmore⟩ := hS.1.2.2.1
        have hmem : (us, a) ∈ T₂.vm.interned := Array.mem_of_find?_eq_some hfa
        rw [hmore] at hmem
        rcases Array.mem_append.mp hmem with z | z
        · rw [Array.find?_eq_none] at hf
          exact absurd (by simp) (hf _ z)
        · obtain ⟨j, hj, ej⟩ := Array.mem_iff_getElem.mp z
          have := hS.2 (s.vm.interned.size + j) (us, a) (Nat.le_add_right _ _) (by rw [hmore, Array.getElem?_append_right (Nat.le_add_right _ _), Nat.add_sub_cancel_left, Array.getElem?_eq_getElem hj, ej])
          exact this.1
      have hSl : SlN (fun b => N b ∨ T.heap.size ≤ b) T₂ a us := by
        obtain ⟨q, cS, j1, j2, j3, j4, j5, j6⟩ := hin
        rcases j6 with ⟨z, -⟩ | ⟨z1, z2⟩
        · rw [j1] at z; exact absurd z (Nat.not_lt.mpr hnew)
        · exact ⟨q, cS, j1, j2, j3, j4, j5, Or.inr z1, Or.inr z2⟩
      have hCH : CHb cs (fun b => N b ∨ T.heap.size ≤ b) (s.setVm T₂.vm) T₂.heap :=
        CHn.wide (V := ({ s.setVm T₂.vm with heap := T₂.heap } : State)) hC (show ({ s with heap := hb } : State).Warmed39 _ from hS.1) (hU.ext hE).2 (fun _ q => Or.inl q) (fun us2 b q => by
          have q' : T₂.vm.interned.find? (fun p => p.1 == us2) = some (us2, b) := q
          rcases hI2 with y | ⟨u3, a3, y1, y2⟩
          · rw [y, hint] at q'; exact Or.inl q'
          · have q0 := q'
            rw [y2, hint, Array.find?_push] at q'
            cases hf2 : s.vm.interned.find? (fun p => p.1 == us2) with
            | some pr => rw [hf2] at q'; exact Or.inl (by simpa [hf2] using q')
            | none =>
              rw [hf2] at q'
              simp only [Option.none_or] at q'
              split at q'
              · rename_i hbe
                have hu3 : u3 = us2 := by simpa using hbe
                subst hu3
                have hb3 : a3 = b := by simpa using q'
                subst hb3
                have e8 : u3 = us := own_units_inj y1 hus htx
                subst e8
                rw [hfa] at q0
                cases q0
                exact Or.inr (hSl.mv (V := ({ s.setVm T₂.vm with heap := T₂.heap } : State)) (Vm.Alike.refl _) (fun _ _ _ q => q))
              · cases q')
      refine Go.st st (k a v (s.setVm T₂.vm) T₂ us [] hus (hB.next hS (Nat.le_trans hn hE.1)) hZ2 (by show T₂.vm.findClass own = _; rw [hS.1.alike.findClass]; exact hown) hCH hE rfl (fun _ q => nomatch q) X2 hres2 f1 f2 f3 f4 ?_)
      rcases f5 with ⟨z, -⟩ | z
      · exact absurd z (Nat.not_lt.mpr hnew)
      · exact Or.inr z
  · have hraT : k'.resolved[index]? = some (some (.string a)) := hsame.trans hra
    have hSl : SlN N T a units := hCT _ hm _ k' cf i units a hownT g1 hcf' hcp hu (Or.inl hraT)
    obtain ⟨v, f1, f2, f3, f4, f5, f6⟩ := hSl.facts hZT hlat
    have X2 := X.mono (Nat.le_add_right cells 2) (Nat.le_add_right slots (nn + 4))
    have hCH : CHb cs (fun b => N b ∨ T.heap.size ≤ b) s T.heap := CHn.up (CHn.mv (V := ({ s with heap := T.heap } : State)) hC (State.WarmedH.refl _) hU.2) (fun _ q => Or.inl q)
    have hB2 : Bas s0 s T.heap.size := ⟨hB.1, hB.2.1, hB.2.2.mono hn⟩
    refine Go.st (fun t hrest => ?_) (k a v s T units locs hdec hB2 hZ hown hCH ⟨Nat.le_refl _, fun _ _ q => q⟩ rfl (fun _ q => q) X2 ⟨_, hk, hra⟩ f1 f2 f3 f4 (Or.inl ⟨f5, f6⟩))
    subst hg
    jvm_step X.here [hx, hdg, ldc.wp_string (e := e) (s := T) (f := g) X.here.top g1 hcf' hcp hraT]
    exact hrest
theorem Go.retVW (X : Stand p l e R s m args below meth c T locs cells slots) (hx : p.tables.exec = Jvm.exec) {n : Nat} (hB : Bas s0 s n) (hn : n ≤ T.heap.size) {hb : Heap} (hC : CHb cs N s hb) (hU : Und N hb T.heap) {pc : Nat} {Ls : Array Slot} {Q : Option Value → Heap → List Loc → Prop} {kc ks : Nat} {rest : List Value} {w : Value} {t : FieldType} (hret : meth.sig.returnType = some t) (hlk : meth.locks = false) (ht : t.isReference = true) (hw : w.isRef = true)
    (hd : decode c.code pc = .ok (.areturn, 1)) (hQ : Q (some w) T.heap locs) (hc : cells ≤ kc) (hs : slots ≤ ks) : Go p e below (EndW cs s0 Q kc ks) T (mkF m pc Ls (w :: rest)) :=
  Go.doneW X hB hn (hC.to X hU) (fun q => by rw [hret] at q; cases q) hlk (fun fs hr => retOut X hx hret (by rcases ref_cases hw with rfl | ⟨z, rfl⟩ <;> cases t <;> first | rfl | cases ht) (Or.inr (Or.inr (Or.inr (Or.inr ⟨rfl, ht, hw⟩)))) hd hr) hQ hc hs
theorem Go.retBW (X : Stand p l e R s m args below meth c T locs cells slots) (hx : p.tables.exec = Jvm.exec) {n : Nat} (hB : Bas s0 s n) (hn : n ≤ T.heap.size) {hb : Heap} (hC : CHb cs N s hb) (hU : Und N hb T.heap) {pc : Nat} {Ls : Array Slot} {Q : Option Value → Heap → List Loc → Prop} {kc ks : Nat} {rest : List Value} {z : Int32} {t : FieldType} (hret : meth.sig.returnType = some t) (hlk : meth.locks = false) (ht : t = .boolean ∨ t = .byte ∨ t = .char ∨ t = .short)
    (hd : decode c.code pc = .ok (.ireturn, 1)) (hQ : Q (some (.int (nar t z))) T.heap locs) (hc : cells ≤ kc) (hs : slots ≤ ks) : Go p e below (EndW cs s0 Q kc ks) T (mkF m pc Ls (.int z :: rest)) :=
  Go.doneW X hB hn (hC.to X hU) (fun q => by rw [hret] at q; cases q) hlk (fun fs hr => retN X hx hret ht hd hr) hQ hc hs
theorem Go.ret0W (X : Stand p l e R s m args below meth c T locs cells slots) (hx : p.tables.exec = Jvm.exec) {n : Nat} (hB : Bas s0 s n) (hn : n ≤ T.heap.size) {hb : Heap} (hC : CHb cs N s hb) (hU : Und N hb T.heap) {pc : Nat} {Ls : Array Slot} {Q : Option Value → Heap → List Loc → Prop} {kc ks : Nat} (hret : meth.sig.returnType = none) (hlk : meth.locks = false)
    (hd : decode c.code pc = .ok (.return_, 1)) (hQ : Q none T.heap locs) (hc : cells ≤ kc) (hs : slots ≤ ks) : Go p e below (EndW cs s0 Q kc ks) T (mkF m pc Ls []) :=
  Go.doneW X hB hn (hC.to X hU) (fun _ => rfl) hlk (fun fs hr => X.returnOut hx hret hd hr) hQ hc hs
/-! from the statement's word on held constants -/
theorem own_eqI {args : Array Value} {t : Term} {v : Int32} (h : (Cond.eq t (Term.int v)).before args s = true) : t.eval args s none [] s = some (.int v) := by
  have h := Cond.before_iff.mp h
  obtain ⟨x, y, h1, h2, k1, k2⟩ := cmp_v (Or.inl h)
  cases Option.some.inj ((Term.int_eval v).symm.trans h2)
  obtain ⟨z, rfl⟩ := k2
  have q := gotT (Cond.eq_ints h1 (Term.int_eval v)) h
  rw [h1, q]
theorem own_slOf {a : Addr} {units : Array UInt16} (hl : units.all (· < 256) = true) (hbig : units.size < 2147483648) (hw : (Jvm.Lit.latin1L units).all (fun w => w.before #[.ref a] s) = true)
    (harr : (Jvm.Cond.arrayClass .byte).before #[.ref a] s = true) (hins : (Jvm.Cond.instantiable "java/lang/String" 4).before #[.ref a] s = true) : SlOf s a units := by
  have Wd := fun w hm => List.all_eq_true.mp hw w hm
  have ev0 : (Term.arg 0).eval #[.ref a] s none [] s = some (.ref a) := rfl
  have w1 : (Jvm.Cond.exactly (.arg 0) "java/lang/String").before #[.ref a] s = true := Wd _ (by simp [Jvm.Lit.latin1L])
  have c2 := own_eqI (Wd (Jvm.Cond.eq Jvm.Lit.C0 (.int 0)) (by simp [Jvm.Lit.latin1L]))
  have w3 : (Jvm.Cond.exactly Jvm.Lit.V0 "[B").before #[.ref a] s = true := Wd _ (by simp [Jvm.Lit.latin1L])
  have c4 := own_eqI (Wd (Jvm.Cond.eq (.length Jvm.Lit.V0) (.int (Int32.ofNat units.size))) (by simp [Jvm.Lit.latin1L]))
  have c5 : ∀ j, j < units.size → (Term.elem Jvm.Lit.V0 (.int (Int32.ofNat j))).eval #[.ref a] s none [] s = some (.int (Jvm.Lit.byteI (units.getD j 0))) := fun j hj =>
    own_eqI (Wd _ (List.mem_append_right _ (List.mem_map.mpr ⟨j, List.mem_range.mpr hj, rfl⟩)))
  have E : Exa s s.heap a "java/lang/String" := Exa.start ev0 (Cond.before_iff.mp w1)
  have FC : Fld s s.heap a "java/lang/String" "coder" "B" (.int 0) := Fld.start (by rw [← fld_at (t := .arg 0) (args := #[.ref a]) (first := s) (o := none) (idx := []) ev0]; exact c2)
  obtain ⟨sd, SA, hev, hAt, -⟩ := Term.length_spec c4
  have FV : Fld s s.heap a "java/lang/String" "value" "[B" (.ref sd) := Fld.start (by rw [← fld_at (t := .arg 0) (args := #[.ref a]) (first := s) (o := none) (idx := []) ev0]; exact hev)
  have h31 := Jvm.Free.SBG.length_lt hev hAt c4
  obtain ⟨sd', cB, SA', kB, hevB, hfB, hcB, hkB, -, hclsB, -⟩ := Cond.exactly_spec w3
  cases hev.symm.trans hevB
  obtain ⟨hcell, hunk, hst, -⟩ := State.arrayAt?_spec hAt
  cases hcell.symm.trans hcB
  obtain ⟨cA, kA, comp, f1, f2, f3⟩ := Cond.arrayClass_spec harr
  have f1' : s.vm.findClass "[B" = some cA := f1
  cases hfB.symm.trans f1'
  have hArr : s.isArrayOf SA .byte := ⟨fun k hk => (by rw [hk] at hst; cases hst), kA, (by rw [hclsB]; exact f2), comp, f3⟩
  have hsz : SA.slots.size = units.size := by
    have e : (Term.length Jvm.Lit.V0).eval #[.ref a] s none [] s = some (.int (Int32.ofNat SA.slots.size)) := by simp [Term.eval] at hev ⊢; simp [hev, hAt, h31]
    have h2 : Int32.ofNat SA.slots.size = Int32.ofNat units.size := by simpa using Option.some.inj (e.symm.trans c4)
    have := congrArg Int32.toInt h2
    rw [Int32.toInt_ofNat_small h31, Int32.toInt_ofNat_small (by omega)] at this; omega
  have hat : ∀ j, j < units.size → SA.slots[j]? = some (.int (Jvm.Lit.byteI (units.getD j 0))) := fun j hj => by
    have e1 := c5 j hj
    rw [Jvm.Free.SBG.elem_at (ix := .int (Int32.ofNat j)) hev hAt (by omega) h31 rfl] at e1; exact e1
  have hslots : SA.slots = stringBytes units := by
    rw [stringBytes_lat hl]
    apply Array.ext
    · rw [hsz, Array.size_map]
    · intro j h1 h2
      have hj : j < units.size := by omega
      have e := hat j hj
      rw [Array.getElem?_eq_getElem h1] at e
      rw [Option.some.inj e, Array.getElem_map]
      simp [byteValue, Jvm.Lit.byteI, Array.getD, hj]
  have hne : a ≠ sd := ne_arr E hins ⟨hcell, hArr, hunk⟩
  obtain ⟨cell, k, e1, e2, e3, e4, e5⟩ := E
  obtain ⟨cv, cfv, kv, iv, fv, v1, v2, v3, v4, v5, v6, v7⟩ := FV
  cases e1.symm.trans v1
  obtain ⟨cc, cfc, kc, ic, fc, x1, x2, x3, x4, x5, x6, x7⟩ := FC
  cases e1.symm.trans x1
  obtain ⟨cI, kI, i1, i2, i3, -⟩ := Cond.instantiable_spec hins
  cases e2.symm.trans i1
  cases e3.symm.trans i2
  refine ⟨(a, cell, fv, fc, sd, SA, SA.slots.size), cell.cls, rfl, ⟨⟨e1, v4, v5, ⟨cfv, kv, iv, v2, v6⟩, ⟨cfc, kc, ic, x2, x6⟩, v3, x3, v7, x7, hcell, hArr, hunk, rfl, h31, hne, fun j hj => ?_⟩, e2, rfl⟩, ⟨k, e3, i3, e5 i3⟩, by rw [hclsB]; exact hfB, hslots⟩
  have hj2 : j < SA.slots.size := hj
  have hj' : j < units.size := by omega
  have := hat j hj'
  show fits .byte (SA.slots.getD j .null) = true
  rw [Array.getD_eq_getD_getElem?, this]
  exact fits_of_int8 _
theorem own_heldL {args : Array Value} {own text : String} {index : Nat} (hh : Jvm.Lit.constHeld s own index) (hlink : (Jvm.Cond.stringLink own index text).before args s = true) (htx : ∀ c ∈ text.toList, c.toNat < 256)
    (hcw : Jvm.Lit.compactW.before args s = true) (harr : (Jvm.Cond.arrayClass .byte).before args s = true) (hins : (Jvm.Cond.instantiable "java/lang/String" 4).before args s = true) : ConstHeldL s own index := by
  intro c k cf i units a hc hk hcf hp hu hor
  obtain ⟨k', cf', i', units', hk', hcf', hp', hu', -, htext, -⟩ := Cond.stringLink_spec hc hlink
  cases hk.symm.trans hk'
  cases hcf.symm.trans hcf'
  cases hp.symm.trans hp'
  cases hu.symm.trans hu'
  have hlat := lat_of_text htext htx
  have q := hh c k cf i units a hc hk hcf hp hu hlat (by rw [← hcw]; rfl) hor
  exact own_slOf hlat q.1 q.2 (by simpa [Cond.before, Cond.holds, Cond.value] using harr) (tableWord_moved rfl hins)
end GoWide
theorem ef_0 (m : MethodId) (x0 : Int32) : entryFrame m #[(.int x0)] 1 = mkF m 0 #[.val (.int x0)] [] := by first | (simp [entryFrame, mkF, argsToLocals, Value.category]; done) | rfl
theorem pn_1 : plainName "java/lang/StringUTF16" = true := by first | (simp [plainName, overriddenIn]; done) | decide +kernel
theorem pd_2 : parseMethodDescriptor "(I)I" = some ⟨[.int], some .int⟩ := by decide +kernel
theorem ef_3 (m : MethodId) (x0 : Addr) (x1 : Int32) (x2 : Int32) : entryFrame m #[(.ref x0), (.int x1), (.int x2)] 3 = mkF m 0 #[.val (.ref x0), .val (.int x1), .val (.int x2)] [] := by first | (simp [entryFrame, mkF, argsToLocals, Value.category]; done) | rfl
theorem pd_4 : parseMethodDescriptor "([BII)V" = some ⟨[(.array .byte), .int, .int], none⟩ := by decide +kernel
theorem ef_5 (m : MethodId) (x0 : Addr) (x1 : Int32) (x2 : Int32) : entryFrame m #[(.ref x0), (.int x1), (.int x2)] 5 = mkF m 0 #[.val (.ref x0), .val (.int x1), .val (.int x2), .unset, .unset] [] := by first | (simp [entryFrame, mkF, argsToLocals, Value.category]; done) | rfl
theorem pd_6 : parseMethodDescriptor "(I)[B" = some ⟨[.int], some (.array .byte)⟩ := by decide +kernel
theorem ef_7 (m : MethodId) (x0 : Addr) (x1 : Int32) : entryFrame m #[(.ref x0), (.int x1)] 2 = mkF m 0 #[.val (.ref x0), .val (.int x1)] [] := by first | (simp [entryFrame, mkF, argsToLocals, Value.category]; done) | rfl
theorem ef_8 (m : MethodId) (x0 : Addr) (x1 : Int32) (x2 : Addr) (x3 : Int32) (x4 : Int32) : entryFrame m #[(.ref x0), (.int x1), (.ref x2), (.int x3), (.int x4)] 7 = mkF m 0 #[.val (.ref x0), .val (.int x1), .val (.ref x2), .val (.int x3), .val (.int x4), .unset, .unset] [] := by first | (simp [entryFrame, mkF, argsToLocals, Value.category]; done) | rfl
theorem ef_9 (m : MethodId) (x0 : Addr) (x1 : Int32) (x2 : Int32) : entryFrame m #[(.ref x0), (.int x1), (.int x2)] 6 = mkF m 0 #[.val (.ref x0), .val (.int x1), .val (.int x2), .unset, .unset, .unset] [] := by first | (simp [entryFrame, mkF, argsToLocals, Value.category]; done) | rfl
theorem pd_10 : parseMethodDescriptor "([CI[BII)I" = some ⟨[(.array .char), .int, (.array .byte), .int, .int], some .int⟩ := by decide +kernel
theorem pd_11 : parseMethodDescriptor "([CII)[B" = some ⟨[(.array .char), .int, .int], some (.array .byte)⟩ := by decide +kernel
theorem pd_12 : parseMethodDescriptor "([BI)C" = some ⟨[(.array .byte), .int], some .char⟩ := by decide +kernel
theorem ef_13 (m : MethodId) (x0 : Addr) (x1 : Addr) (x2 : Int32) (x3 : Int32) : entryFrame m #[(.ref x0), (.ref x1), (.int x2), (.int x3), .null] 6 = mkF m 0 #[.val (.ref x0), .val (.ref x1), .val (.int x2), .val (.int x3), .val .null, .unset] [] := by first | (simp [entryFrame, mkF, argsToLocals, Value.category]; done) | rfl
theorem pd_14 : parseMethodDescriptor "([BI)B" = some ⟨[(.array .byte), .int], some .byte⟩ := by decide +kernel
theorem pn_15 : plainName "java/lang/String" = true := by first | (simp [plainName, overriddenIn]; done) | decide +kernel
theorem ef_16 (m : MethodId) (x0 : Addr) (x1 : Addr) : entryFrame m #[(.ref x0), (.ref x1)] 2 = mkF m 0 #[.val (.ref x0), .val (.ref x1)] [] := by first | (simp [entryFrame, mkF, argsToLocals, Value.category]; done) | rfl
theorem pd_17 : parseMethodDescriptor "([CIILjava/lang/Void;)V" = some ⟨[(.array .char), .int, .int, (.object "java/lang/Void")], none⟩ := by decide +kernel
theorem pn_18 : plainName "com/example/einstand/einstand/ValuationUnitIsWholePinLaw" = true := by first | (simp [plainName, overriddenIn]; done) | decide +kernel
theorem ef_19 (m : MethodId) (x0 : Int32) (x1 : Int32) : entryFrame m #[(.int x0), (.int x1)] 6 = mkF m 0 #[.val (.int x0), .val (.int x1), .unset, .unset, .unset, .unset] [] := by first | (simp [entryFrame, mkF, argsToLocals, Value.category]; done) | rfl
theorem pd_20 : parseMethodDescriptor "([C)V" = some ⟨[(.array .char)], none⟩ := by decide +kernel
theorem ef_21 (m : MethodId) (x0 : Addr) : entryFrame m #[(.ref x0)] 1 = mkF m 0 #[.val (.ref x0)] [] := by first | (simp [entryFrame, mkF, argsToLocals, Value.category]; done) | rfl
theorem pn_22 : plainName "java/lang/Record" = true := by first | (simp [plainName, overriddenIn]; done) | decide +kernel
theorem ef_23 (m : MethodId) (x0 : Addr) (x1 : Addr) (x2 : Addr) (x3 : Addr) : entryFrame m #[(.ref x0), (.ref x1), (.ref x2), (.ref x3)] 4 = mkF m 0 #[.val (.ref x0), .val (.ref x1), .val (.ref x2), .val (.ref x3)] [] := by first | (simp [entryFrame, mkF, argsToLocals, Value.category]; done) | rfl
theorem pd_24 : parseMethodDescriptor "()V" = some ⟨[], none⟩ := by decide +kernel
theorem pn_25 : plainName "com/example/einstand/einstand/ValuationUnit" = true := by first | (simp [plainName, overriddenIn]; done) | decide +kernel
theorem pd_26 : parseMethodDescriptor "()Z" = some ⟨[], some .boolean⟩ := by decide +kernel
theorem ef_27 (m : MethodId) (x0 : Int32) (x1 : Int32) (x2 : Int32) (x3 : Int32) (x4 : Int32) (x5 : Int32) : entryFrame m #[(.int x0), (.int x1), (.int x2), (.int x3), (.int x4), (.int x5)] maxLocals = mkF m 0 #[.val (.int x0), .val (.int x1), .val (.int x2), .val (.int x3), .val (.int x4), .val (.int x5), .unset, .unset, .unset, .unset, .unset] [] := by first | (simp [entryFrame, mkF, argsToLocals, Value.category, maxLocals]; done) | rfl
theorem pd_28 : parseMethodDescriptor "(II)Ljava/lang/String;" = some ⟨[.int, .int], some (.object "java/lang/String")⟩ := by decide +kernel
theorem pd_29 : parseMethodDescriptor "(Ljava/lang/String;Ljava/lang/String;Ljava/lang/String;)V" = some ⟨[(.object "java/lang/String"), (.object "java/lang/String"), (.object "java/lang/String")], none⟩ := by decide +kernel
/-- how many signs lead, none above 255 -/
def own_fb : List Int32 → Nat
  | [] => 0
  | c :: cs => if (255 : Int32) < c then 0 else own_fb cs + 1
def own_lo (c : Int32) : Int32 := c.toInt8.toInt32
def own_hi (c : Int32) : Int32 := (c >>> (8 : Int32)).toInt8.toInt32
def own_u16 : List Int32 → List Int32
  | [] => []
  | c :: cs => own_lo c :: own_hi c :: own_u16 cs
theorem own_u16_len : ∀ cs : List Int32, (own_u16 cs).length = 2 * cs.length
  | [] => rfl
  | c :: cs => by simp only [own_u16, List.length_cons, own_u16_len cs]; omega
theorem own_u16_app : ∀ cs ds : List Int32, own_u16 (cs ++ ds) = own_u16 cs ++ own_u16 ds
  | [], _ => rfl
  | c :: cs, ds => by simp only [List.cons_append, own_u16, own_u16_app cs ds]
theorem own_u16_get : ∀ (cs : List Int32) (i : Nat) (x : Int32), cs[i]? = some x → (own_u16 cs)[2 * i]? = some (own_lo x) ∧ (own_u16 cs)[2 * i + 1]? = some (own_hi x)
  | [], i, x, h => by simp at h
  | c :: cs, 0, x, h => by simp at h; subst h; exact ⟨rfl, rfl⟩
  | c :: cs, i + 1, x, h => by
    have q := own_u16_get cs i x (by simpa using h)
    have e1 : 2 * (i + 1) = 2 * i + 1 + 1 := by omega
    rw [e1]
    simpa [own_u16] using q
theorem own_fb_le : ∀ cs : List Int32, own_fb cs ≤ cs.length
  | [] => Nat.le_refl _
  | c :: cs => by
    unfold own_fb; split
    · exact Nat.zero_le _
    · have := own_fb_le cs; simp only [List.length_cons]; omega
theorem own_fb_cons (c : Int32) (cs : List Int32) : own_fb (c :: cs) = if (255 : Int32) < c then 0 else own_fb cs + 1 := rfl
theorem own_fb_all : ∀ cs : List Int32, own_fb cs = cs.length → ∀ c ∈ cs, ¬ (255 : Int32) < c
  | [], _, c, h => by simp at h
  | d :: cs, e, c, h => by
    rw [own_fb_cons] at e
    by_cases q : (255 : Int32) < d
    · rw [if_pos q] at e; simp at e
    · rw [if_neg q] at e
      rcases List.mem_cons.mp h with rfl | h
      · exact q
      · exact own_fb_all cs (by simpa using e) c h
theorem own_fb_at : ∀ cs : List Int32, own_fb cs < cs.length → ∃ x, cs[own_fb cs]? = some x ∧ (255 : Int32) < x
  | [], h => by simp [own_fb] at h
  | d :: cs, h => by
    rw [own_fb_cons] at h ⊢
    by_cases q : (255 : Int32) < d
    · rw [if_pos q]; exact ⟨d, rfl, q⟩
    · rw [if_neg q] at h ⊢
      obtain ⟨x, h1, h2⟩ := own_fb_at cs (by simpa using h)
      exact ⟨x, by simpa using h1, h2⟩
theorem own_fb_big {cs : List Int32} {i : Nat} {x : Int32} (h : own_fb cs = i + own_fb (cs.drop i)) (hx : cs[i]? = some x) (q : (255 : Int32) < x) : own_fb cs = i := by
  obtain ⟨hi, rfl⟩ := List.getElem?_eq_some_iff.mp hx
  rw [List.drop_eq_getElem_cons hi, own_fb_cons, if_pos q] at h
  exact h
theorem own_fb_small {cs : List Int32} {i : Nat} {x : Int32} (h : own_fb cs = i + own_fb (cs.drop i)) (hx : cs[i]? = some x) (q : ¬ (255 : Int32) < x) : own_fb cs = (i + 1) + own_fb (cs.drop (i + 1)) := by
  obtain ⟨hi, rfl⟩ := List.getElem?_eq_some_iff.mp hx
  rw [List.drop_eq_getElem_cons hi, own_fb_cons, if_neg q] at h
  omega
theorem own_set_step {α : Type} (pre : List α) (d x : α) (k : Nat) (i : Nat) (hi : pre.length = i) : (pre ++ List.replicate (k + 1) d).set i x = (pre ++ [x]) ++ List.replicate k d := by
  subst hi
  rw [List.set_append_right _ _ (Nat.le_refl _), Nat.sub_self, List.replicate_succ, List.set_cons_zero, List.append_assoc]; rfl
theorem own_take_succ {cs : List Int32} {i : Nat} {x : Int32} (hx : cs[i]? = some x) : cs.take (i + 1) = cs.take i ++ [x] := by
  rw [List.take_add_one, hx]; rfl
theorem own_succ (i : Nat) : Int32.ofNat i + (1 : Int32) = Int32.ofNat (i + 1) := by rw [Int32.ofNat_add]; rfl
theorem own_toInt {n : Nat} (hn : n < 2147483648) : (Int32.ofNat n).toInt = n := Int32.toInt_ofNat_small hn
theorem own_shl1 {i : Nat} (hi : i < 1000000000) : Int32.ofNat i <<< ((1 : Int32) &&& 31) = Int32.ofNat (2 * i) := by
  have e : ((1 : Int32) &&& 31) = 1 := by decide
  rw [e]
  apply Int32.toBitVec_inj.mp
  apply BitVec.eq_of_toNat_eq
  simp [Int32.toBitVec_shiftLeft, Nat.shiftLeft_eq]
  omega
theorem own_b0 (c : Int32) : nar .byte ((c >>> ((0 : Int32) &&& 31)).toInt8.toInt32) = own_lo c := by
  have e : ((0 : Int32) &&& 31) = 0 := by decide
  have e2 : c >>> (0 : Int32) = c := by simp
  rw [e, e2]; simp [nar, own_lo]
theorem own_b1 (c : Int32) : nar .byte ((c >>> ((8 : Int32) &&& 31)).toInt8.toInt32) = own_hi c := by
  have e : ((8 : Int32) &&& 31) = 8 := by decide
  rw [e]; simp [nar, own_hi]
def Su16 (Z : State) (z : Int32) : Prop := Sta Z Z.heap "java/lang/StringUTF16" "$assertionsDisabled" "Z" (.int 1) ∧ Sta Z Z.heap "java/lang/StringUTF16" "HI_BYTE_SHIFT" "I" (.int 0) ∧ Sta Z Z.heap "java/lang/StringUTF16" "LO_BYTE_SHIFT" "I" (.int 8) ∧ Sta Z Z.heap "java/lang/String" "COMPACT_STRINGS" "Z" (.int z) ∧ ¬ z = 0
def QP (val : Int32) (h0 : Heap) (n0 : Nat) (v : Option Value) (h : Heap) (L : List Loc) : Prop := v = some (.int val) ∧ Fr n0 L ∧ h = h0
theorem dnl_0 : decode jdk_52_method_3_code 0 = .ok (.iload_n 0, 1) := by decide +kernel
theorem dnl_1 : decode jdk_52_method_3_code 1 = .ok (.ifCond .ge 11, 3) := by decide +kernel
theorem dnl_12 : decode jdk_52_method_3_code 12 = .ok (.iload_n 0, 1) := by decide +kernel
theorem dnl_13 : decode jdk_52_method_3_code 13 = .ok (.ldc 20, 2) := by decide +kernel
theorem dnl_15 : decode jdk_52_method_3_code 15 = .ok (.if_icmp .lt 40, 3) := by decide +kernel
theorem dnl_55 : decode jdk_52_method_3_code 55 = .ok (.iload_n 0, 1) := by decide +kernel
theorem dnl_56 : decode jdk_52_method_3_code 56 = .ok (.iconst 1, 1) := by decide +kernel
theorem dnl_57 : decode jdk_52_method_3_code 57 = .ok (.ishl, 1) := by decide +kernel
theorem dnl_58 : decode jdk_52_method_3_code 58 = .ok (.ireturn, 1) := by decide +kernel
set_option maxRecDepth 65536 in
set_option maxHeartbeats 40000000 in
theorem rmNL (l : Launch) (Z : State) (a0 : Array Value) (hw : ∀ d ∈ tables_1, d.before a0 Z = true) (n : Nat) (hn : n ≤ 100000) (h0 : Heap) (n0 : Nat) :
    Ctr l Z (⟨"java/lang/StringUTF16", "newBytesLength", "(I)I"⟩ : MethodName) jdk_52_method_3_code 1 (some .int) [] ({ frames := 0, cells := 0, slots := 0, locals := 0 } : Room) #[(.int (Int32.ofNat n))] h0 (QP (Int32.ofNat (2 * n)) h0 n0) := by
  refine Ctr.of (plainFor_of_name pn_1) ?_
  intro p e s m below meth c s₁ hx hby hml hown hnm hret hlk hZ X0 e0
  refine Go.cast (ef_0 m (Int32.ofNat n)) ?_
  show Go p e below _ s₁ (mkF m 0 #[.val (.int (Int32.ofNat n))] [])
  refine Go.st (fun _ k => XS.iloadN X0.here hx rfl (hb hby dnl_0) rfl k) ?_
  show Go p e below _ s₁ (mkF m 1 #[.val (.int (Int32.ofNat n))] [(.int (Int32.ofNat n))])
  have q1 := own_ofNat_nn (n := n) (by omega)
  refine Go.st (fun _ k => XS.ifYes X0.here hx rfl (pc0 := 1) (pc' := 12) rfl (hb hby dnl_1) rfl (XT.i0_ge_t q1) (by decide) (by decide) k) ?_
  show Go p e below _ s₁ (mkF m 12 #[.val (.int (Int32.ofNat n))] [])
  refine Go.st (fun _ k => XS.iloadN X0.here hx rfl (hb hby dnl_12) rfl k) ?_
  show Go p e below _ s₁ (mkF m 13 #[.val (.int (Int32.ofNat n))] [(.int (Int32.ofNat n))])
  refine Go.st (fun _ k => X0.ldcI hx hown (mvT hZ (hw _ (List.mem_of_getElem? (i := 79) rfl))) rfl (hb hby dnl_13) k) ?_
  show Go p e below _ s₁ (mkF m 15 #[.val (.int (Int32.ofNat n))] [(.int (1073741823 : Int32)), (.int (Int32.ofNat n))])
  have q2 : Int32.ofNat n < (1073741823 : Int32) := by rw [Int32.lt_iff_toInt_lt, own_toInt (by omega)]; show (n : Int) < 1073741823; omega
  refine Go.st (fun _ k => XS.icmpYes X0.here hx rfl (pc0 := 15) (pc' := 55) rfl (hb hby dnl_15) rfl (XT.ii_lt_t q2) (by decide) (by decide) k) ?_
  show Go p e below _ s₁ (mkF m 55 #[.val (.int (Int32.ofNat n))] [])
  refine Go.st (fun _ k => XS.iloadN X0.here hx rfl (hb hby dnl_55) rfl k) ?_
  show Go p e below _ s₁ (mkF m 56 #[.val (.int (Int32.ofNat n))] [(.int (Int32.ofNat n))])
  refine Go.st (fun _ k => XS.iconst X0.here hx rfl (hb hby dnl_56) k) ?_
  show Go p e below _ s₁ (mkF m 57 #[.val (.int (Int32.ofNat n))] [(.int (1 : Int32)), (.int (Int32.ofNat n))])
  refine Go.st (fun _ k => XT.ishl X0.here hx rfl (hb hby dnl_57) rfl k) ?_
  show Go p e below _ s₁ (mkF m 58 #[.val (.int (Int32.ofNat n))] [(.int ((Int32.ofNat n) <<< ((1 : Int32) &&& 31)))])
  rw [own_shl1 (by omega)]
  exact Go.retI X0 hx hret hlk (hb hby dnl_58) ⟨rfl, Fr.nil n0, e0⟩ (Nat.le_refl _) (Nat.le_refl _)
theorem dnf_0 : decode jdk_52_method_2_code 0 = .ok (.iload_n 0, 1) := by decide +kernel
theorem dnf_1 : decode jdk_52_method_2_code 1 = .ok (.invokestatic 11, 3) := by decide +kernel
theorem dnf_4 : decode jdk_52_method_2_code 4 = .ok (.newarray .byte, 2) := by decide +kernel
theorem dnf_6 : decode jdk_52_method_2_code 6 = .ok (.areturn, 1) := by decide +kernel
def QNF (Z : State) (n : Nat) (h0 : Heap) (n0 : Nat) (v : Option Value) (h : Heap) (L : List Loc) : Prop := v = some (.ref h0.size) ∧ Fr n0 L ∧ Ext h0 h ∧ AI Z h h0.size .byte (List.replicate (2 * n) 0)
set_option maxRecDepth 65536 in
set_option maxHeartbeats 40000000 in
theorem rmNF (l : Launch) (Z : State) (a0 : Array Value) (hw : ∀ d ∈ tables_1, d.before a0 Z = true) (n : Nat) (hn : n ≤ 100000) (h0 : Heap) (n0 : Nat) :
    Ctr l Z (⟨"java/lang/StringUTF16", "newBytesFor", "(I)[B"⟩ : MethodName) jdk_52_method_2_code 1 (some (.array .byte)) [] ({ frames := 1, cells := 1, slots := 2 * n, locals := 12 } : Room) #[(.int (Int32.ofNat n))] h0 (QNF Z n h0 n0) := by
  refine Ctr.of (plainFor_of_name pn_1) ?_
  intro p e s m below meth c s₁ hx hby hml hown hnm hret hlk hZ X0 e0
  refine Go.cast (ef_0 m (Int32.ofNat n)) ?_
  show Go p e below _ s₁ (mkF m 0 #[.val (.int (Int32.ofNat n))] [])
  refine Go.st (fun _ k => XS.iloadN X0.here hx rfl (hb hby dnf_0) rfl k) ?_
  show Go p e below _ s₁ (mkF m 1 #[.val (.int (Int32.ofNat n))] [(.int (Int32.ofNat n))])
  refine Go.callS X0 hx (y := (⟨"java/lang/StringUTF16", "newBytesLength", "(I)I"⟩ : MethodName)) hown (mvT hZ (hw _ (List.mem_of_getElem? (i := 76) rfl))) (mvT hZ (hw _ (List.mem_of_getElem? (i := 77) rfl))) (mvT hZ (hw _ (List.mem_of_getElem? (i := 34) rfl))) (mvT hZ (hw _ (List.mem_of_getElem? (i := 78) rfl))) (by decide) (Ctr.back (W := 0) (rmNL l Z a0 hw n hn h0 n0) hZ (hw _ (List.mem_of_getElem? (i := 78) rfl)) (hw _ (List.mem_of_getElem? (i := 34) rfl)) (by (try dsimp only [room_1]); (try simp only [List.length_cons, List.length_nil]); omega) (by (try dsimp only [room_1]); (try simp only [List.length_cons, List.length_nil]); omega)) e0 (g := (mkF m 1 #[.val (.int (Int32.ofNat n))] [(.int (Int32.ofNat n))])) rfl (by rw [hml]; rfl) (argsL := [(.int (Int32.ofNat n))]) (rest := []) (lenOf pd_2 rfl) rfl (by show 2 * 0 + _ ≤ _; exact Nat.le_of_eq rfl) (hb hby dnf_1) rfl (by (try dsimp only [room_1]); (try simp only [List.length_cons, List.length_nil]); omega) (by (try dsimp only [room_1]); (try simp only [List.length_cons, List.length_nil]); omega) ?_
  rintro _ T1 L1 X1 ⟨rfl, N1, e1⟩
  show Go p e below _ T1 (mkF m 4 #[.val (.int (Int32.ofNat n))] [(.int (Int32.ofNat (2 * n)))])
  refine Go.newarr X1 hx hZ (ty := .byte) rfl rfl (hw _ (List.mem_of_getElem? (i := 24) rfl)) e1 (g := (mkF m 4 #[.val (.int (Int32.ofNat n))] [(.int (Int32.ofNat (2 * n)))])) rfl (hb hby dnf_4) rfl (n := 2 * n) rfl (by omega) (by (try dsimp only [room_1]); (try simp only [List.length_cons, List.length_nil]); omega) (by (try dsimp only [room_1]); (try simp only [List.length_cons, List.length_nil]); omega) ?_
  rintro T2 h2 X2 e2 E2 l2 A2
  show Go p e below _ T2 (mkF m 6 #[.val (.int (Int32.ofNat n))] [(.ref h0.size)])
  exact Go.retV X2 hx hret hlk rfl rfl (hb hby dnf_6) ⟨rfl, Fr.app (Fr.nil n0) N1, e2 ▸ E2, e2 ▸ A2⟩ (by (try dsimp only [room_1]); (try simp only [List.length_cons, List.length_nil]); omega) (by (try dsimp only [room_1]); (try simp only [List.length_cons, List.length_nil]); omega)
theorem dpc_0 : decode jdk_52_method_4_code 0 = .ok (.getstatic 44, 3) := by decide +kernel
theorem dpc_3 : decode jdk_52_method_4_code 3 = .ok (.ifCond .ne 25, 3) := by decide +kernel
theorem dpc_28 : decode jdk_52_method_4_code 28 = .ok (.iload_n 1, 1) := by decide +kernel
theorem dpc_29 : decode jdk_52_method_4_code 29 = .ok (.iconst 1, 1) := by decide +kernel
theorem dpc_30 : decode jdk_52_method_4_code 30 = .ok (.ishl, 1) := by decide +kernel
theorem dpc_31 : decode jdk_52_method_4_code 31 = .ok (.istore_n 1, 1) := by decide +kernel
theorem dpc_32 : decode jdk_52_method_4_code 32 = .ok (.aload_n 0, 1) := by decide +kernel
theorem dpc_33 : decode jdk_52_method_4_code 33 = .ok (.iload_n 1, 1) := by decide +kernel
theorem dpc_34 : decode jdk_52_method_4_code 34 = .ok (.iinc 1 1, 3) := by decide +kernel
theorem dpc_37 : decode jdk_52_method_4_code 37 = .ok (.iload_n 2, 1) := by decide +kernel
theorem dpc_38 : decode jdk_52_method_4_code 38 = .ok (.getstatic 59, 3) := by decide +kernel
theorem dpc_41 : decode jdk_52_method_4_code 41 = .ok (.ishr, 1) := by decide +kernel
theorem dpc_42 : decode jdk_52_method_4_code 42 = .ok (.i2b, 1) := by decide +kernel
theorem dpc_43 : decode jdk_52_method_4_code 43 = .ok (.bastore, 1) := by decide +kernel
theorem dpc_44 : decode jdk_52_method_4_code 44 = .ok (.aload_n 0, 1) := by decide +kernel
theorem dpc_45 : decode jdk_52_method_4_code 45 = .ok (.iload_n 1, 1) := by decide +kernel
theorem dpc_46 : decode jdk_52_method_4_code 46 = .ok (.iload_n 2, 1) := by decide +kernel
theorem dpc_47 : decode jdk_52_method_4_code 47 = .ok (.getstatic 63, 3) := by decide +kernel
theorem dpc_50 : decode jdk_52_method_4_code 50 = .ok (.ishr, 1) := by decide +kernel
theorem dpc_51 : decode jdk_52_method_4_code 51 = .ok (.i2b, 1) := by decide +kernel
theorem dpc_52 : decode jdk_52_method_4_code 52 = .ok (.bastore, 1) := by decide +kernel
theorem dpc_53 : decode jdk_52_method_4_code 53 = .ok (.return_, 1) := by decide +kernel
def QPC (Z : State) (a : Addr) (xs : List Int32) (h0 : Heap) (n0 : Nat) (v : Option Value) (h : Heap) (L : List Loc) : Prop := v = none ∧ Fr n0 L ∧ Keep h0 h [a] ∧ AI Z h a .byte xs
set_option maxRecDepth 65536 in
set_option maxHeartbeats 40000000 in
theorem rmPC (l : Launch) (Z : State) (a0 : Array Value) (hw : ∀ d ∈ tables_1, d.before a0 Z = true) (z : Int32) (Su : Su16 Z z) (a : Addr) (xs : List Int32) (i : Nat) (x : Int32) (hl : xs.length ≤ 1000000) (hi : 2 * i + 1 < xs.length) (h0 : Heap) (n0 : Nat) (O : Old Z n0 h0) (hna : n0 ≤ a) (A : AI Z h0 a .byte xs) :
    Ctr l Z (⟨"java/lang/StringUTF16", "putChar", "([BII)V"⟩ : MethodName) jdk_52_method_4_code 3 none [] ({ frames := 0, cells := 0, slots := 0, locals := 0 } : Room) #[(.ref a), (.int (Int32.ofNat i)), (.int x)] h0 (QPC Z a ((xs.set (2 * i) (own_lo x)).set (2 * i + 1) (own_hi x)) h0 n0) := by
  refine Ctr.of (plainFor_of_name pn_1) ?_
  intro p e s m below meth c s₁ hx hby hml hown hnm hret hlk hZ X0 e0
  refine Go.cast (ef_3 m a (Int32.ofNat i) x) ?_
  show Go p e below _ s₁ (mkF m 0 #[.val (.ref a), .val (.int (Int32.ofNat i)), .val (.int x)] [])
  obtain ⟨T1, X1, e1, st1⟩ := getS2 X0 hx hZ hown (host := "") (Or.inl (hw _ (List.mem_of_getElem? (i := 83) rfl))) Via.refl e0 (Su.1.ext O.2) (g := (mkF m 0 #[.val (.ref a), .val (.int (Int32.ofNat i)), .val (.int x)] [])) rfl (hb hby dpc_0)
  refine Go.st st1 ?_
  show Go p e below _ T1 (mkF m 3 #[.val (.ref a), .val (.int (Int32.ofNat i)), .val (.int x)] [(.int (1 : Int32))])
  refine Go.st (fun _ k => XS.ifYes X1.here hx rfl (pc0 := 3) (pc' := 28) rfl (hb hby dpc_3) rfl (XT.i0_ne_t (by decide)) (by decide) (by decide) k) ?_
  show Go p e below _ T1 (mkF m 28 #[.val (.ref a), .val (.int (Int32.ofNat i)), .val (.int x)] [])
  refine Go.st (fun _ k => XS.iloadN X1.here hx rfl (hb hby dpc_28) rfl k) ?_
  show Go p e below _ T1 (mkF m 29 #[.val (.ref a), .val (.int (Int32.ofNat i)), .val (.int x)] [(.int (Int32.ofNat i))])
  refine Go.st (fun _ k => XS.iconst X1.here hx rfl (hb hby dpc_29) k) ?_
  show Go p e below _ T1 (mkF m 30 #[.val (.ref a), .val (.int (Int32.ofNat i)), .val (.int x)] [(.int (1 : Int32)), (.int (Int32.ofNat i))])
  refine Go.st (fun _ k => XT.ishl X1.here hx rfl (hb hby dpc_30) rfl k) ?_
  show Go p e below _ T1 (mkF m 31 #[.val (.ref a), .val (.int (Int32.ofNat i)), .val (.int x)] [(.int ((Int32.ofNat i) <<< ((1 : Int32) &&& 31)))])
  rw [own_shl1 (by omega)]
  show Go p e below _ T1 (mkF m 31 #[.val (.ref a), .val (.int (Int32.ofNat i)), .val (.int x)] [(.int (Int32.ofNat (2 * i)))])
  refine Go.st (fun _ k => XS.istoreN X1.here hx rfl (hb hby dpc_31) rfl (l' := #[.val (.ref a), .val (.int (Int32.ofNat (2 * i))), .val (.int x)]) rfl k) ?_
  show Go p e below _ T1 (mkF m 32 #[.val (.ref a), .val (.int (Int32.ofNat (2 * i))), .val (.int x)] [])
  refine Go.st (fun _ k => XS.aloadN X1.here hx rfl (hb hby dpc_32) rfl rfl k) ?_
  show Go p e below _ T1 (mkF m 33 #[.val (.ref a), .val (.int (Int32.ofNat (2 * i))), .val (.int x)] [(.ref a)])
  refine Go.st (fun _ k => XS.iloadN X1.here hx rfl (hb hby dpc_33) rfl k) ?_
  show Go p e below _ T1 (mkF m 34 #[.val (.ref a), .val (.int (Int32.ofNat (2 * i))), .val (.int x)] [(.int (Int32.ofNat (2 * i))), (.ref a)])
  refine Go.st (fun _ k => XS.iinc X1.here hx rfl (hb hby dpc_34) rfl (l' := #[.val (.ref a), .val (.int ((Int32.ofNat (2 * i)) + (1 : Int32))), .val (.int x)]) rfl k) ?_
  show Go p e below _ T1 (mkF m 37 #[.val (.ref a), .val (.int ((Int32.ofNat (2 * i)) + (1 : Int32))), .val (.int x)] [(.int (Int32.ofNat (2 * i))), (.ref a)])
  rw [own_succ]
  show Go p e below _ T1 (mkF m 37 #[.val (.ref a), .val (.int (Int32.ofNat (2 * i + 1))), .val (.int x)] [(.int (Int32.ofNat (2 * i))), (.ref a)])
  refine Go.st (fun _ k => XS.iloadN X1.here hx rfl (hb hby dpc_37) rfl k) ?_
  show Go p e below _ T1 (mkF m 38 #[.val (.ref a), .val (.int (Int32.ofNat (2 * i + 1))), .val (.int x)] [(.int x), (.int (Int32.ofNat (2 * i))), (.ref a)])
  obtain ⟨T2, X2, e2, st2⟩ := getS2 X1 hx hZ hown (host := "") (Or.inl (hw _ (List.mem_of_getElem? (i := 84) rfl))) Via.refl e1 (Su.2.1.ext O.2) (g := (mkF m 38 #[.val (.ref a), .val (.int (Int32.ofNat (2 * i + 1))), .val (.int x)] [(.int x), (.int (Int32.ofNat (2 * i))), (.ref a)])) rfl (hb hby dpc_38)
  refine Go.st st2 ?_
  show Go p e below _ T2 (mkF m 41 #[.val (.ref a), .val (.int (Int32.ofNat (2 * i + 1))), .val (.int x)] [(.int (0 : Int32)), (.int x), (.int (Int32.ofNat (2 * i))), (.ref a)])
  refine Go.st (fun _ k => XT.ishr X2.here hx rfl (hb hby dpc_41) rfl k) ?_
  show Go p e below _ T2 (mkF m 42 #[.val (.ref a), .val (.int (Int32.ofNat (2 * i + 1))), .val (.int x)] [(.int (x >>> ((0 : Int32) &&& 31))), (.int (Int32.ofNat (2 * i))), (.ref a)])
  refine Go.st (fun _ k => XT.i2b X2.here hx rfl (hb hby dpc_42) rfl k) ?_
  show Go p e below _ T2 (mkF m 43 #[.val (.ref a), .val (.int (Int32.ofNat (2 * i + 1))), .val (.int x)] [(.int ((x >>> ((0 : Int32) &&& 31)).toInt8.toInt32)), (.int (Int32.ofNat (2 * i))), (.ref a)])
  refine Go.bastore X2 hx hZ e2 A (i := 2 * i) rfl (by omega) (g := (mkF m 43 #[.val (.ref a), .val (.int (Int32.ofNat (2 * i + 1))), .val (.int x)] [(.int ((x >>> ((0 : Int32) &&& 31)).toInt8.toInt32)), (.int (Int32.ofNat (2 * i))), (.ref a)])) rfl rfl (hb hby dpc_43) ?_
  rintro T3 h3 X3 e3 W3 A3
  have sW3 := W3.size
  show Go p e below _ T3 (mkF m 44 #[.val (.ref a), .val (.int (Int32.ofNat (2 * i + 1))), .val (.int x)] [])
  refine Go.st (fun _ k => XS.aloadN X3.here hx rfl (hb hby dpc_44) rfl rfl k) ?_
  show Go p e below _ T3 (mkF m 45 #[.val (.ref a), .val (.int (Int32.ofNat (2 * i + 1))), .val (.int x)] [(.ref a)])
  refine Go.st (fun _ k => XS.iloadN X3.here hx rfl (hb hby dpc_45) rfl k) ?_
  show Go p e below _ T3 (mkF m 46 #[.val (.ref a), .val (.int (Int32.ofNat (2 * i + 1))), .val (.int x)] [(.int (Int32.ofNat (2 * i + 1))), (.ref a)])
  refine Go.st (fun _ k => XS.iloadN X3.here hx rfl (hb hby dpc_46) rfl k) ?_
  show Go p e below _ T3 (mkF m 47 #[.val (.ref a), .val (.int (Int32.ofNat (2 * i + 1))), .val (.int x)] [(.int x), (.int (Int32.ofNat (2 * i + 1))), (.ref a)])
  have O3 := O.wr W3 hna
  obtain ⟨T4, X4, e4, st4⟩ := getS2 X3 hx hZ hown (host := "") (Or.inl (hw _ (List.mem_of_getElem? (i := 85) rfl))) Via.refl e3 (Su.2.2.1.ext O3.2) (g := (mkF m 47 #[.val (.ref a), .val (.int (Int32.ofNat (2 * i + 1))), .val (.int x)] [(.int x), (.int (Int32.ofNat (2 * i + 1))), (.ref a)])) rfl (hb hby dpc_47)
  refine Go.st st4 ?_
  show Go p e below _ T4 (mkF m 50 #[.val (.ref a), .val (.int (Int32.ofNat (2 * i + 1))), .val (.int x)] [(.int (8 : Int32)), (.int x), (.int (Int32.ofNat (2 * i + 1))), (.ref a)])
  refine Go.st (fun _ k => XT.ishr X4.here hx rfl (hb hby dpc_50) rfl k) ?_
  show Go p e below _ T4 (mkF m 51 #[.val (.ref a), .val (.int (Int32.ofNat (2 * i + 1))), .val (.int x)] [(.int (x >>> ((8 : Int32) &&& 31))), (.int (Int32.ofNat (2 * i + 1))), (.ref a)])
  refine Go.st (fun _ k => XT.i2b X4.here hx rfl (hb hby dpc_51) rfl k) ?_
  show Go p e below _ T4 (mkF m 52 #[.val (.ref a), .val (.int (Int32.ofNat (2 * i + 1))), .val (.int x)] [(.int ((x >>> ((8 : Int32) &&& 31)).toInt8.toInt32)), (.int (Int32.ofNat (2 * i + 1))), (.ref a)])
  refine Go.bastore X4 hx hZ e4 A3 (i := 2 * i + 1) rfl (by rw [List.length_set]; omega) (g := (mkF m 52 #[.val (.ref a), .val (.int (Int32.ofNat (2 * i + 1))), .val (.int x)] [(.int ((x >>> ((8 : Int32) &&& 31)).toInt8.toInt32)), (.int (Int32.ofNat (2 * i + 1))), (.ref a)])) rfl rfl (hb hby dpc_52) ?_
  rintro T5 h5 X5 e5 W5 A5
  have sW5 := W5.size
  show Go p e below _ T5 (mkF m 53 #[.val (.ref a), .val (.int (Int32.ofNat (2 * i + 1))), .val (.int x)] [])
  have K5 : Keep h0 h5 [a] := ((Keep.refl h0 [a]).wr W3 (Or.inl (List.mem_cons_self ..))).wr W5 (Or.inl (List.mem_cons_self ..))
  rw [own_b0] at A5
  rw [own_b1] at A5
  exact Go.ret0 X5 hx hret hlk (hb hby dpc_53) ⟨rfl, Fr.snoc X5 (Fr.snoc X3 (Fr.nil n0) hna) hna, e5 ▸ K5, e5 ▸ A5⟩ (Nat.le_refl _) (Nat.le_refl _)
theorem own_u16_step {cs : List Int32} {i k : Nat} {x : Int32} (hx : cs[i]? = some x) : ((own_u16 (cs.take i) ++ List.replicate (2 * (k + 1)) 0).set (2 * i) (own_lo x)).set (2 * i + 1) (own_hi x) = own_u16 (cs.take (i + 1)) ++ List.replicate (2 * k) 0 := by
  have hi := (List.getElem?_eq_some_iff.mp hx).1
  have hl : (own_u16 (cs.take i)).length = 2 * i := by rw [own_u16_len, List.length_take, Nat.min_eq_left (by omega)]
  have e : 2 * (k + 1) = (2 * k + 1) + 1 := by omega
  rw [e, own_set_step _ _ _ _ _ hl, own_set_step _ _ _ _ _ (by rw [List.length_append, hl]; rfl), own_take_succ hx, own_u16_app]
  simp [own_u16]
def QTB (Z : State) (b : Addr) (cs : List Int32) (h0 : Heap) (n0 : Nat) (v : Option Value) (h : Heap) (L : List Loc) : Prop := v = some (.ref b) ∧ Fr n0 L ∧ Keep h0 h [] ∧ AI Z h b .byte (own_u16 cs)
theorem dtb_0 : decode jdk_52_method_14_code 0 = .ok (.iload_n 2, 1) := by decide +kernel
theorem dtb_1 : decode jdk_52_method_14_code 1 = .ok (.invokestatic 107, 3) := by decide +kernel
theorem dtb_4 : decode jdk_52_method_14_code 4 = .ok (.astore_n 3, 1) := by decide +kernel
theorem dtb_5 : decode jdk_52_method_14_code 5 = .ok (.iconst 0, 1) := by decide +kernel
theorem dtb_6 : decode jdk_52_method_14_code 6 = .ok (.istore 4, 2) := by decide +kernel
theorem dtb_8 : decode jdk_52_method_14_code 8 = .ok (.iload 4, 2) := by decide +kernel
theorem dtb_10 : decode jdk_52_method_14_code 10 = .ok (.iload_n 2, 1) := by decide +kernel
theorem dtb_11 : decode jdk_52_method_14_code 11 = .ok (.if_icmp .ge 21, 3) := by decide +kernel
theorem dtb_14 : decode jdk_52_method_14_code 14 = .ok (.aload_n 3, 1) := by decide +kernel
theorem dtb_15 : decode jdk_52_method_14_code 15 = .ok (.iload 4, 2) := by decide +kernel
theorem dtb_17 : decode jdk_52_method_14_code 17 = .ok (.aload_n 0, 1) := by decide +kernel
theorem dtb_18 : decode jdk_52_method_14_code 18 = .ok (.iload_n 1, 1) := by decide +kernel
theorem dtb_19 : decode jdk_52_method_14_code 19 = .ok (.caload, 1) := by decide +kernel
theorem dtb_20 : decode jdk_52_method_14_code 20 = .ok (.invokestatic 111, 3) := by decide +kernel
theorem dtb_23 : decode jdk_52_method_14_code 23 = .ok (.iinc 1 1, 3) := by decide +kernel
theorem dtb_26 : decode jdk_52_method_14_code 26 = .ok (.iinc 4 1, 3) := by decide +kernel
theorem dtb_29 : decode jdk_52_method_14_code 29 = .ok (.goto (-21), 3) := by decide +kernel
theorem dtb_32 : decode jdk_52_method_14_code 32 = .ok (.aload_n 3, 1) := by decide +kernel
theorem dtb_33 : decode jdk_52_method_14_code 33 = .ok (.areturn, 1) := by decide +kernel
set_option maxRecDepth 65536 in
set_option maxHeartbeats 40000000 in
theorem lpTB (l : Launch) (Z : State) (a0 : Array Value) (hw : ∀ d ∈ tables_1, d.before a0 Z = true) (z : Int32) (Su : Su16 Z z) (cs : List Int32) (a b : Addr) (h0 h1 : Heap) (n0 : Nat) (hn : cs.length ≤ 4000) {p : Program} {e : Env} {s : State} {m : MethodId} {args : Array Value} {below : List Frame} {meth : Method} {c : Code} (hx : p.tables.exec = Jvm.exec) (hby : c.code = jdk_52_method_14_code) (hml : c.maxLocals = 5) (hown : s.vm.findClass "java/lang/StringUTF16" = some m.cls) (hret : meth.sig.returnType = some (.array .byte)) (hlk : meth.locks = false) (hZ : Z.Warmed39 s.vm) (hb0 : h0.size ≤ b) (hnb : n0 ≤ b) (hab : a ≠ b) (Eb : Ext h0 h1) :
    ∀ (k i : Nat) (T : State) (h : Heap) (locs : List Loc), i + k = cs.length → Stand p l e ({ frames := 2, cells := 1, slots := 2 * cs.length, locals := 24 } : Room) s m args below meth c T locs 1 (2 * cs.length) → T.heap = h → Old Z n0 h → AI Z h a .char cs → AI Z h b .byte (own_u16 (cs.take i) ++ List.replicate (2 * k) 0) → Fr n0 locs → Keep h1 h [b] →
      Go p e below (EndQ s (QTB Z b cs h0 n0) 1 (2 * cs.length)) T (mkF m 8 #[.val (.ref a), .val (.int (Int32.ofNat i)), .val (.int (Int32.ofNat cs.length)), .val (.ref b), .val (.int (Int32.ofNat i))] []) := by
  intro k
  induction k with
  | zero =>
    intro i T h locs hik X1 e1 O A B N K
    show Go p e below _ T (mkF m 8 #[.val (.ref a), .val (.int (Int32.ofNat i)), .val (.int (Int32.ofNat cs.length)), .val (.ref b), .val (.int (Int32.ofNat i))] [])
    refine Go.st (fun _ k => XS.iload X1.here hx rfl (hb hby dtb_8) rfl k) ?_
    show Go p e below _ T (mkF m 10 #[.val (.ref a), .val (.int (Int32.ofNat i)), .val (.int (Int32.ofNat cs.length)), .val (.ref b), .val (.int (Int32.ofNat i))] [(.int (Int32.ofNat i))])
    refine Go.st (fun _ k => XS.iloadN X1.here hx rfl (hb hby dtb_10) rfl k) ?_
    show Go p e below _ T (mkF m 11 #[.val (.ref a), .val (.int (Int32.ofNat i)), .val (.int (Int32.ofNat cs.length)), .val (.ref b), .val (.int (Int32.ofNat i))] [(.int (Int32.ofNat cs.length)), (.int (Int32.ofNat i))])
    have q : ¬ Int32.ofNat i < Int32.ofNat cs.length := by rw [show i = cs.length by omega]; exact fun q => Int32.lt_irrefl q
    refine Go.st (fun _ k => XS.icmpYes X1.here hx rfl (pc0 := 11) (pc' := 32) rfl (hb hby dtb_11) rfl (XT.ii_ge_t q) (by decide) (by decide) k) ?_
    show Go p e below _ T (mkF m 32 #[.val (.ref a), .val (.int (Int32.ofNat i)), .val (.int (Int32.ofNat cs.length)), .val (.ref b), .val (.int (Int32.ofNat i))] [])
    refine Go.st (fun _ k => XS.aloadN X1.here hx rfl (hb hby dtb_32) rfl rfl k) ?_
    show Go p e below _ T (mkF m 33 #[.val (.ref a), .val (.int (Int32.ofNat i)), .val (.int (Int32.ofNat cs.length)), .val (.ref b), .val (.int (Int32.ofNat i))] [(.ref b)])
    have B' : AI Z h b .byte (own_u16 cs) := by have q := B; rw [show i = cs.length by omega, List.take_length] at q; simpa using q
    exact Go.retV X1 hx hret hlk rfl rfl (hb hby dtb_33) ⟨rfl, N, e1 ▸ ((Keep.refl h0 []).ext Eb).trans K (fun x q => Or.inr (by cases List.mem_singleton.mp q; exact hb0)), e1 ▸ B'⟩ (Nat.le_refl _) (Nat.le_refl _)
  | succ k ih =>
    intro i T h locs hik X1 e1 O A B N K
    show Go p e below _ T (mkF m 8 #[.val (.ref a), .val (.int (Int32.ofNat i)), .val (.int (Int32.ofNat cs.length)), .val (.ref b), .val (.int (Int32.ofNat i))] [])
    refine Go.st (fun _ k => XS.iload X1.here hx rfl (hb hby dtb_8) rfl k) ?_
    show Go p e below _ T (mkF m 10 #[.val (.ref a), .val (.int (Int32.ofNat i)), .val (.int (Int32.ofNat cs.length)), .val (.ref b), .val (.int (Int32.ofNat i))] [(.int (Int32.ofNat i))])
    refine Go.st (fun _ k => XS.iloadN X1.here hx rfl (hb hby dtb_10) rfl k) ?_
    show Go p e below _ T (mkF m 11 #[.val (.ref a), .val (.int (Int32.ofNat i)), .val (.int (Int32.ofNat cs.length)), .val (.ref b), .val (.int (Int32.ofNat i))] [(.int (Int32.ofNat cs.length)), (.int (Int32.ofNat i))])
    refine Go.st (fun _ k => XS.icmpNo X1.here hx rfl (hb hby dtb_11) rfl (XT.ii_ge_f (own_ofNat_lt (by omega) (by omega))) k) ?_
    show Go p e below _ T (mkF m 14 #[.val (.ref a), .val (.int (Int32.ofNat i)), .val (.int (Int32.ofNat cs.length)), .val (.ref b), .val (.int (Int32.ofNat i))] [])
    refine Go.st (fun _ k => XS.aloadN X1.here hx rfl (hb hby dtb_14) rfl rfl k) ?_
    show Go p e below _ T (mkF m 15 #[.val (.ref a), .val (.int (Int32.ofNat i)), .val (.int (Int32.ofNat cs.length)), .val (.ref b), .val (.int (Int32.ofNat i))] [(.ref b)])
    refine Go.st (fun _ k => XS.iload X1.here hx rfl (hb hby dtb_15) rfl k) ?_
    show Go p e below _ T (mkF m 17 #[.val (.ref a), .val (.int (Int32.ofNat i)), .val (.int (Int32.ofNat cs.length)), .val (.ref b), .val (.int (Int32.ofNat i))] [(.int (Int32.ofNat i)), (.ref b)])
    refine Go.st (fun _ k => XS.aloadN X1.here hx rfl (hb hby dtb_17) rfl rfl k) ?_
    show Go p e below _ T (mkF m 18 #[.val (.ref a), .val (.int (Int32.ofNat i)), .val (.int (Int32.ofNat cs.length)), .val (.ref b), .val (.int (Int32.ofNat i))] [(.ref a), (.int (Int32.ofNat i)), (.ref b)])
    refine Go.st (fun _ k => XS.iloadN X1.here hx rfl (hb hby dtb_18) rfl k) ?_
    show Go p e below _ T (mkF m 19 #[.val (.ref a), .val (.int (Int32.ofNat i)), .val (.int (Int32.ofNat cs.length)), .val (.ref b), .val (.int (Int32.ofNat i))] [(.int (Int32.ofNat i)), (.ref a), (.int (Int32.ofNat i)), (.ref b)])
    obtain ⟨x, hxi⟩ : ∃ x, cs[i]? = some x := ⟨_, List.getElem?_eq_getElem (by omega)⟩
    refine Go.caload X1 hx hZ e1 A (i := i) (x := x) rfl hxi (g := (mkF m 19 #[.val (.ref a), .val (.int (Int32.ofNat i)), .val (.int (Int32.ofNat cs.length)), .val (.ref b), .val (.int (Int32.ofNat i))] [(.int (Int32.ofNat i)), (.ref a), (.int (Int32.ofNat i)), (.ref b)])) rfl rfl (hb hby dtb_19) ?_
    show Go p e below _ T (mkF m 20 #[.val (.ref a), .val (.int (Int32.ofNat i)), .val (.int (Int32.ofNat cs.length)), .val (.ref b), .val (.int (Int32.ofNat i))] [(.int x), (.int (Int32.ofNat i)), (.ref b)])
    have hlen : (own_u16 (cs.take i) ++ List.replicate (2 * (k + 1)) (0 : Int32)).length = 2 * i + 2 * (k + 1) := by rw [List.length_append, own_u16_len, List.length_take, Nat.min_eq_left (by omega), List.length_replicate]
    refine Go.callS X1 hx (y := (⟨"java/lang/StringUTF16", "putChar", "([BII)V"⟩ : MethodName)) hown (mvT hZ (hw _ (List.mem_of_getElem? (i := 80) rfl))) (mvT hZ (hw _ (List.mem_of_getElem? (i := 81) rfl))) (mvT hZ (hw _ (List.mem_of_getElem? (i := 34) rfl))) (mvT hZ (hw _ (List.mem_of_getElem? (i := 82) rfl))) (by decide) (Ctr.back (W := 0) (rmPC l Z a0 hw z Su b _ i x (by rw [hlen]; omega) (by rw [hlen]; omega) h n0 O hnb B) hZ (hw _ (List.mem_of_getElem? (i := 82) rfl)) (hw _ (List.mem_of_getElem? (i := 34) rfl)) (by (try dsimp only [room_1]); (try simp only [List.length_cons, List.length_nil]); omega) (by (try dsimp only [room_1]); (try simp only [List.length_cons, List.length_nil]); omega)) e1 (g := (mkF m 20 #[.val (.ref a), .val (.int (Int32.ofNat i)), .val (.int (Int32.ofNat cs.length)), .val (.ref b), .val (.int (Int32.ofNat i))] [(.int x), (.int (Int32.ofNat i)), (.ref b)])) rfl (by rw [hml]; rfl) (argsL := [(.ref b), (.int (Int32.ofNat i)), (.int x)]) (rest := []) (lenOf pd_4 rfl) rfl (by show 2 * 0 + _ ≤ _; exact Nat.le_of_eq rfl) (hb hby dtb_20) rfl (by (try dsimp only [room_1]); (try simp only [List.length_cons, List.length_nil]); omega) (by (try dsimp only [room_1]); (try simp only [List.length_cons, List.length_nil]); omega) ?_
    rintro _ T2 L2 X2 ⟨rfl, N2, K2, B2⟩
    show Go p e below _ T2 (mkF m 23 #[.val (.ref a), .val (.int (Int32.ofNat i)), .val (.int (Int32.ofNat cs.length)), .val (.ref b), .val (.int (Int32.ofNat i))] [])
    rw [own_u16_step hxi] at B2
    refine Go.st (fun _ k => XS.iinc X2.here hx rfl (hb hby dtb_23) rfl (l' := #[.val (.ref a), .val (.int ((Int32.ofNat i) + (1 : Int32))), .val (.int (Int32.ofNat cs.length)), .val (.ref b), .val (.int (Int32.ofNat i))]) rfl k) ?_
    show Go p e below _ T2 (mkF m 26 #[.val (.ref a), .val (.int ((Int32.ofNat i) + (1 : Int32))), .val (.int (Int32.ofNat cs.length)), .val (.ref b), .val (.int (Int32.ofNat i))] [])
    rw [own_succ]
    show Go p e below _ T2 (mkF m 26 #[.val (.ref a), .val (.int (Int32.ofNat (i + 1))), .val (.int (Int32.ofNat cs.length)), .val (.ref b), .val (.int (Int32.ofNat i))] [])
    refine Go.st (fun _ k => XS.iinc X2.here hx rfl (hb hby dtb_26) rfl (l' := #[.val (.ref a), .val (.int (Int32.ofNat (i + 1))), .val (.int (Int32.ofNat cs.length)), .val (.ref b), .val (.int ((Int32.ofNat i) + (1 : Int32)))]) rfl k) ?_
    show Go p e below _ T2 (mkF m 29 #[.val (.ref a), .val (.int (Int32.ofNat (i + 1))), .val (.int (Int32.ofNat cs.length)), .val (.ref b), .val (.int ((Int32.ofNat i) + (1 : Int32)))] [])
    rw [own_succ]
    show Go p e below _ T2 (mkF m 29 #[.val (.ref a), .val (.int (Int32.ofNat (i + 1))), .val (.int (Int32.ofNat cs.length)), .val (.ref b), .val (.int (Int32.ofNat (i + 1)))] [])
    refine Go.st (fun _ k => XS.goto X2.here hx rfl (pc0 := 29) (pc' := 8) rfl (hb hby dtb_29) (by decide) (by decide) k) ?_
    show Go p e below _ T2 (mkF m 8 #[.val (.ref a), .val (.int (Int32.ofNat (i + 1))), .val (.int (Int32.ofNat cs.length)), .val (.ref b), .val (.int (Int32.ofNat (i + 1)))] [])
    exact ih (i + 1) T2 T2.heap _ (by omega) X2 rfl (O.keep K2 (allS hnb all0)) (A.keep K2 (ninS hab nin0)) B2 (Fr.app N N2) (K.trans K2 (fun x q => Or.inl q))
set_option maxRecDepth 65536 in
set_option maxHeartbeats 40000000 in
theorem rmTB (l : Launch) (Z : State) (a0 : Array Value) (hw : ∀ d ∈ tables_1, d.before a0 Z = true) (z : Int32) (Su : Su16 Z z) (cs : List Int32) (a : Addr) (h0 : Heap) (n0 : Nat) (hn : cs.length ≤ 4000) (hZ0 : n0 ≤ h0.size) (O : Old Z n0 h0) (A : AI Z h0 a .char cs) :
    Ctr l Z (⟨"java/lang/StringUTF16", "toBytes", "([CII)[B"⟩ : MethodName) jdk_52_method_14_code 5 (some (.array .byte)) [] ({ frames := 2, cells := 1, slots := 2 * cs.length, locals := 24 } : Room) #[(.ref a), (.int (Int32.ofNat 0)), (.int (Int32.ofNat cs.length))] h0 (QTB Z h0.size cs h0 n0) := by
  refine Ctr.of (plainFor_of_name pn_1) ?_
  intro p e s m below meth c s₁ hx hby hml hown hnm hret hlk hZ X0 e0
  refine Go.cast (ef_5 m a (Int32.ofNat 0) (Int32.ofNat cs.length)) ?_
  show Go p e below _ s₁ (mkF m 0 #[.val (.ref a), .val (.int (Int32.ofNat 0)), .val (.int (Int32.ofNat cs.length)), .unset, .unset] [])
  refine Go.st (fun _ k => XS.iloadN X0.here hx rfl (hb hby dtb_0) rfl k) ?_
  show Go p e below _ s₁ (mkF m 1 #[.val (.ref a), .val (.int (Int32.ofNat 0)), .val (.int (Int32.ofNat cs.length)), .unset, .unset] [(.int (Int32.ofNat cs.length))])
  refine Go.callS X0 hx (y := (⟨"java/lang/StringUTF16", "newBytesFor", "(I)[B"⟩ : MethodName)) hown (mvT hZ (hw _ (List.mem_of_getElem? (i := 73) rfl))) (mvT hZ (hw _ (List.mem_of_getElem? (i := 74) rfl))) (mvT hZ (hw _ (List.mem_of_getElem? (i := 34) rfl))) (mvT hZ (hw _ (List.mem_of_getElem? (i := 75) rfl))) (by decide) (Ctr.back (W := 0) (rmNF l Z a0 hw cs.length (by omega) h0 n0) hZ (hw _ (List.mem_of_getElem? (i := 75) rfl)) (hw _ (List.mem_of_getElem? (i := 34) rfl)) (by (try dsimp only [room_1]); (try simp only [List.length_cons, List.length_nil]); omega) (by (try dsimp only [room_1]); (try simp only [List.length_cons, List.length_nil]); omega)) e0 (g := (mkF m 1 #[.val (.ref a), .val (.int (Int32.ofNat 0)), .val (.int (Int32.ofNat cs.length)), .unset, .unset] [(.int (Int32.ofNat cs.length))])) rfl (by rw [hml]; rfl) (argsL := [(.int (Int32.ofNat cs.length))]) (rest := []) (lenOf pd_6 rfl) rfl (by show 2 * 0 + _ ≤ _; exact Nat.le_of_eq rfl) (hb hby dtb_1) rfl (by (try dsimp only [room_1]); (try simp only [List.length_cons, List.length_nil]); omega) (by (try dsimp only [room_1]); (try simp only [List.length_cons, List.length_nil]); omega) ?_
  rintro _ T1 L1 X1 ⟨rfl, N1, E1, B1⟩
  show Go p e below _ T1 (mkF m 4 #[.val (.ref a), .val (.int (Int32.ofNat 0)), .val (.int (Int32.ofNat cs.length)), .unset, .unset] [(.ref h0.size)])
  refine Go.st (fun _ k => XS.astoreN X1.here hx rfl (hb hby dtb_4) rfl rfl (l' := #[.val (.ref a), .val (.int (Int32.ofNat 0)), .val (.int (Int32.ofNat cs.length)), .val (.ref h0.size), .unset]) rfl k) ?_
  show Go p e below _ T1 (mkF m 5 #[.val (.ref a), .val (.int (Int32.ofNat 0)), .val (.int (Int32.ofNat cs.length)), .val (.ref h0.size), .unset] [])
  refine Go.st (fun _ k => XS.iconst X1.here hx rfl (hb hby dtb_5) k) ?_
  show Go p e below _ T1 (mkF m 6 #[.val (.ref a), .val (.int (Int32.ofNat 0)), .val (.int (Int32.ofNat cs.length)), .val (.ref h0.size), .unset] [(.int (0 : Int32))])
  refine Go.st (fun _ k => XS.istore X1.here hx rfl (hb hby dtb_6) rfl (l' := #[.val (.ref a), .val (.int (Int32.ofNat 0)), .val (.int (Int32.ofNat cs.length)), .val (.ref h0.size), .val (.int (0 : Int32))]) rfl k) ?_
  show Go p e below _ T1 (mkF m 8 #[.val (.ref a), .val (.int (Int32.ofNat 0)), .val (.int (Int32.ofNat cs.length)), .val (.ref h0.size), .val (.int (0 : Int32))] [])
  exact lpTB l Z a0 hw z Su cs a h0.size h0 T1.heap n0 hn hx hby hml hown hret hlk hZ (Nat.le_refl _) hZ0 (Nat.ne_of_lt A.lt) E1 cs.length 0 T1 T1.heap _ (by omega) (X1.mono (by (try dsimp only [room_1]); (try simp only [List.length_cons, List.length_nil]); omega) (by (try dsimp only [room_1]); (try simp only [List.length_cons, List.length_nil]); omega)) rfl (O.ext E1) (A.ext E1) (by simpa [own_u16] using B1) (Fr.app (Fr.nil n0) N1) (Keep.refl _ _)
theorem own_mask (c : Int32) : c.toInt8.toInt32 &&& (255 : Int32) = c &&& (255 : Int32) := by
  apply Int32.toBitVec_inj.mp
  apply BitVec.eq_of_getLsbD_eq
  intro i hi
  simp only [Int32.toBitVec_and, BitVec.getLsbD_and]
  by_cases q : i < 8
  · have : (c.toInt8.toInt32.toBitVec).getLsbD i = c.toBitVec.getLsbD i := by
      show ((c.toBitVec.signExtend 8).signExtend 32).getLsbD i = _
      rw [BitVec.signExtend_eq_setWidth_of_le c.toBitVec (by omega : 8 ≤ 32), BitVec.getLsbD_signExtend]
      simp [q, hi]
    rw [this]
  · have z : (255 : Int32).toBitVec.getLsbD i = false := by
      have : ∀ j : Fin 32, ¬ j.val < 8 → (255 : Int32).toBitVec.getLsbD j.val = false := by decide
      exact this ⟨i, hi⟩ q
    rw [z, Bool.and_false, Bool.and_false]
theorem own_get16k (c : Int32) (hlt : c.toBitVec.toNat < 65536) : ((c &&& (255 : Int32)) <<< (0 : Int32) ||| ((c >>> (8 : Int32)) &&& (255 : Int32)) <<< (8 : Int32)) = c := by
  have e0 : (c &&& (255 : Int32)) <<< (0 : Int32) = c &&& 255 := by simp
  rw [e0]
  apply Int32.toBitVec_inj.mp
  have hm : c.toBitVec.msb = false := by rw [BitVec.msb_eq_false_iff_two_mul_lt]; omega
  have e1 : ((c &&& (255 : Int32)) ||| ((c >>> (8 : Int32)) &&& (255 : Int32)) <<< (8 : Int32)).toBitVec = (c.toBitVec &&& 255#32) ||| (((c.toBitVec.sshiftRight 8) &&& 255#32) <<< 8) := by
    rfl
  rw [e1, BitVec.sshiftRight_eq_of_msb_false hm]
  apply BitVec.eq_of_toNat_eq
  rw [BitVec.toNat_or, BitVec.toNat_and, BitVec.toNat_shiftLeft, BitVec.toNat_and, BitVec.toNat_ushiftRight]
  have e2 : (255#32).toNat = 2 ^ 8 - 1 := by decide
  rw [e2, Nat.and_two_pow_sub_one_eq_mod, Nat.and_two_pow_sub_one_eq_mod, Nat.shiftRight_eq_div_pow, Nat.mod_eq_of_lt (a := c.toBitVec.toNat / 2 ^ 8) (by omega), Nat.mod_eq_of_lt (a := (c.toBitVec.toNat / 2 ^ 8) <<< 8) (by rw [Nat.shiftLeft_eq]; omega), Nat.or_comm, ← Nat.shiftLeft_add_eq_or_of_lt (by omega), Nat.shiftLeft_eq]
  omega
theorem own_char (c : Int32) (h1 : ¬ c < 0) (h2 : ¬ (65535 : Int32) < c) : c.toUInt32.toUInt16.toUInt32.toInt32 = c := by
  rw [Int32.lt_iff_toInt_lt] at h1 h2
  have e1 : (65535 : Int32).toInt = 65535 := rfl
  have e2 : (0 : Int32).toInt = 0 := rfl
  apply Int32.toBitVec_inj.mp
  apply BitVec.eq_of_toNat_eq
  have q : c.toInt = c.toBitVec.toInt := rfl
  rw [q, BitVec.toInt_eq_toNat_cond] at h1 h2
  have hb := c.toBitVec.isLt
  show ((c.toBitVec.setWidth 16).setWidth 32).toNat = _
  simp
  split at h1 <;> omega
theorem own_get16 (c : Int32) (h1 : ¬ c < 0) (h2 : ¬ (65535 : Int32) < c) : nar .char (((own_lo c &&& (255 : Int32)) <<< ((0 : Int32) &&& 31) ||| (own_hi c &&& (255 : Int32)) <<< ((8 : Int32) &&& 31)).toUInt32.toUInt16.toUInt32.toInt32) = c := by
  have e0 : ((0 : Int32) &&& 31) = 0 := by decide
  have e8 : ((8 : Int32) &&& 31) = 8 := by decide
  have k : ((own_lo c &&& (255 : Int32)) <<< ((0 : Int32) &&& 31) ||| (own_hi c &&& (255 : Int32)) <<< ((8 : Int32) &&& 31)) = c := by
    rw [e0, e8]
    unfold own_lo own_hi
    rw [own_mask, own_mask]
    have hlt : c.toBitVec.toNat < 65536 := by
      rw [Int32.lt_iff_toInt_lt] at h1 h2
      have e1 : (65535 : Int32).toInt = 65535 := rfl
      have e2 : (0 : Int32).toInt = 0 := rfl
      have q : c.toInt = c.toBitVec.toInt := rfl
      rw [q, BitVec.toInt_eq_toNat_cond] at h1 h2
      have hb := c.toBitVec.isLt
      split at h1 <;> omega
    exact own_get16k c hlt
  rw [k, own_char c h1 h2]
  show c.toUInt32.toUInt16.toUInt32.toInt32 = c
  exact own_char c h1 h2
theorem dgc_0 : decode jdk_52_method_5_code 0 = .ok (.getstatic 44, 3) := by decide +kernel
theorem dgc_3 : decode jdk_52_method_5_code 3 = .ok (.ifCond .ne 25, 3) := by decide +kernel
theorem dgc_28 : decode jdk_52_method_5_code 28 = .ok (.iload_n 1, 1) := by decide +kernel
theorem dgc_29 : decode jdk_52_method_5_code 29 = .ok (.iconst 1, 1) := by decide +kernel
theorem dgc_30 : decode jdk_52_method_5_code 30 = .ok (.ishl, 1) := by decide +kernel
theorem dgc_31 : decode jdk_52_method_5_code 31 = .ok (.istore_n 1, 1) := by decide +kernel
theorem dgc_32 : decode jdk_52_method_5_code 32 = .ok (.aload_n 0, 1) := by decide +kernel
theorem dgc_33 : decode jdk_52_method_5_code 33 = .ok (.iload_n 1, 1) := by decide +kernel
theorem dgc_34 : decode jdk_52_method_5_code 34 = .ok (.iinc 1 1, 3) := by decide +kernel
theorem dgc_37 : decode jdk_52_method_5_code 37 = .ok (.baload, 1) := by decide +kernel
theorem dgc_38 : decode jdk_52_method_5_code 38 = .ok (.sipush 255, 3) := by decide +kernel
theorem dgc_41 : decode jdk_52_method_5_code 41 = .ok (.iand, 1) := by decide +kernel
theorem dgc_42 : decode jdk_52_method_5_code 42 = .ok (.getstatic 59, 3) := by decide +kernel
theorem dgc_45 : decode jdk_52_method_5_code 45 = .ok (.ishl, 1) := by decide +kernel
theorem dgc_46 : decode jdk_52_method_5_code 46 = .ok (.aload_n 0, 1) := by decide +kernel
theorem dgc_47 : decode jdk_52_method_5_code 47 = .ok (.iload_n 1, 1) := by decide +kernel
theorem dgc_48 : decode jdk_52_method_5_code 48 = .ok (.baload, 1) := by decide +kernel
theorem dgc_49 : decode jdk_52_method_5_code 49 = .ok (.sipush 255, 3) := by decide +kernel
theorem dgc_52 : decode jdk_52_method_5_code 52 = .ok (.iand, 1) := by decide +kernel
theorem dgc_53 : decode jdk_52_method_5_code 53 = .ok (.getstatic 63, 3) := by decide +kernel
theorem dgc_56 : decode jdk_52_method_5_code 56 = .ok (.ishl, 1) := by decide +kernel
theorem dgc_57 : decode jdk_52_method_5_code 57 = .ok (.ior, 1) := by decide +kernel
theorem dgc_58 : decode jdk_52_method_5_code 58 = .ok (.i2c, 1) := by decide +kernel
theorem dgc_59 : decode jdk_52_method_5_code 59 = .ok (.ireturn, 1) := by decide +kernel
set_option maxRecDepth 65536 in
set_option maxHeartbeats 40000000 in
theorem rmGC (l : Launch) (Z : State) (a0 : Array Value) (hw : ∀ d ∈ tables_1, d.before a0 Z = true) (z : Int32) (Su : Su16 Z z) (cs : List Int32) (b : Addr) (i : Nat) (x : Int32) (hl : cs.length ≤ 4000) (hxi : cs[i]? = some x) (h1 : ¬ x < 0) (h2 : ¬ (65535 : Int32) < x) (h0 : Heap) (n0 : Nat) (O : Old Z n0 h0) (B : AI Z h0 b .byte (own_u16 cs)) :
    Ctr l Z (⟨"java/lang/StringUTF16", "getChar", "([BI)C"⟩ : MethodName) jdk_52_method_5_code 2 (some .char) [] ({ frames := 0, cells := 0, slots := 0, locals := 0 } : Room) #[(.ref b), (.int (Int32.ofNat i))] h0 (QP x h0 n0) := by
  have hi := (List.getElem?_eq_some_iff.mp hxi).1
  refine Ctr.of (plainFor_of_name pn_1) ?_
  intro p e s m below meth c s₁ hx hby hml hown hnm hret hlk hZ X0 e0
  refine Go.cast (ef_7 m b (Int32.ofNat i)) ?_
  show Go p e below _ s₁ (mkF m 0 #[.val (.ref b), .val (.int (Int32.ofNat i))] [])
  obtain ⟨T1, X1, e1, st1⟩ := getS2 X0 hx hZ hown (host := "") (Or.inl (hw _ (List.mem_of_getElem? (i := 83) rfl))) Via.refl e0 (Su.1.ext O.2) (g := (mkF m 0 #[.val (.ref b), .val (.int (Int32.ofNat i))] [])) rfl (hb hby dgc_0)
  refine Go.st st1 ?_
  show Go p e below _ T1 (mkF m 3 #[.val (.ref b), .val (.int (Int32.ofNat i))] [(.int (1 : Int32))])
  refine Go.st (fun _ k => XS.ifYes X1.here hx rfl (pc0 := 3) (pc' := 28) rfl (hb hby dgc_3) rfl (XT.i0_ne_t (by decide)) (by decide) (by decide) k) ?_
  show Go p e below _ T1 (mkF m 28 #[.val (.ref b), .val (.int (Int32.ofNat i))] [])
  refine Go.st (fun _ k => XS.iloadN X1.here hx rfl (hb hby dgc_28) rfl k) ?_
  show Go p e below _ T1 (mkF m 29 #[.val (.ref b), .val (.int (Int32.ofNat i))] [(.int (Int32.ofNat i))])
  refine Go.st (fun _ k => XS.iconst X1.here hx rfl (hb hby dgc_29) k) ?_
  show Go p e below _ T1 (mkF m 30 #[.val (.ref b), .val (.int (Int32.ofNat i))] [(.int (1 : Int32)), (.int (Int32.ofNat i))])
  refine Go.st (fun _ k => XT.ishl X1.here hx rfl (hb hby dgc_30) rfl k) ?_
  show Go p e below _ T1 (mkF m 31 #[.val (.ref b), .val (.int (Int32.ofNat i))] [(.int ((Int32.ofNat i) <<< ((1 : Int32) &&& 31)))])
  rw [own_shl1 (by omega)]
  show Go p e below _ T1 (mkF m 31 #[.val (.ref b), .val (.int (Int32.ofNat i))] [(.int (Int32.ofNat (2 * i)))])
  refine Go.st (fun _ k => XS.istoreN X1.here hx rfl (hb hby dgc_31) rfl (l' := #[.val (.ref b), .val (.int (Int32.ofNat (2 * i)))]) rfl k) ?_
  show Go p e below _ T1 (mkF m 32 #[.val (.ref b), .val (.int (Int32.ofNat (2 * i)))] [])
  refine Go.st (fun _ k => XS.aloadN X1.here hx rfl (hb hby dgc_32) rfl rfl k) ?_
  show Go p e below _ T1 (mkF m 33 #[.val (.ref b), .val (.int (Int32.ofNat (2 * i)))] [(.ref b)])
  refine Go.st (fun _ k => XS.iloadN X1.here hx rfl (hb hby dgc_33) rfl k) ?_
  show Go p e below _ T1 (mkF m 34 #[.val (.ref b), .val (.int (Int32.ofNat (2 * i)))] [(.int (Int32.ofNat (2 * i))), (.ref b)])
  refine Go.st (fun _ k => XS.iinc X1.here hx rfl (hb hby dgc_34) rfl (l' := #[.val (.ref b), .val (.int ((Int32.ofNat (2 * i)) + (1 : Int32)))]) rfl k) ?_
  show Go p e below _ T1 (mkF m 37 #[.val (.ref b), .val (.int ((Int32.ofNat (2 * i)) + (1 : Int32)))] [(.int (Int32.ofNat (2 * i))), (.ref b)])
  rw [own_succ]
  show Go p e below _ T1 (mkF m 37 #[.val (.ref b), .val (.int (Int32.ofNat (2 * i + 1)))] [(.int (Int32.ofNat (2 * i))), (.ref b)])
  obtain ⟨hb0, hb1⟩ := own_u16_get cs i x hxi
  refine Go.baload X1 hx hZ e1 B (i := 2 * i) (x := (own_lo x)) rfl hb0 (g := (mkF m 37 #[.val (.ref b), .val (.int (Int32.ofNat (2 * i + 1)))] [(.int (Int32.ofNat (2 * i))), (.ref b)])) rfl rfl (hb hby dgc_37) ?_
  show Go p e below _ T1 (mkF m 38 #[.val (.ref b), .val (.int (Int32.ofNat (2 * i + 1)))] [(.int (own_lo x))])
  refine Go.st (fun _ k => XS.sipush X1.here hx rfl (hb hby dgc_38) k) ?_
  show Go p e below _ T1 (mkF m 41 #[.val (.ref b), .val (.int (Int32.ofNat (2 * i + 1)))] [(.int (255 : Int32)), (.int (own_lo x))])
  refine Go.st (fun _ k => XS.iand X1.here hx rfl (hb hby dgc_41) rfl k) ?_
  show Go p e below _ T1 (mkF m 42 #[.val (.ref b), .val (.int (Int32.ofNat (2 * i + 1)))] [(.int ((own_lo x) &&& (255 : Int32)))])
  obtain ⟨T2, X2, e2, st2⟩ := getS2 X1 hx hZ hown (host := "") (Or.inl (hw _ (List.mem_of_getElem? (i := 84) rfl))) Via.refl e1 (Su.2.1.ext O.2) (g := (mkF m 42 #[.val (.ref b), .val (.int (Int32.ofNat (2 * i + 1)))] [(.int ((own_lo x) &&& (255 : Int32)))])) rfl (hb hby dgc_42)
  refine Go.st st2 ?_
  show Go p e below _ T2 (mkF m 45 #[.val (.ref b), .val (.int (Int32.ofNat (2 * i + 1)))] [(.int (0 : Int32)), (.int ((own_lo x) &&& (255 : Int32)))])
  refine Go.st (fun _ k => XT.ishl X2.here hx rfl (hb hby dgc_45) rfl k) ?_
  show Go p e below _ T2 (mkF m 46 #[.val (.ref b), .val (.int (Int32.ofNat (2 * i + 1)))] [(.int (((own_lo x) &&& (255 : Int32)) <<< ((0 : Int32) &&& 31)))])
  refine Go.st (fun _ k => XS.aloadN X2.here hx rfl (hb hby dgc_46) rfl rfl k) ?_
  show Go p e below _ T2 (mkF m 47 #[.val (.ref b), .val (.int (Int32.ofNat (2 * i + 1)))] [(.ref b), (.int (((own_lo x) &&& (255 : Int32)) <<< ((0 : Int32) &&& 31)))])
  refine Go.st (fun _ k => XS.iloadN X2.here hx rfl (hb hby dgc_47) rfl k) ?_
  show Go p e below _ T2 (mkF m 48 #[.val (.ref b), .val (.int (Int32.ofNat (2 * i + 1)))] [(.int (Int32.ofNat (2 * i + 1))), (.ref b), (.int (((own_lo x) &&& (255 : Int32)) <<< ((0 : Int32) &&& 31)))])
  refine Go.baload X2 hx hZ e2 B (i := 2 * i + 1) (x := (own_hi x)) rfl hb1 (g := (mkF m 48 #[.val (.ref b), .val (.int (Int32.ofNat (2 * i + 1)))] [(.int (Int32.ofNat (2 * i + 1))), (.ref b), (.int (((own_lo x) &&& (255 : Int32)) <<< ((0 : Int32) &&& 31)))])) rfl rfl (hb hby dgc_48) ?_
  show Go p e below _ T2 (mkF m 49 #[.val (.ref b), .val (.int (Int32.ofNat (2 * i + 1)))] [(.int (own_hi x)), (.int (((own_lo x) &&& (255 : Int32)) <<< ((0 : Int32) &&& 31)))])
  refine Go.st (fun _ k => XS.sipush X2.here hx rfl (hb hby dgc_49) k) ?_
  show Go p e below _ T2 (mkF m 52 #[.val (.ref b), .val (.int (Int32.ofNat (2 * i + 1)))] [(.int (255 : Int32)), (.int (own_hi x)), (.int (((own_lo x) &&& (255 : Int32)) <<< ((0 : Int32) &&& 31)))])
  refine Go.st (fun _ k => XS.iand X2.here hx rfl (hb hby dgc_52) rfl k) ?_
  show Go p e below _ T2 (mkF m 53 #[.val (.ref b), .val (.int (Int32.ofNat (2 * i + 1)))] [(.int ((own_hi x) &&& (255 : Int32))), (.int (((own_lo x) &&& (255 : Int32)) <<< ((0 : Int32) &&& 31)))])
  obtain ⟨T3, X3, e3, st3⟩ := getS2 X2 hx hZ hown (host := "") (Or.inl (hw _ (List.mem_of_getElem? (i := 85) rfl))) Via.refl e2 (Su.2.2.1.ext O.2) (g := (mkF m 53 #[.val (.ref b), .val (.int (Int32.ofNat (2 * i + 1)))] [(.int ((own_hi x) &&& (255 : Int32))), (.int (((own_lo x) &&& (255 : Int32)) <<< ((0 : Int32) &&& 31)))])) rfl (hb hby dgc_53)
  refine Go.st st3 ?_
  show Go p e below _ T3 (mkF m 56 #[.val (.ref b), .val (.int (Int32.ofNat (2 * i + 1)))] [(.int (8 : Int32)), (.int ((own_hi x) &&& (255 : Int32))), (.int (((own_lo x) &&& (255 : Int32)) <<< ((0 : Int32) &&& 31)))])
  refine Go.st (fun _ k => XT.ishl X3.here hx rfl (hb hby dgc_56) rfl k) ?_
  show Go p e below _ T3 (mkF m 57 #[.val (.ref b), .val (.int (Int32.ofNat (2 * i + 1)))] [(.int (((own_hi x) &&& (255 : Int32)) <<< ((8 : Int32) &&& 31))), (.int (((own_lo x) &&& (255 : Int32)) <<< ((0 : Int32) &&& 31)))])
  refine Go.st (fun _ k => XT.ior X3.here hx rfl (hb hby dgc_57) rfl k) ?_
  show Go p e below _ T3 (mkF m 58 #[.val (.ref b), .val (.int (Int32.ofNat (2 * i + 1)))] [(.int ((((own_lo x) &&& (255 : Int32)) <<< ((0 : Int32) &&& 31)) ||| (((own_hi x) &&& (255 : Int32)) <<< ((8 : Int32) &&& 31))))])
  refine Go.st (fun _ k => XT.i2c X3.here hx rfl (hb hby dgc_58) rfl k) ?_
  show Go p e below _ T3 (mkF m 59 #[.val (.ref b), .val (.int (Int32.ofNat (2 * i + 1)))] [(.int (((((own_lo x) &&& (255 : Int32)) <<< ((0 : Int32) &&& 31)) ||| (((own_hi x) &&& (255 : Int32)) <<< ((8 : Int32) &&& 31))).toUInt32.toUInt16.toUInt32.toInt32))])
  exact Go.retB X3 hx hret hlk (Or.inr (Or.inr (Or.inl rfl))) (hb hby dgc_59) ⟨by rw [own_get16 x h1 h2], Fr.nil n0, e3⟩ (Nat.le_refl _) (Nat.le_refl _)
def QC5 (Z : State) (d : Addr) (cs : List Int32) (h0 : Heap) (n0 : Nat) (v : Option Value) (h : Heap) (L : List Loc) : Prop := v = some (.int (Int32.ofNat (own_fb cs))) ∧ Fr n0 L ∧ Keep h0 h [d] ∧ AI Z h d .byte ((cs.take (own_fb cs)).map own_lo ++ List.replicate (cs.length - own_fb cs) 0)
theorem own_c5_step {cs : List Int32} {i k : Nat} {x : Int32} (hx : cs[i]? = some x) (hik : i + (k + 1) = cs.length) : ((cs.take i).map own_lo ++ List.replicate (k + 1) 0).set i (own_lo x) = (cs.take (i + 1)).map own_lo ++ List.replicate k 0 := by
  have hi := (List.getElem?_eq_some_iff.mp hx).1
  rw [own_set_step _ _ _ _ _ (by rw [List.length_map, List.length_take, Nat.min_eq_left (by omega)]), own_take_succ hx, List.map_append]; rfl
theorem own_nar_lo (x : Int32) : nar .byte (x.toInt8.toInt32) = own_lo x := by simp [nar, own_lo]
theorem dc5_0 : decode jdk_52_method_21_code 0 = .ok (.iconst 0, 1) := by decide +kernel
theorem dc5_1 : decode jdk_52_method_21_code 1 = .ok (.istore 5, 2) := by decide +kernel
theorem dc5_3 : decode jdk_52_method_21_code 3 = .ok (.iload 5, 2) := by decide +kernel
theorem dc5_5 : decode jdk_52_method_21_code 5 = .ok (.iload 4, 2) := by decide +kernel
theorem dc5_7 : decode jdk_52_method_21_code 7 = .ok (.if_icmp .ge 37, 3) := by decide +kernel
theorem dc5_10 : decode jdk_52_method_21_code 10 = .ok (.aload_n 0, 1) := by decide +kernel
theorem dc5_11 : decode jdk_52_method_21_code 11 = .ok (.iload_n 1, 1) := by decide +kernel
theorem dc5_12 : decode jdk_52_method_21_code 12 = .ok (.caload, 1) := by decide +kernel
theorem dc5_13 : decode jdk_52_method_21_code 13 = .ok (.istore 6, 2) := by decide +kernel
theorem dc5_15 : decode jdk_52_method_21_code 15 = .ok (.iload 6, 2) := by decide +kernel
theorem dc5_17 : decode jdk_52_method_21_code 17 = .ok (.sipush 255, 3) := by decide +kernel
theorem dc5_20 : decode jdk_52_method_21_code 20 = .ok (.if_icmp .le 6, 3) := by decide +kernel
theorem dc5_23 : decode jdk_52_method_21_code 23 = .ok (.iload 5, 2) := by decide +kernel
theorem dc5_25 : decode jdk_52_method_21_code 25 = .ok (.ireturn, 1) := by decide +kernel
theorem dc5_26 : decode jdk_52_method_21_code 26 = .ok (.aload_n 2, 1) := by decide +kernel
theorem dc5_27 : decode jdk_52_method_21_code 27 = .ok (.iload_n 3, 1) := by decide +kernel
theorem dc5_28 : decode jdk_52_method_21_code 28 = .ok (.iload 6, 2) := by decide +kernel
theorem dc5_30 : decode jdk_52_method_21_code 30 = .ok (.i2b, 1) := by decide +kernel
theorem dc5_31 : decode jdk_52_method_21_code 31 = .ok (.bastore, 1) := by decide +kernel
theorem dc5_32 : decode jdk_52_method_21_code 32 = .ok (.iinc 1 1, 3) := by decide +kernel
theorem dc5_35 : decode jdk_52_method_21_code 35 = .ok (.iinc 3 1, 3) := by decide +kernel
theorem dc5_38 : decode jdk_52_method_21_code 38 = .ok (.iinc 5 1, 3) := by decide +kernel
theorem dc5_41 : decode jdk_52_method_21_code 41 = .ok (.goto (-38), 3) := by decide +kernel
theorem dc5_44 : decode jdk_52_method_21_code 44 = .ok (.iload 4, 2) := by decide +kernel
theorem dc5_46 : decode jdk_52_method_21_code 46 = .ok (.ireturn, 1) := by decide +kernel
set_option maxRecDepth 65536 in
set_option maxHeartbeats 40000000 in
theorem lpC5 (l : Launch) (Z : State) (a0 : Array Value) (hw : ∀ d ∈ tables_1, d.before a0 Z = true) (cs : List Int32) (a d : Addr) (h0 : Heap) (n0 : Nat) (hn : cs.length ≤ 4000) {p : Program} {e : Env} {s : State} {m : MethodId} {args : Array Value} {below : List Frame} {meth : Method} {c : Code} (hx : p.tables.exec = Jvm.exec) (hby : c.code = jdk_52_method_21_code) (hml : c.maxLocals = 7) (hown : s.vm.findClass "java/lang/StringUTF16" = some m.cls) (hret : meth.sig.returnType = some .int) (hlk : meth.locks = false) (hZ : Z.Warmed39 s.vm) (hnd : n0 ≤ d) (hab : a ≠ d) :
    ∀ (k i : Nat) (T : State) (h : Heap) (locs : List Loc) (s6 : Slot), i + k = cs.length → One s6 → Stand p l e ({ frames := 0, cells := 0, slots := 0, locals := 0 } : Room) s m args below meth c T locs 0 0 → T.heap = h → AI Z h a .char cs → AI Z h d .byte ((cs.take i).map own_lo ++ List.replicate k 0) → own_fb cs = i + own_fb (cs.drop i) → Fr n0 locs → Keep h0 h [d] →
      Go p e below (EndQ s (QC5 Z d cs h0 n0) 0 0) T (mkF m 3 #[.val (.ref a), .val (.int (Int32.ofNat i)), .val (.ref d), .val (.int (Int32.ofNat i)), .val (.int (Int32.ofNat cs.length)), .val (.int (Int32.ofNat i)), s6] []) := by
  intro k
  induction k with
  | zero =>
    intro i T h locs s6 hik o6 X1 e1 A D F N K
    show Go p e below _ T (mkF m 3 #[.val (.ref a), .val (.int (Int32.ofNat i)), .val (.ref d), .val (.int (Int32.ofNat i)), .val (.int (Int32.ofNat cs.length)), .val (.int (Int32.ofNat i)), s6] [])
    refine Go.st (fun _ k => XS.iload X1.here hx rfl (hb hby dc5_3) rfl k) ?_
    show Go p e below _ T (mkF m 5 #[.val (.ref a), .val (.int (Int32.ofNat i)), .val (.ref d), .val (.int (Int32.ofNat i)), .val (.int (Int32.ofNat cs.length)), .val (.int (Int32.ofNat i)), s6] [(.int (Int32.ofNat i))])
    refine Go.st (fun _ k => XS.iload X1.here hx rfl (hb hby dc5_5) rfl k) ?_
    show Go p e below _ T (mkF m 7 #[.val (.ref a), .val (.int (Int32.ofNat i)), .val (.ref d), .val (.int (Int32.ofNat i)), .val (.int (Int32.ofNat cs.length)), .val (.int (Int32.ofNat i)), s6] [(.int (Int32.ofNat cs.length)), (.int (Int32.ofNat i))])
    have q : ¬ Int32.ofNat i < Int32.ofNat cs.length := by rw [show i = cs.length by omega]; exact fun q => Int32.lt_irrefl q
    refine Go.st (fun _ k => XS.icmpYes X1.here hx rfl (pc0 := 7) (pc' := 44) rfl (hb hby dc5_7) rfl (XT.ii_ge_t q) (by decide) (by decide) k) ?_
    show Go p e below _ T (mkF m 44 #[.val (.ref a), .val (.int (Int32.ofNat i)), .val (.ref d), .val (.int (Int32.ofNat i)), .val (.int (Int32.ofNat cs.length)), .val (.int (Int32.ofNat i)), s6] [])
    refine Go.st (fun _ k => XS.iload X1.here hx rfl (hb hby dc5_44) rfl k) ?_
    show Go p e below _ T (mkF m 46 #[.val (.ref a), .val (.int (Int32.ofNat i)), .val (.ref d), .val (.int (Int32.ofNat i)), .val (.int (Int32.ofNat cs.length)), .val (.int (Int32.ofNat i)), s6] [(.int (Int32.ofNat cs.length))])
    have f : own_fb cs = cs.length := by have := own_fb_le cs; omega
    exact Go.retI X1 hx hret hlk (hb hby dc5_46) ⟨by rw [f], N, e1 ▸ K, by rw [f, e1]; have q := D; rw [show i = cs.length by omega] at q; simpa using q⟩ (Nat.le_refl _) (Nat.le_refl _)
  | succ k ih =>
    intro i T h locs s6 hik o6 X1 e1 A D F N K
    show Go p e below _ T (mkF m 3 #[.val (.ref a), .val (.int (Int32.ofNat i)), .val (.ref d), .val (.int (Int32.ofNat i)), .val (.int (Int32.ofNat cs.length)), .val (.int (Int32.ofNat i)), s6] [])
    refine Go.st (fun _ k => XS.iload X1.here hx rfl (hb hby dc5_3) rfl k) ?_
    show Go p e below _ T (mkF m 5 #[.val (.ref a), .val (.int (Int32.ofNat i)), .val (.ref d), .val (.int (Int32.ofNat i)), .val (.int (Int32.ofNat cs.length)), .val (.int (Int32.ofNat i)), s6] [(.int (Int32.ofNat i))])
    refine Go.st (fun _ k => XS.iload X1.here hx rfl (hb hby dc5_5) rfl k) ?_
    show Go p e below _ T (mkF m 7 #[.val (.ref a), .val (.int (Int32.ofNat i)), .val (.ref d), .val (.int (Int32.ofNat i)), .val (.int (Int32.ofNat cs.length)), .val (.int (Int32.ofNat i)), s6] [(.int (Int32.ofNat cs.length)), (.int (Int32.ofNat i))])
    refine Go.st (fun _ k => XS.icmpNo X1.here hx rfl (hb hby dc5_7) rfl (XT.ii_ge_f (own_ofNat_lt (by omega) (by omega))) k) ?_
    show Go p e below _ T (mkF m 10 #[.val (.ref a), .val (.int (Int32.ofNat i)), .val (.ref d), .val (.int (Int32.ofNat i)), .val (.int (Int32.ofNat cs.length)), .val (.int (Int32.ofNat i)), s6] [])
    refine Go.st (fun _ k => XS.aloadN X1.here hx rfl (hb hby dc5_10) rfl rfl k) ?_
    show Go p e below _ T (mkF m 11 #[.val (.ref a), .val (.int (Int32.ofNat i)), .val (.ref d), .val (.int (Int32.ofNat i)), .val (.int (Int32.ofNat cs.length)), .val (.int (Int32.ofNat i)), s6] [(.ref a)])
    refine Go.st (fun _ k => XS.iloadN X1.here hx rfl (hb hby dc5_11) rfl k) ?_
    show Go p e below _ T (mkF m 12 #[.val (.ref a), .val (.int (Int32.ofNat i)), .val (.ref d), .val (.int (Int32.ofNat i)), .val (.int (Int32.ofNat cs.length)), .val (.int (Int32.ofNat i)), s6] [(.int (Int32.ofNat i)), (.ref a)])
    obtain ⟨x, hxi⟩ : ∃ x, cs[i]? = some x := ⟨_, List.getElem?_eq_getElem (by omega)⟩
    refine Go.caload X1 hx hZ e1 A (i := i) (x := x) rfl hxi (g := (mkF m 12 #[.val (.ref a), .val (.int (Int32.ofNat i)), .val (.ref d), .val (.int (Int32.ofNat i)), .val (.int (Int32.ofNat cs.length)), .val (.int (Int32.ofNat i)), s6] [(.int (Int32.ofNat i)), (.ref a)])) rfl rfl (hb hby dc5_12) ?_
    show Go p e below _ T (mkF m 13 #[.val (.ref a), .val (.int (Int32.ofNat i)), .val (.ref d), .val (.int (Int32.ofNat i)), .val (.int (Int32.ofNat cs.length)), .val (.int (Int32.ofNat i)), s6] [(.int x)])
    refine Go.st (fun _ k => XS.istoreS X1.here hx rfl (hb hby dc5_13) rfl (k := 6) (o := s6) rfl o6 k) ?_
    show Go p e below _ T (mkF m 15 #[.val (.ref a), .val (.int (Int32.ofNat i)), .val (.ref d), .val (.int (Int32.ofNat i)), .val (.int (Int32.ofNat cs.length)), .val (.int (Int32.ofNat i)), .val (.int x)] [])
    refine Go.st (fun _ k => XS.iload X1.here hx rfl (hb hby dc5_15) rfl k) ?_
    show Go p e below _ T (mkF m 17 #[.val (.ref a), .val (.int (Int32.ofNat i)), .val (.ref d), .val (.int (Int32.ofNat i)), .val (.int (Int32.ofNat cs.length)), .val (.int (Int32.ofNat i)), .val (.int x)] [(.int x)])
    refine Go.st (fun _ k => XS.sipush X1.here hx rfl (hb hby dc5_17) k) ?_
    show Go p e below _ T (mkF m 20 #[.val (.ref a), .val (.int (Int32.ofNat i)), .val (.ref d), .val (.int (Int32.ofNat i)), .val (.int (Int32.ofNat cs.length)), .val (.int (Int32.ofNat i)), .val (.int x)] [(.int (255 : Int32)), (.int x)])
    by_cases q : (255 : Int32) < x
    · skip
      refine Go.st (fun _ k => XS.icmpNo X1.here hx rfl (hb hby dc5_20) rfl (XT.ii_le_f q) k) ?_
      show Go p e below _ T (mkF m 23 #[.val (.ref a), .val (.int (Int32.ofNat i)), .val (.ref d), .val (.int (Int32.ofNat i)), .val (.int (Int32.ofNat cs.length)), .val (.int (Int32.ofNat i)), .val (.int x)] [])
      refine Go.st (fun _ k => XS.iload X1.here hx rfl (hb hby dc5_23) rfl k) ?_
      show Go p e below _ T (mkF m 25 #[.val (.ref a), .val (.int (Int32.ofNat i)), .val (.ref d), .val (.int (Int32.ofNat i)), .val (.int (Int32.ofNat cs.length)), .val (.int (Int32.ofNat i)), .val (.int x)] [(.int (Int32.ofNat i))])
      have f := own_fb_big F hxi q
      exact Go.retI X1 hx hret hlk (hb hby dc5_25) ⟨by rw [f], N, e1 ▸ K, by rw [f, e1, show cs.length - i = k + 1 by omega]; exact D⟩ (Nat.le_refl _) (Nat.le_refl _)
    · skip
      refine Go.st (fun _ k => XS.icmpYes X1.here hx rfl (pc0 := 20) (pc' := 26) rfl (hb hby dc5_20) rfl (XT.ii_le_t q) (by decide) (by decide) k) ?_
      show Go p e below _ T (mkF m 26 #[.val (.ref a), .val (.int (Int32.ofNat i)), .val (.ref d), .val (.int (Int32.ofNat i)), .val (.int (Int32.ofNat cs.length)), .val (.int (Int32.ofNat i)), .val (.int x)] [])
      refine Go.st (fun _ k => XS.aloadN X1.here hx rfl (hb hby dc5_26) rfl rfl k) ?_
      show Go p e below _ T (mkF m 27 #[.val (.ref a), .val (.int (Int32.ofNat i)), .val (.ref d), .val (.int (Int32.ofNat i)), .val (.int (Int32.ofNat cs.length)), .val (.int (Int32.ofNat i)), .val (.int x)] [(.ref d)])
      refine Go.st (fun _ k => XS.iloadN X1.here hx rfl (hb hby dc5_27) rfl k) ?_
      show Go p e below _ T (mkF m 28 #[.val (.ref a), .val (.int (Int32.ofNat i)), .val (.ref d), .val (.int (Int32.ofNat i)), .val (.int (Int32.ofNat cs.length)), .val (.int (Int32.ofNat i)), .val (.int x)] [(.int (Int32.ofNat i)), (.ref d)])
      refine Go.st (fun _ k => XS.iload X1.here hx rfl (hb hby dc5_28) rfl k) ?_
      show Go p e below _ T (mkF m 30 #[.val (.ref a), .val (.int (Int32.ofNat i)), .val (.ref d), .val (.int (Int32.ofNat i)), .val (.int (Int32.ofNat cs.length)), .val (.int (Int32.ofNat i)), .val (.int x)] [(.int x), (.int (Int32.ofNat i)), (.ref d)])
      refine Go.st (fun _ k => XT.i2b X1.here hx rfl (hb hby dc5_30) rfl k) ?_
      show Go p e below _ T (mkF m 31 #[.val (.ref a), .val (.int (Int32.ofNat i)), .val (.ref d), .val (.int (Int32.ofNat i)), .val (.int (Int32.ofNat cs.length)), .val (.int (Int32.ofNat i)), .val (.int x)] [(.int x.toInt8.toInt32), (.int (Int32.ofNat i)), (.ref d)])
      refine Go.bastore X1 hx hZ e1 D (i := i) rfl (by rw [List.length_append, List.length_map, List.length_take, List.length_replicate]; omega) (g := (mkF m 31 #[.val (.ref a), .val (.int (Int32.ofNat i)), .val (.ref d), .val (.int (Int32.ofNat i)), .val (.int (Int32.ofNat cs.length)), .val (.int (Int32.ofNat i)), .val (.int x)] [(.int x.toInt8.toInt32), (.int (Int32.ofNat i)), (.ref d)])) rfl rfl (hb hby dc5_31) ?_
      rintro T2 h2 X2 e2 W2 A2
      have sW2 := W2.size
      show Go p e below _ T2 (mkF m 32 #[.val (.ref a), .val (.int (Int32.ofNat i)), .val (.ref d), .val (.int (Int32.ofNat i)), .val (.int (Int32.ofNat cs.length)), .val (.int (Int32.ofNat i)), .val (.int x)] [])
      rw [own_nar_lo, own_c5_step hxi hik] at A2
      refine Go.st (fun _ k => XS.iinc X2.here hx rfl (hb hby dc5_32) rfl (l' := #[.val (.ref a), .val (.int ((Int32.ofNat i) + (1 : Int32))), .val (.ref d), .val (.int (Int32.ofNat i)), .val (.int (Int32.ofNat cs.length)), .val (.int (Int32.ofNat i)), .val (.int x)]) rfl k) ?_
      show Go p e below _ T2 (mkF m 35 #[.val (.ref a), .val (.int ((Int32.ofNat i) + (1 : Int32))), .val (.ref d), .val (.int (Int32.ofNat i)), .val (.int (Int32.ofNat cs.length)), .val (.int (Int32.ofNat i)), .val (.int x)] [])
      rw [own_succ]
      show Go p e below _ T2 (mkF m 35 #[.val (.ref a), .val (.int (Int32.ofNat (i + 1))), .val (.ref d), .val (.int (Int32.ofNat i)), .val (.int (Int32.ofNat cs.length)), .val (.int (Int32.ofNat i)), .val (.int x)] [])
      refine Go.st (fun _ k => XS.iinc X2.here hx rfl (hb hby dc5_35) rfl (l' := #[.val (.ref a), .val (.int (Int32.ofNat (i + 1))), .val (.ref d), .val (.int ((Int32.ofNat i) + (1 : Int32))), .val (.int (Int32.ofNat cs.length)), .val (.int (Int32.ofNat i)), .val (.int x)]) rfl k) ?_
      show Go p e below _ T2 (mkF m 38 #[.val (.ref a), .val (.int (Int32.ofNat (i + 1))), .val (.ref d), .val (.int ((Int32.ofNat i) + (1 : Int32))), .val (.int (Int32.ofNat cs.length)), .val (.int (Int32.ofNat i)), .val (.int x)] [])
      rw [own_succ]
      show Go p e below _ T2 (mkF m 38 #[.val (.ref a), .val (.int (Int32.ofNat (i + 1))), .val (.ref d), .val (.int (Int32.ofNat (i + 1))), .val (.int (Int32.ofNat cs.length)), .val (.int (Int32.ofNat i)), .val (.int x)] [])
      refine Go.st (fun _ k => XS.iinc X2.here hx rfl (hb hby dc5_38) rfl (l' := #[.val (.ref a), .val (.int (Int32.ofNat (i + 1))), .val (.ref d), .val (.int (Int32.ofNat (i + 1))), .val (.int (Int32.ofNat cs.length)), .val (.int ((Int32.ofNat i) + (1 : Int32))), .val (.int x)]) rfl k) ?_
      show Go p e below _ T2 (mkF m 41 #[.val (.ref a), .val (.int (Int32.ofNat (i + 1))), .val (.ref d), .val (.int (Int32.ofNat (i + 1))), .val (.int (Int32.ofNat cs.length)), .val (.int ((Int32.ofNat i) + (1 : Int32))), .val (.int x)] [])
      rw [own_succ]
      show Go p e below _ T2 (mkF m 41 #[.val (.ref a), .val (.int (Int32.ofNat (i + 1))), .val (.ref d), .val (.int (Int32.ofNat (i + 1))), .val (.int (Int32.ofNat cs.length)), .val (.int (Int32.ofNat (i + 1))), .val (.int x)] [])
      refine Go.st (fun _ k => XS.goto X2.here hx rfl (pc0 := 41) (pc' := 3) rfl (hb hby dc5_41) (by decide) (by decide) k) ?_
      show Go p e below _ T2 (mkF m 3 #[.val (.ref a), .val (.int (Int32.ofNat (i + 1))), .val (.ref d), .val (.int (Int32.ofNat (i + 1))), .val (.int (Int32.ofNat cs.length)), .val (.int (Int32.ofNat (i + 1))), .val (.int x)] [])
      exact ih (i + 1) T2 h2 _ (.val (.int x)) (by omega) (One.val rfl) X2 e2 (A.other W2 hab) A2 (own_fb_small F hxi q) (Fr.snoc X2 N hnd) (K.wr W2 (Or.inl (List.mem_cons_self ..)))
set_option maxRecDepth 65536 in
set_option maxHeartbeats 40000000 in
theorem rmC5 (l : Launch) (Z : State) (a0 : Array Value) (hw : ∀ d ∈ tables_1, d.before a0 Z = true) (cs : List Int32) (a d : Addr) (h0 : Heap) (n0 : Nat) (hn : cs.length ≤ 4000) (hnd : n0 ≤ d) (hab : a ≠ d) (A : AI Z h0 a .char cs) (D : AI Z h0 d .byte (List.replicate cs.length 0)) :
    Ctr l Z (⟨"java/lang/StringUTF16", "compress", "([CI[BII)I"⟩ : MethodName) jdk_52_method_21_code 7 (some .int) [] ({ frames := 0, cells := 0, slots := 0, locals := 0 } : Room) #[(.ref a), (.int (Int32.ofNat 0)), (.ref d), (.int (Int32.ofNat 0)), (.int (Int32.ofNat cs.length))] h0 (QC5 Z d cs h0 n0) := by
  refine Ctr.of (plainFor_of_name pn_1) ?_
  intro p e s m below meth c s₁ hx hby hml hown hnm hret hlk hZ X0 e0
  refine Go.cast (ef_8 m a (Int32.ofNat 0) d (Int32.ofNat 0) (Int32.ofNat cs.length)) ?_
  show Go p e below _ s₁ (mkF m 0 #[.val (.ref a), .val (.int (Int32.ofNat 0)), .val (.ref d), .val (.int (Int32.ofNat 0)), .val (.int (Int32.ofNat cs.length)), .unset, .unset] [])
  refine Go.st (fun _ k => XS.iconst X0.here hx rfl (hb hby dc5_0) k) ?_
  show Go p e below _ s₁ (mkF m 1 #[.val (.ref a), .val (.int (Int32.ofNat 0)), .val (.ref d), .val (.int (Int32.ofNat 0)), .val (.int (Int32.ofNat cs.length)), .unset, .unset] [(.int (0 : Int32))])
  refine Go.st (fun _ k => XS.istore X0.here hx rfl (hb hby dc5_1) rfl (l' := #[.val (.ref a), .val (.int (Int32.ofNat 0)), .val (.ref d), .val (.int (Int32.ofNat 0)), .val (.int (Int32.ofNat cs.length)), .val (.int (0 : Int32)), .unset]) rfl k) ?_
  show Go p e below _ s₁ (mkF m 3 #[.val (.ref a), .val (.int (Int32.ofNat 0)), .val (.ref d), .val (.int (Int32.ofNat 0)), .val (.int (Int32.ofNat cs.length)), .val (.int (0 : Int32)), .unset] [])
  exact lpC5 l Z a0 hw cs a d h0 n0 hn hx hby hml hown hret hlk hZ hnd hab cs.length 0 s₁ h0 _ .unset (by omega) One.u X0 e0 A (by simpa using D) (by simp) (Fr.nil n0) (Keep.refl _ _)
def own_val (cs : List Int32) : List Int32 := if own_fb cs = cs.length then cs.map own_lo else own_u16 cs
def own_cod (cs : List Int32) : Int32 := if own_fb cs = cs.length then 0 else 1
def QC3 (Z : State) (cs : List Int32) (h0 : Heap) (n0 : Nat) (v : Option Value) (h : Heap) (L : List Loc) : Prop := ∃ t, v = some (.ref t) ∧ Fr n0 L ∧ Keep h0 h [] ∧ AI Z h t .byte (own_val cs) ∧ h0.size ≤ t
theorem dc3_0 : decode jdk_52_method_16_code 0 = .ok (.iload_n 2, 1) := by decide +kernel
theorem dc3_1 : decode jdk_52_method_16_code 1 = .ok (.newarray .byte, 2) := by decide +kernel
theorem dc3_3 : decode jdk_52_method_16_code 3 = .ok (.astore_n 3, 1) := by decide +kernel
theorem dc3_4 : decode jdk_52_method_16_code 4 = .ok (.aload_n 0, 1) := by decide +kernel
theorem dc3_5 : decode jdk_52_method_16_code 5 = .ok (.iload_n 1, 1) := by decide +kernel
theorem dc3_6 : decode jdk_52_method_16_code 6 = .ok (.aload_n 3, 1) := by decide +kernel
theorem dc3_7 : decode jdk_52_method_16_code 7 = .ok (.iconst 0, 1) := by decide +kernel
theorem dc3_8 : decode jdk_52_method_16_code 8 = .ok (.iload_n 2, 1) := by decide +kernel
theorem dc3_9 : decode jdk_52_method_16_code 9 = .ok (.invokestatic 115, 3) := by decide +kernel
theorem dc3_12 : decode jdk_52_method_16_code 12 = .ok (.istore 4, 2) := by decide +kernel
theorem dc3_14 : decode jdk_52_method_16_code 14 = .ok (.iload 4, 2) := by decide +kernel
theorem dc3_16 : decode jdk_52_method_16_code 16 = .ok (.iload_n 2, 1) := by decide +kernel
theorem dc3_17 : decode jdk_52_method_16_code 17 = .ok (.if_icmp .eq 40, 3) := by decide +kernel
theorem dc3_20 : decode jdk_52_method_16_code 20 = .ok (.aload_n 0, 1) := by decide +kernel
theorem dc3_21 : decode jdk_52_method_16_code 21 = .ok (.iload_n 1, 1) := by decide +kernel
theorem dc3_22 : decode jdk_52_method_16_code 22 = .ok (.iload_n 2, 1) := by decide +kernel
theorem dc3_23 : decode jdk_52_method_16_code 23 = .ok (.invokestatic 119, 3) := by decide +kernel
theorem dc3_26 : decode jdk_52_method_16_code 26 = .ok (.astore 5, 2) := by decide +kernel
theorem dc3_28 : decode jdk_52_method_16_code 28 = .ok (.aload 5, 2) := by decide +kernel
theorem dc3_30 : decode jdk_52_method_16_code 30 = .ok (.iload 4, 2) := by decide +kernel
theorem dc3_32 : decode jdk_52_method_16_code 32 = .ok (.invokestatic 71, 3) := by decide +kernel
theorem dc3_35 : decode jdk_52_method_16_code 35 = .ok (.sipush 255, 3) := by decide +kernel
theorem dc3_38 : decode jdk_52_method_16_code 38 = .ok (.if_icmp .gt 16, 3) := by decide +kernel
theorem dc3_54 : decode jdk_52_method_16_code 54 = .ok (.aload 5, 2) := by decide +kernel
theorem dc3_56 : decode jdk_52_method_16_code 56 = .ok (.areturn, 1) := by decide +kernel
theorem dc3_57 : decode jdk_52_method_16_code 57 = .ok (.aload_n 3, 1) := by decide +kernel
theorem dc3_58 : decode jdk_52_method_16_code 58 = .ok (.areturn, 1) := by decide +kernel
set_option maxRecDepth 65536 in
set_option maxHeartbeats 40000000 in
theorem rmC3 (l : Launch) (Z : State) (a0 : Array Value) (hw : ∀ d ∈ tables_1, d.before a0 Z = true) (z : Int32) (Su : Su16 Z z) (cs : List Int32) (a : Addr) (h0 : Heap) (n0 : Nat) (hn : cs.length ≤ 4000) (hbd : ∀ c ∈ cs, ¬ c < 0 ∧ ¬ (65535 : Int32) < c) (hZ0 : n0 ≤ h0.size) (O : Old Z n0 h0) (A : AI Z h0 a .char cs) :
    Ctr l Z (⟨"java/lang/StringUTF16", "compress", "([CII)[B"⟩ : MethodName) jdk_52_method_16_code 6 (some (.array .byte)) [] ({ frames := 3, cells := 2, slots := 3 * cs.length, locals := 40 } : Room) #[(.ref a), (.int (Int32.ofNat 0)), (.int (Int32.ofNat cs.length))] h0 (QC3 Z cs h0 n0) := by
  refine Ctr.of (plainFor_of_name pn_1) ?_
  intro p e s m below meth c s₁ hx hby hml hown hnm hret hlk hZ X0 e0
  refine Go.cast (ef_9 m a (Int32.ofNat 0) (Int32.ofNat cs.length)) ?_
  show Go p e below _ s₁ (mkF m 0 #[.val (.ref a), .val (.int (Int32.ofNat 0)), .val (.int (Int32.ofNat cs.length)), .unset, .unset, .unset] [])
  refine Go.st (fun _ k => XS.iloadN X0.here hx rfl (hb hby dc3_0) rfl k) ?_
  show Go p e below _ s₁ (mkF m 1 #[.val (.ref a), .val (.int (Int32.ofNat 0)), .val (.int (Int32.ofNat cs.length)), .unset, .unset, .unset] [(.int (Int32.ofNat cs.length))])
  refine Go.newarr X0 hx hZ (ty := .byte) rfl rfl (hw _ (List.mem_of_getElem? (i := 24) rfl)) e0 (g := (mkF m 1 #[.val (.ref a), .val (.int (Int32.ofNat 0)), .val (.int (Int32.ofNat cs.length)), .unset, .unset, .unset] [(.int (Int32.ofNat cs.length))])) rfl (hb hby dc3_1) rfl (n := cs.length) rfl (by omega) (by (try dsimp only [room_1]); (try simp only [List.length_cons, List.length_nil]); omega) (by (try dsimp only [room_1]); (try simp only [List.length_cons, List.length_nil]); omega) ?_
  rintro T1 h1 X1 e1 E1 l1 A1
  obtain ⟨d, gd⟩ : ∃ z, z = h0.size := ⟨_, rfl⟩
  rw [← gd] at A1 l1 ⊢
  show Go p e below _ T1 (mkF m 3 #[.val (.ref a), .val (.int (Int32.ofNat 0)), .val (.int (Int32.ofNat cs.length)), .unset, .unset, .unset] [(.ref d)])
  refine Go.st (fun _ k => XS.astoreN X1.here hx rfl (hb hby dc3_3) rfl rfl (l' := #[.val (.ref a), .val (.int (Int32.ofNat 0)), .val (.int (Int32.ofNat cs.length)), .val (.ref d), .unset, .unset]) rfl k) ?_
  show Go p e below _ T1 (mkF m 4 #[.val (.ref a), .val (.int (Int32.ofNat 0)), .val (.int (Int32.ofNat cs.length)), .val (.ref d), .unset, .unset] [])
  refine Go.st (fun _ k => XS.aloadN X1.here hx rfl (hb hby dc3_4) rfl rfl k) ?_
  show Go p e below _ T1 (mkF m 5 #[.val (.ref a), .val (.int (Int32.ofNat 0)), .val (.int (Int32.ofNat cs.length)), .val (.ref d), .unset, .unset] [(.ref a)])
  refine Go.st (fun _ k => XS.iloadN X1.here hx rfl (hb hby dc3_5) rfl k) ?_
  show Go p e below _ T1 (mkF m 6 #[.val (.ref a), .val (.int (Int32.ofNat 0)), .val (.int (Int32.ofNat cs.length)), .val (.ref d), .unset, .unset] [(.int (Int32.ofNat 0)), (.ref a)])
  refine Go.st (fun _ k => XS.aloadN X1.here hx rfl (hb hby dc3_6) rfl rfl k) ?_
  show Go p e below _ T1 (mkF m 7 #[.val (.ref a), .val (.int (Int32.ofNat 0)), .val (.int (Int32.ofNat cs.length)), .val (.ref d), .unset, .unset] [(.ref d), (.int (Int32.ofNat 0)), (.ref a)])
  refine Go.st (fun _ k => XS.iconst X1.here hx rfl (hb hby dc3_7) k) ?_
  show Go p e below _ T1 (mkF m 8 #[.val (.ref a), .val (.int (Int32.ofNat 0)), .val (.int (Int32.ofNat cs.length)), .val (.ref d), .unset, .unset] [(.int (0 : Int32)), (.ref d), (.int (Int32.ofNat 0)), (.ref a)])
  refine Go.st (fun _ k => XS.iloadN X1.here hx rfl (hb hby dc3_8) rfl k) ?_
  show Go p e below _ T1 (mkF m 9 #[.val (.ref a), .val (.int (Int32.ofNat 0)), .val (.int (Int32.ofNat cs.length)), .val (.ref d), .unset, .unset] [(.int (Int32.ofNat cs.length)), (.int (0 : Int32)), (.ref d), (.int (Int32.ofNat 0)), (.ref a)])
  have la : a ≠ d := Nat.ne_of_lt (Nat.lt_of_lt_of_eq A.lt gd.symm)
  refine Go.callS X1 hx (y := (⟨"java/lang/StringUTF16", "compress", "([CI[BII)I"⟩ : MethodName)) hown (mvT hZ (hw _ (List.mem_of_getElem? (i := 36) rfl))) (mvT hZ (hw _ (List.mem_of_getElem? (i := 37) rfl))) (mvT hZ (hw _ (List.mem_of_getElem? (i := 34) rfl))) (mvT hZ (hw _ (List.mem_of_getElem? (i := 38) rfl))) (by decide) (Ctr.back (W := 0) (rmC5 l Z a0 hw cs a d h1 n0 hn (by omega) la (A.ext E1) A1) hZ (hw _ (List.mem_of_getElem? (i := 38) rfl)) (hw _ (List.mem_of_getElem? (i := 34) rfl)) (by (try dsimp only [room_1]); (try simp only [List.length_cons, List.length_nil]); omega) (by (try dsimp only [room_1]); (try simp only [List.length_cons, List.length_nil]); omega)) e1 (g := (mkF m 9 #[.val (.ref a), .val (.int (Int32.ofNat 0)), .val (.int (Int32.ofNat cs.length)), .val (.ref d), .unset, .unset] [(.int (Int32.ofNat cs.length)), (.int (0 : Int32)), (.ref d), (.int (Int32.ofNat 0)), (.ref a)])) rfl (by rw [hml]; rfl) (argsL := [(.ref a), (.int (Int32.ofNat 0)), (.ref d), (.int (0 : Int32)), (.int (Int32.ofNat cs.length))]) (rest := []) (lenOf pd_10 rfl) rfl (by show 2 * 0 + _ ≤ _; exact Nat.le_of_eq rfl) (hb hby dc3_9) rfl (by (try dsimp only [room_1]); (try simp only [List.length_cons, List.length_nil]); omega) (by (try dsimp only [room_1]); (try simp only [List.length_cons, List.length_nil]); omega) ?_
  rintro _ T2 L2 X2 ⟨rfl, N2, K2, A2⟩
  show Go p e below _ T2 (mkF m 12 #[.val (.ref a), .val (.int (Int32.ofNat 0)), .val (.int (Int32.ofNat cs.length)), .val (.ref d), .unset, .unset] [(.int (Int32.ofNat (own_fb cs)))])
  refine Go.st (fun _ k => XS.istore X2.here hx rfl (hb hby dc3_12) rfl (l' := #[.val (.ref a), .val (.int (Int32.ofNat 0)), .val (.int (Int32.ofNat cs.length)), .val (.ref d), .val (.int (Int32.ofNat (own_fb cs))), .unset]) rfl k) ?_
  show Go p e below _ T2 (mkF m 14 #[.val (.ref a), .val (.int (Int32.ofNat 0)), .val (.int (Int32.ofNat cs.length)), .val (.ref d), .val (.int (Int32.ofNat (own_fb cs))), .unset] [])
  refine Go.st (fun _ k => XS.iload X2.here hx rfl (hb hby dc3_14) rfl k) ?_
  show Go p e below _ T2 (mkF m 16 #[.val (.ref a), .val (.int (Int32.ofNat 0)), .val (.int (Int32.ofNat cs.length)), .val (.ref d), .val (.int (Int32.ofNat (own_fb cs))), .unset] [(.int (Int32.ofNat (own_fb cs)))])
  refine Go.st (fun _ k => XS.iloadN X2.here hx rfl (hb hby dc3_16) rfl k) ?_
  show Go p e below _ T2 (mkF m 17 #[.val (.ref a), .val (.int (Int32.ofNat 0)), .val (.int (Int32.ofNat cs.length)), .val (.ref d), .val (.int (Int32.ofNat (own_fb cs))), .unset] [(.int (Int32.ofNat cs.length)), (.int (Int32.ofNat (own_fb cs)))])
  have K02 : Keep h0 T2.heap [] := ((Keep.refl h0 []).ext E1).trans K2 (fun x q => Or.inr (by cases List.mem_singleton.mp q; omega))
  have hfl := own_fb_le cs
  by_cases q : own_fb cs = cs.length
  · skip
    refine Go.st (fun _ k => XS.icmpYes X2.here hx rfl (pc0 := 17) (pc' := 57) rfl (hb hby dc3_17) rfl (XT.ii_eq_t (by rw [q])) (by decide) (by decide) k) ?_
    show Go p e below _ T2 (mkF m 57 #[.val (.ref a), .val (.int (Int32.ofNat 0)), .val (.int (Int32.ofNat cs.length)), .val (.ref d), .val (.int (Int32.ofNat (own_fb cs))), .unset] [])
    refine Go.st (fun _ k => XS.aloadN X2.here hx rfl (hb hby dc3_57) rfl rfl k) ?_
    show Go p e below _ T2 (mkF m 58 #[.val (.ref a), .val (.int (Int32.ofNat 0)), .val (.int (Int32.ofNat cs.length)), .val (.ref d), .val (.int (Int32.ofNat (own_fb cs))), .unset] [(.ref d)])
    exact Go.retV X2 hx hret hlk rfl rfl (hb hby dc3_58) ⟨d, rfl, Fr.app (Fr.nil n0) N2, K02, by unfold own_val; rw [if_pos q]; rw [q] at A2; simpa using A2, by omega⟩ (by (try dsimp only [room_1]); (try simp only [List.length_cons, List.length_nil]); omega) (by (try dsimp only [room_1]); (try simp only [List.length_cons, List.length_nil]); omega)
  · skip
    have qn : ¬ Int32.ofNat (own_fb cs) = Int32.ofNat cs.length := fun z => q (by have z' := congrArg Int32.toInt z; rw [own_toInt (by omega), own_toInt (by omega)] at z'; omega)
    refine Go.st (fun _ k => XS.icmpNo X2.here hx rfl (hb hby dc3_17) rfl (XT.ii_eq_f qn) k) ?_
    show Go p e below _ T2 (mkF m 20 #[.val (.ref a), .val (.int (Int32.ofNat 0)), .val (.int (Int32.ofNat cs.length)), .val (.ref d), .val (.int (Int32.ofNat (own_fb cs))), .unset] [])
    refine Go.st (fun _ k => XS.aloadN X2.here hx rfl (hb hby dc3_20) rfl rfl k) ?_
    show Go p e below _ T2 (mkF m 21 #[.val (.ref a), .val (.int (Int32.ofNat 0)), .val (.int (Int32.ofNat cs.length)), .val (.ref d), .val (.int (Int32.ofNat (own_fb cs))), .unset] [(.ref a)])
    refine Go.st (fun _ k => XS.iloadN X2.here hx rfl (hb hby dc3_21) rfl k) ?_
    show Go p e below _ T2 (mkF m 22 #[.val (.ref a), .val (.int (Int32.ofNat 0)), .val (.int (Int32.ofNat cs.length)), .val (.ref d), .val (.int (Int32.ofNat (own_fb cs))), .unset] [(.int (Int32.ofNat 0)), (.ref a)])
    refine Go.st (fun _ k => XS.iloadN X2.here hx rfl (hb hby dc3_22) rfl k) ?_
    show Go p e below _ T2 (mkF m 23 #[.val (.ref a), .val (.int (Int32.ofNat 0)), .val (.int (Int32.ofNat cs.length)), .val (.ref d), .val (.int (Int32.ofNat (own_fb cs))), .unset] [(.int (Int32.ofNat cs.length)), (.int (Int32.ofNat 0)), (.ref a)])
    have O2 : Old Z n0 T2.heap := (O.ext E1).keep K2 (allS (by omega) all0)
    have Aa : AI Z T2.heap a .char cs := A.keep K02 nin0
    have k02 := K02.1
    refine Go.callS X2 hx (y := (⟨"java/lang/StringUTF16", "toBytes", "([CII)[B"⟩ : MethodName)) hown (mvT hZ (hw _ (List.mem_of_getElem? (i := 70) rfl))) (mvT hZ (hw _ (List.mem_of_getElem? (i := 71) rfl))) (mvT hZ (hw _ (List.mem_of_getElem? (i := 34) rfl))) (mvT hZ (hw _ (List.mem_of_getElem? (i := 72) rfl))) (by decide) (Ctr.back (W := 0) (rmTB l Z a0 hw z Su cs a T2.heap n0 hn (by omega) O2 Aa) hZ (hw _ (List.mem_of_getElem? (i := 72) rfl)) (hw _ (List.mem_of_getElem? (i := 34) rfl)) (by (try dsimp only [room_1]); (try simp only [List.length_cons, List.length_nil]); omega) (by (try dsimp only [room_1]); (try simp only [List.length_cons, List.length_nil]); omega)) rfl (g := (mkF m 23 #[.val (.ref a), .val (.int (Int32.ofNat 0)), .val (.int (Int32.ofNat cs.length)), .val (.ref d), .val (.int (Int32.ofNat (own_fb cs))), .unset] [(.int (Int32.ofNat cs.length)), (.int (Int32.ofNat 0)), (.ref a)])) rfl (by rw [hml]; rfl) (argsL := [(.ref a), (.int (Int32.ofNat 0)), (.int (Int32.ofNat cs.length))]) (rest := []) (lenOf pd_11 rfl) rfl (by show 2 * 0 + _ ≤ _; exact Nat.le_of_eq rfl) (hb hby dc3_23) rfl (by (try dsimp only [room_1]); (try simp only [List.length_cons, List.length_nil]); omega) (by (try dsimp only [room_1]); (try simp only [List.length_cons, List.length_nil]); omega) ?_
    rintro _ T3 L3 X3 ⟨rfl, N3, K3, B3⟩
    show Go p e below _ T3 (mkF m 26 #[.val (.ref a), .val (.int (Int32.ofNat 0)), .val (.int (Int32.ofNat cs.length)), .val (.ref d), .val (.int (Int32.ofNat (own_fb cs))), .unset] [(.ref T2.heap.size)])
    refine Go.st (fun _ k => XS.astore X3.here hx rfl (hb hby dc3_26) rfl rfl (l' := #[.val (.ref a), .val (.int (Int32.ofNat 0)), .val (.int (Int32.ofNat cs.length)), .val (.ref d), .val (.int (Int32.ofNat (own_fb cs))), .val (.ref T2.heap.size)]) rfl k) ?_
    show Go p e below _ T3 (mkF m 28 #[.val (.ref a), .val (.int (Int32.ofNat 0)), .val (.int (Int32.ofNat cs.length)), .val (.ref d), .val (.int (Int32.ofNat (own_fb cs))), .val (.ref T2.heap.size)] [])
    refine Go.st (fun _ k => XS.aload X3.here hx rfl (hb hby dc3_28) rfl rfl k) ?_
    show Go p e below _ T3 (mkF m 30 #[.val (.ref a), .val (.int (Int32.ofNat 0)), .val (.int (Int32.ofNat cs.length)), .val (.ref d), .val (.int (Int32.ofNat (own_fb cs))), .val (.ref T2.heap.size)] [(.ref T2.heap.size)])
    refine Go.st (fun _ k => XS.iload X3.here hx rfl (hb hby dc3_30) rfl k) ?_
    show Go p e below _ T3 (mkF m 32 #[.val (.ref a), .val (.int (Int32.ofNat 0)), .val (.int (Int32.ofNat cs.length)), .val (.ref d), .val (.int (Int32.ofNat (own_fb cs))), .val (.ref T2.heap.size)] [(.int (Int32.ofNat (own_fb cs))), (.ref T2.heap.size)])
    obtain ⟨x, hxi, hxb⟩ := own_fb_at cs (by omega)
    have hx2 := hbd x (List.mem_of_getElem? hxi)
    refine Go.callS X3 hx (y := (⟨"java/lang/StringUTF16", "getChar", "([BI)C"⟩ : MethodName)) hown (mvT hZ (hw _ (List.mem_of_getElem? (i := 86) rfl))) (mvT hZ (hw _ (List.mem_of_getElem? (i := 87) rfl))) (mvT hZ (hw _ (List.mem_of_getElem? (i := 34) rfl))) (mvT hZ (hw _ (List.mem_of_getElem? (i := 88) rfl))) (by decide) (Ctr.back (W := 0) (rmGC l Z a0 hw z Su cs T2.heap.size (own_fb cs) x hn hxi hx2.1 hx2.2 T3.heap n0 (O2.keep K3 all0) B3) hZ (hw _ (List.mem_of_getElem? (i := 88) rfl)) (hw _ (List.mem_of_getElem? (i := 34) rfl)) (by (try dsimp only [room_1]); (try simp only [List.length_cons, List.length_nil]); omega) (by (try dsimp only [room_1]); (try simp only [List.length_cons, List.length_nil]); omega)) rfl (g := (mkF m 32 #[.val (.ref a), .val (.int (Int32.ofNat 0)), .val (.int (Int32.ofNat cs.length)), .val (.ref d), .val (.int (Int32.ofNat (own_fb cs))), .val (.ref T2.heap.size)] [(.int (Int32.ofNat (own_fb cs))), (.ref T2.heap.size)])) rfl (by rw [hml]; rfl) (argsL := [(.ref T2.heap.size), (.int (Int32.ofNat (own_fb cs)))]) (rest := []) (lenOf pd_12 rfl) rfl (by show 2 * 0 + _ ≤ _; exact Nat.le_of_eq rfl) (hb hby dc3_32) rfl (by (try dsimp only [room_1]); (try simp only [List.length_cons, List.length_nil]); omega) (by (try dsimp only [room_1]); (try simp only [List.length_cons, List.length_nil]); omega) ?_
    rintro _ T4 L4 X4 ⟨rfl, N4, e4⟩
    show Go p e below _ T4 (mkF m 35 #[.val (.ref a), .val (.int (Int32.ofNat 0)), .val (.int (Int32.ofNat cs.length)), .val (.ref d), .val (.int (Int32.ofNat (own_fb cs))), .val (.ref T2.heap.size)] [(.int x)])
    refine Go.st (fun _ k => XS.sipush X4.here hx rfl (hb hby dc3_35) k) ?_
    show Go p e below _ T4 (mkF m 38 #[.val (.ref a), .val (.int (Int32.ofNat 0)), .val (.int (Int32.ofNat cs.length)), .val (.ref d), .val (.int (Int32.ofNat (own_fb cs))), .val (.ref T2.heap.size)] [(.int (255 : Int32)), (.int x)])
    refine Go.st (fun _ k => XS.icmpYes X4.here hx rfl (pc0 := 38) (pc' := 54) rfl (hb hby dc3_38) rfl (XT.ii_gt_t hxb) (by decide) (by decide) k) ?_
    show Go p e below _ T4 (mkF m 54 #[.val (.ref a), .val (.int (Int32.ofNat 0)), .val (.int (Int32.ofNat cs.length)), .val (.ref d), .val (.int (Int32.ofNat (own_fb cs))), .val (.ref T2.heap.size)] [])
    refine Go.st (fun _ k => XS.aload X4.here hx rfl (hb hby dc3_54) rfl rfl k) ?_
    show Go p e below _ T4 (mkF m 56 #[.val (.ref a), .val (.int (Int32.ofNat 0)), .val (.int (Int32.ofNat cs.length)), .val (.ref d), .val (.int (Int32.ofNat (own_fb cs))), .val (.ref T2.heap.size)] [(.ref T2.heap.size)])
    exact Go.retV X4 hx hret hlk rfl rfl (hb hby dc3_56) ⟨T2.heap.size, rfl, Fr.app (Fr.app (Fr.app (Fr.nil n0) N2) N3) N4, e4 ▸ K02.trans K3 (fun _ z => nomatch z), by unfold own_val; rw [if_neg q, e4]; exact B3, by omega⟩ (by (try dsimp only [room_1]); (try simp only [List.length_cons, List.length_nil]); omega) (by (try dsimp only [room_1]); (try simp only [List.length_cons, List.length_nil]); omega)
theorem own_val_len (cs : List Int32) : (own_val cs).length = if own_fb cs = cs.length then cs.length else 2 * cs.length := by
  unfold own_val; split
  · simp
  · exact own_u16_len cs
theorem own_ushr_neg {x : Int32} (h : x < 0) : XT.ushr x (31 : Int32) = 1 := by
  rw [XT.negI32] at h
  have q : x.toInt = x.toBitVec.toInt := rfl
  rw [q, BitVec.toInt_eq_toNat_cond] at h
  have hb := x.toBitVec.isLt
  unfold XT.ushr
  have e : ((31 : Int32) &&& 31).toUInt32 = 31 := by decide
  rw [e]
  apply Int32.toBitVec_inj.mp
  apply BitVec.eq_of_toNat_eq
  show (x.toUInt32 >>> 31).toNat = _
  rw [UInt32.toNat_shiftRight]
  have e3 : x.toUInt32.toNat = x.toBitVec.toNat := rfl
  rw [e3]
  have e4 : (31 : UInt32).toNat % 32 = 31 := by decide
  rw [e4, Nat.shiftRight_eq_div_pow]
  have e5 : (1 : Int32).toBitVec.toNat = 1 := by decide
  rw [e5]
  split at h <;> omega
theorem own_coder {cs : List Int32} (hn : cs.length ≤ 4000) (h0 : 0 < cs.length) : nar .byte ((XT.ushr (Int32.ofNat cs.length - Int32.ofNat (own_val cs).length) (31 : Int32)).toInt8.toInt32) = own_cod cs := by
  rw [own_val_len]; unfold own_cod
  split
  · rw [Int32.sub_self]; decide
  · have q : Int32.ofNat cs.length - Int32.ofNat (2 * cs.length) < 0 := by
      rw [XT.negI32, XT.sub32 (by rw [own_toInt (by omega), own_toInt (by omega)]; constructor <;> omega), own_toInt (by omega), own_toInt (by omega)]; omega
    rw [own_ushr_neg q]; decide
theorem dcl_0 : decode jdk_52_method_15_code 0 = .ok (.iload_n 1, 1) := by decide +kernel
theorem dcl_1 : decode jdk_52_method_15_code 1 = .ok (.aload_n 0, 1) := by decide +kernel
theorem dcl_2 : decode jdk_52_method_15_code 2 = .ok (.arraylength, 1) := by decide +kernel
theorem dcl_3 : decode jdk_52_method_15_code 3 = .ok (.isub, 1) := by decide +kernel
theorem dcl_4 : decode jdk_52_method_15_code 4 = .ok (.bipush 31, 2) := by decide +kernel
theorem dcl_6 : decode jdk_52_method_15_code 6 = .ok (.iushr, 1) := by decide +kernel
theorem dcl_7 : decode jdk_52_method_15_code 7 = .ok (.i2b, 1) := by decide +kernel
theorem dcl_8 : decode jdk_52_method_15_code 8 = .ok (.ireturn, 1) := by decide +kernel
set_option maxRecDepth 65536 in
set_option maxHeartbeats 40000000 in
theorem rmCL (l : Launch) (Z : State) (a0 : Array Value) (hw : ∀ d ∈ tables_1, d.before a0 Z = true) (cs : List Int32) (t : Addr) (h0 : Heap) (n0 : Nat) (hn : cs.length ≤ 4000) (h1 : 0 < cs.length) (B : AI Z h0 t .byte (own_val cs)) :
    Ctr l Z (⟨"java/lang/StringUTF16", "coderFromArrayLen", "([BI)B"⟩ : MethodName) jdk_52_method_15_code 2 (some .byte) [] ({ frames := 0, cells := 0, slots := 0, locals := 0 } : Room) #[(.ref t), (.int (Int32.ofNat cs.length))] h0 (QP (own_cod cs) h0 n0) := by
  refine Ctr.of (plainFor_of_name pn_1) ?_
  intro p e s m below meth c s₁ hx hby hml hown hnm hret hlk hZ X0 e0
  refine Go.cast (ef_7 m t (Int32.ofNat cs.length)) ?_
  show Go p e below _ s₁ (mkF m 0 #[.val (.ref t), .val (.int (Int32.ofNat cs.length))] [])
  refine Go.st (fun _ k => XS.iloadN X0.here hx rfl (hb hby dcl_0) rfl k) ?_
  show Go p e below _ s₁ (mkF m 1 #[.val (.ref t), .val (.int (Int32.ofNat cs.length))] [(.int (Int32.ofNat cs.length))])
  refine Go.st (fun _ k => XS.aloadN X0.here hx rfl (hb hby dcl_1) rfl rfl k) ?_
  show Go p e below _ s₁ (mkF m 2 #[.val (.ref t), .val (.int (Int32.ofNat cs.length))] [(.ref t), (.int (Int32.ofNat cs.length))])
  refine Go.alen X0 hx hZ e0 B (g := (mkF m 2 #[.val (.ref t), .val (.int (Int32.ofNat cs.length))] [(.ref t), (.int (Int32.ofNat cs.length))])) rfl rfl (hb hby dcl_2) ?_
  show Go p e below _ s₁ (mkF m 3 #[.val (.ref t), .val (.int (Int32.ofNat cs.length))] [(.int (Int32.ofNat (own_val cs).length)), (.int (Int32.ofNat cs.length))])
  refine Go.st (fun _ k => XS.isub X0.here hx rfl (hb hby dcl_3) rfl k) ?_
  show Go p e below _ s₁ (mkF m 4 #[.val (.ref t), .val (.int (Int32.ofNat cs.length))] [(.int ((Int32.ofNat cs.length) - (Int32.ofNat (own_val cs).length)))])
  refine Go.st (fun _ k => XS.bipush X0.here hx rfl (hb hby dcl_4) k) ?_
  show Go p e below _ s₁ (mkF m 6 #[.val (.ref t), .val (.int (Int32.ofNat cs.length))] [(.int (31 : Int32)), (.int ((Int32.ofNat cs.length) - (Int32.ofNat (own_val cs).length)))])
  refine Go.st (fun _ k => XT.iushr X0.here hx rfl (hb hby dcl_6) rfl k) ?_
  show Go p e below _ s₁ (mkF m 7 #[.val (.ref t), .val (.int (Int32.ofNat cs.length))] [(.int (XT.ushr ((Int32.ofNat cs.length) - (Int32.ofNat (own_val cs).length)) (31 : Int32)))])
  refine Go.st (fun _ k => XT.i2b X0.here hx rfl (hb hby dcl_7) rfl k) ?_
  show Go p e below _ s₁ (mkF m 8 #[.val (.ref t), .val (.int (Int32.ofNat cs.length))] [(.int ((XT.ushr ((Int32.ofNat cs.length) - (Int32.ofNat (own_val cs).length)) (31 : Int32)).toInt8.toInt32))])
  exact Go.retB X0 hx hret hlk (Or.inr (Or.inl rfl)) (hb hby dcl_8) ⟨by rw [own_coder hn h1], Fr.nil n0, e0⟩ (Nat.le_refl _) (Nat.le_refl _)
def QI (Z : State) (x : Addr) (cs : List Int32) (h0 : Heap) (n0 : Nat) (v : Option Value) (h : Heap) (L : List Loc) : Prop := v = none ∧ Fr n0 L ∧ Keep h0 h [x] ∧ Exa Z h x "java/lang/String" ∧ Fld Z h x "java/lang/String" "coder" "B" (.int (own_cod cs)) ∧ ∃ t, Fld Z h x "java/lang/String" "value" "[B" (.ref t) ∧ AI Z h t .byte (own_val cs) ∧ t ≠ x
theorem di4_0 : decode jdk_42_method_149_code 0 = .ok (.aload_n 0, 1) := by decide +kernel
theorem di4_1 : decode jdk_42_method_149_code 1 = .ok (.invokespecial 1, 3) := by decide +kernel
theorem di4_4 : decode jdk_42_method_149_code 4 = .ok (.iload_n 3, 1) := by decide +kernel
theorem di4_5 : decode jdk_42_method_149_code 5 = .ok (.ifCond .ne 22, 3) := by decide +kernel
theorem di4_27 : decode jdk_42_method_149_code 27 = .ok (.getstatic 38, 3) := by decide +kernel
theorem di4_30 : decode jdk_42_method_149_code 30 = .ok (.ifCond .eq 28, 3) := by decide +kernel
theorem di4_33 : decode jdk_42_method_149_code 33 = .ok (.aload_n 1, 1) := by decide +kernel
theorem di4_34 : decode jdk_42_method_149_code 34 = .ok (.iload_n 2, 1) := by decide +kernel
theorem di4_35 : decode jdk_42_method_149_code 35 = .ok (.iload_n 3, 1) := by decide +kernel
theorem di4_36 : decode jdk_42_method_149_code 36 = .ok (.invokestatic 177, 3) := by decide +kernel
theorem di4_39 : decode jdk_42_method_149_code 39 = .ok (.astore 5, 2) := by decide +kernel
theorem di4_41 : decode jdk_42_method_149_code 41 = .ok (.aload_n 0, 1) := by decide +kernel
theorem di4_42 : decode jdk_42_method_149_code 42 = .ok (.aload 5, 2) := by decide +kernel
theorem di4_44 : decode jdk_42_method_149_code 44 = .ok (.iload_n 3, 1) := by decide +kernel
theorem di4_45 : decode jdk_42_method_149_code 45 = .ok (.invokestatic 47, 3) := by decide +kernel
theorem di4_48 : decode jdk_42_method_149_code 48 = .ok (.putfield 15, 3) := by decide +kernel
theorem di4_51 : decode jdk_42_method_149_code 51 = .ok (.aload_n 0, 1) := by decide +kernel
theorem di4_52 : decode jdk_42_method_149_code 52 = .ok (.aload 5, 2) := by decide +kernel
theorem di4_54 : decode jdk_42_method_149_code 54 = .ok (.putfield 9, 3) := by decide +kernel
theorem di4_57 : decode jdk_42_method_149_code 57 = .ok (.return_, 1) := by decide +kernel
set_option maxRecDepth 65536 in
set_option maxHeartbeats 40000000 in
theorem rmI4 (l : Launch) (Z : State) (a0 : Array Value) (hw : ∀ d ∈ tables_1, d.before a0 Z = true) (z : Int32) (Su : Su16 Z z) (cs : List Int32) (hn : cs.length ≤ 4000) (h1 : 0 < cs.length) (hbd : ∀ c ∈ cs, ¬ c < 0 ∧ ¬ (65535 : Int32) < c) (x a : Addr) (v0 c0 : Value) (h0 : Heap) (n0 : Nat) (hna : n0 ≤ x) (hZ0 : n0 ≤ h0.size) (O : Old Z n0 h0) (E : Exa Z h0 x "java/lang/String") (V : Fld Z h0 x "java/lang/String" "value" "[B" v0) (Cc : Fld Z h0 x "java/lang/String" "coder" "B" c0) (A : AI Z h0 a .char cs) :
    Ctr l Z (⟨"java/lang/String", "<init>", "([CIILjava/lang/Void;)V"⟩ : MethodName) jdk_42_method_149_code 6 none [] ({ frames := 4, cells := 2, slots := 3 * cs.length, locals := 57 } : Room) #[(.ref x), (.ref a), (.int (Int32.ofNat 0)), (.int (Int32.ofNat cs.length)), .null] h0 (QI Z x cs h0 n0) := by
  refine Ctr.of (plainFor_of_name pn_15) ?_
  intro p e s m below meth c s₁ hx hby hml hown hnm hret hlk hZ X0 e0
  refine Go.cast (ef_13 m x a (Int32.ofNat 0) (Int32.ofNat cs.length)) ?_
  show Go p e below _ s₁ (mkF m 0 #[.val (.ref x), .val (.ref a), .val (.int (Int32.ofNat 0)), .val (.int (Int32.ofNat cs.length)), .val .null, .unset] [])
  refine Go.st (fun _ k => XS.aloadN X0.here hx rfl (hb hby di4_0) rfl rfl k) ?_
  show Go p e below _ s₁ (mkF m 1 #[.val (.ref x), .val (.ref a), .val (.int (Int32.ofNat 0)), .val (.int (Int32.ofNat cs.length)), .val .null, .unset] [(.ref x)])
  obtain ⟨T1, X1, e1, st1⟩ := initO X0 hx hZ hown (hw _ (List.mem_of_getElem? (i := 20) rfl)) (hw _ (List.mem_of_getElem? (i := 21) rfl)) (hw _ (List.mem_of_getElem? (i := 22) rfl)) e0 (g := (mkF m 1 #[.val (.ref x), .val (.ref a), .val (.int (Int32.ofNat 0)), .val (.int (Int32.ofNat cs.length)), .val .null, .unset] [(.ref x)])) rfl (by rw [hml]; rfl) rfl (hb hby di4_1) (by (try dsimp only [room_1]); (try simp only [List.length_cons, List.length_nil]); omega) (W := 0) (by show 2 * 0 + _ ≤ _; exact Nat.le_of_eq rfl) (by (try dsimp only [room_1]); (try simp only [List.length_cons, List.length_nil]); omega)
  refine Go.st st1 ?_
  show Go p e below _ T1 (mkF m 4 #[.val (.ref x), .val (.ref a), .val (.int (Int32.ofNat 0)), .val (.int (Int32.ofNat cs.length)), .val .null, .unset] [])
  refine Go.st (fun _ k => XS.iloadN X1.here hx rfl (hb hby di4_4) rfl k) ?_
  show Go p e below _ T1 (mkF m 5 #[.val (.ref x), .val (.ref a), .val (.int (Int32.ofNat 0)), .val (.int (Int32.ofNat cs.length)), .val .null, .unset] [(.int (Int32.ofNat cs.length))])
  have qn : ¬ Int32.ofNat cs.length = 0 := fun z' => by have q := congrArg Int32.toInt z'; rw [own_toInt (by omega)] at q; have q2 : ((0 : Int32)).toInt = 0 := rfl; omega
  refine Go.st (fun _ k => XS.ifYes X1.here hx rfl (pc0 := 5) (pc' := 27) rfl (hb hby di4_5) rfl (XT.i0_ne_t qn) (by decide) (by decide) k) ?_
  show Go p e below _ T1 (mkF m 27 #[.val (.ref x), .val (.ref a), .val (.int (Int32.ofNat 0)), .val (.int (Int32.ofNat cs.length)), .val .null, .unset] [])
  obtain ⟨T2, X2, e2, st2⟩ := getS2 X1 hx hZ hown (host := "") (Or.inl (hw _ (List.mem_of_getElem? (i := 31) rfl))) Via.refl e1 (Su.2.2.2.1.ext O.2) (g := (mkF m 27 #[.val (.ref x), .val (.ref a), .val (.int (Int32.ofNat 0)), .val (.int (Int32.ofNat cs.length)), .val .null, .unset] [])) rfl (hb hby di4_27)
  refine Go.st st2 ?_
  show Go p e below _ T2 (mkF m 30 #[.val (.ref x), .val (.ref a), .val (.int (Int32.ofNat 0)), .val (.int (Int32.ofNat cs.length)), .val .null, .unset] [(.int z)])
  refine Go.st (fun _ k => XS.ifNo X2.here hx rfl (hb hby di4_30) rfl (XT.i0_eq_f Su.2.2.2.2) k) ?_
  show Go p e below _ T2 (mkF m 33 #[.val (.ref x), .val (.ref a), .val (.int (Int32.ofNat 0)), .val (.int (Int32.ofNat cs.length)), .val .null, .unset] [])
  refine Go.st (fun _ k => XS.aloadN X2.here hx rfl (hb hby di4_33) rfl rfl k) ?_
  show Go p e below _ T2 (mkF m 34 #[.val (.ref x), .val (.ref a), .val (.int (Int32.ofNat 0)), .val (.int (Int32.ofNat cs.length)), .val .null, .unset] [(.ref a)])
  refine Go.st (fun _ k => XS.iloadN X2.here hx rfl (hb hby di4_34) rfl k) ?_
  show Go p e below _ T2 (mkF m 35 #[.val (.ref x), .val (.ref a), .val (.int (Int32.ofNat 0)), .val (.int (Int32.ofNat cs.length)), .val .null, .unset] [(.int (Int32.ofNat 0)), (.ref a)])
  refine Go.st (fun _ k => XS.iloadN X2.here hx rfl (hb hby di4_35) rfl k) ?_
  show Go p e below _ T2 (mkF m 36 #[.val (.ref x), .val (.ref a), .val (.int (Int32.ofNat 0)), .val (.int (Int32.ofNat cs.length)), .val .null, .unset] [(.int (Int32.ofNat cs.length)), (.int (Int32.ofNat 0)), (.ref a)])
  refine Go.callS X2 hx (y := (⟨"java/lang/StringUTF16", "compress", "([CII)[B"⟩ : MethodName)) hown (mvT hZ (hw _ (List.mem_of_getElem? (i := 32) rfl))) (mvT hZ (hw _ (List.mem_of_getElem? (i := 33) rfl))) (mvT hZ (hw _ (List.mem_of_getElem? (i := 34) rfl))) (mvT hZ (hw _ (List.mem_of_getElem? (i := 35) rfl))) (by decide) (Ctr.back (W := 0) (rmC3 l Z a0 hw z Su cs a h0 n0 hn hbd hZ0 O A) hZ (hw _ (List.mem_of_getElem? (i := 35) rfl)) (hw _ (List.mem_of_getElem? (i := 34) rfl)) (by (try dsimp only [room_1]); (try simp only [List.length_cons, List.length_nil]); omega) (by (try dsimp only [room_1]); (try simp only [List.length_cons, List.length_nil]); omega)) e2 (g := (mkF m 36 #[.val (.ref x), .val (.ref a), .val (.int (Int32.ofNat 0)), .val (.int (Int32.ofNat cs.length)), .val .null, .unset] [(.int (Int32.ofNat cs.length)), (.int (Int32.ofNat 0)), (.ref a)])) rfl (by rw [hml]; rfl) (argsL := [(.ref a), (.int (Int32.ofNat 0)), (.int (Int32.ofNat cs.length))]) (rest := []) (lenOf pd_11 rfl) rfl (by show 2 * 0 + _ ≤ _; exact Nat.le_of_eq rfl) (hb hby di4_36) rfl (by (try dsimp only [room_1]); (try simp only [List.length_cons, List.length_nil]); omega) (by (try dsimp only [room_1]); (try simp only [List.length_cons, List.length_nil]); omega) ?_
  rintro _ T3 L3 X3 ⟨t, rfl, N3, K3, B3, ht⟩
  show Go p e below _ T3 (mkF m 39 #[.val (.ref x), .val (.ref a), .val (.int (Int32.ofNat 0)), .val (.int (Int32.ofNat cs.length)), .val .null, .unset] [(.ref t)])
  refine Go.st (fun _ k => XS.astore X3.here hx rfl (hb hby di4_39) rfl rfl (l' := #[.val (.ref x), .val (.ref a), .val (.int (Int32.ofNat 0)), .val (.int (Int32.ofNat cs.length)), .val .null, .val (.ref t)]) rfl k) ?_
  show Go p e below _ T3 (mkF m 41 #[.val (.ref x), .val (.ref a), .val (.int (Int32.ofNat 0)), .val (.int (Int32.ofNat cs.length)), .val .null, .val (.ref t)] [])
  refine Go.st (fun _ k => XS.aloadN X3.here hx rfl (hb hby di4_41) rfl rfl k) ?_
  show Go p e below _ T3 (mkF m 42 #[.val (.ref x), .val (.ref a), .val (.int (Int32.ofNat 0)), .val (.int (Int32.ofNat cs.length)), .val .null, .val (.ref t)] [(.ref x)])
  refine Go.st (fun _ k => XS.aload X3.here hx rfl (hb hby di4_42) rfl rfl k) ?_
  show Go p e below _ T3 (mkF m 44 #[.val (.ref x), .val (.ref a), .val (.int (Int32.ofNat 0)), .val (.int (Int32.ofNat cs.length)), .val .null, .val (.ref t)] [(.ref t), (.ref x)])
  refine Go.st (fun _ k => XS.iloadN X3.here hx rfl (hb hby di4_44) rfl k) ?_
  show Go p e below _ T3 (mkF m 45 #[.val (.ref x), .val (.ref a), .val (.int (Int32.ofNat 0)), .val (.int (Int32.ofNat cs.length)), .val .null, .val (.ref t)] [(.int (Int32.ofNat cs.length)), (.ref t), (.ref x)])
  refine Go.callS X3 hx (y := (⟨"java/lang/StringUTF16", "coderFromArrayLen", "([BI)B"⟩ : MethodName)) hown (mvT hZ (hw _ (List.mem_of_getElem? (i := 39) rfl))) (mvT hZ (hw _ (List.mem_of_getElem? (i := 40) rfl))) (mvT hZ (hw _ (List.mem_of_getElem? (i := 34) rfl))) (mvT hZ (hw _ (List.mem_of_getElem? (i := 41) rfl))) (by decide) (Ctr.back (W := 1) (rmCL l Z a0 hw cs t T3.heap n0 hn h1 B3) hZ (hw _ (List.mem_of_getElem? (i := 41) rfl)) (hw _ (List.mem_of_getElem? (i := 34) rfl)) (by (try dsimp only [room_1]); (try simp only [List.length_cons, List.length_nil]); omega) (by (try dsimp only [room_1]); (try simp only [List.length_cons, List.length_nil]); omega)) rfl (g := (mkF m 45 #[.val (.ref x), .val (.ref a), .val (.int (Int32.ofNat 0)), .val (.int (Int32.ofNat cs.length)), .val .null, .val (.ref t)] [(.int (Int32.ofNat cs.length)), (.ref t), (.ref x)])) rfl (by rw [hml]; rfl) (argsL := [(.ref t), (.int (Int32.ofNat cs.length))]) (rest := [(.ref x)]) (lenOf pd_14 rfl) rfl (by show 2 * 0 + _ ≤ _; exact Nat.le_of_eq rfl) (hb hby di4_45) rfl (by (try dsimp only [room_1]); (try simp only [List.length_cons, List.length_nil]); omega) (by (try dsimp only [room_1]); (try simp only [List.length_cons, List.length_nil]); omega) ?_
  rintro _ T4 L4 X4 ⟨rfl, N4, e4⟩
  show Go p e below _ T4 (mkF m 48 #[.val (.ref x), .val (.ref a), .val (.int (Int32.ofNat 0)), .val (.int (Int32.ofNat cs.length)), .val .null, .val (.ref t)] [(.int (own_cod cs)), (.ref x)])
  have lx := E.lt
  have hcb : narrow .byte (.int (own_cod cs)) = .int (own_cod cs) ∧ fits .byte (.int (own_cod cs)) = true := by unfold own_cod; split <;> exact ⟨rfl, rfl⟩
  have sn := slot_ne (Or.inr (hw _ (List.mem_of_getElem? (i := 25) rfl))) (Or.inr (hw _ (List.mem_of_getElem? (i := 26) rfl))) (by decide) (t := (.array .byte)) (t' := .byte) (by decide) (by decide)
  have sn' := slot_ne (Or.inr (hw _ (List.mem_of_getElem? (i := 26) rfl))) (Or.inr (hw _ (List.mem_of_getElem? (i := 25) rfl))) (by decide) (t := .byte) (t' := (.array .byte)) (by decide) (by decide)
  obtain ⟨T5, h5, X5, e5, W5, st5⟩ := putF X4 hx hZ hown (host := "") (Or.inl (hw _ (List.mem_of_getElem? (i := 30) rfl))) Via.refl e4 (Cc.keep K3 nin0) (E.keep K3) (Or.inr ⟨(hw _ (List.mem_of_getElem? (i := 26) rfl)), rfl, hnm⟩) (hw _ (List.mem_of_getElem? (i := 10) rfl)) (ty := .byte) (by decide) hcb.1 hcb.2 (g := (mkF m 48 #[.val (.ref x), .val (.ref a), .val (.int (Int32.ofNat 0)), .val (.int (Int32.ofNat cs.length)), .val .null, .val (.ref t)] [(.int (own_cod cs)), (.ref x)])) rfl rfl (hb hby di4_48)
  refine Go.st st5 ?_
  show Go p e below _ T5 (mkF m 51 #[.val (.ref x), .val (.ref a), .val (.int (Int32.ofNat 0)), .val (.int (Int32.ofNat cs.length)), .val .null, .val (.ref t)] [])
  refine Go.st (fun _ k => XS.aloadN X5.here hx rfl (hb hby di4_51) rfl rfl k) ?_
  show Go p e below _ T5 (mkF m 52 #[.val (.ref x), .val (.ref a), .val (.int (Int32.ofNat 0)), .val (.int (Int32.ofNat cs.length)), .val .null, .val (.ref t)] [(.ref x)])
  refine Go.st (fun _ k => XS.aload X5.here hx rfl (hb hby di4_52) rfl rfl k) ?_
  show Go p e below _ T5 (mkF m 54 #[.val (.ref x), .val (.ref a), .val (.int (Int32.ofNat 0)), .val (.int (Int32.ofNat cs.length)), .val .null, .val (.ref t)] [(.ref t), (.ref x)])
  obtain ⟨T6, h6, X6, e6, W6, st6⟩ := putF X5 hx hZ hown (host := "") (Or.inl (hw _ (List.mem_of_getElem? (i := 29) rfl))) Via.refl e5 ((V.keep K3 nin0).other W5 (Or.inr sn)) ((E.keep K3).wr W5) (Or.inr ⟨(hw _ (List.mem_of_getElem? (i := 25) rfl)), rfl, hnm⟩) (hw _ (List.mem_of_getElem? (i := 10) rfl)) (ty := (.array .byte)) (by decide) rfl rfl (g := (mkF m 54 #[.val (.ref x), .val (.ref a), .val (.int (Int32.ofNat 0)), .val (.int (Int32.ofNat cs.length)), .val .null, .val (.ref t)] [(.ref t), (.ref x)])) rfl rfl (hb hby di4_54)
  refine Go.st st6 ?_
  show Go p e below _ T6 (mkF m 57 #[.val (.ref x), .val (.ref a), .val (.int (Int32.ofNat 0)), .val (.int (Int32.ofNat cs.length)), .val .null, .val (.ref t)] [])
  have K6 : Keep h0 h6 [x] := ((((Keep.refl h0 [x]).trans K3 (fun _ q => nomatch q))).wr W5 (Or.inl (List.mem_cons_self ..))).wr W6 (Or.inl (List.mem_cons_self ..))
  have hx' : t ≠ x := Nat.ne_of_gt (Nat.lt_of_lt_of_le E.lt ht)
  exact Go.ret0 X6 hx hret hlk (hb hby di4_57) ⟨rfl, Fr.snoc X6 (Fr.snoc X5 (Fr.app (Fr.app (Fr.nil n0) N3) N4) hna) hna, e6 ▸ K6, e6 ▸ ((E.keep K3).wr W5).wr W6, e6 ▸ ((Cc.keep K3 nin0).same W5).other W6 (Or.inr sn'), t, e6 ▸ ((V.keep K3 nin0).other W5 (Or.inr sn)).same W6, e6 ▸ (B3.other W5 hx').other W6 hx', hx'⟩ (by (try dsimp only [room_1]); (try simp only [List.length_cons, List.length_nil]); omega) (by (try dsimp only [room_1]); (try simp only [List.length_cons, List.length_nil]); omega)
theorem di1_0 : decode jdk_42_method_3_code 0 = .ok (.aload_n 0, 1) := by decide +kernel
theorem di1_1 : decode jdk_42_method_3_code 1 = .ok (.aload_n 1, 1) := by decide +kernel
theorem di1_2 : decode jdk_42_method_3_code 2 = .ok (.iconst 0, 1) := by decide +kernel
theorem di1_3 : decode jdk_42_method_3_code 3 = .ok (.aload_n 1, 1) := by decide +kernel
theorem di1_4 : decode jdk_42_method_3_code 4 = .ok (.arraylength, 1) := by decide +kernel
theorem di1_5 : decode jdk_42_method_3_code 5 = .ok (.aconst_null, 1) := by decide +kernel
theorem di1_6 : decode jdk_42_method_3_code 6 = .ok (.invokespecial 27, 3) := by decide +kernel
theorem di1_9 : decode jdk_42_method_3_code 9 = .ok (.return_, 1) := by decide +kernel
set_option maxRecDepth 65536 in
set_option maxHeartbeats 40000000 in
theorem rmI1 (l : Launch) (Z : State) (a0 : Array Value) (hw : ∀ d ∈ tables_1, d.before a0 Z = true) (z : Int32) (Su : Su16 Z z) (cs : List Int32) (hn : cs.length ≤ 4000) (h1 : 0 < cs.length) (hbd : ∀ c ∈ cs, ¬ c < 0 ∧ ¬ (65535 : Int32) < c) (x a : Addr) (v0 c0 : Value) (h0 : Heap) (n0 : Nat) (hna : n0 ≤ x) (hZ0 : n0 ≤ h0.size) (O : Old Z n0 h0) (E : Exa Z h0 x "java/lang/String") (V : Fld Z h0 x "java/lang/String" "value" "[B" v0) (Cc : Fld Z h0 x "java/lang/String" "coder" "B" c0) (A : AI Z h0 a .char cs) :
    Ctr l Z (⟨"java/lang/String", "<init>", "([C)V"⟩ : MethodName) jdk_42_method_3_code 2 none [] ({ frames := 5, cells := 2, slots := 3 * cs.length, locals := 74 } : Room) #[(.ref x), (.ref a)] h0 (QI Z x cs h0 n0) := by
  refine Ctr.of (plainFor_of_name pn_15) ?_
  intro p e s m below meth c s₁ hx hby hml hown hnm hret hlk hZ X0 e0
  refine Go.cast (ef_16 m x a) ?_
  show Go p e below _ s₁ (mkF m 0 #[.val (.ref x), .val (.ref a)] [])
  refine Go.st (fun _ k => XS.aloadN X0.here hx rfl (hb hby di1_0) rfl rfl k) ?_
  show Go p e below _ s₁ (mkF m 1 #[.val (.ref x), .val (.ref a)] [(.ref x)])
  refine Go.st (fun _ k => XS.aloadN X0.here hx rfl (hb hby di1_1) rfl rfl k) ?_
  show Go p e below _ s₁ (mkF m 2 #[.val (.ref x), .val (.ref a)] [(.ref a), (.ref x)])
  refine Go.st (fun _ k => XS.iconst X0.here hx rfl (hb hby di1_2) k) ?_
  show Go p e below _ s₁ (mkF m 3 #[.val (.ref x), .val (.ref a)] [(.int (0 : Int32)), (.ref a), (.ref x)])
  refine Go.st (fun _ k => XS.aloadN X0.here hx rfl (hb hby di1_3) rfl rfl k) ?_
  show Go p e below _ s₁ (mkF m 4 #[.val (.ref x), .val (.ref a)] [(.ref a), (.int (0 : Int32)), (.ref a), (.ref x)])
  refine Go.alen X0 hx hZ e0 A (g := (mkF m 4 #[.val (.ref x), .val (.ref a)] [(.ref a), (.int (0 : Int32)), (.ref a), (.ref x)])) rfl rfl (hb hby di1_4) ?_
  show Go p e below _ s₁ (mkF m 5 #[.val (.ref x), .val (.ref a)] [(.int (Int32.ofNat cs.length)), (.int (0 : Int32)), (.ref a), (.ref x)])
  refine Go.st (fun _ k => XS.aconstNull X0.here hx rfl (hb hby di1_5) k) ?_
  show Go p e below _ s₁ (mkF m 6 #[.val (.ref x), .val (.ref a)] [.null, (.int (Int32.ofNat cs.length)), (.int (0 : Int32)), (.ref a), (.ref x)])
  refine Go.callI X0 hx (y := (⟨"java/lang/String", "<init>", "([CIILjava/lang/Void;)V"⟩ : MethodName)) rfl hown (mvT hZ (hw _ (List.mem_of_getElem? (i := 16) rfl))) (mvT hZ (hw _ (List.mem_of_getElem? (i := 17) rfl))) (mvT hZ (hw _ (List.mem_of_getElem? (i := 19) rfl))) (by decide) (Ctr.back (W := 0) (rmI4 l Z a0 hw z Su cs hn h1 hbd x a v0 c0 h0 n0 hna hZ0 O E V Cc A) hZ (hw _ (List.mem_of_getElem? (i := 19) rfl)) (hw _ (List.mem_of_getElem? (i := 11) rfl)) (by (try dsimp only [room_1]); (try simp only [List.length_cons, List.length_nil]); omega) (by (try dsimp only [room_1]); (try simp only [List.length_cons, List.length_nil]); omega)) e0 (g := (mkF m 6 #[.val (.ref x), .val (.ref a)] [.null, (.int (Int32.ofNat cs.length)), (.int (0 : Int32)), (.ref a), (.ref x)])) rfl (by rw [hml]; rfl) (a := x) (argsL := [(.ref a), (.int (0 : Int32)), (.int (Int32.ofNat cs.length)), .null]) (rest := []) (lenOf pd_17 rfl) rfl (by show 2 * 0 + _ ≤ _; exact Nat.le_of_eq rfl) (hb hby di1_6) rfl (by (try dsimp only [room_1]); (try simp only [List.length_cons, List.length_nil]); omega) (by (try dsimp only [room_1]); (try simp only [List.length_cons, List.length_nil]); omega) ?_
  rintro _ T1 L1 X1 ⟨rfl, N1, R1⟩
  show Go p e below _ T1 (mkF m 9 #[.val (.ref x), .val (.ref a)] [])
  exact Go.ret0 X1 hx hret hlk (hb hby di1_9) ⟨rfl, Fr.app (Fr.nil n0) N1, R1⟩ (by (try dsimp only [room_1]); (try simp only [List.length_cons, List.length_nil]); omega) (by (try dsimp only [room_1]); (try simp only [List.length_cons, List.length_nil]); omega)
theorem own_empty {us : Array UInt16} (h : utf16ToString? us = some "") : own_bytes us = [] := by
  have q := own_units h (by intro c hc; simp at hc)
  have q2 : us.toList = [] := by simpa using q.symm
  unfold own_bytes; rw [q2]; rfl
theorem di4_8 : decode jdk_42_method_149_code 8 = .ok (.aload_n 0, 1) := by decide +kernel
theorem di4_9 : decode jdk_42_method_149_code 9 = .ok (.ldc 7, 2) := by decide +kernel
theorem di4_11 : decode jdk_42_method_149_code 11 = .ok (.getfield 9, 3) := by decide +kernel
theorem di4_14 : decode jdk_42_method_149_code 14 = .ok (.putfield 9, 3) := by decide +kernel
theorem di4_17 : decode jdk_42_method_149_code 17 = .ok (.aload_n 0, 1) := by decide +kernel
theorem di4_18 : decode jdk_42_method_149_code 18 = .ok (.ldc 7, 2) := by decide +kernel
theorem di4_20 : decode jdk_42_method_149_code 20 = .ok (.getfield 15, 3) := by decide +kernel
theorem di4_23 : decode jdk_42_method_149_code 23 = .ok (.putfield 15, 3) := by decide +kernel
theorem di4_26 : decode jdk_42_method_149_code 26 = .ok (.return_, 1) := by decide +kernel
set_option maxRecDepth 65536 in
set_option maxHeartbeats 40000000 in
theorem rmI4e (l : Launch) (Z : State) (a0 : Array Value) (hw : ∀ d ∈ tables_1, d.before a0 Z = true) (N : Nat → Prop) (x a : Addr) (v0 c0 : Value) (h0 : Heap) (n0 : Nat) (hna : n0 ≤ x) (hNx : ¬ N x) (E : Exa Z h0 x "java/lang/String") (V : Fld Z h0 x "java/lang/String" "value" "[B" v0) (Cc : Fld Z h0 x "java/lang/String" "coder" "B" c0) :
    WCtr consts_1 N l Z (⟨"java/lang/String", "<init>", "([CIILjava/lang/Void;)V"⟩ : MethodName) jdk_42_method_149_code 6 none [] ({ frames := 1, cells := 2, slots := 4, locals := 12 } : Room) #[(.ref x), (.ref a), (.int (Int32.ofNat 0)), (.int (Int32.ofNat 0)), .null] h0 (QI Z x [] h0 n0) := by
  refine WCtr.of (plainFor_of_name pn_15) ?_
  intro p e s m below meth c s₁ hx hby hml hown hnm hret hlk hZ X0 e0 hC0
  refine Go.cast (ef_13 m x a (Int32.ofNat 0) (Int32.ofNat 0)) ?_
  show Go p e below _ s₁ (mkF m 0 #[.val (.ref x), .val (.ref a), .val (.int (Int32.ofNat 0)), .val (.int (Int32.ofNat 0)), .val .null, .unset] [])
  refine Go.st (fun _ k => XS.aloadN X0.here hx rfl (hb hby di4_0) rfl rfl k) ?_
  show Go p e below _ s₁ (mkF m 1 #[.val (.ref x), .val (.ref a), .val (.int (Int32.ofNat 0)), .val (.int (Int32.ofNat 0)), .val .null, .unset] [(.ref x)])
  obtain ⟨T1, X1, e1, st1⟩ := initO X0 hx hZ hown (hw _ (List.mem_of_getElem? (i := 20) rfl)) (hw _ (List.mem_of_getElem? (i := 21) rfl)) (hw _ (List.mem_of_getElem? (i := 22) rfl)) e0 (g := (mkF m 1 #[.val (.ref x), .val (.ref a), .val (.int (Int32.ofNat 0)), .val (.int (Int32.ofNat 0)), .val .null, .unset] [(.ref x)])) rfl (by rw [hml]; rfl) rfl (hb hby di4_1) (by (try dsimp only [room_1]); (try simp only [List.length_cons, List.length_nil]); omega) (W := 0) (by show 2 * 0 + _ ≤ _; exact Nat.le_of_eq rfl) (by (try dsimp only [room_1]); (try simp only [List.length_cons, List.length_nil]); omega)
  refine Go.st st1 ?_
  show Go p e below _ T1 (mkF m 4 #[.val (.ref x), .val (.ref a), .val (.int (Int32.ofNat 0)), .val (.int (Int32.ofNat 0)), .val .null, .unset] [])
  refine Go.st (fun _ k => XS.iloadN X1.here hx rfl (hb hby di4_4) rfl k) ?_
  show Go p e below _ T1 (mkF m 5 #[.val (.ref x), .val (.ref a), .val (.int (Int32.ofNat 0)), .val (.int (Int32.ofNat 0)), .val .null, .unset] [(.int (Int32.ofNat 0))])
  refine Go.st (fun _ k => XS.ifNo X1.here hx rfl (hb hby di4_5) rfl (XT.i0_ne_f rfl) k) ?_
  show Go p e below _ T1 (mkF m 8 #[.val (.ref x), .val (.ref a), .val (.int (Int32.ofNat 0)), .val (.int (Int32.ofNat 0)), .val .null, .unset] [])
  refine Go.st (fun _ k => XS.aloadN X1.here hx rfl (hb hby di4_8) rfl rfl k) ?_
  show Go p e below _ T1 (mkF m 9 #[.val (.ref x), .val (.ref a), .val (.int (Int32.ofNat 0)), .val (.int (Int32.ofNat 0)), .val .null, .unset] [(.ref x)])
  have wS : ∀ d ∈ Bundle.stringAtoms, d.before a0 Z = true := fun d hd => hw d ((by decide +kernel : ∀ d ∈ Bundle.stringAtoms, d ∈ tables_1) d hd)
  refine Go.ldcW X1 hx (Bas.refl s 0) (Nat.zero_le _) hZ hown (hw _ (List.mem_of_getElem? (i := 23) rfl)) wS (by intro c hc; simp at hc) hC0 (by rw [e1]; exact Und.refl N h0) (by simp [consts_1]) (fun _ q => nomatch q) (g := (mkF m 9 #[.val (.ref x), .val (.ref a), .val (.int (Int32.ofNat 0)), .val (.int (Int32.ofNat 0)), .val .null, .unset] [(.ref x)])) rfl (hb hby di4_9) (nn := 0) (by decide) (by decide) (by (try dsimp only [room_1]); (try simp only [List.length_cons, List.length_nil]); omega) (by (try dsimp only [room_1]); (try simp only [List.length_cons, List.length_nil]); omega) ?_
  rintro a1 v1 s2 T2 units locs2 hun hB2 hZ2 hown2 hC2 E2 hsh hloc X2 hres F1 F2 F3 F4 hpl
  obtain rfl : locs2 = [] := List.eq_nil_iff_forall_not_mem.mpr (fun y hy => nomatch hloc y hy)
  rw [own_empty hun] at F4
  have E2' : Ext h0 T2.heap := e1 ▸ E2
  have lx : x < T1.heap.size := e1 ▸ E.lt
  have hax : a1 ≠ x := by
      rcases hpl with ⟨q, -⟩ | ⟨q, -⟩
      · exact fun z => hNx (z ▸ q)
      · exact Nat.ne_of_gt (Nat.lt_of_lt_of_le lx q)
  have hvx : v1 ≠ x := by
      rcases hpl with ⟨-, q⟩ | ⟨-, q⟩
      · exact fun z => hNx (z ▸ q)
      · exact Nat.ne_of_gt (Nat.lt_of_lt_of_le lx q)
  show Go p e below _ T2 (mkF m 11 #[.val (.ref x), .val (.ref a), .val (.int (Int32.ofNat 0)), .val (.int (Int32.ofNat 0)), .val .null, .unset] [(.ref a1), (.ref x)])
  obtain ⟨T3, X3, e3, st3⟩ := getF X2 hx hZ2 hown2 (host := "") (Or.inl (hw _ (List.mem_of_getElem? (i := 29) rfl))) Via.refl rfl F2 (g := (mkF m 11 #[.val (.ref x), .val (.ref a), .val (.int (Int32.ofNat 0)), .val (.int (Int32.ofNat 0)), .val .null, .unset] [(.ref a1), (.ref x)])) rfl rfl (hb hby di4_11)
  refine Go.st st3 ?_
  show Go p e below _ T3 (mkF m 14 #[.val (.ref x), .val (.ref a), .val (.int (Int32.ofNat 0)), .val (.int (Int32.ofNat 0)), .val .null, .unset] [(.ref v1), (.ref x)])
  have sn := slot_ne (Or.inr (hw _ (List.mem_of_getElem? (i := 25) rfl))) (Or.inr (hw _ (List.mem_of_getElem? (i := 26) rfl))) (by decide) (t := (.array .byte)) (t' := .byte) (by decide) (by decide)
  have sn' := slot_ne (Or.inr (hw _ (List.mem_of_getElem? (i := 26) rfl))) (Or.inr (hw _ (List.mem_of_getElem? (i := 25) rfl))) (by decide) (t := .byte) (t' := (.array .byte)) (by decide) (by decide)
  obtain ⟨T5, h5, X5, e5, W5, st5⟩ := putF X3 hx hZ2 hown2 (host := "") (Or.inl (hw _ (List.mem_of_getElem? (i := 29) rfl))) Via.refl e3 (V.ext E2') (E.ext E2') (Or.inr ⟨(hw _ (List.mem_of_getElem? (i := 25) rfl)), rfl, hnm⟩) (hw _ (List.mem_of_getElem? (i := 10) rfl)) (ty := (.array .byte)) (by decide) rfl rfl (g := (mkF m 14 #[.val (.ref x), .val (.ref a), .val (.int (Int32.ofNat 0)), .val (.int (Int32.ofNat 0)), .val .null, .unset] [(.ref v1), (.ref x)])) rfl rfl (hb hby di4_14)
  refine Go.st st5 ?_
  show Go p e below _ T5 (mkF m 17 #[.val (.ref x), .val (.ref a), .val (.int (Int32.ofNat 0)), .val (.int (Int32.ofNat 0)), .val .null, .unset] [])
  refine Go.st (fun _ k => XS.aloadN X5.here hx rfl (hb hby di4_17) rfl rfl k) ?_
  show Go p e below _ T5 (mkF m 18 #[.val (.ref x), .val (.ref a), .val (.int (Int32.ofNat 0)), .val (.int (Int32.ofNat 0)), .val .null, .unset] [(.ref x)])
  refine Go.ldcR X5 hx hZ2 hown2 (hw _ (List.mem_of_getElem? (i := 23) rfl)) hres (g := (mkF m 18 #[.val (.ref x), .val (.ref a), .val (.int (Int32.ofNat 0)), .val (.int (Int32.ofNat 0)), .val .null, .unset] [(.ref x)])) rfl (hb hby di4_18) ?_
  show Go p e below _ T5 (mkF m 20 #[.val (.ref x), .val (.ref a), .val (.int (Int32.ofNat 0)), .val (.int (Int32.ofNat 0)), .val .null, .unset] [(.ref a1), (.ref x)])
  obtain ⟨T6, X6, e6, st6⟩ := getF X5 hx hZ2 hown2 (host := "") (Or.inl (hw _ (List.mem_of_getElem? (i := 30) rfl))) Via.refl e5 (F3.other W5 (Or.inl hax)) (g := (mkF m 20 #[.val (.ref x), .val (.ref a), .val (.int (Int32.ofNat 0)), .val (.int (Int32.ofNat 0)), .val .null, .unset] [(.ref a1), (.ref x)])) rfl rfl (hb hby di4_20)
  refine Go.st st6 ?_
  show Go p e below _ T6 (mkF m 23 #[.val (.ref x), .val (.ref a), .val (.int (Int32.ofNat 0)), .val (.int (Int32.ofNat 0)), .val .null, .unset] [(.int (0 : Int32)), (.ref x)])
  obtain ⟨T7, h7, X7, e7, W7, st7⟩ := putF X6 hx hZ2 hown2 (host := "") (Or.inl (hw _ (List.mem_of_getElem? (i := 30) rfl))) Via.refl e6 ((Cc.ext E2').other W5 (Or.inr sn')) ((E.ext E2').wr W5) (Or.inr ⟨(hw _ (List.mem_of_getElem? (i := 26) rfl)), rfl, hnm⟩) (hw _ (List.mem_of_getElem? (i := 10) rfl)) (ty := .byte) (by decide) rfl rfl (g := (mkF m 23 #[.val (.ref x), .val (.ref a), .val (.int (Int32.ofNat 0)), .val (.int (Int32.ofNat 0)), .val .null, .unset] [(.int (0 : Int32)), (.ref x)])) rfl rfl (hb hby di4_23)
  refine Go.st st7 ?_
  show Go p e below _ T7 (mkF m 26 #[.val (.ref x), .val (.ref a), .val (.int (Int32.ofNat 0)), .val (.int (Int32.ofNat 0)), .val .null, .unset] [])
  have K7 : Keep h0 h7 [x] := (((Keep.refl h0 [x]).ext E2').wr W5 (Or.inl (List.mem_cons_self ..))).wr W7 (Or.inl (List.mem_cons_self ..))
  have hq : ¬ (N x ∨ T1.heap.size ≤ x) := fun z => z.elim hNx (Nat.not_le.mpr lx)
  have U7 : Und (fun b => N b ∨ T1.heap.size ≤ b) T2.heap T7.heap := e7 ▸ (((Und.refl _ T2.heap).wr W5 hq).wr W7 hq)
  exact Go.ret0W X7 hx hB2 U7.1 hC2 U7 hret hlk (hb hby di4_26) ⟨rfl, Fr.snoc X7 (Fr.snoc X5 (Fr.nil n0) hna) hna, e7 ▸ K7, e7 ▸ ((E.ext E2').wr W5).wr W7, e7 ▸ ((Cc.ext E2').other W5 (Or.inr sn')).same W7, v1, e7 ▸ ((V.ext E2').same W5).other W7 (Or.inr sn), e7 ▸ (F4.other W5 hvx).other W7 hvx, hvx⟩ (by (try dsimp only [room_1]); (try simp only [List.length_cons, List.length_nil]); omega) (by (try dsimp only [room_1]); (try simp only [List.length_cons, List.length_nil]); omega)
set_option maxRecDepth 65536 in
set_option maxHeartbeats 40000000 in
theorem rmI1e (l : Launch) (Z : State) (a0 : Array Value) (hw : ∀ d ∈ tables_1, d.before a0 Z = true) (N : Nat → Prop) (x a : Addr) (v0 c0 : Value) (h0 : Heap) (n0 : Nat) (hna : n0 ≤ x) (hNx : ¬ N x) (E : Exa Z h0 x "java/lang/String") (V : Fld Z h0 x "java/lang/String" "value" "[B" v0) (Cc : Fld Z h0 x "java/lang/String" "coder" "B" c0) (A : AI Z h0 a .char []) :
    WCtr consts_1 N l Z (⟨"java/lang/String", "<init>", "([C)V"⟩ : MethodName) jdk_42_method_3_code 2 none [] ({ frames := 2, cells := 2, slots := 4, locals := 29 } : Room) #[(.ref x), (.ref a)] h0 (QI Z x [] h0 n0) := by
  refine WCtr.of (plainFor_of_name pn_15) ?_
  intro p e s m below meth c s₁ hx hby hml hown hnm hret hlk hZ X0 e0 hC0
  refine Go.cast (ef_16 m x a) ?_
  show Go p e below _ s₁ (mkF m 0 #[.val (.ref x), .val (.ref a)] [])
  refine Go.st (fun _ k => XS.aloadN X0.here hx rfl (hb hby di1_0) rfl rfl k) ?_
  show Go p e below _ s₁ (mkF m 1 #[.val (.ref x), .val (.ref a)] [(.ref x)])
  refine Go.st (fun _ k => XS.aloadN X0.here hx rfl (hb hby di1_1) rfl rfl k) ?_
  show Go p e below _ s₁ (mkF m 2 #[.val (.ref x), .val (.ref a)] [(.ref a), (.ref x)])
  refine Go.st (fun _ k => XS.iconst X0.here hx rfl (hb hby di1_2) k) ?_
  show Go p e below _ s₁ (mkF m 3 #[.val (.ref x), .val (.ref a)] [(.int (0 : Int32)), (.ref a), (.ref x)])
  refine Go.st (fun _ k => XS.aloadN X0.here hx rfl (hb hby di1_3) rfl rfl k) ?_
  show Go p e below _ s₁ (mkF m 4 #[.val (.ref x), .val (.ref a)] [(.ref a), (.int (0 : Int32)), (.ref a), (.ref x)])
  refine Go.alen X0 hx hZ e0 A (g := (mkF m 4 #[.val (.ref x), .val (.ref a)] [(.ref a), (.int (0 : Int32)), (.ref a), (.ref x)])) rfl rfl (hb hby di1_4) ?_
  show Go p e below _ s₁ (mkF m 5 #[.val (.ref x), .val (.ref a)] [(.int (Int32.ofNat 0)), (.int (0 : Int32)), (.ref a), (.ref x)])
  refine Go.st (fun _ k => XS.aconstNull X0.here hx rfl (hb hby di1_5) k) ?_
  show Go p e below _ s₁ (mkF m 6 #[.val (.ref x), .val (.ref a)] [.null, (.int (Int32.ofNat 0)), (.int (0 : Int32)), (.ref a), (.ref x)])
  refine Go.callIW X0 hx (Bas.refl s 0) (Nat.zero_le _) hZ (y := (⟨"java/lang/String", "<init>", "([CIILjava/lang/Void;)V"⟩ : MethodName)) rfl hown (mvT hZ (hw _ (List.mem_of_getElem? (i := 16) rfl))) (mvT hZ (hw _ (List.mem_of_getElem? (i := 17) rfl))) (mvT hZ (hw _ (List.mem_of_getElem? (i := 19) rfl))) (by decide) (Wt := 0) (rmI4e l Z a0 hw N x a v0 c0 h0 n0 hna hNx E V Cc) (hw _ (List.mem_of_getElem? (i := 19) rfl)) (hw _ (List.mem_of_getElem? (i := 11) rfl)) (by (try dsimp only [room_1]); (try simp only [List.length_cons, List.length_nil]); omega) (by (try dsimp only [room_1]); (try simp only [List.length_cons, List.length_nil]); omega) e0 hC0 (by rw [e0]; exact Und.refl N h0) (g := (mkF m 6 #[.val (.ref x), .val (.ref a)] [.null, (.int (Int32.ofNat 0)), (.int (0 : Int32)), (.ref a), (.ref x)])) rfl (by rw [hml]; rfl) (a := x) (argsL := [(.ref a), (.int (0 : Int32)), (.int (Int32.ofNat 0)), .null]) (rest := []) (lenOf pd_17 rfl) rfl (by show 2 * 0 + _ ≤ _; exact Nat.le_of_eq rfl) (hb hby di1_6) rfl (by (try dsimp only [room_1]); (try simp only [List.length_cons, List.length_nil]); omega) (by (try dsimp only [room_1]); (try simp only [List.length_cons, List.length_nil]); omega) ?_
  rintro _ s1 T1 L1 hB1 hZ1 hown1 hC1 hsz1 X1 ⟨rfl, N1, R1⟩
  show Go p e below _ T1 (mkF m 9 #[.val (.ref x), .val (.ref a)] [])
  exact Go.ret0W X1 hx hB1 (Nat.le_refl _) hC1 (Und.refl _ _) hret hlk (hb hby di1_9) ⟨rfl, Fr.app (Fr.nil n0) N1, R1⟩ (by (try dsimp only [room_1]); (try simp only [List.length_cons, List.length_nil]); omega) (by (try dsimp only [room_1]); (try simp only [List.length_cons, List.length_nil]); omega)
theorem ddl_0 : decode method_2_code 0 = .ok (.iload_n 0, 1) := by decide +kernel
theorem ddl_1 : decode method_2_code 1 = .ok (.ldc 7, 2) := by decide +kernel
theorem ddl_3 : decode method_2_code 3 = .ok (.iand, 1) := by decide +kernel
theorem ddl_4 : decode method_2_code 4 = .ok (.iconst 3, 1) := by decide +kernel
theorem ddl_5 : decode method_2_code 5 = .ok (.irem, 1) := by decide +kernel
theorem ddl_6 : decode method_2_code 6 = .ok (.ireturn, 1) := by decide +kernel
def own_len (p : Int32) : Int32 := (p &&& (2147483647 : Int32)) % (3 : Int32)
set_option maxRecDepth 65536 in
set_option maxHeartbeats 40000000 in
theorem rmDL (l : Launch) (Z : State) (a0 : Array Value) (hw : ∀ d ∈ tables_1, d.before a0 Z = true) (p1 : Int32) (h0 : Heap) (n0 : Nat) :
    Ctr l Z (⟨"com/example/einstand/einstand/ValuationUnitIsWholePinLaw", "drawnLength", "(I)I"⟩ : MethodName) method_2_code 1 (some .int) [] ({ frames := 0, cells := 0, slots := 0, locals := 0 } : Room) #[(.int p1)] h0 (QP (own_len p1) h0 n0) := by
  refine Ctr.of (plainFor_of_name pn_18) ?_
  intro p e s m below meth c s₁ hx hby hml hown hnm hret hlk hZ X0 e0
  refine Go.cast (ef_0 m p1) ?_
  show Go p e below _ s₁ (mkF m 0 #[.val (.int p1)] [])
  refine Go.st (fun _ k => XS.iloadN X0.here hx rfl (hb hby ddl_0) rfl k) ?_
  show Go p e below _ s₁ (mkF m 1 #[.val (.int p1)] [(.int p1)])
  refine Go.st (fun _ k => X0.ldcI hx hown (mvT hZ (hw _ (List.mem_of_getElem? (i := 7) rfl))) rfl (hb hby ddl_1) k) ?_
  show Go p e below _ s₁ (mkF m 3 #[.val (.int p1)] [(.int (2147483647 : Int32)), (.int p1)])
  refine Go.st (fun _ k => XS.iand X0.here hx rfl (hb hby ddl_3) rfl k) ?_
  show Go p e below _ s₁ (mkF m 4 #[.val (.int p1)] [(.int (p1 &&& (2147483647 : Int32)))])
  refine Go.st (fun _ k => XS.iconst X0.here hx rfl (hb hby ddl_4) k) ?_
  show Go p e below _ s₁ (mkF m 5 #[.val (.int p1)] [(.int (3 : Int32)), (.int (p1 &&& (2147483647 : Int32)))])
  refine Go.st (fun _ k => iremM X0 hx rfl (hb hby ddl_5) rfl (by decide) k) ?_
  show Go p e below _ s₁ (mkF m 6 #[.val (.int p1)] [(.int ((p1 &&& (2147483647 : Int32)) % (3 : Int32)))])
  exact Go.retI X0 hx hret hlk (hb hby ddl_6) ⟨rfl, Fr.nil n0, e0⟩ (Nat.le_refl _) (Nat.le_refl _)
theorem own_len3 (x : Int32) : own_len x = 0 ∨ own_len x = 1 ∨ own_len x = 2 := by
  unfold own_len
  have h1 : ¬ (x &&& (2147483647 : Int32)) < 0 := fun q => absurd ((XT.and_neg32 _ _).mp q).2 (by decide)
  have h2 : ((x &&& (2147483647 : Int32)) % (3 : Int32)).toInt = (x &&& (2147483647 : Int32)).toInt.tmod 3 := Int32.toInt_mod ..
  generalize (x &&& (2147483647 : Int32)) = y at h1 h2 ⊢
  generalize y % (3 : Int32) = z at h2 ⊢
  rw [XT.negI32] at h1
  rw [Int.tmod_eq_emod_of_nonneg (by omega)] at h2
  simp only [← Int32.toInt_inj, Int32.reduceToInt]
  omega
theorem own_char_rng (y : Int32) : ¬ nar .char y < 0 ∧ ¬ (65535 : Int32) < nar .char y := by
  have key : (nar .char y).toInt = (y.toUInt32.toUInt16.toNat : Int) := by
    show (y.toUInt32.toUInt16.toUInt32.toInt32).toBitVec.toInt = _
    have hu := y.toUInt32.toUInt16.toNat_lt
    have hm : (y.toUInt32.toUInt16.toUInt32.toInt32).toBitVec.toNat = y.toUInt32.toUInt16.toNat := by
      show (y.toUInt32.toUInt16.toUInt32).toNat = _
      simp
    rw [BitVec.toInt_eq_toNat_cond, hm]
    split <;> omega
  have hu := y.toUInt32.toUInt16.toNat_lt
  have e1 : (65535 : Int32).toInt = 65535 := rfl
  have e2 : (0 : Int32).toInt = 0 := rfl
  rw [Int32.lt_iff_toInt_lt, Int32.lt_iff_toInt_lt, key, e1, e2]
  omega
theorem own_val_nil (cs : List Int32) : own_val cs = [] ↔ cs.length = 0 := by
  rw [← List.length_eq_zero_iff, own_val_len]
  split <;> omega
def QD (Z : State) (p1 : Int32) (h0 : Heap) (n0 : Nat) (v : Option Value) (h : Heap) (L : List Loc) : Prop := ∃ a t bs, v = some (.ref a) ∧ Fr n0 L ∧ Keep h0 h [] ∧ Exa Z h a "java/lang/String" ∧ Fld Z h a "java/lang/String" "value" "[B" (.ref t) ∧ AI Z h t .byte bs ∧ (bs = [] ↔ own_len p1 = 0)
theorem ddr_0 : decode method_3_code 0 = .ok (.iload_n 0, 1) := by decide +kernel
theorem ddr_1 : decode method_3_code 1 = .ok (.invokestatic 8, 3) := by decide +kernel
theorem ddr_4 : decode method_3_code 4 = .ok (.istore_n 2, 1) := by decide +kernel
theorem ddr_5 : decode method_3_code 5 = .ok (.iload_n 1, 1) := by decide +kernel
theorem ddr_6 : decode method_3_code 6 = .ok (.ldc 14, 2) := by decide +kernel
theorem ddr_8 : decode method_3_code 8 = .ok (.iand, 1) := by decide +kernel
theorem ddr_9 : decode method_3_code 9 = .ok (.i2c, 1) := by decide +kernel
theorem ddr_10 : decode method_3_code 10 = .ok (.istore_n 3, 1) := by decide +kernel
theorem ddr_11 : decode method_3_code 11 = .ok (.iload_n 1, 1) := by decide +kernel
theorem ddr_12 : decode method_3_code 12 = .ok (.bipush 16, 2) := by decide +kernel
theorem ddr_14 : decode method_3_code 14 = .ok (.iushr, 1) := by decide +kernel
theorem ddr_15 : decode method_3_code 15 = .ok (.ldc 14, 2) := by decide +kernel
theorem ddr_17 : decode method_3_code 17 = .ok (.iand, 1) := by decide +kernel
theorem ddr_18 : decode method_3_code 18 = .ok (.i2c, 1) := by decide +kernel
theorem ddr_19 : decode method_3_code 19 = .ok (.istore 4, 2) := by decide +kernel
theorem ddr_21 : decode method_3_code 21 = .ok (.iload_n 2, 1) := by decide +kernel
theorem ddr_22 : decode method_3_code 22 = .ok (.ifCond .ne 14, 3) := by decide +kernel
theorem ddr_25 : decode method_3_code 25 = .ok (.new 15, 3) := by decide +kernel
theorem ddr_28 : decode method_3_code 28 = .ok (.dup, 1) := by decide +kernel
theorem ddr_29 : decode method_3_code 29 = .ok (.iconst 0, 1) := by decide +kernel
theorem ddr_30 : decode method_3_code 30 = .ok (.newarray .char, 2) := by decide +kernel
theorem ddr_32 : decode method_3_code 32 = .ok (.invokespecial 17, 3) := by decide +kernel
theorem ddr_35 : decode method_3_code 35 = .ok (.areturn, 1) := by decide +kernel
theorem ddr_36 : decode method_3_code 36 = .ok (.iload_n 2, 1) := by decide +kernel
theorem ddr_37 : decode method_3_code 37 = .ok (.iconst 1, 1) := by decide +kernel
theorem ddr_38 : decode method_3_code 38 = .ok (.if_icmp .ne 23, 3) := by decide +kernel
theorem ddr_41 : decode method_3_code 41 = .ok (.iconst 1, 1) := by decide +kernel
theorem ddr_42 : decode method_3_code 42 = .ok (.newarray .char, 2) := by decide +kernel
theorem ddr_44 : decode method_3_code 44 = .ok (.astore 5, 2) := by decide +kernel
theorem ddr_46 : decode method_3_code 46 = .ok (.aload 5, 2) := by decide +kernel
theorem ddr_48 : decode method_3_code 48 = .ok (.iconst 0, 1) := by decide +kernel
theorem ddr_49 : decode method_3_code 49 = .ok (.iload_n 3, 1) := by decide +kernel
theorem ddr_50 : decode method_3_code 50 = .ok (.castore, 1) := by decide +kernel
theorem ddr_51 : decode method_3_code 51 = .ok (.new 15, 3) := by decide +kernel
theorem ddr_54 : decode method_3_code 54 = .ok (.dup, 1) := by decide +kernel
theorem ddr_55 : decode method_3_code 55 = .ok (.aload 5, 2) := by decide +kernel
theorem ddr_57 : decode method_3_code 57 = .ok (.invokespecial 17, 3) := by decide +kernel
theorem ddr_60 : decode method_3_code 60 = .ok (.areturn, 1) := by decide +kernel
theorem ddr_61 : decode method_3_code 61 = .ok (.iconst 2, 1) := by decide +kernel
theorem ddr_62 : decode method_3_code 62 = .ok (.newarray .char, 2) := by decide +kernel
theorem ddr_64 : decode method_3_code 64 = .ok (.astore 5, 2) := by decide +kernel
theorem ddr_66 : decode method_3_code 66 = .ok (.aload 5, 2) := by decide +kernel
theorem ddr_68 : decode method_3_code 68 = .ok (.iconst 0, 1) := by decide +kernel
theorem ddr_69 : decode method_3_code 69 = .ok (.iload_n 3, 1) := by decide +kernel
theorem ddr_70 : decode method_3_code 70 = .ok (.castore, 1) := by decide +kernel
theorem ddr_71 : decode method_3_code 71 = .ok (.aload 5, 2) := by decide +kernel
theorem ddr_73 : decode method_3_code 73 = .ok (.iconst 1, 1) := by decide +kernel
theorem ddr_74 : decode method_3_code 74 = .ok (.iload 4, 2) := by decide +kernel
theorem ddr_76 : decode method_3_code 76 = .ok (.castore, 1) := by decide +kernel
theorem ddr_77 : decode method_3_code 77 = .ok (.new 15, 3) := by decide +kernel
theorem ddr_80 : decode method_3_code 80 = .ok (.dup, 1) := by decide +kernel
theorem ddr_81 : decode method_3_code 81 = .ok (.aload 5, 2) := by decide +kernel
theorem ddr_83 : decode method_3_code 83 = .ok (.invokespecial 17, 3) := by decide +kernel
theorem ddr_86 : decode method_3_code 86 = .ok (.areturn, 1) := by decide +kernel
set_option maxRecDepth 65536 in
set_option maxHeartbeats 40000000 in
theorem rmDR (l : Launch) (Z : State) (a0 : Array Value) (hw : ∀ d ∈ tables_1, d.before a0 Z = true) (z : Int32) (Su : Su16 Z z) (p1 p2 : Int32) (h0 : Heap) (n0 : Nat) (Z0 : n0 ≤ h0.size) (X00 : Old Z n0 h0) :
    WCtr consts_1 (fun b => b < h0.size) l Z (⟨"com/example/einstand/einstand/ValuationUnitIsWholePinLaw", "draw", "(II)Ljava/lang/String;"⟩ : MethodName) method_3_code 6 (some (.object "java/lang/String")) [] ({ frames := 6, cells := 4, slots := 12, locals := 88 } : Room) #[(.int p1), (.int p2)] h0 (QD Z p1 h0 n0) := by
  refine WCtr.of (plainFor_of_name pn_18) ?_
  intro p e s m below meth c s₁ hx hby hml hown hnm hret hlk hZ X0 e0 hC0
  refine Go.cast (ef_19 m p1 p2) ?_
  show Go p e below _ s₁ (mkF m 0 #[.val (.int p1), .val (.int p2), .unset, .unset, .unset, .unset] [])
  refine Go.st (fun _ k => XS.iloadN X0.here hx rfl (hb hby ddr_0) rfl k) ?_
  show Go p e below _ s₁ (mkF m 1 #[.val (.int p1), .val (.int p2), .unset, .unset, .unset, .unset] [(.int p1)])
  refine Go.callS X0 hx (y := (⟨"com/example/einstand/einstand/ValuationUnitIsWholePinLaw", "drawnLength", "(I)I"⟩ : MethodName)) hown (mvT hZ (hw _ (List.mem_of_getElem? (i := 4) rfl))) (mvT hZ (hw _ (List.mem_of_getElem? (i := 5) rfl))) (mvT hZ (hw _ (List.mem_of_getElem? (i := 2) rfl))) (mvT hZ (hw _ (List.mem_of_getElem? (i := 6) rfl))) (by decide) (Ctr.back (W := 0) (rmDL l Z a0 hw p1 h0 n0) hZ (hw _ (List.mem_of_getElem? (i := 6) rfl)) (hw _ (List.mem_of_getElem? (i := 2) rfl)) (by (try dsimp only [room_1]); (try simp only [List.length_cons, List.length_nil]); omega) (by (try dsimp only [room_1]); (try simp only [List.length_cons, List.length_nil]); omega)) e0 (g := (mkF m 1 #[.val (.int p1), .val (.int p2), .unset, .unset, .unset, .unset] [(.int p1)])) rfl (by rw [hml]; rfl) (argsL := [(.int p1)]) (rest := []) (lenOf pd_2 rfl) rfl (by show 2 * 0 + _ ≤ _; exact Nat.le_of_eq rfl) (hb hby ddr_1) rfl (by (try dsimp only [room_1]); (try simp only [List.length_cons, List.length_nil]); omega) (by (try dsimp only [room_1]); (try simp only [List.length_cons, List.length_nil]); omega) ?_
  rintro _ T1 L1 X1 ⟨rfl, N1, e1⟩
  show Go p e below _ T1 (mkF m 4 #[.val (.int p1), .val (.int p2), .unset, .unset, .unset, .unset] [(.int (own_len p1))])
  refine Go.st (fun _ k => XS.istoreN X1.here hx rfl (hb hby ddr_4) rfl (l' := #[.val (.int p1), .val (.int p2), .val (.int (own_len p1)), .unset, .unset, .unset]) rfl k) ?_
  show Go p e below _ T1 (mkF m 5 #[.val (.int p1), .val (.int p2), .val (.int (own_len p1)), .unset, .unset, .unset] [])
  refine Go.st (fun _ k => XS.iloadN X1.here hx rfl (hb hby ddr_5) rfl k) ?_
  show Go p e below _ T1 (mkF m 6 #[.val (.int p1), .val (.int p2), .val (.int (own_len p1)), .unset, .unset, .unset] [(.int p2)])
  refine Go.st (fun _ k => X1.ldcI hx hown (mvT hZ (hw _ (List.mem_of_getElem? (i := 8) rfl))) rfl (hb hby ddr_6) k) ?_
  show Go p e below _ T1 (mkF m 8 #[.val (.int p1), .val (.int p2), .val (.int (own_len p1)), .unset, .unset, .unset] [(.int (65535 : Int32)), (.int p2)])
  refine Go.st (fun _ k => XS.iand X1.here hx rfl (hb hby ddr_8) rfl k) ?_
  show Go p e below _ T1 (mkF m 9 #[.val (.int p1), .val (.int p2), .val (.int (own_len p1)), .unset, .unset, .unset] [(.int (p2 &&& (65535 : Int32)))])
  refine Go.st (fun _ k => XT.i2c X1.here hx rfl (hb hby ddr_9) rfl k) ?_
  show Go p e below _ T1 (mkF m 10 #[.val (.int p1), .val (.int p2), .val (.int (own_len p1)), .unset, .unset, .unset] [(.int ((p2 &&& (65535 : Int32)).toUInt32.toUInt16.toUInt32.toInt32))])
  refine Go.st (fun _ k => XS.istoreN X1.here hx rfl (hb hby ddr_10) rfl (l' := #[.val (.int p1), .val (.int p2), .val (.int (own_len p1)), .val (.int ((p2 &&& (65535 : Int32)).toUInt32.toUInt16.toUInt32.toInt32)), .unset, .unset]) rfl k) ?_
  show Go p e below _ T1 (mkF m 11 #[.val (.int p1), .val (.int p2), .val (.int (own_len p1)), .val (.int ((p2 &&& (65535 : Int32)).toUInt32.toUInt16.toUInt32.toInt32)), .unset, .unset] [])
  refine Go.st (fun _ k => XS.iloadN X1.here hx rfl (hb hby ddr_11) rfl k) ?_
  show Go p e below _ T1 (mkF m 12 #[.val (.int p1), .val (.int p2), .val (.int (own_len p1)), .val (.int ((p2 &&& (65535 : Int32)).toUInt32.toUInt16.toUInt32.toInt32)), .unset, .unset] [(.int p2)])
  refine Go.st (fun _ k => XS.bipush X1.here hx rfl (hb hby ddr_12) k) ?_
  show Go p e below _ T1 (mkF m 14 #[.val (.int p1), .val (.int p2), .val (.int (own_len p1)), .val (.int ((p2 &&& (65535 : Int32)).toUInt32.toUInt16.toUInt32.toInt32)), .unset, .unset] [(.int (16 : Int32)), (.int p2)])
  refine Go.st (fun _ k => XT.iushr X1.here hx rfl (hb hby ddr_14) rfl k) ?_
  show Go p e below _ T1 (mkF m 15 #[.val (.int p1), .val (.int p2), .val (.int (own_len p1)), .val (.int ((p2 &&& (65535 : Int32)).toUInt32.toUInt16.toUInt32.toInt32)), .unset, .unset] [(.int (XT.ushr p2 (16 : Int32)))])
  refine Go.st (fun _ k => X1.ldcI hx hown (mvT hZ (hw _ (List.mem_of_getElem? (i := 8) rfl))) rfl (hb hby ddr_15) k) ?_
  show Go p e below _ T1 (mkF m 17 #[.val (.int p1), .val (.int p2), .val (.int (own_len p1)), .val (.int ((p2 &&& (65535 : Int32)).toUInt32.toUInt16.toUInt32.toInt32)), .unset, .unset] [(.int (65535 : Int32)), (.int (XT.ushr p2 (16 : Int32)))])
  refine Go.st (fun _ k => XS.iand X1.here hx rfl (hb hby ddr_17) rfl k) ?_
  show Go p e below _ T1 (mkF m 18 #[.val (.int p1), .val (.int p2), .val (.int (own_len p1)), .val (.int ((p2 &&& (65535 : Int32)).toUInt32.toUInt16.toUInt32.toInt32)), .unset, .unset] [(.int ((XT.ushr p2 (16 : Int32)) &&& (65535 : Int32)))])
  refine Go.st (fun _ k => XT.i2c X1.here hx rfl (hb hby ddr_18) rfl k) ?_
  show Go p e below _ T1 (mkF m 19 #[.val (.int p1), .val (.int p2), .val (.int (own_len p1)), .val (.int ((p2 &&& (65535 : Int32)).toUInt32.toUInt16.toUInt32.toInt32)), .unset, .unset] [(.int (((XT.ushr p2 (16 : Int32)) &&& (65535 : Int32)).toUInt32.toUInt16.toUInt32.toInt32))])
  refine Go.st (fun _ k => XS.istore X1.here hx rfl (hb hby ddr_19) rfl (l' := #[.val (.int p1), .val (.int p2), .val (.int (own_len p1)), .val (.int ((p2 &&& (65535 : Int32)).toUInt32.toUInt16.toUInt32.toInt32)), .val (.int (((XT.ushr p2 (16 : Int32)) &&& (65535 : Int32)).toUInt32.toUInt16.toUInt32.toInt32)), .unset]) rfl k) ?_
  show Go p e below _ T1 (mkF m 21 #[.val (.int p1), .val (.int p2), .val (.int (own_len p1)), .val (.int ((p2 &&& (65535 : Int32)).toUInt32.toUInt16.toUInt32.toInt32)), .val (.int (((XT.ushr p2 (16 : Int32)) &&& (65535 : Int32)).toUInt32.toUInt16.toUInt32.toInt32)), .unset] [])
  refine Go.st (fun _ k => XS.iloadN X1.here hx rfl (hb hby ddr_21) rfl k) ?_
  show Go p e below _ T1 (mkF m 22 #[.val (.int p1), .val (.int p2), .val (.int (own_len p1)), .val (.int ((p2 &&& (65535 : Int32)).toUInt32.toUInt16.toUInt32.toInt32)), .val (.int (((XT.ushr p2 (16 : Int32)) &&& (65535 : Int32)).toUInt32.toUInt16.toUInt32.toInt32)), .unset] [(.int (own_len p1))])
  by_cases q0 : own_len p1 = 0
  · skip
    refine Go.st (fun _ k => XS.ifNo X1.here hx rfl (hb hby ddr_22) rfl (XT.i0_ne_f q0) k) ?_
    show Go p e below _ T1 (mkF m 25 #[.val (.int p1), .val (.int p2), .val (.int (own_len p1)), .val (.int ((p2 &&& (65535 : Int32)).toUInt32.toUInt16.toUInt32.toInt32)), .val (.int (((XT.ushr p2 (16 : Int32)) &&& (65535 : Int32)).toUInt32.toUInt16.toUInt32.toInt32)), .unset] [])
    obtain ⟨T2, h2, X2, e2, E2, A2, D2, -, st2⟩ := newO X1 hx hZ hown (hw _ (List.mem_of_getElem? (i := 9) rfl)) (hw _ (List.mem_of_getElem? (i := 10) rfl)) (hw _ (List.mem_of_getElem? (i := 11) rfl)) e1 (g := (mkF m 25 #[.val (.int p1), .val (.int p2), .val (.int (own_len p1)), .val (.int ((p2 &&& (65535 : Int32)).toUInt32.toUInt16.toUInt32.toInt32)), .val (.int (((XT.ushr p2 (16 : Int32)) &&& (65535 : Int32)).toUInt32.toUInt16.toUInt32.toInt32)), .unset] [])) rfl (hb hby ddr_25) (by (try dsimp only [room_1]); (try simp only [List.length_cons, List.length_nil]); omega) (by (try dsimp only [room_1]); (try simp only [List.length_cons, List.length_nil]); omega)
    obtain ⟨a2, g2⟩ : ∃ z, z = h0.size := ⟨_, rfl⟩
    rw [← g2] at A2 D2 st2
    have l2 : a2 < h2.size := A2.lt
    have sE2 := E2.1
    refine Go.st st2 ?_
    show Go p e below _ T2 (mkF m 28 #[.val (.int p1), .val (.int p2), .val (.int (own_len p1)), .val (.int ((p2 &&& (65535 : Int32)).toUInt32.toUInt16.toUInt32.toInt32)), .val (.int (((XT.ushr p2 (16 : Int32)) &&& (65535 : Int32)).toUInt32.toUInt16.toUInt32.toInt32)), .unset] [(.ref a2)])
    refine Go.st (fun _ k => XS.dup X2.here hx rfl (hb hby ddr_28) rfl rfl k) ?_
    show Go p e below _ T2 (mkF m 29 #[.val (.int p1), .val (.int p2), .val (.int (own_len p1)), .val (.int ((p2 &&& (65535 : Int32)).toUInt32.toUInt16.toUInt32.toInt32)), .val (.int (((XT.ushr p2 (16 : Int32)) &&& (65535 : Int32)).toUInt32.toUInt16.toUInt32.toInt32)), .unset] [(.ref a2), (.ref a2)])
    refine Go.st (fun _ k => XS.iconst X2.here hx rfl (hb hby ddr_29) k) ?_
    show Go p e below _ T2 (mkF m 30 #[.val (.int p1), .val (.int p2), .val (.int (own_len p1)), .val (.int ((p2 &&& (65535 : Int32)).toUInt32.toUInt16.toUInt32.toInt32)), .val (.int (((XT.ushr p2 (16 : Int32)) &&& (65535 : Int32)).toUInt32.toUInt16.toUInt32.toInt32)), .unset] [(.int (0 : Int32)), (.ref a2), (.ref a2)])
    refine Go.newarr X2 hx hZ (ty := .char) rfl rfl (hw _ (List.mem_of_getElem? (i := 12) rfl)) e2 (g := (mkF m 30 #[.val (.int p1), .val (.int p2), .val (.int (own_len p1)), .val (.int ((p2 &&& (65535 : Int32)).toUInt32.toUInt16.toUInt32.toInt32)), .val (.int (((XT.ushr p2 (16 : Int32)) &&& (65535 : Int32)).toUInt32.toUInt16.toUInt32.toInt32)), .unset] [(.int (0 : Int32)), (.ref a2), (.ref a2)])) rfl (hb hby ddr_30) rfl (n := 0) rfl (by decide) (by (try dsimp only [room_1]); (try simp only [List.length_cons, List.length_nil]); omega) (by (try dsimp only [room_1]); (try simp only [List.length_cons, List.length_nil]); omega) ?_
    rintro T3 h3 X3 e3 E3 l3 A3
    obtain ⟨a3, g3⟩ : ∃ z, z = h2.size := ⟨_, rfl⟩
    rw [← g3] at A3 l3 ⊢
    have sE3 := E3.1
    show Go p e below _ T3 (mkF m 32 #[.val (.int p1), .val (.int p2), .val (.int (own_len p1)), .val (.int ((p2 &&& (65535 : Int32)).toUInt32.toUInt16.toUInt32.toInt32)), .val (.int (((XT.ushr p2 (16 : Int32)) &&& (65535 : Int32)).toUInt32.toUInt16.toUInt32.toInt32)), .unset] [(.ref a3), (.ref a2), (.ref a2)])
    have hna : n0 ≤ a2 := by omega
    have hnN : ¬ (fun b => b < h0.size) a2 := by show ¬ a2 < h0.size; omega
    have U3 : Und (fun b => b < h0.size) h0 h3 := ((Und.refl _ h0).ext E2).ext E3
    refine Go.callIW X3 hx (Bas.refl s 0) (Nat.zero_le _) hZ (y := (⟨"java/lang/String", "<init>", "([C)V"⟩ : MethodName)) rfl hown (mvT hZ (hw _ (List.mem_of_getElem? (i := 13) rfl))) (mvT hZ (hw _ (List.mem_of_getElem? (i := 14) rfl))) (mvT hZ (hw _ (List.mem_of_getElem? (i := 15) rfl))) (by decide) (Wt := 1) (rmI1e l Z a0 hw (fun b => b < h0.size) a2 a3 _ _ h3 n0 hna hnN (A2.ext E3) ((D2 (Or.inr (hw _ (List.mem_of_getElem? (i := 25) rfl))) (ty := (.array .byte)) (by decide)).ext E3) ((D2 (Or.inr (hw _ (List.mem_of_getElem? (i := 26) rfl))) (ty := .byte) (by decide)).ext E3) A3) (hw _ (List.mem_of_getElem? (i := 15) rfl)) (hw _ (List.mem_of_getElem? (i := 11) rfl)) (by (try dsimp only [room_1]); (try simp only [List.length_cons, List.length_nil]); omega) (by (try dsimp only [room_1]); (try simp only [List.length_cons, List.length_nil]); omega) e3 hC0 (by rw [e3]; exact U3) (g := (mkF m 32 #[.val (.int p1), .val (.int p2), .val (.int (own_len p1)), .val (.int ((p2 &&& (65535 : Int32)).toUInt32.toUInt16.toUInt32.toInt32)), .val (.int (((XT.ushr p2 (16 : Int32)) &&& (65535 : Int32)).toUInt32.toUInt16.toUInt32.toInt32)), .unset] [(.ref a3), (.ref a2), (.ref a2)])) rfl (by rw [hml]; rfl) (a := a2) (argsL := [(.ref a3)]) (rest := [(.ref a2)]) (lenOf pd_20 rfl) rfl (by show 2 * 0 + _ ≤ _; exact Nat.le_of_eq rfl) (hb hby ddr_32) rfl (by (try dsimp only [room_1]); (try simp only [List.length_cons, List.length_nil]); omega) (by (try dsimp only [room_1]); (try simp only [List.length_cons, List.length_nil]); omega) ?_
    rintro _ s4 T4 L4 hB4 hZ4 hown4 hC4 hsz4 X4 ⟨rfl, N4, K4, E4, G4, t, F4, B4, ht⟩
    show Go p e below _ T4 (mkF m 35 #[.val (.int p1), .val (.int p2), .val (.int (own_len p1)), .val (.int ((p2 &&& (65535 : Int32)).toUInt32.toUInt16.toUInt32.toInt32)), .val (.int (((XT.ushr p2 (16 : Int32)) &&& (65535 : Int32)).toUInt32.toUInt16.toUInt32.toInt32)), .unset] [(.ref a2)])
    have K04 : Keep h0 T4.heap [] := (((Keep.refl h0 []).ext E2).ext E3).trans K4 (fun x q => Or.inr (by cases List.mem_singleton.mp q; omega))
    exact Go.retVW X4 hx hB4 (Nat.le_refl _) hC4 (Und.refl _ _) hret hlk rfl rfl (hb hby ddr_35) ⟨a2, t, _, rfl, Fr.app (Fr.app (Fr.nil n0) N1) N4, K04, E4, F4, B4, by rw [own_val_nil]; exact ⟨fun _ => q0, fun _ => rfl⟩⟩ (by (try dsimp only [room_1]); (try simp only [List.length_cons, List.length_nil]); omega) (by (try dsimp only [room_1]); (try simp only [List.length_cons, List.length_nil]); omega)
  refine Go.st (fun _ k => XS.ifYes X1.here hx rfl (pc0 := 22) (pc' := 36) rfl (hb hby ddr_22) rfl (XT.i0_ne_t q0) (by decide) (by decide) k) ?_
  show Go p e below _ T1 (mkF m 36 #[.val (.int p1), .val (.int p2), .val (.int (own_len p1)), .val (.int ((p2 &&& (65535 : Int32)).toUInt32.toUInt16.toUInt32.toInt32)), .val (.int (((XT.ushr p2 (16 : Int32)) &&& (65535 : Int32)).toUInt32.toUInt16.toUInt32.toInt32)), .unset] [])
  refine Go.st (fun _ k => XS.iloadN X1.here hx rfl (hb hby ddr_36) rfl k) ?_
  show Go p e below _ T1 (mkF m 37 #[.val (.int p1), .val (.int p2), .val (.int (own_len p1)), .val (.int ((p2 &&& (65535 : Int32)).toUInt32.toUInt16.toUInt32.toInt32)), .val (.int (((XT.ushr p2 (16 : Int32)) &&& (65535 : Int32)).toUInt32.toUInt16.toUInt32.toInt32)), .unset] [(.int (own_len p1))])
  refine Go.st (fun _ k => XS.iconst X1.here hx rfl (hb hby ddr_37) k) ?_
  show Go p e below _ T1 (mkF m 38 #[.val (.int p1), .val (.int p2), .val (.int (own_len p1)), .val (.int ((p2 &&& (65535 : Int32)).toUInt32.toUInt16.toUInt32.toInt32)), .val (.int (((XT.ushr p2 (16 : Int32)) &&& (65535 : Int32)).toUInt32.toUInt16.toUInt32.toInt32)), .unset] [(.int (1 : Int32)), (.int (own_len p1))])
  have UX : ∀ {h : Heap}, Keep h0 h [] → Und (fun b => b < h0.size) h0 h := fun K => (Und.refl _ h0).keep K all0
  by_cases q1 : own_len p1 = 1
  · skip
    refine Go.st (fun _ k => XS.icmpNo X1.here hx rfl (hb hby ddr_38) rfl (XT.ii_ne_f q1) k) ?_
    show Go p e below _ T1 (mkF m 41 #[.val (.int p1), .val (.int p2), .val (.int (own_len p1)), .val (.int ((p2 &&& (65535 : Int32)).toUInt32.toUInt16.toUInt32.toInt32)), .val (.int (((XT.ushr p2 (16 : Int32)) &&& (65535 : Int32)).toUInt32.toUInt16.toUInt32.toInt32)), .unset] [])
    refine Go.st (fun _ k => XS.iconst X1.here hx rfl (hb hby ddr_41) k) ?_
    show Go p e below _ T1 (mkF m 42 #[.val (.int p1), .val (.int p2), .val (.int (own_len p1)), .val (.int ((p2 &&& (65535 : Int32)).toUInt32.toUInt16.toUInt32.toInt32)), .val (.int (((XT.ushr p2 (16 : Int32)) &&& (65535 : Int32)).toUInt32.toUInt16.toUInt32.toInt32)), .unset] [(.int (1 : Int32))])
    refine Go.newarr X1 hx hZ (ty := .char) rfl rfl (hw _ (List.mem_of_getElem? (i := 12) rfl)) e1 (g := (mkF m 42 #[.val (.int p1), .val (.int p2), .val (.int (own_len p1)), .val (.int ((p2 &&& (65535 : Int32)).toUInt32.toUInt16.toUInt32.toInt32)), .val (.int (((XT.ushr p2 (16 : Int32)) &&& (65535 : Int32)).toUInt32.toUInt16.toUInt32.toInt32)), .unset] [(.int (1 : Int32))])) rfl (hb hby ddr_42) rfl (n := 1) rfl (by decide) (by (try dsimp only [room_1]); (try simp only [List.length_cons, List.length_nil]); omega) (by (try dsimp only [room_1]); (try simp only [List.length_cons, List.length_nil]); omega) ?_
    rintro T2 h2 X2 e2 E2 l2 A2
    obtain ⟨a2, g2⟩ : ∃ z, z = h0.size := ⟨_, rfl⟩
    rw [← g2] at A2 l2 ⊢
    have sE2 := E2.1
    show Go p e below _ T2 (mkF m 44 #[.val (.int p1), .val (.int p2), .val (.int (own_len p1)), .val (.int ((p2 &&& (65535 : Int32)).toUInt32.toUInt16.toUInt32.toInt32)), .val (.int (((XT.ushr p2 (16 : Int32)) &&& (65535 : Int32)).toUInt32.toUInt16.toUInt32.toInt32)), .unset] [(.ref a2)])
    refine Go.st (fun _ k => XS.astore X2.here hx rfl (hb hby ddr_44) rfl rfl (l' := #[.val (.int p1), .val (.int p2), .val (.int (own_len p1)), .val (.int ((p2 &&& (65535 : Int32)).toUInt32.toUInt16.toUInt32.toInt32)), .val (.int (((XT.ushr p2 (16 : Int32)) &&& (65535 : Int32)).toUInt32.toUInt16.toUInt32.toInt32)), .val (.ref a2)]) rfl k) ?_
    show Go p e below _ T2 (mkF m 46 #[.val (.int p1), .val (.int p2), .val (.int (own_len p1)), .val (.int ((p2 &&& (65535 : Int32)).toUInt32.toUInt16.toUInt32.toInt32)), .val (.int (((XT.ushr p2 (16 : Int32)) &&& (65535 : Int32)).toUInt32.toUInt16.toUInt32.toInt32)), .val (.ref a2)] [])
    refine Go.st (fun _ k => XS.aload X2.here hx rfl (hb hby ddr_46) rfl rfl k) ?_
    show Go p e below _ T2 (mkF m 48 #[.val (.int p1), .val (.int p2), .val (.int (own_len p1)), .val (.int ((p2 &&& (65535 : Int32)).toUInt32.toUInt16.toUInt32.toInt32)), .val (.int (((XT.ushr p2 (16 : Int32)) &&& (65535 : Int32)).toUInt32.toUInt16.toUInt32.toInt32)), .val (.ref a2)] [(.ref a2)])
    refine Go.st (fun _ k => XS.iconst X2.here hx rfl (hb hby ddr_48) k) ?_
    show Go p e below _ T2 (mkF m 49 #[.val (.int p1), .val (.int p2), .val (.int (own_len p1)), .val (.int ((p2 &&& (65535 : Int32)).toUInt32.toUInt16.toUInt32.toInt32)), .val (.int (((XT.ushr p2 (16 : Int32)) &&& (65535 : Int32)).toUInt32.toUInt16.toUInt32.toInt32)), .val (.ref a2)] [(.int (0 : Int32)), (.ref a2)])
    refine Go.st (fun _ k => XS.iloadN X2.here hx rfl (hb hby ddr_49) rfl k) ?_
    show Go p e below _ T2 (mkF m 50 #[.val (.int p1), .val (.int p2), .val (.int (own_len p1)), .val (.int ((p2 &&& (65535 : Int32)).toUInt32.toUInt16.toUInt32.toInt32)), .val (.int (((XT.ushr p2 (16 : Int32)) &&& (65535 : Int32)).toUInt32.toUInt16.toUInt32.toInt32)), .val (.ref a2)] [(.int ((p2 &&& (65535 : Int32)).toUInt32.toUInt16.toUInt32.toInt32)), (.int (0 : Int32)), (.ref a2)])
    refine Go.castore X2 hx hZ e2 A2 (i := 0) rfl (by simp) (g := (mkF m 50 #[.val (.int p1), .val (.int p2), .val (.int (own_len p1)), .val (.int ((p2 &&& (65535 : Int32)).toUInt32.toUInt16.toUInt32.toInt32)), .val (.int (((XT.ushr p2 (16 : Int32)) &&& (65535 : Int32)).toUInt32.toUInt16.toUInt32.toInt32)), .val (.ref a2)] [(.int ((p2 &&& (65535 : Int32)).toUInt32.toUInt16.toUInt32.toInt32)), (.int (0 : Int32)), (.ref a2)])) rfl rfl (hb hby ddr_50) ?_
    rintro T3 h3 X3 e3 W3 A3
    have sW3 := W3.size
    show Go p e below _ T3 (mkF m 51 #[.val (.int p1), .val (.int p2), .val (.int (own_len p1)), .val (.int ((p2 &&& (65535 : Int32)).toUInt32.toUInt16.toUInt32.toInt32)), .val (.int (((XT.ushr p2 (16 : Int32)) &&& (65535 : Int32)).toUInt32.toUInt16.toUInt32.toInt32)), .val (.ref a2)] [])
    obtain ⟨T4, h4, X4, e4, E4, A4, D4, -, st4⟩ := newO X3 hx hZ hown (hw _ (List.mem_of_getElem? (i := 9) rfl)) (hw _ (List.mem_of_getElem? (i := 10) rfl)) (hw _ (List.mem_of_getElem? (i := 11) rfl)) e3 (g := (mkF m 51 #[.val (.int p1), .val (.int p2), .val (.int (own_len p1)), .val (.int ((p2 &&& (65535 : Int32)).toUInt32.toUInt16.toUInt32.toInt32)), .val (.int (((XT.ushr p2 (16 : Int32)) &&& (65535 : Int32)).toUInt32.toUInt16.toUInt32.toInt32)), .val (.ref a2)] [])) rfl (hb hby ddr_51) (by (try dsimp only [room_1]); (try simp only [List.length_cons, List.length_nil]); omega) (by (try dsimp only [room_1]); (try simp only [List.length_cons, List.length_nil]); omega)
    obtain ⟨a4, g4⟩ : ∃ z, z = h3.size := ⟨_, rfl⟩
    rw [← g4] at A4 D4 st4
    have l4 : a4 < h4.size := A4.lt
    have sE4 := E4.1
    refine Go.st st4 ?_
    show Go p e below _ T4 (mkF m 54 #[.val (.int p1), .val (.int p2), .val (.int (own_len p1)), .val (.int ((p2 &&& (65535 : Int32)).toUInt32.toUInt16.toUInt32.toInt32)), .val (.int (((XT.ushr p2 (16 : Int32)) &&& (65535 : Int32)).toUInt32.toUInt16.toUInt32.toInt32)), .val (.ref a2)] [(.ref a4)])
    refine Go.st (fun _ k => XS.dup X4.here hx rfl (hb hby ddr_54) rfl rfl k) ?_
    show Go p e below _ T4 (mkF m 55 #[.val (.int p1), .val (.int p2), .val (.int (own_len p1)), .val (.int ((p2 &&& (65535 : Int32)).toUInt32.toUInt16.toUInt32.toInt32)), .val (.int (((XT.ushr p2 (16 : Int32)) &&& (65535 : Int32)).toUInt32.toUInt16.toUInt32.toInt32)), .val (.ref a2)] [(.ref a4), (.ref a4)])
    refine Go.st (fun _ k => XS.aload X4.here hx rfl (hb hby ddr_55) rfl rfl k) ?_
    show Go p e below _ T4 (mkF m 57 #[.val (.int p1), .val (.int p2), .val (.int (own_len p1)), .val (.int ((p2 &&& (65535 : Int32)).toUInt32.toUInt16.toUInt32.toInt32)), .val (.int (((XT.ushr p2 (16 : Int32)) &&& (65535 : Int32)).toUInt32.toUInt16.toUInt32.toInt32)), .val (.ref a2)] [(.ref a2), (.ref a4), (.ref a4)])
    have Ac : AI Z h4 a2 .char ([nar .char ((p2 &&& (65535 : Int32)).toUInt32.toUInt16.toUInt32.toInt32)] : List Int32) := A3.ext E4
    have hp : ∀ c ∈ ([nar .char ((p2 &&& (65535 : Int32)).toUInt32.toUInt16.toUInt32.toInt32)] : List Int32), ¬ c < 0 ∧ ¬ (65535 : Int32) < c := by
      intro c hc
      simp only [List.mem_cons, List.not_mem_nil, or_false] at hc
      rcases hc with rfl
      · exact own_char_rng _
    have Ok : Old Z n0 h4 := ((X00.ext E2).wr W3 (by omega)).ext E4
    have Kk : Keep h0 h4 [] := (((Keep.refl h0 []).ext E2).wr W3 (Or.inr (by omega))).ext E4
    have Nk := (Fr.snoc X3 (Fr.app (Fr.nil n0) N1) (by omega))
    refine Go.callI X4 hx (y := (⟨"java/lang/String", "<init>", "([C)V"⟩ : MethodName)) rfl hown (mvT hZ (hw _ (List.mem_of_getElem? (i := 13) rfl))) (mvT hZ (hw _ (List.mem_of_getElem? (i := 14) rfl))) (mvT hZ (hw _ (List.mem_of_getElem? (i := 15) rfl))) (by decide) (Ctr.back (W := 1) (rmI1 l Z a0 hw z Su ([nar .char ((p2 &&& (65535 : Int32)).toUInt32.toUInt16.toUInt32.toInt32)] : List Int32) (by simp) (by simp) hp a4 a2 _ _ h4 n0 (by omega) (by omega) Ok A4 (D4 (Or.inr (hw _ (List.mem_of_getElem? (i := 25) rfl))) (ty := (.array .byte)) (by decide)) (D4 (Or.inr (hw _ (List.mem_of_getElem? (i := 26) rfl))) (ty := .byte) (by decide)) Ac) hZ (hw _ (List.mem_of_getElem? (i := 15) rfl)) (hw _ (List.mem_of_getElem? (i := 11) rfl)) (by (try dsimp only [room_1]); (try simp only [List.length_cons, List.length_nil]); omega) (by (try dsimp only [room_1]); (try simp only [List.length_cons, List.length_nil]); omega)) e4 (g := (mkF m 57 #[.val (.int p1), .val (.int p2), .val (.int (own_len p1)), .val (.int ((p2 &&& (65535 : Int32)).toUInt32.toUInt16.toUInt32.toInt32)), .val (.int (((XT.ushr p2 (16 : Int32)) &&& (65535 : Int32)).toUInt32.toUInt16.toUInt32.toInt32)), .val (.ref a2)] [(.ref a2), (.ref a4), (.ref a4)])) rfl (by rw [hml]; rfl) (a := a4) (argsL := [(.ref a2)]) (rest := [(.ref a4)]) (lenOf pd_20 rfl) rfl (by show 2 * 0 + _ ≤ _; exact Nat.le_of_eq rfl) (hb hby ddr_57) rfl (by (try dsimp only [room_1]); (try simp only [List.length_cons, List.length_nil]); omega) (by (try dsimp only [room_1]); (try simp only [List.length_cons, List.length_nil]); omega) ?_
    rintro _ T9 L9 X9 ⟨rfl, N9, K9, E9, G9, t, F9, B9, ht⟩
    show Go p e below _ T9 (mkF m 60 #[.val (.int p1), .val (.int p2), .val (.int (own_len p1)), .val (.int ((p2 &&& (65535 : Int32)).toUInt32.toUInt16.toUInt32.toInt32)), .val (.int (((XT.ushr p2 (16 : Int32)) &&& (65535 : Int32)).toUInt32.toUInt16.toUInt32.toInt32)), .val (.ref a2)] [(.ref a4)])
    have K09 : Keep h0 T9.heap [] := Kk.trans K9 (fun x q => Or.inr (by cases List.mem_singleton.mp q; omega))
    exact Go.retVW X9 hx (Bas.refl s 0) (Nat.zero_le _) hC0 (UX K09) hret hlk rfl rfl (hb hby ddr_60) ⟨a4, t, _, rfl, Fr.app Nk N9, K09, E9, F9, B9, by rw [own_val_nil]; exact ⟨fun z => by simp at z, fun z => absurd z q0⟩⟩ (by (try dsimp only [room_1]); (try simp only [List.length_cons, List.length_nil]); omega) (by (try dsimp only [room_1]); (try simp only [List.length_cons, List.length_nil]); omega)
  · skip
    refine Go.st (fun _ k => XS.icmpYes X1.here hx rfl (pc0 := 38) (pc' := 61) rfl (hb hby ddr_38) rfl (XT.ii_ne_t q1) (by decide) (by decide) k) ?_
    show Go p e below _ T1 (mkF m 61 #[.val (.int p1), .val (.int p2), .val (.int (own_len p1)), .val (.int ((p2 &&& (65535 : Int32)).toUInt32.toUInt16.toUInt32.toInt32)), .val (.int (((XT.ushr p2 (16 : Int32)) &&& (65535 : Int32)).toUInt32.toUInt16.toUInt32.toInt32)), .unset] [])
    refine Go.st (fun _ k => XS.iconst X1.here hx rfl (hb hby ddr_61) k) ?_
    show Go p e below _ T1 (mkF m 62 #[.val (.int p1), .val (.int p2), .val (.int (own_len p1)), .val (.int ((p2 &&& (65535 : Int32)).toUInt32.toUInt16.toUInt32.toInt32)), .val (.int (((XT.ushr p2 (16 : Int32)) &&& (65535 : Int32)).toUInt32.toUInt16.toUInt32.toInt32)), .unset] [(.int (2 : Int32))])
    refine Go.newarr X1 hx hZ (ty := .char) rfl rfl (hw _ (List.mem_of_getElem? (i := 12) rfl)) e1 (g := (mkF m 62 #[.val (.int p1), .val (.int p2), .val (.int (own_len p1)), .val (.int ((p2 &&& (65535 : Int32)).toUInt32.toUInt16.toUInt32.toInt32)), .val (.int (((XT.ushr p2 (16 : Int32)) &&& (65535 : Int32)).toUInt32.toUInt16.toUInt32.toInt32)), .unset] [(.int (2 : Int32))])) rfl (hb hby ddr_62) rfl (n := 2) rfl (by decide) (by (try dsimp only [room_1]); (try simp only [List.length_cons, List.length_nil]); omega) (by (try dsimp only [room_1]); (try simp only [List.length_cons, List.length_nil]); omega) ?_
    rintro T2 h2 X2 e2 E2 l2 A2
    obtain ⟨a2, g2⟩ : ∃ z, z = h0.size := ⟨_, rfl⟩
    rw [← g2] at A2 l2 ⊢
    have sE2 := E2.1
    show Go p e below _ T2 (mkF m 64 #[.val (.int p1), .val (.int p2), .val (.int (own_len p1)), .val (.int ((p2 &&& (65535 : Int32)).toUInt32.toUInt16.toUInt32.toInt32)), .val (.int (((XT.ushr p2 (16 : Int32)) &&& (65535 : Int32)).toUInt32.toUInt16.toUInt32.toInt32)), .unset] [(.ref a2)])
    refine Go.st (fun _ k => XS.astore X2.here hx rfl (hb hby ddr_64) rfl rfl (l' := #[.val (.int p1), .val (.int p2), .val (.int (own_len p1)), .val (.int ((p2 &&& (65535 : Int32)).toUInt32.toUInt16.toUInt32.toInt32)), .val (.int (((XT.ushr p2 (16 : Int32)) &&& (65535 : Int32)).toUInt32.toUInt16.toUInt32.toInt32)), .val (.ref a2)]) rfl k) ?_
    show Go p e below _ T2 (mkF m 66 #[.val (.int p1), .val (.int p2), .val (.int (own_len p1)), .val (.int ((p2 &&& (65535 : Int32)).toUInt32.toUInt16.toUInt32.toInt32)), .val (.int (((XT.ushr p2 (16 : Int32)) &&& (65535 : Int32)).toUInt32.toUInt16.toUInt32.toInt32)), .val (.ref a2)] [])
    refine Go.st (fun _ k => XS.aload X2.here hx rfl (hb hby ddr_66) rfl rfl k) ?_
    show Go p e below _ T2 (mkF m 68 #[.val (.int p1), .val (.int p2), .val (.int (own_len p1)), .val (.int ((p2 &&& (65535 : Int32)).toUInt32.toUInt16.toUInt32.toInt32)), .val (.int (((XT.ushr p2 (16 : Int32)) &&& (65535 : Int32)).toUInt32.toUInt16.toUInt32.toInt32)), .val (.ref a2)] [(.ref a2)])
    refine Go.st (fun _ k => XS.iconst X2.here hx rfl (hb hby ddr_68) k) ?_
    show Go p e below _ T2 (mkF m 69 #[.val (.int p1), .val (.int p2), .val (.int (own_len p1)), .val (.int ((p2 &&& (65535 : Int32)).toUInt32.toUInt16.toUInt32.toInt32)), .val (.int (((XT.ushr p2 (16 : Int32)) &&& (65535 : Int32)).toUInt32.toUInt16.toUInt32.toInt32)), .val (.ref a2)] [(.int (0 : Int32)), (.ref a2)])
    refine Go.st (fun _ k => XS.iloadN X2.here hx rfl (hb hby ddr_69) rfl k) ?_
    show Go p e below _ T2 (mkF m 70 #[.val (.int p1), .val (.int p2), .val (.int (own_len p1)), .val (.int ((p2 &&& (65535 : Int32)).toUInt32.toUInt16.toUInt32.toInt32)), .val (.int (((XT.ushr p2 (16 : Int32)) &&& (65535 : Int32)).toUInt32.toUInt16.toUInt32.toInt32)), .val (.ref a2)] [(.int ((p2 &&& (65535 : Int32)).toUInt32.toUInt16.toUInt32.toInt32)), (.int (0 : Int32)), (.ref a2)])
    refine Go.castore X2 hx hZ e2 A2 (i := 0) rfl (by simp) (g := (mkF m 70 #[.val (.int p1), .val (.int p2), .val (.int (own_len p1)), .val (.int ((p2 &&& (65535 : Int32)).toUInt32.toUInt16.toUInt32.toInt32)), .val (.int (((XT.ushr p2 (16 : Int32)) &&& (65535 : Int32)).toUInt32.toUInt16.toUInt32.toInt32)), .val (.ref a2)] [(.int ((p2 &&& (65535 : Int32)).toUInt32.toUInt16.toUInt32.toInt32)), (.int (0 : Int32)), (.ref a2)])) rfl rfl (hb hby ddr_70) ?_
    rintro T3 h3 X3 e3 W3 A3
    have sW3 := W3.size
    show Go p e below _ T3 (mkF m 71 #[.val (.int p1), .val (.int p2), .val (.int (own_len p1)), .val (.int ((p2 &&& (65535 : Int32)).toUInt32.toUInt16.toUInt32.toInt32)), .val (.int (((XT.ushr p2 (16 : Int32)) &&& (65535 : Int32)).toUInt32.toUInt16.toUInt32.toInt32)), .val (.ref a2)] [])
    refine Go.st (fun _ k => XS.aload X3.here hx rfl (hb hby ddr_71) rfl rfl k) ?_
    show Go p e below _ T3 (mkF m 73 #[.val (.int p1), .val (.int p2), .val (.int (own_len p1)), .val (.int ((p2 &&& (65535 : Int32)).toUInt32.toUInt16.toUInt32.toInt32)), .val (.int (((XT.ushr p2 (16 : Int32)) &&& (65535 : Int32)).toUInt32.toUInt16.toUInt32.toInt32)), .val (.ref a2)] [(.ref a2)])
    refine Go.st (fun _ k => XS.iconst X3.here hx rfl (hb hby ddr_73) k) ?_
    show Go p e below _ T3 (mkF m 74 #[.val (.int p1), .val (.int p2), .val (.int (own_len p1)), .val (.int ((p2 &&& (65535 : Int32)).toUInt32.toUInt16.toUInt32.toInt32)), .val (.int (((XT.ushr p2 (16 : Int32)) &&& (65535 : Int32)).toUInt32.toUInt16.toUInt32.toInt32)), .val (.ref a2)] [(.int (1 : Int32)), (.ref a2)])
    refine Go.st (fun _ k => XS.iload X3.here hx rfl (hb hby ddr_74) rfl k) ?_
    show Go p e below _ T3 (mkF m 76 #[.val (.int p1), .val (.int p2), .val (.int (own_len p1)), .val (.int ((p2 &&& (65535 : Int32)).toUInt32.toUInt16.toUInt32.toInt32)), .val (.int (((XT.ushr p2 (16 : Int32)) &&& (65535 : Int32)).toUInt32.toUInt16.toUInt32.toInt32)), .val (.ref a2)] [(.int (((XT.ushr p2 (16 : Int32)) &&& (65535 : Int32)).toUInt32.toUInt16.toUInt32.toInt32)), (.int (1 : Int32)), (.ref a2)])
    refine Go.castore X3 hx hZ e3 A3 (i := 1) rfl (by simp) (g := (mkF m 76 #[.val (.int p1), .val (.int p2), .val (.int (own_len p1)), .val (.int ((p2 &&& (65535 : Int32)).toUInt32.toUInt16.toUInt32.toInt32)), .val (.int (((XT.ushr p2 (16 : Int32)) &&& (65535 : Int32)).toUInt32.toUInt16.toUInt32.toInt32)), .val (.ref a2)] [(.int (((XT.ushr p2 (16 : Int32)) &&& (65535 : Int32)).toUInt32.toUInt16.toUInt32.toInt32)), (.int (1 : Int32)), (.ref a2)])) rfl rfl (hb hby ddr_76) ?_
    rintro T4 h4 X4 e4 W4 A4
    have sW4 := W4.size
    show Go p e below _ T4 (mkF m 77 #[.val (.int p1), .val (.int p2), .val (.int (own_len p1)), .val (.int ((p2 &&& (65535 : Int32)).toUInt32.toUInt16.toUInt32.toInt32)), .val (.int (((XT.ushr p2 (16 : Int32)) &&& (65535 : Int32)).toUInt32.toUInt16.toUInt32.toInt32)), .val (.ref a2)] [])
    obtain ⟨T5, h5, X5, e5, E5, A5, D5, -, st5⟩ := newO X4 hx hZ hown (hw _ (List.mem_of_getElem? (i := 9) rfl)) (hw _ (List.mem_of_getElem? (i := 10) rfl)) (hw _ (List.mem_of_getElem? (i := 11) rfl)) e4 (g := (mkF m 77 #[.val (.int p1), .val (.int p2), .val (.int (own_len p1)), .val (.int ((p2 &&& (65535 : Int32)).toUInt32.toUInt16.toUInt32.toInt32)), .val (.int (((XT.ushr p2 (16 : Int32)) &&& (65535 : Int32)).toUInt32.toUInt16.toUInt32.toInt32)), .val (.ref a2)] [])) rfl (hb hby ddr_77) (by (try dsimp only [room_1]); (try simp only [List.length_cons, List.length_nil]); omega) (by (try dsimp only [room_1]); (try simp only [List.length_cons, List.length_nil]); omega)
    obtain ⟨a5, g5⟩ : ∃ z, z = h4.size := ⟨_, rfl⟩
    rw [← g5] at A5 D5 st5
    have l5 : a5 < h5.size := A5.lt
    have sE5 := E5.1
    refine Go.st st5 ?_
    show Go p e below _ T5 (mkF m 80 #[.val (.int p1), .val (.int p2), .val (.int (own_len p1)), .val (.int ((p2 &&& (65535 : Int32)).toUInt32.toUInt16.toUInt32.toInt32)), .val (.int (((XT.ushr p2 (16 : Int32)) &&& (65535 : Int32)).toUInt32.toUInt16.toUInt32.toInt32)), .val (.ref a2)] [(.ref a5)])
    refine Go.st (fun _ k => XS.dup X5.here hx rfl (hb hby ddr_80) rfl rfl k) ?_
    show Go p e below _ T5 (mkF m 81 #[.val (.int p1), .val (.int p2), .val (.int (own_len p1)), .val (.int ((p2 &&& (65535 : Int32)).toUInt32.toUInt16.toUInt32.toInt32)), .val (.int (((XT.ushr p2 (16 : Int32)) &&& (65535 : Int32)).toUInt32.toUInt16.toUInt32.toInt32)), .val (.ref a2)] [(.ref a5), (.ref a5)])
    refine Go.st (fun _ k => XS.aload X5.here hx rfl (hb hby ddr_81) rfl rfl k) ?_
    show Go p e below _ T5 (mkF m 83 #[.val (.int p1), .val (.int p2), .val (.int (own_len p1)), .val (.int ((p2 &&& (65535 : Int32)).toUInt32.toUInt16.toUInt32.toInt32)), .val (.int (((XT.ushr p2 (16 : Int32)) &&& (65535 : Int32)).toUInt32.toUInt16.toUInt32.toInt32)), .val (.ref a2)] [(.ref a2), (.ref a5), (.ref a5)])
    have Ac : AI Z h5 a2 .char ([nar .char ((p2 &&& (65535 : Int32)).toUInt32.toUInt16.toUInt32.toInt32), nar .char (((XT.ushr p2 (16 : Int32)) &&& (65535 : Int32)).toUInt32.toUInt16.toUInt32.toInt32)] : List Int32) := A4.ext E5
    have hp : ∀ c ∈ ([nar .char ((p2 &&& (65535 : Int32)).toUInt32.toUInt16.toUInt32.toInt32), nar .char (((XT.ushr p2 (16 : Int32)) &&& (65535 : Int32)).toUInt32.toUInt16.toUInt32.toInt32)] : List Int32), ¬ c < 0 ∧ ¬ (65535 : Int32) < c := by
      intro c hc
      simp only [List.mem_cons, List.not_mem_nil, or_false] at hc
      rcases hc with rfl | rfl
      · exact own_char_rng _
      · exact own_char_rng _
    have Ok : Old Z n0 h5 := (((X00.ext E2).wr W3 (by omega)).wr W4 (by omega)).ext E5
    have Kk : Keep h0 h5 [] := ((((Keep.refl h0 []).ext E2).wr W3 (Or.inr (by omega))).wr W4 (Or.inr (by omega))).ext E5
    have Nk := (Fr.snoc X4 (Fr.snoc X3 (Fr.app (Fr.nil n0) N1) (by omega)) (by omega))
    refine Go.callI X5 hx (y := (⟨"java/lang/String", "<init>", "([C)V"⟩ : MethodName)) rfl hown (mvT hZ (hw _ (List.mem_of_getElem? (i := 13) rfl))) (mvT hZ (hw _ (List.mem_of_getElem? (i := 14) rfl))) (mvT hZ (hw _ (List.mem_of_getElem? (i := 15) rfl))) (by decide) (Ctr.back (W := 1) (rmI1 l Z a0 hw z Su ([nar .char ((p2 &&& (65535 : Int32)).toUInt32.toUInt16.toUInt32.toInt32), nar .char (((XT.ushr p2 (16 : Int32)) &&& (65535 : Int32)).toUInt32.toUInt16.toUInt32.toInt32)] : List Int32) (by simp) (by simp) hp a5 a2 _ _ h5 n0 (by omega) (by omega) Ok A5 (D5 (Or.inr (hw _ (List.mem_of_getElem? (i := 25) rfl))) (ty := (.array .byte)) (by decide)) (D5 (Or.inr (hw _ (List.mem_of_getElem? (i := 26) rfl))) (ty := .byte) (by decide)) Ac) hZ (hw _ (List.mem_of_getElem? (i := 15) rfl)) (hw _ (List.mem_of_getElem? (i := 11) rfl)) (by (try dsimp only [room_1]); (try simp only [List.length_cons, List.length_nil]); omega) (by (try dsimp only [room_1]); (try simp only [List.length_cons, List.length_nil]); omega)) e5 (g := (mkF m 83 #[.val (.int p1), .val (.int p2), .val (.int (own_len p1)), .val (.int ((p2 &&& (65535 : Int32)).toUInt32.toUInt16.toUInt32.toInt32)), .val (.int (((XT.ushr p2 (16 : Int32)) &&& (65535 : Int32)).toUInt32.toUInt16.toUInt32.toInt32)), .val (.ref a2)] [(.ref a2), (.ref a5), (.ref a5)])) rfl (by rw [hml]; rfl) (a := a5) (argsL := [(.ref a2)]) (rest := [(.ref a5)]) (lenOf pd_20 rfl) rfl (by show 2 * 0 + _ ≤ _; exact Nat.le_of_eq rfl) (hb hby ddr_83) rfl (by (try dsimp only [room_1]); (try simp only [List.length_cons, List.length_nil]); omega) (by (try dsimp only [room_1]); (try simp only [List.length_cons, List.length_nil]); omega) ?_
    rintro _ T9 L9 X9 ⟨rfl, N9, K9, E9, G9, t, F9, B9, ht⟩
    show Go p e below _ T9 (mkF m 86 #[.val (.int p1), .val (.int p2), .val (.int (own_len p1)), .val (.int ((p2 &&& (65535 : Int32)).toUInt32.toUInt16.toUInt32.toInt32)), .val (.int (((XT.ushr p2 (16 : Int32)) &&& (65535 : Int32)).toUInt32.toUInt16.toUInt32.toInt32)), .val (.ref a2)] [(.ref a5)])
    have K09 : Keep h0 T9.heap [] := Kk.trans K9 (fun x q => Or.inr (by cases List.mem_singleton.mp q; omega))
    exact Go.retVW X9 hx (Bas.refl s 0) (Nat.zero_le _) hC0 (UX K09) hret hlk rfl rfl (hb hby ddr_86) ⟨a5, t, _, rfl, Fr.app Nk N9, K09, E9, F9, B9, by rw [own_val_nil]; exact ⟨fun z => by simp at z, fun z => absurd z q0⟩⟩ (by (try dsimp only [room_1]); (try simp only [List.length_cons, List.length_nil]); omega) (by (try dsimp only [room_1]); (try simp only [List.length_cons, List.length_nil]); omega)
theorem dri_0 : decode jdk_30_method_1_code 0 = .ok (.aload_n 0, 1) := by decide +kernel
theorem dri_1 : decode jdk_30_method_1_code 1 = .ok (.invokespecial 1, 3) := by decide +kernel
theorem dri_4 : decode jdk_30_method_1_code 4 = .ok (.return_, 1) := by decide +kernel
def QN (h0 : Heap) (n0 : Nat) (v : Option Value) (h : Heap) (L : List Loc) : Prop := v = none ∧ Fr n0 L ∧ h = h0
set_option maxRecDepth 65536 in
set_option maxHeartbeats 40000000 in
theorem rmRI (l : Launch) (Z : State) (a0 : Array Value) (hw : ∀ d ∈ tables_1, d.before a0 Z = true) (a1 : Addr) (h0 : Heap) (n0 : Nat) :
    Ctr l Z (⟨"java/lang/Record", "<init>", "()V"⟩ : MethodName) jdk_30_method_1_code 1 none [] ({ frames := 1, cells := 0, slots := 0, locals := 12 } : Room) #[(.ref a1)] h0 (QN h0 n0) := by
  refine Ctr.of (plainFor_of_name pn_22) ?_
  intro p e s m below meth c s₁ hx hby hml hown hnm hret hlk hZ X0 e0
  refine Go.cast (ef_21 m a1) ?_
  show Go p e below _ s₁ (mkF m 0 #[.val (.ref a1)] [])
  refine Go.st (fun _ k => XS.aloadN X0.here hx rfl (hb hby dri_0) rfl rfl k) ?_
  show Go p e below _ s₁ (mkF m 1 #[.val (.ref a1)] [(.ref a1)])
  obtain ⟨T2, X2, e2, st2⟩ := initO X0 hx hZ hown (hw _ (List.mem_of_getElem? (i := 53) rfl)) (hw _ (List.mem_of_getElem? (i := 21) rfl)) (hw _ (List.mem_of_getElem? (i := 22) rfl)) e0 (g := (mkF m 1 #[.val (.ref a1)] [(.ref a1)])) rfl (by rw [hml]; rfl) rfl (hb hby dri_1) (by (try dsimp only [room_1]); (try simp only [List.length_cons, List.length_nil]); omega) (W := 0) (by show 2 * 0 + _ ≤ _; exact Nat.le_of_eq rfl) (by (try dsimp only [room_1]); (try simp only [List.length_cons, List.length_nil]); omega)
  refine Go.st st2 ?_
  show Go p e below _ T2 (mkF m 4 #[.val (.ref a1)] [])
  exact Go.ret0 X2 hx hret hlk (hb hby dri_4) ⟨rfl, Fr.nil n0, e2⟩ (Nat.le_refl _) (Nat.le_refl _)
theorem dvi_0 : decode prog_67_method_1_code 0 = .ok (.aload_n 0, 1) := by decide +kernel
theorem dvi_1 : decode prog_67_method_1_code 1 = .ok (.invokespecial 1, 3) := by decide +kernel
theorem dvi_4 : decode prog_67_method_1_code 4 = .ok (.aload_n 0, 1) := by decide +kernel
theorem dvi_5 : decode prog_67_method_1_code 5 = .ok (.aload_n 1, 1) := by decide +kernel
theorem dvi_6 : decode prog_67_method_1_code 6 = .ok (.putfield 7, 3) := by decide +kernel
theorem dvi_9 : decode prog_67_method_1_code 9 = .ok (.aload_n 0, 1) := by decide +kernel
theorem dvi_10 : decode prog_67_method_1_code 10 = .ok (.aload_n 2, 1) := by decide +kernel
theorem dvi_11 : decode prog_67_method_1_code 11 = .ok (.putfield 13, 3) := by decide +kernel
theorem dvi_14 : decode prog_67_method_1_code 14 = .ok (.aload_n 0, 1) := by decide +kernel
theorem dvi_15 : decode prog_67_method_1_code 15 = .ok (.aload_n 3, 1) := by decide +kernel
theorem dvi_16 : decode prog_67_method_1_code 16 = .ok (.putfield 16, 3) := by decide +kernel
theorem dvi_19 : decode prog_67_method_1_code 19 = .ok (.return_, 1) := by decide +kernel
def QV2 (Z : State) (a1 a3 a4 : Addr) (h0 : Heap) (n0 : Nat) (v : Option Value) (h : Heap) (L : List Loc) : Prop := v = none ∧ Fr n0 L ∧ Keep h0 h [a1] ∧ Exa Z h a1 "com/example/einstand/einstand/ValuationUnit" ∧ Fld Z h a1 "com/example/einstand/einstand/ValuationUnit" "variant" "Ljava/lang/String;" (.ref a3) ∧ Fld Z h a1 "com/example/einstand/einstand/ValuationUnit" "batch" "Ljava/lang/String;" (.ref a4)
set_option maxRecDepth 65536 in
set_option maxHeartbeats 40000000 in
theorem rmVI (l : Launch) (Z : State) (a0 : Array Value) (hw : ∀ d ∈ tables_1, d.before a0 Z = true) (a1 a2 a3 a4 : Addr) (u1 u2 u3 : Value) (h0 : Heap) (n0 : Nat) (g1 : n0 ≤ a1) (E1 : Exa Z h0 a1 "com/example/einstand/einstand/ValuationUnit") (F1 : Fld Z h0 a1 "com/example/einstand/einstand/ValuationUnit" "article" "Ljava/lang/String;" u1) (F2 : Fld Z h0 a1 "com/example/einstand/einstand/ValuationUnit" "variant" "Ljava/lang/String;" u2) (F3 : Fld Z h0 a1 "com/example/einstand/einstand/ValuationUnit" "batch" "Ljava/lang/String;" u3) :
    Ctr l Z (⟨"com/example/einstand/einstand/ValuationUnit", "<init>", "(Ljava/lang/String;Ljava/lang/String;Ljava/lang/String;)V"⟩ : MethodName) prog_67_method_1_code 4 none [] ({ frames := 2, cells := 0, slots := 0, locals := 24 } : Room) #[(.ref a1), (.ref a2), (.ref a3), (.ref a4)] h0 (QV2 Z a1 a3 a4 h0 n0) := by
  refine Ctr.of (plainFor_of_name pn_25) ?_
  intro p e s m below meth c s₁ hx hby hml hown hnm hret hlk hZ X0 e0
  refine Go.cast (ef_23 m a1 a2 a3 a4) ?_
  show Go p e below _ s₁ (mkF m 0 #[.val (.ref a1), .val (.ref a2), .val (.ref a3), .val (.ref a4)] [])
  refine Go.st (fun _ k => XS.aloadN X0.here hx rfl (hb hby dvi_0) rfl rfl k) ?_
  show Go p e below _ s₁ (mkF m 1 #[.val (.ref a1), .val (.ref a2), .val (.ref a3), .val (.ref a4)] [(.ref a1)])
  refine Go.callI X0 hx (y := (⟨"java/lang/Record", "<init>", "()V"⟩ : MethodName)) rfl hown (mvT hZ (hw _ (List.mem_of_getElem? (i := 48) rfl))) (mvT hZ (hw _ (List.mem_of_getElem? (i := 49) rfl))) (mvT hZ (hw _ (List.mem_of_getElem? (i := 52) rfl))) (by decide) (Ctr.back (W := 0) (rmRI l Z a0 hw a1 h0 n0) hZ (hw _ (List.mem_of_getElem? (i := 52) rfl)) (hw _ (List.mem_of_getElem? (i := 51) rfl)) (by (try dsimp only [room_1]); (try simp only [List.length_cons, List.length_nil]); omega) (by (try dsimp only [room_1]); (try simp only [List.length_cons, List.length_nil]); omega)) e0 (g := (mkF m 1 #[.val (.ref a1), .val (.ref a2), .val (.ref a3), .val (.ref a4)] [(.ref a1)])) rfl (by rw [hml]; rfl) (a := a1) (argsL := []) (rest := []) (lenOf pd_24 rfl) rfl (by show 2 * 0 + _ ≤ _; exact Nat.le_of_eq rfl) (hb hby dvi_1) rfl (by (try dsimp only [room_1]); (try simp only [List.length_cons, List.length_nil]); omega) (by (try dsimp only [room_1]); (try simp only [List.length_cons, List.length_nil]); omega) ?_
  rintro v T4 L4 X4 ⟨rfl, N4, e4⟩
  show Go p e below _ T4 (mkF m 4 #[.val (.ref a1), .val (.ref a2), .val (.ref a3), .val (.ref a4)] [])
  refine Go.st (fun _ k => XS.aloadN X4.here hx rfl (hb hby dvi_4) rfl rfl k) ?_
  show Go p e below _ T4 (mkF m 5 #[.val (.ref a1), .val (.ref a2), .val (.ref a3), .val (.ref a4)] [(.ref a1)])
  refine Go.st (fun _ k => XS.aloadN X4.here hx rfl (hb hby dvi_5) rfl rfl k) ?_
  show Go p e below _ T4 (mkF m 6 #[.val (.ref a1), .val (.ref a2), .val (.ref a3), .val (.ref a4)] [(.ref a2), (.ref a1)])
  have n1 := slot_ne (Or.inr (hw _ (List.mem_of_getElem? (i := 57) rfl))) (Or.inr (hw _ (List.mem_of_getElem? (i := 55) rfl))) (by decide) (t := (.object "java/lang/String")) (t' := (.object "java/lang/String")) (by decide) (by decide)
  have n2 := slot_ne (Or.inr (hw _ (List.mem_of_getElem? (i := 59) rfl))) (Or.inr (hw _ (List.mem_of_getElem? (i := 55) rfl))) (by decide) (t := (.object "java/lang/String")) (t' := (.object "java/lang/String")) (by decide) (by decide)
  have n3 := slot_ne (Or.inr (hw _ (List.mem_of_getElem? (i := 59) rfl))) (Or.inr (hw _ (List.mem_of_getElem? (i := 57) rfl))) (by decide) (t := (.object "java/lang/String")) (t' := (.object "java/lang/String")) (by decide) (by decide)
  have n4 := slot_ne (Or.inr (hw _ (List.mem_of_getElem? (i := 57) rfl))) (Or.inr (hw _ (List.mem_of_getElem? (i := 59) rfl))) (by decide) (t := (.object "java/lang/String")) (t' := (.object "java/lang/String")) (by decide) (by decide)
  obtain ⟨T5, h5, X5, e5, W5, st5⟩ := putF X4 hx hZ hown (host := "") (Or.inl (hw _ (List.mem_of_getElem? (i := 54) rfl))) Via.refl e4 F1 E1 (Or.inr ⟨(hw _ (List.mem_of_getElem? (i := 55) rfl)), rfl, hnm⟩) (hw _ (List.mem_of_getElem? (i := 43) rfl)) (ty := (.object "java/lang/String")) (by decide) rfl rfl (g := (mkF m 6 #[.val (.ref a1), .val (.ref a2), .val (.ref a3), .val (.ref a4)] [(.ref a2), (.ref a1)])) rfl rfl (hb hby dvi_6)
  refine Go.st st5 ?_
  show Go p e below _ T5 (mkF m 9 #[.val (.ref a1), .val (.ref a2), .val (.ref a3), .val (.ref a4)] [])
  refine Go.st (fun _ k => XS.aloadN X5.here hx rfl (hb hby dvi_9) rfl rfl k) ?_
  show Go p e below _ T5 (mkF m 10 #[.val (.ref a1), .val (.ref a2), .val (.ref a3), .val (.ref a4)] [(.ref a1)])
  refine Go.st (fun _ k => XS.aloadN X5.here hx rfl (hb hby dvi_10) rfl rfl k) ?_
  show Go p e below _ T5 (mkF m 11 #[.val (.ref a1), .val (.ref a2), .val (.ref a3), .val (.ref a4)] [(.ref a3), (.ref a1)])
  obtain ⟨T6, h6, X6, e6, W6, st6⟩ := putF X5 hx hZ hown (host := "") (Or.inl (hw _ (List.mem_of_getElem? (i := 56) rfl))) Via.refl e5 (F2.other W5 (Or.inr n1)) (E1.wr W5) (Or.inr ⟨(hw _ (List.mem_of_getElem? (i := 57) rfl)), rfl, hnm⟩) (hw _ (List.mem_of_getElem? (i := 43) rfl)) (ty := (.object "java/lang/String")) (by decide) rfl rfl (g := (mkF m 11 #[.val (.ref a1), .val (.ref a2), .val (.ref a3), .val (.ref a4)] [(.ref a3), (.ref a1)])) rfl rfl (hb hby dvi_11)
  refine Go.st st6 ?_
  show Go p e below _ T6 (mkF m 14 #[.val (.ref a1), .val (.ref a2), .val (.ref a3), .val (.ref a4)] [])
  refine Go.st (fun _ k => XS.aloadN X6.here hx rfl (hb hby dvi_14) rfl rfl k) ?_
  show Go p e below _ T6 (mkF m 15 #[.val (.ref a1), .val (.ref a2), .val (.ref a3), .val (.ref a4)] [(.ref a1)])
  refine Go.st (fun _ k => XS.aloadN X6.here hx rfl (hb hby dvi_15) rfl rfl k) ?_
  show Go p e below _ T6 (mkF m 16 #[.val (.ref a1), .val (.ref a2), .val (.ref a3), .val (.ref a4)] [(.ref a4), (.ref a1)])
  obtain ⟨T7, h7, X7, e7, W7, st7⟩ := putF X6 hx hZ hown (host := "") (Or.inl (hw _ (List.mem_of_getElem? (i := 58) rfl))) Via.refl e6 ((F3.other W5 (Or.inr n2)).other W6 (Or.inr n3)) ((E1.wr W5).wr W6) (Or.inr ⟨(hw _ (List.mem_of_getElem? (i := 59) rfl)), rfl, hnm⟩) (hw _ (List.mem_of_getElem? (i := 43) rfl)) (ty := (.object "java/lang/String")) (by decide) rfl rfl (g := (mkF m 16 #[.val (.ref a1), .val (.ref a2), .val (.ref a3), .val (.ref a4)] [(.ref a4), (.ref a1)])) rfl rfl (hb hby dvi_16)
  refine Go.st st7 ?_
  show Go p e below _ T7 (mkF m 19 #[.val (.ref a1), .val (.ref a2), .val (.ref a3), .val (.ref a4)] [])
  have K7 : Keep h0 h7 [a1] := (((Keep.refl h0 [a1]).wr W5 (Or.inl (List.mem_cons_self ..))).wr W6 (Or.inl (List.mem_cons_self ..))).wr W7 (Or.inl (List.mem_cons_self ..))
  exact Go.ret0 X7 hx hret hlk (hb hby dvi_19) ⟨rfl, Fr.snoc X7 (Fr.snoc X6 (Fr.snoc X5 (Fr.app (Fr.nil n0) N4) g1) g1) g1, e7 ▸ K7, e7 ▸ ((E1.wr W5).wr W6).wr W7, e7 ▸ ((F2.other W5 (Or.inr n1)).same W6).other W7 (Or.inr n4), e7 ▸ ((F3.other W5 (Or.inr n2)).other W6 (Or.inr n3)).same W7⟩ (by (try dsimp only [room_1]); (try simp only [List.length_cons, List.length_nil]); omega) (by (try dsimp only [room_1]); (try simp only [List.length_cons, List.length_nil]); omega)
theorem die_0 : decode jdk_42_method_55_code 0 = .ok (.aload_n 0, 1) := by decide +kernel
theorem die_1 : decode jdk_42_method_55_code 1 = .ok (.getfield 9, 3) := by decide +kernel
theorem die_4 : decode jdk_42_method_55_code 4 = .ok (.arraylength, 1) := by decide +kernel
theorem die_5 : decode jdk_42_method_55_code 5 = .ok (.ifCond .ne 7, 3) := by decide +kernel
theorem die_8 : decode jdk_42_method_55_code 8 = .ok (.iconst 1, 1) := by decide +kernel
theorem die_9 : decode jdk_42_method_55_code 9 = .ok (.goto 4, 3) := by decide +kernel
theorem die_12 : decode jdk_42_method_55_code 12 = .ok (.iconst 0, 1) := by decide +kernel
theorem die_13 : decode jdk_42_method_55_code 13 = .ok (.ireturn, 1) := by decide +kernel
set_option maxRecDepth 65536 in
set_option maxHeartbeats 40000000 in
theorem rmIE (l : Launch) (Z : State) (a0 : Array Value) (hw : ∀ d ∈ tables_1, d.before a0 Z = true) (a t : Addr) (bs : List Int32) (h0 : Heap) (n0 : Nat) (V : Fld Z h0 a "java/lang/String" "value" "[B" (.ref t)) (B : AI Z h0 t .byte bs) :
    Ctr l Z (⟨"java/lang/String", "isEmpty", "()Z"⟩ : MethodName) jdk_42_method_55_code 1 (some .boolean) [] ({ frames := 0, cells := 0, slots := 0, locals := 0 } : Room) #[(.ref a)] h0 (QP (if bs = [] then 1 else 0) h0 n0) := by
  refine Ctr.of (plainFor_of_name pn_15) ?_
  intro p e s m below meth c s₁ hx hby hml hown hnm hret hlk hZ X0 e0
  refine Go.cast (ef_21 m a) ?_
  show Go p e below _ s₁ (mkF m 0 #[.val (.ref a)] [])
  refine Go.st (fun _ k => XS.aloadN X0.here hx rfl (hb hby die_0) rfl rfl k) ?_
  show Go p e below _ s₁ (mkF m 1 #[.val (.ref a)] [(.ref a)])
  obtain ⟨T1, X1, e1, st1⟩ := getF X0 hx hZ hown (host := "") (Or.inl (hw _ (List.mem_of_getElem? (i := 29) rfl))) Via.refl e0 V (g := (mkF m 1 #[.val (.ref a)] [(.ref a)])) rfl rfl (hb hby die_1)
  refine Go.st st1 ?_
  show Go p e below _ T1 (mkF m 4 #[.val (.ref a)] [(.ref t)])
  refine Go.alen X1 hx hZ e1 B (g := (mkF m 4 #[.val (.ref a)] [(.ref t)])) rfl rfl (hb hby die_4) ?_
  show Go p e below _ T1 (mkF m 5 #[.val (.ref a)] [(.int (Int32.ofNat bs.length))])
  have hlb := B.1
  have hz : Int32.ofNat bs.length = 0 ↔ bs = [] := by
    rw [← List.length_eq_zero_iff]
    refine ⟨fun z' => ?_, fun z' => by rw [z']; rfl⟩
    have q := congrArg Int32.toInt z'
    rw [own_toInt hlb] at q
    have q2 : ((0 : Int32)).toInt = 0 := rfl
    omega
  by_cases q : bs = []
  · skip
    refine Go.st (fun _ k => XS.ifNo X1.here hx rfl (hb hby die_5) rfl (XT.i0_ne_f (hz.mpr q)) k) ?_
    show Go p e below _ T1 (mkF m 8 #[.val (.ref a)] [])
    refine Go.st (fun _ k => XS.iconst X1.here hx rfl (hb hby die_8) k) ?_
    show Go p e below _ T1 (mkF m 9 #[.val (.ref a)] [(.int (1 : Int32))])
    refine Go.st (fun _ k => XS.goto X1.here hx rfl (pc0 := 9) (pc' := 13) rfl (hb hby die_9) (by decide) (by decide) k) ?_
    show Go p e below _ T1 (mkF m 13 #[.val (.ref a)] [(.int (1 : Int32))])
    exact Go.retB X1 hx hret hlk (Or.inl rfl) (hb hby die_13) ⟨by simp [nar, q], Fr.nil n0, e1⟩ (Nat.le_refl _) (Nat.le_refl _)
  · skip
    refine Go.st (fun _ k => XS.ifYes X1.here hx rfl (pc0 := 5) (pc' := 12) rfl (hb hby die_5) rfl (XT.i0_ne_t (fun z' => q (hz.mp z'))) (by decide) (by decide) k) ?_
    show Go p e below _ T1 (mkF m 12 #[.val (.ref a)] [])
    refine Go.st (fun _ k => XS.iconst X1.here hx rfl (hb hby die_12) k) ?_
    show Go p e below _ T1 (mkF m 13 #[.val (.ref a)] [(.int (0 : Int32))])
    exact Go.retB X1 hx hret hlk (Or.inl rfl) (hb hby die_13) ⟨by simp [nar, q], Fr.nil n0, e1⟩ (Nat.le_refl _) (Nat.le_refl _)
theorem dwh_0 : decode prog_67_method_4_code 0 = .ok (.aload_n 0, 1) := by decide +kernel
theorem dwh_1 : decode prog_67_method_4_code 1 = .ok (.getfield 13, 3) := by decide +kernel
theorem dwh_4 : decode prog_67_method_4_code 4 = .ok (.invokevirtual 54, 3) := by decide +kernel
theorem dwh_7 : decode prog_67_method_4_code 7 = .ok (.ifCond .eq 17, 3) := by decide +kernel
theorem dwh_10 : decode prog_67_method_4_code 10 = .ok (.aload_n 0, 1) := by decide +kernel
theorem dwh_11 : decode prog_67_method_4_code 11 = .ok (.getfield 16, 3) := by decide +kernel
theorem dwh_14 : decode prog_67_method_4_code 14 = .ok (.invokevirtual 54, 3) := by decide +kernel
theorem dwh_17 : decode prog_67_method_4_code 17 = .ok (.ifCond .eq 7, 3) := by decide +kernel
theorem dwh_20 : decode prog_67_method_4_code 20 = .ok (.iconst 1, 1) := by decide +kernel
theorem dwh_21 : decode prog_67_method_4_code 21 = .ok (.goto 4, 3) := by decide +kernel
theorem dwh_24 : decode prog_67_method_4_code 24 = .ok (.iconst 0, 1) := by decide +kernel
theorem dwh_25 : decode prog_67_method_4_code 25 = .ok (.ireturn, 1) := by decide +kernel
set_option maxRecDepth 65536 in
set_option maxHeartbeats 40000000 in
theorem rmWH (l : Launch) (Z : State) (a0 : Array Value) (hw : ∀ d ∈ tables_1, d.before a0 Z = true) (a1 a3 a4 t3 t4 : Addr) (b3 b4 : List Int32) (h0 : Heap) (n0 : Nat) (F2 : Fld Z h0 a1 "com/example/einstand/einstand/ValuationUnit" "variant" "Ljava/lang/String;" (.ref a3)) (F3 : Fld Z h0 a1 "com/example/einstand/einstand/ValuationUnit" "batch" "Ljava/lang/String;" (.ref a4)) (E3 : Exa Z h0 a3 "java/lang/String") (V3 : Fld Z h0 a3 "java/lang/String" "value" "[B" (.ref t3)) (B3 : AI Z h0 t3 .byte b3) (E4 : Exa Z h0 a4 "java/lang/String") (V4 : Fld Z h0 a4 "java/lang/String" "value" "[B" (.ref t4)) (B4 : AI Z h0 t4 .byte b4) :
    Ctr l Z (⟨"com/example/einstand/einstand/ValuationUnit", "isWhole", "()Z"⟩ : MethodName) prog_67_method_4_code 1 (some .boolean) [] ({ frames := 1, cells := 0, slots := 0, locals := 12 } : Room) #[(.ref a1)] h0 (QP (if b3 = [] ∧ b4 = [] then 1 else 0) h0 n0) := by
  refine Ctr.of (plainFor_of_name pn_25) ?_
  intro p e s m below meth c s₁ hx hby hml hown hnm hret hlk hZ X0 e0
  refine Go.cast (ef_21 m a1) ?_
  show Go p e below _ s₁ (mkF m 0 #[.val (.ref a1)] [])
  refine Go.st (fun _ k => XS.aloadN X0.here hx rfl (hb hby dwh_0) rfl rfl k) ?_
  show Go p e below _ s₁ (mkF m 1 #[.val (.ref a1)] [(.ref a1)])
  obtain ⟨T1, X1, e1, st1⟩ := getF X0 hx hZ hown (host := "") (Or.inl (hw _ (List.mem_of_getElem? (i := 56) rfl))) Via.refl e0 F2 (g := (mkF m 1 #[.val (.ref a1)] [(.ref a1)])) rfl rfl (hb hby dwh_1)
  refine Go.st st1 ?_
  show Go p e below _ T1 (mkF m 4 #[.val (.ref a1)] [(.ref a3)])
  refine Go.callV X1 hx hZ (C := "java/lang/String") (y := (⟨"java/lang/String", "isEmpty", "()Z"⟩ : MethodName)) (z := (⟨"java/lang/String", "isEmpty", "()Z"⟩ : MethodName)) hown (mvT hZ (hw _ (List.mem_of_getElem? (i := 65) rfl))) (mvT hZ (hw _ (List.mem_of_getElem? (i := 66) rfl))) (mvT hZ (hw _ (List.mem_of_getElem? (i := 68) rfl))) (mvT hZ (hw _ (List.mem_of_getElem? (i := 67) rfl))) (by decide) (notFace_of_selects (args := #[]) (mvT hZ (hw _ (List.mem_of_getElem? (i := 68) rfl)))) (Ctr.back (W := 0) (rmIE l Z a0 hw a3 t3 b3 h0 n0 V3 B3) hZ (hw _ (List.mem_of_getElem? (i := 69) rfl)) (hw _ (List.mem_of_getElem? (i := 11) rfl)) (by (try dsimp only [room_1]); (try simp only [List.length_cons, List.length_nil]); omega) (by (try dsimp only [room_1]); (try simp only [List.length_cons, List.length_nil]); omega)) e1 E3 (g := (mkF m 4 #[.val (.ref a1)] [(.ref a3)])) rfl (by rw [hml]; rfl) (argsL := []) (rest := []) (lenOf pd_26 rfl) rfl (by show 2 * 0 + _ ≤ _; exact Nat.le_of_eq rfl) (hb hby dwh_4) rfl (by (try dsimp only [room_1]); (try simp only [List.length_cons, List.length_nil]); omega) (by (try dsimp only [room_1]); (try simp only [List.length_cons, List.length_nil]); omega) ?_
  rintro _ T2 L2 X2 ⟨rfl, N2, e2⟩
  show Go p e below _ T2 (mkF m 7 #[.val (.ref a1)] [(.int (if b3 = [] then 1 else 0))])
  by_cases q3 : b3 = []
  · skip
    refine Go.st (fun _ k => XS.ifNo X2.here hx rfl (hb hby dwh_7) rfl (XT.i0_eq_f (by rw [if_pos q3]; decide)) k) ?_
    show Go p e below _ T2 (mkF m 10 #[.val (.ref a1)] [])
    refine Go.st (fun _ k => XS.aloadN X2.here hx rfl (hb hby dwh_10) rfl rfl k) ?_
    show Go p e below _ T2 (mkF m 11 #[.val (.ref a1)] [(.ref a1)])
    obtain ⟨T3, X3, e3, st3⟩ := getF X2 hx hZ hown (host := "") (Or.inl (hw _ (List.mem_of_getElem? (i := 58) rfl))) Via.refl e2 F3 (g := (mkF m 11 #[.val (.ref a1)] [(.ref a1)])) rfl rfl (hb hby dwh_11)
    refine Go.st st3 ?_
    show Go p e below _ T3 (mkF m 14 #[.val (.ref a1)] [(.ref a4)])
    refine Go.callV X3 hx hZ (C := "java/lang/String") (y := (⟨"java/lang/String", "isEmpty", "()Z"⟩ : MethodName)) (z := (⟨"java/lang/String", "isEmpty", "()Z"⟩ : MethodName)) hown (mvT hZ (hw _ (List.mem_of_getElem? (i := 65) rfl))) (mvT hZ (hw _ (List.mem_of_getElem? (i := 66) rfl))) (mvT hZ (hw _ (List.mem_of_getElem? (i := 68) rfl))) (mvT hZ (hw _ (List.mem_of_getElem? (i := 67) rfl))) (by decide) (notFace_of_selects (args := #[]) (mvT hZ (hw _ (List.mem_of_getElem? (i := 68) rfl)))) (Ctr.back (W := 0) (rmIE l Z a0 hw a4 t4 b4 h0 n0 V4 B4) hZ (hw _ (List.mem_of_getElem? (i := 69) rfl)) (hw _ (List.mem_of_getElem? (i := 11) rfl)) (by (try dsimp only [room_1]); (try simp only [List.length_cons, List.length_nil]); omega) (by (try dsimp only [room_1]); (try simp only [List.length_cons, List.length_nil]); omega)) e3 E4 (g := (mkF m 14 #[.val (.ref a1)] [(.ref a4)])) rfl (by rw [hml]; rfl) (argsL := []) (rest := []) (lenOf pd_26 rfl) rfl (by show 2 * 0 + _ ≤ _; exact Nat.le_of_eq rfl) (hb hby dwh_14) rfl (by (try dsimp only [room_1]); (try simp only [List.length_cons, List.length_nil]); omega) (by (try dsimp only [room_1]); (try simp only [List.length_cons, List.length_nil]); omega) ?_
    rintro _ T4 L4 X4 ⟨rfl, N4, e4⟩
    show Go p e below _ T4 (mkF m 17 #[.val (.ref a1)] [(.int (if b4 = [] then 1 else 0))])
    by_cases q4 : b4 = []
    · skip
      refine Go.st (fun _ k => XS.ifNo X4.here hx rfl (hb hby dwh_17) rfl (XT.i0_eq_f (by rw [if_pos q4]; decide)) k) ?_
      show Go p e below _ T4 (mkF m 20 #[.val (.ref a1)] [])
      refine Go.st (fun _ k => XS.iconst X4.here hx rfl (hb hby dwh_20) k) ?_
      show Go p e below _ T4 (mkF m 21 #[.val (.ref a1)] [(.int (1 : Int32))])
      refine Go.st (fun _ k => XS.goto X4.here hx rfl (pc0 := 21) (pc' := 25) rfl (hb hby dwh_21) (by decide) (by decide) k) ?_
      show Go p e below _ T4 (mkF m 25 #[.val (.ref a1)] [(.int (1 : Int32))])
      exact Go.retB X4 hx hret hlk (Or.inl rfl) (hb hby dwh_25) ⟨by simp [nar, q3, q4], Fr.app (Fr.app (Fr.nil n0) N2) N4, e4⟩ (Nat.le_refl _) (Nat.le_refl _)
    · skip
      refine Go.st (fun _ k => XS.ifYes X4.here hx rfl (pc0 := 17) (pc' := 24) rfl (hb hby dwh_17) rfl (XT.i0_eq_t (by rw [if_neg q4])) (by decide) (by decide) k) ?_
      show Go p e below _ T4 (mkF m 24 #[.val (.ref a1)] [])
      refine Go.st (fun _ k => XS.iconst X4.here hx rfl (hb hby dwh_24) k) ?_
      show Go p e below _ T4 (mkF m 25 #[.val (.ref a1)] [(.int (0 : Int32))])
      exact Go.retB X4 hx hret hlk (Or.inl rfl) (hb hby dwh_25) ⟨by simp [nar, q3, q4], Fr.app (Fr.app (Fr.nil n0) N2) N4, e4⟩ (Nat.le_refl _) (Nat.le_refl _)
  · skip
    refine Go.st (fun _ k => XS.ifYes X2.here hx rfl (pc0 := 7) (pc' := 24) rfl (hb hby dwh_7) rfl (XT.i0_eq_t (by rw [if_neg q3])) (by decide) (by decide) k) ?_
    show Go p e below _ T2 (mkF m 24 #[.val (.ref a1)] [])
    refine Go.st (fun _ k => XS.iconst X2.here hx rfl (hb hby dwh_24) k) ?_
    show Go p e below _ T2 (mkF m 25 #[.val (.ref a1)] [(.int (0 : Int32))])
    exact Go.retB X2 hx hret hlk (Or.inl rfl) (hb hby dwh_25) ⟨by simp [nar, q3], Fr.app (Fr.nil n0) N2, e2⟩ (Nat.le_refl _) (Nat.le_refl _)
def Q0 (n0 : Nat) (v : Option Value) (h : Heap) (L : List Loc) : Prop := v = some (.int 1) ∧ Fr n0 L
set_option maxRecDepth 65536 in
set_option maxHeartbeats 40000000 in
theorem rm0 (l : Launch) (Z : State) (a0 : Array Value) (hw : ∀ d ∈ tables_1, d.before a0 Z = true) (ws : List Jvm.Cond) (p0 p1 p2 p3 p4 p5 : Int32) (z : Int32) (Su : Su16 Z z) (h0 : Heap) (n0 : Nat) (Z0 : n0 = h0.size) (X00 : Old Z n0 h0) :
    WCtr consts_1 (fun b => b < h0.size) l Z x code maxLocals ret ws room_1 #[(.int p0), (.int p1), (.int p2), (.int p3), (.int p4), (.int p5)] h0 (Q0 n0) := by
  refine WCtr.of (plainFor_of_name pn_18) ?_
  intro p e s m below meth c s₁ hx hby hml hown hnm hret hlk hZ X0 e0 hC0
  have hml : c.maxLocals = 11 := hml
  refine Go.cast (ef_27 m p0 p1 p2 p3 p4 p5) ?_
  show Go p e below _ s₁ (mkF m 0 #[.val (.int p0), .val (.int p1), .val (.int p2), .val (.int p3), .val (.int p4), .val (.int p5), .unset, .unset, .unset, .unset, .unset] [])
  refine Go.st (fun _ k => XS.iloadN X0.here hx rfl (hb hby at_0) rfl k) ?_
  show Go p e below _ s₁ (mkF m 1 #[.val (.int p0), .val (.int p1), .val (.int p2), .val (.int p3), .val (.int p4), .val (.int p5), .unset, .unset, .unset, .unset, .unset] [(.int p0)])
  refine Go.st (fun _ k => XS.iloadN X0.here hx rfl (hb hby at_1) rfl k) ?_
  show Go p e below _ s₁ (mkF m 2 #[.val (.int p0), .val (.int p1), .val (.int p2), .val (.int p3), .val (.int p4), .val (.int p5), .unset, .unset, .unset, .unset, .unset] [(.int p1), (.int p0)])
  refine Go.callSW X0 hx (Bas.refl s 0) (Nat.zero_le _) hZ (y := (⟨"com/example/einstand/einstand/ValuationUnitIsWholePinLaw", "draw", "(II)Ljava/lang/String;"⟩ : MethodName)) hown (mvT hZ (hw _ (List.mem_of_getElem? (i := 0) rfl))) (mvT hZ (hw _ (List.mem_of_getElem? (i := 1) rfl))) (mvT hZ (hw _ (List.mem_of_getElem? (i := 2) rfl))) (mvT hZ (hw _ (List.mem_of_getElem? (i := 3) rfl))) (by decide) (Wt := 0) (rmDR l Z a0 hw z Su p0 p1 h0 n0 (Nat.le_of_eq Z0) X00) (hw _ (List.mem_of_getElem? (i := 3) rfl)) (hw _ (List.mem_of_getElem? (i := 2) rfl)) (by (try dsimp only [room_1]); (try simp only [List.length_cons, List.length_nil]); omega) (by (try dsimp only [room_1]); (try simp only [List.length_cons, List.length_nil]); omega) e0 hC0 (by rw [e0]; exact Und.refl _ h0) (g := (mkF m 2 #[.val (.int p0), .val (.int p1), .val (.int p2), .val (.int p3), .val (.int p4), .val (.int p5), .unset, .unset, .unset, .unset, .unset] [(.int p1), (.int p0)])) rfl (by rw [hml]; rfl) (argsL := [(.int p0), (.int p1)]) (rest := []) (lenOf pd_28 rfl) rfl (by show 2 * 0 + _ ≤ _; exact Nat.le_of_eq rfl) (hb hby at_2) rfl (by (try dsimp only [room_1]); (try simp only [List.length_cons, List.length_nil]); omega) (by (try dsimp only [room_1]); (try simp only [List.length_cons, List.length_nil]); omega) ?_
  rintro _ s1 T1 L1 hB1 hZ1 hown1 hC1 hsz1 X1 ⟨o1, t1, b1, rfl, N1, K1, E1, V1, B1, q1⟩
  show Go p e below _ T1 (mkF m 5 #[.val (.int p0), .val (.int p1), .val (.int p2), .val (.int p3), .val (.int p4), .val (.int p5), .unset, .unset, .unset, .unset, .unset] [(.ref o1)])
  have K01 : Keep h0 T1.heap [] := K1
  refine Go.st (fun _ k => XS.astore X1.here hx rfl (hb hby at_5) rfl rfl (l' := #[.val (.int p0), .val (.int p1), .val (.int p2), .val (.int p3), .val (.int p4), .val (.int p5), .val (.ref o1), .unset, .unset, .unset, .unset]) rfl k) ?_
  show Go p e below _ T1 (mkF m 7 #[.val (.int p0), .val (.int p1), .val (.int p2), .val (.int p3), .val (.int p4), .val (.int p5), .val (.ref o1), .unset, .unset, .unset, .unset] [])
  refine Go.st (fun _ k => XS.iloadN X1.here hx rfl (hb hby at_7) rfl k) ?_
  show Go p e below _ T1 (mkF m 8 #[.val (.int p0), .val (.int p1), .val (.int p2), .val (.int p3), .val (.int p4), .val (.int p5), .val (.ref o1), .unset, .unset, .unset, .unset] [(.int p2)])
  refine Go.st (fun _ k => XS.iloadN X1.here hx rfl (hb hby at_8) rfl k) ?_
  show Go p e below _ T1 (mkF m 9 #[.val (.int p0), .val (.int p1), .val (.int p2), .val (.int p3), .val (.int p4), .val (.int p5), .val (.ref o1), .unset, .unset, .unset, .unset] [(.int p3), (.int p2)])
  refine Go.callSW X1 hx hB1 (Nat.le_refl _) hZ1 (y := (⟨"com/example/einstand/einstand/ValuationUnitIsWholePinLaw", "draw", "(II)Ljava/lang/String;"⟩ : MethodName)) hown1 (mvT hZ1 (hw _ (List.mem_of_getElem? (i := 0) rfl))) (mvT hZ1 (hw _ (List.mem_of_getElem? (i := 1) rfl))) (mvT hZ1 (hw _ (List.mem_of_getElem? (i := 2) rfl))) (mvT hZ1 (hw _ (List.mem_of_getElem? (i := 3) rfl))) (by decide) (Wt := 0) (rmDR l Z a0 hw z Su p2 p3 T1.heap n0 (Nat.le_trans (Nat.le_of_eq Z0) K01.1) (X00.keep K01 all0)) (hw _ (List.mem_of_getElem? (i := 3) rfl)) (hw _ (List.mem_of_getElem? (i := 2) rfl)) (by (try dsimp only [room_1]); (try simp only [List.length_cons, List.length_nil]); omega) (by (try dsimp only [room_1]); (try simp only [List.length_cons, List.length_nil]); omega) rfl hC1 (Und.refl _ _) (g := (mkF m 9 #[.val (.int p0), .val (.int p1), .val (.int p2), .val (.int p3), .val (.int p4), .val (.int p5), .val (.ref o1), .unset, .unset, .unset, .unset] [(.int p3), (.int p2)])) rfl (by rw [hml]; rfl) (argsL := [(.int p2), (.int p3)]) (rest := []) (lenOf pd_28 rfl) rfl (by show 2 * 0 + _ ≤ _; exact Nat.le_of_eq rfl) (hb hby at_9) rfl (by (try dsimp only [room_1]); (try simp only [List.length_cons, List.length_nil]); omega) (by (try dsimp only [room_1]); (try simp only [List.length_cons, List.length_nil]); omega) ?_
  rintro _ s2 T2 L2 hB2 hZ2 hown2 hC2 hsz2 X2 ⟨o2, t2, b2, rfl, N2, K2, E2, V2, B2, q2⟩
  show Go p e below _ T2 (mkF m 12 #[.val (.int p0), .val (.int p1), .val (.int p2), .val (.int p3), .val (.int p4), .val (.int p5), .val (.ref o1), .unset, .unset, .unset, .unset] [(.ref o2)])
  have K02 : Keep h0 T2.heap [] := K01.trans K2 (fun _ z => nomatch z)
  refine Go.st (fun _ k => XS.astore X2.here hx rfl (hb hby at_12) rfl rfl (l' := #[.val (.int p0), .val (.int p1), .val (.int p2), .val (.int p3), .val (.int p4), .val (.int p5), .val (.ref o1), .val (.ref o2), .unset, .unset, .unset]) rfl k) ?_
  show Go p e below _ T2 (mkF m 14 #[.val (.int p0), .val (.int p1), .val (.int p2), .val (.int p3), .val (.int p4), .val (.int p5), .val (.ref o1), .val (.ref o2), .unset, .unset, .unset] [])
  refine Go.st (fun _ k => XS.iload X2.here hx rfl (hb hby at_14) rfl k) ?_
  show Go p e below _ T2 (mkF m 16 #[.val (.int p0), .val (.int p1), .val (.int p2), .val (.int p3), .val (.int p4), .val (.int p5), .val (.ref o1), .val (.ref o2), .unset, .unset, .unset] [(.int p4)])
  refine Go.st (fun _ k => XS.iload X2.here hx rfl (hb hby at_16) rfl k) ?_
  show Go p e below _ T2 (mkF m 18 #[.val (.int p0), .val (.int p1), .val (.int p2), .val (.int p3), .val (.int p4), .val (.int p5), .val (.ref o1), .val (.ref o2), .unset, .unset, .unset] [(.int p5), (.int p4)])
  refine Go.callSW X2 hx hB2 (Nat.le_refl _) hZ2 (y := (⟨"com/example/einstand/einstand/ValuationUnitIsWholePinLaw", "draw", "(II)Ljava/lang/String;"⟩ : MethodName)) hown2 (mvT hZ2 (hw _ (List.mem_of_getElem? (i := 0) rfl))) (mvT hZ2 (hw _ (List.mem_of_getElem? (i := 1) rfl))) (mvT hZ2 (hw _ (List.mem_of_getElem? (i := 2) rfl))) (mvT hZ2 (hw _ (List.mem_of_getElem? (i := 3) rfl))) (by decide) (Wt := 0) (rmDR l Z a0 hw z Su p4 p5 T2.heap n0 (Nat.le_trans (Nat.le_of_eq Z0) K02.1) (X00.keep K02 all0)) (hw _ (List.mem_of_getElem? (i := 3) rfl)) (hw _ (List.mem_of_getElem? (i := 2) rfl)) (by (try dsimp only [room_1]); (try simp only [List.length_cons, List.length_nil]); omega) (by (try dsimp only [room_1]); (try simp only [List.length_cons, List.length_nil]); omega) rfl hC2 (Und.refl _ _) (g := (mkF m 18 #[.val (.int p0), .val (.int p1), .val (.int p2), .val (.int p3), .val (.int p4), .val (.int p5), .val (.ref o1), .val (.ref o2), .unset, .unset, .unset] [(.int p5), (.int p4)])) rfl (by rw [hml]; rfl) (argsL := [(.int p4), (.int p5)]) (rest := []) (lenOf pd_28 rfl) rfl (by show 2 * 0 + _ ≤ _; exact Nat.le_of_eq rfl) (hb hby at_18) rfl (by (try dsimp only [room_1]); (try simp only [List.length_cons, List.length_nil]); omega) (by (try dsimp only [room_1]); (try simp only [List.length_cons, List.length_nil]); omega) ?_
  rintro _ s3 T3 L3 hB3 hZ3 hown3 hC3 hsz3 X3 ⟨o3, t3, b3, rfl, N3, K3, E3, V3, B3, q3⟩
  show Go p e below _ T3 (mkF m 21 #[.val (.int p0), .val (.int p1), .val (.int p2), .val (.int p3), .val (.int p4), .val (.int p5), .val (.ref o1), .val (.ref o2), .unset, .unset, .unset] [(.ref o3)])
  have K03 : Keep h0 T3.heap [] := K02.trans K3 (fun _ z => nomatch z)
  refine Go.st (fun _ k => XS.astore X3.here hx rfl (hb hby at_21) rfl rfl (l' := #[.val (.int p0), .val (.int p1), .val (.int p2), .val (.int p3), .val (.int p4), .val (.int p5), .val (.ref o1), .val (.ref o2), .val (.ref o3), .unset, .unset]) rfl k) ?_
  show Go p e below _ T3 (mkF m 23 #[.val (.int p0), .val (.int p1), .val (.int p2), .val (.int p3), .val (.int p4), .val (.int p5), .val (.ref o1), .val (.ref o2), .val (.ref o3), .unset, .unset] [])
  obtain ⟨T4, h4, X4, e4, E4, A4, D4, -, st4⟩ := newO X3 hx hZ3 hown3 (hw _ (List.mem_of_getElem? (i := 42) rfl)) (hw _ (List.mem_of_getElem? (i := 43) rfl)) (hw _ (List.mem_of_getElem? (i := 44) rfl)) rfl (g := (mkF m 23 #[.val (.int p0), .val (.int p1), .val (.int p2), .val (.int p3), .val (.int p4), .val (.int p5), .val (.ref o1), .val (.ref o2), .val (.ref o3), .unset, .unset] [])) rfl (hb hby at_23) (by (try dsimp only [room_1]); (try simp only [List.length_cons, List.length_nil]); omega) (by (try dsimp only [room_1]); (try simp only [List.length_cons, List.length_nil]); omega)
  obtain ⟨a4, g4⟩ : ∃ z, z = T3.heap.size := ⟨_, rfl⟩
  rw [← g4] at A4 D4 st4
  have l4 : a4 < h4.size := A4.lt
  have sE4 := E4.1
  refine Go.st st4 ?_
  show Go p e below _ T4 (mkF m 26 #[.val (.int p0), .val (.int p1), .val (.int p2), .val (.int p3), .val (.int p4), .val (.int p5), .val (.ref o1), .val (.ref o2), .val (.ref o3), .unset, .unset] [(.ref a4)])
  refine Go.st (fun _ k => XS.dup X4.here hx rfl (hb hby at_26) rfl rfl k) ?_
  show Go p e below _ T4 (mkF m 27 #[.val (.int p0), .val (.int p1), .val (.int p2), .val (.int p3), .val (.int p4), .val (.int p5), .val (.ref o1), .val (.ref o2), .val (.ref o3), .unset, .unset] [(.ref a4), (.ref a4)])
  refine Go.st (fun _ k => XS.aload X4.here hx rfl (hb hby at_27) rfl rfl k) ?_
  show Go p e below _ T4 (mkF m 29 #[.val (.int p0), .val (.int p1), .val (.int p2), .val (.int p3), .val (.int p4), .val (.int p5), .val (.ref o1), .val (.ref o2), .val (.ref o3), .unset, .unset] [(.ref o1), (.ref a4), (.ref a4)])
  refine Go.st (fun _ k => XS.aload X4.here hx rfl (hb hby at_29) rfl rfl k) ?_
  show Go p e below _ T4 (mkF m 31 #[.val (.int p0), .val (.int p1), .val (.int p2), .val (.int p3), .val (.int p4), .val (.int p5), .val (.ref o1), .val (.ref o2), .val (.ref o3), .unset, .unset] [(.ref o2), (.ref o1), (.ref a4), (.ref a4)])
  refine Go.st (fun _ k => XS.aload X4.here hx rfl (hb hby at_31) rfl rfl k) ?_
  show Go p e below _ T4 (mkF m 33 #[.val (.int p0), .val (.int p1), .val (.int p2), .val (.int p3), .val (.int p4), .val (.int p5), .val (.ref o1), .val (.ref o2), .val (.ref o3), .unset, .unset] [(.ref o3), (.ref o2), (.ref o1), (.ref a4), (.ref a4)])
  refine Go.callI X4 hx (y := (⟨"com/example/einstand/einstand/ValuationUnit", "<init>", "(Ljava/lang/String;Ljava/lang/String;Ljava/lang/String;)V"⟩ : MethodName)) rfl hown3 (mvT hZ3 (hw _ (List.mem_of_getElem? (i := 45) rfl))) (mvT hZ3 (hw _ (List.mem_of_getElem? (i := 46) rfl))) (mvT hZ3 (hw _ (List.mem_of_getElem? (i := 47) rfl))) (by decide) (Ctr.back (W := 1) (rmVI l Z a0 hw a4 o1 o2 o3 _ _ _ h4 n0 (by have := K03.1; omega) A4 (D4 (Or.inr (hw _ (List.mem_of_getElem? (i := 55) rfl))) (ty := (.object "java/lang/String")) (by decide)) (D4 (Or.inr (hw _ (List.mem_of_getElem? (i := 57) rfl))) (ty := (.object "java/lang/String")) (by decide)) (D4 (Or.inr (hw _ (List.mem_of_getElem? (i := 59) rfl))) (ty := (.object "java/lang/String")) (by decide))) hZ3 (hw _ (List.mem_of_getElem? (i := 47) rfl)) (hw _ (List.mem_of_getElem? (i := 44) rfl)) (by (try dsimp only [room_1]); (try simp only [List.length_cons, List.length_nil]); omega) (by (try dsimp only [room_1]); (try simp only [List.length_cons, List.length_nil]); omega)) e4 (g := (mkF m 33 #[.val (.int p0), .val (.int p1), .val (.int p2), .val (.int p3), .val (.int p4), .val (.int p5), .val (.ref o1), .val (.ref o2), .val (.ref o3), .unset, .unset] [(.ref o3), (.ref o2), (.ref o1), (.ref a4), (.ref a4)])) rfl (by rw [hml]; rfl) (a := a4) (argsL := [(.ref o1), (.ref o2), (.ref o3)]) (rest := [(.ref a4)]) (lenOf pd_29 rfl) rfl (by show 2 * 0 + _ ≤ _; exact Nat.le_of_eq rfl) (hb hby at_33) rfl (by (try dsimp only [room_1]); (try simp only [List.length_cons, List.length_nil]); omega) (by (try dsimp only [room_1]); (try simp only [List.length_cons, List.length_nil]); omega) ?_
  rintro _ T5 L5 X5 ⟨rfl, N5, K5, E5, F5, G5⟩
  show Go p e below _ T5 (mkF m 36 #[.val (.int p0), .val (.int p1), .val (.int p2), .val (.int p3), .val (.int p4), .val (.int p5), .val (.ref o1), .val (.ref o2), .val (.ref o3), .unset, .unset] [(.ref a4)])
  refine Go.st (fun _ k => XS.astore X5.here hx rfl (hb hby at_36) rfl rfl (l' := #[.val (.int p0), .val (.int p1), .val (.int p2), .val (.int p3), .val (.int p4), .val (.int p5), .val (.ref o1), .val (.ref o2), .val (.ref o3), .val (.ref a4), .unset]) rfl k) ?_
  show Go p e below _ T5 (mkF m 38 #[.val (.int p0), .val (.int p1), .val (.int p2), .val (.int p3), .val (.int p4), .val (.int p5), .val (.ref o1), .val (.ref o2), .val (.ref o3), .val (.ref a4), .unset] [])
  refine Go.st (fun _ k => XS.iloadN X5.here hx rfl (hb hby at_38) rfl k) ?_
  show Go p e below _ T5 (mkF m 39 #[.val (.int p0), .val (.int p1), .val (.int p2), .val (.int p3), .val (.int p4), .val (.int p5), .val (.ref o1), .val (.ref o2), .val (.ref o3), .val (.ref a4), .unset] [(.int p2)])
  have k5 := K5.1
  have k03 := K03.1
  have K35 : Keep T3.heap T5.heap [] := ((Keep.refl T3.heap []).ext E4).trans K5 (fun x q => Or.inr (by cases List.mem_singleton.mp q; omega))
  have K25 : Keep T2.heap T5.heap [] := K3.trans K35 (fun _ z => nomatch z)
  have Wh := rmWH l Z a0 hw a4 o2 o3 t2 t3 b2 b3 T5.heap n0 F5 G5 (E2.keep K25) (V2.keep K25 nin0) (B2.keep K25 nin0) (E3.keep K35) (V3.keep K35 nin0) (B3.keep K35 nin0)
  refine Go.callS X5 hx (y := (⟨"com/example/einstand/einstand/ValuationUnitIsWholePinLaw", "drawnLength", "(I)I"⟩ : MethodName)) hown3 (mvT hZ3 (hw _ (List.mem_of_getElem? (i := 4) rfl))) (mvT hZ3 (hw _ (List.mem_of_getElem? (i := 5) rfl))) (mvT hZ3 (hw _ (List.mem_of_getElem? (i := 2) rfl))) (mvT hZ3 (hw _ (List.mem_of_getElem? (i := 6) rfl))) (by decide) (Ctr.back (W := 0) (rmDL l Z a0 hw p2 T5.heap n0) hZ3 (hw _ (List.mem_of_getElem? (i := 6) rfl)) (hw _ (List.mem_of_getElem? (i := 2) rfl)) (by (try dsimp only [room_1]); (try simp only [List.length_cons, List.length_nil]); omega) (by (try dsimp only [room_1]); (try simp only [List.length_cons, List.length_nil]); omega)) rfl (g := (mkF m 39 #[.val (.int p0), .val (.int p1), .val (.int p2), .val (.int p3), .val (.int p4), .val (.int p5), .val (.ref o1), .val (.ref o2), .val (.ref o3), .val (.ref a4), .unset] [(.int p2)])) rfl (by rw [hml]; rfl) (argsL := [(.int p2)]) (rest := []) (lenOf pd_2 rfl) rfl (by show 2 * 0 + _ ≤ _; exact Nat.le_of_eq rfl) (hb hby at_39) rfl (by (try dsimp only [room_1]); (try simp only [List.length_cons, List.length_nil]); omega) (by (try dsimp only [room_1]); (try simp only [List.length_cons, List.length_nil]); omega) ?_
  rintro _ T6 L6 X6 ⟨rfl, N6, e6⟩
  show Go p e below _ T6 (mkF m 42 #[.val (.int p0), .val (.int p1), .val (.int p2), .val (.int p3), .val (.int p4), .val (.int p5), .val (.ref o1), .val (.ref o2), .val (.ref o3), .val (.ref a4), .unset] [(.int (own_len p2))])
  have N06 := Fr.app (Fr.app (Fr.app (Fr.app (Fr.app (Fr.nil n0) N1) N2) N3) N5) N6
  have J : ∀ (q : Int32) (hq : q = if b2 = [] ∧ b3 = [] then 1 else 0) (T7 : State) (locs : List Loc) (kc ks : Nat), Stand p l e room_1 s3 m #[(.int p0), (.int p1), (.int p2), (.int p3), (.int p4), (.int p5)] below meth c T7 locs kc ks → T7.heap = T5.heap → Fr n0 locs → kc ≤ 20 → ks ≤ 100 → Go p e below (EndW consts_1 s (Q0 n0) room_1.cells room_1.slots) T7 (mkF m 58 #[.val (.int p0), .val (.int p1), .val (.int p2), .val (.int p3), .val (.int p4), .val (.int p5), .val (.ref o1), .val (.ref o2), .val (.ref o3), .val (.ref a4), .unset] [(.int q)]) := by
    intro q hq T7 locs kc ks X7 e7 N7 hkc hks
    show Go p e below _ T7 (mkF m 58 #[.val (.int p0), .val (.int p1), .val (.int p2), .val (.int p3), .val (.int p4), .val (.int p5), .val (.ref o1), .val (.ref o2), .val (.ref o3), .val (.ref a4), .unset] [(.int q)])
    refine Go.st (fun _ k => XS.istore X7.here hx rfl (hb hby at_58) rfl (l' := #[.val (.int p0), .val (.int p1), .val (.int p2), .val (.int p3), .val (.int p4), .val (.int p5), .val (.ref o1), .val (.ref o2), .val (.ref o3), .val (.ref a4), .val (.int q)]) rfl k) ?_
    show Go p e below _ T7 (mkF m 60 #[.val (.int p0), .val (.int p1), .val (.int p2), .val (.int p3), .val (.int p4), .val (.int p5), .val (.ref o1), .val (.ref o2), .val (.ref o3), .val (.ref a4), .val (.int q)] [])
    refine Go.st (fun _ k => XS.aload X7.here hx rfl (hb hby at_60) rfl rfl k) ?_
    show Go p e below _ T7 (mkF m 62 #[.val (.int p0), .val (.int p1), .val (.int p2), .val (.int p3), .val (.int p4), .val (.int p5), .val (.ref o1), .val (.ref o2), .val (.ref o3), .val (.ref a4), .val (.int q)] [(.ref a4)])
    refine Go.callV X7 hx hZ3 (C := "com/example/einstand/einstand/ValuationUnit") (y := (⟨"com/example/einstand/einstand/ValuationUnit", "isWhole", "()Z"⟩ : MethodName)) (z := (⟨"com/example/einstand/einstand/ValuationUnit", "isWhole", "()Z"⟩ : MethodName)) hown3 (mvT hZ3 (hw _ (List.mem_of_getElem? (i := 60) rfl))) (mvT hZ3 (hw _ (List.mem_of_getElem? (i := 61) rfl))) (mvT hZ3 (hw _ (List.mem_of_getElem? (i := 63) rfl))) (mvT hZ3 (hw _ (List.mem_of_getElem? (i := 62) rfl))) (by decide) (notFace_of_selects (args := #[]) (mvT hZ3 (hw _ (List.mem_of_getElem? (i := 63) rfl)))) (Ctr.back (W := 0) (Wh) hZ3 (hw _ (List.mem_of_getElem? (i := 64) rfl)) (hw _ (List.mem_of_getElem? (i := 44) rfl)) (by (try dsimp only [room_1]); (try simp only [List.length_cons, List.length_nil]); omega) (by (try dsimp only [room_1]); (try simp only [List.length_cons, List.length_nil]); omega)) e7 E5 (g := (mkF m 62 #[.val (.int p0), .val (.int p1), .val (.int p2), .val (.int p3), .val (.int p4), .val (.int p5), .val (.ref o1), .val (.ref o2), .val (.ref o3), .val (.ref a4), .val (.int q)] [(.ref a4)])) rfl (by rw [hml]; rfl) (argsL := []) (rest := []) (lenOf pd_26 rfl) rfl (by show 2 * 0 + _ ≤ _; exact Nat.le_of_eq rfl) (hb hby at_62) rfl (by (try dsimp only [room_1]); (try simp only [List.length_cons, List.length_nil]); omega) (by (try dsimp only [room_1]); (try simp only [List.length_cons, List.length_nil]); omega) ?_
    rintro _ T8 L8 X8 ⟨rfl, N8, e8⟩
    show Go p e below _ T8 (mkF m 65 #[.val (.int p0), .val (.int p1), .val (.int p2), .val (.int p3), .val (.int p4), .val (.int p5), .val (.ref o1), .val (.ref o2), .val (.ref o3), .val (.ref a4), .val (.int q)] [(.int (if b2 = [] ∧ b3 = [] then 1 else 0))])
    refine Go.st (fun _ k => XS.iload X8.here hx rfl (hb hby at_65) rfl k) ?_
    show Go p e below _ T8 (mkF m 67 #[.val (.int p0), .val (.int p1), .val (.int p2), .val (.int p3), .val (.int p4), .val (.int p5), .val (.ref o1), .val (.ref o2), .val (.ref o3), .val (.ref a4), .val (.int q)] [(.int q), (.int (if b2 = [] ∧ b3 = [] then 1 else 0))])
    refine Go.st (fun _ k => XS.icmpNo X8.here hx rfl (hb hby at_67) rfl (XT.ii_ne_f hq.symm) k) ?_
    show Go p e below _ T8 (mkF m 70 #[.val (.int p0), .val (.int p1), .val (.int p2), .val (.int p3), .val (.int p4), .val (.int p5), .val (.ref o1), .val (.ref o2), .val (.ref o3), .val (.ref a4), .val (.int q)] [])
    refine Go.st (fun _ k => XS.iconst X8.here hx rfl (hb hby at_70) k) ?_
    show Go p e below _ T8 (mkF m 71 #[.val (.int p0), .val (.int p1), .val (.int p2), .val (.int p3), .val (.int p4), .val (.int p5), .val (.ref o1), .val (.ref o2), .val (.ref o3), .val (.ref a4), .val (.int q)] [(.int (1 : Int32))])
    refine Go.st (fun _ k => XS.goto X8.here hx rfl (pc0 := 71) (pc' := 75) rfl (hb hby at_71) (by decide) (by decide) k) ?_
    show Go p e below _ T8 (mkF m 75 #[.val (.int p0), .val (.int p1), .val (.int p2), .val (.int p3), .val (.int p4), .val (.int p5), .val (.ref o1), .val (.ref o2), .val (.ref o3), .val (.ref a4), .val (.int q)] [(.int (1 : Int32))])
    have U8 : Und (fun b => b < T3.heap.size) T3.heap T8.heap := e8 ▸ ((Und.refl _ T3.heap).keep K35 all0)
    exact Go.retBW X8 hx hB3 U8.1 hC3 U8 hret hlk (Or.inl rfl) (hb hby at_75) ⟨rfl, Fr.app N7 N8⟩ (by (try dsimp only [room_1]); (try simp only [List.length_cons, List.length_nil]); omega) (by (try dsimp only [room_1]); (try simp only [List.length_cons, List.length_nil]); omega)
  by_cases qb : own_len p2 = 0
  · skip
    refine Go.st (fun _ k => XS.ifNo X6.here hx rfl (hb hby at_42) rfl (XT.i0_ne_f qb) k) ?_
    show Go p e below _ T6 (mkF m 45 #[.val (.int p0), .val (.int p1), .val (.int p2), .val (.int p3), .val (.int p4), .val (.int p5), .val (.ref o1), .val (.ref o2), .val (.ref o3), .val (.ref a4), .unset] [])
    refine Go.st (fun _ k => XS.iload X6.here hx rfl (hb hby at_45) rfl k) ?_
    show Go p e below _ T6 (mkF m 47 #[.val (.int p0), .val (.int p1), .val (.int p2), .val (.int p3), .val (.int p4), .val (.int p5), .val (.ref o1), .val (.ref o2), .val (.ref o3), .val (.ref a4), .unset] [(.int p4)])
    refine Go.callS X6 hx (y := (⟨"com/example/einstand/einstand/ValuationUnitIsWholePinLaw", "drawnLength", "(I)I"⟩ : MethodName)) hown3 (mvT hZ3 (hw _ (List.mem_of_getElem? (i := 4) rfl))) (mvT hZ3 (hw _ (List.mem_of_getElem? (i := 5) rfl))) (mvT hZ3 (hw _ (List.mem_of_getElem? (i := 2) rfl))) (mvT hZ3 (hw _ (List.mem_of_getElem? (i := 6) rfl))) (by decide) (Ctr.back (W := 0) (rmDL l Z a0 hw p4 T5.heap n0) hZ3 (hw _ (List.mem_of_getElem? (i := 6) rfl)) (hw _ (List.mem_of_getElem? (i := 2) rfl)) (by (try dsimp only [room_1]); (try simp only [List.length_cons, List.length_nil]); omega) (by (try dsimp only [room_1]); (try simp only [List.length_cons, List.length_nil]); omega)) e6 (g := (mkF m 47 #[.val (.int p0), .val (.int p1), .val (.int p2), .val (.int p3), .val (.int p4), .val (.int p5), .val (.ref o1), .val (.ref o2), .val (.ref o3), .val (.ref a4), .unset] [(.int p4)])) rfl (by rw [hml]; rfl) (argsL := [(.int p4)]) (rest := []) (lenOf pd_2 rfl) rfl (by show 2 * 0 + _ ≤ _; exact Nat.le_of_eq rfl) (hb hby at_47) rfl (by (try dsimp only [room_1]); (try simp only [List.length_cons, List.length_nil]); omega) (by (try dsimp only [room_1]); (try simp only [List.length_cons, List.length_nil]); omega) ?_
    rintro _ T7 L7 X7 ⟨rfl, N7, e7⟩
    show Go p e below _ T7 (mkF m 50 #[.val (.int p0), .val (.int p1), .val (.int p2), .val (.int p3), .val (.int p4), .val (.int p5), .val (.ref o1), .val (.ref o2), .val (.ref o3), .val (.ref a4), .unset] [(.int (own_len p4))])
    by_cases qc : own_len p4 = 0
    · skip
      refine Go.st (fun _ k => XS.ifNo X7.here hx rfl (hb hby at_50) rfl (XT.i0_ne_f qc) k) ?_
      show Go p e below _ T7 (mkF m 53 #[.val (.int p0), .val (.int p1), .val (.int p2), .val (.int p3), .val (.int p4), .val (.int p5), .val (.ref o1), .val (.ref o2), .val (.ref o3), .val (.ref a4), .unset] [])
      refine Go.st (fun _ k => XS.iconst X7.here hx rfl (hb hby at_53) k) ?_
      show Go p e below _ T7 (mkF m 54 #[.val (.int p0), .val (.int p1), .val (.int p2), .val (.int p3), .val (.int p4), .val (.int p5), .val (.ref o1), .val (.ref o2), .val (.ref o3), .val (.ref a4), .unset] [(.int (1 : Int32))])
      refine Go.st (fun _ k => XS.goto X7.here hx rfl (pc0 := 54) (pc' := 58) rfl (hb hby at_54) (by decide) (by decide) k) ?_
      show Go p e below _ T7 (mkF m 58 #[.val (.int p0), .val (.int p1), .val (.int p2), .val (.int p3), .val (.int p4), .val (.int p5), .val (.ref o1), .val (.ref o2), .val (.ref o3), .val (.ref a4), .unset] [(.int (1 : Int32))])
      exact J _ (by rw [if_pos ⟨q2.mpr qb, q3.mpr qc⟩]) T7 _ _ _ X7 e7 (Fr.app N06 N7) (by (try dsimp only [room_1]); (try simp only [List.length_cons, List.length_nil]); omega) (by (try dsimp only [room_1]); (try simp only [List.length_cons, List.length_nil]); omega)
    · skip
      refine Go.st (fun _ k => XS.ifYes X7.here hx rfl (pc0 := 50) (pc' := 57) rfl (hb hby at_50) rfl (XT.i0_ne_t qc) (by decide) (by decide) k) ?_
      show Go p e below _ T7 (mkF m 57 #[.val (.int p0), .val (.int p1), .val (.int p2), .val (.int p3), .val (.int p4), .val (.int p5), .val (.ref o1), .val (.ref o2), .val (.ref o3), .val (.ref a4), .unset] [])
      refine Go.st (fun _ k => XS.iconst X7.here hx rfl (hb hby at_57) k) ?_
      show Go p e below _ T7 (mkF m 58 #[.val (.int p0), .val (.int p1), .val (.int p2), .val (.int p3), .val (.int p4), .val (.int p5), .val (.ref o1), .val (.ref o2), .val (.ref o3), .val (.ref a4), .unset] [(.int (0 : Int32))])
      exact J _ (by rw [if_neg (fun z => qc (q3.mp z.2))]) T7 _ _ _ X7 e7 (Fr.app N06 N7) (by (try dsimp only [room_1]); (try simp only [List.length_cons, List.length_nil]); omega) (by (try dsimp only [room_1]); (try simp only [List.length_cons, List.length_nil]); omega)
  · skip
    refine Go.st (fun _ k => XS.ifYes X6.here hx rfl (pc0 := 42) (pc' := 57) rfl (hb hby at_42) rfl (XT.i0_ne_t qb) (by decide) (by decide) k) ?_
    show Go p e below _ T6 (mkF m 57 #[.val (.int p0), .val (.int p1), .val (.int p2), .val (.int p3), .val (.int p4), .val (.int p5), .val (.ref o1), .val (.ref o2), .val (.ref o3), .val (.ref a4), .unset] [])
    refine Go.st (fun _ k => XS.iconst X6.here hx rfl (hb hby at_57) k) ?_
    show Go p e below _ T6 (mkF m 58 #[.val (.int p0), .val (.int p1), .val (.int p2), .val (.int p3), .val (.int p4), .val (.int p5), .val (.ref o1), .val (.ref o2), .val (.ref o3), .val (.ref a4), .unset] [(.int (0 : Int32))])
    exact J _ (by rw [if_neg (fun z => qb (q2.mp z.1))]) T6 _ _ _ X6 e6 N06 (by (try dsimp only [room_1]); (try simp only [List.length_cons, List.length_nil]); omega) (by (try dsimp only [room_1]); (try simp only [List.length_cons, List.length_nil]); omega)
theorem own_eqv {s : State} {args : Array Value} {t : Term} {v : Int32} (h : (Cond.eq t (Term.int v)).value args s none s [] = some true) : t.eval args s none [] s = some (.int v) := by
  obtain ⟨x, y, h1, h2, k1, k2⟩ := cmp_v (Or.inl h)
  cases Option.some.inj ((Term.int_eval v).symm.trans h2)
  obtain ⟨z, rfl⟩ := k2
  have q := gotT (Cond.eq_ints h1 (Term.int_eval v)) h
  rw [h1, q]
set_option maxRecDepth 65536 in
set_option maxHeartbeats 40000000 in
theorem comes_1 {Post : Tables → Env → Array Value → State → Outcome → State → Prop} (hpost : ∀ tb e args s v u, (limb_1_1.after args s (.returned v) u = true ∧ limb_1_2.after args s (.returned v) u = true ∧ True) → FramedW s (.returned v) u (Jvm.fieldLocs frame_1_writes args s ++ Jvm.arrayLocs frame_1_arrays args s ++ Jvm.staticLocs frame_1_statics s) 40 1216 → Post tb e args s (.returned v) u) :
    ArmFor flags0 classFile x code maxLocals ret World_1 tables_1 room_1 Calls_1 rest_1 Pre_1 Post := by
  intro l hfl _ _ p e ha hc hk s m args below hf hA hF happ hP
  obtain ⟨hcalls, hrest, hpre⟩ := hP
  obtain ⟨-, -, -, hnamed, -, -, -, hat⟩ := (Spec.applies_iff hf).mp happ
  obtain ⟨hg, hn⟩ := and_e (Cond.before_iff.mp (show (Jvm.Cond.and given_1 narrow_1).before args s = true from hpre))
  obtain ⟨hcount, g0⟩ := and_e hg
  obtain ⟨ga0, g1⟩ := and_e g0
  obtain ⟨ga1, g2⟩ := and_e g1
  obtain ⟨ga2, g3⟩ := and_e g2
  obtain ⟨ga3, g4⟩ := and_e g3
  obtain ⟨ga4, g5⟩ := and_e g4
  have ga5 := g5
  obtain ⟨w0, w1, w2, w3, w4, w5, rfl⟩ : ∃ w0 w1 w2 w3 w4 w5 : Value, args = #[w0, w1, w2, w3, w4, w5] := by
    have hs : args.size = 6 := by simpa [Cond.value, given_1] using hcount
    obtain ⟨L⟩ := args
    match L, hs with
    | [w0, w1, w2, w3, w4, w5], _ => exact ⟨w0, w1, w2, w3, w4, w5, rfl⟩
  have hw := fun d (hd : d ∈ tables_1) => atoms_spec (ws := Jvm.Cond.code x code maxLocals ret :: tables_1) hat d (List.mem_cons_of_mem _ hd)
  obtain ⟨hsets, hown0⟩ := atoms_of _ (rest_1_c_eq ▸ (show rest_1_c.before _ s = true from hrest))
  have hfit : Fit s := fun {y c} hc i hi => by
    obtain ⟨ha, rfl⟩ := Array.getElem?_eq_some_iff.mp hc
    have q := List.all_eq_true.mp ((Array.all_eq_true_iff_forall_mem.mp hF) _ (Array.getElem_mem ha)) i (List.mem_range.mpr hi)
    simpa [Array.getElem?_eq_getElem hi] using q
  obtain ⟨i0, ea0⟩ := is_v ga0
  obtain rfl : w0 = (.int i0) := Option.some.inj ea0
  obtain ⟨i1, ea1⟩ := is_v ga1
  obtain rfl : w1 = (.int i1) := Option.some.inj ea1
  obtain ⟨i2, ea2⟩ := is_v ga2
  obtain rfl : w2 = (.int i2) := Option.some.inj ea2
  obtain ⟨i3, ea3⟩ := is_v ga3
  obtain rfl : w3 = (.int i3) := Option.some.inj ea3
  obtain ⟨i4, ea4⟩ := is_v ga4
  obtain rfl : w4 = (.int i4) := Option.some.inj ea4
  obtain ⟨i5, ea5⟩ := is_v ga5
  obtain rfl : w5 = (.int i5) := Option.some.inj ea5
  obtain ⟨iC, eC⟩ := is_v (Cond.before_iff.mp (hsets _ (List.mem_of_getElem? (i := 1) rfl)))
  have SC : Sta s s.heap "java/lang/String" "COMPACT_STRINGS" "Z" (.int iC) := Sta.start eC (Or.inl (hsets _ (List.mem_of_getElem? (i := 0) rfl)))
  have nC : ¬ (iC = (0 : Int32)) := gotF (Cond.eq_ints eC (Term.int_eval (0))) (not_v (Cond.before_iff.mp (hsets _ (List.mem_of_getElem? (i := 2) rfl))))
  have SA : Sta s s.heap "java/lang/StringUTF16" "$assertionsDisabled" "Z" (.int 1) := Sta.start (own_eqv (Cond.before_iff.mp (hsets _ (List.mem_of_getElem? (i := 12) rfl)))) (Or.inl (hsets _ (List.mem_of_getElem? (i := 11) rfl)))
  have SH : Sta s s.heap "java/lang/StringUTF16" "HI_BYTE_SHIFT" "I" (.int 0) := Sta.start (own_eqv (Cond.before_iff.mp (hsets _ (List.mem_of_getElem? (i := 15) rfl)))) (Or.inl (hsets _ (List.mem_of_getElem? (i := 14) rfl)))
  have SL : Sta s s.heap "java/lang/StringUTF16" "LO_BYTE_SHIFT" "I" (.int 8) := Sta.start (own_eqv (Cond.before_iff.mp (hsets _ (List.mem_of_getElem? (i := 18) rfl)))) (Or.inl (hsets _ (List.mem_of_getElem? (i := 17) rfl)))
  have hcons := hcalls.1
  have hheld : CHn consts_1 (fun b => b < s.heap.size) s := CHn.start (fun y hy => by
    have hy0 := hy
    simp only [consts_1, List.mem_cons, List.not_mem_nil, or_false] at hy
    rcases hy with rfl
    · exact own_heldL (text := "") (hcons _ hy0) (hw _ (List.mem_of_getElem? (i := 23) rfl)) (by decide) (hsets _ (List.mem_of_getElem? (i := 2) rfl)) (hw _ (List.mem_of_getElem? (i := 24) rfl)) (hw _ (List.mem_of_getElem? (i := 10) rfl)))
  obtain ⟨n, o, h1, h2, h3, _, L, rfl, ⟨rfl, N⟩, -, hq⟩ := rm0 l s _ hw tables_1 i0 i1 i2 i3 i4 i5 iC ⟨SA, SH, SL, SC, nC⟩ s.heap s.heap.size rfl (Old.start s) p e ha hc hk s m _ below hf ((Spec.applies_iff_loose hf).mp happ).1 ⟨rfl, State.Warmed39.refl s, rfl, hheld⟩ trivial
  refine ⟨n, _, h1, h2, h3, hpost _ _ _ _ _ _ ⟨Cond.after_iff.mpr rfl, Cond.after_iff.mpr (eq_i res_at (Term.int_eval (1)) rfl), trivial⟩ ⟨hq.1, hq.2.1, hq.2.2.1, (hq.2.2.2.sift fun y hy => Or.inr (N y hy)).mono (by decide) (by decide)⟩⟩
theorem main_1_1 : Claimed_1_1 := comes_1 fun _ _ _ _ _ _ h hF => ⟨h.1, hF⟩
theorem main_1_2 : Claimed_1_2 := comes_1 fun _ _ _ _ _ _ h hF => ⟨h.2.1, hF⟩
end Jvm.Pilot.@@N@@
namespace Jvm.Pilot.@@N@@
open Jvm Jvm.ClassFile Sem Op Lib Jvm.Free Jvm.Stand Jvm.Pilot.@@N@@.Jvm.D
/-! MADE BY PROGRAM (witnessworld.py) out of the Statement's table words and the real class files: 21 classes; the members and pool entries that the words name. The judged class is class 1, her method 3. -/
namespace start1
open Jvm.ClassFile
def u (s : String) : CpInfo := .utf8 (stringToUtf16 s)
/-- a pool by its gaps: so many unusable entries, then the entry; so many at the end -/
def gap : Nat → List CpInfo → List CpInfo
  | 0, r => r
  | n + 1, r => .unusable :: gap n r
def poolList (es : List (Nat × CpInfo)) (last : Nat) : List CpInfo := es.foldr (fun e r => gap e.1 (e.2 :: r)) (gap last [])
def pool (es : List (Nat × CpInfo)) (last : Nat) : Array CpInfo := ⟨poolList es last⟩
def fileOf (pool : Array CpInfo) (this : Nat) (attrs : Array Attribute := #[]) (ms : Array MethodInfo := #[]) (fl : Nat := 33) (sup : Nat := 0) (ifs : Array Nat := #[]) (fds : Array FieldInfo := #[]) : ClassFile where
  minorVersion := 0
  majorVersion := 65
  constantPool := pool
  accessFlags := fl
  thisClass := this
  superClass := sup
  interfaces := ifs
  fields := fds
  methods := ms
  attributes := attrs
def plain (name : String) (sup : Option ClassId) : Class where
  name := name
  kind := .ordinary
  loader := none
  accessFlags := 33
  super := sup
  interfaces := #[]
  cf := none
  fields := #[]
  methods := #[]
  instanceTypes := #[]
  staticTypes := #[]
  resolved := #[]
  callSites := []
  init := .initialized
  statics := none
  mirror := none

def pool0 : Array CpInfo := pool [(5, u "<init>"), (0, u "()V"), (1, .class_ 10), (1, u "java/lang/Object")] 113

def k0c0 : Code := { maxStack := 0, maxLocals := 1, code := object_method_1_code, exceptionTable := #[], attributes := #[] }
def k0m0 : Method := { name := "<init>", desc := "()V", sig := { parameters := [], returnType := none }, accessFlags := 1, code := some k0c0 }
/-- java/lang/Object -/
def k0 : Class := { plain "java/lang/Object" none with
  accessFlags := 33
  interfaces := #[]
  cf := some (fileOf pool0 8 #[] #[{ accessFlags := 1, nameIndex := 5, descriptorIndex := 6, attributes := #[] }] 33 0 #[] #[])
  fields := #[]
  methods := #[k0m0]
  instanceTypes := #[]
  staticTypes := #[]
  resolved := Array.replicate 124 none
  statics := none }

def pool1 : Array CpInfo := pool [(2, .class_ 4), (1, u "java/lang/Object"), (0, u "<init>"), (0, u "()V"), (0, .integer 2147483647), (0, .methodref 9 10), (0, .class_ 11), (0, .nameAndType 12 13), (0, u "com/example/einstand/einstand/ValuationUnitIsWholePinLaw"), (0, u "drawnLength"), (0, u "(I)I"), (0, .integer 65535), (0, .class_ 16), (0, u "java/lang/String"), (0, .methodref 15 18), (0, .nameAndType 5 19), (0, u "([C)V"), (0, .methodref 9 21), (0, .nameAndType 22 23), (0, u "draw"), (0, u "(II)Ljava/lang/String;"), (0, .class_ 25), (0, u "com/example/einstand/einstand/ValuationUnit"), (0, .methodref 24 27), (0, .nameAndType 5 28), (0, u "(Ljava/lang/String;Ljava/lang/String;Ljava/lang/String;)V"), (0, .methodref 24 30), (0, .nameAndType 31 32), (0, u "isWhole"), (0, u "()Z"), (3, u "law"), (0, u "(IIIIII)Z")] 2

def k1m0 : Method := { name := "<init>", desc := "()V", sig := { parameters := [], returnType := none }, accessFlags := 1, code := none }
def k1c1 : Code := { maxStack := 2, maxLocals := 1, code := method_2_code, exceptionTable := #[], attributes := #[] }
def k1m1 : Method := { name := "drawnLength", desc := "(I)I", sig := { parameters := [.int], returnType := some .int }, accessFlags := 10, code := some k1c1 }
def k1c2 : Code := { maxStack := 3, maxLocals := 6, code := method_3_code, exceptionTable := #[], attributes := #[] }
def k1m2 : Method := { name := "draw", desc := "(II)Ljava/lang/String;", sig := { parameters := [.int, .int], returnType := some (.object "java/lang/String") }, accessFlags := 10, code := some k1c2 }
def k1c3 : Code := { maxStack := 5, maxLocals := 11, code := code, exceptionTable := #[], attributes := #[] }
def k1m3 : Method := { name := "law", desc := "(IIIIII)Z", sig := { parameters := [.int, .int, .int, .int, .int, .int], returnType := some .boolean }, accessFlags := 9, code := some k1c3 }
/-- com/example/einstand/einstand/ValuationUnitIsWholePinLaw -/
def k1 : Class := { plain "com/example/einstand/einstand/ValuationUnitIsWholePinLaw" (some 0) with
  accessFlags := 49
  interfaces := #[]
  cf := some (fileOf pool1 9 #[] #[{ accessFlags := 1, nameIndex := 5, descriptorIndex := 6, attributes := #[] }, { accessFlags := 10, nameIndex := 12, descriptorIndex := 13, attributes := #[] }, { accessFlags := 10, nameIndex := 22, descriptorIndex := 23, attributes := #[] }, { accessFlags := 9, nameIndex := 36, descriptorIndex := 37, attributes := #[] }] 49 2 #[] #[])
  fields := #[]
  methods := #[k1m0, k1m1, k1m2, k1m3]
  instanceTypes := #[]
  staticTypes := #[]
  resolved := Array.replicate 40 none
  statics := none }

def pool2 : Array CpInfo := pool [(1, .class_ 2), (0, u "java/io/Serializable"), (0, .class_ 4), (0, u "java/lang/Object")] 2

/-- java/io/Serializable -/
def k2 : Class := { plain "java/io/Serializable" (some 0) with
  accessFlags := 1537
  interfaces := #[]
  cf := some (fileOf pool2 1 #[] #[] 1537 3 #[] #[])
  fields := #[]
  methods := #[]
  instanceTypes := #[]
  staticTypes := #[]
  resolved := Array.replicate 7 none
  statics := none }

def pool3 : Array CpInfo := pool [(1, .class_ 2), (0, u "java/lang/Comparable"), (0, .class_ 4), (0, u "java/lang/Object")] 7

/-- java/lang/Comparable -/
def k3 : Class := { plain "java/lang/Comparable" (some 0) with
  accessFlags := 1537
  interfaces := #[]
  cf := some (fileOf pool3 1 #[] #[] 1537 3 #[] #[])
  fields := #[]
  methods := #[]
  instanceTypes := #[]
  staticTypes := #[]
  resolved := Array.replicate 12 none
  statics := none }

def pool4 : Array CpInfo := pool [(2, .class_ 4), (1, u "java/lang/CharSequence"), (42, .class_ 48), (0, u "java/lang/CharSequence$1CodePointIterator"), (10, .class_ 60), (0, u "java/lang/CharSequence$1CharIterator"), (5, .class_ 67), (0, u "java/lang/Object")] 63

/-- java/lang/CharSequence -/
def k4 : Class := { plain "java/lang/CharSequence" (some 0) with
  accessFlags := 1537
  interfaces := #[]
  cf := some (fileOf pool4 2 #[.nestMembers #[47, 59]] #[] 1537 66 #[] #[])
  fields := #[]
  methods := #[]
  instanceTypes := #[]
  staticTypes := #[]
  resolved := Array.replicate 131 none
  statics := none }

def pool5 : Array CpInfo := pool [(1, .class_ 2), (0, u "java/lang/constant/Constable"), (0, .class_ 4), (0, u "java/lang/Object")] 6

/-- java/lang/constant/Constable -/
def k5 : Class := { plain "java/lang/constant/Constable" (some 0) with
  accessFlags := 1537
  interfaces := #[]
  cf := some (fileOf pool5 1 #[] #[] 1537 3 #[] #[])
  fields := #[]
  methods := #[]
  instanceTypes := #[]
  staticTypes := #[]
  resolved := Array.replicate 11 none
  statics := none }

def pool6 : Array CpInfo := pool [(1, .class_ 2), (0, u "java/lang/constant/ConstantDesc"), (0, .class_ 4), (0, u "java/lang/Object")] 32

/-- java/lang/constant/ConstantDesc -/
def k6 : Class := { plain "java/lang/constant/ConstantDesc" (some 0) with
  accessFlags := 1537
  interfaces := #[]
  cf := some (fileOf pool6 1 #[] #[] 1537 3 #[] #[])
  fields := #[]
  methods := #[]
  instanceTypes := #[]
  staticTypes := #[]
  resolved := Array.replicate 37 none
  statics := none }

def pool7 : Array CpInfo := pool [(1, .methodref 2 3), (0, .class_ 4), (0, .nameAndType 5 6), (0, u "java/lang/Object"), (0, u "<init>"), (0, u "()V"), (0, .string 8), (0, u ""), (0, .fieldref 10 11), (0, .class_ 12), (0, .nameAndType 13 14), (0, u "java/lang/String"), (0, u "value"), (0, u "[B"), (0, .fieldref 10 16), (0, .nameAndType 17 18), (0, u "coder"), (0, u "B"), (2, u "hash"), (0, u "I"), (2, u "hashIsZero"), (0, u "Z"), (0, .methodref 10 28), (0, .nameAndType 5 29), (0, u "([CIILjava/lang/Void;)V"), (8, .fieldref 10 39), (0, .nameAndType 40 26), (0, u "COMPACT_STRINGS"), (1, .class_ 44), (1, u "java/lang/StringUTF16"), (0, u "compress"), (1, .methodref 42 48), (0, .nameAndType 49 50), (0, u "coderFromArrayLen"), (0, u "([BI)B"), (91, u "()Z"), (34, .methodref 42 178), (0, .nameAndType 45 179), (0, u "([CII)[B"), (395, .class_ 576), (0, u "java/lang/CharSequence"), (22, u "CASE_INSENSITIVE_ORDER"), (0, u "Ljava/util/Comparator;"), (91, u "isEmpty"), (317, u "([C)V"), (90, u "serialPersistentFields"), (0, u "[Ljava/io/ObjectStreamField;"), (0, .class_ 1104), (0, u "java/lang/String$CaseInsensitiveComparator"), (1, .class_ 1107), (0, u "java/io/Serializable"), (0, .class_ 1109), (0, u "java/lang/Comparable"), (0, .class_ 1111), (0, u "java/lang/constant/Constable"), (0, .class_ 1113), (0, u "java/lang/constant/ConstantDesc"), (2, u "serialVersionUID"), (0, u "J"), (3, u "REPL"), (0, u "C"), (2, u "LATIN1"), (1, u "UTF16")] 323

def k7m0 : Method := { name := "<init>", desc := "()V", sig := { parameters := [], returnType := none }, accessFlags := 1, code := none }
def k7c1 : Code := { maxStack := 5, maxLocals := 2, code := jdk_42_method_3_code, exceptionTable := #[], attributes := #[] }
def k7m1 : Method := { name := "<init>", desc := "([C)V", sig := { parameters := [(.array .char)], returnType := none }, accessFlags := 1, code := some k7c1 }
def k7c2 : Code := { maxStack := 1, maxLocals := 1, code := jdk_42_method_55_code, exceptionTable := #[], attributes := #[] }
def k7m2 : Method := { name := "isEmpty", desc := "()Z", sig := { parameters := [], returnType := some .boolean }, accessFlags := 1, code := some k7c2 }
def k7c3 : Code := { maxStack := 4, maxLocals := 6, code := jdk_42_method_149_code, exceptionTable := #[], attributes := #[] }
def k7m3 : Method := { name := "<init>", desc := "([CIILjava/lang/Void;)V", sig := { parameters := [(.array .char), .int, .int, (.object "java/lang/Void")], returnType := none }, accessFlags := 2, code := some k7c3 }
/-- java/lang/String -/
def k7 : Class := { plain "java/lang/String" (some 0) with
  accessFlags := 49
  interfaces := #[2, 3, 4, 5, 6]
  cf := some (fileOf pool7 10 #[.nestMembers #[1103]] #[{ accessFlags := 1, nameIndex := 5, descriptorIndex := 6, attributes := #[] }, { accessFlags := 1, nameIndex := 5, descriptorIndex := 1010, attributes := #[] }, { accessFlags := 1, nameIndex := 692, descriptorIndex := 142, attributes := #[] }, { accessFlags := 2, nameIndex := 5, descriptorIndex := 29, attributes := #[] }] 49 2 #[1106, 1108, 575, 1110, 1112] #[{ accessFlags := 18, nameIndex := 13, descriptorIndex := 14, attributes := #[] }, { accessFlags := 18, nameIndex := 17, descriptorIndex := 18, attributes := #[] }, { accessFlags := 2, nameIndex := 21, descriptorIndex := 22, attributes := #[] }, { accessFlags := 2, nameIndex := 25, descriptorIndex := 26, attributes := #[] }, { accessFlags := 26, nameIndex := 1116, descriptorIndex := 1117, attributes := #[] }, { accessFlags := 24, nameIndex := 40, descriptorIndex := 26, attributes := #[] }, { accessFlags := 26, nameIndex := 1101, descriptorIndex := 1102, attributes := #[] }, { accessFlags := 26, nameIndex := 1121, descriptorIndex := 1122, attributes := #[] }, { accessFlags := 25, nameIndex := 599, descriptorIndex := 600, attributes := #[] }, { accessFlags := 24, nameIndex := 1125, descriptorIndex := 18, attributes := #[] }, { accessFlags := 24, nameIndex := 1127, descriptorIndex := 18, attributes := #[] }])
  fields := #[{ name := "value", type := (.array .byte), accessFlags := 18, slot := 0, constantValue := 0 }, { name := "coder", type := .byte, accessFlags := 18, slot := 1, constantValue := 0 }, { name := "hash", type := .int, accessFlags := 2, slot := 2, constantValue := 0 }, { name := "hashIsZero", type := .boolean, accessFlags := 2, slot := 3, constantValue := 0 }, { name := "serialVersionUID", type := .long, accessFlags := 26, slot := 0, constantValue := 0 }, { name := "COMPACT_STRINGS", type := .boolean, accessFlags := 24, slot := 1, constantValue := 0 }, { name := "serialPersistentFields", type := (.array (.object "java/io/ObjectStreamField")), accessFlags := 26, slot := 2, constantValue := 0 }, { name := "REPL", type := .char, accessFlags := 26, slot := 3, constantValue := 0 }, { name := "CASE_INSENSITIVE_ORDER", type := (.object "java/util/Comparator"), accessFlags := 25, slot := 4, constantValue := 0 }, { name := "LATIN1", type := .byte, accessFlags := 24, slot := 5, constantValue := 0 }, { name := "UTF16", type := .byte, accessFlags := 24, slot := 6, constantValue := 0 }]
  methods := #[k7m0, k7m1, k7m2, k7m3]
  instanceTypes := #[(.array .byte), .byte, .int, .boolean]
  staticTypes := #[.long, .boolean, (.array (.object "java/io/ObjectStreamField")), .char, (.object "java/util/Comparator"), .byte, .byte]
  resolved := Array.replicate 1451 none
  statics := some 0 }

def pool8 : Array CpInfo := pool [(6, .class_ 8), (1, u "java/lang/Object"), (0, u "<init>"), (0, u "()V"), (0, .methodref 12 13), (0, .class_ 14), (0, .nameAndType 15 16), (0, u "java/lang/StringUTF16"), (0, u "newBytesLength"), (0, u "(I)I"), (3, .integer 1073741823), (23, .fieldref 12 45), (0, .nameAndType 46 47), (0, u "$assertionsDisabled"), (0, u "Z"), (11, .fieldref 12 60), (0, .nameAndType 61 62), (0, u "HI_BYTE_SHIFT"), (0, u "I"), (0, .fieldref 12 64), (0, .nameAndType 65 62), (0, u "LO_BYTE_SHIFT"), (5, .methodref 12 72), (0, .nameAndType 73 74), (0, u "getChar"), (0, u "([BI)C"), (32, .methodref 12 108), (0, .nameAndType 109 110), (0, u "newBytesFor"), (0, u "(I)[B"), (0, .methodref 12 112), (0, .nameAndType 113 114), (0, u "putChar"), (0, u "([BII)V"), (0, .methodref 12 116), (0, .nameAndType 117 118), (0, u "compress"), (0, u "([CI[BII)I"), (0, .methodref 12 120), (0, .nameAndType 121 122), (0, u "toBytes"), (0, u "([CII)[B"), (138, u "coderFromArrayLen"), (0, u "([BI)B"), (106, .class_ 371), (1, u "java/lang/StringUTF16$LinesSpliterator"), (58, u "MAX_LENGTH"), (196, .class_ 628), (0, u "java/lang/StringUTF16$CodePointsSpliterator"), (0, .class_ 630), (0, u "java/lang/StringUTF16$CharsSpliterator")] 4

def k8m0 : Method := { name := "<init>", desc := "()V", sig := { parameters := [], returnType := none }, accessFlags := 0, code := none }
def k8c1 : Code := { maxStack := 1, maxLocals := 1, code := jdk_52_method_2_code, exceptionTable := #[], attributes := #[] }
def k8m1 : Method := { name := "newBytesFor", desc := "(I)[B", sig := { parameters := [.int], returnType := some (.array .byte) }, accessFlags := 9, code := some k8c1 }
def k8c2 : Code := { maxStack := 4, maxLocals := 1, code := jdk_52_method_3_code, exceptionTable := #[], attributes := #[] }
def k8m2 : Method := { name := "newBytesLength", desc := "(I)I", sig := { parameters := [.int], returnType := some .int }, accessFlags := 9, code := some k8c2 }
def k8c3 : Code := { maxStack := 4, maxLocals := 3, code := jdk_52_method_4_code, exceptionTable := #[], attributes := #[] }
def k8m3 : Method := { name := "putChar", desc := "([BII)V", sig := { parameters := [(.array .byte), .int, .int], returnType := none }, accessFlags := 8, code := some k8c3 }
def k8c4 : Code := { maxStack := 3, maxLocals := 2, code := jdk_52_method_5_code, exceptionTable := #[], attributes := #[] }
def k8m4 : Method := { name := "getChar", desc := "([BI)C", sig := { parameters := [(.array .byte), .int], returnType := some .char }, accessFlags := 8, code := some k8c4 }
def k8c5 : Code := { maxStack := 4, maxLocals := 5, code := jdk_52_method_14_code, exceptionTable := #[], attributes := #[] }
def k8m5 : Method := { name := "toBytes", desc := "([CII)[B", sig := { parameters := [(.array .char), .int, .int], returnType := some (.array .byte) }, accessFlags := 9, code := some k8c5 }
def k8c6 : Code := { maxStack := 2, maxLocals := 2, code := jdk_52_method_15_code, exceptionTable := #[], attributes := #[] }
def k8m6 : Method := { name := "coderFromArrayLen", desc := "([BI)B", sig := { parameters := [(.array .byte), .int], returnType := some .byte }, accessFlags := 8, code := some k8c6 }
def k8c7 : Code := { maxStack := 5, maxLocals := 6, code := jdk_52_method_16_code, exceptionTable := #[], attributes := #[] }
def k8m7 : Method := { name := "compress", desc := "([CII)[B", sig := { parameters := [(.array .char), .int, .int], returnType := some (.array .byte) }, accessFlags := 9, code := some k8c7 }
def k8c8 : Code := { maxStack := 3, maxLocals := 7, code := jdk_52_method_21_code, exceptionTable := #[], attributes := #[] }
def k8m8 : Method := { name := "compress", desc := "([CI[BII)I", sig := { parameters := [(.array .char), .int, (.array .byte), .int, .int], returnType := some .int }, accessFlags := 9, code := some k8c8 }
/-- java/lang/StringUTF16 -/
def k8 : Class := { plain "java/lang/StringUTF16" (some 0) with
  accessFlags := 48
  interfaces := #[]
  cf := some (fileOf pool8 12 #[.nestMembers #[627, 629, 369]] #[{ accessFlags := 0, nameIndex := 9, descriptorIndex := 10, attributes := #[] }, { accessFlags := 9, nameIndex := 109, descriptorIndex := 110, attributes := #[] }, { accessFlags := 9, nameIndex := 15, descriptorIndex := 16, attributes := #[] }, { accessFlags := 8, nameIndex := 113, descriptorIndex := 114, attributes := #[] }, { accessFlags := 8, nameIndex := 73, descriptorIndex := 74, attributes := #[] }, { accessFlags := 9, nameIndex := 121, descriptorIndex := 122, attributes := #[] }, { accessFlags := 8, nameIndex := 261, descriptorIndex := 262, attributes := #[] }, { accessFlags := 9, nameIndex := 117, descriptorIndex := 122, attributes := #[] }, { accessFlags := 9, nameIndex := 117, descriptorIndex := 118, attributes := #[] }] 48 6 #[] #[{ accessFlags := 26, nameIndex := 61, descriptorIndex := 62, attributes := #[] }, { accessFlags := 26, nameIndex := 65, descriptorIndex := 62, attributes := #[] }, { accessFlags := 24, nameIndex := 430, descriptorIndex := 62, attributes := #[] }, { accessFlags := 4120, nameIndex := 46, descriptorIndex := 47, attributes := #[] }])
  fields := #[{ name := "HI_BYTE_SHIFT", type := .int, accessFlags := 26, slot := 0, constantValue := 0 }, { name := "LO_BYTE_SHIFT", type := .int, accessFlags := 26, slot := 1, constantValue := 0 }, { name := "MAX_LENGTH", type := .int, accessFlags := 24, slot := 2, constantValue := 0 }, { name := "$assertionsDisabled", type := .boolean, accessFlags := 4120, slot := 3, constantValue := 0 }]
  methods := #[k8m0, k8m1, k8m2, k8m3, k8m4, k8m5, k8m6, k8m7, k8m8]
  instanceTypes := #[]
  staticTypes := #[.int, .int, .int, .boolean]
  resolved := Array.replicate 635 none
  statics := some 1 }

def pool9 : Array CpInfo := pool [(1, .methodref 2 3), (0, .class_ 4), (0, .nameAndType 5 6), (0, u "java/lang/Object"), (0, u "<init>"), (0, u "()V"), (0, .class_ 8), (0, u "java/lang/Record")] 13

def k9c0 : Code := { maxStack := 1, maxLocals := 1, code := jdk_30_method_1_code, exceptionTable := #[], attributes := #[] }
def k9m0 : Method := { name := "<init>", desc := "()V", sig := { parameters := [], returnType := none }, accessFlags := 4, code := some k9c0 }
/-- java/lang/Record -/
def k9 : Class := { plain "java/lang/Record" (some 0) with
  accessFlags := 1057
  interfaces := #[]
  cf := some (fileOf pool9 7 #[] #[{ accessFlags := 4, nameIndex := 5, descriptorIndex := 6, attributes := #[] }] 1057 2 #[] #[])
  fields := #[]
  methods := #[k9m0]
  instanceTypes := #[]
  staticTypes := #[]
  resolved := Array.replicate 22 none
  statics := none }

def pool10 : Array CpInfo := pool [(1, .methodref 2 3), (0, .class_ 4), (0, .nameAndType 5 6), (0, u "java/lang/Record"), (0, u "<init>"), (0, u "()V"), (0, .fieldref 8 9), (0, .class_ 10), (0, .nameAndType 11 12), (0, u "com/example/einstand/einstand/ValuationUnit"), (0, u "article"), (0, u "Ljava/lang/String;"), (0, .fieldref 8 14), (0, .nameAndType 15 12), (0, u "variant"), (0, .fieldref 8 17), (0, .nameAndType 18 12), (0, u "batch"), (4, u "(Ljava/lang/String;Ljava/lang/String;Ljava/lang/String;)V"), (1, .class_ 27), (1, u "com/example/einstand/einstand/ValuationUnit$1"), (26, .methodref 55 56), (0, .class_ 57), (0, .nameAndType 58 59), (0, u "java/lang/String"), (0, u "isEmpty"), (0, u "()Z"), (2, u "isWhole")] 82

def k10c0 : Code := { maxStack := 2, maxLocals := 4, code := prog_67_method_1_code, exceptionTable := #[], attributes := #[] }
def k10m0 : Method := { name := "<init>", desc := "(Ljava/lang/String;Ljava/lang/String;Ljava/lang/String;)V", sig := { parameters := [(.object "java/lang/String"), (.object "java/lang/String"), (.object "java/lang/String")], returnType := none }, accessFlags := 0, code := some k10c0 }
def k10c1 : Code := { maxStack := 1, maxLocals := 1, code := prog_67_method_4_code, exceptionTable := #[], attributes := #[] }
def k10m1 : Method := { name := "isWhole", desc := "()Z", sig := { parameters := [], returnType := some .boolean }, accessFlags := 0, code := some k10c1 }
/-- com/example/einstand/einstand/ValuationUnit -/
def k10 : Class := { plain "com/example/einstand/einstand/ValuationUnit" (some 9) with
  accessFlags := 48
  interfaces := #[]
  cf := some (fileOf pool10 8 #[.nestMembers #[25]] #[{ accessFlags := 0, nameIndex := 5, descriptorIndex := 23, attributes := #[] }, { accessFlags := 0, nameIndex := 62, descriptorIndex := 59, attributes := #[] }] 48 2 #[] #[{ accessFlags := 18, nameIndex := 11, descriptorIndex := 12, attributes := #[] }, { accessFlags := 18, nameIndex := 15, descriptorIndex := 12, attributes := #[] }, { accessFlags := 18, nameIndex := 18, descriptorIndex := 12, attributes := #[] }])
  fields := #[{ name := "article", type := (.object "java/lang/String"), accessFlags := 18, slot := 0, constantValue := 0 }, { name := "variant", type := (.object "java/lang/String"), accessFlags := 18, slot := 1, constantValue := 0 }, { name := "batch", type := (.object "java/lang/String"), accessFlags := 18, slot := 2, constantValue := 0 }]
  methods := #[k10m0, k10m1]
  instanceTypes := #[(.object "java/lang/String"), (.object "java/lang/String"), (.object "java/lang/String")]
  staticTypes := #[]
  resolved := Array.replicate 145 none
  statics := none }

def pool11 : Array CpInfo := pool [(4, .class_ 6), (1, u "java/lang/Object"), (0, u "<init>"), (0, u "()V"), (5, .class_ 16), (1, u "java/lang/StringLatin1"), (104, u "$assertionsDisabled"), (0, u "Z"), (98, .class_ 223), (1, u "java/lang/StringLatin1$LinesSpliterator"), (166, .class_ 391), (0, u "java/lang/StringLatin1$CharsSpliterator")] 3

def k11m0 : Method := { name := "<init>", desc := "()V", sig := { parameters := [], returnType := none }, accessFlags := 0, code := none }
/-- java/lang/StringLatin1 -/
def k11 : Class := { plain "java/lang/StringLatin1" (some 0) with
  accessFlags := 48
  interfaces := #[]
  cf := some (fileOf pool11 14 #[.nestMembers #[390, 221]] #[{ accessFlags := 0, nameIndex := 7, descriptorIndex := 8, attributes := #[] }] 48 4 #[] #[{ accessFlags := 4120, nameIndex := 121, descriptorIndex := 122, attributes := #[] }])
  fields := #[{ name := "$assertionsDisabled", type := .boolean, accessFlags := 4120, slot := 0, constantValue := 0 }]
  methods := #[k11m0]
  instanceTypes := #[]
  staticTypes := #[.boolean]
  resolved := Array.replicate 395 none
  statics := none }

def pool12 : Array CpInfo := pool [(2, .class_ 4), (1, u "java/lang/Object"), (0, u "<init>"), (0, u "()V"), (17, .class_ 26), (1, u "jdk/internal/util/Preconditions"), (28, .class_ 56), (0, u "jdk/internal/util/Preconditions$4"), (57, .class_ 115), (0, u "jdk/internal/util/Preconditions$1"), (7, u "SIOOBE_FORMATTER"), (0, u "Ljava/util/function/BiFunction;"), (0, .class_ 126), (0, u "jdk/internal/util/Preconditions$2"), (3, u "AIOOBE_FORMATTER"), (0, .class_ 132), (0, u "jdk/internal/util/Preconditions$3"), (3, u "IOOBE_FORMATTER")] 57

def k12m0 : Method := { name := "<init>", desc := "()V", sig := { parameters := [], returnType := none }, accessFlags := 1, code := none }
/-- jdk/internal/util/Preconditions -/
def k12 : Class := { plain "jdk/internal/util/Preconditions" (some 0) with
  accessFlags := 33
  interfaces := #[]
  cf := some (fileOf pool12 24 #[.nestMembers #[55, 131, 125, 114]] #[{ accessFlags := 1, nameIndex := 5, descriptorIndex := 6, attributes := #[] }] 33 2 #[] #[{ accessFlags := 25, nameIndex := 123, descriptorIndex := 124, attributes := #[] }, { accessFlags := 25, nameIndex := 130, descriptorIndex := 124, attributes := #[] }, { accessFlags := 25, nameIndex := 136, descriptorIndex := 124, attributes := #[] }])
  fields := #[{ name := "SIOOBE_FORMATTER", type := (.object "java/util/function/BiFunction"), accessFlags := 25, slot := 0, constantValue := 0 }, { name := "AIOOBE_FORMATTER", type := (.object "java/util/function/BiFunction"), accessFlags := 25, slot := 1, constantValue := 0 }, { name := "IOOBE_FORMATTER", type := (.object "java/util/function/BiFunction"), accessFlags := 25, slot := 2, constantValue := 0 }]
  methods := #[k12m0]
  instanceTypes := #[]
  staticTypes := #[(.object "java/util/function/BiFunction"), (.object "java/util/function/BiFunction"), (.object "java/util/function/BiFunction")]
  resolved := Array.replicate 194 none
  statics := some 2 }

def pool13 : Array CpInfo := pool [(9, u "<init>"), (6, .class_ 18), (1, u "java/lang/Object"), (0, u "()V"), (1, .class_ 23), (1, u "jdk/internal/util/ArraysSupport"), (0, u "LOG2_ARRAY_LONG_INDEX_SCALE"), (0, u "I"), (2, u "U"), (0, u "Ljdk/internal/misc/Unsafe;"), (8, u "BIG_ENDIAN"), (0, u "Z"), (8, u "LOG2_BYTE_BIT_SIZE"), (4, u "LOG2_ARRAY_INT_INDEX_SCALE"), (54, u "JLA"), (0, u "Ljdk/internal/access/JavaLangAccess;"), (11, u "LOG2_ARRAY_BOOLEAN_INDEX_SCALE"), (9, u "LOG2_ARRAY_BYTE_INDEX_SCALE"), (5, u "LOG2_ARRAY_CHAR_INDEX_SCALE"), (5, u "LOG2_ARRAY_SHORT_INDEX_SCALE"), (18, u "LOG2_ARRAY_FLOAT_INDEX_SCALE"), (24, u "LOG2_ARRAY_DOUBLE_INDEX_SCALE"), (89, u "T_BOOLEAN"), (2, u "T_CHAR"), (1, u "T_FLOAT"), (1, u "T_DOUBLE"), (1, u "T_BYTE"), (1, u "T_SHORT"), (1, u "T_INT"), (1, u "T_LONG"), (1, u "SOFT_MAX_ARRAY_LENGTH")] 83

def k13m0 : Method := { name := "<init>", desc := "()V", sig := { parameters := [], returnType := none }, accessFlags := 2, code := none }
/-- jdk/internal/util/ArraysSupport -/
def k13 : Class := { plain "jdk/internal/util/ArraysSupport" (some 0) with
  accessFlags := 33
  interfaces := #[]
  cf := some (fileOf pool13 21 #[] #[{ accessFlags := 2, nameIndex := 9, descriptorIndex := 19, attributes := #[] }] 33 16 #[] #[{ accessFlags := 24, nameIndex := 28, descriptorIndex := 29, attributes := #[] }, { accessFlags := 26, nameIndex := 38, descriptorIndex := 39, attributes := #[] }, { accessFlags := 25, nameIndex := 121, descriptorIndex := 25, attributes := #[] }, { accessFlags := 25, nameIndex := 131, descriptorIndex := 25, attributes := #[] }, { accessFlags := 25, nameIndex := 137, descriptorIndex := 25, attributes := #[] }, { accessFlags := 25, nameIndex := 143, descriptorIndex := 25, attributes := #[] }, { accessFlags := 25, nameIndex := 53, descriptorIndex := 25, attributes := #[] }, { accessFlags := 25, nameIndex := 24, descriptorIndex := 25, attributes := #[] }, { accessFlags := 25, nameIndex := 162, descriptorIndex := 25, attributes := #[] }, { accessFlags := 25, nameIndex := 187, descriptorIndex := 25, attributes := #[] }, { accessFlags := 26, nameIndex := 48, descriptorIndex := 25, attributes := #[] }, { accessFlags := 25, nameIndex := 277, descriptorIndex := 25, attributes := #[] }, { accessFlags := 25, nameIndex := 280, descriptorIndex := 25, attributes := #[] }, { accessFlags := 25, nameIndex := 282, descriptorIndex := 25, attributes := #[] }, { accessFlags := 25, nameIndex := 284, descriptorIndex := 25, attributes := #[] }, { accessFlags := 25, nameIndex := 286, descriptorIndex := 25, attributes := #[] }, { accessFlags := 25, nameIndex := 288, descriptorIndex := 25, attributes := #[] }, { accessFlags := 25, nameIndex := 290, descriptorIndex := 25, attributes := #[] }, { accessFlags := 25, nameIndex := 292, descriptorIndex := 25, attributes := #[] }, { accessFlags := 26, nameIndex := 108, descriptorIndex := 109, attributes := #[] }, { accessFlags := 25, nameIndex := 294, descriptorIndex := 25, attributes := #[] }])
  fields := #[{ name := "U", type := (.object "jdk/internal/misc/Unsafe"), accessFlags := 24, slot := 0, constantValue := 0 }, { name := "BIG_ENDIAN", type := .boolean, accessFlags := 26, slot := 1, constantValue := 0 }, { name := "LOG2_ARRAY_BOOLEAN_INDEX_SCALE", type := .int, accessFlags := 25, slot := 2, constantValue := 0 }, { name := "LOG2_ARRAY_BYTE_INDEX_SCALE", type := .int, accessFlags := 25, slot := 3, constantValue := 0 }, { name := "LOG2_ARRAY_CHAR_INDEX_SCALE", type := .int, accessFlags := 25, slot := 4, constantValue := 0 }, { name := "LOG2_ARRAY_SHORT_INDEX_SCALE", type := .int, accessFlags := 25, slot := 5, constantValue := 0 }, { name := "LOG2_ARRAY_INT_INDEX_SCALE", type := .int, accessFlags := 25, slot := 6, constantValue := 0 }, { name := "LOG2_ARRAY_LONG_INDEX_SCALE", type := .int, accessFlags := 25, slot := 7, constantValue := 0 }, { name := "LOG2_ARRAY_FLOAT_INDEX_SCALE", type := .int, accessFlags := 25, slot := 8, constantValue := 0 }, { name := "LOG2_ARRAY_DOUBLE_INDEX_SCALE", type := .int, accessFlags := 25, slot := 9, constantValue := 0 }, { name := "LOG2_BYTE_BIT_SIZE", type := .int, accessFlags := 26, slot := 10, constantValue := 0 }, { name := "T_BOOLEAN", type := .int, accessFlags := 25, slot := 11, constantValue := 0 }, { name := "T_CHAR", type := .int, accessFlags := 25, slot := 12, constantValue := 0 }, { name := "T_FLOAT", type := .int, accessFlags := 25, slot := 13, constantValue := 0 }, { name := "T_DOUBLE", type := .int, accessFlags := 25, slot := 14, constantValue := 0 }, { name := "T_BYTE", type := .int, accessFlags := 25, slot := 15, constantValue := 0 }, { name := "T_SHORT", type := .int, accessFlags := 25, slot := 16, constantValue := 0 }, { name := "T_INT", type := .int, accessFlags := 25, slot := 17, constantValue := 0 }, { name := "T_LONG", type := .int, accessFlags := 25, slot := 18, constantValue := 0 }, { name := "JLA", type := (.object "jdk/internal/access/JavaLangAccess"), accessFlags := 26, slot := 19, constantValue := 0 }, { name := "SOFT_MAX_ARRAY_LENGTH", type := .int, accessFlags := 25, slot := 20, constantValue := 0 }]
  methods := #[k13m0]
  instanceTypes := #[]
  staticTypes := #[(.object "jdk/internal/misc/Unsafe"), .boolean, .int, .int, .int, .int, .int, .int, .int, .int, .int, .int, .int, .int, .int, .int, .int, .int, .int, (.object "jdk/internal/access/JavaLangAccess"), .int]
  resolved := Array.replicate 378 none
  statics := none }

def pool14 : Array CpInfo := pool [(1, u "java/lang/Cloneable"), (0, .class_ 1), (0, u "java/lang/Object"), (0, .class_ 3)] 3

/-- java/lang/Cloneable -/
def k14 : Class := { plain "java/lang/Cloneable" (some 0) with
  accessFlags := 1537
  interfaces := #[]
  cf := some (fileOf pool14 2 #[] #[] 1537 4 #[] #[])
  fields := #[]
  methods := #[]
  instanceTypes := #[]
  staticTypes := #[]
  resolved := Array.replicate 8 none
  statics := none }

/-- the primitive byte -/
def k15 : Class := { plain "byte" none with kind := .primitive 'B', accessFlags := 0x411 }
/-- [B -/
def k16 : Class := { plain "[B" (some 0) with kind := .array 15 .byte, interfaces := #[14, 2], accessFlags := 1041 }

/-- the primitive char -/
def k17 : Class := { plain "char" none with kind := .primitive 'C', accessFlags := 0x411 }
/-- [C -/
def k18 : Class := { plain "[C" (some 0) with kind := .array 17 .char, interfaces := #[14, 2], accessFlags := 1041 }

/-- the primitive int -/
def k19 : Class := { plain "int" none with kind := .primitive 'I', accessFlags := 0x411 }
/-- [I -/
def k20 : Class := { plain "[I" (some 0) with kind := .array 19 .int, interfaces := #[14, 2], accessFlags := 1041 }

def heap : Heap := #[{ cls := 7, slots := #[.long 0, .int 1, .null, .int 0, .null, .int 0, .int 0], vm := .statics 7 },
  { cls := 8, slots := #[.int 0, .int 8, .int 0, .int 1], vm := .statics 8 },
  { cls := 12, slots := #[.null, .null, .null], vm := .statics 12 }]
def classes : Array Class := #[k0, k1, k2, k3, k4, k5, k6, k7, k8, k9, k10, k11, k12, k13, k14, k15, k16, k17, k18, k19, k20]
def interned : List (Array UInt16 × Addr) := []
def slotsUsed : Nat := 14
def theMethod : MethodId := ⟨1, 3⟩
def args0 : Array Value := #[.int 1, .int 65, .int 0, .int 0, .int 2, .int 7]
def aboutOver (below : List Frame) : State where
  vm := { classes := classes, interned := interned.toArray }
  heap := heap
  slotsUsed := slotsUsed
  threads := #[{ frames := .invoking theMethod args0 :: below }]
def below0 : List Frame := [.native { method := ⟨0, 0⟩, args := #[] }]
def about1 : State := aboutOver below0
def p0 : Program := .bare "" "" ""
def e0 : Env := launch0.env 0 0 0
theorem w_frames : about1.frames = Frame.invoking theMethod args0 :: below0 := rfl
set_option maxRecDepth 65536 in
theorem w_args : argsFit about1.vm theMethod args0 = true := by decide +kernel
set_option maxRecDepth 65536 in
theorem w_heap : heapFits about1 = true := by decide +kernel
set_option maxRecDepth 65536 in
theorem w_runnable : about1.curStatus? = some .runnable := by decide +kernel
set_option maxRecDepth 65536 in
theorem w_alone : about1.alone = true := by decide +kernel
set_option maxRecDepth 65536 in
theorem w_named : about1.methodNamed? x = some theMethod := by decide +kernel
set_option maxRecDepth 65536 in
theorem w_hears : about1.hears theMethod below0 = true := by decide +kernel
set_option maxRecDepth 65536 in
theorem w_ripe : about1.ripe theMethod args0 below0 = true := by decide +kernel
theorem w_running : about1.status = .running := rfl
set_option maxRecDepth 65536 in
theorem w_room : about1.hasRoom e0.platform room_1 = true :=
  launch0.hasRoom_least _ room_1 (by decide +kernel) (by decide +kernel) (by decide +kernel) (by decide +kernel) (by decide +kernel) (by decide +kernel)
theorem allAtoms_all (ts : List Jvm.Cond) (a : Array Jvm.Value) (st : Jvm.State) : (allAtoms ts).before a st = ts.all (fun c => c.before a st) := by
  induction ts with
  | nil => rfl
  | cons c t ih =>
    show (Jvm.Cond.and c (allAtoms t)).before a st = _
    rw [Jvm.Cond.before_and, ih, List.all_cons]
def words1 : List Jvm.Cond := Jvm.Cond.code x code maxLocals ret :: tables_1
/-- a 'code' word, met by the world's own term for the bytes: nothing is compared byte by byte -/
theorem code_word {y : MethodName} {bytes : ByteArray} {mx : Nat} {rt : Option FieldType} {a : Array Value} {s : State} {m : MethodId} {meth : Method} {c : Code} (h1 : s.methodNamed? y = some m) (h2 : s.vm.method? m = some meth) (h3 : meth.code = some c) (h4 : c.code = bytes)
    (h5 : (c.maxLocals == mx && c.exceptionTable.isEmpty && decide (c.maxStack ≤ mostOperands) && decide (meth.sig.returnType = rt) && !meth.locks && decide (parseMethodDescriptor y.desc = some meth.sig)) = true) : (Jvm.Cond.code y bytes mx rt).before a s = true := by
  simp only [Bool.and_eq_true, beq_iff_eq, Bool.not_eq_true', decide_eq_true_eq] at h5
  obtain ⟨⟨⟨⟨⟨g1, g2⟩, g3⟩, g4⟩, g5⟩, g6⟩ := h5
  simp [Cond.before, Cond.holds, Cond.value, h1, h2, h3, h4, g1, g2, g3, g4, g5, g6]
def isCode : Jvm.Cond → Bool
  | .code _ _ _ _ => true
  | _ => false
theorem all_split {L : List Jvm.Cond} {P : Jvm.Cond → Bool} (h1 : L.all (fun c => isCode c || P c) = true) (h2 : ∀ c ∈ L.filter isCode, P c = true) : L.all P = true := by
  refine List.all_eq_true.mpr fun c hc => ?_
  have h := List.all_eq_true.mp h1 c hc
  rcases Bool.eq_false_or_eq_true (isCode c) with hi | hi
  · exact h2 c (List.mem_filter.mpr ⟨hc, hi⟩)
  · simpa [hi] using h
set_option maxRecDepth 65536 in
theorem w_c0 : (Jvm.Cond.code x code maxLocals ret).before args0 about1 = true := code_word (m := ⟨1, 3⟩) (meth := k1m3) (c := k1c3) (by decide +kernel) rfl rfl rfl (by decide +kernel)
set_option maxRecDepth 65536 in
theorem w_c1 : (Jvm.Cond.code ({ cls := "com/example/einstand/einstand/ValuationUnitIsWholePinLaw", name := "draw", desc := "(II)Ljava/lang/String;" } : Jvm.MethodName) method_3_code (6 : Nat) (Option.some (Jvm.ClassFile.FieldType.object "java/lang/String"))).before args0 about1 = true := code_word (m := ⟨1, 2⟩) (meth := k1m2) (c := k1c2) (by decide +kernel) rfl rfl rfl (by decide +kernel)
set_option maxRecDepth 65536 in
theorem w_c2 : (Jvm.Cond.code ({ cls := "com/example/einstand/einstand/ValuationUnitIsWholePinLaw", name := "drawnLength", desc := "(I)I" } : Jvm.MethodName) method_2_code (1 : Nat) (Option.some Jvm.ClassFile.FieldType.int)).before args0 about1 = true := code_word (m := ⟨1, 1⟩) (meth := k1m1) (c := k1c1) (by decide +kernel) rfl rfl rfl (by decide +kernel)
set_option maxRecDepth 65536 in
theorem w_c3 : (Jvm.Cond.code ({ cls := "java/lang/String", name := "<init>", desc := "([C)V" } : Jvm.MethodName) jdk_42_method_3_code (2 : Nat) (Option.none : Option Jvm.ClassFile.FieldType)).before args0 about1 = true := code_word (m := ⟨7, 1⟩) (meth := k7m1) (c := k7c1) (by decide +kernel) rfl rfl rfl (by decide +kernel)
set_option maxRecDepth 65536 in
theorem w_c4 : (Jvm.Cond.code ({ cls := "java/lang/String", name := "<init>", desc := "([CIILjava/lang/Void;)V" } : Jvm.MethodName) jdk_42_method_149_code (6 : Nat) (Option.none : Option Jvm.ClassFile.FieldType)).before args0 about1 = true := code_word (m := ⟨7, 3⟩) (meth := k7m3) (c := k7c3) (by decide +kernel) rfl rfl rfl (by decide +kernel)
set_option maxRecDepth 65536 in
theorem w_c5 : (Jvm.Cond.code ({ cls := "java/lang/Object", name := "<init>", desc := "()V" } : Jvm.MethodName) object_method_1_code (1 : Nat) (Option.none : Option Jvm.ClassFile.FieldType)).before args0 about1 = true := code_word (m := ⟨0, 0⟩) (meth := k0m0) (c := k0c0) (by decide +kernel) rfl rfl rfl (by decide +kernel)
set_option maxRecDepth 65536 in
theorem w_c6 : (Jvm.Cond.code ({ cls := "java/lang/StringUTF16", name := "compress", desc := "([CII)[B" } : Jvm.MethodName) jdk_52_method_16_code (6 : Nat) (Option.some (Jvm.ClassFile.FieldType.array Jvm.ClassFile.FieldType.byte))).before args0 about1 = true := code_word (m := ⟨8, 7⟩) (meth := k8m7) (c := k8c7) (by decide +kernel) rfl rfl rfl (by decide +kernel)
set_option maxRecDepth 65536 in
theorem w_c7 : (Jvm.Cond.code ({ cls := "java/lang/StringUTF16", name := "compress", desc := "([CI[BII)I" } : Jvm.MethodName) jdk_52_method_21_code (7 : Nat) (Option.some Jvm.ClassFile.FieldType.int)).before args0 about1 = true := code_word (m := ⟨8, 8⟩) (meth := k8m8) (c := k8c8) (by decide +kernel) rfl rfl rfl (by decide +kernel)
set_option maxRecDepth 65536 in
theorem w_c8 : (Jvm.Cond.code ({ cls := "java/lang/StringUTF16", name := "coderFromArrayLen", desc := "([BI)B" } : Jvm.MethodName) jdk_52_method_15_code (2 : Nat) (Option.some Jvm.ClassFile.FieldType.byte)).before args0 about1 = true := code_word (m := ⟨8, 6⟩) (meth := k8m6) (c := k8c6) (by decide +kernel) rfl rfl rfl (by decide +kernel)
set_option maxRecDepth 65536 in
theorem w_c9 : (Jvm.Cond.code ({ cls := "com/example/einstand/einstand/ValuationUnit", name := "<init>", desc := "(Ljava/lang/String;Ljava/lang/String;Ljava/lang/String;)V" } : Jvm.MethodName) prog_67_method_1_code (4 : Nat) (Option.none : Option Jvm.ClassFile.FieldType)).before args0 about1 = true := code_word (m := ⟨10, 0⟩) (meth := k10m0) (c := k10c0) (by decide +kernel) rfl rfl rfl (by decide +kernel)
set_option maxRecDepth 65536 in
theorem w_c10 : (Jvm.Cond.code ({ cls := "java/lang/Record", name := "<init>", desc := "()V" } : Jvm.MethodName) jdk_30_method_1_code (1 : Nat) (Option.none : Option Jvm.ClassFile.FieldType)).before args0 about1 = true := code_word (m := ⟨9, 0⟩) (meth := k9m0) (c := k9c0) (by decide +kernel) rfl rfl rfl (by decide +kernel)
set_option maxRecDepth 65536 in
theorem w_c11 : (Jvm.Cond.code ({ cls := "com/example/einstand/einstand/ValuationUnit", name := "isWhole", desc := "()Z" } : Jvm.MethodName) prog_67_method_4_code (1 : Nat) (Option.some Jvm.ClassFile.FieldType.boolean)).before args0 about1 = true := code_word (m := ⟨10, 1⟩) (meth := k10m1) (c := k10c1) (by decide +kernel) rfl rfl rfl (by decide +kernel)
set_option maxRecDepth 65536 in
theorem w_c12 : (Jvm.Cond.code ({ cls := "java/lang/String", name := "isEmpty", desc := "()Z" } : Jvm.MethodName) jdk_42_method_55_code (1 : Nat) (Option.some Jvm.ClassFile.FieldType.boolean)).before args0 about1 = true := code_word (m := ⟨7, 2⟩) (meth := k7m2) (c := k7c2) (by decide +kernel) rfl rfl rfl (by decide +kernel)
set_option maxRecDepth 65536 in
theorem w_c13 : (Jvm.Cond.code ({ cls := "java/lang/StringUTF16", name := "toBytes", desc := "([CII)[B" } : Jvm.MethodName) jdk_52_method_14_code (5 : Nat) (Option.some (Jvm.ClassFile.FieldType.array Jvm.ClassFile.FieldType.byte))).before args0 about1 = true := code_word (m := ⟨8, 5⟩) (meth := k8m5) (c := k8c5) (by decide +kernel) rfl rfl rfl (by decide +kernel)
set_option maxRecDepth 65536 in
theorem w_c14 : (Jvm.Cond.code ({ cls := "java/lang/StringUTF16", name := "newBytesFor", desc := "(I)[B" } : Jvm.MethodName) jdk_52_method_2_code (1 : Nat) (Option.some (Jvm.ClassFile.FieldType.array Jvm.ClassFile.FieldType.byte))).before args0 about1 = true := code_word (m := ⟨8, 1⟩) (meth := k8m1) (c := k8c1) (by decide +kernel) rfl rfl rfl (by decide +kernel)
set_option maxRecDepth 65536 in
theorem w_c15 : (Jvm.Cond.code ({ cls := "java/lang/StringUTF16", name := "newBytesLength", desc := "(I)I" } : Jvm.MethodName) jdk_52_method_3_code (1 : Nat) (Option.some Jvm.ClassFile.FieldType.int)).before args0 about1 = true := code_word (m := ⟨8, 2⟩) (meth := k8m2) (c := k8c2) (by decide +kernel) rfl rfl rfl (by decide +kernel)
set_option maxRecDepth 65536 in
theorem w_c16 : (Jvm.Cond.code ({ cls := "java/lang/StringUTF16", name := "putChar", desc := "([BII)V" } : Jvm.MethodName) jdk_52_method_4_code (3 : Nat) (Option.none : Option Jvm.ClassFile.FieldType)).before args0 about1 = true := code_word (m := ⟨8, 3⟩) (meth := k8m3) (c := k8c3) (by decide +kernel) rfl rfl rfl (by decide +kernel)
set_option maxRecDepth 65536 in
theorem w_c17 : (Jvm.Cond.code ({ cls := "java/lang/StringUTF16", name := "getChar", desc := "([BI)C" } : Jvm.MethodName) jdk_52_method_5_code (2 : Nat) (Option.some Jvm.ClassFile.FieldType.char)).before args0 about1 = true := code_word (m := ⟨8, 4⟩) (meth := k8m4) (c := k8c4) (by decide +kernel) rfl rfl rfl (by decide +kernel)
def codes1 : List Jvm.Cond := [Jvm.Cond.code x code maxLocals ret, Jvm.Cond.code ({ cls := "com/example/einstand/einstand/ValuationUnitIsWholePinLaw", name := "draw", desc := "(II)Ljava/lang/String;" } : Jvm.MethodName) method_3_code (6 : Nat) (Option.some (Jvm.ClassFile.FieldType.object "java/lang/String")), Jvm.Cond.code ({ cls := "com/example/einstand/einstand/ValuationUnitIsWholePinLaw", name := "drawnLength", desc := "(I)I" } : Jvm.MethodName) method_2_code (1 : Nat) (Option.some Jvm.ClassFile.FieldType.int), Jvm.Cond.code ({ cls := "java/lang/String", name := "<init>", desc := "([C)V" } : Jvm.MethodName) jdk_42_method_3_code (2 : Nat) (Option.none : Option Jvm.ClassFile.FieldType), Jvm.Cond.code ({ cls := "java/lang/String", name := "<init>", desc := "([CIILjava/lang/Void;)V" } : Jvm.MethodName) jdk_42_method_149_code (6 : Nat) (Option.none : Option Jvm.ClassFile.FieldType), Jvm.Cond.code ({ cls := "java/lang/Object", name := "<init>", desc := "()V" } : Jvm.MethodName) object_method_1_code (1 : Nat) (Option.none : Option Jvm.ClassFile.FieldType), Jvm.Cond.code ({ cls := "java/lang/StringUTF16", name := "compress", desc := "([CII)[B" } : Jvm.MethodName) jdk_52_method_16_code (6 : Nat) (Option.some (Jvm.ClassFile.FieldType.array Jvm.ClassFile.FieldType.byte)), Jvm.Cond.code ({ cls := "java/lang/StringUTF16", name := "compress", desc := "([CI[BII)I" } : Jvm.MethodName) jdk_52_method_21_code (7 : Nat) (Option.some Jvm.ClassFile.FieldType.int), Jvm.Cond.code ({ cls := "java/lang/StringUTF16", name := "coderFromArrayLen", desc := "([BI)B" } : Jvm.MethodName) jdk_52_method_15_code (2 : Nat) (Option.some Jvm.ClassFile.FieldType.byte), Jvm.Cond.code ({ cls := "com/example/einstand/einstand/ValuationUnit", name := "<init>", desc := "(Ljava/lang/String;Ljava/lang/String;Ljava/lang/String;)V" } : Jvm.MethodName) prog_67_method_1_code (4 : Nat) (Option.none : Option Jvm.ClassFile.FieldType), Jvm.Cond.code ({ cls := "java/lang/Record", name := "<init>", desc := "()V" } : Jvm.MethodName) jdk_30_method_1_code (1 : Nat) (Option.none : Option Jvm.ClassFile.FieldType), Jvm.Cond.code ({ cls := "com/example/einstand/einstand/ValuationUnit", name := "isWhole", desc := "()Z" } : Jvm.MethodName) prog_67_method_4_code (1 : Nat) (Option.some Jvm.ClassFile.FieldType.boolean), Jvm.Cond.code ({ cls := "java/lang/String", name := "isEmpty", desc := "()Z" } : Jvm.MethodName) jdk_42_method_55_code (1 : Nat) (Option.some Jvm.ClassFile.FieldType.boolean), Jvm.Cond.code ({ cls := "java/lang/StringUTF16", name := "toBytes", desc := "([CII)[B" } : Jvm.MethodName) jdk_52_method_14_code (5 : Nat) (Option.some (Jvm.ClassFile.FieldType.array Jvm.ClassFile.FieldType.byte)), Jvm.Cond.code ({ cls := "java/lang/StringUTF16", name := "newBytesFor", desc := "(I)[B" } : Jvm.MethodName) jdk_52_method_2_code (1 : Nat) (Option.some (Jvm.ClassFile.FieldType.array Jvm.ClassFile.FieldType.byte)), Jvm.Cond.code ({ cls := "java/lang/StringUTF16", name := "newBytesLength", desc := "(I)I" } : Jvm.MethodName) jdk_52_method_3_code (1 : Nat) (Option.some Jvm.ClassFile.FieldType.int), Jvm.Cond.code ({ cls := "java/lang/StringUTF16", name := "putChar", desc := "([BII)V" } : Jvm.MethodName) jdk_52_method_4_code (3 : Nat) (Option.none : Option Jvm.ClassFile.FieldType), Jvm.Cond.code ({ cls := "java/lang/StringUTF16", name := "getChar", desc := "([BI)C" } : Jvm.MethodName) jdk_52_method_5_code (2 : Nat) (Option.some Jvm.ClassFile.FieldType.char)]
set_option maxRecDepth 65536 in
theorem codes_eq : words1.filter isCode = codes1 := rfl
theorem w_codes : ∀ c ∈ words1.filter isCode, c.before args0 about1 = true := by
  rw [codes_eq]
  intro c hc
  simp only [codes1, List.mem_cons, List.not_mem_nil, or_false] at hc
  rcases hc with rfl | rfl | rfl | rfl | rfl | rfl | rfl | rfl | rfl | rfl | rfl | rfl | rfl | rfl | rfl | rfl | rfl | rfl
  · exact w_c0
  · exact w_c1
  · exact w_c2
  · exact w_c3
  · exact w_c4
  · exact w_c5
  · exact w_c6
  · exact w_c7
  · exact w_c8
  · exact w_c9
  · exact w_c10
  · exact w_c11
  · exact w_c12
  · exact w_c13
  · exact w_c14
  · exact w_c15
  · exact w_c16
  · exact w_c17
set_option maxRecDepth 65536 in
theorem w_t1 : (words1.take 24).all (fun c => isCode c || c.before args0 about1) = true := by decide +kernel
set_option maxRecDepth 65536 in
theorem w_t2 : ((words1.drop 24).take 24).all (fun c => isCode c || c.before args0 about1) = true := by decide +kernel
set_option maxRecDepth 65536 in
theorem w_t3 : (((words1.drop 24).drop 24).take 24).all (fun c => isCode c || c.before args0 about1) = true := by decide +kernel
set_option maxRecDepth 65536 in
theorem w_t4 : (((words1.drop 24).drop 24).drop 24).all (fun c => isCode c || c.before args0 about1) = true := by decide +kernel
theorem w_tables : (allAtoms (Jvm.Cond.code x code maxLocals ret :: tables_1)).before args0 about1 = true := by
  rw [allAtoms_all]
  show words1.all (fun c => c.before args0 about1) = true
  refine all_split ?_ w_codes
  rw [← List.take_append_drop 24 words1, List.all_append, w_t1, ← List.take_append_drop 24 (words1.drop 24), List.all_append, w_t2, ← List.take_append_drop 24 ((words1.drop 24).drop 24), List.all_append, w_t3, w_t4]
  rfl
set_option maxRecDepth 65536 in
theorem w_rest : rest_1_c.before args0 about1 = true := by decide +kernel
set_option maxRecDepth 65536 in
theorem w_case : (Jvm.Cond.and given_1 narrow_1).before args0 about1 = true := by decide +kernel
set_option maxRecDepth 65536 in
theorem w_consts : constsHeld consts_1 about1 := Jvm.Lit.constsHeldB_iff.mp (by decide +kernel)
theorem w_applies : (headSpec (Jvm.Cond.code x code maxLocals ret :: tables_1) room_1).applies x e0.platform about1 = true :=
  (Spec.applies_iff w_frames).mpr ⟨w_running, w_runnable, w_alone, w_named, w_hears, w_ripe, w_room, w_tables⟩
theorem atStart : AtStart classFile x code maxLocals ret World_1 tables_1 room_1 Calls_1 rest_1 Pre_1 launch0 p0 e0 about1 theMethod args0 below0 :=
  ⟨lists_1, trivial, launch0.admits_env _ _ _, launch0.least_env, fairChoices_fair.cas, fairChoices_fair.clock, w_frames, w_args, w_heap, w_applies, ⟨w_consts, trivial⟩, w_rest, w_case⟩
end start1
theorem witness_1 : WitnessClaimed_1 := ⟨start1.p0, start1.e0, start1.about1, start1.theMethod, start1.args0, start1.below0, start1.atStart⟩
end Jvm.Pilot.@@N@@
