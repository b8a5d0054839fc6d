import JvmDerived
import JvmDerived.Pilot.@@N@@Statement
import JvmDerived.Pilot.@@N@@Code
set_option linter.unusedVariables false
set_option linter.unusedSimpArgs false
namespace Jvm.Pilot.@@N@@
open Jvm Jvm.ClassFile Sem Op Lib Jvm.Free Jvm.Stand Jvm.LawKit Jvm.RoadKit Bundle Jvm.Pilot.@@N@@.Jvm.D
section GoKit
variable {p : Program} {l : Launch} {e : Env} {R : Room} {s : State} {m : MethodId} {args : Array Value} {below : List Frame} {meth : Method} {c : Code} {T T' : State} {locs : List Loc} {cells slots : Nat} {Z : State} {a0 : Array Value} {h h' : Heap} {G : Outcome → State → Prop} {g g' : JFrame}
/-- from here the run comes to an end of which G speaks -/
def Go (p : Program) (e : Env) (below : List Frame) (G : Outcome → State → Prop) (T : State) (g : JFrame) : Prop :=
  ∃ s₂ o, Steps p.tables e below (T.setTop g) s₂ ∧ s₂.status = .running ∧ Ended s₂ below o ∧ G o s₂
theorem Go.st (st : ∀ t, Steps p.tables e below (T'.setTop g') t → Steps p.tables e below (T.setTop g) t) (k : Go p e below G T' g') : Go p e below G T g := by
  obtain ⟨s₂, o, q, r⟩ := k; exact ⟨s₂, o, st _ q, r⟩
theorem Go.tr (st : Steps p.tables e below (T.setTop g) (T'.setTop g')) (k : Go p e below G T' g') : Go p e below G T g := by
  obtain ⟨s₂, o, q, r⟩ := k; exact ⟨s₂, o, st.trans q, r⟩
theorem Go.cast (q : g = g') (k : Go p e below G T g') : Go p e below G T g := q ▸ k
/-- a narrow end: it returned v, the heap and the written places meet Q -/
def EndQ (s : State) (Q : Option Value → Heap → List Loc → Prop) (kc ks : Nat) (o : Outcome) (t : State) : Prop := ∃ v L, o = .returned v ∧ Q v t.heap L ∧ FrameEnd s o t L kc ks
theorem Go.done (X : Stand p l e R s m args below meth c T locs cells slots) {Q : Option Value → Heap → List Loc → Prop} {kc ks : Nat} {v : Option Value} (hv : meth.sig.returnType = none → v = none) (hlk : meth.locks = false)
    (fin : ∀ fs, (∀ (f : JFrame) (acts : List Action), f.method = m → f.locked = none → f.entered = [] → (doReturn e (T.setTop f) acts v).1 = T.setFrames fs) → Steps p.tables e below (T.setTop g) (T.setFrames fs))
    (hQ : Q v T.heap locs) (hc : cells ≤ kc) (hs : slots ≤ ks) : Go p e below (EndQ s Q kc ks) T g := by
  obtain ⟨fs, hr, hrun, hended, hW, hsame⟩ := X.leave hv hlk
  exact ⟨_, _, fin fs hr, hrun, hended, v, locs, rfl, hQ, ⟨v, rfl⟩, hW, hsame.mono hc hs⟩
def Ctr (l : Launch) (Z : State) (y : MethodName) (bytes : ByteArray) (maxL : Nat) (ret : Option FieldType) (ws : List Jvm.Cond) (rm : Room) (as' : Array Value) (h0 : Heap) (Q : Option Value → Heap → List Loc → Prop) : Prop :=
  MetFree l y (head1 (Jvm.Cond.code y bytes maxL ret :: ws) rm) (fun a U => a = as' ∧ Z.Warmed39 U.vm ∧ U.heap = h0) (fun _ _ _ _ _ => True) (fun _ U o U' => ∃ v L, o = .returned v ∧ Q v U'.heap L ∧ FrameEnd U o U' L rm.cells rm.slots)
theorem Ctr.of {y : MethodName} {bytes : ByteArray} {maxL : Nat} {ret : Option FieldType} {ws : List Jvm.Cond} {rm : Room} {as' : Array Value} {h0 : Heap} {Q : Option Value → Heap → List Loc → Prop} (hpf : plainFor y = true)
    (body : ∀ p e s m below meth c s₁, p.tables.exec = Jvm.exec → c.code = bytes → c.maxLocals = maxL → s.vm.findClass y.cls = some m.cls → meth.name = y.name → meth.sig.returnType = ret → meth.locks = false → Z.Warmed39 s.vm →
      Stand p l e rm s m as' below meth c s₁ [] 0 0 → s₁.heap = h0 → Go p e below (EndQ s Q rm.cells rm.slots) s₁ (entryFrame m as' maxL)) : Ctr l Z y bytes maxL ret ws rm as' h0 Q := by
  refine MetFree.of_bodySF hpf hisR ?_
  intro p e s m args below meth c s₁ Bd hml0 hP hK
  obtain ⟨rfl, hZ, hh⟩ := hP
  exact body p e s m below meth c s₁ Bd.exec Bd.bytes hml0 (findClass_of_methodNamed Bd.named) (name_of_methodNamed Bd.named Bd.method).1 Bd.returns Bd.notSynchronized hZ (Stand.of_body Bd) (by rw [← hh, Bd.state]; rfl)
abbrev BackQ (l : Launch) (R : Room) (p : Program) (e : Env) (below : List Frame) (s : State) (args : Array Value) (y : MethodName) (W : Nat) (as' : Array Value) (h : Heap) (kc ks : Nat) (Q : Option Value → Heap → List Loc → Prop) : Prop :=
  Back l R p e below s args y 3 W (fun A a => a = as' ∧ A.U.heap = h ∧ A.cells + kc ≤ R.cells ∧ A.slots + ks ≤ R.slots) (fun A _ v B => ∃ L, Q v B.U.heap L ∧ B.locs = A.locs ++ L ∧ B.cells = A.cells + kc ∧ B.slots = A.slots + ks)
theorem Ctr.back {y : MethodName} {bytes : ByteArray} {maxL W : Nat} {ret : Option FieldType} {rm : Room} {as' : Array Value} {Q : Option Value → Heap → List Loc → Prop} (hM : Ctr l Z y bytes maxL ret [] rm as' h Q)
    (hZ : Z.Warmed39 s.vm) (wc : (Jvm.Cond.code y bytes maxL ret).before a0 Z = true) (wz : (Jvm.Cond.initialized y.cls).before a0 Z = true) (hf : rm.frames + 1 ≤ R.frames) (hl : W + (maxL + 11) + rm.locals ≤ R.locals) :
    BackQ l R p e below s args y W as' h rm.cells rm.slots Q := backOf hM hZ wc wz hf hl
theorem Go.callS (X : Stand p l e R s m args below meth c T locs cells slots) (hx : p.tables.exec = Jvm.exec) {own : String} {index : Nat} {y : MethodName} {bytes : ByteArray} {maxL : Nat} {ret : Option FieldType}
    (hown : s.vm.findClass own = some m.cls) (hlink : (Jvm.Cond.methodLink own index y).before args s = true) (hstat : (Jvm.Cond.static y).before args s = true) (hinit : (Jvm.Cond.initialized y.cls).before args s = true)
    (hcode : (Jvm.Cond.code y bytes maxL ret).before args s = true) (hy : y.cls ≠ "java/lang/invoke/MethodHandle" ∧ y.cls ≠ "java/lang/invoke/VarHandle")
    {W kc ks : Nat} {as' : Array Value} {Q : Option Value → Heap → List Loc → Prop} (hK : BackQ l R p e below s args y W as' h kc ks Q) (eT : T.heap = h)
    {g : JFrame} (hg : g.method = m) (hsize : g.locals.size = c.maxLocals) {argsL rest : List Value} (hlen : ∀ sig, parseMethodDescriptor y.desc = some sig → argsL.length = sig.parameters.length)
    (hstack : g.stack = argsL.reverse ++ rest) (hW : 2 * g.monitorRoom + (rest.map fun v => v.category).sum ≤ W) (hdg : decode c.code g.pc = .ok (.invokestatic index, 3))
    (has : argsL.toArray = as') (hc : cells + kc ≤ R.cells) (hs : slots + ks ≤ R.slots)
    (k : ∀ v T' L, Stand p l e R s m args below meth c T' (locs ++ L) (cells + kc) (slots + ks) → Q v T'.heap L → Go p e below G T' { g with pc := g.pc + 3, stack := v.toList ++ rest }) : Go p e below G T g := by
  obtain ⟨v, vm₁, ⟨T1, L1, k1, n1⟩, -, X1, ⟨L, hQ, h1, h2, h3⟩, st⟩ := Jvm.LawKit.callS X hx hown hlink hstat hinit hcode hy hK hg hsize hlen hstack hW hdg (fun _ _ => ⟨has, eT, hc, hs⟩)
  dsimp only [Pt.U, Pt.locs, Pt.cells, Pt.slots] at X1 h1 h2 h3 st hQ
  subst h1 h2 h3
  exact Go.st st (k v T1 L X1 hQ)
theorem Go.callI (X : Stand p l e R s m args below meth c T locs cells slots) (hx : p.tables.exec = Jvm.exec) {own : String} {index : Nat} {y : MethodName} {bytes : ByteArray} {maxL : Nat} (hy1 : y.name = "<init>")
    (hown : s.vm.findClass own = some m.cls) (hlink : (Jvm.Cond.methodLink own index y).before args s = true) (hinst : (Jvm.Cond.instanceMethod y).before args s = true)
    (hcode : (Jvm.Cond.code y bytes maxL none).before args s = true) (hy : y.cls ≠ "java/lang/invoke/MethodHandle" ∧ y.cls ≠ "java/lang/invoke/VarHandle")
    {W kc ks : Nat} {as' : Array Value} {Q : Option Value → Heap → List Loc → Prop} (hK : BackQ l R p e below s args y W as' h kc ks Q) (eT : T.heap = h)
    {g : JFrame} (hg : g.method = m) (hsize : g.locals.size = c.maxLocals) {a : Addr} {argsL rest : List Value} (hlen : ∀ sig, parseMethodDescriptor y.desc = some sig → argsL.length = sig.parameters.length)
    (hstack : g.stack = argsL.reverse ++ .ref a :: rest) (hW : 2 * g.monitorRoom + (rest.map fun v => v.category).sum ≤ W) (hdg : decode c.code g.pc = .ok (.invokespecial index, 3))
    (has : (.ref a :: argsL).toArray = as') (hc : cells + kc ≤ R.cells) (hs : slots + ks ≤ R.slots)
    (k : ∀ v T' L, Stand p l e R s m args below meth c T' (locs ++ L) (cells + kc) (slots + ks) → Q v T'.heap L → Go p e below G T' { g with pc := g.pc + 3, stack := v.toList ++ rest }) : Go p e below G T g := by
  obtain ⟨v, vm₁, ⟨T1, L1, k1, n1⟩, -, X1, ⟨L, hQ, h1, h2, h3⟩, st⟩ := X.specialBack hx hy1 hown hlink hinst hcode hy hK hg hsize (Steps.refl _) hlen hstack hW hdg (fun _ _ => ⟨has, eT, hc, hs⟩)
  dsimp only [Pt.U, Pt.locs, Pt.cells, Pt.slots] at X1 h1 h2 h3 st hQ
  subst h1 h2 h3
  exact Go.tr st (k v T1 L X1 hQ)
theorem Go.callV (X : Stand p l e R s m args below meth c T locs cells slots) (hx : p.tables.exec = Jvm.exec) (hZ : Z.Warmed39 s.vm) {own C : String} {index : Nat} {y z : MethodName}
    (hown : s.vm.findClass own = some m.cls) (hlink : (Jvm.Cond.methodLink own index y).before args s = true) (hdecl : (Jvm.Cond.declares y).before args s = true) 
    (hsel : (Jvm.Cond.selects C y z).before args s = true) (hinst : (Jvm.Cond.instanceMethod z).before args s = true)
    (hy : y.cls ≠ "java/lang/invoke/MethodHandle" ∧ y.cls ≠ "java/lang/invoke/VarHandle") (hnf : NotFace s y)
    {W kc ks : Nat} {as' : Array Value} {Q : Option Value → Heap → List Loc → Prop} (hK : BackQ l R p e below s args z W as' h kc ks Q) (eT : T.heap = h)
    {b : Addr} (E : Exa Z h b C)
    {g : JFrame} (hg : g.method = m) (hsize : g.locals.size = c.maxLocals) {argsL rest : List Value} (hlen : ∀ sig, parseMethodDescriptor y.desc = some sig → argsL.length = sig.parameters.length)
    (hstack : g.stack = argsL.reverse ++ .ref b :: rest) (hW : 2 * g.monitorRoom + (rest.map fun v => v.category).sum ≤ W) (hdg : decode c.code g.pc = .ok (.invokevirtual index, 3))
    (has : (.ref b :: argsL).toArray = as') (hc : cells + kc ≤ R.cells) (hs : slots + ks ≤ R.slots)
    (k : ∀ v T' L, Stand p l e R s m args below meth c T' (locs ++ L) (cells + kc) (slots + ks) → Q v T'.heap L → Go p e below G T' { g with pc := g.pc + 3, stack := v.toList ++ rest }) : Go p e below G T g := by
  obtain ⟨cq, kq, qa, qb, qc⟩ := isOf hZ eT E
  obtain ⟨v, vm₁, ⟨T1, L1, k1, n1⟩, -, X1, ⟨L, hQ, h1, h2, h3⟩, st⟩ := X.virtualBack hx hown hlink hdecl hnf hsel hinst hy hK qa qc hg hsize (Steps.refl _) hlen hstack hW hdg (fun _ _ => ⟨has, eT, hc, hs⟩)
  dsimp only [Pt.U, Pt.locs, Pt.cells, Pt.slots] at X1 h1 h2 h3 st hQ
  subst h1 h2 h3
  exact Go.tr st (k v T1 L X1 hQ)
/-! arrays of ints, chars, bytes: their contents as a list -/
def AI (Z : State) (h : Heap) (a : Addr) (ty : FieldType) (xs : List Int32) : Prop := xs.length < 2147483648 ∧ ∃ k, Arv Z h a k ty (Int32.ofNat xs.length) (xs.map Value.int) (.int 0)
theorem AI.lt {a : Addr} {ty : FieldType} {xs : List Int32} (F : AI Z h a ty xs) : a < h.size := by obtain ⟨-, k, F⟩ := F; exact F.lt
theorem AI.ext {a : Addr} {ty : FieldType} {xs : List Int32} (F : AI Z h a ty xs) (E : Ext h h') : AI Z h' a ty xs := by obtain ⟨q, k, F⟩ := F; exact ⟨q, k, F.ext E⟩
theorem AI.other {a b : Addr} {ty : FieldType} {xs : List Int32} {sl : Nat} {v : Value} (F : AI Z h b ty xs) (W : Wr h h' a sl v) (q : b ≠ a) : AI Z h' b ty xs := by obtain ⟨q0, k, F⟩ := F; exact ⟨q0, k, F.other W q⟩
theorem AI.keep {a : Addr} {ty : FieldType} {xs : List Int32} {ws : List Addr} (F : AI Z h a ty xs) (K : Keep h h' ws) (q : a ∉ ws) : AI Z h' a ty xs := by obtain ⟨q0, k, F⟩ := F; exact ⟨q0, k, F.keep K q⟩
theorem own_ofNat_nn {n : Nat} (hn : n < 2147483648) : ¬ Int32.ofNat n < 0 := by
  have q : (Int32.ofNat n).toInt = n := Int32.toInt_ofNat_small hn
  simp only [Int32.lt_iff_toInt_lt, q, Int32.reduceToInt]; omega
theorem own_ofNat_clamp {n : Nat} (hn : n < 2147483648) : (Int32.ofNat n).toNatClampNeg = n := by
  have q : (Int32.ofNat n).toInt = n := Int32.toInt_ofNat_small hn
  simp only [Int32.toNatClampNeg, q]; omega
theorem own_ofNat_lt {i n : Nat} (hi : i < n) (hn : n < 2147483648) : Int32.ofNat i < Int32.ofNat n := by
  have q : (Int32.ofNat n).toInt = n := Int32.toInt_ofNat_small hn
  have q' : (Int32.ofNat i).toInt = i := Int32.toInt_ofNat_small (by omega)
  simp only [Int32.lt_iff_toInt_lt, q, q']; omega
theorem AI.new {a : Addr} {ty : FieldType} {k : ClassId} {n : Nat} (hn : n < 2147483648) (hd : defaultValue ty = .int 0) (A : Arr Z h a (newA k ty (Int32.ofNat n)) ty) : AI Z h a ty (List.replicate n 0) := by
  have V := Arv.new A (own_ofNat_nn hn)
  rw [hd] at V
  refine ⟨by simpa using hn, k, ?_⟩
  have e : (Int32.ofNat (List.replicate n (0 : Int32)).length) = Int32.ofNat n := by simp
  rw [e, List.map_replicate]
  have := V.pad (pad_rep [] (.int (0 : Int32)) n)
  simpa using this
theorem AI.set {a : Addr} {ty : FieldType} {xs : List Int32} {x : Int32} {i : Nat} (F : AI Z h a ty xs) (hi : i < xs.length) (hf : fits ty (.int x) = true) (W : Wr h h' a i (.int x)) : AI Z h' a ty (xs.set i x) := by
  obtain ⟨q0, k, cl, A, q, S, M, H, U⟩ := F
  refine ⟨by simpa using q0, k, ?_⟩
  have e := own_ofNat_clamp (n := i) (by omega)
  rw [List.length_set, List.map_set]
  exact Arv.set A q S M H U hf (j := Int32.ofNat i) (by rw [e]; exact W) i e (by simpa using hi)
theorem AI.at {a : Addr} {ty : FieldType} {xs : List Int32} (F : AI Z h a ty xs) : ∃ cl : Cell, Arr Z h a cl ty ∧ cl.slots.size = xs.length ∧ ∀ i (hi : i < xs.length), cl.slots[i]? = some (.int xs[i]) := by
  obtain ⟨q0, k, cl, A, q, S, M, H, U⟩ := F
  rw [own_ofNat_clamp q0] at S
  refine ⟨cl, A, S, fun i hi => ?_⟩
  have := H i (by omega)
  rw [this, List.getD_eq_getElem?_getD, List.getElem?_map, List.getElem?_eq_getElem hi]
  rfl
theorem own_inb {n i : Nat} (hi : i < n) (hn : n < 2147483648) : ¬ (Int32.ofNat i < 0 ∨ n ≤ (Int32.ofNat i).toNatClampNeg) := by
  rw [own_ofNat_clamp (by omega)]
  intro q
  rcases q with q | q
  · exact own_ofNat_nn (by omega) q
  · omega
theorem Go.caload (X : Stand p l e R s m args below meth c T locs cells slots) (hx : p.tables.exec = Jvm.exec) (hZ : Z.Warmed39 s.vm) (eT : T.heap = h) {a : Addr} {xs : List Int32} (A : AI Z h a .char xs) {j x : Int32} {i : Nat} (hj : j = Int32.ofNat i) (hv : xs[i]? = some x)
    {g : JFrame} (hg : g.method = m) {rest : List Value} (hs : g.stack = .int j :: .ref a :: rest) (hd : decode c.code g.pc = .ok (.caload, 1)) (k : Go p e below G T { g with pc := g.pc + 1, stack := .int x :: rest }) : Go p e below G T g := by
  subst hj
  obtain ⟨cl, Ar, S, H⟩ := A.at
  obtain ⟨hi, rfl⟩ := List.getElem?_eq_some_iff.mp hv
  have q0 := A.1
  refine Go.st (fun t r => X.caload hx (cell := cl) (j := Int32.ofNat i) (v := .int xs[i]) (by rw [eT]; exact Ar.1) (State.isArrayOf_alike hZ.alike Ar.2.1) Ar.2.2 (by rw [S]; exact own_inb hi q0) (by rw [own_ofNat_clamp (by omega)]; exact H i hi) hg hs hd t r) k
theorem Go.baload (X : Stand p l e R s m args below meth c T locs cells slots) (hx : p.tables.exec = Jvm.exec) (hZ : Z.Warmed39 s.vm) (eT : T.heap = h) {a : Addr} {xs : List Int32} (A : AI Z h a .byte xs) {j x : Int32} {i : Nat} (hj : j = Int32.ofNat i) (hv : xs[i]? = some x)
    {g : JFrame} (hg : g.method = m) {rest : List Value} (hs : g.stack = .int j :: .ref a :: rest) (hd : decode c.code g.pc = .ok (.baload, 1)) (k : Go p e below G T { g with pc := g.pc + 1, stack := .int x :: rest }) : Go p e below G T g := by
  subst hj
  obtain ⟨cl, Ar, S, H⟩ := A.at
  obtain ⟨hi, rfl⟩ := List.getElem?_eq_some_iff.mp hv
  have q0 := A.1
  refine Go.st (fun t r => X.baloadBytes hx (cell := cl) (j := Int32.ofNat i) (v := .int xs[i]) (by rw [eT]; exact Ar.1) (State.isArrayOf_alike hZ.alike Ar.2.1) Ar.2.2 (by rw [S]; exact own_inb hi q0) (by rw [own_ofNat_clamp (by omega)]; exact H i hi) hg hs hd t r) k
theorem Go.iaload (X : Stand p l e R s m args below meth c T locs cells slots) (hx : p.tables.exec = Jvm.exec) (hZ : Z.Warmed39 s.vm) (eT : T.heap = h) {a : Addr} {xs : List Int32} (A : AI Z h a .int xs) {j x : Int32} {i : Nat} (hj : j = Int32.ofNat i) (hv : xs[i]? = some x)
    {g : JFrame} (hg : g.method = m) {rest : List Value} (hs : g.stack = .int j :: .ref a :: rest) (hd : decode c.code g.pc = .ok (.iaload, 1)) (k : Go p e below G T { g with pc := g.pc + 1, stack := .int x :: rest }) : Go p e below G T g := by
  subst hj
  obtain ⟨cl, Ar, S, H⟩ := A.at
  obtain ⟨hi, rfl⟩ := List.getElem?_eq_some_iff.mp hv
  have q0 := A.1
  refine Go.st (fun t r => X.iaload hx (cell := cl) (j := Int32.ofNat i) (v := .int xs[i]) (by rw [eT]; exact Ar.1) (State.isArrayOf_alike hZ.alike Ar.2.1) Ar.2.2 (by rw [S]; exact own_inb hi q0) (by rw [own_ofNat_clamp (by omega)]; exact H i hi) hg hs hd t r) k
theorem Go.alen (X : Stand p l e R s m args below meth c T locs cells slots) (hx : p.tables.exec = Jvm.exec) (hZ : Z.Warmed39 s.vm) (eT : T.heap = h) {a : Addr} {ty : FieldType} {xs : List Int32} (A : AI Z h a ty xs)
    {g : JFrame} (hg : g.method = m) {rest : List Value} (hs : g.stack = .ref a :: rest) (hd : decode c.code g.pc = .ok (.arraylength, 1)) (k : Go p e below G T { g with pc := g.pc + 1, stack := .int (Int32.ofNat xs.length) :: rest }) : Go p e below G T g := by
  obtain ⟨cl, Ar, S, H⟩ := A.at
  refine Go.st (fun t r => X.arraylength hx (cell := cl) (by rw [eT]; exact Ar.1) (State.isArrayOf_alike hZ.alike Ar.2.1) hg hs hd t (by rw [S]; exact r)) k
theorem Go.castore (X : Stand p l e R s m args below meth c T locs cells slots) (hx : p.tables.exec = Jvm.exec) (hZ : Z.Warmed39 s.vm) (eT : T.heap = h) {a : Addr} {xs : List Int32} (A : AI Z h a .char xs) {j x : Int32} {i : Nat} (hj : j = Int32.ofNat i) (hi : i < xs.length)
    {g : JFrame} (hg : g.method = m) {rest : List Value} (hs : g.stack = .int x :: .int j :: .ref a :: rest) (hd : decode c.code g.pc = .ok (.castore, 1))
    (k : ∀ T' h', Stand p l e R s m args below meth c T' (locs ++ [⟨a, i⟩]) cells slots → T'.heap = h' → Wr h h' a i (.int (nar .char x)) → AI Z h' a .char (xs.set i (nar .char x)) → Go p e below G T' { g with pc := g.pc + 1, stack := rest }) : Go p e below G T g := by
  subst hj
  obtain ⟨cl, Ar, S, H⟩ := A.at
  have q0 := A.1
  obtain ⟨T', h', X', e', W, st⟩ := stC X hx hZ eT Ar (j := Int32.ofNat i) (by rw [S]; exact own_inb hi q0) hg hs hd
  rw [own_ofNat_clamp (by omega)] at X' W
  exact Go.st st (k T' h' X' e' W (A.set hi (fits_nar_char _) W))
theorem Go.bastore (X : Stand p l e R s m args below meth c T locs cells slots) (hx : p.tables.exec = Jvm.exec) (hZ : Z.Warmed39 s.vm) (eT : T.heap = h) {a : Addr} {xs : List Int32} (A : AI Z h a .byte xs) {j x : Int32} {i : Nat} (hj : j = Int32.ofNat i) (hi : i < xs.length)
    {g : JFrame} (hg : g.method = m) {rest : List Value} (hs : g.stack = .int x :: .int j :: .ref a :: rest) (hd : decode c.code g.pc = .ok (.bastore, 1))
    (k : ∀ T' h', Stand p l e R s m args below meth c T' (locs ++ [⟨a, i⟩]) cells slots → T'.heap = h' → Wr h h' a i (.int (nar .byte x)) → AI Z h' a .byte (xs.set i (nar .byte x)) → Go p e below G T' { g with pc := g.pc + 1, stack := rest }) : Go p e below G T g := by
  subst hj
  obtain ⟨cl, Ar, S, H⟩ := A.at
  have q0 := A.1
  obtain ⟨T', h', X', e', W, st⟩ := stB X hx hZ eT Ar (j := Int32.ofNat i) (by rw [S]; exact own_inb hi q0) hg hs hd
  rw [own_ofNat_clamp (by omega)] at X' W
  exact Go.st st (k T' h' X' e' W (A.set hi (Jvm.Free.SBG.fits_of_int8 _) W))
theorem Go.iastore (X : Stand p l e R s m args below meth c T locs cells slots) (hx : p.tables.exec = Jvm.exec) (hZ : Z.Warmed39 s.vm) (eT : T.heap = h) {a : Addr} {xs : List Int32} (A : AI Z h a .int xs) {j x : Int32} {i : Nat} (hj : j = Int32.ofNat i) (hi : i < xs.length)
    {g : JFrame} (hg : g.method = m) {rest : List Value} (hs : g.stack = .int x :: .int j :: .ref a :: rest) (hd : decode c.code g.pc = .ok (.iastore, 1))
    (k : ∀ T' h', Stand p l e R s m args below meth c T' (locs ++ [⟨a, i⟩]) cells slots → T'.heap = h' → Wr h h' a i (.int x) → AI Z h' a .int (xs.set i x) → Go p e below G T' { g with pc := g.pc + 1, stack := rest }) : Go p e below G T g := by
  subst hj
  obtain ⟨cl, Ar, S, H⟩ := A.at
  have q0 := A.1
  obtain ⟨T', h', X', e', W, st⟩ := stI X hx hZ eT Ar (j := Int32.ofNat i) (by rw [S]; exact own_inb hi q0) hg hs hd
  rw [own_ofNat_clamp (by omega)] at X' W
  exact Go.st st (k T' h' X' e' W (A.set hi rfl W))
theorem Go.newarr (X : Stand p l e R s m args below meth c T locs cells slots) (hx : p.tables.exec = Jvm.exec) (hZ : Z.Warmed39 s.vm) {aty : ArrayType} {ty : FieldType} (hty : newarray.typeOf aty = ty) (hdv : defaultValue ty = .int 0) (w : (Jvm.Cond.arrayClass ty).before a0 Z = true) (eT : T.heap = h)
    {g : JFrame} (hg : g.method = m) (hd : decode c.code g.pc = .ok (.newarray aty, 2)) {j : Int32} {n : Nat} {rest : List Value} (hs : g.stack = .int j :: rest) (hj : j = Int32.ofNat n) (hn : n * 8 ≤ 536870912) (hc : cells + 1 ≤ R.cells) (hl : slots + n ≤ R.slots)
    (k : ∀ T' h', Stand p l e R s m args below meth c T' locs (cells + 1) (slots + n) → T'.heap = h' → Ext h h' → h.size < h'.size → AI Z h' h.size ty (List.replicate n 0) → Go p e below G T' { g with pc := g.pc + 2, stack := .ref h.size :: rest }) : Go p e below G T g := by
  subst hj
  subst hty
  obtain ⟨T', h', cA, X', e', E, A, st⟩ := newP X hx hZ w eT hg hd hs (own_ofNat_nn (by omega)) (cap := n) (by rw [own_ofNat_clamp (by omega)]; exact Nat.le_refl _) hn hc hl
  exact Go.st st (k T' h' X' e' E A.lt (AI.new (by omega) hdv A))
theorem Go.retV (X : Stand p l e R s m args below meth c T locs cells slots) (hx : p.tables.exec = Jvm.exec) {pc : Nat} {Ls : Array Slot} {Q : Option Value → Heap → List Loc → Prop} {kc ks : Nat} {rest : List Value} {w : Value} {t : FieldType} (hret : meth.sig.returnType = some t) (hlk : meth.locks = false) (ht : t.isReference = true) (hw : w.isRef = true)
    (hd : decode c.code pc = .ok (.areturn, 1)) (hQ : Q (some w) T.heap locs) (hc : cells ≤ kc) (hs : slots ≤ ks) : Go p e below (EndQ s Q kc ks) T (mkF m pc Ls (w :: rest)) :=
  Go.done X (fun q => by rw [hret] at q; cases q) hlk (fun fs hr => retOut X hx hret (by rcases ref_cases hw with rfl | ⟨z, rfl⟩ <;> cases t <;> first | rfl | cases ht) (Or.inr (Or.inr (Or.inr (Or.inr ⟨rfl, ht, hw⟩)))) hd hr) hQ hc hs
theorem Go.retI (X : Stand p l e R s m args below meth c T locs cells slots) (hx : p.tables.exec = Jvm.exec) {pc : Nat} {Ls : Array Slot} {Q : Option Value → Heap → List Loc → Prop} {kc ks : Nat} {rest : List Value} {z : Int32} (hret : meth.sig.returnType = some .int) (hlk : meth.locks = false)
    (hd : decode c.code pc = .ok (.ireturn, 1)) (hQ : Q (some (.int z)) T.heap locs) (hc : cells ≤ kc) (hs : slots ≤ ks) : Go p e below (EndQ s Q kc ks) T (mkF m pc Ls (.int z :: rest)) :=
  Go.done X (fun q => by rw [hret] at q; cases q) hlk (fun fs hr => retOut X hx hret rfl (Or.inl ⟨rfl, Or.inl rfl, z, rfl⟩) hd hr) hQ hc hs
theorem Go.retJ (X : Stand p l e R s m args below meth c T locs cells slots) (hx : p.tables.exec = Jvm.exec) {pc : Nat} {Ls : Array Slot} {Q : Option Value → Heap → List Loc → Prop} {kc ks : Nat} {rest : List Value} {z : Int64} (hret : meth.sig.returnType = some .long) (hlk : meth.locks = false)
    (hd : decode c.code pc = .ok (.lreturn, 1)) (hQ : Q (some (.long z)) T.heap locs) (hc : cells ≤ kc) (hs : slots ≤ ks) : Go p e below (EndQ s Q kc ks) T (mkF m pc Ls (.long z :: rest)) :=
  Go.done X (fun q => by rw [hret] at q; cases q) hlk (fun fs hr => retOut X hx hret rfl (Or.inr (Or.inl ⟨rfl, rfl, z, rfl⟩)) hd hr) hQ hc hs
theorem Go.retB (X : Stand p l e R s m args below meth c T locs cells slots) (hx : p.tables.exec = Jvm.exec) {pc : Nat} {Ls : Array Slot} {Q : Option Value → Heap → List Loc → Prop} {kc ks : Nat} {rest : List Value} {z : Int32} {t : FieldType} (hret : meth.sig.returnType = some t) (hlk : meth.locks = false) (ht : t = .boolean ∨ t = .byte ∨ t = .char ∨ t = .short)
    (hd : decode c.code pc = .ok (.ireturn, 1)) (hQ : Q (some (.int (nar t z))) T.heap locs) (hc : cells ≤ kc) (hs : slots ≤ ks) : Go p e below (EndQ s Q kc ks) T (mkF m pc Ls (.int z :: rest)) :=
  Go.done X (fun q => by rw [hret] at q; cases q) hlk (fun fs hr => retN X hx hret ht hd hr) hQ hc hs
theorem Go.ret0 (X : Stand p l e R s m args below meth c T locs cells slots) (hx : p.tables.exec = Jvm.exec) {pc : Nat} {Ls : Array Slot} {Q : Option Value → Heap → List Loc → Prop} {kc ks : Nat} (hret : meth.sig.returnType = none) (hlk : meth.locks = false)
    (hd : decode c.code pc = .ok (.return_, 1)) (hQ : Q none T.heap locs) (hc : cells ≤ kc) (hs : slots ≤ ks) : Go p e below (EndQ s Q kc ks) T (mkF m pc Ls []) :=
  Go.done X (fun _ => rfl) hlk (fun fs hr => X.returnOut hx hret hd hr) hQ hc hs
theorem own_storeR {L : Array Slot} {i : Nat} {v : Value} {o : Slot} {L' : Array Slot} (hv : v.isRef = true) (hold : L[i]? = some o) (ho : One o) (e : L.setIfInBounds i (.val v) = L' := by rfl) : storeLocals L i v = some L' := by
  rw [← e]; exact XS.store1 hold ho (XT.cat1 hv)
theorem own_narrowR {v : Value} {C : String} (hv : v.isRef = true) : narrow (.object C) v = v := by rcases ref_cases hv with rfl | ⟨_, rfl⟩ <;> rfl
theorem own_fitsR {v : Value} {C : String} (hv : v.isRef = true) : fits (.object C) v = true := by rcases ref_cases hv with rfl | ⟨_, rfl⟩ <;> rfl
end GoKit
section GoWide
open Jvm.Free.SB Jvm.Free.SBG
variable {p : Program} {l : Launch} {e : Env} {R : Room} {s s0 : State} {m : MethodId} {args : Array Value} {below : List Frame} {meth : Method} {c : Code} {T T' : State} {locs : List Loc} {cells slots : Nat} {Z : State} {a0 : Array Value} {h h' : Heap} {G : Outcome → State → Prop} {g g' : JFrame} {W : State} {cs : List (String × Nat)} {N N' : Nat → Prop}
/-- the cells of N stand as they stood -/
def Und (N : Nat → Prop) (h h' : Heap) : Prop := h.size ≤ h'.size ∧ ∀ (b : Addr) (c : Cell), N b → h[b]? = some c → h'[b]? = some c
theorem Und.refl (N : Nat → Prop) (h : Heap) : Und N h h := ⟨Nat.le_refl _, fun _ _ _ q => q⟩
theorem Und.ext (U : Und N h h') {h'' : Heap} (E : Ext h' h'') : Und N h h'' := ⟨Nat.le_trans U.1 E.1, fun b c q r => E.2 b c (U.2 b c q r)⟩
theorem Und.keep (U : Und N h h') {h'' : Heap} {ws : List Addr} (K : Keep h' h'' ws) (q : ∀ x ∈ ws, ¬ N x) : Und N h h'' := ⟨Nat.le_trans U.1 K.1, fun b c r y => K.2.1 b c (U.2 b c r y) fun z => absurd r (q b z)⟩
theorem Und.wr (U : Und N h h') {h'' : Heap} {a : Addr} {sl : Nat} {v : Value} (W : Wr h' h'' a sl v) (q : ¬ N a) : Und N h h'' := U.keep (Keep.of_wr W) (allS q all0)
/-- the String at a: an ordinary compact one of these units, both her cells of N -/
def SlN (N : Nat → Prop) (W : State) (a : Addr) (units : Array UInt16) : Prop :=
  ∃ (q : SQ) (cS : ClassId), q.sa = a ∧ Sl q cS W ∧ (∃ kS : Class, W.vm.classes[cS]? = some kS ∧ kS.kind = .ordinary ∧ q.sC.slots.size = kS.instanceTypes.size) ∧ W.vm.findClass "[B" = some q.SA.cls ∧ q.SA.slots = stringBytes units ∧ N q.sa ∧ N q.sd
theorem SlN.of {a : Addr} {u : Array UInt16} (h : SlN N W a u) : SlOf W a u := by
  obtain ⟨q, cS, h1, h2, h3, h4, h5, -⟩ := h; exact ⟨q, cS, h1, h2, h3, h4, h5⟩
theorem SlN.start {a : Addr} {u : Array UInt16} (h : SlOf W a u) : SlN (fun b => b < W.heap.size) W a u := by
  obtain ⟨q, cS, h1, h2, h3, h4, h5⟩ := h
  exact ⟨q, cS, h1, h2, h3, h4, h5, (Array.getElem?_eq_some_iff.mp h2.1.1).1, (Array.getElem?_eq_some_iff.mp h2.1.2.2.2.2.2.2.2.2.2.1).1⟩
theorem SlN.of_in {a : Addr} {u : Array UInt16} {lo hi : Nat} (h : SlIn lo hi W a u) : SlOf W a u := by
  obtain ⟨q, cS, h1, h2, h3, h4, h5, -⟩ := h; exact ⟨q, cS, h1, h2, h3, h4, h5⟩
theorem SlN.mv {a : Addr} {u : Array UInt16} {V : State} (h : SlN N W a u) (hal : W.vm.Alike V.vm) (hk : ∀ (b : Addr) (c : Cell), N b → W.heap[b]? = some c → V.heap[b]? = some c) : SlN N V a u := by
  obtain ⟨q, cS, h1, h2, ⟨kS, k1, k2, k3⟩, h4, h5, h6, h7⟩ := h
  obtain ⟨kS', hk', ek⟩ := hal.2.2 _ _ k1
  exact ⟨q, cS, h1, h2.carry hal (hk _ _ h6 h2.1.1) (hk _ _ h7 h2.1.2.2.2.2.2.2.2.2.2.1), ⟨kS', hk', by rw [ek]; exact k2, by rw [ek]; exact k3⟩, by rw [hal.findClass]; exact h4, h5, h6, h7⟩
theorem SlN.up {a : Addr} {u : Array UInt16} (h : SlN N W a u) (q : ∀ b, N b → N' b) : SlN N' W a u := by
  obtain ⟨q', cS, h1, h2, h3, h4, h5, h6, h7⟩ := h; exact ⟨q', cS, h1, h2, h3, h4, h5, q _ h6, q _ h7⟩
/-- every constant of the list which the tables hold already is such a String, under N -/
def CHn (cs : List (String × Nat)) (N : Nat → Prop) (U : State) : Prop := ∀ x ∈ cs, ∀ (c : ClassId) (k : Class) (cf : ClassFile) (i : Nat) (units : Array UInt16) (a : Addr), U.vm.findClass x.1 = some c → U.vm.classes[c]? = some k → k.cf = some cf →
    cf.constantPool[x.2]? = some (.string i) → cf.constantPool[i]? = some (.utf8 units) →
    (k.resolved[x.2]? = some (some (.string a)) ∨ (k.resolved[x.2]? = some none ∧ U.vm.interned.find? (fun p => p.1 == units) = some (units, a))) → SlN N U a units
theorem CHn.held (H : CHn cs N W) {own : String} {i : Nat} (hm : (own, i) ∈ cs) : ConstHeldL W own i := fun c k cf i units a h1 h2 h3 h4 h5 h6 => (H _ hm c k cf i units a h1 h2 h3 h4 h5 h6).of
theorem CHn.start (H : ∀ x ∈ cs, ConstHeldL W x.1 x.2) : CHn cs (fun b => b < W.heap.size) W := fun x hx c k cf i units a h1 h2 h3 h4 h5 h6 => SlN.start (H x hx c k cf i units a h1 h2 h3 h4 h5 h6)
theorem CHn.up (H : CHn cs N W) (q : ∀ b, N b → N' b) : CHn cs N' W := fun x hx c k cf i units a h1 h2 h3 h4 h5 h6 => (H x hx c k cf i units a h1 h2 h3 h4 h5 h6).up q
theorem CHn.lt (H : CHn cs N W) : CHn cs (fun b => b < W.heap.size) W := fun x hx c k cf i units a h1 h2 h3 h4 h5 h6 => SlN.start (H x hx c k cf i units a h1 h2 h3 h4 h5 h6).of
theorem own_right_string {U : State} {d : ClassId} {i : Nat} {a : Addr} : U.rightAt d i (.string a) = false := by
  unfold State.rightAt; split <;> simp_all
theorem CHn.mv {V : State} (H : CHn cs N W) (hW : W.WarmedH V.vm) (hk : ∀ (b : Addr) (c : Cell), N b → W.heap[b]? = some c → V.heap[b]? = some c) : CHn cs N V := by
  intro x hx c k' cf i units a h1 h2 h3 h4 h5 h6
  have hal := hW.alike
  have h1' : W.vm.findClass x.1 = some c := by rw [← hal.findClass]; exact h1
  obtain ⟨k, hkc, -⟩ := Vm.findClass_spec h1'
  obtain ⟨k2, g1, g2, -, g4, -⟩ := hW.2.2 c k hkc
  cases h2.symm.trans g1
  have h3' : k.cf = some cf := by rw [g2] at h3; exact h3
  refine (H x hx c k cf i units a h1' hkc h3' h4 h5 ?_).mv hal hk
  rcases h6 with h6 | ⟨h6, h7⟩
  · rcases g4 x.2 with q | ⟨q, r, q2, q3⟩
    · exact Or.inl (q ▸ h6)
    · rw [h6] at q2
      cases q2
      rw [own_right_string] at q3; cases q3
  · refine Or.inr ⟨?_, ?_⟩
    · rcases g4 x.2 with q | ⟨q, r, q2, q3⟩
      · exact q ▸ h6
      · exact q
    · rw [← hW.interned_eq]; exact h7
/-- a wide end -/
def EndW (cs : List (String × Nat)) (s : State) (Q : Option Value → Heap → List Loc → Prop) (kc ks : Nat) (o : Outcome) (t : State) : Prop := ∃ v L, o = .returned v ∧ Q v t.heap L ∧ CHn cs (fun b => b < t.heap.size) t ∧ ReturnedEndW s o t L kc ks
def WCtr (cs : List (String × Nat)) (N : Nat → Prop) (l : Launch) (Z : State) (y : MethodName) (bytes : ByteArray) (maxL : Nat) (ret : Option FieldType) (ws : List Jvm.Cond) (rm : Room) (as' : Array Value) (h0 : Heap) (Q : Option Value → Heap → List Loc → Prop) : Prop :=
  MetFree l y (head1 (Jvm.Cond.code y bytes maxL ret :: ws) rm) (fun a U => a = as' ∧ Z.Warmed39 U.vm ∧ U.heap = h0 ∧ CHn cs N U) (fun _ _ _ _ _ => True) (fun _ U o U' => EndW cs U Q rm.cells rm.slots o U')
/-- where the walk stands: its base is the true start s0 with other tables -/
def Bas (s0 s : State) (n : Nat) : Prop := s = s0.setVm s.vm ∧ s0.Since s.vm n
theorem Bas.refl (s : State) (n : Nat) : Bas s s n := ⟨rfl, (State.WarmedH.refl s).since n⟩
/-- the constants held, said of the base's tables and a heap -/
def CHb (cs : List (String × Nat)) (N : Nat → Prop) (s : State) (h : Heap) : Prop := CHn cs N ({ s with heap := h } : State)
theorem CHb.to (H : CHb cs N s h) (X : Stand p l e R s m args below meth c T locs cells slots) (U : Und N h T.heap) : CHn cs N T := CHn.mv H (show ({ s with heap := h } : State).WarmedH T.vm from X.warmed) U.2
theorem CHb.to' {h' : Heap} (H : CHb cs N s h) (U : Und N h h') (q : ∀ b, N b → N' b) : CHb cs N' s h' := CHn.up (CHn.mv (V := ({ s with heap := h' } : State)) H (State.WarmedH.refl _) U.2) q
theorem WCtr.of {y : MethodName} {bytes : ByteArray} {maxL : Nat} {ret : Option FieldType} {ws : List Jvm.Cond} {rm : Room} {as' : Array Value} {h0 : Heap} {Q : Option Value → Heap → List Loc → Prop} (hpf : plainFor y = true)
    (body : ∀ p e s m below meth c s₁, p.tables.exec = Jvm.exec → c.code = bytes → c.maxLocals = maxL → s.vm.findClass y.cls = some m.cls → meth.name = y.name → meth.sig.returnType = ret → meth.locks = false → Z.Warmed39 s.vm →
      Stand p l e rm s m as' below meth c s₁ [] 0 0 → s₁.heap = h0 → CHb cs N s h0 → Go p e below (EndW cs s Q rm.cells rm.slots) s₁ (entryFrame m as' maxL)) : WCtr cs N l Z y bytes maxL ret ws rm as' h0 Q := by
  refine MetFree.of_bodySF hpf hisR ?_
  intro p e s m args below meth c s₁ Bd hml0 hP hK
  obtain ⟨rfl, hZ, hh, hC⟩ := hP
  exact body p e s m below meth c s₁ Bd.exec Bd.bytes hml0 (findClass_of_methodNamed Bd.named) (name_of_methodNamed Bd.named Bd.method).1 Bd.returns Bd.notSynchronized hZ (Stand.of_body Bd) (by rw [← hh, Bd.state]; rfl) (by subst hh; exact hC)
theorem Go.doneW (X : Stand p l e R s m args below meth c T locs cells slots) {n : Nat} (hB : Bas s0 s n) (hn : n ≤ T.heap.size) (hC : CHn cs N T) {Q : Option Value → Heap → List Loc → Prop} {kc ks : Nat} {v : Option Value} (hv : meth.sig.returnType = none → v = none) (hlk : meth.locks = false)
    (fin : ∀ fs, (∀ (f : JFrame) (acts : List Action), f.method = m → f.locked = none → f.entered = [] → (doReturn e (T.setTop f) acts v).1 = T.setFrames fs) → Steps p.tables e below (T.setTop g) (T.setFrames fs))
    (hQ : Q v T.heap locs) (hc : cells ≤ kc) (hs : slots ≤ ks) : Go p e below (EndW cs s0 Q kc ks) T g := by
  obtain ⟨e1, hS⟩ := hB
  have X' : Stand p l e R (s0.setVm s.vm) m args below meth c T locs cells slots := e1 ▸ X
  obtain ⟨fs, hr, hrun, hended, r1, r2, r3, r4⟩ := X'.leaveW hS hn hv hlk
  exact ⟨_, _, fin fs hr, hrun, hended, v, locs, rfl, hQ, CHn.lt hC, r1, r2, r3, r4.mono hc hs⟩
theorem own_backW {y : MethodName} {bytes : ByteArray} {maxL Wt len : Nat} {ret : Option FieldType} {rm : Room} {as' : Array Value} {Q : Option Value → Heap → List Loc → Prop} (hM : WCtr cs N l Z y bytes maxL ret [] rm as' h Q)
    (X : Stand p l e R s m args below meth c T locs cells slots) (hZ : Z.Warmed39 s.vm) (wc : (Jvm.Cond.code y bytes maxL ret).before a0 Z = true) (wz : (Jvm.Cond.initialized y.cls).before a0 Z = true) (hf : rm.frames + 1 ≤ R.frames) (hl : Wt + (maxL + 11) + rm.locals ≤ R.locals)
    (hg : g.method = m) (hsize : g.locals.size = c.maxLocals) {ig : Instr} (hdg : decode c.code g.pc = .ok (ig, len)) (hW : 2 * g.monitorRoom + (g.stack.map fun v => v.category).sum ≤ Wt) {mk : MethodId} (hnm : T.methodNamed? y = some mk) (eT : T.heap = h) (hC : CHn cs N T)
    (hc : cells + rm.cells ≤ R.cells) (hs : slots + rm.slots ≤ R.slots) :
    ∃ (v : Option Value) (T' : State) (L : List Loc), Stand p l e R (s.setVm T'.vm) m args below meth c T' (locs ++ L) (cells + rm.cells) (slots + rm.slots) ∧ s.Since T'.vm T'.heap.size ∧ T.heap.size ≤ T'.heap.size ∧ Q v T'.heap L ∧ CHn cs (fun b => b < T'.heap.size) T' ∧
      Steps p.tables e below (doInvoke e (T.setTop g) [] mk as').1 (T'.setTop { g with pc := g.pc + len, stack := v.toList ++ g.stack }) := by
  have hU : Z.Warmed39 T.vm := wtrans hZ X.warmed
  have h2 : (Jvm.Cond.code y bytes maxL ret).before as' T = true := mvT hU wc
  have h3 : (Jvm.Cond.initialized y.cls).before as' T = true := mvT hU wz
  obtain ⟨methY, cY, hmY, hcY, -, hlY, -, -, -, -⟩ := Cond.code_spec hnm h2
  obtain ⟨kY, hkY, -⟩ := className_of_methodNamed hnm
  have hinitY : kY.init = .initialized := Cond.initialized_spec (findClass_of_methodNamed hnm) hkY h3
  have hh : At T g.method c below := by rw [hg]; exact X.here
  have h1 : (head1 [Jvm.Cond.code y bytes maxL ret] rm).pre.before as' T = true := by
    show (Cond.and _ .tt).before as' T = true
    rw [Cond.before_and, h2]; rfl
  have happ : (head1 [Jvm.Cond.code y bytes maxL ret] rm).appliesLoose y e.platform (T.calling g mk as') = true :=
    Spec.appliesLoose_calling (g := g) hh hdg hnm hkY hinitY (X.room_calling (g := g) (R' := rm) hsize hmY hcY hf (by rw [hlY]; omega) hc hs) h1
  obtain ⟨mid, hmid⟩ := hh.above
  have hfr : (T.setTop g).frames = (.java g :: mid) ++ below := by rw [State.frames_setTop' g hh.top, hmid]; rfl
  have hcv : (T.calling g mk as').vm = T.vm := by rw [State.calling_eq hh.top]; rfl
  have hch' : (T.calling g mk as').heap = T.heap := by rw [State.calling_eq hh.top]; rfl
  have hP1 : Z.Warmed39 (T.calling g mk as').vm := by rw [hcv]; exact hU
  have hP2 : (T.calling g mk as').heap = h := by rw [hch']; exact eT
  have hP3 : CHn cs N (T.calling g mk as') := CHn.mv hC (by rw [hcv]; exact State.WarmedH.refl T) (fun b c _ q => by rw [hch']; exact q)
  obtain ⟨o, s₂, hsteps, -, hend, hq⟩ := Steps.callFree hM p X.admits X.cas X.clock (acts := []) hfr happ ⟨rfl, hP1, hP2, hP3⟩ trivial
  have hq' : EndW cs (T.calling g mk as') Q rm.cells rm.slots o s₂ := hq
  obtain ⟨v, L, rfl, hQ, hCH, -, hW2, hB2, e2, q2, q3, q4, q5, q6⟩ := hq'
  rw [State.frames_setTop' g hh.top] at hend
  have hW' : T.Warmed39 s₂.vm := State.Warmed39.of_rootvm hcv.symm hW2
  have hB' : T.Booked s₂.vm s₂.heap.size := fun j q hj hq => by
    have := hB2 j q (by rw [hcv]; exact hj) hq
    rw [hch'] at this
    exact this
  obtain ⟨c₂, i₂, len₂, hc₂, hd₂, hf₂⟩ := hend
  have hcc : c₂ = c := by
    have h1 : s₂.code? g.method = T.code? g.method := by rw [State.code?_eq, State.code?_eq, hW'.alike.method?]
    exact Option.some.inj (hc₂.symm.trans (h1.trans hh.code))
  subst hcc
  have hlen : len₂ = len := by rw [hdg] at hd₂; cases hd₂; rfl
  subst hlen
  obtain ⟨g₀, hg0⟩ := Option.isSome_iff_exists.mp hh.top
  obtain ⟨r, hr⟩ := State.topJava?_eq_some.mp hg0
  have e3 : s₂ = ({ (T.calling g mk as').setFrames s₂.frames with heap := s₂.heap, slotsUsed := s₂.slotsUsed } : State).setVm s₂.vm := by
    have : s₂ = ({ s₂ with vm := (T.calling g mk as').vm } : State).setVm s₂.vm := rfl
    rw [e2] at this
    exact this
  have hs₂ : s₂ = (({ T with heap := s₂.heap, slotsUsed := s₂.slotsUsed } : State).setVm s₂.vm).setTop { g with pc := g.pc + len₂, stack := v.toList ++ g.stack } := by
    have hr' : (({ T with heap := s₂.heap, slotsUsed := s₂.slotsUsed } : State).setVm s₂.vm).frames = .java g₀ :: r := hr
    refine e3.trans ?_
    rw [hf₂, State.calling_eq hh.top, State.setFrames_setFrames, State.setTop_of_frames _ hr', hr]
    rfl
  have hsame : T.sameButNew ({ T with heap := s₂.heap, slotsUsed := s₂.slotsUsed } : State) L rm.cells rm.slots := by
    refine ⟨?_, q2, q3, q4, q5, q6⟩
    obtain ⟨t, ht, -⟩ := State.frames_cons hr
    show ({ T with heap := s₂.heap, slotsUsed := s₂.slotsUsed } : State) = { T.setFrames T.frames with heap := s₂.heap, slotsUsed := s₂.slotsUsed }
    rw [State.setFrames_self ht]
  obtain ⟨X', hS⟩ := X.movedW (T₂ := ({ T with heap := s₂.heap, slotsUsed := s₂.slotsUsed } : State).setVm s₂.vm) ((X.here.setHeapUsed s₂.heap s₂.slotsUsed).setVm hW'.alike) X.tail rfl rfl hW' hB' hsame
  refine ⟨v, _, L, X', hS, hsame.2.1, hQ, hCH, ?_⟩
  rw [← hs₂]
  exact hsteps
theorem Bas.next {n : Nat} (hB : Bas s0 s n) {T' : State} (hS : s.Since T'.vm T'.heap.size) (hn : n ≤ T'.heap.size) : Bas s0 (s.setVm T'.vm) T'.heap.size := by
  obtain ⟨e1, h1⟩ := hB
  refine ⟨?_, ?_⟩
  · rw [e1]; rfl
  · have hS' : (s0.setVm s.vm).Since T'.vm T'.heap.size := e1 ▸ hS
    exact h1.trans hS' hn
theorem Go.callSW (X : Stand p l e R s m args below meth c T locs cells slots) (hx : p.tables.exec = Jvm.exec) {n : Nat} (hB : Bas s0 s n) (hn : n ≤ T.heap.size) (hZ : Z.Warmed39 s.vm) {own : String} {index : Nat} {y : MethodName} {bytes : ByteArray} {maxL : Nat} {ret : Option FieldType}
    (hown : s.vm.findClass own = some m.cls) (hlink : (Jvm.Cond.methodLink own index y).before args s = true) (hstat : (Jvm.Cond.static y).before args s = true) (hinit : (Jvm.Cond.initialized y.cls).before args s = true)
    (hcode : (Jvm.Cond.code y bytes maxL ret).before args s = true) (hy : y.cls ≠ "java/lang/invoke/MethodHandle" ∧ y.cls ≠ "java/lang/invoke/VarHandle")
    {Wt : Nat} {rm : Room} {as' : Array Value} {Q : Option Value → Heap → List Loc → Prop} (hM : WCtr cs N l Z y bytes maxL ret [] rm as' h Q) (wc : (Jvm.Cond.code y bytes maxL ret).before a0 Z = true) (wz : (Jvm.Cond.initialized y.cls).before a0 Z = true) (hf : rm.frames + 1 ≤ R.frames) (hl : Wt + (maxL + 11) + rm.locals ≤ R.locals) (eT : T.heap = h) {hb : Heap} (hC : CHb cs N s hb) (hU : Und N hb T.heap)
    {g : JFrame} (hg : g.method = m) (hsize : g.locals.size = c.maxLocals) {argsL rest : List Value} (hlen : ∀ sig, parseMethodDescriptor y.desc = some sig → argsL.length = sig.parameters.length)
    (hstack : g.stack = argsL.reverse ++ rest) (hW : 2 * g.monitorRoom + (rest.map fun v => v.category).sum ≤ Wt) (hdg : decode c.code g.pc = .ok (.invokestatic index, 3))
    (has : argsL.toArray = as') (hc : cells + rm.cells ≤ R.cells) (hs : slots + rm.slots ≤ R.slots)
    (k : ∀ v s' T' L, Bas s0 s' T'.heap.size → Z.Warmed39 s'.vm → s'.vm.findClass own = some m.cls → CHb cs (fun b => b < T'.heap.size) s' T'.heap → T.heap.size ≤ T'.heap.size → Stand p l e R s' m args below meth c T' (locs ++ L) (cells + rm.cells) (slots + rm.slots) → Q v T'.heap L → Go p e below G T' { g with pc := g.pc + 3, stack := v.toList ++ rest }) : Go p e below G T g := by
  obtain ⟨mk, hnamed⟩ := Cond.code_named hcode
  obtain ⟨methM, cM, hmethM, -, -, -, -, -, -, hsigM⟩ := Cond.code_spec hnamed hcode
  have hstatic : methM.isStatic = true := Cond.static_spec hnamed hmethM hstat
  obtain ⟨kP, hkP, -⟩ := className_of_methodNamed hnamed
  have hinitP : kP.init = .initialized := Cond.initialized_spec (findClass_of_methodNamed hnamed) hkP hinit
  obtain ⟨vm₁, X₁, hstep₁⟩ := X.invokestatic hx hown hlink hnamed hmethM hstatic hkP hinitP hy (g := g) hg (argsL := argsL) (rest := rest) (hlen _ hsigM) hstack hdg
  subst has
  obtain ⟨v, T', L, X', hS, hsz, hQ, hCH, st⟩ := own_backW (g := { g with stack := rest }) hM X₁ hZ wc wz hf hl hg hsize hdg hW (X₁.named hnamed) eT (hC.to X₁ hU) hc hs
  have hsz' : T.heap.size ≤ T'.heap.size := hsz
  have hWs : s.Warmed39 T'.vm := hS.1
  exact Go.st (fun t q => hstep₁ t fun acts => by rw [doInvoke_state]; exact st.trans q) (k v (s.setVm T'.vm) T' L (hB.next hS (Nat.le_trans hn hsz')) (State.Warmed39.trans hZ hWs) (by show T'.vm.findClass own = _; rw [hWs.alike.findClass]; exact hown) hCH hsz' X' hQ)
theorem Go.callIW (X : Stand p l e R s m args below meth c T locs cells slots) (hx : p.tables.exec = Jvm.exec) {n : Nat} (hB : Bas s0 s n) (hn : n ≤ T.heap.size) (hZ : Z.Warmed39 s.vm) {own : String} {index : Nat} {y : MethodName} {bytes : ByteArray} {maxL : Nat} (hy1 : y.name = "<init>")
    (hown : s.vm.findClass own = some m.cls) (hlink : (Jvm.Cond.methodLink own index y).before args s = true) (hinst : (Jvm.Cond.instanceMethod y).before args s = true)
    (hcode : (Jvm.Cond.code y bytes maxL none).before args s = true) (hy : y.cls ≠ "java/lang/invoke/MethodHandle" ∧ y.cls ≠ "java/lang/invoke/VarHandle")
    {Wt : Nat} {rm : Room} {as' : Array Value} {Q : Option Value → Heap → List Loc → Prop} (hM : WCtr cs N l Z y bytes maxL none [] rm as' h Q) (wc : (Jvm.Cond.code y bytes maxL none).before a0 Z = true) (wz : (Jvm.Cond.initialized y.cls).before a0 Z = true) (hf : rm.frames + 1 ≤ R.frames) (hl : Wt + (maxL + 11) + rm.locals ≤ R.locals) (eT : T.heap = h) {hb : Heap} (hC : CHb cs N s hb) (hU : Und N hb T.heap)
    {g : JFrame} (hg : g.method = m) (hsize : g.locals.size = c.maxLocals) {a : Addr} {argsL rest : List Value} (hlen : ∀ sig, parseMethodDescriptor y.desc = some sig → argsL.length = sig.parameters.length)
    (hstack : g.stack = argsL.reverse ++ .ref a :: rest) (hW : 2 * g.monitorRoom + (rest.map fun v => v.category).sum ≤ Wt) (hdg : decode c.code g.pc = .ok (.invokespecial index, 3))
    (has : (.ref a :: argsL).toArray = as') (hc : cells + rm.cells ≤ R.cells) (hs : slots + rm.slots ≤ R.slots)
    (k : ∀ v s' T' L, Bas s0 s' T'.heap.size → Z.Warmed39 s'.vm → s'.vm.findClass own = some m.cls → CHb cs (fun b => b < T'.heap.size) s' T'.heap → T.heap.size ≤ T'.heap.size → Stand p l e R s' m args below meth c T' (locs ++ L) (cells + rm.cells) (slots + rm.slots) → Q v T'.heap L → Go p e below G T' { g with pc := g.pc + 3, stack := v.toList ++ rest }) : Go p e below G T g := by
  have hpl : e.platform.magicAccessors = ({} : Platform).magicAccessors := by rw [X.admits.platform]
  obtain ⟨mk, methM, cM, kP, vm₁, hnamed, hmethM, -, -, -, -, hkP, -, hW₁, hstep₁⟩ := Steps.initColdArgs (e := e) X.here hx X.warmed hpl hown hy1 hy hlink hinst hcode (f := g) hg hlen hstack hdg
  have X₁ := X.noted hW₁
  subst has
  obtain ⟨v, T', L, X', hS, hsz, hQ, hCH, st⟩ := own_backW (g := { g with stack := rest }) hM X₁ hZ wc wz hf hl hg hsize hdg hW (X₁.named hnamed) eT (hC.to X₁ hU) hc hs
  have hsz' : T.heap.size ≤ T'.heap.size := hsz
  have hWs : s.Warmed39 T'.vm := hS.1
  exact Go.st (fun t q => hstep₁ t fun acts => by rw [doInvoke_state]; exact st.trans q) (k v (s.setVm T'.vm) T' L (hB.next hS (Nat.le_trans hn hsz')) (State.Warmed39.trans hZ hWs) (by show T'.vm.findClass own = _; rw [hWs.alike.findClass]; exact hown) hCH hsz' X' hQ)
/-- the same over wider tables: what they find anew is such a String too -/
theorem CHn.wide {V : State} (H : CHn cs N W) (hW : W.Warmed39 V.vm) (hk : ∀ (b : Addr) (c : Cell), N b → W.heap[b]? = some c → V.heap[b]? = some c) (hN : ∀ b, N b → N' b)
    (hf : ∀ (units : Array UInt16) (a : Addr), V.vm.interned.find? (fun p => p.1 == units) = some (units, a) → W.vm.interned.find? (fun p => p.1 == units) = some (units, a) ∨ SlN N' V a units) : CHn cs N' V := by
  intro x hx c k' cf i units a h1 h2 h3 h4 h5 h6
  have hal := hW.alike
  have h1' : W.vm.findClass x.1 = some c := by rw [← hal.findClass]; exact h1
  obtain ⟨k, hkc, -⟩ := Vm.findClass_spec h1'
  obtain ⟨k2, g1, g2, -, g4, -⟩ := hW.2.2.2 c k hkc
  cases h2.symm.trans g1
  have h3' : k.cf = some cf := by rw [g2] at h3; exact h3
  have old := fun q => ((H x hx c k cf i units a h1' hkc h3' h4 h5 q).mv hal hk).up hN
  have found : k.resolved[x.2]? = some none → V.vm.interned.find? (fun p => p.1 == units) = some (units, a) → SlN N' V a units := fun q r => by
    rcases hf units a r with z | z
    · exact old (Or.inr ⟨q, z⟩)
    · exact z
  rcases h6 with h6 | ⟨h6, h7⟩
  · rcases g4 x.2 with q | ⟨q, r, q2, q3⟩
    · exact old (Or.inl (q ▸ h6))
    · rw [h6] at q2
      cases q2
      rcases q3 with q3 | ⟨a', t, si, us, e1, -, e3, e4, e5⟩
      · rw [own_right_string] at q3; cases q3
      · cases e1
        rw [h3'] at e3 e4
        have e6 : si = i := by have := e3.symm.trans h4; simpa using this
        subst e6
        have e7 : us = units := by simpa [ConstantPool.utf8?, h5] using e4.symm
        subst e7
        exact found q e5
  · rcases g4 x.2 with q | ⟨q, r, q2, q3⟩
    · exact found (q ▸ h6) h7
    · rw [h6] at q2; cases q2
theorem AI.ofCell {a : Addr} {ty : FieldType} {xs : List Int32} {c : Cell} (A : Arr Z h a c ty) (hs : c.slots.toList = xs.map Value.int) (hf : ∀ x ∈ xs, fits ty (.int x) = true) (hl : xs.length < 2147483648) : AI Z h a ty xs := by
  have hsz : c.slots.size = xs.length := by rw [← Array.length_toList, hs, List.length_map]
  refine ⟨hl, c.cls, c, A, rfl, by rw [own_ofNat_clamp hl]; exact hsz, own_ofNat_nn hl, fun i hi => ?_, fun i hi => ?_⟩
  · rw [← Array.getElem?_toList, hs, List.getD_eq_getElem?_getD]
    have : i < (xs.map Value.int).length := by rw [List.length_map]; omega
    rw [List.getElem?_eq_getElem this]; rfl
  · have hi' : i < xs.length := by omega
    rw [List.getD_eq_getElem?_getD, List.getElem?_map, List.getElem?_eq_getElem hi']
    exact hf _ (List.getElem_mem hi')
def own_bytes (units : Array UInt16) : List Int32 := units.toList.map fun u => u.toUInt8.toInt8.toInt32
theorem own_sl_core {q : SQ} {cS : ClassId} {u : Array UInt16} (h2 : Sl q cS W) (h3 : ∃ kS : Class, W.vm.classes[cS]? = some kS ∧ kS.kind = .ordinary ∧ q.sC.slots.size = kS.instanceTypes.size) (h5 : q.SA.slots = stringBytes u) (hZ : Z.Warmed39 W.vm) (hlat : u.all (· < 256) = true) :
    Exa Z W.heap q.sa "java/lang/String" ∧ Fld Z W.heap q.sa "java/lang/String" "value" "[B" (.ref q.sd) ∧ Fld Z W.heap q.sa "java/lang/String" "coder" "B" (.int 0) ∧ AI Z W.heap q.sd .byte (own_bytes u) := by
  obtain ⟨⟨s1, s2, s3, s4, s5, s6, s7, s8, s9, s10, s11, s12, s13, s14, s15, s16⟩, hc1, hc2⟩ := h2
  obtain ⟨kS, k1, k2, k3⟩ := h3
  have hal : W.vm.Alike Z.vm := hZ.alike.symm
  obtain ⟨cv, kv, iv, v1, v2⟩ := found_asg hal s4
  obtain ⟨cc, kc, ic, w1, w2⟩ := found_asg hal s5
  obtain ⟨kZ, hkZ, ekZ⟩ := hal.2.2 _ _ k1
  refine ⟨⟨q.sC, kZ, s1, by rw [hal.findClass, hc2]; exact hc1, by rw [hc2]; exact hkZ, s3, fun _ => by rw [ekZ]; exact k3⟩, ⟨q.sC, cv, kv, iv, q.fSV, s1, v1, s6, s2, s3, v2, s8⟩, ⟨q.sC, cc, kc, ic, q.fSC, s1, w1, s7, s2, s3, w2, s9⟩, ?_⟩
  refine AI.ofCell (c := q.SA) ⟨s10, State.isArrayOf_alike hal s11, s12⟩ ?_ ?_ ?_
  · rw [h5, stringBytes_lat hlat]; simp [own_bytes, byteValue, Function.comp_def]
  · intro x hx
    simp only [own_bytes, List.mem_map] at hx
    obtain ⟨y, -, rfl⟩ := hx
    exact fits_of_int8 _
  · have : (own_bytes u).length = q.SA.slots.size := by rw [h5, stringBytes_lat hlat]; simp [own_bytes]
    rw [this, s13]; exact s14
theorem SlN.facts {a : Addr} {u : Array UInt16} (F : SlN N W a u) (hZ : Z.Warmed39 W.vm) (hlat : u.all (· < 256) = true) :
    ∃ v, Exa Z W.heap a "java/lang/String" ∧ Fld Z W.heap a "java/lang/String" "value" "[B" (.ref v) ∧ Fld Z W.heap a "java/lang/String" "coder" "B" (.int 0) ∧ AI Z W.heap v .byte (own_bytes u) ∧ N a ∧ N v := by
  obtain ⟨q, cS, rfl, h2, h3, h4, h5, h6, h7⟩ := F
  obtain ⟨f1, f2, f3, f4⟩ := own_sl_core h2 h3 h5 hZ hlat
  exact ⟨q.sd, f1, f2, f3, f4, h6, h7⟩
theorem own_slIn_facts {a : Addr} {u : Array UInt16} {lo hi : Nat} (F : SlIn lo hi W a u) (hZ : Z.Warmed39 W.vm) (hlat : u.all (· < 256) = true) :
    ∃ v, Exa Z W.heap a "java/lang/String" ∧ Fld Z W.heap a "java/lang/String" "value" "[B" (.ref v) ∧ Fld Z W.heap a "java/lang/String" "coder" "B" (.int 0) ∧ AI Z W.heap v .byte (own_bytes u) ∧ ((a < lo ∧ v < lo) ∨ (hi ≤ a ∧ hi ≤ v)) := by
  obtain ⟨q, cS, rfl, h2, h3, h4, h5, h6⟩ := F
  obtain ⟨f1, f2, f3, f4⟩ := own_sl_core h2 h3 h5 hZ hlat
  exact ⟨q.sd, f1, f2, f3, f4, h6⟩
theorem own_chr (n : Nat) (h : n < 256) : (Char.ofNat n).toNat = n := by
  have : ∀ k : Fin 256, (Char.ofNat k.val).toNat = k.val := by decide +kernel
  exact this ⟨n, h⟩
theorem own_units {us : Array UInt16} {text : String} (h : utf16ToString? us = some text) (ht : ∀ c ∈ text.toList, c.toNat < 256) : text.toList = us.toList.map fun u => Char.ofNat u.toNat := by
  have hl := lat_of_text h ht
  rw [Array.all_eq_true_iff_forall_mem] at hl
  have := app_eq us.toList "" text (fun u hu => by have := hl u (Array.mem_toList_iff.mp hu); simpa using this) h
  simpa using this
theorem own_units_inj {us us' : Array UInt16} {text : String} (h : utf16ToString? us = some text) (h' : utf16ToString? us' = some text) (ht : ∀ c ∈ text.toList, c.toNat < 256) : us = us' := by
  have e := (own_units h ht).symm.trans (own_units h' ht)
  have l1 := lat_of_text h ht
  have l2 := lat_of_text h' ht
  rw [Array.all_eq_true_iff_forall_mem] at l1 l2
  apply Array.toList_inj.mp
  have key : ∀ (L L' : List UInt16), (∀ u ∈ L, u < 256) → (∀ u ∈ L', u < 256) → L.map (fun u => Char.ofNat u.toNat) = L'.map (fun u => Char.ofNat u.toNat) → L = L' := by
    intro L
    induction L with
    | nil => intro L' _ _ q; cases L' with | nil => rfl | cons => simp at q
    | cons x L ih =>
      intro L' g1 g2 q
      cases L' with
      | nil => simp at q
      | cons y L' =>
        simp only [List.map_cons, List.cons.injEq] at q
        have a1 : x.toNat < 256 := by have := g1 x (by simp); simpa [UInt16.lt_iff_toNat_lt] using this
        have a2 : y.toNat < 256 := by have := g2 y (by simp); simpa [UInt16.lt_iff_toNat_lt] using this
        have b1 : (Char.ofNat x.toNat).toNat = x.toNat := own_chr _ (by omega)
        have b2 : (Char.ofNat y.toNat).toNat = y.toNat := own_chr _ (by omega)
        have c1 : x.toNat = y.toNat := by rw [← b1, ← b2, q.1]
        rw [UInt16.toNat_inj.mp c1, ih L' (fun u hu => g1 u (by simp [hu])) (fun u hu => g2 u (by simp [hu])) q.2]
  exact key _ _ (fun u hu => by have := l1 u (Array.mem_toList_iff.mp hu); simpa using this) (fun u hu => by have := l2 u (Array.mem_toList_iff.mp hu); simpa using this) e
/-- ldc of a String constant whose entry is resolved -/
theorem Go.ldcR (X : Stand p l e R s m args below meth c T locs cells slots) (hx : p.tables.exec = Jvm.exec) (hZ : Z.Warmed39 s.vm) {own text : String} {index : Nat} (hown : s.vm.findClass own = some m.cls) (w : (Jvm.Cond.stringLink own index text).before a0 Z = true) {a : Addr}
    (hr : ∃ k₂, s.vm.classes[m.cls]? = some k₂ ∧ k₂.resolved[index]? = some (some (.string a))) {g : JFrame} (hg : g.method = m) (hdg : decode c.code g.pc = .ok (.ldc index, 2))
    (k : Go p e below G T { g with pc := g.pc + 2, stack := .ref a :: g.stack }) : Go p e below G T g := by
  have hlink : (Jvm.Cond.stringLink own index text).before args s = true := mvS (s := s) hZ w
  obtain ⟨k0, cf, i, units, hk, hcf, hc, hu, hnm, hdec, hres⟩ := Cond.stringLink_spec hown hlink
  obtain ⟨k₂, q1, q2⟩ := hr
  cases hk.symm.trans q1
  obtain ⟨k', g1, g2, -, g4, -⟩ := X.warmed.2.2 _ _ hk
  have hcf' : k'.cf = some cf := by rw [g2]; exact hcf
  have hr' : k'.resolved[index]? = some (some (.string a)) := by
    rcases g4 index with z | ⟨z, -⟩
    · exact z.trans q2
    · rw [q2] at z; cases z
  subst hg
  refine Go.st (fun t hrest => ?_) k
  jvm_step X.here [hx, hdg, ldc.wp_string (e := e) (s := T) (f := g) X.here.top g1 hcf' hc hr']
  exact hrest
theorem Go.ldcW (X : Stand p l e R s m args below meth c T locs cells slots) (hx : p.tables.exec = Jvm.exec) {n : Nat} (hB : Bas s0 s n) (hn : n ≤ T.heap.size) (hZ : Z.Warmed39 s.vm) {own text : String} {index : Nat} (hown : s.vm.findClass own = some m.cls) (w : (Jvm.Cond.stringLink own index text).before a0 Z = true)
    (wS : ∀ d ∈ Bundle.stringAtoms, d.before a0 Z = true) (htx : ∀ c ∈ text.toList, c.toNat < 256) {hb : Heap} (hC : CHb cs N s hb) (hU : Und N hb T.heap) (hm : (own, index) ∈ cs) (hfr : ∀ y ∈ locs, s.heap.size ≤ y.base)
    {g : JFrame} (hg : g.method = m) (hdg : decode c.code g.pc = .ok (.ldc index, 2)) {nn : Nat} (hnn : 4 * text.toList.length ≤ nn) (hbig : nn ≤ 536870912) (hc : cells + 2 ≤ R.cells) (hs : slots + (nn + 4) ≤ R.slots)
    (k : ∀ a v s' T' units locs', utf16ToString? units = some text → Bas s0 s' T'.heap.size → Z.Warmed39 s'.vm → s'.vm.findClass own = some m.cls → CHb cs (fun b => N b ∨ T.heap.size ≤ b) s' T'.heap → Ext T.heap T'.heap → s'.heap = s.heap → (∀ y ∈ locs', y ∈ locs) →
      Stand p l e R s' m args below meth c T' locs' (cells + 2) (slots + (nn + 4)) → (∃ k₂, s'.vm.classes[m.cls]? = some k₂ ∧ k₂.resolved[index]? = some (some (.string a))) →
      Exa Z T'.heap a "java/lang/String" → Fld Z T'.heap a "java/lang/String" "value" "[B" (.ref v) → Fld Z T'.heap a "java/lang/String" "coder" "B" (.int 0) → AI Z T'.heap v .byte (own_bytes units) → ((N a ∧ N v) ∨ (T.heap.size ≤ a ∧ T.heap.size ≤ v)) →
      Go p e below G T' { g with pc := g.pc + 2, stack := .ref a :: g.stack }) : Go p e below G T g := by
  have hlink : (Jvm.Cond.stringLink own index text).before args s = true := mvS (s := s) hZ w
  have hCT : CHn cs N T := hC.to X hU
  obtain ⟨k0, cf, i, units, hk, hcf, hcp, hu, hnm, hdec, hres⟩ := Cond.stringLink_spec hown hlink
  have hlat : units.all (· < 256) = true := lat_of_text hdec htx
  obtain ⟨k', g1, g2, -, g4, -⟩ := X.warmed.2.2 _ _ hk
  have hcf' : k'.cf = some cf := by rw [g2]; exact hcf
  have hsame : k'.resolved[index]? = k0.resolved[index]? := by
    rcases g4 index with z | ⟨z, r, z2, z3⟩
    · exact z
    · exfalso; cases r <;> simp [State.rightAt, hk, hcf, hnm] at z3
  have hownT : T.vm.findClass own = some m.cls := by rw [X.warmed.alike.findClass]; exact hown
  have hint : T.vm.interned = s.vm.interned := X.warmed.interned_eq
  have hZT : Z.Warmed39 T.vm := wtrans hZ X.warmed
  rcases hres with hop | ⟨a, hra⟩
  · cases hf : s.vm.interned.find? (fun p => p.1 == units) with
    | some pr =>
      obtain ⟨u', a⟩ := pr
      have hu' : u' = units := by have := Array.find?_some hf; simpa using this
      subst hu'
      have hopT : k'.resolved[index]? = some none := hsame.trans hop
      have hfT : T.vm.interned.find? (fun p => p.1 == u') = some (u', a) := by rw [hint]; exact hf
      have hSl : SlN N T a u' := hCT _ hm _ k' cf i u' a hownT g1 hcf' hcp hu (Or.inr ⟨hopT, hfT⟩)
      have q2 : k0.cf.bind (namesOf? ·.constantPool index) = some (.string text) := by rw [hcf]; exact hnm
      have q3 : k0.cf.bind (·.constantPool[index]?) = some (.string i) := by rw [hcf]; exact hcp
      have q4 : k0.cf.bind (·.constantPool.utf8? i) = some u' := by rw [hcf]; simp [ConstantPool.utf8?, hu]
      have hW : s.Warmed39 (T.vm.noted m.cls index (.string a)) := X.warmed.wide.notedString hk (Or.inl hop) q2 q3 q4 hfT
      have X2 := (X.mono (Nat.le_add_right cells 2) (Nat.le_add_right slots (nn + 4))).retabled hW
      have hSl2 : SlN N (T.setVm (T.vm.noted m.cls index (.string a))) a u' := hSl.mv (X.warmed.alike.symm.trans hW.alike) (fun _ _ _ q => q)
      obtain ⟨v, f1, f2, f3, f4, f5, f6⟩ := hSl2.facts (State.Warmed39.trans hZ hW) hlat
      have hS : s.Since (T.vm.noted m.cls index (.string a)) T.heap.size := ⟨hW, fun j pr hj hp => by
        have hp' : T.vm.interned[j]? = some pr := hp
        rw [hint] at hp'
        exact absurd (Array.getElem?_eq_some_iff.mp hp').1 (Nat.not_lt.mpr hj)⟩
      have hCH : CHb cs (fun b => N b ∨ T.heap.size ≤ b) (s.setVm (T.vm.noted m.cls index (.string a))) T.heap :=
        CHn.wide (V := ({ s.setVm (T.vm.noted m.cls index (.string a)) with heap := T.heap } : State)) hC (show ({ s with heap := hb } : State).Warmed39 _ from hW) hU.2 (fun _ q => Or.inl q) (fun us b q => Or.inl (by
          have q' : T.vm.interned.find? (fun p => p.1 == us) = some (us, b) := q
          rw [hint] at q'; exact q'))
      refine Go.st (fun t hrest => ?_) (k a v (s.setVm (T.vm.noted m.cls index (.string a))) (T.setVm (T.vm.noted m.cls index (.string a))) u' locs hdec (hB.next (T' := T.setVm (T.vm.noted m.cls index (.string a))) hS hn) (State.Warmed39.trans hZ hW) (by show (T.vm.noted m.cls index (.string a)).findClass own = _; rw [hW.alike.findClass]; exact hown) hCH ⟨Nat.le_refl _, fun _ _ q => q⟩ rfl (fun _ q => q) X2 ⟨_, Vm.classes_note_self index (.string a) g1, Class.resolved_note_self (.string a) hopT⟩ f1 f2 f3 f4 (Or.inl ⟨f5, f6⟩))
      subst hg
      jvm_step X.here [hx, hdg, ldc.wp_string_found (e := e) (s := T) (f := g) X.here.top g1 hcf' hcp hu hopT hfT]
      exact hrest
    | none =>
      have X0 : Stand p l e R s m args below meth c T [] cells slots := Stand.dropFresh (locs := []) (J := locs) (by simpa using X) hfr
      have hheld : ConstHeldL s own index := by
        intro c2 k2 cf2 i2 us2 a2 h1 h2 h3 h4 h5 h6
        cases hown.symm.trans h1
        cases hk.symm.trans h2
        cases hcf.symm.trans h3
        cases hcp.symm.trans h4
        cases hu.symm.trans h5
        rcases h6 with h6 | ⟨-, h6⟩
        · rw [hop] at h6; cases h6
        · rw [hf] at h6; cases h6
      have hSat : ∀ d ∈ Bundle.stringAtoms, d.before args s = true := fun d hd => by
        have q := wS d hd
        simp only [Bundle.stringAtoms, List.mem_cons, List.not_mem_nil, or_false] at hd
        rcases hd with rfl | rfl | rfl | rfl | rfl | rfl | rfl
        · exact mv hZ q
        · exact mv hZ q
        · exact mvA hZ q
        · exact mv hZ q
        · exact mv hZ q
        · exact mv hZ q
        · exact mv hZ q
      obtain ⟨a, T₂, X2, hS, hres2, hkeep, hI1, hI2, ⟨us, hus, hin⟩, st⟩ := X0.ldcStringColdSl2 hx hown hlink hSat hheld (fun us2 h2 => lat_of_text h2 htx) hg hdg hnn hbig hc hs
      have hlat2 : us.all (· < 256) = true := lat_of_text hus htx
      have hZ2 : Z.Warmed39 T₂.vm := State.Warmed39.trans hZ hS.1
      have eus : us = units := own_units_inj hus hdec htx
      subst eus
      obtain ⟨v, f1, f2, f3, f4, f5⟩ := own_slIn_facts hin hZ2 hlat2
      have hE : Ext T.heap T₂.heap := ext_of hkeep
      have hfa : T₂.vm.interned.find? (fun p => p.1 == us) = some (us, a) := by
        obtain ⟨k2, hk2, hr2⟩ := hres2
        obtain ⟨k3, b1, b2, -, b4, -⟩ := hS.1.2.2.2 _ _ hk
        cases hk2.symm.trans b1
        rcases b4 index with z | ⟨-, r, z2, z3⟩
        · rw [hop, hr2] at z; cases z
        · rw [hr2] at z2
          cases z2
          rcases z3 with z3 | ⟨a3, t3, si3, us3, y1, -, y3, y4, y5⟩
          · rw [own_right_string] at z3; cases z3
          · cases y1
            rw [hcf] at y3 y4
            have e6 : si3 = i := by have := y3.symm.trans hcp; simpa using this
            subst e6
            have e7 : us3 = us := by simpa [ConstantPool.utf8?, hu] using y4.symm
            subst e7
            exact y5
      have hnew : s.heap.size ≤ a := by
        obtain ⟨more, hmore⟩ := hS.1.2.2.1
        have hmem : (us, a) ∈ T₂.vm.interned := Array.mem_of_find?_eq_some hfa
        rw [hmore] at hmem
        rcases Array.mem_append.mp hmem with z | z
        · rw [Array.find?_eq_none] at hf
          exact absurd (by simp) (hf _ z)
        · obtain ⟨j, hj, ej⟩ := Array.mem_iff_getElem.mp z
          have := hS.2 (s.vm.interned.size + j) (us, a) (Nat.le_add_right _ _) (by rw [hmore, Array.getElem?_append_right (Nat.le_add_right _ _), Nat.add_sub_cancel_left, Array.getElem?_eq_getElem hj, ej])
          exact this.1
      have hSl : SlN (fun b => N b ∨ T.heap.size ≤ b) T₂ a us := by
        obtain ⟨q, cS, j1, j2, j3, j4, j5, j6⟩ := hin
        rcases j6 with ⟨z, -⟩ | ⟨z1, z2⟩
        · rw [j1] at z; exact absurd z (Nat.not_lt.mpr hnew)
        · exact ⟨q, cS, j1, j2, j3, j4, j5, Or.inr z1, Or.inr z2⟩
      have hCH : CHb cs (fun b => N b ∨ T.heap.size ≤ b) (s.setVm T₂.vm) T₂.heap :=
        CHn.wide (V := ({ s.setVm T₂.vm with heap := T₂.heap } : State)) hC (show ({ s with heap := hb } : State).Warmed39 _ from hS.1) (hU.ext hE).2 (fun _ q => Or.inl q) (fun us2 b q => by
          have q' : T₂.vm.interned.find? (fun p => p.1 == us2) = some (us2, b) := q
          rcases hI2 with y | ⟨u3, a3, y1, y2⟩
          · rw [y, hint] at q'; exact Or.inl q'
          · have q0 := q'
            rw [y2, hint, Array.find?_push] at q'
            cases hf2 : s.vm.interned.find? (fun p => p.1 == us2) with
            | some pr => rw [hf2] at q'; exact Or.inl (by simpa [hf2] using q')
            | none =>
              rw [hf2] at q'
              simp only [Option.none_or] at q'
              split at q'
              · rename_i hbe
                have hu3 : u3 = us2 := by simpa using hbe
                subst hu3
                have hb3 : a3 = b := by simpa using q'
                subst hb3
                have e8 : u3 = us := own_units_inj y1 hus htx
                subst e8
                rw [hfa] at q0
                cases q0
                exact Or.inr (hSl.mv (V := ({ s.setVm T₂.vm with heap := T₂.heap } : State)) (Vm.Alike.refl _) (fun _ _ _ q => q))
              · cases q')
      refine Go.st st (k a v (s.setVm T₂.vm) T₂ us [] hus (hB.next hS (Nat.le_trans hn hE.1)) hZ2 (by show T₂.vm.findClass own = _; rw [hS.1.alike.findClass]; exact hown) hCH hE rfl (fun _ q => nomatch q) X2 hres2 f1 f2 f3 f4 ?_)
      rcases f5 with ⟨z, -⟩ | z
      · exact absurd z (Nat.not_lt.mpr hnew)
      · exact Or.inr z
  · have hraT : k'.resolved[index]? = some (some (.string a)) := hsame.trans hra
    have hSl : SlN N T a units := hCT _ hm _ k' cf i units a hownT g1 hcf' hcp hu (Or.inl hraT)
    obtain ⟨v, f1, f2, f3, f4, f5, f6⟩ := hSl.facts hZT hlat
    have X2 := X.mono (Nat.le_add_right cells 2) (Nat.le_add_right slots (nn + 4))
    have hCH : CHb cs (fun b => N b ∨ T.heap.size ≤ b) s T.heap := CHn.up (CHn.mv (V := ({ s with heap := T.heap } : State)) hC (State.WarmedH.refl _) hU.2) (fun _ q => Or.inl q)
    have hB2 : Bas s0 s T.heap.size := ⟨hB.1, hB.2.1, hB.2.2.mono hn⟩
    refine Go.st (fun t hrest => ?_) (k a v s T units locs hdec hB2 hZ hown hCH ⟨Nat.le_refl _, fun _ _ q => q⟩ rfl (fun _ q => q) X2 ⟨_, hk, hra⟩ f1 f2 f3 f4 (Or.inl ⟨f5, f6⟩))
    subst hg
    jvm_step X.here [hx, hdg, ldc.wp_string (e := e) (s := T) (f := g) X.here.top g1 hcf' hcp hraT]
    exact hrest
theorem Go.retVW (X : Stand p l e R s m args below meth c T locs cells slots) (hx : p.tables.exec = Jvm.exec) {n : Nat} (hB : Bas s0 s n) (hn : n ≤ T.heap.size) {hb : Heap} (hC : CHb cs N s hb) (hU : Und N hb T.heap) {pc : Nat} {Ls : Array Slot} {Q : Option Value → Heap → List Loc → Prop} {kc ks : Nat} {rest : List Value} {w : Value} {t : FieldType} (hret : meth.sig.returnType = some t) (hlk : meth.locks = false) (ht : t.isReference = true) (hw : w.isRef = true)
    (hd : decode c.code pc = .ok (.areturn, 1)) (hQ : Q (some w) T.heap locs) (hc : cells ≤ kc) (hs : slots ≤ ks) : Go p e below (EndW cs s0 Q kc ks) T (mkF m pc Ls (w :: rest)) :=
  Go.doneW X hB hn (hC.to X hU) (fun q => by rw [hret] at q; cases q) hlk (fun fs hr => retOut X hx hret (by rcases ref_cases hw with rfl | ⟨z, rfl⟩ <;> cases t <;> first | rfl | cases ht) (Or.inr (Or.inr (Or.inr (Or.inr ⟨rfl, ht, hw⟩)))) hd hr) hQ hc hs
theorem Go.retBW (X : Stand p l e R s m args below meth c T locs cells slots) (hx : p.tables.exec = Jvm.exec) {n : Nat} (hB : Bas s0 s n) (hn : n ≤ T.heap.size) {hb : Heap} (hC : CHb cs N s hb) (hU : Und N hb T.heap) {pc : Nat} {Ls : Array Slot} {Q : Option Value → Heap → List Loc → Prop} {kc ks : Nat} {rest : List Value} {z : Int32} {t : FieldType} (hret : meth.sig.returnType = some t) (hlk : meth.locks = false) (ht : t = .boolean ∨ t = .byte ∨ t = .char ∨ t = .short)
    (hd : decode c.code pc = .ok (.ireturn, 1)) (hQ : Q (some (.int (nar t z))) T.heap locs) (hc : cells ≤ kc) (hs : slots ≤ ks) : Go p e below (EndW cs s0 Q kc ks) T (mkF m pc Ls (.int z :: rest)) :=
  Go.doneW X hB hn (hC.to X hU) (fun q => by rw [hret] at q; cases q) hlk (fun fs hr => retN X hx hret ht hd hr) hQ hc hs
theorem Go.ret0W (X : Stand p l e R s m args below meth c T locs cells slots) (hx : p.tables.exec = Jvm.exec) {n : Nat} (hB : Bas s0 s n) (hn : n ≤ T.heap.size) {hb : Heap} (hC : CHb cs N s hb) (hU : Und N hb T.heap) {pc : Nat} {Ls : Array Slot} {Q : Option Value → Heap → List Loc → Prop} {kc ks : Nat} (hret : meth.sig.returnType = none) (hlk : meth.locks = false)
    (hd : decode c.code pc = .ok (.return_, 1)) (hQ : Q none T.heap locs) (hc : cells ≤ kc) (hs : slots ≤ ks) : Go p e below (EndW cs s0 Q kc ks) T (mkF m pc Ls []) :=
  Go.doneW X hB hn (hC.to X hU) (fun _ => rfl) hlk (fun fs hr => X.returnOut hx hret hd hr) hQ hc hs
/-! from the statement's word on held constants -/
theorem own_eqI {args : Array Value} {t : Term} {v : Int32} (h : (Cond.eq t (Term.int v)).before args s = true) : t.eval args s none [] s = some (.int v) := by
  have h := Cond.before_iff.mp h
  obtain ⟨x, y, h1, h2, k1, k2⟩ := cmp_v (Or.inl h)
  cases Option.some.inj ((Term.int_eval v).symm.trans h2)
  obtain ⟨z, rfl⟩ := k2
  have q := gotT (Cond.eq_ints h1 (Term.int_eval v)) h
  rw [h1, q]
theorem own_slOf {a : Addr} {units : Array UInt16} (hl : units.all (· < 256) = true) (hbig : units.size < 2147483648) (hw : (Jvm.Lit.latin1L units).all (fun w => w.before #[.ref a] s) = true)
    (harr : (Jvm.Cond.arrayClass .byte).before #[.ref a] s = true) (hins : (Jvm.Cond.instantiable "java/lang/String" 4).before #[.ref a] s = true) : SlOf s a units := by
  have Wd := fun w hm => List.all_eq_true.mp hw w hm
  have ev0 : (Term.arg 0).eval #[.ref a] s none [] s = some (.ref a) := rfl
  have w1 : (Jvm.Cond.exactly (.arg 0) "java/lang/String").before #[.ref a] s = true := Wd _ (by simp [Jvm.Lit.latin1L])
  have c2 := own_eqI (Wd (Jvm.Cond.eq Jvm.Lit.C0 (.int 0)) (by simp [Jvm.Lit.latin1L]))
  have w3 : (Jvm.Cond.exactly Jvm.Lit.V0 "[B").before #[.ref a] s = true := Wd _ (by simp [Jvm.Lit.latin1L])
  have c4 := own_eqI (Wd (Jvm.Cond.eq (.length Jvm.Lit.V0) (.int (Int32.ofNat units.size))) (by simp [Jvm.Lit.latin1L]))
  have c5 : ∀ j, j < units.size → (Term.elem Jvm.Lit.V0 (.int (Int32.ofNat j))).eval #[.ref a] s none [] s = some (.int (Jvm.Lit.byteI (units.getD j 0))) := fun j hj =>
    own_eqI (Wd _ (List.mem_append_right _ (List.mem_map.mpr ⟨j, List.mem_range.mpr hj, rfl⟩)))
  have E : Exa s s.heap a "java/lang/String" := Exa.start ev0 (Cond.before_iff.mp w1)
  have FC : Fld s s.heap a "java/lang/String" "coder" "B" (.int 0) := Fld.start (by rw [← fld_at (t := .arg 0) (args := #[.ref a]) (first := s) (o := none) (idx := []) ev0]; exact c2)
  obtain ⟨sd, SA, hev, hAt, -⟩ := Term.length_spec c4
  have FV : Fld s s.heap a "java/lang/String" "value" "[B" (.ref sd) := Fld.start (by rw [← fld_at (t := .arg 0) (args := #[.ref a]) (first := s) (o := none) (idx := []) ev0]; exact hev)
  have h31 := Jvm.Free.SBG.length_lt hev hAt c4
  obtain ⟨sd', cB, SA', kB, hevB, hfB, hcB, hkB, -, hclsB, -⟩ := Cond.exactly_spec w3
  cases hev.symm.trans hevB
  obtain ⟨hcell, hunk, hst, -⟩ := State.arrayAt?_spec hAt
  cases hcell.symm.trans hcB
  obtain ⟨cA, kA, comp, f1, f2, f3⟩ := Cond.arrayClass_spec harr
  have f1' : s.vm.findClass "[B" = some cA := f1
  cases hfB.symm.trans f1'
  have hArr : s.isArrayOf SA .byte := ⟨fun k hk => (by rw [hk] at hst; cases hst), kA, (by rw [hclsB]; exact f2), comp, f3⟩
  have hsz : SA.slots.size = units.size := by
    have e : (Term.length Jvm.Lit.V0).eval #[.ref a] s none [] s = some (.int (Int32.ofNat SA.slots.size)) := by simp [Term.eval] at hev ⊢; simp [hev, hAt, h31]
    have h2 : Int32.ofNat SA.slots.size = Int32.ofNat units.size := by simpa using Option.some.inj (e.symm.trans c4)
    have := congrArg Int32.toInt h2
    rw [Int32.toInt_ofNat_small h31, Int32.toInt_ofNat_small (by omega)] at this; omega
  have hat : ∀ j, j < units.size → SA.slots[j]? = some (.int (Jvm.Lit.byteI (units.getD j 0))) := fun j hj => by
    have e1 := c5 j hj
    rw [Jvm.Free.SBG.elem_at (ix := .int (Int32.ofNat j)) hev hAt (by omega) h31 rfl] at e1; exact e1
  have hslots : SA.slots = stringBytes units := by
    rw [stringBytes_lat hl]
    apply Array.ext
    · rw [hsz, Array.size_map]
    · intro j h1 h2
      have hj : j < units.size := by omega
      have e := hat j hj
      rw [Array.getElem?_eq_getElem h1] at e
      rw [Option.some.inj e, Array.getElem_map]
      simp [byteValue, Jvm.Lit.byteI, Array.getD, hj]
  have hne : a ≠ sd := ne_arr E hins ⟨hcell, hArr, hunk⟩
  obtain ⟨cell, k, e1, e2, e3, e4, e5⟩ := E
  obtain ⟨cv, cfv, kv, iv, fv, v1, v2, v3, v4, v5, v6, v7⟩ := FV
  cases e1.symm.trans v1
  obtain ⟨cc, cfc, kc, ic, fc, x1, x2, x3, x4, x5, x6, x7⟩ := FC
  cases e1.symm.trans x1
  obtain ⟨cI, kI, i1, i2, i3, -⟩ := Cond.instantiable_spec hins
  cases e2.symm.trans i1
  cases e3.symm.trans i2
  refine ⟨(a, cell, fv, fc, sd, SA, SA.slots.size), cell.cls, rfl, ⟨⟨e1, v4, v5, ⟨cfv, kv, iv, v2, v6⟩, ⟨cfc, kc, ic, x2, x6⟩, v3, x3, v7, x7, hcell, hArr, hunk, rfl, h31, hne, fun j hj => ?_⟩, e2, rfl⟩, ⟨k, e3, i3, e5 i3⟩, by rw [hclsB]; exact hfB, hslots⟩
  have hj2 : j < SA.slots.size := hj
  have hj' : j < units.size := by omega
  have := hat j hj'
  show fits .byte (SA.slots.getD j .null) = true
  rw [Array.getD_eq_getD_getElem?, this]
  exact fits_of_int8 _
theorem own_heldL {args : Array Value} {own text : String} {index : Nat} (hh : Jvm.Lit.constHeld s own index) (hlink : (Jvm.Cond.stringLink own index text).before args s = true) (htx : ∀ c ∈ text.toList, c.toNat < 256)
    (hcw : Jvm.Lit.compactW.before args s = true) (harr : (Jvm.Cond.arrayClass .byte).before args s = true) (hins : (Jvm.Cond.instantiable "java/lang/String" 4).before args s = true) : ConstHeldL s own index := by
  intro c k cf i units a hc hk hcf hp hu hor
  obtain ⟨k', cf', i', units', hk', hcf', hp', hu', -, htext, -⟩ := Cond.stringLink_spec hc hlink
  cases hk.symm.trans hk'
  cases hcf.symm.trans hcf'
  cases hp.symm.trans hp'
  cases hu.symm.trans hu'
  have hlat := lat_of_text htext htx
  have q := hh c k cf i units a hc hk hcf hp hu hlat (by rw [← hcw]; rfl) hor
  exact own_slOf hlat q.1 q.2 (by simpa [Cond.before, Cond.holds, Cond.value] using harr) (tableWord_moved rfl hins)
end GoWide
theorem ef_0 (m : MethodId) (x0 : Int32) : entryFrame m #[(.int x0)] 1 = mkF m 0 #[.val (.int x0)] [] := by first | (simp [entryFrame, mkF, argsToLocals, Value.category]; done) | rfl
theorem pn_1 : plainName "java/lang/StringUTF16" = true := by first | (simp [plainName, overriddenIn]; done) | decide +kernel
theorem pd_2 : parseMethodDescriptor "(I)I" = some ⟨[.int], some .int⟩ := by decide +kernel
theorem ef_3 (m : MethodId) (x0 : Addr) (x1 : Int32) (x2 : Int32) : entryFrame m #[(.ref x0), (.int x1), (.int x2)] 3 = mkF m 0 #[.val (.ref x0), .val (.int x1), .val (.int x2)] [] := by first | (simp [entryFrame, mkF, argsToLocals, Value.category]; done) | rfl
theorem pd_4 : parseMethodDescriptor "([BII)V" = some ⟨[(.array .byte), .int, .int], none⟩ := by decide +kernel
theorem ef_5 (m : MethodId) (x0 : Addr) (x1 : Int32) (x2 : Int32) : entryFrame m #[(.ref x0), (.int x1), (.int x2)] 5 = mkF m 0 #[.val (.ref x0), .val (.int x1), .val (.int x2), .unset, .unset] [] := by first | (simp [entryFrame, mkF, argsToLocals, Value.category]; done) | rfl
theorem pd_6 : parseMethodDescriptor "(I)[B" = some ⟨[.int], some (.array .byte)⟩ := by decide +kernel
theorem ef_7 (m : MethodId) (x0 : Addr) (x1 : Int32) : entryFrame m #[(.ref x0), (.int x1)] 2 = mkF m 0 #[.val (.ref x0), .val (.int x1)] [] := by first | (simp [entryFrame, mkF, argsToLocals, Value.category]; done) | rfl
theorem ef_8 (m : MethodId) (x0 : Addr) (x1 : Int32) (x2 : Addr) (x3 : Int32) (x4 : Int32) : entryFrame m #[(.ref x0), (.int x1), (.ref x2), (.int x3), (.int x4)] 7 = mkF m 0 #[.val (.ref x0), .val (.int x1), .val (.ref x2), .val (.int x3), .val (.int x4), .unset, .unset] [] := by first | (simp [entryFrame, mkF, argsToLocals, Value.category]; done) | rfl
theorem ef_9 (m : MethodId) (x0 : Addr) (x1 : Int32) (x2 : Int32) : entryFrame m #[(.ref x0), (.int x1), (.int x2)] 6 = mkF m 0 #[.val (.ref x0), .val (.int x1), .val (.int x2), .unset, .unset, .unset] [] := by first | (simp [entryFrame, mkF, argsToLocals, Value.category]; done) | rfl
theorem pd_10 : parseMethodDescriptor "([CI[BII)I" = some ⟨[(.array .char), .int, (.array .byte), .int, .int], some .int⟩ := by decide +kernel
theorem pd_11 : parseMethodDescriptor "([CII)[B" = some ⟨[(.array .char), .int, .int], some (.array .byte)⟩ := by decide +kernel
theorem pd_12 : parseMethodDescriptor "([BI)C" = some ⟨[(.array .byte), .int], some .char⟩ := by decide +kernel
theorem ef_13 (m : MethodId) (x0 : Addr) (x1 : Addr) (x2 : Int32) (x3 : Int32) : entryFrame m #[(.ref x0), (.ref x1), (.int x2), (.int x3), .null] 6 = mkF m 0 #[.val (.ref x0), .val (.ref x1), .val (.int x2), .val (.int x3), .val .null, .unset] [] := by first | (simp [entryFrame, mkF, argsToLocals, Value.category]; done) | rfl
theorem pd_14 : parseMethodDescriptor "([BI)B" = some ⟨[(.array .byte), .int], some .byte⟩ := by decide +kernel
theorem pn_15 : plainName "java/lang/String" = true := by first | (simp [plainName, overriddenIn]; done) | decide +kernel
theorem ef_16 (m : MethodId) (x0 : Addr) (x1 : Addr) : entryFrame m #[(.ref x0), (.ref x1)] 2 = mkF m 0 #[.val (.ref x0), .val (.ref x1)] [] := by first | (simp [entryFrame, mkF, argsToLocals, Value.category]; done) | rfl
theorem pd_17 : parseMethodDescriptor "([CIILjava/lang/Void;)V" = some ⟨[(.array .char), .int, .int, (.object "java/lang/Void")], none⟩ := by decide +kernel
theorem pd_18 : parseMethodDescriptor "([C)V" = some ⟨[(.array .char)], none⟩ := by decide +kernel
theorem pn_19 : plainName "com/example/tutti/tutti/cli/CommandLineIsVerbosePinLaw" = true := by first | (simp [plainName, overriddenIn]; done) | decide +kernel
theorem ef_20 (m : MethodId) (x0 : Addr) (x1 : Addr) : entryFrame m #[(.ref x0), (.ref x1)] 3 = mkF m 0 #[.val (.ref x0), .val (.ref x1), .unset] [] := by first | (simp [entryFrame, mkF, argsToLocals, Value.category]; done) | rfl
theorem pn_21 : plainName "java/lang/StringLatin1" = true := by first | (simp [plainName, overriddenIn]; done) | decide +kernel
theorem pd_22 : parseMethodDescriptor "([B[B)Z" = some ⟨[(.array .byte), (.array .byte)], some .boolean⟩ := by decide +kernel
theorem ef_23 (m : MethodId) (x0 : Int64) (x1 : Int32) : entryFrame m #[(.long x0), (.int x1)] 3 = mkF m 0 #[.val (.long x0), .second, .val (.int x1)] [] := by first | (simp [entryFrame, mkF, argsToLocals, Value.category]; done) | rfl
theorem ef_24 (m : MethodId) (x0 : Addr) : entryFrame m #[(.ref x0)] 1 = mkF m 0 #[.val (.ref x0)] [] := by first | (simp [entryFrame, mkF, argsToLocals, Value.category]; done) | rfl
theorem pd_25 : parseMethodDescriptor "(Ljava/lang/Object;)Z" = some ⟨[(.object "java/lang/Object")], some .boolean⟩ := by decide +kernel
theorem pn_26 : plainName "com/example/tutti/tutti/cli/CommandLine" = true := by first | (simp [plainName, overriddenIn]; done) | decide +kernel
theorem ef_27 (m : MethodId) (x0 : Int32) (x1 : Int32) (x2 : Int32) (x3 : Int32) (x4 : Int64) : entryFrame m #[(.int x0), (.int x1), (.int x2), (.int x3), (.long x4)] maxLocals = mkF m 0 #[.val (.int x0), .val (.int x1), .val (.int x2), .val (.int x3), .val (.long x4), .second, .unset, .unset, .unset, .unset, .unset, .unset, .unset, .unset, .unset] [] := by first | (simp [entryFrame, mkF, argsToLocals, Value.category, maxLocals]; done) | rfl
theorem pd_28 : parseMethodDescriptor "([CI)Ljava/lang/String;" = some ⟨[(.array .char), .int], some (.object "java/lang/String")⟩ := by decide +kernel
theorem pd_29 : parseMethodDescriptor "(Ljava/lang/String;)Z" = some ⟨[(.object "java/lang/String")], some .boolean⟩ := by decide +kernel
theorem pd_30 : parseMethodDescriptor "(JI)C" = some ⟨[.long, .int], some .char⟩ := by decide +kernel
/-- how many signs lead, none above 255 -/
def own_fb : List Int32 → Nat
  | [] => 0
  | c :: cs => if (255 : Int32) < c then 0 else own_fb cs + 1
def own_lo (c : Int32) : Int32 := c.toInt8.toInt32
def own_hi (c : Int32) : Int32 := (c >>> (8 : Int32)).toInt8.toInt32
def own_u16 : List Int32 → List Int32
  | [] => []
  | c :: cs => own_lo c :: own_hi c :: own_u16 cs
theorem own_u16_len : ∀ cs : List Int32, (own_u16 cs).length = 2 * cs.length
  | [] => rfl
  | c :: cs => by simp only [own_u16, List.length_cons, own_u16_len cs]; omega
theorem own_u16_app : ∀ cs ds : List Int32, own_u16 (cs ++ ds) = own_u16 cs ++ own_u16 ds
  | [], _ => rfl
  | c :: cs, ds => by simp only [List.cons_append, own_u16, own_u16_app cs ds]
theorem own_u16_get : ∀ (cs : List Int32) (i : Nat) (x : Int32), cs[i]? = some x → (own_u16 cs)[2 * i]? = some (own_lo x) ∧ (own_u16 cs)[2 * i + 1]? = some (own_hi x)
  | [], i, x, h => by simp at h
  | c :: cs, 0, x, h => by simp at h; subst h; exact ⟨rfl, rfl⟩
  | c :: cs, i + 1, x, h => by
    have q := own_u16_get cs i x (by simpa using h)
    have e1 : 2 * (i + 1) = 2 * i + 1 + 1 := by omega
    rw [e1]
    simpa [own_u16] using q
theorem own_fb_le : ∀ cs : List Int32, own_fb cs ≤ cs.length
  | [] => Nat.le_refl _
  | c :: cs => by
    unfold own_fb; split
    · exact Nat.zero_le _
    · have := own_fb_le cs; simp only [List.length_cons]; omega
theorem own_fb_cons (c : Int32) (cs : List Int32) : own_fb (c :: cs) = if (255 : Int32) < c then 0 else own_fb cs + 1 := rfl
theorem own_fb_all : ∀ cs : List Int32, own_fb cs = cs.length → ∀ c ∈ cs, ¬ (255 : Int32) < c
  | [], _, c, h => by simp at h
  | d :: cs, e, c, h => by
    rw [own_fb_cons] at e
    by_cases q : (255 : Int32) < d
    · rw [if_pos q] at e; simp at e
    · rw [if_neg q] at e
      rcases List.mem_cons.mp h with rfl | h
      · exact q
      · exact own_fb_all cs (by simpa using e) c h
theorem own_fb_at : ∀ cs : List Int32, own_fb cs < cs.length → ∃ x, cs[own_fb cs]? = some x ∧ (255 : Int32) < x
  | [], h => by simp [own_fb] at h
  | d :: cs, h => by
    rw [own_fb_cons] at h ⊢
    by_cases q : (255 : Int32) < d
    · rw [if_pos q]; exact ⟨d, rfl, q⟩
    · rw [if_neg q] at h ⊢
      obtain ⟨x, h1, h2⟩ := own_fb_at cs (by simpa using h)
      exact ⟨x, by simpa using h1, h2⟩
theorem own_fb_big {cs : List Int32} {i : Nat} {x : Int32} (h : own_fb cs = i + own_fb (cs.drop i)) (hx : cs[i]? = some x) (q : (255 : Int32) < x) : own_fb cs = i := by
  obtain ⟨hi, rfl⟩ := List.getElem?_eq_some_iff.mp hx
  rw [List.drop_eq_getElem_cons hi, own_fb_cons, if_pos q] at h
  exact h
theorem own_fb_small {cs : List Int32} {i : Nat} {x : Int32} (h : own_fb cs = i + own_fb (cs.drop i)) (hx : cs[i]? = some x) (q : ¬ (255 : Int32) < x) : own_fb cs = (i + 1) + own_fb (cs.drop (i + 1)) := by
  obtain ⟨hi, rfl⟩ := List.getElem?_eq_some_iff.mp hx
  rw [List.drop_eq_getElem_cons hi, own_fb_cons, if_neg q] at h
  omega
theorem own_set_step {α : Type} (pre : List α) (d x : α) (k : Nat) (i : Nat) (hi : pre.length = i) : (pre ++ List.replicate (k + 1) d).set i x = (pre ++ [x]) ++ List.replicate k d := by
  subst hi
  rw [List.set_append_right _ _ (Nat.le_refl _), Nat.sub_self, List.replicate_succ, List.set_cons_zero, List.append_assoc]; rfl
theorem own_take_succ {cs : List Int32} {i : Nat} {x : Int32} (hx : cs[i]? = some x) : cs.take (i + 1) = cs.take i ++ [x] := by
  rw [List.take_add_one, hx]; rfl
theorem own_succ (i : Nat) : Int32.ofNat i + (1 : Int32) = Int32.ofNat (i + 1) := by rw [Int32.ofNat_add]; rfl
theorem own_toInt {n : Nat} (hn : n < 2147483648) : (Int32.ofNat n).toInt = n := Int32.toInt_ofNat_small hn
theorem own_shl1 {i : Nat} (hi : i < 1000000000) : Int32.ofNat i <<< ((1 : Int32) &&& 31) = Int32.ofNat (2 * i) := by
  have e : ((1 : Int32) &&& 31) = 1 := by decide
  rw [e]
  apply Int32.toBitVec_inj.mp
  apply BitVec.eq_of_toNat_eq
  simp [Int32.toBitVec_shiftLeft, Nat.shiftLeft_eq]
  omega
theorem own_b0 (c : Int32) : nar .byte ((c >>> ((0 : Int32) &&& 31)).toInt8.toInt32) = own_lo c := by
  have e : ((0 : Int32) &&& 31) = 0 := by decide
  have e2 : c >>> (0 : Int32) = c := by simp
  rw [e, e2]; simp [nar, own_lo]
theorem own_b1 (c : Int32) : nar .byte ((c >>> ((8 : Int32) &&& 31)).toInt8.toInt32) = own_hi c := by
  have e : ((8 : Int32) &&& 31) = 8 := by decide
  rw [e]; simp [nar, own_hi]
def Su16 (Z : State) (z : Int32) : Prop := Sta Z Z.heap "java/lang/StringUTF16" "$assertionsDisabled" "Z" (.int 1) ∧ Sta Z Z.heap "java/lang/StringUTF16" "HI_BYTE_SHIFT" "I" (.int 0) ∧ Sta Z Z.heap "java/lang/StringUTF16" "LO_BYTE_SHIFT" "I" (.int 8) ∧ Sta Z Z.heap "java/lang/String" "COMPACT_STRINGS" "Z" (.int z) ∧ ¬ z = 0
def QP (val : Int32) (h0 : Heap) (n0 : Nat) (v : Option Value) (h : Heap) (L : List Loc) : Prop := v = some (.int val) ∧ Fr n0 L ∧ h = h0
theorem dnl_0 : decode jdk_52_method_3_code 0 = .ok (.iload_n 0, 1) := by decide +kernel
theorem dnl_1 : decode jdk_52_method_3_code 1 = .ok (.ifCond .ge 11, 3) := by decide +kernel
theorem dnl_12 : decode jdk_52_method_3_code 12 = .ok (.iload_n 0, 1) := by decide +kernel
theorem dnl_13 : decode jdk_52_method_3_code 13 = .ok (.ldc 20, 2) := by decide +kernel
theorem dnl_15 : decode jdk_52_method_3_code 15 = .ok (.if_icmp .lt 40, 3) := by decide +kernel
theorem dnl_55 : decode jdk_52_method_3_code 55 = .ok (.iload_n 0, 1) := by decide +kernel
theorem dnl_56 : decode jdk_52_method_3_code 56 = .ok (.iconst 1, 1) := by decide +kernel
theorem dnl_57 : decode jdk_52_method_3_code 57 = .ok (.ishl, 1) := by decide +kernel
theorem dnl_58 : decode jdk_52_method_3_code 58 = .ok (.ireturn, 1) := by decide +kernel
set_option maxRecDepth 65536 in
set_option maxHeartbeats 40000000 in
theorem rmNL (l : Launch) (Z : State) (a0 : Array Value) (hw : ∀ d ∈ tables_1, d.before a0 Z = true) (n : Nat) (hn : n ≤ 100000) (h0 : Heap) (n0 : Nat) :
    Ctr l Z (⟨"java/lang/StringUTF16", "newBytesLength", "(I)I"⟩ : MethodName) jdk_52_method_3_code 1 (some .int) [] ({ frames := 0, cells := 0, slots := 0, locals := 0 } : Room) #[(.int (Int32.ofNat n))] h0 (QP (Int32.ofNat (2 * n)) h0 n0) := by
  refine Ctr.of (plainFor_of_name pn_1) ?_
  intro p e s m below meth c s₁ hx hby hml hown hnm hret hlk hZ X0 e0
  refine Go.cast (ef_0 m (Int32.ofNat n)) ?_
  show Go p e below _ s₁ (mkF m 0 #[.val (.int (Int32.ofNat n))] [])
  refine Go.st (fun _ k => XS.iloadN X0.here hx rfl (hb hby dnl_0) rfl k) ?_
  show Go p e below _ s₁ (mkF m 1 #[.val (.int (Int32.ofNat n))] [(.int (Int32.ofNat n))])
  have q1 := own_ofNat_nn (n := n) (by omega)
  refine Go.st (fun _ k => XS.ifYes X0.here hx rfl (pc0 := 1) (pc' := 12) rfl (hb hby dnl_1) rfl (XT.i0_ge_t q1) (by decide) (by decide) k) ?_
  show Go p e below _ s₁ (mkF m 12 #[.val (.int (Int32.ofNat n))] [])
  refine Go.st (fun _ k => XS.iloadN X0.here hx rfl (hb hby dnl_12) rfl k) ?_
  show Go p e below _ s₁ (mkF m 13 #[.val (.int (Int32.ofNat n))] [(.int (Int32.ofNat n))])
  refine Go.st (fun _ k => X0.ldcI hx hown (mvT hZ (hw _ (List.mem_of_getElem? (i := 67) rfl))) rfl (hb hby dnl_13) k) ?_
  show Go p e below _ s₁ (mkF m 15 #[.val (.int (Int32.ofNat n))] [(.int (1073741823 : Int32)), (.int (Int32.ofNat n))])
  have q2 : Int32.ofNat n < (1073741823 : Int32) := by rw [Int32.lt_iff_toInt_lt, own_toInt (by omega)]; show (n : Int) < 1073741823; omega
  refine Go.st (fun _ k => XS.icmpYes X0.here hx rfl (pc0 := 15) (pc' := 55) rfl (hb hby dnl_15) rfl (XT.ii_lt_t q2) (by decide) (by decide) k) ?_
  show Go p e below _ s₁ (mkF m 55 #[.val (.int (Int32.ofNat n))] [])
  refine Go.st (fun _ k => XS.iloadN X0.here hx rfl (hb hby dnl_55) rfl k) ?_
  show Go p e below _ s₁ (mkF m 56 #[.val (.int (Int32.ofNat n))] [(.int (Int32.ofNat n))])
  refine Go.st (fun _ k => XS.iconst X0.here hx rfl (hb hby dnl_56) k) ?_
  show Go p e below _ s₁ (mkF m 57 #[.val (.int (Int32.ofNat n))] [(.int (1 : Int32)), (.int (Int32.ofNat n))])
  refine Go.st (fun _ k => XT.ishl X0.here hx rfl (hb hby dnl_57) rfl k) ?_
  show Go p e below _ s₁ (mkF m 58 #[.val (.int (Int32.ofNat n))] [(.int ((Int32.ofNat n) <<< ((1 : Int32) &&& 31)))])
  rw [own_shl1 (by omega)]
  exact Go.retI X0 hx hret hlk (hb hby dnl_58) ⟨rfl, Fr.nil n0, e0⟩ (Nat.le_refl _) (Nat.le_refl _)
theorem dnf_0 : decode jdk_52_method_2_code 0 = .ok (.iload_n 0, 1) := by decide +kernel
theorem dnf_1 : decode jdk_52_method_2_code 1 = .ok (.invokestatic 11, 3) := by decide +kernel
theorem dnf_4 : decode jdk_52_method_2_code 4 = .ok (.newarray .byte, 2) := by decide +kernel
theorem dnf_6 : decode jdk_52_method_2_code 6 = .ok (.areturn, 1) := by decide +kernel
def QNF (Z : State) (n : Nat) (h0 : Heap) (n0 : Nat) (v : Option Value) (h : Heap) (L : List Loc) : Prop := v = some (.ref h0.size) ∧ Fr n0 L ∧ Ext h0 h ∧ AI Z h h0.size .byte (List.replicate (2 * n) 0)
set_option maxRecDepth 65536 in
set_option maxHeartbeats 40000000 in
theorem rmNF (l : Launch) (Z : State) (a0 : Array Value) (hw : ∀ d ∈ tables_1, d.before a0 Z = true) (n : Nat) (hn : n ≤ 100000) (h0 : Heap) (n0 : Nat) :
    Ctr l Z (⟨"java/lang/StringUTF16", "newBytesFor", "(I)[B"⟩ : MethodName) jdk_52_method_2_code 1 (some (.array .byte)) [] ({ frames := 1, cells := 1, slots := 2 * n, locals := 12 } : Room) #[(.int (Int32.ofNat n))] h0 (QNF Z n h0 n0) := by
  refine Ctr.of (plainFor_of_name pn_1) ?_
  intro p e s m below meth c s₁ hx hby hml hown hnm hret hlk hZ X0 e0
  refine Go.cast (ef_0 m (Int32.ofNat n)) ?_
  show Go p e below _ s₁ (mkF m 0 #[.val (.int (Int32.ofNat n))] [])
  refine Go.st (fun _ k => XS.iloadN X0.here hx rfl (hb hby dnf_0) rfl k) ?_
  show Go p e below _ s₁ (mkF m 1 #[.val (.int (Int32.ofNat n))] [(.int (Int32.ofNat n))])
  refine Go.callS X0 hx (y := (⟨"java/lang/StringUTF16", "newBytesLength", "(I)I"⟩ : MethodName)) hown (mvT hZ (hw _ (List.mem_of_getElem? (i := 64) rfl))) (mvT hZ (hw _ (List.mem_of_getElem? (i := 65) rfl))) (mvT hZ (hw _ (List.mem_of_getElem? (i := 25) rfl))) (mvT hZ (hw _ (List.mem_of_getElem? (i := 66) rfl))) (by decide) (Ctr.back (W := 0) (rmNL l Z a0 hw n hn h0 n0) hZ (hw _ (List.mem_of_getElem? (i := 66) rfl)) (hw _ (List.mem_of_getElem? (i := 25) rfl)) (by (try dsimp only [room_1]); (try simp only [List.length_cons, List.length_nil]); omega) (by (try dsimp only [room_1]); (try simp only [List.length_cons, List.length_nil]); omega)) e0 (g := (mkF m 1 #[.val (.int (Int32.ofNat n))] [(.int (Int32.ofNat n))])) rfl (by rw [hml]; rfl) (argsL := [(.int (Int32.ofNat n))]) (rest := []) (lenOf pd_2 rfl) rfl (by show 2 * 0 + _ ≤ _; exact Nat.le_of_eq rfl) (hb hby dnf_1) rfl (by (try dsimp only [room_1]); (try simp only [List.length_cons, List.length_nil]); omega) (by (try dsimp only [room_1]); (try simp only [List.length_cons, List.length_nil]); omega) ?_
  rintro _ T1 L1 X1 ⟨rfl, N1, e1⟩
  show Go p e below _ T1 (mkF m 4 #[.val (.int (Int32.ofNat n))] [(.int (Int32.ofNat (2 * n)))])
  refine Go.newarr X1 hx hZ (ty := .byte) rfl rfl (hw _ (List.mem_of_getElem? (i := 27) rfl)) e1 (g := (mkF m 4 #[.val (.int (Int32.ofNat n))] [(.int (Int32.ofNat (2 * n)))])) rfl (hb hby dnf_4) rfl (n := 2 * n) rfl (by omega) (by (try dsimp only [room_1]); (try simp only [List.length_cons, List.length_nil]); omega) (by (try dsimp only [room_1]); (try simp only [List.length_cons, List.length_nil]); omega) ?_
  rintro T2 h2 X2 e2 E2 l2 A2
  show Go p e below _ T2 (mkF m 6 #[.val (.int (Int32.ofNat n))] [(.ref h0.size)])
  exact Go.retV X2 hx hret hlk rfl rfl (hb hby dnf_6) ⟨rfl, Fr.app (Fr.nil n0) N1, e2 ▸ E2, e2 ▸ A2⟩ (by (try dsimp only [room_1]); (try simp only [List.length_cons, List.length_nil]); omega) (by (try dsimp only [room_1]); (try simp only [List.length_cons, List.length_nil]); omega)
theorem dpc_0 : decode jdk_52_method_4_code 0 = .ok (.getstatic 44, 3) := by decide +kernel
theorem dpc_3 : decode jdk_52_method_4_code 3 = .ok (.ifCond .ne 25, 3) := by decide +kernel
theorem dpc_28 : decode jdk_52_method_4_code 28 = .ok (.iload_n 1, 1) := by decide +kernel
theorem dpc_29 : decode jdk_52_method_4_code 29 = .ok (.iconst 1, 1) := by decide +kernel
theorem dpc_30 : decode jdk_52_method_4_code 30 = .ok (.ishl, 1) := by decide +kernel
theorem dpc_31 : decode jdk_52_method_4_code 31 = .ok (.istore_n 1, 1) := by decide +kernel
theorem dpc_32 : decode jdk_52_method_4_code 32 = .ok (.aload_n 0, 1) := by decide +kernel
theorem dpc_33 : decode jdk_52_method_4_code 33 = .ok (.iload_n 1, 1) := by decide +kernel
theorem dpc_34 : decode jdk_52_method_4_code 34 = .ok (.iinc 1 1, 3) := by decide +kernel
theorem dpc_37 : decode jdk_52_method_4_code 37 = .ok (.iload_n 2, 1) := by decide +kernel
theorem dpc_38 : decode jdk_52_method_4_code 38 = .ok (.getstatic 59, 3) := by decide +kernel
theorem dpc_41 : decode jdk_52_method_4_code 41 = .ok (.ishr, 1) := by decide +kernel
theorem dpc_42 : decode jdk_52_method_4_code 42 = .ok (.i2b, 1) := by decide +kernel
theorem dpc_43 : decode jdk_52_method_4_code 43 = .ok (.bastore, 1) := by decide +kernel
theorem dpc_44 : decode jdk_52_method_4_code 44 = .ok (.aload_n 0, 1) := by decide +kernel
theorem dpc_45 : decode jdk_52_method_4_code 45 = .ok (.iload_n 1, 1) := by decide +kernel
theorem dpc_46 : decode jdk_52_method_4_code 46 = .ok (.iload_n 2, 1) := by decide +kernel
theorem dpc_47 : decode jdk_52_method_4_code 47 = .ok (.getstatic 63, 3) := by decide +kernel
theorem dpc_50 : decode jdk_52_method_4_code 50 = .ok (.ishr, 1) := by decide +kernel
theorem dpc_51 : decode jdk_52_method_4_code 51 = .ok (.i2b, 1) := by decide +kernel
theorem dpc_52 : decode jdk_52_method_4_code 52 = .ok (.bastore, 1) := by decide +kernel
theorem dpc_53 : decode jdk_52_method_4_code 53 = .ok (.return_, 1) := by decide +kernel
def QPC (Z : State) (a : Addr) (xs : List Int32) (h0 : Heap) (n0 : Nat) (v : Option Value) (h : Heap) (L : List Loc) : Prop := v = none ∧ Fr n0 L ∧ Keep h0 h [a] ∧ AI Z h a .byte xs
set_option maxRecDepth 65536 in
set_option maxHeartbeats 40000000 in
theorem rmPC (l : Launch) (Z : State) (a0 : Array Value) (hw : ∀ d ∈ tables_1, d.before a0 Z = true) (z : Int32) (Su : Su16 Z z) (a : Addr) (xs : List Int32) (i : Nat) (x : Int32) (hl : xs.length ≤ 1000000) (hi : 2 * i + 1 < xs.length) (h0 : Heap) (n0 : Nat) (O : Old Z n0 h0) (hna : n0 ≤ a) (A : AI Z h0 a .byte xs) :
    Ctr l Z (⟨"java/lang/StringUTF16", "putChar", "([BII)V"⟩ : MethodName) jdk_52_method_4_code 3 none [] ({ frames := 0, cells := 0, slots := 0, locals := 0 } : Room) #[(.ref a), (.int (Int32.ofNat i)), (.int x)] h0 (QPC Z a ((xs.set (2 * i) (own_lo x)).set (2 * i + 1) (own_hi x)) h0 n0) := by
  refine Ctr.of (plainFor_of_name pn_1) ?_
  intro p e s m below meth c s₁ hx hby hml hown hnm hret hlk hZ X0 e0
  refine Go.cast (ef_3 m a (Int32.ofNat i) x) ?_
  show Go p e below _ s₁ (mkF m 0 #[.val (.ref a), .val (.int (Int32.ofNat i)), .val (.int x)] [])
  obtain ⟨T1, X1, e1, st1⟩ := getS2 X0 hx hZ hown (host := "") (Or.inl (hw _ (List.mem_of_getElem? (i := 71) rfl))) Via.refl e0 (Su.1.ext O.2) (g := (mkF m 0 #[.val (.ref a), .val (.int (Int32.ofNat i)), .val (.int x)] [])) rfl (hb hby dpc_0)
  refine Go.st st1 ?_
  show Go p e below _ T1 (mkF m 3 #[.val (.ref a), .val (.int (Int32.ofNat i)), .val (.int x)] [(.int (1 : Int32))])
  refine Go.st (fun _ k => XS.ifYes X1.here hx rfl (pc0 := 3) (pc' := 28) rfl (hb hby dpc_3) rfl (XT.i0_ne_t (by decide)) (by decide) (by decide) k) ?_
  show Go p e below _ T1 (mkF m 28 #[.val (.ref a), .val (.int (Int32.ofNat i)), .val (.int x)] [])
  refine Go.st (fun _ k => XS.iloadN X1.here hx rfl (hb hby dpc_28) rfl k) ?_
  show Go p e below _ T1 (mkF m 29 #[.val (.ref a), .val (.int (Int32.ofNat i)), .val (.int x)] [(.int (Int32.ofNat i))])
  refine Go.st (fun _ k => XS.iconst X1.here hx rfl (hb hby dpc_29) k) ?_
  show Go p e below _ T1 (mkF m 30 #[.val (.ref a), .val (.int (Int32.ofNat i)), .val (.int x)] [(.int (1 : Int32)), (.int (Int32.ofNat i))])
  refine Go.st (fun _ k => XT.ishl X1.here hx rfl (hb hby dpc_30) rfl k) ?_
  show Go p e below _ T1 (mkF m 31 #[.val (.ref a), .val (.int (Int32.ofNat i)), .val (.int x)] [(.int ((Int32.ofNat i) <<< ((1 : Int32) &&& 31)))])
  rw [own_shl1 (by omega)]
  show Go p e below _ T1 (mkF m 31 #[.val (.ref a), .val (.int (Int32.ofNat i)), .val (.int x)] [(.int (Int32.ofNat (2 * i)))])
  refine Go.st (fun _ k => XS.istoreN X1.here hx rfl (hb hby dpc_31) rfl (l' := #[.val (.ref a), .val (.int (Int32.ofNat (2 * i))), .val (.int x)]) rfl k) ?_
  show Go p e below _ T1 (mkF m 32 #[.val (.ref a), .val (.int (Int32.ofNat (2 * i))), .val (.int x)] [])
  refine Go.st (fun _ k => XS.aloadN X1.here hx rfl (hb hby dpc_32) rfl rfl k) ?_
  show Go p e below _ T1 (mkF m 33 #[.val (.ref a), .val (.int (Int32.ofNat (2 * i))), .val (.int x)] [(.ref a)])
  refine Go.st (fun _ k => XS.iloadN X1.here hx rfl (hb hby dpc_33) rfl k) ?_
  show Go p e below _ T1 (mkF m 34 #[.val (.ref a), .val (.int (Int32.ofNat (2 * i))), .val (.int x)] [(.int (Int32.ofNat (2 * i))), (.ref a)])
  refine Go.st (fun _ k => XS.iinc X1.here hx rfl (hb hby dpc_34) rfl (l' := #[.val (.ref a), .val (.int ((Int32.ofNat (2 * i)) + (1 : Int32))), .val (.int x)]) rfl k) ?_
  show Go p e below _ T1 (mkF m 37 #[.val (.ref a), .val (.int ((Int32.ofNat (2 * i)) + (1 : Int32))), .val (.int x)] [(.int (Int32.ofNat (2 * i))), (.ref a)])
  rw [own_succ]
  show Go p e below _ T1 (mkF m 37 #[.val (.ref a), .val (.int (Int32.ofNat (2 * i + 1))), .val (.int x)] [(.int (Int32.ofNat (2 * i))), (.ref a)])
  refine Go.st (fun _ k => XS.iloadN X1.here hx rfl (hb hby dpc_37) rfl k) ?_
  show Go p e below _ T1 (mkF m 38 #[.val (.ref a), .val (.int (Int32.ofNat (2 * i + 1))), .val (.int x)] [(.int x), (.int (Int32.ofNat (2 * i))), (.ref a)])
  obtain ⟨T2, X2, e2, st2⟩ := getS2 X1 hx hZ hown (host := "") (Or.inl (hw _ (List.mem_of_getElem? (i := 72) rfl))) Via.refl e1 (Su.2.1.ext O.2) (g := (mkF m 38 #[.val (.ref a), .val (.int (Int32.ofNat (2 * i + 1))), .val (.int x)] [(.int x), (.int (Int32.ofNat (2 * i))), (.ref a)])) rfl (hb hby dpc_38)
  refine Go.st st2 ?_
  show Go p e below _ T2 (mkF m 41 #[.val (.ref a), .val (.int (Int32.ofNat (2 * i + 1))), .val (.int x)] [(.int (0 : Int32)), (.int x), (.int (Int32.ofNat (2 * i))), (.ref a)])
  refine Go.st (fun _ k => XT.ishr X2.here hx rfl (hb hby dpc_41) rfl k) ?_
  show Go p e below _ T2 (mkF m 42 #[.val (.ref a), .val (.int (Int32.ofNat (2 * i + 1))), .val (.int x)] [(.int (x >>> ((0 : Int32) &&& 31))), (.int (Int32.ofNat (2 * i))), (.ref a)])
  refine Go.st (fun _ k => XT.i2b X2.here hx rfl (hb hby dpc_42) rfl k) ?_
  show Go p e below _ T2 (mkF m 43 #[.val (.ref a), .val (.int (Int32.ofNat (2 * i + 1))), .val (.int x)] [(.int ((x >>> ((0 : Int32) &&& 31)).toInt8.toInt32)), (.int (Int32.ofNat (2 * i))), (.ref a)])
  refine Go.bastore X2 hx hZ e2 A (i := 2 * i) rfl (by omega) (g := (mkF m 43 #[.val (.ref a), .val (.int (Int32.ofNat (2 * i + 1))), .val (.int x)] [(.int ((x >>> ((0 : Int32) &&& 31)).toInt8.toInt32)), (.int (Int32.ofNat (2 * i))), (.ref a)])) rfl rfl (hb hby dpc_43) ?_
  rintro T3 h3 X3 e3 W3 A3
  have sW3 := W3.size
  show Go p e below _ T3 (mkF m 44 #[.val (.ref a), .val (.int (Int32.ofNat (2 * i + 1))), .val (.int x)] [])
  refine Go.st (fun _ k => XS.aloadN X3.here hx rfl (hb hby dpc_44) rfl rfl k) ?_
  show Go p e below _ T3 (mkF m 45 #[.val (.ref a), .val (.int (Int32.ofNat (2 * i + 1))), .val (.int x)] [(.ref a)])
  refine Go.st (fun _ k => XS.iloadN X3.here hx rfl (hb hby dpc_45) rfl k) ?_
  show Go p e below _ T3 (mkF m 46 #[.val (.ref a), .val (.int (Int32.ofNat (2 * i + 1))), .val (.int x)] [(.int (Int32.ofNat (2 * i + 1))), (.ref a)])
  refine Go.st (fun _ k => XS.iloadN X3.here hx rfl (hb hby dpc_46) rfl k) ?_
  show Go p e below _ T3 (mkF m 47 #[.val (.ref a), .val (.int (Int32.ofNat (2 * i + 1))), .val (.int x)] [(.int x), (.int (Int32.ofNat (2 * i + 1))), (.ref a)])
  have O3 := O.wr W3 hna
  obtain ⟨T4, X4, e4, st4⟩ := getS2 X3 hx hZ hown (host := "") (Or.inl (hw _ (List.mem_of_getElem? (i := 73) rfl))) Via.refl e3 (Su.2.2.1.ext O3.2) (g := (mkF m 47 #[.val (.ref a), .val (.int (Int32.ofNat (2 * i + 1))), .val (.int x)] [(.int x), (.int (Int32.ofNat (2 * i + 1))), (.ref a)])) rfl (hb hby dpc_47)
  refine Go.st st4 ?_
  show Go p e below _ T4 (mkF m 50 #[.val (.ref a), .val (.int (Int32.ofNat (2 * i + 1))), .val (.int x)] [(.int (8 : Int32)), (.int x), (.int (Int32.ofNat (2 * i + 1))), (.ref a)])
  refine Go.st (fun _ k => XT.ishr X4.here hx rfl (hb hby dpc_50) rfl k) ?_
  show Go p e below _ T4 (mkF m 51 #[.val (.ref a), .val (.int (Int32.ofNat (2 * i + 1))), .val (.int x)] [(.int (x >>> ((8 : Int32) &&& 31))), (.int (Int32.ofNat (2 * i + 1))), (.ref a)])
  refine Go.st (fun _ k => XT.i2b X4.here hx rfl (hb hby dpc_51) rfl k) ?_
  show Go p e below _ T4 (mkF m 52 #[.val (.ref a), .val (.int (Int32.ofNat (2 * i + 1))), .val (.int x)] [(.int ((x >>> ((8 : Int32) &&& 31)).toInt8.toInt32)), (.int (Int32.ofNat (2 * i + 1))), (.ref a)])
  refine Go.bastore X4 hx hZ e4 A3 (i := 2 * i + 1) rfl (by rw [List.length_set]; omega) (g := (mkF m 52 #[.val (.ref a), .val (.int (Int32.ofNat (2 * i + 1))), .val (.int x)] [(.int ((x >>> ((8 : Int32) &&& 31)).toInt8.toInt32)), (.int (Int32.ofNat (2 * i + 1))), (.ref a)])) rfl rfl (hb hby dpc_52) ?_
  rintro T5 h5 X5 e5 W5 A5
  have sW5 := W5.size
  show Go p e below _ T5 (mkF m 53 #[.val (.ref a), .val (.int (Int32.ofNat (2 * i + 1))), .val (.int x)] [])
  have K5 : Keep h0 h5 [a] := ((Keep.refl h0 [a]).wr W3 (Or.inl (List.mem_cons_self ..))).wr W5 (Or.inl (List.mem_cons_self ..))
  rw [own_b0] at A5
  rw [own_b1] at A5
  exact Go.ret0 X5 hx hret hlk (hb hby dpc_53) ⟨rfl, Fr.snoc X5 (Fr.snoc X3 (Fr.nil n0) hna) hna, e5 ▸ K5, e5 ▸ A5⟩ (Nat.le_refl _) (Nat.le_refl _)
theorem own_u16_step {cs : List Int32} {i k : Nat} {x : Int32} (hx : cs[i]? = some x) : ((own_u16 (cs.take i) ++ List.replicate (2 * (k + 1)) 0).set (2 * i) (own_lo x)).set (2 * i + 1) (own_hi x) = own_u16 (cs.take (i + 1)) ++ List.replicate (2 * k) 0 := by
  have hi := (List.getElem?_eq_some_iff.mp hx).1
  have hl : (own_u16 (cs.take i)).length = 2 * i := by rw [own_u16_len, List.length_take, Nat.min_eq_left (by omega)]
  have e : 2 * (k + 1) = (2 * k + 1) + 1 := by omega
  rw [e, own_set_step _ _ _ _ _ hl, own_set_step _ _ _ _ _ (by rw [List.length_append, hl]; rfl), own_take_succ hx, own_u16_app]
  simp [own_u16]
def QTB (Z : State) (b : Addr) (cs : List Int32) (h0 : Heap) (n0 : Nat) (v : Option Value) (h : Heap) (L : List Loc) : Prop := v = some (.ref b) ∧ Fr n0 L ∧ Keep h0 h [] ∧ AI Z h b .byte (own_u16 cs)
theorem dtb_0 : decode jdk_52_method_14_code 0 = .ok (.iload_n 2, 1) := by decide +kernel
theorem dtb_1 : decode jdk_52_method_14_code 1 = .ok (.invokestatic 107, 3) := by decide +kernel
theorem dtb_4 : decode jdk_52_method_14_code 4 = .ok (.astore_n 3, 1) := by decide +kernel
theorem dtb_5 : decode jdk_52_method_14_code 5 = .ok (.iconst 0, 1) := by decide +kernel
theorem dtb_6 : decode jdk_52_method_14_code 6 = .ok (.istore 4, 2) := by decide +kernel
theorem dtb_8 : decode jdk_52_method_14_code 8 = .ok (.iload 4, 2) := by decide +kernel
theorem dtb_10 : decode jdk_52_method_14_code 10 = .ok (.iload_n 2, 1) := by decide +kernel
theorem dtb_11 : decode jdk_52_method_14_code 11 = .ok (.if_icmp .ge 21, 3) := by decide +kernel
theorem dtb_14 : decode jdk_52_method_14_code 14 = .ok (.aload_n 3, 1) := by decide +kernel
theorem dtb_15 : decode jdk_52_method_14_code 15 = .ok (.iload 4, 2) := by decide +kernel
theorem dtb_17 : decode jdk_52_method_14_code 17 = .ok (.aload_n 0, 1) := by decide +kernel
theorem dtb_18 : decode jdk_52_method_14_code 18 = .ok (.iload_n 1, 1) := by decide +kernel
theorem dtb_19 : decode jdk_52_method_14_code 19 = .ok (.caload, 1) := by decide +kernel
theorem dtb_20 : decode jdk_52_method_14_code 20 = .ok (.invokestatic 111, 3) := by decide +kernel
theorem dtb_23 : decode jdk_52_method_14_code 23 = .ok (.iinc 1 1, 3) := by decide +kernel
theorem dtb_26 : decode jdk_52_method_14_code 26 = .ok (.iinc 4 1, 3) := by decide +kernel
theorem dtb_29 : decode jdk_52_method_14_code 29 = .ok (.goto (-21), 3) := by decide +kernel
theorem dtb_32 : decode jdk_52_method_14_code 32 = .ok (.aload_n 3, 1) := by decide +kernel
theorem dtb_33 : decode jdk_52_method_14_code 33 = .ok (.areturn, 1) := by decide +kernel
set_option maxRecDepth 65536 in
set_option maxHeartbeats 40000000 in
theorem lpTB (l : Launch) (Z : State) (a0 : Array Value) (hw : ∀ d ∈ tables_1, d.before a0 Z = true) (z : Int32) (Su : Su16 Z z) (cs : List Int32) (a b : Addr) (h0 h1 : Heap) (n0 : Nat) (hn : cs.length ≤ 4000) {p : Program} {e : Env} {s : State} {m : MethodId} {args : Array Value} {below : List Frame} {meth : Method} {c : Code} (hx : p.tables.exec = Jvm.exec) (hby : c.code = jdk_52_method_14_code) (hml : c.maxLocals = 5) (hown : s.vm.findClass "java/lang/StringUTF16" = some m.cls) (hret : meth.sig.returnType = some (.array .byte)) (hlk : meth.locks = false) (hZ : Z.Warmed39 s.vm) (hb0 : h0.size ≤ b) (hnb : n0 ≤ b) (hab : a ≠ b) (Eb : Ext h0 h1) :
    ∀ (k i : Nat) (T : State) (h : Heap) (locs : List Loc), i + k = cs.length → Stand p l e ({ frames := 2, cells := 1, slots := 2 * cs.length, locals := 24 } : Room) s m args below meth c T locs 1 (2 * cs.length) → T.heap = h → Old Z n0 h → AI Z h a .char cs → AI Z h b .byte (own_u16 (cs.take i) ++ List.replicate (2 * k) 0) → Fr n0 locs → Keep h1 h [b] →
      Go p e below (EndQ s (QTB Z b cs h0 n0) 1 (2 * cs.length)) T (mkF m 8 #[.val (.ref a), .val (.int (Int32.ofNat i)), .val (.int (Int32.ofNat cs.length)), .val (.ref b), .val (.int (Int32.ofNat i))] []) := by
  intro k
  induction k with
  | zero =>
    intro i T h locs hik X1 e1 O A B N K
    show Go p e below _ T (mkF m 8 #[.val (.ref a), .val (.int (Int32.ofNat i)), .val (.int (Int32.ofNat cs.length)), .val (.ref b), .val (.int (Int32.ofNat i))] [])
    refine Go.st (fun _ k => XS.iload X1.here hx rfl (hb hby dtb_8) rfl k) ?_
    show Go p e below _ T (mkF m 10 #[.val (.ref a), .val (.int (Int32.ofNat i)), .val (.int (Int32.ofNat cs.length)), .val (.ref b), .val (.int (Int32.ofNat i))] [(.int (Int32.ofNat i))])
    refine Go.st (fun _ k => XS.iloadN X1.here hx rfl (hb hby dtb_10) rfl k) ?_
    show Go p e below _ T (mkF m 11 #[.val (.ref a), .val (.int (Int32.ofNat i)), .val (.int (Int32.ofNat cs.length)), .val (.ref b), .val (.int (Int32.ofNat i))] [(.int (Int32.ofNat cs.length)), (.int (Int32.ofNat i))])
    have q : ¬ Int32.ofNat i < Int32.ofNat cs.length := by rw [show i = cs.length by omega]; exact fun q => Int32.lt_irrefl q
    refine Go.st (fun _ k => XS.icmpYes X1.here hx rfl (pc0 := 11) (pc' := 32) rfl (hb hby dtb_11) rfl (XT.ii_ge_t q) (by decide) (by decide) k) ?_
    show Go p e below _ T (mkF m 32 #[.val (.ref a), .val (.int (Int32.ofNat i)), .val (.int (Int32.ofNat cs.length)), .val (.ref b), .val (.int (Int32.ofNat i))] [])
    refine Go.st (fun _ k => XS.aloadN X1.here hx rfl (hb hby dtb_32) rfl rfl k) ?_
    show Go p e below _ T (mkF m 33 #[.val (.ref a), .val (.int (Int32.ofNat i)), .val (.int (Int32.ofNat cs.length)), .val (.ref b), .val (.int (Int32.ofNat i))] [(.ref b)])
    have B' : AI Z h b .byte (own_u16 cs) := by have q := B; rw [show i = cs.length by omega, List.take_length] at q; simpa using q
    exact Go.retV X1 hx hret hlk rfl rfl (hb hby dtb_33) ⟨rfl, N, e1 ▸ ((Keep.refl h0 []).ext Eb).trans K (fun x q => Or.inr (by cases List.mem_singleton.mp q; exact hb0)), e1 ▸ B'⟩ (Nat.le_refl _) (Nat.le_refl _)
  | succ k ih =>
    intro i T h locs hik X1 e1 O A B N K
    show Go p e below _ T (mkF m 8 #[.val (.ref a), .val (.int (Int32.ofNat i)), .val (.int (Int32.ofNat cs.length)), .val (.ref b), .val (.int (Int32.ofNat i))] [])
    refine Go.st (fun _ k => XS.iload X1.here hx rfl (hb hby dtb_8) rfl k) ?_
    show Go p e below _ T (mkF m 10 #[.val (.ref a), .val (.int (Int32.ofNat i)), .val (.int (Int32.ofNat cs.length)), .val (.ref b), .val (.int (Int32.ofNat i))] [(.int (Int32.ofNat i))])
    refine Go.st (fun _ k => XS.iloadN X1.here hx rfl (hb hby dtb_10) rfl k) ?_
    show Go p e below _ T (mkF m 11 #[.val (.ref a), .val (.int (Int32.ofNat i)), .val (.int (Int32.ofNat cs.length)), .val (.ref b), .val (.int (Int32.ofNat i))] [(.int (Int32.ofNat cs.length)), (.int (Int32.ofNat i))])
    refine Go.st (fun _ k => XS.icmpNo X1.here hx rfl (hb hby dtb_11) rfl (XT.ii_ge_f (own_ofNat_lt (by omega) (by omega))) k) ?_
    show Go p e below _ T (mkF m 14 #[.val (.ref a), .val (.int (Int32.ofNat i)), .val (.int (Int32.ofNat cs.length)), .val (.ref b), .val (.int (Int32.ofNat i))] [])
    refine Go.st (fun _ k => XS.aloadN X1.here hx rfl (hb hby dtb_14) rfl rfl k) ?_
    show Go p e below _ T (mkF m 15 #[.val (.ref a), .val (.int (Int32.ofNat i)), .val (.int (Int32.ofNat cs.length)), .val (.ref b), .val (.int (Int32.ofNat i))] [(.ref b)])
    refine Go.st (fun _ k => XS.iload X1.here hx rfl (hb hby dtb_15) rfl k) ?_
    show Go p e below _ T (mkF m 17 #[.val (.ref a), .val (.int (Int32.ofNat i)), .val (.int (Int32.ofNat cs.length)), .val (.ref b), .val (.int (Int32.ofNat i))] [(.int (Int32.ofNat i)), (.ref b)])
    refine Go.st (fun _ k => XS.aloadN X1.here hx rfl (hb hby dtb_17) rfl rfl k) ?_
    show Go p e below _ T (mkF m 18 #[.val (.ref a), .val (.int (Int32.ofNat i)), .val (.int (Int32.ofNat cs.length)), .val (.ref b), .val (.int (Int32.ofNat i))] [(.ref a), (.int (Int32.ofNat i)), (.ref b)])
    refine Go.st (fun _ k => XS.iloadN X1.here hx rfl (hb hby dtb_18) rfl k) ?_
    show Go p e below _ T (mkF m 19 #[.val (.ref a), .val (.int (Int32.ofNat i)), .val (.int (Int32.ofNat cs.length)), .val (.ref b), .val (.int (Int32.ofNat i))] [(.int (Int32.ofNat i)), (.ref a), (.int (Int32.ofNat i)), (.ref b)])
    obtain ⟨x, hxi⟩ : ∃ x, cs[i]? = some x := ⟨_, List.getElem?_eq_getElem (by omega)⟩
    refine Go.caload X1 hx hZ e1 A (i := i) (x := x) rfl hxi (g := (mkF m 19 #[.val (.ref a), .val (.int (Int32.ofNat i)), .val (.int (Int32.ofNat cs.length)), .val (.ref b), .val (.int (Int32.ofNat i))] [(.int (Int32.ofNat i)), (.ref a), (.int (Int32.ofNat i)), (.ref b)])) rfl rfl (hb hby dtb_19) ?_
    show Go p e below _ T (mkF m 20 #[.val (.ref a), .val (.int (Int32.ofNat i)), .val (.int (Int32.ofNat cs.length)), .val (.ref b), .val (.int (Int32.ofNat i))] [(.int x), (.int (Int32.ofNat i)), (.ref b)])
    have hlen : (own_u16 (cs.take i) ++ List.replicate (2 * (k + 1)) (0 : Int32)).length = 2 * i + 2 * (k + 1) := by rw [List.length_append, own_u16_len, List.length_take, Nat.min_eq_left (by omega), List.length_replicate]
    refine Go.callS X1 hx (y := (⟨"java/lang/StringUTF16", "putChar", "([BII)V"⟩ : MethodName)) hown (mvT hZ (hw _ (List.mem_of_getElem? (i := 68) rfl))) (mvT hZ (hw _ (List.mem_of_getElem? (i := 69) rfl))) (mvT hZ (hw _ (List.mem_of_getElem? (i := 25) rfl))) (mvT hZ (hw _ (List.mem_of_getElem? (i := 70) rfl))) (by decide) (Ctr.back (W := 0) (rmPC l Z a0 hw z Su b _ i x (by rw [hlen]; omega) (by rw [hlen]; omega) h n0 O hnb B) hZ (hw _ (List.mem_of_getElem? (i := 70) rfl)) (hw _ (List.mem_of_getElem? (i := 25) rfl)) (by (try dsimp only [room_1]); (try simp only [List.length_cons, List.length_nil]); omega) (by (try dsimp only [room_1]); (try simp only [List.length_cons, List.length_nil]); omega)) e1 (g := (mkF m 20 #[.val (.ref a), .val (.int (Int32.ofNat i)), .val (.int (Int32.ofNat cs.length)), .val (.ref b), .val (.int (Int32.ofNat i))] [(.int x), (.int (Int32.ofNat i)), (.ref b)])) rfl (by rw [hml]; rfl) (argsL := [(.ref b), (.int (Int32.ofNat i)), (.int x)]) (rest := []) (lenOf pd_4 rfl) rfl (by show 2 * 0 + _ ≤ _; exact Nat.le_of_eq rfl) (hb hby dtb_20) rfl (by (try dsimp only [room_1]); (try simp only [List.length_cons, List.length_nil]); omega) (by (try dsimp only [room_1]); (try simp only [List.length_cons, List.length_nil]); omega) ?_
    rintro _ T2 L2 X2 ⟨rfl, N2, K2, B2⟩
    show Go p e below _ T2 (mkF m 23 #[.val (.ref a), .val (.int (Int32.ofNat i)), .val (.int (Int32.ofNat cs.length)), .val (.ref b), .val (.int (Int32.ofNat i))] [])
    rw [own_u16_step hxi] at B2
    refine Go.st (fun _ k => XS.iinc X2.here hx rfl (hb hby dtb_23) rfl (l' := #[.val (.ref a), .val (.int ((Int32.ofNat i) + (1 : Int32))), .val (.int (Int32.ofNat cs.length)), .val (.ref b), .val (.int (Int32.ofNat i))]) rfl k) ?_
    show Go p e below _ T2 (mkF m 26 #[.val (.ref a), .val (.int ((Int32.ofNat i) + (1 : Int32))), .val (.int (Int32.ofNat cs.length)), .val (.ref b), .val (.int (Int32.ofNat i))] [])
    rw [own_succ]
    show Go p e below _ T2 (mkF m 26 #[.val (.ref a), .val (.int (Int32.ofNat (i + 1))), .val (.int (Int32.ofNat cs.length)), .val (.ref b), .val (.int (Int32.ofNat i))] [])
    refine Go.st (fun _ k => XS.iinc X2.here hx rfl (hb hby dtb_26) rfl (l' := #[.val (.ref a), .val (.int (Int32.ofNat (i + 1))), .val (.int (Int32.ofNat cs.length)), .val (.ref b), .val (.int ((Int32.ofNat i) + (1 : Int32)))]) rfl k) ?_
    show Go p e below _ T2 (mkF m 29 #[.val (.ref a), .val (.int (Int32.ofNat (i + 1))), .val (.int (Int32.ofNat cs.length)), .val (.ref b), .val (.int ((Int32.ofNat i) + (1 : Int32)))] [])
    rw [own_succ]
    show Go p e below _ T2 (mkF m 29 #[.val (.ref a), .val (.int (Int32.ofNat (i + 1))), .val (.int (Int32.ofNat cs.length)), .val (.ref b), .val (.int (Int32.ofNat (i + 1)))] [])
    refine Go.st (fun _ k => XS.goto X2.here hx rfl (pc0 := 29) (pc' := 8) rfl (hb hby dtb_29) (by decide) (by decide) k) ?_
    show Go p e below _ T2 (mkF m 8 #[.val (.ref a), .val (.int (Int32.ofNat (i + 1))), .val (.int (Int32.ofNat cs.length)), .val (.ref b), .val (.int (Int32.ofNat (i + 1)))] [])
    exact ih (i + 1) T2 T2.heap _ (by omega) X2 rfl (O.keep K2 (allS hnb all0)) (A.keep K2 (ninS hab nin0)) B2 (Fr.app N N2) (K.trans K2 (fun x q => Or.inl q))
set_option maxRecDepth 65536 in
set_option maxHeartbeats 40000000 in
theorem rmTB (l : Launch) (Z : State) (a0 : Array Value) (hw : ∀ d ∈ tables_1, d.before a0 Z = true) (z : Int32) (Su : Su16 Z z) (cs : List Int32) (a : Addr) (h0 : Heap) (n0 : Nat) (hn : cs.length ≤ 4000) (hZ0 : n0 ≤ h0.size) (O : Old Z n0 h0) (A : AI Z h0 a .char cs) :
    Ctr l Z (⟨"java/lang/StringUTF16", "toBytes", "([CII)[B"⟩ : MethodName) jdk_52_method_14_code 5 (some (.array .byte)) [] ({ frames := 2, cells := 1, slots := 2 * cs.length, locals := 24 } : Room) #[(.ref a), (.int (Int32.ofNat 0)), (.int (Int32.ofNat cs.length))] h0 (QTB Z h0.size cs h0 n0) := by
  refine Ctr.of (plainFor_of_name pn_1) ?_
  intro p e s m below meth c s₁ hx hby hml hown hnm hret hlk hZ X0 e0
  refine Go.cast (ef_5 m a (Int32.ofNat 0) (Int32.ofNat cs.length)) ?_
  show Go p e below _ s₁ (mkF m 0 #[.val (.ref a), .val (.int (Int32.ofNat 0)), .val (.int (Int32.ofNat cs.length)), .unset, .unset] [])
  refine Go.st (fun _ k => XS.iloadN X0.here hx rfl (hb hby dtb_0) rfl k) ?_
  show Go p e below _ s₁ (mkF m 1 #[.val (.ref a), .val (.int (Int32.ofNat 0)), .val (.int (Int32.ofNat cs.length)), .unset, .unset] [(.int (Int32.ofNat cs.length))])
  refine Go.callS X0 hx (y := (⟨"java/lang/StringUTF16", "newBytesFor", "(I)[B"⟩ : MethodName)) hown (mvT hZ (hw _ (List.mem_of_getElem? (i := 61) rfl))) (mvT hZ (hw _ (List.mem_of_getElem? (i := 62) rfl))) (mvT hZ (hw _ (List.mem_of_getElem? (i := 25) rfl))) (mvT hZ (hw _ (List.mem_of_getElem? (i := 63) rfl))) (by decide) (Ctr.back (W := 0) (rmNF l Z a0 hw cs.length (by omega) h0 n0) hZ (hw _ (List.mem_of_getElem? (i := 63) rfl)) (hw _ (List.mem_of_getElem? (i := 25) rfl)) (by (try dsimp only [room_1]); (try simp only [List.length_cons, List.length_nil]); omega) (by (try dsimp only [room_1]); (try simp only [List.length_cons, List.length_nil]); omega)) e0 (g := (mkF m 1 #[.val (.ref a), .val (.int (Int32.ofNat 0)), .val (.int (Int32.ofNat cs.length)), .unset, .unset] [(.int (Int32.ofNat cs.length))])) rfl (by rw [hml]; rfl) (argsL := [(.int (Int32.ofNat cs.length))]) (rest := []) (lenOf pd_6 rfl) rfl (by show 2 * 0 + _ ≤ _; exact Nat.le_of_eq rfl) (hb hby dtb_1) rfl (by (try dsimp only [room_1]); (try simp only [List.length_cons, List.length_nil]); omega) (by (try dsimp only [room_1]); (try simp only [List.length_cons, List.length_nil]); omega) ?_
  rintro _ T1 L1 X1 ⟨rfl, N1, E1, B1⟩
  show Go p e below _ T1 (mkF m 4 #[.val (.ref a), .val (.int (Int32.ofNat 0)), .val (.int (Int32.ofNat cs.length)), .unset, .unset] [(.ref h0.size)])
  refine Go.st (fun _ k => XS.astoreN X1.here hx rfl (hb hby dtb_4) rfl rfl (l' := #[.val (.ref a), .val (.int (Int32.ofNat 0)), .val (.int (Int32.ofNat cs.length)), .val (.ref h0.size), .unset]) rfl k) ?_
  show Go p e below _ T1 (mkF m 5 #[.val (.ref a), .val (.int (Int32.ofNat 0)), .val (.int (Int32.ofNat cs.length)), .val (.ref h0.size), .unset] [])
  refine Go.st (fun _ k => XS.iconst X1.here hx rfl (hb hby dtb_5) k) ?_
  show Go p e below _ T1 (mkF m 6 #[.val (.ref a), .val (.int (Int32.ofNat 0)), .val (.int (Int32.ofNat cs.length)), .val (.ref h0.size), .unset] [(.int (0 : Int32))])
  refine Go.st (fun _ k => XS.istore X1.here hx rfl (hb hby dtb_6) rfl (l' := #[.val (.ref a), .val (.int (Int32.ofNat 0)), .val (.int (Int32.ofNat cs.length)), .val (.ref h0.size), .val (.int (0 : Int32))]) rfl k) ?_
  show Go p e below _ T1 (mkF m 8 #[.val (.ref a), .val (.int (Int32.ofNat 0)), .val (.int (Int32.ofNat cs.length)), .val (.ref h0.size), .val (.int (0 : Int32))] [])
  exact lpTB l Z a0 hw z Su cs a h0.size h0 T1.heap n0 hn hx hby hml hown hret hlk hZ (Nat.le_refl _) hZ0 (Nat.ne_of_lt A.lt) E1 cs.length 0 T1 T1.heap _ (by omega) (X1.mono (by (try dsimp only [room_1]); (try simp only [List.length_cons, List.length_nil]); omega) (by (try dsimp only [room_1]); (try simp only [List.length_cons, List.length_nil]); omega)) rfl (O.ext E1) (A.ext E1) (by simpa [own_u16] using B1) (Fr.app (Fr.nil n0) N1) (Keep.refl _ _)
theorem own_mask (c : Int32) : c.toInt8.toInt32 &&& (255 : Int32) = c &&& (255 : Int32) := by
  apply Int32.toBitVec_inj.mp
  apply BitVec.eq_of_getLsbD_eq
  intro i hi
  simp only [Int32.toBitVec_and, BitVec.getLsbD_and]
  by_cases q : i < 8
  · have : (c.toInt8.toInt32.toBitVec).getLsbD i = c.toBitVec.getLsbD i := by
      show ((c.toBitVec.signExtend 8).signExtend 32).getLsbD i = _
      rw [BitVec.signExtend_eq_setWidth_of_le c.toBitVec (by omega : 8 ≤ 32), BitVec.getLsbD_signExtend]
      simp [q, hi]
    rw [this]
  · have z : (255 : Int32).toBitVec.getLsbD i = false := by
      have : ∀ j : Fin 32, ¬ j.val < 8 → (255 : Int32).toBitVec.getLsbD j.val = false := by decide
      exact this ⟨i, hi⟩ q
    rw [z, Bool.and_false, Bool.and_false]
theorem own_get16k (c : Int32) (hlt : c.toBitVec.toNat < 65536) : ((c &&& (255 : Int32)) <<< (0 : Int32) ||| ((c >>> (8 : Int32)) &&& (255 : Int32)) <<< (8 : Int32)) = c := by
  have e0 : (c &&& (255 : Int32)) <<< (0 : Int32) = c &&& 255 := by simp
  rw [e0]
  apply Int32.toBitVec_inj.mp
  have hm : c.toBitVec.msb = false := by rw [BitVec.msb_eq_false_iff_two_mul_lt]; omega
  have e1 : ((c &&& (255 : Int32)) ||| ((c >>> (8 : Int32)) &&& (255 : Int32)) <<< (8 : Int32)).toBitVec = (c.toBitVec &&& 255#32) ||| (((c.toBitVec.sshiftRight 8) &&& 255#32) <<< 8) := by
    rfl
  rw [e1, BitVec.sshiftRight_eq_of_msb_false hm]
  apply BitVec.eq_of_toNat_eq
  rw [BitVec.toNat_or, BitVec.toNat_and, BitVec.toNat_shiftLeft, BitVec.toNat_and, BitVec.toNat_ushiftRight]
  have e2 : (255#32).toNat = 2 ^ 8 - 1 := by decide
  rw [e2, Nat.and_two_pow_sub_one_eq_mod, Nat.and_two_pow_sub_one_eq_mod, Nat.shiftRight_eq_div_pow, Nat.mod_eq_of_lt (a := c.toBitVec.toNat / 2 ^ 8) (by omega), Nat.mod_eq_of_lt (a := (c.toBitVec.toNat / 2 ^ 8) <<< 8) (by rw [Nat.shiftLeft_eq]; omega), Nat.or_comm, ← Nat.shiftLeft_add_eq_or_of_lt (by omega), Nat.shiftLeft_eq]
  omega
theorem own_char (c : Int32) (h1 : ¬ c < 0) (h2 : ¬ (65535 : Int32) < c) : c.toUInt32.toUInt16.toUInt32.toInt32 = c := by
  rw [Int32.lt_iff_toInt_lt] at h1 h2
  have e1 : (65535 : Int32).toInt = 65535 := rfl
  have e2 : (0 : Int32).toInt = 0 := rfl
  apply Int32.toBitVec_inj.mp
  apply BitVec.eq_of_toNat_eq
  have q : c.toInt = c.toBitVec.toInt := rfl
  rw [q, BitVec.toInt_eq_toNat_cond] at h1 h2
  have hb := c.toBitVec.isLt
  show ((c.toBitVec.setWidth 16).setWidth 32).toNat = _
  simp
  split at h1 <;> omega
theorem own_get16 (c : Int32) (h1 : ¬ c < 0) (h2 : ¬ (65535 : Int32) < c) : nar .char (((own_lo c &&& (255 : Int32)) <<< ((0 : Int32) &&& 31) ||| (own_hi c &&& (255 : Int32)) <<< ((8 : Int32) &&& 31)).toUInt32.toUInt16.toUInt32.toInt32) = c := by
  have e0 : ((0 : Int32) &&& 31) = 0 := by decide
  have e8 : ((8 : Int32) &&& 31) = 8 := by decide
  have k : ((own_lo c &&& (255 : Int32)) <<< ((0 : Int32) &&& 31) ||| (own_hi c &&& (255 : Int32)) <<< ((8 : Int32) &&& 31)) = c := by
    rw [e0, e8]
    unfold own_lo own_hi
    rw [own_mask, own_mask]
    have hlt : c.toBitVec.toNat < 65536 := by
      rw [Int32.lt_iff_toInt_lt] at h1 h2
      have e1 : (65535 : Int32).toInt = 65535 := rfl
      have e2 : (0 : Int32).toInt = 0 := rfl
      have q : c.toInt = c.toBitVec.toInt := rfl
      rw [q, BitVec.toInt_eq_toNat_cond] at h1 h2
      have hb := c.toBitVec.isLt
      split at h1 <;> omega
    exact own_get16k c hlt
  rw [k, own_char c h1 h2]
  show c.toUInt32.toUInt16.toUInt32.toInt32 = c
  exact own_char c h1 h2
theorem dgc_0 : decode jdk_52_method_5_code 0 = .ok (.getstatic 44, 3) := by decide +kernel
theorem dgc_3 : decode jdk_52_method_5_code 3 = .ok (.ifCond .ne 25, 3) := by decide +kernel
theorem dgc_28 : decode jdk_52_method_5_code 28 = .ok (.iload_n 1, 1) := by decide +kernel
theorem dgc_29 : decode jdk_52_method_5_code 29 = .ok (.iconst 1, 1) := by decide +kernel
theorem dgc_30 : decode jdk_52_method_5_code 30 = .ok (.ishl, 1) := by decide +kernel
theorem dgc_31 : decode jdk_52_method_5_code 31 = .ok (.istore_n 1, 1) := by decide +kernel
theorem dgc_32 : decode jdk_52_method_5_code 32 = .ok (.aload_n 0, 1) := by decide +kernel
theorem dgc_33 : decode jdk_52_method_5_code 33 = .ok (.iload_n 1, 1) := by decide +kernel
theorem dgc_34 : decode jdk_52_method_5_code 34 = .ok (.iinc 1 1, 3) := by decide +kernel
theorem dgc_37 : decode jdk_52_method_5_code 37 = .ok (.baload, 1) := by decide +kernel
theorem dgc_38 : decode jdk_52_method_5_code 38 = .ok (.sipush 255, 3) := by decide +kernel
theorem dgc_41 : decode jdk_52_method_5_code 41 = .ok (.iand, 1) := by decide +kernel
theorem dgc_42 : decode jdk_52_method_5_code 42 = .ok (.getstatic 59, 3) := by decide +kernel
theorem dgc_45 : decode jdk_52_method_5_code 45 = .ok (.ishl, 1) := by decide +kernel
theorem dgc_46 : decode jdk_52_method_5_code 46 = .ok (.aload_n 0, 1) := by decide +kernel
theorem dgc_47 : decode jdk_52_method_5_code 47 = .ok (.iload_n 1, 1) := by decide +kernel
theorem dgc_48 : decode jdk_52_method_5_code 48 = .ok (.baload, 1) := by decide +kernel
theorem dgc_49 : decode jdk_52_method_5_code 49 = .ok (.sipush 255, 3) := by decide +kernel
theorem dgc_52 : decode jdk_52_method_5_code 52 = .ok (.iand, 1) := by decide +kernel
theorem dgc_53 : decode jdk_52_method_5_code 53 = .ok (.getstatic 63, 3) := by decide +kernel
theorem dgc_56 : decode jdk_52_method_5_code 56 = .ok (.ishl, 1) := by decide +kernel
theorem dgc_57 : decode jdk_52_method_5_code 57 = .ok (.ior, 1) := by decide +kernel
theorem dgc_58 : decode jdk_52_method_5_code 58 = .ok (.i2c, 1) := by decide +kernel
theorem dgc_59 : decode jdk_52_method_5_code 59 = .ok (.ireturn, 1) := by decide +kernel
set_option maxRecDepth 65536 in
set_option maxHeartbeats 40000000 in
theorem rmGC (l : Launch) (Z : State) (a0 : Array Value) (hw : ∀ d ∈ tables_1, d.before a0 Z = true) (z : Int32) (Su : Su16 Z z) (cs : List Int32) (b : Addr) (i : Nat) (x : Int32) (hl : cs.length ≤ 4000) (hxi : cs[i]? = some x) (h1 : ¬ x < 0) (h2 : ¬ (65535 : Int32) < x) (h0 : Heap) (n0 : Nat) (O : Old Z n0 h0) (B : AI Z h0 b .byte (own_u16 cs)) :
    Ctr l Z (⟨"java/lang/StringUTF16", "getChar", "([BI)C"⟩ : MethodName) jdk_52_method_5_code 2 (some .char) [] ({ frames := 0, cells := 0, slots := 0, locals := 0 } : Room) #[(.ref b), (.int (Int32.ofNat i))] h0 (QP x h0 n0) := by
  have hi := (List.getElem?_eq_some_iff.mp hxi).1
  refine Ctr.of (plainFor_of_name pn_1) ?_
  intro p e s m below meth c s₁ hx hby hml hown hnm hret hlk hZ X0 e0
  refine Go.cast (ef_7 m b (Int32.ofNat i)) ?_
  show Go p e below _ s₁ (mkF m 0 #[.val (.ref b), .val (.int (Int32.ofNat i))] [])
  obtain ⟨T1, X1, e1, st1⟩ := getS2 X0 hx hZ hown (host := "") (Or.inl (hw _ (List.mem_of_getElem? (i := 71) rfl))) Via.refl e0 (Su.1.ext O.2) (g := (mkF m 0 #[.val (.ref b), .val (.int (Int32.ofNat i))] [])) rfl (hb hby dgc_0)
  refine Go.st st1 ?_
  show Go p e below _ T1 (mkF m 3 #[.val (.ref b), .val (.int (Int32.ofNat i))] [(.int (1 : Int32))])
  refine Go.st (fun _ k => XS.ifYes X1.here hx rfl (pc0 := 3) (pc' := 28) rfl (hb hby dgc_3) rfl (XT.i0_ne_t (by decide)) (by decide) (by decide) k) ?_
  show Go p e below _ T1 (mkF m 28 #[.val (.ref b), .val (.int (Int32.ofNat i))] [])
  refine Go.st (fun _ k => XS.iloadN X1.here hx rfl (hb hby dgc_28) rfl k) ?_
  show Go p e below _ T1 (mkF m 29 #[.val (.ref b), .val (.int (Int32.ofNat i))] [(.int (Int32.ofNat i))])
  refine Go.st (fun _ k => XS.iconst X1.here hx rfl (hb hby dgc_29) k) ?_
  show Go p e below _ T1 (mkF m 30 #[.val (.ref b), .val (.int (Int32.ofNat i))] [(.int (1 : Int32)), (.int (Int32.ofNat i))])
  refine Go.st (fun _ k => XT.ishl X1.here hx rfl (hb hby dgc_30) rfl k) ?_
  show Go p e below _ T1 (mkF m 31 #[.val (.ref b), .val (.int (Int32.ofNat i))] [(.int ((Int32.ofNat i) <<< ((1 : Int32) &&& 31)))])
  rw [own_shl1 (by omega)]
  show Go p e below _ T1 (mkF m 31 #[.val (.ref b), .val (.int (Int32.ofNat i))] [(.int (Int32.ofNat (2 * i)))])
  refine Go.st (fun _ k => XS.istoreN X1.here hx rfl (hb hby dgc_31) rfl (l' := #[.val (.ref b), .val (.int (Int32.ofNat (2 * i)))]) rfl k) ?_
  show Go p e below _ T1 (mkF m 32 #[.val (.ref b), .val (.int (Int32.ofNat (2 * i)))] [])
  refine Go.st (fun _ k => XS.aloadN X1.here hx rfl (hb hby dgc_32) rfl rfl k) ?_
  show Go p e below _ T1 (mkF m 33 #[.val (.ref b), .val (.int (Int32.ofNat (2 * i)))] [(.ref b)])
  refine Go.st (fun _ k => XS.iloadN X1.here hx rfl (hb hby dgc_33) rfl k) ?_
  show Go p e below _ T1 (mkF m 34 #[.val (.ref b), .val (.int (Int32.ofNat (2 * i)))] [(.int (Int32.ofNat (2 * i))), (.ref b)])
  refine Go.st (fun _ k => XS.iinc X1.here hx rfl (hb hby dgc_34) rfl (l' := #[.val (.ref b), .val (.int ((Int32.ofNat (2 * i)) + (1 : Int32)))]) rfl k) ?_
  show Go p e below _ T1 (mkF m 37 #[.val (.ref b), .val (.int ((Int32.ofNat (2 * i)) + (1 : Int32)))] [(.int (Int32.ofNat (2 * i))), (.ref b)])
  rw [own_succ]
  show Go p e below _ T1 (mkF m 37 #[.val (.ref b), .val (.int (Int32.ofNat (2 * i + 1)))] [(.int (Int32.ofNat (2 * i))), (.ref b)])
  obtain ⟨hb0, hb1⟩ := own_u16_get cs i x hxi
  refine Go.baload X1 hx hZ e1 B (i := 2 * i) (x := (own_lo x)) rfl hb0 (g := (mkF m 37 #[.val (.ref b), .val (.int (Int32.ofNat (2 * i + 1)))] [(.int (Int32.ofNat (2 * i))), (.ref b)])) rfl rfl (hb hby dgc_37) ?_
  show Go p e below _ T1 (mkF m 38 #[.val (.ref b), .val (.int (Int32.ofNat (2 * i + 1)))] [(.int (own_lo x))])
  refine Go.st (fun _ k => XS.sipush X1.here hx rfl (hb hby dgc_38) k) ?_
  show Go p e below _ T1 (mkF m 41 #[.val (.ref b), .val (.int (Int32.ofNat (2 * i + 1)))] [(.int (255 : Int32)), (.int (own_lo x))])
  refine Go.st (fun _ k => XS.iand X1.here hx rfl (hb hby dgc_41) rfl k) ?_
  show Go p e below _ T1 (mkF m 42 #[.val (.ref b), .val (.int (Int32.ofNat (2 * i + 1)))] [(.int ((own_lo x) &&& (255 : Int32)))])
  obtain ⟨T2, X2, e2, st2⟩ := getS2 X1 hx hZ hown (host := "") (Or.inl (hw _ (List.mem_of_getElem? (i := 72) rfl))) Via.refl e1 (Su.2.1.ext O.2) (g := (mkF m 42 #[.val (.ref b), .val (.int (Int32.ofNat (2 * i + 1)))] [(.int ((own_lo x) &&& (255 : Int32)))])) rfl (hb hby dgc_42)
  refine Go.st st2 ?_
  show Go p e below _ T2 (mkF m 45 #[.val (.ref b), .val (.int (Int32.ofNat (2 * i + 1)))] [(.int (0 : Int32)), (.int ((own_lo x) &&& (255 : Int32)))])
  refine Go.st (fun _ k => XT.ishl X2.here hx rfl (hb hby dgc_45) rfl k) ?_
  show Go p e below _ T2 (mkF m 46 #[.val (.ref b), .val (.int (Int32.ofNat (2 * i + 1)))] [(.int (((own_lo x) &&& (255 : Int32)) <<< ((0 : Int32) &&& 31)))])
  refine Go.st (fun _ k => XS.aloadN X2.here hx rfl (hb hby dgc_46) rfl rfl k) ?_
  show Go p e below _ T2 (mkF m 47 #[.val (.ref b), .val (.int (Int32.ofNat (2 * i + 1)))] [(.ref b), (.int (((own_lo x) &&& (255 : Int32)) <<< ((0 : Int32) &&& 31)))])
  refine Go.st (fun _ k => XS.iloadN X2.here hx rfl (hb hby dgc_47) rfl k) ?_
  show Go p e below _ T2 (mkF m 48 #[.val (.ref b), .val (.int (Int32.ofNat (2 * i + 1)))] [(.int (Int32.ofNat (2 * i + 1))), (.ref b), (.int (((own_lo x) &&& (255 : Int32)) <<< ((0 : Int32) &&& 31)))])
  refine Go.baload X2 hx hZ e2 B (i := 2 * i + 1) (x := (own_hi x)) rfl hb1 (g := (mkF m 48 #[.val (.ref b), .val (.int (Int32.ofNat (2 * i + 1)))] [(.int (Int32.ofNat (2 * i + 1))), (.ref b), (.int (((own_lo x) &&& (255 : Int32)) <<< ((0 : Int32) &&& 31)))])) rfl rfl (hb hby dgc_48) ?_
  show Go p e below _ T2 (mkF m 49 #[.val (.ref b), .val (.int (Int32.ofNat (2 * i + 1)))] [(.int (own_hi x)), (.int (((own_lo x) &&& (255 : Int32)) <<< ((0 : Int32) &&& 31)))])
  refine Go.st (fun _ k => XS.sipush X2.here hx rfl (hb hby dgc_49) k) ?_
  show Go p e below _ T2 (mkF m 52 #[.val (.ref b), .val (.int (Int32.ofNat (2 * i + 1)))] [(.int (255 : Int32)), (.int (own_hi x)), (.int (((own_lo x) &&& (255 : Int32)) <<< ((0 : Int32) &&& 31)))])
  refine Go.st (fun _ k => XS.iand X2.here hx rfl (hb hby dgc_52) rfl k) ?_
  show Go p e below _ T2 (mkF m 53 #[.val (.ref b), .val (.int (Int32.ofNat (2 * i + 1)))] [(.int ((own_hi x) &&& (255 : Int32))), (.int (((own_lo x) &&& (255 : Int32)) <<< ((0 : Int32) &&& 31)))])
  obtain ⟨T3, X3, e3, st3⟩ := getS2 X2 hx hZ hown (host := "") (Or.inl (hw _ (List.mem_of_getElem? (i := 73) rfl))) Via.refl e2 (Su.2.2.1.ext O.2) (g := (mkF m 53 #[.val (.ref b), .val (.int (Int32.ofNat (2 * i + 1)))] [(.int ((own_hi x) &&& (255 : Int32))), (.int (((own_lo x) &&& (255 : Int32)) <<< ((0 : Int32) &&& 31)))])) rfl (hb hby dgc_53)
  refine Go.st st3 ?_
  show Go p e below _ T3 (mkF m 56 #[.val (.ref b), .val (.int (Int32.ofNat (2 * i + 1)))] [(.int (8 : Int32)), (.int ((own_hi x) &&& (255 : Int32))), (.int (((own_lo x) &&& (255 : Int32)) <<< ((0 : Int32) &&& 31)))])
  refine Go.st (fun _ k => XT.ishl X3.here hx rfl (hb hby dgc_56) rfl k) ?_
  show Go p e below _ T3 (mkF m 57 #[.val (.ref b), .val (.int (Int32.ofNat (2 * i + 1)))] [(.int (((own_hi x) &&& (255 : Int32)) <<< ((8 : Int32) &&& 31))), (.int (((own_lo x) &&& (255 : Int32)) <<< ((0 : Int32) &&& 31)))])
  refine Go.st (fun _ k => XT.ior X3.here hx rfl (hb hby dgc_57) rfl k) ?_
  show Go p e below _ T3 (mkF m 58 #[.val (.ref b), .val (.int (Int32.ofNat (2 * i + 1)))] [(.int ((((own_lo x) &&& (255 : Int32)) <<< ((0 : Int32) &&& 31)) ||| (((own_hi x) &&& (255 : Int32)) <<< ((8 : Int32) &&& 31))))])
  refine Go.st (fun _ k => XT.i2c X3.here hx rfl (hb hby dgc_58) rfl k) ?_
  show Go p e below _ T3 (mkF m 59 #[.val (.ref b), .val (.int (Int32.ofNat (2 * i + 1)))] [(.int (((((own_lo x) &&& (255 : Int32)) <<< ((0 : Int32) &&& 31)) ||| (((own_hi x) &&& (255 : Int32)) <<< ((8 : Int32) &&& 31))).toUInt32.toUInt16.toUInt32.toInt32))])
  exact Go.retB X3 hx hret hlk (Or.inr (Or.inr (Or.inl rfl))) (hb hby dgc_59) ⟨by rw [own_get16 x h1 h2], Fr.nil n0, e3⟩ (Nat.le_refl _) (Nat.le_refl _)
def QC5 (Z : State) (d : Addr) (cs : List Int32) (h0 : Heap) (n0 : Nat) (v : Option Value) (h : Heap) (L : List Loc) : Prop := v = some (.int (Int32.ofNat (own_fb cs))) ∧ Fr n0 L ∧ Keep h0 h [d] ∧ AI Z h d .byte ((cs.take (own_fb cs)).map own_lo ++ List.replicate (cs.length - own_fb cs) 0)
theorem own_c5_step {cs : List Int32} {i k : Nat} {x : Int32} (hx : cs[i]? = some x) (hik : i + (k + 1) = cs.length) : ((cs.take i).map own_lo ++ List.replicate (k + 1) 0).set i (own_lo x) = (cs.take (i + 1)).map own_lo ++ List.replicate k 0 := by
  have hi := (List.getElem?_eq_some_iff.mp hx).1
  rw [own_set_step _ _ _ _ _ (by rw [List.length_map, List.length_take, Nat.min_eq_left (by omega)]), own_take_succ hx, List.map_append]; rfl
theorem own_nar_lo (x : Int32) : nar .byte (x.toInt8.toInt32) = own_lo x := by simp [nar, own_lo]
theorem dc5_0 : decode jdk_52_method_21_code 0 = .ok (.iconst 0, 1) := by decide +kernel
theorem dc5_1 : decode jdk_52_method_21_code 1 = .ok (.istore 5, 2) := by decide +kernel
theorem dc5_3 : decode jdk_52_method_21_code 3 = .ok (.iload 5, 2) := by decide +kernel
theorem dc5_5 : decode jdk_52_method_21_code 5 = .ok (.iload 4, 2) := by decide +kernel
theorem dc5_7 : decode jdk_52_method_21_code 7 = .ok (.if_icmp .ge 37, 3) := by decide +kernel
theorem dc5_10 : decode jdk_52_method_21_code 10 = .ok (.aload_n 0, 1) := by decide +kernel
theorem dc5_11 : decode jdk_52_method_21_code 11 = .ok (.iload_n 1, 1) := by decide +kernel
theorem dc5_12 : decode jdk_52_method_21_code 12 = .ok (.caload, 1) := by decide +kernel
theorem dc5_13 : decode jdk_52_method_21_code 13 = .ok (.istore 6, 2) := by decide +kernel
theorem dc5_15 : decode jdk_52_method_21_code 15 = .ok (.iload 6, 2) := by decide +kernel
theorem dc5_17 : decode jdk_52_method_21_code 17 = .ok (.sipush 255, 3) := by decide +kernel
theorem dc5_20 : decode jdk_52_method_21_code 20 = .ok (.if_icmp .le 6, 3) := by decide +kernel
theorem dc5_23 : decode jdk_52_method_21_code 23 = .ok (.iload 5, 2) := by decide +kernel
theorem dc5_25 : decode jdk_52_method_21_code 25 = .ok (.ireturn, 1) := by decide +kernel
theorem dc5_26 : decode jdk_52_method_21_code 26 = .ok (.aload_n 2, 1) := by decide +kernel
theorem dc5_27 : decode jdk_52_method_21_code 27 = .ok (.iload_n 3, 1) := by decide +kernel
theorem dc5_28 : decode jdk_52_method_21_code 28 = .ok (.iload 6, 2) := by decide +kernel
theorem dc5_30 : decode jdk_52_method_21_code 30 = .ok (.i2b, 1) := by decide +kernel
theorem dc5_31 : decode jdk_52_method_21_code 31 = .ok (.bastore, 1) := by decide +kernel
theorem dc5_32 : decode jdk_52_method_21_code 32 = .ok (.iinc 1 1, 3) := by decide +kernel
theorem dc5_35 : decode jdk_52_method_21_code 35 = .ok (.iinc 3 1, 3) := by decide +kernel
theorem dc5_38 : decode jdk_52_method_21_code 38 = .ok (.iinc 5 1, 3) := by decide +kernel
theorem dc5_41 : decode jdk_52_method_21_code 41 = .ok (.goto (-38), 3) := by decide +kernel
theorem dc5_44 : decode jdk_52_method_21_code 44 = .ok (.iload 4, 2) := by decide +kernel
theorem dc5_46 : decode jdk_52_method_21_code 46 = .ok (.ireturn, 1) := by decide +kernel
set_option maxRecDepth 65536 in
set_option maxHeartbeats 40000000 in
theorem lpC5 (l : Launch) (Z : State) (a0 : Array Value) (hw : ∀ d ∈ tables_1, d.before a0 Z = true) (cs : List Int32) (a d : Addr) (h0 : Heap) (n0 : Nat) (hn : cs.length ≤ 4000) {p : Program} {e : Env} {s : State} {m : MethodId} {args : Array Value} {below : List Frame} {meth : Method} {c : Code} (hx : p.tables.exec = Jvm.exec) (hby : c.code = jdk_52_method_21_code) (hml : c.maxLocals = 7) (hown : s.vm.findClass "java/lang/StringUTF16" = some m.cls) (hret : meth.sig.returnType = some .int) (hlk : meth.locks = false) (hZ : Z.Warmed39 s.vm) (hnd : n0 ≤ d) (hab : a ≠ d) :
    ∀ (k i : Nat) (T : State) (h : Heap) (locs : List Loc) (s6 : Slot), i + k = cs.length → One s6 → Stand p l e ({ frames := 0, cells := 0, slots := 0, locals := 0 } : Room) s m args below meth c T locs 0 0 → T.heap = h → AI Z h a .char cs → AI Z h d .byte ((cs.take i).map own_lo ++ List.replicate k 0) → own_fb cs = i + own_fb (cs.drop i) → Fr n0 locs → Keep h0 h [d] →
      Go p e below (EndQ s (QC5 Z d cs h0 n0) 0 0) T (mkF m 3 #[.val (.ref a), .val (.int (Int32.ofNat i)), .val (.ref d), .val (.int (Int32.ofNat i)), .val (.int (Int32.ofNat cs.length)), .val (.int (Int32.ofNat i)), s6] []) := by
  intro k
  induction k with
  | zero =>
    intro i T h locs s6 hik o6 X1 e1 A D F N K
    show Go p e below _ T (mkF m 3 #[.val (.ref a), .val (.int (Int32.ofNat i)), .val (.ref d), .val (.int (Int32.ofNat i)), .val (.int (Int32.ofNat cs.length)), .val (.int (Int32.ofNat i)), s6] [])
    refine Go.st (fun _ k => XS.iload X1.here hx rfl (hb hby dc5_3) rfl k) ?_
    show Go p e below _ T (mkF m 5 #[.val (.ref a), .val (.int (Int32.ofNat i)), .val (.ref d), .val (.int (Int32.ofNat i)), .val (.int (Int32.ofNat cs.length)), .val (.int (Int32.ofNat i)), s6] [(.int (Int32.ofNat i))])
    refine Go.st (fun _ k => XS.iload X1.here hx rfl (hb hby dc5_5) rfl k) ?_
    show Go p e below _ T (mkF m 7 #[.val (.ref a), .val (.int (Int32.ofNat i)), .val (.ref d), .val (.int (Int32.ofNat i)), .val (.int (Int32.ofNat cs.length)), .val (.int (Int32.ofNat i)), s6] [(.int (Int32.ofNat cs.length)), (.int (Int32.ofNat i))])
    have q : ¬ Int32.ofNat i < Int32.ofNat cs.length := by rw [show i = cs.length by omega]; exact fun q => Int32.lt_irrefl q
    refine Go.st (fun _ k => XS.icmpYes X1.here hx rfl (pc0 := 7) (pc' := 44) rfl (hb hby dc5_7) rfl (XT.ii_ge_t q) (by decide) (by decide) k) ?_
    show Go p e below _ T (mkF m 44 #[.val (.ref a), .val (.int (Int32.ofNat i)), .val (.ref d), .val (.int (Int32.ofNat i)), .val (.int (Int32.ofNat cs.length)), .val (.int (Int32.ofNat i)), s6] [])
    refine Go.st (fun _ k => XS.iload X1.here hx rfl (hb hby dc5_44) rfl k) ?_
    show Go p e below _ T (mkF m 46 #[.val (.ref a), .val (.int (Int32.ofNat i)), .val (.ref d), .val (.int (Int32.ofNat i)), .val (.int (Int32.ofNat cs.length)), .val (.int (Int32.ofNat i)), s6] [(.int (Int32.ofNat cs.length))])
    have f : own_fb cs = cs.length := by have := own_fb_le cs; omega
    exact Go.retI X1 hx hret hlk (hb hby dc5_46) ⟨by rw [f], N, e1 ▸ K, by rw [f, e1]; have q := D; rw [show i = cs.length by omega] at q; simpa using q⟩ (Nat.le_refl _) (Nat.le_refl _)
  | succ k ih =>
    intro i T h locs s6 hik o6 X1 e1 A D F N K
    show Go p e below _ T (mkF m 3 #[.val (.ref a), .val (.int (Int32.ofNat i)), .val (.ref d), .val (.int (Int32.ofNat i)), .val (.int (Int32.ofNat cs.length)), .val (.int (Int32.ofNat i)), s6] [])
    refine Go.st (fun _ k => XS.iload X1.here hx rfl (hb hby dc5_3) rfl k) ?_
    show Go p e below _ T (mkF m 5 #[.val (.ref a), .val (.int (Int32.ofNat i)), .val (.ref d), .val (.int (Int32.ofNat i)), .val (.int (Int32.ofNat cs.length)), .val (.int (Int32.ofNat i)), s6] [(.int (Int32.ofNat i))])
    refine Go.st (fun _ k => XS.iload X1.here hx rfl (hb hby dc5_5) rfl k) ?_
    show Go p e below _ T (mkF m 7 #[.val (.ref a), .val (.int (Int32.ofNat i)), .val (.ref d), .val (.int (Int32.ofNat i)), .val (.int (Int32.ofNat cs.length)), .val (.int (Int32.ofNat i)), s6] [(.int (Int32.ofNat cs.length)), (.int (Int32.ofNat i))])
    refine Go.st (fun _ k => XS.icmpNo X1.here hx rfl (hb hby dc5_7) rfl (XT.ii_ge_f (own_ofNat_lt (by omega) (by omega))) k) ?_
    show Go p e below _ T (mkF m 10 #[.val (.ref a), .val (.int (Int32.ofNat i)), .val (.ref d), .val (.int (Int32.ofNat i)), .val (.int (Int32.ofNat cs.length)), .val (.int (Int32.ofNat i)), s6] [])
    refine Go.st (fun _ k => XS.aloadN X1.here hx rfl (hb hby dc5_10) rfl rfl k) ?_
    show Go p e below _ T (mkF m 11 #[.val (.ref a), .val (.int (Int32.ofNat i)), .val (.ref d), .val (.int (Int32.ofNat i)), .val (.int (Int32.ofNat cs.length)), .val (.int (Int32.ofNat i)), s6] [(.ref a)])
    refine Go.st (fun _ k => XS.iloadN X1.here hx rfl (hb hby dc5_11) rfl k) ?_
    show Go p e below _ T (mkF m 12 #[.val (.ref a), .val (.int (Int32.ofNat i)), .val (.ref d), .val (.int (Int32.ofNat i)), .val (.int (Int32.ofNat cs.length)), .val (.int (Int32.ofNat i)), s6] [(.int (Int32.ofNat i)), (.ref a)])
    obtain ⟨x, hxi⟩ : ∃ x, cs[i]? = some x := ⟨_, List.getElem?_eq_getElem (by omega)⟩
    refine Go.caload X1 hx hZ e1 A (i := i) (x := x) rfl hxi (g := (mkF m 12 #[.val (.ref a), .val (.int (Int32.ofNat i)), .val (.ref d), .val (.int (Int32.ofNat i)), .val (.int (Int32.ofNat cs.length)), .val (.int (Int32.ofNat i)), s6] [(.int (Int32.ofNat i)), (.ref a)])) rfl rfl (hb hby dc5_12) ?_
    show Go p e below _ T (mkF m 13 #[.val (.ref a), .val (.int (Int32.ofNat i)), .val (.ref d), .val (.int (Int32.ofNat i)), .val (.int (Int32.ofNat cs.length)), .val (.int (Int32.ofNat i)), s6] [(.int x)])
    refine Go.st (fun _ k => XS.istoreS X1.here hx rfl (hb hby dc5_13) rfl (k := 6) (o := s6) rfl o6 k) ?_
    show Go p e below _ T (mkF m 15 #[.val (.ref a), .val (.int (Int32.ofNat i)), .val (.ref d), .val (.int (Int32.ofNat i)), .val (.int (Int32.ofNat cs.length)), .val (.int (Int32.ofNat i)), .val (.int x)] [])
    refine Go.st (fun _ k => XS.iload X1.here hx rfl (hb hby dc5_15) rfl k) ?_
    show Go p e below _ T (mkF m 17 #[.val (.ref a), .val (.int (Int32.ofNat i)), .val (.ref d), .val (.int (Int32.ofNat i)), .val (.int (Int32.ofNat cs.length)), .val (.int (Int32.ofNat i)), .val (.int x)] [(.int x)])
    refine Go.st (fun _ k => XS.sipush X1.here hx rfl (hb hby dc5_17) k) ?_
    show Go p e below _ T (mkF m 20 #[.val (.ref a), .val (.int (Int32.ofNat i)), .val (.ref d), .val (.int (Int32.ofNat i)), .val (.int (Int32.ofNat cs.length)), .val (.int (Int32.ofNat i)), .val (.int x)] [(.int (255 : Int32)), (.int x)])
    by_cases q : (255 : Int32) < x
    · skip
      refine Go.st (fun _ k => XS.icmpNo X1.here hx rfl (hb hby dc5_20) rfl (XT.ii_le_f q) k) ?_
      show Go p e below _ T (mkF m 23 #[.val (.ref a), .val (.int (Int32.ofNat i)), .val (.ref d), .val (.int (Int32.ofNat i)), .val (.int (Int32.ofNat cs.length)), .val (.int (Int32.ofNat i)), .val (.int x)] [])
      refine Go.st (fun _ k => XS.iload X1.here hx rfl (hb hby dc5_23) rfl k) ?_
      show Go p e below _ T (mkF m 25 #[.val (.ref a), .val (.int (Int32.ofNat i)), .val (.ref d), .val (.int (Int32.ofNat i)), .val (.int (Int32.ofNat cs.length)), .val (.int (Int32.ofNat i)), .val (.int x)] [(.int (Int32.ofNat i))])
      have f := own_fb_big F hxi q
      exact Go.retI X1 hx hret hlk (hb hby dc5_25) ⟨by rw [f], N, e1 ▸ K, by rw [f, e1, show cs.length - i = k + 1 by omega]; exact D⟩ (Nat.le_refl _) (Nat.le_refl _)
    · skip
      refine Go.st (fun _ k => XS.icmpYes X1.here hx rfl (pc0 := 20) (pc' := 26) rfl (hb hby dc5_20) rfl (XT.ii_le_t q) (by decide) (by decide) k) ?_
      show Go p e below _ T (mkF m 26 #[.val (.ref a), .val (.int (Int32.ofNat i)), .val (.ref d), .val (.int (Int32.ofNat i)), .val (.int (Int32.ofNat cs.length)), .val (.int (Int32.ofNat i)), .val (.int x)] [])
      refine Go.st (fun _ k => XS.aloadN X1.here hx rfl (hb hby dc5_26) rfl rfl k) ?_
      show Go p e below _ T (mkF m 27 #[.val (.ref a), .val (.int (Int32.ofNat i)), .val (.ref d), .val (.int (Int32.ofNat i)), .val (.int (Int32.ofNat cs.length)), .val (.int (Int32.ofNat i)), .val (.int x)] [(.ref d)])
      refine Go.st (fun _ k => XS.iloadN X1.here hx rfl (hb hby dc5_27) rfl k) ?_
      show Go p e below _ T (mkF m 28 #[.val (.ref a), .val (.int (Int32.ofNat i)), .val (.ref d), .val (.int (Int32.ofNat i)), .val (.int (Int32.ofNat cs.length)), .val (.int (Int32.ofNat i)), .val (.int x)] [(.int (Int32.ofNat i)), (.ref d)])
      refine Go.st (fun _ k => XS.iload X1.here hx rfl (hb hby dc5_28) rfl k) ?_
      show Go p e below _ T (mkF m 30 #[.val (.ref a), .val (.int (Int32.ofNat i)), .val (.ref d), .val (.int (Int32.ofNat i)), .val (.int (Int32.ofNat cs.length)), .val (.int (Int32.ofNat i)), .val (.int x)] [(.int x), (.int (Int32.ofNat i)), (.ref d)])
      refine Go.st (fun _ k => XT.i2b X1.here hx rfl (hb hby dc5_30) rfl k) ?_
      show Go p e below _ T (mkF m 31 #[.val (.ref a), .val (.int (Int32.ofNat i)), .val (.ref d), .val (.int (Int32.ofNat i)), .val (.int (Int32.ofNat cs.length)), .val (.int (Int32.ofNat i)), .val (.int x)] [(.int x.toInt8.toInt32), (.int (Int32.ofNat i)), (.ref d)])
      refine Go.bastore X1 hx hZ e1 D (i := i) rfl (by rw [List.length_append, List.length_map, List.length_take, List.length_replicate]; omega) (g := (mkF m 31 #[.val (.ref a), .val (.int (Int32.ofNat i)), .val (.ref d), .val (.int (Int32.ofNat i)), .val (.int (Int32.ofNat cs.length)), .val (.int (Int32.ofNat i)), .val (.int x)] [(.int x.toInt8.toInt32), (.int (Int32.ofNat i)), (.ref d)])) rfl rfl (hb hby dc5_31) ?_
      rintro T2 h2 X2 e2 W2 A2
      have sW2 := W2.size
      show Go p e below _ T2 (mkF m 32 #[.val (.ref a), .val (.int (Int32.ofNat i)), .val (.ref d), .val (.int (Int32.ofNat i)), .val (.int (Int32.ofNat cs.length)), .val (.int (Int32.ofNat i)), .val (.int x)] [])
      rw [own_nar_lo, own_c5_step hxi hik] at A2
      refine Go.st (fun _ k => XS.iinc X2.here hx rfl (hb hby dc5_32) rfl (l' := #[.val (.ref a), .val (.int ((Int32.ofNat i) + (1 : Int32))), .val (.ref d), .val (.int (Int32.ofNat i)), .val (.int (Int32.ofNat cs.length)), .val (.int (Int32.ofNat i)), .val (.int x)]) rfl k) ?_
      show Go p e below _ T2 (mkF m 35 #[.val (.ref a), .val (.int ((Int32.ofNat i) + (1 : Int32))), .val (.ref d), .val (.int (Int32.ofNat i)), .val (.int (Int32.ofNat cs.length)), .val (.int (Int32.ofNat i)), .val (.int x)] [])
      rw [own_succ]
      show Go p e below _ T2 (mkF m 35 #[.val (.ref a), .val (.int (Int32.ofNat (i + 1))), .val (.ref d), .val (.int (Int32.ofNat i)), .val (.int (Int32.ofNat cs.length)), .val (.int (Int32.ofNat i)), .val (.int x)] [])
      refine Go.st (fun _ k => XS.iinc X2.here hx rfl (hb hby dc5_35) rfl (l' := #[.val (.ref a), .val (.int (Int32.ofNat (i + 1))), .val (.ref d), .val (.int ((Int32.ofNat i) + (1 : Int32))), .val (.int (Int32.ofNat cs.length)), .val (.int (Int32.ofNat i)), .val (.int x)]) rfl k) ?_
      show Go p e below _ T2 (mkF m 38 #[.val (.ref a), .val (.int (Int32.ofNat (i + 1))), .val (.ref d), .val (.int ((Int32.ofNat i) + (1 : Int32))), .val (.int (Int32.ofNat cs.length)), .val (.int (Int32.ofNat i)), .val (.int x)] [])
      rw [own_succ]
      show Go p e below _ T2 (mkF m 38 #[.val (.ref a), .val (.int (Int32.ofNat (i + 1))), .val (.ref d), .val (.int (Int32.ofNat (i + 1))), .val (.int (Int32.ofNat cs.length)), .val (.int (Int32.ofNat i)), .val (.int x)] [])
      refine Go.st (fun _ k => XS.iinc X2.here hx rfl (hb hby dc5_38) rfl (l' := #[.val (.ref a), .val (.int (Int32.ofNat (i + 1))), .val (.ref d), .val (.int (Int32.ofNat (i + 1))), .val (.int (Int32.ofNat cs.length)), .val (.int ((Int32.ofNat i) + (1 : Int32))), .val (.int x)]) rfl k) ?_
      show Go p e below _ T2 (mkF m 41 #[.val (.ref a), .val (.int (Int32.ofNat (i + 1))), .val (.ref d), .val (.int (Int32.ofNat (i + 1))), .val (.int (Int32.ofNat cs.length)), .val (.int ((Int32.ofNat i) + (1 : Int32))), .val (.int x)] [])
      rw [own_succ]
      show Go p e below _ T2 (mkF m 41 #[.val (.ref a), .val (.int (Int32.ofNat (i + 1))), .val (.ref d), .val (.int (Int32.ofNat (i + 1))), .val (.int (Int32.ofNat cs.length)), .val (.int (Int32.ofNat (i + 1))), .val (.int x)] [])
      refine Go.st (fun _ k => XS.goto X2.here hx rfl (pc0 := 41) (pc' := 3) rfl (hb hby dc5_41) (by decide) (by decide) k) ?_
      show Go p e below _ T2 (mkF m 3 #[.val (.ref a), .val (.int (Int32.ofNat (i + 1))), .val (.ref d), .val (.int (Int32.ofNat (i + 1))), .val (.int (Int32.ofNat cs.length)), .val (.int (Int32.ofNat (i + 1))), .val (.int x)] [])
      exact ih (i + 1) T2 h2 _ (.val (.int x)) (by omega) (One.val rfl) X2 e2 (A.other W2 hab) A2 (own_fb_small F hxi q) (Fr.snoc X2 N hnd) (K.wr W2 (Or.inl (List.mem_cons_self ..)))
set_option maxRecDepth 65536 in
set_option maxHeartbeats 40000000 in
theorem rmC5 (l : Launch) (Z : State) (a0 : Array Value) (hw : ∀ d ∈ tables_1, d.before a0 Z = true) (cs : List Int32) (a d : Addr) (h0 : Heap) (n0 : Nat) (hn : cs.length ≤ 4000) (hnd : n0 ≤ d) (hab : a ≠ d) (A : AI Z h0 a .char cs) (D : AI Z h0 d .byte (List.replicate cs.length 0)) :
    Ctr l Z (⟨"java/lang/StringUTF16", "compress", "([CI[BII)I"⟩ : MethodName) jdk_52_method_21_code 7 (some .int) [] ({ frames := 0, cells := 0, slots := 0, locals := 0 } : Room) #[(.ref a), (.int (Int32.ofNat 0)), (.ref d), (.int (Int32.ofNat 0)), (.int (Int32.ofNat cs.length))] h0 (QC5 Z d cs h0 n0) := by
  refine Ctr.of (plainFor_of_name pn_1) ?_
  intro p e s m below meth c s₁ hx hby hml hown hnm hret hlk hZ X0 e0
  refine Go.cast (ef_8 m a (Int32.ofNat 0) d (Int32.ofNat 0) (Int32.ofNat cs.length)) ?_
  show Go p e below _ s₁ (mkF m 0 #[.val (.ref a), .val (.int (Int32.ofNat 0)), .val (.ref d), .val (.int (Int32.ofNat 0)), .val (.int (Int32.ofNat cs.length)), .unset, .unset] [])
  refine Go.st (fun _ k => XS.iconst X0.here hx rfl (hb hby dc5_0) k) ?_
  show Go p e below _ s₁ (mkF m 1 #[.val (.ref a), .val (.int (Int32.ofNat 0)), .val (.ref d), .val (.int (Int32.ofNat 0)), .val (.int (Int32.ofNat cs.length)), .unset, .unset] [(.int (0 : Int32))])
  refine Go.st (fun _ k => XS.istore X0.here hx rfl (hb hby dc5_1) rfl (l' := #[.val (.ref a), .val (.int (Int32.ofNat 0)), .val (.ref d), .val (.int (Int32.ofNat 0)), .val (.int (Int32.ofNat cs.length)), .val (.int (0 : Int32)), .unset]) rfl k) ?_
  show Go p e below _ s₁ (mkF m 3 #[.val (.ref a), .val (.int (Int32.ofNat 0)), .val (.ref d), .val (.int (Int32.ofNat 0)), .val (.int (Int32.ofNat cs.length)), .val (.int (0 : Int32)), .unset] [])
  exact lpC5 l Z a0 hw cs a d h0 n0 hn hx hby hml hown hret hlk hZ hnd hab cs.length 0 s₁ h0 _ .unset (by omega) One.u X0 e0 A (by simpa using D) (by simp) (Fr.nil n0) (Keep.refl _ _)
def own_val (cs : List Int32) : List Int32 := if own_fb cs = cs.length then cs.map own_lo else own_u16 cs
def own_cod (cs : List Int32) : Int32 := if own_fb cs = cs.length then 0 else 1
def QC3 (Z : State) (cs : List Int32) (h0 : Heap) (n0 : Nat) (v : Option Value) (h : Heap) (L : List Loc) : Prop := ∃ t, v = some (.ref t) ∧ Fr n0 L ∧ Keep h0 h [] ∧ AI Z h t .byte (own_val cs) ∧ h0.size ≤ t
theorem dc3_0 : decode jdk_52_method_16_code 0 = .ok (.iload_n 2, 1) := by decide +kernel
theorem dc3_1 : decode jdk_52_method_16_code 1 = .ok (.newarray .byte, 2) := by decide +kernel
theorem dc3_3 : decode jdk_52_method_16_code 3 = .ok (.astore_n 3, 1) := by decide +kernel
theorem dc3_4 : decode jdk_52_method_16_code 4 = .ok (.aload_n 0, 1) := by decide +kernel
theorem dc3_5 : decode jdk_52_method_16_code 5 = .ok (.iload_n 1, 1) := by decide +kernel
theorem dc3_6 : decode jdk_52_method_16_code 6 = .ok (.aload_n 3, 1) := by decide +kernel
theorem dc3_7 : decode jdk_52_method_16_code 7 = .ok (.iconst 0, 1) := by decide +kernel
theorem dc3_8 : decode jdk_52_method_16_code 8 = .ok (.iload_n 2, 1) := by decide +kernel
theorem dc3_9 : decode jdk_52_method_16_code 9 = .ok (.invokestatic 115, 3) := by decide +kernel
theorem dc3_12 : decode jdk_52_method_16_code 12 = .ok (.istore 4, 2) := by decide +kernel
theorem dc3_14 : decode jdk_52_method_16_code 14 = .ok (.iload 4, 2) := by decide +kernel
theorem dc3_16 : decode jdk_52_method_16_code 16 = .ok (.iload_n 2, 1) := by decide +kernel
theorem dc3_17 : decode jdk_52_method_16_code 17 = .ok (.if_icmp .eq 40, 3) := by decide +kernel
theorem dc3_20 : decode jdk_52_method_16_code 20 = .ok (.aload_n 0, 1) := by decide +kernel
theorem dc3_21 : decode jdk_52_method_16_code 21 = .ok (.iload_n 1, 1) := by decide +kernel
theorem dc3_22 : decode jdk_52_method_16_code 22 = .ok (.iload_n 2, 1) := by decide +kernel
theorem dc3_23 : decode jdk_52_method_16_code 23 = .ok (.invokestatic 119, 3) := by decide +kernel
theorem dc3_26 : decode jdk_52_method_16_code 26 = .ok (.astore 5, 2) := by decide +kernel
theorem dc3_28 : decode jdk_52_method_16_code 28 = .ok (.aload 5, 2) := by decide +kernel
theorem dc3_30 : decode jdk_52_method_16_code 30 = .ok (.iload 4, 2) := by decide +kernel
theorem dc3_32 : decode jdk_52_method_16_code 32 = .ok (.invokestatic 71, 3) := by decide +kernel
theorem dc3_35 : decode jdk_52_method_16_code 35 = .ok (.sipush 255, 3) := by decide +kernel
theorem dc3_38 : decode jdk_52_method_16_code 38 = .ok (.if_icmp .gt 16, 3) := by decide +kernel
theorem dc3_54 : decode jdk_52_method_16_code 54 = .ok (.aload 5, 2) := by decide +kernel
theorem dc3_56 : decode jdk_52_method_16_code 56 = .ok (.areturn, 1) := by decide +kernel
theorem dc3_57 : decode jdk_52_method_16_code 57 = .ok (.aload_n 3, 1) := by decide +kernel
theorem dc3_58 : decode jdk_52_method_16_code 58 = .ok (.areturn, 1) := by decide +kernel
set_option maxRecDepth 65536 in
set_option maxHeartbeats 40000000 in
theorem rmC3 (l : Launch) (Z : State) (a0 : Array Value) (hw : ∀ d ∈ tables_1, d.before a0 Z = true) (z : Int32) (Su : Su16 Z z) (cs : List Int32) (a : Addr) (h0 : Heap) (n0 : Nat) (hn : cs.length ≤ 4000) (hbd : ∀ c ∈ cs, ¬ c < 0 ∧ ¬ (65535 : Int32) < c) (hZ0 : n0 ≤ h0.size) (O : Old Z n0 h0) (A : AI Z h0 a .char cs) :
    Ctr l Z (⟨"java/lang/StringUTF16", "compress", "([CII)[B"⟩ : MethodName) jdk_52_method_16_code 6 (some (.array .byte)) [] ({ frames := 3, cells := 2, slots := 3 * cs.length, locals := 40 } : Room) #[(.ref a), (.int (Int32.ofNat 0)), (.int (Int32.ofNat cs.length))] h0 (QC3 Z cs h0 n0) := by
  refine Ctr.of (plainFor_of_name pn_1) ?_
  intro p e s m below meth c s₁ hx hby hml hown hnm hret hlk hZ X0 e0
  refine Go.cast (ef_9 m a (Int32.ofNat 0) (Int32.ofNat cs.length)) ?_
  show Go p e below _ s₁ (mkF m 0 #[.val (.ref a), .val (.int (Int32.ofNat 0)), .val (.int (Int32.ofNat cs.length)), .unset, .unset, .unset] [])
  refine Go.st (fun _ k => XS.iloadN X0.here hx rfl (hb hby dc3_0) rfl k) ?_
  show Go p e below _ s₁ (mkF m 1 #[.val (.ref a), .val (.int (Int32.ofNat 0)), .val (.int (Int32.ofNat cs.length)), .unset, .unset, .unset] [(.int (Int32.ofNat cs.length))])
  refine Go.newarr X0 hx hZ (ty := .byte) rfl rfl (hw _ (List.mem_of_getElem? (i := 27) rfl)) e0 (g := (mkF m 1 #[.val (.ref a), .val (.int (Int32.ofNat 0)), .val (.int (Int32.ofNat cs.length)), .unset, .unset, .unset] [(.int (Int32.ofNat cs.length))])) rfl (hb hby dc3_1) rfl (n := cs.length) rfl (by omega) (by (try dsimp only [room_1]); (try simp only [List.length_cons, List.length_nil]); omega) (by (try dsimp only [room_1]); (try simp only [List.length_cons, List.length_nil]); omega) ?_
  rintro T1 h1 X1 e1 E1 l1 A1
  obtain ⟨d, gd⟩ : ∃ z, z = h0.size := ⟨_, rfl⟩
  rw [← gd] at A1 l1 ⊢
  show Go p e below _ T1 (mkF m 3 #[.val (.ref a), .val (.int (Int32.ofNat 0)), .val (.int (Int32.ofNat cs.length)), .unset, .unset, .unset] [(.ref d)])
  refine Go.st (fun _ k => XS.astoreN X1.here hx rfl (hb hby dc3_3) rfl rfl (l' := #[.val (.ref a), .val (.int (Int32.ofNat 0)), .val (.int (Int32.ofNat cs.length)), .val (.ref d), .unset, .unset]) rfl k) ?_
  show Go p e below _ T1 (mkF m 4 #[.val (.ref a), .val (.int (Int32.ofNat 0)), .val (.int (Int32.ofNat cs.length)), .val (.ref d), .unset, .unset] [])
  refine Go.st (fun _ k => XS.aloadN X1.here hx rfl (hb hby dc3_4) rfl rfl k) ?_
  show Go p e below _ T1 (mkF m 5 #[.val (.ref a), .val (.int (Int32.ofNat 0)), .val (.int (Int32.ofNat cs.length)), .val (.ref d), .unset, .unset] [(.ref a)])
  refine Go.st (fun _ k => XS.iloadN X1.here hx rfl (hb hby dc3_5) rfl k) ?_
  show Go p e below _ T1 (mkF m 6 #[.val (.ref a), .val (.int (Int32.ofNat 0)), .val (.int (Int32.ofNat cs.length)), .val (.ref d), .unset, .unset] [(.int (Int32.ofNat 0)), (.ref a)])
  refine Go.st (fun _ k => XS.aloadN X1.here hx rfl (hb hby dc3_6) rfl rfl k) ?_
  show Go p e below _ T1 (mkF m 7 #[.val (.ref a), .val (.int (Int32.ofNat 0)), .val (.int (Int32.ofNat cs.length)), .val (.ref d), .unset, .unset] [(.ref d), (.int (Int32.ofNat 0)), (.ref a)])
  refine Go.st (fun _ k => XS.iconst X1.here hx rfl (hb hby dc3_7) k) ?_
  show Go p e below _ T1 (mkF m 8 #[.val (.ref a), .val (.int (Int32.ofNat 0)), .val (.int (Int32.ofNat cs.length)), .val (.ref d), .unset, .unset] [(.int (0 : Int32)), (.ref d), (.int (Int32.ofNat 0)), (.ref a)])
  refine Go.st (fun _ k => XS.iloadN X1.here hx rfl (hb hby dc3_8) rfl k) ?_
  show Go p e below _ T1 (mkF m 9 #[.val (.ref a), .val (.int (Int32.ofNat 0)), .val (.int (Int32.ofNat cs.length)), .val (.ref d), .unset, .unset] [(.int (Int32.ofNat cs.length)), (.int (0 : Int32)), (.ref d), (.int (Int32.ofNat 0)), (.ref a)])
  have la : a ≠ d := Nat.ne_of_lt (Nat.lt_of_lt_of_eq A.lt gd.symm)
  refine Go.callS X1 hx (y := (⟨"java/lang/StringUTF16", "compress", "([CI[BII)I"⟩ : MethodName)) hown (mvT hZ (hw _ (List.mem_of_getElem? (i := 28) rfl))) (mvT hZ (hw _ (List.mem_of_getElem? (i := 29) rfl))) (mvT hZ (hw _ (List.mem_of_getElem? (i := 25) rfl))) (mvT hZ (hw _ (List.mem_of_getElem? (i := 30) rfl))) (by decide) (Ctr.back (W := 0) (rmC5 l Z a0 hw cs a d h1 n0 hn (by omega) la (A.ext E1) A1) hZ (hw _ (List.mem_of_getElem? (i := 30) rfl)) (hw _ (List.mem_of_getElem? (i := 25) rfl)) (by (try dsimp only [room_1]); (try simp only [List.length_cons, List.length_nil]); omega) (by (try dsimp only [room_1]); (try simp only [List.length_cons, List.length_nil]); omega)) e1 (g := (mkF m 9 #[.val (.ref a), .val (.int (Int32.ofNat 0)), .val (.int (Int32.ofNat cs.length)), .val (.ref d), .unset, .unset] [(.int (Int32.ofNat cs.length)), (.int (0 : Int32)), (.ref d), (.int (Int32.ofNat 0)), (.ref a)])) rfl (by rw [hml]; rfl) (argsL := [(.ref a), (.int (Int32.ofNat 0)), (.ref d), (.int (0 : Int32)), (.int (Int32.ofNat cs.length))]) (rest := []) (lenOf pd_10 rfl) rfl (by show 2 * 0 + _ ≤ _; exact Nat.le_of_eq rfl) (hb hby dc3_9) rfl (by (try dsimp only [room_1]); (try simp only [List.length_cons, List.length_nil]); omega) (by (try dsimp only [room_1]); (try simp only [List.length_cons, List.length_nil]); omega) ?_
  rintro _ T2 L2 X2 ⟨rfl, N2, K2, A2⟩
  show Go p e below _ T2 (mkF m 12 #[.val (.ref a), .val (.int (Int32.ofNat 0)), .val (.int (Int32.ofNat cs.length)), .val (.ref d), .unset, .unset] [(.int (Int32.ofNat (own_fb cs)))])
  refine Go.st (fun _ k => XS.istore X2.here hx rfl (hb hby dc3_12) rfl (l' := #[.val (.ref a), .val (.int (Int32.ofNat 0)), .val (.int (Int32.ofNat cs.length)), .val (.ref d), .val (.int (Int32.ofNat (own_fb cs))), .unset]) rfl k) ?_
  show Go p e below _ T2 (mkF m 14 #[.val (.ref a), .val (.int (Int32.ofNat 0)), .val (.int (Int32.ofNat cs.length)), .val (.ref d), .val (.int (Int32.ofNat (own_fb cs))), .unset] [])
  refine Go.st (fun _ k => XS.iload X2.here hx rfl (hb hby dc3_14) rfl k) ?_
  show Go p e below _ T2 (mkF m 16 #[.val (.ref a), .val (.int (Int32.ofNat 0)), .val (.int (Int32.ofNat cs.length)), .val (.ref d), .val (.int (Int32.ofNat (own_fb cs))), .unset] [(.int (Int32.ofNat (own_fb cs)))])
  refine Go.st (fun _ k => XS.iloadN X2.here hx rfl (hb hby dc3_16) rfl k) ?_
  show Go p e below _ T2 (mkF m 17 #[.val (.ref a), .val (.int (Int32.ofNat 0)), .val (.int (Int32.ofNat cs.length)), .val (.ref d), .val (.int (Int32.ofNat (own_fb cs))), .unset] [(.int (Int32.ofNat cs.length)), (.int (Int32.ofNat (own_fb cs)))])
  have K02 : Keep h0 T2.heap [] := ((Keep.refl h0 []).ext E1).trans K2 (fun x q => Or.inr (by cases List.mem_singleton.mp q; omega))
  have hfl := own_fb_le cs
  by_cases q : own_fb cs = cs.length
  · skip
    refine Go.st (fun _ k => XS.icmpYes X2.here hx rfl (pc0 := 17) (pc' := 57) rfl (hb hby dc3_17) rfl (XT.ii_eq_t (by rw [q])) (by decide) (by decide) k) ?_
    show Go p e below _ T2 (mkF m 57 #[.val (.ref a), .val (.int (Int32.ofNat 0)), .val (.int (Int32.ofNat cs.length)), .val (.ref d), .val (.int (Int32.ofNat (own_fb cs))), .unset] [])
    refine Go.st (fun _ k => XS.aloadN X2.here hx rfl (hb hby dc3_57) rfl rfl k) ?_
    show Go p e below _ T2 (mkF m 58 #[.val (.ref a), .val (.int (Int32.ofNat 0)), .val (.int (Int32.ofNat cs.length)), .val (.ref d), .val (.int (Int32.ofNat (own_fb cs))), .unset] [(.ref d)])
    exact Go.retV X2 hx hret hlk rfl rfl (hb hby dc3_58) ⟨d, rfl, Fr.app (Fr.nil n0) N2, K02, by unfold own_val; rw [if_pos q]; rw [q] at A2; simpa using A2, by omega⟩ (by (try dsimp only [room_1]); (try simp only [List.length_cons, List.length_nil]); omega) (by (try dsimp only [room_1]); (try simp only [List.length_cons, List.length_nil]); omega)
  · skip
    have qn : ¬ Int32.ofNat (own_fb cs) = Int32.ofNat cs.length := fun z => q (by have z' := congrArg Int32.toInt z; rw [own_toInt (by omega), own_toInt (by omega)] at z'; omega)
    refine Go.st (fun _ k => XS.icmpNo X2.here hx rfl (hb hby dc3_17) rfl (XT.ii_eq_f qn) k) ?_
    show Go p e below _ T2 (mkF m 20 #[.val (.ref a), .val (.int (Int32.ofNat 0)), .val (.int (Int32.ofNat cs.length)), .val (.ref d), .val (.int (Int32.ofNat (own_fb cs))), .unset] [])
    refine Go.st (fun _ k => XS.aloadN X2.here hx rfl (hb hby dc3_20) rfl rfl k) ?_
    show Go p e below _ T2 (mkF m 21 #[.val (.ref a), .val (.int (Int32.ofNat 0)), .val (.int (Int32.ofNat cs.length)), .val (.ref d), .val (.int (Int32.ofNat (own_fb cs))), .unset] [(.ref a)])
    refine Go.st (fun _ k => XS.iloadN X2.here hx rfl (hb hby dc3_21) rfl k) ?_
    show Go p e below _ T2 (mkF m 22 #[.val (.ref a), .val (.int (Int32.ofNat 0)), .val (.int (Int32.ofNat cs.length)), .val (.ref d), .val (.int (Int32.ofNat (own_fb cs))), .unset] [(.int (Int32.ofNat 0)), (.ref a)])
    refine Go.st (fun _ k => XS.iloadN X2.here hx rfl (hb hby dc3_22) rfl k) ?_
    show Go p e below _ T2 (mkF m 23 #[.val (.ref a), .val (.int (Int32.ofNat 0)), .val (.int (Int32.ofNat cs.length)), .val (.ref d), .val (.int (Int32.ofNat (own_fb cs))), .unset] [(.int (Int32.ofNat cs.length)), (.int (Int32.ofNat 0)), (.ref a)])
    have O2 : Old Z n0 T2.heap := (O.ext E1).keep K2 (allS (by omega) all0)
    have Aa : AI Z T2.heap a .char cs := A.keep K02 nin0
    have k02 := K02.1
    refine Go.callS X2 hx (y := (⟨"java/lang/StringUTF16", "toBytes", "([CII)[B"⟩ : MethodName)) hown (mvT hZ (hw _ (List.mem_of_getElem? (i := 58) rfl))) (mvT hZ (hw _ (List.mem_of_getElem? (i := 59) rfl))) (mvT hZ (hw _ (List.mem_of_getElem? (i := 25) rfl))) (mvT hZ (hw _ (List.mem_of_getElem? (i := 60) rfl))) (by decide) (Ctr.back (W := 0) (rmTB l Z a0 hw z Su cs a T2.heap n0 hn (by omega) O2 Aa) hZ (hw _ (List.mem_of_getElem? (i := 60) rfl)) (hw _ (List.mem_of_getElem? (i := 25) rfl)) (by (try dsimp only [room_1]); (try simp only [List.length_cons, List.length_nil]); omega) (by (try dsimp only [room_1]); (try simp only [List.length_cons, List.length_nil]); omega)) rfl (g := (mkF m 23 #[.val (.ref a), .val (.int (Int32.ofNat 0)), .val (.int (Int32.ofNat cs.length)), .val (.ref d), .val (.int (Int32.ofNat (own_fb cs))), .unset] [(.int (Int32.ofNat cs.length)), (.int (Int32.ofNat 0)), (.ref a)])) rfl (by rw [hml]; rfl) (argsL := [(.ref a), (.int (Int32.ofNat 0)), (.int (Int32.ofNat cs.length))]) (rest := []) (lenOf pd_11 rfl) rfl (by show 2 * 0 + _ ≤ _; exact Nat.le_of_eq rfl) (hb hby dc3_23) rfl (by (try dsimp only [room_1]); (try simp only [List.length_cons, List.length_nil]); omega) (by (try dsimp only [room_1]); (try simp only [List.length_cons, List.length_nil]); omega) ?_
    rintro _ T3 L3 X3 ⟨rfl, N3, K3, B3⟩
    show Go p e below _ T3 (mkF m 26 #[.val (.ref a), .val (.int (Int32.ofNat 0)), .val (.int (Int32.ofNat cs.length)), .val (.ref d), .val (.int (Int32.ofNat (own_fb cs))), .unset] [(.ref T2.heap.size)])
    refine Go.st (fun _ k => XS.astore X3.here hx rfl (hb hby dc3_26) rfl rfl (l' := #[.val (.ref a), .val (.int (Int32.ofNat 0)), .val (.int (Int32.ofNat cs.length)), .val (.ref d), .val (.int (Int32.ofNat (own_fb cs))), .val (.ref T2.heap.size)]) rfl k) ?_
    show Go p e below _ T3 (mkF m 28 #[.val (.ref a), .val (.int (Int32.ofNat 0)), .val (.int (Int32.ofNat cs.length)), .val (.ref d), .val (.int (Int32.ofNat (own_fb cs))), .val (.ref T2.heap.size)] [])
    refine Go.st (fun _ k => XS.aload X3.here hx rfl (hb hby dc3_28) rfl rfl k) ?_
    show Go p e below _ T3 (mkF m 30 #[.val (.ref a), .val (.int (Int32.ofNat 0)), .val (.int (Int32.ofNat cs.length)), .val (.ref d), .val (.int (Int32.ofNat (own_fb cs))), .val (.ref T2.heap.size)] [(.ref T2.heap.size)])
    refine Go.st (fun _ k => XS.iload X3.here hx rfl (hb hby dc3_30) rfl k) ?_
    show Go p e below _ T3 (mkF m 32 #[.val (.ref a), .val (.int (Int32.ofNat 0)), .val (.int (Int32.ofNat cs.length)), .val (.ref d), .val (.int (Int32.ofNat (own_fb cs))), .val (.ref T2.heap.size)] [(.int (Int32.ofNat (own_fb cs))), (.ref T2.heap.size)])
    obtain ⟨x, hxi, hxb⟩ := own_fb_at cs (by omega)
    have hx2 := hbd x (List.mem_of_getElem? hxi)
    refine Go.callS X3 hx (y := (⟨"java/lang/StringUTF16", "getChar", "([BI)C"⟩ : MethodName)) hown (mvT hZ (hw _ (List.mem_of_getElem? (i := 74) rfl))) (mvT hZ (hw _ (List.mem_of_getElem? (i := 75) rfl))) (mvT hZ (hw _ (List.mem_of_getElem? (i := 25) rfl))) (mvT hZ (hw _ (List.mem_of_getElem? (i := 76) rfl))) (by decide) (Ctr.back (W := 0) (rmGC l Z a0 hw z Su cs T2.heap.size (own_fb cs) x hn hxi hx2.1 hx2.2 T3.heap n0 (O2.keep K3 all0) B3) hZ (hw _ (List.mem_of_getElem? (i := 76) rfl)) (hw _ (List.mem_of_getElem? (i := 25) rfl)) (by (try dsimp only [room_1]); (try simp only [List.length_cons, List.length_nil]); omega) (by (try dsimp only [room_1]); (try simp only [List.length_cons, List.length_nil]); omega)) rfl (g := (mkF m 32 #[.val (.ref a), .val (.int (Int32.ofNat 0)), .val (.int (Int32.ofNat cs.length)), .val (.ref d), .val (.int (Int32.ofNat (own_fb cs))), .val (.ref T2.heap.size)] [(.int (Int32.ofNat (own_fb cs))), (.ref T2.heap.size)])) rfl (by rw [hml]; rfl) (argsL := [(.ref T2.heap.size), (.int (Int32.ofNat (own_fb cs)))]) (rest := []) (lenOf pd_12 rfl) rfl (by show 2 * 0 + _ ≤ _; exact Nat.le_of_eq rfl) (hb hby dc3_32) rfl (by (try dsimp only [room_1]); (try simp only [List.length_cons, List.length_nil]); omega) (by (try dsimp only [room_1]); (try simp only [List.length_cons, List.length_nil]); omega) ?_
    rintro _ T4 L4 X4 ⟨rfl, N4, e4⟩
    show Go p e below _ T4 (mkF m 35 #[.val (.ref a), .val (.int (Int32.ofNat 0)), .val (.int (Int32.ofNat cs.length)), .val (.ref d), .val (.int (Int32.ofNat (own_fb cs))), .val (.ref T2.heap.size)] [(.int x)])
    refine Go.st (fun _ k => XS.sipush X4.here hx rfl (hb hby dc3_35) k) ?_
    show Go p e below _ T4 (mkF m 38 #[.val (.ref a), .val (.int (Int32.ofNat 0)), .val (.int (Int32.ofNat cs.length)), .val (.ref d), .val (.int (Int32.ofNat (own_fb cs))), .val (.ref T2.heap.size)] [(.int (255 : Int32)), (.int x)])
    refine Go.st (fun _ k => XS.icmpYes X4.here hx rfl (pc0 := 38) (pc' := 54) rfl (hb hby dc3_38) rfl (XT.ii_gt_t hxb) (by decide) (by decide) k) ?_
    show Go p e below _ T4 (mkF m 54 #[.val (.ref a), .val (.int (Int32.ofNat 0)), .val (.int (Int32.ofNat cs.length)), .val (.ref d), .val (.int (Int32.ofNat (own_fb cs))), .val (.ref T2.heap.size)] [])
    refine Go.st (fun _ k => XS.aload X4.here hx rfl (hb hby dc3_54) rfl rfl k) ?_
    show Go p e below _ T4 (mkF m 56 #[.val (.ref a), .val (.int (Int32.ofNat 0)), .val (.int (Int32.ofNat cs.length)), .val (.ref d), .val (.int (Int32.ofNat (own_fb cs))), .val (.ref T2.heap.size)] [(.ref T2.heap.size)])
    exact Go.retV X4 hx hret hlk rfl rfl (hb hby dc3_56) ⟨T2.heap.size, rfl, Fr.app (Fr.app (Fr.app (Fr.nil n0) N2) N3) N4, e4 ▸ K02.trans K3 (fun _ z => nomatch z), by unfold own_val; rw [if_neg q, e4]; exact B3, by omega⟩ (by (try dsimp only [room_1]); (try simp only [List.length_cons, List.length_nil]); omega) (by (try dsimp only [room_1]); (try simp only [List.length_cons, List.length_nil]); omega)
theorem own_val_len (cs : List Int32) : (own_val cs).length = if own_fb cs = cs.length then cs.length else 2 * cs.length := by
  unfold own_val; split
  · simp
  · exact own_u16_len cs
theorem own_ushr_neg {x : Int32} (h : x < 0) : XT.ushr x (31 : Int32) = 1 := by
  rw [XT.negI32] at h
  have q : x.toInt = x.toBitVec.toInt := rfl
  rw [q, BitVec.toInt_eq_toNat_cond] at h
  have hb := x.toBitVec.isLt
  unfold XT.ushr
  have e : ((31 : Int32) &&& 31).toUInt32 = 31 := by decide
  rw [e]
  apply Int32.toBitVec_inj.mp
  apply BitVec.eq_of_toNat_eq
  show (x.toUInt32 >>> 31).toNat = _
  rw [UInt32.toNat_shiftRight]
  have e3 : x.toUInt32.toNat = x.toBitVec.toNat := rfl
  rw [e3]
  have e4 : (31 : UInt32).toNat % 32 = 31 := by decide
  rw [e4, Nat.shiftRight_eq_div_pow]
  have e5 : (1 : Int32).toBitVec.toNat = 1 := by decide
  rw [e5]
  split at h <;> omega
theorem own_coder {cs : List Int32} (hn : cs.length ≤ 4000) (h0 : 0 < cs.length) : nar .byte ((XT.ushr (Int32.ofNat cs.length - Int32.ofNat (own_val cs).length) (31 : Int32)).toInt8.toInt32) = own_cod cs := by
  rw [own_val_len]; unfold own_cod
  split
  · rw [Int32.sub_self]; decide
  · have q : Int32.ofNat cs.length - Int32.ofNat (2 * cs.length) < 0 := by
      rw [XT.negI32, XT.sub32 (by rw [own_toInt (by omega), own_toInt (by omega)]; constructor <;> omega), own_toInt (by omega), own_toInt (by omega)]; omega
    rw [own_ushr_neg q]; decide
theorem dcl_0 : decode jdk_52_method_15_code 0 = .ok (.iload_n 1, 1) := by decide +kernel
theorem dcl_1 : decode jdk_52_method_15_code 1 = .ok (.aload_n 0, 1) := by decide +kernel
theorem dcl_2 : decode jdk_52_method_15_code 2 = .ok (.arraylength, 1) := by decide +kernel
theorem dcl_3 : decode jdk_52_method_15_code 3 = .ok (.isub, 1) := by decide +kernel
theorem dcl_4 : decode jdk_52_method_15_code 4 = .ok (.bipush 31, 2) := by decide +kernel
theorem dcl_6 : decode jdk_52_method_15_code 6 = .ok (.iushr, 1) := by decide +kernel
theorem dcl_7 : decode jdk_52_method_15_code 7 = .ok (.i2b, 1) := by decide +kernel
theorem dcl_8 : decode jdk_52_method_15_code 8 = .ok (.ireturn, 1) := by decide +kernel
set_option maxRecDepth 65536 in
set_option maxHeartbeats 40000000 in
theorem rmCL (l : Launch) (Z : State) (a0 : Array Value) (hw : ∀ d ∈ tables_1, d.before a0 Z = true) (cs : List Int32) (t : Addr) (h0 : Heap) (n0 : Nat) (hn : cs.length ≤ 4000) (h1 : 0 < cs.length) (B : AI Z h0 t .byte (own_val cs)) :
    Ctr l Z (⟨"java/lang/StringUTF16", "coderFromArrayLen", "([BI)B"⟩ : MethodName) jdk_52_method_15_code 2 (some .byte) [] ({ frames := 0, cells := 0, slots := 0, locals := 0 } : Room) #[(.ref t), (.int (Int32.ofNat cs.length))] h0 (QP (own_cod cs) h0 n0) := by
  refine Ctr.of (plainFor_of_name pn_1) ?_
  intro p e s m below meth c s₁ hx hby hml hown hnm hret hlk hZ X0 e0
  refine Go.cast (ef_7 m t (Int32.ofNat cs.length)) ?_
  show Go p e below _ s₁ (mkF m 0 #[.val (.ref t), .val (.int (Int32.ofNat cs.length))] [])
  refine Go.st (fun _ k => XS.iloadN X0.here hx rfl (hb hby dcl_0) rfl k) ?_
  show Go p e below _ s₁ (mkF m 1 #[.val (.ref t), .val (.int (Int32.ofNat cs.length))] [(.int (Int32.ofNat cs.length))])
  refine Go.st (fun _ k => XS.aloadN X0.here hx rfl (hb hby dcl_1) rfl rfl k) ?_
  show Go p e below _ s₁ (mkF m 2 #[.val (.ref t), .val (.int (Int32.ofNat cs.length))] [(.ref t), (.int (Int32.ofNat cs.length))])
  refine Go.alen X0 hx hZ e0 B (g := (mkF m 2 #[.val (.ref t), .val (.int (Int32.ofNat cs.length))] [(.ref t), (.int (Int32.ofNat cs.length))])) rfl rfl (hb hby dcl_2) ?_
  show Go p e below _ s₁ (mkF m 3 #[.val (.ref t), .val (.int (Int32.ofNat cs.length))] [(.int (Int32.ofNat (own_val cs).length)), (.int (Int32.ofNat cs.length))])
  refine Go.st (fun _ k => XS.isub X0.here hx rfl (hb hby dcl_3) rfl k) ?_
  show Go p e below _ s₁ (mkF m 4 #[.val (.ref t), .val (.int (Int32.ofNat cs.length))] [(.int ((Int32.ofNat cs.length) - (Int32.ofNat (own_val cs).length)))])
  refine Go.st (fun _ k => XS.bipush X0.here hx rfl (hb hby dcl_4) k) ?_
  show Go p e below _ s₁ (mkF m 6 #[.val (.ref t), .val (.int (Int32.ofNat cs.length))] [(.int (31 : Int32)), (.int ((Int32.ofNat cs.length) - (Int32.ofNat (own_val cs).length)))])
  refine Go.st (fun _ k => XT.iushr X0.here hx rfl (hb hby dcl_6) rfl k) ?_
  show Go p e below _ s₁ (mkF m 7 #[.val (.ref t), .val (.int (Int32.ofNat cs.length))] [(.int (XT.ushr ((Int32.ofNat cs.length) - (Int32.ofNat (own_val cs).length)) (31 : Int32)))])
  refine Go.st (fun _ k => XT.i2b X0.here hx rfl (hb hby dcl_7) rfl k) ?_
  show Go p e below _ s₁ (mkF m 8 #[.val (.ref t), .val (.int (Int32.ofNat cs.length))] [(.int ((XT.ushr ((Int32.ofNat cs.length) - (Int32.ofNat (own_val cs).length)) (31 : Int32)).toInt8.toInt32))])
  exact Go.retB X0 hx hret hlk (Or.inr (Or.inl rfl)) (hb hby dcl_8) ⟨by rw [own_coder hn h1], Fr.nil n0, e0⟩ (Nat.le_refl _) (Nat.le_refl _)
def QI (Z : State) (x : Addr) (cs : List Int32) (h0 : Heap) (n0 : Nat) (v : Option Value) (h : Heap) (L : List Loc) : Prop := v = none ∧ Fr n0 L ∧ Keep h0 h [x] ∧ Exa Z h x "java/lang/String" ∧ Fld Z h x "java/lang/String" "coder" "B" (.int (own_cod cs)) ∧ ∃ t, Fld Z h x "java/lang/String" "value" "[B" (.ref t) ∧ AI Z h t .byte (own_val cs) ∧ t ≠ x
theorem di4_0 : decode jdk_42_method_149_code 0 = .ok (.aload_n 0, 1) := by decide +kernel
theorem di4_1 : decode jdk_42_method_149_code 1 = .ok (.invokespecial 1, 3) := by decide +kernel
theorem di4_4 : decode jdk_42_method_149_code 4 = .ok (.iload_n 3, 1) := by decide +kernel
theorem di4_5 : decode jdk_42_method_149_code 5 = .ok (.ifCond .ne 22, 3) := by decide +kernel
theorem di4_27 : decode jdk_42_method_149_code 27 = .ok (.getstatic 38, 3) := by decide +kernel
theorem di4_30 : decode jdk_42_method_149_code 30 = .ok (.ifCond .eq 28, 3) := by decide +kernel
theorem di4_33 : decode jdk_42_method_149_code 33 = .ok (.aload_n 1, 1) := by decide +kernel
theorem di4_34 : decode jdk_42_method_149_code 34 = .ok (.iload_n 2, 1) := by decide +kernel
theorem di4_35 : decode jdk_42_method_149_code 35 = .ok (.iload_n 3, 1) := by decide +kernel
theorem di4_36 : decode jdk_42_method_149_code 36 = .ok (.invokestatic 177, 3) := by decide +kernel
theorem di4_39 : decode jdk_42_method_149_code 39 = .ok (.astore 5, 2) := by decide +kernel
theorem di4_41 : decode jdk_42_method_149_code 41 = .ok (.aload_n 0, 1) := by decide +kernel
theorem di4_42 : decode jdk_42_method_149_code 42 = .ok (.aload 5, 2) := by decide +kernel
theorem di4_44 : decode jdk_42_method_149_code 44 = .ok (.iload_n 3, 1) := by decide +kernel
theorem di4_45 : decode jdk_42_method_149_code 45 = .ok (.invokestatic 47, 3) := by decide +kernel
theorem di4_48 : decode jdk_42_method_149_code 48 = .ok (.putfield 15, 3) := by decide +kernel
theorem di4_51 : decode jdk_42_method_149_code 51 = .ok (.aload_n 0, 1) := by decide +kernel
theorem di4_52 : decode jdk_42_method_149_code 52 = .ok (.aload 5, 2) := by decide +kernel
theorem di4_54 : decode jdk_42_method_149_code 54 = .ok (.putfield 9, 3) := by decide +kernel
theorem di4_57 : decode jdk_42_method_149_code 57 = .ok (.return_, 1) := by decide +kernel
set_option maxRecDepth 65536 in
set_option maxHeartbeats 40000000 in
theorem rmI4 (l : Launch) (Z : State) (a0 : Array Value) (hw : ∀ d ∈ tables_1, d.before a0 Z = true) (z : Int32) (Su : Su16 Z z) (cs : List Int32) (hn : cs.length ≤ 4000) (h1 : 0 < cs.length) (hbd : ∀ c ∈ cs, ¬ c < 0 ∧ ¬ (65535 : Int32) < c) (x a : Addr) (v0 c0 : Value) (h0 : Heap) (n0 : Nat) (hna : n0 ≤ x) (hZ0 : n0 ≤ h0.size) (O : Old Z n0 h0) (E : Exa Z h0 x "java/lang/String") (V : Fld Z h0 x "java/lang/String" "value" "[B" v0) (Cc : Fld Z h0 x "java/lang/String" "coder" "B" c0) (A : AI Z h0 a .char cs) :
    Ctr l Z (⟨"java/lang/String", "<init>", "([CIILjava/lang/Void;)V"⟩ : MethodName) jdk_42_method_149_code 6 none [] ({ frames := 4, cells := 2, slots := 3 * cs.length, locals := 57 } : Room) #[(.ref x), (.ref a), (.int (Int32.ofNat 0)), (.int (Int32.ofNat cs.length)), .null] h0 (QI Z x cs h0 n0) := by
  refine Ctr.of (plainFor_of_name pn_15) ?_
  intro p e s m below meth c s₁ hx hby hml hown hnm hret hlk hZ X0 e0
  refine Go.cast (ef_13 m x a (Int32.ofNat 0) (Int32.ofNat cs.length)) ?_
  show Go p e below _ s₁ (mkF m 0 #[.val (.ref x), .val (.ref a), .val (.int (Int32.ofNat 0)), .val (.int (Int32.ofNat cs.length)), .val .null, .unset] [])
  refine Go.st (fun _ k => XS.aloadN X0.here hx rfl (hb hby di4_0) rfl rfl k) ?_
  show Go p e below _ s₁ (mkF m 1 #[.val (.ref x), .val (.ref a), .val (.int (Int32.ofNat 0)), .val (.int (Int32.ofNat cs.length)), .val .null, .unset] [(.ref x)])
  obtain ⟨T1, X1, e1, st1⟩ := initO X0 hx hZ hown (hw _ (List.mem_of_getElem? (i := 19) rfl)) (hw _ (List.mem_of_getElem? (i := 20) rfl)) (hw _ (List.mem_of_getElem? (i := 21) rfl)) e0 (g := (mkF m 1 #[.val (.ref x), .val (.ref a), .val (.int (Int32.ofNat 0)), .val (.int (Int32.ofNat cs.length)), .val .null, .unset] [(.ref x)])) rfl (by rw [hml]; rfl) rfl (hb hby di4_1) (by (try dsimp only [room_1]); (try simp only [List.length_cons, List.length_nil]); omega) (W := 0) (by show 2 * 0 + _ ≤ _; exact Nat.le_of_eq rfl) (by (try dsimp only [room_1]); (try simp only [List.length_cons, List.length_nil]); omega)
  refine Go.st st1 ?_
  show Go p e below _ T1 (mkF m 4 #[.val (.ref x), .val (.ref a), .val (.int (Int32.ofNat 0)), .val (.int (Int32.ofNat cs.length)), .val .null, .unset] [])
  refine Go.st (fun _ k => XS.iloadN X1.here hx rfl (hb hby di4_4) rfl k) ?_
  show Go p e below _ T1 (mkF m 5 #[.val (.ref x), .val (.ref a), .val (.int (Int32.ofNat 0)), .val (.int (Int32.ofNat cs.length)), .val .null, .unset] [(.int (Int32.ofNat cs.length))])
  have qn : ¬ Int32.ofNat cs.length = 0 := fun z' => by have q := congrArg Int32.toInt z'; rw [own_toInt (by omega)] at q; have q2 : ((0 : Int32)).toInt = 0 := rfl; omega
  refine Go.st (fun _ k => XS.ifYes X1.here hx rfl (pc0 := 5) (pc' := 27) rfl (hb hby di4_5) rfl (XT.i0_ne_t qn) (by decide) (by decide) k) ?_
  show Go p e below _ T1 (mkF m 27 #[.val (.ref x), .val (.ref a), .val (.int (Int32.ofNat 0)), .val (.int (Int32.ofNat cs.length)), .val .null, .unset] [])
  obtain ⟨T2, X2, e2, st2⟩ := getS2 X1 hx hZ hown (host := "") (Or.inl (hw _ (List.mem_of_getElem? (i := 22) rfl))) Via.refl e1 (Su.2.2.2.1.ext O.2) (g := (mkF m 27 #[.val (.ref x), .val (.ref a), .val (.int (Int32.ofNat 0)), .val (.int (Int32.ofNat cs.length)), .val .null, .unset] [])) rfl (hb hby di4_27)
  refine Go.st st2 ?_
  show Go p e below _ T2 (mkF m 30 #[.val (.ref x), .val (.ref a), .val (.int (Int32.ofNat 0)), .val (.int (Int32.ofNat cs.length)), .val .null, .unset] [(.int z)])
  refine Go.st (fun _ k => XS.ifNo X2.here hx rfl (hb hby di4_30) rfl (XT.i0_eq_f Su.2.2.2.2) k) ?_
  show Go p e below _ T2 (mkF m 33 #[.val (.ref x), .val (.ref a), .val (.int (Int32.ofNat 0)), .val (.int (Int32.ofNat cs.length)), .val .null, .unset] [])
  refine Go.st (fun _ k => XS.aloadN X2.here hx rfl (hb hby di4_33) rfl rfl k) ?_
  show Go p e below _ T2 (mkF m 34 #[.val (.ref x), .val (.ref a), .val (.int (Int32.ofNat 0)), .val (.int (Int32.ofNat cs.length)), .val .null, .unset] [(.ref a)])
  refine Go.st (fun _ k => XS.iloadN X2.here hx rfl (hb hby di4_34) rfl k) ?_
  show Go p e below _ T2 (mkF m 35 #[.val (.ref x), .val (.ref a), .val (.int (Int32.ofNat 0)), .val (.int (Int32.ofNat cs.length)), .val .null, .unset] [(.int (Int32.ofNat 0)), (.ref a)])
  refine Go.st (fun _ k => XS.iloadN X2.here hx rfl (hb hby di4_35) rfl k) ?_
  show Go p e below _ T2 (mkF m 36 #[.val (.ref x), .val (.ref a), .val (.int (Int32.ofNat 0)), .val (.int (Int32.ofNat cs.length)), .val .null, .unset] [(.int (Int32.ofNat cs.length)), (.int (Int32.ofNat 0)), (.ref a)])
  refine Go.callS X2 hx (y := (⟨"java/lang/StringUTF16", "compress", "([CII)[B"⟩ : MethodName)) hown (mvT hZ (hw _ (List.mem_of_getElem? (i := 23) rfl))) (mvT hZ (hw _ (List.mem_of_getElem? (i := 24) rfl))) (mvT hZ (hw _ (List.mem_of_getElem? (i := 25) rfl))) (mvT hZ (hw _ (List.mem_of_getElem? (i := 26) rfl))) (by decide) (Ctr.back (W := 0) (rmC3 l Z a0 hw z Su cs a h0 n0 hn hbd hZ0 O A) hZ (hw _ (List.mem_of_getElem? (i := 26) rfl)) (hw _ (List.mem_of_getElem? (i := 25) rfl)) (by (try dsimp only [room_1]); (try simp only [List.length_cons, List.length_nil]); omega) (by (try dsimp only [room_1]); (try simp only [List.length_cons, List.length_nil]); omega)) e2 (g := (mkF m 36 #[.val (.ref x), .val (.ref a), .val (.int (Int32.ofNat 0)), .val (.int (Int32.ofNat cs.length)), .val .null, .unset] [(.int (Int32.ofNat cs.length)), (.int (Int32.ofNat 0)), (.ref a)])) rfl (by rw [hml]; rfl) (argsL := [(.ref a), (.int (Int32.ofNat 0)), (.int (Int32.ofNat cs.length))]) (rest := []) (lenOf pd_11 rfl) rfl (by show 2 * 0 + _ ≤ _; exact Nat.le_of_eq rfl) (hb hby di4_36) rfl (by (try dsimp only [room_1]); (try simp only [List.length_cons, List.length_nil]); omega) (by (try dsimp only [room_1]); (try simp only [List.length_cons, List.length_nil]); omega) ?_
  rintro _ T3 L3 X3 ⟨t, rfl, N3, K3, B3, ht⟩
  show Go p e below _ T3 (mkF m 39 #[.val (.ref x), .val (.ref a), .val (.int (Int32.ofNat 0)), .val (.int (Int32.ofNat cs.length)), .val .null, .unset] [(.ref t)])
  refine Go.st (fun _ k => XS.astore X3.here hx rfl (hb hby di4_39) rfl rfl (l' := #[.val (.ref x), .val (.ref a), .val (.int (Int32.ofNat 0)), .val (.int (Int32.ofNat cs.length)), .val .null, .val (.ref t)]) rfl k) ?_
  show Go p e below _ T3 (mkF m 41 #[.val (.ref x), .val (.ref a), .val (.int (Int32.ofNat 0)), .val (.int (Int32.ofNat cs.length)), .val .null, .val (.ref t)] [])
  refine Go.st (fun _ k => XS.aloadN X3.here hx rfl (hb hby di4_41) rfl rfl k) ?_
  show Go p e below _ T3 (mkF m 42 #[.val (.ref x), .val (.ref a), .val (.int (Int32.ofNat 0)), .val (.int (Int32.ofNat cs.length)), .val .null, .val (.ref t)] [(.ref x)])
  refine Go.st (fun _ k => XS.aload X3.here hx rfl (hb hby di4_42) rfl rfl k) ?_
  show Go p e below _ T3 (mkF m 44 #[.val (.ref x), .val (.ref a), .val (.int (Int32.ofNat 0)), .val (.int (Int32.ofNat cs.length)), .val .null, .val (.ref t)] [(.ref t), (.ref x)])
  refine Go.st (fun _ k => XS.iloadN X3.here hx rfl (hb hby di4_44) rfl k) ?_
  show Go p e below _ T3 (mkF m 45 #[.val (.ref x), .val (.ref a), .val (.int (Int32.ofNat 0)), .val (.int (Int32.ofNat cs.length)), .val .null, .val (.ref t)] [(.int (Int32.ofNat cs.length)), (.ref t), (.ref x)])
  refine Go.callS X3 hx (y := (⟨"java/lang/StringUTF16", "coderFromArrayLen", "([BI)B"⟩ : MethodName)) hown (mvT hZ (hw _ (List.mem_of_getElem? (i := 31) rfl))) (mvT hZ (hw _ (List.mem_of_getElem? (i := 32) rfl))) (mvT hZ (hw _ (List.mem_of_getElem? (i := 25) rfl))) (mvT hZ (hw _ (List.mem_of_getElem? (i := 33) rfl))) (by decide) (Ctr.back (W := 1) (rmCL l Z a0 hw cs t T3.heap n0 hn h1 B3) hZ (hw _ (List.mem_of_getElem? (i := 33) rfl)) (hw _ (List.mem_of_getElem? (i := 25) rfl)) (by (try dsimp only [room_1]); (try simp only [List.length_cons, List.length_nil]); omega) (by (try dsimp only [room_1]); (try simp only [List.length_cons, List.length_nil]); omega)) rfl (g := (mkF m 45 #[.val (.ref x), .val (.ref a), .val (.int (Int32.ofNat 0)), .val (.int (Int32.ofNat cs.length)), .val .null, .val (.ref t)] [(.int (Int32.ofNat cs.length)), (.ref t), (.ref x)])) rfl (by rw [hml]; rfl) (argsL := [(.ref t), (.int (Int32.ofNat cs.length))]) (rest := [(.ref x)]) (lenOf pd_14 rfl) rfl (by show 2 * 0 + _ ≤ _; exact Nat.le_of_eq rfl) (hb hby di4_45) rfl (by (try dsimp only [room_1]); (try simp only [List.length_cons, List.length_nil]); omega) (by (try dsimp only [room_1]); (try simp only [List.length_cons, List.length_nil]); omega) ?_
  rintro _ T4 L4 X4 ⟨rfl, N4, e4⟩
  show Go p e below _ T4 (mkF m 48 #[.val (.ref x), .val (.ref a), .val (.int (Int32.ofNat 0)), .val (.int (Int32.ofNat cs.length)), .val .null, .val (.ref t)] [(.int (own_cod cs)), (.ref x)])
  have lx := E.lt
  have hcb : narrow .byte (.int (own_cod cs)) = .int (own_cod cs) ∧ fits .byte (.int (own_cod cs)) = true := by unfold own_cod; split <;> exact ⟨rfl, rfl⟩
  have sn := slot_ne (Or.inr (hw _ (List.mem_of_getElem? (i := 37) rfl))) (Or.inr (hw _ (List.mem_of_getElem? (i := 35) rfl))) (by decide) (t := (.array .byte)) (t' := .byte) (by decide) (by decide)
  have sn' := slot_ne (Or.inr (hw _ (List.mem_of_getElem? (i := 35) rfl))) (Or.inr (hw _ (List.mem_of_getElem? (i := 37) rfl))) (by decide) (t := .byte) (t' := (.array .byte)) (by decide) (by decide)
  obtain ⟨T5, h5, X5, e5, W5, st5⟩ := putF X4 hx hZ hown (host := "") (Or.inl (hw _ (List.mem_of_getElem? (i := 34) rfl))) Via.refl e4 (Cc.keep K3 nin0) (E.keep K3) (Or.inr ⟨(hw _ (List.mem_of_getElem? (i := 35) rfl)), rfl, hnm⟩) (hw _ (List.mem_of_getElem? (i := 10) rfl)) (ty := .byte) (by decide) hcb.1 hcb.2 (g := (mkF m 48 #[.val (.ref x), .val (.ref a), .val (.int (Int32.ofNat 0)), .val (.int (Int32.ofNat cs.length)), .val .null, .val (.ref t)] [(.int (own_cod cs)), (.ref x)])) rfl rfl (hb hby di4_48)
  refine Go.st st5 ?_
  show Go p e below _ T5 (mkF m 51 #[.val (.ref x), .val (.ref a), .val (.int (Int32.ofNat 0)), .val (.int (Int32.ofNat cs.length)), .val .null, .val (.ref t)] [])
  refine Go.st (fun _ k => XS.aloadN X5.here hx rfl (hb hby di4_51) rfl rfl k) ?_
  show Go p e below _ T5 (mkF m 52 #[.val (.ref x), .val (.ref a), .val (.int (Int32.ofNat 0)), .val (.int (Int32.ofNat cs.length)), .val .null, .val (.ref t)] [(.ref x)])
  refine Go.st (fun _ k => XS.aload X5.here hx rfl (hb hby di4_52) rfl rfl k) ?_
  show Go p e below _ T5 (mkF m 54 #[.val (.ref x), .val (.ref a), .val (.int (Int32.ofNat 0)), .val (.int (Int32.ofNat cs.length)), .val .null, .val (.ref t)] [(.ref t), (.ref x)])
  obtain ⟨T6, h6, X6, e6, W6, st6⟩ := putF X5 hx hZ hown (host := "") (Or.inl (hw _ (List.mem_of_getElem? (i := 36) rfl))) Via.refl e5 ((V.keep K3 nin0).other W5 (Or.inr sn)) ((E.keep K3).wr W5) (Or.inr ⟨(hw _ (List.mem_of_getElem? (i := 37) rfl)), rfl, hnm⟩) (hw _ (List.mem_of_getElem? (i := 10) rfl)) (ty := (.array .byte)) (by decide) rfl rfl (g := (mkF m 54 #[.val (.ref x), .val (.ref a), .val (.int (Int32.ofNat 0)), .val (.int (Int32.ofNat cs.length)), .val .null, .val (.ref t)] [(.ref t), (.ref x)])) rfl rfl (hb hby di4_54)
  refine Go.st st6 ?_
  show Go p e below _ T6 (mkF m 57 #[.val (.ref x), .val (.ref a), .val (.int (Int32.ofNat 0)), .val (.int (Int32.ofNat cs.length)), .val .null, .val (.ref t)] [])
  have K6 : Keep h0 h6 [x] := ((((Keep.refl h0 [x]).trans K3 (fun _ q => nomatch q))).wr W5 (Or.inl (List.mem_cons_self ..))).wr W6 (Or.inl (List.mem_cons_self ..))
  have hx' : t ≠ x := Nat.ne_of_gt (Nat.lt_of_lt_of_le E.lt ht)
  exact Go.ret0 X6 hx hret hlk (hb hby di4_57) ⟨rfl, Fr.snoc X6 (Fr.snoc X5 (Fr.app (Fr.app (Fr.nil n0) N3) N4) hna) hna, e6 ▸ K6, e6 ▸ ((E.keep K3).wr W5).wr W6, e6 ▸ ((Cc.keep K3 nin0).same W5).other W6 (Or.inr sn'), t, e6 ▸ ((V.keep K3 nin0).other W5 (Or.inr sn)).same W6, e6 ▸ (B3.other W5 hx').other W6 hx', hx'⟩ (by (try dsimp only [room_1]); (try simp only [List.length_cons, List.length_nil]); omega) (by (try dsimp only [room_1]); (try simp only [List.length_cons, List.length_nil]); omega)
theorem di1_0 : decode jdk_42_method_3_code 0 = .ok (.aload_n 0, 1) := by decide +kernel
theorem di1_1 : decode jdk_42_method_3_code 1 = .ok (.aload_n 1, 1) := by decide +kernel
theorem di1_2 : decode jdk_42_method_3_code 2 = .ok (.iconst 0, 1) := by decide +kernel
theorem di1_3 : decode jdk_42_method_3_code 3 = .ok (.aload_n 1, 1) := by decide +kernel
theorem di1_4 : decode jdk_42_method_3_code 4 = .ok (.arraylength, 1) := by decide +kernel
theorem di1_5 : decode jdk_42_method_3_code 5 = .ok (.aconst_null, 1) := by decide +kernel
theorem di1_6 : decode jdk_42_method_3_code 6 = .ok (.invokespecial 27, 3) := by decide +kernel
theorem di1_9 : decode jdk_42_method_3_code 9 = .ok (.return_, 1) := by decide +kernel
set_option maxRecDepth 65536 in
set_option maxHeartbeats 40000000 in
theorem rmI1 (l : Launch) (Z : State) (a0 : Array Value) (hw : ∀ d ∈ tables_1, d.before a0 Z = true) (z : Int32) (Su : Su16 Z z) (cs : List Int32) (hn : cs.length ≤ 4000) (h1 : 0 < cs.length) (hbd : ∀ c ∈ cs, ¬ c < 0 ∧ ¬ (65535 : Int32) < c) (x a : Addr) (v0 c0 : Value) (h0 : Heap) (n0 : Nat) (hna : n0 ≤ x) (hZ0 : n0 ≤ h0.size) (O : Old Z n0 h0) (E : Exa Z h0 x "java/lang/String") (V : Fld Z h0 x "java/lang/String" "value" "[B" v0) (Cc : Fld Z h0 x "java/lang/String" "coder" "B" c0) (A : AI Z h0 a .char cs) :
    Ctr l Z (⟨"java/lang/String", "<init>", "([C)V"⟩ : MethodName) jdk_42_method_3_code 2 none [] ({ frames := 5, cells := 2, slots := 3 * cs.length, locals := 74 } : Room) #[(.ref x), (.ref a)] h0 (QI Z x cs h0 n0) := by
  refine Ctr.of (plainFor_of_name pn_15) ?_
  intro p e s m below meth c s₁ hx hby hml hown hnm hret hlk hZ X0 e0
  refine Go.cast (ef_16 m x a) ?_
  show Go p e below _ s₁ (mkF m 0 #[.val (.ref x), .val (.ref a)] [])
  refine Go.st (fun _ k => XS.aloadN X0.here hx rfl (hb hby di1_0) rfl rfl k) ?_
  show Go p e below _ s₁ (mkF m 1 #[.val (.ref x), .val (.ref a)] [(.ref x)])
  refine Go.st (fun _ k => XS.aloadN X0.here hx rfl (hb hby di1_1) rfl rfl k) ?_
  show Go p e below _ s₁ (mkF m 2 #[.val (.ref x), .val (.ref a)] [(.ref a), (.ref x)])
  refine Go.st (fun _ k => XS.iconst X0.here hx rfl (hb hby di1_2) k) ?_
  show Go p e below _ s₁ (mkF m 3 #[.val (.ref x), .val (.ref a)] [(.int (0 : Int32)), (.ref a), (.ref x)])
  refine Go.st (fun _ k => XS.aloadN X0.here hx rfl (hb hby di1_3) rfl rfl k) ?_
  show Go p e below _ s₁ (mkF m 4 #[.val (.ref x), .val (.ref a)] [(.ref a), (.int (0 : Int32)), (.ref a), (.ref x)])
  refine Go.alen X0 hx hZ e0 A (g := (mkF m 4 #[.val (.ref x), .val (.ref a)] [(.ref a), (.int (0 : Int32)), (.ref a), (.ref x)])) rfl rfl (hb hby di1_4) ?_
  show Go p e below _ s₁ (mkF m 5 #[.val (.ref x), .val (.ref a)] [(.int (Int32.ofNat cs.length)), (.int (0 : Int32)), (.ref a), (.ref x)])
  refine Go.st (fun _ k => XS.aconstNull X0.here hx rfl (hb hby di1_5) k) ?_
  show Go p e below _ s₁ (mkF m 6 #[.val (.ref x), .val (.ref a)] [.null, (.int (Int32.ofNat cs.length)), (.int (0 : Int32)), (.ref a), (.ref x)])
  refine Go.callI X0 hx (y := (⟨"java/lang/String", "<init>", "([CIILjava/lang/Void;)V"⟩ : MethodName)) rfl hown (mvT hZ (hw _ (List.mem_of_getElem? (i := 15) rfl))) (mvT hZ (hw _ (List.mem_of_getElem? (i := 16) rfl))) (mvT hZ (hw _ (List.mem_of_getElem? (i := 18) rfl))) (by decide) (Ctr.back (W := 0) (rmI4 l Z a0 hw z Su cs hn h1 hbd x a v0 c0 h0 n0 hna hZ0 O E V Cc A) hZ (hw _ (List.mem_of_getElem? (i := 18) rfl)) (hw _ (List.mem_of_getElem? (i := 11) rfl)) (by (try dsimp only [room_1]); (try simp only [List.length_cons, List.length_nil]); omega) (by (try dsimp only [room_1]); (try simp only [List.length_cons, List.length_nil]); omega)) e0 (g := (mkF m 6 #[.val (.ref x), .val (.ref a)] [.null, (.int (Int32.ofNat cs.length)), (.int (0 : Int32)), (.ref a), (.ref x)])) rfl (by rw [hml]; rfl) (a := x) (argsL := [(.ref a), (.int (0 : Int32)), (.int (Int32.ofNat cs.length)), .null]) (rest := []) (lenOf pd_17 rfl) rfl (by show 2 * 0 + _ ≤ _; exact Nat.le_of_eq rfl) (hb hby di1_6) rfl (by (try dsimp only [room_1]); (try simp only [List.length_cons, List.length_nil]); omega) (by (try dsimp only [room_1]); (try simp only [List.length_cons, List.length_nil]); omega) ?_
  rintro _ T1 L1 X1 ⟨rfl, N1, R1⟩
  show Go p e below _ T1 (mkF m 9 #[.val (.ref x), .val (.ref a)] [])
  exact Go.ret0 X1 hx hret hlk (hb hby di1_9) ⟨rfl, Fr.app (Fr.nil n0) N1, R1⟩ (by (try dsimp only [room_1]); (try simp only [List.length_cons, List.length_nil]); omega) (by (try dsimp only [room_1]); (try simp only [List.length_cons, List.length_nil]); omega)
theorem own_empty {us : Array UInt16} (h : utf16ToString? us = some "") : own_bytes us = [] := by
  have q := own_units h (by intro c hc; simp at hc)
  have q2 : us.toList = [] := by simpa using q.symm
  unfold own_bytes; rw [q2]; rfl
theorem di4_8 : decode jdk_42_method_149_code 8 = .ok (.aload_n 0, 1) := by decide +kernel
theorem di4_9 : decode jdk_42_method_149_code 9 = .ok (.ldc 7, 2) := by decide +kernel
theorem di4_11 : decode jdk_42_method_149_code 11 = .ok (.getfield 9, 3) := by decide +kernel
theorem di4_14 : decode jdk_42_method_149_code 14 = .ok (.putfield 9, 3) := by decide +kernel
theorem di4_17 : decode jdk_42_method_149_code 17 = .ok (.aload_n 0, 1) := by decide +kernel
theorem di4_18 : decode jdk_42_method_149_code 18 = .ok (.ldc 7, 2) := by decide +kernel
theorem di4_20 : decode jdk_42_method_149_code 20 = .ok (.getfield 15, 3) := by decide +kernel
theorem di4_23 : decode jdk_42_method_149_code 23 = .ok (.putfield 15, 3) := by decide +kernel
theorem di4_26 : decode jdk_42_method_149_code 26 = .ok (.return_, 1) := by decide +kernel
set_option maxRecDepth 65536 in
set_option maxHeartbeats 40000000 in
theorem rmI4e (l : Launch) (Z : State) (a0 : Array Value) (hw : ∀ d ∈ tables_1, d.before a0 Z = true) (N : Nat → Prop) (x a : Addr) (v0 c0 : Value) (h0 : Heap) (n0 : Nat) (hna : n0 ≤ x) (hNx : ¬ N x) (E : Exa Z h0 x "java/lang/String") (V : Fld Z h0 x "java/lang/String" "value" "[B" v0) (Cc : Fld Z h0 x "java/lang/String" "coder" "B" c0) :
    WCtr consts_1 N l Z (⟨"java/lang/String", "<init>", "([CIILjava/lang/Void;)V"⟩ : MethodName) jdk_42_method_149_code 6 none [] ({ frames := 1, cells := 2, slots := 4, locals := 12 } : Room) #[(.ref x), (.ref a), (.int (Int32.ofNat 0)), (.int (Int32.ofNat 0)), .null] h0 (QI Z x [] h0 n0) := by
  refine WCtr.of (plainFor_of_name pn_15) ?_
  intro p e s m below meth c s₁ hx hby hml hown hnm hret hlk hZ X0 e0 hC0
  refine Go.cast (ef_13 m x a (Int32.ofNat 0) (Int32.ofNat 0)) ?_
  show Go p e below _ s₁ (mkF m 0 #[.val (.ref x), .val (.ref a), .val (.int (Int32.ofNat 0)), .val (.int (Int32.ofNat 0)), .val .null, .unset] [])
  refine Go.st (fun _ k => XS.aloadN X0.here hx rfl (hb hby di4_0) rfl rfl k) ?_
  show Go p e below _ s₁ (mkF m 1 #[.val (.ref x), .val (.ref a), .val (.int (Int32.ofNat 0)), .val (.int (Int32.ofNat 0)), .val .null, .unset] [(.ref x)])
  obtain ⟨T1, X1, e1, st1⟩ := initO X0 hx hZ hown (hw _ (List.mem_of_getElem? (i := 19) rfl)) (hw _ (List.mem_of_getElem? (i := 20) rfl)) (hw _ (List.mem_of_getElem? (i := 21) rfl)) e0 (g := (mkF m 1 #[.val (.ref x), .val (.ref a), .val (.int (Int32.ofNat 0)), .val (.int (Int32.ofNat 0)), .val .null, .unset] [(.ref x)])) rfl (by rw [hml]; rfl) rfl (hb hby di4_1) (by (try dsimp only [room_1]); (try simp only [List.length_cons, List.length_nil]); omega) (W := 0) (by show 2 * 0 + _ ≤ _; exact Nat.le_of_eq rfl) (by (try dsimp only [room_1]); (try simp only [List.length_cons, List.length_nil]); omega)
  refine Go.st st1 ?_
  show Go p e below _ T1 (mkF m 4 #[.val (.ref x), .val (.ref a), .val (.int (Int32.ofNat 0)), .val (.int (Int32.ofNat 0)), .val .null, .unset] [])
  refine Go.st (fun _ k => XS.iloadN X1.here hx rfl (hb hby di4_4) rfl k) ?_
  show Go p e below _ T1 (mkF m 5 #[.val (.ref x), .val (.ref a), .val (.int (Int32.ofNat 0)), .val (.int (Int32.ofNat 0)), .val .null, .unset] [(.int (Int32.ofNat 0))])
  refine Go.st (fun _ k => XS.ifNo X1.here hx rfl (hb hby di4_5) rfl (XT.i0_ne_f rfl) k) ?_
  show Go p e below _ T1 (mkF m 8 #[.val (.ref x), .val (.ref a), .val (.int (Int32.ofNat 0)), .val (.int (Int32.ofNat 0)), .val .null, .unset] [])
  refine Go.st (fun _ k => XS.aloadN X1.here hx rfl (hb hby di4_8) rfl rfl k) ?_
  show Go p e below _ T1 (mkF m 9 #[.val (.ref x), .val (.ref a), .val (.int (Int32.ofNat 0)), .val (.int (Int32.ofNat 0)), .val .null, .unset] [(.ref x)])
  have wS : ∀ d ∈ Bundle.stringAtoms, d.before a0 Z = true := fun d hd => hw d ((by decide +kernel : ∀ d ∈ Bundle.stringAtoms, d ∈ tables_1) d hd)
  refine Go.ldcW X1 hx (Bas.refl s 0) (Nat.zero_le _) hZ hown (hw _ (List.mem_of_getElem? (i := 77) rfl)) wS (by intro c hc; simp at hc) hC0 (by rw [e1]; exact Und.refl N h0) (by simp [consts_1]) (fun _ q => nomatch q) (g := (mkF m 9 #[.val (.ref x), .val (.ref a), .val (.int (Int32.ofNat 0)), .val (.int (Int32.ofNat 0)), .val .null, .unset] [(.ref x)])) rfl (hb hby di4_9) (nn := 0) (by decide) (by decide) (by (try dsimp only [room_1]); (try simp only [List.length_cons, List.length_nil]); omega) (by (try dsimp only [room_1]); (try simp only [List.length_cons, List.length_nil]); omega) ?_
  rintro a1 v1 s2 T2 units locs2 hun hB2 hZ2 hown2 hC2 E2 hsh hloc X2 hres F1 F2 F3 F4 hpl
  obtain rfl : locs2 = [] := List.eq_nil_iff_forall_not_mem.mpr (fun y hy => nomatch hloc y hy)
  rw [own_empty hun] at F4
  have E2' : Ext h0 T2.heap := e1 ▸ E2
  have lx : x < T1.heap.size := e1 ▸ E.lt
  have hax : a1 ≠ x := by
      rcases hpl with ⟨q, -⟩ | ⟨q, -⟩
      · exact fun z => hNx (z ▸ q)
      · exact Nat.ne_of_gt (Nat.lt_of_lt_of_le lx q)
  have hvx : v1 ≠ x := by
      rcases hpl with ⟨-, q⟩ | ⟨-, q⟩
      · exact fun z => hNx (z ▸ q)
      · exact Nat.ne_of_gt (Nat.lt_of_lt_of_le lx q)
  show Go p e below _ T2 (mkF m 11 #[.val (.ref x), .val (.ref a), .val (.int (Int32.ofNat 0)), .val (.int (Int32.ofNat 0)), .val .null, .unset] [(.ref a1), (.ref x)])
  obtain ⟨T3, X3, e3, st3⟩ := getF X2 hx hZ2 hown2 (host := "") (Or.inl (hw _ (List.mem_of_getElem? (i := 36) rfl))) Via.refl rfl F2 (g := (mkF m 11 #[.val (.ref x), .val (.ref a), .val (.int (Int32.ofNat 0)), .val (.int (Int32.ofNat 0)), .val .null, .unset] [(.ref a1), (.ref x)])) rfl rfl (hb hby di4_11)
  refine Go.st st3 ?_
  show Go p e below _ T3 (mkF m 14 #[.val (.ref x), .val (.ref a), .val (.int (Int32.ofNat 0)), .val (.int (Int32.ofNat 0)), .val .null, .unset] [(.ref v1), (.ref x)])
  have sn := slot_ne (Or.inr (hw _ (List.mem_of_getElem? (i := 37) rfl))) (Or.inr (hw _ (List.mem_of_getElem? (i := 35) rfl))) (by decide) (t := (.array .byte)) (t' := .byte) (by decide) (by decide)
  have sn' := slot_ne (Or.inr (hw _ (List.mem_of_getElem? (i := 35) rfl))) (Or.inr (hw _ (List.mem_of_getElem? (i := 37) rfl))) (by decide) (t := .byte) (t' := (.array .byte)) (by decide) (by decide)
  obtain ⟨T5, h5, X5, e5, W5, st5⟩ := putF X3 hx hZ2 hown2 (host := "") (Or.inl (hw _ (List.mem_of_getElem? (i := 36) rfl))) Via.refl e3 (V.ext E2') (E.ext E2') (Or.inr ⟨(hw _ (List.mem_of_getElem? (i := 37) rfl)), rfl, hnm⟩) (hw _ (List.mem_of_getElem? (i := 10) rfl)) (ty := (.array .byte)) (by decide) rfl rfl (g := (mkF m 14 #[.val (.ref x), .val (.ref a), .val (.int (Int32.ofNat 0)), .val (.int (Int32.ofNat 0)), .val .null, .unset] [(.ref v1), (.ref x)])) rfl rfl (hb hby di4_14)
  refine Go.st st5 ?_
  show Go p e below _ T5 (mkF m 17 #[.val (.ref x), .val (.ref a), .val (.int (Int32.ofNat 0)), .val (.int (Int32.ofNat 0)), .val .null, .unset] [])
  refine Go.st (fun _ k => XS.aloadN X5.here hx rfl (hb hby di4_17) rfl rfl k) ?_
  show Go p e below _ T5 (mkF m 18 #[.val (.ref x), .val (.ref a), .val (.int (Int32.ofNat 0)), .val (.int (Int32.ofNat 0)), .val .null, .unset] [(.ref x)])
  refine Go.ldcR X5 hx hZ2 hown2 (hw _ (List.mem_of_getElem? (i := 77) rfl)) hres (g := (mkF m 18 #[.val (.ref x), .val (.ref a), .val (.int (Int32.ofNat 0)), .val (.int (Int32.ofNat 0)), .val .null, .unset] [(.ref x)])) rfl (hb hby di4_18) ?_
  show Go p e below _ T5 (mkF m 20 #[.val (.ref x), .val (.ref a), .val (.int (Int32.ofNat 0)), .val (.int (Int32.ofNat 0)), .val .null, .unset] [(.ref a1), (.ref x)])
  obtain ⟨T6, X6, e6, st6⟩ := getF X5 hx hZ2 hown2 (host := "") (Or.inl (hw _ (List.mem_of_getElem? (i := 34) rfl))) Via.refl e5 (F3.other W5 (Or.inl hax)) (g := (mkF m 20 #[.val (.ref x), .val (.ref a), .val (.int (Int32.ofNat 0)), .val (.int (Int32.ofNat 0)), .val .null, .unset] [(.ref a1), (.ref x)])) rfl rfl (hb hby di4_20)
  refine Go.st st6 ?_
  show Go p e below _ T6 (mkF m 23 #[.val (.ref x), .val (.ref a), .val (.int (Int32.ofNat 0)), .val (.int (Int32.ofNat 0)), .val .null, .unset] [(.int (0 : Int32)), (.ref x)])
  obtain ⟨T7, h7, X7, e7, W7, st7⟩ := putF X6 hx hZ2 hown2 (host := "") (Or.inl (hw _ (List.mem_of_getElem? (i := 34) rfl))) Via.refl e6 ((Cc.ext E2').other W5 (Or.inr sn')) ((E.ext E2').wr W5) (Or.inr ⟨(hw _ (List.mem_of_getElem? (i := 35) rfl)), rfl, hnm⟩) (hw _ (List.mem_of_getElem? (i := 10) rfl)) (ty := .byte) (by decide) rfl rfl (g := (mkF m 23 #[.val (.ref x), .val (.ref a), .val (.int (Int32.ofNat 0)), .val (.int (Int32.ofNat 0)), .val .null, .unset] [(.int (0 : Int32)), (.ref x)])) rfl rfl (hb hby di4_23)
  refine Go.st st7 ?_
  show Go p e below _ T7 (mkF m 26 #[.val (.ref x), .val (.ref a), .val (.int (Int32.ofNat 0)), .val (.int (Int32.ofNat 0)), .val .null, .unset] [])
  have K7 : Keep h0 h7 [x] := (((Keep.refl h0 [x]).ext E2').wr W5 (Or.inl (List.mem_cons_self ..))).wr W7 (Or.inl (List.mem_cons_self ..))
  have hq : ¬ (N x ∨ T1.heap.size ≤ x) := fun z => z.elim hNx (Nat.not_le.mpr lx)
  have U7 : Und (fun b => N b ∨ T1.heap.size ≤ b) T2.heap T7.heap := e7 ▸ (((Und.refl _ T2.heap).wr W5 hq).wr W7 hq)
  exact Go.ret0W X7 hx hB2 U7.1 hC2 U7 hret hlk (hb hby di4_26) ⟨rfl, Fr.snoc X7 (Fr.snoc X5 (Fr.nil n0) hna) hna, e7 ▸ K7, e7 ▸ ((E.ext E2').wr W5).wr W7, e7 ▸ ((Cc.ext E2').other W5 (Or.inr sn')).same W7, v1, e7 ▸ ((V.ext E2').same W5).other W7 (Or.inr sn), e7 ▸ (F4.other W5 hvx).other W7 hvx, hvx⟩ (by (try dsimp only [room_1]); (try simp only [List.length_cons, List.length_nil]); omega) (by (try dsimp only [room_1]); (try simp only [List.length_cons, List.length_nil]); omega)
set_option maxRecDepth 65536 in
set_option maxHeartbeats 40000000 in
theorem rmI1e (l : Launch) (Z : State) (a0 : Array Value) (hw : ∀ d ∈ tables_1, d.before a0 Z = true) (N : Nat → Prop) (x a : Addr) (v0 c0 : Value) (h0 : Heap) (n0 : Nat) (hna : n0 ≤ x) (hNx : ¬ N x) (E : Exa Z h0 x "java/lang/String") (V : Fld Z h0 x "java/lang/String" "value" "[B" v0) (Cc : Fld Z h0 x "java/lang/String" "coder" "B" c0) (A : AI Z h0 a .char []) :
    WCtr consts_1 N l Z (⟨"java/lang/String", "<init>", "([C)V"⟩ : MethodName) jdk_42_method_3_code 2 none [] ({ frames := 2, cells := 2, slots := 4, locals := 29 } : Room) #[(.ref x), (.ref a)] h0 (QI Z x [] h0 n0) := by
  refine WCtr.of (plainFor_of_name pn_15) ?_
  intro p e s m below meth c s₁ hx hby hml hown hnm hret hlk hZ X0 e0 hC0
  refine Go.cast (ef_16 m x a) ?_
  show Go p e below _ s₁ (mkF m 0 #[.val (.ref x), .val (.ref a)] [])
  refine Go.st (fun _ k => XS.aloadN X0.here hx rfl (hb hby di1_0) rfl rfl k) ?_
  show Go p e below _ s₁ (mkF m 1 #[.val (.ref x), .val (.ref a)] [(.ref x)])
  refine Go.st (fun _ k => XS.aloadN X0.here hx rfl (hb hby di1_1) rfl rfl k) ?_
  show Go p e below _ s₁ (mkF m 2 #[.val (.ref x), .val (.ref a)] [(.ref a), (.ref x)])
  refine Go.st (fun _ k => XS.iconst X0.here hx rfl (hb hby di1_2) k) ?_
  show Go p e below _ s₁ (mkF m 3 #[.val (.ref x), .val (.ref a)] [(.int (0 : Int32)), (.ref a), (.ref x)])
  refine Go.st (fun _ k => XS.aloadN X0.here hx rfl (hb hby di1_3) rfl rfl k) ?_
  show Go p e below _ s₁ (mkF m 4 #[.val (.ref x), .val (.ref a)] [(.ref a), (.int (0 : Int32)), (.ref a), (.ref x)])
  refine Go.alen X0 hx hZ e0 A (g := (mkF m 4 #[.val (.ref x), .val (.ref a)] [(.ref a), (.int (0 : Int32)), (.ref a), (.ref x)])) rfl rfl (hb hby di1_4) ?_
  show Go p e below _ s₁ (mkF m 5 #[.val (.ref x), .val (.ref a)] [(.int (Int32.ofNat 0)), (.int (0 : Int32)), (.ref a), (.ref x)])
  refine Go.st (fun _ k => XS.aconstNull X0.here hx rfl (hb hby di1_5) k) ?_
  show Go p e below _ s₁ (mkF m 6 #[.val (.ref x), .val (.ref a)] [.null, (.int (Int32.ofNat 0)), (.int (0 : Int32)), (.ref a), (.ref x)])
  refine Go.callIW X0 hx (Bas.refl s 0) (Nat.zero_le _) hZ (y := (⟨"java/lang/String", "<init>", "([CIILjava/lang/Void;)V"⟩ : MethodName)) rfl hown (mvT hZ (hw _ (List.mem_of_getElem? (i := 15) rfl))) (mvT hZ (hw _ (List.mem_of_getElem? (i := 16) rfl))) (mvT hZ (hw _ (List.mem_of_getElem? (i := 18) rfl))) (by decide) (Wt := 0) (rmI4e l Z a0 hw N x a v0 c0 h0 n0 hna hNx E V Cc) (hw _ (List.mem_of_getElem? (i := 18) rfl)) (hw _ (List.mem_of_getElem? (i := 11) rfl)) (by (try dsimp only [room_1]); (try simp only [List.length_cons, List.length_nil]); omega) (by (try dsimp only [room_1]); (try simp only [List.length_cons, List.length_nil]); omega) e0 hC0 (by rw [e0]; exact Und.refl N h0) (g := (mkF m 6 #[.val (.ref x), .val (.ref a)] [.null, (.int (Int32.ofNat 0)), (.int (0 : Int32)), (.ref a), (.ref x)])) rfl (by rw [hml]; rfl) (a := x) (argsL := [(.ref a), (.int (0 : Int32)), (.int (Int32.ofNat 0)), .null]) (rest := []) (lenOf pd_17 rfl) rfl (by show 2 * 0 + _ ≤ _; exact Nat.le_of_eq rfl) (hb hby di1_6) rfl (by (try dsimp only [room_1]); (try simp only [List.length_cons, List.length_nil]); omega) (by (try dsimp only [room_1]); (try simp only [List.length_cons, List.length_nil]); omega) ?_
  rintro _ s1 T1 L1 hB1 hZ1 hown1 hC1 hsz1 X1 ⟨rfl, N1, R1⟩
  show Go p e below _ T1 (mkF m 9 #[.val (.ref x), .val (.ref a)] [])
  exact Go.ret0W X1 hx hB1 (Nat.le_refl _) hC1 (Und.refl _ _) hret hlk (hb hby di1_9) ⟨rfl, Fr.app (Fr.nil n0) N1, R1⟩ (by (try dsimp only [room_1]); (try simp only [List.length_cons, List.length_nil]); omega) (by (try dsimp only [room_1]); (try simp only [List.length_cons, List.length_nil]); omega)
theorem own_char_rng (y : Int32) : ¬ nar .char y < 0 ∧ ¬ (65535 : Int32) < nar .char y := by
  have key : (nar .char y).toInt = (y.toUInt32.toUInt16.toNat : Int) := by
    show (y.toUInt32.toUInt16.toUInt32.toInt32).toBitVec.toInt = _
    have hu := y.toUInt32.toUInt16.toNat_lt
    have hm : (y.toUInt32.toUInt16.toUInt32.toInt32).toBitVec.toNat = y.toUInt32.toUInt16.toNat := by
      show (y.toUInt32.toUInt16.toUInt32).toNat = _
      simp
    rw [BitVec.toInt_eq_toNat_cond, hm]
    split <;> omega
  have hu := y.toUInt32.toUInt16.toNat_lt
  have e1 : (65535 : Int32).toInt = 65535 := rfl
  have e2 : (0 : Int32).toInt = 0 := rfl
  rw [Int32.lt_iff_toInt_lt, Int32.lt_iff_toInt_lt, key, e1, e2]
  omega
theorem own_nar_c {c : Int32} (h : ¬ c < 0 ∧ ¬ (65535 : Int32) < c) : nar .char c = c := own_char c h.1 h.2
/-- each a char -/
def CB (n : Nat) (cs : List Int32) : Prop := cs.length = n ∧ ∀ c ∈ cs, ¬ c < 0 ∧ ¬ (65535 : Int32) < c
theorem CB.set {n : Nat} {cs : List Int32} (H : CB n cs) (i : Nat) (y : Int32) : CB n (cs.set i (nar .char y)) := ⟨by rw [List.length_set]; exact H.1, fun c hc => by
  rcases List.mem_or_eq_of_mem_set hc with h | h
  · exact H.2 c h
  · rw [h]; exact own_char_rng y⟩
theorem CB.rep (n : Nat) : CB n (List.replicate n 0) := ⟨by simp, fun c hc => by rw [List.eq_of_mem_replicate hc]; decide⟩
theorem Fr.le {k k' : Nat} {L : List Loc} (N : Fr k L) (q : k' ≤ k) : Fr k' L := fun y hy => Nat.le_trans q (N y hy)
def QS_rmST (Z : State) (ds : List Int32) (h0 : Heap) (n0 : Nat) (v : Option Value) (h : Heap) (L : List Loc) : Prop := ∃ a t, v = some (.ref a) ∧ Fr n0 L ∧ Keep h0 h [] ∧ Exa Z h a "java/lang/String" ∧ Fld Z h a "java/lang/String" "coder" "B" (.int (own_cod ds)) ∧ Fld Z h a "java/lang/String" "value" "[B" (.ref t) ∧ AI Z h t .byte (own_val ds)
theorem dst_0 : decode method_3_code 0 = .ok (.iload_n 1, 1) := by decide +kernel
theorem dst_1 : decode method_3_code 1 = .ok (.ifCond .ne 14, 3) := by decide +kernel
theorem dst_4 : decode method_3_code 4 = .ok (.new 9, 3) := by decide +kernel
theorem dst_7 : decode method_3_code 7 = .ok (.dup, 1) := by decide +kernel
theorem dst_8 : decode method_3_code 8 = .ok (.iconst 0, 1) := by decide +kernel
theorem dst_9 : decode method_3_code 9 = .ok (.newarray .char, 2) := by decide +kernel
theorem dst_11 : decode method_3_code 11 = .ok (.invokespecial 11, 3) := by decide +kernel
theorem dst_14 : decode method_3_code 14 = .ok (.areturn, 1) := by decide +kernel
theorem dst_15 : decode method_3_code 15 = .ok (.iload_n 1, 1) := by decide +kernel
theorem dst_16 : decode method_3_code 16 = .ok (.iconst 1, 1) := by decide +kernel
theorem dst_17 : decode method_3_code 17 = .ok (.if_icmp .ne 20, 3) := by decide +kernel
theorem dst_20 : decode method_3_code 20 = .ok (.new 9, 3) := by decide +kernel
theorem dst_23 : decode method_3_code 23 = .ok (.dup, 1) := by decide +kernel
theorem dst_24 : decode method_3_code 24 = .ok (.iconst 1, 1) := by decide +kernel
theorem dst_25 : decode method_3_code 25 = .ok (.newarray .char, 2) := by decide +kernel
theorem dst_27 : decode method_3_code 27 = .ok (.dup, 1) := by decide +kernel
theorem dst_28 : decode method_3_code 28 = .ok (.iconst 0, 1) := by decide +kernel
theorem dst_29 : decode method_3_code 29 = .ok (.aload_n 0, 1) := by decide +kernel
theorem dst_30 : decode method_3_code 30 = .ok (.iconst 0, 1) := by decide +kernel
theorem dst_31 : decode method_3_code 31 = .ok (.caload, 1) := by decide +kernel
theorem dst_32 : decode method_3_code 32 = .ok (.castore, 1) := by decide +kernel
theorem dst_33 : decode method_3_code 33 = .ok (.invokespecial 11, 3) := by decide +kernel
theorem dst_36 : decode method_3_code 36 = .ok (.areturn, 1) := by decide +kernel
theorem dst_37 : decode method_3_code 37 = .ok (.iload_n 1, 1) := by decide +kernel
theorem dst_38 : decode method_3_code 38 = .ok (.iconst 2, 1) := by decide +kernel
theorem dst_39 : decode method_3_code 39 = .ok (.if_icmp .ne 26, 3) := by decide +kernel
theorem dst_42 : decode method_3_code 42 = .ok (.new 9, 3) := by decide +kernel
theorem dst_45 : decode method_3_code 45 = .ok (.dup, 1) := by decide +kernel
theorem dst_46 : decode method_3_code 46 = .ok (.iconst 2, 1) := by decide +kernel
theorem dst_47 : decode method_3_code 47 = .ok (.newarray .char, 2) := by decide +kernel
theorem dst_49 : decode method_3_code 49 = .ok (.dup, 1) := by decide +kernel
theorem dst_50 : decode method_3_code 50 = .ok (.iconst 0, 1) := by decide +kernel
theorem dst_51 : decode method_3_code 51 = .ok (.aload_n 0, 1) := by decide +kernel
theorem dst_52 : decode method_3_code 52 = .ok (.iconst 0, 1) := by decide +kernel
theorem dst_53 : decode method_3_code 53 = .ok (.caload, 1) := by decide +kernel
theorem dst_54 : decode method_3_code 54 = .ok (.castore, 1) := by decide +kernel
theorem dst_55 : decode method_3_code 55 = .ok (.dup, 1) := by decide +kernel
theorem dst_56 : decode method_3_code 56 = .ok (.iconst 1, 1) := by decide +kernel
theorem dst_57 : decode method_3_code 57 = .ok (.aload_n 0, 1) := by decide +kernel
theorem dst_58 : decode method_3_code 58 = .ok (.iconst 1, 1) := by decide +kernel
theorem dst_59 : decode method_3_code 59 = .ok (.caload, 1) := by decide +kernel
theorem dst_60 : decode method_3_code 60 = .ok (.castore, 1) := by decide +kernel
theorem dst_61 : decode method_3_code 61 = .ok (.invokespecial 11, 3) := by decide +kernel
theorem dst_64 : decode method_3_code 64 = .ok (.areturn, 1) := by decide +kernel
theorem dst_65 : decode method_3_code 65 = .ok (.iload_n 1, 1) := by decide +kernel
theorem dst_66 : decode method_3_code 66 = .ok (.iconst 3, 1) := by decide +kernel
theorem dst_67 : decode method_3_code 67 = .ok (.if_icmp .ne 32, 3) := by decide +kernel
theorem dst_70 : decode method_3_code 70 = .ok (.new 9, 3) := by decide +kernel
theorem dst_73 : decode method_3_code 73 = .ok (.dup, 1) := by decide +kernel
theorem dst_74 : decode method_3_code 74 = .ok (.iconst 3, 1) := by decide +kernel
theorem dst_75 : decode method_3_code 75 = .ok (.newarray .char, 2) := by decide +kernel
theorem dst_77 : decode method_3_code 77 = .ok (.dup, 1) := by decide +kernel
theorem dst_78 : decode method_3_code 78 = .ok (.iconst 0, 1) := by decide +kernel
theorem dst_79 : decode method_3_code 79 = .ok (.aload_n 0, 1) := by decide +kernel
theorem dst_80 : decode method_3_code 80 = .ok (.iconst 0, 1) := by decide +kernel
theorem dst_81 : decode method_3_code 81 = .ok (.caload, 1) := by decide +kernel
theorem dst_82 : decode method_3_code 82 = .ok (.castore, 1) := by decide +kernel
theorem dst_83 : decode method_3_code 83 = .ok (.dup, 1) := by decide +kernel
theorem dst_84 : decode method_3_code 84 = .ok (.iconst 1, 1) := by decide +kernel
theorem dst_85 : decode method_3_code 85 = .ok (.aload_n 0, 1) := by decide +kernel
theorem dst_86 : decode method_3_code 86 = .ok (.iconst 1, 1) := by decide +kernel
theorem dst_87 : decode method_3_code 87 = .ok (.caload, 1) := by decide +kernel
theorem dst_88 : decode method_3_code 88 = .ok (.castore, 1) := by decide +kernel
theorem dst_89 : decode method_3_code 89 = .ok (.dup, 1) := by decide +kernel
theorem dst_90 : decode method_3_code 90 = .ok (.iconst 2, 1) := by decide +kernel
theorem dst_91 : decode method_3_code 91 = .ok (.aload_n 0, 1) := by decide +kernel
theorem dst_92 : decode method_3_code 92 = .ok (.iconst 2, 1) := by decide +kernel
theorem dst_93 : decode method_3_code 93 = .ok (.caload, 1) := by decide +kernel
theorem dst_94 : decode method_3_code 94 = .ok (.castore, 1) := by decide +kernel
theorem dst_95 : decode method_3_code 95 = .ok (.invokespecial 11, 3) := by decide +kernel
theorem dst_98 : decode method_3_code 98 = .ok (.areturn, 1) := by decide +kernel
theorem dst_99 : decode method_3_code 99 = .ok (.iload_n 1, 1) := by decide +kernel
theorem dst_100 : decode method_3_code 100 = .ok (.iconst 4, 1) := by decide +kernel
theorem dst_101 : decode method_3_code 101 = .ok (.if_icmp .ne 38, 3) := by decide +kernel
theorem dst_104 : decode method_3_code 104 = .ok (.new 9, 3) := by decide +kernel
theorem dst_107 : decode method_3_code 107 = .ok (.dup, 1) := by decide +kernel
theorem dst_108 : decode method_3_code 108 = .ok (.iconst 4, 1) := by decide +kernel
theorem dst_109 : decode method_3_code 109 = .ok (.newarray .char, 2) := by decide +kernel
theorem dst_111 : decode method_3_code 111 = .ok (.dup, 1) := by decide +kernel
theorem dst_112 : decode method_3_code 112 = .ok (.iconst 0, 1) := by decide +kernel
theorem dst_113 : decode method_3_code 113 = .ok (.aload_n 0, 1) := by decide +kernel
theorem dst_114 : decode method_3_code 114 = .ok (.iconst 0, 1) := by decide +kernel
theorem dst_115 : decode method_3_code 115 = .ok (.caload, 1) := by decide +kernel
theorem dst_116 : decode method_3_code 116 = .ok (.castore, 1) := by decide +kernel
theorem dst_117 : decode method_3_code 117 = .ok (.dup, 1) := by decide +kernel
theorem dst_118 : decode method_3_code 118 = .ok (.iconst 1, 1) := by decide +kernel
theorem dst_119 : decode method_3_code 119 = .ok (.aload_n 0, 1) := by decide +kernel
theorem dst_120 : decode method_3_code 120 = .ok (.iconst 1, 1) := by decide +kernel
theorem dst_121 : decode method_3_code 121 = .ok (.caload, 1) := by decide +kernel
theorem dst_122 : decode method_3_code 122 = .ok (.castore, 1) := by decide +kernel
theorem dst_123 : decode method_3_code 123 = .ok (.dup, 1) := by decide +kernel
theorem dst_124 : decode method_3_code 124 = .ok (.iconst 2, 1) := by decide +kernel
theorem dst_125 : decode method_3_code 125 = .ok (.aload_n 0, 1) := by decide +kernel
theorem dst_126 : decode method_3_code 126 = .ok (.iconst 2, 1) := by decide +kernel
theorem dst_127 : decode method_3_code 127 = .ok (.caload, 1) := by decide +kernel
theorem dst_128 : decode method_3_code 128 = .ok (.castore, 1) := by decide +kernel
theorem dst_129 : decode method_3_code 129 = .ok (.dup, 1) := by decide +kernel
theorem dst_130 : decode method_3_code 130 = .ok (.iconst 3, 1) := by decide +kernel
theorem dst_131 : decode method_3_code 131 = .ok (.aload_n 0, 1) := by decide +kernel
theorem dst_132 : decode method_3_code 132 = .ok (.iconst 3, 1) := by decide +kernel
theorem dst_133 : decode method_3_code 133 = .ok (.caload, 1) := by decide +kernel
theorem dst_134 : decode method_3_code 134 = .ok (.castore, 1) := by decide +kernel
theorem dst_135 : decode method_3_code 135 = .ok (.invokespecial 11, 3) := by decide +kernel
theorem dst_138 : decode method_3_code 138 = .ok (.areturn, 1) := by decide +kernel
theorem dst_139 : decode method_3_code 139 = .ok (.iload_n 1, 1) := by decide +kernel
theorem dst_140 : decode method_3_code 140 = .ok (.iconst 5, 1) := by decide +kernel
theorem dst_141 : decode method_3_code 141 = .ok (.if_icmp .ne 44, 3) := by decide +kernel
theorem dst_144 : decode method_3_code 144 = .ok (.new 9, 3) := by decide +kernel
theorem dst_147 : decode method_3_code 147 = .ok (.dup, 1) := by decide +kernel
theorem dst_148 : decode method_3_code 148 = .ok (.iconst 5, 1) := by decide +kernel
theorem dst_149 : decode method_3_code 149 = .ok (.newarray .char, 2) := by decide +kernel
theorem dst_151 : decode method_3_code 151 = .ok (.dup, 1) := by decide +kernel
theorem dst_152 : decode method_3_code 152 = .ok (.iconst 0, 1) := by decide +kernel
theorem dst_153 : decode method_3_code 153 = .ok (.aload_n 0, 1) := by decide +kernel
theorem dst_154 : decode method_3_code 154 = .ok (.iconst 0, 1) := by decide +kernel
theorem dst_155 : decode method_3_code 155 = .ok (.caload, 1) := by decide +kernel
theorem dst_156 : decode method_3_code 156 = .ok (.castore, 1) := by decide +kernel
theorem dst_157 : decode method_3_code 157 = .ok (.dup, 1) := by decide +kernel
theorem dst_158 : decode method_3_code 158 = .ok (.iconst 1, 1) := by decide +kernel
theorem dst_159 : decode method_3_code 159 = .ok (.aload_n 0, 1) := by decide +kernel
theorem dst_160 : decode method_3_code 160 = .ok (.iconst 1, 1) := by decide +kernel
theorem dst_161 : decode method_3_code 161 = .ok (.caload, 1) := by decide +kernel
theorem dst_162 : decode method_3_code 162 = .ok (.castore, 1) := by decide +kernel
theorem dst_163 : decode method_3_code 163 = .ok (.dup, 1) := by decide +kernel
theorem dst_164 : decode method_3_code 164 = .ok (.iconst 2, 1) := by decide +kernel
theorem dst_165 : decode method_3_code 165 = .ok (.aload_n 0, 1) := by decide +kernel
theorem dst_166 : decode method_3_code 166 = .ok (.iconst 2, 1) := by decide +kernel
theorem dst_167 : decode method_3_code 167 = .ok (.caload, 1) := by decide +kernel
theorem dst_168 : decode method_3_code 168 = .ok (.castore, 1) := by decide +kernel
theorem dst_169 : decode method_3_code 169 = .ok (.dup, 1) := by decide +kernel
theorem dst_170 : decode method_3_code 170 = .ok (.iconst 3, 1) := by decide +kernel
theorem dst_171 : decode method_3_code 171 = .ok (.aload_n 0, 1) := by decide +kernel
theorem dst_172 : decode method_3_code 172 = .ok (.iconst 3, 1) := by decide +kernel
theorem dst_173 : decode method_3_code 173 = .ok (.caload, 1) := by decide +kernel
theorem dst_174 : decode method_3_code 174 = .ok (.castore, 1) := by decide +kernel
theorem dst_175 : decode method_3_code 175 = .ok (.dup, 1) := by decide +kernel
theorem dst_176 : decode method_3_code 176 = .ok (.iconst 4, 1) := by decide +kernel
theorem dst_177 : decode method_3_code 177 = .ok (.aload_n 0, 1) := by decide +kernel
theorem dst_178 : decode method_3_code 178 = .ok (.iconst 4, 1) := by decide +kernel
theorem dst_179 : decode method_3_code 179 = .ok (.caload, 1) := by decide +kernel
theorem dst_180 : decode method_3_code 180 = .ok (.castore, 1) := by decide +kernel
theorem dst_181 : decode method_3_code 181 = .ok (.invokespecial 11, 3) := by decide +kernel
theorem dst_184 : decode method_3_code 184 = .ok (.areturn, 1) := by decide +kernel
theorem dst_185 : decode method_3_code 185 = .ok (.iload_n 1, 1) := by decide +kernel
theorem dst_186 : decode method_3_code 186 = .ok (.bipush 6, 2) := by decide +kernel
theorem dst_188 : decode method_3_code 188 = .ok (.if_icmp .ne 51, 3) := by decide +kernel
theorem dst_191 : decode method_3_code 191 = .ok (.new 9, 3) := by decide +kernel
theorem dst_194 : decode method_3_code 194 = .ok (.dup, 1) := by decide +kernel
theorem dst_195 : decode method_3_code 195 = .ok (.bipush 6, 2) := by decide +kernel
theorem dst_197 : decode method_3_code 197 = .ok (.newarray .char, 2) := by decide +kernel
theorem dst_199 : decode method_3_code 199 = .ok (.dup, 1) := by decide +kernel
theorem dst_200 : decode method_3_code 200 = .ok (.iconst 0, 1) := by decide +kernel
theorem dst_201 : decode method_3_code 201 = .ok (.aload_n 0, 1) := by decide +kernel
theorem dst_202 : decode method_3_code 202 = .ok (.iconst 0, 1) := by decide +kernel
theorem dst_203 : decode method_3_code 203 = .ok (.caload, 1) := by decide +kernel
theorem dst_204 : decode method_3_code 204 = .ok (.castore, 1) := by decide +kernel
theorem dst_205 : decode method_3_code 205 = .ok (.dup, 1) := by decide +kernel
theorem dst_206 : decode method_3_code 206 = .ok (.iconst 1, 1) := by decide +kernel
theorem dst_207 : decode method_3_code 207 = .ok (.aload_n 0, 1) := by decide +kernel
theorem dst_208 : decode method_3_code 208 = .ok (.iconst 1, 1) := by decide +kernel
theorem dst_209 : decode method_3_code 209 = .ok (.caload, 1) := by decide +kernel
theorem dst_210 : decode method_3_code 210 = .ok (.castore, 1) := by decide +kernel
theorem dst_211 : decode method_3_code 211 = .ok (.dup, 1) := by decide +kernel
theorem dst_212 : decode method_3_code 212 = .ok (.iconst 2, 1) := by decide +kernel
theorem dst_213 : decode method_3_code 213 = .ok (.aload_n 0, 1) := by decide +kernel
theorem dst_214 : decode method_3_code 214 = .ok (.iconst 2, 1) := by decide +kernel
theorem dst_215 : decode method_3_code 215 = .ok (.caload, 1) := by decide +kernel
theorem dst_216 : decode method_3_code 216 = .ok (.castore, 1) := by decide +kernel
theorem dst_217 : decode method_3_code 217 = .ok (.dup, 1) := by decide +kernel
theorem dst_218 : decode method_3_code 218 = .ok (.iconst 3, 1) := by decide +kernel
theorem dst_219 : decode method_3_code 219 = .ok (.aload_n 0, 1) := by decide +kernel
theorem dst_220 : decode method_3_code 220 = .ok (.iconst 3, 1) := by decide +kernel
theorem dst_221 : decode method_3_code 221 = .ok (.caload, 1) := by decide +kernel
theorem dst_222 : decode method_3_code 222 = .ok (.castore, 1) := by decide +kernel
theorem dst_223 : decode method_3_code 223 = .ok (.dup, 1) := by decide +kernel
theorem dst_224 : decode method_3_code 224 = .ok (.iconst 4, 1) := by decide +kernel
theorem dst_225 : decode method_3_code 225 = .ok (.aload_n 0, 1) := by decide +kernel
theorem dst_226 : decode method_3_code 226 = .ok (.iconst 4, 1) := by decide +kernel
theorem dst_227 : decode method_3_code 227 = .ok (.caload, 1) := by decide +kernel
theorem dst_228 : decode method_3_code 228 = .ok (.castore, 1) := by decide +kernel
theorem dst_229 : decode method_3_code 229 = .ok (.dup, 1) := by decide +kernel
theorem dst_230 : decode method_3_code 230 = .ok (.iconst 5, 1) := by decide +kernel
theorem dst_231 : decode method_3_code 231 = .ok (.aload_n 0, 1) := by decide +kernel
theorem dst_232 : decode method_3_code 232 = .ok (.iconst 5, 1) := by decide +kernel
theorem dst_233 : decode method_3_code 233 = .ok (.caload, 1) := by decide +kernel
theorem dst_234 : decode method_3_code 234 = .ok (.castore, 1) := by decide +kernel
theorem dst_235 : decode method_3_code 235 = .ok (.invokespecial 11, 3) := by decide +kernel
theorem dst_238 : decode method_3_code 238 = .ok (.areturn, 1) := by decide +kernel
theorem dst_239 : decode method_3_code 239 = .ok (.iload_n 1, 1) := by decide +kernel
theorem dst_240 : decode method_3_code 240 = .ok (.bipush 7, 2) := by decide +kernel
theorem dst_242 : decode method_3_code 242 = .ok (.if_icmp .ne 59, 3) := by decide +kernel
theorem dst_245 : decode method_3_code 245 = .ok (.new 9, 3) := by decide +kernel
theorem dst_248 : decode method_3_code 248 = .ok (.dup, 1) := by decide +kernel
theorem dst_249 : decode method_3_code 249 = .ok (.bipush 7, 2) := by decide +kernel
theorem dst_251 : decode method_3_code 251 = .ok (.newarray .char, 2) := by decide +kernel
theorem dst_253 : decode method_3_code 253 = .ok (.dup, 1) := by decide +kernel
theorem dst_254 : decode method_3_code 254 = .ok (.iconst 0, 1) := by decide +kernel
theorem dst_255 : decode method_3_code 255 = .ok (.aload_n 0, 1) := by decide +kernel
theorem dst_256 : decode method_3_code 256 = .ok (.iconst 0, 1) := by decide +kernel
theorem dst_257 : decode method_3_code 257 = .ok (.caload, 1) := by decide +kernel
theorem dst_258 : decode method_3_code 258 = .ok (.castore, 1) := by decide +kernel
theorem dst_259 : decode method_3_code 259 = .ok (.dup, 1) := by decide +kernel
theorem dst_260 : decode method_3_code 260 = .ok (.iconst 1, 1) := by decide +kernel
theorem dst_261 : decode method_3_code 261 = .ok (.aload_n 0, 1) := by decide +kernel
theorem dst_262 : decode method_3_code 262 = .ok (.iconst 1, 1) := by decide +kernel
theorem dst_263 : decode method_3_code 263 = .ok (.caload, 1) := by decide +kernel
theorem dst_264 : decode method_3_code 264 = .ok (.castore, 1) := by decide +kernel
theorem dst_265 : decode method_3_code 265 = .ok (.dup, 1) := by decide +kernel
theorem dst_266 : decode method_3_code 266 = .ok (.iconst 2, 1) := by decide +kernel
theorem dst_267 : decode method_3_code 267 = .ok (.aload_n 0, 1) := by decide +kernel
theorem dst_268 : decode method_3_code 268 = .ok (.iconst 2, 1) := by decide +kernel
theorem dst_269 : decode method_3_code 269 = .ok (.caload, 1) := by decide +kernel
theorem dst_270 : decode method_3_code 270 = .ok (.castore, 1) := by decide +kernel
theorem dst_271 : decode method_3_code 271 = .ok (.dup, 1) := by decide +kernel
theorem dst_272 : decode method_3_code 272 = .ok (.iconst 3, 1) := by decide +kernel
theorem dst_273 : decode method_3_code 273 = .ok (.aload_n 0, 1) := by decide +kernel
theorem dst_274 : decode method_3_code 274 = .ok (.iconst 3, 1) := by decide +kernel
theorem dst_275 : decode method_3_code 275 = .ok (.caload, 1) := by decide +kernel
theorem dst_276 : decode method_3_code 276 = .ok (.castore, 1) := by decide +kernel
theorem dst_277 : decode method_3_code 277 = .ok (.dup, 1) := by decide +kernel
theorem dst_278 : decode method_3_code 278 = .ok (.iconst 4, 1) := by decide +kernel
theorem dst_279 : decode method_3_code 279 = .ok (.aload_n 0, 1) := by decide +kernel
theorem dst_280 : decode method_3_code 280 = .ok (.iconst 4, 1) := by decide +kernel
theorem dst_281 : decode method_3_code 281 = .ok (.caload, 1) := by decide +kernel
theorem dst_282 : decode method_3_code 282 = .ok (.castore, 1) := by decide +kernel
theorem dst_283 : decode method_3_code 283 = .ok (.dup, 1) := by decide +kernel
theorem dst_284 : decode method_3_code 284 = .ok (.iconst 5, 1) := by decide +kernel
theorem dst_285 : decode method_3_code 285 = .ok (.aload_n 0, 1) := by decide +kernel
theorem dst_286 : decode method_3_code 286 = .ok (.iconst 5, 1) := by decide +kernel
theorem dst_287 : decode method_3_code 287 = .ok (.caload, 1) := by decide +kernel
theorem dst_288 : decode method_3_code 288 = .ok (.castore, 1) := by decide +kernel
theorem dst_289 : decode method_3_code 289 = .ok (.dup, 1) := by decide +kernel
theorem dst_290 : decode method_3_code 290 = .ok (.bipush 6, 2) := by decide +kernel
theorem dst_292 : decode method_3_code 292 = .ok (.aload_n 0, 1) := by decide +kernel
theorem dst_293 : decode method_3_code 293 = .ok (.bipush 6, 2) := by decide +kernel
theorem dst_295 : decode method_3_code 295 = .ok (.caload, 1) := by decide +kernel
theorem dst_296 : decode method_3_code 296 = .ok (.castore, 1) := by decide +kernel
theorem dst_297 : decode method_3_code 297 = .ok (.invokespecial 11, 3) := by decide +kernel
theorem dst_300 : decode method_3_code 300 = .ok (.areturn, 1) := by decide +kernel
theorem dst_301 : decode method_3_code 301 = .ok (.iload_n 1, 1) := by decide +kernel
theorem dst_302 : decode method_3_code 302 = .ok (.bipush 8, 2) := by decide +kernel
theorem dst_304 : decode method_3_code 304 = .ok (.if_icmp .ne 67, 3) := by decide +kernel
theorem dst_307 : decode method_3_code 307 = .ok (.new 9, 3) := by decide +kernel
theorem dst_310 : decode method_3_code 310 = .ok (.dup, 1) := by decide +kernel
theorem dst_311 : decode method_3_code 311 = .ok (.bipush 8, 2) := by decide +kernel
theorem dst_313 : decode method_3_code 313 = .ok (.newarray .char, 2) := by decide +kernel
theorem dst_315 : decode method_3_code 315 = .ok (.dup, 1) := by decide +kernel
theorem dst_316 : decode method_3_code 316 = .ok (.iconst 0, 1) := by decide +kernel
theorem dst_317 : decode method_3_code 317 = .ok (.aload_n 0, 1) := by decide +kernel
theorem dst_318 : decode method_3_code 318 = .ok (.iconst 0, 1) := by decide +kernel
theorem dst_319 : decode method_3_code 319 = .ok (.caload, 1) := by decide +kernel
theorem dst_320 : decode method_3_code 320 = .ok (.castore, 1) := by decide +kernel
theorem dst_321 : decode method_3_code 321 = .ok (.dup, 1) := by decide +kernel
theorem dst_322 : decode method_3_code 322 = .ok (.iconst 1, 1) := by decide +kernel
theorem dst_323 : decode method_3_code 323 = .ok (.aload_n 0, 1) := by decide +kernel
theorem dst_324 : decode method_3_code 324 = .ok (.iconst 1, 1) := by decide +kernel
theorem dst_325 : decode method_3_code 325 = .ok (.caload, 1) := by decide +kernel
theorem dst_326 : decode method_3_code 326 = .ok (.castore, 1) := by decide +kernel
theorem dst_327 : decode method_3_code 327 = .ok (.dup, 1) := by decide +kernel
theorem dst_328 : decode method_3_code 328 = .ok (.iconst 2, 1) := by decide +kernel
theorem dst_329 : decode method_3_code 329 = .ok (.aload_n 0, 1) := by decide +kernel
theorem dst_330 : decode method_3_code 330 = .ok (.iconst 2, 1) := by decide +kernel
theorem dst_331 : decode method_3_code 331 = .ok (.caload, 1) := by decide +kernel
theorem dst_332 : decode method_3_code 332 = .ok (.castore, 1) := by decide +kernel
theorem dst_333 : decode method_3_code 333 = .ok (.dup, 1) := by decide +kernel
theorem dst_334 : decode method_3_code 334 = .ok (.iconst 3, 1) := by decide +kernel
theorem dst_335 : decode method_3_code 335 = .ok (.aload_n 0, 1) := by decide +kernel
theorem dst_336 : decode method_3_code 336 = .ok (.iconst 3, 1) := by decide +kernel
theorem dst_337 : decode method_3_code 337 = .ok (.caload, 1) := by decide +kernel
theorem dst_338 : decode method_3_code 338 = .ok (.castore, 1) := by decide +kernel
theorem dst_339 : decode method_3_code 339 = .ok (.dup, 1) := by decide +kernel
theorem dst_340 : decode method_3_code 340 = .ok (.iconst 4, 1) := by decide +kernel
theorem dst_341 : decode method_3_code 341 = .ok (.aload_n 0, 1) := by decide +kernel
theorem dst_342 : decode method_3_code 342 = .ok (.iconst 4, 1) := by decide +kernel
theorem dst_343 : decode method_3_code 343 = .ok (.caload, 1) := by decide +kernel
theorem dst_344 : decode method_3_code 344 = .ok (.castore, 1) := by decide +kernel
theorem dst_345 : decode method_3_code 345 = .ok (.dup, 1) := by decide +kernel
theorem dst_346 : decode method_3_code 346 = .ok (.iconst 5, 1) := by decide +kernel
theorem dst_347 : decode method_3_code 347 = .ok (.aload_n 0, 1) := by decide +kernel
theorem dst_348 : decode method_3_code 348 = .ok (.iconst 5, 1) := by decide +kernel
theorem dst_349 : decode method_3_code 349 = .ok (.caload, 1) := by decide +kernel
theorem dst_350 : decode method_3_code 350 = .ok (.castore, 1) := by decide +kernel
theorem dst_351 : decode method_3_code 351 = .ok (.dup, 1) := by decide +kernel
theorem dst_352 : decode method_3_code 352 = .ok (.bipush 6, 2) := by decide +kernel
theorem dst_354 : decode method_3_code 354 = .ok (.aload_n 0, 1) := by decide +kernel
theorem dst_355 : decode method_3_code 355 = .ok (.bipush 6, 2) := by decide +kernel
theorem dst_357 : decode method_3_code 357 = .ok (.caload, 1) := by decide +kernel
theorem dst_358 : decode method_3_code 358 = .ok (.castore, 1) := by decide +kernel
theorem dst_359 : decode method_3_code 359 = .ok (.dup, 1) := by decide +kernel
theorem dst_360 : decode method_3_code 360 = .ok (.bipush 7, 2) := by decide +kernel
theorem dst_362 : decode method_3_code 362 = .ok (.aload_n 0, 1) := by decide +kernel
theorem dst_363 : decode method_3_code 363 = .ok (.bipush 7, 2) := by decide +kernel
theorem dst_365 : decode method_3_code 365 = .ok (.caload, 1) := by decide +kernel
theorem dst_366 : decode method_3_code 366 = .ok (.castore, 1) := by decide +kernel
theorem dst_367 : decode method_3_code 367 = .ok (.invokespecial 11, 3) := by decide +kernel
theorem dst_370 : decode method_3_code 370 = .ok (.areturn, 1) := by decide +kernel
theorem dst_371 : decode method_3_code 371 = .ok (.iload_n 1, 1) := by decide +kernel
theorem dst_372 : decode method_3_code 372 = .ok (.bipush 9, 2) := by decide +kernel
theorem dst_374 : decode method_3_code 374 = .ok (.if_icmp .ne 75, 3) := by decide +kernel
theorem dst_377 : decode method_3_code 377 = .ok (.new 9, 3) := by decide +kernel
theorem dst_380 : decode method_3_code 380 = .ok (.dup, 1) := by decide +kernel
theorem dst_381 : decode method_3_code 381 = .ok (.bipush 9, 2) := by decide +kernel
theorem dst_383 : decode method_3_code 383 = .ok (.newarray .char, 2) := by decide +kernel
theorem dst_385 : decode method_3_code 385 = .ok (.dup, 1) := by decide +kernel
theorem dst_386 : decode method_3_code 386 = .ok (.iconst 0, 1) := by decide +kernel
theorem dst_387 : decode method_3_code 387 = .ok (.aload_n 0, 1) := by decide +kernel
theorem dst_388 : decode method_3_code 388 = .ok (.iconst 0, 1) := by decide +kernel
theorem dst_389 : decode method_3_code 389 = .ok (.caload, 1) := by decide +kernel
theorem dst_390 : decode method_3_code 390 = .ok (.castore, 1) := by decide +kernel
theorem dst_391 : decode method_3_code 391 = .ok (.dup, 1) := by decide +kernel
theorem dst_392 : decode method_3_code 392 = .ok (.iconst 1, 1) := by decide +kernel
theorem dst_393 : decode method_3_code 393 = .ok (.aload_n 0, 1) := by decide +kernel
theorem dst_394 : decode method_3_code 394 = .ok (.iconst 1, 1) := by decide +kernel
theorem dst_395 : decode method_3_code 395 = .ok (.caload, 1) := by decide +kernel
theorem dst_396 : decode method_3_code 396 = .ok (.castore, 1) := by decide +kernel
theorem dst_397 : decode method_3_code 397 = .ok (.dup, 1) := by decide +kernel
theorem dst_398 : decode method_3_code 398 = .ok (.iconst 2, 1) := by decide +kernel
theorem dst_399 : decode method_3_code 399 = .ok (.aload_n 0, 1) := by decide +kernel
theorem dst_400 : decode method_3_code 400 = .ok (.iconst 2, 1) := by decide +kernel
theorem dst_401 : decode method_3_code 401 = .ok (.caload, 1) := by decide +kernel
theorem dst_402 : decode method_3_code 402 = .ok (.castore, 1) := by decide +kernel
theorem dst_403 : decode method_3_code 403 = .ok (.dup, 1) := by decide +kernel
theorem dst_404 : decode method_3_code 404 = .ok (.iconst 3, 1) := by decide +kernel
theorem dst_405 : decode method_3_code 405 = .ok (.aload_n 0, 1) := by decide +kernel
theorem dst_406 : decode method_3_code 406 = .ok (.iconst 3, 1) := by decide +kernel
theorem dst_407 : decode method_3_code 407 = .ok (.caload, 1) := by decide +kernel
theorem dst_408 : decode method_3_code 408 = .ok (.castore, 1) := by decide +kernel
theorem dst_409 : decode method_3_code 409 = .ok (.dup, 1) := by decide +kernel
theorem dst_410 : decode method_3_code 410 = .ok (.iconst 4, 1) := by decide +kernel
theorem dst_411 : decode method_3_code 411 = .ok (.aload_n 0, 1) := by decide +kernel
theorem dst_412 : decode method_3_code 412 = .ok (.iconst 4, 1) := by decide +kernel
theorem dst_413 : decode method_3_code 413 = .ok (.caload, 1) := by decide +kernel
theorem dst_414 : decode method_3_code 414 = .ok (.castore, 1) := by decide +kernel
theorem dst_415 : decode method_3_code 415 = .ok (.dup, 1) := by decide +kernel
theorem dst_416 : decode method_3_code 416 = .ok (.iconst 5, 1) := by decide +kernel
theorem dst_417 : decode method_3_code 417 = .ok (.aload_n 0, 1) := by decide +kernel
theorem dst_418 : decode method_3_code 418 = .ok (.iconst 5, 1) := by decide +kernel
theorem dst_419 : decode method_3_code 419 = .ok (.caload, 1) := by decide +kernel
theorem dst_420 : decode method_3_code 420 = .ok (.castore, 1) := by decide +kernel
theorem dst_421 : decode method_3_code 421 = .ok (.dup, 1) := by decide +kernel
theorem dst_422 : decode method_3_code 422 = .ok (.bipush 6, 2) := by decide +kernel
theorem dst_424 : decode method_3_code 424 = .ok (.aload_n 0, 1) := by decide +kernel
theorem dst_425 : decode method_3_code 425 = .ok (.bipush 6, 2) := by decide +kernel
theorem dst_427 : decode method_3_code 427 = .ok (.caload, 1) := by decide +kernel
theorem dst_428 : decode method_3_code 428 = .ok (.castore, 1) := by decide +kernel
theorem dst_429 : decode method_3_code 429 = .ok (.dup, 1) := by decide +kernel
theorem dst_430 : decode method_3_code 430 = .ok (.bipush 7, 2) := by decide +kernel
theorem dst_432 : decode method_3_code 432 = .ok (.aload_n 0, 1) := by decide +kernel
theorem dst_433 : decode method_3_code 433 = .ok (.bipush 7, 2) := by decide +kernel
theorem dst_435 : decode method_3_code 435 = .ok (.caload, 1) := by decide +kernel
theorem dst_436 : decode method_3_code 436 = .ok (.castore, 1) := by decide +kernel
theorem dst_437 : decode method_3_code 437 = .ok (.dup, 1) := by decide +kernel
theorem dst_438 : decode method_3_code 438 = .ok (.bipush 8, 2) := by decide +kernel
theorem dst_440 : decode method_3_code 440 = .ok (.aload_n 0, 1) := by decide +kernel
theorem dst_441 : decode method_3_code 441 = .ok (.bipush 8, 2) := by decide +kernel
theorem dst_443 : decode method_3_code 443 = .ok (.caload, 1) := by decide +kernel
theorem dst_444 : decode method_3_code 444 = .ok (.castore, 1) := by decide +kernel
theorem dst_445 : decode method_3_code 445 = .ok (.invokespecial 11, 3) := by decide +kernel
theorem dst_448 : decode method_3_code 448 = .ok (.areturn, 1) := by decide +kernel
theorem dst_449 : decode method_3_code 449 = .ok (.new 9, 3) := by decide +kernel
theorem dst_452 : decode method_3_code 452 = .ok (.dup, 1) := by decide +kernel
theorem dst_453 : decode method_3_code 453 = .ok (.bipush 10, 2) := by decide +kernel
theorem dst_455 : decode method_3_code 455 = .ok (.newarray .char, 2) := by decide +kernel
theorem dst_457 : decode method_3_code 457 = .ok (.dup, 1) := by decide +kernel
theorem dst_458 : decode method_3_code 458 = .ok (.iconst 0, 1) := by decide +kernel
theorem dst_459 : decode method_3_code 459 = .ok (.aload_n 0, 1) := by decide +kernel
theorem dst_460 : decode method_3_code 460 = .ok (.iconst 0, 1) := by decide +kernel
theorem dst_461 : decode method_3_code 461 = .ok (.caload, 1) := by decide +kernel
theorem dst_462 : decode method_3_code 462 = .ok (.castore, 1) := by decide +kernel
theorem dst_463 : decode method_3_code 463 = .ok (.dup, 1) := by decide +kernel
theorem dst_464 : decode method_3_code 464 = .ok (.iconst 1, 1) := by decide +kernel
theorem dst_465 : decode method_3_code 465 = .ok (.aload_n 0, 1) := by decide +kernel
theorem dst_466 : decode method_3_code 466 = .ok (.iconst 1, 1) := by decide +kernel
theorem dst_467 : decode method_3_code 467 = .ok (.caload, 1) := by decide +kernel
theorem dst_468 : decode method_3_code 468 = .ok (.castore, 1) := by decide +kernel
theorem dst_469 : decode method_3_code 469 = .ok (.dup, 1) := by decide +kernel
theorem dst_470 : decode method_3_code 470 = .ok (.iconst 2, 1) := by decide +kernel
theorem dst_471 : decode method_3_code 471 = .ok (.aload_n 0, 1) := by decide +kernel
theorem dst_472 : decode method_3_code 472 = .ok (.iconst 2, 1) := by decide +kernel
theorem dst_473 : decode method_3_code 473 = .ok (.caload, 1) := by decide +kernel
theorem dst_474 : decode method_3_code 474 = .ok (.castore, 1) := by decide +kernel
theorem dst_475 : decode method_3_code 475 = .ok (.dup, 1) := by decide +kernel
theorem dst_476 : decode method_3_code 476 = .ok (.iconst 3, 1) := by decide +kernel
theorem dst_477 : decode method_3_code 477 = .ok (.aload_n 0, 1) := by decide +kernel
theorem dst_478 : decode method_3_code 478 = .ok (.iconst 3, 1) := by decide +kernel
theorem dst_479 : decode method_3_code 479 = .ok (.caload, 1) := by decide +kernel
theorem dst_480 : decode method_3_code 480 = .ok (.castore, 1) := by decide +kernel
theorem dst_481 : decode method_3_code 481 = .ok (.dup, 1) := by decide +kernel
theorem dst_482 : decode method_3_code 482 = .ok (.iconst 4, 1) := by decide +kernel
theorem dst_483 : decode method_3_code 483 = .ok (.aload_n 0, 1) := by decide +kernel
theorem dst_484 : decode method_3_code 484 = .ok (.iconst 4, 1) := by decide +kernel
theorem dst_485 : decode method_3_code 485 = .ok (.caload, 1) := by decide +kernel
theorem dst_486 : decode method_3_code 486 = .ok (.castore, 1) := by decide +kernel
theorem dst_487 : decode method_3_code 487 = .ok (.dup, 1) := by decide +kernel
theorem dst_488 : decode method_3_code 488 = .ok (.iconst 5, 1) := by decide +kernel
theorem dst_489 : decode method_3_code 489 = .ok (.aload_n 0, 1) := by decide +kernel
theorem dst_490 : decode method_3_code 490 = .ok (.iconst 5, 1) := by decide +kernel
theorem dst_491 : decode method_3_code 491 = .ok (.caload, 1) := by decide +kernel
theorem dst_492 : decode method_3_code 492 = .ok (.castore, 1) := by decide +kernel
theorem dst_493 : decode method_3_code 493 = .ok (.dup, 1) := by decide +kernel
theorem dst_494 : decode method_3_code 494 = .ok (.bipush 6, 2) := by decide +kernel
theorem dst_496 : decode method_3_code 496 = .ok (.aload_n 0, 1) := by decide +kernel
theorem dst_497 : decode method_3_code 497 = .ok (.bipush 6, 2) := by decide +kernel
theorem dst_499 : decode method_3_code 499 = .ok (.caload, 1) := by decide +kernel
theorem dst_500 : decode method_3_code 500 = .ok (.castore, 1) := by decide +kernel
theorem dst_501 : decode method_3_code 501 = .ok (.dup, 1) := by decide +kernel
theorem dst_502 : decode method_3_code 502 = .ok (.bipush 7, 2) := by decide +kernel
theorem dst_504 : decode method_3_code 504 = .ok (.aload_n 0, 1) := by decide +kernel
theorem dst_505 : decode method_3_code 505 = .ok (.bipush 7, 2) := by decide +kernel
theorem dst_507 : decode method_3_code 507 = .ok (.caload, 1) := by decide +kernel
theorem dst_508 : decode method_3_code 508 = .ok (.castore, 1) := by decide +kernel
theorem dst_509 : decode method_3_code 509 = .ok (.dup, 1) := by decide +kernel
theorem dst_510 : decode method_3_code 510 = .ok (.bipush 8, 2) := by decide +kernel
theorem dst_512 : decode method_3_code 512 = .ok (.aload_n 0, 1) := by decide +kernel
theorem dst_513 : decode method_3_code 513 = .ok (.bipush 8, 2) := by decide +kernel
theorem dst_515 : decode method_3_code 515 = .ok (.caload, 1) := by decide +kernel
theorem dst_516 : decode method_3_code 516 = .ok (.castore, 1) := by decide +kernel
theorem dst_517 : decode method_3_code 517 = .ok (.dup, 1) := by decide +kernel
theorem dst_518 : decode method_3_code 518 = .ok (.bipush 9, 2) := by decide +kernel
theorem dst_520 : decode method_3_code 520 = .ok (.aload_n 0, 1) := by decide +kernel
theorem dst_521 : decode method_3_code 521 = .ok (.bipush 9, 2) := by decide +kernel
theorem dst_523 : decode method_3_code 523 = .ok (.caload, 1) := by decide +kernel
theorem dst_524 : decode method_3_code 524 = .ok (.castore, 1) := by decide +kernel
theorem dst_525 : decode method_3_code 525 = .ok (.invokespecial 11, 3) := by decide +kernel
theorem dst_528 : decode method_3_code 528 = .ok (.areturn, 1) := by decide +kernel
set_option maxRecDepth 65536 in
set_option maxHeartbeats 40000000 in
theorem rmST (l : Launch) (Z : State) (a0 : Array Value) (hw : ∀ d ∈ tables_1, d.before a0 Z = true) (z : Int32) (Su : Su16 Z z) (n : Nat) (hn : n ≤ 10) (c0 c1 c2 c3 c4 c5 c6 c7 c8 c9 : Int32) (hbd : ∀ c ∈ ([c0, c1, c2, c3, c4, c5, c6, c7, c8, c9] : List Int32), ¬ c < 0 ∧ ¬ (65535 : Int32) < c) (a : Addr) (h0 : Heap) (n0 : Nat) (Z0 : n0 ≤ h0.size) (X00 : Old Z n0 h0) (A : AI Z h0 a .char ([c0, c1, c2, c3, c4, c5, c6, c7, c8, c9] : List Int32)) :
    WCtr consts_1 (fun b => b < h0.size) l Z (⟨"com/example/tutti/tutti/cli/CommandLineIsVerbosePinLaw", "str", "([CI)Ljava/lang/String;"⟩ : MethodName) method_3_code 2 (some (.object "java/lang/String")) [] ({ frames := 6, cells := 4, slots := 44, locals := 88 } : Room) #[(.ref a), (.int (Int32.ofNat n))] h0 (QS_rmST Z (([c0, c1, c2, c3, c4, c5, c6, c7, c8, c9] : List Int32).take n) h0 n0) := by
  refine WCtr.of (plainFor_of_name pn_19) ?_
  intro p e s m below meth c s₁ hx hby hml hown hnm hret hlk hZ X0 e0 hC0
  refine Go.cast (ef_7 m a (Int32.ofNat n)) ?_
  show Go p e below _ s₁ (mkF m 0 #[.val (.ref a), .val (.int (Int32.ofNat n))] [])
  have UX : ∀ {h : Heap}, Keep h0 h [] → Und (fun b => b < h0.size) h0 h := fun K => (Und.refl _ h0).keep K all0
  have e_0 := own_nar_c (hbd c0 (by simp))
  have e_1 := own_nar_c (hbd c1 (by simp))
  have e_2 := own_nar_c (hbd c2 (by simp))
  have e_3 := own_nar_c (hbd c3 (by simp))
  have e_4 := own_nar_c (hbd c4 (by simp))
  have e_5 := own_nar_c (hbd c5 (by simp))
  have e_6 := own_nar_c (hbd c6 (by simp))
  have e_7 := own_nar_c (hbd c7 (by simp))
  have e_8 := own_nar_c (hbd c8 (by simp))
  have e_9 := own_nar_c (hbd c9 (by simp))
  refine Go.st (fun _ k => XS.iloadN X0.here hx rfl (hb hby dst_0) rfl k) ?_
  show Go p e below _ s₁ (mkF m 1 #[.val (.ref a), .val (.int (Int32.ofNat n))] [(.int (Int32.ofNat n))])
  by_cases qn : Int32.ofNat n = (0 : Int32)
  · skip
    refine Go.st (fun _ k => XS.ifNo X0.here hx rfl (hb hby dst_1) rfl (XT.i0_ne_f qn) k) ?_
    show Go p e below _ s₁ (mkF m 4 #[.val (.ref a), .val (.int (Int32.ofNat n))] [])
    obtain rfl : n = 0 := by have q := congrArg Int32.toInt qn; rw [own_toInt (by omega)] at q; have q2 : ((0 : Int32)).toInt = 0 := rfl; omega
    clear qn
    show Go p e below _ s₁ (mkF m 4 #[.val (.ref a), .val (.int (Int32.ofNat 0))] [])
    obtain ⟨T1, h1, X1, e1, E1, A1, D1, -, st1⟩ := newO X0 hx hZ hown (hw _ (List.mem_of_getElem? (i := 9) rfl)) (hw _ (List.mem_of_getElem? (i := 10) rfl)) (hw _ (List.mem_of_getElem? (i := 11) rfl)) e0 (g := (mkF m 4 #[.val (.ref a), .val (.int (Int32.ofNat 0))] [])) rfl (hb hby dst_4) (by (try dsimp only [room_1]); (try simp only [List.length_cons, List.length_nil]); omega) (by (try dsimp only [room_1]); (try simp only [List.length_cons, List.length_nil]); omega)
    obtain ⟨a1, g1⟩ : ∃ z, z = h0.size := ⟨_, rfl⟩
    rw [← g1] at A1 D1 st1
    have l1 : a1 < h1.size := A1.lt
    have sE1 := E1.1
    refine Go.st st1 ?_
    show Go p e below _ T1 (mkF m 7 #[.val (.ref a), .val (.int (Int32.ofNat 0))] [(.ref a1)])
    refine Go.st (fun _ k => XS.dup X1.here hx rfl (hb hby dst_7) rfl rfl k) ?_
    show Go p e below _ T1 (mkF m 8 #[.val (.ref a), .val (.int (Int32.ofNat 0))] [(.ref a1), (.ref a1)])
    refine Go.st (fun _ k => XS.iconst X1.here hx rfl (hb hby dst_8) k) ?_
    show Go p e below _ T1 (mkF m 9 #[.val (.ref a), .val (.int (Int32.ofNat 0))] [(.int (0 : Int32)), (.ref a1), (.ref a1)])
    refine Go.newarr X1 hx hZ (ty := .char) rfl rfl (hw _ (List.mem_of_getElem? (i := 0) rfl)) e1 (g := (mkF m 9 #[.val (.ref a), .val (.int (Int32.ofNat 0))] [(.int (0 : Int32)), (.ref a1), (.ref a1)])) rfl (hb hby dst_9) rfl (n := 0) rfl (by decide) (by (try dsimp only [room_1]); (try simp only [List.length_cons, List.length_nil]); omega) (by (try dsimp only [room_1]); (try simp only [List.length_cons, List.length_nil]); omega) ?_
    rintro T2 h2 X2 e2 E2 l2 A2
    obtain ⟨a2, g2⟩ : ∃ z, z = h1.size := ⟨_, rfl⟩
    rw [← g2] at A2 l2 ⊢
    have sE2 := E2.1
    show Go p e below _ T2 (mkF m 11 #[.val (.ref a), .val (.int (Int32.ofNat 0))] [(.ref a2), (.ref a1), (.ref a1)])
    have hna : n0 ≤ a1 := by omega
    have hnN : ¬ (fun b => b < h0.size) a1 := by show ¬ a1 < h0.size; omega
    have U2 : Und (fun b => b < h0.size) h0 h2 := ((Und.refl _ h0).ext E1).ext E2
    refine Go.callIW X2 hx (Bas.refl s 0) (Nat.zero_le _) hZ (y := (⟨"java/lang/String", "<init>", "([C)V"⟩ : MethodName)) rfl hown (mvT hZ (hw _ (List.mem_of_getElem? (i := 12) rfl))) (mvT hZ (hw _ (List.mem_of_getElem? (i := 13) rfl))) (mvT hZ (hw _ (List.mem_of_getElem? (i := 14) rfl))) (by decide) (Wt := 1) (rmI1e l Z a0 hw (fun b => b < h0.size) a1 a2 _ _ h2 n0 hna hnN (A1.ext E2) ((D1 (Or.inr (hw _ (List.mem_of_getElem? (i := 37) rfl))) (ty := (.array .byte)) (by decide)).ext E2) ((D1 (Or.inr (hw _ (List.mem_of_getElem? (i := 35) rfl))) (ty := .byte) (by decide)).ext E2) A2) (hw _ (List.mem_of_getElem? (i := 14) rfl)) (hw _ (List.mem_of_getElem? (i := 11) rfl)) (by (try dsimp only [room_1]); (try simp only [List.length_cons, List.length_nil]); omega) (by (try dsimp only [room_1]); (try simp only [List.length_cons, List.length_nil]); omega) e2 hC0 (by rw [e2]; exact U2) (g := (mkF m 11 #[.val (.ref a), .val (.int (Int32.ofNat 0))] [(.ref a2), (.ref a1), (.ref a1)])) rfl (by rw [hml]; rfl) (a := a1) (argsL := [(.ref a2)]) (rest := [(.ref a1)]) (lenOf pd_18 rfl) rfl (by show 2 * 0 + _ ≤ _; exact Nat.le_of_eq rfl) (hb hby dst_11) rfl (by (try dsimp only [room_1]); (try simp only [List.length_cons, List.length_nil]); omega) (by (try dsimp only [room_1]); (try simp only [List.length_cons, List.length_nil]); omega) ?_
    rintro _ s4 T4 L4 hB4 hZ4 hown4 hC4 hsz4 X4 ⟨rfl, N4, K4, E4, G4, t, F4, B4, ht⟩
    show Go p e below _ T4 (mkF m 14 #[.val (.ref a), .val (.int (Int32.ofNat 0))] [(.ref a1)])
    have K04 : Keep h0 T4.heap [] := (((Keep.refl h0 []).ext E1).ext E2).trans K4 (fun x q => Or.inr (by cases List.mem_singleton.mp q; omega))
    exact Go.retVW X4 hx hB4 (Nat.le_refl _) hC4 (Und.refl _ _) hret hlk rfl rfl (hb hby dst_14) ⟨a1, t, rfl, Fr.app (Fr.nil n0) N4, K04, E4, G4, F4, B4⟩ (by (try dsimp only [room_1]); (try simp only [List.length_cons, List.length_nil]); omega) (by (try dsimp only [room_1]); (try simp only [List.length_cons, List.length_nil]); omega)
  refine Go.st (fun _ k => XS.ifYes X0.here hx rfl (pc0 := 1) (pc' := 15) rfl (hb hby dst_1) rfl (XT.i0_ne_t qn) (by decide) (by decide) k) ?_
  show Go p e below _ s₁ (mkF m 15 #[.val (.ref a), .val (.int (Int32.ofNat n))] [])
  have nn0 : n ≠ 0 := fun z => qn (by rw [z]; rfl)
  clear qn
  refine Go.st (fun _ k => XS.iloadN X0.here hx rfl (hb hby dst_15) rfl k) ?_
  show Go p e below _ s₁ (mkF m 16 #[.val (.ref a), .val (.int (Int32.ofNat n))] [(.int (Int32.ofNat n))])
  refine Go.st (fun _ k => XS.iconst X0.here hx rfl (hb hby dst_16) k) ?_
  show Go p e below _ s₁ (mkF m 17 #[.val (.ref a), .val (.int (Int32.ofNat n))] [(.int (1 : Int32)), (.int (Int32.ofNat n))])
  by_cases qn : Int32.ofNat n = (1 : Int32)
  · skip
    refine Go.st (fun _ k => XS.icmpNo X0.here hx rfl (hb hby dst_17) rfl (XT.ii_ne_f qn) k) ?_
    show Go p e below _ s₁ (mkF m 20 #[.val (.ref a), .val (.int (Int32.ofNat n))] [])
    obtain rfl : n = 1 := by have q := congrArg Int32.toInt qn; rw [own_toInt (by omega)] at q; have q2 : ((1 : Int32)).toInt = 1 := rfl; omega
    clear qn
    show Go p e below _ s₁ (mkF m 20 #[.val (.ref a), .val (.int (Int32.ofNat 1))] [])
    obtain ⟨T1, h1, X1, e1, E1, A1, D1, -, st1⟩ := newO X0 hx hZ hown (hw _ (List.mem_of_getElem? (i := 9) rfl)) (hw _ (List.mem_of_getElem? (i := 10) rfl)) (hw _ (List.mem_of_getElem? (i := 11) rfl)) e0 (g := (mkF m 20 #[.val (.ref a), .val (.int (Int32.ofNat 1))] [])) rfl (hb hby dst_20) (by (try dsimp only [room_1]); (try simp only [List.length_cons, List.length_nil]); omega) (by (try dsimp only [room_1]); (try simp only [List.length_cons, List.length_nil]); omega)
    obtain ⟨a1, g1⟩ : ∃ z, z = h0.size := ⟨_, rfl⟩
    rw [← g1] at A1 D1 st1
    have l1 : a1 < h1.size := A1.lt
    have sE1 := E1.1
    refine Go.st st1 ?_
    show Go p e below _ T1 (mkF m 23 #[.val (.ref a), .val (.int (Int32.ofNat 1))] [(.ref a1)])
    refine Go.st (fun _ k => XS.dup X1.here hx rfl (hb hby dst_23) rfl rfl k) ?_
    show Go p e below _ T1 (mkF m 24 #[.val (.ref a), .val (.int (Int32.ofNat 1))] [(.ref a1), (.ref a1)])
    refine Go.st (fun _ k => XS.iconst X1.here hx rfl (hb hby dst_24) k) ?_
    show Go p e below _ T1 (mkF m 25 #[.val (.ref a), .val (.int (Int32.ofNat 1))] [(.int (1 : Int32)), (.ref a1), (.ref a1)])
    refine Go.newarr X1 hx hZ (ty := .char) rfl rfl (hw _ (List.mem_of_getElem? (i := 0) rfl)) e1 (g := (mkF m 25 #[.val (.ref a), .val (.int (Int32.ofNat 1))] [(.int (1 : Int32)), (.ref a1), (.ref a1)])) rfl (hb hby dst_25) rfl (n := 1) rfl (by decide) (by (try dsimp only [room_1]); (try simp only [List.length_cons, List.length_nil]); omega) (by (try dsimp only [room_1]); (try simp only [List.length_cons, List.length_nil]); omega) ?_
    rintro T2 h2 X2 e2 E2 l2 A2
    obtain ⟨a2, g2⟩ : ∃ z, z = h1.size := ⟨_, rfl⟩
    rw [← g2] at A2 l2 ⊢
    have sE2 := E2.1
    show Go p e below _ T2 (mkF m 27 #[.val (.ref a), .val (.int (Int32.ofNat 1))] [(.ref a2), (.ref a1), (.ref a1)])
    refine Go.st (fun _ k => XS.dup X2.here hx rfl (hb hby dst_27) rfl rfl k) ?_
    show Go p e below _ T2 (mkF m 28 #[.val (.ref a), .val (.int (Int32.ofNat 1))] [(.ref a2), (.ref a2), (.ref a1), (.ref a1)])
    refine Go.st (fun _ k => XS.iconst X2.here hx rfl (hb hby dst_28) k) ?_
    show Go p e below _ T2 (mkF m 29 #[.val (.ref a), .val (.int (Int32.ofNat 1))] [(.int (0 : Int32)), (.ref a2), (.ref a2), (.ref a1), (.ref a1)])
    refine Go.st (fun _ k => XS.aloadN X2.here hx rfl (hb hby dst_29) rfl rfl k) ?_
    show Go p e below _ T2 (mkF m 30 #[.val (.ref a), .val (.int (Int32.ofNat 1))] [(.ref a), (.int (0 : Int32)), (.ref a2), (.ref a2), (.ref a1), (.ref a1)])
    refine Go.st (fun _ k => XS.iconst X2.here hx rfl (hb hby dst_30) k) ?_
    show Go p e below _ T2 (mkF m 31 #[.val (.ref a), .val (.int (Int32.ofNat 1))] [(.int (0 : Int32)), (.ref a), (.int (0 : Int32)), (.ref a2), (.ref a2), (.ref a1), (.ref a1)])
    have A_a := (A.ext E1).ext E2
    have na : a ≠ a2 := Nat.ne_of_lt (Nat.lt_of_lt_of_eq (A.ext E1).lt g2.symm)
    refine Go.caload X2 hx hZ e2 A_a (i := 0) (x := c0) rfl rfl (g := (mkF m 31 #[.val (.ref a), .val (.int (Int32.ofNat 1))] [(.int (0 : Int32)), (.ref a), (.int (0 : Int32)), (.ref a2), (.ref a2), (.ref a1), (.ref a1)])) rfl rfl (hb hby dst_31) ?_
    show Go p e below _ T2 (mkF m 32 #[.val (.ref a), .val (.int (Int32.ofNat 1))] [(.int c0), (.int (0 : Int32)), (.ref a2), (.ref a2), (.ref a1), (.ref a1)])
    refine Go.castore X2 hx hZ e2 A2 (i := 0) rfl (by simp) (g := (mkF m 32 #[.val (.ref a), .val (.int (Int32.ofNat 1))] [(.int c0), (.int (0 : Int32)), (.ref a2), (.ref a2), (.ref a1), (.ref a1)])) rfl rfl (hb hby dst_32) ?_
    rintro T3 h3 X3 e3 W3 A3
    have sW3 := W3.size
    show Go p e below _ T3 (mkF m 33 #[.val (.ref a), .val (.int (Int32.ofNat 1))] [(.ref a2), (.ref a1), (.ref a1)])
    have A_a3 := A_a.other W3 na
    have n12 : a1 ≠ a2 := Nat.ne_of_lt (by omega)
    have Ac : AI Z h3 a2 .char ([c0] : List Int32) := by
      have q : AI Z h3 a2 .char [nar .char c0] := A3
      rwa [e_0] at q
    have hp : ∀ c ∈ ([c0] : List Int32), ¬ c < 0 ∧ ¬ (65535 : Int32) < c := fun c hc => hbd c (List.mem_of_mem_take (i := 1) hc)
    have Ok : Old Z n0 h3 := (((X00.ext E1).ext E2).wr W3 (by omega))
    have Kk : Keep h0 h3 [] := ((((Keep.refl h0 []).ext E1).ext E2).wr W3 (Or.inr (by omega)))
    have Nk := (Fr.snoc X3 (Fr.nil n0) (by omega))
    refine Go.callI X3 hx (y := (⟨"java/lang/String", "<init>", "([C)V"⟩ : MethodName)) rfl hown (mvT hZ (hw _ (List.mem_of_getElem? (i := 12) rfl))) (mvT hZ (hw _ (List.mem_of_getElem? (i := 13) rfl))) (mvT hZ (hw _ (List.mem_of_getElem? (i := 14) rfl))) (by decide) (Ctr.back (W := 1) (rmI1 l Z a0 hw z Su ([c0] : List Int32) (by simp) (by simp) hp a1 a2 _ _ h3 n0 (by omega) (by omega) Ok ((A1.ext E2).wr W3) (((D1 (Or.inr (hw _ (List.mem_of_getElem? (i := 37) rfl))) (ty := (.array .byte)) (by decide)).ext E2).other W3 (Or.inl n12)) (((D1 (Or.inr (hw _ (List.mem_of_getElem? (i := 35) rfl))) (ty := .byte) (by decide)).ext E2).other W3 (Or.inl n12)) Ac) hZ (hw _ (List.mem_of_getElem? (i := 14) rfl)) (hw _ (List.mem_of_getElem? (i := 11) rfl)) (by (try dsimp only [room_1]); (try simp only [List.length_cons, List.length_nil]); omega) (by (try dsimp only [room_1]); (try simp only [List.length_cons, List.length_nil]); omega)) e3 (g := (mkF m 33 #[.val (.ref a), .val (.int (Int32.ofNat 1))] [(.ref a2), (.ref a1), (.ref a1)])) rfl (by rw [hml]; rfl) (a := a1) (argsL := [(.ref a2)]) (rest := [(.ref a1)]) (lenOf pd_18 rfl) rfl (by show 2 * 0 + _ ≤ _; exact Nat.le_of_eq rfl) (hb hby dst_33) rfl (by (try dsimp only [room_1]); (try simp only [List.length_cons, List.length_nil]); omega) (by (try dsimp only [room_1]); (try simp only [List.length_cons, List.length_nil]); omega) ?_
    rintro _ T99 L99 X99 ⟨rfl, N99, K99, E99, G99, t, F99, B99, ht⟩
    show Go p e below _ T99 (mkF m 36 #[.val (.ref a), .val (.int (Int32.ofNat 1))] [(.ref a1)])
    have K09 : Keep h0 T99.heap [] := Kk.trans K99 (fun x q => Or.inr (by cases List.mem_singleton.mp q; omega))
    exact Go.retVW X99 hx (Bas.refl s 0) (Nat.zero_le _) hC0 (UX K09) hret hlk rfl rfl (hb hby dst_36) ⟨a1, t, rfl, Fr.app Nk N99, K09, E99, G99, F99, B99⟩ (by (try dsimp only [room_1]); (try simp only [List.length_cons, List.length_nil]); omega) (by (try dsimp only [room_1]); (try simp only [List.length_cons, List.length_nil]); omega)
  refine Go.st (fun _ k => XS.icmpYes X0.here hx rfl (pc0 := 17) (pc' := 37) rfl (hb hby dst_17) rfl (XT.ii_ne_t qn) (by decide) (by decide) k) ?_
  show Go p e below _ s₁ (mkF m 37 #[.val (.ref a), .val (.int (Int32.ofNat n))] [])
  have nn1 : n ≠ 1 := fun z => qn (by rw [z]; rfl)
  clear qn
  refine Go.st (fun _ k => XS.iloadN X0.here hx rfl (hb hby dst_37) rfl k) ?_
  show Go p e below _ s₁ (mkF m 38 #[.val (.ref a), .val (.int (Int32.ofNat n))] [(.int (Int32.ofNat n))])
  refine Go.st (fun _ k => XS.iconst X0.here hx rfl (hb hby dst_38) k) ?_
  show Go p e below _ s₁ (mkF m 39 #[.val (.ref a), .val (.int (Int32.ofNat n))] [(.int (2 : Int32)), (.int (Int32.ofNat n))])
  by_cases qn : Int32.ofNat n = (2 : Int32)
  · skip
    refine Go.st (fun _ k => XS.icmpNo X0.here hx rfl (hb hby dst_39) rfl (XT.ii_ne_f qn) k) ?_
    show Go p e below _ s₁ (mkF m 42 #[.val (.ref a), .val (.int (Int32.ofNat n))] [])
    obtain rfl : n = 2 := by have q := congrArg Int32.toInt qn; rw [own_toInt (by omega)] at q; have q2 : ((2 : Int32)).toInt = 2 := rfl; omega
    clear qn
    show Go p e below _ s₁ (mkF m 42 #[.val (.ref a), .val (.int (Int32.ofNat 2))] [])
    obtain ⟨T1, h1, X1, e1, E1, A1, D1, -, st1⟩ := newO X0 hx hZ hown (hw _ (List.mem_of_getElem? (i := 9) rfl)) (hw _ (List.mem_of_getElem? (i := 10) rfl)) (hw _ (List.mem_of_getElem? (i := 11) rfl)) e0 (g := (mkF m 42 #[.val (.ref a), .val (.int (Int32.ofNat 2))] [])) rfl (hb hby dst_42) (by (try dsimp only [room_1]); (try simp only [List.length_cons, List.length_nil]); omega) (by (try dsimp only [room_1]); (try simp only [List.length_cons, List.length_nil]); omega)
    obtain ⟨a1, g1⟩ : ∃ z, z = h0.size := ⟨_, rfl⟩
    rw [← g1] at A1 D1 st1
    have l1 : a1 < h1.size := A1.lt
    have sE1 := E1.1
    refine Go.st st1 ?_
    show Go p e below _ T1 (mkF m 45 #[.val (.ref a), .val (.int (Int32.ofNat 2))] [(.ref a1)])
    refine Go.st (fun _ k => XS.dup X1.here hx rfl (hb hby dst_45) rfl rfl k) ?_
    show Go p e below _ T1 (mkF m 46 #[.val (.ref a), .val (.int (Int32.ofNat 2))] [(.ref a1), (.ref a1)])
    refine Go.st (fun _ k => XS.iconst X1.here hx rfl (hb hby dst_46) k) ?_
    show Go p e below _ T1 (mkF m 47 #[.val (.ref a), .val (.int (Int32.ofNat 2))] [(.int (2 : Int32)), (.ref a1), (.ref a1)])
    refine Go.newarr X1 hx hZ (ty := .char) rfl rfl (hw _ (List.mem_of_getElem? (i := 0) rfl)) e1 (g := (mkF m 47 #[.val (.ref a), .val (.int (Int32.ofNat 2))] [(.int (2 : Int32)), (.ref a1), (.ref a1)])) rfl (hb hby dst_47) rfl (n := 2) rfl (by decide) (by (try dsimp only [room_1]); (try simp only [List.length_cons, List.length_nil]); omega) (by (try dsimp only [room_1]); (try simp only [List.length_cons, List.length_nil]); omega) ?_
    rintro T2 h2 X2 e2 E2 l2 A2
    obtain ⟨a2, g2⟩ : ∃ z, z = h1.size := ⟨_, rfl⟩
    rw [← g2] at A2 l2 ⊢
    have sE2 := E2.1
    show Go p e below _ T2 (mkF m 49 #[.val (.ref a), .val (.int (Int32.ofNat 2))] [(.ref a2), (.ref a1), (.ref a1)])
    refine Go.st (fun _ k => XS.dup X2.here hx rfl (hb hby dst_49) rfl rfl k) ?_
    show Go p e below _ T2 (mkF m 50 #[.val (.ref a), .val (.int (Int32.ofNat 2))] [(.ref a2), (.ref a2), (.ref a1), (.ref a1)])
    refine Go.st (fun _ k => XS.iconst X2.here hx rfl (hb hby dst_50) k) ?_
    show Go p e below _ T2 (mkF m 51 #[.val (.ref a), .val (.int (Int32.ofNat 2))] [(.int (0 : Int32)), (.ref a2), (.ref a2), (.ref a1), (.ref a1)])
    refine Go.st (fun _ k => XS.aloadN X2.here hx rfl (hb hby dst_51) rfl rfl k) ?_
    show Go p e below _ T2 (mkF m 52 #[.val (.ref a), .val (.int (Int32.ofNat 2))] [(.ref a), (.int (0 : Int32)), (.ref a2), (.ref a2), (.ref a1), (.ref a1)])
    refine Go.st (fun _ k => XS.iconst X2.here hx rfl (hb hby dst_52) k) ?_
    show Go p e below _ T2 (mkF m 53 #[.val (.ref a), .val (.int (Int32.ofNat 2))] [(.int (0 : Int32)), (.ref a), (.int (0 : Int32)), (.ref a2), (.ref a2), (.ref a1), (.ref a1)])
    have A_a := (A.ext E1).ext E2
    have na : a ≠ a2 := Nat.ne_of_lt (Nat.lt_of_lt_of_eq (A.ext E1).lt g2.symm)
    refine Go.caload X2 hx hZ e2 A_a (i := 0) (x := c0) rfl rfl (g := (mkF m 53 #[.val (.ref a), .val (.int (Int32.ofNat 2))] [(.int (0 : Int32)), (.ref a), (.int (0 : Int32)), (.ref a2), (.ref a2), (.ref a1), (.ref a1)])) rfl rfl (hb hby dst_53) ?_
    show Go p e below _ T2 (mkF m 54 #[.val (.ref a), .val (.int (Int32.ofNat 2))] [(.int c0), (.int (0 : Int32)), (.ref a2), (.ref a2), (.ref a1), (.ref a1)])
    refine Go.castore X2 hx hZ e2 A2 (i := 0) rfl (by simp) (g := (mkF m 54 #[.val (.ref a), .val (.int (Int32.ofNat 2))] [(.int c0), (.int (0 : Int32)), (.ref a2), (.ref a2), (.ref a1), (.ref a1)])) rfl rfl (hb hby dst_54) ?_
    rintro T3 h3 X3 e3 W3 A3
    have sW3 := W3.size
    show Go p e below _ T3 (mkF m 55 #[.val (.ref a), .val (.int (Int32.ofNat 2))] [(.ref a2), (.ref a1), (.ref a1)])
    have A_a3 := A_a.other W3 na
    refine Go.st (fun _ k => XS.dup X3.here hx rfl (hb hby dst_55) rfl rfl k) ?_
    show Go p e below _ T3 (mkF m 56 #[.val (.ref a), .val (.int (Int32.ofNat 2))] [(.ref a2), (.ref a2), (.ref a1), (.ref a1)])
    refine Go.st (fun _ k => XS.iconst X3.here hx rfl (hb hby dst_56) k) ?_
    show Go p e below _ T3 (mkF m 57 #[.val (.ref a), .val (.int (Int32.ofNat 2))] [(.int (1 : Int32)), (.ref a2), (.ref a2), (.ref a1), (.ref a1)])
    refine Go.st (fun _ k => XS.aloadN X3.here hx rfl (hb hby dst_57) rfl rfl k) ?_
    show Go p e below _ T3 (mkF m 58 #[.val (.ref a), .val (.int (Int32.ofNat 2))] [(.ref a), (.int (1 : Int32)), (.ref a2), (.ref a2), (.ref a1), (.ref a1)])
    refine Go.st (fun _ k => XS.iconst X3.here hx rfl (hb hby dst_58) k) ?_
    show Go p e below _ T3 (mkF m 59 #[.val (.ref a), .val (.int (Int32.ofNat 2))] [(.int (1 : Int32)), (.ref a), (.int (1 : Int32)), (.ref a2), (.ref a2), (.ref a1), (.ref a1)])
    refine Go.caload X3 hx hZ e3 A_a3 (i := 1) (x := c1) rfl rfl (g := (mkF m 59 #[.val (.ref a), .val (.int (Int32.ofNat 2))] [(.int (1 : Int32)), (.ref a), (.int (1 : Int32)), (.ref a2), (.ref a2), (.ref a1), (.ref a1)])) rfl rfl (hb hby dst_59) ?_
    show Go p e below _ T3 (mkF m 60 #[.val (.ref a), .val (.int (Int32.ofNat 2))] [(.int c1), (.int (1 : Int32)), (.ref a2), (.ref a2), (.ref a1), (.ref a1)])
    refine Go.castore X3 hx hZ e3 A3 (i := 1) rfl (by simp) (g := (mkF m 60 #[.val (.ref a), .val (.int (Int32.ofNat 2))] [(.int c1), (.int (1 : Int32)), (.ref a2), (.ref a2), (.ref a1), (.ref a1)])) rfl rfl (hb hby dst_60) ?_
    rintro T4 h4 X4 e4 W4 A4
    have sW4 := W4.size
    show Go p e below _ T4 (mkF m 61 #[.val (.ref a), .val (.int (Int32.ofNat 2))] [(.ref a2), (.ref a1), (.ref a1)])
    have A_a4 := A_a3.other W4 na
    have n12 : a1 ≠ a2 := Nat.ne_of_lt (by omega)
    have Ac : AI Z h4 a2 .char ([c0, c1] : List Int32) := by
      have q : AI Z h4 a2 .char [nar .char c0, nar .char c1] := A4
      rwa [e_0, e_1] at q
    have hp : ∀ c ∈ ([c0, c1] : List Int32), ¬ c < 0 ∧ ¬ (65535 : Int32) < c := fun c hc => hbd c (List.mem_of_mem_take (i := 2) hc)
    have Ok : Old Z n0 h4 := ((((X00.ext E1).ext E2).wr W3 (by omega)).wr W4 (by omega))
    have Kk : Keep h0 h4 [] := (((((Keep.refl h0 []).ext E1).ext E2).wr W3 (Or.inr (by omega))).wr W4 (Or.inr (by omega)))
    have Nk := (Fr.snoc X4 (Fr.snoc X3 (Fr.nil n0) (by omega)) (by omega))
    refine Go.callI X4 hx (y := (⟨"java/lang/String", "<init>", "([C)V"⟩ : MethodName)) rfl hown (mvT hZ (hw _ (List.mem_of_getElem? (i := 12) rfl))) (mvT hZ (hw _ (List.mem_of_getElem? (i := 13) rfl))) (mvT hZ (hw _ (List.mem_of_getElem? (i := 14) rfl))) (by decide) (Ctr.back (W := 1) (rmI1 l Z a0 hw z Su ([c0, c1] : List Int32) (by simp) (by simp) hp a1 a2 _ _ h4 n0 (by omega) (by omega) Ok (((A1.ext E2).wr W3).wr W4) ((((D1 (Or.inr (hw _ (List.mem_of_getElem? (i := 37) rfl))) (ty := (.array .byte)) (by decide)).ext E2).other W3 (Or.inl n12)).other W4 (Or.inl n12)) ((((D1 (Or.inr (hw _ (List.mem_of_getElem? (i := 35) rfl))) (ty := .byte) (by decide)).ext E2).other W3 (Or.inl n12)).other W4 (Or.inl n12)) Ac) hZ (hw _ (List.mem_of_getElem? (i := 14) rfl)) (hw _ (List.mem_of_getElem? (i := 11) rfl)) (by (try dsimp only [room_1]); (try simp only [List.length_cons, List.length_nil]); omega) (by (try dsimp only [room_1]); (try simp only [List.length_cons, List.length_nil]); omega)) e4 (g := (mkF m 61 #[.val (.ref a), .val (.int (Int32.ofNat 2))] [(.ref a2), (.ref a1), (.ref a1)])) rfl (by rw [hml]; rfl) (a := a1) (argsL := [(.ref a2)]) (rest := [(.ref a1)]) (lenOf pd_18 rfl) rfl (by show 2 * 0 + _ ≤ _; exact Nat.le_of_eq rfl) (hb hby dst_61) rfl (by (try dsimp only [room_1]); (try simp only [List.length_cons, List.length_nil]); omega) (by (try dsimp only [room_1]); (try simp only [List.length_cons, List.length_nil]); omega) ?_
    rintro _ T99 L99 X99 ⟨rfl, N99, K99, E99, G99, t, F99, B99, ht⟩
    show Go p e below _ T99 (mkF m 64 #[.val (.ref a), .val (.int (Int32.ofNat 2))] [(.ref a1)])
    have K09 : Keep h0 T99.heap [] := Kk.trans K99 (fun x q => Or.inr (by cases List.mem_singleton.mp q; omega))
    exact Go.retVW X99 hx (Bas.refl s 0) (Nat.zero_le _) hC0 (UX K09) hret hlk rfl rfl (hb hby dst_64) ⟨a1, t, rfl, Fr.app Nk N99, K09, E99, G99, F99, B99⟩ (by (try dsimp only [room_1]); (try simp only [List.length_cons, List.length_nil]); omega) (by (try dsimp only [room_1]); (try simp only [List.length_cons, List.length_nil]); omega)
  refine Go.st (fun _ k => XS.icmpYes X0.here hx rfl (pc0 := 39) (pc' := 65) rfl (hb hby dst_39) rfl (XT.ii_ne_t qn) (by decide) (by decide) k) ?_
  show Go p e below _ s₁ (mkF m 65 #[.val (.ref a), .val (.int (Int32.ofNat n))] [])
  have nn2 : n ≠ 2 := fun z => qn (by rw [z]; rfl)
  clear qn
  refine Go.st (fun _ k => XS.iloadN X0.here hx rfl (hb hby dst_65) rfl k) ?_
  show Go p e below _ s₁ (mkF m 66 #[.val (.ref a), .val (.int (Int32.ofNat n))] [(.int (Int32.ofNat n))])
  refine Go.st (fun _ k => XS.iconst X0.here hx rfl (hb hby dst_66) k) ?_
  show Go p e below _ s₁ (mkF m 67 #[.val (.ref a), .val (.int (Int32.ofNat n))] [(.int (3 : Int32)), (.int (Int32.ofNat n))])
  by_cases qn : Int32.ofNat n = (3 : Int32)
  · skip
    refine Go.st (fun _ k => XS.icmpNo X0.here hx rfl (hb hby dst_67) rfl (XT.ii_ne_f qn) k) ?_
    show Go p e below _ s₁ (mkF m 70 #[.val (.ref a), .val (.int (Int32.ofNat n))] [])
    obtain rfl : n = 3 := by have q := congrArg Int32.toInt qn; rw [own_toInt (by omega)] at q; have q2 : ((3 : Int32)).toInt = 3 := rfl; omega
    clear qn
    show Go p e below _ s₁ (mkF m 70 #[.val (.ref a), .val (.int (Int32.ofNat 3))] [])
    obtain ⟨T1, h1, X1, e1, E1, A1, D1, -, st1⟩ := newO X0 hx hZ hown (hw _ (List.mem_of_getElem? (i := 9) rfl)) (hw _ (List.mem_of_getElem? (i := 10) rfl)) (hw _ (List.mem_of_getElem? (i := 11) rfl)) e0 (g := (mkF m 70 #[.val (.ref a), .val (.int (Int32.ofNat 3))] [])) rfl (hb hby dst_70) (by (try dsimp only [room_1]); (try simp only [List.length_cons, List.length_nil]); omega) (by (try dsimp only [room_1]); (try simp only [List.length_cons, List.length_nil]); omega)
    obtain ⟨a1, g1⟩ : ∃ z, z = h0.size := ⟨_, rfl⟩
    rw [← g1] at A1 D1 st1
    have l1 : a1 < h1.size := A1.lt
    have sE1 := E1.1
    refine Go.st st1 ?_
    show Go p e below _ T1 (mkF m 73 #[.val (.ref a), .val (.int (Int32.ofNat 3))] [(.ref a1)])
    refine Go.st (fun _ k => XS.dup X1.here hx rfl (hb hby dst_73) rfl rfl k) ?_
    show Go p e below _ T1 (mkF m 74 #[.val (.ref a), .val (.int (Int32.ofNat 3))] [(.ref a1), (.ref a1)])
    refine Go.st (fun _ k => XS.iconst X1.here hx rfl (hb hby dst_74) k) ?_
    show Go p e below _ T1 (mkF m 75 #[.val (.ref a), .val (.int (Int32.ofNat 3))] [(.int (3 : Int32)), (.ref a1), (.ref a1)])
    refine Go.newarr X1 hx hZ (ty := .char) rfl rfl (hw _ (List.mem_of_getElem? (i := 0) rfl)) e1 (g := (mkF m 75 #[.val (.ref a), .val (.int (Int32.ofNat 3))] [(.int (3 : Int32)), (.ref a1), (.ref a1)])) rfl (hb hby dst_75) rfl (n := 3) rfl (by decide) (by (try dsimp only [room_1]); (try simp only [List.length_cons, List.length_nil]); omega) (by (try dsimp only [room_1]); (try simp only [List.length_cons, List.length_nil]); omega) ?_
    rintro T2 h2 X2 e2 E2 l2 A2
    obtain ⟨a2, g2⟩ : ∃ z, z = h1.size := ⟨_, rfl⟩
    rw [← g2] at A2 l2 ⊢
    have sE2 := E2.1
    show Go p e below _ T2 (mkF m 77 #[.val (.ref a), .val (.int (Int32.ofNat 3))] [(.ref a2), (.ref a1), (.ref a1)])
    refine Go.st (fun _ k => XS.dup X2.here hx rfl (hb hby dst_77) rfl rfl k) ?_
    show Go p e below _ T2 (mkF m 78 #[.val (.ref a), .val (.int (Int32.ofNat 3))] [(.ref a2), (.ref a2), (.ref a1), (.ref a1)])
    refine Go.st (fun _ k => XS.iconst X2.here hx rfl (hb hby dst_78) k) ?_
    show Go p e below _ T2 (mkF m 79 #[.val (.ref a), .val (.int (Int32.ofNat 3))] [(.int (0 : Int32)), (.ref a2), (.ref a2), (.ref a1), (.ref a1)])
    refine Go.st (fun _ k => XS.aloadN X2.here hx rfl (hb hby dst_79) rfl rfl k) ?_
    show Go p e below _ T2 (mkF m 80 #[.val (.ref a), .val (.int (Int32.ofNat 3))] [(.ref a), (.int (0 : Int32)), (.ref a2), (.ref a2), (.ref a1), (.ref a1)])
    refine Go.st (fun _ k => XS.iconst X2.here hx rfl (hb hby dst_80) k) ?_
    show Go p e below _ T2 (mkF m 81 #[.val (.ref a), .val (.int (Int32.ofNat 3))] [(.int (0 : Int32)), (.ref a), (.int (0 : Int32)), (.ref a2), (.ref a2), (.ref a1), (.ref a1)])
    have A_a := (A.ext E1).ext E2
    have na : a ≠ a2 := Nat.ne_of_lt (Nat.lt_of_lt_of_eq (A.ext E1).lt g2.symm)
    refine Go.caload X2 hx hZ e2 A_a (i := 0) (x := c0) rfl rfl (g := (mkF m 81 #[.val (.ref a), .val (.int (Int32.ofNat 3))] [(.int (0 : Int32)), (.ref a), (.int (0 : Int32)), (.ref a2), (.ref a2), (.ref a1), (.ref a1)])) rfl rfl (hb hby dst_81) ?_
    show Go p e below _ T2 (mkF m 82 #[.val (.ref a), .val (.int (Int32.ofNat 3))] [(.int c0), (.int (0 : Int32)), (.ref a2), (.ref a2), (.ref a1), (.ref a1)])
    refine Go.castore X2 hx hZ e2 A2 (i := 0) rfl (by simp) (g := (mkF m 82 #[.val (.ref a), .val (.int (Int32.ofNat 3))] [(.int c0), (.int (0 : Int32)), (.ref a2), (.ref a2), (.ref a1), (.ref a1)])) rfl rfl (hb hby dst_82) ?_
    rintro T3 h3 X3 e3 W3 A3
    have sW3 := W3.size
    show Go p e below _ T3 (mkF m 83 #[.val (.ref a), .val (.int (Int32.ofNat 3))] [(.ref a2), (.ref a1), (.ref a1)])
    have A_a3 := A_a.other W3 na
    refine Go.st (fun _ k => XS.dup X3.here hx rfl (hb hby dst_83) rfl rfl k) ?_
    show Go p e below _ T3 (mkF m 84 #[.val (.ref a), .val (.int (Int32.ofNat 3))] [(.ref a2), (.ref a2), (.ref a1), (.ref a1)])
    refine Go.st (fun _ k => XS.iconst X3.here hx rfl (hb hby dst_84) k) ?_
    show Go p e below _ T3 (mkF m 85 #[.val (.ref a), .val (.int (Int32.ofNat 3))] [(.int (1 : Int32)), (.ref a2), (.ref a2), (.ref a1), (.ref a1)])
    refine Go.st (fun _ k => XS.aloadN X3.here hx rfl (hb hby dst_85) rfl rfl k) ?_
    show Go p e below _ T3 (mkF m 86 #[.val (.ref a), .val (.int (Int32.ofNat 3))] [(.ref a), (.int (1 : Int32)), (.ref a2), (.ref a2), (.ref a1), (.ref a1)])
    refine Go.st (fun _ k => XS.iconst X3.here hx rfl (hb hby dst_86) k) ?_
    show Go p e below _ T3 (mkF m 87 #[.val (.ref a), .val (.int (Int32.ofNat 3))] [(.int (1 : Int32)), (.ref a), (.int (1 : Int32)), (.ref a2), (.ref a2), (.ref a1), (.ref a1)])
    refine Go.caload X3 hx hZ e3 A_a3 (i := 1) (x := c1) rfl rfl (g := (mkF m 87 #[.val (.ref a), .val (.int (Int32.ofNat 3))] [(.int (1 : Int32)), (.ref a), (.int (1 : Int32)), (.ref a2), (.ref a2), (.ref a1), (.ref a1)])) rfl rfl (hb hby dst_87) ?_
    show Go p e below _ T3 (mkF m 88 #[.val (.ref a), .val (.int (Int32.ofNat 3))] [(.int c1), (.int (1 : Int32)), (.ref a2), (.ref a2), (.ref a1), (.ref a1)])
    refine Go.castore X3 hx hZ e3 A3 (i := 1) rfl (by simp) (g := (mkF m 88 #[.val (.ref a), .val (.int (Int32.ofNat 3))] [(.int c1), (.int (1 : Int32)), (.ref a2), (.ref a2), (.ref a1), (.ref a1)])) rfl rfl (hb hby dst_88) ?_
    rintro T4 h4 X4 e4 W4 A4
    have sW4 := W4.size
    show Go p e below _ T4 (mkF m 89 #[.val (.ref a), .val (.int (Int32.ofNat 3))] [(.ref a2), (.ref a1), (.ref a1)])
    have A_a4 := A_a3.other W4 na
    refine Go.st (fun _ k => XS.dup X4.here hx rfl (hb hby dst_89) rfl rfl k) ?_
    show Go p e below _ T4 (mkF m 90 #[.val (.ref a), .val (.int (Int32.ofNat 3))] [(.ref a2), (.ref a2), (.ref a1), (.ref a1)])
    refine Go.st (fun _ k => XS.iconst X4.here hx rfl (hb hby dst_90) k) ?_
    show Go p e below _ T4 (mkF m 91 #[.val (.ref a), .val (.int (Int32.ofNat 3))] [(.int (2 : Int32)), (.ref a2), (.ref a2), (.ref a1), (.ref a1)])
    refine Go.st (fun _ k => XS.aloadN X4.here hx rfl (hb hby dst_91) rfl rfl k) ?_
    show Go p e below _ T4 (mkF m 92 #[.val (.ref a), .val (.int (Int32.ofNat 3))] [(.ref a), (.int (2 : Int32)), (.ref a2), (.ref a2), (.ref a1), (.ref a1)])
    refine Go.st (fun _ k => XS.iconst X4.here hx rfl (hb hby dst_92) k) ?_
    show Go p e below _ T4 (mkF m 93 #[.val (.ref a), .val (.int (Int32.ofNat 3))] [(.int (2 : Int32)), (.ref a), (.int (2 : Int32)), (.ref a2), (.ref a2), (.ref a1), (.ref a1)])
    refine Go.caload X4 hx hZ e4 A_a4 (i := 2) (x := c2) rfl rfl (g := (mkF m 93 #[.val (.ref a), .val (.int (Int32.ofNat 3))] [(.int (2 : Int32)), (.ref a), (.int (2 : Int32)), (.ref a2), (.ref a2), (.ref a1), (.ref a1)])) rfl rfl (hb hby dst_93) ?_
    show Go p e below _ T4 (mkF m 94 #[.val (.ref a), .val (.int (Int32.ofNat 3))] [(.int c2), (.int (2 : Int32)), (.ref a2), (.ref a2), (.ref a1), (.ref a1)])
    refine Go.castore X4 hx hZ e4 A4 (i := 2) rfl (by simp) (g := (mkF m 94 #[.val (.ref a), .val (.int (Int32.ofNat 3))] [(.int c2), (.int (2 : Int32)), (.ref a2), (.ref a2), (.ref a1), (.ref a1)])) rfl rfl (hb hby dst_94) ?_
    rintro T5 h5 X5 e5 W5 A5
    have sW5 := W5.size
    show Go p e below _ T5 (mkF m 95 #[.val (.ref a), .val (.int (Int32.ofNat 3))] [(.ref a2), (.ref a1), (.ref a1)])
    have A_a5 := A_a4.other W5 na
    have n12 : a1 ≠ a2 := Nat.ne_of_lt (by omega)
    have Ac : AI Z h5 a2 .char ([c0, c1, c2] : List Int32) := by
      have q : AI Z h5 a2 .char [nar .char c0, nar .char c1, nar .char c2] := A5
      rwa [e_0, e_1, e_2] at q
    have hp : ∀ c ∈ ([c0, c1, c2] : List Int32), ¬ c < 0 ∧ ¬ (65535 : Int32) < c := fun c hc => hbd c (List.mem_of_mem_take (i := 3) hc)
    have Ok : Old Z n0 h5 := (((((X00.ext E1).ext E2).wr W3 (by omega)).wr W4 (by omega)).wr W5 (by omega))
    have Kk : Keep h0 h5 [] := ((((((Keep.refl h0 []).ext E1).ext E2).wr W3 (Or.inr (by omega))).wr W4 (Or.inr (by omega))).wr W5 (Or.inr (by omega)))
    have Nk := (Fr.snoc X5 (Fr.snoc X4 (Fr.snoc X3 (Fr.nil n0) (by omega)) (by omega)) (by omega))
    refine Go.callI X5 hx (y := (⟨"java/lang/String", "<init>", "([C)V"⟩ : MethodName)) rfl hown (mvT hZ (hw _ (List.mem_of_getElem? (i := 12) rfl))) (mvT hZ (hw _ (List.mem_of_getElem? (i := 13) rfl))) (mvT hZ (hw _ (List.mem_of_getElem? (i := 14) rfl))) (by decide) (Ctr.back (W := 1) (rmI1 l Z a0 hw z Su ([c0, c1, c2] : List Int32) (by simp) (by simp) hp a1 a2 _ _ h5 n0 (by omega) (by omega) Ok ((((A1.ext E2).wr W3).wr W4).wr W5) (((((D1 (Or.inr (hw _ (List.mem_of_getElem? (i := 37) rfl))) (ty := (.array .byte)) (by decide)).ext E2).other W3 (Or.inl n12)).other W4 (Or.inl n12)).other W5 (Or.inl n12)) (((((D1 (Or.inr (hw _ (List.mem_of_getElem? (i := 35) rfl))) (ty := .byte) (by decide)).ext E2).other W3 (Or.inl n12)).other W4 (Or.inl n12)).other W5 (Or.inl n12)) Ac) hZ (hw _ (List.mem_of_getElem? (i := 14) rfl)) (hw _ (List.mem_of_getElem? (i := 11) rfl)) (by (try dsimp only [room_1]); (try simp only [List.length_cons, List.length_nil]); omega) (by (try dsimp only [room_1]); (try simp only [List.length_cons, List.length_nil]); omega)) e5 (g := (mkF m 95 #[.val (.ref a), .val (.int (Int32.ofNat 3))] [(.ref a2), (.ref a1), (.ref a1)])) rfl (by rw [hml]; rfl) (a := a1) (argsL := [(.ref a2)]) (rest := [(.ref a1)]) (lenOf pd_18 rfl) rfl (by show 2 * 0 + _ ≤ _; exact Nat.le_of_eq rfl) (hb hby dst_95) rfl (by (try dsimp only [room_1]); (try simp only [List.length_cons, List.length_nil]); omega) (by (try dsimp only [room_1]); (try simp only [List.length_cons, List.length_nil]); omega) ?_
    rintro _ T99 L99 X99 ⟨rfl, N99, K99, E99, G99, t, F99, B99, ht⟩
    show Go p e below _ T99 (mkF m 98 #[.val (.ref a), .val (.int (Int32.ofNat 3))] [(.ref a1)])
    have K09 : Keep h0 T99.heap [] := Kk.trans K99 (fun x q => Or.inr (by cases List.mem_singleton.mp q; omega))
    exact Go.retVW X99 hx (Bas.refl s 0) (Nat.zero_le _) hC0 (UX K09) hret hlk rfl rfl (hb hby dst_98) ⟨a1, t, rfl, Fr.app Nk N99, K09, E99, G99, F99, B99⟩ (by (try dsimp only [room_1]); (try simp only [List.length_cons, List.length_nil]); omega) (by (try dsimp only [room_1]); (try simp only [List.length_cons, List.length_nil]); omega)
  refine Go.st (fun _ k => XS.icmpYes X0.here hx rfl (pc0 := 67) (pc' := 99) rfl (hb hby dst_67) rfl (XT.ii_ne_t qn) (by decide) (by decide) k) ?_
  show Go p e below _ s₁ (mkF m 99 #[.val (.ref a), .val (.int (Int32.ofNat n))] [])
  have nn3 : n ≠ 3 := fun z => qn (by rw [z]; rfl)
  clear qn
  refine Go.st (fun _ k => XS.iloadN X0.here hx rfl (hb hby dst_99) rfl k) ?_
  show Go p e below _ s₁ (mkF m 100 #[.val (.ref a), .val (.int (Int32.ofNat n))] [(.int (Int32.ofNat n))])
  refine Go.st (fun _ k => XS.iconst X0.here hx rfl (hb hby dst_100) k) ?_
  show Go p e below _ s₁ (mkF m 101 #[.val (.ref a), .val (.int (Int32.ofNat n))] [(.int (4 : Int32)), (.int (Int32.ofNat n))])
  by_cases qn : Int32.ofNat n = (4 : Int32)
  · skip
    refine Go.st (fun _ k => XS.icmpNo X0.here hx rfl (hb hby dst_101) rfl (XT.ii_ne_f qn) k) ?_
    show Go p e below _ s₁ (mkF m 104 #[.val (.ref a), .val (.int (Int32.ofNat n))] [])
    obtain rfl : n = 4 := by have q := congrArg Int32.toInt qn; rw [own_toInt (by omega)] at q; have q2 : ((4 : Int32)).toInt = 4 := rfl; omega
    clear qn
    show Go p e below _ s₁ (mkF m 104 #[.val (.ref a), .val (.int (Int32.ofNat 4))] [])
    obtain ⟨T1, h1, X1, e1, E1, A1, D1, -, st1⟩ := newO X0 hx hZ hown (hw _ (List.mem_of_getElem? (i := 9) rfl)) (hw _ (List.mem_of_getElem? (i := 10) rfl)) (hw _ (List.mem_of_getElem? (i := 11) rfl)) e0 (g := (mkF m 104 #[.val (.ref a), .val (.int (Int32.ofNat 4))] [])) rfl (hb hby dst_104) (by (try dsimp only [room_1]); (try simp only [List.length_cons, List.length_nil]); omega) (by (try dsimp only [room_1]); (try simp only [List.length_cons, List.length_nil]); omega)
    obtain ⟨a1, g1⟩ : ∃ z, z = h0.size := ⟨_, rfl⟩
    rw [← g1] at A1 D1 st1
    have l1 : a1 < h1.size := A1.lt
    have sE1 := E1.1
    refine Go.st st1 ?_
    show Go p e below _ T1 (mkF m 107 #[.val (.ref a), .val (.int (Int32.ofNat 4))] [(.ref a1)])
    refine Go.st (fun _ k => XS.dup X1.here hx rfl (hb hby dst_107) rfl rfl k) ?_
    show Go p e below _ T1 (mkF m 108 #[.val (.ref a), .val (.int (Int32.ofNat 4))] [(.ref a1), (.ref a1)])
    refine Go.st (fun _ k => XS.iconst X1.here hx rfl (hb hby dst_108) k) ?_
    show Go p e below _ T1 (mkF m 109 #[.val (.ref a), .val (.int (Int32.ofNat 4))] [(.int (4 : Int32)), (.ref a1), (.ref a1)])
    refine Go.newarr X1 hx hZ (ty := .char) rfl rfl (hw _ (List.mem_of_getElem? (i := 0) rfl)) e1 (g := (mkF m 109 #[.val (.ref a), .val (.int (Int32.ofNat 4))] [(.int (4 : Int32)), (.ref a1), (.ref a1)])) rfl (hb hby dst_109) rfl (n := 4) rfl (by decide) (by (try dsimp only [room_1]); (try simp only [List.length_cons, List.length_nil]); omega) (by (try dsimp only [room_1]); (try simp only [List.length_cons, List.length_nil]); omega) ?_
    rintro T2 h2 X2 e2 E2 l2 A2
    obtain ⟨a2, g2⟩ : ∃ z, z = h1.size := ⟨_, rfl⟩
    rw [← g2] at A2 l2 ⊢
    have sE2 := E2.1
    show Go p e below _ T2 (mkF m 111 #[.val (.ref a), .val (.int (Int32.ofNat 4))] [(.ref a2), (.ref a1), (.ref a1)])
    refine Go.st (fun _ k => XS.dup X2.here hx rfl (hb hby dst_111) rfl rfl k) ?_
    show Go p e below _ T2 (mkF m 112 #[.val (.ref a), .val (.int (Int32.ofNat 4))] [(.ref a2), (.ref a2), (.ref a1), (.ref a1)])
    refine Go.st (fun _ k => XS.iconst X2.here hx rfl (hb hby dst_112) k) ?_
    show Go p e below _ T2 (mkF m 113 #[.val (.ref a), .val (.int (Int32.ofNat 4))] [(.int (0 : Int32)), (.ref a2), (.ref a2), (.ref a1), (.ref a1)])
    refine Go.st (fun _ k => XS.aloadN X2.here hx rfl (hb hby dst_113) rfl rfl k) ?_
    show Go p e below _ T2 (mkF m 114 #[.val (.ref a), .val (.int (Int32.ofNat 4))] [(.ref a), (.int (0 : Int32)), (.ref a2), (.ref a2), (.ref a1), (.ref a1)])
    refine Go.st (fun _ k => XS.iconst X2.here hx rfl (hb hby dst_114) k) ?_
    show Go p e below _ T2 (mkF m 115 #[.val (.ref a), .val (.int (Int32.ofNat 4))] [(.int (0 : Int32)), (.ref a), (.int (0 : Int32)), (.ref a2), (.ref a2), (.ref a1), (.ref a1)])
    have A_a := (A.ext E1).ext E2
    have na : a ≠ a2 := Nat.ne_of_lt (Nat.lt_of_lt_of_eq (A.ext E1).lt g2.symm)
    refine Go.caload X2 hx hZ e2 A_a (i := 0) (x := c0) rfl rfl (g := (mkF m 115 #[.val (.ref a), .val (.int (Int32.ofNat 4))] [(.int (0 : Int32)), (.ref a), (.int (0 : Int32)), (.ref a2), (.ref a2), (.ref a1), (.ref a1)])) rfl rfl (hb hby dst_115) ?_
    show Go p e below _ T2 (mkF m 116 #[.val (.ref a), .val (.int (Int32.ofNat 4))] [(.int c0), (.int (0 : Int32)), (.ref a2), (.ref a2), (.ref a1), (.ref a1)])
    refine Go.castore X2 hx hZ e2 A2 (i := 0) rfl (by simp) (g := (mkF m 116 #[.val (.ref a), .val (.int (Int32.ofNat 4))] [(.int c0), (.int (0 : Int32)), (.ref a2), (.ref a2), (.ref a1), (.ref a1)])) rfl rfl (hb hby dst_116) ?_
    rintro T3 h3 X3 e3 W3 A3
    have sW3 := W3.size
    show Go p e below _ T3 (mkF m 117 #[.val (.ref a), .val (.int (Int32.ofNat 4))] [(.ref a2), (.ref a1), (.ref a1)])
    have A_a3 := A_a.other W3 na
    refine Go.st (fun _ k => XS.dup X3.here hx rfl (hb hby dst_117) rfl rfl k) ?_
    show Go p e below _ T3 (mkF m 118 #[.val (.ref a), .val (.int (Int32.ofNat 4))] [(.ref a2), (.ref a2), (.ref a1), (.ref a1)])
    refine Go.st (fun _ k => XS.iconst X3.here hx rfl (hb hby dst_118) k) ?_
    show Go p e below _ T3 (mkF m 119 #[.val (.ref a), .val (.int (Int32.ofNat 4))] [(.int (1 : Int32)), (.ref a2), (.ref a2), (.ref a1), (.ref a1)])
    refine Go.st (fun _ k => XS.aloadN X3.here hx rfl (hb hby dst_119) rfl rfl k) ?_
    show Go p e below _ T3 (mkF m 120 #[.val (.ref a), .val (.int (Int32.ofNat 4))] [(.ref a), (.int (1 : Int32)), (.ref a2), (.ref a2), (.ref a1), (.ref a1)])
    refine Go.st (fun _ k => XS.iconst X3.here hx rfl (hb hby dst_120) k) ?_
    show Go p e below _ T3 (mkF m 121 #[.val (.ref a), .val (.int (Int32.ofNat 4))] [(.int (1 : Int32)), (.ref a), (.int (1 : Int32)), (.ref a2), (.ref a2), (.ref a1), (.ref a1)])
    refine Go.caload X3 hx hZ e3 A_a3 (i := 1) (x := c1) rfl rfl (g := (mkF m 121 #[.val (.ref a), .val (.int (Int32.ofNat 4))] [(.int (1 : Int32)), (.ref a), (.int (1 : Int32)), (.ref a2), (.ref a2), (.ref a1), (.ref a1)])) rfl rfl (hb hby dst_121) ?_
    show Go p e below _ T3 (mkF m 122 #[.val (.ref a), .val (.int (Int32.ofNat 4))] [(.int c1), (.int (1 : Int32)), (.ref a2), (.ref a2), (.ref a1), (.ref a1)])
    refine Go.castore X3 hx hZ e3 A3 (i := 1) rfl (by simp) (g := (mkF m 122 #[.val (.ref a), .val (.int (Int32.ofNat 4))] [(.int c1), (.int (1 : Int32)), (.ref a2), (.ref a2), (.ref a1), (.ref a1)])) rfl rfl (hb hby dst_122) ?_
    rintro T4 h4 X4 e4 W4 A4
    have sW4 := W4.size
    show Go p e below _ T4 (mkF m 123 #[.val (.ref a), .val (.int (Int32.ofNat 4))] [(.ref a2), (.ref a1), (.ref a1)])
    have A_a4 := A_a3.other W4 na
    refine Go.st (fun _ k => XS.dup X4.here hx rfl (hb hby dst_123) rfl rfl k) ?_
    show Go p e below _ T4 (mkF m 124 #[.val (.ref a), .val (.int (Int32.ofNat 4))] [(.ref a2), (.ref a2), (.ref a1), (.ref a1)])
    refine Go.st (fun _ k => XS.iconst X4.here hx rfl (hb hby dst_124) k) ?_
    show Go p e below _ T4 (mkF m 125 #[.val (.ref a), .val (.int (Int32.ofNat 4))] [(.int (2 : Int32)), (.ref a2), (.ref a2), (.ref a1), (.ref a1)])
    refine Go.st (fun _ k => XS.aloadN X4.here hx rfl (hb hby dst_125) rfl rfl k) ?_
    show Go p e below _ T4 (mkF m 126 #[.val (.ref a), .val (.int (Int32.ofNat 4))] [(.ref a), (.int (2 : Int32)), (.ref a2), (.ref a2), (.ref a1), (.ref a1)])
    refine Go.st (fun _ k => XS.iconst X4.here hx rfl (hb hby dst_126) k) ?_
    show Go p e below _ T4 (mkF m 127 #[.val (.ref a), .val (.int (Int32.ofNat 4))] [(.int (2 : Int32)), (.ref a), (.int (2 : Int32)), (.ref a2), (.ref a2), (.ref a1), (.ref a1)])
    refine Go.caload X4 hx hZ e4 A_a4 (i := 2) (x := c2) rfl rfl (g := (mkF m 127 #[.val (.ref a), .val (.int (Int32.ofNat 4))] [(.int (2 : Int32)), (.ref a), (.int (2 : Int32)), (.ref a2), (.ref a2), (.ref a1), (.ref a1)])) rfl rfl (hb hby dst_127) ?_
    show Go p e below _ T4 (mkF m 128 #[.val (.ref a), .val (.int (Int32.ofNat 4))] [(.int c2), (.int (2 : Int32)), (.ref a2), (.ref a2), (.ref a1), (.ref a1)])
    refine Go.castore X4 hx hZ e4 A4 (i := 2) rfl (by simp) (g := (mkF m 128 #[.val (.ref a), .val (.int (Int32.ofNat 4))] [(.int c2), (.int (2 : Int32)), (.ref a2), (.ref a2), (.ref a1), (.ref a1)])) rfl rfl (hb hby dst_128) ?_
    rintro T5 h5 X5 e5 W5 A5
    have sW5 := W5.size
    show Go p e below _ T5 (mkF m 129 #[.val (.ref a), .val (.int (Int32.ofNat 4))] [(.ref a2), (.ref a1), (.ref a1)])
    have A_a5 := A_a4.other W5 na
    refine Go.st (fun _ k => XS.dup X5.here hx rfl (hb hby dst_129) rfl rfl k) ?_
    show Go p e below _ T5 (mkF m 130 #[.val (.ref a), .val (.int (Int32.ofNat 4))] [(.ref a2), (.ref a2), (.ref a1), (.ref a1)])
    refine Go.st (fun _ k => XS.iconst X5.here hx rfl (hb hby dst_130) k) ?_
    show Go p e below _ T5 (mkF m 131 #[.val (.ref a), .val (.int (Int32.ofNat 4))] [(.int (3 : Int32)), (.ref a2), (.ref a2), (.ref a1), (.ref a1)])
    refine Go.st (fun _ k => XS.aloadN X5.here hx rfl (hb hby dst_131) rfl rfl k) ?_
    show Go p e below _ T5 (mkF m 132 #[.val (.ref a), .val (.int (Int32.ofNat 4))] [(.ref a), (.int (3 : Int32)), (.ref a2), (.ref a2), (.ref a1), (.ref a1)])
    refine Go.st (fun _ k => XS.iconst X5.here hx rfl (hb hby dst_132) k) ?_
    show Go p e below _ T5 (mkF m 133 #[.val (.ref a), .val (.int (Int32.ofNat 4))] [(.int (3 : Int32)), (.ref a), (.int (3 : Int32)), (.ref a2), (.ref a2), (.ref a1), (.ref a1)])
    refine Go.caload X5 hx hZ e5 A_a5 (i := 3) (x := c3) rfl rfl (g := (mkF m 133 #[.val (.ref a), .val (.int (Int32.ofNat 4))] [(.int (3 : Int32)), (.ref a), (.int (3 : Int32)), (.ref a2), (.ref a2), (.ref a1), (.ref a1)])) rfl rfl (hb hby dst_133) ?_
    show Go p e below _ T5 (mkF m 134 #[.val (.ref a), .val (.int (Int32.ofNat 4))] [(.int c3), (.int (3 : Int32)), (.ref a2), (.ref a2), (.ref a1), (.ref a1)])
    refine Go.castore X5 hx hZ e5 A5 (i := 3) rfl (by simp) (g := (mkF m 134 #[.val (.ref a), .val (.int (Int32.ofNat 4))] [(.int c3), (.int (3 : Int32)), (.ref a2), (.ref a2), (.ref a1), (.ref a1)])) rfl rfl (hb hby dst_134) ?_
    rintro T6 h6 X6 e6 W6 A6
    have sW6 := W6.size
    show Go p e below _ T6 (mkF m 135 #[.val (.ref a), .val (.int (Int32.ofNat 4))] [(.ref a2), (.ref a1), (.ref a1)])
    have A_a6 := A_a5.other W6 na
    have n12 : a1 ≠ a2 := Nat.ne_of_lt (by omega)
    have Ac : AI Z h6 a2 .char ([c0, c1, c2, c3] : List Int32) := by
      have q : AI Z h6 a2 .char [nar .char c0, nar .char c1, nar .char c2, nar .char c3] := A6
      rwa [e_0, e_1, e_2, e_3] at q
    have hp : ∀ c ∈ ([c0, c1, c2, c3] : List Int32), ¬ c < 0 ∧ ¬ (65535 : Int32) < c := fun c hc => hbd c (List.mem_of_mem_take (i := 4) hc)
    have Ok : Old Z n0 h6 := ((((((X00.ext E1).ext E2).wr W3 (by omega)).wr W4 (by omega)).wr W5 (by omega)).wr W6 (by omega))
    have Kk : Keep h0 h6 [] := (((((((Keep.refl h0 []).ext E1).ext E2).wr W3 (Or.inr (by omega))).wr W4 (Or.inr (by omega))).wr W5 (Or.inr (by omega))).wr W6 (Or.inr (by omega)))
    have Nk := (Fr.snoc X6 (Fr.snoc X5 (Fr.snoc X4 (Fr.snoc X3 (Fr.nil n0) (by omega)) (by omega)) (by omega)) (by omega))
    refine Go.callI X6 hx (y := (⟨"java/lang/String", "<init>", "([C)V"⟩ : MethodName)) rfl hown (mvT hZ (hw _ (List.mem_of_getElem? (i := 12) rfl))) (mvT hZ (hw _ (List.mem_of_getElem? (i := 13) rfl))) (mvT hZ (hw _ (List.mem_of_getElem? (i := 14) rfl))) (by decide) (Ctr.back (W := 1) (rmI1 l Z a0 hw z Su ([c0, c1, c2, c3] : List Int32) (by simp) (by simp) hp a1 a2 _ _ h6 n0 (by omega) (by omega) Ok (((((A1.ext E2).wr W3).wr W4).wr W5).wr W6) ((((((D1 (Or.inr (hw _ (List.mem_of_getElem? (i := 37) rfl))) (ty := (.array .byte)) (by decide)).ext E2).other W3 (Or.inl n12)).other W4 (Or.inl n12)).other W5 (Or.inl n12)).other W6 (Or.inl n12)) ((((((D1 (Or.inr (hw _ (List.mem_of_getElem? (i := 35) rfl))) (ty := .byte) (by decide)).ext E2).other W3 (Or.inl n12)).other W4 (Or.inl n12)).other W5 (Or.inl n12)).other W6 (Or.inl n12)) Ac) hZ (hw _ (List.mem_of_getElem? (i := 14) rfl)) (hw _ (List.mem_of_getElem? (i := 11) rfl)) (by (try dsimp only [room_1]); (try simp only [List.length_cons, List.length_nil]); omega) (by (try dsimp only [room_1]); (try simp only [List.length_cons, List.length_nil]); omega)) e6 (g := (mkF m 135 #[.val (.ref a), .val (.int (Int32.ofNat 4))] [(.ref a2), (.ref a1), (.ref a1)])) rfl (by rw [hml]; rfl) (a := a1) (argsL := [(.ref a2)]) (rest := [(.ref a1)]) (lenOf pd_18 rfl) rfl (by show 2 * 0 + _ ≤ _; exact Nat.le_of_eq rfl) (hb hby dst_135) rfl (by (try dsimp only [room_1]); (try simp only [List.length_cons, List.length_nil]); omega) (by (try dsimp only [room_1]); (try simp only [List.length_cons, List.length_nil]); omega) ?_
    rintro _ T99 L99 X99 ⟨rfl, N99, K99, E99, G99, t, F99, B99, ht⟩
    show Go p e below _ T99 (mkF m 138 #[.val (.ref a), .val (.int (Int32.ofNat 4))] [(.ref a1)])
    have K09 : Keep h0 T99.heap [] := Kk.trans K99 (fun x q => Or.inr (by cases List.mem_singleton.mp q; omega))
    exact Go.retVW X99 hx (Bas.refl s 0) (Nat.zero_le _) hC0 (UX K09) hret hlk rfl rfl (hb hby dst_138) ⟨a1, t, rfl, Fr.app Nk N99, K09, E99, G99, F99, B99⟩ (by (try dsimp only [room_1]); (try simp only [List.length_cons, List.length_nil]); omega) (by (try dsimp only [room_1]); (try simp only [List.length_cons, List.length_nil]); omega)
  refine Go.st (fun _ k => XS.icmpYes X0.here hx rfl (pc0 := 101) (pc' := 139) rfl (hb hby dst_101) rfl (XT.ii_ne_t qn) (by decide) (by decide) k) ?_
  show Go p e below _ s₁ (mkF m 139 #[.val (.ref a), .val (.int (Int32.ofNat n))] [])
  have nn4 : n ≠ 4 := fun z => qn (by rw [z]; rfl)
  clear qn
  refine Go.st (fun _ k => XS.iloadN X0.here hx rfl (hb hby dst_139) rfl k) ?_
  show Go p e below _ s₁ (mkF m 140 #[.val (.ref a), .val (.int (Int32.ofNat n))] [(.int (Int32.ofNat n))])
  refine Go.st (fun _ k => XS.iconst X0.here hx rfl (hb hby dst_140) k) ?_
  show Go p e below _ s₁ (mkF m 141 #[.val (.ref a), .val (.int (Int32.ofNat n))] [(.int (5 : Int32)), (.int (Int32.ofNat n))])
  by_cases qn : Int32.ofNat n = (5 : Int32)
  · skip
    refine Go.st (fun _ k => XS.icmpNo X0.here hx rfl (hb hby dst_141) rfl (XT.ii_ne_f qn) k) ?_
    show Go p e below _ s₁ (mkF m 144 #[.val (.ref a), .val (.int (Int32.ofNat n))] [])
    obtain rfl : n = 5 := by have q := congrArg Int32.toInt qn; rw [own_toInt (by omega)] at q; have q2 : ((5 : Int32)).toInt = 5 := rfl; omega
    clear qn
    show Go p e below _ s₁ (mkF m 144 #[.val (.ref a), .val (.int (Int32.ofNat 5))] [])
    obtain ⟨T1, h1, X1, e1, E1, A1, D1, -, st1⟩ := newO X0 hx hZ hown (hw _ (List.mem_of_getElem? (i := 9) rfl)) (hw _ (List.mem_of_getElem? (i := 10) rfl)) (hw _ (List.mem_of_getElem? (i := 11) rfl)) e0 (g := (mkF m 144 #[.val (.ref a), .val (.int (Int32.ofNat 5))] [])) rfl (hb hby dst_144) (by (try dsimp only [room_1]); (try simp only [List.length_cons, List.length_nil]); omega) (by (try dsimp only [room_1]); (try simp only [List.length_cons, List.length_nil]); omega)
    obtain ⟨a1, g1⟩ : ∃ z, z = h0.size := ⟨_, rfl⟩
    rw [← g1] at A1 D1 st1
    have l1 : a1 < h1.size := A1.lt
    have sE1 := E1.1
    refine Go.st st1 ?_
    show Go p e below _ T1 (mkF m 147 #[.val (.ref a), .val (.int (Int32.ofNat 5))] [(.ref a1)])
    refine Go.st (fun _ k => XS.dup X1.here hx rfl (hb hby dst_147) rfl rfl k) ?_
    show Go p e below _ T1 (mkF m 148 #[.val (.ref a), .val (.int (Int32.ofNat 5))] [(.ref a1), (.ref a1)])
    refine Go.st (fun _ k => XS.iconst X1.here hx rfl (hb hby dst_148) k) ?_
    show Go p e below _ T1 (mkF m 149 #[.val (.ref a), .val (.int (Int32.ofNat 5))] [(.int (5 : Int32)), (.ref a1), (.ref a1)])
    refine Go.newarr X1 hx hZ (ty := .char) rfl rfl (hw _ (List.mem_of_getElem? (i := 0) rfl)) e1 (g := (mkF m 149 #[.val (.ref a), .val (.int (Int32.ofNat 5))] [(.int (5 : Int32)), (.ref a1), (.ref a1)])) rfl (hb hby dst_149) rfl (n := 5) rfl (by decide) (by (try dsimp only [room_1]); (try simp only [List.length_cons, List.length_nil]); omega) (by (try dsimp only [room_1]); (try simp only [List.length_cons, List.length_nil]); omega) ?_
    rintro T2 h2 X2 e2 E2 l2 A2
    obtain ⟨a2, g2⟩ : ∃ z, z = h1.size := ⟨_, rfl⟩
    rw [← g2] at A2 l2 ⊢
    have sE2 := E2.1
    show Go p e below _ T2 (mkF m 151 #[.val (.ref a), .val (.int (Int32.ofNat 5))] [(.ref a2), (.ref a1), (.ref a1)])
    refine Go.st (fun _ k => XS.dup X2.here hx rfl (hb hby dst_151) rfl rfl k) ?_
    show Go p e below _ T2 (mkF m 152 #[.val (.ref a), .val (.int (Int32.ofNat 5))] [(.ref a2), (.ref a2), (.ref a1), (.ref a1)])
    refine Go.st (fun _ k => XS.iconst X2.here hx rfl (hb hby dst_152) k) ?_
    show Go p e below _ T2 (mkF m 153 #[.val (.ref a), .val (.int (Int32.ofNat 5))] [(.int (0 : Int32)), (.ref a2), (.ref a2), (.ref a1), (.ref a1)])
    refine Go.st (fun _ k => XS.aloadN X2.here hx rfl (hb hby dst_153) rfl rfl k) ?_
    show Go p e below _ T2 (mkF m 154 #[.val (.ref a), .val (.int (Int32.ofNat 5))] [(.ref a), (.int (0 : Int32)), (.ref a2), (.ref a2), (.ref a1), (.ref a1)])
    refine Go.st (fun _ k => XS.iconst X2.here hx rfl (hb hby dst_154) k) ?_
    show Go p e below _ T2 (mkF m 155 #[.val (.ref a), .val (.int (Int32.ofNat 5))] [(.int (0 : Int32)), (.ref a), (.int (0 : Int32)), (.ref a2), (.ref a2), (.ref a1), (.ref a1)])
    have A_a := (A.ext E1).ext E2
    have na : a ≠ a2 := Nat.ne_of_lt (Nat.lt_of_lt_of_eq (A.ext E1).lt g2.symm)
    refine Go.caload X2 hx hZ e2 A_a (i := 0) (x := c0) rfl rfl (g := (mkF m 155 #[.val (.ref a), .val (.int (Int32.ofNat 5))] [(.int (0 : Int32)), (.ref a), (.int (0 : Int32)), (.ref a2), (.ref a2), (.ref a1), (.ref a1)])) rfl rfl (hb hby dst_155) ?_
    show Go p e below _ T2 (mkF m 156 #[.val (.ref a), .val (.int (Int32.ofNat 5))] [(.int c0), (.int (0 : Int32)), (.ref a2), (.ref a2), (.ref a1), (.ref a1)])
    refine Go.castore X2 hx hZ e2 A2 (i := 0) rfl (by simp) (g := (mkF m 156 #[.val (.ref a), .val (.int (Int32.ofNat 5))] [(.int c0), (.int (0 : Int32)), (.ref a2), (.ref a2), (.ref a1), (.ref a1)])) rfl rfl (hb hby dst_156) ?_
    rintro T3 h3 X3 e3 W3 A3
    have sW3 := W3.size
    show Go p e below _ T3 (mkF m 157 #[.val (.ref a), .val (.int (Int32.ofNat 5))] [(.ref a2), (.ref a1), (.ref a1)])
    have A_a3 := A_a.other W3 na
    refine Go.st (fun _ k => XS.dup X3.here hx rfl (hb hby dst_157) rfl rfl k) ?_
    show Go p e below _ T3 (mkF m 158 #[.val (.ref a), .val (.int (Int32.ofNat 5))] [(.ref a2), (.ref a2), (.ref a1), (.ref a1)])
    refine Go.st (fun _ k => XS.iconst X3.here hx rfl (hb hby dst_158) k) ?_
    show Go p e below _ T3 (mkF m 159 #[.val (.ref a), .val (.int (Int32.ofNat 5))] [(.int (1 : Int32)), (.ref a2), (.ref a2), (.ref a1), (.ref a1)])
    refine Go.st (fun _ k => XS.aloadN X3.here hx rfl (hb hby dst_159) rfl rfl k) ?_
    show Go p e below _ T3 (mkF m 160 #[.val (.ref a), .val (.int (Int32.ofNat 5))] [(.ref a), (.int (1 : Int32)), (.ref a2), (.ref a2), (.ref a1), (.ref a1)])
    refine Go.st (fun _ k => XS.iconst X3.here hx rfl (hb hby dst_160) k) ?_
    show Go p e below _ T3 (mkF m 161 #[.val (.ref a), .val (.int (Int32.ofNat 5))] [(.int (1 : Int32)), (.ref a), (.int (1 : Int32)), (.ref a2), (.ref a2), (.ref a1), (.ref a1)])
    refine Go.caload X3 hx hZ e3 A_a3 (i := 1) (x := c1) rfl rfl (g := (mkF m 161 #[.val (.ref a), .val (.int (Int32.ofNat 5))] [(.int (1 : Int32)), (.ref a), (.int (1 : Int32)), (.ref a2), (.ref a2), (.ref a1), (.ref a1)])) rfl rfl (hb hby dst_161) ?_
    show Go p e below _ T3 (mkF m 162 #[.val (.ref a), .val (.int (Int32.ofNat 5))] [(.int c1), (.int (1 : Int32)), (.ref a2), (.ref a2), (.ref a1), (.ref a1)])
    refine Go.castore X3 hx hZ e3 A3 (i := 1) rfl (by simp) (g := (mkF m 162 #[.val (.ref a), .val (.int (Int32.ofNat 5))] [(.int c1), (.int (1 : Int32)), (.ref a2), (.ref a2), (.ref a1), (.ref a1)])) rfl rfl (hb hby dst_162) ?_
    rintro T4 h4 X4 e4 W4 A4
    have sW4 := W4.size
    show Go p e below _ T4 (mkF m 163 #[.val (.ref a), .val (.int (Int32.ofNat 5))] [(.ref a2), (.ref a1), (.ref a1)])
    have A_a4 := A_a3.other W4 na
    refine Go.st (fun _ k => XS.dup X4.here hx rfl (hb hby dst_163) rfl rfl k) ?_
    show Go p e below _ T4 (mkF m 164 #[.val (.ref a), .val (.int (Int32.ofNat 5))] [(.ref a2), (.ref a2), (.ref a1), (.ref a1)])
    refine Go.st (fun _ k => XS.iconst X4.here hx rfl (hb hby dst_164) k) ?_
    show Go p e below _ T4 (mkF m 165 #[.val (.ref a), .val (.int (Int32.ofNat 5))] [(.int (2 : Int32)), (.ref a2), (.ref a2), (.ref a1), (.ref a1)])
    refine Go.st (fun _ k => XS.aloadN X4.here hx rfl (hb hby dst_165) rfl rfl k) ?_
    show Go p e below _ T4 (mkF m 166 #[.val (.ref a), .val (.int (Int32.ofNat 5))] [(.ref a), (.int (2 : Int32)), (.ref a2), (.ref a2), (.ref a1), (.ref a1)])
    refine Go.st (fun _ k => XS.iconst X4.here hx rfl (hb hby dst_166) k) ?_
    show Go p e below _ T4 (mkF m 167 #[.val (.ref a), .val (.int (Int32.ofNat 5))] [(.int (2 : Int32)), (.ref a), (.int (2 : Int32)), (.ref a2), (.ref a2), (.ref a1), (.ref a1)])
    refine Go.caload X4 hx hZ e4 A_a4 (i := 2) (x := c2) rfl rfl (g := (mkF m 167 #[.val (.ref a), .val (.int (Int32.ofNat 5))] [(.int (2 : Int32)), (.ref a), (.int (2 : Int32)), (.ref a2), (.ref a2), (.ref a1), (.ref a1)])) rfl rfl (hb hby dst_167) ?_
    show Go p e below _ T4 (mkF m 168 #[.val (.ref a), .val (.int (Int32.ofNat 5))] [(.int c2), (.int (2 : Int32)), (.ref a2), (.ref a2), (.ref a1), (.ref a1)])
    refine Go.castore X4 hx hZ e4 A4 (i := 2) rfl (by simp) (g := (mkF m 168 #[.val (.ref a), .val (.int (Int32.ofNat 5))] [(.int c2), (.int (2 : Int32)), (.ref a2), (.ref a2), (.ref a1), (.ref a1)])) rfl rfl (hb hby dst_168) ?_
    rintro T5 h5 X5 e5 W5 A5
    have sW5 := W5.size
    show Go p e below _ T5 (mkF m 169 #[.val (.ref a), .val (.int (Int32.ofNat 5))] [(.ref a2), (.ref a1), (.ref a1)])
    have A_a5 := A_a4.other W5 na
    refine Go.st (fun _ k => XS.dup X5.here hx rfl (hb hby dst_169) rfl rfl k) ?_
    show Go p e below _ T5 (mkF m 170 #[.val (.ref a), .val (.int (Int32.ofNat 5))] [(.ref a2), (.ref a2), (.ref a1), (.ref a1)])
    refine Go.st (fun _ k => XS.iconst X5.here hx rfl (hb hby dst_170) k) ?_
    show Go p e below _ T5 (mkF m 171 #[.val (.ref a), .val (.int (Int32.ofNat 5))] [(.int (3 : Int32)), (.ref a2), (.ref a2), (.ref a1), (.ref a1)])
    refine Go.st (fun _ k => XS.aloadN X5.here hx rfl (hb hby dst_171) rfl rfl k) ?_
    show Go p e below _ T5 (mkF m 172 #[.val (.ref a), .val (.int (Int32.ofNat 5))] [(.ref a), (.int (3 : Int32)), (.ref a2), (.ref a2), (.ref a1), (.ref a1)])
    refine Go.st (fun _ k => XS.iconst X5.here hx rfl (hb hby dst_172) k) ?_
    show Go p e below _ T5 (mkF m 173 #[.val (.ref a), .val (.int (Int32.ofNat 5))] [(.int (3 : Int32)), (.ref a), (.int (3 : Int32)), (.ref a2), (.ref a2), (.ref a1), (.ref a1)])
    refine Go.caload X5 hx hZ e5 A_a5 (i := 3) (x := c3) rfl rfl (g := (mkF m 173 #[.val (.ref a), .val (.int (Int32.ofNat 5))] [(.int (3 : Int32)), (.ref a), (.int (3 : Int32)), (.ref a2), (.ref a2), (.ref a1), (.ref a1)])) rfl rfl (hb hby dst_173) ?_
    show Go p e below _ T5 (mkF m 174 #[.val (.ref a), .val (.int (Int32.ofNat 5))] [(.int c3), (.int (3 : Int32)), (.ref a2), (.ref a2), (.ref a1), (.ref a1)])
    refine Go.castore X5 hx hZ e5 A5 (i := 3) rfl (by simp) (g := (mkF m 174 #[.val (.ref a), .val (.int (Int32.ofNat 5))] [(.int c3), (.int (3 : Int32)), (.ref a2), (.ref a2), (.ref a1), (.ref a1)])) rfl rfl (hb hby dst_174) ?_
    rintro T6 h6 X6 e6 W6 A6
    have sW6 := W6.size
    show Go p e below _ T6 (mkF m 175 #[.val (.ref a), .val (.int (Int32.ofNat 5))] [(.ref a2), (.ref a1), (.ref a1)])
    have A_a6 := A_a5.other W6 na
    refine Go.st (fun _ k => XS.dup X6.here hx rfl (hb hby dst_175) rfl rfl k) ?_
    show Go p e below _ T6 (mkF m 176 #[.val (.ref a), .val (.int (Int32.ofNat 5))] [(.ref a2), (.ref a2), (.ref a1), (.ref a1)])
    refine Go.st (fun _ k => XS.iconst X6.here hx rfl (hb hby dst_176) k) ?_
    show Go p e below _ T6 (mkF m 177 #[.val (.ref a), .val (.int (Int32.ofNat 5))] [(.int (4 : Int32)), (.ref a2), (.ref a2), (.ref a1), (.ref a1)])
    refine Go.st (fun _ k => XS.aloadN X6.here hx rfl (hb hby dst_177) rfl rfl k) ?_
    show Go p e below _ T6 (mkF m 178 #[.val (.ref a), .val (.int (Int32.ofNat 5))] [(.ref a), (.int (4 : Int32)), (.ref a2), (.ref a2), (.ref a1), (.ref a1)])
    refine Go.st (fun _ k => XS.iconst X6.here hx rfl (hb hby dst_178) k) ?_
    show Go p e below _ T6 (mkF m 179 #[.val (.ref a), .val (.int (Int32.ofNat 5))] [(.int (4 : Int32)), (.ref a), (.int (4 : Int32)), (.ref a2), (.ref a2), (.ref a1), (.ref a1)])
    refine Go.caload X6 hx hZ e6 A_a6 (i := 4) (x := c4) rfl rfl (g := (mkF m 179 #[.val (.ref a), .val (.int (Int32.ofNat 5))] [(.int (4 : Int32)), (.ref a), (.int (4 : Int32)), (.ref a2), (.ref a2), (.ref a1), (.ref a1)])) rfl rfl (hb hby dst_179) ?_
    show Go p e below _ T6 (mkF m 180 #[.val (.ref a), .val (.int (Int32.ofNat 5))] [(.int c4), (.int (4 : Int32)), (.ref a2), (.ref a2), (.ref a1), (.ref a1)])
    refine Go.castore X6 hx hZ e6 A6 (i := 4) rfl (by simp) (g := (mkF m 180 #[.val (.ref a), .val (.int (Int32.ofNat 5))] [(.int c4), (.int (4 : Int32)), (.ref a2), (.ref a2), (.ref a1), (.ref a1)])) rfl rfl (hb hby dst_180) ?_
    rintro T7 h7 X7 e7 W7 A7
    have sW7 := W7.size
    show Go p e below _ T7 (mkF m 181 #[.val (.ref a), .val (.int (Int32.ofNat 5))] [(.ref a2), (.ref a1), (.ref a1)])
    have A_a7 := A_a6.other W7 na
    have n12 : a1 ≠ a2 := Nat.ne_of_lt (by omega)
    have Ac : AI Z h7 a2 .char ([c0, c1, c2, c3, c4] : List Int32) := by
      have q : AI Z h7 a2 .char [nar .char c0, nar .char c1, nar .char c2, nar .char c3, nar .char c4] := A7
      rwa [e_0, e_1, e_2, e_3, e_4] at q
    have hp : ∀ c ∈ ([c0, c1, c2, c3, c4] : List Int32), ¬ c < 0 ∧ ¬ (65535 : Int32) < c := fun c hc => hbd c (List.mem_of_mem_take (i := 5) hc)
    have Ok : Old Z n0 h7 := (((((((X00.ext E1).ext E2).wr W3 (by omega)).wr W4 (by omega)).wr W5 (by omega)).wr W6 (by omega)).wr W7 (by omega))
    have Kk : Keep h0 h7 [] := ((((((((Keep.refl h0 []).ext E1).ext E2).wr W3 (Or.inr (by omega))).wr W4 (Or.inr (by omega))).wr W5 (Or.inr (by omega))).wr W6 (Or.inr (by omega))).wr W7 (Or.inr (by omega)))
    have Nk := (Fr.snoc X7 (Fr.snoc X6 (Fr.snoc X5 (Fr.snoc X4 (Fr.snoc X3 (Fr.nil n0) (by omega)) (by omega)) (by omega)) (by omega)) (by omega))
    refine Go.callI X7 hx (y := (⟨"java/lang/String", "<init>", "([C)V"⟩ : MethodName)) rfl hown (mvT hZ (hw _ (List.mem_of_getElem? (i := 12) rfl))) (mvT hZ (hw _ (List.mem_of_getElem? (i := 13) rfl))) (mvT hZ (hw _ (List.mem_of_getElem? (i := 14) rfl))) (by decide) (Ctr.back (W := 1) (rmI1 l Z a0 hw z Su ([c0, c1, c2, c3, c4] : List Int32) (by simp) (by simp) hp a1 a2 _ _ h7 n0 (by omega) (by omega) Ok ((((((A1.ext E2).wr W3).wr W4).wr W5).wr W6).wr W7) (((((((D1 (Or.inr (hw _ (List.mem_of_getElem? (i := 37) rfl))) (ty := (.array .byte)) (by decide)).ext E2).other W3 (Or.inl n12)).other W4 (Or.inl n12)).other W5 (Or.inl n12)).other W6 (Or.inl n12)).other W7 (Or.inl n12)) (((((((D1 (Or.inr (hw _ (List.mem_of_getElem? (i := 35) rfl))) (ty := .byte) (by decide)).ext E2).other W3 (Or.inl n12)).other W4 (Or.inl n12)).other W5 (Or.inl n12)).other W6 (Or.inl n12)).other W7 (Or.inl n12)) Ac) hZ (hw _ (List.mem_of_getElem? (i := 14) rfl)) (hw _ (List.mem_of_getElem? (i := 11) rfl)) (by (try dsimp only [room_1]); (try simp only [List.length_cons, List.length_nil]); omega) (by (try dsimp only [room_1]); (try simp only [List.length_cons, List.length_nil]); omega)) e7 (g := (mkF m 181 #[.val (.ref a), .val (.int (Int32.ofNat 5))] [(.ref a2), (.ref a1), (.ref a1)])) rfl (by rw [hml]; rfl) (a := a1) (argsL := [(.ref a2)]) (rest := [(.ref a1)]) (lenOf pd_18 rfl) rfl (by show 2 * 0 + _ ≤ _; exact Nat.le_of_eq rfl) (hb hby dst_181) rfl (by (try dsimp only [room_1]); (try simp only [List.length_cons, List.length_nil]); omega) (by (try dsimp only [room_1]); (try simp only [List.length_cons, List.length_nil]); omega) ?_
    rintro _ T99 L99 X99 ⟨rfl, N99, K99, E99, G99, t, F99, B99, ht⟩
    show Go p e below _ T99 (mkF m 184 #[.val (.ref a), .val (.int (Int32.ofNat 5))] [(.ref a1)])
    have K09 : Keep h0 T99.heap [] := Kk.trans K99 (fun x q => Or.inr (by cases List.mem_singleton.mp q; omega))
    exact Go.retVW X99 hx (Bas.refl s 0) (Nat.zero_le _) hC0 (UX K09) hret hlk rfl rfl (hb hby dst_184) ⟨a1, t, rfl, Fr.app Nk N99, K09, E99, G99, F99, B99⟩ (by (try dsimp only [room_1]); (try simp only [List.length_cons, List.length_nil]); omega) (by (try dsimp only [room_1]); (try simp only [List.length_cons, List.length_nil]); omega)
  refine Go.st (fun _ k => XS.icmpYes X0.here hx rfl (pc0 := 141) (pc' := 185) rfl (hb hby dst_141) rfl (XT.ii_ne_t qn) (by decide) (by decide) k) ?_
  show Go p e below _ s₁ (mkF m 185 #[.val (.ref a), .val (.int (Int32.ofNat n))] [])
  have nn5 : n ≠ 5 := fun z => qn (by rw [z]; rfl)
  clear qn
  refine Go.st (fun _ k => XS.iloadN X0.here hx rfl (hb hby dst_185) rfl k) ?_
  show Go p e below _ s₁ (mkF m 186 #[.val (.ref a), .val (.int (Int32.ofNat n))] [(.int (Int32.ofNat n))])
  refine Go.st (fun _ k => XS.bipush X0.here hx rfl (hb hby dst_186) k) ?_
  show Go p e below _ s₁ (mkF m 188 #[.val (.ref a), .val (.int (Int32.ofNat n))] [(.int (6 : Int32)), (.int (Int32.ofNat n))])
  by_cases qn : Int32.ofNat n = (6 : Int32)
  · skip
    refine Go.st (fun _ k => XS.icmpNo X0.here hx rfl (hb hby dst_188) rfl (XT.ii_ne_f qn) k) ?_
    show Go p e below _ s₁ (mkF m 191 #[.val (.ref a), .val (.int (Int32.ofNat n))] [])
    obtain rfl : n = 6 := by have q := congrArg Int32.toInt qn; rw [own_toInt (by omega)] at q; have q2 : ((6 : Int32)).toInt = 6 := rfl; omega
    clear qn
    show Go p e below _ s₁ (mkF m 191 #[.val (.ref a), .val (.int (Int32.ofNat 6))] [])
    obtain ⟨T1, h1, X1, e1, E1, A1, D1, -, st1⟩ := newO X0 hx hZ hown (hw _ (List.mem_of_getElem? (i := 9) rfl)) (hw _ (List.mem_of_getElem? (i := 10) rfl)) (hw _ (List.mem_of_getElem? (i := 11) rfl)) e0 (g := (mkF m 191 #[.val (.ref a), .val (.int (Int32.ofNat 6))] [])) rfl (hb hby dst_191) (by (try dsimp only [room_1]); (try simp only [List.length_cons, List.length_nil]); omega) (by (try dsimp only [room_1]); (try simp only [List.length_cons, List.length_nil]); omega)
    obtain ⟨a1, g1⟩ : ∃ z, z = h0.size := ⟨_, rfl⟩
    rw [← g1] at A1 D1 st1
    have l1 : a1 < h1.size := A1.lt
    have sE1 := E1.1
    refine Go.st st1 ?_
    show Go p e below _ T1 (mkF m 194 #[.val (.ref a), .val (.int (Int32.ofNat 6))] [(.ref a1)])
    refine Go.st (fun _ k => XS.dup X1.here hx rfl (hb hby dst_194) rfl rfl k) ?_
    show Go p e below _ T1 (mkF m 195 #[.val (.ref a), .val (.int (Int32.ofNat 6))] [(.ref a1), (.ref a1)])
    refine Go.st (fun _ k => XS.bipush X1.here hx rfl (hb hby dst_195) k) ?_
    show Go p e below _ T1 (mkF m 197 #[.val (.ref a), .val (.int (Int32.ofNat 6))] [(.int (6 : Int32)), (.ref a1), (.ref a1)])
    refine Go.newarr X1 hx hZ (ty := .char) rfl rfl (hw _ (List.mem_of_getElem? (i := 0) rfl)) e1 (g := (mkF m 197 #[.val (.ref a), .val (.int (Int32.ofNat 6))] [(.int (6 : Int32)), (.ref a1), (.ref a1)])) rfl (hb hby dst_197) rfl (n := 6) rfl (by decide) (by (try dsimp only [room_1]); (try simp only [List.length_cons, List.length_nil]); omega) (by (try dsimp only [room_1]); (try simp only [List.length_cons, List.length_nil]); omega) ?_
    rintro T2 h2 X2 e2 E2 l2 A2
    obtain ⟨a2, g2⟩ : ∃ z, z = h1.size := ⟨_, rfl⟩
    rw [← g2] at A2 l2 ⊢
    have sE2 := E2.1
    show Go p e below _ T2 (mkF m 199 #[.val (.ref a), .val (.int (Int32.ofNat 6))] [(.ref a2), (.ref a1), (.ref a1)])
    refine Go.st (fun _ k => XS.dup X2.here hx rfl (hb hby dst_199) rfl rfl k) ?_
    show Go p e below _ T2 (mkF m 200 #[.val (.ref a), .val (.int (Int32.ofNat 6))] [(.ref a2), (.ref a2), (.ref a1), (.ref a1)])
    refine Go.st (fun _ k => XS.iconst X2.here hx rfl (hb hby dst_200) k) ?_
    show Go p e below _ T2 (mkF m 201 #[.val (.ref a), .val (.int (Int32.ofNat 6))] [(.int (0 : Int32)), (.ref a2), (.ref a2), (.ref a1), (.ref a1)])
    refine Go.st (fun _ k => XS.aloadN X2.here hx rfl (hb hby dst_201) rfl rfl k) ?_
    show Go p e below _ T2 (mkF m 202 #[.val (.ref a), .val (.int (Int32.ofNat 6))] [(.ref a), (.int (0 : Int32)), (.ref a2), (.ref a2), (.ref a1), (.ref a1)])
    refine Go.st (fun _ k => XS.iconst X2.here hx rfl (hb hby dst_202) k) ?_
    show Go p e below _ T2 (mkF m 203 #[.val (.ref a), .val (.int (Int32.ofNat 6))] [(.int (0 : Int32)), (.ref a), (.int (0 : Int32)), (.ref a2), (.ref a2), (.ref a1), (.ref a1)])
    have A_a := (A.ext E1).ext E2
    have na : a ≠ a2 := Nat.ne_of_lt (Nat.lt_of_lt_of_eq (A.ext E1).lt g2.symm)
    refine Go.caload X2 hx hZ e2 A_a (i := 0) (x := c0) rfl rfl (g := (mkF m 203 #[.val (.ref a), .val (.int (Int32.ofNat 6))] [(.int (0 : Int32)), (.ref a), (.int (0 : Int32)), (.ref a2), (.ref a2), (.ref a1), (.ref a1)])) rfl rfl (hb hby dst_203) ?_
    show Go p e below _ T2 (mkF m 204 #[.val (.ref a), .val (.int (Int32.ofNat 6))] [(.int c0), (.int (0 : Int32)), (.ref a2), (.ref a2), (.ref a1), (.ref a1)])
    refine Go.castore X2 hx hZ e2 A2 (i := 0) rfl (by simp) (g := (mkF m 204 #[.val (.ref a), .val (.int (Int32.ofNat 6))] [(.int c0), (.int (0 : Int32)), (.ref a2), (.ref a2), (.ref a1), (.ref a1)])) rfl rfl (hb hby dst_204) ?_
    rintro T3 h3 X3 e3 W3 A3
    have sW3 := W3.size
    show Go p e below _ T3 (mkF m 205 #[.val (.ref a), .val (.int (Int32.ofNat 6))] [(.ref a2), (.ref a1), (.ref a1)])
    have A_a3 := A_a.other W3 na
    refine Go.st (fun _ k => XS.dup X3.here hx rfl (hb hby dst_205) rfl rfl k) ?_
    show Go p e below _ T3 (mkF m 206 #[.val (.ref a), .val (.int (Int32.ofNat 6))] [(.ref a2), (.ref a2), (.ref a1), (.ref a1)])
    refine Go.st (fun _ k => XS.iconst X3.here hx rfl (hb hby dst_206) k) ?_
    show Go p e below _ T3 (mkF m 207 #[.val (.ref a), .val (.int (Int32.ofNat 6))] [(.int (1 : Int32)), (.ref a2), (.ref a2), (.ref a1), (.ref a1)])
    refine Go.st (fun _ k => XS.aloadN X3.here hx rfl (hb hby dst_207) rfl rfl k) ?_
    show Go p e below _ T3 (mkF m 208 #[.val (.ref a), .val (.int (Int32.ofNat 6))] [(.ref a), (.int (1 : Int32)), (.ref a2), (.ref a2), (.ref a1), (.ref a1)])
    refine Go.st (fun _ k => XS.iconst X3.here hx rfl (hb hby dst_208) k) ?_
    show Go p e below _ T3 (mkF m 209 #[.val (.ref a), .val (.int (Int32.ofNat 6))] [(.int (1 : Int32)), (.ref a), (.int (1 : Int32)), (.ref a2), (.ref a2), (.ref a1), (.ref a1)])
    refine Go.caload X3 hx hZ e3 A_a3 (i := 1) (x := c1) rfl rfl (g := (mkF m 209 #[.val (.ref a), .val (.int (Int32.ofNat 6))] [(.int (1 : Int32)), (.ref a), (.int (1 : Int32)), (.ref a2), (.ref a2), (.ref a1), (.ref a1)])) rfl rfl (hb hby dst_209) ?_
    show Go p e below _ T3 (mkF m 210 #[.val (.ref a), .val (.int (Int32.ofNat 6))] [(.int c1), (.int (1 : Int32)), (.ref a2), (.ref a2), (.ref a1), (.ref a1)])
    refine Go.castore X3 hx hZ e3 A3 (i := 1) rfl (by simp) (g := (mkF m 210 #[.val (.ref a), .val (.int (Int32.ofNat 6))] [(.int c1), (.int (1 : Int32)), (.ref a2), (.ref a2), (.ref a1), (.ref a1)])) rfl rfl (hb hby dst_210) ?_
    rintro T4 h4 X4 e4 W4 A4
    have sW4 := W4.size
    show Go p e below _ T4 (mkF m 211 #[.val (.ref a), .val (.int (Int32.ofNat 6))] [(.ref a2), (.ref a1), (.ref a1)])
    have A_a4 := A_a3.other W4 na
    refine Go.st (fun _ k => XS.dup X4.here hx rfl (hb hby dst_211) rfl rfl k) ?_
    show Go p e below _ T4 (mkF m 212 #[.val (.ref a), .val (.int (Int32.ofNat 6))] [(.ref a2), (.ref a2), (.ref a1), (.ref a1)])
    refine Go.st (fun _ k => XS.iconst X4.here hx rfl (hb hby dst_212) k) ?_
    show Go p e below _ T4 (mkF m 213 #[.val (.ref a), .val (.int (Int32.ofNat 6))] [(.int (2 : Int32)), (.ref a2), (.ref a2), (.ref a1), (.ref a1)])
    refine Go.st (fun _ k => XS.aloadN X4.here hx rfl (hb hby dst_213) rfl rfl k) ?_
    show Go p e below _ T4 (mkF m 214 #[.val (.ref a), .val (.int (Int32.ofNat 6))] [(.ref a), (.int (2 : Int32)), (.ref a2), (.ref a2), (.ref a1), (.ref a1)])
    refine Go.st (fun _ k => XS.iconst X4.here hx rfl (hb hby dst_214) k) ?_
    show Go p e below _ T4 (mkF m 215 #[.val (.ref a), .val (.int (Int32.ofNat 6))] [(.int (2 : Int32)), (.ref a), (.int (2 : Int32)), (.ref a2), (.ref a2), (.ref a1), (.ref a1)])
    refine Go.caload X4 hx hZ e4 A_a4 (i := 2) (x := c2) rfl rfl (g := (mkF m 215 #[.val (.ref a), .val (.int (Int32.ofNat 6))] [(.int (2 : Int32)), (.ref a), (.int (2 : Int32)), (.ref a2), (.ref a2), (.ref a1), (.ref a1)])) rfl rfl (hb hby dst_215) ?_
    show Go p e below _ T4 (mkF m 216 #[.val (.ref a), .val (.int (Int32.ofNat 6))] [(.int c2), (.int (2 : Int32)), (.ref a2), (.ref a2), (.ref a1), (.ref a1)])
    refine Go.castore X4 hx hZ e4 A4 (i := 2) rfl (by simp) (g := (mkF m 216 #[.val (.ref a), .val (.int (Int32.ofNat 6))] [(.int c2), (.int (2 : Int32)), (.ref a2), (.ref a2), (.ref a1), (.ref a1)])) rfl rfl (hb hby dst_216) ?_
    rintro T5 h5 X5 e5 W5 A5
    have sW5 := W5.size
    show Go p e below _ T5 (mkF m 217 #[.val (.ref a), .val (.int (Int32.ofNat 6))] [(.ref a2), (.ref a1), (.ref a1)])
    have A_a5 := A_a4.other W5 na
    refine Go.st (fun _ k => XS.dup X5.here hx rfl (hb hby dst_217) rfl rfl k) ?_
    show Go p e below _ T5 (mkF m 218 #[.val (.ref a), .val (.int (Int32.ofNat 6))] [(.ref a2), (.ref a2), (.ref a1), (.ref a1)])
    refine Go.st (fun _ k => XS.iconst X5.here hx rfl (hb hby dst_218) k) ?_
    show Go p e below _ T5 (mkF m 219 #[.val (.ref a), .val (.int (Int32.ofNat 6))] [(.int (3 : Int32)), (.ref a2), (.ref a2), (.ref a1), (.ref a1)])
    refine Go.st (fun _ k => XS.aloadN X5.here hx rfl (hb hby dst_219) rfl rfl k) ?_
    show Go p e below _ T5 (mkF m 220 #[.val (.ref a), .val (.int (Int32.ofNat 6))] [(.ref a), (.int (3 : Int32)), (.ref a2), (.ref a2), (.ref a1), (.ref a1)])
    refine Go.st (fun _ k => XS.iconst X5.here hx rfl (hb hby dst_220) k) ?_
    show Go p e below _ T5 (mkF m 221 #[.val (.ref a), .val (.int (Int32.ofNat 6))] [(.int (3 : Int32)), (.ref a), (.int (3 : Int32)), (.ref a2), (.ref a2), (.ref a1), (.ref a1)])
    refine Go.caload X5 hx hZ e5 A_a5 (i := 3) (x := c3) rfl rfl (g := (mkF m 221 #[.val (.ref a), .val (.int (Int32.ofNat 6))] [(.int (3 : Int32)), (.ref a), (.int (3 : Int32)), (.ref a2), (.ref a2), (.ref a1), (.ref a1)])) rfl rfl (hb hby dst_221) ?_
    show Go p e below _ T5 (mkF m 222 #[.val (.ref a), .val (.int (Int32.ofNat 6))] [(.int c3), (.int (3 : Int32)), (.ref a2), (.ref a2), (.ref a1), (.ref a1)])
    refine Go.castore X5 hx hZ e5 A5 (i := 3) rfl (by simp) (g := (mkF m 222 #[.val (.ref a), .val (.int (Int32.ofNat 6))] [(.int c3), (.int (3 : Int32)), (.ref a2), (.ref a2), (.ref a1), (.ref a1)])) rfl rfl (hb hby dst_222) ?_
    rintro T6 h6 X6 e6 W6 A6
    have sW6 := W6.size
    show Go p e below _ T6 (mkF m 223 #[.val (.ref a), .val (.int (Int32.ofNat 6))] [(.ref a2), (.ref a1), (.ref a1)])
    have A_a6 := A_a5.other W6 na
    refine Go.st (fun _ k => XS.dup X6.here hx rfl (hb hby dst_223) rfl rfl k) ?_
    show Go p e below _ T6 (mkF m 224 #[.val (.ref a), .val (.int (Int32.ofNat 6))] [(.ref a2), (.ref a2), (.ref a1), (.ref a1)])
    refine Go.st (fun _ k => XS.iconst X6.here hx rfl (hb hby dst_224) k) ?_
    show Go p e below _ T6 (mkF m 225 #[.val (.ref a), .val (.int (Int32.ofNat 6))] [(.int (4 : Int32)), (.ref a2), (.ref a2), (.ref a1), (.ref a1)])
    refine Go.st (fun _ k => XS.aloadN X6.here hx rfl (hb hby dst_225) rfl rfl k) ?_
    show Go p e below _ T6 (mkF m 226 #[.val (.ref a), .val (.int (Int32.ofNat 6))] [(.ref a), (.int (4 : Int32)), (.ref a2), (.ref a2), (.ref a1), (.ref a1)])
    refine Go.st (fun _ k => XS.iconst X6.here hx rfl (hb hby dst_226) k) ?_
    show Go p e below _ T6 (mkF m 227 #[.val (.ref a), .val (.int (Int32.ofNat 6))] [(.int (4 : Int32)), (.ref a), (.int (4 : Int32)), (.ref a2), (.ref a2), (.ref a1), (.ref a1)])
    refine Go.caload X6 hx hZ e6 A_a6 (i := 4) (x := c4) rfl rfl (g := (mkF m 227 #[.val (.ref a), .val (.int (Int32.ofNat 6))] [(.int (4 : Int32)), (.ref a), (.int (4 : Int32)), (.ref a2), (.ref a2), (.ref a1), (.ref a1)])) rfl rfl (hb hby dst_227) ?_
    show Go p e below _ T6 (mkF m 228 #[.val (.ref a), .val (.int (Int32.ofNat 6))] [(.int c4), (.int (4 : Int32)), (.ref a2), (.ref a2), (.ref a1), (.ref a1)])
    refine Go.castore X6 hx hZ e6 A6 (i := 4) rfl (by simp) (g := (mkF m 228 #[.val (.ref a), .val (.int (Int32.ofNat 6))] [(.int c4), (.int (4 : Int32)), (.ref a2), (.ref a2), (.ref a1), (.ref a1)])) rfl rfl (hb hby dst_228) ?_
    rintro T7 h7 X7 e7 W7 A7
    have sW7 := W7.size
    show Go p e below _ T7 (mkF m 229 #[.val (.ref a), .val (.int (Int32.ofNat 6))] [(.ref a2), (.ref a1), (.ref a1)])
    have A_a7 := A_a6.other W7 na
    refine Go.st (fun _ k => XS.dup X7.here hx rfl (hb hby dst_229) rfl rfl k) ?_
    show Go p e below _ T7 (mkF m 230 #[.val (.ref a), .val (.int (Int32.ofNat 6))] [(.ref a2), (.ref a2), (.ref a1), (.ref a1)])
    refine Go.st (fun _ k => XS.iconst X7.here hx rfl (hb hby dst_230) k) ?_
    show Go p e below _ T7 (mkF m 231 #[.val (.ref a), .val (.int (Int32.ofNat 6))] [(.int (5 : Int32)), (.ref a2), (.ref a2), (.ref a1), (.ref a1)])
    refine Go.st (fun _ k => XS.aloadN X7.here hx rfl (hb hby dst_231) rfl rfl k) ?_
    show Go p e below _ T7 (mkF m 232 #[.val (.ref a), .val (.int (Int32.ofNat 6))] [(.ref a), (.int (5 : Int32)), (.ref a2), (.ref a2), (.ref a1), (.ref a1)])
    refine Go.st (fun _ k => XS.iconst X7.here hx rfl (hb hby dst_232) k) ?_
    show Go p e below _ T7 (mkF m 233 #[.val (.ref a), .val (.int (Int32.ofNat 6))] [(.int (5 : Int32)), (.ref a), (.int (5 : Int32)), (.ref a2), (.ref a2), (.ref a1), (.ref a1)])
    refine Go.caload X7 hx hZ e7 A_a7 (i := 5) (x := c5) rfl rfl (g := (mkF m 233 #[.val (.ref a), .val (.int (Int32.ofNat 6))] [(.int (5 : Int32)), (.ref a), (.int (5 : Int32)), (.ref a2), (.ref a2), (.ref a1), (.ref a1)])) rfl rfl (hb hby dst_233) ?_
    show Go p e below _ T7 (mkF m 234 #[.val (.ref a), .val (.int (Int32.ofNat 6))] [(.int c5), (.int (5 : Int32)), (.ref a2), (.ref a2), (.ref a1), (.ref a1)])
    refine Go.castore X7 hx hZ e7 A7 (i := 5) rfl (by simp) (g := (mkF m 234 #[.val (.ref a), .val (.int (Int32.ofNat 6))] [(.int c5), (.int (5 : Int32)), (.ref a2), (.ref a2), (.ref a1), (.ref a1)])) rfl rfl (hb hby dst_234) ?_
    rintro T8 h8 X8 e8 W8 A8
    have sW8 := W8.size
    show Go p e below _ T8 (mkF m 235 #[.val (.ref a), .val (.int (Int32.ofNat 6))] [(.ref a2), (.ref a1), (.ref a1)])
    have A_a8 := A_a7.other W8 na
    have n12 : a1 ≠ a2 := Nat.ne_of_lt (by omega)
    have Ac : AI Z h8 a2 .char ([c0, c1, c2, c3, c4, c5] : List Int32) := by
      have q : AI Z h8 a2 .char [nar .char c0, nar .char c1, nar .char c2, nar .char c3, nar .char c4, nar .char c5] := A8
      rwa [e_0, e_1, e_2, e_3, e_4, e_5] at q
    have hp : ∀ c ∈ ([c0, c1, c2, c3, c4, c5] : List Int32), ¬ c < 0 ∧ ¬ (65535 : Int32) < c := fun c hc => hbd c (List.mem_of_mem_take (i := 6) hc)
    have Ok : Old Z n0 h8 := ((((((((X00.ext E1).ext E2).wr W3 (by omega)).wr W4 (by omega)).wr W5 (by omega)).wr W6 (by omega)).wr W7 (by omega)).wr W8 (by omega))
    have Kk : Keep h0 h8 [] := (((((((((Keep.refl h0 []).ext E1).ext E2).wr W3 (Or.inr (by omega))).wr W4 (Or.inr (by omega))).wr W5 (Or.inr (by omega))).wr W6 (Or.inr (by omega))).wr W7 (Or.inr (by omega))).wr W8 (Or.inr (by omega)))
    have Nk := (Fr.snoc X8 (Fr.snoc X7 (Fr.snoc X6 (Fr.snoc X5 (Fr.snoc X4 (Fr.snoc X3 (Fr.nil n0) (by omega)) (by omega)) (by omega)) (by omega)) (by omega)) (by omega))
    refine Go.callI X8 hx (y := (⟨"java/lang/String", "<init>", "([C)V"⟩ : MethodName)) rfl hown (mvT hZ (hw _ (List.mem_of_getElem? (i := 12) rfl))) (mvT hZ (hw _ (List.mem_of_getElem? (i := 13) rfl))) (mvT hZ (hw _ (List.mem_of_getElem? (i := 14) rfl))) (by decide) (Ctr.back (W := 1) (rmI1 l Z a0 hw z Su ([c0, c1, c2, c3, c4, c5] : List Int32) (by simp) (by simp) hp a1 a2 _ _ h8 n0 (by omega) (by omega) Ok (((((((A1.ext E2).wr W3).wr W4).wr W5).wr W6).wr W7).wr W8) ((((((((D1 (Or.inr (hw _ (List.mem_of_getElem? (i := 37) rfl))) (ty := (.array .byte)) (by decide)).ext E2).other W3 (Or.inl n12)).other W4 (Or.inl n12)).other W5 (Or.inl n12)).other W6 (Or.inl n12)).other W7 (Or.inl n12)).other W8 (Or.inl n12)) ((((((((D1 (Or.inr (hw _ (List.mem_of_getElem? (i := 35) rfl))) (ty := .byte) (by decide)).ext E2).other W3 (Or.inl n12)).other W4 (Or.inl n12)).other W5 (Or.inl n12)).other W6 (Or.inl n12)).other W7 (Or.inl n12)).other W8 (Or.inl n12)) Ac) hZ (hw _ (List.mem_of_getElem? (i := 14) rfl)) (hw _ (List.mem_of_getElem? (i := 11) rfl)) (by (try dsimp only [room_1]); (try simp only [List.length_cons, List.length_nil]); omega) (by (try dsimp only [room_1]); (try simp only [List.length_cons, List.length_nil]); omega)) e8 (g := (mkF m 235 #[.val (.ref a), .val (.int (Int32.ofNat 6))] [(.ref a2), (.ref a1), (.ref a1)])) rfl (by rw [hml]; rfl) (a := a1) (argsL := [(.ref a2)]) (rest := [(.ref a1)]) (lenOf pd_18 rfl) rfl (by show 2 * 0 + _ ≤ _; exact Nat.le_of_eq rfl) (hb hby dst_235) rfl (by (try dsimp only [room_1]); (try simp only [List.length_cons, List.length_nil]); omega) (by (try dsimp only [room_1]); (try simp only [List.length_cons, List.length_nil]); omega) ?_
    rintro _ T99 L99 X99 ⟨rfl, N99, K99, E99, G99, t, F99, B99, ht⟩
    show Go p e below _ T99 (mkF m 238 #[.val (.ref a), .val (.int (Int32.ofNat 6))] [(.ref a1)])
    have K09 : Keep h0 T99.heap [] := Kk.trans K99 (fun x q => Or.inr (by cases List.mem_singleton.mp q; omega))
    exact Go.retVW X99 hx (Bas.refl s 0) (Nat.zero_le _) hC0 (UX K09) hret hlk rfl rfl (hb hby dst_238) ⟨a1, t, rfl, Fr.app Nk N99, K09, E99, G99, F99, B99⟩ (by (try dsimp only [room_1]); (try simp only [List.length_cons, List.length_nil]); omega) (by (try dsimp only [room_1]); (try simp only [List.length_cons, List.length_nil]); omega)
  refine Go.st (fun _ k => XS.icmpYes X0.here hx rfl (pc0 := 188) (pc' := 239) rfl (hb hby dst_188) rfl (XT.ii_ne_t qn) (by decide) (by decide) k) ?_
  show Go p e below _ s₁ (mkF m 239 #[.val (.ref a), .val (.int (Int32.ofNat n))] [])
  have nn6 : n ≠ 6 := fun z => qn (by rw [z]; rfl)
  clear qn
  refine Go.st (fun _ k => XS.iloadN X0.here hx rfl (hb hby dst_239) rfl k) ?_
  show Go p e below _ s₁ (mkF m 240 #[.val (.ref a), .val (.int (Int32.ofNat n))] [(.int (Int32.ofNat n))])
  refine Go.st (fun _ k => XS.bipush X0.here hx rfl (hb hby dst_240) k) ?_
  show Go p e below _ s₁ (mkF m 242 #[.val (.ref a), .val (.int (Int32.ofNat n))] [(.int (7 : Int32)), (.int (Int32.ofNat n))])
  by_cases qn : Int32.ofNat n = (7 : Int32)
  · skip
    refine Go.st (fun _ k => XS.icmpNo X0.here hx rfl (hb hby dst_242) rfl (XT.ii_ne_f qn) k) ?_
    show Go p e below _ s₁ (mkF m 245 #[.val (.ref a), .val (.int (Int32.ofNat n))] [])
    obtain rfl : n = 7 := by have q := congrArg Int32.toInt qn; rw [own_toInt (by omega)] at q; have q2 : ((7 : Int32)).toInt = 7 := rfl; omega
    clear qn
    show Go p e below _ s₁ (mkF m 245 #[.val (.ref a), .val (.int (Int32.ofNat 7))] [])
    obtain ⟨T1, h1, X1, e1, E1, A1, D1, -, st1⟩ := newO X0 hx hZ hown (hw _ (List.mem_of_getElem? (i := 9) rfl)) (hw _ (List.mem_of_getElem? (i := 10) rfl)) (hw _ (List.mem_of_getElem? (i := 11) rfl)) e0 (g := (mkF m 245 #[.val (.ref a), .val (.int (Int32.ofNat 7))] [])) rfl (hb hby dst_245) (by (try dsimp only [room_1]); (try simp only [List.length_cons, List.length_nil]); omega) (by (try dsimp only [room_1]); (try simp only [List.length_cons, List.length_nil]); omega)
    obtain ⟨a1, g1⟩ : ∃ z, z = h0.size := ⟨_, rfl⟩
    rw [← g1] at A1 D1 st1
    have l1 : a1 < h1.size := A1.lt
    have sE1 := E1.1
    refine Go.st st1 ?_
    show Go p e below _ T1 (mkF m 248 #[.val (.ref a), .val (.int (Int32.ofNat 7))] [(.ref a1)])
    refine Go.st (fun _ k => XS.dup X1.here hx rfl (hb hby dst_248) rfl rfl k) ?_
    show Go p e below _ T1 (mkF m 249 #[.val (.ref a), .val (.int (Int32.ofNat 7))] [(.ref a1), (.ref a1)])
    refine Go.st (fun _ k => XS.bipush X1.here hx rfl (hb hby dst_249) k) ?_
    show Go p e below _ T1 (mkF m 251 #[.val (.ref a), .val (.int (Int32.ofNat 7))] [(.int (7 : Int32)), (.ref a1), (.ref a1)])
    refine Go.newarr X1 hx hZ (ty := .char) rfl rfl (hw _ (List.mem_of_getElem? (i := 0) rfl)) e1 (g := (mkF m 251 #[.val (.ref a), .val (.int (Int32.ofNat 7))] [(.int (7 : Int32)), (.ref a1), (.ref a1)])) rfl (hb hby dst_251) rfl (n := 7) rfl (by decide) (by (try dsimp only [room_1]); (try simp only [List.length_cons, List.length_nil]); omega) (by (try dsimp only [room_1]); (try simp only [List.length_cons, List.length_nil]); omega) ?_
    rintro T2 h2 X2 e2 E2 l2 A2
    obtain ⟨a2, g2⟩ : ∃ z, z = h1.size := ⟨_, rfl⟩
    rw [← g2] at A2 l2 ⊢
    have sE2 := E2.1
    show Go p e below _ T2 (mkF m 253 #[.val (.ref a), .val (.int (Int32.ofNat 7))] [(.ref a2), (.ref a1), (.ref a1)])
    refine Go.st (fun _ k => XS.dup X2.here hx rfl (hb hby dst_253) rfl rfl k) ?_
    show Go p e below _ T2 (mkF m 254 #[.val (.ref a), .val (.int (Int32.ofNat 7))] [(.ref a2), (.ref a2), (.ref a1), (.ref a1)])
    refine Go.st (fun _ k => XS.iconst X2.here hx rfl (hb hby dst_254) k) ?_
    show Go p e below _ T2 (mkF m 255 #[.val (.ref a), .val (.int (Int32.ofNat 7))] [(.int (0 : Int32)), (.ref a2), (.ref a2), (.ref a1), (.ref a1)])
    refine Go.st (fun _ k => XS.aloadN X2.here hx rfl (hb hby dst_255) rfl rfl k) ?_
    show Go p e below _ T2 (mkF m 256 #[.val (.ref a), .val (.int (Int32.ofNat 7))] [(.ref a), (.int (0 : Int32)), (.ref a2), (.ref a2), (.ref a1), (.ref a1)])
    refine Go.st (fun _ k => XS.iconst X2.here hx rfl (hb hby dst_256) k) ?_
    show Go p e below _ T2 (mkF m 257 #[.val (.ref a), .val (.int (Int32.ofNat 7))] [(.int (0 : Int32)), (.ref a), (.int (0 : Int32)), (.ref a2), (.ref a2), (.ref a1), (.ref a1)])
    have A_a := (A.ext E1).ext E2
    have na : a ≠ a2 := Nat.ne_of_lt (Nat.lt_of_lt_of_eq (A.ext E1).lt g2.symm)
    refine Go.caload X2 hx hZ e2 A_a (i := 0) (x := c0) rfl rfl (g := (mkF m 257 #[.val (.ref a), .val (.int (Int32.ofNat 7))] [(.int (0 : Int32)), (.ref a), (.int (0 : Int32)), (.ref a2), (.ref a2), (.ref a1), (.ref a1)])) rfl rfl (hb hby dst_257) ?_
    show Go p e below _ T2 (mkF m 258 #[.val (.ref a), .val (.int (Int32.ofNat 7))] [(.int c0), (.int (0 : Int32)), (.ref a2), (.ref a2), (.ref a1), (.ref a1)])
    refine Go.castore X2 hx hZ e2 A2 (i := 0) rfl (by simp) (g := (mkF m 258 #[.val (.ref a), .val (.int (Int32.ofNat 7))] [(.int c0), (.int (0 : Int32)), (.ref a2), (.ref a2), (.ref a1), (.ref a1)])) rfl rfl (hb hby dst_258) ?_
    rintro T3 h3 X3 e3 W3 A3
    have sW3 := W3.size
    show Go p e below _ T3 (mkF m 259 #[.val (.ref a), .val (.int (Int32.ofNat 7))] [(.ref a2), (.ref a1), (.ref a1)])
    have A_a3 := A_a.other W3 na
    refine Go.st (fun _ k => XS.dup X3.here hx rfl (hb hby dst_259) rfl rfl k) ?_
    show Go p e below _ T3 (mkF m 260 #[.val (.ref a), .val (.int (Int32.ofNat 7))] [(.ref a2), (.ref a2), (.ref a1), (.ref a1)])
    refine Go.st (fun _ k => XS.iconst X3.here hx rfl (hb hby dst_260) k) ?_
    show Go p e below _ T3 (mkF m 261 #[.val (.ref a), .val (.int (Int32.ofNat 7))] [(.int (1 : Int32)), (.ref a2), (.ref a2), (.ref a1), (.ref a1)])
    refine Go.st (fun _ k => XS.aloadN X3.here hx rfl (hb hby dst_261) rfl rfl k) ?_
    show Go p e below _ T3 (mkF m 262 #[.val (.ref a), .val (.int (Int32.ofNat 7))] [(.ref a), (.int (1 : Int32)), (.ref a2), (.ref a2), (.ref a1), (.ref a1)])
    refine Go.st (fun _ k => XS.iconst X3.here hx rfl (hb hby dst_262) k) ?_
    show Go p e below _ T3 (mkF m 263 #[.val (.ref a), .val (.int (Int32.ofNat 7))] [(.int (1 : Int32)), (.ref a), (.int (1 : Int32)), (.ref a2), (.ref a2), (.ref a1), (.ref a1)])
    refine Go.caload X3 hx hZ e3 A_a3 (i := 1) (x := c1) rfl rfl (g := (mkF m 263 #[.val (.ref a), .val (.int (Int32.ofNat 7))] [(.int (1 : Int32)), (.ref a), (.int (1 : Int32)), (.ref a2), (.ref a2), (.ref a1), (.ref a1)])) rfl rfl (hb hby dst_263) ?_
    show Go p e below _ T3 (mkF m 264 #[.val (.ref a), .val (.int (Int32.ofNat 7))] [(.int c1), (.int (1 : Int32)), (.ref a2), (.ref a2), (.ref a1), (.ref a1)])
    refine Go.castore X3 hx hZ e3 A3 (i := 1) rfl (by simp) (g := (mkF m 264 #[.val (.ref a), .val (.int (Int32.ofNat 7))] [(.int c1), (.int (1 : Int32)), (.ref a2), (.ref a2), (.ref a1), (.ref a1)])) rfl rfl (hb hby dst_264) ?_
    rintro T4 h4 X4 e4 W4 A4
    have sW4 := W4.size
    show Go p e below _ T4 (mkF m 265 #[.val (.ref a), .val (.int (Int32.ofNat 7))] [(.ref a2), (.ref a1), (.ref a1)])
    have A_a4 := A_a3.other W4 na
    refine Go.st (fun _ k => XS.dup X4.here hx rfl (hb hby dst_265) rfl rfl k) ?_
    show Go p e below _ T4 (mkF m 266 #[.val (.ref a), .val (.int (Int32.ofNat 7))] [(.ref a2), (.ref a2), (.ref a1), (.ref a1)])
    refine Go.st (fun _ k => XS.iconst X4.here hx rfl (hb hby dst_266) k) ?_
    show Go p e below _ T4 (mkF m 267 #[.val (.ref a), .val (.int (Int32.ofNat 7))] [(.int (2 : Int32)), (.ref a2), (.ref a2), (.ref a1), (.ref a1)])
    refine Go.st (fun _ k => XS.aloadN X4.here hx rfl (hb hby dst_267) rfl rfl k) ?_
    show Go p e below _ T4 (mkF m 268 #[.val (.ref a), .val (.int (Int32.ofNat 7))] [(.ref a), (.int (2 : Int32)), (.ref a2), (.ref a2), (.ref a1), (.ref a1)])
    refine Go.st (fun _ k => XS.iconst X4.here hx rfl (hb hby dst_268) k) ?_
    show Go p e below _ T4 (mkF m 269 #[.val (.ref a), .val (.int (Int32.ofNat 7))] [(.int (2 : Int32)), (.ref a), (.int (2 : Int32)), (.ref a2), (.ref a2), (.ref a1), (.ref a1)])
    refine Go.caload X4 hx hZ e4 A_a4 (i := 2) (x := c2) rfl rfl (g := (mkF m 269 #[.val (.ref a), .val (.int (Int32.ofNat 7))] [(.int (2 : Int32)), (.ref a), (.int (2 : Int32)), (.ref a2), (.ref a2), (.ref a1), (.ref a1)])) rfl rfl (hb hby dst_269) ?_
    show Go p e below _ T4 (mkF m 270 #[.val (.ref a), .val (.int (Int32.ofNat 7))] [(.int c2), (.int (2 : Int32)), (.ref a2), (.ref a2), (.ref a1), (.ref a1)])
    refine Go.castore X4 hx hZ e4 A4 (i := 2) rfl (by simp) (g := (mkF m 270 #[.val (.ref a), .val (.int (Int32.ofNat 7))] [(.int c2), (.int (2 : Int32)), (.ref a2), (.ref a2), (.ref a1), (.ref a1)])) rfl rfl (hb hby dst_270) ?_
    rintro T5 h5 X5 e5 W5 A5
    have sW5 := W5.size
    show Go p e below _ T5 (mkF m 271 #[.val (.ref a), .val (.int (Int32.ofNat 7))] [(.ref a2), (.ref a1), (.ref a1)])
    have A_a5 := A_a4.other W5 na
    refine Go.st (fun _ k => XS.dup X5.here hx rfl (hb hby dst_271) rfl rfl k) ?_
    show Go p e below _ T5 (mkF m 272 #[.val (.ref a), .val (.int (Int32.ofNat 7))] [(.ref a2), (.ref a2), (.ref a1), (.ref a1)])
    refine Go.st (fun _ k => XS.iconst X5.here hx rfl (hb hby dst_272) k) ?_
    show Go p e below _ T5 (mkF m 273 #[.val (.ref a), .val (.int (Int32.ofNat 7))] [(.int (3 : Int32)), (.ref a2), (.ref a2), (.ref a1), (.ref a1)])
    refine Go.st (fun _ k => XS.aloadN X5.here hx rfl (hb hby dst_273) rfl rfl k) ?_
    show Go p e below _ T5 (mkF m 274 #[.val (.ref a), .val (.int (Int32.ofNat 7))] [(.ref a), (.int (3 : Int32)), (.ref a2), (.ref a2), (.ref a1), (.ref a1)])
    refine Go.st (fun _ k => XS.iconst X5.here hx rfl (hb hby dst_274) k) ?_
    show Go p e below _ T5 (mkF m 275 #[.val (.ref a), .val (.int (Int32.ofNat 7))] [(.int (3 : Int32)), (.ref a), (.int (3 : Int32)), (.ref a2), (.ref a2), (.ref a1), (.ref a1)])
    refine Go.caload X5 hx hZ e5 A_a5 (i := 3) (x := c3) rfl rfl (g := (mkF m 275 #[.val (.ref a), .val (.int (Int32.ofNat 7))] [(.int (3 : Int32)), (.ref a), (.int (3 : Int32)), (.ref a2), (.ref a2), (.ref a1), (.ref a1)])) rfl rfl (hb hby dst_275) ?_
    show Go p e below _ T5 (mkF m 276 #[.val (.ref a), .val (.int (Int32.ofNat 7))] [(.int c3), (.int (3 : Int32)), (.ref a2), (.ref a2), (.ref a1), (.ref a1)])
    refine Go.castore X5 hx hZ e5 A5 (i := 3) rfl (by simp) (g := (mkF m 276 #[.val (.ref a), .val (.int (Int32.ofNat 7))] [(.int c3), (.int (3 : Int32)), (.ref a2), (.ref a2), (.ref a1), (.ref a1)])) rfl rfl (hb hby dst_276) ?_
    rintro T6 h6 X6 e6 W6 A6
    have sW6 := W6.size
    show Go p e below _ T6 (mkF m 277 #[.val (.ref a), .val (.int (Int32.ofNat 7))] [(.ref a2), (.ref a1), (.ref a1)])
    have A_a6 := A_a5.other W6 na
    refine Go.st (fun _ k => XS.dup X6.here hx rfl (hb hby dst_277) rfl rfl k) ?_
    show Go p e below _ T6 (mkF m 278 #[.val (.ref a), .val (.int (Int32.ofNat 7))] [(.ref a2), (.ref a2), (.ref a1), (.ref a1)])
    refine Go.st (fun _ k => XS.iconst X6.here hx rfl (hb hby dst_278) k) ?_
    show Go p e below _ T6 (mkF m 279 #[.val (.ref a), .val (.int (Int32.ofNat 7))] [(.int (4 : Int32)), (.ref a2), (.ref a2), (.ref a1), (.ref a1)])
    refine Go.st (fun _ k => XS.aloadN X6.here hx rfl (hb hby dst_279) rfl rfl k) ?_
    show Go p e below _ T6 (mkF m 280 #[.val (.ref a), .val (.int (Int32.ofNat 7))] [(.ref a), (.int (4 : Int32)), (.ref a2), (.ref a2), (.ref a1), (.ref a1)])
    refine Go.st (fun _ k => XS.iconst X6.here hx rfl (hb hby dst_280) k) ?_
    show Go p e below _ T6 (mkF m 281 #[.val (.ref a), .val (.int (Int32.ofNat 7))] [(.int (4 : Int32)), (.ref a), (.int (4 : Int32)), (.ref a2), (.ref a2), (.ref a1), (.ref a1)])
    refine Go.caload X6 hx hZ e6 A_a6 (i := 4) (x := c4) rfl rfl (g := (mkF m 281 #[.val (.ref a), .val (.int (Int32.ofNat 7))] [(.int (4 : Int32)), (.ref a), (.int (4 : Int32)), (.ref a2), (.ref a2), (.ref a1), (.ref a1)])) rfl rfl (hb hby dst_281) ?_
    show Go p e below _ T6 (mkF m 282 #[.val (.ref a), .val (.int (Int32.ofNat 7))] [(.int c4), (.int (4 : Int32)), (.ref a2), (.ref a2), (.ref a1), (.ref a1)])
    refine Go.castore X6 hx hZ e6 A6 (i := 4) rfl (by simp) (g := (mkF m 282 #[.val (.ref a), .val (.int (Int32.ofNat 7))] [(.int c4), (.int (4 : Int32)), (.ref a2), (.ref a2), (.ref a1), (.ref a1)])) rfl rfl (hb hby dst_282) ?_
    rintro T7 h7 X7 e7 W7 A7
    have sW7 := W7.size
    show Go p e below _ T7 (mkF m 283 #[.val (.ref a), .val (.int (Int32.ofNat 7))] [(.ref a2), (.ref a1), (.ref a1)])
    have A_a7 := A_a6.other W7 na
    refine Go.st (fun _ k => XS.dup X7.here hx rfl (hb hby dst_283) rfl rfl k) ?_
    show Go p e below _ T7 (mkF m 284 #[.val (.ref a), .val (.int (Int32.ofNat 7))] [(.ref a2), (.ref a2), (.ref a1), (.ref a1)])
    refine Go.st (fun _ k => XS.iconst X7.here hx rfl (hb hby dst_284) k) ?_
    show Go p e below _ T7 (mkF m 285 #[.val (.ref a), .val (.int (Int32.ofNat 7))] [(.int (5 : Int32)), (.ref a2), (.ref a2), (.ref a1), (.ref a1)])
    refine Go.st (fun _ k => XS.aloadN X7.here hx rfl (hb hby dst_285) rfl rfl k) ?_
    show Go p e below _ T7 (mkF m 286 #[.val (.ref a), .val (.int (Int32.ofNat 7))] [(.ref a), (.int (5 : Int32)), (.ref a2), (.ref a2), (.ref a1), (.ref a1)])
    refine Go.st (fun _ k => XS.iconst X7.here hx rfl (hb hby dst_286) k) ?_
    show Go p e below _ T7 (mkF m 287 #[.val (.ref a), .val (.int (Int32.ofNat 7))] [(.int (5 : Int32)), (.ref a), (.int (5 : Int32)), (.ref a2), (.ref a2), (.ref a1), (.ref a1)])
    refine Go.caload X7 hx hZ e7 A_a7 (i := 5) (x := c5) rfl rfl (g := (mkF m 287 #[.val (.ref a), .val (.int (Int32.ofNat 7))] [(.int (5 : Int32)), (.ref a), (.int (5 : Int32)), (.ref a2), (.ref a2), (.ref a1), (.ref a1)])) rfl rfl (hb hby dst_287) ?_
    show Go p e below _ T7 (mkF m 288 #[.val (.ref a), .val (.int (Int32.ofNat 7))] [(.int c5), (.int (5 : Int32)), (.ref a2), (.ref a2), (.ref a1), (.ref a1)])
    refine Go.castore X7 hx hZ e7 A7 (i := 5) rfl (by simp) (g := (mkF m 288 #[.val (.ref a), .val (.int (Int32.ofNat 7))] [(.int c5), (.int (5 : Int32)), (.ref a2), (.ref a2), (.ref a1), (.ref a1)])) rfl rfl (hb hby dst_288) ?_
    rintro T8 h8 X8 e8 W8 A8
    have sW8 := W8.size
    show Go p e below _ T8 (mkF m 289 #[.val (.ref a), .val (.int (Int32.ofNat 7))] [(.ref a2), (.ref a1), (.ref a1)])
    have A_a8 := A_a7.other W8 na
    refine Go.st (fun _ k => XS.dup X8.here hx rfl (hb hby dst_289) rfl rfl k) ?_
    show Go p e below _ T8 (mkF m 290 #[.val (.ref a), .val (.int (Int32.ofNat 7))] [(.ref a2), (.ref a2), (.ref a1), (.ref a1)])
    refine Go.st (fun _ k => XS.bipush X8.here hx rfl (hb hby dst_290) k) ?_
    show Go p e below _ T8 (mkF m 292 #[.val (.ref a), .val (.int (Int32.ofNat 7))] [(.int (6 : Int32)), (.ref a2), (.ref a2), (.ref a1), (.ref a1)])
    refine Go.st (fun _ k => XS.aloadN X8.here hx rfl (hb hby dst_292) rfl rfl k) ?_
    show Go p e below _ T8 (mkF m 293 #[.val (.ref a), .val (.int (Int32.ofNat 7))] [(.ref a), (.int (6 : Int32)), (.ref a2), (.ref a2), (.ref a1), (.ref a1)])
    refine Go.st (fun _ k => XS.bipush X8.here hx rfl (hb hby dst_293) k) ?_
    show Go p e below _ T8 (mkF m 295 #[.val (.ref a), .val (.int (Int32.ofNat 7))] [(.int (6 : Int32)), (.ref a), (.int (6 : Int32)), (.ref a2), (.ref a2), (.ref a1), (.ref a1)])
    refine Go.caload X8 hx hZ e8 A_a8 (i := 6) (x := c6) rfl rfl (g := (mkF m 295 #[.val (.ref a), .val (.int (Int32.ofNat 7))] [(.int (6 : Int32)), (.ref a), (.int (6 : Int32)), (.ref a2), (.ref a2), (.ref a1), (.ref a1)])) rfl rfl (hb hby dst_295) ?_
    show Go p e below _ T8 (mkF m 296 #[.val (.ref a), .val (.int (Int32.ofNat 7))] [(.int c6), (.int (6 : Int32)), (.ref a2), (.ref a2), (.ref a1), (.ref a1)])
    refine Go.castore X8 hx hZ e8 A8 (i := 6) rfl (by simp) (g := (mkF m 296 #[.val (.ref a), .val (.int (Int32.ofNat 7))] [(.int c6), (.int (6 : Int32)), (.ref a2), (.ref a2), (.ref a1), (.ref a1)])) rfl rfl (hb hby dst_296) ?_
    rintro T9 h9 X9 e9 W9 A9
    have sW9 := W9.size
    show Go p e below _ T9 (mkF m 297 #[.val (.ref a), .val (.int (Int32.ofNat 7))] [(.ref a2), (.ref a1), (.ref a1)])
    have A_a9 := A_a8.other W9 na
    have n12 : a1 ≠ a2 := Nat.ne_of_lt (by omega)
    have Ac : AI Z h9 a2 .char ([c0, c1, c2, c3, c4, c5, c6] : List Int32) := by
      have q : AI Z h9 a2 .char [nar .char c0, nar .char c1, nar .char c2, nar .char c3, nar .char c4, nar .char c5, nar .char c6] := A9
      rwa [e_0, e_1, e_2, e_3, e_4, e_5, e_6] at q
    have hp : ∀ c ∈ ([c0, c1, c2, c3, c4, c5, c6] : List Int32), ¬ c < 0 ∧ ¬ (65535 : Int32) < c := fun c hc => hbd c (List.mem_of_mem_take (i := 7) hc)
    have Ok : Old Z n0 h9 := (((((((((X00.ext E1).ext E2).wr W3 (by omega)).wr W4 (by omega)).wr W5 (by omega)).wr W6 (by omega)).wr W7 (by omega)).wr W8 (by omega)).wr W9 (by omega))
    have Kk : Keep h0 h9 [] := ((((((((((Keep.refl h0 []).ext E1).ext E2).wr W3 (Or.inr (by omega))).wr W4 (Or.inr (by omega))).wr W5 (Or.inr (by omega))).wr W6 (Or.inr (by omega))).wr W7 (Or.inr (by omega))).wr W8 (Or.inr (by omega))).wr W9 (Or.inr (by omega)))
    have Nk := (Fr.snoc X9 (Fr.snoc X8 (Fr.snoc X7 (Fr.snoc X6 (Fr.snoc X5 (Fr.snoc X4 (Fr.snoc X3 (Fr.nil n0) (by omega)) (by omega)) (by omega)) (by omega)) (by omega)) (by omega)) (by omega))
    refine Go.callI X9 hx (y := (⟨"java/lang/String", "<init>", "([C)V"⟩ : MethodName)) rfl hown (mvT hZ (hw _ (List.mem_of_getElem? (i := 12) rfl))) (mvT hZ (hw _ (List.mem_of_getElem? (i := 13) rfl))) (mvT hZ (hw _ (List.mem_of_getElem? (i := 14) rfl))) (by decide) (Ctr.back (W := 1) (rmI1 l Z a0 hw z Su ([c0, c1, c2, c3, c4, c5, c6] : List Int32) (by simp) (by simp) hp a1 a2 _ _ h9 n0 (by omega) (by omega) Ok ((((((((A1.ext E2).wr W3).wr W4).wr W5).wr W6).wr W7).wr W8).wr W9) (((((((((D1 (Or.inr (hw _ (List.mem_of_getElem? (i := 37) rfl))) (ty := (.array .byte)) (by decide)).ext E2).other W3 (Or.inl n12)).other W4 (Or.inl n12)).other W5 (Or.inl n12)).other W6 (Or.inl n12)).other W7 (Or.inl n12)).other W8 (Or.inl n12)).other W9 (Or.inl n12)) (((((((((D1 (Or.inr (hw _ (List.mem_of_getElem? (i := 35) rfl))) (ty := .byte) (by decide)).ext E2).other W3 (Or.inl n12)).other W4 (Or.inl n12)).other W5 (Or.inl n12)).other W6 (Or.inl n12)).other W7 (Or.inl n12)).other W8 (Or.inl n12)).other W9 (Or.inl n12)) Ac) hZ (hw _ (List.mem_of_getElem? (i := 14) rfl)) (hw _ (List.mem_of_getElem? (i := 11) rfl)) (by (try dsimp only [room_1]); (try simp only [List.length_cons, List.length_nil]); omega) (by (try dsimp only [room_1]); (try simp only [List.length_cons, List.length_nil]); omega)) e9 (g := (mkF m 297 #[.val (.ref a), .val (.int (Int32.ofNat 7))] [(.ref a2), (.ref a1), (.ref a1)])) rfl (by rw [hml]; rfl) (a := a1) (argsL := [(.ref a2)]) (rest := [(.ref a1)]) (lenOf pd_18 rfl) rfl (by show 2 * 0 + _ ≤ _; exact Nat.le_of_eq rfl) (hb hby dst_297) rfl (by (try dsimp only [room_1]); (try simp only [List.length_cons, List.length_nil]); omega) (by (try dsimp only [room_1]); (try simp only [List.length_cons, List.length_nil]); omega) ?_
    rintro _ T99 L99 X99 ⟨rfl, N99, K99, E99, G99, t, F99, B99, ht⟩
    show Go p e below _ T99 (mkF m 300 #[.val (.ref a), .val (.int (Int32.ofNat 7))] [(.ref a1)])
    have K09 : Keep h0 T99.heap [] := Kk.trans K99 (fun x q => Or.inr (by cases List.mem_singleton.mp q; omega))
    exact Go.retVW X99 hx (Bas.refl s 0) (Nat.zero_le _) hC0 (UX K09) hret hlk rfl rfl (hb hby dst_300) ⟨a1, t, rfl, Fr.app Nk N99, K09, E99, G99, F99, B99⟩ (by (try dsimp only [room_1]); (try simp only [List.length_cons, List.length_nil]); omega) (by (try dsimp only [room_1]); (try simp only [List.length_cons, List.length_nil]); omega)
  refine Go.st (fun _ k => XS.icmpYes X0.here hx rfl (pc0 := 242) (pc' := 301) rfl (hb hby dst_242) rfl (XT.ii_ne_t qn) (by decide) (by decide) k) ?_
  show Go p e below _ s₁ (mkF m 301 #[.val (.ref a), .val (.int (Int32.ofNat n))] [])
  have nn7 : n ≠ 7 := fun z => qn (by rw [z]; rfl)
  clear qn
  refine Go.st (fun _ k => XS.iloadN X0.here hx rfl (hb hby dst_301) rfl k) ?_
  show Go p e below _ s₁ (mkF m 302 #[.val (.ref a), .val (.int (Int32.ofNat n))] [(.int (Int32.ofNat n))])
  refine Go.st (fun _ k => XS.bipush X0.here hx rfl (hb hby dst_302) k) ?_
  show Go p e below _ s₁ (mkF m 304 #[.val (.ref a), .val (.int (Int32.ofNat n))] [(.int (8 : Int32)), (.int (Int32.ofNat n))])
  by_cases qn : Int32.ofNat n = (8 : Int32)
  · skip
    refine Go.st (fun _ k => XS.icmpNo X0.here hx rfl (hb hby dst_304) rfl (XT.ii_ne_f qn) k) ?_
    show Go p e below _ s₁ (mkF m 307 #[.val (.ref a), .val (.int (Int32.ofNat n))] [])
    obtain rfl : n = 8 := by have q := congrArg Int32.toInt qn; rw [own_toInt (by omega)] at q; have q2 : ((8 : Int32)).toInt = 8 := rfl; omega
    clear qn
    show Go p e below _ s₁ (mkF m 307 #[.val (.ref a), .val (.int (Int32.ofNat 8))] [])
    obtain ⟨T1, h1, X1, e1, E1, A1, D1, -, st1⟩ := newO X0 hx hZ hown (hw _ (List.mem_of_getElem? (i := 9) rfl)) (hw _ (List.mem_of_getElem? (i := 10) rfl)) (hw _ (List.mem_of_getElem? (i := 11) rfl)) e0 (g := (mkF m 307 #[.val (.ref a), .val (.int (Int32.ofNat 8))] [])) rfl (hb hby dst_307) (by (try dsimp only [room_1]); (try simp only [List.length_cons, List.length_nil]); omega) (by (try dsimp only [room_1]); (try simp only [List.length_cons, List.length_nil]); omega)
    obtain ⟨a1, g1⟩ : ∃ z, z = h0.size := ⟨_, rfl⟩
    rw [← g1] at A1 D1 st1
    have l1 : a1 < h1.size := A1.lt
    have sE1 := E1.1
    refine Go.st st1 ?_
    show Go p e below _ T1 (mkF m 310 #[.val (.ref a), .val (.int (Int32.ofNat 8))] [(.ref a1)])
    refine Go.st (fun _ k => XS.dup X1.here hx rfl (hb hby dst_310) rfl rfl k) ?_
    show Go p e below _ T1 (mkF m 311 #[.val (.ref a), .val (.int (Int32.ofNat 8))] [(.ref a1), (.ref a1)])
    refine Go.st (fun _ k => XS.bipush X1.here hx rfl (hb hby dst_311) k) ?_
    show Go p e below _ T1 (mkF m 313 #[.val (.ref a), .val (.int (Int32.ofNat 8))] [(.int (8 : Int32)), (.ref a1), (.ref a1)])
    refine Go.newarr X1 hx hZ (ty := .char) rfl rfl (hw _ (List.mem_of_getElem? (i := 0) rfl)) e1 (g := (mkF m 313 #[.val (.ref a), .val (.int (Int32.ofNat 8))] [(.int (8 : Int32)), (.ref a1), (.ref a1)])) rfl (hb hby dst_313) rfl (n := 8) rfl (by decide) (by (try dsimp only [room_1]); (try simp only [List.length_cons, List.length_nil]); omega) (by (try dsimp only [room_1]); (try simp only [List.length_cons, List.length_nil]); omega) ?_
    rintro T2 h2 X2 e2 E2 l2 A2
    obtain ⟨a2, g2⟩ : ∃ z, z = h1.size := ⟨_, rfl⟩
    rw [← g2] at A2 l2 ⊢
    have sE2 := E2.1
    show Go p e below _ T2 (mkF m 315 #[.val (.ref a), .val (.int (Int32.ofNat 8))] [(.ref a2), (.ref a1), (.ref a1)])
    refine Go.st (fun _ k => XS.dup X2.here hx rfl (hb hby dst_315) rfl rfl k) ?_
    show Go p e below _ T2 (mkF m 316 #[.val (.ref a), .val (.int (Int32.ofNat 8))] [(.ref a2), (.ref a2), (.ref a1), (.ref a1)])
    refine Go.st (fun _ k => XS.iconst X2.here hx rfl (hb hby dst_316) k) ?_
    show Go p e below _ T2 (mkF m 317 #[.val (.ref a), .val (.int (Int32.ofNat 8))] [(.int (0 : Int32)), (.ref a2), (.ref a2), (.ref a1), (.ref a1)])
    refine Go.st (fun _ k => XS.aloadN X2.here hx rfl (hb hby dst_317) rfl rfl k) ?_
    show Go p e below _ T2 (mkF m 318 #[.val (.ref a), .val (.int (Int32.ofNat 8))] [(.ref a), (.int (0 : Int32)), (.ref a2), (.ref a2), (.ref a1), (.ref a1)])
    refine Go.st (fun _ k => XS.iconst X2.here hx rfl (hb hby dst_318) k) ?_
    show Go p e below _ T2 (mkF m 319 #[.val (.ref a), .val (.int (Int32.ofNat 8))] [(.int (0 : Int32)), (.ref a), (.int (0 : Int32)), (.ref a2), (.ref a2), (.ref a1), (.ref a1)])
    have A_a := (A.ext E1).ext E2
    have na : a ≠ a2 := Nat.ne_of_lt (Nat.lt_of_lt_of_eq (A.ext E1).lt g2.symm)
    refine Go.caload X2 hx hZ e2 A_a (i := 0) (x := c0) rfl rfl (g := (mkF m 319 #[.val (.ref a), .val (.int (Int32.ofNat 8))] [(.int (0 : Int32)), (.ref a), (.int (0 : Int32)), (.ref a2), (.ref a2), (.ref a1), (.ref a1)])) rfl rfl (hb hby dst_319) ?_
    show Go p e below _ T2 (mkF m 320 #[.val (.ref a), .val (.int (Int32.ofNat 8))] [(.int c0), (.int (0 : Int32)), (.ref a2), (.ref a2), (.ref a1), (.ref a1)])
    refine Go.castore X2 hx hZ e2 A2 (i := 0) rfl (by simp) (g := (mkF m 320 #[.val (.ref a), .val (.int (Int32.ofNat 8))] [(.int c0), (.int (0 : Int32)), (.ref a2), (.ref a2), (.ref a1), (.ref a1)])) rfl rfl (hb hby dst_320) ?_
    rintro T3 h3 X3 e3 W3 A3
    have sW3 := W3.size
    show Go p e below _ T3 (mkF m 321 #[.val (.ref a), .val (.int (Int32.ofNat 8))] [(.ref a2), (.ref a1), (.ref a1)])
    have A_a3 := A_a.other W3 na
    refine Go.st (fun _ k => XS.dup X3.here hx rfl (hb hby dst_321) rfl rfl k) ?_
    show Go p e below _ T3 (mkF m 322 #[.val (.ref a), .val (.int (Int32.ofNat 8))] [(.ref a2), (.ref a2), (.ref a1), (.ref a1)])
    refine Go.st (fun _ k => XS.iconst X3.here hx rfl (hb hby dst_322) k) ?_
    show Go p e below _ T3 (mkF m 323 #[.val (.ref a), .val (.int (Int32.ofNat 8))] [(.int (1 : Int32)), (.ref a2), (.ref a2), (.ref a1), (.ref a1)])
    refine Go.st (fun _ k => XS.aloadN X3.here hx rfl (hb hby dst_323) rfl rfl k) ?_
    show Go p e below _ T3 (mkF m 324 #[.val (.ref a), .val (.int (Int32.ofNat 8))] [(.ref a), (.int (1 : Int32)), (.ref a2), (.ref a2), (.ref a1), (.ref a1)])
    refine Go.st (fun _ k => XS.iconst X3.here hx rfl (hb hby dst_324) k) ?_
    show Go p e below _ T3 (mkF m 325 #[.val (.ref a), .val (.int (Int32.ofNat 8))] [(.int (1 : Int32)), (.ref a), (.int (1 : Int32)), (.ref a2), (.ref a2), (.ref a1), (.ref a1)])
    refine Go.caload X3 hx hZ e3 A_a3 (i := 1) (x := c1) rfl rfl (g := (mkF m 325 #[.val (.ref a), .val (.int (Int32.ofNat 8))] [(.int (1 : Int32)), (.ref a), (.int (1 : Int32)), (.ref a2), (.ref a2), (.ref a1), (.ref a1)])) rfl rfl (hb hby dst_325) ?_
    show Go p e below _ T3 (mkF m 326 #[.val (.ref a), .val (.int (Int32.ofNat 8))] [(.int c1), (.int (1 : Int32)), (.ref a2), (.ref a2), (.ref a1), (.ref a1)])
    refine Go.castore X3 hx hZ e3 A3 (i := 1) rfl (by simp) (g := (mkF m 326 #[.val (.ref a), .val (.int (Int32.ofNat 8))] [(.int c1), (.int (1 : Int32)), (.ref a2), (.ref a2), (.ref a1), (.ref a1)])) rfl rfl (hb hby dst_326) ?_
    rintro T4 h4 X4 e4 W4 A4
    have sW4 := W4.size
    show Go p e below _ T4 (mkF m 327 #[.val (.ref a), .val (.int (Int32.ofNat 8))] [(.ref a2), (.ref a1), (.ref a1)])
    have A_a4 := A_a3.other W4 na
    refine Go.st (fun _ k => XS.dup X4.here hx rfl (hb hby dst_327) rfl rfl k) ?_
    show Go p e below _ T4 (mkF m 328 #[.val (.ref a), .val (.int (Int32.ofNat 8))] [(.ref a2), (.ref a2), (.ref a1), (.ref a1)])
    refine Go.st (fun _ k => XS.iconst X4.here hx rfl (hb hby dst_328) k) ?_
    show Go p e below _ T4 (mkF m 329 #[.val (.ref a), .val (.int (Int32.ofNat 8))] [(.int (2 : Int32)), (.ref a2), (.ref a2), (.ref a1), (.ref a1)])
    refine Go.st (fun _ k => XS.aloadN X4.here hx rfl (hb hby dst_329) rfl rfl k) ?_
    show Go p e below _ T4 (mkF m 330 #[.val (.ref a), .val (.int (Int32.ofNat 8))] [(.ref a), (.int (2 : Int32)), (.ref a2), (.ref a2), (.ref a1), (.ref a1)])
    refine Go.st (fun _ k => XS.iconst X4.here hx rfl (hb hby dst_330) k) ?_
    show Go p e below _ T4 (mkF m 331 #[.val (.ref a), .val (.int (Int32.ofNat 8))] [(.int (2 : Int32)), (.ref a), (.int (2 : Int32)), (.ref a2), (.ref a2), (.ref a1), (.ref a1)])
    refine Go.caload X4 hx hZ e4 A_a4 (i := 2) (x := c2) rfl rfl (g := (mkF m 331 #[.val (.ref a), .val (.int (Int32.ofNat 8))] [(.int (2 : Int32)), (.ref a), (.int (2 : Int32)), (.ref a2), (.ref a2), (.ref a1), (.ref a1)])) rfl rfl (hb hby dst_331) ?_
    show Go p e below _ T4 (mkF m 332 #[.val (.ref a), .val (.int (Int32.ofNat 8))] [(.int c2), (.int (2 : Int32)), (.ref a2), (.ref a2), (.ref a1), (.ref a1)])
    refine Go.castore X4 hx hZ e4 A4 (i := 2) rfl (by simp) (g := (mkF m 332 #[.val (.ref a), .val (.int (Int32.ofNat 8))] [(.int c2), (.int (2 : Int32)), (.ref a2), (.ref a2), (.ref a1), (.ref a1)])) rfl rfl (hb hby dst_332) ?_
    rintro T5 h5 X5 e5 W5 A5
    have sW5 := W5.size
    show Go p e below _ T5 (mkF m 333 #[.val (.ref a), .val (.int (Int32.ofNat 8))] [(.ref a2), (.ref a1), (.ref a1)])
    have A_a5 := A_a4.other W5 na
    refine Go.st (fun _ k => XS.dup X5.here hx rfl (hb hby dst_333) rfl rfl k) ?_
    show Go p e below _ T5 (mkF m 334 #[.val (.ref a), .val (.int (Int32.ofNat 8))] [(.ref a2), (.ref a2), (.ref a1), (.ref a1)])
    refine Go.st (fun _ k => XS.iconst X5.here hx rfl (hb hby dst_334) k) ?_
    show Go p e below _ T5 (mkF m 335 #[.val (.ref a), .val (.int (Int32.ofNat 8))] [(.int (3 : Int32)), (.ref a2), (.ref a2), (.ref a1), (.ref a1)])
    refine Go.st (fun _ k => XS.aloadN X5.here hx rfl (hb hby dst_335) rfl rfl k) ?_
    show Go p e below _ T5 (mkF m 336 #[.val (.ref a), .val (.int (Int32.ofNat 8))] [(.ref a), (.int (3 : Int32)), (.ref a2), (.ref a2), (.ref a1), (.ref a1)])
    refine Go.st (fun _ k => XS.iconst X5.here hx rfl (hb hby dst_336) k) ?_
    show Go p e below _ T5 (mkF m 337 #[.val (.ref a), .val (.int (Int32.ofNat 8))] [(.int (3 : Int32)), (.ref a), (.int (3 : Int32)), (.ref a2), (.ref a2), (.ref a1), (.ref a1)])
    refine Go.caload X5 hx hZ e5 A_a5 (i := 3) (x := c3) rfl rfl (g := (mkF m 337 #[.val (.ref a), .val (.int (Int32.ofNat 8))] [(.int (3 : Int32)), (.ref a), (.int (3 : Int32)), (.ref a2), (.ref a2), (.ref a1), (.ref a1)])) rfl rfl (hb hby dst_337) ?_
    show Go p e below _ T5 (mkF m 338 #[.val (.ref a), .val (.int (Int32.ofNat 8))] [(.int c3), (.int (3 : Int32)), (.ref a2), (.ref a2), (.ref a1), (.ref a1)])
    refine Go.castore X5 hx hZ e5 A5 (i := 3) rfl (by simp) (g := (mkF m 338 #[.val (.ref a), .val (.int (Int32.ofNat 8))] [(.int c3), (.int (3 : Int32)), (.ref a2), (.ref a2), (.ref a1), (.ref a1)])) rfl rfl (hb hby dst_338) ?_
    rintro T6 h6 X6 e6 W6 A6
    have sW6 := W6.size
    show Go p e below _ T6 (mkF m 339 #[.val (.ref a), .val (.int (Int32.ofNat 8))] [(.ref a2), (.ref a1), (.ref a1)])
    have A_a6 := A_a5.other W6 na
    refine Go.st (fun _ k => XS.dup X6.here hx rfl (hb hby dst_339) rfl rfl k) ?_
    show Go p e below _ T6 (mkF m 340 #[.val (.ref a), .val (.int (Int32.ofNat 8))] [(.ref a2), (.ref a2), (.ref a1), (.ref a1)])
    refine Go.st (fun _ k => XS.iconst X6.here hx rfl (hb hby dst_340) k) ?_
    show Go p e below _ T6 (mkF m 341 #[.val (.ref a), .val (.int (Int32.ofNat 8))] [(.int (4 : Int32)), (.ref a2), (.ref a2), (.ref a1), (.ref a1)])
    refine Go.st (fun _ k => XS.aloadN X6.here hx rfl (hb hby dst_341) rfl rfl k) ?_
    show Go p e below _ T6 (mkF m 342 #[.val (.ref a), .val (.int (Int32.ofNat 8))] [(.ref a), (.int (4 : Int32)), (.ref a2), (.ref a2), (.ref a1), (.ref a1)])
    refine Go.st (fun _ k => XS.iconst X6.here hx rfl (hb hby dst_342) k) ?_
    show Go p e below _ T6 (mkF m 343 #[.val (.ref a), .val (.int (Int32.ofNat 8))] [(.int (4 : Int32)), (.ref a), (.int (4 : Int32)), (.ref a2), (.ref a2), (.ref a1), (.ref a1)])
    refine Go.caload X6 hx hZ e6 A_a6 (i := 4) (x := c4) rfl rfl (g := (mkF m 343 #[.val (.ref a), .val (.int (Int32.ofNat 8))] [(.int (4 : Int32)), (.ref a), (.int (4 : Int32)), (.ref a2), (.ref a2), (.ref a1), (.ref a1)])) rfl rfl (hb hby dst_343) ?_
    show Go p e below _ T6 (mkF m 344 #[.val (.ref a), .val (.int (Int32.ofNat 8))] [(.int c4), (.int (4 : Int32)), (.ref a2), (.ref a2), (.ref a1), (.ref a1)])
    refine Go.castore X6 hx hZ e6 A6 (i := 4) rfl (by simp) (g := (mkF m 344 #[.val (.ref a), .val (.int (Int32.ofNat 8))] [(.int c4), (.int (4 : Int32)), (.ref a2), (.ref a2), (.ref a1), (.ref a1)])) rfl rfl (hb hby dst_344) ?_
    rintro T7 h7 X7 e7 W7 A7
    have sW7 := W7.size
    show Go p e below _ T7 (mkF m 345 #[.val (.ref a), .val (.int (Int32.ofNat 8))] [(.ref a2), (.ref a1), (.ref a1)])
    have A_a7 := A_a6.other W7 na
    refine Go.st (fun _ k => XS.dup X7.here hx rfl (hb hby dst_345) rfl rfl k) ?_
    show Go p e below _ T7 (mkF m 346 #[.val (.ref a), .val (.int (Int32.ofNat 8))] [(.ref a2), (.ref a2), (.ref a1), (.ref a1)])
    refine Go.st (fun _ k => XS.iconst X7.here hx rfl (hb hby dst_346) k) ?_
    show Go p e below _ T7 (mkF m 347 #[.val (.ref a), .val (.int (Int32.ofNat 8))] [(.int (5 : Int32)), (.ref a2), (.ref a2), (.ref a1), (.ref a1)])
    refine Go.st (fun _ k => XS.aloadN X7.here hx rfl (hb hby dst_347) rfl rfl k) ?_
    show Go p e below _ T7 (mkF m 348 #[.val (.ref a), .val (.int (Int32.ofNat 8))] [(.ref a), (.int (5 : Int32)), (.ref a2), (.ref a2), (.ref a1), (.ref a1)])
    refine Go.st (fun _ k => XS.iconst X7.here hx rfl (hb hby dst_348) k) ?_
    show Go p e below _ T7 (mkF m 349 #[.val (.ref a), .val (.int (Int32.ofNat 8))] [(.int (5 : Int32)), (.ref a), (.int (5 : Int32)), (.ref a2), (.ref a2), (.ref a1), (.ref a1)])
    refine Go.caload X7 hx hZ e7 A_a7 (i := 5) (x := c5) rfl rfl (g := (mkF m 349 #[.val (.ref a), .val (.int (Int32.ofNat 8))] [(.int (5 : Int32)), (.ref a), (.int (5 : Int32)), (.ref a2), (.ref a2), (.ref a1), (.ref a1)])) rfl rfl (hb hby dst_349) ?_
    show Go p e below _ T7 (mkF m 350 #[.val (.ref a), .val (.int (Int32.ofNat 8))] [(.int c5), (.int (5 : Int32)), (.ref a2), (.ref a2), (.ref a1), (.ref a1)])
    refine Go.castore X7 hx hZ e7 A7 (i := 5) rfl (by simp) (g := (mkF m 350 #[.val (.ref a), .val (.int (Int32.ofNat 8))] [(.int c5), (.int (5 : Int32)), (.ref a2), (.ref a2), (.ref a1), (.ref a1)])) rfl rfl (hb hby dst_350) ?_
    rintro T8 h8 X8 e8 W8 A8
    have sW8 := W8.size
    show Go p e below _ T8 (mkF m 351 #[.val (.ref a), .val (.int (Int32.ofNat 8))] [(.ref a2), (.ref a1), (.ref a1)])
    have A_a8 := A_a7.other W8 na
    refine Go.st (fun _ k => XS.dup X8.here hx rfl (hb hby dst_351) rfl rfl k) ?_
    show Go p e below _ T8 (mkF m 352 #[.val (.ref a), .val (.int (Int32.ofNat 8))] [(.ref a2), (.ref a2), (.ref a1), (.ref a1)])
    refine Go.st (fun _ k => XS.bipush X8.here hx rfl (hb hby dst_352) k) ?_
    show Go p e below _ T8 (mkF m 354 #[.val (.ref a), .val (.int (Int32.ofNat 8))] [(.int (6 : Int32)), (.ref a2), (.ref a2), (.ref a1), (.ref a1)])
    refine Go.st (fun _ k => XS.aloadN X8.here hx rfl (hb hby dst_354) rfl rfl k) ?_
    show Go p e below _ T8 (mkF m 355 #[.val (.ref a), .val (.int (Int32.ofNat 8))] [(.ref a), (.int (6 : Int32)), (.ref a2), (.ref a2), (.ref a1), (.ref a1)])
    refine Go.st (fun _ k => XS.bipush X8.here hx rfl (hb hby dst_355) k) ?_
    show Go p e below _ T8 (mkF m 357 #[.val (.ref a), .val (.int (Int32.ofNat 8))] [(.int (6 : Int32)), (.ref a), (.int (6 : Int32)), (.ref a2), (.ref a2), (.ref a1), (.ref a1)])
    refine Go.caload X8 hx hZ e8 A_a8 (i := 6) (x := c6) rfl rfl (g := (mkF m 357 #[.val (.ref a), .val (.int (Int32.ofNat 8))] [(.int (6 : Int32)), (.ref a), (.int (6 : Int32)), (.ref a2), (.ref a2), (.ref a1), (.ref a1)])) rfl rfl (hb hby dst_357) ?_
    show Go p e below _ T8 (mkF m 358 #[.val (.ref a), .val (.int (Int32.ofNat 8))] [(.int c6), (.int (6 : Int32)), (.ref a2), (.ref a2), (.ref a1), (.ref a1)])
    refine Go.castore X8 hx hZ e8 A8 (i := 6) rfl (by simp) (g := (mkF m 358 #[.val (.ref a), .val (.int (Int32.ofNat 8))] [(.int c6), (.int (6 : Int32)), (.ref a2), (.ref a2), (.ref a1), (.ref a1)])) rfl rfl (hb hby dst_358) ?_
    rintro T9 h9 X9 e9 W9 A9
    have sW9 := W9.size
    show Go p e below _ T9 (mkF m 359 #[.val (.ref a), .val (.int (Int32.ofNat 8))] [(.ref a2), (.ref a1), (.ref a1)])
    have A_a9 := A_a8.other W9 na
    refine Go.st (fun _ k => XS.dup X9.here hx rfl (hb hby dst_359) rfl rfl k) ?_
    show Go p e below _ T9 (mkF m 360 #[.val (.ref a), .val (.int (Int32.ofNat 8))] [(.ref a2), (.ref a2), (.ref a1), (.ref a1)])
    refine Go.st (fun _ k => XS.bipush X9.here hx rfl (hb hby dst_360) k) ?_
    show Go p e below _ T9 (mkF m 362 #[.val (.ref a), .val (.int (Int32.ofNat 8))] [(.int (7 : Int32)), (.ref a2), (.ref a2), (.ref a1), (.ref a1)])
    refine Go.st (fun _ k => XS.aloadN X9.here hx rfl (hb hby dst_362) rfl rfl k) ?_
    show Go p e below _ T9 (mkF m 363 #[.val (.ref a), .val (.int (Int32.ofNat 8))] [(.ref a), (.int (7 : Int32)), (.ref a2), (.ref a2), (.ref a1), (.ref a1)])
    refine Go.st (fun _ k => XS.bipush X9.here hx rfl (hb hby dst_363) k) ?_
    show Go p e below _ T9 (mkF m 365 #[.val (.ref a), .val (.int (Int32.ofNat 8))] [(.int (7 : Int32)), (.ref a), (.int (7 : Int32)), (.ref a2), (.ref a2), (.ref a1), (.ref a1)])
    refine Go.caload X9 hx hZ e9 A_a9 (i := 7) (x := c7) rfl rfl (g := (mkF m 365 #[.val (.ref a), .val (.int (Int32.ofNat 8))] [(.int (7 : Int32)), (.ref a), (.int (7 : Int32)), (.ref a2), (.ref a2), (.ref a1), (.ref a1)])) rfl rfl (hb hby dst_365) ?_
    show Go p e below _ T9 (mkF m 366 #[.val (.ref a), .val (.int (Int32.ofNat 8))] [(.int c7), (.int (7 : Int32)), (.ref a2), (.ref a2), (.ref a1), (.ref a1)])
    refine Go.castore X9 hx hZ e9 A9 (i := 7) rfl (by simp) (g := (mkF m 366 #[.val (.ref a), .val (.int (Int32.ofNat 8))] [(.int c7), (.int (7 : Int32)), (.ref a2), (.ref a2), (.ref a1), (.ref a1)])) rfl rfl (hb hby dst_366) ?_
    rintro T10 h10 X10 e10 W10 A10
    have sW10 := W10.size
    show Go p e below _ T10 (mkF m 367 #[.val (.ref a), .val (.int (Int32.ofNat 8))] [(.ref a2), (.ref a1), (.ref a1)])
    have A_a10 := A_a9.other W10 na
    have n12 : a1 ≠ a2 := Nat.ne_of_lt (by omega)
    have Ac : AI Z h10 a2 .char ([c0, c1, c2, c3, c4, c5, c6, c7] : List Int32) := by
      have q : AI Z h10 a2 .char [nar .char c0, nar .char c1, nar .char c2, nar .char c3, nar .char c4, nar .char c5, nar .char c6, nar .char c7] := A10
      rwa [e_0, e_1, e_2, e_3, e_4, e_5, e_6, e_7] at q
    have hp : ∀ c ∈ ([c0, c1, c2, c3, c4, c5, c6, c7] : List Int32), ¬ c < 0 ∧ ¬ (65535 : Int32) < c := fun c hc => hbd c (List.mem_of_mem_take (i := 8) hc)
    have Ok : Old Z n0 h10 := ((((((((((X00.ext E1).ext E2).wr W3 (by omega)).wr W4 (by omega)).wr W5 (by omega)).wr W6 (by omega)).wr W7 (by omega)).wr W8 (by omega)).wr W9 (by omega)).wr W10 (by omega))
    have Kk : Keep h0 h10 [] := (((((((((((Keep.refl h0 []).ext E1).ext E2).wr W3 (Or.inr (by omega))).wr W4 (Or.inr (by omega))).wr W5 (Or.inr (by omega))).wr W6 (Or.inr (by omega))).wr W7 (Or.inr (by omega))).wr W8 (Or.inr (by omega))).wr W9 (Or.inr (by omega))).wr W10 (Or.inr (by omega)))
    have Nk := (Fr.snoc X10 (Fr.snoc X9 (Fr.snoc X8 (Fr.snoc X7 (Fr.snoc X6 (Fr.snoc X5 (Fr.snoc X4 (Fr.snoc X3 (Fr.nil n0) (by omega)) (by omega)) (by omega)) (by omega)) (by omega)) (by omega)) (by omega)) (by omega))
    refine Go.callI X10 hx (y := (⟨"java/lang/String", "<init>", "([C)V"⟩ : MethodName)) rfl hown (mvT hZ (hw _ (List.mem_of_getElem? (i := 12) rfl))) (mvT hZ (hw _ (List.mem_of_getElem? (i := 13) rfl))) (mvT hZ (hw _ (List.mem_of_getElem? (i := 14) rfl))) (by decide) (Ctr.back (W := 1) (rmI1 l Z a0 hw z Su ([c0, c1, c2, c3, c4, c5, c6, c7] : List Int32) (by simp) (by simp) hp a1 a2 _ _ h10 n0 (by omega) (by omega) Ok (((((((((A1.ext E2).wr W3).wr W4).wr W5).wr W6).wr W7).wr W8).wr W9).wr W10) ((((((((((D1 (Or.inr (hw _ (List.mem_of_getElem? (i := 37) rfl))) (ty := (.array .byte)) (by decide)).ext E2).other W3 (Or.inl n12)).other W4 (Or.inl n12)).other W5 (Or.inl n12)).other W6 (Or.inl n12)).other W7 (Or.inl n12)).other W8 (Or.inl n12)).other W9 (Or.inl n12)).other W10 (Or.inl n12)) ((((((((((D1 (Or.inr (hw _ (List.mem_of_getElem? (i := 35) rfl))) (ty := .byte) (by decide)).ext E2).other W3 (Or.inl n12)).other W4 (Or.inl n12)).other W5 (Or.inl n12)).other W6 (Or.inl n12)).other W7 (Or.inl n12)).other W8 (Or.inl n12)).other W9 (Or.inl n12)).other W10 (Or.inl n12)) Ac) hZ (hw _ (List.mem_of_getElem? (i := 14) rfl)) (hw _ (List.mem_of_getElem? (i := 11) rfl)) (by (try dsimp only [room_1]); (try simp only [List.length_cons, List.length_nil]); omega) (by (try dsimp only [room_1]); (try simp only [List.length_cons, List.length_nil]); omega)) e10 (g := (mkF m 367 #[.val (.ref a), .val (.int (Int32.ofNat 8))] [(.ref a2), (.ref a1), (.ref a1)])) rfl (by rw [hml]; rfl) (a := a1) (argsL := [(.ref a2)]) (rest := [(.ref a1)]) (lenOf pd_18 rfl) rfl (by show 2 * 0 + _ ≤ _; exact Nat.le_of_eq rfl) (hb hby dst_367) rfl (by (try dsimp only [room_1]); (try simp only [List.length_cons, List.length_nil]); omega) (by (try dsimp only [room_1]); (try simp only [List.length_cons, List.length_nil]); omega) ?_
    rintro _ T99 L99 X99 ⟨rfl, N99, K99, E99, G99, t, F99, B99, ht⟩
    show Go p e below _ T99 (mkF m 370 #[.val (.ref a), .val (.int (Int32.ofNat 8))] [(.ref a1)])
    have K09 : Keep h0 T99.heap [] := Kk.trans K99 (fun x q => Or.inr (by cases List.mem_singleton.mp q; omega))
    exact Go.retVW X99 hx (Bas.refl s 0) (Nat.zero_le _) hC0 (UX K09) hret hlk rfl rfl (hb hby dst_370) ⟨a1, t, rfl, Fr.app Nk N99, K09, E99, G99, F99, B99⟩ (by (try dsimp only [room_1]); (try simp only [List.length_cons, List.length_nil]); omega) (by (try dsimp only [room_1]); (try simp only [List.length_cons, List.length_nil]); omega)
  refine Go.st (fun _ k => XS.icmpYes X0.here hx rfl (pc0 := 304) (pc' := 371) rfl (hb hby dst_304) rfl (XT.ii_ne_t qn) (by decide) (by decide) k) ?_
  show Go p e below _ s₁ (mkF m 371 #[.val (.ref a), .val (.int (Int32.ofNat n))] [])
  have nn8 : n ≠ 8 := fun z => qn (by rw [z]; rfl)
  clear qn
  refine Go.st (fun _ k => XS.iloadN X0.here hx rfl (hb hby dst_371) rfl k) ?_
  show Go p e below _ s₁ (mkF m 372 #[.val (.ref a), .val (.int (Int32.ofNat n))] [(.int (Int32.ofNat n))])
  refine Go.st (fun _ k => XS.bipush X0.here hx rfl (hb hby dst_372) k) ?_
  show Go p e below _ s₁ (mkF m 374 #[.val (.ref a), .val (.int (Int32.ofNat n))] [(.int (9 : Int32)), (.int (Int32.ofNat n))])
  by_cases qn : Int32.ofNat n = (9 : Int32)
  · skip
    refine Go.st (fun _ k => XS.icmpNo X0.here hx rfl (hb hby dst_374) rfl (XT.ii_ne_f qn) k) ?_
    show Go p e below _ s₁ (mkF m 377 #[.val (.ref a), .val (.int (Int32.ofNat n))] [])
    obtain rfl : n = 9 := by have q := congrArg Int32.toInt qn; rw [own_toInt (by omega)] at q; have q2 : ((9 : Int32)).toInt = 9 := rfl; omega
    clear qn
    show Go p e below _ s₁ (mkF m 377 #[.val (.ref a), .val (.int (Int32.ofNat 9))] [])
    obtain ⟨T1, h1, X1, e1, E1, A1, D1, -, st1⟩ := newO X0 hx hZ hown (hw _ (List.mem_of_getElem? (i := 9) rfl)) (hw _ (List.mem_of_getElem? (i := 10) rfl)) (hw _ (List.mem_of_getElem? (i := 11) rfl)) e0 (g := (mkF m 377 #[.val (.ref a), .val (.int (Int32.ofNat 9))] [])) rfl (hb hby dst_377) (by (try dsimp only [room_1]); (try simp only [List.length_cons, List.length_nil]); omega) (by (try dsimp only [room_1]); (try simp only [List.length_cons, List.length_nil]); omega)
    obtain ⟨a1, g1⟩ : ∃ z, z = h0.size := ⟨_, rfl⟩
    rw [← g1] at A1 D1 st1
    have l1 : a1 < h1.size := A1.lt
    have sE1 := E1.1
    refine Go.st st1 ?_
    show Go p e below _ T1 (mkF m 380 #[.val (.ref a), .val (.int (Int32.ofNat 9))] [(.ref a1)])
    refine Go.st (fun _ k => XS.dup X1.here hx rfl (hb hby dst_380) rfl rfl k) ?_
    show Go p e below _ T1 (mkF m 381 #[.val (.ref a), .val (.int (Int32.ofNat 9))] [(.ref a1), (.ref a1)])
    refine Go.st (fun _ k => XS.bipush X1.here hx rfl (hb hby dst_381) k) ?_
    show Go p e below _ T1 (mkF m 383 #[.val (.ref a), .val (.int (Int32.ofNat 9))] [(.int (9 : Int32)), (.ref a1), (.ref a1)])
    refine Go.newarr X1 hx hZ (ty := .char) rfl rfl (hw _ (List.mem_of_getElem? (i := 0) rfl)) e1 (g := (mkF m 383 #[.val (.ref a), .val (.int (Int32.ofNat 9))] [(.int (9 : Int32)), (.ref a1), (.ref a1)])) rfl (hb hby dst_383) rfl (n := 9) rfl (by decide) (by (try dsimp only [room_1]); (try simp only [List.length_cons, List.length_nil]); omega) (by (try dsimp only [room_1]); (try simp only [List.length_cons, List.length_nil]); omega) ?_
    rintro T2 h2 X2 e2 E2 l2 A2
    obtain ⟨a2, g2⟩ : ∃ z, z = h1.size := ⟨_, rfl⟩
    rw [← g2] at A2 l2 ⊢
    have sE2 := E2.1
    show Go p e below _ T2 (mkF m 385 #[.val (.ref a), .val (.int (Int32.ofNat 9))] [(.ref a2), (.ref a1), (.ref a1)])
    refine Go.st (fun _ k => XS.dup X2.here hx rfl (hb hby dst_385) rfl rfl k) ?_
    show Go p e below _ T2 (mkF m 386 #[.val (.ref a), .val (.int (Int32.ofNat 9))] [(.ref a2), (.ref a2), (.ref a1), (.ref a1)])
    refine Go.st (fun _ k => XS.iconst X2.here hx rfl (hb hby dst_386) k) ?_
    show Go p e below _ T2 (mkF m 387 #[.val (.ref a), .val (.int (Int32.ofNat 9))] [(.int (0 : Int32)), (.ref a2), (.ref a2), (.ref a1), (.ref a1)])
    refine Go.st (fun _ k => XS.aloadN X2.here hx rfl (hb hby dst_387) rfl rfl k) ?_
    show Go p e below _ T2 (mkF m 388 #[.val (.ref a), .val (.int (Int32.ofNat 9))] [(.ref a), (.int (0 : Int32)), (.ref a2), (.ref a2), (.ref a1), (.ref a1)])
    refine Go.st (fun _ k => XS.iconst X2.here hx rfl (hb hby dst_388) k) ?_
    show Go p e below _ T2 (mkF m 389 #[.val (.ref a), .val (.int (Int32.ofNat 9))] [(.int (0 : Int32)), (.ref a), (.int (0 : Int32)), (.ref a2), (.ref a2), (.ref a1), (.ref a1)])
    have A_a := (A.ext E1).ext E2
    have na : a ≠ a2 := Nat.ne_of_lt (Nat.lt_of_lt_of_eq (A.ext E1).lt g2.symm)
    refine Go.caload X2 hx hZ e2 A_a (i := 0) (x := c0) rfl rfl (g := (mkF m 389 #[.val (.ref a), .val (.int (Int32.ofNat 9))] [(.int (0 : Int32)), (.ref a), (.int (0 : Int32)), (.ref a2), (.ref a2), (.ref a1), (.ref a1)])) rfl rfl (hb hby dst_389) ?_
    show Go p e below _ T2 (mkF m 390 #[.val (.ref a), .val (.int (Int32.ofNat 9))] [(.int c0), (.int (0 : Int32)), (.ref a2), (.ref a2), (.ref a1), (.ref a1)])
    refine Go.castore X2 hx hZ e2 A2 (i := 0) rfl (by simp) (g := (mkF m 390 #[.val (.ref a), .val (.int (Int32.ofNat 9))] [(.int c0), (.int (0 : Int32)), (.ref a2), (.ref a2), (.ref a1), (.ref a1)])) rfl rfl (hb hby dst_390) ?_
    rintro T3 h3 X3 e3 W3 A3
    have sW3 := W3.size
    show Go p e below _ T3 (mkF m 391 #[.val (.ref a), .val (.int (Int32.ofNat 9))] [(.ref a2), (.ref a1), (.ref a1)])
    have A_a3 := A_a.other W3 na
    refine Go.st (fun _ k => XS.dup X3.here hx rfl (hb hby dst_391) rfl rfl k) ?_
    show Go p e below _ T3 (mkF m 392 #[.val (.ref a), .val (.int (Int32.ofNat 9))] [(.ref a2), (.ref a2), (.ref a1), (.ref a1)])
    refine Go.st (fun _ k => XS.iconst X3.here hx rfl (hb hby dst_392) k) ?_
    show Go p e below _ T3 (mkF m 393 #[.val (.ref a), .val (.int (Int32.ofNat 9))] [(.int (1 : Int32)), (.ref a2), (.ref a2), (.ref a1), (.ref a1)])
    refine Go.st (fun _ k => XS.aloadN X3.here hx rfl (hb hby dst_393) rfl rfl k) ?_
    show Go p e below _ T3 (mkF m 394 #[.val (.ref a), .val (.int (Int32.ofNat 9))] [(.ref a), (.int (1 : Int32)), (.ref a2), (.ref a2), (.ref a1), (.ref a1)])
    refine Go.st (fun _ k => XS.iconst X3.here hx rfl (hb hby dst_394) k) ?_
    show Go p e below _ T3 (mkF m 395 #[.val (.ref a), .val (.int (Int32.ofNat 9))] [(.int (1 : Int32)), (.ref a), (.int (1 : Int32)), (.ref a2), (.ref a2), (.ref a1), (.ref a1)])
    refine Go.caload X3 hx hZ e3 A_a3 (i := 1) (x := c1) rfl rfl (g := (mkF m 395 #[.val (.ref a), .val (.int (Int32.ofNat 9))] [(.int (1 : Int32)), (.ref a), (.int (1 : Int32)), (.ref a2), (.ref a2), (.ref a1), (.ref a1)])) rfl rfl (hb hby dst_395) ?_
    show Go p e below _ T3 (mkF m 396 #[.val (.ref a), .val (.int (Int32.ofNat 9))] [(.int c1), (.int (1 : Int32)), (.ref a2), (.ref a2), (.ref a1), (.ref a1)])
    refine Go.castore X3 hx hZ e3 A3 (i := 1) rfl (by simp) (g := (mkF m 396 #[.val (.ref a), .val (.int (Int32.ofNat 9))] [(.int c1), (.int (1 : Int32)), (.ref a2), (.ref a2), (.ref a1), (.ref a1)])) rfl rfl (hb hby dst_396) ?_
    rintro T4 h4 X4 e4 W4 A4
    have sW4 := W4.size
    show Go p e below _ T4 (mkF m 397 #[.val (.ref a), .val (.int (Int32.ofNat 9))] [(.ref a2), (.ref a1), (.ref a1)])
    have A_a4 := A_a3.other W4 na
    refine Go.st (fun _ k => XS.dup X4.here hx rfl (hb hby dst_397) rfl rfl k) ?_
    show Go p e below _ T4 (mkF m 398 #[.val (.ref a), .val (.int (Int32.ofNat 9))] [(.ref a2), (.ref a2), (.ref a1), (.ref a1)])
    refine Go.st (fun _ k => XS.iconst X4.here hx rfl (hb hby dst_398) k) ?_
    show Go p e below _ T4 (mkF m 399 #[.val (.ref a), .val (.int (Int32.ofNat 9))] [(.int (2 : Int32)), (.ref a2), (.ref a2), (.ref a1), (.ref a1)])
    refine Go.st (fun _ k => XS.aloadN X4.here hx rfl (hb hby dst_399) rfl rfl k) ?_
    show Go p e below _ T4 (mkF m 400 #[.val (.ref a), .val (.int (Int32.ofNat 9))] [(.ref a), (.int (2 : Int32)), (.ref a2), (.ref a2), (.ref a1), (.ref a1)])
    refine Go.st (fun _ k => XS.iconst X4.here hx rfl (hb hby dst_400) k) ?_
    show Go p e below _ T4 (mkF m 401 #[.val (.ref a), .val (.int (Int32.ofNat 9))] [(.int (2 : Int32)), (.ref a), (.int (2 : Int32)), (.ref a2), (.ref a2), (.ref a1), (.ref a1)])
    refine Go.caload X4 hx hZ e4 A_a4 (i := 2) (x := c2) rfl rfl (g := (mkF m 401 #[.val (.ref a), .val (.int (Int32.ofNat 9))] [(.int (2 : Int32)), (.ref a), (.int (2 : Int32)), (.ref a2), (.ref a2), (.ref a1), (.ref a1)])) rfl rfl (hb hby dst_401) ?_
    show Go p e below _ T4 (mkF m 402 #[.val (.ref a), .val (.int (Int32.ofNat 9))] [(.int c2), (.int (2 : Int32)), (.ref a2), (.ref a2), (.ref a1), (.ref a1)])
    refine Go.castore X4 hx hZ e4 A4 (i := 2) rfl (by simp) (g := (mkF m 402 #[.val (.ref a), .val (.int (Int32.ofNat 9))] [(.int c2), (.int (2 : Int32)), (.ref a2), (.ref a2), (.ref a1), (.ref a1)])) rfl rfl (hb hby dst_402) ?_
    rintro T5 h5 X5 e5 W5 A5
    have sW5 := W5.size
    show Go p e below _ T5 (mkF m 403 #[.val (.ref a), .val (.int (Int32.ofNat 9))] [(.ref a2), (.ref a1), (.ref a1)])
    have A_a5 := A_a4.other W5 na
    refine Go.st (fun _ k => XS.dup X5.here hx rfl (hb hby dst_403) rfl rfl k) ?_
    show Go p e below _ T5 (mkF m 404 #[.val (.ref a), .val (.int (Int32.ofNat 9))] [(.ref a2), (.ref a2), (.ref a1), (.ref a1)])
    refine Go.st (fun _ k => XS.iconst X5.here hx rfl (hb hby dst_404) k) ?_
    show Go p e below _ T5 (mkF m 405 #[.val (.ref a), .val (.int (Int32.ofNat 9))] [(.int (3 : Int32)), (.ref a2), (.ref a2), (.ref a1), (.ref a1)])
    refine Go.st (fun _ k => XS.aloadN X5.here hx rfl (hb hby dst_405) rfl rfl k) ?_
    show Go p e below _ T5 (mkF m 406 #[.val (.ref a), .val (.int (Int32.ofNat 9))] [(.ref a), (.int (3 : Int32)), (.ref a2), (.ref a2), (.ref a1), (.ref a1)])
    refine Go.st (fun _ k => XS.iconst X5.here hx rfl (hb hby dst_406) k) ?_
    show Go p e below _ T5 (mkF m 407 #[.val (.ref a), .val (.int (Int32.ofNat 9))] [(.int (3 : Int32)), (.ref a), (.int (3 : Int32)), (.ref a2), (.ref a2), (.ref a1), (.ref a1)])
    refine Go.caload X5 hx hZ e5 A_a5 (i := 3) (x := c3) rfl rfl (g := (mkF m 407 #[.val (.ref a), .val (.int (Int32.ofNat 9))] [(.int (3 : Int32)), (.ref a), (.int (3 : Int32)), (.ref a2), (.ref a2), (.ref a1), (.ref a1)])) rfl rfl (hb hby dst_407) ?_
    show Go p e below _ T5 (mkF m 408 #[.val (.ref a), .val (.int (Int32.ofNat 9))] [(.int c3), (.int (3 : Int32)), (.ref a2), (.ref a2), (.ref a1), (.ref a1)])
    refine Go.castore X5 hx hZ e5 A5 (i := 3) rfl (by simp) (g := (mkF m 408 #[.val (.ref a), .val (.int (Int32.ofNat 9))] [(.int c3), (.int (3 : Int32)), (.ref a2), (.ref a2), (.ref a1), (.ref a1)])) rfl rfl (hb hby dst_408) ?_
    rintro T6 h6 X6 e6 W6 A6
    have sW6 := W6.size
    show Go p e below _ T6 (mkF m 409 #[.val (.ref a), .val (.int (Int32.ofNat 9))] [(.ref a2), (.ref a1), (.ref a1)])
    have A_a6 := A_a5.other W6 na
    refine Go.st (fun _ k => XS.dup X6.here hx rfl (hb hby dst_409) rfl rfl k) ?_
    show Go p e below _ T6 (mkF m 410 #[.val (.ref a), .val (.int (Int32.ofNat 9))] [(.ref a2), (.ref a2), (.ref a1), (.ref a1)])
    refine Go.st (fun _ k => XS.iconst X6.here hx rfl (hb hby dst_410) k) ?_
    show Go p e below _ T6 (mkF m 411 #[.val (.ref a), .val (.int (Int32.ofNat 9))] [(.int (4 : Int32)), (.ref a2), (.ref a2), (.ref a1), (.ref a1)])
    refine Go.st (fun _ k => XS.aloadN X6.here hx rfl (hb hby dst_411) rfl rfl k) ?_
    show Go p e below _ T6 (mkF m 412 #[.val (.ref a), .val (.int (Int32.ofNat 9))] [(.ref a), (.int (4 : Int32)), (.ref a2), (.ref a2), (.ref a1), (.ref a1)])
    refine Go.st (fun _ k => XS.iconst X6.here hx rfl (hb hby dst_412) k) ?_
    show Go p e below _ T6 (mkF m 413 #[.val (.ref a), .val (.int (Int32.ofNat 9))] [(.int (4 : Int32)), (.ref a), (.int (4 : Int32)), (.ref a2), (.ref a2), (.ref a1), (.ref a1)])
    refine Go.caload X6 hx hZ e6 A_a6 (i := 4) (x := c4) rfl rfl (g := (mkF m 413 #[.val (.ref a), .val (.int (Int32.ofNat 9))] [(.int (4 : Int32)), (.ref a), (.int (4 : Int32)), (.ref a2), (.ref a2), (.ref a1), (.ref a1)])) rfl rfl (hb hby dst_413) ?_
    show Go p e below _ T6 (mkF m 414 #[.val (.ref a), .val (.int (Int32.ofNat 9))] [(.int c4), (.int (4 : Int32)), (.ref a2), (.ref a2), (.ref a1), (.ref a1)])
    refine Go.castore X6 hx hZ e6 A6 (i := 4) rfl (by simp) (g := (mkF m 414 #[.val (.ref a), .val (.int (Int32.ofNat 9))] [(.int c4), (.int (4 : Int32)), (.ref a2), (.ref a2), (.ref a1), (.ref a1)])) rfl rfl (hb hby dst_414) ?_
    rintro T7 h7 X7 e7 W7 A7
    have sW7 := W7.size
    show Go p e below _ T7 (mkF m 415 #[.val (.ref a), .val (.int (Int32.ofNat 9))] [(.ref a2), (.ref a1), (.ref a1)])
    have A_a7 := A_a6.other W7 na
    refine Go.st (fun _ k => XS.dup X7.here hx rfl (hb hby dst_415) rfl rfl k) ?_
    show Go p e below _ T7 (mkF m 416 #[.val (.ref a), .val (.int (Int32.ofNat 9))] [(.ref a2), (.ref a2), (.ref a1), (.ref a1)])
    refine Go.st (fun _ k => XS.iconst X7.here hx rfl (hb hby dst_416) k) ?_
    show Go p e below _ T7 (mkF m 417 #[.val (.ref a), .val (.int (Int32.ofNat 9))] [(.int (5 : Int32)), (.ref a2), (.ref a2), (.ref a1), (.ref a1)])
    refine Go.st (fun _ k => XS.aloadN X7.here hx rfl (hb hby dst_417) rfl rfl k) ?_
    show Go p e below _ T7 (mkF m 418 #[.val (.ref a), .val (.int (Int32.ofNat 9))] [(.ref a), (.int (5 : Int32)), (.ref a2), (.ref a2), (.ref a1), (.ref a1)])
    refine Go.st (fun _ k => XS.iconst X7.here hx rfl (hb hby dst_418) k) ?_
    show Go p e below _ T7 (mkF m 419 #[.val (.ref a), .val (.int (Int32.ofNat 9))] [(.int (5 : Int32)), (.ref a), (.int (5 : Int32)), (.ref a2), (.ref a2), (.ref a1), (.ref a1)])
    refine Go.caload X7 hx hZ e7 A_a7 (i := 5) (x := c5) rfl rfl (g := (mkF m 419 #[.val (.ref a), .val (.int (Int32.ofNat 9))] [(.int (5 : Int32)), (.ref a), (.int (5 : Int32)), (.ref a2), (.ref a2), (.ref a1), (.ref a1)])) rfl rfl (hb hby dst_419) ?_
    show Go p e below _ T7 (mkF m 420 #[.val (.ref a), .val (.int (Int32.ofNat 9))] [(.int c5), (.int (5 : Int32)), (.ref a2), (.ref a2), (.ref a1), (.ref a1)])
    refine Go.castore X7 hx hZ e7 A7 (i := 5) rfl (by simp) (g := (mkF m 420 #[.val (.ref a), .val (.int (Int32.ofNat 9))] [(.int c5), (.int (5 : Int32)), (.ref a2), (.ref a2), (.ref a1), (.ref a1)])) rfl rfl (hb hby dst_420) ?_
    rintro T8 h8 X8 e8 W8 A8
    have sW8 := W8.size
    show Go p e below _ T8 (mkF m 421 #[.val (.ref a), .val (.int (Int32.ofNat 9))] [(.ref a2), (.ref a1), (.ref a1)])
    have A_a8 := A_a7.other W8 na
    refine Go.st (fun _ k => XS.dup X8.here hx rfl (hb hby dst_421) rfl rfl k) ?_
    show Go p e below _ T8 (mkF m 422 #[.val (.ref a), .val (.int (Int32.ofNat 9))] [(.ref a2), (.ref a2), (.ref a1), (.ref a1)])
    refine Go.st (fun _ k => XS.bipush X8.here hx rfl (hb hby dst_422) k) ?_
    show Go p e below _ T8 (mkF m 424 #[.val (.ref a), .val (.int (Int32.ofNat 9))] [(.int (6 : Int32)), (.ref a2), (.ref a2), (.ref a1), (.ref a1)])
    refine Go.st (fun _ k => XS.aloadN X8.here hx rfl (hb hby dst_424) rfl rfl k) ?_
    show Go p e below _ T8 (mkF m 425 #[.val (.ref a), .val (.int (Int32.ofNat 9))] [(.ref a), (.int (6 : Int32)), (.ref a2), (.ref a2), (.ref a1), (.ref a1)])
    refine Go.st (fun _ k => XS.bipush X8.here hx rfl (hb hby dst_425) k) ?_
    show Go p e below _ T8 (mkF m 427 #[.val (.ref a), .val (.int (Int32.ofNat 9))] [(.int (6 : Int32)), (.ref a), (.int (6 : Int32)), (.ref a2), (.ref a2), (.ref a1), (.ref a1)])
    refine Go.caload X8 hx hZ e8 A_a8 (i := 6) (x := c6) rfl rfl (g := (mkF m 427 #[.val (.ref a), .val (.int (Int32.ofNat 9))] [(.int (6 : Int32)), (.ref a), (.int (6 : Int32)), (.ref a2), (.ref a2), (.ref a1), (.ref a1)])) rfl rfl (hb hby dst_427) ?_
    show Go p e below _ T8 (mkF m 428 #[.val (.ref a), .val (.int (Int32.ofNat 9))] [(.int c6), (.int (6 : Int32)), (.ref a2), (.ref a2), (.ref a1), (.ref a1)])
    refine Go.castore X8 hx hZ e8 A8 (i := 6) rfl (by simp) (g := (mkF m 428 #[.val (.ref a), .val (.int (Int32.ofNat 9))] [(.int c6), (.int (6 : Int32)), (.ref a2), (.ref a2), (.ref a1), (.ref a1)])) rfl rfl (hb hby dst_428) ?_
    rintro T9 h9 X9 e9 W9 A9
    have sW9 := W9.size
    show Go p e below _ T9 (mkF m 429 #[.val (.ref a), .val (.int (Int32.ofNat 9))] [(.ref a2), (.ref a1), (.ref a1)])
    have A_a9 := A_a8.other W9 na
    refine Go.st (fun _ k => XS.dup X9.here hx rfl (hb hby dst_429) rfl rfl k) ?_
    show Go p e below _ T9 (mkF m 430 #[.val (.ref a), .val (.int (Int32.ofNat 9))] [(.ref a2), (.ref a2), (.ref a1), (.ref a1)])
    refine Go.st (fun _ k => XS.bipush X9.here hx rfl (hb hby dst_430) k) ?_
    show Go p e below _ T9 (mkF m 432 #[.val (.ref a), .val (.int (Int32.ofNat 9))] [(.int (7 : Int32)), (.ref a2), (.ref a2), (.ref a1), (.ref a1)])
    refine Go.st (fun _ k => XS.aloadN X9.here hx rfl (hb hby dst_432) rfl rfl k) ?_
    show Go p e below _ T9 (mkF m 433 #[.val (.ref a), .val (.int (Int32.ofNat 9))] [(.ref a), (.int (7 : Int32)), (.ref a2), (.ref a2), (.ref a1), (.ref a1)])
    refine Go.st (fun _ k => XS.bipush X9.here hx rfl (hb hby dst_433) k) ?_
    show Go p e below _ T9 (mkF m 435 #[.val (.ref a), .val (.int (Int32.ofNat 9))] [(.int (7 : Int32)), (.ref a), (.int (7 : Int32)), (.ref a2), (.ref a2), (.ref a1), (.ref a1)])
    refine Go.caload X9 hx hZ e9 A_a9 (i := 7) (x := c7) rfl rfl (g := (mkF m 435 #[.val (.ref a), .val (.int (Int32.ofNat 9))] [(.int (7 : Int32)), (.ref a), (.int (7 : Int32)), (.ref a2), (.ref a2), (.ref a1), (.ref a1)])) rfl rfl (hb hby dst_435) ?_
    show Go p e below _ T9 (mkF m 436 #[.val (.ref a), .val (.int (Int32.ofNat 9))] [(.int c7), (.int (7 : Int32)), (.ref a2), (.ref a2), (.ref a1), (.ref a1)])
    refine Go.castore X9 hx hZ e9 A9 (i := 7) rfl (by simp) (g := (mkF m 436 #[.val (.ref a), .val (.int (Int32.ofNat 9))] [(.int c7), (.int (7 : Int32)), (.ref a2), (.ref a2), (.ref a1), (.ref a1)])) rfl rfl (hb hby dst_436) ?_
    rintro T10 h10 X10 e10 W10 A10
    have sW10 := W10.size
    show Go p e below _ T10 (mkF m 437 #[.val (.ref a), .val (.int (Int32.ofNat 9))] [(.ref a2), (.ref a1), (.ref a1)])
    have A_a10 := A_a9.other W10 na
    refine Go.st (fun _ k => XS.dup X10.here hx rfl (hb hby dst_437) rfl rfl k) ?_
    show Go p e below _ T10 (mkF m 438 #[.val (.ref a), .val (.int (Int32.ofNat 9))] [(.ref a2), (.ref a2), (.ref a1), (.ref a1)])
    refine Go.st (fun _ k => XS.bipush X10.here hx rfl (hb hby dst_438) k) ?_
    show Go p e below _ T10 (mkF m 440 #[.val (.ref a), .val (.int (Int32.ofNat 9))] [(.int (8 : Int32)), (.ref a2), (.ref a2), (.ref a1), (.ref a1)])
    refine Go.st (fun _ k => XS.aloadN X10.here hx rfl (hb hby dst_440) rfl rfl k) ?_
    show Go p e below _ T10 (mkF m 441 #[.val (.ref a), .val (.int (Int32.ofNat 9))] [(.ref a), (.int (8 : Int32)), (.ref a2), (.ref a2), (.ref a1), (.ref a1)])
    refine Go.st (fun _ k => XS.bipush X10.here hx rfl (hb hby dst_441) k) ?_
    show Go p e below _ T10 (mkF m 443 #[.val (.ref a), .val (.int (Int32.ofNat 9))] [(.int (8 : Int32)), (.ref a), (.int (8 : Int32)), (.ref a2), (.ref a2), (.ref a1), (.ref a1)])
    refine Go.caload X10 hx hZ e10 A_a10 (i := 8) (x := c8) rfl rfl (g := (mkF m 443 #[.val (.ref a), .val (.int (Int32.ofNat 9))] [(.int (8 : Int32)), (.ref a), (.int (8 : Int32)), (.ref a2), (.ref a2), (.ref a1), (.ref a1)])) rfl rfl (hb hby dst_443) ?_
    show Go p e below _ T10 (mkF m 444 #[.val (.ref a), .val (.int (Int32.ofNat 9))] [(.int c8), (.int (8 : Int32)), (.ref a2), (.ref a2), (.ref a1), (.ref a1)])
    refine Go.castore X10 hx hZ e10 A10 (i := 8) rfl (by simp) (g := (mkF m 444 #[.val (.ref a), .val (.int (Int32.ofNat 9))] [(.int c8), (.int (8 : Int32)), (.ref a2), (.ref a2), (.ref a1), (.ref a1)])) rfl rfl (hb hby dst_444) ?_
    rintro T11 h11 X11 e11 W11 A11
    have sW11 := W11.size
    show Go p e below _ T11 (mkF m 445 #[.val (.ref a), .val (.int (Int32.ofNat 9))] [(.ref a2), (.ref a1), (.ref a1)])
    have A_a11 := A_a10.other W11 na
    have n12 : a1 ≠ a2 := Nat.ne_of_lt (by omega)
    have Ac : AI Z h11 a2 .char ([c0, c1, c2, c3, c4, c5, c6, c7, c8] : List Int32) := by
      have q : AI Z h11 a2 .char [nar .char c0, nar .char c1, nar .char c2, nar .char c3, nar .char c4, nar .char c5, nar .char c6, nar .char c7, nar .char c8] := A11
      rwa [e_0, e_1, e_2, e_3, e_4, e_5, e_6, e_7, e_8] at q
    have hp : ∀ c ∈ ([c0, c1, c2, c3, c4, c5, c6, c7, c8] : List Int32), ¬ c < 0 ∧ ¬ (65535 : Int32) < c := fun c hc => hbd c (List.mem_of_mem_take (i := 9) hc)
    have Ok : Old Z n0 h11 := (((((((((((X00.ext E1).ext E2).wr W3 (by omega)).wr W4 (by omega)).wr W5 (by omega)).wr W6 (by omega)).wr W7 (by omega)).wr W8 (by omega)).wr W9 (by omega)).wr W10 (by omega)).wr W11 (by omega))
    have Kk : Keep h0 h11 [] := ((((((((((((Keep.refl h0 []).ext E1).ext E2).wr W3 (Or.inr (by omega))).wr W4 (Or.inr (by omega))).wr W5 (Or.inr (by omega))).wr W6 (Or.inr (by omega))).wr W7 (Or.inr (by omega))).wr W8 (Or.inr (by omega))).wr W9 (Or.inr (by omega))).wr W10 (Or.inr (by omega))).wr W11 (Or.inr (by omega)))
    have Nk := (Fr.snoc X11 (Fr.snoc X10 (Fr.snoc X9 (Fr.snoc X8 (Fr.snoc X7 (Fr.snoc X6 (Fr.snoc X5 (Fr.snoc X4 (Fr.snoc X3 (Fr.nil n0) (by omega)) (by omega)) (by omega)) (by omega)) (by omega)) (by omega)) (by omega)) (by omega)) (by omega))
    refine Go.callI X11 hx (y := (⟨"java/lang/String", "<init>", "([C)V"⟩ : MethodName)) rfl hown (mvT hZ (hw _ (List.mem_of_getElem? (i := 12) rfl))) (mvT hZ (hw _ (List.mem_of_getElem? (i := 13) rfl))) (mvT hZ (hw _ (List.mem_of_getElem? (i := 14) rfl))) (by decide) (Ctr.back (W := 1) (rmI1 l Z a0 hw z Su ([c0, c1, c2, c3, c4, c5, c6, c7, c8] : List Int32) (by simp) (by simp) hp a1 a2 _ _ h11 n0 (by omega) (by omega) Ok ((((((((((A1.ext E2).wr W3).wr W4).wr W5).wr W6).wr W7).wr W8).wr W9).wr W10).wr W11) (((((((((((D1 (Or.inr (hw _ (List.mem_of_getElem? (i := 37) rfl))) (ty := (.array .byte)) (by decide)).ext E2).other W3 (Or.inl n12)).other W4 (Or.inl n12)).other W5 (Or.inl n12)).other W6 (Or.inl n12)).other W7 (Or.inl n12)).other W8 (Or.inl n12)).other W9 (Or.inl n12)).other W10 (Or.inl n12)).other W11 (Or.inl n12)) (((((((((((D1 (Or.inr (hw _ (List.mem_of_getElem? (i := 35) rfl))) (ty := .byte) (by decide)).ext E2).other W3 (Or.inl n12)).other W4 (Or.inl n12)).other W5 (Or.inl n12)).other W6 (Or.inl n12)).other W7 (Or.inl n12)).other W8 (Or.inl n12)).other W9 (Or.inl n12)).other W10 (Or.inl n12)).other W11 (Or.inl n12)) Ac) hZ (hw _ (List.mem_of_getElem? (i := 14) rfl)) (hw _ (List.mem_of_getElem? (i := 11) rfl)) (by (try dsimp only [room_1]); (try simp only [List.length_cons, List.length_nil]); omega) (by (try dsimp only [room_1]); (try simp only [List.length_cons, List.length_nil]); omega)) e11 (g := (mkF m 445 #[.val (.ref a), .val (.int (Int32.ofNat 9))] [(.ref a2), (.ref a1), (.ref a1)])) rfl (by rw [hml]; rfl) (a := a1) (argsL := [(.ref a2)]) (rest := [(.ref a1)]) (lenOf pd_18 rfl) rfl (by show 2 * 0 + _ ≤ _; exact Nat.le_of_eq rfl) (hb hby dst_445) rfl (by (try dsimp only [room_1]); (try simp only [List.length_cons, List.length_nil]); omega) (by (try dsimp only [room_1]); (try simp only [List.length_cons, List.length_nil]); omega) ?_
    rintro _ T99 L99 X99 ⟨rfl, N99, K99, E99, G99, t, F99, B99, ht⟩
    show Go p e below _ T99 (mkF m 448 #[.val (.ref a), .val (.int (Int32.ofNat 9))] [(.ref a1)])
    have K09 : Keep h0 T99.heap [] := Kk.trans K99 (fun x q => Or.inr (by cases List.mem_singleton.mp q; omega))
    exact Go.retVW X99 hx (Bas.refl s 0) (Nat.zero_le _) hC0 (UX K09) hret hlk rfl rfl (hb hby dst_448) ⟨a1, t, rfl, Fr.app Nk N99, K09, E99, G99, F99, B99⟩ (by (try dsimp only [room_1]); (try simp only [List.length_cons, List.length_nil]); omega) (by (try dsimp only [room_1]); (try simp only [List.length_cons, List.length_nil]); omega)
  refine Go.st (fun _ k => XS.icmpYes X0.here hx rfl (pc0 := 374) (pc' := 449) rfl (hb hby dst_374) rfl (XT.ii_ne_t qn) (by decide) (by decide) k) ?_
  show Go p e below _ s₁ (mkF m 449 #[.val (.ref a), .val (.int (Int32.ofNat n))] [])
  have nn9 : n ≠ 9 := fun z => qn (by rw [z]; rfl)
  clear qn
  obtain rfl : n = 10 := by omega
  show Go p e below _ s₁ (mkF m 449 #[.val (.ref a), .val (.int (Int32.ofNat 10))] [])
  obtain ⟨T1, h1, X1, e1, E1, A1, D1, -, st1⟩ := newO X0 hx hZ hown (hw _ (List.mem_of_getElem? (i := 9) rfl)) (hw _ (List.mem_of_getElem? (i := 10) rfl)) (hw _ (List.mem_of_getElem? (i := 11) rfl)) e0 (g := (mkF m 449 #[.val (.ref a), .val (.int (Int32.ofNat 10))] [])) rfl (hb hby dst_449) (by (try dsimp only [room_1]); (try simp only [List.length_cons, List.length_nil]); omega) (by (try dsimp only [room_1]); (try simp only [List.length_cons, List.length_nil]); omega)
  obtain ⟨a1, g1⟩ : ∃ z, z = h0.size := ⟨_, rfl⟩
  rw [← g1] at A1 D1 st1
  have l1 : a1 < h1.size := A1.lt
  have sE1 := E1.1
  refine Go.st st1 ?_
  show Go p e below _ T1 (mkF m 452 #[.val (.ref a), .val (.int (Int32.ofNat 10))] [(.ref a1)])
  refine Go.st (fun _ k => XS.dup X1.here hx rfl (hb hby dst_452) rfl rfl k) ?_
  show Go p e below _ T1 (mkF m 453 #[.val (.ref a), .val (.int (Int32.ofNat 10))] [(.ref a1), (.ref a1)])
  refine Go.st (fun _ k => XS.bipush X1.here hx rfl (hb hby dst_453) k) ?_
  show Go p e below _ T1 (mkF m 455 #[.val (.ref a), .val (.int (Int32.ofNat 10))] [(.int (10 : Int32)), (.ref a1), (.ref a1)])
  refine Go.newarr X1 hx hZ (ty := .char) rfl rfl (hw _ (List.mem_of_getElem? (i := 0) rfl)) e1 (g := (mkF m 455 #[.val (.ref a), .val (.int (Int32.ofNat 10))] [(.int (10 : Int32)), (.ref a1), (.ref a1)])) rfl (hb hby dst_455) rfl (n := 10) rfl (by decide) (by (try dsimp only [room_1]); (try simp only [List.length_cons, List.length_nil]); omega) (by (try dsimp only [room_1]); (try simp only [List.length_cons, List.length_nil]); omega) ?_
  rintro T2 h2 X2 e2 E2 l2 A2
  obtain ⟨a2, g2⟩ : ∃ z, z = h1.size := ⟨_, rfl⟩
  rw [← g2] at A2 l2 ⊢
  have sE2 := E2.1
  show Go p e below _ T2 (mkF m 457 #[.val (.ref a), .val (.int (Int32.ofNat 10))] [(.ref a2), (.ref a1), (.ref a1)])
  refine Go.st (fun _ k => XS.dup X2.here hx rfl (hb hby dst_457) rfl rfl k) ?_
  show Go p e below _ T2 (mkF m 458 #[.val (.ref a), .val (.int (Int32.ofNat 10))] [(.ref a2), (.ref a2), (.ref a1), (.ref a1)])
  refine Go.st (fun _ k => XS.iconst X2.here hx rfl (hb hby dst_458) k) ?_
  show Go p e below _ T2 (mkF m 459 #[.val (.ref a), .val (.int (Int32.ofNat 10))] [(.int (0 : Int32)), (.ref a2), (.ref a2), (.ref a1), (.ref a1)])
  refine Go.st (fun _ k => XS.aloadN X2.here hx rfl (hb hby dst_459) rfl rfl k) ?_
  show Go p e below _ T2 (mkF m 460 #[.val (.ref a), .val (.int (Int32.ofNat 10))] [(.ref a), (.int (0 : Int32)), (.ref a2), (.ref a2), (.ref a1), (.ref a1)])
  refine Go.st (fun _ k => XS.iconst X2.here hx rfl (hb hby dst_460) k) ?_
  show Go p e below _ T2 (mkF m 461 #[.val (.ref a), .val (.int (Int32.ofNat 10))] [(.int (0 : Int32)), (.ref a), (.int (0 : Int32)), (.ref a2), (.ref a2), (.ref a1), (.ref a1)])
  have A_a := (A.ext E1).ext E2
  have na : a ≠ a2 := Nat.ne_of_lt (Nat.lt_of_lt_of_eq (A.ext E1).lt g2.symm)
  refine Go.caload X2 hx hZ e2 A_a (i := 0) (x := c0) rfl rfl (g := (mkF m 461 #[.val (.ref a), .val (.int (Int32.ofNat 10))] [(.int (0 : Int32)), (.ref a), (.int (0 : Int32)), (.ref a2), (.ref a2), (.ref a1), (.ref a1)])) rfl rfl (hb hby dst_461) ?_
  show Go p e below _ T2 (mkF m 462 #[.val (.ref a), .val (.int (Int32.ofNat 10))] [(.int c0), (.int (0 : Int32)), (.ref a2), (.ref a2), (.ref a1), (.ref a1)])
  refine Go.castore X2 hx hZ e2 A2 (i := 0) rfl (by simp) (g := (mkF m 462 #[.val (.ref a), .val (.int (Int32.ofNat 10))] [(.int c0), (.int (0 : Int32)), (.ref a2), (.ref a2), (.ref a1), (.ref a1)])) rfl rfl (hb hby dst_462) ?_
  rintro T3 h3 X3 e3 W3 A3
  have sW3 := W3.size
  show Go p e below _ T3 (mkF m 463 #[.val (.ref a), .val (.int (Int32.ofNat 10))] [(.ref a2), (.ref a1), (.ref a1)])
  have A_a3 := A_a.other W3 na
  refine Go.st (fun _ k => XS.dup X3.here hx rfl (hb hby dst_463) rfl rfl k) ?_
  show Go p e below _ T3 (mkF m 464 #[.val (.ref a), .val (.int (Int32.ofNat 10))] [(.ref a2), (.ref a2), (.ref a1), (.ref a1)])
  refine Go.st (fun _ k => XS.iconst X3.here hx rfl (hb hby dst_464) k) ?_
  show Go p e below _ T3 (mkF m 465 #[.val (.ref a), .val (.int (Int32.ofNat 10))] [(.int (1 : Int32)), (.ref a2), (.ref a2), (.ref a1), (.ref a1)])
  refine Go.st (fun _ k => XS.aloadN X3.here hx rfl (hb hby dst_465) rfl rfl k) ?_
  show Go p e below _ T3 (mkF m 466 #[.val (.ref a), .val (.int (Int32.ofNat 10))] [(.ref a), (.int (1 : Int32)), (.ref a2), (.ref a2), (.ref a1), (.ref a1)])
  refine Go.st (fun _ k => XS.iconst X3.here hx rfl (hb hby dst_466) k) ?_
  show Go p e below _ T3 (mkF m 467 #[.val (.ref a), .val (.int (Int32.ofNat 10))] [(.int (1 : Int32)), (.ref a), (.int (1 : Int32)), (.ref a2), (.ref a2), (.ref a1), (.ref a1)])
  refine Go.caload X3 hx hZ e3 A_a3 (i := 1) (x := c1) rfl rfl (g := (mkF m 467 #[.val (.ref a), .val (.int (Int32.ofNat 10))] [(.int (1 : Int32)), (.ref a), (.int (1 : Int32)), (.ref a2), (.ref a2), (.ref a1), (.ref a1)])) rfl rfl (hb hby dst_467) ?_
  show Go p e below _ T3 (mkF m 468 #[.val (.ref a), .val (.int (Int32.ofNat 10))] [(.int c1), (.int (1 : Int32)), (.ref a2), (.ref a2), (.ref a1), (.ref a1)])
  refine Go.castore X3 hx hZ e3 A3 (i := 1) rfl (by simp) (g := (mkF m 468 #[.val (.ref a), .val (.int (Int32.ofNat 10))] [(.int c1), (.int (1 : Int32)), (.ref a2), (.ref a2), (.ref a1), (.ref a1)])) rfl rfl (hb hby dst_468) ?_
  rintro T4 h4 X4 e4 W4 A4
  have sW4 := W4.size
  show Go p e below _ T4 (mkF m 469 #[.val (.ref a), .val (.int (Int32.ofNat 10))] [(.ref a2), (.ref a1), (.ref a1)])
  have A_a4 := A_a3.other W4 na
  refine Go.st (fun _ k => XS.dup X4.here hx rfl (hb hby dst_469) rfl rfl k) ?_
  show Go p e below _ T4 (mkF m 470 #[.val (.ref a), .val (.int (Int32.ofNat 10))] [(.ref a2), (.ref a2), (.ref a1), (.ref a1)])
  refine Go.st (fun _ k => XS.iconst X4.here hx rfl (hb hby dst_470) k) ?_
  show Go p e below _ T4 (mkF m 471 #[.val (.ref a), .val (.int (Int32.ofNat 10))] [(.int (2 : Int32)), (.ref a2), (.ref a2), (.ref a1), (.ref a1)])
  refine Go.st (fun _ k => XS.aloadN X4.here hx rfl (hb hby dst_471) rfl rfl k) ?_
  show Go p e below _ T4 (mkF m 472 #[.val (.ref a), .val (.int (Int32.ofNat 10))] [(.ref a), (.int (2 : Int32)), (.ref a2), (.ref a2), (.ref a1), (.ref a1)])
  refine Go.st (fun _ k => XS.iconst X4.here hx rfl (hb hby dst_472) k) ?_
  show Go p e below _ T4 (mkF m 473 #[.val (.ref a), .val (.int (Int32.ofNat 10))] [(.int (2 : Int32)), (.ref a), (.int (2 : Int32)), (.ref a2), (.ref a2), (.ref a1), (.ref a1)])
  refine Go.caload X4 hx hZ e4 A_a4 (i := 2) (x := c2) rfl rfl (g := (mkF m 473 #[.val (.ref a), .val (.int (Int32.ofNat 10))] [(.int (2 : Int32)), (.ref a), (.int (2 : Int32)), (.ref a2), (.ref a2), (.ref a1), (.ref a1)])) rfl rfl (hb hby dst_473) ?_
  show Go p e below _ T4 (mkF m 474 #[.val (.ref a), .val (.int (Int32.ofNat 10))] [(.int c2), (.int (2 : Int32)), (.ref a2), (.ref a2), (.ref a1), (.ref a1)])
  refine Go.castore X4 hx hZ e4 A4 (i := 2) rfl (by simp) (g := (mkF m 474 #[.val (.ref a), .val (.int (Int32.ofNat 10))] [(.int c2), (.int (2 : Int32)), (.ref a2), (.ref a2), (.ref a1), (.ref a1)])) rfl rfl (hb hby dst_474) ?_
  rintro T5 h5 X5 e5 W5 A5
  have sW5 := W5.size
  show Go p e below _ T5 (mkF m 475 #[.val (.ref a), .val (.int (Int32.ofNat 10))] [(.ref a2), (.ref a1), (.ref a1)])
  have A_a5 := A_a4.other W5 na
  refine Go.st (fun _ k => XS.dup X5.here hx rfl (hb hby dst_475) rfl rfl k) ?_
  show Go p e below _ T5 (mkF m 476 #[.val (.ref a), .val (.int (Int32.ofNat 10))] [(.ref a2), (.ref a2), (.ref a1), (.ref a1)])
  refine Go.st (fun _ k => XS.iconst X5.here hx rfl (hb hby dst_476) k) ?_
  show Go p e below _ T5 (mkF m 477 #[.val (.ref a), .val (.int (Int32.ofNat 10))] [(.int (3 : Int32)), (.ref a2), (.ref a2), (.ref a1), (.ref a1)])
  refine Go.st (fun _ k => XS.aloadN X5.here hx rfl (hb hby dst_477) rfl rfl k) ?_
  show Go p e below _ T5 (mkF m 478 #[.val (.ref a), .val (.int (Int32.ofNat 10))] [(.ref a), (.int (3 : Int32)), (.ref a2), (.ref a2), (.ref a1), (.ref a1)])
  refine Go.st (fun _ k => XS.iconst X5.here hx rfl (hb hby dst_478) k) ?_
  show Go p e below _ T5 (mkF m 479 #[.val (.ref a), .val (.int (Int32.ofNat 10))] [(.int (3 : Int32)), (.ref a), (.int (3 : Int32)), (.ref a2), (.ref a2), (.ref a1), (.ref a1)])
  refine Go.caload X5 hx hZ e5 A_a5 (i := 3) (x := c3) rfl rfl (g := (mkF m 479 #[.val (.ref a), .val (.int (Int32.ofNat 10))] [(.int (3 : Int32)), (.ref a), (.int (3 : Int32)), (.ref a2), (.ref a2), (.ref a1), (.ref a1)])) rfl rfl (hb hby dst_479) ?_
  show Go p e below _ T5 (mkF m 480 #[.val (.ref a), .val (.int (Int32.ofNat 10))] [(.int c3), (.int (3 : Int32)), (.ref a2), (.ref a2), (.ref a1), (.ref a1)])
  refine Go.castore X5 hx hZ e5 A5 (i := 3) rfl (by simp) (g := (mkF m 480 #[.val (.ref a), .val (.int (Int32.ofNat 10))] [(.int c3), (.int (3 : Int32)), (.ref a2), (.ref a2), (.ref a1), (.ref a1)])) rfl rfl (hb hby dst_480) ?_
  rintro T6 h6 X6 e6 W6 A6
  have sW6 := W6.size
  show Go p e below _ T6 (mkF m 481 #[.val (.ref a), .val (.int (Int32.ofNat 10))] [(.ref a2), (.ref a1), (.ref a1)])
  have A_a6 := A_a5.other W6 na
  refine Go.st (fun _ k => XS.dup X6.here hx rfl (hb hby dst_481) rfl rfl k) ?_
  show Go p e below _ T6 (mkF m 482 #[.val (.ref a), .val (.int (Int32.ofNat 10))] [(.ref a2), (.ref a2), (.ref a1), (.ref a1)])
  refine Go.st (fun _ k => XS.iconst X6.here hx rfl (hb hby dst_482) k) ?_
  show Go p e below _ T6 (mkF m 483 #[.val (.ref a), .val (.int (Int32.ofNat 10))] [(.int (4 : Int32)), (.ref a2), (.ref a2), (.ref a1), (.ref a1)])
  refine Go.st (fun _ k => XS.aloadN X6.here hx rfl (hb hby dst_483) rfl rfl k) ?_
  show Go p e below _ T6 (mkF m 484 #[.val (.ref a), .val (.int (Int32.ofNat 10))] [(.ref a), (.int (4 : Int32)), (.ref a2), (.ref a2), (.ref a1), (.ref a1)])
  refine Go.st (fun _ k => XS.iconst X6.here hx rfl (hb hby dst_484) k) ?_
  show Go p e below _ T6 (mkF m 485 #[.val (.ref a), .val (.int (Int32.ofNat 10))] [(.int (4 : Int32)), (.ref a), (.int (4 : Int32)), (.ref a2), (.ref a2), (.ref a1), (.ref a1)])
  refine Go.caload X6 hx hZ e6 A_a6 (i := 4) (x := c4) rfl rfl (g := (mkF m 485 #[.val (.ref a), .val (.int (Int32.ofNat 10))] [(.int (4 : Int32)), (.ref a), (.int (4 : Int32)), (.ref a2), (.ref a2), (.ref a1), (.ref a1)])) rfl rfl (hb hby dst_485) ?_
  show Go p e below _ T6 (mkF m 486 #[.val (.ref a), .val (.int (Int32.ofNat 10))] [(.int c4), (.int (4 : Int32)), (.ref a2), (.ref a2), (.ref a1), (.ref a1)])
  refine Go.castore X6 hx hZ e6 A6 (i := 4) rfl (by simp) (g := (mkF m 486 #[.val (.ref a), .val (.int (Int32.ofNat 10))] [(.int c4), (.int (4 : Int32)), (.ref a2), (.ref a2), (.ref a1), (.ref a1)])) rfl rfl (hb hby dst_486) ?_
  rintro T7 h7 X7 e7 W7 A7
  have sW7 := W7.size
  show Go p e below _ T7 (mkF m 487 #[.val (.ref a), .val (.int (Int32.ofNat 10))] [(.ref a2), (.ref a1), (.ref a1)])
  have A_a7 := A_a6.other W7 na
  refine Go.st (fun _ k => XS.dup X7.here hx rfl (hb hby dst_487) rfl rfl k) ?_
  show Go p e below _ T7 (mkF m 488 #[.val (.ref a), .val (.int (Int32.ofNat 10))] [(.ref a2), (.ref a2), (.ref a1), (.ref a1)])
  refine Go.st (fun _ k => XS.iconst X7.here hx rfl (hb hby dst_488) k) ?_
  show Go p e below _ T7 (mkF m 489 #[.val (.ref a), .val (.int (Int32.ofNat 10))] [(.int (5 : Int32)), (.ref a2), (.ref a2), (.ref a1), (.ref a1)])
  refine Go.st (fun _ k => XS.aloadN X7.here hx rfl (hb hby dst_489) rfl rfl k) ?_
  show Go p e below _ T7 (mkF m 490 #[.val (.ref a), .val (.int (Int32.ofNat 10))] [(.ref a), (.int (5 : Int32)), (.ref a2), (.ref a2), (.ref a1), (.ref a1)])
  refine Go.st (fun _ k => XS.iconst X7.here hx rfl (hb hby dst_490) k) ?_
  show Go p e below _ T7 (mkF m 491 #[.val (.ref a), .val (.int (Int32.ofNat 10))] [(.int (5 : Int32)), (.ref a), (.int (5 : Int32)), (.ref a2), (.ref a2), (.ref a1), (.ref a1)])
  refine Go.caload X7 hx hZ e7 A_a7 (i := 5) (x := c5) rfl rfl (g := (mkF m 491 #[.val (.ref a), .val (.int (Int32.ofNat 10))] [(.int (5 : Int32)), (.ref a), (.int (5 : Int32)), (.ref a2), (.ref a2), (.ref a1), (.ref a1)])) rfl rfl (hb hby dst_491) ?_
  show Go p e below _ T7 (mkF m 492 #[.val (.ref a), .val (.int (Int32.ofNat 10))] [(.int c5), (.int (5 : Int32)), (.ref a2), (.ref a2), (.ref a1), (.ref a1)])
  refine Go.castore X7 hx hZ e7 A7 (i := 5) rfl (by simp) (g := (mkF m 492 #[.val (.ref a), .val (.int (Int32.ofNat 10))] [(.int c5), (.int (5 : Int32)), (.ref a2), (.ref a2), (.ref a1), (.ref a1)])) rfl rfl (hb hby dst_492) ?_
  rintro T8 h8 X8 e8 W8 A8
  have sW8 := W8.size
  show Go p e below _ T8 (mkF m 493 #[.val (.ref a), .val (.int (Int32.ofNat 10))] [(.ref a2), (.ref a1), (.ref a1)])
  have A_a8 := A_a7.other W8 na
  refine Go.st (fun _ k => XS.dup X8.here hx rfl (hb hby dst_493) rfl rfl k) ?_
  show Go p e below _ T8 (mkF m 494 #[.val (.ref a), .val (.int (Int32.ofNat 10))] [(.ref a2), (.ref a2), (.ref a1), (.ref a1)])
  refine Go.st (fun _ k => XS.bipush X8.here hx rfl (hb hby dst_494) k) ?_
  show Go p e below _ T8 (mkF m 496 #[.val (.ref a), .val (.int (Int32.ofNat 10))] [(.int (6 : Int32)), (.ref a2), (.ref a2), (.ref a1), (.ref a1)])
  refine Go.st (fun _ k => XS.aloadN X8.here hx rfl (hb hby dst_496) rfl rfl k) ?_
  show Go p e below _ T8 (mkF m 497 #[.val (.ref a), .val (.int (Int32.ofNat 10))] [(.ref a), (.int (6 : Int32)), (.ref a2), (.ref a2), (.ref a1), (.ref a1)])
  refine Go.st (fun _ k => XS.bipush X8.here hx rfl (hb hby dst_497) k) ?_
  show Go p e below _ T8 (mkF m 499 #[.val (.ref a), .val (.int (Int32.ofNat 10))] [(.int (6 : Int32)), (.ref a), (.int (6 : Int32)), (.ref a2), (.ref a2), (.ref a1), (.ref a1)])
  refine Go.caload X8 hx hZ e8 A_a8 (i := 6) (x := c6) rfl rfl (g := (mkF m 499 #[.val (.ref a), .val (.int (Int32.ofNat 10))] [(.int (6 : Int32)), (.ref a), (.int (6 : Int32)), (.ref a2), (.ref a2), (.ref a1), (.ref a1)])) rfl rfl (hb hby dst_499) ?_
  show Go p e below _ T8 (mkF m 500 #[.val (.ref a), .val (.int (Int32.ofNat 10))] [(.int c6), (.int (6 : Int32)), (.ref a2), (.ref a2), (.ref a1), (.ref a1)])
  refine Go.castore X8 hx hZ e8 A8 (i := 6) rfl (by simp) (g := (mkF m 500 #[.val (.ref a), .val (.int (Int32.ofNat 10))] [(.int c6), (.int (6 : Int32)), (.ref a2), (.ref a2), (.ref a1), (.ref a1)])) rfl rfl (hb hby dst_500) ?_
  rintro T9 h9 X9 e9 W9 A9
  have sW9 := W9.size
  show Go p e below _ T9 (mkF m 501 #[.val (.ref a), .val (.int (Int32.ofNat 10))] [(.ref a2), (.ref a1), (.ref a1)])
  have A_a9 := A_a8.other W9 na
  refine Go.st (fun _ k => XS.dup X9.here hx rfl (hb hby dst_501) rfl rfl k) ?_
  show Go p e below _ T9 (mkF m 502 #[.val (.ref a), .val (.int (Int32.ofNat 10))] [(.ref a2), (.ref a2), (.ref a1), (.ref a1)])
  refine Go.st (fun _ k => XS.bipush X9.here hx rfl (hb hby dst_502) k) ?_
  show Go p e below _ T9 (mkF m 504 #[.val (.ref a), .val (.int (Int32.ofNat 10))] [(.int (7 : Int32)), (.ref a2), (.ref a2), (.ref a1), (.ref a1)])
  refine Go.st (fun _ k => XS.aloadN X9.here hx rfl (hb hby dst_504) rfl rfl k) ?_
  show Go p e below _ T9 (mkF m 505 #[.val (.ref a), .val (.int (Int32.ofNat 10))] [(.ref a), (.int (7 : Int32)), (.ref a2), (.ref a2), (.ref a1), (.ref a1)])
  refine Go.st (fun _ k => XS.bipush X9.here hx rfl (hb hby dst_505) k) ?_
  show Go p e below _ T9 (mkF m 507 #[.val (.ref a), .val (.int (Int32.ofNat 10))] [(.int (7 : Int32)), (.ref a), (.int (7 : Int32)), (.ref a2), (.ref a2), (.ref a1), (.ref a1)])
  refine Go.caload X9 hx hZ e9 A_a9 (i := 7) (x := c7) rfl rfl (g := (mkF m 507 #[.val (.ref a), .val (.int (Int32.ofNat 10))] [(.int (7 : Int32)), (.ref a), (.int (7 : Int32)), (.ref a2), (.ref a2), (.ref a1), (.ref a1)])) rfl rfl (hb hby dst_507) ?_
  show Go p e below _ T9 (mkF m 508 #[.val (.ref a), .val (.int (Int32.ofNat 10))] [(.int c7), (.int (7 : Int32)), (.ref a2), (.ref a2), (.ref a1), (.ref a1)])
  refine Go.castore X9 hx hZ e9 A9 (i := 7) rfl (by simp) (g := (mkF m 508 #[.val (.ref a), .val (.int (Int32.ofNat 10))] [(.int c7), (.int (7 : Int32)), (.ref a2), (.ref a2), (.ref a1), (.ref a1)])) rfl rfl (hb hby dst_508) ?_
  rintro T10 h10 X10 e10 W10 A10
  have sW10 := W10.size
  show Go p e below _ T10 (mkF m 509 #[.val (.ref a), .val (.int (Int32.ofNat 10))] [(.ref a2), (.ref a1), (.ref a1)])
  have A_a10 := A_a9.other W10 na
  refine Go.st (fun _ k => XS.dup X10.here hx rfl (hb hby dst_509) rfl rfl k) ?_
  show Go p e below _ T10 (mkF m 510 #[.val (.ref a), .val (.int (Int32.ofNat 10))] [(.ref a2), (.ref a2), (.ref a1), (.ref a1)])
  refine Go.st (fun _ k => XS.bipush X10.here hx rfl (hb hby dst_510) k) ?_
  show Go p e below _ T10 (mkF m 512 #[.val (.ref a), .val (.int (Int32.ofNat 10))] [(.int (8 : Int32)), (.ref a2), (.ref a2), (.ref a1), (.ref a1)])
  refine Go.st (fun _ k => XS.aloadN X10.here hx rfl (hb hby dst_512) rfl rfl k) ?_
  show Go p e below _ T10 (mkF m 513 #[.val (.ref a), .val (.int (Int32.ofNat 10))] [(.ref a), (.int (8 : Int32)), (.ref a2), (.ref a2), (.ref a1), (.ref a1)])
  refine Go.st (fun _ k => XS.bipush X10.here hx rfl (hb hby dst_513) k) ?_
  show Go p e below _ T10 (mkF m 515 #[.val (.ref a), .val (.int (Int32.ofNat 10))] [(.int (8 : Int32)), (.ref a), (.int (8 : Int32)), (.ref a2), (.ref a2), (.ref a1), (.ref a1)])
  refine Go.caload X10 hx hZ e10 A_a10 (i := 8) (x := c8) rfl rfl (g := (mkF m 515 #[.val (.ref a), .val (.int (Int32.ofNat 10))] [(.int (8 : Int32)), (.ref a), (.int (8 : Int32)), (.ref a2), (.ref a2), (.ref a1), (.ref a1)])) rfl rfl (hb hby dst_515) ?_
  show Go p e below _ T10 (mkF m 516 #[.val (.ref a), .val (.int (Int32.ofNat 10))] [(.int c8), (.int (8 : Int32)), (.ref a2), (.ref a2), (.ref a1), (.ref a1)])
  refine Go.castore X10 hx hZ e10 A10 (i := 8) rfl (by simp) (g := (mkF m 516 #[.val (.ref a), .val (.int (Int32.ofNat 10))] [(.int c8), (.int (8 : Int32)), (.ref a2), (.ref a2), (.ref a1), (.ref a1)])) rfl rfl (hb hby dst_516) ?_
  rintro T11 h11 X11 e11 W11 A11
  have sW11 := W11.size
  show Go p e below _ T11 (mkF m 517 #[.val (.ref a), .val (.int (Int32.ofNat 10))] [(.ref a2), (.ref a1), (.ref a1)])
  have A_a11 := A_a10.other W11 na
  refine Go.st (fun _ k => XS.dup X11.here hx rfl (hb hby dst_517) rfl rfl k) ?_
  show Go p e below _ T11 (mkF m 518 #[.val (.ref a), .val (.int (Int32.ofNat 10))] [(.ref a2), (.ref a2), (.ref a1), (.ref a1)])
  refine Go.st (fun _ k => XS.bipush X11.here hx rfl (hb hby dst_518) k) ?_
  show Go p e below _ T11 (mkF m 520 #[.val (.ref a), .val (.int (Int32.ofNat 10))] [(.int (9 : Int32)), (.ref a2), (.ref a2), (.ref a1), (.ref a1)])
  refine Go.st (fun _ k => XS.aloadN X11.here hx rfl (hb hby dst_520) rfl rfl k) ?_
  show Go p e below _ T11 (mkF m 521 #[.val (.ref a), .val (.int (Int32.ofNat 10))] [(.ref a), (.int (9 : Int32)), (.ref a2), (.ref a2), (.ref a1), (.ref a1)])
  refine Go.st (fun _ k => XS.bipush X11.here hx rfl (hb hby dst_521) k) ?_
  show Go p e below _ T11 (mkF m 523 #[.val (.ref a), .val (.int (Int32.ofNat 10))] [(.int (9 : Int32)), (.ref a), (.int (9 : Int32)), (.ref a2), (.ref a2), (.ref a1), (.ref a1)])
  refine Go.caload X11 hx hZ e11 A_a11 (i := 9) (x := c9) rfl rfl (g := (mkF m 523 #[.val (.ref a), .val (.int (Int32.ofNat 10))] [(.int (9 : Int32)), (.ref a), (.int (9 : Int32)), (.ref a2), (.ref a2), (.ref a1), (.ref a1)])) rfl rfl (hb hby dst_523) ?_
  show Go p e below _ T11 (mkF m 524 #[.val (.ref a), .val (.int (Int32.ofNat 10))] [(.int c9), (.int (9 : Int32)), (.ref a2), (.ref a2), (.ref a1), (.ref a1)])
  refine Go.castore X11 hx hZ e11 A11 (i := 9) rfl (by simp) (g := (mkF m 524 #[.val (.ref a), .val (.int (Int32.ofNat 10))] [(.int c9), (.int (9 : Int32)), (.ref a2), (.ref a2), (.ref a1), (.ref a1)])) rfl rfl (hb hby dst_524) ?_
  rintro T12 h12 X12 e12 W12 A12
  have sW12 := W12.size
  show Go p e below _ T12 (mkF m 525 #[.val (.ref a), .val (.int (Int32.ofNat 10))] [(.ref a2), (.ref a1), (.ref a1)])
  have A_a12 := A_a11.other W12 na
  have n12 : a1 ≠ a2 := Nat.ne_of_lt (by omega)
  have Ac : AI Z h12 a2 .char ([c0, c1, c2, c3, c4, c5, c6, c7, c8, c9] : List Int32) := by
    have q : AI Z h12 a2 .char [nar .char c0, nar .char c1, nar .char c2, nar .char c3, nar .char c4, nar .char c5, nar .char c6, nar .char c7, nar .char c8, nar .char c9] := A12
    rwa [e_0, e_1, e_2, e_3, e_4, e_5, e_6, e_7, e_8, e_9] at q
  have hp : ∀ c ∈ ([c0, c1, c2, c3, c4, c5, c6, c7, c8, c9] : List Int32), ¬ c < 0 ∧ ¬ (65535 : Int32) < c := fun c hc => hbd c (List.mem_of_mem_take (i := 10) hc)
  have Ok : Old Z n0 h12 := ((((((((((((X00.ext E1).ext E2).wr W3 (by omega)).wr W4 (by omega)).wr W5 (by omega)).wr W6 (by omega)).wr W7 (by omega)).wr W8 (by omega)).wr W9 (by omega)).wr W10 (by omega)).wr W11 (by omega)).wr W12 (by omega))
  have Kk : Keep h0 h12 [] := (((((((((((((Keep.refl h0 []).ext E1).ext E2).wr W3 (Or.inr (by omega))).wr W4 (Or.inr (by omega))).wr W5 (Or.inr (by omega))).wr W6 (Or.inr (by omega))).wr W7 (Or.inr (by omega))).wr W8 (Or.inr (by omega))).wr W9 (Or.inr (by omega))).wr W10 (Or.inr (by omega))).wr W11 (Or.inr (by omega))).wr W12 (Or.inr (by omega)))
  have Nk := (Fr.snoc X12 (Fr.snoc X11 (Fr.snoc X10 (Fr.snoc X9 (Fr.snoc X8 (Fr.snoc X7 (Fr.snoc X6 (Fr.snoc X5 (Fr.snoc X4 (Fr.snoc X3 (Fr.nil n0) (by omega)) (by omega)) (by omega)) (by omega)) (by omega)) (by omega)) (by omega)) (by omega)) (by omega)) (by omega))
  refine Go.callI X12 hx (y := (⟨"java/lang/String", "<init>", "([C)V"⟩ : MethodName)) rfl hown (mvT hZ (hw _ (List.mem_of_getElem? (i := 12) rfl))) (mvT hZ (hw _ (List.mem_of_getElem? (i := 13) rfl))) (mvT hZ (hw _ (List.mem_of_getElem? (i := 14) rfl))) (by decide) (Ctr.back (W := 1) (rmI1 l Z a0 hw z Su ([c0, c1, c2, c3, c4, c5, c6, c7, c8, c9] : List Int32) (by simp) (by simp) hp a1 a2 _ _ h12 n0 (by omega) (by omega) Ok (((((((((((A1.ext E2).wr W3).wr W4).wr W5).wr W6).wr W7).wr W8).wr W9).wr W10).wr W11).wr W12) ((((((((((((D1 (Or.inr (hw _ (List.mem_of_getElem? (i := 37) rfl))) (ty := (.array .byte)) (by decide)).ext E2).other W3 (Or.inl n12)).other W4 (Or.inl n12)).other W5 (Or.inl n12)).other W6 (Or.inl n12)).other W7 (Or.inl n12)).other W8 (Or.inl n12)).other W9 (Or.inl n12)).other W10 (Or.inl n12)).other W11 (Or.inl n12)).other W12 (Or.inl n12)) ((((((((((((D1 (Or.inr (hw _ (List.mem_of_getElem? (i := 35) rfl))) (ty := .byte) (by decide)).ext E2).other W3 (Or.inl n12)).other W4 (Or.inl n12)).other W5 (Or.inl n12)).other W6 (Or.inl n12)).other W7 (Or.inl n12)).other W8 (Or.inl n12)).other W9 (Or.inl n12)).other W10 (Or.inl n12)).other W11 (Or.inl n12)).other W12 (Or.inl n12)) Ac) hZ (hw _ (List.mem_of_getElem? (i := 14) rfl)) (hw _ (List.mem_of_getElem? (i := 11) rfl)) (by (try dsimp only [room_1]); (try simp only [List.length_cons, List.length_nil]); omega) (by (try dsimp only [room_1]); (try simp only [List.length_cons, List.length_nil]); omega)) e12 (g := (mkF m 525 #[.val (.ref a), .val (.int (Int32.ofNat 10))] [(.ref a2), (.ref a1), (.ref a1)])) rfl (by rw [hml]; rfl) (a := a1) (argsL := [(.ref a2)]) (rest := [(.ref a1)]) (lenOf pd_18 rfl) rfl (by show 2 * 0 + _ ≤ _; exact Nat.le_of_eq rfl) (hb hby dst_525) rfl (by (try dsimp only [room_1]); (try simp only [List.length_cons, List.length_nil]); omega) (by (try dsimp only [room_1]); (try simp only [List.length_cons, List.length_nil]); omega) ?_
  rintro _ T99 L99 X99 ⟨rfl, N99, K99, E99, G99, t, F99, B99, ht⟩
  show Go p e below _ T99 (mkF m 528 #[.val (.ref a), .val (.int (Int32.ofNat 10))] [(.ref a1)])
  have K09 : Keep h0 T99.heap [] := Kk.trans K99 (fun x q => Or.inr (by cases List.mem_singleton.mp q; omega))
  exact Go.retVW X99 hx (Bas.refl s 0) (Nat.zero_le _) hC0 (UX K09) hret hlk rfl rfl (hb hby dst_528) ⟨a1, t, rfl, Fr.app Nk N99, K09, E99, G99, F99, B99⟩ (by (try dsimp only [room_1]); (try simp only [List.length_cons, List.length_nil]); omega) (by (try dsimp only [room_1]); (try simp only [List.length_cons, List.length_nil]); omega)
theorem dle_0 : decode jdk_43_method_13_code 0 = .ok (.aload_n 0, 1) := by decide +kernel
theorem dle_1 : decode jdk_43_method_13_code 1 = .ok (.arraylength, 1) := by decide +kernel
theorem dle_2 : decode jdk_43_method_13_code 2 = .ok (.aload_n 1, 1) := by decide +kernel
theorem dle_3 : decode jdk_43_method_13_code 3 = .ok (.arraylength, 1) := by decide +kernel
theorem dle_4 : decode jdk_43_method_13_code 4 = .ok (.if_icmp .ne 30, 3) := by decide +kernel
theorem dle_7 : decode jdk_43_method_13_code 7 = .ok (.iconst 0, 1) := by decide +kernel
theorem dle_8 : decode jdk_43_method_13_code 8 = .ok (.istore_n 2, 1) := by decide +kernel
theorem dle_9 : decode jdk_43_method_13_code 9 = .ok (.iload_n 2, 1) := by decide +kernel
theorem dle_10 : decode jdk_43_method_13_code 10 = .ok (.aload_n 0, 1) := by decide +kernel
theorem dle_11 : decode jdk_43_method_13_code 11 = .ok (.arraylength, 1) := by decide +kernel
theorem dle_12 : decode jdk_43_method_13_code 12 = .ok (.if_icmp .ge 20, 3) := by decide +kernel
theorem dle_15 : decode jdk_43_method_13_code 15 = .ok (.aload_n 0, 1) := by decide +kernel
theorem dle_16 : decode jdk_43_method_13_code 16 = .ok (.iload_n 2, 1) := by decide +kernel
theorem dle_17 : decode jdk_43_method_13_code 17 = .ok (.baload, 1) := by decide +kernel
theorem dle_18 : decode jdk_43_method_13_code 18 = .ok (.aload_n 1, 1) := by decide +kernel
theorem dle_19 : decode jdk_43_method_13_code 19 = .ok (.iload_n 2, 1) := by decide +kernel
theorem dle_20 : decode jdk_43_method_13_code 20 = .ok (.baload, 1) := by decide +kernel
theorem dle_21 : decode jdk_43_method_13_code 21 = .ok (.if_icmp .eq 5, 3) := by decide +kernel
theorem dle_24 : decode jdk_43_method_13_code 24 = .ok (.iconst 0, 1) := by decide +kernel
theorem dle_25 : decode jdk_43_method_13_code 25 = .ok (.ireturn, 1) := by decide +kernel
theorem dle_26 : decode jdk_43_method_13_code 26 = .ok (.iinc 2 1, 3) := by decide +kernel
theorem dle_29 : decode jdk_43_method_13_code 29 = .ok (.goto (-20), 3) := by decide +kernel
theorem dle_32 : decode jdk_43_method_13_code 32 = .ok (.iconst 1, 1) := by decide +kernel
theorem dle_33 : decode jdk_43_method_13_code 33 = .ok (.ireturn, 1) := by decide +kernel
theorem dle_34 : decode jdk_43_method_13_code 34 = .ok (.iconst 0, 1) := by decide +kernel
theorem dle_35 : decode jdk_43_method_13_code 35 = .ok (.ireturn, 1) := by decide +kernel
set_option maxRecDepth 65536 in
set_option maxHeartbeats 40000000 in
theorem lpLE (l : Launch) (Z : State) (a0 : Array Value) (hw : ∀ d ∈ tables_1, d.before a0 Z = true) (a b : Addr) (xs ys : List Int32) (h0 : Heap) (n0 : Nat) {p : Program} {e : Env} {s : State} {m : MethodId} {args : Array Value} {below : List Frame} {meth : Method} {c : Code} (hx : p.tables.exec = Jvm.exec) (hby : c.code = jdk_43_method_13_code) (hml : c.maxLocals = 3) (hown : s.vm.findClass "java/lang/StringLatin1" = some m.cls) (hret : meth.sig.returnType = some .boolean) (hlk : meth.locks = false) (hZ : Z.Warmed39 s.vm) {s₁ : State} (X0 : Stand p l e ({ frames := 0, cells := 0, slots := 0, locals := 0 } : Room) s m args below meth c s₁ [] 0 0) (e0 : s₁.heap = h0) (A : AI Z h0 a .byte xs) (B : AI Z h0 b .byte ys) (hl : xs.length = ys.length) :
    ∀ (k i : Nat), i + k = xs.length → xs.take i = ys.take i → Go p e below (EndQ s (QP (if xs = ys then 1 else 0) h0 n0) 0 0) s₁ (mkF m 9 #[.val (.ref a), .val (.ref b), .val (.int (Int32.ofNat i))] []) := by
  intro k
  induction k with
  | zero =>
    intro i hik heq
    show Go p e below _ s₁ (mkF m 9 #[.val (.ref a), .val (.ref b), .val (.int (Int32.ofNat i))] [])
    refine Go.st (fun _ k => XS.iloadN X0.here hx rfl (hb hby dle_9) rfl k) ?_
    show Go p e below _ s₁ (mkF m 10 #[.val (.ref a), .val (.ref b), .val (.int (Int32.ofNat i))] [(.int (Int32.ofNat i))])
    refine Go.st (fun _ k => XS.aloadN X0.here hx rfl (hb hby dle_10) rfl rfl k) ?_
    show Go p e below _ s₁ (mkF m 11 #[.val (.ref a), .val (.ref b), .val (.int (Int32.ofNat i))] [(.ref a), (.int (Int32.ofNat i))])
    refine Go.alen X0 hx hZ e0 A (g := (mkF m 11 #[.val (.ref a), .val (.ref b), .val (.int (Int32.ofNat i))] [(.ref a), (.int (Int32.ofNat i))])) rfl rfl (hb hby dle_11) ?_
    show Go p e below _ s₁ (mkF m 12 #[.val (.ref a), .val (.ref b), .val (.int (Int32.ofNat i))] [(.int (Int32.ofNat xs.length)), (.int (Int32.ofNat i))])
    have q : ¬ Int32.ofNat i < Int32.ofNat xs.length := by rw [show i = xs.length by omega]; exact fun q => Int32.lt_irrefl q
    refine Go.st (fun _ k => XS.icmpYes X0.here hx rfl (pc0 := 12) (pc' := 32) rfl (hb hby dle_12) rfl (XT.ii_ge_t q) (by decide) (by decide) k) ?_
    show Go p e below _ s₁ (mkF m 32 #[.val (.ref a), .val (.ref b), .val (.int (Int32.ofNat i))] [])
    refine Go.st (fun _ k => XS.iconst X0.here hx rfl (hb hby dle_32) k) ?_
    show Go p e below _ s₁ (mkF m 33 #[.val (.ref a), .val (.ref b), .val (.int (Int32.ofNat i))] [(.int (1 : Int32))])
    have hxy : xs = ys := by rw [show i = xs.length by omega, List.take_length, hl, List.take_length] at heq; exact heq
    exact Go.retB X0 hx hret hlk (Or.inl rfl) (hb hby dle_33) ⟨by simp [nar, hxy], Fr.nil n0, e0⟩ (Nat.le_refl _) (Nat.le_refl _)
  | succ k ih =>
    intro i hik heq
    show Go p e below _ s₁ (mkF m 9 #[.val (.ref a), .val (.ref b), .val (.int (Int32.ofNat i))] [])
    refine Go.st (fun _ k => XS.iloadN X0.here hx rfl (hb hby dle_9) rfl k) ?_
    show Go p e below _ s₁ (mkF m 10 #[.val (.ref a), .val (.ref b), .val (.int (Int32.ofNat i))] [(.int (Int32.ofNat i))])
    refine Go.st (fun _ k => XS.aloadN X0.here hx rfl (hb hby dle_10) rfl rfl k) ?_
    show Go p e below _ s₁ (mkF m 11 #[.val (.ref a), .val (.ref b), .val (.int (Int32.ofNat i))] [(.ref a), (.int (Int32.ofNat i))])
    refine Go.alen X0 hx hZ e0 A (g := (mkF m 11 #[.val (.ref a), .val (.ref b), .val (.int (Int32.ofNat i))] [(.ref a), (.int (Int32.ofNat i))])) rfl rfl (hb hby dle_11) ?_
    show Go p e below _ s₁ (mkF m 12 #[.val (.ref a), .val (.ref b), .val (.int (Int32.ofNat i))] [(.int (Int32.ofNat xs.length)), (.int (Int32.ofNat i))])
    have q0 := A.1
    refine Go.st (fun _ k => XS.icmpNo X0.here hx rfl (hb hby dle_12) rfl (XT.ii_ge_f (own_ofNat_lt (by omega) q0)) k) ?_
    show Go p e below _ s₁ (mkF m 15 #[.val (.ref a), .val (.ref b), .val (.int (Int32.ofNat i))] [])
    refine Go.st (fun _ k => XS.aloadN X0.here hx rfl (hb hby dle_15) rfl rfl k) ?_
    show Go p e below _ s₁ (mkF m 16 #[.val (.ref a), .val (.ref b), .val (.int (Int32.ofNat i))] [(.ref a)])
    refine Go.st (fun _ k => XS.iloadN X0.here hx rfl (hb hby dle_16) rfl k) ?_
    show Go p e below _ s₁ (mkF m 17 #[.val (.ref a), .val (.ref b), .val (.int (Int32.ofNat i))] [(.int (Int32.ofNat i)), (.ref a)])
    obtain ⟨x, hxi⟩ : ∃ x, xs[i]? = some x := ⟨_, List.getElem?_eq_getElem (by omega)⟩
    refine Go.baload X0 hx hZ e0 A (i := i) (x := x) rfl hxi (g := (mkF m 17 #[.val (.ref a), .val (.ref b), .val (.int (Int32.ofNat i))] [(.int (Int32.ofNat i)), (.ref a)])) rfl rfl (hb hby dle_17) ?_
    show Go p e below _ s₁ (mkF m 18 #[.val (.ref a), .val (.ref b), .val (.int (Int32.ofNat i))] [(.int x)])
    refine Go.st (fun _ k => XS.aloadN X0.here hx rfl (hb hby dle_18) rfl rfl k) ?_
    show Go p e below _ s₁ (mkF m 19 #[.val (.ref a), .val (.ref b), .val (.int (Int32.ofNat i))] [(.ref b), (.int x)])
    refine Go.st (fun _ k => XS.iloadN X0.here hx rfl (hb hby dle_19) rfl k) ?_
    show Go p e below _ s₁ (mkF m 20 #[.val (.ref a), .val (.ref b), .val (.int (Int32.ofNat i))] [(.int (Int32.ofNat i)), (.ref b), (.int x)])
    obtain ⟨y, hyi⟩ : ∃ y, ys[i]? = some y := ⟨_, List.getElem?_eq_getElem (by omega)⟩
    refine Go.baload X0 hx hZ e0 B (i := i) (x := y) rfl hyi (g := (mkF m 20 #[.val (.ref a), .val (.ref b), .val (.int (Int32.ofNat i))] [(.int (Int32.ofNat i)), (.ref b), (.int x)])) rfl rfl (hb hby dle_20) ?_
    show Go p e below _ s₁ (mkF m 21 #[.val (.ref a), .val (.ref b), .val (.int (Int32.ofNat i))] [(.int y), (.int x)])
    by_cases q : x = y
    · skip
      refine Go.st (fun _ k => XS.icmpYes X0.here hx rfl (pc0 := 21) (pc' := 26) rfl (hb hby dle_21) rfl (XT.ii_eq_t q) (by decide) (by decide) k) ?_
      show Go p e below _ s₁ (mkF m 26 #[.val (.ref a), .val (.ref b), .val (.int (Int32.ofNat i))] [])
      refine Go.st (fun _ k => XS.iinc X0.here hx rfl (hb hby dle_26) rfl (l' := #[.val (.ref a), .val (.ref b), .val (.int ((Int32.ofNat i) + (1 : Int32)))]) rfl k) ?_
      show Go p e below _ s₁ (mkF m 29 #[.val (.ref a), .val (.ref b), .val (.int ((Int32.ofNat i) + (1 : Int32)))] [])
      rw [own_succ]
      show Go p e below _ s₁ (mkF m 29 #[.val (.ref a), .val (.ref b), .val (.int (Int32.ofNat (i + 1)))] [])
      refine Go.st (fun _ k => XS.goto X0.here hx rfl (pc0 := 29) (pc' := 9) rfl (hb hby dle_29) (by decide) (by decide) k) ?_
      show Go p e below _ s₁ (mkF m 9 #[.val (.ref a), .val (.ref b), .val (.int (Int32.ofNat (i + 1)))] [])
      exact ih (i + 1) (by omega) (by rw [own_take_succ hxi, own_take_succ hyi, heq, q])
    · skip
      refine Go.st (fun _ k => XS.icmpNo X0.here hx rfl (hb hby dle_21) rfl (XT.ii_eq_f q) k) ?_
      show Go p e below _ s₁ (mkF m 24 #[.val (.ref a), .val (.ref b), .val (.int (Int32.ofNat i))] [])
      refine Go.st (fun _ k => XS.iconst X0.here hx rfl (hb hby dle_24) k) ?_
      show Go p e below _ s₁ (mkF m 25 #[.val (.ref a), .val (.ref b), .val (.int (Int32.ofNat i))] [(.int (0 : Int32))])
      have hxy : xs ≠ ys := fun z => q (by rw [z, hyi] at hxi; exact (Option.some.inj hxi).symm)
      exact Go.retB X0 hx hret hlk (Or.inl rfl) (hb hby dle_25) ⟨by simp [nar, hxy], Fr.nil n0, e0⟩ (Nat.le_refl _) (Nat.le_refl _)
set_option maxRecDepth 65536 in
set_option maxHeartbeats 40000000 in
theorem rmLE (l : Launch) (Z : State) (a0 : Array Value) (hw : ∀ d ∈ tables_1, d.before a0 Z = true) (a b : Addr) (xs ys : List Int32) (h0 : Heap) (n0 : Nat) (A : AI Z h0 a .byte xs) (B : AI Z h0 b .byte ys) :
    Ctr l Z (⟨"java/lang/StringLatin1", "equals", "([B[B)Z"⟩ : MethodName) jdk_43_method_13_code 3 (some .boolean) [] ({ frames := 0, cells := 0, slots := 0, locals := 0 } : Room) #[(.ref a), (.ref b)] h0 (QP (if xs = ys then 1 else 0) h0 n0) := by
  refine Ctr.of (plainFor_of_name pn_21) ?_
  intro p e s m below meth c s₁ hx hby hml hown hnm hret hlk hZ X0 e0
  refine Go.cast (ef_20 m a b) ?_
  show Go p e below _ s₁ (mkF m 0 #[.val (.ref a), .val (.ref b), .unset] [])
  refine Go.st (fun _ k => XS.aloadN X0.here hx rfl (hb hby dle_0) rfl rfl k) ?_
  show Go p e below _ s₁ (mkF m 1 #[.val (.ref a), .val (.ref b), .unset] [(.ref a)])
  refine Go.alen X0 hx hZ e0 A (g := (mkF m 1 #[.val (.ref a), .val (.ref b), .unset] [(.ref a)])) rfl rfl (hb hby dle_1) ?_
  show Go p e below _ s₁ (mkF m 2 #[.val (.ref a), .val (.ref b), .unset] [(.int (Int32.ofNat xs.length))])
  refine Go.st (fun _ k => XS.aloadN X0.here hx rfl (hb hby dle_2) rfl rfl k) ?_
  show Go p e below _ s₁ (mkF m 3 #[.val (.ref a), .val (.ref b), .unset] [(.ref b), (.int (Int32.ofNat xs.length))])
  refine Go.alen X0 hx hZ e0 B (g := (mkF m 3 #[.val (.ref a), .val (.ref b), .unset] [(.ref b), (.int (Int32.ofNat xs.length))])) rfl rfl (hb hby dle_3) ?_
  show Go p e below _ s₁ (mkF m 4 #[.val (.ref a), .val (.ref b), .unset] [(.int (Int32.ofNat ys.length)), (.int (Int32.ofNat xs.length))])
  have q0 := A.1
  have q1 := B.1
  by_cases q : xs.length = ys.length
  · skip
    refine Go.st (fun _ k => XS.icmpNo X0.here hx rfl (hb hby dle_4) rfl (XT.ii_ne_f (by rw [q])) k) ?_
    show Go p e below _ s₁ (mkF m 7 #[.val (.ref a), .val (.ref b), .unset] [])
    refine Go.st (fun _ k => XS.iconst X0.here hx rfl (hb hby dle_7) k) ?_
    show Go p e below _ s₁ (mkF m 8 #[.val (.ref a), .val (.ref b), .unset] [(.int (0 : Int32))])
    refine Go.st (fun _ k => XS.istoreN X0.here hx rfl (hb hby dle_8) rfl (l' := #[.val (.ref a), .val (.ref b), .val (.int (0 : Int32))]) rfl k) ?_
    show Go p e below _ s₁ (mkF m 9 #[.val (.ref a), .val (.ref b), .val (.int (0 : Int32))] [])
    exact lpLE l Z a0 hw a b xs ys h0 n0 hx hby hml hown hret hlk hZ X0 e0 A B q xs.length 0 (by omega) rfl
  · skip
    have qn : ¬ Int32.ofNat xs.length = Int32.ofNat ys.length := fun z => q (by have z' := congrArg Int32.toInt z; rw [own_toInt (by omega), own_toInt (by omega)] at z'; omega)
    refine Go.st (fun _ k => XS.icmpYes X0.here hx rfl (pc0 := 4) (pc' := 34) rfl (hb hby dle_4) rfl (XT.ii_ne_t qn) (by decide) (by decide) k) ?_
    show Go p e below _ s₁ (mkF m 34 #[.val (.ref a), .val (.ref b), .unset] [])
    refine Go.st (fun _ k => XS.iconst X0.here hx rfl (hb hby dle_34) k) ?_
    show Go p e below _ s₁ (mkF m 35 #[.val (.ref a), .val (.ref b), .unset] [(.int (0 : Int32))])
    have hxy : xs ≠ ys := fun z => q (by rw [z])
    exact Go.retB X0 hx hret hlk (Or.inl rfl) (hb hby dle_35) ⟨by simp [nar, hxy], Fr.nil n0, e0⟩ (Nat.le_refl _) (Nat.le_refl _)
theorem Fld.fn {Z : State} {h : Heap} {a : Addr} {C n d : String} {v w : Value} (F : Fld Z h a C n d v) (G : Fld Z h a C n d w) : v = w := Classical.byContradiction fun q => Fld.ne F G q rfl
theorem AI.fn {Z : State} {h : Heap} {a : Addr} {ty : FieldType} {xs ys : List Int32} (F : AI Z h a ty xs) (G : AI Z h a ty ys) : xs = ys := by
  obtain ⟨c, A, S, H⟩ := F.at
  obtain ⟨c', A', S', H'⟩ := G.at
  cases A.1.symm.trans A'.1
  apply List.ext_getElem (by omega)
  intro i h1 h2
  have := (H i h1).symm.trans (H' i h2)
  simpa using this
theorem deq_0 : decode jdk_42_method_66_code 0 = .ok (.aload_n 0, 1) := by decide +kernel
theorem deq_1 : decode jdk_42_method_66_code 1 = .ok (.aload_n 1, 1) := by decide +kernel
theorem deq_2 : decode jdk_42_method_66_code 2 = .ok (.if_acmp .ne 5, 3) := by decide +kernel
theorem deq_5 : decode jdk_42_method_66_code 5 = .ok (.iconst 1, 1) := by decide +kernel
theorem deq_6 : decode jdk_42_method_66_code 6 = .ok (.ireturn, 1) := by decide +kernel
theorem deq_7 : decode jdk_42_method_66_code 7 = .ok (.aload_n 1, 1) := by decide +kernel
theorem deq_8 : decode jdk_42_method_66_code 8 = .ok (.instanceof 10, 3) := by decide +kernel
theorem deq_11 : decode jdk_42_method_66_code 11 = .ok (.ifCond .eq 43, 3) := by decide +kernel
theorem deq_14 : decode jdk_42_method_66_code 14 = .ok (.aload_n 1, 1) := by decide +kernel
theorem deq_15 : decode jdk_42_method_66_code 15 = .ok (.checkcast 10, 3) := by decide +kernel
theorem deq_18 : decode jdk_42_method_66_code 18 = .ok (.astore_n 2, 1) := by decide +kernel
theorem deq_19 : decode jdk_42_method_66_code 19 = .ok (.getstatic 38, 3) := by decide +kernel
theorem deq_22 : decode jdk_42_method_66_code 22 = .ok (.ifCond .eq 14, 3) := by decide +kernel
theorem deq_25 : decode jdk_42_method_66_code 25 = .ok (.aload_n 0, 1) := by decide +kernel
theorem deq_26 : decode jdk_42_method_66_code 26 = .ok (.getfield 15, 3) := by decide +kernel
theorem deq_29 : decode jdk_42_method_66_code 29 = .ok (.aload_n 2, 1) := by decide +kernel
theorem deq_30 : decode jdk_42_method_66_code 30 = .ok (.getfield 15, 3) := by decide +kernel
theorem deq_33 : decode jdk_42_method_66_code 33 = .ok (.if_icmp .ne 21, 3) := by decide +kernel
theorem deq_36 : decode jdk_42_method_66_code 36 = .ok (.aload_n 0, 1) := by decide +kernel
theorem deq_37 : decode jdk_42_method_66_code 37 = .ok (.getfield 9, 3) := by decide +kernel
theorem deq_40 : decode jdk_42_method_66_code 40 = .ok (.aload_n 2, 1) := by decide +kernel
theorem deq_41 : decode jdk_42_method_66_code 41 = .ok (.getfield 9, 3) := by decide +kernel
theorem deq_44 : decode jdk_42_method_66_code 44 = .ok (.invokestatic 541, 3) := by decide +kernel
theorem deq_47 : decode jdk_42_method_66_code 47 = .ok (.ifCond .eq 7, 3) := by decide +kernel
theorem deq_50 : decode jdk_42_method_66_code 50 = .ok (.iconst 1, 1) := by decide +kernel
theorem deq_51 : decode jdk_42_method_66_code 51 = .ok (.goto 4, 3) := by decide +kernel
theorem deq_54 : decode jdk_42_method_66_code 54 = .ok (.iconst 0, 1) := by decide +kernel
theorem deq_55 : decode jdk_42_method_66_code 55 = .ok (.ireturn, 1) := by decide +kernel
set_option maxRecDepth 65536 in
set_option maxHeartbeats 40000000 in
theorem rmEQ (l : Launch) (Z : State) (a0 : Array Value) (hw : ∀ d ∈ tables_1, d.before a0 Z = true) (z : Int32) (SC : Sta Z Z.heap "java/lang/String" "COMPACT_STRINGS" "Z" (.int z)) (nC : ¬ z = 0) (a b ta tb : Addr) (ka kb : Int32) (xs ys : List Int32) (h0 : Heap) (n0 : Nat) (O : Ext Z.heap h0 ∧ Ext Z.heap h0) (Ea : Exa Z h0 a "java/lang/String") (Ca : Fld Z h0 a "java/lang/String" "coder" "B" (.int ka)) (Va : Fld Z h0 a "java/lang/String" "value" "[B" (.ref ta)) (Ba : AI Z h0 ta .byte xs) (Eb : Exa Z h0 b "java/lang/String") (Cb : Fld Z h0 b "java/lang/String" "coder" "B" (.int kb)) (Vb : Fld Z h0 b "java/lang/String" "value" "[B" (.ref tb)) (Bb : AI Z h0 tb .byte ys) :
    Ctr l Z (⟨"java/lang/String", "equals", "(Ljava/lang/Object;)Z"⟩ : MethodName) jdk_42_method_66_code 3 (some .boolean) [] ({ frames := 1, cells := 0, slots := 0, locals := 14 } : Room) #[(.ref a), (.ref b)] h0 (QP (if ka = kb ∧ xs = ys then 1 else 0) h0 n0) := by
  refine Ctr.of (plainFor_of_name pn_15) ?_
  intro p e s m below meth c s₁ hx hby hml hown hnm hret hlk hZ X0 e0
  refine Go.cast (ef_20 m a b) ?_
  show Go p e below _ s₁ (mkF m 0 #[.val (.ref a), .val (.ref b), .unset] [])
  refine Go.st (fun _ k => XS.aloadN X0.here hx rfl (hb hby deq_0) rfl rfl k) ?_
  show Go p e below _ s₁ (mkF m 1 #[.val (.ref a), .val (.ref b), .unset] [(.ref a)])
  refine Go.st (fun _ k => XS.aloadN X0.here hx rfl (hb hby deq_1) rfl rfl k) ?_
  show Go p e below _ s₁ (mkF m 2 #[.val (.ref a), .val (.ref b), .unset] [(.ref b), (.ref a)])
  have hcd : ∀ (x : Int32), ¬ x = 0 → narrow .byte (.int x) = narrow .byte (.int x) := fun _ _ => rfl
  by_cases qab : a = b
  · skip
    refine Go.st (fun _ k => XT.acmpNo X0.here hx rfl (hb hby deq_2) rfl rfl rfl (XT.aa_ne_f (congrArg Value.ref qab)) k) ?_
    show Go p e below _ s₁ (mkF m 5 #[.val (.ref a), .val (.ref b), .unset] [])
    refine Go.st (fun _ k => XS.iconst X0.here hx rfl (hb hby deq_5) k) ?_
    show Go p e below _ s₁ (mkF m 6 #[.val (.ref a), .val (.ref b), .unset] [(.int (1 : Int32))])
    subst qab
    have f1 := Value.int.inj (Fld.fn Ca Cb)
    obtain rfl := Value.ref.inj (Fld.fn Va Vb)
    have f2 := AI.fn Ba Bb
    exact Go.retB X0 hx hret hlk (Or.inl rfl) (hb hby deq_6) ⟨by rw [if_pos ⟨f1, f2⟩]; rfl, Fr.nil n0, e0⟩ (Nat.le_refl _) (Nat.le_refl _)
  refine Go.st (fun _ k => XT.acmpYes X0.here hx rfl (pc0 := 2) (pc' := 7) rfl (hb hby deq_2) rfl rfl rfl (XT.aa_ne_t (fun z => qab (Value.ref.inj z))) (by decide) (by decide) k) ?_
  show Go p e below _ s₁ (mkF m 7 #[.val (.ref a), .val (.ref b), .unset] [])
  refine Go.st (fun _ k => XS.aloadN X0.here hx rfl (hb hby deq_7) rfl rfl k) ?_
  show Go p e below _ s₁ (mkF m 8 #[.val (.ref a), .val (.ref b), .unset] [(.ref b)])
  obtain ⟨T1, X1, e1, st1⟩ := instY X0 hx hZ hown (hw _ (List.mem_of_getElem? (i := 50) rfl)) e0 (Ins.self Eb) (g := (mkF m 8 #[.val (.ref a), .val (.ref b), .unset] [(.ref b)])) rfl rfl (hb hby deq_8)
  refine Go.st st1 ?_
  show Go p e below _ T1 (mkF m 11 #[.val (.ref a), .val (.ref b), .unset] [(.int (1 : Int32))])
  refine Go.st (fun _ k => XS.ifNo X1.here hx rfl (hb hby deq_11) rfl (XT.i0_eq_f (by decide)) k) ?_
  show Go p e below _ T1 (mkF m 14 #[.val (.ref a), .val (.ref b), .unset] [])
  refine Go.st (fun _ k => XS.aloadN X1.here hx rfl (hb hby deq_14) rfl rfl k) ?_
  show Go p e below _ T1 (mkF m 15 #[.val (.ref a), .val (.ref b), .unset] [(.ref b)])
  obtain ⟨T2, X2, e2, st2⟩ := castY X1 hx hZ hown (hw _ (List.mem_of_getElem? (i := 50) rfl)) e1 (Ins.self Eb) (g := (mkF m 15 #[.val (.ref a), .val (.ref b), .unset] [(.ref b)])) rfl rfl (hb hby deq_15)
  refine Go.st st2 ?_
  show Go p e below _ T2 (mkF m 18 #[.val (.ref a), .val (.ref b), .unset] [(.ref b)])
  refine Go.st (fun _ k => XS.astoreN X2.here hx rfl (hb hby deq_18) rfl rfl (l' := #[.val (.ref a), .val (.ref b), .val (.ref b)]) rfl k) ?_
  show Go p e below _ T2 (mkF m 19 #[.val (.ref a), .val (.ref b), .val (.ref b)] [])
  obtain ⟨T3, X3, e3, st3⟩ := getS2 X2 hx hZ hown (host := "") (Or.inl (hw _ (List.mem_of_getElem? (i := 22) rfl))) Via.refl e2 (SC.ext O.2) (g := (mkF m 19 #[.val (.ref a), .val (.ref b), .val (.ref b)] [])) rfl (hb hby deq_19)
  refine Go.st st3 ?_
  show Go p e below _ T3 (mkF m 22 #[.val (.ref a), .val (.ref b), .val (.ref b)] [(.int z)])
  refine Go.st (fun _ k => XS.ifNo X3.here hx rfl (hb hby deq_22) rfl (XT.i0_eq_f nC) k) ?_
  show Go p e below _ T3 (mkF m 25 #[.val (.ref a), .val (.ref b), .val (.ref b)] [])
  refine Go.st (fun _ k => XS.aloadN X3.here hx rfl (hb hby deq_25) rfl rfl k) ?_
  show Go p e below _ T3 (mkF m 26 #[.val (.ref a), .val (.ref b), .val (.ref b)] [(.ref a)])
  obtain ⟨T4, X4, e4, st4⟩ := getF X3 hx hZ hown (host := "") (Or.inl (hw _ (List.mem_of_getElem? (i := 34) rfl))) Via.refl e3 Ca (g := (mkF m 26 #[.val (.ref a), .val (.ref b), .val (.ref b)] [(.ref a)])) rfl rfl (hb hby deq_26)
  refine Go.st st4 ?_
  show Go p e below _ T4 (mkF m 29 #[.val (.ref a), .val (.ref b), .val (.ref b)] [(.int ka)])
  refine Go.st (fun _ k => XS.aloadN X4.here hx rfl (hb hby deq_29) rfl rfl k) ?_
  show Go p e below _ T4 (mkF m 30 #[.val (.ref a), .val (.ref b), .val (.ref b)] [(.ref b), (.int ka)])
  obtain ⟨T5, X5, e5, st5⟩ := getF X4 hx hZ hown (host := "") (Or.inl (hw _ (List.mem_of_getElem? (i := 34) rfl))) Via.refl e4 Cb (g := (mkF m 30 #[.val (.ref a), .val (.ref b), .val (.ref b)] [(.ref b), (.int ka)])) rfl rfl (hb hby deq_30)
  refine Go.st st5 ?_
  show Go p e below _ T5 (mkF m 33 #[.val (.ref a), .val (.ref b), .val (.ref b)] [(.int kb), (.int ka)])
  by_cases qc : ka = kb
  · skip
    refine Go.st (fun _ k => XS.icmpNo X5.here hx rfl (hb hby deq_33) rfl (XT.ii_ne_f qc) k) ?_
    show Go p e below _ T5 (mkF m 36 #[.val (.ref a), .val (.ref b), .val (.ref b)] [])
    refine Go.st (fun _ k => XS.aloadN X5.here hx rfl (hb hby deq_36) rfl rfl k) ?_
    show Go p e below _ T5 (mkF m 37 #[.val (.ref a), .val (.ref b), .val (.ref b)] [(.ref a)])
    obtain ⟨T6, X6, e6, st6⟩ := getF X5 hx hZ hown (host := "") (Or.inl (hw _ (List.mem_of_getElem? (i := 36) rfl))) Via.refl e5 Va (g := (mkF m 37 #[.val (.ref a), .val (.ref b), .val (.ref b)] [(.ref a)])) rfl rfl (hb hby deq_37)
    refine Go.st st6 ?_
    show Go p e below _ T6 (mkF m 40 #[.val (.ref a), .val (.ref b), .val (.ref b)] [(.ref ta)])
    refine Go.st (fun _ k => XS.aloadN X6.here hx rfl (hb hby deq_40) rfl rfl k) ?_
    show Go p e below _ T6 (mkF m 41 #[.val (.ref a), .val (.ref b), .val (.ref b)] [(.ref b), (.ref ta)])
    obtain ⟨T7, X7, e7, st7⟩ := getF X6 hx hZ hown (host := "") (Or.inl (hw _ (List.mem_of_getElem? (i := 36) rfl))) Via.refl e6 Vb (g := (mkF m 41 #[.val (.ref a), .val (.ref b), .val (.ref b)] [(.ref b), (.ref ta)])) rfl rfl (hb hby deq_41)
    refine Go.st st7 ?_
    show Go p e below _ T7 (mkF m 44 #[.val (.ref a), .val (.ref b), .val (.ref b)] [(.ref tb), (.ref ta)])
    refine Go.callS X7 hx (y := (⟨"java/lang/StringLatin1", "equals", "([B[B)Z"⟩ : MethodName)) hown (mvT hZ (hw _ (List.mem_of_getElem? (i := 51) rfl))) (mvT hZ (hw _ (List.mem_of_getElem? (i := 52) rfl))) (mvT hZ (hw _ (List.mem_of_getElem? (i := 53) rfl))) (mvT hZ (hw _ (List.mem_of_getElem? (i := 54) rfl))) (by decide) (Ctr.back (W := 0) (rmLE l Z a0 hw ta tb xs ys h0 n0 Ba Bb) hZ (hw _ (List.mem_of_getElem? (i := 54) rfl)) (hw _ (List.mem_of_getElem? (i := 53) rfl)) (by (try dsimp only [room_1]); (try simp only [List.length_cons, List.length_nil]); omega) (by (try dsimp only [room_1]); (try simp only [List.length_cons, List.length_nil]); omega)) e7 (g := (mkF m 44 #[.val (.ref a), .val (.ref b), .val (.ref b)] [(.ref tb), (.ref ta)])) rfl (by rw [hml]; rfl) (argsL := [(.ref ta), (.ref tb)]) (rest := []) (lenOf pd_22 rfl) rfl (by show 2 * 0 + _ ≤ _; exact Nat.le_of_eq rfl) (hb hby deq_44) rfl (by (try dsimp only [room_1]); (try simp only [List.length_cons, List.length_nil]); omega) (by (try dsimp only [room_1]); (try simp only [List.length_cons, List.length_nil]); omega) ?_
    rintro _ T8 L8 X8 ⟨rfl, N8, e8⟩
    show Go p e below _ T8 (mkF m 47 #[.val (.ref a), .val (.ref b), .val (.ref b)] [(.int (if xs = ys then 1 else 0))])
    by_cases qx : xs = ys
    · skip
      refine Go.st (fun _ k => XS.ifNo X8.here hx rfl (hb hby deq_47) rfl (XT.i0_eq_f (by rw [if_pos qx]; decide)) k) ?_
      show Go p e below _ T8 (mkF m 50 #[.val (.ref a), .val (.ref b), .val (.ref b)] [])
      refine Go.st (fun _ k => XS.iconst X8.here hx rfl (hb hby deq_50) k) ?_
      show Go p e below _ T8 (mkF m 51 #[.val (.ref a), .val (.ref b), .val (.ref b)] [(.int (1 : Int32))])
      refine Go.st (fun _ k => XS.goto X8.here hx rfl (pc0 := 51) (pc' := 55) rfl (hb hby deq_51) (by decide) (by decide) k) ?_
      show Go p e below _ T8 (mkF m 55 #[.val (.ref a), .val (.ref b), .val (.ref b)] [(.int (1 : Int32))])
      exact Go.retB X8 hx hret hlk (Or.inl rfl) (hb hby deq_55) ⟨by rw [if_pos ⟨qc, qx⟩]; rfl, Fr.app (Fr.nil n0) N8, e8⟩ (by (try dsimp only [room_1]); (try simp only [List.length_cons, List.length_nil]); omega) (by (try dsimp only [room_1]); (try simp only [List.length_cons, List.length_nil]); omega)
    · skip
      refine Go.st (fun _ k => XS.ifYes X8.here hx rfl (pc0 := 47) (pc' := 54) rfl (hb hby deq_47) rfl (XT.i0_eq_t (by rw [if_neg qx])) (by decide) (by decide) k) ?_
      show Go p e below _ T8 (mkF m 54 #[.val (.ref a), .val (.ref b), .val (.ref b)] [])
      refine Go.st (fun _ k => XS.iconst X8.here hx rfl (hb hby deq_54) k) ?_
      show Go p e below _ T8 (mkF m 55 #[.val (.ref a), .val (.ref b), .val (.ref b)] [(.int (0 : Int32))])
      exact Go.retB X8 hx hret hlk (Or.inl rfl) (hb hby deq_55) ⟨by rw [if_neg (fun z => qx z.2)]; rfl, Fr.app (Fr.nil n0) N8, e8⟩ (by (try dsimp only [room_1]); (try simp only [List.length_cons, List.length_nil]); omega) (by (try dsimp only [room_1]); (try simp only [List.length_cons, List.length_nil]); omega)
  · skip
    refine Go.st (fun _ k => XS.icmpYes X5.here hx rfl (pc0 := 33) (pc' := 54) rfl (hb hby deq_33) rfl (XT.ii_ne_t qc) (by decide) (by decide) k) ?_
    show Go p e below _ T5 (mkF m 54 #[.val (.ref a), .val (.ref b), .val (.ref b)] [])
    refine Go.st (fun _ k => XS.iconst X5.here hx rfl (hb hby deq_54) k) ?_
    show Go p e below _ T5 (mkF m 55 #[.val (.ref a), .val (.ref b), .val (.ref b)] [(.int (0 : Int32))])
    exact Go.retB X5 hx hret hlk (Or.inl rfl) (hb hby deq_55) ⟨by rw [if_neg (fun z => qc z.1)]; rfl, Fr.nil n0, e5⟩ (by (try dsimp only [room_1]); (try simp only [List.length_cons, List.length_nil]); omega) (by (try dsimp only [room_1]); (try simp only [List.length_cons, List.length_nil]); omega)
theorem own_fb_of_all : ∀ cs : List Int32, (∀ c ∈ cs, ¬ (255 : Int32) < c) → own_fb cs = cs.length
  | [], _ => rfl
  | c :: cs, h => by
    rw [own_fb_cons, if_neg (h c (by simp)), own_fb_of_all cs (fun d hd => h d (by simp [hd])), List.length_cons]
theorem own_small {c : Int32} (h1 : ¬ c < 0) (n : Nat) (hn : n < 2147483648) (h2 : ¬ Int32.ofNat n < c) : ∃ k : Nat, k ≤ n ∧ c = Int32.ofNat k := by
  rw [Int32.lt_iff_toInt_lt] at h1 h2
  rw [own_toInt hn] at h2
  have e2 : (0 : Int32).toInt = 0 := rfl
  refine ⟨c.toInt.toNat, by omega, ?_⟩
  apply Int32.toInt_inj.mp
  rw [own_toInt (by omega)]; omega
theorem own_and255_id {c : Int32} (h1 : ¬ c < 0) (h2 : ¬ (255 : Int32) < c) : c &&& 255 = c := by
  obtain ⟨k, hk, rfl⟩ := own_small h1 255 (by decide) h2
  have : ∀ k : Fin 256, Int32.ofNat k.val &&& 255 = Int32.ofNat k.val := by decide +kernel
  exact this ⟨k, by omega⟩
theorem own_lo_id {c : Int32} (h1 : ¬ c < 0) (h2 : ¬ (127 : Int32) < c) : own_lo c = c := by
  obtain ⟨k, hk, rfl⟩ := own_small h1 127 (by decide) h2
  have : ∀ k : Fin 128, own_lo (Int32.ofNat k.val) = Int32.ofNat k.val := by decide +kernel
  exact this ⟨k, by omega⟩
theorem own_lt127 {c : Int32} (h : ¬ (127 : Int32) < c) : ¬ (255 : Int32) < c := fun q => h (by rw [Int32.lt_iff_toInt_lt] at q ⊢; have e1 : (127 : Int32).toInt = 127 := rfl; have e2 : (255 : Int32).toInt = 255 := rfl; omega)
theorem own_map_lo : ∀ (ds lits : List Int32), (∀ c ∈ ds, ¬ c < 0 ∧ ¬ (255 : Int32) < c) → (∀ c ∈ lits, ¬ c < 0 ∧ ¬ (127 : Int32) < c) → ds.map own_lo = lits → ds = lits
  | [], lits, _, _, h => by simpa using h
  | d :: ds, [], _, _, h => by simp at h
  | d :: ds, x :: lits, h1, h2, h => by
    simp only [List.map_cons, List.cons.injEq] at h
    have a1 := h1 d (by simp)
    have a2 := h2 x (by simp)
    have e : d = x := by
      have q := own_mask d
      have q2 : d.toInt8.toInt32 = x := h.1
      rw [q2, own_and255_id a2.1 (own_lt127 a2.2), own_and255_id a1.1 a1.2] at q
      exact q.symm
    rw [e, own_map_lo ds lits (fun c hc => h1 c (by simp [hc])) (fun c hc => h2 c (by simp [hc])) h.2]
theorem own_is_lit {ds lits : List Int32} (h1 : ∀ c ∈ ds, ¬ c < 0 ∧ ¬ (65535 : Int32) < c) (h2 : ∀ c ∈ lits, ¬ c < 0 ∧ ¬ (127 : Int32) < c) : (own_cod ds = 0 ∧ own_val ds = lits) ↔ ds = lits := by
  constructor
  · rintro ⟨q1, q2⟩
    have f : own_fb ds = ds.length := Classical.byContradiction fun z => by unfold own_cod at q1; rw [if_neg z] at q1; exact absurd q1 (by decide)
    unfold own_val at q2
    rw [if_pos f] at q2
    exact own_map_lo ds lits (fun c hc => ⟨(h1 c hc).1, own_fb_all ds f c hc⟩) h2 q2
  · rintro rfl
    have f : own_fb ds = ds.length := own_fb_of_all ds (fun c hc => own_lt127 (h2 c hc).2)
    refine ⟨by unfold own_cod; rw [if_pos f], ?_⟩
    unfold own_val; rw [if_pos f]
    have : ∀ (L : List Int32), (∀ c ∈ L, own_lo c = c) → L.map own_lo = L := by
      intro L hL
      induction L with
      | nil => rfl
      | cons y L ih => rw [List.map_cons, hL y (by simp), ih (fun c hc => hL c (by simp [hc]))]
    exact this ds (fun c hc => own_lo_id (h2 c hc).1 (h2 c hc).2)
theorem own_modN (x d : Int32) (hd : 0 < d.toInt) : ∃ k : Nat, (k : Int) < d.toInt ∧ (x &&& (2147483647 : Int32)) % d = Int32.ofNat k := by
  have h1 : ¬ (x &&& (2147483647 : Int32)) < 0 := fun q => absurd ((XT.and_neg32 _ _).mp q).2 (by decide)
  have h2 : ((x &&& (2147483647 : Int32)) % d).toInt = (x &&& (2147483647 : Int32)).toInt.tmod d.toInt := Int32.toInt_mod ..
  generalize (x &&& (2147483647 : Int32)) = y at h1 h2 ⊢
  rw [XT.negI32] at h1
  rw [Int.tmod_eq_emod_of_nonneg (by omega)] at h2
  have a1 := Int.emod_nonneg y.toInt (b := d.toInt) (by omega)
  have a2 := Int.emod_lt_of_pos y.toInt hd
  have a3 := d.toInt_lt
  refine ⟨(y.toInt % d.toInt).toNat, by omega, ?_⟩
  apply Int32.toInt_inj.mp
  rw [own_toInt (by omega), h2]; omega
theorem own_lit {us us0 : Array UInt16} {text : String} (h : utf16ToString? us = some text) (h0 : utf16ToString? us0 = some text) (ht : ∀ c ∈ text.toList, c.toNat < 256) : own_bytes us = own_bytes us0 := by rw [own_units_inj h h0 ht]
theorem dfb_0 : decode method_2_code 0 = .ok (.lload_n 0, 1) := by decide +kernel
theorem dfb_1 : decode method_2_code 1 = .ok (.iload_n 2, 1) := by decide +kernel
theorem dfb_2 : decode method_2_code 2 = .ok (.bipush 7, 2) := by decide +kernel
theorem dfb_4 : decode method_2_code 4 = .ok (.iand, 1) := by decide +kernel
theorem dfb_5 : decode method_2_code 5 = .ok (.bipush 8, 2) := by decide +kernel
theorem dfb_7 : decode method_2_code 7 = .ok (.imul, 1) := by decide +kernel
theorem dfb_8 : decode method_2_code 8 = .ok (.lushr, 1) := by decide +kernel
theorem dfb_9 : decode method_2_code 9 = .ok (.ldc2_w 7, 3) := by decide +kernel
theorem dfb_12 : decode method_2_code 12 = .ok (.land, 1) := by decide +kernel
theorem dfb_13 : decode method_2_code 13 = .ok (.l2i, 1) := by decide +kernel
theorem dfb_14 : decode method_2_code 14 = .ok (.i2c, 1) := by decide +kernel
theorem dfb_15 : decode method_2_code 15 = .ok (.ireturn, 1) := by decide +kernel
def QX (h0 : Heap) (n0 : Nat) (v : Option Value) (h : Heap) (L : List Loc) : Prop := ∃ x, v = some (.int x) ∧ Fr n0 L ∧ h = h0
set_option maxRecDepth 65536 in
set_option maxHeartbeats 40000000 in
theorem rmFB (l : Launch) (Z : State) (a0 : Array Value) (hw : ∀ d ∈ tables_1, d.before a0 Z = true) (p1 : Int64) (p2 : Int32) (h0 : Heap) (n0 : Nat) :
    Ctr l Z (⟨"com/example/tutti/tutti/cli/CommandLineIsVerbosePinLaw", "fb", "(JI)C"⟩ : MethodName) method_2_code 3 (some .char) [] ({ frames := 0, cells := 0, slots := 0, locals := 0 } : Room) #[(.long p1), (.int p2)] h0 (QX h0 n0) := by
  refine Ctr.of (plainFor_of_name pn_19) ?_
  intro p e s m below meth c s₁ hx hby hml hown hnm hret hlk hZ X0 e0
  refine Go.cast (ef_23 m p1 p2) ?_
  show Go p e below _ s₁ (mkF m 0 #[.val (.long p1), .second, .val (.int p2)] [])
  refine Go.st (fun _ k => XT.lloadN X0.here hx rfl (hb hby dfb_0) rfl k) ?_
  show Go p e below _ s₁ (mkF m 1 #[.val (.long p1), .second, .val (.int p2)] [(.long p1)])
  refine Go.st (fun _ k => XS.iloadN X0.here hx rfl (hb hby dfb_1) rfl k) ?_
  show Go p e below _ s₁ (mkF m 2 #[.val (.long p1), .second, .val (.int p2)] [(.int p2), (.long p1)])
  refine Go.st (fun _ k => XS.bipush X0.here hx rfl (hb hby dfb_2) k) ?_
  show Go p e below _ s₁ (mkF m 4 #[.val (.long p1), .second, .val (.int p2)] [(.int (7 : Int32)), (.int p2), (.long p1)])
  refine Go.st (fun _ k => XS.iand X0.here hx rfl (hb hby dfb_4) rfl k) ?_
  show Go p e below _ s₁ (mkF m 5 #[.val (.long p1), .second, .val (.int p2)] [(.int (p2 &&& (7 : Int32))), (.long p1)])
  refine Go.st (fun _ k => XS.bipush X0.here hx rfl (hb hby dfb_5) k) ?_
  show Go p e below _ s₁ (mkF m 7 #[.val (.long p1), .second, .val (.int p2)] [(.int (8 : Int32)), (.int (p2 &&& (7 : Int32))), (.long p1)])
  refine Go.st (fun _ k => XS.imul X0.here hx rfl (hb hby dfb_7) rfl k) ?_
  show Go p e below _ s₁ (mkF m 8 #[.val (.long p1), .second, .val (.int p2)] [(.int ((p2 &&& (7 : Int32)) * (8 : Int32))), (.long p1)])
  refine Go.st (fun _ k => XT.lushr X0.here hx rfl (hb hby dfb_8) rfl k) ?_
  show Go p e below _ s₁ (mkF m 9 #[.val (.long p1), .second, .val (.int p2)] [(.long (XT.ushrL p1 ((p2 &&& (7 : Int32)) * (8 : Int32))))])
  refine Go.st (fun _ k => X0.ldc2J hx hown (mvT hZ (hw _ (List.mem_of_getElem? (i := 5) rfl))) rfl (hb hby dfb_9) k) ?_
  show Go p e below _ s₁ (mkF m 12 #[.val (.long p1), .second, .val (.int p2)] [(.long (255 : Int64)), (.long (XT.ushrL p1 ((p2 &&& (7 : Int32)) * (8 : Int32))))])
  refine Go.st (fun _ k => XT.land X0.here hx rfl (hb hby dfb_12) rfl k) ?_
  show Go p e below _ s₁ (mkF m 13 #[.val (.long p1), .second, .val (.int p2)] [(.long ((XT.ushrL p1 ((p2 &&& (7 : Int32)) * (8 : Int32))) &&& (255 : Int64)))])
  refine Go.st (fun _ k => XT.l2i X0.here hx rfl (hb hby dfb_13) rfl k) ?_
  show Go p e below _ s₁ (mkF m 14 #[.val (.long p1), .second, .val (.int p2)] [(.int (((XT.ushrL p1 ((p2 &&& (7 : Int32)) * (8 : Int32))) &&& (255 : Int64)).toInt32))])
  refine Go.st (fun _ k => XT.i2c X0.here hx rfl (hb hby dfb_14) rfl k) ?_
  show Go p e below _ s₁ (mkF m 15 #[.val (.long p1), .second, .val (.int p2)] [(.int ((((XT.ushrL p1 ((p2 &&& (7 : Int32)) * (8 : Int32))) &&& (255 : Int64)).toInt32).toUInt32.toUInt16.toUInt32.toInt32))])
  exact Go.retB X0 hx hret hlk (Or.inr (Or.inr (Or.inl rfl))) (hb hby dfb_15) ⟨_, rfl, Fr.nil n0, e0⟩ (Nat.le_refl _) (Nat.le_refl _)
theorem dvb_0 : decode prog_2_method_5_code 0 = .ok (.aload_n 0, 1) := by decide +kernel
theorem dvb_1 : decode prog_2_method_5_code 1 = .ok (.ldc 108, 2) := by decide +kernel
theorem dvb_3 : decode prog_2_method_5_code 3 = .ok (.invokevirtual 110, 3) := by decide +kernel
theorem dvb_6 : decode prog_2_method_5_code 6 = .ok (.ifCond .ne 12, 3) := by decide +kernel
theorem dvb_9 : decode prog_2_method_5_code 9 = .ok (.aload_n 0, 1) := by decide +kernel
theorem dvb_10 : decode prog_2_method_5_code 10 = .ok (.ldc 113, 2) := by decide +kernel
theorem dvb_12 : decode prog_2_method_5_code 12 = .ok (.invokevirtual 110, 3) := by decide +kernel
theorem dvb_15 : decode prog_2_method_5_code 15 = .ok (.ifCond .eq 7, 3) := by decide +kernel
theorem dvb_18 : decode prog_2_method_5_code 18 = .ok (.iconst 1, 1) := by decide +kernel
theorem dvb_19 : decode prog_2_method_5_code 19 = .ok (.goto 4, 3) := by decide +kernel
theorem dvb_22 : decode prog_2_method_5_code 22 = .ok (.iconst 0, 1) := by decide +kernel
theorem dvb_23 : decode prog_2_method_5_code 23 = .ok (.ireturn, 1) := by decide +kernel
def QVB (ka : Int32) (xs : List Int32) (n0 : Nat) (v : Option Value) (h : Heap) (L : List Loc) : Prop := v = some (.int (if (ka = 0 ∧ xs = ([45, 45, 118, 101, 114, 98, 111, 115, 101] : List Int32)) ∨ (ka = 0 ∧ xs = ([45, 118] : List Int32)) then 1 else 0)) ∧ Fr n0 L
set_option maxRecDepth 65536 in
set_option maxHeartbeats 40000000 in
theorem rmVB (l : Launch) (Z : State) (a0 : Array Value) (hw : ∀ d ∈ tables_1, d.before a0 Z = true) (z : Int32) (SC : Sta Z Z.heap "java/lang/String" "COMPACT_STRINGS" "Z" (.int z)) (nC : ¬ z = 0) (a t : Addr) (ka : Int32) (xs : List Int32) (h0 : Heap) (n0 : Nat) (Z0 : n0 ≤ h0.size) (X00 : Old Z n0 h0) (Es : Exa Z h0 a "java/lang/String") (Cs : Fld Z h0 a "java/lang/String" "coder" "B" (.int ka)) (Vs : Fld Z h0 a "java/lang/String" "value" "[B" (.ref t)) (Bs : AI Z h0 t .byte xs) :
    WCtr consts_1 (fun b => b < h0.size) l Z (⟨"com/example/tutti/tutti/cli/CommandLine", "isVerbose", "(Ljava/lang/String;)Z"⟩ : MethodName) prog_2_method_5_code 1 (some .boolean) [] ({ frames := 2, cells := 4, slots := 60, locals := 40 } : Room) #[(.ref a)] h0 (QVB ka xs n0) := by
  refine WCtr.of (plainFor_of_name pn_26) ?_
  intro p e s m below meth c s₁ hx hby hml hown hnm hret hlk hZ X0 e0 hC0
  refine Go.cast (ef_24 m a) ?_
  show Go p e below _ s₁ (mkF m 0 #[.val (.ref a)] [])
  refine Go.st (fun _ k => XS.aloadN X0.here hx rfl (hb hby dvb_0) rfl rfl k) ?_
  show Go p e below _ s₁ (mkF m 1 #[.val (.ref a)] [(.ref a)])
  have wS : ∀ d ∈ Bundle.stringAtoms, d.before a0 Z = true := fun d hd => hw d ((by decide +kernel : ∀ d ∈ Bundle.stringAtoms, d ∈ tables_1) d hd)
  have hsz : h0.size ≤ s.heap.size := by have q := X0.heapSize; rw [e0] at q; exact q
  refine Go.ldcW X0 hx (Bas.refl s 0) (Nat.zero_le _) hZ hown (hw _ (List.mem_of_getElem? (i := 42) rfl)) wS (by decide) hC0 (by rw [e0]; exact Und.refl _ h0) (by simp [consts_1]) (fun _ q => nomatch q) (g := (mkF m 1 #[.val (.ref a)] [(.ref a)])) rfl (hb hby dvb_1) (nn := 36) (by decide) (by decide) (by (try dsimp only [room_1]); (try simp only [List.length_cons, List.length_nil]); omega) (by (try dsimp only [room_1]); (try simp only [List.length_cons, List.length_nil]); omega) ?_
  rintro a1 v1 s1 T1 us1 locs1 hun1 hB1 hZ1 hown1 hC1 E1 hsh1 hloc1 X1 hres1 F1 V1 G1 B1 hpl1
  rw [own_lit hun1 (us0 := #[45, 45, 118, 101, 114, 98, 111, 115, 101]) (by decide +kernel) (by decide)] at B1
  have B1' : AI Z T1.heap v1 .byte ([45, 45, 118, 101, 114, 98, 111, 115, 101] : List Int32) := B1
  show Go p e below _ T1 (mkF m 3 #[.val (.ref a)] [(.ref a1), (.ref a)])
  have Ea : Ext h0 T1.heap := e0 ▸ E1
  refine Go.callV X1 hx hZ1 (C := "java/lang/String") (y := (⟨"java/lang/String", "equals", "(Ljava/lang/Object;)Z"⟩ : MethodName)) (z := (⟨"java/lang/String", "equals", "(Ljava/lang/Object;)Z"⟩ : MethodName)) hown1 (mvT hZ1 (hw _ (List.mem_of_getElem? (i := 45) rfl))) (mvT hZ1 (hw _ (List.mem_of_getElem? (i := 46) rfl))) (mvT hZ1 (hw _ (List.mem_of_getElem? (i := 48) rfl))) (mvT hZ1 (hw _ (List.mem_of_getElem? (i := 47) rfl))) (by decide) (notFace_of_selects (args := #[]) (mvT hZ1 (hw _ (List.mem_of_getElem? (i := 48) rfl)))) (Ctr.back (W := 0) (rmEQ l Z a0 hw z SC nC a a1 t v1 ka 0 xs ([45, 45, 118, 101, 114, 98, 111, 115, 101] : List Int32) T1.heap s1.heap.size ⟨(X00.ext Ea).2, (X00.ext Ea).2⟩ (Es.ext Ea) (Cs.ext Ea) (Vs.ext Ea) (Bs.ext Ea) F1 G1 V1 B1') hZ1 (hw _ (List.mem_of_getElem? (i := 49) rfl)) (hw _ (List.mem_of_getElem? (i := 11) rfl)) (by (try dsimp only [room_1]); (try simp only [List.length_cons, List.length_nil]); omega) (by (try dsimp only [room_1]); (try simp only [List.length_cons, List.length_nil]); omega)) rfl (Es.ext Ea) (g := (mkF m 3 #[.val (.ref a)] [(.ref a1), (.ref a)])) rfl (by rw [hml]; rfl) (argsL := [(.ref a1)]) (rest := []) (lenOf pd_25 rfl) rfl (by show 2 * 0 + _ ≤ _; exact Nat.le_of_eq rfl) (hb hby dvb_3) rfl (by (try dsimp only [room_1]); (try simp only [List.length_cons, List.length_nil]); omega) (by (try dsimp only [room_1]); (try simp only [List.length_cons, List.length_nil]); omega) ?_
  rintro _ T2 L2 X2 ⟨rfl, N2, e2⟩
  show Go p e below _ T2 (mkF m 6 #[.val (.ref a)] [(.int (if ka = 0 ∧ xs = ([45, 45, 118, 101, 114, 98, 111, 115, 101] : List Int32) then 1 else 0))])
  have n02 : Fr n0 (locs1 ++ L2) := Fr.app (fun y hy => nomatch hloc1 y hy) (Fr.le N2 (by rw [hsh1]; omega))
  by_cases q1 : ka = 0 ∧ xs = ([45, 45, 118, 101, 114, 98, 111, 115, 101] : List Int32)
  · skip
    refine Go.st (fun _ k => XS.ifYes X2.here hx rfl (pc0 := 6) (pc' := 18) rfl (hb hby dvb_6) rfl (XT.i0_ne_t (by rw [if_pos q1]; decide)) (by decide) (by decide) k) ?_
    show Go p e below _ T2 (mkF m 18 #[.val (.ref a)] [])
    refine Go.st (fun _ k => XS.iconst X2.here hx rfl (hb hby dvb_18) k) ?_
    show Go p e below _ T2 (mkF m 19 #[.val (.ref a)] [(.int (1 : Int32))])
    refine Go.st (fun _ k => XS.goto X2.here hx rfl (pc0 := 19) (pc' := 23) rfl (hb hby dvb_19) (by decide) (by decide) k) ?_
    show Go p e below _ T2 (mkF m 23 #[.val (.ref a)] [(.int (1 : Int32))])
    exact Go.retBW X2 hx hB1 (by rw [e2]; exact Nat.le_refl _) hC1 (by rw [e2]; exact Und.refl _ _) hret hlk (Or.inl rfl) (hb hby dvb_23) ⟨by rw [if_pos (Or.inl q1)]; rfl, n02⟩ (by (try dsimp only [room_1]); (try simp only [List.length_cons, List.length_nil]); omega) (by (try dsimp only [room_1]); (try simp only [List.length_cons, List.length_nil]); omega)
  · skip
    refine Go.st (fun _ k => XS.ifNo X2.here hx rfl (hb hby dvb_6) rfl (XT.i0_ne_f (by rw [if_neg q1])) k) ?_
    show Go p e below _ T2 (mkF m 9 #[.val (.ref a)] [])
    refine Go.st (fun _ k => XS.aloadN X2.here hx rfl (hb hby dvb_9) rfl rfl k) ?_
    show Go p e below _ T2 (mkF m 10 #[.val (.ref a)] [(.ref a)])
    refine Go.ldcW X2 hx hB1 (by rw [e2]; exact Nat.le_refl _) hZ1 hown1 (hw _ (List.mem_of_getElem? (i := 55) rfl)) wS (by decide) hC1 (by rw [e2]; exact Und.refl _ _) (by simp [consts_1]) (fun y hy => (List.mem_append.mp hy).elim (fun q => nomatch hloc1 y q) (N2 y)) (g := (mkF m 10 #[.val (.ref a)] [(.ref a)])) rfl (hb hby dvb_10) (nn := 8) (by decide) (by decide) (by (try dsimp only [room_1]); (try simp only [List.length_cons, List.length_nil]); omega) (by (try dsimp only [room_1]); (try simp only [List.length_cons, List.length_nil]); omega) ?_
    rintro a3 v3 s3 T3 us3 locs3 hun3 hB3 hZ3 hown3 hC3 E3 hsh3 hloc3 X3 hres3 F3 V3 G3 B3 hpl3
    rw [own_lit hun3 (us0 := #[45, 118]) (by decide +kernel) (by decide)] at B3
    have B3' : AI Z T3.heap v3 .byte ([45, 118] : List Int32) := B3
    show Go p e below _ T3 (mkF m 12 #[.val (.ref a)] [(.ref a3), (.ref a)])
    have Ec : Ext h0 T3.heap := ⟨Nat.le_trans Ea.1 (e2 ▸ E3.1), fun b c q => E3.2 b c (by rw [e2]; exact Ea.2 b c q)⟩
    refine Go.callV X3 hx hZ3 (C := "java/lang/String") (y := (⟨"java/lang/String", "equals", "(Ljava/lang/Object;)Z"⟩ : MethodName)) (z := (⟨"java/lang/String", "equals", "(Ljava/lang/Object;)Z"⟩ : MethodName)) hown3 (mvT hZ3 (hw _ (List.mem_of_getElem? (i := 45) rfl))) (mvT hZ3 (hw _ (List.mem_of_getElem? (i := 46) rfl))) (mvT hZ3 (hw _ (List.mem_of_getElem? (i := 48) rfl))) (mvT hZ3 (hw _ (List.mem_of_getElem? (i := 47) rfl))) (by decide) (notFace_of_selects (args := #[]) (mvT hZ3 (hw _ (List.mem_of_getElem? (i := 48) rfl)))) (Ctr.back (W := 0) (rmEQ l Z a0 hw z SC nC a a3 t v3 ka 0 xs ([45, 118] : List Int32) T3.heap s3.heap.size ⟨(X00.ext Ec).2, (X00.ext Ec).2⟩ (Es.ext Ec) (Cs.ext Ec) (Vs.ext Ec) (Bs.ext Ec) F3 G3 V3 B3') hZ3 (hw _ (List.mem_of_getElem? (i := 49) rfl)) (hw _ (List.mem_of_getElem? (i := 11) rfl)) (by (try dsimp only [room_1]); (try simp only [List.length_cons, List.length_nil]); omega) (by (try dsimp only [room_1]); (try simp only [List.length_cons, List.length_nil]); omega)) rfl (Es.ext Ec) (g := (mkF m 12 #[.val (.ref a)] [(.ref a3), (.ref a)])) rfl (by rw [hml]; rfl) (argsL := [(.ref a3)]) (rest := []) (lenOf pd_25 rfl) rfl (by show 2 * 0 + _ ≤ _; exact Nat.le_of_eq rfl) (hb hby dvb_12) rfl (by (try dsimp only [room_1]); (try simp only [List.length_cons, List.length_nil]); omega) (by (try dsimp only [room_1]); (try simp only [List.length_cons, List.length_nil]); omega) ?_
    rintro _ T4 L4 X4 ⟨rfl, N4, e4⟩
    show Go p e below _ T4 (mkF m 15 #[.val (.ref a)] [(.int (if ka = 0 ∧ xs = ([45, 118] : List Int32) then 1 else 0))])
    have n04 : Fr n0 (locs3 ++ L4) := Fr.app (fun y hy => n02 y (hloc3 y hy)) (Fr.le N4 (by rw [hsh3, hsh1]; omega))
    by_cases q2 : ka = 0 ∧ xs = ([45, 118] : List Int32)
    · skip
      refine Go.st (fun _ k => XS.ifNo X4.here hx rfl (hb hby dvb_15) rfl (XT.i0_eq_f (by rw [if_pos q2]; decide)) k) ?_
      show Go p e below _ T4 (mkF m 18 #[.val (.ref a)] [])
      refine Go.st (fun _ k => XS.iconst X4.here hx rfl (hb hby dvb_18) k) ?_
      show Go p e below _ T4 (mkF m 19 #[.val (.ref a)] [(.int (1 : Int32))])
      refine Go.st (fun _ k => XS.goto X4.here hx rfl (pc0 := 19) (pc' := 23) rfl (hb hby dvb_19) (by decide) (by decide) k) ?_
      show Go p e below _ T4 (mkF m 23 #[.val (.ref a)] [(.int (1 : Int32))])
      exact Go.retBW X4 hx hB3 (by rw [e4]; exact Nat.le_refl _) hC3 (by rw [e4]; exact Und.refl _ _) hret hlk (Or.inl rfl) (hb hby dvb_23) ⟨by rw [if_pos (Or.inr q2)]; rfl, n04⟩ (by (try dsimp only [room_1]); (try simp only [List.length_cons, List.length_nil]); omega) (by (try dsimp only [room_1]); (try simp only [List.length_cons, List.length_nil]); omega)
    · skip
      refine Go.st (fun _ k => XS.ifYes X4.here hx rfl (pc0 := 15) (pc' := 22) rfl (hb hby dvb_15) rfl (XT.i0_eq_t (by rw [if_neg q2])) (by decide) (by decide) k) ?_
      show Go p e below _ T4 (mkF m 22 #[.val (.ref a)] [])
      refine Go.st (fun _ k => XS.iconst X4.here hx rfl (hb hby dvb_22) k) ?_
      show Go p e below _ T4 (mkF m 23 #[.val (.ref a)] [(.int (0 : Int32))])
      exact Go.retBW X4 hx hB3 (by rw [e4]; exact Nat.le_refl _) hC3 (by rw [e4]; exact Und.refl _ _) hret hlk (Or.inl rfl) (hb hby dvb_23) ⟨by rw [if_neg (fun z => z.elim q1 q2)]; rfl, n04⟩ (by (try dsimp only [room_1]); (try simp only [List.length_cons, List.length_nil]); omega) (by (try dsimp only [room_1]); (try simp only [List.length_cons, List.length_nil]); omega)
theorem own_key (c0 c1 c2 c3 c4 c5 c6 c7 c8 c9 : Int32) (hbd : ∀ c ∈ ([c0, c1, c2, c3, c4, c5, c6, c7, c8, c9] : List Int32), ¬ c < 0 ∧ ¬ (65535 : Int32) < c) (n : Nat) (hn : n ≤ 10) (ni : Int32) (hni : ni = Int32.ofNat n) :
    ((own_cod (([c0, c1, c2, c3, c4, c5, c6, c7, c8, c9] : List Int32).take n) = 0 ∧ own_val (([c0, c1, c2, c3, c4, c5, c6, c7, c8, c9] : List Int32).take n) = ([45, 45, 118, 101, 114, 98, 111, 115, 101] : List Int32)) ∨ (own_cod (([c0, c1, c2, c3, c4, c5, c6, c7, c8, c9] : List Int32).take n) = 0 ∧ own_val (([c0, c1, c2, c3, c4, c5, c6, c7, c8, c9] : List Int32).take n) = ([45, 118] : List Int32))) ↔ ((ni = 2 ∧ c0 = 45 ∧ c1 = 118) ∨ (ni = 9 ∧ c0 = 45 ∧ c1 = 45 ∧ c2 = 118 ∧ c3 = 101 ∧ c4 = 114 ∧ c5 = 98 ∧ c6 = 111 ∧ c7 = 115 ∧ c8 = 101)) := by
  have hb2 : ∀ c ∈ ([c0, c1, c2, c3, c4, c5, c6, c7, c8, c9] : List Int32).take n, ¬ c < 0 ∧ ¬ (65535 : Int32) < c := fun c hc => hbd c (List.mem_of_mem_take hc)
  rw [own_is_lit hb2 (by decide), own_is_lit hb2 (by decide), hni]
  rcases (by omega : n = 0 ∨ n = 1 ∨ n = 2 ∨ n = 3 ∨ n = 4 ∨ n = 5 ∨ n = 6 ∨ n = 7 ∨ n = 8 ∨ n = 9 ∨ n = 10) with rfl | rfl | rfl | rfl | rfl | rfl | rfl | rfl | rfl | rfl | rfl <;> simp +decide [List.take]
def Q0 (n0 : Nat) (v : Option Value) (h : Heap) (L : List Loc) : Prop := v = some (.int 1) ∧ Fr n0 L
set_option maxRecDepth 65536 in
set_option maxHeartbeats 40000000 in
theorem rm0 (l : Launch) (Z : State) (a0 : Array Value) (hw : ∀ d ∈ tables_1, d.before a0 Z = true) (ws : List Jvm.Cond) (p0 p1 p2 p3 : Int32) (p4 : Int64) (z : Int32) (Su : Su16 Z z) (h0 : Heap) (n0 : Nat) (Z0 : n0 = h0.size) (X00 : Old Z n0 h0) :
    WCtr consts_1 (fun b => b < h0.size) l Z x code maxLocals ret ws room_1 #[(.int p0), (.int p1), (.int p2), (.int p3), (.long p4)] h0 (Q0 n0) := by
  refine WCtr.of (plainFor_of_name pn_19) ?_
  intro p e s m below meth c s₁ hx hby hml hown hnm hret hlk hZ X0 e0 hC0
  have hml : c.maxLocals = 15 := hml
  refine Go.cast (ef_27 m p0 p1 p2 p3 p4) ?_
  show Go p e below _ s₁ (mkF m 0 #[.val (.int p0), .val (.int p1), .val (.int p2), .val (.int p3), .val (.long p4), .second, .unset, .unset, .unset, .unset, .unset, .unset, .unset, .unset, .unset] [])
  refine Go.st (fun _ k => XS.bipush X0.here hx rfl (hb hby at_0) k) ?_
  show Go p e below _ s₁ (mkF m 2 #[.val (.int p0), .val (.int p1), .val (.int p2), .val (.int p3), .val (.long p4), .second, .unset, .unset, .unset, .unset, .unset, .unset, .unset, .unset, .unset] [(.int (10 : Int32))])
  refine Go.newarr X0 hx hZ (ty := .char) rfl rfl (hw _ (List.mem_of_getElem? (i := 0) rfl)) e0 (g := (mkF m 2 #[.val (.int p0), .val (.int p1), .val (.int p2), .val (.int p3), .val (.long p4), .second, .unset, .unset, .unset, .unset, .unset, .unset, .unset, .unset, .unset] [(.int (10 : Int32))])) rfl (hb hby at_2) rfl (n := 10) rfl (by decide) (by (try dsimp only [room_1]); (try simp only [List.length_cons, List.length_nil]); omega) (by (try dsimp only [room_1]); (try simp only [List.length_cons, List.length_nil]); omega) ?_
  rintro T1 h1 X1 e1 E1 l1 A1
  obtain ⟨a1, g1⟩ : ∃ z, z = h0.size := ⟨_, rfl⟩
  rw [← g1] at A1 l1 ⊢
  have sE1 := E1.1
  show Go p e below _ T1 (mkF m 4 #[.val (.int p0), .val (.int p1), .val (.int p2), .val (.int p3), .val (.long p4), .second, .unset, .unset, .unset, .unset, .unset, .unset, .unset, .unset, .unset] [(.ref a1)])
  refine Go.st (fun _ k => XS.astore X1.here hx rfl (hb hby at_4) rfl rfl (l' := #[.val (.int p0), .val (.int p1), .val (.int p2), .val (.int p3), .val (.long p4), .second, .val (.ref a1), .unset, .unset, .unset, .unset, .unset, .unset, .unset, .unset]) rfl k) ?_
  show Go p e below _ T1 (mkF m 6 #[.val (.int p0), .val (.int p1), .val (.int p2), .val (.int p3), .val (.long p4), .second, .val (.ref a1), .unset, .unset, .unset, .unset, .unset, .unset, .unset, .unset] [])
  refine Go.st (fun _ k => XS.aload X1.here hx rfl (hb hby at_6) rfl rfl k) ?_
  show Go p e below _ T1 (mkF m 8 #[.val (.int p0), .val (.int p1), .val (.int p2), .val (.int p3), .val (.long p4), .second, .val (.ref a1), .unset, .unset, .unset, .unset, .unset, .unset, .unset, .unset] [(.ref a1)])
  refine Go.st (fun _ k => XS.iconst X1.here hx rfl (hb hby at_8) k) ?_
  show Go p e below _ T1 (mkF m 9 #[.val (.int p0), .val (.int p1), .val (.int p2), .val (.int p3), .val (.long p4), .second, .val (.ref a1), .unset, .unset, .unset, .unset, .unset, .unset, .unset, .unset] [(.int (0 : Int32)), (.ref a1)])
  refine Go.st (fun _ k => XT.lload X1.here hx rfl (hb hby at_9) rfl k) ?_
  show Go p e below _ T1 (mkF m 11 #[.val (.int p0), .val (.int p1), .val (.int p2), .val (.int p3), .val (.long p4), .second, .val (.ref a1), .unset, .unset, .unset, .unset, .unset, .unset, .unset, .unset] [(.long p4), (.int (0 : Int32)), (.ref a1)])
  refine Go.st (fun _ k => XS.iconst X1.here hx rfl (hb hby at_11) k) ?_
  show Go p e below _ T1 (mkF m 12 #[.val (.int p0), .val (.int p1), .val (.int p2), .val (.int p3), .val (.long p4), .second, .val (.ref a1), .unset, .unset, .unset, .unset, .unset, .unset, .unset, .unset] [(.int (0 : Int32)), (.long p4), (.int (0 : Int32)), (.ref a1)])
  have UX : ∀ {h : Heap}, Keep h0 h [] → Und (fun b => b < h0.size) h0 h := fun K => (Und.refl _ h0).keep K all0
  have ha1 : h0.size ≤ a1 := by omega
  have J3 : ∀ (tt nat sel ni : Int32) (n : Nat), n ≤ 10 → ni = Int32.ofNat n → ∀ (T : State) (h : Heap) (locs : List Loc) (cs : List Int32), Stand p l e room_1 s m #[(.int p0), (.int p1), (.int p2), (.int p3), (.long p4)] below meth c T locs 1 10 → T.heap = h → AI Z h a1 .char cs → CB 10 cs → Keep h0 h [] → Fr n0 locs → Go p e below (EndW consts_1 s (Q0 n0) room_1.cells room_1.slots) T (mkF m 360 #[.val (.int p0), .val (.int p1), .val (.int p2), .val (.int p3), .val (.long p4), .second, .val (.ref a1), .val (.int tt), .val (.int nat), .val (.int sel), .val (.int ni), .unset, .unset, .unset, .unset] []) := by
    intro tt nat sel ni n hn hni T h locs cs X eT A B K N
    obtain ⟨c0, c1, c2, c3, c4, c5, c6, c7, c8, c9, rfl⟩ : ∃ c0 c1 c2 c3 c4 c5 c6 c7 c8 c9, cs = [c0, c1, c2, c3, c4, c5, c6, c7, c8, c9] := by
      match cs, B.1 with
      | [c0, c1, c2, c3, c4, c5, c6, c7, c8, c9], _ => exact ⟨c0, c1, c2, c3, c4, c5, c6, c7, c8, c9, rfl⟩
    show Go p e below _ T (mkF m 360 #[.val (.int p0), .val (.int p1), .val (.int p2), .val (.int p3), .val (.long p4), .second, .val (.ref a1), .val (.int tt), .val (.int nat), .val (.int sel), .val (.int ni), .unset, .unset, .unset, .unset] [])
    have J6 : ∀ (b1 b2 b3 : Int32), b3 = (if (ni = 2 ∧ c0 = 45 ∧ c1 = 118) ∨ (ni = 9 ∧ c0 = 45 ∧ c1 = 45 ∧ c2 = 118 ∧ c3 = 101 ∧ c4 = 114 ∧ c5 = 98 ∧ c6 = 111 ∧ c7 = 115 ∧ c8 = 101) then 1 else 0) → Go p e below (EndW consts_1 s (Q0 n0) room_1.cells room_1.slots) T (mkF m 504 #[.val (.int p0), .val (.int p1), .val (.int p2), .val (.int p3), .val (.long p4), .second, .val (.ref a1), .val (.int tt), .val (.int nat), .val (.int sel), .val (.int ni), .val (.int b1), .val (.int b2), .unset, .unset] [(.int b3)]) := by
      intro b1 b2 b3 hb3
      show Go p e below _ T (mkF m 504 #[.val (.int p0), .val (.int p1), .val (.int p2), .val (.int p3), .val (.long p4), .second, .val (.ref a1), .val (.int tt), .val (.int nat), .val (.int sel), .val (.int ni), .val (.int b1), .val (.int b2), .unset, .unset] [(.int b3)])
      refine Go.st (fun _ k => XS.istore X.here hx rfl (hb hby at_504) rfl (l' := #[.val (.int p0), .val (.int p1), .val (.int p2), .val (.int p3), .val (.long p4), .second, .val (.ref a1), .val (.int tt), .val (.int nat), .val (.int sel), .val (.int ni), .val (.int b1), .val (.int b2), .val (.int b3), .unset]) rfl k) ?_
      show Go p e below _ T (mkF m 506 #[.val (.int p0), .val (.int p1), .val (.int p2), .val (.int p3), .val (.long p4), .second, .val (.ref a1), .val (.int tt), .val (.int nat), .val (.int sel), .val (.int ni), .val (.int b1), .val (.int b2), .val (.int b3), .unset] [])
      refine Go.st (fun _ k => XS.aload X.here hx rfl (hb hby at_506) rfl rfl k) ?_
      show Go p e below _ T (mkF m 508 #[.val (.int p0), .val (.int p1), .val (.int p2), .val (.int p3), .val (.long p4), .second, .val (.ref a1), .val (.int tt), .val (.int nat), .val (.int sel), .val (.int ni), .val (.int b1), .val (.int b2), .val (.int b3), .unset] [(.ref a1)])
      refine Go.st (fun _ k => XS.iload X.here hx rfl (hb hby at_508) rfl k) ?_
      show Go p e below _ T (mkF m 510 #[.val (.int p0), .val (.int p1), .val (.int p2), .val (.int p3), .val (.long p4), .second, .val (.ref a1), .val (.int tt), .val (.int nat), .val (.int sel), .val (.int ni), .val (.int b1), .val (.int b2), .val (.int b3), .unset] [(.int ni), (.ref a1)])
      subst hni
      show Go p e below _ T (mkF m 510 #[.val (.int p0), .val (.int p1), .val (.int p2), .val (.int p3), .val (.long p4), .second, .val (.ref a1), .val (.int tt), .val (.int nat), .val (.int sel), .val (.int (Int32.ofNat n)), .val (.int b1), .val (.int b2), .val (.int b3), .unset] [(.int (Int32.ofNat n)), (.ref a1)])
      have k0 := K.1
      refine Go.callSW X hx (Bas.refl s 0) (Nat.zero_le _) hZ (y := (⟨"com/example/tutti/tutti/cli/CommandLineIsVerbosePinLaw", "str", "([CI)Ljava/lang/String;"⟩ : MethodName)) hown (mvT hZ (hw _ (List.mem_of_getElem? (i := 6) rfl))) (mvT hZ (hw _ (List.mem_of_getElem? (i := 7) rfl))) (mvT hZ (hw _ (List.mem_of_getElem? (i := 3) rfl))) (mvT hZ (hw _ (List.mem_of_getElem? (i := 8) rfl))) (by decide) (Wt := 0) (rmST l Z a0 hw z Su n hn c0 c1 c2 c3 c4 c5 c6 c7 c8 c9 B.2 a1 h n0 (by omega) (X00.keep K all0) A) (hw _ (List.mem_of_getElem? (i := 8) rfl)) (hw _ (List.mem_of_getElem? (i := 3) rfl)) (by (try dsimp only [room_1]); (try simp only [List.length_cons, List.length_nil]); omega) (by (try dsimp only [room_1]); (try simp only [List.length_cons, List.length_nil]); omega) eT (CHb.to' hC0 (UX K) (fun b q => Nat.lt_of_lt_of_le q K.1) : CHb consts_1 (fun b => b < h.size) s h) (by rw [eT]; exact Und.refl _ _) (g := (mkF m 510 #[.val (.int p0), .val (.int p1), .val (.int p2), .val (.int p3), .val (.long p4), .second, .val (.ref a1), .val (.int tt), .val (.int nat), .val (.int sel), .val (.int (Int32.ofNat n)), .val (.int b1), .val (.int b2), .val (.int b3), .unset] [(.int (Int32.ofNat n)), (.ref a1)])) rfl (by rw [hml]; rfl) (argsL := [(.ref a1), (.int (Int32.ofNat n))]) (rest := []) (lenOf pd_28 rfl) rfl (by show 2 * 0 + _ ≤ _; exact Nat.le_of_eq rfl) (hb hby at_510) rfl (by (try dsimp only [room_1]); (try simp only [List.length_cons, List.length_nil]); omega) (by (try dsimp only [room_1]); (try simp only [List.length_cons, List.length_nil]); omega) ?_
      rintro _ s20 T20 L20 hB20 hZ20 hown20 hC20 hsz20 X20 ⟨o, t, rfl, N20, K20, E20, C20, V20, B20⟩
      show Go p e below _ T20 (mkF m 513 #[.val (.int p0), .val (.int p1), .val (.int p2), .val (.int p3), .val (.long p4), .second, .val (.ref a1), .val (.int tt), .val (.int nat), .val (.int sel), .val (.int (Int32.ofNat n)), .val (.int b1), .val (.int b2), .val (.int b3), .unset] [(.ref o)])
      have K020 := K.trans K20 (fun _ z => nomatch z)
      have k20 := K020.1
      refine Go.callSW X20 hx hB20 (Nat.le_refl _) hZ20 (y := (⟨"com/example/tutti/tutti/cli/CommandLine", "isVerbose", "(Ljava/lang/String;)Z"⟩ : MethodName)) hown20 (mvT hZ20 (hw _ (List.mem_of_getElem? (i := 38) rfl))) (mvT hZ20 (hw _ (List.mem_of_getElem? (i := 39) rfl))) (mvT hZ20 (hw _ (List.mem_of_getElem? (i := 40) rfl))) (mvT hZ20 (hw _ (List.mem_of_getElem? (i := 41) rfl))) (by decide) (Wt := 0) (rmVB l Z a0 hw z Su.2.2.2.1 Su.2.2.2.2 o t _ _ T20.heap n0 (by omega) (X00.keep K020 all0) E20 C20 V20 B20) (hw _ (List.mem_of_getElem? (i := 41) rfl)) (hw _ (List.mem_of_getElem? (i := 40) rfl)) (by (try dsimp only [room_1]); (try simp only [List.length_cons, List.length_nil]); omega) (by (try dsimp only [room_1]); (try simp only [List.length_cons, List.length_nil]); omega) rfl hC20 (Und.refl _ _) (g := (mkF m 513 #[.val (.int p0), .val (.int p1), .val (.int p2), .val (.int p3), .val (.long p4), .second, .val (.ref a1), .val (.int tt), .val (.int nat), .val (.int sel), .val (.int (Int32.ofNat n)), .val (.int b1), .val (.int b2), .val (.int b3), .unset] [(.ref o)])) rfl (by rw [hml]; rfl) (argsL := [(.ref o)]) (rest := []) (lenOf pd_29 rfl) rfl (by show 2 * 0 + _ ≤ _; exact Nat.le_of_eq rfl) (hb hby at_513) rfl (by (try dsimp only [room_1]); (try simp only [List.length_cons, List.length_nil]); omega) (by (try dsimp only [room_1]); (try simp only [List.length_cons, List.length_nil]); omega) ?_
      rintro _ s21 T21 L21 hB21 hZ21 hown21 hC21 hsz21 X21 ⟨rfl, N21⟩
      show Go p e below _ T21 (mkF m 516 #[.val (.int p0), .val (.int p1), .val (.int p2), .val (.int p3), .val (.long p4), .second, .val (.ref a1), .val (.int tt), .val (.int nat), .val (.int sel), .val (.int (Int32.ofNat n)), .val (.int b1), .val (.int b2), .val (.int b3), .unset] [(.int (if (own_cod (([c0, c1, c2, c3, c4, c5, c6, c7, c8, c9] : List Int32).take n) = 0 ∧ own_val (([c0, c1, c2, c3, c4, c5, c6, c7, c8, c9] : List Int32).take n) = ([45, 45, 118, 101, 114, 98, 111, 115, 101] : List Int32)) ∨ (own_cod (([c0, c1, c2, c3, c4, c5, c6, c7, c8, c9] : List Int32).take n) = 0 ∧ own_val (([c0, c1, c2, c3, c4, c5, c6, c7, c8, c9] : List Int32).take n) = ([45, 118] : List Int32)) then 1 else 0))])
      have hkey := own_key c0 c1 c2 c3 c4 c5 c6 c7 c8 c9 B.2 n hn _ rfl
      have hres : (if (own_cod (([c0, c1, c2, c3, c4, c5, c6, c7, c8, c9] : List Int32).take n) = 0 ∧ own_val (([c0, c1, c2, c3, c4, c5, c6, c7, c8, c9] : List Int32).take n) = ([45, 45, 118, 101, 114, 98, 111, 115, 101] : List Int32)) ∨ (own_cod (([c0, c1, c2, c3, c4, c5, c6, c7, c8, c9] : List Int32).take n) = 0 ∧ own_val (([c0, c1, c2, c3, c4, c5, c6, c7, c8, c9] : List Int32).take n) = ([45, 118] : List Int32)) then (1 : Int32) else 0) = b3 := by
        rw [hb3]; by_cases q : (Int32.ofNat n = 2 ∧ c0 = 45 ∧ c1 = 118) ∨ (Int32.ofNat n = 9 ∧ c0 = 45 ∧ c1 = 45 ∧ c2 = 118 ∧ c3 = 101 ∧ c4 = 114 ∧ c5 = 98 ∧ c6 = 111 ∧ c7 = 115 ∧ c8 = 101)
        · rw [if_pos q, if_pos (hkey.mpr q)]
        · rw [if_neg q, if_neg (fun z => q (hkey.mp z))]
      rw [hres]
      show Go p e below _ T21 (mkF m 516 #[.val (.int p0), .val (.int p1), .val (.int p2), .val (.int p3), .val (.long p4), .second, .val (.ref a1), .val (.int tt), .val (.int nat), .val (.int sel), .val (.int (Int32.ofNat n)), .val (.int b1), .val (.int b2), .val (.int b3), .unset] [(.int b3)])
      refine Go.st (fun _ k => XS.istore X21.here hx rfl (hb hby at_516) rfl (l' := #[.val (.int p0), .val (.int p1), .val (.int p2), .val (.int p3), .val (.long p4), .second, .val (.ref a1), .val (.int tt), .val (.int nat), .val (.int sel), .val (.int (Int32.ofNat n)), .val (.int b1), .val (.int b2), .val (.int b3), .val (.int b3)]) rfl k) ?_
      show Go p e below _ T21 (mkF m 518 #[.val (.int p0), .val (.int p1), .val (.int p2), .val (.int p3), .val (.long p4), .second, .val (.ref a1), .val (.int tt), .val (.int nat), .val (.int sel), .val (.int (Int32.ofNat n)), .val (.int b1), .val (.int b2), .val (.int b3), .val (.int b3)] [])
      refine Go.st (fun _ k => XS.iload X21.here hx rfl (hb hby at_518) rfl k) ?_
      show Go p e below _ T21 (mkF m 520 #[.val (.int p0), .val (.int p1), .val (.int p2), .val (.int p3), .val (.long p4), .second, .val (.ref a1), .val (.int tt), .val (.int nat), .val (.int sel), .val (.int (Int32.ofNat n)), .val (.int b1), .val (.int b2), .val (.int b3), .val (.int b3)] [(.int b3)])
      refine Go.st (fun _ k => XS.iload X21.here hx rfl (hb hby at_520) rfl k) ?_
      show Go p e below _ T21 (mkF m 522 #[.val (.int p0), .val (.int p1), .val (.int p2), .val (.int p3), .val (.long p4), .second, .val (.ref a1), .val (.int tt), .val (.int nat), .val (.int sel), .val (.int (Int32.ofNat n)), .val (.int b1), .val (.int b2), .val (.int b3), .val (.int b3)] [(.int b3), (.int b3)])
      refine Go.st (fun _ k => XS.icmpNo X21.here hx rfl (hb hby at_522) rfl (XT.ii_ne_f rfl) k) ?_
      show Go p e below _ T21 (mkF m 525 #[.val (.int p0), .val (.int p1), .val (.int p2), .val (.int p3), .val (.long p4), .second, .val (.ref a1), .val (.int tt), .val (.int nat), .val (.int sel), .val (.int (Int32.ofNat n)), .val (.int b1), .val (.int b2), .val (.int b3), .val (.int b3)] [])
      refine Go.st (fun _ k => XS.iconst X21.here hx rfl (hb hby at_525) k) ?_
      show Go p e below _ T21 (mkF m 526 #[.val (.int p0), .val (.int p1), .val (.int p2), .val (.int p3), .val (.long p4), .second, .val (.ref a1), .val (.int tt), .val (.int nat), .val (.int sel), .val (.int (Int32.ofNat n)), .val (.int b1), .val (.int b2), .val (.int b3), .val (.int b3)] [(.int (1 : Int32))])
      refine Go.st (fun _ k => XS.goto X21.here hx rfl (pc0 := 526) (pc' := 530) rfl (hb hby at_526) (by decide) (by decide) k) ?_
      show Go p e below _ T21 (mkF m 530 #[.val (.int p0), .val (.int p1), .val (.int p2), .val (.int p3), .val (.long p4), .second, .val (.ref a1), .val (.int tt), .val (.int nat), .val (.int sel), .val (.int (Int32.ofNat n)), .val (.int b1), .val (.int b2), .val (.int b3), .val (.int b3)] [(.int (1 : Int32))])
      exact Go.retBW X21 hx hB21 (Nat.le_refl _) hC21 (Und.refl _ _) hret hlk (Or.inl rfl) (hb hby at_530) ⟨rfl, Fr.app (Fr.app N N20) N21⟩ (by (try dsimp only [room_1]); (try simp only [List.length_cons, List.length_nil]); omega) (by (try dsimp only [room_1]); (try simp only [List.length_cons, List.length_nil]); omega)
    have J5 : ∀ (b1 b2 : Int32), b1 = (if (ni = 2 ∧ c0 = 45 ∧ c1 = 118) then 1 else 0) → b2 = (if (ni = 9 ∧ c0 = 45 ∧ c1 = 45 ∧ c2 = 118 ∧ c3 = 101 ∧ c4 = 114 ∧ c5 = 98 ∧ c6 = 111 ∧ c7 = 115 ∧ c8 = 101) then 1 else 0) → Go p e below (EndW consts_1 s (Q0 n0) room_1.cells room_1.slots) T (mkF m 487 #[.val (.int p0), .val (.int p1), .val (.int p2), .val (.int p3), .val (.long p4), .second, .val (.ref a1), .val (.int tt), .val (.int nat), .val (.int sel), .val (.int ni), .val (.int b1), .unset, .unset, .unset] [(.int b2)]) := by
      intro b1 b2 hb1 hb2
      show Go p e below _ T (mkF m 487 #[.val (.int p0), .val (.int p1), .val (.int p2), .val (.int p3), .val (.long p4), .second, .val (.ref a1), .val (.int tt), .val (.int nat), .val (.int sel), .val (.int ni), .val (.int b1), .unset, .unset, .unset] [(.int b2)])
      refine Go.st (fun _ k => XS.istore X.here hx rfl (hb hby at_487) rfl (l' := #[.val (.int p0), .val (.int p1), .val (.int p2), .val (.int p3), .val (.long p4), .second, .val (.ref a1), .val (.int tt), .val (.int nat), .val (.int sel), .val (.int ni), .val (.int b1), .val (.int b2), .unset, .unset]) rfl k) ?_
      show Go p e below _ T (mkF m 489 #[.val (.int p0), .val (.int p1), .val (.int p2), .val (.int p3), .val (.long p4), .second, .val (.ref a1), .val (.int tt), .val (.int nat), .val (.int sel), .val (.int ni), .val (.int b1), .val (.int b2), .unset, .unset] [])
      refine Go.st (fun _ k => XS.iload X.here hx rfl (hb hby at_489) rfl k) ?_
      show Go p e below _ T (mkF m 491 #[.val (.int p0), .val (.int p1), .val (.int p2), .val (.int p3), .val (.long p4), .second, .val (.ref a1), .val (.int tt), .val (.int nat), .val (.int sel), .val (.int ni), .val (.int b1), .val (.int b2), .unset, .unset] [(.int b1)])
      by_cases q1 : (ni = 2 ∧ c0 = 45 ∧ c1 = 118)
      · skip
        refine Go.st (fun _ k => XS.ifYes X.here hx rfl (pc0 := 491) (pc' := 499) rfl (hb hby at_491) rfl (XT.i0_ne_t (by rw [hb1, if_pos q1]; decide)) (by decide) (by decide) k) ?_
        show Go p e below _ T (mkF m 499 #[.val (.int p0), .val (.int p1), .val (.int p2), .val (.int p3), .val (.long p4), .second, .val (.ref a1), .val (.int tt), .val (.int nat), .val (.int sel), .val (.int ni), .val (.int b1), .val (.int b2), .unset, .unset] [])
        refine Go.st (fun _ k => XS.iconst X.here hx rfl (hb hby at_499) k) ?_
        show Go p e below _ T (mkF m 500 #[.val (.int p0), .val (.int p1), .val (.int p2), .val (.int p3), .val (.long p4), .second, .val (.ref a1), .val (.int tt), .val (.int nat), .val (.int sel), .val (.int ni), .val (.int b1), .val (.int b2), .unset, .unset] [(.int (1 : Int32))])
        refine Go.st (fun _ k => XS.goto X.here hx rfl (pc0 := 500) (pc' := 504) rfl (hb hby at_500) (by decide) (by decide) k) ?_
        show Go p e below _ T (mkF m 504 #[.val (.int p0), .val (.int p1), .val (.int p2), .val (.int p3), .val (.long p4), .second, .val (.ref a1), .val (.int tt), .val (.int nat), .val (.int sel), .val (.int ni), .val (.int b1), .val (.int b2), .unset, .unset] [(.int (1 : Int32))])
        exact J6 _ _ _ (by rw [if_pos (Or.inl q1)])
      · skip
        refine Go.st (fun _ k => XS.ifNo X.here hx rfl (hb hby at_491) rfl (XT.i0_ne_f (by rw [hb1, if_neg q1])) k) ?_
        show Go p e below _ T (mkF m 494 #[.val (.int p0), .val (.int p1), .val (.int p2), .val (.int p3), .val (.long p4), .second, .val (.ref a1), .val (.int tt), .val (.int nat), .val (.int sel), .val (.int ni), .val (.int b1), .val (.int b2), .unset, .unset] [])
        refine Go.st (fun _ k => XS.iload X.here hx rfl (hb hby at_494) rfl k) ?_
        show Go p e below _ T (mkF m 496 #[.val (.int p0), .val (.int p1), .val (.int p2), .val (.int p3), .val (.long p4), .second, .val (.ref a1), .val (.int tt), .val (.int nat), .val (.int sel), .val (.int ni), .val (.int b1), .val (.int b2), .unset, .unset] [(.int b2)])
        by_cases q2 : (ni = 9 ∧ c0 = 45 ∧ c1 = 45 ∧ c2 = 118 ∧ c3 = 101 ∧ c4 = 114 ∧ c5 = 98 ∧ c6 = 111 ∧ c7 = 115 ∧ c8 = 101)
        · skip
          refine Go.st (fun _ k => XS.ifNo X.here hx rfl (hb hby at_496) rfl (XT.i0_eq_f (by rw [hb2, if_pos q2]; decide)) k) ?_
          show Go p e below _ T (mkF m 499 #[.val (.int p0), .val (.int p1), .val (.int p2), .val (.int p3), .val (.long p4), .second, .val (.ref a1), .val (.int tt), .val (.int nat), .val (.int sel), .val (.int ni), .val (.int b1), .val (.int b2), .unset, .unset] [])
          refine Go.st (fun _ k => XS.iconst X.here hx rfl (hb hby at_499) k) ?_
          show Go p e below _ T (mkF m 500 #[.val (.int p0), .val (.int p1), .val (.int p2), .val (.int p3), .val (.long p4), .second, .val (.ref a1), .val (.int tt), .val (.int nat), .val (.int sel), .val (.int ni), .val (.int b1), .val (.int b2), .unset, .unset] [(.int (1 : Int32))])
          refine Go.st (fun _ k => XS.goto X.here hx rfl (pc0 := 500) (pc' := 504) rfl (hb hby at_500) (by decide) (by decide) k) ?_
          show Go p e below _ T (mkF m 504 #[.val (.int p0), .val (.int p1), .val (.int p2), .val (.int p3), .val (.long p4), .second, .val (.ref a1), .val (.int tt), .val (.int nat), .val (.int sel), .val (.int ni), .val (.int b1), .val (.int b2), .unset, .unset] [(.int (1 : Int32))])
          exact J6 _ _ _ (by rw [if_pos (Or.inr q2)])
        · skip
          refine Go.st (fun _ k => XS.ifYes X.here hx rfl (pc0 := 496) (pc' := 503) rfl (hb hby at_496) rfl (XT.i0_eq_t (by rw [hb2, if_neg q2])) (by decide) (by decide) k) ?_
          show Go p e below _ T (mkF m 503 #[.val (.int p0), .val (.int p1), .val (.int p2), .val (.int p3), .val (.long p4), .second, .val (.ref a1), .val (.int tt), .val (.int nat), .val (.int sel), .val (.int ni), .val (.int b1), .val (.int b2), .unset, .unset] [])
          refine Go.st (fun _ k => XS.iconst X.here hx rfl (hb hby at_503) k) ?_
          show Go p e below _ T (mkF m 504 #[.val (.int p0), .val (.int p1), .val (.int p2), .val (.int p3), .val (.long p4), .second, .val (.ref a1), .val (.int tt), .val (.int nat), .val (.int sel), .val (.int ni), .val (.int b1), .val (.int b2), .unset, .unset] [(.int (0 : Int32))])
          exact J6 _ _ _ (by rw [if_neg (fun z => z.elim q1 q2)])
    have J4 : ∀ (b1 : Int32), b1 = (if (ni = 2 ∧ c0 = 45 ∧ c1 = 118) then 1 else 0) → Go p e below (EndW consts_1 s (Q0 n0) room_1.cells room_1.slots) T (mkF m 389 #[.val (.int p0), .val (.int p1), .val (.int p2), .val (.int p3), .val (.long p4), .second, .val (.ref a1), .val (.int tt), .val (.int nat), .val (.int sel), .val (.int ni), .unset, .unset, .unset, .unset] [(.int b1)]) := by
      intro b1 hb1
      show Go p e below _ T (mkF m 389 #[.val (.int p0), .val (.int p1), .val (.int p2), .val (.int p3), .val (.long p4), .second, .val (.ref a1), .val (.int tt), .val (.int nat), .val (.int sel), .val (.int ni), .unset, .unset, .unset, .unset] [(.int b1)])
      refine Go.st (fun _ k => XS.istore X.here hx rfl (hb hby at_389) rfl (l' := #[.val (.int p0), .val (.int p1), .val (.int p2), .val (.int p3), .val (.long p4), .second, .val (.ref a1), .val (.int tt), .val (.int nat), .val (.int sel), .val (.int ni), .val (.int b1), .unset, .unset, .unset]) rfl k) ?_
      show Go p e below _ T (mkF m 391 #[.val (.int p0), .val (.int p1), .val (.int p2), .val (.int p3), .val (.long p4), .second, .val (.ref a1), .val (.int tt), .val (.int nat), .val (.int sel), .val (.int ni), .val (.int b1), .unset, .unset, .unset] [])
      refine Go.st (fun _ k => XS.iload X.here hx rfl (hb hby at_391) rfl k) ?_
      show Go p e below _ T (mkF m 393 #[.val (.int p0), .val (.int p1), .val (.int p2), .val (.int p3), .val (.long p4), .second, .val (.ref a1), .val (.int tt), .val (.int nat), .val (.int sel), .val (.int ni), .val (.int b1), .unset, .unset, .unset] [(.int ni)])
      refine Go.st (fun _ k => XS.bipush X.here hx rfl (hb hby at_393) k) ?_
      show Go p e below _ T (mkF m 395 #[.val (.int p0), .val (.int p1), .val (.int p2), .val (.int p3), .val (.long p4), .second, .val (.ref a1), .val (.int tt), .val (.int nat), .val (.int sel), .val (.int ni), .val (.int b1), .unset, .unset, .unset] [(.int (9 : Int32)), (.int ni)])
      rcases (Classical.em (ni = 9)).symm with q0 | q0
      · skip
        refine Go.st (fun _ k => XS.icmpYes X.here hx rfl (pc0 := 395) (pc' := 486) rfl (hb hby at_395) rfl (XT.ii_ne_t q0) (by decide) (by decide) k) ?_
        show Go p e below _ T (mkF m 486 #[.val (.int p0), .val (.int p1), .val (.int p2), .val (.int p3), .val (.long p4), .second, .val (.ref a1), .val (.int tt), .val (.int nat), .val (.int sel), .val (.int ni), .val (.int b1), .unset, .unset, .unset] [])
        refine Go.st (fun _ k => XS.iconst X.here hx rfl (hb hby at_486) k) ?_
        show Go p e below _ T (mkF m 487 #[.val (.int p0), .val (.int p1), .val (.int p2), .val (.int p3), .val (.long p4), .second, .val (.ref a1), .val (.int tt), .val (.int nat), .val (.int sel), .val (.int ni), .val (.int b1), .unset, .unset, .unset] [(.int (0 : Int32))])
        exact J5 b1 _ hb1 (by rw [if_neg]; rintro ⟨z0, z1, z2, z3, z4, z5, z6, z7, z8, z9⟩; exact q0 z0)
      · skip
        refine Go.st (fun _ k => XS.icmpNo X.here hx rfl (hb hby at_395) rfl (XT.ii_ne_f q0) k) ?_
        show Go p e below _ T (mkF m 398 #[.val (.int p0), .val (.int p1), .val (.int p2), .val (.int p3), .val (.long p4), .second, .val (.ref a1), .val (.int tt), .val (.int nat), .val (.int sel), .val (.int ni), .val (.int b1), .unset, .unset, .unset] [])
        refine Go.st (fun _ k => XS.aload X.here hx rfl (hb hby at_398) rfl rfl k) ?_
        show Go p e below _ T (mkF m 400 #[.val (.int p0), .val (.int p1), .val (.int p2), .val (.int p3), .val (.long p4), .second, .val (.ref a1), .val (.int tt), .val (.int nat), .val (.int sel), .val (.int ni), .val (.int b1), .unset, .unset, .unset] [(.ref a1)])
        refine Go.st (fun _ k => XS.iconst X.here hx rfl (hb hby at_400) k) ?_
        show Go p e below _ T (mkF m 401 #[.val (.int p0), .val (.int p1), .val (.int p2), .val (.int p3), .val (.long p4), .second, .val (.ref a1), .val (.int tt), .val (.int nat), .val (.int sel), .val (.int ni), .val (.int b1), .unset, .unset, .unset] [(.int (0 : Int32)), (.ref a1)])
        refine Go.caload X hx hZ eT A (i := 0) (x := c0) rfl rfl (g := (mkF m 401 #[.val (.int p0), .val (.int p1), .val (.int p2), .val (.int p3), .val (.long p4), .second, .val (.ref a1), .val (.int tt), .val (.int nat), .val (.int sel), .val (.int ni), .val (.int b1), .unset, .unset, .unset] [(.int (0 : Int32)), (.ref a1)])) rfl rfl (hb hby at_401) ?_
        show Go p e below _ T (mkF m 402 #[.val (.int p0), .val (.int p1), .val (.int p2), .val (.int p3), .val (.long p4), .second, .val (.ref a1), .val (.int tt), .val (.int nat), .val (.int sel), .val (.int ni), .val (.int b1), .unset, .unset, .unset] [(.int c0)])
        refine Go.st (fun _ k => XS.bipush X.here hx rfl (hb hby at_402) k) ?_
        show Go p e below _ T (mkF m 404 #[.val (.int p0), .val (.int p1), .val (.int p2), .val (.int p3), .val (.long p4), .second, .val (.ref a1), .val (.int tt), .val (.int nat), .val (.int sel), .val (.int ni), .val (.int b1), .unset, .unset, .unset] [(.int (45 : Int32)), (.int c0)])
        rcases (Classical.em (c0 = 45)).symm with q1 | q1
        · skip
          refine Go.st (fun _ k => XS.icmpYes X.here hx rfl (pc0 := 404) (pc' := 486) rfl (hb hby at_404) rfl (XT.ii_ne_t q1) (by decide) (by decide) k) ?_
          show Go p e below _ T (mkF m 486 #[.val (.int p0), .val (.int p1), .val (.int p2), .val (.int p3), .val (.long p4), .second, .val (.ref a1), .val (.int tt), .val (.int nat), .val (.int sel), .val (.int ni), .val (.int b1), .unset, .unset, .unset] [])
          refine Go.st (fun _ k => XS.iconst X.here hx rfl (hb hby at_486) k) ?_
          show Go p e below _ T (mkF m 487 #[.val (.int p0), .val (.int p1), .val (.int p2), .val (.int p3), .val (.long p4), .second, .val (.ref a1), .val (.int tt), .val (.int nat), .val (.int sel), .val (.int ni), .val (.int b1), .unset, .unset, .unset] [(.int (0 : Int32))])
          exact J5 b1 _ hb1 (by rw [if_neg]; rintro ⟨z0, z1, z2, z3, z4, z5, z6, z7, z8, z9⟩; exact q1 z1)
        · skip
          refine Go.st (fun _ k => XS.icmpNo X.here hx rfl (hb hby at_404) rfl (XT.ii_ne_f q1) k) ?_
          show Go p e below _ T (mkF m 407 #[.val (.int p0), .val (.int p1), .val (.int p2), .val (.int p3), .val (.long p4), .second, .val (.ref a1), .val (.int tt), .val (.int nat), .val (.int sel), .val (.int ni), .val (.int b1), .unset, .unset, .unset] [])
          refine Go.st (fun _ k => XS.aload X.here hx rfl (hb hby at_407) rfl rfl k) ?_
          show Go p e below _ T (mkF m 409 #[.val (.int p0), .val (.int p1), .val (.int p2), .val (.int p3), .val (.long p4), .second, .val (.ref a1), .val (.int tt), .val (.int nat), .val (.int sel), .val (.int ni), .val (.int b1), .unset, .unset, .unset] [(.ref a1)])
          refine Go.st (fun _ k => XS.iconst X.here hx rfl (hb hby at_409) k) ?_
          show Go p e below _ T (mkF m 410 #[.val (.int p0), .val (.int p1), .val (.int p2), .val (.int p3), .val (.long p4), .second, .val (.ref a1), .val (.int tt), .val (.int nat), .val (.int sel), .val (.int ni), .val (.int b1), .unset, .unset, .unset] [(.int (1 : Int32)), (.ref a1)])
          refine Go.caload X hx hZ eT A (i := 1) (x := c1) rfl rfl (g := (mkF m 410 #[.val (.int p0), .val (.int p1), .val (.int p2), .val (.int p3), .val (.long p4), .second, .val (.ref a1), .val (.int tt), .val (.int nat), .val (.int sel), .val (.int ni), .val (.int b1), .unset, .unset, .unset] [(.int (1 : Int32)), (.ref a1)])) rfl rfl (hb hby at_410) ?_
          show Go p e below _ T (mkF m 411 #[.val (.int p0), .val (.int p1), .val (.int p2), .val (.int p3), .val (.long p4), .second, .val (.ref a1), .val (.int tt), .val (.int nat), .val (.int sel), .val (.int ni), .val (.int b1), .unset, .unset, .unset] [(.int c1)])
          refine Go.st (fun _ k => XS.bipush X.here hx rfl (hb hby at_411) k) ?_
          show Go p e below _ T (mkF m 413 #[.val (.int p0), .val (.int p1), .val (.int p2), .val (.int p3), .val (.long p4), .second, .val (.ref a1), .val (.int tt), .val (.int nat), .val (.int sel), .val (.int ni), .val (.int b1), .unset, .unset, .unset] [(.int (45 : Int32)), (.int c1)])
          rcases (Classical.em (c1 = 45)).symm with q2 | q2
          · skip
            refine Go.st (fun _ k => XS.icmpYes X.here hx rfl (pc0 := 413) (pc' := 486) rfl (hb hby at_413) rfl (XT.ii_ne_t q2) (by decide) (by decide) k) ?_
            show Go p e below _ T (mkF m 486 #[.val (.int p0), .val (.int p1), .val (.int p2), .val (.int p3), .val (.long p4), .second, .val (.ref a1), .val (.int tt), .val (.int nat), .val (.int sel), .val (.int ni), .val (.int b1), .unset, .unset, .unset] [])
            refine Go.st (fun _ k => XS.iconst X.here hx rfl (hb hby at_486) k) ?_
            show Go p e below _ T (mkF m 487 #[.val (.int p0), .val (.int p1), .val (.int p2), .val (.int p3), .val (.long p4), .second, .val (.ref a1), .val (.int tt), .val (.int nat), .val (.int sel), .val (.int ni), .val (.int b1), .unset, .unset, .unset] [(.int (0 : Int32))])
            exact J5 b1 _ hb1 (by rw [if_neg]; rintro ⟨z0, z1, z2, z3, z4, z5, z6, z7, z8, z9⟩; exact q2 z2)
          · skip
            refine Go.st (fun _ k => XS.icmpNo X.here hx rfl (hb hby at_413) rfl (XT.ii_ne_f q2) k) ?_
            show Go p e below _ T (mkF m 416 #[.val (.int p0), .val (.int p1), .val (.int p2), .val (.int p3), .val (.long p4), .second, .val (.ref a1), .val (.int tt), .val (.int nat), .val (.int sel), .val (.int ni), .val (.int b1), .unset, .unset, .unset] [])
            refine Go.st (fun _ k => XS.aload X.here hx rfl (hb hby at_416) rfl rfl k) ?_
            show Go p e below _ T (mkF m 418 #[.val (.int p0), .val (.int p1), .val (.int p2), .val (.int p3), .val (.long p4), .second, .val (.ref a1), .val (.int tt), .val (.int nat), .val (.int sel), .val (.int ni), .val (.int b1), .unset, .unset, .unset] [(.ref a1)])
            refine Go.st (fun _ k => XS.iconst X.here hx rfl (hb hby at_418) k) ?_
            show Go p e below _ T (mkF m 419 #[.val (.int p0), .val (.int p1), .val (.int p2), .val (.int p3), .val (.long p4), .second, .val (.ref a1), .val (.int tt), .val (.int nat), .val (.int sel), .val (.int ni), .val (.int b1), .unset, .unset, .unset] [(.int (2 : Int32)), (.ref a1)])
            refine Go.caload X hx hZ eT A (i := 2) (x := c2) rfl rfl (g := (mkF m 419 #[.val (.int p0), .val (.int p1), .val (.int p2), .val (.int p3), .val (.long p4), .second, .val (.ref a1), .val (.int tt), .val (.int nat), .val (.int sel), .val (.int ni), .val (.int b1), .unset, .unset, .unset] [(.int (2 : Int32)), (.ref a1)])) rfl rfl (hb hby at_419) ?_
            show Go p e below _ T (mkF m 420 #[.val (.int p0), .val (.int p1), .val (.int p2), .val (.int p3), .val (.long p4), .second, .val (.ref a1), .val (.int tt), .val (.int nat), .val (.int sel), .val (.int ni), .val (.int b1), .unset, .unset, .unset] [(.int c2)])
            refine Go.st (fun _ k => XS.bipush X.here hx rfl (hb hby at_420) k) ?_
            show Go p e below _ T (mkF m 422 #[.val (.int p0), .val (.int p1), .val (.int p2), .val (.int p3), .val (.long p4), .second, .val (.ref a1), .val (.int tt), .val (.int nat), .val (.int sel), .val (.int ni), .val (.int b1), .unset, .unset, .unset] [(.int (118 : Int32)), (.int c2)])
            rcases (Classical.em (c2 = 118)).symm with q3 | q3
            · skip
              refine Go.st (fun _ k => XS.icmpYes X.here hx rfl (pc0 := 422) (pc' := 486) rfl (hb hby at_422) rfl (XT.ii_ne_t q3) (by decide) (by decide) k) ?_
              show Go p e below _ T (mkF m 486 #[.val (.int p0), .val (.int p1), .val (.int p2), .val (.int p3), .val (.long p4), .second, .val (.ref a1), .val (.int tt), .val (.int nat), .val (.int sel), .val (.int ni), .val (.int b1), .unset, .unset, .unset] [])
              refine Go.st (fun _ k => XS.iconst X.here hx rfl (hb hby at_486) k) ?_
              show Go p e below _ T (mkF m 487 #[.val (.int p0), .val (.int p1), .val (.int p2), .val (.int p3), .val (.long p4), .second, .val (.ref a1), .val (.int tt), .val (.int nat), .val (.int sel), .val (.int ni), .val (.int b1), .unset, .unset, .unset] [(.int (0 : Int32))])
              exact J5 b1 _ hb1 (by rw [if_neg]; rintro ⟨z0, z1, z2, z3, z4, z5, z6, z7, z8, z9⟩; exact q3 z3)
            · skip
              refine Go.st (fun _ k => XS.icmpNo X.here hx rfl (hb hby at_422) rfl (XT.ii_ne_f q3) k) ?_
              show Go p e below _ T (mkF m 425 #[.val (.int p0), .val (.int p1), .val (.int p2), .val (.int p3), .val (.long p4), .second, .val (.ref a1), .val (.int tt), .val (.int nat), .val (.int sel), .val (.int ni), .val (.int b1), .unset, .unset, .unset] [])
              refine Go.st (fun _ k => XS.aload X.here hx rfl (hb hby at_425) rfl rfl k) ?_
              show Go p e below _ T (mkF m 427 #[.val (.int p0), .val (.int p1), .val (.int p2), .val (.int p3), .val (.long p4), .second, .val (.ref a1), .val (.int tt), .val (.int nat), .val (.int sel), .val (.int ni), .val (.int b1), .unset, .unset, .unset] [(.ref a1)])
              refine Go.st (fun _ k => XS.iconst X.here hx rfl (hb hby at_427) k) ?_
              show Go p e below _ T (mkF m 428 #[.val (.int p0), .val (.int p1), .val (.int p2), .val (.int p3), .val (.long p4), .second, .val (.ref a1), .val (.int tt), .val (.int nat), .val (.int sel), .val (.int ni), .val (.int b1), .unset, .unset, .unset] [(.int (3 : Int32)), (.ref a1)])
              refine Go.caload X hx hZ eT A (i := 3) (x := c3) rfl rfl (g := (mkF m 428 #[.val (.int p0), .val (.int p1), .val (.int p2), .val (.int p3), .val (.long p4), .second, .val (.ref a1), .val (.int tt), .val (.int nat), .val (.int sel), .val (.int ni), .val (.int b1), .unset, .unset, .unset] [(.int (3 : Int32)), (.ref a1)])) rfl rfl (hb hby at_428) ?_
              show Go p e below _ T (mkF m 429 #[.val (.int p0), .val (.int p1), .val (.int p2), .val (.int p3), .val (.long p4), .second, .val (.ref a1), .val (.int tt), .val (.int nat), .val (.int sel), .val (.int ni), .val (.int b1), .unset, .unset, .unset] [(.int c3)])
              refine Go.st (fun _ k => XS.bipush X.here hx rfl (hb hby at_429) k) ?_
              show Go p e below _ T (mkF m 431 #[.val (.int p0), .val (.int p1), .val (.int p2), .val (.int p3), .val (.long p4), .second, .val (.ref a1), .val (.int tt), .val (.int nat), .val (.int sel), .val (.int ni), .val (.int b1), .unset, .unset, .unset] [(.int (101 : Int32)), (.int c3)])
              rcases (Classical.em (c3 = 101)).symm with q4 | q4
              · skip
                refine Go.st (fun _ k => XS.icmpYes X.here hx rfl (pc0 := 431) (pc' := 486) rfl (hb hby at_431) rfl (XT.ii_ne_t q4) (by decide) (by decide) k) ?_
                show Go p e below _ T (mkF m 486 #[.val (.int p0), .val (.int p1), .val (.int p2), .val (.int p3), .val (.long p4), .second, .val (.ref a1), .val (.int tt), .val (.int nat), .val (.int sel), .val (.int ni), .val (.int b1), .unset, .unset, .unset] [])
                refine Go.st (fun _ k => XS.iconst X.here hx rfl (hb hby at_486) k) ?_
                show Go p e below _ T (mkF m 487 #[.val (.int p0), .val (.int p1), .val (.int p2), .val (.int p3), .val (.long p4), .second, .val (.ref a1), .val (.int tt), .val (.int nat), .val (.int sel), .val (.int ni), .val (.int b1), .unset, .unset, .unset] [(.int (0 : Int32))])
                exact J5 b1 _ hb1 (by rw [if_neg]; rintro ⟨z0, z1, z2, z3, z4, z5, z6, z7, z8, z9⟩; exact q4 z4)
              · skip
                refine Go.st (fun _ k => XS.icmpNo X.here hx rfl (hb hby at_431) rfl (XT.ii_ne_f q4) k) ?_
                show Go p e below _ T (mkF m 434 #[.val (.int p0), .val (.int p1), .val (.int p2), .val (.int p3), .val (.long p4), .second, .val (.ref a1), .val (.int tt), .val (.int nat), .val (.int sel), .val (.int ni), .val (.int b1), .unset, .unset, .unset] [])
                refine Go.st (fun _ k => XS.aload X.here hx rfl (hb hby at_434) rfl rfl k) ?_
                show Go p e below _ T (mkF m 436 #[.val (.int p0), .val (.int p1), .val (.int p2), .val (.int p3), .val (.long p4), .second, .val (.ref a1), .val (.int tt), .val (.int nat), .val (.int sel), .val (.int ni), .val (.int b1), .unset, .unset, .unset] [(.ref a1)])
                refine Go.st (fun _ k => XS.iconst X.here hx rfl (hb hby at_436) k) ?_
                show Go p e below _ T (mkF m 437 #[.val (.int p0), .val (.int p1), .val (.int p2), .val (.int p3), .val (.long p4), .second, .val (.ref a1), .val (.int tt), .val (.int nat), .val (.int sel), .val (.int ni), .val (.int b1), .unset, .unset, .unset] [(.int (4 : Int32)), (.ref a1)])
                refine Go.caload X hx hZ eT A (i := 4) (x := c4) rfl rfl (g := (mkF m 437 #[.val (.int p0), .val (.int p1), .val (.int p2), .val (.int p3), .val (.long p4), .second, .val (.ref a1), .val (.int tt), .val (.int nat), .val (.int sel), .val (.int ni), .val (.int b1), .unset, .unset, .unset] [(.int (4 : Int32)), (.ref a1)])) rfl rfl (hb hby at_437) ?_
                show Go p e below _ T (mkF m 438 #[.val (.int p0), .val (.int p1), .val (.int p2), .val (.int p3), .val (.long p4), .second, .val (.ref a1), .val (.int tt), .val (.int nat), .val (.int sel), .val (.int ni), .val (.int b1), .unset, .unset, .unset] [(.int c4)])
                refine Go.st (fun _ k => XS.bipush X.here hx rfl (hb hby at_438) k) ?_
                show Go p e below _ T (mkF m 440 #[.val (.int p0), .val (.int p1), .val (.int p2), .val (.int p3), .val (.long p4), .second, .val (.ref a1), .val (.int tt), .val (.int nat), .val (.int sel), .val (.int ni), .val (.int b1), .unset, .unset, .unset] [(.int (114 : Int32)), (.int c4)])
                rcases (Classical.em (c4 = 114)).symm with q5 | q5
                · skip
                  refine Go.st (fun _ k => XS.icmpYes X.here hx rfl (pc0 := 440) (pc' := 486) rfl (hb hby at_440) rfl (XT.ii_ne_t q5) (by decide) (by decide) k) ?_
                  show Go p e below _ T (mkF m 486 #[.val (.int p0), .val (.int p1), .val (.int p2), .val (.int p3), .val (.long p4), .second, .val (.ref a1), .val (.int tt), .val (.int nat), .val (.int sel), .val (.int ni), .val (.int b1), .unset, .unset, .unset] [])
                  refine Go.st (fun _ k => XS.iconst X.here hx rfl (hb hby at_486) k) ?_
                  show Go p e below _ T (mkF m 487 #[.val (.int p0), .val (.int p1), .val (.int p2), .val (.int p3), .val (.long p4), .second, .val (.ref a1), .val (.int tt), .val (.int nat), .val (.int sel), .val (.int ni), .val (.int b1), .unset, .unset, .unset] [(.int (0 : Int32))])
                  exact J5 b1 _ hb1 (by rw [if_neg]; rintro ⟨z0, z1, z2, z3, z4, z5, z6, z7, z8, z9⟩; exact q5 z5)
                · skip
                  refine Go.st (fun _ k => XS.icmpNo X.here hx rfl (hb hby at_440) rfl (XT.ii_ne_f q5) k) ?_
                  show Go p e below _ T (mkF m 443 #[.val (.int p0), .val (.int p1), .val (.int p2), .val (.int p3), .val (.long p4), .second, .val (.ref a1), .val (.int tt), .val (.int nat), .val (.int sel), .val (.int ni), .val (.int b1), .unset, .unset, .unset] [])
                  refine Go.st (fun _ k => XS.aload X.here hx rfl (hb hby at_443) rfl rfl k) ?_
                  show Go p e below _ T (mkF m 445 #[.val (.int p0), .val (.int p1), .val (.int p2), .val (.int p3), .val (.long p4), .second, .val (.ref a1), .val (.int tt), .val (.int nat), .val (.int sel), .val (.int ni), .val (.int b1), .unset, .unset, .unset] [(.ref a1)])
                  refine Go.st (fun _ k => XS.iconst X.here hx rfl (hb hby at_445) k) ?_
                  show Go p e below _ T (mkF m 446 #[.val (.int p0), .val (.int p1), .val (.int p2), .val (.int p3), .val (.long p4), .second, .val (.ref a1), .val (.int tt), .val (.int nat), .val (.int sel), .val (.int ni), .val (.int b1), .unset, .unset, .unset] [(.int (5 : Int32)), (.ref a1)])
                  refine Go.caload X hx hZ eT A (i := 5) (x := c5) rfl rfl (g := (mkF m 446 #[.val (.int p0), .val (.int p1), .val (.int p2), .val (.int p3), .val (.long p4), .second, .val (.ref a1), .val (.int tt), .val (.int nat), .val (.int sel), .val (.int ni), .val (.int b1), .unset, .unset, .unset] [(.int (5 : Int32)), (.ref a1)])) rfl rfl (hb hby at_446) ?_
                  show Go p e below _ T (mkF m 447 #[.val (.int p0), .val (.int p1), .val (.int p2), .val (.int p3), .val (.long p4), .second, .val (.ref a1), .val (.int tt), .val (.int nat), .val (.int sel), .val (.int ni), .val (.int b1), .unset, .unset, .unset] [(.int c5)])
                  refine Go.st (fun _ k => XS.bipush X.here hx rfl (hb hby at_447) k) ?_
                  show Go p e below _ T (mkF m 449 #[.val (.int p0), .val (.int p1), .val (.int p2), .val (.int p3), .val (.long p4), .second, .val (.ref a1), .val (.int tt), .val (.int nat), .val (.int sel), .val (.int ni), .val (.int b1), .unset, .unset, .unset] [(.int (98 : Int32)), (.int c5)])
                  rcases (Classical.em (c5 = 98)).symm with q6 | q6
                  · skip
                    refine Go.st (fun _ k => XS.icmpYes X.here hx rfl (pc0 := 449) (pc' := 486) rfl (hb hby at_449) rfl (XT.ii_ne_t q6) (by decide) (by decide) k) ?_
                    show Go p e below _ T (mkF m 486 #[.val (.int p0), .val (.int p1), .val (.int p2), .val (.int p3), .val (.long p4), .second, .val (.ref a1), .val (.int tt), .val (.int nat), .val (.int sel), .val (.int ni), .val (.int b1), .unset, .unset, .unset] [])
                    refine Go.st (fun _ k => XS.iconst X.here hx rfl (hb hby at_486) k) ?_
                    show Go p e below _ T (mkF m 487 #[.val (.int p0), .val (.int p1), .val (.int p2), .val (.int p3), .val (.long p4), .second, .val (.ref a1), .val (.int tt), .val (.int nat), .val (.int sel), .val (.int ni), .val (.int b1), .unset, .unset, .unset] [(.int (0 : Int32))])
                    exact J5 b1 _ hb1 (by rw [if_neg]; rintro ⟨z0, z1, z2, z3, z4, z5, z6, z7, z8, z9⟩; exact q6 z6)
                  · skip
                    refine Go.st (fun _ k => XS.icmpNo X.here hx rfl (hb hby at_449) rfl (XT.ii_ne_f q6) k) ?_
                    show Go p e below _ T (mkF m 452 #[.val (.int p0), .val (.int p1), .val (.int p2), .val (.int p3), .val (.long p4), .second, .val (.ref a1), .val (.int tt), .val (.int nat), .val (.int sel), .val (.int ni), .val (.int b1), .unset, .unset, .unset] [])
                    refine Go.st (fun _ k => XS.aload X.here hx rfl (hb hby at_452) rfl rfl k) ?_
                    show Go p e below _ T (mkF m 454 #[.val (.int p0), .val (.int p1), .val (.int p2), .val (.int p3), .val (.long p4), .second, .val (.ref a1), .val (.int tt), .val (.int nat), .val (.int sel), .val (.int ni), .val (.int b1), .unset, .unset, .unset] [(.ref a1)])
                    refine Go.st (fun _ k => XS.bipush X.here hx rfl (hb hby at_454) k) ?_
                    show Go p e below _ T (mkF m 456 #[.val (.int p0), .val (.int p1), .val (.int p2), .val (.int p3), .val (.long p4), .second, .val (.ref a1), .val (.int tt), .val (.int nat), .val (.int sel), .val (.int ni), .val (.int b1), .unset, .unset, .unset] [(.int (6 : Int32)), (.ref a1)])
                    refine Go.caload X hx hZ eT A (i := 6) (x := c6) rfl rfl (g := (mkF m 456 #[.val (.int p0), .val (.int p1), .val (.int p2), .val (.int p3), .val (.long p4), .second, .val (.ref a1), .val (.int tt), .val (.int nat), .val (.int sel), .val (.int ni), .val (.int b1), .unset, .unset, .unset] [(.int (6 : Int32)), (.ref a1)])) rfl rfl (hb hby at_456) ?_
                    show Go p e below _ T (mkF m 457 #[.val (.int p0), .val (.int p1), .val (.int p2), .val (.int p3), .val (.long p4), .second, .val (.ref a1), .val (.int tt), .val (.int nat), .val (.int sel), .val (.int ni), .val (.int b1), .unset, .unset, .unset] [(.int c6)])
                    refine Go.st (fun _ k => XS.bipush X.here hx rfl (hb hby at_457) k) ?_
                    show Go p e below _ T (mkF m 459 #[.val (.int p0), .val (.int p1), .val (.int p2), .val (.int p3), .val (.long p4), .second, .val (.ref a1), .val (.int tt), .val (.int nat), .val (.int sel), .val (.int ni), .val (.int b1), .unset, .unset, .unset] [(.int (111 : Int32)), (.int c6)])
                    rcases (Classical.em (c6 = 111)).symm with q7 | q7
                    · skip
                      refine Go.st (fun _ k => XS.icmpYes X.here hx rfl (pc0 := 459) (pc' := 486) rfl (hb hby at_459) rfl (XT.ii_ne_t q7) (by decide) (by decide) k) ?_
                      show Go p e below _ T (mkF m 486 #[.val (.int p0), .val (.int p1), .val (.int p2), .val (.int p3), .val (.long p4), .second, .val (.ref a1), .val (.int tt), .val (.int nat), .val (.int sel), .val (.int ni), .val (.int b1), .unset, .unset, .unset] [])
                      refine Go.st (fun _ k => XS.iconst X.here hx rfl (hb hby at_486) k) ?_
                      show Go p e below _ T (mkF m 487 #[.val (.int p0), .val (.int p1), .val (.int p2), .val (.int p3), .val (.long p4), .second, .val (.ref a1), .val (.int tt), .val (.int nat), .val (.int sel), .val (.int ni), .val (.int b1), .unset, .unset, .unset] [(.int (0 : Int32))])
                      exact J5 b1 _ hb1 (by rw [if_neg]; rintro ⟨z0, z1, z2, z3, z4, z5, z6, z7, z8, z9⟩; exact q7 z7)
                    · skip
                      refine Go.st (fun _ k => XS.icmpNo X.here hx rfl (hb hby at_459) rfl (XT.ii_ne_f q7) k) ?_
                      show Go p e below _ T (mkF m 462 #[.val (.int p0), .val (.int p1), .val (.int p2), .val (.int p3), .val (.long p4), .second, .val (.ref a1), .val (.int tt), .val (.int nat), .val (.int sel), .val (.int ni), .val (.int b1), .unset, .unset, .unset] [])
                      refine Go.st (fun _ k => XS.aload X.here hx rfl (hb hby at_462) rfl rfl k) ?_
                      show Go p e below _ T (mkF m 464 #[.val (.int p0), .val (.int p1), .val (.int p2), .val (.int p3), .val (.long p4), .second, .val (.ref a1), .val (.int tt), .val (.int nat), .val (.int sel), .val (.int ni), .val (.int b1), .unset, .unset, .unset] [(.ref a1)])
                      refine Go.st (fun _ k => XS.bipush X.here hx rfl (hb hby at_464) k) ?_
                      show Go p e below _ T (mkF m 466 #[.val (.int p0), .val (.int p1), .val (.int p2), .val (.int p3), .val (.long p4), .second, .val (.ref a1), .val (.int tt), .val (.int nat), .val (.int sel), .val (.int ni), .val (.int b1), .unset, .unset, .unset] [(.int (7 : Int32)), (.ref a1)])
                      refine Go.caload X hx hZ eT A (i := 7) (x := c7) rfl rfl (g := (mkF m 466 #[.val (.int p0), .val (.int p1), .val (.int p2), .val (.int p3), .val (.long p4), .second, .val (.ref a1), .val (.int tt), .val (.int nat), .val (.int sel), .val (.int ni), .val (.int b1), .unset, .unset, .unset] [(.int (7 : Int32)), (.ref a1)])) rfl rfl (hb hby at_466) ?_
                      show Go p e below _ T (mkF m 467 #[.val (.int p0), .val (.int p1), .val (.int p2), .val (.int p3), .val (.long p4), .second, .val (.ref a1), .val (.int tt), .val (.int nat), .val (.int sel), .val (.int ni), .val (.int b1), .unset, .unset, .unset] [(.int c7)])
                      refine Go.st (fun _ k => XS.bipush X.here hx rfl (hb hby at_467) k) ?_
                      show Go p e below _ T (mkF m 469 #[.val (.int p0), .val (.int p1), .val (.int p2), .val (.int p3), .val (.long p4), .second, .val (.ref a1), .val (.int tt), .val (.int nat), .val (.int sel), .val (.int ni), .val (.int b1), .unset, .unset, .unset] [(.int (115 : Int32)), (.int c7)])
                      rcases (Classical.em (c7 = 115)).symm with q8 | q8
                      · skip
                        refine Go.st (fun _ k => XS.icmpYes X.here hx rfl (pc0 := 469) (pc' := 486) rfl (hb hby at_469) rfl (XT.ii_ne_t q8) (by decide) (by decide) k) ?_
                        show Go p e below _ T (mkF m 486 #[.val (.int p0), .val (.int p1), .val (.int p2), .val (.int p3), .val (.long p4), .second, .val (.ref a1), .val (.int tt), .val (.int nat), .val (.int sel), .val (.int ni), .val (.int b1), .unset, .unset, .unset] [])
                        refine Go.st (fun _ k => XS.iconst X.here hx rfl (hb hby at_486) k) ?_
                        show Go p e below _ T (mkF m 487 #[.val (.int p0), .val (.int p1), .val (.int p2), .val (.int p3), .val (.long p4), .second, .val (.ref a1), .val (.int tt), .val (.int nat), .val (.int sel), .val (.int ni), .val (.int b1), .unset, .unset, .unset] [(.int (0 : Int32))])
                        exact J5 b1 _ hb1 (by rw [if_neg]; rintro ⟨z0, z1, z2, z3, z4, z5, z6, z7, z8, z9⟩; exact q8 z8)
                      · skip
                        refine Go.st (fun _ k => XS.icmpNo X.here hx rfl (hb hby at_469) rfl (XT.ii_ne_f q8) k) ?_
                        show Go p e below _ T (mkF m 472 #[.val (.int p0), .val (.int p1), .val (.int p2), .val (.int p3), .val (.long p4), .second, .val (.ref a1), .val (.int tt), .val (.int nat), .val (.int sel), .val (.int ni), .val (.int b1), .unset, .unset, .unset] [])
                        refine Go.st (fun _ k => XS.aload X.here hx rfl (hb hby at_472) rfl rfl k) ?_
                        show Go p e below _ T (mkF m 474 #[.val (.int p0), .val (.int p1), .val (.int p2), .val (.int p3), .val (.long p4), .second, .val (.ref a1), .val (.int tt), .val (.int nat), .val (.int sel), .val (.int ni), .val (.int b1), .unset, .unset, .unset] [(.ref a1)])
                        refine Go.st (fun _ k => XS.bipush X.here hx rfl (hb hby at_474) k) ?_
                        show Go p e below _ T (mkF m 476 #[.val (.int p0), .val (.int p1), .val (.int p2), .val (.int p3), .val (.long p4), .second, .val (.ref a1), .val (.int tt), .val (.int nat), .val (.int sel), .val (.int ni), .val (.int b1), .unset, .unset, .unset] [(.int (8 : Int32)), (.ref a1)])
                        refine Go.caload X hx hZ eT A (i := 8) (x := c8) rfl rfl (g := (mkF m 476 #[.val (.int p0), .val (.int p1), .val (.int p2), .val (.int p3), .val (.long p4), .second, .val (.ref a1), .val (.int tt), .val (.int nat), .val (.int sel), .val (.int ni), .val (.int b1), .unset, .unset, .unset] [(.int (8 : Int32)), (.ref a1)])) rfl rfl (hb hby at_476) ?_
                        show Go p e below _ T (mkF m 477 #[.val (.int p0), .val (.int p1), .val (.int p2), .val (.int p3), .val (.long p4), .second, .val (.ref a1), .val (.int tt), .val (.int nat), .val (.int sel), .val (.int ni), .val (.int b1), .unset, .unset, .unset] [(.int c8)])
                        refine Go.st (fun _ k => XS.bipush X.here hx rfl (hb hby at_477) k) ?_
                        show Go p e below _ T (mkF m 479 #[.val (.int p0), .val (.int p1), .val (.int p2), .val (.int p3), .val (.long p4), .second, .val (.ref a1), .val (.int tt), .val (.int nat), .val (.int sel), .val (.int ni), .val (.int b1), .unset, .unset, .unset] [(.int (101 : Int32)), (.int c8)])
                        rcases (Classical.em (c8 = 101)).symm with q9 | q9
                        · skip
                          refine Go.st (fun _ k => XS.icmpYes X.here hx rfl (pc0 := 479) (pc' := 486) rfl (hb hby at_479) rfl (XT.ii_ne_t q9) (by decide) (by decide) k) ?_
                          show Go p e below _ T (mkF m 486 #[.val (.int p0), .val (.int p1), .val (.int p2), .val (.int p3), .val (.long p4), .second, .val (.ref a1), .val (.int tt), .val (.int nat), .val (.int sel), .val (.int ni), .val (.int b1), .unset, .unset, .unset] [])
                          refine Go.st (fun _ k => XS.iconst X.here hx rfl (hb hby at_486) k) ?_
                          show Go p e below _ T (mkF m 487 #[.val (.int p0), .val (.int p1), .val (.int p2), .val (.int p3), .val (.long p4), .second, .val (.ref a1), .val (.int tt), .val (.int nat), .val (.int sel), .val (.int ni), .val (.int b1), .unset, .unset, .unset] [(.int (0 : Int32))])
                          exact J5 b1 _ hb1 (by rw [if_neg]; rintro ⟨z0, z1, z2, z3, z4, z5, z6, z7, z8, z9⟩; exact q9 z9)
                        · skip
                          refine Go.st (fun _ k => XS.icmpNo X.here hx rfl (hb hby at_479) rfl (XT.ii_ne_f q9) k) ?_
                          show Go p e below _ T (mkF m 482 #[.val (.int p0), .val (.int p1), .val (.int p2), .val (.int p3), .val (.long p4), .second, .val (.ref a1), .val (.int tt), .val (.int nat), .val (.int sel), .val (.int ni), .val (.int b1), .unset, .unset, .unset] [])
                          refine Go.st (fun _ k => XS.iconst X.here hx rfl (hb hby at_482) k) ?_
                          show Go p e below _ T (mkF m 483 #[.val (.int p0), .val (.int p1), .val (.int p2), .val (.int p3), .val (.long p4), .second, .val (.ref a1), .val (.int tt), .val (.int nat), .val (.int sel), .val (.int ni), .val (.int b1), .unset, .unset, .unset] [(.int (1 : Int32))])
                          refine Go.st (fun _ k => XS.goto X.here hx rfl (pc0 := 483) (pc' := 487) rfl (hb hby at_483) (by decide) (by decide) k) ?_
                          show Go p e below _ T (mkF m 487 #[.val (.int p0), .val (.int p1), .val (.int p2), .val (.int p3), .val (.long p4), .second, .val (.ref a1), .val (.int tt), .val (.int nat), .val (.int sel), .val (.int ni), .val (.int b1), .unset, .unset, .unset] [(.int (1 : Int32))])
                          exact J5 b1 _ hb1 (by rw [if_pos ⟨q0, q1, q2, q3, q4, q5, q6, q7, q8, q9⟩])
    refine Go.st (fun _ k => XS.iload X.here hx rfl (hb hby at_360) rfl k) ?_
    show Go p e below _ T (mkF m 362 #[.val (.int p0), .val (.int p1), .val (.int p2), .val (.int p3), .val (.long p4), .second, .val (.ref a1), .val (.int tt), .val (.int nat), .val (.int sel), .val (.int ni), .unset, .unset, .unset, .unset] [(.int ni)])
    refine Go.st (fun _ k => XS.iconst X.here hx rfl (hb hby at_362) k) ?_
    show Go p e below _ T (mkF m 363 #[.val (.int p0), .val (.int p1), .val (.int p2), .val (.int p3), .val (.long p4), .second, .val (.ref a1), .val (.int tt), .val (.int nat), .val (.int sel), .val (.int ni), .unset, .unset, .unset, .unset] [(.int (2 : Int32)), (.int ni)])
    rcases (Classical.em (ni = 2)).symm with q0 | q0
    · skip
      refine Go.st (fun _ k => XS.icmpYes X.here hx rfl (pc0 := 363) (pc' := 388) rfl (hb hby at_363) rfl (XT.ii_ne_t q0) (by decide) (by decide) k) ?_
      show Go p e below _ T (mkF m 388 #[.val (.int p0), .val (.int p1), .val (.int p2), .val (.int p3), .val (.long p4), .second, .val (.ref a1), .val (.int tt), .val (.int nat), .val (.int sel), .val (.int ni), .unset, .unset, .unset, .unset] [])
      refine Go.st (fun _ k => XS.iconst X.here hx rfl (hb hby at_388) k) ?_
      show Go p e below _ T (mkF m 389 #[.val (.int p0), .val (.int p1), .val (.int p2), .val (.int p3), .val (.long p4), .second, .val (.ref a1), .val (.int tt), .val (.int nat), .val (.int sel), .val (.int ni), .unset, .unset, .unset, .unset] [(.int (0 : Int32))])
      exact J4 _ (by rw [if_neg]; rintro ⟨z0, z1, z2⟩; exact q0 z0)
    · skip
      refine Go.st (fun _ k => XS.icmpNo X.here hx rfl (hb hby at_363) rfl (XT.ii_ne_f q0) k) ?_
      show Go p e below _ T (mkF m 366 #[.val (.int p0), .val (.int p1), .val (.int p2), .val (.int p3), .val (.long p4), .second, .val (.ref a1), .val (.int tt), .val (.int nat), .val (.int sel), .val (.int ni), .unset, .unset, .unset, .unset] [])
      refine Go.st (fun _ k => XS.aload X.here hx rfl (hb hby at_366) rfl rfl k) ?_
      show Go p e below _ T (mkF m 368 #[.val (.int p0), .val (.int p1), .val (.int p2), .val (.int p3), .val (.long p4), .second, .val (.ref a1), .val (.int tt), .val (.int nat), .val (.int sel), .val (.int ni), .unset, .unset, .unset, .unset] [(.ref a1)])
      refine Go.st (fun _ k => XS.iconst X.here hx rfl (hb hby at_368) k) ?_
      show Go p e below _ T (mkF m 369 #[.val (.int p0), .val (.int p1), .val (.int p2), .val (.int p3), .val (.long p4), .second, .val (.ref a1), .val (.int tt), .val (.int nat), .val (.int sel), .val (.int ni), .unset, .unset, .unset, .unset] [(.int (0 : Int32)), (.ref a1)])
      refine Go.caload X hx hZ eT A (i := 0) (x := c0) rfl rfl (g := (mkF m 369 #[.val (.int p0), .val (.int p1), .val (.int p2), .val (.int p3), .val (.long p4), .second, .val (.ref a1), .val (.int tt), .val (.int nat), .val (.int sel), .val (.int ni), .unset, .unset, .unset, .unset] [(.int (0 : Int32)), (.ref a1)])) rfl rfl (hb hby at_369) ?_
      show Go p e below _ T (mkF m 370 #[.val (.int p0), .val (.int p1), .val (.int p2), .val (.int p3), .val (.long p4), .second, .val (.ref a1), .val (.int tt), .val (.int nat), .val (.int sel), .val (.int ni), .unset, .unset, .unset, .unset] [(.int c0)])
      refine Go.st (fun _ k => XS.bipush X.here hx rfl (hb hby at_370) k) ?_
      show Go p e below _ T (mkF m 372 #[.val (.int p0), .val (.int p1), .val (.int p2), .val (.int p3), .val (.long p4), .second, .val (.ref a1), .val (.int tt), .val (.int nat), .val (.int sel), .val (.int ni), .unset, .unset, .unset, .unset] [(.int (45 : Int32)), (.int c0)])
      rcases (Classical.em (c0 = 45)).symm with q1 | q1
      · skip
        refine Go.st (fun _ k => XS.icmpYes X.here hx rfl (pc0 := 372) (pc' := 388) rfl (hb hby at_372) rfl (XT.ii_ne_t q1) (by decide) (by decide) k) ?_
        show Go p e below _ T (mkF m 388 #[.val (.int p0), .val (.int p1), .val (.int p2), .val (.int p3), .val (.long p4), .second, .val (.ref a1), .val (.int tt), .val (.int nat), .val (.int sel), .val (.int ni), .unset, .unset, .unset, .unset] [])
        refine Go.st (fun _ k => XS.iconst X.here hx rfl (hb hby at_388) k) ?_
        show Go p e below _ T (mkF m 389 #[.val (.int p0), .val (.int p1), .val (.int p2), .val (.int p3), .val (.long p4), .second, .val (.ref a1), .val (.int tt), .val (.int nat), .val (.int sel), .val (.int ni), .unset, .unset, .unset, .unset] [(.int (0 : Int32))])
        exact J4 _ (by rw [if_neg]; rintro ⟨z0, z1, z2⟩; exact q1 z1)
      · skip
        refine Go.st (fun _ k => XS.icmpNo X.here hx rfl (hb hby at_372) rfl (XT.ii_ne_f q1) k) ?_
        show Go p e below _ T (mkF m 375 #[.val (.int p0), .val (.int p1), .val (.int p2), .val (.int p3), .val (.long p4), .second, .val (.ref a1), .val (.int tt), .val (.int nat), .val (.int sel), .val (.int ni), .unset, .unset, .unset, .unset] [])
        refine Go.st (fun _ k => XS.aload X.here hx rfl (hb hby at_375) rfl rfl k) ?_
        show Go p e below _ T (mkF m 377 #[.val (.int p0), .val (.int p1), .val (.int p2), .val (.int p3), .val (.long p4), .second, .val (.ref a1), .val (.int tt), .val (.int nat), .val (.int sel), .val (.int ni), .unset, .unset, .unset, .unset] [(.ref a1)])
        refine Go.st (fun _ k => XS.iconst X.here hx rfl (hb hby at_377) k) ?_
        show Go p e below _ T (mkF m 378 #[.val (.int p0), .val (.int p1), .val (.int p2), .val (.int p3), .val (.long p4), .second, .val (.ref a1), .val (.int tt), .val (.int nat), .val (.int sel), .val (.int ni), .unset, .unset, .unset, .unset] [(.int (1 : Int32)), (.ref a1)])
        refine Go.caload X hx hZ eT A (i := 1) (x := c1) rfl rfl (g := (mkF m 378 #[.val (.int p0), .val (.int p1), .val (.int p2), .val (.int p3), .val (.long p4), .second, .val (.ref a1), .val (.int tt), .val (.int nat), .val (.int sel), .val (.int ni), .unset, .unset, .unset, .unset] [(.int (1 : Int32)), (.ref a1)])) rfl rfl (hb hby at_378) ?_
        show Go p e below _ T (mkF m 379 #[.val (.int p0), .val (.int p1), .val (.int p2), .val (.int p3), .val (.long p4), .second, .val (.ref a1), .val (.int tt), .val (.int nat), .val (.int sel), .val (.int ni), .unset, .unset, .unset, .unset] [(.int c1)])
        refine Go.st (fun _ k => XS.bipush X.here hx rfl (hb hby at_379) k) ?_
        show Go p e below _ T (mkF m 381 #[.val (.int p0), .val (.int p1), .val (.int p2), .val (.int p3), .val (.long p4), .second, .val (.ref a1), .val (.int tt), .val (.int nat), .val (.int sel), .val (.int ni), .unset, .unset, .unset, .unset] [(.int (118 : Int32)), (.int c1)])
        rcases (Classical.em (c1 = 118)).symm with q2 | q2
        · skip
          refine Go.st (fun _ k => XS.icmpYes X.here hx rfl (pc0 := 381) (pc' := 388) rfl (hb hby at_381) rfl (XT.ii_ne_t q2) (by decide) (by decide) k) ?_
          show Go p e below _ T (mkF m 388 #[.val (.int p0), .val (.int p1), .val (.int p2), .val (.int p3), .val (.long p4), .second, .val (.ref a1), .val (.int tt), .val (.int nat), .val (.int sel), .val (.int ni), .unset, .unset, .unset, .unset] [])
          refine Go.st (fun _ k => XS.iconst X.here hx rfl (hb hby at_388) k) ?_
          show Go p e below _ T (mkF m 389 #[.val (.int p0), .val (.int p1), .val (.int p2), .val (.int p3), .val (.long p4), .second, .val (.ref a1), .val (.int tt), .val (.int nat), .val (.int sel), .val (.int ni), .unset, .unset, .unset, .unset] [(.int (0 : Int32))])
          exact J4 _ (by rw [if_neg]; rintro ⟨z0, z1, z2⟩; exact q2 z2)
        · skip
          refine Go.st (fun _ k => XS.icmpNo X.here hx rfl (hb hby at_381) rfl (XT.ii_ne_f q2) k) ?_
          show Go p e below _ T (mkF m 384 #[.val (.int p0), .val (.int p1), .val (.int p2), .val (.int p3), .val (.long p4), .second, .val (.ref a1), .val (.int tt), .val (.int nat), .val (.int sel), .val (.int ni), .unset, .unset, .unset, .unset] [])
          refine Go.st (fun _ k => XS.iconst X.here hx rfl (hb hby at_384) k) ?_
          show Go p e below _ T (mkF m 385 #[.val (.int p0), .val (.int p1), .val (.int p2), .val (.int p3), .val (.long p4), .second, .val (.ref a1), .val (.int tt), .val (.int nat), .val (.int sel), .val (.int ni), .unset, .unset, .unset, .unset] [(.int (1 : Int32))])
          refine Go.st (fun _ k => XS.goto X.here hx rfl (pc0 := 385) (pc' := 389) rfl (hb hby at_385) (by decide) (by decide) k) ?_
          show Go p e below _ T (mkF m 389 #[.val (.int p0), .val (.int p1), .val (.int p2), .val (.int p3), .val (.long p4), .second, .val (.ref a1), .val (.int tt), .val (.int nat), .val (.int sel), .val (.int ni), .unset, .unset, .unset, .unset] [(.int (1 : Int32))])
          exact J4 _ (by rw [if_pos ⟨q0, q1, q2⟩])
  have J2 : ∀ (tt nat : Int32), (nat = 2 ∨ nat = 8 ∨ nat = 9) → ∀ (T : State) (h : Heap) (locs : List Loc) (cs : List Int32), Stand p l e room_1 s m #[(.int p0), (.int p1), (.int p2), (.int p3), (.long p4)] below meth c T locs 1 10 → T.heap = h → AI Z h a1 .char cs → CB 10 cs → Keep h0 h [] → Fr n0 locs → Go p e below (EndW consts_1 s (Q0 n0) room_1.cells room_1.slots) T (mkF m 300 #[.val (.int p0), .val (.int p1), .val (.int p2), .val (.int p3), .val (.long p4), .second, .val (.ref a1), .val (.int tt), .val (.int nat), .unset, .unset, .unset, .unset, .unset, .unset] []) := by
    intro tt nat hnat T h locs cs X eT A B K N
    show Go p e below _ T (mkF m 300 #[.val (.int p0), .val (.int p1), .val (.int p2), .val (.int p3), .val (.long p4), .second, .val (.ref a1), .val (.int tt), .val (.int nat), .unset, .unset, .unset, .unset, .unset, .unset] [])
    refine Go.st (fun _ k => XS.iloadN X.here hx rfl (hb hby at_300) rfl k) ?_
    show Go p e below _ T (mkF m 301 #[.val (.int p0), .val (.int p1), .val (.int p2), .val (.int p3), .val (.long p4), .second, .val (.ref a1), .val (.int tt), .val (.int nat), .unset, .unset, .unset, .unset, .unset, .unset] [(.int p3)])
    refine Go.st (fun _ k => XS.bipush X.here hx rfl (hb hby at_301) k) ?_
    show Go p e below _ T (mkF m 303 #[.val (.int p0), .val (.int p1), .val (.int p2), .val (.int p3), .val (.long p4), .second, .val (.ref a1), .val (.int tt), .val (.int nat), .unset, .unset, .unset, .unset, .unset, .unset] [(.int (7 : Int32)), (.int p3)])
    refine Go.st (fun _ k => XS.iand X.here hx rfl (hb hby at_303) rfl k) ?_
    show Go p e below _ T (mkF m 304 #[.val (.int p0), .val (.int p1), .val (.int p2), .val (.int p3), .val (.long p4), .second, .val (.ref a1), .val (.int tt), .val (.int nat), .unset, .unset, .unset, .unset, .unset, .unset] [(.int (p3 &&& (7 : Int32)))])
    refine Go.st (fun _ k => XS.istore X.here hx rfl (hb hby at_304) rfl (l' := #[.val (.int p0), .val (.int p1), .val (.int p2), .val (.int p3), .val (.long p4), .second, .val (.ref a1), .val (.int tt), .val (.int nat), .val (.int (p3 &&& (7 : Int32))), .unset, .unset, .unset, .unset, .unset]) rfl k) ?_
    show Go p e below _ T (mkF m 306 #[.val (.int p0), .val (.int p1), .val (.int p2), .val (.int p3), .val (.long p4), .second, .val (.ref a1), .val (.int tt), .val (.int nat), .val (.int (p3 &&& (7 : Int32))), .unset, .unset, .unset, .unset, .unset] [])
    refine Go.st (fun _ k => XS.iload X.here hx rfl (hb hby at_306) rfl k) ?_
    show Go p e below _ T (mkF m 308 #[.val (.int p0), .val (.int p1), .val (.int p2), .val (.int p3), .val (.long p4), .second, .val (.ref a1), .val (.int tt), .val (.int nat), .val (.int (p3 &&& (7 : Int32))), .unset, .unset, .unset, .unset, .unset] [(.int (p3 &&& (7 : Int32)))])
    refine Go.st (fun _ k => XS.iconst X.here hx rfl (hb hby at_308) k) ?_
    show Go p e below _ T (mkF m 309 #[.val (.int p0), .val (.int p1), .val (.int p2), .val (.int p3), .val (.long p4), .second, .val (.ref a1), .val (.int tt), .val (.int nat), .val (.int (p3 &&& (7 : Int32))), .unset, .unset, .unset, .unset, .unset] [(.int (4 : Int32)), (.int (p3 &&& (7 : Int32)))])
    by_cases s1 : (p3 &&& (7 : Int32)) < (4 : Int32)
    · skip
      refine Go.st (fun _ k => XS.icmpNo X.here hx rfl (hb hby at_309) rfl (XT.ii_ge_f s1) k) ?_
      show Go p e below _ T (mkF m 312 #[.val (.int p0), .val (.int p1), .val (.int p2), .val (.int p3), .val (.long p4), .second, .val (.ref a1), .val (.int tt), .val (.int nat), .val (.int (p3 &&& (7 : Int32))), .unset, .unset, .unset, .unset, .unset] [])
      refine Go.st (fun _ k => XS.iload X.here hx rfl (hb hby at_312) rfl k) ?_
      show Go p e below _ T (mkF m 314 #[.val (.int p0), .val (.int p1), .val (.int p2), .val (.int p3), .val (.long p4), .second, .val (.ref a1), .val (.int tt), .val (.int nat), .val (.int (p3 &&& (7 : Int32))), .unset, .unset, .unset, .unset, .unset] [(.int nat)])
      refine Go.st (fun _ k => XS.istore X.here hx rfl (hb hby at_314) rfl (l' := #[.val (.int p0), .val (.int p1), .val (.int p2), .val (.int p3), .val (.long p4), .second, .val (.ref a1), .val (.int tt), .val (.int nat), .val (.int (p3 &&& (7 : Int32))), .val (.int nat), .unset, .unset, .unset, .unset]) rfl k) ?_
      show Go p e below _ T (mkF m 316 #[.val (.int p0), .val (.int p1), .val (.int p2), .val (.int p3), .val (.long p4), .second, .val (.ref a1), .val (.int tt), .val (.int nat), .val (.int (p3 &&& (7 : Int32))), .val (.int nat), .unset, .unset, .unset, .unset] [])
      refine Go.st (fun _ k => XS.goto X.here hx rfl (pc0 := 316) (pc' := 360) rfl (hb hby at_316) (by decide) (by decide) k) ?_
      show Go p e below _ T (mkF m 360 #[.val (.int p0), .val (.int p1), .val (.int p2), .val (.int p3), .val (.long p4), .second, .val (.ref a1), .val (.int tt), .val (.int nat), .val (.int (p3 &&& (7 : Int32))), .val (.int nat), .unset, .unset, .unset, .unset] [])
      rcases hnat with rfl | rfl | rfl
      · exact J3 _ _ _ _ 2 (by decide) (by decide) T h locs cs X eT A B K N
      · exact J3 _ _ _ _ 8 (by decide) (by decide) T h locs cs X eT A B K N
      · exact J3 _ _ _ _ 9 (by decide) (by decide) T h locs cs X eT A B K N
    refine Go.st (fun _ k => XS.icmpYes X.here hx rfl (pc0 := 309) (pc' := 319) rfl (hb hby at_309) rfl (XT.ii_ge_t s1) (by decide) (by decide) k) ?_
    show Go p e below _ T (mkF m 319 #[.val (.int p0), .val (.int p1), .val (.int p2), .val (.int p3), .val (.long p4), .second, .val (.ref a1), .val (.int tt), .val (.int nat), .val (.int (p3 &&& (7 : Int32))), .unset, .unset, .unset, .unset, .unset] [])
    refine Go.st (fun _ k => XS.iload X.here hx rfl (hb hby at_319) rfl k) ?_
    show Go p e below _ T (mkF m 321 #[.val (.int p0), .val (.int p1), .val (.int p2), .val (.int p3), .val (.long p4), .second, .val (.ref a1), .val (.int tt), .val (.int nat), .val (.int (p3 &&& (7 : Int32))), .unset, .unset, .unset, .unset, .unset] [(.int (p3 &&& (7 : Int32)))])
    refine Go.st (fun _ k => XS.iconst X.here hx rfl (hb hby at_321) k) ?_
    show Go p e below _ T (mkF m 322 #[.val (.int p0), .val (.int p1), .val (.int p2), .val (.int p3), .val (.long p4), .second, .val (.ref a1), .val (.int tt), .val (.int nat), .val (.int (p3 &&& (7 : Int32))), .unset, .unset, .unset, .unset, .unset] [(.int (4 : Int32)), (.int (p3 &&& (7 : Int32)))])
    by_cases s2 : (p3 &&& (7 : Int32)) = (4 : Int32)
    · skip
      refine Go.st (fun _ k => XS.icmpNo X.here hx rfl (hb hby at_322) rfl (XT.ii_ne_f s2) k) ?_
      show Go p e below _ T (mkF m 325 #[.val (.int p0), .val (.int p1), .val (.int p2), .val (.int p3), .val (.long p4), .second, .val (.ref a1), .val (.int tt), .val (.int nat), .val (.int (p3 &&& (7 : Int32))), .unset, .unset, .unset, .unset, .unset] [])
      refine Go.st (fun _ k => XS.iload X.here hx rfl (hb hby at_325) rfl k) ?_
      show Go p e below _ T (mkF m 327 #[.val (.int p0), .val (.int p1), .val (.int p2), .val (.int p3), .val (.long p4), .second, .val (.ref a1), .val (.int tt), .val (.int nat), .val (.int (p3 &&& (7 : Int32))), .unset, .unset, .unset, .unset, .unset] [(.int nat)])
      refine Go.st (fun _ k => XS.iconst X.here hx rfl (hb hby at_327) k) ?_
      show Go p e below _ T (mkF m 328 #[.val (.int p0), .val (.int p1), .val (.int p2), .val (.int p3), .val (.long p4), .second, .val (.ref a1), .val (.int tt), .val (.int nat), .val (.int (p3 &&& (7 : Int32))), .unset, .unset, .unset, .unset, .unset] [(.int (1 : Int32)), (.int nat)])
      refine Go.st (fun _ k => XS.isub X.here hx rfl (hb hby at_328) rfl k) ?_
      show Go p e below _ T (mkF m 329 #[.val (.int p0), .val (.int p1), .val (.int p2), .val (.int p3), .val (.long p4), .second, .val (.ref a1), .val (.int tt), .val (.int nat), .val (.int (p3 &&& (7 : Int32))), .unset, .unset, .unset, .unset, .unset] [(.int (nat - (1 : Int32)))])
      refine Go.st (fun _ k => XS.istore X.here hx rfl (hb hby at_329) rfl (l' := #[.val (.int p0), .val (.int p1), .val (.int p2), .val (.int p3), .val (.long p4), .second, .val (.ref a1), .val (.int tt), .val (.int nat), .val (.int (p3 &&& (7 : Int32))), .val (.int (nat - (1 : Int32))), .unset, .unset, .unset, .unset]) rfl k) ?_
      show Go p e below _ T (mkF m 331 #[.val (.int p0), .val (.int p1), .val (.int p2), .val (.int p3), .val (.long p4), .second, .val (.ref a1), .val (.int tt), .val (.int nat), .val (.int (p3 &&& (7 : Int32))), .val (.int (nat - (1 : Int32))), .unset, .unset, .unset, .unset] [])
      refine Go.st (fun _ k => XS.goto X.here hx rfl (pc0 := 331) (pc' := 360) rfl (hb hby at_331) (by decide) (by decide) k) ?_
      show Go p e below _ T (mkF m 360 #[.val (.int p0), .val (.int p1), .val (.int p2), .val (.int p3), .val (.long p4), .second, .val (.ref a1), .val (.int tt), .val (.int nat), .val (.int (p3 &&& (7 : Int32))), .val (.int (nat - (1 : Int32))), .unset, .unset, .unset, .unset] [])
      rcases hnat with rfl | rfl | rfl
      · exact J3 _ _ _ _ 1 (by decide) (by decide) T h locs cs X eT A B K N
      · exact J3 _ _ _ _ 7 (by decide) (by decide) T h locs cs X eT A B K N
      · exact J3 _ _ _ _ 8 (by decide) (by decide) T h locs cs X eT A B K N
    refine Go.st (fun _ k => XS.icmpYes X.here hx rfl (pc0 := 322) (pc' := 334) rfl (hb hby at_322) rfl (XT.ii_ne_t s2) (by decide) (by decide) k) ?_
    show Go p e below _ T (mkF m 334 #[.val (.int p0), .val (.int p1), .val (.int p2), .val (.int p3), .val (.long p4), .second, .val (.ref a1), .val (.int tt), .val (.int nat), .val (.int (p3 &&& (7 : Int32))), .unset, .unset, .unset, .unset, .unset] [])
    refine Go.st (fun _ k => XS.iload X.here hx rfl (hb hby at_334) rfl k) ?_
    show Go p e below _ T (mkF m 336 #[.val (.int p0), .val (.int p1), .val (.int p2), .val (.int p3), .val (.long p4), .second, .val (.ref a1), .val (.int tt), .val (.int nat), .val (.int (p3 &&& (7 : Int32))), .unset, .unset, .unset, .unset, .unset] [(.int (p3 &&& (7 : Int32)))])
    refine Go.st (fun _ k => XS.iconst X.here hx rfl (hb hby at_336) k) ?_
    show Go p e below _ T (mkF m 337 #[.val (.int p0), .val (.int p1), .val (.int p2), .val (.int p3), .val (.long p4), .second, .val (.ref a1), .val (.int tt), .val (.int nat), .val (.int (p3 &&& (7 : Int32))), .unset, .unset, .unset, .unset, .unset] [(.int (5 : Int32)), (.int (p3 &&& (7 : Int32)))])
    by_cases s3 : (p3 &&& (7 : Int32)) = (5 : Int32)
    · skip
      refine Go.st (fun _ k => XS.icmpNo X.here hx rfl (hb hby at_337) rfl (XT.ii_ne_f s3) k) ?_
      show Go p e below _ T (mkF m 340 #[.val (.int p0), .val (.int p1), .val (.int p2), .val (.int p3), .val (.long p4), .second, .val (.ref a1), .val (.int tt), .val (.int nat), .val (.int (p3 &&& (7 : Int32))), .unset, .unset, .unset, .unset, .unset] [])
      refine Go.st (fun _ k => XS.iload X.here hx rfl (hb hby at_340) rfl k) ?_
      show Go p e below _ T (mkF m 342 #[.val (.int p0), .val (.int p1), .val (.int p2), .val (.int p3), .val (.long p4), .second, .val (.ref a1), .val (.int tt), .val (.int nat), .val (.int (p3 &&& (7 : Int32))), .unset, .unset, .unset, .unset, .unset] [(.int nat)])
      refine Go.st (fun _ k => XS.iconst X.here hx rfl (hb hby at_342) k) ?_
      show Go p e below _ T (mkF m 343 #[.val (.int p0), .val (.int p1), .val (.int p2), .val (.int p3), .val (.long p4), .second, .val (.ref a1), .val (.int tt), .val (.int nat), .val (.int (p3 &&& (7 : Int32))), .unset, .unset, .unset, .unset, .unset] [(.int (1 : Int32)), (.int nat)])
      refine Go.st (fun _ k => XS.iadd X.here hx rfl (hb hby at_343) rfl k) ?_
      show Go p e below _ T (mkF m 344 #[.val (.int p0), .val (.int p1), .val (.int p2), .val (.int p3), .val (.long p4), .second, .val (.ref a1), .val (.int tt), .val (.int nat), .val (.int (p3 &&& (7 : Int32))), .unset, .unset, .unset, .unset, .unset] [(.int (nat + (1 : Int32)))])
      refine Go.st (fun _ k => XS.istore X.here hx rfl (hb hby at_344) rfl (l' := #[.val (.int p0), .val (.int p1), .val (.int p2), .val (.int p3), .val (.long p4), .second, .val (.ref a1), .val (.int tt), .val (.int nat), .val (.int (p3 &&& (7 : Int32))), .val (.int (nat + (1 : Int32))), .unset, .unset, .unset, .unset]) rfl k) ?_
      show Go p e below _ T (mkF m 346 #[.val (.int p0), .val (.int p1), .val (.int p2), .val (.int p3), .val (.long p4), .second, .val (.ref a1), .val (.int tt), .val (.int nat), .val (.int (p3 &&& (7 : Int32))), .val (.int (nat + (1 : Int32))), .unset, .unset, .unset, .unset] [])
      refine Go.st (fun _ k => XS.goto X.here hx rfl (pc0 := 346) (pc' := 360) rfl (hb hby at_346) (by decide) (by decide) k) ?_
      show Go p e below _ T (mkF m 360 #[.val (.int p0), .val (.int p1), .val (.int p2), .val (.int p3), .val (.long p4), .second, .val (.ref a1), .val (.int tt), .val (.int nat), .val (.int (p3 &&& (7 : Int32))), .val (.int (nat + (1 : Int32))), .unset, .unset, .unset, .unset] [])
      rcases hnat with rfl | rfl | rfl
      · exact J3 _ _ _ _ 3 (by decide) (by decide) T h locs cs X eT A B K N
      · exact J3 _ _ _ _ 9 (by decide) (by decide) T h locs cs X eT A B K N
      · exact J3 _ _ _ _ 10 (by decide) (by decide) T h locs cs X eT A B K N
    refine Go.st (fun _ k => XS.icmpYes X.here hx rfl (pc0 := 337) (pc' := 349) rfl (hb hby at_337) rfl (XT.ii_ne_t s3) (by decide) (by decide) k) ?_
    show Go p e below _ T (mkF m 349 #[.val (.int p0), .val (.int p1), .val (.int p2), .val (.int p3), .val (.long p4), .second, .val (.ref a1), .val (.int tt), .val (.int nat), .val (.int (p3 &&& (7 : Int32))), .unset, .unset, .unset, .unset, .unset] [])
    refine Go.st (fun _ k => XS.iloadN X.here hx rfl (hb hby at_349) rfl k) ?_
    show Go p e below _ T (mkF m 350 #[.val (.int p0), .val (.int p1), .val (.int p2), .val (.int p3), .val (.long p4), .second, .val (.ref a1), .val (.int tt), .val (.int nat), .val (.int (p3 &&& (7 : Int32))), .unset, .unset, .unset, .unset, .unset] [(.int p3)])
    refine Go.st (fun _ k => XS.iconst X.here hx rfl (hb hby at_350) k) ?_
    show Go p e below _ T (mkF m 351 #[.val (.int p0), .val (.int p1), .val (.int p2), .val (.int p3), .val (.long p4), .second, .val (.ref a1), .val (.int tt), .val (.int nat), .val (.int (p3 &&& (7 : Int32))), .unset, .unset, .unset, .unset, .unset] [(.int (3 : Int32)), (.int p3)])
    refine Go.st (fun _ k => XT.iushr X.here hx rfl (hb hby at_351) rfl k) ?_
    show Go p e below _ T (mkF m 352 #[.val (.int p0), .val (.int p1), .val (.int p2), .val (.int p3), .val (.long p4), .second, .val (.ref a1), .val (.int tt), .val (.int nat), .val (.int (p3 &&& (7 : Int32))), .unset, .unset, .unset, .unset, .unset] [(.int (XT.ushr p3 (3 : Int32)))])
    refine Go.st (fun _ k => X.ldcI hx hown (mvT hZ (hw _ (List.mem_of_getElem? (i := 56) rfl))) rfl (hb hby at_352) k) ?_
    show Go p e below _ T (mkF m 354 #[.val (.int p0), .val (.int p1), .val (.int p2), .val (.int p3), .val (.long p4), .second, .val (.ref a1), .val (.int tt), .val (.int nat), .val (.int (p3 &&& (7 : Int32))), .unset, .unset, .unset, .unset, .unset] [(.int (2147483647 : Int32)), (.int (XT.ushr p3 (3 : Int32)))])
    refine Go.st (fun _ k => XS.iand X.here hx rfl (hb hby at_354) rfl k) ?_
    show Go p e below _ T (mkF m 355 #[.val (.int p0), .val (.int p1), .val (.int p2), .val (.int p3), .val (.long p4), .second, .val (.ref a1), .val (.int tt), .val (.int nat), .val (.int (p3 &&& (7 : Int32))), .unset, .unset, .unset, .unset, .unset] [(.int ((XT.ushr p3 (3 : Int32)) &&& (2147483647 : Int32)))])
    refine Go.st (fun _ k => XS.bipush X.here hx rfl (hb hby at_355) k) ?_
    show Go p e below _ T (mkF m 357 #[.val (.int p0), .val (.int p1), .val (.int p2), .val (.int p3), .val (.long p4), .second, .val (.ref a1), .val (.int tt), .val (.int nat), .val (.int (p3 &&& (7 : Int32))), .unset, .unset, .unset, .unset, .unset] [(.int (11 : Int32)), (.int ((XT.ushr p3 (3 : Int32)) &&& (2147483647 : Int32)))])
    refine Go.st (fun _ k => iremM X hx rfl (hb hby at_357) rfl (by decide) k) ?_
    show Go p e below _ T (mkF m 358 #[.val (.int p0), .val (.int p1), .val (.int p2), .val (.int p3), .val (.long p4), .second, .val (.ref a1), .val (.int tt), .val (.int nat), .val (.int (p3 &&& (7 : Int32))), .unset, .unset, .unset, .unset, .unset] [(.int (((XT.ushr p3 (3 : Int32)) &&& (2147483647 : Int32)) % (11 : Int32)))])
    refine Go.st (fun _ k => XS.istore X.here hx rfl (hb hby at_358) rfl (l' := #[.val (.int p0), .val (.int p1), .val (.int p2), .val (.int p3), .val (.long p4), .second, .val (.ref a1), .val (.int tt), .val (.int nat), .val (.int (p3 &&& (7 : Int32))), .val (.int (((XT.ushr p3 (3 : Int32)) &&& (2147483647 : Int32)) % (11 : Int32))), .unset, .unset, .unset, .unset]) rfl k) ?_
    show Go p e below _ T (mkF m 360 #[.val (.int p0), .val (.int p1), .val (.int p2), .val (.int p3), .val (.long p4), .second, .val (.ref a1), .val (.int tt), .val (.int nat), .val (.int (p3 &&& (7 : Int32))), .val (.int (((XT.ushr p3 (3 : Int32)) &&& (2147483647 : Int32)) % (11 : Int32))), .unset, .unset, .unset, .unset] [])
    obtain ⟨k, hk, ek⟩ := own_modN (XT.ushr p3 (3 : Int32)) (11 : Int32) (by decide)
    have hk' : k < 11 := by have q : ((11 : Int32)).toInt = 11 := rfl; omega
    exact J3 _ _ _ _ k (by omega) ek T h locs cs X eT A B K N
  have J1 : ∀ (tt nat : Int32), (nat = 2 ∨ nat = 8 ∨ nat = 9) → ∀ (T : State) (h : Heap) (locs : List Loc) (cs : List Int32), Stand p l e room_1 s m #[(.int p0), (.int p1), (.int p2), (.int p3), (.long p4)] below meth c T locs 1 10 → T.heap = h → AI Z h a1 .char cs → CB 10 cs → Keep h0 h [] → Fr n0 locs → Go p e below (EndW consts_1 s (Q0 n0) room_1.cells room_1.slots) T (mkF m 279 #[.val (.int p0), .val (.int p1), .val (.int p2), .val (.int p3), .val (.long p4), .second, .val (.ref a1), .val (.int tt), .val (.int nat), .unset, .unset, .unset, .unset, .unset, .unset] []) := by
    intro tt nat hnat T h locs cs X eT A B K N
    show Go p e below _ T (mkF m 279 #[.val (.int p0), .val (.int p1), .val (.int p2), .val (.int p3), .val (.long p4), .second, .val (.ref a1), .val (.int tt), .val (.int nat), .unset, .unset, .unset, .unset, .unset, .unset] [])
    refine Go.st (fun _ k => XS.iloadN X.here hx rfl (hb hby at_279) rfl k) ?_
    show Go p e below _ T (mkF m 280 #[.val (.int p0), .val (.int p1), .val (.int p2), .val (.int p3), .val (.long p4), .second, .val (.ref a1), .val (.int tt), .val (.int nat), .unset, .unset, .unset, .unset, .unset, .unset] [(.int p0)])
    refine Go.st (fun _ k => XS.iconst X.here hx rfl (hb hby at_280) k) ?_
    show Go p e below _ T (mkF m 281 #[.val (.int p0), .val (.int p1), .val (.int p2), .val (.int p3), .val (.long p4), .second, .val (.ref a1), .val (.int tt), .val (.int nat), .unset, .unset, .unset, .unset, .unset, .unset] [(.int (4 : Int32)), (.int p0)])
    refine Go.st (fun _ k => XS.iand X.here hx rfl (hb hby at_281) rfl k) ?_
    show Go p e below _ T (mkF m 282 #[.val (.int p0), .val (.int p1), .val (.int p2), .val (.int p3), .val (.long p4), .second, .val (.ref a1), .val (.int tt), .val (.int nat), .unset, .unset, .unset, .unset, .unset, .unset] [(.int (p0 &&& (4 : Int32)))])
    by_cases s1 : p0 &&& (4 : Int32) = 0
    · skip
      refine Go.st (fun _ k => XS.ifYes X.here hx rfl (pc0 := 282) (pc' := 300) rfl (hb hby at_282) rfl (XT.i0_eq_t s1) (by decide) (by decide) k) ?_
      show Go p e below _ T (mkF m 300 #[.val (.int p0), .val (.int p1), .val (.int p2), .val (.int p3), .val (.long p4), .second, .val (.ref a1), .val (.int tt), .val (.int nat), .unset, .unset, .unset, .unset, .unset, .unset] [])
      exact J2 _ _ hnat T h locs cs X eT A B K N
    refine Go.st (fun _ k => XS.ifNo X.here hx rfl (hb hby at_282) rfl (XT.i0_eq_f s1) k) ?_
    show Go p e below _ T (mkF m 285 #[.val (.int p0), .val (.int p1), .val (.int p2), .val (.int p3), .val (.long p4), .second, .val (.ref a1), .val (.int tt), .val (.int nat), .unset, .unset, .unset, .unset, .unset, .unset] [])
    obtain ⟨k, hk, ek⟩ := own_modN p1 (10 : Int32) (by decide)
    have hk' : k < 10 := by have q : ((10 : Int32)).toInt = 10 := rfl; omega
    refine Go.st (fun _ k => XS.aload X.here hx rfl (hb hby at_285) rfl rfl k) ?_
    show Go p e below _ T (mkF m 287 #[.val (.int p0), .val (.int p1), .val (.int p2), .val (.int p3), .val (.long p4), .second, .val (.ref a1), .val (.int tt), .val (.int nat), .unset, .unset, .unset, .unset, .unset, .unset] [(.ref a1)])
    refine Go.st (fun _ k => XS.iloadN X.here hx rfl (hb hby at_287) rfl k) ?_
    show Go p e below _ T (mkF m 288 #[.val (.int p0), .val (.int p1), .val (.int p2), .val (.int p3), .val (.long p4), .second, .val (.ref a1), .val (.int tt), .val (.int nat), .unset, .unset, .unset, .unset, .unset, .unset] [(.int p1), (.ref a1)])
    refine Go.st (fun _ k => X.ldcI hx hown (mvT hZ (hw _ (List.mem_of_getElem? (i := 56) rfl))) rfl (hb hby at_288) k) ?_
    show Go p e below _ T (mkF m 290 #[.val (.int p0), .val (.int p1), .val (.int p2), .val (.int p3), .val (.long p4), .second, .val (.ref a1), .val (.int tt), .val (.int nat), .unset, .unset, .unset, .unset, .unset, .unset] [(.int (2147483647 : Int32)), (.int p1), (.ref a1)])
    refine Go.st (fun _ k => XS.iand X.here hx rfl (hb hby at_290) rfl k) ?_
    show Go p e below _ T (mkF m 291 #[.val (.int p0), .val (.int p1), .val (.int p2), .val (.int p3), .val (.long p4), .second, .val (.ref a1), .val (.int tt), .val (.int nat), .unset, .unset, .unset, .unset, .unset, .unset] [(.int (p1 &&& (2147483647 : Int32))), (.ref a1)])
    refine Go.st (fun _ k => XS.bipush X.here hx rfl (hb hby at_291) k) ?_
    show Go p e below _ T (mkF m 293 #[.val (.int p0), .val (.int p1), .val (.int p2), .val (.int p3), .val (.long p4), .second, .val (.ref a1), .val (.int tt), .val (.int nat), .unset, .unset, .unset, .unset, .unset, .unset] [(.int (10 : Int32)), (.int (p1 &&& (2147483647 : Int32))), (.ref a1)])
    refine Go.st (fun _ k => iremM X hx rfl (hb hby at_293) rfl (by decide) k) ?_
    show Go p e below _ T (mkF m 294 #[.val (.int p0), .val (.int p1), .val (.int p2), .val (.int p3), .val (.long p4), .second, .val (.ref a1), .val (.int tt), .val (.int nat), .unset, .unset, .unset, .unset, .unset, .unset] [(.int ((p1 &&& (2147483647 : Int32)) % (10 : Int32))), (.ref a1)])
    refine Go.st (fun _ k => XS.iloadN X.here hx rfl (hb hby at_294) rfl k) ?_
    show Go p e below _ T (mkF m 295 #[.val (.int p0), .val (.int p1), .val (.int p2), .val (.int p3), .val (.long p4), .second, .val (.ref a1), .val (.int tt), .val (.int nat), .unset, .unset, .unset, .unset, .unset, .unset] [(.int p2), (.int ((p1 &&& (2147483647 : Int32)) % (10 : Int32))), (.ref a1)])
    refine Go.st (fun _ k => X.ldcI hx hown (mvT hZ (hw _ (List.mem_of_getElem? (i := 57) rfl))) rfl (hb hby at_295) k) ?_
    show Go p e below _ T (mkF m 297 #[.val (.int p0), .val (.int p1), .val (.int p2), .val (.int p3), .val (.long p4), .second, .val (.ref a1), .val (.int tt), .val (.int nat), .unset, .unset, .unset, .unset, .unset, .unset] [(.int (65535 : Int32)), (.int p2), (.int ((p1 &&& (2147483647 : Int32)) % (10 : Int32))), (.ref a1)])
    refine Go.st (fun _ k => XS.iand X.here hx rfl (hb hby at_297) rfl k) ?_
    show Go p e below _ T (mkF m 298 #[.val (.int p0), .val (.int p1), .val (.int p2), .val (.int p3), .val (.long p4), .second, .val (.ref a1), .val (.int tt), .val (.int nat), .unset, .unset, .unset, .unset, .unset, .unset] [(.int (p2 &&& (65535 : Int32))), (.int ((p1 &&& (2147483647 : Int32)) % (10 : Int32))), (.ref a1)])
    refine Go.st (fun _ k => XT.i2c X.here hx rfl (hb hby at_298) rfl k) ?_
    show Go p e below _ T (mkF m 299 #[.val (.int p0), .val (.int p1), .val (.int p2), .val (.int p3), .val (.long p4), .second, .val (.ref a1), .val (.int tt), .val (.int nat), .unset, .unset, .unset, .unset, .unset, .unset] [(.int ((p2 &&& (65535 : Int32)).toUInt32.toUInt16.toUInt32.toInt32)), (.int ((p1 &&& (2147483647 : Int32)) % (10 : Int32))), (.ref a1)])
    rw [ek]
    show Go p e below _ T (mkF m 299 #[.val (.int p0), .val (.int p1), .val (.int p2), .val (.int p3), .val (.long p4), .second, .val (.ref a1), .val (.int tt), .val (.int nat), .unset, .unset, .unset, .unset, .unset, .unset] [(.int ((p2 &&& (65535 : Int32)).toUInt32.toUInt16.toUInt32.toInt32)), (.int (Int32.ofNat k)), (.ref a1)])
    refine Go.castore X hx hZ eT A (i := k) rfl (by rw [B.1]; exact hk') (g := (mkF m 299 #[.val (.int p0), .val (.int p1), .val (.int p2), .val (.int p3), .val (.long p4), .second, .val (.ref a1), .val (.int tt), .val (.int nat), .unset, .unset, .unset, .unset, .unset, .unset] [(.int ((p2 &&& (65535 : Int32)).toUInt32.toUInt16.toUInt32.toInt32)), (.int (Int32.ofNat k)), (.ref a1)])) rfl rfl (hb hby at_299) ?_
    rintro T2 h2 X2 e2 W2 A2
    show Go p e below _ T2 (mkF m 300 #[.val (.int p0), .val (.int p1), .val (.int p2), .val (.int p3), .val (.long p4), .second, .val (.ref a1), .val (.int tt), .val (.int nat), .unset, .unset, .unset, .unset, .unset, .unset] [])
    exact J2 _ _ hnat T2 h2 _ _ X2 e2 A2 (B.set k _) (K.wr W2 (Or.inr ha1)) (Fr.snoc X2 N (by omega))
  have B1 : CB 10 (List.replicate 10 0) := CB.rep 10
  have K1 : Keep h0 h1 [] := (Keep.refl h0 []).ext E1
  have N1 : Fr n0 [] := Fr.nil n0
  show Go p e below _ T1 (mkF m 12 #[.val (.int p0), .val (.int p1), .val (.int p2), .val (.int p3), .val (.long p4), .second, .val (.ref a1), .unset, .unset, .unset, .unset, .unset, .unset, .unset, .unset] [(.int (0 : Int32)), (.long p4), (.int (0 : Int32)), (.ref a1)])
  refine Go.callS X1 hx (y := (⟨"com/example/tutti/tutti/cli/CommandLineIsVerbosePinLaw", "fb", "(JI)C"⟩ : MethodName)) hown (mvT hZ (hw _ (List.mem_of_getElem? (i := 1) rfl))) (mvT hZ (hw _ (List.mem_of_getElem? (i := 2) rfl))) (mvT hZ (hw _ (List.mem_of_getElem? (i := 3) rfl))) (mvT hZ (hw _ (List.mem_of_getElem? (i := 4) rfl))) (by decide) (Ctr.back (W := 2) (rmFB l Z a0 hw p4 (0 : Int32) h1 n0) hZ (hw _ (List.mem_of_getElem? (i := 4) rfl)) (hw _ (List.mem_of_getElem? (i := 3) rfl)) (by (try dsimp only [room_1]); (try simp only [List.length_cons, List.length_nil]); omega) (by (try dsimp only [room_1]); (try simp only [List.length_cons, List.length_nil]); omega)) e1 (g := (mkF m 12 #[.val (.int p0), .val (.int p1), .val (.int p2), .val (.int p3), .val (.long p4), .second, .val (.ref a1), .unset, .unset, .unset, .unset, .unset, .unset, .unset, .unset] [(.int (0 : Int32)), (.long p4), (.int (0 : Int32)), (.ref a1)])) rfl (by rw [hml]; rfl) (argsL := [(.long p4), (.int (0 : Int32))]) (rest := [(.int (0 : Int32)), (.ref a1)]) (lenOf pd_30 rfl) rfl (by show 2 * 0 + _ ≤ _; exact Nat.le_of_eq rfl) (hb hby at_12) rfl (by (try dsimp only [room_1]); (try simp only [List.length_cons, List.length_nil]); omega) (by (try dsimp only [room_1]); (try simp only [List.length_cons, List.length_nil]); omega) ?_
  rintro _ T2 L2 X2 ⟨x2, rfl, N2q, e2⟩
  show Go p e below _ T2 (mkF m 15 #[.val (.int p0), .val (.int p1), .val (.int p2), .val (.int p3), .val (.long p4), .second, .val (.ref a1), .unset, .unset, .unset, .unset, .unset, .unset, .unset, .unset] [(.int x2), (.int (0 : Int32)), (.ref a1)])
  have N2 := Fr.app N1 N2q
  refine Go.castore X2 hx hZ e2 A1 (i := 0) rfl (by rw [B1.1]; decide) (g := (mkF m 15 #[.val (.int p0), .val (.int p1), .val (.int p2), .val (.int p3), .val (.long p4), .second, .val (.ref a1), .unset, .unset, .unset, .unset, .unset, .unset, .unset, .unset] [(.int x2), (.int (0 : Int32)), (.ref a1)])) rfl rfl (hb hby at_15) ?_
  rintro T3 h3 X3 e3 W3 A3
  have sW3 := W3.size
  show Go p e below _ T3 (mkF m 16 #[.val (.int p0), .val (.int p1), .val (.int p2), .val (.int p3), .val (.long p4), .second, .val (.ref a1), .unset, .unset, .unset, .unset, .unset, .unset, .unset, .unset] [])
  obtain ⟨cs3, A3, B3⟩ : ∃ cs, AI Z h3 a1 .char cs ∧ CB 10 cs := ⟨_, A3, B1.set 0 _⟩
  have K3 := K1.wr W3 (Or.inr ha1)
  have N3 := Fr.snoc X3 N2 (by omega)
  refine Go.st (fun _ k => XS.aload X3.here hx rfl (hb hby at_16) rfl rfl k) ?_
  show Go p e below _ T3 (mkF m 18 #[.val (.int p0), .val (.int p1), .val (.int p2), .val (.int p3), .val (.long p4), .second, .val (.ref a1), .unset, .unset, .unset, .unset, .unset, .unset, .unset, .unset] [(.ref a1)])
  refine Go.st (fun _ k => XS.iconst X3.here hx rfl (hb hby at_18) k) ?_
  show Go p e below _ T3 (mkF m 19 #[.val (.int p0), .val (.int p1), .val (.int p2), .val (.int p3), .val (.long p4), .second, .val (.ref a1), .unset, .unset, .unset, .unset, .unset, .unset, .unset, .unset] [(.int (1 : Int32)), (.ref a1)])
  refine Go.st (fun _ k => XT.lload X3.here hx rfl (hb hby at_19) rfl k) ?_
  show Go p e below _ T3 (mkF m 21 #[.val (.int p0), .val (.int p1), .val (.int p2), .val (.int p3), .val (.long p4), .second, .val (.ref a1), .unset, .unset, .unset, .unset, .unset, .unset, .unset, .unset] [(.long p4), (.int (1 : Int32)), (.ref a1)])
  refine Go.st (fun _ k => XS.iconst X3.here hx rfl (hb hby at_21) k) ?_
  show Go p e below _ T3 (mkF m 22 #[.val (.int p0), .val (.int p1), .val (.int p2), .val (.int p3), .val (.long p4), .second, .val (.ref a1), .unset, .unset, .unset, .unset, .unset, .unset, .unset, .unset] [(.int (1 : Int32)), (.long p4), (.int (1 : Int32)), (.ref a1)])
  refine Go.callS X3 hx (y := (⟨"com/example/tutti/tutti/cli/CommandLineIsVerbosePinLaw", "fb", "(JI)C"⟩ : MethodName)) hown (mvT hZ (hw _ (List.mem_of_getElem? (i := 1) rfl))) (mvT hZ (hw _ (List.mem_of_getElem? (i := 2) rfl))) (mvT hZ (hw _ (List.mem_of_getElem? (i := 3) rfl))) (mvT hZ (hw _ (List.mem_of_getElem? (i := 4) rfl))) (by decide) (Ctr.back (W := 2) (rmFB l Z a0 hw p4 (1 : Int32) h3 n0) hZ (hw _ (List.mem_of_getElem? (i := 4) rfl)) (hw _ (List.mem_of_getElem? (i := 3) rfl)) (by (try dsimp only [room_1]); (try simp only [List.length_cons, List.length_nil]); omega) (by (try dsimp only [room_1]); (try simp only [List.length_cons, List.length_nil]); omega)) e3 (g := (mkF m 22 #[.val (.int p0), .val (.int p1), .val (.int p2), .val (.int p3), .val (.long p4), .second, .val (.ref a1), .unset, .unset, .unset, .unset, .unset, .unset, .unset, .unset] [(.int (1 : Int32)), (.long p4), (.int (1 : Int32)), (.ref a1)])) rfl (by rw [hml]; rfl) (argsL := [(.long p4), (.int (1 : Int32))]) (rest := [(.int (1 : Int32)), (.ref a1)]) (lenOf pd_30 rfl) rfl (by show 2 * 0 + _ ≤ _; exact Nat.le_of_eq rfl) (hb hby at_22) rfl (by (try dsimp only [room_1]); (try simp only [List.length_cons, List.length_nil]); omega) (by (try dsimp only [room_1]); (try simp only [List.length_cons, List.length_nil]); omega) ?_
  rintro _ T4 L4 X4 ⟨x4, rfl, N4q, e4⟩
  show Go p e below _ T4 (mkF m 25 #[.val (.int p0), .val (.int p1), .val (.int p2), .val (.int p3), .val (.long p4), .second, .val (.ref a1), .unset, .unset, .unset, .unset, .unset, .unset, .unset, .unset] [(.int x4), (.int (1 : Int32)), (.ref a1)])
  have N4 := Fr.app N3 N4q
  refine Go.castore X4 hx hZ e4 A3 (i := 1) rfl (by rw [B3.1]; decide) (g := (mkF m 25 #[.val (.int p0), .val (.int p1), .val (.int p2), .val (.int p3), .val (.long p4), .second, .val (.ref a1), .unset, .unset, .unset, .unset, .unset, .unset, .unset, .unset] [(.int x4), (.int (1 : Int32)), (.ref a1)])) rfl rfl (hb hby at_25) ?_
  rintro T5 h5 X5 e5 W5 A5
  have sW5 := W5.size
  show Go p e below _ T5 (mkF m 26 #[.val (.int p0), .val (.int p1), .val (.int p2), .val (.int p3), .val (.long p4), .second, .val (.ref a1), .unset, .unset, .unset, .unset, .unset, .unset, .unset, .unset] [])
  obtain ⟨cs5, A5, B5⟩ : ∃ cs, AI Z h5 a1 .char cs ∧ CB 10 cs := ⟨_, A5, B3.set 1 _⟩
  have K5 := K3.wr W5 (Or.inr ha1)
  have N5 := Fr.snoc X5 N4 (by omega)
  refine Go.st (fun _ k => XS.aload X5.here hx rfl (hb hby at_26) rfl rfl k) ?_
  show Go p e below _ T5 (mkF m 28 #[.val (.int p0), .val (.int p1), .val (.int p2), .val (.int p3), .val (.long p4), .second, .val (.ref a1), .unset, .unset, .unset, .unset, .unset, .unset, .unset, .unset] [(.ref a1)])
  refine Go.st (fun _ k => XS.iconst X5.here hx rfl (hb hby at_28) k) ?_
  show Go p e below _ T5 (mkF m 29 #[.val (.int p0), .val (.int p1), .val (.int p2), .val (.int p3), .val (.long p4), .second, .val (.ref a1), .unset, .unset, .unset, .unset, .unset, .unset, .unset, .unset] [(.int (2 : Int32)), (.ref a1)])
  refine Go.st (fun _ k => XT.lload X5.here hx rfl (hb hby at_29) rfl k) ?_
  show Go p e below _ T5 (mkF m 31 #[.val (.int p0), .val (.int p1), .val (.int p2), .val (.int p3), .val (.long p4), .second, .val (.ref a1), .unset, .unset, .unset, .unset, .unset, .unset, .unset, .unset] [(.long p4), (.int (2 : Int32)), (.ref a1)])
  refine Go.st (fun _ k => XS.iconst X5.here hx rfl (hb hby at_31) k) ?_
  show Go p e below _ T5 (mkF m 32 #[.val (.int p0), .val (.int p1), .val (.int p2), .val (.int p3), .val (.long p4), .second, .val (.ref a1), .unset, .unset, .unset, .unset, .unset, .unset, .unset, .unset] [(.int (2 : Int32)), (.long p4), (.int (2 : Int32)), (.ref a1)])
  refine Go.callS X5 hx (y := (⟨"com/example/tutti/tutti/cli/CommandLineIsVerbosePinLaw", "fb", "(JI)C"⟩ : MethodName)) hown (mvT hZ (hw _ (List.mem_of_getElem? (i := 1) rfl))) (mvT hZ (hw _ (List.mem_of_getElem? (i := 2) rfl))) (mvT hZ (hw _ (List.mem_of_getElem? (i := 3) rfl))) (mvT hZ (hw _ (List.mem_of_getElem? (i := 4) rfl))) (by decide) (Ctr.back (W := 2) (rmFB l Z a0 hw p4 (2 : Int32) h5 n0) hZ (hw _ (List.mem_of_getElem? (i := 4) rfl)) (hw _ (List.mem_of_getElem? (i := 3) rfl)) (by (try dsimp only [room_1]); (try simp only [List.length_cons, List.length_nil]); omega) (by (try dsimp only [room_1]); (try simp only [List.length_cons, List.length_nil]); omega)) e5 (g := (mkF m 32 #[.val (.int p0), .val (.int p1), .val (.int p2), .val (.int p3), .val (.long p4), .second, .val (.ref a1), .unset, .unset, .unset, .unset, .unset, .unset, .unset, .unset] [(.int (2 : Int32)), (.long p4), (.int (2 : Int32)), (.ref a1)])) rfl (by rw [hml]; rfl) (argsL := [(.long p4), (.int (2 : Int32))]) (rest := [(.int (2 : Int32)), (.ref a1)]) (lenOf pd_30 rfl) rfl (by show 2 * 0 + _ ≤ _; exact Nat.le_of_eq rfl) (hb hby at_32) rfl (by (try dsimp only [room_1]); (try simp only [List.length_cons, List.length_nil]); omega) (by (try dsimp only [room_1]); (try simp only [List.length_cons, List.length_nil]); omega) ?_
  rintro _ T6 L6 X6 ⟨x6, rfl, N6q, e6⟩
  show Go p e below _ T6 (mkF m 35 #[.val (.int p0), .val (.int p1), .val (.int p2), .val (.int p3), .val (.long p4), .second, .val (.ref a1), .unset, .unset, .unset, .unset, .unset, .unset, .unset, .unset] [(.int x6), (.int (2 : Int32)), (.ref a1)])
  have N6 := Fr.app N5 N6q
  refine Go.castore X6 hx hZ e6 A5 (i := 2) rfl (by rw [B5.1]; decide) (g := (mkF m 35 #[.val (.int p0), .val (.int p1), .val (.int p2), .val (.int p3), .val (.long p4), .second, .val (.ref a1), .unset, .unset, .unset, .unset, .unset, .unset, .unset, .unset] [(.int x6), (.int (2 : Int32)), (.ref a1)])) rfl rfl (hb hby at_35) ?_
  rintro T7 h7 X7 e7 W7 A7
  have sW7 := W7.size
  show Go p e below _ T7 (mkF m 36 #[.val (.int p0), .val (.int p1), .val (.int p2), .val (.int p3), .val (.long p4), .second, .val (.ref a1), .unset, .unset, .unset, .unset, .unset, .unset, .unset, .unset] [])
  obtain ⟨cs7, A7, B7⟩ : ∃ cs, AI Z h7 a1 .char cs ∧ CB 10 cs := ⟨_, A7, B5.set 2 _⟩
  have K7 := K5.wr W7 (Or.inr ha1)
  have N7 := Fr.snoc X7 N6 (by omega)
  refine Go.st (fun _ k => XS.aload X7.here hx rfl (hb hby at_36) rfl rfl k) ?_
  show Go p e below _ T7 (mkF m 38 #[.val (.int p0), .val (.int p1), .val (.int p2), .val (.int p3), .val (.long p4), .second, .val (.ref a1), .unset, .unset, .unset, .unset, .unset, .unset, .unset, .unset] [(.ref a1)])
  refine Go.st (fun _ k => XS.iconst X7.here hx rfl (hb hby at_38) k) ?_
  show Go p e below _ T7 (mkF m 39 #[.val (.int p0), .val (.int p1), .val (.int p2), .val (.int p3), .val (.long p4), .second, .val (.ref a1), .unset, .unset, .unset, .unset, .unset, .unset, .unset, .unset] [(.int (3 : Int32)), (.ref a1)])
  refine Go.st (fun _ k => XT.lload X7.here hx rfl (hb hby at_39) rfl k) ?_
  show Go p e below _ T7 (mkF m 41 #[.val (.int p0), .val (.int p1), .val (.int p2), .val (.int p3), .val (.long p4), .second, .val (.ref a1), .unset, .unset, .unset, .unset, .unset, .unset, .unset, .unset] [(.long p4), (.int (3 : Int32)), (.ref a1)])
  refine Go.st (fun _ k => XS.iconst X7.here hx rfl (hb hby at_41) k) ?_
  show Go p e below _ T7 (mkF m 42 #[.val (.int p0), .val (.int p1), .val (.int p2), .val (.int p3), .val (.long p4), .second, .val (.ref a1), .unset, .unset, .unset, .unset, .unset, .unset, .unset, .unset] [(.int (3 : Int32)), (.long p4), (.int (3 : Int32)), (.ref a1)])
  refine Go.callS X7 hx (y := (⟨"com/example/tutti/tutti/cli/CommandLineIsVerbosePinLaw", "fb", "(JI)C"⟩ : MethodName)) hown (mvT hZ (hw _ (List.mem_of_getElem? (i := 1) rfl))) (mvT hZ (hw _ (List.mem_of_getElem? (i := 2) rfl))) (mvT hZ (hw _ (List.mem_of_getElem? (i := 3) rfl))) (mvT hZ (hw _ (List.mem_of_getElem? (i := 4) rfl))) (by decide) (Ctr.back (W := 2) (rmFB l Z a0 hw p4 (3 : Int32) h7 n0) hZ (hw _ (List.mem_of_getElem? (i := 4) rfl)) (hw _ (List.mem_of_getElem? (i := 3) rfl)) (by (try dsimp only [room_1]); (try simp only [List.length_cons, List.length_nil]); omega) (by (try dsimp only [room_1]); (try simp only [List.length_cons, List.length_nil]); omega)) e7 (g := (mkF m 42 #[.val (.int p0), .val (.int p1), .val (.int p2), .val (.int p3), .val (.long p4), .second, .val (.ref a1), .unset, .unset, .unset, .unset, .unset, .unset, .unset, .unset] [(.int (3 : Int32)), (.long p4), (.int (3 : Int32)), (.ref a1)])) rfl (by rw [hml]; rfl) (argsL := [(.long p4), (.int (3 : Int32))]) (rest := [(.int (3 : Int32)), (.ref a1)]) (lenOf pd_30 rfl) rfl (by show 2 * 0 + _ ≤ _; exact Nat.le_of_eq rfl) (hb hby at_42) rfl (by (try dsimp only [room_1]); (try simp only [List.length_cons, List.length_nil]); omega) (by (try dsimp only [room_1]); (try simp only [List.length_cons, List.length_nil]); omega) ?_
  rintro _ T8 L8 X8 ⟨x8, rfl, N8q, e8⟩
  show Go p e below _ T8 (mkF m 45 #[.val (.int p0), .val (.int p1), .val (.int p2), .val (.int p3), .val (.long p4), .second, .val (.ref a1), .unset, .unset, .unset, .unset, .unset, .unset, .unset, .unset] [(.int x8), (.int (3 : Int32)), (.ref a1)])
  have N8 := Fr.app N7 N8q
  refine Go.castore X8 hx hZ e8 A7 (i := 3) rfl (by rw [B7.1]; decide) (g := (mkF m 45 #[.val (.int p0), .val (.int p1), .val (.int p2), .val (.int p3), .val (.long p4), .second, .val (.ref a1), .unset, .unset, .unset, .unset, .unset, .unset, .unset, .unset] [(.int x8), (.int (3 : Int32)), (.ref a1)])) rfl rfl (hb hby at_45) ?_
  rintro T9 h9 X9 e9 W9 A9
  have sW9 := W9.size
  show Go p e below _ T9 (mkF m 46 #[.val (.int p0), .val (.int p1), .val (.int p2), .val (.int p3), .val (.long p4), .second, .val (.ref a1), .unset, .unset, .unset, .unset, .unset, .unset, .unset, .unset] [])
  obtain ⟨cs9, A9, B9⟩ : ∃ cs, AI Z h9 a1 .char cs ∧ CB 10 cs := ⟨_, A9, B7.set 3 _⟩
  have K9 := K7.wr W9 (Or.inr ha1)
  have N9 := Fr.snoc X9 N8 (by omega)
  refine Go.st (fun _ k => XS.aload X9.here hx rfl (hb hby at_46) rfl rfl k) ?_
  show Go p e below _ T9 (mkF m 48 #[.val (.int p0), .val (.int p1), .val (.int p2), .val (.int p3), .val (.long p4), .second, .val (.ref a1), .unset, .unset, .unset, .unset, .unset, .unset, .unset, .unset] [(.ref a1)])
  refine Go.st (fun _ k => XS.iconst X9.here hx rfl (hb hby at_48) k) ?_
  show Go p e below _ T9 (mkF m 49 #[.val (.int p0), .val (.int p1), .val (.int p2), .val (.int p3), .val (.long p4), .second, .val (.ref a1), .unset, .unset, .unset, .unset, .unset, .unset, .unset, .unset] [(.int (4 : Int32)), (.ref a1)])
  refine Go.st (fun _ k => XT.lload X9.here hx rfl (hb hby at_49) rfl k) ?_
  show Go p e below _ T9 (mkF m 51 #[.val (.int p0), .val (.int p1), .val (.int p2), .val (.int p3), .val (.long p4), .second, .val (.ref a1), .unset, .unset, .unset, .unset, .unset, .unset, .unset, .unset] [(.long p4), (.int (4 : Int32)), (.ref a1)])
  refine Go.st (fun _ k => XS.iconst X9.here hx rfl (hb hby at_51) k) ?_
  show Go p e below _ T9 (mkF m 52 #[.val (.int p0), .val (.int p1), .val (.int p2), .val (.int p3), .val (.long p4), .second, .val (.ref a1), .unset, .unset, .unset, .unset, .unset, .unset, .unset, .unset] [(.int (4 : Int32)), (.long p4), (.int (4 : Int32)), (.ref a1)])
  refine Go.callS X9 hx (y := (⟨"com/example/tutti/tutti/cli/CommandLineIsVerbosePinLaw", "fb", "(JI)C"⟩ : MethodName)) hown (mvT hZ (hw _ (List.mem_of_getElem? (i := 1) rfl))) (mvT hZ (hw _ (List.mem_of_getElem? (i := 2) rfl))) (mvT hZ (hw _ (List.mem_of_getElem? (i := 3) rfl))) (mvT hZ (hw _ (List.mem_of_getElem? (i := 4) rfl))) (by decide) (Ctr.back (W := 2) (rmFB l Z a0 hw p4 (4 : Int32) h9 n0) hZ (hw _ (List.mem_of_getElem? (i := 4) rfl)) (hw _ (List.mem_of_getElem? (i := 3) rfl)) (by (try dsimp only [room_1]); (try simp only [List.length_cons, List.length_nil]); omega) (by (try dsimp only [room_1]); (try simp only [List.length_cons, List.length_nil]); omega)) e9 (g := (mkF m 52 #[.val (.int p0), .val (.int p1), .val (.int p2), .val (.int p3), .val (.long p4), .second, .val (.ref a1), .unset, .unset, .unset, .unset, .unset, .unset, .unset, .unset] [(.int (4 : Int32)), (.long p4), (.int (4 : Int32)), (.ref a1)])) rfl (by rw [hml]; rfl) (argsL := [(.long p4), (.int (4 : Int32))]) (rest := [(.int (4 : Int32)), (.ref a1)]) (lenOf pd_30 rfl) rfl (by show 2 * 0 + _ ≤ _; exact Nat.le_of_eq rfl) (hb hby at_52) rfl (by (try dsimp only [room_1]); (try simp only [List.length_cons, List.length_nil]); omega) (by (try dsimp only [room_1]); (try simp only [List.length_cons, List.length_nil]); omega) ?_
  rintro _ T10 L10 X10 ⟨x10, rfl, N10q, e10⟩
  show Go p e below _ T10 (mkF m 55 #[.val (.int p0), .val (.int p1), .val (.int p2), .val (.int p3), .val (.long p4), .second, .val (.ref a1), .unset, .unset, .unset, .unset, .unset, .unset, .unset, .unset] [(.int x10), (.int (4 : Int32)), (.ref a1)])
  have N10 := Fr.app N9 N10q
  refine Go.castore X10 hx hZ e10 A9 (i := 4) rfl (by rw [B9.1]; decide) (g := (mkF m 55 #[.val (.int p0), .val (.int p1), .val (.int p2), .val (.int p3), .val (.long p4), .second, .val (.ref a1), .unset, .unset, .unset, .unset, .unset, .unset, .unset, .unset] [(.int x10), (.int (4 : Int32)), (.ref a1)])) rfl rfl (hb hby at_55) ?_
  rintro T11 h11 X11 e11 W11 A11
  have sW11 := W11.size
  show Go p e below _ T11 (mkF m 56 #[.val (.int p0), .val (.int p1), .val (.int p2), .val (.int p3), .val (.long p4), .second, .val (.ref a1), .unset, .unset, .unset, .unset, .unset, .unset, .unset, .unset] [])
  obtain ⟨cs11, A11, B11⟩ : ∃ cs, AI Z h11 a1 .char cs ∧ CB 10 cs := ⟨_, A11, B9.set 4 _⟩
  have K11 := K9.wr W11 (Or.inr ha1)
  have N11 := Fr.snoc X11 N10 (by omega)
  refine Go.st (fun _ k => XS.aload X11.here hx rfl (hb hby at_56) rfl rfl k) ?_
  show Go p e below _ T11 (mkF m 58 #[.val (.int p0), .val (.int p1), .val (.int p2), .val (.int p3), .val (.long p4), .second, .val (.ref a1), .unset, .unset, .unset, .unset, .unset, .unset, .unset, .unset] [(.ref a1)])
  refine Go.st (fun _ k => XS.iconst X11.here hx rfl (hb hby at_58) k) ?_
  show Go p e below _ T11 (mkF m 59 #[.val (.int p0), .val (.int p1), .val (.int p2), .val (.int p3), .val (.long p4), .second, .val (.ref a1), .unset, .unset, .unset, .unset, .unset, .unset, .unset, .unset] [(.int (5 : Int32)), (.ref a1)])
  refine Go.st (fun _ k => XT.lload X11.here hx rfl (hb hby at_59) rfl k) ?_
  show Go p e below _ T11 (mkF m 61 #[.val (.int p0), .val (.int p1), .val (.int p2), .val (.int p3), .val (.long p4), .second, .val (.ref a1), .unset, .unset, .unset, .unset, .unset, .unset, .unset, .unset] [(.long p4), (.int (5 : Int32)), (.ref a1)])
  refine Go.st (fun _ k => XS.iconst X11.here hx rfl (hb hby at_61) k) ?_
  show Go p e below _ T11 (mkF m 62 #[.val (.int p0), .val (.int p1), .val (.int p2), .val (.int p3), .val (.long p4), .second, .val (.ref a1), .unset, .unset, .unset, .unset, .unset, .unset, .unset, .unset] [(.int (5 : Int32)), (.long p4), (.int (5 : Int32)), (.ref a1)])
  refine Go.callS X11 hx (y := (⟨"com/example/tutti/tutti/cli/CommandLineIsVerbosePinLaw", "fb", "(JI)C"⟩ : MethodName)) hown (mvT hZ (hw _ (List.mem_of_getElem? (i := 1) rfl))) (mvT hZ (hw _ (List.mem_of_getElem? (i := 2) rfl))) (mvT hZ (hw _ (List.mem_of_getElem? (i := 3) rfl))) (mvT hZ (hw _ (List.mem_of_getElem? (i := 4) rfl))) (by decide) (Ctr.back (W := 2) (rmFB l Z a0 hw p4 (5 : Int32) h11 n0) hZ (hw _ (List.mem_of_getElem? (i := 4) rfl)) (hw _ (List.mem_of_getElem? (i := 3) rfl)) (by (try dsimp only [room_1]); (try simp only [List.length_cons, List.length_nil]); omega) (by (try dsimp only [room_1]); (try simp only [List.length_cons, List.length_nil]); omega)) e11 (g := (mkF m 62 #[.val (.int p0), .val (.int p1), .val (.int p2), .val (.int p3), .val (.long p4), .second, .val (.ref a1), .unset, .unset, .unset, .unset, .unset, .unset, .unset, .unset] [(.int (5 : Int32)), (.long p4), (.int (5 : Int32)), (.ref a1)])) rfl (by rw [hml]; rfl) (argsL := [(.long p4), (.int (5 : Int32))]) (rest := [(.int (5 : Int32)), (.ref a1)]) (lenOf pd_30 rfl) rfl (by show 2 * 0 + _ ≤ _; exact Nat.le_of_eq rfl) (hb hby at_62) rfl (by (try dsimp only [room_1]); (try simp only [List.length_cons, List.length_nil]); omega) (by (try dsimp only [room_1]); (try simp only [List.length_cons, List.length_nil]); omega) ?_
  rintro _ T12 L12 X12 ⟨x12, rfl, N12q, e12⟩
  show Go p e below _ T12 (mkF m 65 #[.val (.int p0), .val (.int p1), .val (.int p2), .val (.int p3), .val (.long p4), .second, .val (.ref a1), .unset, .unset, .unset, .unset, .unset, .unset, .unset, .unset] [(.int x12), (.int (5 : Int32)), (.ref a1)])
  have N12 := Fr.app N11 N12q
  refine Go.castore X12 hx hZ e12 A11 (i := 5) rfl (by rw [B11.1]; decide) (g := (mkF m 65 #[.val (.int p0), .val (.int p1), .val (.int p2), .val (.int p3), .val (.long p4), .second, .val (.ref a1), .unset, .unset, .unset, .unset, .unset, .unset, .unset, .unset] [(.int x12), (.int (5 : Int32)), (.ref a1)])) rfl rfl (hb hby at_65) ?_
  rintro T13 h13 X13 e13 W13 A13
  have sW13 := W13.size
  show Go p e below _ T13 (mkF m 66 #[.val (.int p0), .val (.int p1), .val (.int p2), .val (.int p3), .val (.long p4), .second, .val (.ref a1), .unset, .unset, .unset, .unset, .unset, .unset, .unset, .unset] [])
  obtain ⟨cs13, A13, B13⟩ : ∃ cs, AI Z h13 a1 .char cs ∧ CB 10 cs := ⟨_, A13, B11.set 5 _⟩
  have K13 := K11.wr W13 (Or.inr ha1)
  have N13 := Fr.snoc X13 N12 (by omega)
  refine Go.st (fun _ k => XS.aload X13.here hx rfl (hb hby at_66) rfl rfl k) ?_
  show Go p e below _ T13 (mkF m 68 #[.val (.int p0), .val (.int p1), .val (.int p2), .val (.int p3), .val (.long p4), .second, .val (.ref a1), .unset, .unset, .unset, .unset, .unset, .unset, .unset, .unset] [(.ref a1)])
  refine Go.st (fun _ k => XS.bipush X13.here hx rfl (hb hby at_68) k) ?_
  show Go p e below _ T13 (mkF m 70 #[.val (.int p0), .val (.int p1), .val (.int p2), .val (.int p3), .val (.long p4), .second, .val (.ref a1), .unset, .unset, .unset, .unset, .unset, .unset, .unset, .unset] [(.int (6 : Int32)), (.ref a1)])
  refine Go.st (fun _ k => XT.lload X13.here hx rfl (hb hby at_70) rfl k) ?_
  show Go p e below _ T13 (mkF m 72 #[.val (.int p0), .val (.int p1), .val (.int p2), .val (.int p3), .val (.long p4), .second, .val (.ref a1), .unset, .unset, .unset, .unset, .unset, .unset, .unset, .unset] [(.long p4), (.int (6 : Int32)), (.ref a1)])
  refine Go.st (fun _ k => XS.bipush X13.here hx rfl (hb hby at_72) k) ?_
  show Go p e below _ T13 (mkF m 74 #[.val (.int p0), .val (.int p1), .val (.int p2), .val (.int p3), .val (.long p4), .second, .val (.ref a1), .unset, .unset, .unset, .unset, .unset, .unset, .unset, .unset] [(.int (6 : Int32)), (.long p4), (.int (6 : Int32)), (.ref a1)])
  refine Go.callS X13 hx (y := (⟨"com/example/tutti/tutti/cli/CommandLineIsVerbosePinLaw", "fb", "(JI)C"⟩ : MethodName)) hown (mvT hZ (hw _ (List.mem_of_getElem? (i := 1) rfl))) (mvT hZ (hw _ (List.mem_of_getElem? (i := 2) rfl))) (mvT hZ (hw _ (List.mem_of_getElem? (i := 3) rfl))) (mvT hZ (hw _ (List.mem_of_getElem? (i := 4) rfl))) (by decide) (Ctr.back (W := 2) (rmFB l Z a0 hw p4 (6 : Int32) h13 n0) hZ (hw _ (List.mem_of_getElem? (i := 4) rfl)) (hw _ (List.mem_of_getElem? (i := 3) rfl)) (by (try dsimp only [room_1]); (try simp only [List.length_cons, List.length_nil]); omega) (by (try dsimp only [room_1]); (try simp only [List.length_cons, List.length_nil]); omega)) e13 (g := (mkF m 74 #[.val (.int p0), .val (.int p1), .val (.int p2), .val (.int p3), .val (.long p4), .second, .val (.ref a1), .unset, .unset, .unset, .unset, .unset, .unset, .unset, .unset] [(.int (6 : Int32)), (.long p4), (.int (6 : Int32)), (.ref a1)])) rfl (by rw [hml]; rfl) (argsL := [(.long p4), (.int (6 : Int32))]) (rest := [(.int (6 : Int32)), (.ref a1)]) (lenOf pd_30 rfl) rfl (by show 2 * 0 + _ ≤ _; exact Nat.le_of_eq rfl) (hb hby at_74) rfl (by (try dsimp only [room_1]); (try simp only [List.length_cons, List.length_nil]); omega) (by (try dsimp only [room_1]); (try simp only [List.length_cons, List.length_nil]); omega) ?_
  rintro _ T14 L14 X14 ⟨x14, rfl, N14q, e14⟩
  show Go p e below _ T14 (mkF m 77 #[.val (.int p0), .val (.int p1), .val (.int p2), .val (.int p3), .val (.long p4), .second, .val (.ref a1), .unset, .unset, .unset, .unset, .unset, .unset, .unset, .unset] [(.int x14), (.int (6 : Int32)), (.ref a1)])
  have N14 := Fr.app N13 N14q
  refine Go.castore X14 hx hZ e14 A13 (i := 6) rfl (by rw [B13.1]; decide) (g := (mkF m 77 #[.val (.int p0), .val (.int p1), .val (.int p2), .val (.int p3), .val (.long p4), .second, .val (.ref a1), .unset, .unset, .unset, .unset, .unset, .unset, .unset, .unset] [(.int x14), (.int (6 : Int32)), (.ref a1)])) rfl rfl (hb hby at_77) ?_
  rintro T15 h15 X15 e15 W15 A15
  have sW15 := W15.size
  show Go p e below _ T15 (mkF m 78 #[.val (.int p0), .val (.int p1), .val (.int p2), .val (.int p3), .val (.long p4), .second, .val (.ref a1), .unset, .unset, .unset, .unset, .unset, .unset, .unset, .unset] [])
  obtain ⟨cs15, A15, B15⟩ : ∃ cs, AI Z h15 a1 .char cs ∧ CB 10 cs := ⟨_, A15, B13.set 6 _⟩
  have K15 := K13.wr W15 (Or.inr ha1)
  have N15 := Fr.snoc X15 N14 (by omega)
  refine Go.st (fun _ k => XS.aload X15.here hx rfl (hb hby at_78) rfl rfl k) ?_
  show Go p e below _ T15 (mkF m 80 #[.val (.int p0), .val (.int p1), .val (.int p2), .val (.int p3), .val (.long p4), .second, .val (.ref a1), .unset, .unset, .unset, .unset, .unset, .unset, .unset, .unset] [(.ref a1)])
  refine Go.st (fun _ k => XS.bipush X15.here hx rfl (hb hby at_80) k) ?_
  show Go p e below _ T15 (mkF m 82 #[.val (.int p0), .val (.int p1), .val (.int p2), .val (.int p3), .val (.long p4), .second, .val (.ref a1), .unset, .unset, .unset, .unset, .unset, .unset, .unset, .unset] [(.int (7 : Int32)), (.ref a1)])
  refine Go.st (fun _ k => XT.lload X15.here hx rfl (hb hby at_82) rfl k) ?_
  show Go p e below _ T15 (mkF m 84 #[.val (.int p0), .val (.int p1), .val (.int p2), .val (.int p3), .val (.long p4), .second, .val (.ref a1), .unset, .unset, .unset, .unset, .unset, .unset, .unset, .unset] [(.long p4), (.int (7 : Int32)), (.ref a1)])
  refine Go.st (fun _ k => XS.bipush X15.here hx rfl (hb hby at_84) k) ?_
  show Go p e below _ T15 (mkF m 86 #[.val (.int p0), .val (.int p1), .val (.int p2), .val (.int p3), .val (.long p4), .second, .val (.ref a1), .unset, .unset, .unset, .unset, .unset, .unset, .unset, .unset] [(.int (7 : Int32)), (.long p4), (.int (7 : Int32)), (.ref a1)])
  refine Go.callS X15 hx (y := (⟨"com/example/tutti/tutti/cli/CommandLineIsVerbosePinLaw", "fb", "(JI)C"⟩ : MethodName)) hown (mvT hZ (hw _ (List.mem_of_getElem? (i := 1) rfl))) (mvT hZ (hw _ (List.mem_of_getElem? (i := 2) rfl))) (mvT hZ (hw _ (List.mem_of_getElem? (i := 3) rfl))) (mvT hZ (hw _ (List.mem_of_getElem? (i := 4) rfl))) (by decide) (Ctr.back (W := 2) (rmFB l Z a0 hw p4 (7 : Int32) h15 n0) hZ (hw _ (List.mem_of_getElem? (i := 4) rfl)) (hw _ (List.mem_of_getElem? (i := 3) rfl)) (by (try dsimp only [room_1]); (try simp only [List.length_cons, List.length_nil]); omega) (by (try dsimp only [room_1]); (try simp only [List.length_cons, List.length_nil]); omega)) e15 (g := (mkF m 86 #[.val (.int p0), .val (.int p1), .val (.int p2), .val (.int p3), .val (.long p4), .second, .val (.ref a1), .unset, .unset, .unset, .unset, .unset, .unset, .unset, .unset] [(.int (7 : Int32)), (.long p4), (.int (7 : Int32)), (.ref a1)])) rfl (by rw [hml]; rfl) (argsL := [(.long p4), (.int (7 : Int32))]) (rest := [(.int (7 : Int32)), (.ref a1)]) (lenOf pd_30 rfl) rfl (by show 2 * 0 + _ ≤ _; exact Nat.le_of_eq rfl) (hb hby at_86) rfl (by (try dsimp only [room_1]); (try simp only [List.length_cons, List.length_nil]); omega) (by (try dsimp only [room_1]); (try simp only [List.length_cons, List.length_nil]); omega) ?_
  rintro _ T16 L16 X16 ⟨x16, rfl, N16q, e16⟩
  show Go p e below _ T16 (mkF m 89 #[.val (.int p0), .val (.int p1), .val (.int p2), .val (.int p3), .val (.long p4), .second, .val (.ref a1), .unset, .unset, .unset, .unset, .unset, .unset, .unset, .unset] [(.int x16), (.int (7 : Int32)), (.ref a1)])
  have N16 := Fr.app N15 N16q
  refine Go.castore X16 hx hZ e16 A15 (i := 7) rfl (by rw [B15.1]; decide) (g := (mkF m 89 #[.val (.int p0), .val (.int p1), .val (.int p2), .val (.int p3), .val (.long p4), .second, .val (.ref a1), .unset, .unset, .unset, .unset, .unset, .unset, .unset, .unset] [(.int x16), (.int (7 : Int32)), (.ref a1)])) rfl rfl (hb hby at_89) ?_
  rintro T17 h17 X17 e17 W17 A17
  have sW17 := W17.size
  show Go p e below _ T17 (mkF m 90 #[.val (.int p0), .val (.int p1), .val (.int p2), .val (.int p3), .val (.long p4), .second, .val (.ref a1), .unset, .unset, .unset, .unset, .unset, .unset, .unset, .unset] [])
  obtain ⟨cs17, A17, B17⟩ : ∃ cs, AI Z h17 a1 .char cs ∧ CB 10 cs := ⟨_, A17, B15.set 7 _⟩
  have K17 := K15.wr W17 (Or.inr ha1)
  have N17 := Fr.snoc X17 N16 (by omega)
  refine Go.st (fun _ k => XS.aload X17.here hx rfl (hb hby at_90) rfl rfl k) ?_
  show Go p e below _ T17 (mkF m 92 #[.val (.int p0), .val (.int p1), .val (.int p2), .val (.int p3), .val (.long p4), .second, .val (.ref a1), .unset, .unset, .unset, .unset, .unset, .unset, .unset, .unset] [(.ref a1)])
  refine Go.st (fun _ k => XS.bipush X17.here hx rfl (hb hby at_92) k) ?_
  show Go p e below _ T17 (mkF m 94 #[.val (.int p0), .val (.int p1), .val (.int p2), .val (.int p3), .val (.long p4), .second, .val (.ref a1), .unset, .unset, .unset, .unset, .unset, .unset, .unset, .unset] [(.int (8 : Int32)), (.ref a1)])
  refine Go.st (fun _ k => XT.lload X17.here hx rfl (hb hby at_94) rfl k) ?_
  show Go p e below _ T17 (mkF m 96 #[.val (.int p0), .val (.int p1), .val (.int p2), .val (.int p3), .val (.long p4), .second, .val (.ref a1), .unset, .unset, .unset, .unset, .unset, .unset, .unset, .unset] [(.long p4), (.int (8 : Int32)), (.ref a1)])
  refine Go.st (fun _ k => XS.bipush X17.here hx rfl (hb hby at_96) k) ?_
  show Go p e below _ T17 (mkF m 98 #[.val (.int p0), .val (.int p1), .val (.int p2), .val (.int p3), .val (.long p4), .second, .val (.ref a1), .unset, .unset, .unset, .unset, .unset, .unset, .unset, .unset] [(.int (8 : Int32)), (.long p4), (.int (8 : Int32)), (.ref a1)])
  refine Go.callS X17 hx (y := (⟨"com/example/tutti/tutti/cli/CommandLineIsVerbosePinLaw", "fb", "(JI)C"⟩ : MethodName)) hown (mvT hZ (hw _ (List.mem_of_getElem? (i := 1) rfl))) (mvT hZ (hw _ (List.mem_of_getElem? (i := 2) rfl))) (mvT hZ (hw _ (List.mem_of_getElem? (i := 3) rfl))) (mvT hZ (hw _ (List.mem_of_getElem? (i := 4) rfl))) (by decide) (Ctr.back (W := 2) (rmFB l Z a0 hw p4 (8 : Int32) h17 n0) hZ (hw _ (List.mem_of_getElem? (i := 4) rfl)) (hw _ (List.mem_of_getElem? (i := 3) rfl)) (by (try dsimp only [room_1]); (try simp only [List.length_cons, List.length_nil]); omega) (by (try dsimp only [room_1]); (try simp only [List.length_cons, List.length_nil]); omega)) e17 (g := (mkF m 98 #[.val (.int p0), .val (.int p1), .val (.int p2), .val (.int p3), .val (.long p4), .second, .val (.ref a1), .unset, .unset, .unset, .unset, .unset, .unset, .unset, .unset] [(.int (8 : Int32)), (.long p4), (.int (8 : Int32)), (.ref a1)])) rfl (by rw [hml]; rfl) (argsL := [(.long p4), (.int (8 : Int32))]) (rest := [(.int (8 : Int32)), (.ref a1)]) (lenOf pd_30 rfl) rfl (by show 2 * 0 + _ ≤ _; exact Nat.le_of_eq rfl) (hb hby at_98) rfl (by (try dsimp only [room_1]); (try simp only [List.length_cons, List.length_nil]); omega) (by (try dsimp only [room_1]); (try simp only [List.length_cons, List.length_nil]); omega) ?_
  rintro _ T18 L18 X18 ⟨x18, rfl, N18q, e18⟩
  show Go p e below _ T18 (mkF m 101 #[.val (.int p0), .val (.int p1), .val (.int p2), .val (.int p3), .val (.long p4), .second, .val (.ref a1), .unset, .unset, .unset, .unset, .unset, .unset, .unset, .unset] [(.int x18), (.int (8 : Int32)), (.ref a1)])
  have N18 := Fr.app N17 N18q
  refine Go.castore X18 hx hZ e18 A17 (i := 8) rfl (by rw [B17.1]; decide) (g := (mkF m 101 #[.val (.int p0), .val (.int p1), .val (.int p2), .val (.int p3), .val (.long p4), .second, .val (.ref a1), .unset, .unset, .unset, .unset, .unset, .unset, .unset, .unset] [(.int x18), (.int (8 : Int32)), (.ref a1)])) rfl rfl (hb hby at_101) ?_
  rintro T19 h19 X19 e19 W19 A19
  have sW19 := W19.size
  show Go p e below _ T19 (mkF m 102 #[.val (.int p0), .val (.int p1), .val (.int p2), .val (.int p3), .val (.long p4), .second, .val (.ref a1), .unset, .unset, .unset, .unset, .unset, .unset, .unset, .unset] [])
  obtain ⟨cs19, A19, B19⟩ : ∃ cs, AI Z h19 a1 .char cs ∧ CB 10 cs := ⟨_, A19, B17.set 8 _⟩
  have K19 := K17.wr W19 (Or.inr ha1)
  have N19 := Fr.snoc X19 N18 (by omega)
  refine Go.st (fun _ k => XS.aload X19.here hx rfl (hb hby at_102) rfl rfl k) ?_
  show Go p e below _ T19 (mkF m 104 #[.val (.int p0), .val (.int p1), .val (.int p2), .val (.int p3), .val (.long p4), .second, .val (.ref a1), .unset, .unset, .unset, .unset, .unset, .unset, .unset, .unset] [(.ref a1)])
  refine Go.st (fun _ k => XS.bipush X19.here hx rfl (hb hby at_104) k) ?_
  show Go p e below _ T19 (mkF m 106 #[.val (.int p0), .val (.int p1), .val (.int p2), .val (.int p3), .val (.long p4), .second, .val (.ref a1), .unset, .unset, .unset, .unset, .unset, .unset, .unset, .unset] [(.int (9 : Int32)), (.ref a1)])
  refine Go.st (fun _ k => XT.lload X19.here hx rfl (hb hby at_106) rfl k) ?_
  show Go p e below _ T19 (mkF m 108 #[.val (.int p0), .val (.int p1), .val (.int p2), .val (.int p3), .val (.long p4), .second, .val (.ref a1), .unset, .unset, .unset, .unset, .unset, .unset, .unset, .unset] [(.long p4), (.int (9 : Int32)), (.ref a1)])
  refine Go.st (fun _ k => XS.bipush X19.here hx rfl (hb hby at_108) k) ?_
  show Go p e below _ T19 (mkF m 110 #[.val (.int p0), .val (.int p1), .val (.int p2), .val (.int p3), .val (.long p4), .second, .val (.ref a1), .unset, .unset, .unset, .unset, .unset, .unset, .unset, .unset] [(.int (9 : Int32)), (.long p4), (.int (9 : Int32)), (.ref a1)])
  refine Go.callS X19 hx (y := (⟨"com/example/tutti/tutti/cli/CommandLineIsVerbosePinLaw", "fb", "(JI)C"⟩ : MethodName)) hown (mvT hZ (hw _ (List.mem_of_getElem? (i := 1) rfl))) (mvT hZ (hw _ (List.mem_of_getElem? (i := 2) rfl))) (mvT hZ (hw _ (List.mem_of_getElem? (i := 3) rfl))) (mvT hZ (hw _ (List.mem_of_getElem? (i := 4) rfl))) (by decide) (Ctr.back (W := 2) (rmFB l Z a0 hw p4 (9 : Int32) h19 n0) hZ (hw _ (List.mem_of_getElem? (i := 4) rfl)) (hw _ (List.mem_of_getElem? (i := 3) rfl)) (by (try dsimp only [room_1]); (try simp only [List.length_cons, List.length_nil]); omega) (by (try dsimp only [room_1]); (try simp only [List.length_cons, List.length_nil]); omega)) e19 (g := (mkF m 110 #[.val (.int p0), .val (.int p1), .val (.int p2), .val (.int p3), .val (.long p4), .second, .val (.ref a1), .unset, .unset, .unset, .unset, .unset, .unset, .unset, .unset] [(.int (9 : Int32)), (.long p4), (.int (9 : Int32)), (.ref a1)])) rfl (by rw [hml]; rfl) (argsL := [(.long p4), (.int (9 : Int32))]) (rest := [(.int (9 : Int32)), (.ref a1)]) (lenOf pd_30 rfl) rfl (by show 2 * 0 + _ ≤ _; exact Nat.le_of_eq rfl) (hb hby at_110) rfl (by (try dsimp only [room_1]); (try simp only [List.length_cons, List.length_nil]); omega) (by (try dsimp only [room_1]); (try simp only [List.length_cons, List.length_nil]); omega) ?_
  rintro _ T20 L20 X20 ⟨x20, rfl, N20q, e20⟩
  show Go p e below _ T20 (mkF m 113 #[.val (.int p0), .val (.int p1), .val (.int p2), .val (.int p3), .val (.long p4), .second, .val (.ref a1), .unset, .unset, .unset, .unset, .unset, .unset, .unset, .unset] [(.int x20), (.int (9 : Int32)), (.ref a1)])
  have N20 := Fr.app N19 N20q
  refine Go.castore X20 hx hZ e20 A19 (i := 9) rfl (by rw [B19.1]; decide) (g := (mkF m 113 #[.val (.int p0), .val (.int p1), .val (.int p2), .val (.int p3), .val (.long p4), .second, .val (.ref a1), .unset, .unset, .unset, .unset, .unset, .unset, .unset, .unset] [(.int x20), (.int (9 : Int32)), (.ref a1)])) rfl rfl (hb hby at_113) ?_
  rintro T21 h21 X21 e21 W21 A21
  have sW21 := W21.size
  show Go p e below _ T21 (mkF m 114 #[.val (.int p0), .val (.int p1), .val (.int p2), .val (.int p3), .val (.long p4), .second, .val (.ref a1), .unset, .unset, .unset, .unset, .unset, .unset, .unset, .unset] [])
  obtain ⟨cs21, A21, B21⟩ : ∃ cs, AI Z h21 a1 .char cs ∧ CB 10 cs := ⟨_, A21, B19.set 9 _⟩
  have K21 := K19.wr W21 (Or.inr ha1)
  have N21 := Fr.snoc X21 N20 (by omega)
  refine Go.st (fun _ k => XS.iloadN X21.here hx rfl (hb hby at_114) rfl k) ?_
  show Go p e below _ T21 (mkF m 115 #[.val (.int p0), .val (.int p1), .val (.int p2), .val (.int p3), .val (.long p4), .second, .val (.ref a1), .unset, .unset, .unset, .unset, .unset, .unset, .unset, .unset] [(.int p0)])
  refine Go.st (fun _ k => XS.iconst X21.here hx rfl (hb hby at_115) k) ?_
  show Go p e below _ T21 (mkF m 116 #[.val (.int p0), .val (.int p1), .val (.int p2), .val (.int p3), .val (.long p4), .second, .val (.ref a1), .unset, .unset, .unset, .unset, .unset, .unset, .unset, .unset] [(.int (3 : Int32)), (.int p0)])
  refine Go.st (fun _ k => XS.iand X21.here hx rfl (hb hby at_116) rfl k) ?_
  show Go p e below _ T21 (mkF m 117 #[.val (.int p0), .val (.int p1), .val (.int p2), .val (.int p3), .val (.long p4), .second, .val (.ref a1), .unset, .unset, .unset, .unset, .unset, .unset, .unset, .unset] [(.int (p0 &&& (3 : Int32)))])
  refine Go.st (fun _ k => XS.istore X21.here hx rfl (hb hby at_117) rfl (l' := #[.val (.int p0), .val (.int p1), .val (.int p2), .val (.int p3), .val (.long p4), .second, .val (.ref a1), .val (.int (p0 &&& (3 : Int32))), .unset, .unset, .unset, .unset, .unset, .unset, .unset]) rfl k) ?_
  show Go p e below _ T21 (mkF m 119 #[.val (.int p0), .val (.int p1), .val (.int p2), .val (.int p3), .val (.long p4), .second, .val (.ref a1), .val (.int (p0 &&& (3 : Int32))), .unset, .unset, .unset, .unset, .unset, .unset, .unset] [])
  refine Go.st (fun _ k => XS.iload X21.here hx rfl (hb hby at_119) rfl k) ?_
  show Go p e below _ T21 (mkF m 121 #[.val (.int p0), .val (.int p1), .val (.int p2), .val (.int p3), .val (.long p4), .second, .val (.ref a1), .val (.int (p0 &&& (3 : Int32))), .unset, .unset, .unset, .unset, .unset, .unset, .unset] [(.int (p0 &&& (3 : Int32)))])
  by_cases t0 : p0 &&& (3 : Int32) = 0
  · skip
    refine Go.st (fun _ k => XS.ifNo X21.here hx rfl (hb hby at_121) rfl (XT.i0_ne_f t0) k) ?_
    show Go p e below _ T21 (mkF m 124 #[.val (.int p0), .val (.int p1), .val (.int p2), .val (.int p3), .val (.long p4), .second, .val (.ref a1), .val (.int (p0 &&& (3 : Int32))), .unset, .unset, .unset, .unset, .unset, .unset, .unset] [])
    refine Go.st (fun _ k => XS.aload X21.here hx rfl (hb hby at_124) rfl rfl k) ?_
    show Go p e below _ T21 (mkF m 126 #[.val (.int p0), .val (.int p1), .val (.int p2), .val (.int p3), .val (.long p4), .second, .val (.ref a1), .val (.int (p0 &&& (3 : Int32))), .unset, .unset, .unset, .unset, .unset, .unset, .unset] [(.ref a1)])
    refine Go.st (fun _ k => XS.iconst X21.here hx rfl (hb hby at_126) k) ?_
    show Go p e below _ T21 (mkF m 127 #[.val (.int p0), .val (.int p1), .val (.int p2), .val (.int p3), .val (.long p4), .second, .val (.ref a1), .val (.int (p0 &&& (3 : Int32))), .unset, .unset, .unset, .unset, .unset, .unset, .unset] [(.int (0 : Int32)), (.ref a1)])
    refine Go.st (fun _ k => XS.bipush X21.here hx rfl (hb hby at_127) k) ?_
    show Go p e below _ T21 (mkF m 129 #[.val (.int p0), .val (.int p1), .val (.int p2), .val (.int p3), .val (.long p4), .second, .val (.ref a1), .val (.int (p0 &&& (3 : Int32))), .unset, .unset, .unset, .unset, .unset, .unset, .unset] [(.int (45 : Int32)), (.int (0 : Int32)), (.ref a1)])
    refine Go.castore X21 hx hZ e21 A21 (i := 0) rfl (by rw [B21.1]; decide) (g := (mkF m 129 #[.val (.int p0), .val (.int p1), .val (.int p2), .val (.int p3), .val (.long p4), .second, .val (.ref a1), .val (.int (p0 &&& (3 : Int32))), .unset, .unset, .unset, .unset, .unset, .unset, .unset] [(.int (45 : Int32)), (.int (0 : Int32)), (.ref a1)])) rfl rfl (hb hby at_129) ?_
    rintro T41 h41 X41 e41 W41 A41
    have sW41 := W41.size
    show Go p e below _ T41 (mkF m 130 #[.val (.int p0), .val (.int p1), .val (.int p2), .val (.int p3), .val (.long p4), .second, .val (.ref a1), .val (.int (p0 &&& (3 : Int32))), .unset, .unset, .unset, .unset, .unset, .unset, .unset] [])
    obtain ⟨cs41, A41, B41⟩ : ∃ cs, AI Z h41 a1 .char cs ∧ CB 10 cs := ⟨_, A41, B21.set 0 _⟩
    have K41 := K21.wr W41 (Or.inr ha1)
    have N41 := Fr.snoc X41 N21 (by omega)
    refine Go.st (fun _ k => XS.aload X41.here hx rfl (hb hby at_130) rfl rfl k) ?_
    show Go p e below _ T41 (mkF m 132 #[.val (.int p0), .val (.int p1), .val (.int p2), .val (.int p3), .val (.long p4), .second, .val (.ref a1), .val (.int (p0 &&& (3 : Int32))), .unset, .unset, .unset, .unset, .unset, .unset, .unset] [(.ref a1)])
    refine Go.st (fun _ k => XS.iconst X41.here hx rfl (hb hby at_132) k) ?_
    show Go p e below _ T41 (mkF m 133 #[.val (.int p0), .val (.int p1), .val (.int p2), .val (.int p3), .val (.long p4), .second, .val (.ref a1), .val (.int (p0 &&& (3 : Int32))), .unset, .unset, .unset, .unset, .unset, .unset, .unset] [(.int (1 : Int32)), (.ref a1)])
    refine Go.st (fun _ k => XS.bipush X41.here hx rfl (hb hby at_133) k) ?_
    show Go p e below _ T41 (mkF m 135 #[.val (.int p0), .val (.int p1), .val (.int p2), .val (.int p3), .val (.long p4), .second, .val (.ref a1), .val (.int (p0 &&& (3 : Int32))), .unset, .unset, .unset, .unset, .unset, .unset, .unset] [(.int (118 : Int32)), (.int (1 : Int32)), (.ref a1)])
    refine Go.castore X41 hx hZ e41 A41 (i := 1) rfl (by rw [B41.1]; decide) (g := (mkF m 135 #[.val (.int p0), .val (.int p1), .val (.int p2), .val (.int p3), .val (.long p4), .second, .val (.ref a1), .val (.int (p0 &&& (3 : Int32))), .unset, .unset, .unset, .unset, .unset, .unset, .unset] [(.int (118 : Int32)), (.int (1 : Int32)), (.ref a1)])) rfl rfl (hb hby at_135) ?_
    rintro T42 h42 X42 e42 W42 A42
    have sW42 := W42.size
    show Go p e below _ T42 (mkF m 136 #[.val (.int p0), .val (.int p1), .val (.int p2), .val (.int p3), .val (.long p4), .second, .val (.ref a1), .val (.int (p0 &&& (3 : Int32))), .unset, .unset, .unset, .unset, .unset, .unset, .unset] [])
    obtain ⟨cs42, A42, B42⟩ : ∃ cs, AI Z h42 a1 .char cs ∧ CB 10 cs := ⟨_, A42, B41.set 1 _⟩
    have K42 := K41.wr W42 (Or.inr ha1)
    have N42 := Fr.snoc X42 N41 (by omega)
    refine Go.st (fun _ k => XS.iconst X42.here hx rfl (hb hby at_136) k) ?_
    show Go p e below _ T42 (mkF m 137 #[.val (.int p0), .val (.int p1), .val (.int p2), .val (.int p3), .val (.long p4), .second, .val (.ref a1), .val (.int (p0 &&& (3 : Int32))), .unset, .unset, .unset, .unset, .unset, .unset, .unset] [(.int (2 : Int32))])
    refine Go.st (fun _ k => XS.istore X42.here hx rfl (hb hby at_137) rfl (l' := #[.val (.int p0), .val (.int p1), .val (.int p2), .val (.int p3), .val (.long p4), .second, .val (.ref a1), .val (.int (p0 &&& (3 : Int32))), .val (.int (2 : Int32)), .unset, .unset, .unset, .unset, .unset, .unset]) rfl k) ?_
    show Go p e below _ T42 (mkF m 139 #[.val (.int p0), .val (.int p1), .val (.int p2), .val (.int p3), .val (.long p4), .second, .val (.ref a1), .val (.int (p0 &&& (3 : Int32))), .val (.int (2 : Int32)), .unset, .unset, .unset, .unset, .unset, .unset] [])
    refine Go.st (fun _ k => XS.goto X42.here hx rfl (pc0 := 139) (pc' := 279) rfl (hb hby at_139) (by decide) (by decide) k) ?_
    show Go p e below _ T42 (mkF m 279 #[.val (.int p0), .val (.int p1), .val (.int p2), .val (.int p3), .val (.long p4), .second, .val (.ref a1), .val (.int (p0 &&& (3 : Int32))), .val (.int (2 : Int32)), .unset, .unset, .unset, .unset, .unset, .unset] [])
    exact J1 _ _ (by decide) T42 h42 _ _ X42 e42 A42 B42 K42 N42
  refine Go.st (fun _ k => XS.ifYes X21.here hx rfl (pc0 := 121) (pc' := 142) rfl (hb hby at_121) rfl (XT.i0_ne_t t0) (by decide) (by decide) k) ?_
  show Go p e below _ T21 (mkF m 142 #[.val (.int p0), .val (.int p1), .val (.int p2), .val (.int p3), .val (.long p4), .second, .val (.ref a1), .val (.int (p0 &&& (3 : Int32))), .unset, .unset, .unset, .unset, .unset, .unset, .unset] [])
  refine Go.st (fun _ k => XS.iload X21.here hx rfl (hb hby at_142) rfl k) ?_
  show Go p e below _ T21 (mkF m 144 #[.val (.int p0), .val (.int p1), .val (.int p2), .val (.int p3), .val (.long p4), .second, .val (.ref a1), .val (.int (p0 &&& (3 : Int32))), .unset, .unset, .unset, .unset, .unset, .unset, .unset] [(.int (p0 &&& (3 : Int32)))])
  refine Go.st (fun _ k => XS.iconst X21.here hx rfl (hb hby at_144) k) ?_
  show Go p e below _ T21 (mkF m 145 #[.val (.int p0), .val (.int p1), .val (.int p2), .val (.int p3), .val (.long p4), .second, .val (.ref a1), .val (.int (p0 &&& (3 : Int32))), .unset, .unset, .unset, .unset, .unset, .unset, .unset] [(.int (1 : Int32)), (.int (p0 &&& (3 : Int32)))])
  by_cases t1 : p0 &&& (3 : Int32) = 1
  · skip
    refine Go.st (fun _ k => XS.icmpNo X21.here hx rfl (hb hby at_145) rfl (XT.ii_ne_f t1) k) ?_
    show Go p e below _ T21 (mkF m 148 #[.val (.int p0), .val (.int p1), .val (.int p2), .val (.int p3), .val (.long p4), .second, .val (.ref a1), .val (.int (p0 &&& (3 : Int32))), .unset, .unset, .unset, .unset, .unset, .unset, .unset] [])
    refine Go.st (fun _ k => XS.aload X21.here hx rfl (hb hby at_148) rfl rfl k) ?_
    show Go p e below _ T21 (mkF m 150 #[.val (.int p0), .val (.int p1), .val (.int p2), .val (.int p3), .val (.long p4), .second, .val (.ref a1), .val (.int (p0 &&& (3 : Int32))), .unset, .unset, .unset, .unset, .unset, .unset, .unset] [(.ref a1)])
    refine Go.st (fun _ k => XS.iconst X21.here hx rfl (hb hby at_150) k) ?_
    show Go p e below _ T21 (mkF m 151 #[.val (.int p0), .val (.int p1), .val (.int p2), .val (.int p3), .val (.long p4), .second, .val (.ref a1), .val (.int (p0 &&& (3 : Int32))), .unset, .unset, .unset, .unset, .unset, .unset, .unset] [(.int (0 : Int32)), (.ref a1)])
    refine Go.st (fun _ k => XS.bipush X21.here hx rfl (hb hby at_151) k) ?_
    show Go p e below _ T21 (mkF m 153 #[.val (.int p0), .val (.int p1), .val (.int p2), .val (.int p3), .val (.long p4), .second, .val (.ref a1), .val (.int (p0 &&& (3 : Int32))), .unset, .unset, .unset, .unset, .unset, .unset, .unset] [(.int (45 : Int32)), (.int (0 : Int32)), (.ref a1)])
    refine Go.castore X21 hx hZ e21 A21 (i := 0) rfl (by rw [B21.1]; decide) (g := (mkF m 153 #[.val (.int p0), .val (.int p1), .val (.int p2), .val (.int p3), .val (.long p4), .second, .val (.ref a1), .val (.int (p0 &&& (3 : Int32))), .unset, .unset, .unset, .unset, .unset, .unset, .unset] [(.int (45 : Int32)), (.int (0 : Int32)), (.ref a1)])) rfl rfl (hb hby at_153) ?_
    rintro T43 h43 X43 e43 W43 A43
    have sW43 := W43.size
    show Go p e below _ T43 (mkF m 154 #[.val (.int p0), .val (.int p1), .val (.int p2), .val (.int p3), .val (.long p4), .second, .val (.ref a1), .val (.int (p0 &&& (3 : Int32))), .unset, .unset, .unset, .unset, .unset, .unset, .unset] [])
    obtain ⟨cs43, A43, B43⟩ : ∃ cs, AI Z h43 a1 .char cs ∧ CB 10 cs := ⟨_, A43, B21.set 0 _⟩
    have K43 := K21.wr W43 (Or.inr ha1)
    have N43 := Fr.snoc X43 N21 (by omega)
    refine Go.st (fun _ k => XS.aload X43.here hx rfl (hb hby at_154) rfl rfl k) ?_
    show Go p e below _ T43 (mkF m 156 #[.val (.int p0), .val (.int p1), .val (.int p2), .val (.int p3), .val (.long p4), .second, .val (.ref a1), .val (.int (p0 &&& (3 : Int32))), .unset, .unset, .unset, .unset, .unset, .unset, .unset] [(.ref a1)])
    refine Go.st (fun _ k => XS.iconst X43.here hx rfl (hb hby at_156) k) ?_
    show Go p e below _ T43 (mkF m 157 #[.val (.int p0), .val (.int p1), .val (.int p2), .val (.int p3), .val (.long p4), .second, .val (.ref a1), .val (.int (p0 &&& (3 : Int32))), .unset, .unset, .unset, .unset, .unset, .unset, .unset] [(.int (1 : Int32)), (.ref a1)])
    refine Go.st (fun _ k => XS.bipush X43.here hx rfl (hb hby at_157) k) ?_
    show Go p e below _ T43 (mkF m 159 #[.val (.int p0), .val (.int p1), .val (.int p2), .val (.int p3), .val (.long p4), .second, .val (.ref a1), .val (.int (p0 &&& (3 : Int32))), .unset, .unset, .unset, .unset, .unset, .unset, .unset] [(.int (45 : Int32)), (.int (1 : Int32)), (.ref a1)])
    refine Go.castore X43 hx hZ e43 A43 (i := 1) rfl (by rw [B43.1]; decide) (g := (mkF m 159 #[.val (.int p0), .val (.int p1), .val (.int p2), .val (.int p3), .val (.long p4), .second, .val (.ref a1), .val (.int (p0 &&& (3 : Int32))), .unset, .unset, .unset, .unset, .unset, .unset, .unset] [(.int (45 : Int32)), (.int (1 : Int32)), (.ref a1)])) rfl rfl (hb hby at_159) ?_
    rintro T44 h44 X44 e44 W44 A44
    have sW44 := W44.size
    show Go p e below _ T44 (mkF m 160 #[.val (.int p0), .val (.int p1), .val (.int p2), .val (.int p3), .val (.long p4), .second, .val (.ref a1), .val (.int (p0 &&& (3 : Int32))), .unset, .unset, .unset, .unset, .unset, .unset, .unset] [])
    obtain ⟨cs44, A44, B44⟩ : ∃ cs, AI Z h44 a1 .char cs ∧ CB 10 cs := ⟨_, A44, B43.set 1 _⟩
    have K44 := K43.wr W44 (Or.inr ha1)
    have N44 := Fr.snoc X44 N43 (by omega)
    refine Go.st (fun _ k => XS.aload X44.here hx rfl (hb hby at_160) rfl rfl k) ?_
    show Go p e below _ T44 (mkF m 162 #[.val (.int p0), .val (.int p1), .val (.int p2), .val (.int p3), .val (.long p4), .second, .val (.ref a1), .val (.int (p0 &&& (3 : Int32))), .unset, .unset, .unset, .unset, .unset, .unset, .unset] [(.ref a1)])
    refine Go.st (fun _ k => XS.iconst X44.here hx rfl (hb hby at_162) k) ?_
    show Go p e below _ T44 (mkF m 163 #[.val (.int p0), .val (.int p1), .val (.int p2), .val (.int p3), .val (.long p4), .second, .val (.ref a1), .val (.int (p0 &&& (3 : Int32))), .unset, .unset, .unset, .unset, .unset, .unset, .unset] [(.int (2 : Int32)), (.ref a1)])
    refine Go.st (fun _ k => XS.bipush X44.here hx rfl (hb hby at_163) k) ?_
    show Go p e below _ T44 (mkF m 165 #[.val (.int p0), .val (.int p1), .val (.int p2), .val (.int p3), .val (.long p4), .second, .val (.ref a1), .val (.int (p0 &&& (3 : Int32))), .unset, .unset, .unset, .unset, .unset, .unset, .unset] [(.int (118 : Int32)), (.int (2 : Int32)), (.ref a1)])
    refine Go.castore X44 hx hZ e44 A44 (i := 2) rfl (by rw [B44.1]; decide) (g := (mkF m 165 #[.val (.int p0), .val (.int p1), .val (.int p2), .val (.int p3), .val (.long p4), .second, .val (.ref a1), .val (.int (p0 &&& (3 : Int32))), .unset, .unset, .unset, .unset, .unset, .unset, .unset] [(.int (118 : Int32)), (.int (2 : Int32)), (.ref a1)])) rfl rfl (hb hby at_165) ?_
    rintro T45 h45 X45 e45 W45 A45
    have sW45 := W45.size
    show Go p e below _ T45 (mkF m 166 #[.val (.int p0), .val (.int p1), .val (.int p2), .val (.int p3), .val (.long p4), .second, .val (.ref a1), .val (.int (p0 &&& (3 : Int32))), .unset, .unset, .unset, .unset, .unset, .unset, .unset] [])
    obtain ⟨cs45, A45, B45⟩ : ∃ cs, AI Z h45 a1 .char cs ∧ CB 10 cs := ⟨_, A45, B44.set 2 _⟩
    have K45 := K44.wr W45 (Or.inr ha1)
    have N45 := Fr.snoc X45 N44 (by omega)
    refine Go.st (fun _ k => XS.aload X45.here hx rfl (hb hby at_166) rfl rfl k) ?_
    show Go p e below _ T45 (mkF m 168 #[.val (.int p0), .val (.int p1), .val (.int p2), .val (.int p3), .val (.long p4), .second, .val (.ref a1), .val (.int (p0 &&& (3 : Int32))), .unset, .unset, .unset, .unset, .unset, .unset, .unset] [(.ref a1)])
    refine Go.st (fun _ k => XS.iconst X45.here hx rfl (hb hby at_168) k) ?_
    show Go p e below _ T45 (mkF m 169 #[.val (.int p0), .val (.int p1), .val (.int p2), .val (.int p3), .val (.long p4), .second, .val (.ref a1), .val (.int (p0 &&& (3 : Int32))), .unset, .unset, .unset, .unset, .unset, .unset, .unset] [(.int (3 : Int32)), (.ref a1)])
    refine Go.st (fun _ k => XS.bipush X45.here hx rfl (hb hby at_169) k) ?_
    show Go p e below _ T45 (mkF m 171 #[.val (.int p0), .val (.int p1), .val (.int p2), .val (.int p3), .val (.long p4), .second, .val (.ref a1), .val (.int (p0 &&& (3 : Int32))), .unset, .unset, .unset, .unset, .unset, .unset, .unset] [(.int (101 : Int32)), (.int (3 : Int32)), (.ref a1)])
    refine Go.castore X45 hx hZ e45 A45 (i := 3) rfl (by rw [B45.1]; decide) (g := (mkF m 171 #[.val (.int p0), .val (.int p1), .val (.int p2), .val (.int p3), .val (.long p4), .second, .val (.ref a1), .val (.int (p0 &&& (3 : Int32))), .unset, .unset, .unset, .unset, .unset, .unset, .unset] [(.int (101 : Int32)), (.int (3 : Int32)), (.ref a1)])) rfl rfl (hb hby at_171) ?_
    rintro T46 h46 X46 e46 W46 A46
    have sW46 := W46.size
    show Go p e below _ T46 (mkF m 172 #[.val (.int p0), .val (.int p1), .val (.int p2), .val (.int p3), .val (.long p4), .second, .val (.ref a1), .val (.int (p0 &&& (3 : Int32))), .unset, .unset, .unset, .unset, .unset, .unset, .unset] [])
    obtain ⟨cs46, A46, B46⟩ : ∃ cs, AI Z h46 a1 .char cs ∧ CB 10 cs := ⟨_, A46, B45.set 3 _⟩
    have K46 := K45.wr W46 (Or.inr ha1)
    have N46 := Fr.snoc X46 N45 (by omega)
    refine Go.st (fun _ k => XS.aload X46.here hx rfl (hb hby at_172) rfl rfl k) ?_
    show Go p e below _ T46 (mkF m 174 #[.val (.int p0), .val (.int p1), .val (.int p2), .val (.int p3), .val (.long p4), .second, .val (.ref a1), .val (.int (p0 &&& (3 : Int32))), .unset, .unset, .unset, .unset, .unset, .unset, .unset] [(.ref a1)])
    refine Go.st (fun _ k => XS.iconst X46.here hx rfl (hb hby at_174) k) ?_
    show Go p e below _ T46 (mkF m 175 #[.val (.int p0), .val (.int p1), .val (.int p2), .val (.int p3), .val (.long p4), .second, .val (.ref a1), .val (.int (p0 &&& (3 : Int32))), .unset, .unset, .unset, .unset, .unset, .unset, .unset] [(.int (4 : Int32)), (.ref a1)])
    refine Go.st (fun _ k => XS.bipush X46.here hx rfl (hb hby at_175) k) ?_
    show Go p e below _ T46 (mkF m 177 #[.val (.int p0), .val (.int p1), .val (.int p2), .val (.int p3), .val (.long p4), .second, .val (.ref a1), .val (.int (p0 &&& (3 : Int32))), .unset, .unset, .unset, .unset, .unset, .unset, .unset] [(.int (114 : Int32)), (.int (4 : Int32)), (.ref a1)])
    refine Go.castore X46 hx hZ e46 A46 (i := 4) rfl (by rw [B46.1]; decide) (g := (mkF m 177 #[.val (.int p0), .val (.int p1), .val (.int p2), .val (.int p3), .val (.long p4), .second, .val (.ref a1), .val (.int (p0 &&& (3 : Int32))), .unset, .unset, .unset, .unset, .unset, .unset, .unset] [(.int (114 : Int32)), (.int (4 : Int32)), (.ref a1)])) rfl rfl (hb hby at_177) ?_
    rintro T47 h47 X47 e47 W47 A47
    have sW47 := W47.size
    show Go p e below _ T47 (mkF m 178 #[.val (.int p0), .val (.int p1), .val (.int p2), .val (.int p3), .val (.long p4), .second, .val (.ref a1), .val (.int (p0 &&& (3 : Int32))), .unset, .unset, .unset, .unset, .unset, .unset, .unset] [])
    obtain ⟨cs47, A47, B47⟩ : ∃ cs, AI Z h47 a1 .char cs ∧ CB 10 cs := ⟨_, A47, B46.set 4 _⟩
    have K47 := K46.wr W47 (Or.inr ha1)
    have N47 := Fr.snoc X47 N46 (by omega)
    refine Go.st (fun _ k => XS.aload X47.here hx rfl (hb hby at_178) rfl rfl k) ?_
    show Go p e below _ T47 (mkF m 180 #[.val (.int p0), .val (.int p1), .val (.int p2), .val (.int p3), .val (.long p4), .second, .val (.ref a1), .val (.int (p0 &&& (3 : Int32))), .unset, .unset, .unset, .unset, .unset, .unset, .unset] [(.ref a1)])
    refine Go.st (fun _ k => XS.iconst X47.here hx rfl (hb hby at_180) k) ?_
    show Go p e below _ T47 (mkF m 181 #[.val (.int p0), .val (.int p1), .val (.int p2), .val (.int p3), .val (.long p4), .second, .val (.ref a1), .val (.int (p0 &&& (3 : Int32))), .unset, .unset, .unset, .unset, .unset, .unset, .unset] [(.int (5 : Int32)), (.ref a1)])
    refine Go.st (fun _ k => XS.bipush X47.here hx rfl (hb hby at_181) k) ?_
    show Go p e below _ T47 (mkF m 183 #[.val (.int p0), .val (.int p1), .val (.int p2), .val (.int p3), .val (.long p4), .second, .val (.ref a1), .val (.int (p0 &&& (3 : Int32))), .unset, .unset, .unset, .unset, .unset, .unset, .unset] [(.int (98 : Int32)), (.int (5 : Int32)), (.ref a1)])
    refine Go.castore X47 hx hZ e47 A47 (i := 5) rfl (by rw [B47.1]; decide) (g := (mkF m 183 #[.val (.int p0), .val (.int p1), .val (.int p2), .val (.int p3), .val (.long p4), .second, .val (.ref a1), .val (.int (p0 &&& (3 : Int32))), .unset, .unset, .unset, .unset, .unset, .unset, .unset] [(.int (98 : Int32)), (.int (5 : Int32)), (.ref a1)])) rfl rfl (hb hby at_183) ?_
    rintro T48 h48 X48 e48 W48 A48
    have sW48 := W48.size
    show Go p e below _ T48 (mkF m 184 #[.val (.int p0), .val (.int p1), .val (.int p2), .val (.int p3), .val (.long p4), .second, .val (.ref a1), .val (.int (p0 &&& (3 : Int32))), .unset, .unset, .unset, .unset, .unset, .unset, .unset] [])
    obtain ⟨cs48, A48, B48⟩ : ∃ cs, AI Z h48 a1 .char cs ∧ CB 10 cs := ⟨_, A48, B47.set 5 _⟩
    have K48 := K47.wr W48 (Or.inr ha1)
    have N48 := Fr.snoc X48 N47 (by omega)
    refine Go.st (fun _ k => XS.aload X48.here hx rfl (hb hby at_184) rfl rfl k) ?_
    show Go p e below _ T48 (mkF m 186 #[.val (.int p0), .val (.int p1), .val (.int p2), .val (.int p3), .val (.long p4), .second, .val (.ref a1), .val (.int (p0 &&& (3 : Int32))), .unset, .unset, .unset, .unset, .unset, .unset, .unset] [(.ref a1)])
    refine Go.st (fun _ k => XS.bipush X48.here hx rfl (hb hby at_186) k) ?_
    show Go p e below _ T48 (mkF m 188 #[.val (.int p0), .val (.int p1), .val (.int p2), .val (.int p3), .val (.long p4), .second, .val (.ref a1), .val (.int (p0 &&& (3 : Int32))), .unset, .unset, .unset, .unset, .unset, .unset, .unset] [(.int (6 : Int32)), (.ref a1)])
    refine Go.st (fun _ k => XS.bipush X48.here hx rfl (hb hby at_188) k) ?_
    show Go p e below _ T48 (mkF m 190 #[.val (.int p0), .val (.int p1), .val (.int p2), .val (.int p3), .val (.long p4), .second, .val (.ref a1), .val (.int (p0 &&& (3 : Int32))), .unset, .unset, .unset, .unset, .unset, .unset, .unset] [(.int (111 : Int32)), (.int (6 : Int32)), (.ref a1)])
    refine Go.castore X48 hx hZ e48 A48 (i := 6) rfl (by rw [B48.1]; decide) (g := (mkF m 190 #[.val (.int p0), .val (.int p1), .val (.int p2), .val (.int p3), .val (.long p4), .second, .val (.ref a1), .val (.int (p0 &&& (3 : Int32))), .unset, .unset, .unset, .unset, .unset, .unset, .unset] [(.int (111 : Int32)), (.int (6 : Int32)), (.ref a1)])) rfl rfl (hb hby at_190) ?_
    rintro T49 h49 X49 e49 W49 A49
    have sW49 := W49.size
    show Go p e below _ T49 (mkF m 191 #[.val (.int p0), .val (.int p1), .val (.int p2), .val (.int p3), .val (.long p4), .second, .val (.ref a1), .val (.int (p0 &&& (3 : Int32))), .unset, .unset, .unset, .unset, .unset, .unset, .unset] [])
    obtain ⟨cs49, A49, B49⟩ : ∃ cs, AI Z h49 a1 .char cs ∧ CB 10 cs := ⟨_, A49, B48.set 6 _⟩
    have K49 := K48.wr W49 (Or.inr ha1)
    have N49 := Fr.snoc X49 N48 (by omega)
    refine Go.st (fun _ k => XS.aload X49.here hx rfl (hb hby at_191) rfl rfl k) ?_
    show Go p e below _ T49 (mkF m 193 #[.val (.int p0), .val (.int p1), .val (.int p2), .val (.int p3), .val (.long p4), .second, .val (.ref a1), .val (.int (p0 &&& (3 : Int32))), .unset, .unset, .unset, .unset, .unset, .unset, .unset] [(.ref a1)])
    refine Go.st (fun _ k => XS.bipush X49.here hx rfl (hb hby at_193) k) ?_
    show Go p e below _ T49 (mkF m 195 #[.val (.int p0), .val (.int p1), .val (.int p2), .val (.int p3), .val (.long p4), .second, .val (.ref a1), .val (.int (p0 &&& (3 : Int32))), .unset, .unset, .unset, .unset, .unset, .unset, .unset] [(.int (7 : Int32)), (.ref a1)])
    refine Go.st (fun _ k => XS.bipush X49.here hx rfl (hb hby at_195) k) ?_
    show Go p e below _ T49 (mkF m 197 #[.val (.int p0), .val (.int p1), .val (.int p2), .val (.int p3), .val (.long p4), .second, .val (.ref a1), .val (.int (p0 &&& (3 : Int32))), .unset, .unset, .unset, .unset, .unset, .unset, .unset] [(.int (115 : Int32)), (.int (7 : Int32)), (.ref a1)])
    refine Go.castore X49 hx hZ e49 A49 (i := 7) rfl (by rw [B49.1]; decide) (g := (mkF m 197 #[.val (.int p0), .val (.int p1), .val (.int p2), .val (.int p3), .val (.long p4), .second, .val (.ref a1), .val (.int (p0 &&& (3 : Int32))), .unset, .unset, .unset, .unset, .unset, .unset, .unset] [(.int (115 : Int32)), (.int (7 : Int32)), (.ref a1)])) rfl rfl (hb hby at_197) ?_
    rintro T50 h50 X50 e50 W50 A50
    have sW50 := W50.size
    show Go p e below _ T50 (mkF m 198 #[.val (.int p0), .val (.int p1), .val (.int p2), .val (.int p3), .val (.long p4), .second, .val (.ref a1), .val (.int (p0 &&& (3 : Int32))), .unset, .unset, .unset, .unset, .unset, .unset, .unset] [])
    obtain ⟨cs50, A50, B50⟩ : ∃ cs, AI Z h50 a1 .char cs ∧ CB 10 cs := ⟨_, A50, B49.set 7 _⟩
    have K50 := K49.wr W50 (Or.inr ha1)
    have N50 := Fr.snoc X50 N49 (by omega)
    refine Go.st (fun _ k => XS.aload X50.here hx rfl (hb hby at_198) rfl rfl k) ?_
    show Go p e below _ T50 (mkF m 200 #[.val (.int p0), .val (.int p1), .val (.int p2), .val (.int p3), .val (.long p4), .second, .val (.ref a1), .val (.int (p0 &&& (3 : Int32))), .unset, .unset, .unset, .unset, .unset, .unset, .unset] [(.ref a1)])
    refine Go.st (fun _ k => XS.bipush X50.here hx rfl (hb hby at_200) k) ?_
    show Go p e below _ T50 (mkF m 202 #[.val (.int p0), .val (.int p1), .val (.int p2), .val (.int p3), .val (.long p4), .second, .val (.ref a1), .val (.int (p0 &&& (3 : Int32))), .unset, .unset, .unset, .unset, .unset, .unset, .unset] [(.int (8 : Int32)), (.ref a1)])
    refine Go.st (fun _ k => XS.bipush X50.here hx rfl (hb hby at_202) k) ?_
    show Go p e below _ T50 (mkF m 204 #[.val (.int p0), .val (.int p1), .val (.int p2), .val (.int p3), .val (.long p4), .second, .val (.ref a1), .val (.int (p0 &&& (3 : Int32))), .unset, .unset, .unset, .unset, .unset, .unset, .unset] [(.int (101 : Int32)), (.int (8 : Int32)), (.ref a1)])
    refine Go.castore X50 hx hZ e50 A50 (i := 8) rfl (by rw [B50.1]; decide) (g := (mkF m 204 #[.val (.int p0), .val (.int p1), .val (.int p2), .val (.int p3), .val (.long p4), .second, .val (.ref a1), .val (.int (p0 &&& (3 : Int32))), .unset, .unset, .unset, .unset, .unset, .unset, .unset] [(.int (101 : Int32)), (.int (8 : Int32)), (.ref a1)])) rfl rfl (hb hby at_204) ?_
    rintro T51 h51 X51 e51 W51 A51
    have sW51 := W51.size
    show Go p e below _ T51 (mkF m 205 #[.val (.int p0), .val (.int p1), .val (.int p2), .val (.int p3), .val (.long p4), .second, .val (.ref a1), .val (.int (p0 &&& (3 : Int32))), .unset, .unset, .unset, .unset, .unset, .unset, .unset] [])
    obtain ⟨cs51, A51, B51⟩ : ∃ cs, AI Z h51 a1 .char cs ∧ CB 10 cs := ⟨_, A51, B50.set 8 _⟩
    have K51 := K50.wr W51 (Or.inr ha1)
    have N51 := Fr.snoc X51 N50 (by omega)
    refine Go.st (fun _ k => XS.bipush X51.here hx rfl (hb hby at_205) k) ?_
    show Go p e below _ T51 (mkF m 207 #[.val (.int p0), .val (.int p1), .val (.int p2), .val (.int p3), .val (.long p4), .second, .val (.ref a1), .val (.int (p0 &&& (3 : Int32))), .unset, .unset, .unset, .unset, .unset, .unset, .unset] [(.int (9 : Int32))])
    refine Go.st (fun _ k => XS.istore X51.here hx rfl (hb hby at_207) rfl (l' := #[.val (.int p0), .val (.int p1), .val (.int p2), .val (.int p3), .val (.long p4), .second, .val (.ref a1), .val (.int (p0 &&& (3 : Int32))), .val (.int (9 : Int32)), .unset, .unset, .unset, .unset, .unset, .unset]) rfl k) ?_
    show Go p e below _ T51 (mkF m 209 #[.val (.int p0), .val (.int p1), .val (.int p2), .val (.int p3), .val (.long p4), .second, .val (.ref a1), .val (.int (p0 &&& (3 : Int32))), .val (.int (9 : Int32)), .unset, .unset, .unset, .unset, .unset, .unset] [])
    refine Go.st (fun _ k => XS.goto X51.here hx rfl (pc0 := 209) (pc' := 279) rfl (hb hby at_209) (by decide) (by decide) k) ?_
    show Go p e below _ T51 (mkF m 279 #[.val (.int p0), .val (.int p1), .val (.int p2), .val (.int p3), .val (.long p4), .second, .val (.ref a1), .val (.int (p0 &&& (3 : Int32))), .val (.int (9 : Int32)), .unset, .unset, .unset, .unset, .unset, .unset] [])
    exact J1 _ _ (by decide) T51 h51 _ _ X51 e51 A51 B51 K51 N51
  refine Go.st (fun _ k => XS.icmpYes X21.here hx rfl (pc0 := 145) (pc' := 212) rfl (hb hby at_145) rfl (XT.ii_ne_t t1) (by decide) (by decide) k) ?_
  show Go p e below _ T21 (mkF m 212 #[.val (.int p0), .val (.int p1), .val (.int p2), .val (.int p3), .val (.long p4), .second, .val (.ref a1), .val (.int (p0 &&& (3 : Int32))), .unset, .unset, .unset, .unset, .unset, .unset, .unset] [])
  refine Go.st (fun _ k => XS.iload X21.here hx rfl (hb hby at_212) rfl k) ?_
  show Go p e below _ T21 (mkF m 214 #[.val (.int p0), .val (.int p1), .val (.int p2), .val (.int p3), .val (.long p4), .second, .val (.ref a1), .val (.int (p0 &&& (3 : Int32))), .unset, .unset, .unset, .unset, .unset, .unset, .unset] [(.int (p0 &&& (3 : Int32)))])
  refine Go.st (fun _ k => XS.iconst X21.here hx rfl (hb hby at_214) k) ?_
  show Go p e below _ T21 (mkF m 215 #[.val (.int p0), .val (.int p1), .val (.int p2), .val (.int p3), .val (.long p4), .second, .val (.ref a1), .val (.int (p0 &&& (3 : Int32))), .unset, .unset, .unset, .unset, .unset, .unset, .unset] [(.int (2 : Int32)), (.int (p0 &&& (3 : Int32)))])
  by_cases t2 : p0 &&& (3 : Int32) = 2
  · skip
    refine Go.st (fun _ k => XS.icmpNo X21.here hx rfl (hb hby at_215) rfl (XT.ii_ne_f t2) k) ?_
    show Go p e below _ T21 (mkF m 218 #[.val (.int p0), .val (.int p1), .val (.int p2), .val (.int p3), .val (.long p4), .second, .val (.ref a1), .val (.int (p0 &&& (3 : Int32))), .unset, .unset, .unset, .unset, .unset, .unset, .unset] [])
    refine Go.st (fun _ k => XS.aload X21.here hx rfl (hb hby at_218) rfl rfl k) ?_
    show Go p e below _ T21 (mkF m 220 #[.val (.int p0), .val (.int p1), .val (.int p2), .val (.int p3), .val (.long p4), .second, .val (.ref a1), .val (.int (p0 &&& (3 : Int32))), .unset, .unset, .unset, .unset, .unset, .unset, .unset] [(.ref a1)])
    refine Go.st (fun _ k => XS.iconst X21.here hx rfl (hb hby at_220) k) ?_
    show Go p e below _ T21 (mkF m 221 #[.val (.int p0), .val (.int p1), .val (.int p2), .val (.int p3), .val (.long p4), .second, .val (.ref a1), .val (.int (p0 &&& (3 : Int32))), .unset, .unset, .unset, .unset, .unset, .unset, .unset] [(.int (0 : Int32)), (.ref a1)])
    refine Go.st (fun _ k => XS.bipush X21.here hx rfl (hb hby at_221) k) ?_
    show Go p e below _ T21 (mkF m 223 #[.val (.int p0), .val (.int p1), .val (.int p2), .val (.int p3), .val (.long p4), .second, .val (.ref a1), .val (.int (p0 &&& (3 : Int32))), .unset, .unset, .unset, .unset, .unset, .unset, .unset] [(.int (45 : Int32)), (.int (0 : Int32)), (.ref a1)])
    refine Go.castore X21 hx hZ e21 A21 (i := 0) rfl (by rw [B21.1]; decide) (g := (mkF m 223 #[.val (.int p0), .val (.int p1), .val (.int p2), .val (.int p3), .val (.long p4), .second, .val (.ref a1), .val (.int (p0 &&& (3 : Int32))), .unset, .unset, .unset, .unset, .unset, .unset, .unset] [(.int (45 : Int32)), (.int (0 : Int32)), (.ref a1)])) rfl rfl (hb hby at_223) ?_
    rintro T52 h52 X52 e52 W52 A52
    have sW52 := W52.size
    show Go p e below _ T52 (mkF m 224 #[.val (.int p0), .val (.int p1), .val (.int p2), .val (.int p3), .val (.long p4), .second, .val (.ref a1), .val (.int (p0 &&& (3 : Int32))), .unset, .unset, .unset, .unset, .unset, .unset, .unset] [])
    obtain ⟨cs52, A52, B52⟩ : ∃ cs, AI Z h52 a1 .char cs ∧ CB 10 cs := ⟨_, A52, B21.set 0 _⟩
    have K52 := K21.wr W52 (Or.inr ha1)
    have N52 := Fr.snoc X52 N21 (by omega)
    refine Go.st (fun _ k => XS.aload X52.here hx rfl (hb hby at_224) rfl rfl k) ?_
    show Go p e below _ T52 (mkF m 226 #[.val (.int p0), .val (.int p1), .val (.int p2), .val (.int p3), .val (.long p4), .second, .val (.ref a1), .val (.int (p0 &&& (3 : Int32))), .unset, .unset, .unset, .unset, .unset, .unset, .unset] [(.ref a1)])
    refine Go.st (fun _ k => XS.iconst X52.here hx rfl (hb hby at_226) k) ?_
    show Go p e below _ T52 (mkF m 227 #[.val (.int p0), .val (.int p1), .val (.int p2), .val (.int p3), .val (.long p4), .second, .val (.ref a1), .val (.int (p0 &&& (3 : Int32))), .unset, .unset, .unset, .unset, .unset, .unset, .unset] [(.int (1 : Int32)), (.ref a1)])
    refine Go.st (fun _ k => XS.bipush X52.here hx rfl (hb hby at_227) k) ?_
    show Go p e below _ T52 (mkF m 229 #[.val (.int p0), .val (.int p1), .val (.int p2), .val (.int p3), .val (.long p4), .second, .val (.ref a1), .val (.int (p0 &&& (3 : Int32))), .unset, .unset, .unset, .unset, .unset, .unset, .unset] [(.int (118 : Int32)), (.int (1 : Int32)), (.ref a1)])
    refine Go.castore X52 hx hZ e52 A52 (i := 1) rfl (by rw [B52.1]; decide) (g := (mkF m 229 #[.val (.int p0), .val (.int p1), .val (.int p2), .val (.int p3), .val (.long p4), .second, .val (.ref a1), .val (.int (p0 &&& (3 : Int32))), .unset, .unset, .unset, .unset, .unset, .unset, .unset] [(.int (118 : Int32)), (.int (1 : Int32)), (.ref a1)])) rfl rfl (hb hby at_229) ?_
    rintro T53 h53 X53 e53 W53 A53
    have sW53 := W53.size
    show Go p e below _ T53 (mkF m 230 #[.val (.int p0), .val (.int p1), .val (.int p2), .val (.int p3), .val (.long p4), .second, .val (.ref a1), .val (.int (p0 &&& (3 : Int32))), .unset, .unset, .unset, .unset, .unset, .unset, .unset] [])
    obtain ⟨cs53, A53, B53⟩ : ∃ cs, AI Z h53 a1 .char cs ∧ CB 10 cs := ⟨_, A53, B52.set 1 _⟩
    have K53 := K52.wr W53 (Or.inr ha1)
    have N53 := Fr.snoc X53 N52 (by omega)
    refine Go.st (fun _ k => XS.aload X53.here hx rfl (hb hby at_230) rfl rfl k) ?_
    show Go p e below _ T53 (mkF m 232 #[.val (.int p0), .val (.int p1), .val (.int p2), .val (.int p3), .val (.long p4), .second, .val (.ref a1), .val (.int (p0 &&& (3 : Int32))), .unset, .unset, .unset, .unset, .unset, .unset, .unset] [(.ref a1)])
    refine Go.st (fun _ k => XS.iconst X53.here hx rfl (hb hby at_232) k) ?_
    show Go p e below _ T53 (mkF m 233 #[.val (.int p0), .val (.int p1), .val (.int p2), .val (.int p3), .val (.long p4), .second, .val (.ref a1), .val (.int (p0 &&& (3 : Int32))), .unset, .unset, .unset, .unset, .unset, .unset, .unset] [(.int (2 : Int32)), (.ref a1)])
    refine Go.st (fun _ k => XS.bipush X53.here hx rfl (hb hby at_233) k) ?_
    show Go p e below _ T53 (mkF m 235 #[.val (.int p0), .val (.int p1), .val (.int p2), .val (.int p3), .val (.long p4), .second, .val (.ref a1), .val (.int (p0 &&& (3 : Int32))), .unset, .unset, .unset, .unset, .unset, .unset, .unset] [(.int (101 : Int32)), (.int (2 : Int32)), (.ref a1)])
    refine Go.castore X53 hx hZ e53 A53 (i := 2) rfl (by rw [B53.1]; decide) (g := (mkF m 235 #[.val (.int p0), .val (.int p1), .val (.int p2), .val (.int p3), .val (.long p4), .second, .val (.ref a1), .val (.int (p0 &&& (3 : Int32))), .unset, .unset, .unset, .unset, .unset, .unset, .unset] [(.int (101 : Int32)), (.int (2 : Int32)), (.ref a1)])) rfl rfl (hb hby at_235) ?_
    rintro T54 h54 X54 e54 W54 A54
    have sW54 := W54.size
    show Go p e below _ T54 (mkF m 236 #[.val (.int p0), .val (.int p1), .val (.int p2), .val (.int p3), .val (.long p4), .second, .val (.ref a1), .val (.int (p0 &&& (3 : Int32))), .unset, .unset, .unset, .unset, .unset, .unset, .unset] [])
    obtain ⟨cs54, A54, B54⟩ : ∃ cs, AI Z h54 a1 .char cs ∧ CB 10 cs := ⟨_, A54, B53.set 2 _⟩
    have K54 := K53.wr W54 (Or.inr ha1)
    have N54 := Fr.snoc X54 N53 (by omega)
    refine Go.st (fun _ k => XS.aload X54.here hx rfl (hb hby at_236) rfl rfl k) ?_
    show Go p e below _ T54 (mkF m 238 #[.val (.int p0), .val (.int p1), .val (.int p2), .val (.int p3), .val (.long p4), .second, .val (.ref a1), .val (.int (p0 &&& (3 : Int32))), .unset, .unset, .unset, .unset, .unset, .unset, .unset] [(.ref a1)])
    refine Go.st (fun _ k => XS.iconst X54.here hx rfl (hb hby at_238) k) ?_
    show Go p e below _ T54 (mkF m 239 #[.val (.int p0), .val (.int p1), .val (.int p2), .val (.int p3), .val (.long p4), .second, .val (.ref a1), .val (.int (p0 &&& (3 : Int32))), .unset, .unset, .unset, .unset, .unset, .unset, .unset] [(.int (3 : Int32)), (.ref a1)])
    refine Go.st (fun _ k => XS.bipush X54.here hx rfl (hb hby at_239) k) ?_
    show Go p e below _ T54 (mkF m 241 #[.val (.int p0), .val (.int p1), .val (.int p2), .val (.int p3), .val (.long p4), .second, .val (.ref a1), .val (.int (p0 &&& (3 : Int32))), .unset, .unset, .unset, .unset, .unset, .unset, .unset] [(.int (114 : Int32)), (.int (3 : Int32)), (.ref a1)])
    refine Go.castore X54 hx hZ e54 A54 (i := 3) rfl (by rw [B54.1]; decide) (g := (mkF m 241 #[.val (.int p0), .val (.int p1), .val (.int p2), .val (.int p3), .val (.long p4), .second, .val (.ref a1), .val (.int (p0 &&& (3 : Int32))), .unset, .unset, .unset, .unset, .unset, .unset, .unset] [(.int (114 : Int32)), (.int (3 : Int32)), (.ref a1)])) rfl rfl (hb hby at_241) ?_
    rintro T55 h55 X55 e55 W55 A55
    have sW55 := W55.size
    show Go p e below _ T55 (mkF m 242 #[.val (.int p0), .val (.int p1), .val (.int p2), .val (.int p3), .val (.long p4), .second, .val (.ref a1), .val (.int (p0 &&& (3 : Int32))), .unset, .unset, .unset, .unset, .unset, .unset, .unset] [])
    obtain ⟨cs55, A55, B55⟩ : ∃ cs, AI Z h55 a1 .char cs ∧ CB 10 cs := ⟨_, A55, B54.set 3 _⟩
    have K55 := K54.wr W55 (Or.inr ha1)
    have N55 := Fr.snoc X55 N54 (by omega)
    refine Go.st (fun _ k => XS.aload X55.here hx rfl (hb hby at_242) rfl rfl k) ?_
    show Go p e below _ T55 (mkF m 244 #[.val (.int p0), .val (.int p1), .val (.int p2), .val (.int p3), .val (.long p4), .second, .val (.ref a1), .val (.int (p0 &&& (3 : Int32))), .unset, .unset, .unset, .unset, .unset, .unset, .unset] [(.ref a1)])
    refine Go.st (fun _ k => XS.iconst X55.here hx rfl (hb hby at_244) k) ?_
    show Go p e below _ T55 (mkF m 245 #[.val (.int p0), .val (.int p1), .val (.int p2), .val (.int p3), .val (.long p4), .second, .val (.ref a1), .val (.int (p0 &&& (3 : Int32))), .unset, .unset, .unset, .unset, .unset, .unset, .unset] [(.int (4 : Int32)), (.ref a1)])
    refine Go.st (fun _ k => XS.bipush X55.here hx rfl (hb hby at_245) k) ?_
    show Go p e below _ T55 (mkF m 247 #[.val (.int p0), .val (.int p1), .val (.int p2), .val (.int p3), .val (.long p4), .second, .val (.ref a1), .val (.int (p0 &&& (3 : Int32))), .unset, .unset, .unset, .unset, .unset, .unset, .unset] [(.int (98 : Int32)), (.int (4 : Int32)), (.ref a1)])
    refine Go.castore X55 hx hZ e55 A55 (i := 4) rfl (by rw [B55.1]; decide) (g := (mkF m 247 #[.val (.int p0), .val (.int p1), .val (.int p2), .val (.int p3), .val (.long p4), .second, .val (.ref a1), .val (.int (p0 &&& (3 : Int32))), .unset, .unset, .unset, .unset, .unset, .unset, .unset] [(.int (98 : Int32)), (.int (4 : Int32)), (.ref a1)])) rfl rfl (hb hby at_247) ?_
    rintro T56 h56 X56 e56 W56 A56
    have sW56 := W56.size
    show Go p e below _ T56 (mkF m 248 #[.val (.int p0), .val (.int p1), .val (.int p2), .val (.int p3), .val (.long p4), .second, .val (.ref a1), .val (.int (p0 &&& (3 : Int32))), .unset, .unset, .unset, .unset, .unset, .unset, .unset] [])
    obtain ⟨cs56, A56, B56⟩ : ∃ cs, AI Z h56 a1 .char cs ∧ CB 10 cs := ⟨_, A56, B55.set 4 _⟩
    have K56 := K55.wr W56 (Or.inr ha1)
    have N56 := Fr.snoc X56 N55 (by omega)
    refine Go.st (fun _ k => XS.aload X56.here hx rfl (hb hby at_248) rfl rfl k) ?_
    show Go p e below _ T56 (mkF m 250 #[.val (.int p0), .val (.int p1), .val (.int p2), .val (.int p3), .val (.long p4), .second, .val (.ref a1), .val (.int (p0 &&& (3 : Int32))), .unset, .unset, .unset, .unset, .unset, .unset, .unset] [(.ref a1)])
    refine Go.st (fun _ k => XS.iconst X56.here hx rfl (hb hby at_250) k) ?_
    show Go p e below _ T56 (mkF m 251 #[.val (.int p0), .val (.int p1), .val (.int p2), .val (.int p3), .val (.long p4), .second, .val (.ref a1), .val (.int (p0 &&& (3 : Int32))), .unset, .unset, .unset, .unset, .unset, .unset, .unset] [(.int (5 : Int32)), (.ref a1)])
    refine Go.st (fun _ k => XS.bipush X56.here hx rfl (hb hby at_251) k) ?_
    show Go p e below _ T56 (mkF m 253 #[.val (.int p0), .val (.int p1), .val (.int p2), .val (.int p3), .val (.long p4), .second, .val (.ref a1), .val (.int (p0 &&& (3 : Int32))), .unset, .unset, .unset, .unset, .unset, .unset, .unset] [(.int (111 : Int32)), (.int (5 : Int32)), (.ref a1)])
    refine Go.castore X56 hx hZ e56 A56 (i := 5) rfl (by rw [B56.1]; decide) (g := (mkF m 253 #[.val (.int p0), .val (.int p1), .val (.int p2), .val (.int p3), .val (.long p4), .second, .val (.ref a1), .val (.int (p0 &&& (3 : Int32))), .unset, .unset, .unset, .unset, .unset, .unset, .unset] [(.int (111 : Int32)), (.int (5 : Int32)), (.ref a1)])) rfl rfl (hb hby at_253) ?_
    rintro T57 h57 X57 e57 W57 A57
    have sW57 := W57.size
    show Go p e below _ T57 (mkF m 254 #[.val (.int p0), .val (.int p1), .val (.int p2), .val (.int p3), .val (.long p4), .second, .val (.ref a1), .val (.int (p0 &&& (3 : Int32))), .unset, .unset, .unset, .unset, .unset, .unset, .unset] [])
    obtain ⟨cs57, A57, B57⟩ : ∃ cs, AI Z h57 a1 .char cs ∧ CB 10 cs := ⟨_, A57, B56.set 5 _⟩
    have K57 := K56.wr W57 (Or.inr ha1)
    have N57 := Fr.snoc X57 N56 (by omega)
    refine Go.st (fun _ k => XS.aload X57.here hx rfl (hb hby at_254) rfl rfl k) ?_
    show Go p e below _ T57 (mkF m 256 #[.val (.int p0), .val (.int p1), .val (.int p2), .val (.int p3), .val (.long p4), .second, .val (.ref a1), .val (.int (p0 &&& (3 : Int32))), .unset, .unset, .unset, .unset, .unset, .unset, .unset] [(.ref a1)])
    refine Go.st (fun _ k => XS.bipush X57.here hx rfl (hb hby at_256) k) ?_
    show Go p e below _ T57 (mkF m 258 #[.val (.int p0), .val (.int p1), .val (.int p2), .val (.int p3), .val (.long p4), .second, .val (.ref a1), .val (.int (p0 &&& (3 : Int32))), .unset, .unset, .unset, .unset, .unset, .unset, .unset] [(.int (6 : Int32)), (.ref a1)])
    refine Go.st (fun _ k => XS.bipush X57.here hx rfl (hb hby at_258) k) ?_
    show Go p e below _ T57 (mkF m 260 #[.val (.int p0), .val (.int p1), .val (.int p2), .val (.int p3), .val (.long p4), .second, .val (.ref a1), .val (.int (p0 &&& (3 : Int32))), .unset, .unset, .unset, .unset, .unset, .unset, .unset] [(.int (115 : Int32)), (.int (6 : Int32)), (.ref a1)])
    refine Go.castore X57 hx hZ e57 A57 (i := 6) rfl (by rw [B57.1]; decide) (g := (mkF m 260 #[.val (.int p0), .val (.int p1), .val (.int p2), .val (.int p3), .val (.long p4), .second, .val (.ref a1), .val (.int (p0 &&& (3 : Int32))), .unset, .unset, .unset, .unset, .unset, .unset, .unset] [(.int (115 : Int32)), (.int (6 : Int32)), (.ref a1)])) rfl rfl (hb hby at_260) ?_
    rintro T58 h58 X58 e58 W58 A58
    have sW58 := W58.size
    show Go p e below _ T58 (mkF m 261 #[.val (.int p0), .val (.int p1), .val (.int p2), .val (.int p3), .val (.long p4), .second, .val (.ref a1), .val (.int (p0 &&& (3 : Int32))), .unset, .unset, .unset, .unset, .unset, .unset, .unset] [])
    obtain ⟨cs58, A58, B58⟩ : ∃ cs, AI Z h58 a1 .char cs ∧ CB 10 cs := ⟨_, A58, B57.set 6 _⟩
    have K58 := K57.wr W58 (Or.inr ha1)
    have N58 := Fr.snoc X58 N57 (by omega)
    refine Go.st (fun _ k => XS.aload X58.here hx rfl (hb hby at_261) rfl rfl k) ?_
    show Go p e below _ T58 (mkF m 263 #[.val (.int p0), .val (.int p1), .val (.int p2), .val (.int p3), .val (.long p4), .second, .val (.ref a1), .val (.int (p0 &&& (3 : Int32))), .unset, .unset, .unset, .unset, .unset, .unset, .unset] [(.ref a1)])
    refine Go.st (fun _ k => XS.bipush X58.here hx rfl (hb hby at_263) k) ?_
    show Go p e below _ T58 (mkF m 265 #[.val (.int p0), .val (.int p1), .val (.int p2), .val (.int p3), .val (.long p4), .second, .val (.ref a1), .val (.int (p0 &&& (3 : Int32))), .unset, .unset, .unset, .unset, .unset, .unset, .unset] [(.int (7 : Int32)), (.ref a1)])
    refine Go.st (fun _ k => XS.bipush X58.here hx rfl (hb hby at_265) k) ?_
    show Go p e below _ T58 (mkF m 267 #[.val (.int p0), .val (.int p1), .val (.int p2), .val (.int p3), .val (.long p4), .second, .val (.ref a1), .val (.int (p0 &&& (3 : Int32))), .unset, .unset, .unset, .unset, .unset, .unset, .unset] [(.int (101 : Int32)), (.int (7 : Int32)), (.ref a1)])
    refine Go.castore X58 hx hZ e58 A58 (i := 7) rfl (by rw [B58.1]; decide) (g := (mkF m 267 #[.val (.int p0), .val (.int p1), .val (.int p2), .val (.int p3), .val (.long p4), .second, .val (.ref a1), .val (.int (p0 &&& (3 : Int32))), .unset, .unset, .unset, .unset, .unset, .unset, .unset] [(.int (101 : Int32)), (.int (7 : Int32)), (.ref a1)])) rfl rfl (hb hby at_267) ?_
    rintro T59 h59 X59 e59 W59 A59
    have sW59 := W59.size
    show Go p e below _ T59 (mkF m 268 #[.val (.int p0), .val (.int p1), .val (.int p2), .val (.int p3), .val (.long p4), .second, .val (.ref a1), .val (.int (p0 &&& (3 : Int32))), .unset, .unset, .unset, .unset, .unset, .unset, .unset] [])
    obtain ⟨cs59, A59, B59⟩ : ∃ cs, AI Z h59 a1 .char cs ∧ CB 10 cs := ⟨_, A59, B58.set 7 _⟩
    have K59 := K58.wr W59 (Or.inr ha1)
    have N59 := Fr.snoc X59 N58 (by omega)
    refine Go.st (fun _ k => XS.bipush X59.here hx rfl (hb hby at_268) k) ?_
    show Go p e below _ T59 (mkF m 270 #[.val (.int p0), .val (.int p1), .val (.int p2), .val (.int p3), .val (.long p4), .second, .val (.ref a1), .val (.int (p0 &&& (3 : Int32))), .unset, .unset, .unset, .unset, .unset, .unset, .unset] [(.int (8 : Int32))])
    refine Go.st (fun _ k => XS.istore X59.here hx rfl (hb hby at_270) rfl (l' := #[.val (.int p0), .val (.int p1), .val (.int p2), .val (.int p3), .val (.long p4), .second, .val (.ref a1), .val (.int (p0 &&& (3 : Int32))), .val (.int (8 : Int32)), .unset, .unset, .unset, .unset, .unset, .unset]) rfl k) ?_
    show Go p e below _ T59 (mkF m 272 #[.val (.int p0), .val (.int p1), .val (.int p2), .val (.int p3), .val (.long p4), .second, .val (.ref a1), .val (.int (p0 &&& (3 : Int32))), .val (.int (8 : Int32)), .unset, .unset, .unset, .unset, .unset, .unset] [])
    refine Go.st (fun _ k => XS.goto X59.here hx rfl (pc0 := 272) (pc' := 279) rfl (hb hby at_272) (by decide) (by decide) k) ?_
    show Go p e below _ T59 (mkF m 279 #[.val (.int p0), .val (.int p1), .val (.int p2), .val (.int p3), .val (.long p4), .second, .val (.ref a1), .val (.int (p0 &&& (3 : Int32))), .val (.int (8 : Int32)), .unset, .unset, .unset, .unset, .unset, .unset] [])
    exact J1 _ _ (by decide) T59 h59 _ _ X59 e59 A59 B59 K59 N59
  refine Go.st (fun _ k => XS.icmpYes X21.here hx rfl (pc0 := 215) (pc' := 275) rfl (hb hby at_215) rfl (XT.ii_ne_t t2) (by decide) (by decide) k) ?_
  show Go p e below _ T21 (mkF m 275 #[.val (.int p0), .val (.int p1), .val (.int p2), .val (.int p3), .val (.long p4), .second, .val (.ref a1), .val (.int (p0 &&& (3 : Int32))), .unset, .unset, .unset, .unset, .unset, .unset, .unset] [])
  refine Go.st (fun _ k => XS.bipush X21.here hx rfl (hb hby at_275) k) ?_
  show Go p e below _ T21 (mkF m 277 #[.val (.int p0), .val (.int p1), .val (.int p2), .val (.int p3), .val (.long p4), .second, .val (.ref a1), .val (.int (p0 &&& (3 : Int32))), .unset, .unset, .unset, .unset, .unset, .unset, .unset] [(.int (9 : Int32))])
  refine Go.st (fun _ k => XS.istore X21.here hx rfl (hb hby at_277) rfl (l' := #[.val (.int p0), .val (.int p1), .val (.int p2), .val (.int p3), .val (.long p4), .second, .val (.ref a1), .val (.int (p0 &&& (3 : Int32))), .val (.int (9 : Int32)), .unset, .unset, .unset, .unset, .unset, .unset]) rfl k) ?_
  show Go p e below _ T21 (mkF m 279 #[.val (.int p0), .val (.int p1), .val (.int p2), .val (.int p3), .val (.long p4), .second, .val (.ref a1), .val (.int (p0 &&& (3 : Int32))), .val (.int (9 : Int32)), .unset, .unset, .unset, .unset, .unset, .unset] [])
  exact J1 _ _ (by decide) T21 h21 _ _ X21 e21 A21 B21 K21 N21
theorem own_eqv {s : State} {args : Array Value} {t : Term} {v : Int32} (h : (Cond.eq t (Term.int v)).value args s none s [] = some true) : t.eval args s none [] s = some (.int v) := by
  obtain ⟨x, y, h1, h2, k1, k2⟩ := cmp_v (Or.inl h)
  cases Option.some.inj ((Term.int_eval v).symm.trans h2)
  obtain ⟨z, rfl⟩ := k2
  have q := gotT (Cond.eq_ints h1 (Term.int_eval v)) h
  rw [h1, q]
set_option maxRecDepth 65536 in
set_option maxHeartbeats 40000000 in
theorem comes_1 {Post : Tables → Env → Array Value → State → Outcome → State → Prop} (hpost : ∀ tb e args s v u, (limb_1_1.after args s (.returned v) u = true ∧ limb_1_2.after args s (.returned v) u = true ∧ True) → FramedW s (.returned v) u (Jvm.fieldLocs frame_1_writes args s ++ Jvm.arrayLocs frame_1_arrays args s ++ Jvm.staticLocs frame_1_statics s) 24 3264 → Post tb e args s (.returned v) u) :
    ArmFor flags0 classFile x code maxLocals ret World_1 tables_1 room_1 Calls_1 rest_1 Pre_1 Post := by
  intro l hfl _ _ p e ha hc hk s m args below hf hA hF happ hP
  obtain ⟨hcalls, hrest, hpre⟩ := hP
  obtain ⟨-, -, -, hnamed, -, -, -, hat⟩ := (Spec.applies_iff hf).mp happ
  obtain ⟨hg, hn⟩ := and_e (Cond.before_iff.mp (show (Jvm.Cond.and given_1 narrow_1).before args s = true from hpre))
  obtain ⟨hcount, g0⟩ := and_e hg
  obtain ⟨ga0, g1⟩ := and_e g0
  obtain ⟨ga1, g2⟩ := and_e g1
  obtain ⟨ga2, g3⟩ := and_e g2
  obtain ⟨ga3, g4⟩ := and_e g3
  have ga4 := g4
  obtain ⟨w0, w1, w2, w3, w4, rfl⟩ : ∃ w0 w1 w2 w3 w4 : Value, args = #[w0, w1, w2, w3, w4] := by
    have hs : args.size = 5 := by simpa [Cond.value, given_1] using hcount
    obtain ⟨L⟩ := args
    match L, hs with
    | [w0, w1, w2, w3, w4], _ => exact ⟨w0, w1, w2, w3, w4, rfl⟩
  have hw := fun d (hd : d ∈ tables_1) => atoms_spec (ws := Jvm.Cond.code x code maxLocals ret :: tables_1) hat d (List.mem_cons_of_mem _ hd)
  obtain ⟨hsets, hown0⟩ := atoms_of _ (rest_1_c_eq ▸ (show rest_1_c.before _ s = true from hrest))
  have hfit : Fit s := fun {y c} hc i hi => by
    obtain ⟨ha, rfl⟩ := Array.getElem?_eq_some_iff.mp hc
    have q := List.all_eq_true.mp ((Array.all_eq_true_iff_forall_mem.mp hF) _ (Array.getElem_mem ha)) i (List.mem_range.mpr hi)
    simpa [Array.getElem?_eq_getElem hi] using q
  obtain ⟨i0, ea0⟩ := is_v ga0
  obtain rfl : w0 = (.int i0) := Option.some.inj ea0
  obtain ⟨i1, ea1⟩ := is_v ga1
  obtain rfl : w1 = (.int i1) := Option.some.inj ea1
  obtain ⟨i2, ea2⟩ := is_v ga2
  obtain rfl : w2 = (.int i2) := Option.some.inj ea2
  obtain ⟨i3, ea3⟩ := is_v ga3
  obtain rfl : w3 = (.int i3) := Option.some.inj ea3
  obtain ⟨i4, ea4⟩ := isL_v ga4
  obtain rfl : w4 = (.long i4) := Option.some.inj ea4
  obtain ⟨iC, eC⟩ := is_v (Cond.before_iff.mp (hsets _ (List.mem_of_getElem? (i := 1) rfl)))
  have SC : Sta s s.heap "java/lang/String" "COMPACT_STRINGS" "Z" (.int iC) := Sta.start eC (Or.inl (hsets _ (List.mem_of_getElem? (i := 0) rfl)))
  have nC : ¬ (iC = (0 : Int32)) := gotF (Cond.eq_ints eC (Term.int_eval (0))) (not_v (Cond.before_iff.mp (hsets _ (List.mem_of_getElem? (i := 2) rfl))))
  have SA : Sta s s.heap "java/lang/StringUTF16" "$assertionsDisabled" "Z" (.int 1) := Sta.start (own_eqv (Cond.before_iff.mp (hsets _ (List.mem_of_getElem? (i := 12) rfl)))) (Or.inl (hsets _ (List.mem_of_getElem? (i := 11) rfl)))
  have SH : Sta s s.heap "java/lang/StringUTF16" "HI_BYTE_SHIFT" "I" (.int 0) := Sta.start (own_eqv (Cond.before_iff.mp (hsets _ (List.mem_of_getElem? (i := 15) rfl)))) (Or.inl (hsets _ (List.mem_of_getElem? (i := 14) rfl)))
  have SL : Sta s s.heap "java/lang/StringUTF16" "LO_BYTE_SHIFT" "I" (.int 8) := Sta.start (own_eqv (Cond.before_iff.mp (hsets _ (List.mem_of_getElem? (i := 18) rfl)))) (Or.inl (hsets _ (List.mem_of_getElem? (i := 17) rfl)))
  have hcons := hcalls.1
  have hheld : CHn consts_1 (fun b => b < s.heap.size) s := CHn.start (fun y hy => by
    have hy0 := hy
    simp only [consts_1, List.mem_cons, List.not_mem_nil, or_false] at hy
    rcases hy with rfl | rfl | rfl
    · exact own_heldL (text := "--verbose") (hcons _ hy0) (hw _ (List.mem_of_getElem? (i := 42) rfl)) (by decide) (hsets _ (List.mem_of_getElem? (i := 2) rfl)) (hw _ (List.mem_of_getElem? (i := 27) rfl)) (hw _ (List.mem_of_getElem? (i := 10) rfl))
    · exact own_heldL (text := "-v") (hcons _ hy0) (hw _ (List.mem_of_getElem? (i := 55) rfl)) (by decide) (hsets _ (List.mem_of_getElem? (i := 2) rfl)) (hw _ (List.mem_of_getElem? (i := 27) rfl)) (hw _ (List.mem_of_getElem? (i := 10) rfl))
    · exact own_heldL (text := "") (hcons _ hy0) (hw _ (List.mem_of_getElem? (i := 77) rfl)) (by decide) (hsets _ (List.mem_of_getElem? (i := 2) rfl)) (hw _ (List.mem_of_getElem? (i := 27) rfl)) (hw _ (List.mem_of_getElem? (i := 10) rfl)))
  obtain ⟨n, o, h1, h2, h3, _, L, rfl, ⟨rfl, N⟩, -, hq⟩ := rm0 l s _ hw tables_1 i0 i1 i2 i3 i4 iC ⟨SA, SH, SL, SC, nC⟩ s.heap s.heap.size rfl (Old.start s) p e ha hc hk s m _ below hf ((Spec.applies_iff_loose hf).mp happ).1 ⟨rfl, State.Warmed39.refl s, rfl, hheld⟩ trivial
  refine ⟨n, _, h1, h2, h3, hpost _ _ _ _ _ _ ⟨Cond.after_iff.mpr rfl, Cond.after_iff.mpr (eq_i res_at (Term.int_eval (1)) rfl), trivial⟩ ⟨hq.1, hq.2.1, hq.2.2.1, (hq.2.2.2.sift fun y hy => Or.inr (N y hy)).mono (by decide) (by decide)⟩⟩
theorem main_1_1 : Claimed_1_1 := comes_1 fun _ _ _ _ _ _ h hF => ⟨h.1, hF⟩
theorem main_1_2 : Claimed_1_2 := comes_1 fun _ _ _ _ _ _ h hF => ⟨h.2.1, hF⟩
end Jvm.Pilot.@@N@@
namespace Jvm.Pilot.@@N@@
open Jvm Jvm.ClassFile Sem Op Lib Jvm.Free Jvm.Stand Jvm.Pilot.@@N@@.Jvm.D
/-! MADE BY PROGRAM (witnessworld.py) out of the Statement's table words and the real class files: 21 classes; the members and pool entries that the words name. The judged class is class 1, her method 3. -/
namespace start1
open Jvm.ClassFile
def u (s : String) : CpInfo := .utf8 (stringToUtf16 s)
/-- a pool by its gaps: so many unusable entries, then the entry; so many at the end -/
def gap : Nat → List CpInfo → List CpInfo
  | 0, r => r
  | n + 1, r => .unusable :: gap n r
def poolList (es : List (Nat × CpInfo)) (last : Nat) : List CpInfo := es.foldr (fun e r => gap e.1 (e.2 :: r)) (gap last [])
def pool (es : List (Nat × CpInfo)) (last : Nat) : Array CpInfo := ⟨poolList es last⟩
def fileOf (pool : Array CpInfo) (this : Nat) (attrs : Array Attribute := #[]) (ms : Array MethodInfo := #[]) (fl : Nat := 33) (sup : Nat := 0) (ifs : Array Nat := #[]) (fds : Array FieldInfo := #[]) : ClassFile where
  minorVersion := 0
  majorVersion := 65
  constantPool := pool
  accessFlags := fl
  thisClass := this
  superClass := sup
  interfaces := ifs
  fields := fds
  methods := ms
  attributes := attrs
def plain (name : String) (sup : Option ClassId) : Class where
  name := name
  kind := .ordinary
  loader := none
  accessFlags := 33
  super := sup
  interfaces := #[]
  cf := none
  fields := #[]
  methods := #[]
  instanceTypes := #[]
  staticTypes := #[]
  resolved := #[]
  callSites := []
  init := .initialized
  statics := none
  mirror := none

def pool0 : Array CpInfo := pool [(5, u "<init>"), (0, u "()V"), (1, .class_ 10), (1, u "java/lang/Object")] 113

def k0c0 : Code := { maxStack := 0, maxLocals := 1, code := object_method_1_code, exceptionTable := #[], attributes := #[] }
def k0m0 : Method := { name := "<init>", desc := "()V", sig := { parameters := [], returnType := none }, accessFlags := 1, code := some k0c0 }
/-- java/lang/Object -/
def k0 : Class := { plain "java/lang/Object" none with
  accessFlags := 33
  interfaces := #[]
  cf := some (fileOf pool0 8 #[] #[{ accessFlags := 1, nameIndex := 5, descriptorIndex := 6, attributes := #[] }] 33 0 #[] #[])
  fields := #[]
  methods := #[k0m0]
  instanceTypes := #[]
  staticTypes := #[]
  resolved := Array.replicate 124 none
  statics := none }

def pool1 : Array CpInfo := pool [(2, .class_ 4), (1, u "java/lang/Object"), (0, u "<init>"), (0, u "()V"), (0, .long 255), (1, .class_ 10), (0, u "java/lang/String"), (0, .methodref 9 12), (0, .nameAndType 5 13), (0, u "([C)V"), (0, .methodref 15 16), (0, .class_ 17), (0, .nameAndType 18 19), (0, u "com/example/tutti/tutti/cli/CommandLineIsVerbosePinLaw"), (0, u "fb"), (0, u "(JI)C"), (0, .integer 2147483647), (0, .integer 65535), (0, .methodref 15 23), (0, .nameAndType 24 25), (0, u "str"), (0, u "([CI)Ljava/lang/String;"), (0, .methodref 27 28), (0, .class_ 29), (0, .nameAndType 30 31), (0, u "com/example/tutti/tutti/cli/CommandLine"), (0, u "isVerbose"), (0, u "(Ljava/lang/String;)Z"), (3, u "law"), (0, u "(IIIIJ)Z")] 4

def k1m0 : Method := { name := "<init>", desc := "()V", sig := { parameters := [], returnType := none }, accessFlags := 1, code := none }
def k1c1 : Code := { maxStack := 4, maxLocals := 3, code := method_2_code, exceptionTable := #[], attributes := #[] }
def k1m1 : Method := { name := "fb", desc := "(JI)C", sig := { parameters := [.long, .int], returnType := some .char }, accessFlags := 10, code := some k1c1 }
def k1c2 : Code := { maxStack := 7, maxLocals := 2, code := method_3_code, exceptionTable := #[], attributes := #[] }
def k1m2 : Method := { name := "str", desc := "([CI)Ljava/lang/String;", sig := { parameters := [(.array .char), .int], returnType := some (.object "java/lang/String") }, accessFlags := 10, code := some k1c2 }
def k1c3 : Code := { maxStack := 5, maxLocals := 15, code := code, exceptionTable := #[], attributes := #[] }
def k1m3 : Method := { name := "law", desc := "(IIIIJ)Z", sig := { parameters := [.int, .int, .int, .int, .long], returnType := some .boolean }, accessFlags := 9, code := some k1c3 }
/-- com/example/tutti/tutti/cli/CommandLineIsVerbosePinLaw -/
def k1 : Class := { plain "com/example/tutti/tutti/cli/CommandLineIsVerbosePinLaw" (some 0) with
  accessFlags := 49
  interfaces := #[]
  cf := some (fileOf pool1 15 #[] #[{ accessFlags := 1, nameIndex := 5, descriptorIndex := 6, attributes := #[] }, { accessFlags := 10, nameIndex := 18, descriptorIndex := 19, attributes := #[] }, { accessFlags := 10, nameIndex := 24, descriptorIndex := 25, attributes := #[] }, { accessFlags := 9, nameIndex := 35, descriptorIndex := 36, attributes := #[] }] 49 2 #[] #[])
  fields := #[]
  methods := #[k1m0, k1m1, k1m2, k1m3]
  instanceTypes := #[]
  staticTypes := #[]
  resolved := Array.replicate 41 none
  statics := none }

def pool2 : Array CpInfo := pool [(1, .class_ 2), (0, u "java/io/Serializable"), (0, .class_ 4), (0, u "java/lang/Object")] 2

/-- java/io/Serializable -/
def k2 : Class := { plain "java/io/Serializable" (some 0) with
  accessFlags := 1537
  interfaces := #[]
  cf := some (fileOf pool2 1 #[] #[] 1537 3 #[] #[])
  fields := #[]
  methods := #[]
  instanceTypes := #[]
  staticTypes := #[]
  resolved := Array.replicate 7 none
  statics := none }

def pool3 : Array CpInfo := pool [(1, .class_ 2), (0, u "java/lang/Comparable"), (0, .class_ 4), (0, u "java/lang/Object")] 7

/-- java/lang/Comparable -/
def k3 : Class := { plain "java/lang/Comparable" (some 0) with
  accessFlags := 1537
  interfaces := #[]
  cf := some (fileOf pool3 1 #[] #[] 1537 3 #[] #[])
  fields := #[]
  methods := #[]
  instanceTypes := #[]
  staticTypes := #[]
  resolved := Array.replicate 12 none
  statics := none }

def pool4 : Array CpInfo := pool [(2, .class_ 4), (1, u "java/lang/CharSequence"), (42, .class_ 48), (0, u "java/lang/CharSequence$1CodePointIterator"), (10, .class_ 60), (0, u "java/lang/CharSequence$1CharIterator"), (5, .class_ 67), (0, u "java/lang/Object")] 63

/-- java/lang/CharSequence -/
def k4 : Class := { plain "java/lang/CharSequence" (some 0) with
  accessFlags := 1537
  interfaces := #[]
  cf := some (fileOf pool4 2 #[.nestMembers #[47, 59]] #[] 1537 66 #[] #[])
  fields := #[]
  methods := #[]
  instanceTypes := #[]
  staticTypes := #[]
  resolved := Array.replicate 131 none
  statics := none }

def pool5 : Array CpInfo := pool [(1, .class_ 2), (0, u "java/lang/constant/Constable"), (0, .class_ 4), (0, u "java/lang/Object")] 6

/-- java/lang/constant/Constable -/
def k5 : Class := { plain "java/lang/constant/Constable" (some 0) with
  accessFlags := 1537
  interfaces := #[]
  cf := some (fileOf pool5 1 #[] #[] 1537 3 #[] #[])
  fields := #[]
  methods := #[]
  instanceTypes := #[]
  staticTypes := #[]
  resolved := Array.replicate 11 none
  statics := none }

def pool6 : Array CpInfo := pool [(1, .class_ 2), (0, u "java/lang/constant/ConstantDesc"), (0, .class_ 4), (0, u "java/lang/Object")] 32

/-- java/lang/constant/ConstantDesc -/
def k6 : Class := { plain "java/lang/constant/ConstantDesc" (some 0) with
  accessFlags := 1537
  interfaces := #[]
  cf := some (fileOf pool6 1 #[] #[] 1537 3 #[] #[])
  fields := #[]
  methods := #[]
  instanceTypes := #[]
  staticTypes := #[]
  resolved := Array.replicate 37 none
  statics := none }

def pool7 : Array CpInfo := pool [(1, .methodref 2 3), (0, .class_ 4), (0, .nameAndType 5 6), (0, u "java/lang/Object"), (0, u "<init>"), (0, u "()V"), (0, .string 8), (0, u ""), (0, .fieldref 10 11), (0, .class_ 12), (0, .nameAndType 13 14), (0, u "java/lang/String"), (0, u "value"), (0, u "[B"), (0, .fieldref 10 16), (0, .nameAndType 17 18), (0, u "coder"), (0, u "B"), (2, u "hash"), (0, u "I"), (2, u "hashIsZero"), (0, u "Z"), (0, .methodref 10 28), (0, .nameAndType 5 29), (0, u "([CIILjava/lang/Void;)V"), (8, .fieldref 10 39), (0, .nameAndType 40 26), (0, u "COMPACT_STRINGS"), (1, .class_ 44), (1, u "java/lang/StringUTF16"), (0, u "compress"), (1, .methodref 42 48), (0, .nameAndType 49 50), (0, u "coderFromArrayLen"), (0, u "([BI)B"), (56, .class_ 109), (1, u "java/lang/StringLatin1"), (67, .methodref 42 178), (0, .nameAndType 45 179), (0, u "([CII)[B"), (361, .methodref 107 542), (0, .nameAndType 543 544), (0, u "equals"), (0, u "([B[B)Z"), (28, u "(Ljava/lang/Object;)Z"), (1, .class_ 576), (0, u "java/lang/CharSequence"), (22, u "CASE_INSENSITIVE_ORDER"), (0, u "Ljava/util/Comparator;"), (409, u "([C)V"), (90, u "serialPersistentFields"), (0, u "[Ljava/io/ObjectStreamField;"), (0, .class_ 1104), (0, u "java/lang/String$CaseInsensitiveComparator"), (1, .class_ 1107), (0, u "java/io/Serializable"), (0, .class_ 1109), (0, u "java/lang/Comparable"), (0, .class_ 1111), (0, u "java/lang/constant/Constable"), (0, .class_ 1113), (0, u "java/lang/constant/ConstantDesc"), (2, u "serialVersionUID"), (0, u "J"), (3, u "REPL"), (0, u "C"), (2, u "LATIN1"), (1, u "UTF16")] 323

def k7m0 : Method := { name := "<init>", desc := "()V", sig := { parameters := [], returnType := none }, accessFlags := 1, code := none }
def k7c1 : Code := { maxStack := 5, maxLocals := 2, code := jdk_42_method_3_code, exceptionTable := #[], attributes := #[] }
def k7m1 : Method := { name := "<init>", desc := "([C)V", sig := { parameters := [(.array .char)], returnType := none }, accessFlags := 1, code := some k7c1 }
def k7c2 : Code := { maxStack := 2, maxLocals := 3, code := jdk_42_method_66_code, exceptionTable := #[], attributes := #[] }
def k7m2 : Method := { name := "equals", desc := "(Ljava/lang/Object;)Z", sig := { parameters := [(.object "java/lang/Object")], returnType := some .boolean }, accessFlags := 1, code := some k7c2 }
def k7c3 : Code := { maxStack := 4, maxLocals := 6, code := jdk_42_method_149_code, exceptionTable := #[], attributes := #[] }
def k7m3 : Method := { name := "<init>", desc := "([CIILjava/lang/Void;)V", sig := { parameters := [(.array .char), .int, .int, (.object "java/lang/Void")], returnType := none }, accessFlags := 2, code := some k7c3 }
/-- java/lang/String -/
def k7 : Class := { plain "java/lang/String" (some 0) with
  accessFlags := 49
  interfaces := #[2, 3, 4, 5, 6]
  cf := some (fileOf pool7 10 #[.nestMembers #[1103]] #[{ accessFlags := 1, nameIndex := 5, descriptorIndex := 6, attributes := #[] }, { accessFlags := 1, nameIndex := 5, descriptorIndex := 1010, attributes := #[] }, { accessFlags := 1, nameIndex := 543, descriptorIndex := 573, attributes := #[] }, { accessFlags := 2, nameIndex := 5, descriptorIndex := 29, attributes := #[] }] 49 2 #[1106, 1108, 575, 1110, 1112] #[{ accessFlags := 18, nameIndex := 13, descriptorIndex := 14, attributes := #[] }, { accessFlags := 18, nameIndex := 17, descriptorIndex := 18, attributes := #[] }, { accessFlags := 2, nameIndex := 21, descriptorIndex := 22, attributes := #[] }, { accessFlags := 2, nameIndex := 25, descriptorIndex := 26, attributes := #[] }, { accessFlags := 26, nameIndex := 1116, descriptorIndex := 1117, attributes := #[] }, { accessFlags := 24, nameIndex := 40, descriptorIndex := 26, attributes := #[] }, { accessFlags := 26, nameIndex := 1101, descriptorIndex := 1102, attributes := #[] }, { accessFlags := 26, nameIndex := 1121, descriptorIndex := 1122, attributes := #[] }, { accessFlags := 25, nameIndex := 599, descriptorIndex := 600, attributes := #[] }, { accessFlags := 24, nameIndex := 1125, descriptorIndex := 18, attributes := #[] }, { accessFlags := 24, nameIndex := 1127, descriptorIndex := 18, attributes := #[] }])
  fields := #[{ name := "value", type := (.array .byte), accessFlags := 18, slot := 0, constantValue := 0 }, { name := "coder", type := .byte, accessFlags := 18, slot := 1, constantValue := 0 }, { name := "hash", type := .int, accessFlags := 2, slot := 2, constantValue := 0 }, { name := "hashIsZero", type := .boolean, accessFlags := 2, slot := 3, constantValue := 0 }, { name := "serialVersionUID", type := .long, accessFlags := 26, slot := 0, constantValue := 0 }, { name := "COMPACT_STRINGS", type := .boolean, accessFlags := 24, slot := 1, constantValue := 0 }, { name := "serialPersistentFields", type := (.array (.object "java/io/ObjectStreamField")), accessFlags := 26, slot := 2, constantValue := 0 }, { name := "REPL", type := .char, accessFlags := 26, slot := 3, constantValue := 0 }, { name := "CASE_INSENSITIVE_ORDER", type := (.object "java/util/Comparator"), accessFlags := 25, slot := 4, constantValue := 0 }, { name := "LATIN1", type := .byte, accessFlags := 24, slot := 5, constantValue := 0 }, { name := "UTF16", type := .byte, accessFlags := 24, slot := 6, constantValue := 0 }]
  methods := #[k7m0, k7m1, k7m2, k7m3]
  instanceTypes := #[(.array .byte), .byte, .int, .boolean]
  staticTypes := #[.long, .boolean, (.array (.object "java/io/ObjectStreamField")), .char, (.object "java/util/Comparator"), .byte, .byte]
  resolved := Array.replicate 1451 none
  statics := some 0 }

def pool8 : Array CpInfo := pool [(6, .class_ 8), (1, u "java/lang/Object"), (0, u "<init>"), (0, u "()V"), (0, .methodref 12 13), (0, .class_ 14), (0, .nameAndType 15 16), (0, u "java/lang/StringUTF16"), (0, u "newBytesLength"), (0, u "(I)I"), (3, .integer 1073741823), (23, .fieldref 12 45), (0, .nameAndType 46 47), (0, u "$assertionsDisabled"), (0, u "Z"), (11, .fieldref 12 60), (0, .nameAndType 61 62), (0, u "HI_BYTE_SHIFT"), (0, u "I"), (0, .fieldref 12 64), (0, .nameAndType 65 62), (0, u "LO_BYTE_SHIFT"), (5, .methodref 12 72), (0, .nameAndType 73 74), (0, u "getChar"), (0, u "([BI)C"), (32, .methodref 12 108), (0, .nameAndType 109 110), (0, u "newBytesFor"), (0, u "(I)[B"), (0, .methodref 12 112), (0, .nameAndType 113 114), (0, u "putChar"), (0, u "([BII)V"), (0, .methodref 12 116), (0, .nameAndType 117 118), (0, u "compress"), (0, u "([CI[BII)I"), (0, .methodref 12 120), (0, .nameAndType 121 122), (0, u "toBytes"), (0, u "([CII)[B"), (138, u "coderFromArrayLen"), (0, u "([BI)B"), (106, .class_ 371), (1, u "java/lang/StringUTF16$LinesSpliterator"), (58, u "MAX_LENGTH"), (196, .class_ 628), (0, u "java/lang/StringUTF16$CodePointsSpliterator"), (0, .class_ 630), (0, u "java/lang/StringUTF16$CharsSpliterator")] 4

def k8m0 : Method := { name := "<init>", desc := "()V", sig := { parameters := [], returnType := none }, accessFlags := 0, code := none }
def k8c1 : Code := { maxStack := 1, maxLocals := 1, code := jdk_52_method_2_code, exceptionTable := #[], attributes := #[] }
def k8m1 : Method := { name := "newBytesFor", desc := "(I)[B", sig := { parameters := [.int], returnType := some (.array .byte) }, accessFlags := 9, code := some k8c1 }
def k8c2 : Code := { maxStack := 4, maxLocals := 1, code := jdk_52_method_3_code, exceptionTable := #[], attributes := #[] }
def k8m2 : Method := { name := "newBytesLength", desc := "(I)I", sig := { parameters := [.int], returnType := some .int }, accessFlags := 9, code := some k8c2 }
def k8c3 : Code := { maxStack := 4, maxLocals := 3, code := jdk_52_method_4_code, exceptionTable := #[], attributes := #[] }
def k8m3 : Method := { name := "putChar", desc := "([BII)V", sig := { parameters := [(.array .byte), .int, .int], returnType := none }, accessFlags := 8, code := some k8c3 }
def k8c4 : Code := { maxStack := 3, maxLocals := 2, code := jdk_52_method_5_code, exceptionTable := #[], attributes := #[] }
def k8m4 : Method := { name := "getChar", desc := "([BI)C", sig := { parameters := [(.array .byte), .int], returnType := some .char }, accessFlags := 8, code := some k8c4 }
def k8c5 : Code := { maxStack := 4, maxLocals := 5, code := jdk_52_method_14_code, exceptionTable := #[], attributes := #[] }
def k8m5 : Method := { name := "toBytes", desc := "([CII)[B", sig := { parameters := [(.array .char), .int, .int], returnType := some (.array .byte) }, accessFlags := 9, code := some k8c5 }
def k8c6 : Code := { maxStack := 2, maxLocals := 2, code := jdk_52_method_15_code, exceptionTable := #[], attributes := #[] }
def k8m6 : Method := { name := "coderFromArrayLen", desc := "([BI)B", sig := { parameters := [(.array .byte), .int], returnType := some .byte }, accessFlags := 8, code := some k8c6 }
def k8c7 : Code := { maxStack := 5, maxLocals := 6, code := jdk_52_method_16_code, exceptionTable := #[], attributes := #[] }
def k8m7 : Method := { name := "compress", desc := "([CII)[B", sig := { parameters := [(.array .char), .int, .int], returnType := some (.array .byte) }, accessFlags := 9, code := some k8c7 }
def k8c8 : Code := { maxStack := 3, maxLocals := 7, code := jdk_52_method_21_code, exceptionTable := #[], attributes := #[] }
def k8m8 : Method := { name := "compress", desc := "([CI[BII)I", sig := { parameters := [(.array .char), .int, (.array .byte), .int, .int], returnType := some .int }, accessFlags := 9, code := some k8c8 }
/-- java/lang/StringUTF16 -/
def k8 : Class := { plain "java/lang/StringUTF16" (some 0) with
  accessFlags := 48
  interfaces := #[]
  cf := some (fileOf pool8 12 #[.nestMembers #[627, 629, 369]] #[{ accessFlags := 0, nameIndex := 9, descriptorIndex := 10, attributes := #[] }, { accessFlags := 9, nameIndex := 109, descriptorIndex := 110, attributes := #[] }, { accessFlags := 9, nameIndex := 15, descriptorIndex := 16, attributes := #[] }, { accessFlags := 8, nameIndex := 113, descriptorIndex := 114, attributes := #[] }, { accessFlags := 8, nameIndex := 73, descriptorIndex := 74, attributes := #[] }, { accessFlags := 9, nameIndex := 121, descriptorIndex := 122, attributes := #[] }, { accessFlags := 8, nameIndex := 261, descriptorIndex := 262, attributes := #[] }, { accessFlags := 9, nameIndex := 117, descriptorIndex := 122, attributes := #[] }, { accessFlags := 9, nameIndex := 117, descriptorIndex := 118, attributes := #[] }] 48 6 #[] #[{ accessFlags := 26, nameIndex := 61, descriptorIndex := 62, attributes := #[] }, { accessFlags := 26, nameIndex := 65, descriptorIndex := 62, attributes := #[] }, { accessFlags := 24, nameIndex := 430, descriptorIndex := 62, attributes := #[] }, { accessFlags := 4120, nameIndex := 46, descriptorIndex := 47, attributes := #[] }])
  fields := #[{ name := "HI_BYTE_SHIFT", type := .int, accessFlags := 26, slot := 0, constantValue := 0 }, { name := "LO_BYTE_SHIFT", type := .int, accessFlags := 26, slot := 1, constantValue := 0 }, { name := "MAX_LENGTH", type := .int, accessFlags := 24, slot := 2, constantValue := 0 }, { name := "$assertionsDisabled", type := .boolean, accessFlags := 4120, slot := 3, constantValue := 0 }]
  methods := #[k8m0, k8m1, k8m2, k8m3, k8m4, k8m5, k8m6, k8m7, k8m8]
  instanceTypes := #[]
  staticTypes := #[.int, .int, .int, .boolean]
  resolved := Array.replicate 635 none
  statics := some 1 }

def pool9 : Array CpInfo := pool [(2, .class_ 4), (1, u "java/lang/Object"), (0, u "<init>"), (0, u "()V"), (0, .class_ 8), (0, u "java/lang/Record")] 13

def k9m0 : Method := { name := "<init>", desc := "()V", sig := { parameters := [], returnType := none }, accessFlags := 4, code := none }
/-- java/lang/Record -/
def k9 : Class := { plain "java/lang/Record" (some 0) with
  accessFlags := 1057
  interfaces := #[]
  cf := some (fileOf pool9 7 #[] #[{ accessFlags := 4, nameIndex := 5, descriptorIndex := 6, attributes := #[] }] 1057 2 #[] #[])
  fields := #[]
  methods := #[k9m0]
  instanceTypes := #[]
  staticTypes := #[]
  resolved := Array.replicate 22 none
  statics := none }

def pool10 : Array CpInfo := pool [(2, .class_ 4), (1, u "java/lang/Record"), (3, .class_ 10), (1, u "com/example/tutti/tutti/cli/CommandLine"), (0, u "values"), (0, u "Ljava/util/Map;"), (2, u "operands"), (0, u "Ljava/util/List;"), (2, u "verbose"), (0, u "Z"), (16, .class_ 38), (0, u "java/lang/String"), (9, u "(Ljava/lang/Object;)Z"), (5, .class_ 56), (1, u "com/example/tutti/tutti/cli/CommandLine$Option"), (7, u "(Ljava/lang/String;)Z"), (19, u "isVerbose"), (23, .string 109), (0, u "--verbose"), (0, .methodref 37 111), (0, .nameAndType 112 48), (0, u "equals"), (0, .string 114), (0, u "-v"), (32, u "VERBOSE"), (0, u "Ljava/lang/String;"), (1, u "VERBOSE_SHORT")] 50

def k10c0 : Code := { maxStack := 2, maxLocals := 1, code := prog_2_method_5_code, exceptionTable := #[], attributes := #[] }
def k10m0 : Method := { name := "isVerbose", desc := "(Ljava/lang/String;)Z", sig := { parameters := [(.object "java/lang/String")], returnType := some .boolean }, accessFlags := 8, code := some k10c0 }
/-- com/example/tutti/tutti/cli/CommandLine -/
def k10 : Class := { plain "com/example/tutti/tutti/cli/CommandLine" (some 9) with
  accessFlags := 48
  interfaces := #[]
  cf := some (fileOf pool10 8 #[.nestMembers #[54]] #[{ accessFlags := 8, nameIndex := 84, descriptorIndex := 64, attributes := #[] }] 48 2 #[] #[{ accessFlags := 18, nameIndex := 11, descriptorIndex := 12, attributes := #[] }, { accessFlags := 18, nameIndex := 15, descriptorIndex := 16, attributes := #[] }, { accessFlags := 18, nameIndex := 19, descriptorIndex := 20, attributes := #[] }, { accessFlags := 24, nameIndex := 147, descriptorIndex := 148, attributes := #[] }, { accessFlags := 24, nameIndex := 150, descriptorIndex := 148, attributes := #[] }])
  fields := #[{ name := "values", type := (.object "java/util/Map"), accessFlags := 18, slot := 0, constantValue := 0 }, { name := "operands", type := (.object "java/util/List"), accessFlags := 18, slot := 1, constantValue := 0 }, { name := "verbose", type := .boolean, accessFlags := 18, slot := 2, constantValue := 0 }, { name := "VERBOSE", type := (.object "java/lang/String"), accessFlags := 24, slot := 0, constantValue := 0 }, { name := "VERBOSE_SHORT", type := (.object "java/lang/String"), accessFlags := 24, slot := 1, constantValue := 0 }]
  methods := #[k10m0]
  instanceTypes := #[(.object "java/util/Map"), (.object "java/util/List"), .boolean]
  staticTypes := #[(.object "java/lang/String"), (.object "java/lang/String")]
  resolved := Array.replicate 201 none
  statics := none }

def pool11 : Array CpInfo := pool [(4, .class_ 6), (1, u "java/lang/Object"), (0, u "<init>"), (0, u "()V"), (5, .class_ 16), (1, u "java/lang/StringLatin1"), (104, u "$assertionsDisabled"), (0, u "Z"), (98, .class_ 223), (1, u "java/lang/StringLatin1$LinesSpliterator"), (57, u "equals"), (0, u "([B[B)Z"), (107, .class_ 391), (0, u "java/lang/StringLatin1$CharsSpliterator")] 3

def k11m0 : Method := { name := "<init>", desc := "()V", sig := { parameters := [], returnType := none }, accessFlags := 0, code := none }
def k11c1 : Code := { maxStack := 3, maxLocals := 3, code := jdk_43_method_13_code, exceptionTable := #[], attributes := #[] }
def k11m1 : Method := { name := "equals", desc := "([B[B)Z", sig := { parameters := [(.array .byte), (.array .byte)], returnType := some .boolean }, accessFlags := 9, code := some k11c1 }
/-- java/lang/StringLatin1 -/
def k11 : Class := { plain "java/lang/StringLatin1" (some 0) with
  accessFlags := 48
  interfaces := #[]
  cf := some (fileOf pool11 14 #[.nestMembers #[390, 221]] #[{ accessFlags := 0, nameIndex := 7, descriptorIndex := 8, attributes := #[] }, { accessFlags := 9, nameIndex := 281, descriptorIndex := 282, attributes := #[] }] 48 4 #[] #[{ accessFlags := 4120, nameIndex := 121, descriptorIndex := 122, attributes := #[] }])
  fields := #[{ name := "$assertionsDisabled", type := .boolean, accessFlags := 4120, slot := 0, constantValue := 0 }]
  methods := #[k11m0, k11m1]
  instanceTypes := #[]
  staticTypes := #[.boolean]
  resolved := Array.replicate 395 none
  statics := none }

def pool12 : Array CpInfo := pool [(2, .class_ 4), (1, u "java/lang/Object"), (0, u "<init>"), (0, u "()V"), (17, .class_ 26), (1, u "jdk/internal/util/Preconditions"), (28, .class_ 56), (0, u "jdk/internal/util/Preconditions$4"), (57, .class_ 115), (0, u "jdk/internal/util/Preconditions$1"), (7, u "SIOOBE_FORMATTER"), (0, u "Ljava/util/function/BiFunction;"), (0, .class_ 126), (0, u "jdk/internal/util/Preconditions$2"), (3, u "AIOOBE_FORMATTER"), (0, .class_ 132), (0, u "jdk/internal/util/Preconditions$3"), (3, u "IOOBE_FORMATTER")] 57

def k12m0 : Method := { name := "<init>", desc := "()V", sig := { parameters := [], returnType := none }, accessFlags := 1, code := none }
/-- jdk/internal/util/Preconditions -/
def k12 : Class := { plain "jdk/internal/util/Preconditions" (some 0) with
  accessFlags := 33
  interfaces := #[]
  cf := some (fileOf pool12 24 #[.nestMembers #[55, 131, 125, 114]] #[{ accessFlags := 1, nameIndex := 5, descriptorIndex := 6, attributes := #[] }] 33 2 #[] #[{ accessFlags := 25, nameIndex := 123, descriptorIndex := 124, attributes := #[] }, { accessFlags := 25, nameIndex := 130, descriptorIndex := 124, attributes := #[] }, { accessFlags := 25, nameIndex := 136, descriptorIndex := 124, attributes := #[] }])
  fields := #[{ name := "SIOOBE_FORMATTER", type := (.object "java/util/function/BiFunction"), accessFlags := 25, slot := 0, constantValue := 0 }, { name := "AIOOBE_FORMATTER", type := (.object "java/util/function/BiFunction"), accessFlags := 25, slot := 1, constantValue := 0 }, { name := "IOOBE_FORMATTER", type := (.object "java/util/function/BiFunction"), accessFlags := 25, slot := 2, constantValue := 0 }]
  methods := #[k12m0]
  instanceTypes := #[]
  staticTypes := #[(.object "java/util/function/BiFunction"), (.object "java/util/function/BiFunction"), (.object "java/util/function/BiFunction")]
  resolved := Array.replicate 194 none
  statics := some 2 }

def pool13 : Array CpInfo := pool [(9, u "<init>"), (6, .class_ 18), (1, u "java/lang/Object"), (0, u "()V"), (1, .class_ 23), (1, u "jdk/internal/util/ArraysSupport"), (0, u "LOG2_ARRAY_LONG_INDEX_SCALE"), (0, u "I"), (2, u "U"), (0, u "Ljdk/internal/misc/Unsafe;"), (8, u "BIG_ENDIAN"), (0, u "Z"), (8, u "LOG2_BYTE_BIT_SIZE"), (4, u "LOG2_ARRAY_INT_INDEX_SCALE"), (54, u "JLA"), (0, u "Ljdk/internal/access/JavaLangAccess;"), (11, u "LOG2_ARRAY_BOOLEAN_INDEX_SCALE"), (9, u "LOG2_ARRAY_BYTE_INDEX_SCALE"), (5, u "LOG2_ARRAY_CHAR_INDEX_SCALE"), (5, u "LOG2_ARRAY_SHORT_INDEX_SCALE"), (18, u "LOG2_ARRAY_FLOAT_INDEX_SCALE"), (24, u "LOG2_ARRAY_DOUBLE_INDEX_SCALE"), (89, u "T_BOOLEAN"), (2, u "T_CHAR"), (1, u "T_FLOAT"), (1, u "T_DOUBLE"), (1, u "T_BYTE"), (1, u "T_SHORT"), (1, u "T_INT"), (1, u "T_LONG"), (1, u "SOFT_MAX_ARRAY_LENGTH")] 83

def k13m0 : Method := { name := "<init>", desc := "()V", sig := { parameters := [], returnType := none }, accessFlags := 2, code := none }
/-- jdk/internal/util/ArraysSupport -/
def k13 : Class := { plain "jdk/internal/util/ArraysSupport" (some 0) with
  accessFlags := 33
  interfaces := #[]
  cf := some (fileOf pool13 21 #[] #[{ accessFlags := 2, nameIndex := 9, descriptorIndex := 19, attributes := #[] }] 33 16 #[] #[{ accessFlags := 24, nameIndex := 28, descriptorIndex := 29, attributes := #[] }, { accessFlags := 26, nameIndex := 38, descriptorIndex := 39, attributes := #[] }, { accessFlags := 25, nameIndex := 121, descriptorIndex := 25, attributes := #[] }, { accessFlags := 25, nameIndex := 131, descriptorIndex := 25, attributes := #[] }, { accessFlags := 25, nameIndex := 137, descriptorIndex := 25, attributes := #[] }, { accessFlags := 25, nameIndex := 143, descriptorIndex := 25, attributes := #[] }, { accessFlags := 25, nameIndex := 53, descriptorIndex := 25, attributes := #[] }, { accessFlags := 25, nameIndex := 24, descriptorIndex := 25, attributes := #[] }, { accessFlags := 25, nameIndex := 162, descriptorIndex := 25, attributes := #[] }, { accessFlags := 25, nameIndex := 187, descriptorIndex := 25, attributes := #[] }, { accessFlags := 26, nameIndex := 48, descriptorIndex := 25, attributes := #[] }, { accessFlags := 25, nameIndex := 277, descriptorIndex := 25, attributes := #[] }, { accessFlags := 25, nameIndex := 280, descriptorIndex := 25, attributes := #[] }, { accessFlags := 25, nameIndex := 282, descriptorIndex := 25, attributes := #[] }, { accessFlags := 25, nameIndex := 284, descriptorIndex := 25, attributes := #[] }, { accessFlags := 25, nameIndex := 286, descriptorIndex := 25, attributes := #[] }, { accessFlags := 25, nameIndex := 288, descriptorIndex := 25, attributes := #[] }, { accessFlags := 25, nameIndex := 290, descriptorIndex := 25, attributes := #[] }, { accessFlags := 25, nameIndex := 292, descriptorIndex := 25, attributes := #[] }, { accessFlags := 26, nameIndex := 108, descriptorIndex := 109, attributes := #[] }, { accessFlags := 25, nameIndex := 294, descriptorIndex := 25, attributes := #[] }])
  fields := #[{ name := "U", type := (.object "jdk/internal/misc/Unsafe"), accessFlags := 24, slot := 0, constantValue := 0 }, { name := "BIG_ENDIAN", type := .boolean, accessFlags := 26, slot := 1, constantValue := 0 }, { name := "LOG2_ARRAY_BOOLEAN_INDEX_SCALE", type := .int, accessFlags := 25, slot := 2, constantValue := 0 }, { name := "LOG2_ARRAY_BYTE_INDEX_SCALE", type := .int, accessFlags := 25, slot := 3, constantValue := 0 }, { name := "LOG2_ARRAY_CHAR_INDEX_SCALE", type := .int, accessFlags := 25, slot := 4, constantValue := 0 }, { name := "LOG2_ARRAY_SHORT_INDEX_SCALE", type := .int, accessFlags := 25, slot := 5, constantValue := 0 }, { name := "LOG2_ARRAY_INT_INDEX_SCALE", type := .int, accessFlags := 25, slot := 6, constantValue := 0 }, { name := "LOG2_ARRAY_LONG_INDEX_SCALE", type := .int, accessFlags := 25, slot := 7, constantValue := 0 }, { name := "LOG2_ARRAY_FLOAT_INDEX_SCALE", type := .int, accessFlags := 25, slot := 8, constantValue := 0 }, { name := "LOG2_ARRAY_DOUBLE_INDEX_SCALE", type := .int, accessFlags := 25, slot := 9, constantValue := 0 }, { name := "LOG2_BYTE_BIT_SIZE", type := .int, accessFlags := 26, slot := 10, constantValue := 0 }, { name := "T_BOOLEAN", type := .int, accessFlags := 25, slot := 11, constantValue := 0 }, { name := "T_CHAR", type := .int, accessFlags := 25, slot := 12, constantValue := 0 }, { name := "T_FLOAT", type := .int, accessFlags := 25, slot := 13, constantValue := 0 }, { name := "T_DOUBLE", type := .int, accessFlags := 25, slot := 14, constantValue := 0 }, { name := "T_BYTE", type := .int, accessFlags := 25, slot := 15, constantValue := 0 }, { name := "T_SHORT", type := .int, accessFlags := 25, slot := 16, constantValue := 0 }, { name := "T_INT", type := .int, accessFlags := 25, slot := 17, constantValue := 0 }, { name := "T_LONG", type := .int, accessFlags := 25, slot := 18, constantValue := 0 }, { name := "JLA", type := (.object "jdk/internal/access/JavaLangAccess"), accessFlags := 26, slot := 19, constantValue := 0 }, { name := "SOFT_MAX_ARRAY_LENGTH", type := .int, accessFlags := 25, slot := 20, constantValue := 0 }]
  methods := #[k13m0]
  instanceTypes := #[]
  staticTypes := #[(.object "jdk/internal/misc/Unsafe"), .boolean, .int, .int, .int, .int, .int, .int, .int, .int, .int, .int, .int, .int, .int, .int, .int, .int, .int, (.object "jdk/internal/access/JavaLangAccess"), .int]
  resolved := Array.replicate 378 none
  statics := none }

def pool14 : Array CpInfo := pool [(1, u "java/lang/Cloneable"), (0, .class_ 1), (0, u "java/lang/Object"), (0, .class_ 3)] 3

/-- java/lang/Cloneable -/
def k14 : Class := { plain "java/lang/Cloneable" (some 0) with
  accessFlags := 1537
  interfaces := #[]
  cf := some (fileOf pool14 2 #[] #[] 1537 4 #[] #[])
  fields := #[]
  methods := #[]
  instanceTypes := #[]
  staticTypes := #[]
  resolved := Array.replicate 8 none
  statics := none }

/-- the primitive byte -/
def k15 : Class := { plain "byte" none with kind := .primitive 'B', accessFlags := 0x411 }
/-- [B -/
def k16 : Class := { plain "[B" (some 0) with kind := .array 15 .byte, interfaces := #[14, 2], accessFlags := 1041 }

/-- the primitive char -/
def k17 : Class := { plain "char" none with kind := .primitive 'C', accessFlags := 0x411 }
/-- [C -/
def k18 : Class := { plain "[C" (some 0) with kind := .array 17 .char, interfaces := #[14, 2], accessFlags := 1041 }

/-- the primitive int -/
def k19 : Class := { plain "int" none with kind := .primitive 'I', accessFlags := 0x411 }
/-- [I -/
def k20 : Class := { plain "[I" (some 0) with kind := .array 19 .int, interfaces := #[14, 2], accessFlags := 1041 }

def heap : Heap := #[{ cls := 7, slots := #[.long 0, .int 1, .null, .int 0, .null, .int 0, .int 0], vm := .statics 7 },
  { cls := 8, slots := #[.int 0, .int 8, .int 0, .int 1], vm := .statics 8 },
  { cls := 12, slots := #[.null, .null, .null], vm := .statics 12 }]
def classes : Array Class := #[k0, k1, k2, k3, k4, k5, k6, k7, k8, k9, k10, k11, k12, k13, k14, k15, k16, k17, k18, k19, k20]
def interned : List (Array UInt16 × Addr) := []
def slotsUsed : Nat := 14
def theMethod : MethodId := ⟨1, 3⟩
def args0 : Array Value := #[.int 1, .int 5, .int 65, .int 0, .long 7]
def aboutOver (below : List Frame) : State where
  vm := { classes := classes, interned := interned.toArray }
  heap := heap
  slotsUsed := slotsUsed
  threads := #[{ frames := .invoking theMethod args0 :: below }]
def below0 : List Frame := [.native { method := ⟨0, 0⟩, args := #[] }]
def about1 : State := aboutOver below0
def p0 : Program := .bare "" "" ""
def e0 : Env := launch0.env 0 0 0
theorem w_frames : about1.frames = Frame.invoking theMethod args0 :: below0 := rfl
set_option maxRecDepth 65536 in
theorem w_args : argsFit about1.vm theMethod args0 = true := by decide +kernel
set_option maxRecDepth 65536 in
theorem w_heap : heapFits about1 = true := by decide +kernel
set_option maxRecDepth 65536 in
theorem w_runnable : about1.curStatus? = some .runnable := by decide +kernel
set_option maxRecDepth 65536 in
theorem w_alone : about1.alone = true := by decide +kernel
set_option maxRecDepth 65536 in
theorem w_named : about1.methodNamed? x = some theMethod := by decide +kernel
set_option maxRecDepth 65536 in
theorem w_hears : about1.hears theMethod below0 = true := by decide +kernel
set_option maxRecDepth 65536 in
theorem w_ripe : about1.ripe theMethod args0 below0 = true := by decide +kernel
theorem w_running : about1.status = .running := rfl
set_option maxRecDepth 65536 in
theorem w_room : about1.hasRoom e0.platform room_1 = true :=
  launch0.hasRoom_least _ room_1 (by decide +kernel) (by decide +kernel) (by decide +kernel) (by decide +kernel) (by decide +kernel) (by decide +kernel)
theorem allAtoms_all (ts : List Jvm.Cond) (a : Array Jvm.Value) (st : Jvm.State) : (allAtoms ts).before a st = ts.all (fun c => c.before a st) := by
  induction ts with
  | nil => rfl
  | cons c t ih =>
    show (Jvm.Cond.and c (allAtoms t)).before a st = _
    rw [Jvm.Cond.before_and, ih, List.all_cons]
def words1 : List Jvm.Cond := Jvm.Cond.code x code maxLocals ret :: tables_1
/-- a 'code' word, met by the world's own term for the bytes: nothing is compared byte by byte -/
theorem code_word {y : MethodName} {bytes : ByteArray} {mx : Nat} {rt : Option FieldType} {a : Array Value} {s : State} {m : MethodId} {meth : Method} {c : Code} (h1 : s.methodNamed? y = some m) (h2 : s.vm.method? m = some meth) (h3 : meth.code = some c) (h4 : c.code = bytes)
    (h5 : (c.maxLocals == mx && c.exceptionTable.isEmpty && decide (c.maxStack ≤ mostOperands) && decide (meth.sig.returnType = rt) && !meth.locks && decide (parseMethodDescriptor y.desc = some meth.sig)) = true) : (Jvm.Cond.code y bytes mx rt).before a s = true := by
  simp only [Bool.and_eq_true, beq_iff_eq, Bool.not_eq_true', decide_eq_true_eq] at h5
  obtain ⟨⟨⟨⟨⟨g1, g2⟩, g3⟩, g4⟩, g5⟩, g6⟩ := h5
  simp [Cond.before, Cond.holds, Cond.value, h1, h2, h3, h4, g1, g2, g3, g4, g5, g6]
def isCode : Jvm.Cond → Bool
  | .code _ _ _ _ => true
  | _ => false
theorem all_split {L : List Jvm.Cond} {P : Jvm.Cond → Bool} (h1 : L.all (fun c => isCode c || P c) = true) (h2 : ∀ c ∈ L.filter isCode, P c = true) : L.all P = true := by
  refine List.all_eq_true.mpr fun c hc => ?_
  have h := List.all_eq_true.mp h1 c hc
  rcases Bool.eq_false_or_eq_true (isCode c) with hi | hi
  · exact h2 c (List.mem_filter.mpr ⟨hc, hi⟩)
  · simpa [hi] using h
set_option maxRecDepth 65536 in
theorem w_c0 : (Jvm.Cond.code x code maxLocals ret).before args0 about1 = true := code_word (m := ⟨1, 3⟩) (meth := k1m3) (c := k1c3) (by decide +kernel) rfl rfl rfl (by decide +kernel)
set_option maxRecDepth 65536 in
theorem w_c1 : (Jvm.Cond.code ({ cls := "com/example/tutti/tutti/cli/CommandLineIsVerbosePinLaw", name := "fb", desc := "(JI)C" } : Jvm.MethodName) method_2_code (3 : Nat) (Option.some Jvm.ClassFile.FieldType.char)).before args0 about1 = true := code_word (m := ⟨1, 1⟩) (meth := k1m1) (c := k1c1) (by decide +kernel) rfl rfl rfl (by decide +kernel)
set_option maxRecDepth 65536 in
theorem w_c2 : (Jvm.Cond.code ({ cls := "com/example/tutti/tutti/cli/CommandLineIsVerbosePinLaw", name := "str", desc := "([CI)Ljava/lang/String;" } : Jvm.MethodName) method_3_code (2 : Nat) (Option.some (Jvm.ClassFile.FieldType.object "java/lang/String"))).before args0 about1 = true := code_word (m := ⟨1, 2⟩) (meth := k1m2) (c := k1c2) (by decide +kernel) rfl rfl rfl (by decide +kernel)
set_option maxRecDepth 65536 in
theorem w_c3 : (Jvm.Cond.code ({ cls := "java/lang/String", name := "<init>", desc := "([C)V" } : Jvm.MethodName) jdk_42_method_3_code (2 : Nat) (Option.none : Option Jvm.ClassFile.FieldType)).before args0 about1 = true := code_word (m := ⟨7, 1⟩) (meth := k7m1) (c := k7c1) (by decide +kernel) rfl rfl rfl (by decide +kernel)
set_option maxRecDepth 65536 in
theorem w_c4 : (Jvm.Cond.code ({ cls := "java/lang/String", name := "<init>", desc := "([CIILjava/lang/Void;)V" } : Jvm.MethodName) jdk_42_method_149_code (6 : Nat) (Option.none : Option Jvm.ClassFile.FieldType)).before args0 about1 = true := code_word (m := ⟨7, 3⟩) (meth := k7m3) (c := k7c3) (by decide +kernel) rfl rfl rfl (by decide +kernel)
set_option maxRecDepth 65536 in
theorem w_c5 : (Jvm.Cond.code ({ cls := "java/lang/Object", name := "<init>", desc := "()V" } : Jvm.MethodName) object_method_1_code (1 : Nat) (Option.none : Option Jvm.ClassFile.FieldType)).before args0 about1 = true := code_word (m := ⟨0, 0⟩) (meth := k0m0) (c := k0c0) (by decide +kernel) rfl rfl rfl (by decide +kernel)
set_option maxRecDepth 65536 in
theorem w_c6 : (Jvm.Cond.code ({ cls := "java/lang/StringUTF16", name := "compress", desc := "([CII)[B" } : Jvm.MethodName) jdk_52_method_16_code (6 : Nat) (Option.some (Jvm.ClassFile.FieldType.array Jvm.ClassFile.FieldType.byte))).before args0 about1 = true := code_word (m := ⟨8, 7⟩) (meth := k8m7) (c := k8c7) (by decide +kernel) rfl rfl rfl (by decide +kernel)
set_option maxRecDepth 65536 in
theorem w_c7 : (Jvm.Cond.code ({ cls := "java/lang/StringUTF16", name := "compress", desc := "([CI[BII)I" } : Jvm.MethodName) jdk_52_method_21_code (7 : Nat) (Option.some Jvm.ClassFile.FieldType.int)).before args0 about1 = true := code_word (m := ⟨8, 8⟩) (meth := k8m8) (c := k8c8) (by decide +kernel) rfl rfl rfl (by decide +kernel)
set_option maxRecDepth 65536 in
theorem w_c8 : (Jvm.Cond.code ({ cls := "java/lang/StringUTF16", name := "coderFromArrayLen", desc := "([BI)B" } : Jvm.MethodName) jdk_52_method_15_code (2 : Nat) (Option.some Jvm.ClassFile.FieldType.byte)).before args0 about1 = true := code_word (m := ⟨8, 6⟩) (meth := k8m6) (c := k8c6) (by decide +kernel) rfl rfl rfl (by decide +kernel)
set_option maxRecDepth 65536 in
theorem w_c9 : (Jvm.Cond.code ({ cls := "com/example/tutti/tutti/cli/CommandLine", name := "isVerbose", desc := "(Ljava/lang/String;)Z" } : Jvm.MethodName) prog_2_method_5_code (1 : Nat) (Option.some Jvm.ClassFile.FieldType.boolean)).before args0 about1 = true := code_word (m := ⟨10, 0⟩) (meth := k10m0) (c := k10c0) (by decide +kernel) rfl rfl rfl (by decide +kernel)
set_option maxRecDepth 65536 in
theorem w_c10 : (Jvm.Cond.code ({ cls := "java/lang/String", name := "equals", desc := "(Ljava/lang/Object;)Z" } : Jvm.MethodName) jdk_42_method_66_code (3 : Nat) (Option.some Jvm.ClassFile.FieldType.boolean)).before args0 about1 = true := code_word (m := ⟨7, 2⟩) (meth := k7m2) (c := k7c2) (by decide +kernel) rfl rfl rfl (by decide +kernel)
set_option maxRecDepth 65536 in
theorem w_c11 : (Jvm.Cond.code ({ cls := "java/lang/StringLatin1", name := "equals", desc := "([B[B)Z" } : Jvm.MethodName) jdk_43_method_13_code (3 : Nat) (Option.some Jvm.ClassFile.FieldType.boolean)).before args0 about1 = true := code_word (m := ⟨11, 1⟩) (meth := k11m1) (c := k11c1) (by decide +kernel) rfl rfl rfl (by decide +kernel)
set_option maxRecDepth 65536 in
theorem w_c12 : (Jvm.Cond.code ({ cls := "java/lang/StringUTF16", name := "toBytes", desc := "([CII)[B" } : Jvm.MethodName) jdk_52_method_14_code (5 : Nat) (Option.some (Jvm.ClassFile.FieldType.array Jvm.ClassFile.FieldType.byte))).before args0 about1 = true := code_word (m := ⟨8, 5⟩) (meth := k8m5) (c := k8c5) (by decide +kernel) rfl rfl rfl (by decide +kernel)
set_option maxRecDepth 65536 in
theorem w_c13 : (Jvm.Cond.code ({ cls := "java/lang/StringUTF16", name := "newBytesFor", desc := "(I)[B" } : Jvm.MethodName) jdk_52_method_2_code (1 : Nat) (Option.some (Jvm.ClassFile.FieldType.array Jvm.ClassFile.FieldType.byte))).before args0 about1 = true := code_word (m := ⟨8, 1⟩) (meth := k8m1) (c := k8c1) (by decide +kernel) rfl rfl rfl (by decide +kernel)
set_option maxRecDepth 65536 in
theorem w_c14 : (Jvm.Cond.code ({ cls := "java/lang/StringUTF16", name := "newBytesLength", desc := "(I)I" } : Jvm.MethodName) jdk_52_method_3_code (1 : Nat) (Option.some Jvm.ClassFile.FieldType.int)).before args0 about1 = true := code_word (m := ⟨8, 2⟩) (meth := k8m2) (c := k8c2) (by decide +kernel) rfl rfl rfl (by decide +kernel)
set_option maxRecDepth 65536 in
theorem w_c15 : (Jvm.Cond.code ({ cls := "java/lang/StringUTF16", name := "putChar", desc := "([BII)V" } : Jvm.MethodName) jdk_52_method_4_code (3 : Nat) (Option.none : Option Jvm.ClassFile.FieldType)).before args0 about1 = true := code_word (m := ⟨8, 3⟩) (meth := k8m3) (c := k8c3) (by decide +kernel) rfl rfl rfl (by decide +kernel)
set_option maxRecDepth 65536 in
theorem w_c16 : (Jvm.Cond.code ({ cls := "java/lang/StringUTF16", name := "getChar", desc := "([BI)C" } : Jvm.MethodName) jdk_52_method_5_code (2 : Nat) (Option.some Jvm.ClassFile.FieldType.char)).before args0 about1 = true := code_word (m := ⟨8, 4⟩) (meth := k8m4) (c := k8c4) (by decide +kernel) rfl rfl rfl (by decide +kernel)
def codes1 : List Jvm.Cond := [Jvm.Cond.code x code maxLocals ret, Jvm.Cond.code ({ cls := "com/example/tutti/tutti/cli/CommandLineIsVerbosePinLaw", name := "fb", desc := "(JI)C" } : Jvm.MethodName) method_2_code (3 : Nat) (Option.some Jvm.ClassFile.FieldType.char), Jvm.Cond.code ({ cls := "com/example/tutti/tutti/cli/CommandLineIsVerbosePinLaw", name := "str", desc := "([CI)Ljava/lang/String;" } : Jvm.MethodName) method_3_code (2 : Nat) (Option.some (Jvm.ClassFile.FieldType.object "java/lang/String")), Jvm.Cond.code ({ cls := "java/lang/String", name := "<init>", desc := "([C)V" } : Jvm.MethodName) jdk_42_method_3_code (2 : Nat) (Option.none : Option Jvm.ClassFile.FieldType), Jvm.Cond.code ({ cls := "java/lang/String", name := "<init>", desc := "([CIILjava/lang/Void;)V" } : Jvm.MethodName) jdk_42_method_149_code (6 : Nat) (Option.none : Option Jvm.ClassFile.FieldType), Jvm.Cond.code ({ cls := "java/lang/Object", name := "<init>", desc := "()V" } : Jvm.MethodName) object_method_1_code (1 : Nat) (Option.none : Option Jvm.ClassFile.FieldType), Jvm.Cond.code ({ cls := "java/lang/StringUTF16", name := "compress", desc := "([CII)[B" } : Jvm.MethodName) jdk_52_method_16_code (6 : Nat) (Option.some (Jvm.ClassFile.FieldType.array Jvm.ClassFile.FieldType.byte)), Jvm.Cond.code ({ cls := "java/lang/StringUTF16", name := "compress", desc := "([CI[BII)I" } : Jvm.MethodName) jdk_52_method_21_code (7 : Nat) (Option.some Jvm.ClassFile.FieldType.int), Jvm.Cond.code ({ cls := "java/lang/StringUTF16", name := "coderFromArrayLen", desc := "([BI)B" } : Jvm.MethodName) jdk_52_method_15_code (2 : Nat) (Option.some Jvm.ClassFile.FieldType.byte), Jvm.Cond.code ({ cls := "com/example/tutti/tutti/cli/CommandLine", name := "isVerbose", desc := "(Ljava/lang/String;)Z" } : Jvm.MethodName) prog_2_method_5_code (1 : Nat) (Option.some Jvm.ClassFile.FieldType.boolean), Jvm.Cond.code ({ cls := "java/lang/String", name := "equals", desc := "(Ljava/lang/Object;)Z" } : Jvm.MethodName) jdk_42_method_66_code (3 : Nat) (Option.some Jvm.ClassFile.FieldType.boolean), Jvm.Cond.code ({ cls := "java/lang/StringLatin1", name := "equals", desc := "([B[B)Z" } : Jvm.MethodName) jdk_43_method_13_code (3 : Nat) (Option.some Jvm.ClassFile.FieldType.boolean), Jvm.Cond.code ({ cls := "java/lang/StringUTF16", name := "toBytes", desc := "([CII)[B" } : Jvm.MethodName) jdk_52_method_14_code (5 : Nat) (Option.some (Jvm.ClassFile.FieldType.array Jvm.ClassFile.FieldType.byte)), Jvm.Cond.code ({ cls := "java/lang/StringUTF16", name := "newBytesFor", desc := "(I)[B" } : Jvm.MethodName) jdk_52_method_2_code (1 : Nat) (Option.some (Jvm.ClassFile.FieldType.array Jvm.ClassFile.FieldType.byte)), Jvm.Cond.code ({ cls := "java/lang/StringUTF16", name := "newBytesLength", desc := "(I)I" } : Jvm.MethodName) jdk_52_method_3_code (1 : Nat) (Option.some Jvm.ClassFile.FieldType.int), Jvm.Cond.code ({ cls := "java/lang/StringUTF16", name := "putChar", desc := "([BII)V" } : Jvm.MethodName) jdk_52_method_4_code (3 : Nat) (Option.none : Option Jvm.ClassFile.FieldType), Jvm.Cond.code ({ cls := "java/lang/StringUTF16", name := "getChar", desc := "([BI)C" } : Jvm.MethodName) jdk_52_method_5_code (2 : Nat) (Option.some Jvm.ClassFile.FieldType.char)]
set_option maxRecDepth 65536 in
theorem codes_eq : words1.filter isCode = codes1 := rfl
theorem w_codes : ∀ c ∈ words1.filter isCode, c.before args0 about1 = true := by
  rw [codes_eq]
  intro c hc
  simp only [codes1, List.mem_cons, List.not_mem_nil, or_false] at hc
  rcases hc with rfl | rfl | rfl | rfl | rfl | rfl | rfl | rfl | rfl | rfl | rfl | rfl | rfl | rfl | rfl | rfl | rfl
  · exact w_c0
  · exact w_c1
  · exact w_c2
  · exact w_c3
  · exact w_c4
  · exact w_c5
  · exact w_c6
  · exact w_c7
  · exact w_c8
  · exact w_c9
  · exact w_c10
  · exact w_c11
  · exact w_c12
  · exact w_c13
  · exact w_c14
  · exact w_c15
  · exact w_c16
set_option maxRecDepth 65536 in
theorem w_t1 : (words1.take 24).all (fun c => isCode c || c.before args0 about1) = true := by decide +kernel
set_option maxRecDepth 65536 in
theorem w_t2 : ((words1.drop 24).take 24).all (fun c => isCode c || c.before args0 about1) = true := by decide +kernel
set_option maxRecDepth 65536 in
theorem w_t3 : (((words1.drop 24).drop 24).take 24).all (fun c => isCode c || c.before args0 about1) = true := by decide +kernel
set_option maxRecDepth 65536 in
theorem w_t4 : (((words1.drop 24).drop 24).drop 24).all (fun c => isCode c || c.before args0 about1) = true := by decide +kernel
theorem w_tables : (allAtoms (Jvm.Cond.code x code maxLocals ret :: tables_1)).before args0 about1 = true := by
  rw [allAtoms_all]
  show words1.all (fun c => c.before args0 about1) = true
  refine all_split ?_ w_codes
  rw [← List.take_append_drop 24 words1, List.all_append, w_t1, ← List.take_append_drop 24 (words1.drop 24), List.all_append, w_t2, ← List.take_append_drop 24 ((words1.drop 24).drop 24), List.all_append, w_t3, w_t4]
  rfl
set_option maxRecDepth 65536 in
theorem w_rest : rest_1_c.before args0 about1 = true := by decide +kernel
set_option maxRecDepth 65536 in
theorem w_case : (Jvm.Cond.and given_1 narrow_1).before args0 about1 = true := by decide +kernel
set_option maxRecDepth 65536 in
theorem w_consts : constsHeld consts_1 about1 := Jvm.Lit.constsHeldB_iff.mp (by decide +kernel)
theorem w_applies : (headSpec (Jvm.Cond.code x code maxLocals ret :: tables_1) room_1).applies x e0.platform about1 = true :=
  (Spec.applies_iff w_frames).mpr ⟨w_running, w_runnable, w_alone, w_named, w_hears, w_ripe, w_room, w_tables⟩
theorem atStart : AtStart classFile x code maxLocals ret World_1 tables_1 room_1 Calls_1 rest_1 Pre_1 launch0 p0 e0 about1 theMethod args0 below0 :=
  ⟨lists_1, trivial, launch0.admits_env _ _ _, launch0.least_env, fairChoices_fair.cas, fairChoices_fair.clock, w_frames, w_args, w_heap, w_applies, ⟨w_consts, trivial⟩, w_rest, w_case⟩
end start1
theorem witness_1 : WitnessClaimed_1 := ⟨start1.p0, start1.e0, start1.about1, start1.theMethod, start1.args0, start1.below0, start1.atStart⟩
end Jvm.Pilot.@@N@@
