import JvmDerived
import JvmDerived.Pilot.@@N@@Statement
import JvmDerived.Pilot.@@N@@Code
set_option linter.unusedVariables false
set_option linter.unusedSimpArgs false
namespace Jvm.Pilot.@@N@@
open Jvm Jvm.ClassFile Sem Op Lib Jvm.Free Jvm.Stand Jvm.LawKit Jvm.RoadKit Bundle Jvm.Pilot.@@N@@.Jvm.D
section GoKit
variable {p : Program} {l : Launch} {e : Env} {R : Room} {s : State} {m : MethodId} {args : Array Value} {below : List Frame} {meth : Method} {c : Code} {T T' : State} {locs : List Loc} {cells slots : Nat} {Z : State} {a0 : Array Value} {h h' : Heap} {G : Outcome → State → Prop} {g g' : JFrame}
/-- from here the run comes to an end of which G speaks -/
def Go (p : Program) (e : Env) (below : List Frame) (G : Outcome → State → Prop) (T : State) (g : JFrame) : Prop :=
  ∃ s₂ o, Steps p.tables e below (T.setTop g) s₂ ∧ s₂.status = .running ∧ Ended s₂ below o ∧ G o s₂
theorem Go.st (st : ∀ t, Steps p.tables e below (T'.setTop g') t → Steps p.tables e below (T.setTop g) t) (k : Go p e below G T' g') : Go p e below G T g := by
  obtain ⟨s₂, o, q, r⟩ := k; exact ⟨s₂, o, st _ q, r⟩
theorem Go.tr (st : Steps p.tables e below (T.setTop g) (T'.setTop g')) (k : Go p e below G T' g') : Go p e below G T g := by
  obtain ⟨s₂, o, q, r⟩ := k; exact ⟨s₂, o, st.trans q, r⟩
theorem Go.cast (q : g = g') (k : Go p e below G T g') : Go p e below G T g := q ▸ k
/-- a narrow end: it returned v, the heap and the written places meet Q -/
def EndQ (s : State) (Q : Option Value → Heap → List Loc → Prop) (kc ks : Nat) (o : Outcome) (t : State) : Prop := ∃ v L, o = .returned v ∧ Q v t.heap L ∧ FrameEnd s o t L kc ks
theorem Go.done (X : Stand p l e R s m args below meth c T locs cells slots) {Q : Option Value → Heap → List Loc → Prop} {kc ks : Nat} {v : Option Value} (hv : meth.sig.returnType = none → v = none) (hlk : meth.locks = false)
    (fin : ∀ fs, (∀ (f : JFrame) (acts : List Action), f.method = m → f.locked = none → f.entered = [] → (doReturn e (T.setTop f) acts v).1 = T.setFrames fs) → Steps p.tables e below (T.setTop g) (T.setFrames fs))
    (hQ : Q v T.heap locs) (hc : cells ≤ kc) (hs : slots ≤ ks) : Go p e below (EndQ s Q kc ks) T g := by
  obtain ⟨fs, hr, hrun, hended, hW, hsame⟩ := X.leave hv hlk
  exact ⟨_, _, fin fs hr, hrun, hended, v, locs, rfl, hQ, ⟨v, rfl⟩, hW, hsame.mono hc hs⟩
def Ctr (l : Launch) (Z : State) (y : MethodName) (bytes : ByteArray) (maxL : Nat) (ret : Option FieldType) (ws : List Jvm.Cond) (rm : Room) (as' : Array Value) (h0 : Heap) (Q : Option Value → Heap → List Loc → Prop) : Prop :=
  MetFree l y (head1 (Jvm.Cond.code y bytes maxL ret :: ws) rm) (fun a U => a = as' ∧ Z.Warmed39 U.vm ∧ U.heap = h0) (fun _ _ _ _ _ => True) (fun _ U o U' => ∃ v L, o = .returned v ∧ Q v U'.heap L ∧ FrameEnd U o U' L rm.cells rm.slots)
theorem Ctr.of {y : MethodName} {bytes : ByteArray} {maxL : Nat} {ret : Option FieldType} {ws : List Jvm.Cond} {rm : Room} {as' : Array Value} {h0 : Heap} {Q : Option Value → Heap → List Loc → Prop} (hpf : plainFor y = true)
    (body : ∀ p e s m below meth c s₁, p.tables.exec = Jvm.exec → c.code = bytes → c.maxLocals = maxL → s.vm.findClass y.cls = some m.cls → meth.name = y.name → meth.sig.returnType = ret → meth.locks = false → Z.Warmed39 s.vm →
      Stand p l e rm s m as' below meth c s₁ [] 0 0 → s₁.heap = h0 → Go p e below (EndQ s Q rm.cells rm.slots) s₁ (entryFrame m as' maxL)) : Ctr l Z y bytes maxL ret ws rm as' h0 Q := by
  refine MetFree.of_bodySF hpf hisR ?_
  intro p e s m args below meth c s₁ Bd hml0 hP hK
  obtain ⟨rfl, hZ, hh⟩ := hP
  exact body p e s m below meth c s₁ Bd.exec Bd.bytes hml0 (findClass_of_methodNamed Bd.named) (name_of_methodNamed Bd.named Bd.method).1 Bd.returns Bd.notSynchronized hZ (Stand.of_body Bd) (by rw [← hh, Bd.state]; rfl)
abbrev BackQ (l : Launch) (R : Room) (p : Program) (e : Env) (below : List Frame) (s : State) (args : Array Value) (y : MethodName) (W : Nat) (as' : Array Value) (h : Heap) (kc ks : Nat) (Q : Option Value → Heap → List Loc → Prop) : Prop :=
  Back l R p e below s args y 3 W (fun A a => a = as' ∧ A.U.heap = h ∧ A.cells + kc ≤ R.cells ∧ A.slots + ks ≤ R.slots) (fun A _ v B => ∃ L, Q v B.U.heap L ∧ B.locs = A.locs ++ L ∧ B.cells = A.cells + kc ∧ B.slots = A.slots + ks)
theorem Ctr.back {y : MethodName} {bytes : ByteArray} {maxL W : Nat} {ret : Option FieldType} {rm : Room} {as' : Array Value} {Q : Option Value → Heap → List Loc → Prop} (hM : Ctr l Z y bytes maxL ret [] rm as' h Q)
    (hZ : Z.Warmed39 s.vm) (wc : (Jvm.Cond.code y bytes maxL ret).before a0 Z = true) (wz : (Jvm.Cond.initialized y.cls).before a0 Z = true) (hf : rm.frames + 1 ≤ R.frames) (hl : W + (maxL + 11) + rm.locals ≤ R.locals) :
    BackQ l R p e below s args y W as' h rm.cells rm.slots Q := backOf hM hZ wc wz hf hl
theorem Go.callS (X : Stand p l e R s m args below meth c T locs cells slots) (hx : p.tables.exec = Jvm.exec) {own : String} {index : Nat} {y : MethodName} {bytes : ByteArray} {maxL : Nat} {ret : Option FieldType}
    (hown : s.vm.findClass own = some m.cls) (hlink : (Jvm.Cond.methodLink own index y).before args s = true) (hstat : (Jvm.Cond.static y).before args s = true) (hinit : (Jvm.Cond.initialized y.cls).before args s = true)
    (hcode : (Jvm.Cond.code y bytes maxL ret).before args s = true) (hy : y.cls ≠ "java/lang/invoke/MethodHandle" ∧ y.cls ≠ "java/lang/invoke/VarHandle")
    {W kc ks : Nat} {as' : Array Value} {Q : Option Value → Heap → List Loc → Prop} (hK : BackQ l R p e below s args y W as' h kc ks Q) (eT : T.heap = h)
    {g : JFrame} (hg : g.method = m) (hsize : g.locals.size = c.maxLocals) {argsL rest : List Value} (hlen : ∀ sig, parseMethodDescriptor y.desc = some sig → argsL.length = sig.parameters.length)
    (hstack : g.stack = argsL.reverse ++ rest) (hW : 2 * g.monitorRoom + (rest.map fun v => v.category).sum ≤ W) (hdg : decode c.code g.pc = .ok (.invokestatic index, 3))
    (has : argsL.toArray = as') (hc : cells + kc ≤ R.cells) (hs : slots + ks ≤ R.slots)
    (k : ∀ v T' L, Stand p l e R s m args below meth c T' (locs ++ L) (cells + kc) (slots + ks) → Q v T'.heap L → Go p e below G T' { g with pc := g.pc + 3, stack := v.toList ++ rest }) : Go p e below G T g := by
  obtain ⟨v, vm₁, ⟨T1, L1, k1, n1⟩, -, X1, ⟨L, hQ, h1, h2, h3⟩, st⟩ := Jvm.LawKit.callS X hx hown hlink hstat hinit hcode hy hK hg hsize hlen hstack hW hdg (fun _ _ => ⟨has, eT, hc, hs⟩)
  dsimp only [Pt.U, Pt.locs, Pt.cells, Pt.slots] at X1 h1 h2 h3 st hQ
  subst h1 h2 h3
  exact Go.st st (k v T1 L X1 hQ)
theorem Go.callI (X : Stand p l e R s m args below meth c T locs cells slots) (hx : p.tables.exec = Jvm.exec) {own : String} {index : Nat} {y : MethodName} {bytes : ByteArray} {maxL : Nat} (hy1 : y.name = "<init>")
    (hown : s.vm.findClass own = some m.cls) (hlink : (Jvm.Cond.methodLink own index y).before args s = true) (hinst : (Jvm.Cond.instanceMethod y).before args s = true)
    (hcode : (Jvm.Cond.code y bytes maxL none).before args s = true) (hy : y.cls ≠ "java/lang/invoke/MethodHandle" ∧ y.cls ≠ "java/lang/invoke/VarHandle")
    {W kc ks : Nat} {as' : Array Value} {Q : Option Value → Heap → List Loc → Prop} (hK : BackQ l R p e below s args y W as' h kc ks Q) (eT : T.heap = h)
    {g : JFrame} (hg : g.method = m) (hsize : g.locals.size = c.maxLocals) {a : Addr} {argsL rest : List Value} (hlen : ∀ sig, parseMethodDescriptor y.desc = some sig → argsL.length = sig.parameters.length)
    (hstack : g.stack = argsL.reverse ++ .ref a :: rest) (hW : 2 * g.monitorRoom + (rest.map fun v => v.category).sum ≤ W) (hdg : decode c.code g.pc = .ok (.invokespecial index, 3))
    (has : (.ref a :: argsL).toArray = as') (hc : cells + kc ≤ R.cells) (hs : slots + ks ≤ R.slots)
    (k : ∀ v T' L, Stand p l e R s m args below meth c T' (locs ++ L) (cells + kc) (slots + ks) → Q v T'.heap L → Go p e below G T' { g with pc := g.pc + 3, stack := v.toList ++ rest }) : Go p e below G T g := by
  obtain ⟨v, vm₁, ⟨T1, L1, k1, n1⟩, -, X1, ⟨L, hQ, h1, h2, h3⟩, st⟩ := X.specialBack hx hy1 hown hlink hinst hcode hy hK hg hsize (Steps.refl _) hlen hstack hW hdg (fun _ _ => ⟨has, eT, hc, hs⟩)
  dsimp only [Pt.U, Pt.locs, Pt.cells, Pt.slots] at X1 h1 h2 h3 st hQ
  subst h1 h2 h3
  exact Go.tr st (k v T1 L X1 hQ)
theorem Go.callV (X : Stand p l e R s m args below meth c T locs cells slots) (hx : p.tables.exec = Jvm.exec) (hZ : Z.Warmed39 s.vm) {own C : String} {index : Nat} {y z : MethodName}
    (hown : s.vm.findClass own = some m.cls) (hlink : (Jvm.Cond.methodLink own index y).before args s = true) (hdecl : (Jvm.Cond.declares y).before args s = true) 
    (hsel : (Jvm.Cond.selects C y z).before args s = true) (hinst : (Jvm.Cond.instanceMethod z).before args s = true)
    (hy : y.cls ≠ "java/lang/invoke/MethodHandle" ∧ y.cls ≠ "java/lang/invoke/VarHandle") (hnf : NotFace s y)
    {W kc ks : Nat} {as' : Array Value} {Q : Option Value → Heap → List Loc → Prop} (hK : BackQ l R p e below s args z W as' h kc ks Q) (eT : T.heap = h)
    {b : Addr} (E : Exa Z h b C)
    {g : JFrame} (hg : g.method = m) (hsize : g.locals.size = c.maxLocals) {argsL rest : List Value} (hlen : ∀ sig, parseMethodDescriptor y.desc = some sig → argsL.length = sig.parameters.length)
    (hstack : g.stack = argsL.reverse ++ .ref b :: rest) (hW : 2 * g.monitorRoom + (rest.map fun v => v.category).sum ≤ W) (hdg : decode c.code g.pc = .ok (.invokevirtual index, 3))
    (has : (.ref b :: argsL).toArray = as') (hc : cells + kc ≤ R.cells) (hs : slots + ks ≤ R.slots)
    (k : ∀ v T' L, Stand p l e R s m args below meth c T' (locs ++ L) (cells + kc) (slots + ks) → Q v T'.heap L → Go p e below G T' { g with pc := g.pc + 3, stack := v.toList ++ rest }) : Go p e below G T g := by
  obtain ⟨cq, kq, qa, qb, qc⟩ := isOf hZ eT E
  obtain ⟨v, vm₁, ⟨T1, L1, k1, n1⟩, -, X1, ⟨L, hQ, h1, h2, h3⟩, st⟩ := X.virtualBack hx hown hlink hdecl hnf hsel hinst hy hK qa qc hg hsize (Steps.refl _) hlen hstack hW hdg (fun _ _ => ⟨has, eT, hc, hs⟩)
  dsimp only [Pt.U, Pt.locs, Pt.cells, Pt.slots] at X1 h1 h2 h3 st hQ
  subst h1 h2 h3
  exact Go.tr st (k v T1 L X1 hQ)
/-! arrays of ints, chars, bytes: their contents as a list -/
def AI (Z : State) (h : Heap) (a : Addr) (ty : FieldType) (xs : List Int32) : Prop := xs.length < 2147483648 ∧ ∃ k, Arv Z h a k ty (Int32.ofNat xs.length) (xs.map Value.int) (.int 0)
theorem AI.lt {a : Addr} {ty : FieldType} {xs : List Int32} (F : AI Z h a ty xs) : a < h.size := by obtain ⟨-, k, F⟩ := F; exact F.lt
theorem AI.ext {a : Addr} {ty : FieldType} {xs : List Int32} (F : AI Z h a ty xs) (E : Ext h h') : AI Z h' a ty xs := by obtain ⟨q, k, F⟩ := F; exact ⟨q, k, F.ext E⟩
theorem AI.other {a b : Addr} {ty : FieldType} {xs : List Int32} {sl : Nat} {v : Value} (F : AI Z h b ty xs) (W : Wr h h' a sl v) (q : b ≠ a) : AI Z h' b ty xs := by obtain ⟨q0, k, F⟩ := F; exact ⟨q0, k, F.other W q⟩
theorem AI.keep {a : Addr} {ty : FieldType} {xs : List Int32} {ws : List Addr} (F : AI Z h a ty xs) (K : Keep h h' ws) (q : a ∉ ws) : AI Z h' a ty xs := by obtain ⟨q0, k, F⟩ := F; exact ⟨q0, k, F.keep K q⟩
theorem own_ofNat_nn {n : Nat} (hn : n < 2147483648) : ¬ Int32.ofNat n < 0 := by
  have q : (Int32.ofNat n).toInt = n := Int32.toInt_ofNat_small hn
  simp only [Int32.lt_iff_toInt_lt, q, Int32.reduceToInt]; omega
theorem own_ofNat_clamp {n : Nat} (hn : n < 2147483648) : (Int32.ofNat n).toNatClampNeg = n := by
  have q : (Int32.ofNat n).toInt = n := Int32.toInt_ofNat_small hn
  simp only [Int32.toNatClampNeg, q]; omega
theorem own_ofNat_lt {i n : Nat} (hi : i < n) (hn : n < 2147483648) : Int32.ofNat i < Int32.ofNat n := by
  have q : (Int32.ofNat n).toInt = n := Int32.toInt_ofNat_small hn
  have q' : (Int32.ofNat i).toInt = i := Int32.toInt_ofNat_small (by omega)
  simp only [Int32.lt_iff_toInt_lt, q, q']; omega
theorem AI.new {a : Addr} {ty : FieldType} {k : ClassId} {n : Nat} (hn : n < 2147483648) (hd : defaultValue ty = .int 0) (A : Arr Z h a (newA k ty (Int32.ofNat n)) ty) : AI Z h a ty (List.replicate n 0) := by
  have V := Arv.new A (own_ofNat_nn hn)
  rw [hd] at V
  refine ⟨by simpa using hn, k, ?_⟩
  have e : (Int32.ofNat (List.replicate n (0 : Int32)).length) = Int32.ofNat n := by simp
  rw [e, List.map_replicate]
  have := V.pad (pad_rep [] (.int (0 : Int32)) n)
  simpa using this
theorem AI.set {a : Addr} {ty : FieldType} {xs : List Int32} {x : Int32} {i : Nat} (F : AI Z h a ty xs) (hi : i < xs.length) (hf : fits ty (.int x) = true) (W : Wr h h' a i (.int x)) : AI Z h' a ty (xs.set i x) := by
  obtain ⟨q0, k, cl, A, q, S, M, H, U⟩ := F
  refine ⟨by simpa using q0, k, ?_⟩
  have e := own_ofNat_clamp (n := i) (by omega)
  rw [List.length_set, List.map_set]
  exact Arv.set A q S M H U hf (j := Int32.ofNat i) (by rw [e]; exact W) i e (by simpa using hi)
theorem AI.at {a : Addr} {ty : FieldType} {xs : List Int32} (F : AI Z h a ty xs) : ∃ cl : Cell, Arr Z h a cl ty ∧ cl.slots.size = xs.length ∧ ∀ i (hi : i < xs.length), cl.slots[i]? = some (.int xs[i]) := by
  obtain ⟨q0, k, cl, A, q, S, M, H, U⟩ := F
  rw [own_ofNat_clamp q0] at S
  refine ⟨cl, A, S, fun i hi => ?_⟩
  have := H i (by omega)
  rw [this, List.getD_eq_getElem?_getD, List.getElem?_map, List.getElem?_eq_getElem hi]
  rfl
theorem own_inb {n i : Nat} (hi : i < n) (hn : n < 2147483648) : ¬ (Int32.ofNat i < 0 ∨ n ≤ (Int32.ofNat i).toNatClampNeg) := by
  rw [own_ofNat_clamp (by omega)]
  intro q
  rcases q with q | q
  · exact own_ofNat_nn (by omega) q
  · omega
theorem Go.caload (X : Stand p l e R s m args below meth c T locs cells slots) (hx : p.tables.exec = Jvm.exec) (hZ : Z.Warmed39 s.vm) (eT : T.heap = h) {a : Addr} {xs : List Int32} (A : AI Z h a .char xs) {j x : Int32} {i : Nat} (hj : j = Int32.ofNat i) (hv : xs[i]? = some x)
    {g : JFrame} (hg : g.method = m) {rest : List Value} (hs : g.stack = .int j :: .ref a :: rest) (hd : decode c.code g.pc = .ok (.caload, 1)) (k : Go p e below G T { g with pc := g.pc + 1, stack := .int x :: rest }) : Go p e below G T g := by
  subst hj
  obtain ⟨cl, Ar, S, H⟩ := A.at
  obtain ⟨hi, rfl⟩ := List.getElem?_eq_some_iff.mp hv
  have q0 := A.1
  refine Go.st (fun t r => X.caload hx (cell := cl) (j := Int32.ofNat i) (v := .int xs[i]) (by rw [eT]; exact Ar.1) (State.isArrayOf_alike hZ.alike Ar.2.1) Ar.2.2 (by rw [S]; exact own_inb hi q0) (by rw [own_ofNat_clamp (by omega)]; exact H i hi) hg hs hd t r) k
theorem Go.baload (X : Stand p l e R s m args below meth c T locs cells slots) (hx : p.tables.exec = Jvm.exec) (hZ : Z.Warmed39 s.vm) (eT : T.heap = h) {a : Addr} {xs : List Int32} (A : AI Z h a .byte xs) {j x : Int32} {i : Nat} (hj : j = Int32.ofNat i) (hv : xs[i]? = some x)
    {g : JFrame} (hg : g.method = m) {rest : List Value} (hs : g.stack = .int j :: .ref a :: rest) (hd : decode c.code g.pc = .ok (.baload, 1)) (k : Go p e below G T { g with pc := g.pc + 1, stack := .int x :: rest }) : Go p e below G T g := by
  subst hj
  obtain ⟨cl, Ar, S, H⟩ := A.at
  obtain ⟨hi, rfl⟩ := List.getElem?_eq_some_iff.mp hv
  have q0 := A.1
  refine Go.st (fun t r => X.baloadBytes hx (cell := cl) (j := Int32.ofNat i) (v := .int xs[i]) (by rw [eT]; exact Ar.1) (State.isArrayOf_alike hZ.alike Ar.2.1) Ar.2.2 (by rw [S]; exact own_inb hi q0) (by rw [own_ofNat_clamp (by omega)]; exact H i hi) hg hs hd t r) k
theorem Go.iaload (X : Stand p l e R s m args below meth c T locs cells slots) (hx : p.tables.exec = Jvm.exec) (hZ : Z.Warmed39 s.vm) (eT : T.heap = h) {a : Addr} {xs : List Int32} (A : AI Z h a .int xs) {j x : Int32} {i : Nat} (hj : j = Int32.ofNat i) (hv : xs[i]? = some x)
    {g : JFrame} (hg : g.method = m) {rest : List Value} (hs : g.stack = .int j :: .ref a :: rest) (hd : decode c.code g.pc = .ok (.iaload, 1)) (k : Go p e below G T { g with pc := g.pc + 1, stack := .int x :: rest }) : Go p e below G T g := by
  subst hj
  obtain ⟨cl, Ar, S, H⟩ := A.at
  obtain ⟨hi, rfl⟩ := List.getElem?_eq_some_iff.mp hv
  have q0 := A.1
  refine Go.st (fun t r => X.iaload hx (cell := cl) (j := Int32.ofNat i) (v := .int xs[i]) (by rw [eT]; exact Ar.1) (State.isArrayOf_alike hZ.alike Ar.2.1) Ar.2.2 (by rw [S]; exact own_inb hi q0) (by rw [own_ofNat_clamp (by omega)]; exact H i hi) hg hs hd t r) k
theorem Go.alen (X : Stand p l e R s m args below meth c T locs cells slots) (hx : p.tables.exec = Jvm.exec) (hZ : Z.Warmed39 s.vm) (eT : T.heap = h) {a : Addr} {ty : FieldType} {xs : List Int32} (A : AI Z h a ty xs)
    {g : JFrame} (hg : g.method = m) {rest : List Value} (hs : g.stack = .ref a :: rest) (hd : decode c.code g.pc = .ok (.arraylength, 1)) (k : Go p e below G T { g with pc := g.pc + 1, stack := .int (Int32.ofNat xs.length) :: rest }) : Go p e below G T g := by
  obtain ⟨cl, Ar, S, H⟩ := A.at
  refine Go.st (fun t r => X.arraylength hx (cell := cl) (by rw [eT]; exact Ar.1) (State.isArrayOf_alike hZ.alike Ar.2.1) hg hs hd t (by rw [S]; exact r)) k
theorem Go.castore (X : Stand p l e R s m args below meth c T locs cells slots) (hx : p.tables.exec = Jvm.exec) (hZ : Z.Warmed39 s.vm) (eT : T.heap = h) {a : Addr} {xs : List Int32} (A : AI Z h a .char xs) {j x : Int32} {i : Nat} (hj : j = Int32.ofNat i) (hi : i < xs.length)
    {g : JFrame} (hg : g.method = m) {rest : List Value} (hs : g.stack = .int x :: .int j :: .ref a :: rest) (hd : decode c.code g.pc = .ok (.castore, 1))
    (k : ∀ T' h', Stand p l e R s m args below meth c T' (locs ++ [⟨a, i⟩]) cells slots → T'.heap = h' → Wr h h' a i (.int (nar .char x)) → AI Z h' a .char (xs.set i (nar .char x)) → Go p e below G T' { g with pc := g.pc + 1, stack := rest }) : Go p e below G T g := by
  subst hj
  obtain ⟨cl, Ar, S, H⟩ := A.at
  have q0 := A.1
  obtain ⟨T', h', X', e', W, st⟩ := stC X hx hZ eT Ar (j := Int32.ofNat i) (by rw [S]; exact own_inb hi q0) hg hs hd
  rw [own_ofNat_clamp (by omega)] at X' W
  exact Go.st st (k T' h' X' e' W (A.set hi (fits_nar_char _) W))
theorem Go.bastore (X : Stand p l e R s m args below meth c T locs cells slots) (hx : p.tables.exec = Jvm.exec) (hZ : Z.Warmed39 s.vm) (eT : T.heap = h) {a : Addr} {xs : List Int32} (A : AI Z h a .byte xs) {j x : Int32} {i : Nat} (hj : j = Int32.ofNat i) (hi : i < xs.length)
    {g : JFrame} (hg : g.method = m) {rest : List Value} (hs : g.stack = .int x :: .int j :: .ref a :: rest) (hd : decode c.code g.pc = .ok (.bastore, 1))
    (k : ∀ T' h', Stand p l e R s m args below meth c T' (locs ++ [⟨a, i⟩]) cells slots → T'.heap = h' → Wr h h' a i (.int (nar .byte x)) → AI Z h' a .byte (xs.set i (nar .byte x)) → Go p e below G T' { g with pc := g.pc + 1, stack := rest }) : Go p e below G T g := by
  subst hj
  obtain ⟨cl, Ar, S, H⟩ := A.at
  have q0 := A.1
  obtain ⟨T', h', X', e', W, st⟩ := stB X hx hZ eT Ar (j := Int32.ofNat i) (by rw [S]; exact own_inb hi q0) hg hs hd
  rw [own_ofNat_clamp (by omega)] at X' W
  exact Go.st st (k T' h' X' e' W (A.set hi (Jvm.Free.SBG.fits_of_int8 _) W))
theorem Go.iastore (X : Stand p l e R s m args below meth c T locs cells slots) (hx : p.tables.exec = Jvm.exec) (hZ : Z.Warmed39 s.vm) (eT : T.heap = h) {a : Addr} {xs : List Int32} (A : AI Z h a .int xs) {j x : Int32} {i : Nat} (hj : j = Int32.ofNat i) (hi : i < xs.length)
    {g : JFrame} (hg : g.method = m) {rest : List Value} (hs : g.stack = .int x :: .int j :: .ref a :: rest) (hd : decode c.code g.pc = .ok (.iastore, 1))
    (k : ∀ T' h', Stand p l e R s m args below meth c T' (locs ++ [⟨a, i⟩]) cells slots → T'.heap = h' → Wr h h' a i (.int x) → AI Z h' a .int (xs.set i x) → Go p e below G T' { g with pc := g.pc + 1, stack := rest }) : Go p e below G T g := by
  subst hj
  obtain ⟨cl, Ar, S, H⟩ := A.at
  have q0 := A.1
  obtain ⟨T', h', X', e', W, st⟩ := stI X hx hZ eT Ar (j := Int32.ofNat i) (by rw [S]; exact own_inb hi q0) hg hs hd
  rw [own_ofNat_clamp (by omega)] at X' W
  exact Go.st st (k T' h' X' e' W (A.set hi rfl W))
theorem Go.newarr (X : Stand p l e R s m args below meth c T locs cells slots) (hx : p.tables.exec = Jvm.exec) (hZ : Z.Warmed39 s.vm) {aty : ArrayType} {ty : FieldType} (hty : newarray.typeOf aty = ty) (hdv : defaultValue ty = .int 0) (w : (Jvm.Cond.arrayClass ty).before a0 Z = true) (eT : T.heap = h)
    {g : JFrame} (hg : g.method = m) (hd : decode c.code g.pc = .ok (.newarray aty, 2)) {j : Int32} {n : Nat} {rest : List Value} (hs : g.stack = .int j :: rest) (hj : j = Int32.ofNat n) (hn : n * 8 ≤ 536870912) (hc : cells + 1 ≤ R.cells) (hl : slots + n ≤ R.slots)
    (k : ∀ T' h', Stand p l e R s m args below meth c T' locs (cells + 1) (slots + n) → T'.heap = h' → Ext h h' → h.size < h'.size → AI Z h' h.size ty (List.replicate n 0) → Go p e below G T' { g with pc := g.pc + 2, stack := .ref h.size :: rest }) : Go p e below G T g := by
  subst hj
  subst hty
  obtain ⟨T', h', cA, X', e', E, A, st⟩ := newP X hx hZ w eT hg hd hs (own_ofNat_nn (by omega)) (cap := n) (by rw [own_ofNat_clamp (by omega)]; exact Nat.le_refl _) hn hc hl
  exact Go.st st (k T' h' X' e' E A.lt (AI.new (by omega) hdv A))
theorem Go.retV (X : Stand p l e R s m args below meth c T locs cells slots) (hx : p.tables.exec = Jvm.exec) {pc : Nat} {Ls : Array Slot} {Q : Option Value → Heap → List Loc → Prop} {kc ks : Nat} {rest : List Value} {w : Value} {t : FieldType} (hret : meth.sig.returnType = some t) (hlk : meth.locks = false) (ht : t.isReference = true) (hw : w.isRef = true)
    (hd : decode c.code pc = .ok (.areturn, 1)) (hQ : Q (some w) T.heap locs) (hc : cells ≤ kc) (hs : slots ≤ ks) : Go p e below (EndQ s Q kc ks) T (mkF m pc Ls (w :: rest)) :=
  Go.done X (fun q => by rw [hret] at q; cases q) hlk (fun fs hr => retOut X hx hret (by rcases ref_cases hw with rfl | ⟨z, rfl⟩ <;> cases t <;> first | rfl | cases ht) (Or.inr (Or.inr (Or.inr (Or.inr ⟨rfl, ht, hw⟩)))) hd hr) hQ hc hs
theorem Go.retI (X : Stand p l e R s m args below meth c T locs cells slots) (hx : p.tables.exec = Jvm.exec) {pc : Nat} {Ls : Array Slot} {Q : Option Value → Heap → List Loc → Prop} {kc ks : Nat} {rest : List Value} {z : Int32} (hret : meth.sig.returnType = some .int) (hlk : meth.locks = false)
    (hd : decode c.code pc = .ok (.ireturn, 1)) (hQ : Q (some (.int z)) T.heap locs) (hc : cells ≤ kc) (hs : slots ≤ ks) : Go p e below (EndQ s Q kc ks) T (mkF m pc Ls (.int z :: rest)) :=
  Go.done X (fun q => by rw [hret] at q; cases q) hlk (fun fs hr => retOut X hx hret rfl (Or.inl ⟨rfl, Or.inl rfl, z, rfl⟩) hd hr) hQ hc hs
theorem Go.retJ (X : Stand p l e R s m args below meth c T locs cells slots) (hx : p.tables.exec = Jvm.exec) {pc : Nat} {Ls : Array Slot} {Q : Option Value → Heap → List Loc → Prop} {kc ks : Nat} {rest : List Value} {z : Int64} (hret : meth.sig.returnType = some .long) (hlk : meth.locks = false)
    (hd : decode c.code pc = .ok (.lreturn, 1)) (hQ : Q (some (.long z)) T.heap locs) (hc : cells ≤ kc) (hs : slots ≤ ks) : Go p e below (EndQ s Q kc ks) T (mkF m pc Ls (.long z :: rest)) :=
  Go.done X (fun q => by rw [hret] at q; cases q) hlk (fun fs hr => retOut X hx hret rfl (Or.inr (Or.inl ⟨rfl, rfl, z, rfl⟩)) hd hr) hQ hc hs
theorem Go.retB (X : Stand p l e R s m args below meth c T locs cells slots) (hx : p.tables.exec = Jvm.exec) {pc : Nat} {Ls : Array Slot} {Q : Option Value → Heap → List Loc → Prop} {kc ks : Nat} {rest : List Value} {z : Int32} {t : FieldType} (hret : meth.sig.returnType = some t) (hlk : meth.locks = false) (ht : t = .boolean ∨ t = .byte ∨ t = .char ∨ t = .short)
    (hd : decode c.code pc = .ok (.ireturn, 1)) (hQ : Q (some (.int (nar t z))) T.heap locs) (hc : cells ≤ kc) (hs : slots ≤ ks) : Go p e below (EndQ s Q kc ks) T (mkF m pc Ls (.int z :: rest)) :=
  Go.done X (fun q => by rw [hret] at q; cases q) hlk (fun fs hr => retN X hx hret ht hd hr) hQ hc hs
theorem Go.ret0 (X : Stand p l e R s m args below meth c T locs cells slots) (hx : p.tables.exec = Jvm.exec) {pc : Nat} {Ls : Array Slot} {Q : Option Value → Heap → List Loc → Prop} {kc ks : Nat} (hret : meth.sig.returnType = none) (hlk : meth.locks = false)
    (hd : decode c.code pc = .ok (.return_, 1)) (hQ : Q none T.heap locs) (hc : cells ≤ kc) (hs : slots ≤ ks) : Go p e below (EndQ s Q kc ks) T (mkF m pc Ls []) :=
  Go.done X (fun _ => rfl) hlk (fun fs hr => X.returnOut hx hret hd hr) hQ hc hs
theorem own_storeR {L : Array Slot} {i : Nat} {v : Value} {o : Slot} {L' : Array Slot} (hv : v.isRef = true) (hold : L[i]? = some o) (ho : One o) (e : L.setIfInBounds i (.val v) = L' := by rfl) : storeLocals L i v = some L' := by
  rw [← e]; exact XS.store1 hold ho (XT.cat1 hv)
theorem own_narrowR {v : Value} {C : String} (hv : v.isRef = true) : narrow (.object C) v = v := by rcases ref_cases hv with rfl | ⟨_, rfl⟩ <;> rfl
theorem own_fitsR {v : Value} {C : String} (hv : v.isRef = true) : fits (.object C) v = true := by rcases ref_cases hv with rfl | ⟨_, rfl⟩ <;> rfl
end GoKit
section GoWide
open Jvm.Free.SB Jvm.Free.SBG
variable {p : Program} {l : Launch} {e : Env} {R : Room} {s s0 : State} {m : MethodId} {args : Array Value} {below : List Frame} {meth : Method} {c : Code} {T T' : State} {locs : List Loc} {cells slots : Nat} {Z : State} {a0 : Array Value} {h h' : Heap} {G : Outcome → State → Prop} {g g' : JFrame} {W : State} {cs : List (String × Nat)} {N N' : Nat → Prop}
/-- the cells of N stand as they stood -/
def Und (N : Nat → Prop) (h h' : Heap) : Prop := h.size ≤ h'.size ∧ ∀ (b : Addr) (c : Cell), N b → h[b]? = some c → h'[b]? = some c
theorem Und.refl (N : Nat → Prop) (h : Heap) : Und N h h := ⟨Nat.le_refl _, fun _ _ _ q => q⟩
theorem Und.ext (U : Und N h h') {h'' : Heap} (E : Ext h' h'') : Und N h h'' := ⟨Nat.le_trans U.1 E.1, fun b c q r => E.2 b c (U.2 b c q r)⟩
theorem Und.keep (U : Und N h h') {h'' : Heap} {ws : List Addr} (K : Keep h' h'' ws) (q : ∀ x ∈ ws, ¬ N x) : Und N h h'' := ⟨Nat.le_trans U.1 K.1, fun b c r y => K.2.1 b c (U.2 b c r y) fun z => absurd r (q b z)⟩
theorem Und.wr (U : Und N h h') {h'' : Heap} {a : Addr} {sl : Nat} {v : Value} (W : Wr h' h'' a sl v) (q : ¬ N a) : Und N h h'' := U.keep (Keep.of_wr W) (allS q all0)
/-- the String at a: an ordinary compact one of these units, both her cells of N -/
def SlN (N : Nat → Prop) (W : State) (a : Addr) (units : Array UInt16) : Prop :=
  ∃ (q : SQ) (cS : ClassId), q.sa = a ∧ Sl q cS W ∧ (∃ kS : Class, W.vm.classes[cS]? = some kS ∧ kS.kind = .ordinary ∧ q.sC.slots.size = kS.instanceTypes.size) ∧ W.vm.findClass "[B" = some q.SA.cls ∧ q.SA.slots = stringBytes units ∧ N q.sa ∧ N q.sd
theorem SlN.of {a : Addr} {u : Array UInt16} (h : SlN N W a u) : SlOf W a u := by
  obtain ⟨q, cS, h1, h2, h3, h4, h5, -⟩ := h; exact ⟨q, cS, h1, h2, h3, h4, h5⟩
theorem SlN.start {a : Addr} {u : Array UInt16} (h : SlOf W a u) : SlN (fun b => b < W.heap.size) W a u := by
  obtain ⟨q, cS, h1, h2, h3, h4, h5⟩ := h
  exact ⟨q, cS, h1, h2, h3, h4, h5, (Array.getElem?_eq_some_iff.mp h2.1.1).1, (Array.getElem?_eq_some_iff.mp h2.1.2.2.2.2.2.2.2.2.2.1).1⟩
theorem SlN.of_in {a : Addr} {u : Array UInt16} {lo hi : Nat} (h : SlIn lo hi W a u) : SlOf W a u := by
  obtain ⟨q, cS, h1, h2, h3, h4, h5, -⟩ := h; exact ⟨q, cS, h1, h2, h3, h4, h5⟩
theorem SlN.mv {a : Addr} {u : Array UInt16} {V : State} (h : SlN N W a u) (hal : W.vm.Alike V.vm) (hk : ∀ (b : Addr) (c : Cell), N b → W.heap[b]? = some c → V.heap[b]? = some c) : SlN N V a u := by
  obtain ⟨q, cS, h1, h2, ⟨kS, k1, k2, k3⟩, h4, h5, h6, h7⟩ := h
  obtain ⟨kS', hk', ek⟩ := hal.2.2 _ _ k1
  exact ⟨q, cS, h1, h2.carry hal (hk _ _ h6 h2.1.1) (hk _ _ h7 h2.1.2.2.2.2.2.2.2.2.2.1), ⟨kS', hk', by rw [ek]; exact k2, by rw [ek]; exact k3⟩, by rw [hal.findClass]; exact h4, h5, h6, h7⟩
theorem SlN.up {a : Addr} {u : Array UInt16} (h : SlN N W a u) (q : ∀ b, N b → N' b) : SlN N' W a u := by
  obtain ⟨q', cS, h1, h2, h3, h4, h5, h6, h7⟩ := h; exact ⟨q', cS, h1, h2, h3, h4, h5, q _ h6, q _ h7⟩
/-- every constant of the list which the tables hold already is such a String, under N -/
def CHn (cs : List (String × Nat)) (N : Nat → Prop) (U : State) : Prop := ∀ x ∈ cs, ∀ (c : ClassId) (k : Class) (cf : ClassFile) (i : Nat) (units : Array UInt16) (a : Addr), U.vm.findClass x.1 = some c → U.vm.classes[c]? = some k → k.cf = some cf →
    cf.constantPool[x.2]? = some (.string i) → cf.constantPool[i]? = some (.utf8 units) →
    (k.resolved[x.2]? = some (some (.string a)) ∨ (k.resolved[x.2]? = some none ∧ U.vm.interned.find? (fun p => p.1 == units) = some (units, a))) → SlN N U a units
theorem CHn.held (H : CHn cs N W) {own : String} {i : Nat} (hm : (own, i) ∈ cs) : ConstHeldL W own i := fun c k cf i units a h1 h2 h3 h4 h5 h6 => (H _ hm c k cf i units a h1 h2 h3 h4 h5 h6).of
theorem CHn.start (H : ∀ x ∈ cs, ConstHeldL W x.1 x.2) : CHn cs (fun b => b < W.heap.size) W := fun x hx c k cf i units a h1 h2 h3 h4 h5 h6 => SlN.start (H x hx c k cf i units a h1 h2 h3 h4 h5 h6)
theorem CHn.up (H : CHn cs N W) (q : ∀ b, N b → N' b) : CHn cs N' W := fun x hx c k cf i units a h1 h2 h3 h4 h5 h6 => (H x hx c k cf i units a h1 h2 h3 h4 h5 h6).up q
theorem CHn.lt (H : CHn cs N W) : CHn cs (fun b => b < W.heap.size) W := fun x hx c k cf i units a h1 h2 h3 h4 h5 h6 => SlN.start (H x hx c k cf i units a h1 h2 h3 h4 h5 h6).of
theorem own_right_string {U : State} {d : ClassId} {i : Nat} {a : Addr} : U.rightAt d i (.string a) = false := by
  unfold State.rightAt; split <;> simp_all
theorem CHn.mv {V : State} (H : CHn cs N W) (hW : W.WarmedH V.vm) (hk : ∀ (b : Addr) (c : Cell), N b → W.heap[b]? = some c → V.heap[b]? = some c) : CHn cs N V := by
  intro x hx c k' cf i units a h1 h2 h3 h4 h5 h6
  have hal := hW.alike
  have h1' : W.vm.findClass x.1 = some c := by rw [← hal.findClass]; exact h1
  obtain ⟨k, hkc, -⟩ := Vm.findClass_spec h1'
  obtain ⟨k2, g1, g2, -, g4, -⟩ := hW.2.2 c k hkc
  cases h2.symm.trans g1
  have h3' : k.cf = some cf := by rw [g2] at h3; exact h3
  refine (H x hx c k cf i units a h1' hkc h3' h4 h5 ?_).mv hal hk
  rcases h6 with h6 | ⟨h6, h7⟩
  · rcases g4 x.2 with q | ⟨q, r, q2, q3⟩
    · exact Or.inl (q ▸ h6)
    · rw [h6] at q2
      cases q2
      rw [own_right_string] at q3; cases q3
  · refine Or.inr ⟨?_, ?_⟩
    · rcases g4 x.2 with q | ⟨q, r, q2, q3⟩
      · exact q ▸ h6
      · exact q
    · rw [← hW.interned_eq]; exact h7
/-- a wide end -/
def EndW (cs : List (String × Nat)) (s : State) (Q : Option Value → Heap → List Loc → Prop) (kc ks : Nat) (o : Outcome) (t : State) : Prop := ∃ v L, o = .returned v ∧ Q v t.heap L ∧ CHn cs (fun b => b < t.heap.size) t ∧ ReturnedEndW s o t L kc ks
def WCtr (cs : List (String × Nat)) (N : Nat → Prop) (l : Launch) (Z : State) (y : MethodName) (bytes : ByteArray) (maxL : Nat) (ret : Option FieldType) (ws : List Jvm.Cond) (rm : Room) (as' : Array Value) (h0 : Heap) (Q : Option Value → Heap → List Loc → Prop) : Prop :=
  MetFree l y (head1 (Jvm.Cond.code y bytes maxL ret :: ws) rm) (fun a U => a = as' ∧ Z.Warmed39 U.vm ∧ U.heap = h0 ∧ CHn cs N U) (fun _ _ _ _ _ => True) (fun _ U o U' => EndW cs U Q rm.cells rm.slots o U')
/-- where the walk stands: its base is the true start s0 with other tables -/
def Bas (s0 s : State) (n : Nat) : Prop := s = s0.setVm s.vm ∧ s0.Since s.vm n
theorem Bas.refl (s : State) (n : Nat) : Bas s s n := ⟨rfl, (State.WarmedH.refl s).since n⟩
/-- the constants held, said of the base's tables and a heap -/
def CHb (cs : List (String × Nat)) (N : Nat → Prop) (s : State) (h : Heap) : Prop := CHn cs N ({ s with heap := h } : State)
theorem CHb.to (H : CHb cs N s h) (X : Stand p l e R s m args below meth c T locs cells slots) (U : Und N h T.heap) : CHn cs N T := CHn.mv H (show ({ s with heap := h } : State).WarmedH T.vm from X.warmed) U.2
theorem CHb.to' {h' : Heap} (H : CHb cs N s h) (U : Und N h h') (q : ∀ b, N b → N' b) : CHb cs N' s h' := CHn.up (CHn.mv (V := ({ s with heap := h' } : State)) H (State.WarmedH.refl _) U.2) q
theorem WCtr.of {y : MethodName} {bytes : ByteArray} {maxL : Nat} {ret : Option FieldType} {ws : List Jvm.Cond} {rm : Room} {as' : Array Value} {h0 : Heap} {Q : Option Value → Heap → List Loc → Prop} (hpf : plainFor y = true)
    (body : ∀ p e s m below meth c s₁, p.tables.exec = Jvm.exec → c.code = bytes → c.maxLocals = maxL → s.vm.findClass y.cls = some m.cls → meth.name = y.name → meth.sig.returnType = ret → meth.locks = false → Z.Warmed39 s.vm →
      Stand p l e rm s m as' below meth c s₁ [] 0 0 → s₁.heap = h0 → CHb cs N s h0 → Go p e below (EndW cs s Q rm.cells rm.slots) s₁ (entryFrame m as' maxL)) : WCtr cs N l Z y bytes maxL ret ws rm as' h0 Q := by
  refine MetFree.of_bodySF hpf hisR ?_
  intro p e s m args below meth c s₁ Bd hml0 hP hK
  obtain ⟨rfl, hZ, hh, hC⟩ := hP
  exact body p e s m below meth c s₁ Bd.exec Bd.bytes hml0 (findClass_of_methodNamed Bd.named) (name_of_methodNamed Bd.named Bd.method).1 Bd.returns Bd.notSynchronized hZ (Stand.of_body Bd) (by rw [← hh, Bd.state]; rfl) (by subst hh; exact hC)
theorem Go.doneW (X : Stand p l e R s m args below meth c T locs cells slots) {n : Nat} (hB : Bas s0 s n) (hn : n ≤ T.heap.size) (hC : CHn cs N T) {Q : Option Value → Heap → List Loc → Prop} {kc ks : Nat} {v : Option Value} (hv : meth.sig.returnType = none → v = none) (hlk : meth.locks = false)
    (fin : ∀ fs, (∀ (f : JFrame) (acts : List Action), f.method = m → f.locked = none → f.entered = [] → (doReturn e (T.setTop f) acts v).1 = T.setFrames fs) → Steps p.tables e below (T.setTop g) (T.setFrames fs))
    (hQ : Q v T.heap locs) (hc : cells ≤ kc) (hs : slots ≤ ks) : Go p e below (EndW cs s0 Q kc ks) T g := by
  obtain ⟨e1, hS⟩ := hB
  have X' : Stand p l e R (s0.setVm s.vm) m args below meth c T locs cells slots := e1 ▸ X
  obtain ⟨fs, hr, hrun, hended, r1, r2, r3, r4⟩ := X'.leaveW hS hn hv hlk
  exact ⟨_, _, fin fs hr, hrun, hended, v, locs, rfl, hQ, CHn.lt hC, r1, r2, r3, r4.mono hc hs⟩
theorem own_backW {y : MethodName} {bytes : ByteArray} {maxL Wt len : Nat} {ret : Option FieldType} {rm : Room} {as' : Array Value} {Q : Option Value → Heap → List Loc → Prop} (hM : WCtr cs N l Z y bytes maxL ret [] rm as' h Q)
    (X : Stand p l e R s m args below meth c T locs cells slots) (hZ : Z.Warmed39 s.vm) (wc : (Jvm.Cond.code y bytes maxL ret).before a0 Z = true) (wz : (Jvm.Cond.initialized y.cls).before a0 Z = true) (hf : rm.frames + 1 ≤ R.frames) (hl : Wt + (maxL + 11) + rm.locals ≤ R.locals)
    (hg : g.method = m) (hsize : g.locals.size = c.maxLocals) {ig : Instr} (hdg : decode c.code g.pc = .ok (ig, len)) (hW : 2 * g.monitorRoom + (g.stack.map fun v => v.category).sum ≤ Wt) {mk : MethodId} (hnm : T.methodNamed? y = some mk) (eT : T.heap = h) (hC : CHn cs N T)
    (hc : cells + rm.cells ≤ R.cells) (hs : slots + rm.slots ≤ R.slots) :
    ∃ (v : Option Value) (T' : State) (L : List Loc), Stand p l e R (s.setVm T'.vm) m args below meth c T' (locs ++ L) (cells + rm.cells) (slots + rm.slots) ∧ s.Since T'.vm T'.heap.size ∧ T.heap.size ≤ T'.heap.size ∧ Q v T'.heap L ∧ CHn cs (fun b => b < T'.heap.size) T' ∧
      Steps p.tables e below (doInvoke e (T.setTop g) [] mk as').1 (T'.setTop { g with pc := g.pc + len, stack := v.toList ++ g.stack }) := by
  have hU : Z.Warmed39 T.vm := wtrans hZ X.warmed
  have h2 : (Jvm.Cond.code y bytes maxL ret).before as' T = true := mvT hU wc
  have h3 : (Jvm.Cond.initialized y.cls).before as' T = true := mvT hU wz
  obtain ⟨methY, cY, hmY, hcY, -, hlY, -, -, -, -⟩ := Cond.code_spec hnm h2
  obtain ⟨kY, hkY, -⟩ := className_of_methodNamed hnm
  have hinitY : kY.init = .initialized := Cond.initialized_spec (findClass_of_methodNamed hnm) hkY h3
  have hh : At T g.method c below := by rw [hg]; exact X.here
  have h1 : (head1 [Jvm.Cond.code y bytes maxL ret] rm).pre.before as' T = true := by
    show (Cond.and _ .tt).before as' T = true
    rw [Cond.before_and, h2]; rfl
  have happ : (head1 [Jvm.Cond.code y bytes maxL ret] rm).appliesLoose y e.platform (T.calling g mk as') = true :=
    Spec.appliesLoose_calling (g := g) hh hdg hnm hkY hinitY (X.room_calling (g := g) (R' := rm) hsize hmY hcY hf (by rw [hlY]; omega) hc hs) h1
  obtain ⟨mid, hmid⟩ := hh.above
  have hfr : (T.setTop g).frames = (.java g :: mid) ++ below := by rw [State.frames_setTop' g hh.top, hmid]; rfl
  have hcv : (T.calling g mk as').vm = T.vm := by rw [State.calling_eq hh.top]; rfl
  have hch' : (T.calling g mk as').heap = T.heap := by rw [State.calling_eq hh.top]; rfl
  have hP1 : Z.Warmed39 (T.calling g mk as').vm := by rw [hcv]; exact hU
  have hP2 : (T.calling g mk as').heap = h := by rw [hch']; exact eT
  have hP3 : CHn cs N (T.calling g mk as') := CHn.mv hC (by rw [hcv]; exact State.WarmedH.refl T) (fun b c _ q => by rw [hch']; exact q)
  obtain ⟨o, s₂, hsteps, -, hend, hq⟩ := Steps.callFree hM p X.admits X.cas X.clock (acts := []) hfr happ ⟨rfl, hP1, hP2, hP3⟩ trivial
  have hq' : EndW cs (T.calling g mk as') Q rm.cells rm.slots o s₂ := hq
  obtain ⟨v, L, rfl, hQ, hCH, -, hW2, hB2, e2, q2, q3, q4, q5, q6⟩ := hq'
  rw [State.frames_setTop' g hh.top] at hend
  have hW' : T.Warmed39 s₂.vm := State.Warmed39.of_rootvm hcv.symm hW2
  have hB' : T.Booked s₂.vm s₂.heap.size := fun j q hj hq => by
    have := hB2 j q (by rw [hcv]; exact hj) hq
    rw [hch'] at this
    exact this
  obtain ⟨c₂, i₂, len₂, hc₂, hd₂, hf₂⟩ := hend
  have hcc : c₂ = c := by
    have h1 : s₂.code? g.method = T.code? g.method := by rw [State.code?_eq, State.code?_eq, hW'.alike.method?]
    exact Option.some.inj (hc₂.symm.trans (h1.trans hh.code))
  subst hcc
  have hlen : len₂ = len := by rw [hdg] at hd₂; cases hd₂; rfl
  subst hlen
  obtain ⟨g₀, hg0⟩ := Option.isSome_iff_exists.mp hh.top
  obtain ⟨r, hr⟩ := State.topJava?_eq_some.mp hg0
  have e3 : s₂ = ({ (T.calling g mk as').setFrames s₂.frames with heap := s₂.heap, slotsUsed := s₂.slotsUsed } : State).setVm s₂.vm := by
    have : s₂ = ({ s₂ with vm := (T.calling g mk as').vm } : State).setVm s₂.vm := rfl
    rw [e2] at this
    exact this
  have hs₂ : s₂ = (({ T with heap := s₂.heap, slotsUsed := s₂.slotsUsed } : State).setVm s₂.vm).setTop { g with pc := g.pc + len₂, stack := v.toList ++ g.stack } := by
    have hr' : (({ T with heap := s₂.heap, slotsUsed := s₂.slotsUsed } : State).setVm s₂.vm).frames = .java g₀ :: r := hr
    refine e3.trans ?_
    rw [hf₂, State.calling_eq hh.top, State.setFrames_setFrames, State.setTop_of_frames _ hr', hr]
    rfl
  have hsame : T.sameButNew ({ T with heap := s₂.heap, slotsUsed := s₂.slotsUsed } : State) L rm.cells rm.slots := by
    refine ⟨?_, q2, q3, q4, q5, q6⟩
    obtain ⟨t, ht, -⟩ := State.frames_cons hr
    show ({ T with heap := s₂.heap, slotsUsed := s₂.slotsUsed } : State) = { T.setFrames T.frames with heap := s₂.heap, slotsUsed := s₂.slotsUsed }
    rw [State.setFrames_self ht]
  obtain ⟨X', hS⟩ := X.movedW (T₂ := ({ T with heap := s₂.heap, slotsUsed := s₂.slotsUsed } : State).setVm s₂.vm) ((X.here.setHeapUsed s₂.heap s₂.slotsUsed).setVm hW'.alike) X.tail rfl rfl hW' hB' hsame
  refine ⟨v, _, L, X', hS, hsame.2.1, hQ, hCH, ?_⟩
  rw [← hs₂]
  exact hsteps
theorem Bas.next {n : Nat} (hB : Bas s0 s n) {T' : State} (hS : s.Since T'.vm T'.heap.size) (hn : n ≤ T'.heap.size) : Bas s0 (s.setVm T'.vm) T'.heap.size := by
  obtain ⟨e1, h1⟩ := hB
  refine ⟨?_, ?_⟩
  · rw [e1]; rfl
  · have hS' : (s0.setVm s.vm).Since T'.vm T'.heap.size := e1 ▸ hS
    exact h1.trans hS' hn
theorem Go.callSW (X : Stand p l e R s m args below meth c T locs cells slots) (hx : p.tables.exec = Jvm.exec) {n : Nat} (hB : Bas s0 s n) (hn : n ≤ T.heap.size) (hZ : Z.Warmed39 s.vm) {own : String} {index : Nat} {y : MethodName} {bytes : ByteArray} {maxL : Nat} {ret : Option FieldType}
    (hown : s.vm.findClass own = some m.cls) (hlink : (Jvm.Cond.methodLink own index y).before args s = true) (hstat : (Jvm.Cond.static y).before args s = true) (hinit : (Jvm.Cond.initialized y.cls).before args s = true)
    (hcode : (Jvm.Cond.code y bytes maxL ret).before args s = true) (hy : y.cls ≠ "java/lang/invoke/MethodHandle" ∧ y.cls ≠ "java/lang/invoke/VarHandle")
    {Wt : Nat} {rm : Room} {as' : Array Value} {Q : Option Value → Heap → List Loc → Prop} (hM : WCtr cs N l Z y bytes maxL ret [] rm as' h Q) (wc : (Jvm.Cond.code y bytes maxL ret).before a0 Z = true) (wz : (Jvm.Cond.initialized y.cls).before a0 Z = true) (hf : rm.frames + 1 ≤ R.frames) (hl : Wt + (maxL + 11) + rm.locals ≤ R.locals) (eT : T.heap = h) {hb : Heap} (hC : CHb cs N s hb) (hU : Und N hb T.heap)
    {g : JFrame} (hg : g.method = m) (hsize : g.locals.size = c.maxLocals) {argsL rest : List Value} (hlen : ∀ sig, parseMethodDescriptor y.desc = some sig → argsL.length = sig.parameters.length)
    (hstack : g.stack = argsL.reverse ++ rest) (hW : 2 * g.monitorRoom + (rest.map fun v => v.category).sum ≤ Wt) (hdg : decode c.code g.pc = .ok (.invokestatic index, 3))
    (has : argsL.toArray = as') (hc : cells + rm.cells ≤ R.cells) (hs : slots + rm.slots ≤ R.slots)
    (k : ∀ v s' T' L, Bas s0 s' T'.heap.size → Z.Warmed39 s'.vm → s'.vm.findClass own = some m.cls → CHb cs (fun b => b < T'.heap.size) s' T'.heap → T.heap.size ≤ T'.heap.size → Stand p l e R s' m args below meth c T' (locs ++ L) (cells + rm.cells) (slots + rm.slots) → Q v T'.heap L → Go p e below G T' { g with pc := g.pc + 3, stack := v.toList ++ rest }) : Go p e below G T g := by
  obtain ⟨mk, hnamed⟩ := Cond.code_named hcode
  obtain ⟨methM, cM, hmethM, -, -, -, -, -, -, hsigM⟩ := Cond.code_spec hnamed hcode
  have hstatic : methM.isStatic = true := Cond.static_spec hnamed hmethM hstat
  obtain ⟨kP, hkP, -⟩ := className_of_methodNamed hnamed
  have hinitP : kP.init = .initialized := Cond.initialized_spec (findClass_of_methodNamed hnamed) hkP hinit
  obtain ⟨vm₁, X₁, hstep₁⟩ := X.invokestatic hx hown hlink hnamed hmethM hstatic hkP hinitP hy (g := g) hg (argsL := argsL) (rest := rest) (hlen _ hsigM) hstack hdg
  subst has
  obtain ⟨v, T', L, X', hS, hsz, hQ, hCH, st⟩ := own_backW (g := { g with stack := rest }) hM X₁ hZ wc wz hf hl hg hsize hdg hW (X₁.named hnamed) eT (hC.to X₁ hU) hc hs
  have hsz' : T.heap.size ≤ T'.heap.size := hsz
  have hWs : s.Warmed39 T'.vm := hS.1
  exact Go.st (fun t q => hstep₁ t fun acts => by rw [doInvoke_state]; exact st.trans q) (k v (s.setVm T'.vm) T' L (hB.next hS (Nat.le_trans hn hsz')) (State.Warmed39.trans hZ hWs) (by show T'.vm.findClass own = _; rw [hWs.alike.findClass]; exact hown) hCH hsz' X' hQ)
theorem Go.callIW (X : Stand p l e R s m args below meth c T locs cells slots) (hx : p.tables.exec = Jvm.exec) {n : Nat} (hB : Bas s0 s n) (hn : n ≤ T.heap.size) (hZ : Z.Warmed39 s.vm) {own : String} {index : Nat} {y : MethodName} {bytes : ByteArray} {maxL : Nat} (hy1 : y.name = "<init>")
    (hown : s.vm.findClass own = some m.cls) (hlink : (Jvm.Cond.methodLink own index y).before args s = true) (hinst : (Jvm.Cond.instanceMethod y).before args s = true)
    (hcode : (Jvm.Cond.code y bytes maxL none).before args s = true) (hy : y.cls ≠ "java/lang/invoke/MethodHandle" ∧ y.cls ≠ "java/lang/invoke/VarHandle")
    {Wt : Nat} {rm : Room} {as' : Array Value} {Q : Option Value → Heap → List Loc → Prop} (hM : WCtr cs N l Z y bytes maxL none [] rm as' h Q) (wc : (Jvm.Cond.code y bytes maxL none).before a0 Z = true) (wz : (Jvm.Cond.initialized y.cls).before a0 Z = true) (hf : rm.frames + 1 ≤ R.frames) (hl : Wt + (maxL + 11) + rm.locals ≤ R.locals) (eT : T.heap = h) {hb : Heap} (hC : CHb cs N s hb) (hU : Und N hb T.heap)
    {g : JFrame} (hg : g.method = m) (hsize : g.locals.size = c.maxLocals) {a : Addr} {argsL rest : List Value} (hlen : ∀ sig, parseMethodDescriptor y.desc = some sig → argsL.length = sig.parameters.length)
    (hstack : g.stack = argsL.reverse ++ .ref a :: rest) (hW : 2 * g.monitorRoom + (rest.map fun v => v.category).sum ≤ Wt) (hdg : decode c.code g.pc = .ok (.invokespecial index, 3))
    (has : (.ref a :: argsL).toArray = as') (hc : cells + rm.cells ≤ R.cells) (hs : slots + rm.slots ≤ R.slots)
    (k : ∀ v s' T' L, Bas s0 s' T'.heap.size → Z.Warmed39 s'.vm → s'.vm.findClass own = some m.cls → CHb cs (fun b => b < T'.heap.size) s' T'.heap → T.heap.size ≤ T'.heap.size → Stand p l e R s' m args below meth c T' (locs ++ L) (cells + rm.cells) (slots + rm.slots) → Q v T'.heap L → Go p e below G T' { g with pc := g.pc + 3, stack := v.toList ++ rest }) : Go p e below G T g := by
  have hpl : e.platform.magicAccessors = ({} : Platform).magicAccessors := by rw [X.admits.platform]
  obtain ⟨mk, methM, cM, kP, vm₁, hnamed, hmethM, -, -, -, -, hkP, -, hW₁, hstep₁⟩ := Steps.initColdArgs (e := e) X.here hx X.warmed hpl hown hy1 hy hlink hinst hcode (f := g) hg hlen hstack hdg
  have X₁ := X.noted hW₁
  subst has
  obtain ⟨v, T', L, X', hS, hsz, hQ, hCH, st⟩ := own_backW (g := { g with stack := rest }) hM X₁ hZ wc wz hf hl hg hsize hdg hW (X₁.named hnamed) eT (hC.to X₁ hU) hc hs
  have hsz' : T.heap.size ≤ T'.heap.size := hsz
  have hWs : s.Warmed39 T'.vm := hS.1
  exact Go.st (fun t q => hstep₁ t fun acts => by rw [doInvoke_state]; exact st.trans q) (k v (s.setVm T'.vm) T' L (hB.next hS (Nat.le_trans hn hsz')) (State.Warmed39.trans hZ hWs) (by show T'.vm.findClass own = _; rw [hWs.alike.findClass]; exact hown) hCH hsz' X' hQ)
/-- the same over wider tables: what they find anew is such a String too -/
theorem CHn.wide {V : State} (H : CHn cs N W) (hW : W.Warmed39 V.vm) (hk : ∀ (b : Addr) (c : Cell), N b → W.heap[b]? = some c → V.heap[b]? = some c) (hN : ∀ b, N b → N' b)
    (hf : ∀ (units : Array UInt16) (a : Addr), V.vm.interned.find? (fun p => p.1 == units) = some (units, a) → W.vm.interned.find? (fun p => p.1 == units) = some (units, a) ∨ SlN N' V a units) : CHn cs N' V := by
  intro x hx c k' cf i units a h1 h2 h3 h4 h5 h6
  have hal := hW.alike
  have h1' : W.vm.findClass x.1 = some c := by rw [← hal.findClass]; exact h1
  obtain ⟨k, hkc, -⟩ := Vm.findClass_spec h1'
  obtain ⟨k2, g1, g2, -, g4, -⟩ := hW.2.2.2 c k hkc
  cases h2.symm.trans g1
  have h3' : k.cf = some cf := by rw [g2] at h3; exact h3
  have old := fun q => ((H x hx c k cf i units a h1' hkc h3' h4 h5 q).mv hal hk).up hN
  have found : k.resolved[x.2]? = some none → V.vm.interned.find? (fun p => p.1 == units) = some (units, a) → SlN N' V a units := fun q r => by
    rcases hf units a r with z | z
    · exact old (Or.inr ⟨q, z⟩)
    · exact z
  rcases h6 with h6 | ⟨h6, h7⟩
  · rcases g4 x.2 with q | ⟨q, r, q2, q3⟩
    · exact old (Or.inl (q ▸ h6))
    · rw [h6] at q2
      cases q2
      rcases q3 with q3 | ⟨a', t, si, us, e1, -, e3, e4, e5⟩
      · rw [own_right_string] at q3; cases q3
      · cases e1
        rw [h3'] at e3 e4
        have e6 : si = i := by have := e3.symm.trans h4; simpa using this
        subst e6
        have e7 : us = units := by simpa [ConstantPool.utf8?, h5] using e4.symm
        subst e7
        exact found q e5
  · rcases g4 x.2 with q | ⟨q, r, q2, q3⟩
    · exact found (q ▸ h6) h7
    · rw [h6] at q2; cases q2
theorem AI.ofCell {a : Addr} {ty : FieldType} {xs : List Int32} {c : Cell} (A : Arr Z h a c ty) (hs : c.slots.toList = xs.map Value.int) (hf : ∀ x ∈ xs, fits ty (.int x) = true) (hl : xs.length < 2147483648) : AI Z h a ty xs := by
  have hsz : c.slots.size = xs.length := by rw [← Array.length_toList, hs, List.length_map]
  refine ⟨hl, c.cls, c, A, rfl, by rw [own_ofNat_clamp hl]; exact hsz, own_ofNat_nn hl, fun i hi => ?_, fun i hi => ?_⟩
  · rw [← Array.getElem?_toList, hs, List.getD_eq_getElem?_getD]
    have : i < (xs.map Value.int).length := by rw [List.length_map]; omega
    rw [List.getElem?_eq_getElem this]; rfl
  · have hi' : i < xs.length := by omega
    rw [List.getD_eq_getElem?_getD, List.getElem?_map, List.getElem?_eq_getElem hi']
    exact hf _ (List.getElem_mem hi')
def own_bytes (units : Array UInt16) : List Int32 := units.toList.map fun u => u.toUInt8.toInt8.toInt32
theorem own_sl_core {q : SQ} {cS : ClassId} {u : Array UInt16} (h2 : Sl q cS W) (h3 : ∃ kS : Class, W.vm.classes[cS]? = some kS ∧ kS.kind = .ordinary ∧ q.sC.slots.size = kS.instanceTypes.size) (h5 : q.SA.slots = stringBytes u) (hZ : Z.Warmed39 W.vm) (hlat : u.all (· < 256) = true) :
    Exa Z W.heap q.sa "java/lang/String" ∧ Fld Z W.heap q.sa "java/lang/String" "value" "[B" (.ref q.sd) ∧ Fld Z W.heap q.sa "java/lang/String" "coder" "B" (.int 0) ∧ AI Z W.heap q.sd .byte (own_bytes u) := by
  obtain ⟨⟨s1, s2, s3, s4, s5, s6, s7, s8, s9, s10, s11, s12, s13, s14, s15, s16⟩, hc1, hc2⟩ := h2
  obtain ⟨kS, k1, k2, k3⟩ := h3
  have hal : W.vm.Alike Z.vm := hZ.alike.symm
  obtain ⟨cv, kv, iv, v1, v2⟩ := found_asg hal s4
  obtain ⟨cc, kc, ic, w1, w2⟩ := found_asg hal s5
  obtain ⟨kZ, hkZ, ekZ⟩ := hal.2.2 _ _ k1
  refine ⟨⟨q.sC, kZ, s1, by rw [hal.findClass, hc2]; exact hc1, by rw [hc2]; exact hkZ, s3, fun _ => by rw [ekZ]; exact k3⟩, ⟨q.sC, cv, kv, iv, q.fSV, s1, v1, s6, s2, s3, v2, s8⟩, ⟨q.sC, cc, kc, ic, q.fSC, s1, w1, s7, s2, s3, w2, s9⟩, ?_⟩
  refine AI.ofCell (c := q.SA) ⟨s10, State.isArrayOf_alike hal s11, s12⟩ ?_ ?_ ?_
  · rw [h5, stringBytes_lat hlat]; simp [own_bytes, byteValue, Function.comp_def]
  · intro x hx
    simp only [own_bytes, List.mem_map] at hx
    obtain ⟨y, -, rfl⟩ := hx
    exact fits_of_int8 _
  · have : (own_bytes u).length = q.SA.slots.size := by rw [h5, stringBytes_lat hlat]; simp [own_bytes]
    rw [this, s13]; exact s14
theorem SlN.facts {a : Addr} {u : Array UInt16} (F : SlN N W a u) (hZ : Z.Warmed39 W.vm) (hlat : u.all (· < 256) = true) :
    ∃ v, Exa Z W.heap a "java/lang/String" ∧ Fld Z W.heap a "java/lang/String" "value" "[B" (.ref v) ∧ Fld Z W.heap a "java/lang/String" "coder" "B" (.int 0) ∧ AI Z W.heap v .byte (own_bytes u) ∧ N a ∧ N v := by
  obtain ⟨q, cS, rfl, h2, h3, h4, h5, h6, h7⟩ := F
  obtain ⟨f1, f2, f3, f4⟩ := own_sl_core h2 h3 h5 hZ hlat
  exact ⟨q.sd, f1, f2, f3, f4, h6, h7⟩
theorem own_slIn_facts {a : Addr} {u : Array UInt16} {lo hi : Nat} (F : SlIn lo hi W a u) (hZ : Z.Warmed39 W.vm) (hlat : u.all (· < 256) = true) :
    ∃ v, Exa Z W.heap a "java/lang/String" ∧ Fld Z W.heap a "java/lang/String" "value" "[B" (.ref v) ∧ Fld Z W.heap a "java/lang/String" "coder" "B" (.int 0) ∧ AI Z W.heap v .byte (own_bytes u) ∧ ((a < lo ∧ v < lo) ∨ (hi ≤ a ∧ hi ≤ v)) := by
  obtain ⟨q, cS, rfl, h2, h3, h4, h5, h6⟩ := F
  obtain ⟨f1, f2, f3, f4⟩ := own_sl_core h2 h3 h5 hZ hlat
  exact ⟨q.sd, f1, f2, f3, f4, h6⟩
theorem own_chr (n : Nat) (h : n < 256) : (Char.ofNat n).toNat = n := by
  have : ∀ k : Fin 256, (Char.ofNat k.val).toNat = k.val := by decide +kernel
  exact this ⟨n, h⟩
theorem own_units {us : Array UInt16} {text : String} (h : utf16ToString? us = some text) (ht : ∀ c ∈ text.toList, c.toNat < 256) : text.toList = us.toList.map fun u => Char.ofNat u.toNat := by
  have hl := lat_of_text h ht
  rw [Array.all_eq_true_iff_forall_mem] at hl
  have := app_eq us.toList "" text (fun u hu => by have := hl u (Array.mem_toList_iff.mp hu); simpa using this) h
  simpa using this
theorem own_units_inj {us us' : Array UInt16} {text : String} (h : utf16ToString? us = some text) (h' : utf16ToString? us' = some text) (ht : ∀ c ∈ text.toList, c.toNat < 256) : us = us' := by
  have e := (own_units h ht).symm.trans (own_units h' ht)
  have l1 := lat_of_text h ht
  have l2 := lat_of_text h' ht
  rw [Array.all_eq_true_iff_forall_mem] at l1 l2
  apply Array.toList_inj.mp
  have key : ∀ (L L' : List UInt16), (∀ u ∈ L, u < 256) → (∀ u ∈ L', u < 256) → L.map (fun u => Char.ofNat u.toNat) = L'.map (fun u => Char.ofNat u.toNat) → L = L' := by
    intro L
    induction L with
    | nil => intro L' _ _ q; cases L' with | nil => rfl | cons => simp at q
    | cons x L ih =>
      intro L' g1 g2 q
      cases L' with
      | nil => simp at q
      | cons y L' =>
        simp only [List.map_cons, List.cons.injEq] at q
        have a1 : x.toNat < 256 := by have := g1 x (by simp); simpa [UInt16.lt_iff_toNat_lt] using this
        have a2 : y.toNat < 256 := by have := g2 y (by simp); simpa [UInt16.lt_iff_toNat_lt] using this
        have b1 : (Char.ofNat x.toNat).toNat = x.toNat := own_chr _ (by omega)
        have b2 : (Char.ofNat y.toNat).toNat = y.toNat := own_chr _ (by omega)
        have c1 : x.toNat = y.toNat := by rw [← b1, ← b2, q.1]
        rw [UInt16.toNat_inj.mp c1, ih L' (fun u hu => g1 u (by simp [hu])) (fun u hu => g2 u (by simp [hu])) q.2]
  exact key _ _ (fun u hu => by have := l1 u (Array.mem_toList_iff.mp hu); simpa using this) (fun u hu => by have := l2 u (Array.mem_toList_iff.mp hu); simpa using this) e
/-- ldc of a String constant whose entry is resolved -/
theorem Go.ldcR (X : Stand p l e R s m args below meth c T locs cells slots) (hx : p.tables.exec = Jvm.exec) (hZ : Z.Warmed39 s.vm) {own text : String} {index : Nat} (hown : s.vm.findClass own = some m.cls) (w : (Jvm.Cond.stringLink own index text).before a0 Z = true) {a : Addr}
    (hr : ∃ k₂, s.vm.classes[m.cls]? = some k₂ ∧ k₂.resolved[index]? = some (some (.string a))) {g : JFrame} (hg : g.method = m) (hdg : decode c.code g.pc = .ok (.ldc index, 2))
    (k : Go p e below G T { g with pc := g.pc + 2, stack := .ref a :: g.stack }) : Go p e below G T g := by
  have hlink : (Jvm.Cond.stringLink own index text).before args s = true := mvS (s := s) hZ w
  obtain ⟨k0, cf, i, units, hk, hcf, hc, hu, hnm, hdec, hres⟩ := Cond.stringLink_spec hown hlink
  obtain ⟨k₂, q1, q2⟩ := hr
  cases hk.symm.trans q1
  obtain ⟨k', g1, g2, -, g4, -⟩ := X.warmed.2.2 _ _ hk
  have hcf' : k'.cf = some cf := by rw [g2]; exact hcf
  have hr' : k'.resolved[index]? = some (some (.string a)) := by
    rcases g4 index with z | ⟨z, -⟩
    · exact z.trans q2
    · rw [q2] at z; cases z
  subst hg
  refine Go.st (fun t hrest => ?_) k
  jvm_step X.here [hx, hdg, ldc.wp_string (e := e) (s := T) (f := g) X.here.top g1 hcf' hc hr']
  exact hrest
theorem Go.ldcW (X : Stand p l e R s m args below meth c T locs cells slots) (hx : p.tables.exec = Jvm.exec) {n : Nat} (hB : Bas s0 s n) (hn : n ≤ T.heap.size) (hZ : Z.Warmed39 s.vm) {own text : String} {index : Nat} (hown : s.vm.findClass own = some m.cls) (w : (Jvm.Cond.stringLink own index text).before a0 Z = true)
    (wS : ∀ d ∈ Bundle.stringAtoms, d.before a0 Z = true) (htx : ∀ c ∈ text.toList, c.toNat < 256) {hb : Heap} (hC : CHb cs N s hb) (hU : Und N hb T.heap) (hm : (own, index) ∈ cs) (hfr : ∀ y ∈ locs, s.heap.size ≤ y.base)
    {g : JFrame} (hg : g.method = m) (hdg : decode c.code g.pc = .ok (.ldc index, 2)) {nn : Nat} (hnn : 4 * text.toList.length ≤ nn) (hbig : nn ≤ 536870912) (hc : cells + 2 ≤ R.cells) (hs : slots + (nn + 4) ≤ R.slots)
    (k : ∀ a v s' T' units locs', utf16ToString? units = some text → Bas s0 s' T'.heap.size → Z.Warmed39 s'.vm → s'.vm.findClass own = some m.cls → CHb cs (fun b => N b ∨ T.heap.size ≤ b) s' T'.heap → Ext T.heap T'.heap → s'.heap = s.heap → (∀ y ∈ locs', y ∈ locs) →
      Stand p l e R s' m args below meth c T' locs' (cells + 2) (slots + (nn + 4)) → (∃ k₂, s'.vm.classes[m.cls]? = some k₂ ∧ k₂.resolved[index]? = some (some (.string a))) →
      Exa Z T'.heap a "java/lang/String" → Fld Z T'.heap a "java/lang/String" "value" "[B" (.ref v) → Fld Z T'.heap a "java/lang/String" "coder" "B" (.int 0) → AI Z T'.heap v .byte (own_bytes units) → ((N a ∧ N v) ∨ (T.heap.size ≤ a ∧ T.heap.size ≤ v)) →
      Go p e below G T' { g with pc := g.pc + 2, stack := .ref a :: g.stack }) : Go p e below G T g := by
  have hlink : (Jvm.Cond.stringLink own index text).before args s = true := mvS (s := s) hZ w
  have hCT : CHn cs N T := hC.to X hU
  obtain ⟨k0, cf, i, units, hk, hcf, hcp, hu, hnm, hdec, hres⟩ := Cond.stringLink_spec hown hlink
  have hlat : units.all (· < 256) = true := lat_of_text hdec htx
  obtain ⟨k', g1, g2, -, g4, -⟩ := X.warmed.2.2 _ _ hk
  have hcf' : k'.cf = some cf := by rw [g2]; exact hcf
  have hsame : k'.resolved[index]? = k0.resolved[index]? := by
    rcases g4 index with z | ⟨z, r, z2, z3⟩
    · exact z
    · exfalso; cases r <;> simp [State.rightAt, hk, hcf, hnm] at z3
  have hownT : T.vm.findClass own = some m.cls := by rw [X.warmed.alike.findClass]; exact hown
  have hint : T.vm.interned = s.vm.interned := X.warmed.interned_eq
  have hZT : Z.Warmed39 T.vm := wtrans hZ X.warmed
  rcases hres with hop | ⟨a, hra⟩
  · cases hf : s.vm.interned.find? (fun p => p.1 == units) with
    | some pr =>
      obtain ⟨u', a⟩ := pr
      have hu' : u' = units := by have := Array.find?_some hf; simpa using this
      subst hu'
      have hopT : k'.resolved[index]? = some none := hsame.trans hop
      have hfT : T.vm.interned.find? (fun p => p.1 == u') = some (u', a) := by rw [hint]; exact hf
      have hSl : SlN N T a u' := hCT _ hm _ k' cf i u' a hownT g1 hcf' hcp hu (Or.inr ⟨hopT, hfT⟩)
      have q2 : k0.cf.bind (namesOf? ·.constantPool index) = some (.string text) := by rw [hcf]; exact hnm
      have q3 : k0.cf.bind (·.constantPool[index]?) = some (.string i) := by rw [hcf]; exact hcp
      have q4 : k0.cf.bind (·.constantPool.utf8? i) = some u' := by rw [hcf]; simp [ConstantPool.utf8?, hu]
      have hW : s.Warmed39 (T.vm.noted m.cls index (.string a)) := X.warmed.wide.notedString hk (Or.inl hop) q2 q3 q4 hfT
      have X2 := (X.mono (Nat.le_add_right cells 2) (Nat.le_add_right slots (nn + 4))).retabled hW
      have hSl2 : SlN N (T.setVm (T.vm.noted m.cls index (.string a))) a u' := hSl.mv (X.warmed.alike.symm.trans hW.alike) (fun _ _ _ q => q)
      obtain ⟨v, f1, f2, f3, f4, f5, f6⟩ := hSl2.facts (State.Warmed39.trans hZ hW) hlat
      have hS : s.Since (T.vm.noted m.cls index (.string a)) T.heap.size := ⟨hW, fun j pr hj hp => by
        have hp' : T.vm.interned[j]? = some pr := hp
        rw [hint] at hp'
        exact absurd (Array.getElem?_eq_some_iff.mp hp').1 (Nat.not_lt.mpr hj)⟩
      have hCH : CHb cs (fun b => N b ∨ T.heap.size ≤ b) (s.setVm (T.vm.noted m.cls index (.string a))) T.heap :=
        CHn.wide (V := ({ s.setVm (T.vm.noted m.cls index (.string a)) with heap := T.heap } : State)) hC (show ({ s with heap := hb } : State).Warmed39 _ from hW) hU.2 (fun _ q => Or.inl q) (fun us b q => Or.inl (by
          have q' : T.vm.interned.find? (fun p => p.1 == us) = some (us, b) := q
          rw [hint] at q'; exact q'))
      refine Go.st (fun t hrest => ?_) (k a v (s.setVm (T.vm.noted m.cls index (.string a))) (T.setVm (T.vm.noted m.cls index (.string a))) u' locs hdec (hB.next (T' := T.setVm (T.vm.noted m.cls index (.string a))) hS hn) (State.Warmed39.trans hZ hW) (by show (T.vm.noted m.cls index (.string a)).findClass own = _; rw [hW.alike.findClass]; exact hown) hCH ⟨Nat.le_refl _, fun _ _ q => q⟩ rfl (fun _ q => q) X2 ⟨_, Vm.classes_note_self index (.string a) g1, Class.resolved_note_self (.string a) hopT⟩ f1 f2 f3 f4 (Or.inl ⟨f5, f6⟩))
      subst hg
      jvm_step X.here [hx, hdg, ldc.wp_string_found (e := e) (s := T) (f := g) X.here.top g1 hcf' hcp hu hopT hfT]
      exact hrest
    | none =>
      have X0 : Stand p l e R s m args below meth c T [] cells slots := Stand.dropFresh (locs := []) (J := locs) (by simpa using X) hfr
      have hheld : ConstHeldL s own index := by
        intro c2 k2 cf2 i2 us2 a2 h1 h2 h3 h4 h5 h6
        cases hown.symm.trans h1
        cases hk.symm.trans h2
        cases hcf.symm.trans h3
        cases hcp.symm.trans h4
        cases hu.symm.trans h5
        rcases h6 with h6 | ⟨-, h6⟩
        · rw [hop] at h6; cases h6
        · rw [hf] at h6; cases h6
      have hSat : ∀ d ∈ Bundle.stringAtoms, d.before args s = true := fun d hd => by
        have q := wS d hd
        simp only [Bundle.stringAtoms, List.mem_cons, List.not_mem_nil, or_false] at hd
        rcases hd with rfl | rfl | rfl | rfl | rfl | rfl | rfl
        · exact mv hZ q
        · exact mv hZ q
        · exact mvA hZ q
        · exact mv hZ q
        · exact mv hZ q
        · exact mv hZ q
        · exact mv hZ q
      obtain ⟨a, T₂, X2, hS, hres2, hkeep, hI1, hI2, ⟨us, hus, hin⟩, st⟩ := X0.ldcStringColdSl2 hx hown hlink hSat hheld (fun us2 h2 => lat_of_text h2 htx) hg hdg hnn hbig hc hs
      have hlat2 : us.all (· < 256) = true := lat_of_text hus htx
      have hZ2 : Z.Warmed39 T₂.vm := State.Warmed39.trans hZ hS.1
      have eus : us = units := own_units_inj hus hdec htx
      subst eus
      obtain ⟨v, f1, f2, f3, f4, f5⟩ := own_slIn_facts hin hZ2 hlat2
      have hE : Ext T.heap T₂.heap := ext_of hkeep
      have hfa : T₂.vm.interned.find? (fun p => p.1 == us) = some (us, a) := by
        obtain ⟨k2, hk2, hr2⟩ := hres2
        obtain ⟨k3, b1, b2, -, b4, -⟩ := hS.1.2.2.2 _ _ hk
        cases hk2.symm.trans b1
        rcases b4 index with z | ⟨-, r, z2, z3⟩
        · rw [hop, hr2] at z; cases z
        · rw [hr2] at z2
          cases z2
          rcases z3 with z3 | ⟨a3, t3, si3, us3, y1, -, y3, y4, y5⟩
          · rw [own_right_string] at z3; cases z3
          · cases y1
            rw [hcf] at y3 y4
            have e6 : si3 = i := by have := y3.symm.trans hcp; simpa using this
            subst e6
            have e7 : us3 = us := by simpa [ConstantPool.utf8?, hu] using y4.symm
            subst e7
            exact y5
      have hnew : s.heap.size ≤ a := by
        obtain ⟨more, hmore⟩ := hS.1.2.2.1
        have hmem : (us, a) ∈ T₂.vm.interned := Array.mem_of_find?_eq_some hfa
        rw [hmore] at hmem
        rcases Array.mem_append.mp hmem with z | z
        · rw [Array.find?_eq_none] at hf
          exact absurd (by simp) (hf _ z)
        · obtain ⟨j, hj, ej⟩ := Array.mem_iff_getElem.mp z
          have := hS.2 (s.vm.interned.size + j) (us, a) (Nat.le_add_right _ _) (by rw [hmore, Array.getElem?_append_right (Nat.le_add_right _ _), Nat.add_sub_cancel_left, Array.getElem?_eq_getElem hj, ej])
          exact this.1
      have hSl : SlN (fun b => N b ∨ T.heap.size ≤ b) T₂ a us := by
        obtain ⟨q, cS, j1, j2, j3, j4, j5, j6⟩ := hin
        rcases j6 with ⟨z, -⟩ | ⟨z1, z2⟩
        · rw [j1] at z; exact absurd z (Nat.not_lt.mpr hnew)
        · exact ⟨q, cS, j1, j2, j3, j4, j5, Or.inr z1, Or.inr z2⟩
      have hCH : CHb cs (fun b => N b ∨ T.heap.size ≤ b) (s.setVm T₂.vm) T₂.heap :=
        CHn.wide (V := ({ s.setVm T₂.vm with heap := T₂.heap } : State)) hC (show ({ s with heap := hb } : State).Warmed39 _ from hS.1) (hU.ext hE).2 (fun _ q => Or.inl q) (fun us2 b q => by
          have q' : T₂.vm.interned.find? (fun p => p.1 == us2) = some (us2, b) := q
          rcases hI2 with y | ⟨u3, a3, y1, y2⟩
          · rw [y, hint] at q'; exact Or.inl q'
          · have q0 := q'
            rw [y2, hint, Array.find?_push] at q'
            cases hf2 : s.vm.interned.find? (fun p => p.1 == us2) with
            | some pr => rw [hf2] at q'; exact Or.inl (by simpa [hf2] using q')
            | none =>
              rw [hf2] at q'
              simp only [Option.none_or] at q'
              split at q'
              · rename_i hbe
                have hu3 : u3 = us2 := by simpa using hbe
                subst hu3
                have hb3 : a3 = b := by simpa using q'
                subst hb3
                have e8 : u3 = us := own_units_inj y1 hus htx
                subst e8
                rw [hfa] at q0
                cases q0
                exact Or.inr (hSl.mv (V := ({ s.setVm T₂.vm with heap := T₂.heap } : State)) (Vm.Alike.refl _) (fun _ _ _ q => q))
              · cases q')
      refine Go.st st (k a v (s.setVm T₂.vm) T₂ us [] hus (hB.next hS (Nat.le_trans hn hE.1)) hZ2 (by show T₂.vm.findClass own = _; rw [hS.1.alike.findClass]; exact hown) hCH hE rfl (fun _ q => nomatch q) X2 hres2 f1 f2 f3 f4 ?_)
      rcases f5 with ⟨z, -⟩ | z
      · exact absurd z (Nat.not_lt.mpr hnew)
      · exact Or.inr z
  · have hraT : k'.resolved[index]? = some (some (.string a)) := hsame.trans hra
    have hSl : SlN N T a units := hCT _ hm _ k' cf i units a hownT g1 hcf' hcp hu (Or.inl hraT)
    obtain ⟨v, f1, f2, f3, f4, f5, f6⟩ := hSl.facts hZT hlat
    have X2 := X.mono (Nat.le_add_right cells 2) (Nat.le_add_right slots (nn + 4))
    have hCH : CHb cs (fun b => N b ∨ T.heap.size ≤ b) s T.heap := CHn.up (CHn.mv (V := ({ s with heap := T.heap } : State)) hC (State.WarmedH.refl _) hU.2) (fun _ q => Or.inl q)
    have hB2 : Bas s0 s T.heap.size := ⟨hB.1, hB.2.1, hB.2.2.mono hn⟩
    refine Go.st (fun t hrest => ?_) (k a v s T units locs hdec hB2 hZ hown hCH ⟨Nat.le_refl _, fun _ _ q => q⟩ rfl (fun _ q => q) X2 ⟨_, hk, hra⟩ f1 f2 f3 f4 (Or.inl ⟨f5, f6⟩))
    subst hg
    jvm_step X.here [hx, hdg, ldc.wp_string (e := e) (s := T) (f := g) X.here.top g1 hcf' hcp hraT]
    exact hrest
theorem Go.retVW (X : Stand p l e R s m args below meth c T locs cells slots) (hx : p.tables.exec = Jvm.exec) {n : Nat} (hB : Bas s0 s n) (hn : n ≤ T.heap.size) {hb : Heap} (hC : CHb cs N s hb) (hU : Und N hb T.heap) {pc : Nat} {Ls : Array Slot} {Q : Option Value → Heap → List Loc → Prop} {kc ks : Nat} {rest : List Value} {w : Value} {t : FieldType} (hret : meth.sig.returnType = some t) (hlk : meth.locks = false) (ht : t.isReference = true) (hw : w.isRef = true)
    (hd : decode c.code pc = .ok (.areturn, 1)) (hQ : Q (some w) T.heap locs) (hc : cells ≤ kc) (hs : slots ≤ ks) : Go p e below (EndW cs s0 Q kc ks) T (mkF m pc Ls (w :: rest)) :=
  Go.doneW X hB hn (hC.to X hU) (fun q => by rw [hret] at q; cases q) hlk (fun fs hr => retOut X hx hret (by rcases ref_cases hw with rfl | ⟨z, rfl⟩ <;> cases t <;> first | rfl | cases ht) (Or.inr (Or.inr (Or.inr (Or.inr ⟨rfl, ht, hw⟩)))) hd hr) hQ hc hs
theorem Go.retBW (X : Stand p l e R s m args below meth c T locs cells slots) (hx : p.tables.exec = Jvm.exec) {n : Nat} (hB : Bas s0 s n) (hn : n ≤ T.heap.size) {hb : Heap} (hC : CHb cs N s hb) (hU : Und N hb T.heap) {pc : Nat} {Ls : Array Slot} {Q : Option Value → Heap → List Loc → Prop} {kc ks : Nat} {rest : List Value} {z : Int32} {t : FieldType} (hret : meth.sig.returnType = some t) (hlk : meth.locks = false) (ht : t = .boolean ∨ t = .byte ∨ t = .char ∨ t = .short)
    (hd : decode c.code pc = .ok (.ireturn, 1)) (hQ : Q (some (.int (nar t z))) T.heap locs) (hc : cells ≤ kc) (hs : slots ≤ ks) : Go p e below (EndW cs s0 Q kc ks) T (mkF m pc Ls (.int z :: rest)) :=
  Go.doneW X hB hn (hC.to X hU) (fun q => by rw [hret] at q; cases q) hlk (fun fs hr => retN X hx hret ht hd hr) hQ hc hs
theorem Go.ret0W (X : Stand p l e R s m args below meth c T locs cells slots) (hx : p.tables.exec = Jvm.exec) {n : Nat} (hB : Bas s0 s n) (hn : n ≤ T.heap.size) {hb : Heap} (hC : CHb cs N s hb) (hU : Und N hb T.heap) {pc : Nat} {Ls : Array Slot} {Q : Option Value → Heap → List Loc → Prop} {kc ks : Nat} (hret : meth.sig.returnType = none) (hlk : meth.locks = false)
    (hd : decode c.code pc = .ok (.return_, 1)) (hQ : Q none T.heap locs) (hc : cells ≤ kc) (hs : slots ≤ ks) : Go p e below (EndW cs s0 Q kc ks) T (mkF m pc Ls []) :=
  Go.doneW X hB hn (hC.to X hU) (fun _ => rfl) hlk (fun fs hr => X.returnOut hx hret hd hr) hQ hc hs
/-! from the statement's word on held constants -/
theorem own_eqI {args : Array Value} {t : Term} {v : Int32} (h : (Cond.eq t (Term.int v)).before args s = true) : t.eval args s none [] s = some (.int v) := by
  have h := Cond.before_iff.mp h
  obtain ⟨x, y, h1, h2, k1, k2⟩ := cmp_v (Or.inl h)
  cases Option.some.inj ((Term.int_eval v).symm.trans h2)
  obtain ⟨z, rfl⟩ := k2
  have q := gotT (Cond.eq_ints h1 (Term.int_eval v)) h
  rw [h1, q]
theorem own_slOf {a : Addr} {units : Array UInt16} (hl : units.all (· < 256) = true) (hbig : units.size < 2147483648) (hw : (Jvm.Lit.latin1L units).all (fun w => w.before #[.ref a] s) = true)
    (harr : (Jvm.Cond.arrayClass .byte).before #[.ref a] s = true) (hins : (Jvm.Cond.instantiable "java/lang/String" 4).before #[.ref a] s = true) : SlOf s a units := by
  have Wd := fun w hm => List.all_eq_true.mp hw w hm
  have ev0 : (Term.arg 0).eval #[.ref a] s none [] s = some (.ref a) := rfl
  have w1 : (Jvm.Cond.exactly (.arg 0) "java/lang/String").before #[.ref a] s = true := Wd _ (by simp [Jvm.Lit.latin1L])
  have c2 := own_eqI (Wd (Jvm.Cond.eq Jvm.Lit.C0 (.int 0)) (by simp [Jvm.Lit.latin1L]))
  have w3 : (Jvm.Cond.exactly Jvm.Lit.V0 "[B").before #[.ref a] s = true := Wd _ (by simp [Jvm.Lit.latin1L])
  have c4 := own_eqI (Wd (Jvm.Cond.eq (.length Jvm.Lit.V0) (.int (Int32.ofNat units.size))) (by simp [Jvm.Lit.latin1L]))
  have c5 : ∀ j, j < units.size → (Term.elem Jvm.Lit.V0 (.int (Int32.ofNat j))).eval #[.ref a] s none [] s = some (.int (Jvm.Lit.byteI (units.getD j 0))) := fun j hj =>
    own_eqI (Wd _ (List.mem_append_right _ (List.mem_map.mpr ⟨j, List.mem_range.mpr hj, rfl⟩)))
  have E : Exa s s.heap a "java/lang/String" := Exa.start ev0 (Cond.before_iff.mp w1)
  have FC : Fld s s.heap a "java/lang/String" "coder" "B" (.int 0) := Fld.start (by rw [← fld_at (t := .arg 0) (args := #[.ref a]) (first := s) (o := none) (idx := []) ev0]; exact c2)
  obtain ⟨sd, SA, hev, hAt, -⟩ := Term.length_spec c4
  have FV : Fld s s.heap a "java/lang/String" "value" "[B" (.ref sd) := Fld.start (by rw [← fld_at (t := .arg 0) (args := #[.ref a]) (first := s) (o := none) (idx := []) ev0]; exact hev)
  have h31 := Jvm.Free.SBG.length_lt hev hAt c4
  obtain ⟨sd', cB, SA', kB, hevB, hfB, hcB, hkB, -, hclsB, -⟩ := Cond.exactly_spec w3
  cases hev.symm.trans hevB
  obtain ⟨hcell, hunk, hst, -⟩ := State.arrayAt?_spec hAt
  cases hcell.symm.trans hcB
  obtain ⟨cA, kA, comp, f1, f2, f3⟩ := Cond.arrayClass_spec harr
  have f1' : s.vm.findClass "[B" = some cA := f1
  cases hfB.symm.trans f1'
  have hArr : s.isArrayOf SA .byte := ⟨fun k hk => (by rw [hk] at hst; cases hst), kA, (by rw [hclsB]; exact f2), comp, f3⟩
  have hsz : SA.slots.size = units.size := by
    have e : (Term.length Jvm.Lit.V0).eval #[.ref a] s none [] s = some (.int (Int32.ofNat SA.slots.size)) := by simp [Term.eval] at hev ⊢; simp [hev, hAt, h31]
    have h2 : Int32.ofNat SA.slots.size = Int32.ofNat units.size := by simpa using Option.some.inj (e.symm.trans c4)
    have := congrArg Int32.toInt h2
    rw [Int32.toInt_ofNat_small h31, Int32.toInt_ofNat_small (by omega)] at this; omega
  have hat : ∀ j, j < units.size → SA.slots[j]? = some (.int (Jvm.Lit.byteI (units.getD j 0))) := fun j hj => by
    have e1 := c5 j hj
    rw [Jvm.Free.SBG.elem_at (ix := .int (Int32.ofNat j)) hev hAt (by omega) h31 rfl] at e1; exact e1
  have hslots : SA.slots = stringBytes units := by
    rw [stringBytes_lat hl]
    apply Array.ext
    · rw [hsz, Array.size_map]
    · intro j h1 h2
      have hj : j < units.size := by omega
      have e := hat j hj
      rw [Array.getElem?_eq_getElem h1] at e
      rw [Option.some.inj e, Array.getElem_map]
      simp [byteValue, Jvm.Lit.byteI, Array.getD, hj]
  have hne : a ≠ sd := ne_arr E hins ⟨hcell, hArr, hunk⟩
  obtain ⟨cell, k, e1, e2, e3, e4, e5⟩ := E
  obtain ⟨cv, cfv, kv, iv, fv, v1, v2, v3, v4, v5, v6, v7⟩ := FV
  cases e1.symm.trans v1
  obtain ⟨cc, cfc, kc, ic, fc, x1, x2, x3, x4, x5, x6, x7⟩ := FC
  cases e1.symm.trans x1
  obtain ⟨cI, kI, i1, i2, i3, -⟩ := Cond.instantiable_spec hins
  cases e2.symm.trans i1
  cases e3.symm.trans i2
  refine ⟨(a, cell, fv, fc, sd, SA, SA.slots.size), cell.cls, rfl, ⟨⟨e1, v4, v5, ⟨cfv, kv, iv, v2, v6⟩, ⟨cfc, kc, ic, x2, x6⟩, v3, x3, v7, x7, hcell, hArr, hunk, rfl, h31, hne, fun j hj => ?_⟩, e2, rfl⟩, ⟨k, e3, i3, e5 i3⟩, by rw [hclsB]; exact hfB, hslots⟩
  have hj2 : j < SA.slots.size := hj
  have hj' : j < units.size := by omega
  have := hat j hj'
  show fits .byte (SA.slots.getD j .null) = true
  rw [Array.getD_eq_getD_getElem?, this]
  exact fits_of_int8 _
theorem own_heldL {args : Array Value} {own text : String} {index : Nat} (hh : Jvm.Lit.constHeld s own index) (hlink : (Jvm.Cond.stringLink own index text).before args s = true) (htx : ∀ c ∈ text.toList, c.toNat < 256)
    (hcw : Jvm.Lit.compactW.before args s = true) (harr : (Jvm.Cond.arrayClass .byte).before args s = true) (hins : (Jvm.Cond.instantiable "java/lang/String" 4).before args s = true) : ConstHeldL s own index := by
  intro c k cf i units a hc hk hcf hp hu hor
  obtain ⟨k', cf', i', units', hk', hcf', hp', hu', -, htext, -⟩ := Cond.stringLink_spec hc hlink
  cases hk.symm.trans hk'
  cases hcf.symm.trans hcf'
  cases hp.symm.trans hp'
  cases hu.symm.trans hu'
  have hlat := lat_of_text htext htx
  have q := hh c k cf i units a hc hk hcf hp hu hlat (by rw [← hcw]; rfl) hor
  exact own_slOf hlat q.1 q.2 (by simpa [Cond.before, Cond.holds, Cond.value] using harr) (tableWord_moved rfl hins)
end GoWide
theorem ef_0 (m : MethodId) (x0 : Int32) : entryFrame m #[(.int x0)] 1 = mkF m 0 #[.val (.int x0)] [] := by first | (simp [entryFrame, mkF, argsToLocals, Value.category]; done) | rfl
theorem pn_1 : plainName "java/lang/StringUTF16" = true := by first | (simp [plainName, overriddenIn]; done) | decide +kernel
theorem pd_2 : parseMethodDescriptor "(I)I" = some ⟨[.int], some .int⟩ := by decide +kernel
theorem ef_3 (m : MethodId) (x0 : Addr) (x1 : Int32) (x2 : Int32) : entryFrame m #[(.ref x0), (.int x1), (.int x2)] 3 = mkF m 0 #[.val (.ref x0), .val (.int x1), .val (.int x2)] [] := by first | (simp [entryFrame, mkF, argsToLocals, Value.category]; done) | rfl
theorem pd_4 : parseMethodDescriptor "([BII)V" = some ⟨[(.array .byte), .int, .int], none⟩ := by decide +kernel
theorem ef_5 (m : MethodId) (x0 : Addr) (x1 : Int32) (x2 : Int32) : entryFrame m #[(.ref x0), (.int x1), (.int x2)] 5 = mkF m 0 #[.val (.ref x0), .val (.int x1), .val (.int x2), .unset, .unset] [] := by first | (simp [entryFrame, mkF, argsToLocals, Value.category]; done) | rfl
theorem pd_6 : parseMethodDescriptor "(I)[B" = some ⟨[.int], some (.array .byte)⟩ := by decide +kernel
theorem ef_7 (m : MethodId) (x0 : Addr) (x1 : Int32) : entryFrame m #[(.ref x0), (.int x1)] 2 = mkF m 0 #[.val (.ref x0), .val (.int x1)] [] := by first | (simp [entryFrame, mkF, argsToLocals, Value.category]; done) | rfl
theorem ef_8 (m : MethodId) (x0 : Addr) (x1 : Int32) (x2 : Addr) (x3 : Int32) (x4 : Int32) : entryFrame m #[(.ref x0), (.int x1), (.ref x2), (.int x3), (.int x4)] 7 = mkF m 0 #[.val (.ref x0), .val (.int x1), .val (.ref x2), .val (.int x3), .val (.int x4), .unset, .unset] [] := by first | (simp [entryFrame, mkF, argsToLocals, Value.category]; done) | rfl
theorem ef_9 (m : MethodId) (x0 : Addr) (x1 : Int32) (x2 : Int32) : entryFrame m #[(.ref x0), (.int x1), (.int x2)] 6 = mkF m 0 #[.val (.ref x0), .val (.int x1), .val (.int x2), .unset, .unset, .unset] [] := by first | (simp [entryFrame, mkF, argsToLocals, Value.category]; done) | rfl
theorem pd_10 : parseMethodDescriptor "([CI[BII)I" = some ⟨[(.array .char), .int, (.array .byte), .int, .int], some .int⟩ := by decide +kernel
theorem pd_11 : parseMethodDescriptor "([CII)[B" = some ⟨[(.array .char), .int, .int], some (.array .byte)⟩ := by decide +kernel
theorem pd_12 : parseMethodDescriptor "([BI)C" = some ⟨[(.array .byte), .int], some .char⟩ := by decide +kernel
theorem ef_13 (m : MethodId) (x0 : Addr) (x1 : Addr) (x2 : Int32) (x3 : Int32) : entryFrame m #[(.ref x0), (.ref x1), (.int x2), (.int x3), .null] 6 = mkF m 0 #[.val (.ref x0), .val (.ref x1), .val (.int x2), .val (.int x3), .val .null, .unset] [] := by first | (simp [entryFrame, mkF, argsToLocals, Value.category]; done) | rfl
theorem pd_14 : parseMethodDescriptor "([BI)B" = some ⟨[(.array .byte), .int], some .byte⟩ := by decide +kernel
theorem pn_15 : plainName "java/lang/String" = true := by first | (simp [plainName, overriddenIn]; done) | decide +kernel
theorem ef_16 (m : MethodId) (x0 : Addr) (x1 : Addr) : entryFrame m #[(.ref x0), (.ref x1)] 2 = mkF m 0 #[.val (.ref x0), .val (.ref x1)] [] := by first | (simp [entryFrame, mkF, argsToLocals, Value.category]; done) | rfl
theorem pd_17 : parseMethodDescriptor "([CIILjava/lang/Void;)V" = some ⟨[(.array .char), .int, .int, (.object "java/lang/Void")], none⟩ := by decide +kernel
theorem ef_18 (m : MethodId) (x0 : Int32) (x1 : Addr) : entryFrame m #[(.int x0), (.ref x1)] 2 = mkF m 0 #[.val (.int x0), .val (.ref x1)] [] := by first | (simp [entryFrame, mkF, argsToLocals, Value.category]; done) | rfl
theorem pd_19 : parseMethodDescriptor "([C)V" = some ⟨[(.array .char)], none⟩ := by decide +kernel
theorem pn_20 : plainName "com/example/federate/federate/WholeNumbersParsePinLaw" = true := by first | (simp [plainName, overriddenIn]; done) | decide +kernel
theorem ef_21 (m : MethodId) (x0 : Addr) : entryFrame m #[(.ref x0)] 1 = mkF m 0 #[.val (.ref x0)] [] := by first | (simp [entryFrame, mkF, argsToLocals, Value.category]; done) | rfl
theorem pd_22 : parseMethodDescriptor "()B" = some ⟨[], some .byte⟩ := by decide +kernel
theorem ef_23 (m : MethodId) (x0 : Int32) (x1 : Int32) (x2 : Value) (h2 : x2.isRef = true) : entryFrame m #[(.int x0), (.int x1), x2] 3 = mkF m 0 #[.val (.int x0), .val (.int x1), .val x2] [] := by rcases ref_cases h2 with rfl | ⟨_, rfl⟩ <;> first | (simp [entryFrame, mkF, argsToLocals, Value.category]; done) | rfl
theorem pn_24 : plainName "jdk/internal/util/Preconditions" = true := by first | (simp [plainName, overriddenIn]; done) | decide +kernel
theorem ef_25 (m : MethodId) (x0 : Int32) (x1 : Int32) : entryFrame m #[(.int x0), (.int x1)] 2 = mkF m 0 #[.val (.int x0), .val (.int x1)] [] := by first | (simp [entryFrame, mkF, argsToLocals, Value.category]; done) | rfl
theorem pd_26 : parseMethodDescriptor "(IILjava/util/function/BiFunction;)I" = some ⟨[.int, .int, (.object "java/util/function/BiFunction")], some .int⟩ := by decide +kernel
theorem pd_27 : parseMethodDescriptor "(II)V" = some ⟨[.int, .int], none⟩ := by decide +kernel
theorem pn_28 : plainName "java/lang/StringLatin1" = true := by first | (simp [plainName, overriddenIn]; done) | decide +kernel
theorem pd_29 : parseMethodDescriptor "([B)I" = some ⟨[(.array .byte)], some .int⟩ := by decide +kernel
theorem pd_30 : parseMethodDescriptor "(I[B)V" = some ⟨[.int, (.array .byte)], none⟩ := by decide +kernel
theorem pd_31 : parseMethodDescriptor "()Z" = some ⟨[], some .boolean⟩ := by decide +kernel
theorem ef_32 (m : MethodId) (x0 : Int64) (x1 : Int32) : entryFrame m #[(.long x0), (.int x1)] 3 = mkF m 0 #[.val (.long x0), .second, .val (.int x1)] [] := by first | (simp [entryFrame, mkF, argsToLocals, Value.category]; done) | rfl
theorem ef_33 (m : MethodId) (x0 : Int32) (x1 : Int32) (x2 : Int32) : entryFrame m #[(.int x0), (.int x1), (.int x2)] 3 = mkF m 0 #[.val (.int x0), .val (.int x1), .val (.int x2)] [] := by first | (simp [entryFrame, mkF, argsToLocals, Value.category]; done) | rfl
theorem ef_34 (m : MethodId) (x0 : Int64) (x1 : Addr) (x2 : Int32) (x3 : Int32) : entryFrame m #[(.long x0), (.ref x1), (.int x2), (.int x3)] 6 = mkF m 0 #[.val (.long x0), .second, .val (.ref x1), .val (.int x2), .val (.int x3), .unset] [] := by first | (simp [entryFrame, mkF, argsToLocals, Value.category]; done) | rfl
theorem ef_35 (m : MethodId)  : entryFrame m #[] 0 = mkF m 0 #[] [] := by first | (simp [entryFrame, mkF, argsToLocals, Value.category]; done) | rfl
theorem pn_36 : plainName "java/util/OptionalInt" = true := by first | (simp [plainName, overriddenIn]; done) | decide +kernel
theorem pd_37 : parseMethodDescriptor "(I)V" = some ⟨[.int], none⟩ := by decide +kernel
theorem pd_38 : parseMethodDescriptor "()I" = some ⟨[], some .int⟩ := by decide +kernel
theorem pd_39 : parseMethodDescriptor "()Ljava/util/OptionalInt;" = some ⟨[], some (.object "java/util/OptionalInt")⟩ := by decide +kernel
theorem pd_40 : parseMethodDescriptor "(I)Ljava/util/OptionalInt;" = some ⟨[.int], some (.object "java/util/OptionalInt")⟩ := by decide +kernel
theorem pd_41 : parseMethodDescriptor "(I)C" = some ⟨[.int], some .char⟩ := by decide +kernel
theorem ef_42 (m : MethodId) (x0 : Addr) (x1 : Int32) (x2 : Int32) : entryFrame m #[(.ref x0), (.int x1), (.int x2)] 7 = mkF m 0 #[.val (.ref x0), .val (.int x1), .val (.int x2), .unset, .unset, .unset, .unset] [] := by first | (simp [entryFrame, mkF, argsToLocals, Value.category]; done) | rfl
theorem pn_43 : plainName "com/example/federate/federate/WholeNumbers" = true := by first | (simp [plainName, overriddenIn]; done) | decide +kernel
theorem ef_44 (m : MethodId) (x0 : Int32) (x1 : Int64) (x2 : Int32) (x3 : Int32) (x4 : Int32) : entryFrame m #[(.int x0), (.long x1), (.int x2), (.int x3), (.int x4)] maxLocals = mkF m 0 #[.val (.int x0), .val (.long x1), .second, .val (.int x2), .val (.int x3), .val (.int x4), .unset, .unset, .unset, .unset, .unset, .unset, .unset, .unset, .unset, .unset] [] := by first | (simp [entryFrame, mkF, argsToLocals, Value.category, maxLocals]; done) | rfl
theorem pd_45 : parseMethodDescriptor "(JI)I" = some ⟨[.long, .int], some .int⟩ := by decide +kernel
theorem pd_46 : parseMethodDescriptor "(IIZ)C" = some ⟨[.int, .int, .boolean], some .char⟩ := by decide +kernel
theorem pd_47 : parseMethodDescriptor "(I[C)Ljava/lang/String;" = some ⟨[.int, (.array .char)], some (.object "java/lang/String")⟩ := by decide +kernel
theorem pd_48 : parseMethodDescriptor "(J[CII)J" = some ⟨[.long, (.array .char), .int, .int], some .long⟩ := by decide +kernel
theorem pd_49 : parseMethodDescriptor "(Ljava/lang/String;II)Ljava/util/OptionalInt;" = some ⟨[(.object "java/lang/String"), .int, .int], some (.object "java/util/OptionalInt")⟩ := by decide +kernel
/-- how many signs lead, none above 255 -/
def own_fb : List Int32 → Nat
  | [] => 0
  | c :: cs => if (255 : Int32) < c then 0 else own_fb cs + 1
def own_lo (c : Int32) : Int32 := c.toInt8.toInt32
def own_hi (c : Int32) : Int32 := (c >>> (8 : Int32)).toInt8.toInt32
def own_u16 : List Int32 → List Int32
  | [] => []
  | c :: cs => own_lo c :: own_hi c :: own_u16 cs
theorem own_u16_len : ∀ cs : List Int32, (own_u16 cs).length = 2 * cs.length
  | [] => rfl
  | c :: cs => by simp only [own_u16, List.length_cons, own_u16_len cs]; omega
theorem own_u16_app : ∀ cs ds : List Int32, own_u16 (cs ++ ds) = own_u16 cs ++ own_u16 ds
  | [], _ => rfl
  | c :: cs, ds => by simp only [List.cons_append, own_u16, own_u16_app cs ds]
theorem own_u16_get : ∀ (cs : List Int32) (i : Nat) (x : Int32), cs[i]? = some x → (own_u16 cs)[2 * i]? = some (own_lo x) ∧ (own_u16 cs)[2 * i + 1]? = some (own_hi x)
  | [], i, x, h => by simp at h
  | c :: cs, 0, x, h => by simp at h; subst h; exact ⟨rfl, rfl⟩
  | c :: cs, i + 1, x, h => by
    have q := own_u16_get cs i x (by simpa using h)
    have e1 : 2 * (i + 1) = 2 * i + 1 + 1 := by omega
    rw [e1]
    simpa [own_u16] using q
theorem own_fb_le : ∀ cs : List Int32, own_fb cs ≤ cs.length
  | [] => Nat.le_refl _
  | c :: cs => by
    unfold own_fb; split
    · exact Nat.zero_le _
    · have := own_fb_le cs; simp only [List.length_cons]; omega
theorem own_fb_cons (c : Int32) (cs : List Int32) : own_fb (c :: cs) = if (255 : Int32) < c then 0 else own_fb cs + 1 := rfl
theorem own_fb_all : ∀ cs : List Int32, own_fb cs = cs.length → ∀ c ∈ cs, ¬ (255 : Int32) < c
  | [], _, c, h => by simp at h
  | d :: cs, e, c, h => by
    rw [own_fb_cons] at e
    by_cases q : (255 : Int32) < d
    · rw [if_pos q] at e; simp at e
    · rw [if_neg q] at e
      rcases List.mem_cons.mp h with rfl | h
      · exact q
      · exact own_fb_all cs (by simpa using e) c h
theorem own_fb_at : ∀ cs : List Int32, own_fb cs < cs.length → ∃ x, cs[own_fb cs]? = some x ∧ (255 : Int32) < x
  | [], h => by simp [own_fb] at h
  | d :: cs, h => by
    rw [own_fb_cons] at h ⊢
    by_cases q : (255 : Int32) < d
    · rw [if_pos q]; exact ⟨d, rfl, q⟩
    · rw [if_neg q] at h ⊢
      obtain ⟨x, h1, h2⟩ := own_fb_at cs (by simpa using h)
      exact ⟨x, by simpa using h1, h2⟩
theorem own_fb_big {cs : List Int32} {i : Nat} {x : Int32} (h : own_fb cs = i + own_fb (cs.drop i)) (hx : cs[i]? = some x) (q : (255 : Int32) < x) : own_fb cs = i := by
  obtain ⟨hi, rfl⟩ := List.getElem?_eq_some_iff.mp hx
  rw [List.drop_eq_getElem_cons hi, own_fb_cons, if_pos q] at h
  exact h
theorem own_fb_small {cs : List Int32} {i : Nat} {x : Int32} (h : own_fb cs = i + own_fb (cs.drop i)) (hx : cs[i]? = some x) (q : ¬ (255 : Int32) < x) : own_fb cs = (i + 1) + own_fb (cs.drop (i + 1)) := by
  obtain ⟨hi, rfl⟩ := List.getElem?_eq_some_iff.mp hx
  rw [List.drop_eq_getElem_cons hi, own_fb_cons, if_neg q] at h
  omega
theorem own_set_step {α : Type} (pre : List α) (d x : α) (k : Nat) (i : Nat) (hi : pre.length = i) : (pre ++ List.replicate (k + 1) d).set i x = (pre ++ [x]) ++ List.replicate k d := by
  subst hi
  rw [List.set_append_right _ _ (Nat.le_refl _), Nat.sub_self, List.replicate_succ, List.set_cons_zero, List.append_assoc]; rfl
theorem own_take_succ {cs : List Int32} {i : Nat} {x : Int32} (hx : cs[i]? = some x) : cs.take (i + 1) = cs.take i ++ [x] := by
  rw [List.take_add_one, hx]; rfl
theorem own_succ (i : Nat) : Int32.ofNat i + (1 : Int32) = Int32.ofNat (i + 1) := by rw [Int32.ofNat_add]; rfl
theorem own_toInt {n : Nat} (hn : n < 2147483648) : (Int32.ofNat n).toInt = n := Int32.toInt_ofNat_small hn
theorem own_shl1 {i : Nat} (hi : i < 1000000000) : Int32.ofNat i <<< ((1 : Int32) &&& 31) = Int32.ofNat (2 * i) := by
  have e : ((1 : Int32) &&& 31) = 1 := by decide
  rw [e]
  apply Int32.toBitVec_inj.mp
  apply BitVec.eq_of_toNat_eq
  simp [Int32.toBitVec_shiftLeft, Nat.shiftLeft_eq]
  omega
theorem own_b0 (c : Int32) : nar .byte ((c >>> ((0 : Int32) &&& 31)).toInt8.toInt32) = own_lo c := by
  have e : ((0 : Int32) &&& 31) = 0 := by decide
  have e2 : c >>> (0 : Int32) = c := by simp
  rw [e, e2]; simp [nar, own_lo]
theorem own_b1 (c : Int32) : nar .byte ((c >>> ((8 : Int32) &&& 31)).toInt8.toInt32) = own_hi c := by
  have e : ((8 : Int32) &&& 31) = 8 := by decide
  rw [e]; simp [nar, own_hi]
def Su16 (Z : State) (z : Int32) : Prop := Sta Z Z.heap "java/lang/StringUTF16" "$assertionsDisabled" "Z" (.int 1) ∧ Sta Z Z.heap "java/lang/StringUTF16" "HI_BYTE_SHIFT" "I" (.int 0) ∧ Sta Z Z.heap "java/lang/StringUTF16" "LO_BYTE_SHIFT" "I" (.int 8) ∧ Sta Z Z.heap "java/lang/String" "COMPACT_STRINGS" "Z" (.int z) ∧ ¬ z = 0
def QP (val : Int32) (h0 : Heap) (n0 : Nat) (v : Option Value) (h : Heap) (L : List Loc) : Prop := v = some (.int val) ∧ Fr n0 L ∧ h = h0
theorem dnl_0 : decode jdk_52_method_3_code 0 = .ok (.iload_n 0, 1) := by decide +kernel
theorem dnl_1 : decode jdk_52_method_3_code 1 = .ok (.ifCond .ge 11, 3) := by decide +kernel
theorem dnl_12 : decode jdk_52_method_3_code 12 = .ok (.iload_n 0, 1) := by decide +kernel
theorem dnl_13 : decode jdk_52_method_3_code 13 = .ok (.ldc 20, 2) := by decide +kernel
theorem dnl_15 : decode jdk_52_method_3_code 15 = .ok (.if_icmp .lt 40, 3) := by decide +kernel
theorem dnl_55 : decode jdk_52_method_3_code 55 = .ok (.iload_n 0, 1) := by decide +kernel
theorem dnl_56 : decode jdk_52_method_3_code 56 = .ok (.iconst 1, 1) := by decide +kernel
theorem dnl_57 : decode jdk_52_method_3_code 57 = .ok (.ishl, 1) := by decide +kernel
theorem dnl_58 : decode jdk_52_method_3_code 58 = .ok (.ireturn, 1) := by decide +kernel
set_option maxRecDepth 65536 in
set_option maxHeartbeats 40000000 in
theorem rmNL (l : Launch) (Z : State) (a0 : Array Value) (hw : ∀ d ∈ tables_1, d.before a0 Z = true) (n : Nat) (hn : n ≤ 100000) (h0 : Heap) (n0 : Nat) :
    Ctr l Z (⟨"java/lang/StringUTF16", "newBytesLength", "(I)I"⟩ : MethodName) jdk_52_method_3_code 1 (some .int) [] ({ frames := 0, cells := 0, slots := 0, locals := 0 } : Room) #[(.int (Int32.ofNat n))] h0 (QP (Int32.ofNat (2 * n)) h0 n0) := by
  refine Ctr.of (plainFor_of_name pn_1) ?_
  intro p e s m below meth c s₁ hx hby hml hown hnm hret hlk hZ X0 e0
  refine Go.cast (ef_0 m (Int32.ofNat n)) ?_
  show Go p e below _ s₁ (mkF m 0 #[.val (.int (Int32.ofNat n))] [])
  refine Go.st (fun _ k => XS.iloadN X0.here hx rfl (hb hby dnl_0) rfl k) ?_
  show Go p e below _ s₁ (mkF m 1 #[.val (.int (Int32.ofNat n))] [(.int (Int32.ofNat n))])
  have q1 := own_ofNat_nn (n := n) (by omega)
  refine Go.st (fun _ k => XS.ifYes X0.here hx rfl (pc0 := 1) (pc' := 12) rfl (hb hby dnl_1) rfl (XT.i0_ge_t q1) (by decide) (by decide) k) ?_
  show Go p e below _ s₁ (mkF m 12 #[.val (.int (Int32.ofNat n))] [])
  refine Go.st (fun _ k => XS.iloadN X0.here hx rfl (hb hby dnl_12) rfl k) ?_
  show Go p e below _ s₁ (mkF m 13 #[.val (.int (Int32.ofNat n))] [(.int (Int32.ofNat n))])
  refine Go.st (fun _ k => X0.ldcI hx hown (mvT hZ (hw _ (List.mem_of_getElem? (i := 112) rfl))) rfl (hb hby dnl_13) k) ?_
  show Go p e below _ s₁ (mkF m 15 #[.val (.int (Int32.ofNat n))] [(.int (1073741823 : Int32)), (.int (Int32.ofNat n))])
  have q2 : Int32.ofNat n < (1073741823 : Int32) := by rw [Int32.lt_iff_toInt_lt, own_toInt (by omega)]; show (n : Int) < 1073741823; omega
  refine Go.st (fun _ k => XS.icmpYes X0.here hx rfl (pc0 := 15) (pc' := 55) rfl (hb hby dnl_15) rfl (XT.ii_lt_t q2) (by decide) (by decide) k) ?_
  show Go p e below _ s₁ (mkF m 55 #[.val (.int (Int32.ofNat n))] [])
  refine Go.st (fun _ k => XS.iloadN X0.here hx rfl (hb hby dnl_55) rfl k) ?_
  show Go p e below _ s₁ (mkF m 56 #[.val (.int (Int32.ofNat n))] [(.int (Int32.ofNat n))])
  refine Go.st (fun _ k => XS.iconst X0.here hx rfl (hb hby dnl_56) k) ?_
  show Go p e below _ s₁ (mkF m 57 #[.val (.int (Int32.ofNat n))] [(.int (1 : Int32)), (.int (Int32.ofNat n))])
  refine Go.st (fun _ k => XT.ishl X0.here hx rfl (hb hby dnl_57) rfl k) ?_
  show Go p e below _ s₁ (mkF m 58 #[.val (.int (Int32.ofNat n))] [(.int ((Int32.ofNat n) <<< ((1 : Int32) &&& 31)))])
  rw [own_shl1 (by omega)]
  exact Go.retI X0 hx hret hlk (hb hby dnl_58) ⟨rfl, Fr.nil n0, e0⟩ (Nat.le_refl _) (Nat.le_refl _)
theorem dnf_0 : decode jdk_52_method_2_code 0 = .ok (.iload_n 0, 1) := by decide +kernel
theorem dnf_1 : decode jdk_52_method_2_code 1 = .ok (.invokestatic 11, 3) := by decide +kernel
theorem dnf_4 : decode jdk_52_method_2_code 4 = .ok (.newarray .byte, 2) := by decide +kernel
theorem dnf_6 : decode jdk_52_method_2_code 6 = .ok (.areturn, 1) := by decide +kernel
def QNF (Z : State) (n : Nat) (h0 : Heap) (n0 : Nat) (v : Option Value) (h : Heap) (L : List Loc) : Prop := v = some (.ref h0.size) ∧ Fr n0 L ∧ Ext h0 h ∧ AI Z h h0.size .byte (List.replicate (2 * n) 0)
set_option maxRecDepth 65536 in
set_option maxHeartbeats 40000000 in
theorem rmNF (l : Launch) (Z : State) (a0 : Array Value) (hw : ∀ d ∈ tables_1, d.before a0 Z = true) (n : Nat) (hn : n ≤ 100000) (h0 : Heap) (n0 : Nat) :
    Ctr l Z (⟨"java/lang/StringUTF16", "newBytesFor", "(I)[B"⟩ : MethodName) jdk_52_method_2_code 1 (some (.array .byte)) [] ({ frames := 1, cells := 1, slots := 2 * n, locals := 12 } : Room) #[(.int (Int32.ofNat n))] h0 (QNF Z n h0 n0) := by
  refine Ctr.of (plainFor_of_name pn_1) ?_
  intro p e s m below meth c s₁ hx hby hml hown hnm hret hlk hZ X0 e0
  refine Go.cast (ef_0 m (Int32.ofNat n)) ?_
  show Go p e below _ s₁ (mkF m 0 #[.val (.int (Int32.ofNat n))] [])
  refine Go.st (fun _ k => XS.iloadN X0.here hx rfl (hb hby dnf_0) rfl k) ?_
  show Go p e below _ s₁ (mkF m 1 #[.val (.int (Int32.ofNat n))] [(.int (Int32.ofNat n))])
  refine Go.callS X0 hx (y := (⟨"java/lang/StringUTF16", "newBytesLength", "(I)I"⟩ : MethodName)) hown (mvT hZ (hw _ (List.mem_of_getElem? (i := 109) rfl))) (mvT hZ (hw _ (List.mem_of_getElem? (i := 110) rfl))) (mvT hZ (hw _ (List.mem_of_getElem? (i := 61) rfl))) (mvT hZ (hw _ (List.mem_of_getElem? (i := 111) rfl))) (by decide) (Ctr.back (W := 0) (rmNL l Z a0 hw n hn h0 n0) hZ (hw _ (List.mem_of_getElem? (i := 111) rfl)) (hw _ (List.mem_of_getElem? (i := 61) rfl)) (by (try dsimp only [room_1]); (try simp only [List.length_cons, List.length_nil]); omega) (by (try dsimp only [room_1]); (try simp only [List.length_cons, List.length_nil]); omega)) e0 (g := (mkF m 1 #[.val (.int (Int32.ofNat n))] [(.int (Int32.ofNat n))])) rfl (by rw [hml]; rfl) (argsL := [(.int (Int32.ofNat n))]) (rest := []) (lenOf pd_2 rfl) rfl (by show 2 * 0 + _ ≤ _; exact Nat.le_of_eq rfl) (hb hby dnf_1) rfl (by (try dsimp only [room_1]); (try simp only [List.length_cons, List.length_nil]); omega) (by (try dsimp only [room_1]); (try simp only [List.length_cons, List.length_nil]); omega) ?_
  rintro _ T1 L1 X1 ⟨rfl, N1, e1⟩
  show Go p e below _ T1 (mkF m 4 #[.val (.int (Int32.ofNat n))] [(.int (Int32.ofNat (2 * n)))])
  refine Go.newarr X1 hx hZ (ty := .byte) rfl rfl (hw _ (List.mem_of_getElem? (i := 26) rfl)) e1 (g := (mkF m 4 #[.val (.int (Int32.ofNat n))] [(.int (Int32.ofNat (2 * n)))])) rfl (hb hby dnf_4) rfl (n := 2 * n) rfl (by omega) (by (try dsimp only [room_1]); (try simp only [List.length_cons, List.length_nil]); omega) (by (try dsimp only [room_1]); (try simp only [List.length_cons, List.length_nil]); omega) ?_
  rintro T2 h2 X2 e2 E2 l2 A2
  show Go p e below _ T2 (mkF m 6 #[.val (.int (Int32.ofNat n))] [(.ref h0.size)])
  exact Go.retV X2 hx hret hlk rfl rfl (hb hby dnf_6) ⟨rfl, Fr.app (Fr.nil n0) N1, e2 ▸ E2, e2 ▸ A2⟩ (by (try dsimp only [room_1]); (try simp only [List.length_cons, List.length_nil]); omega) (by (try dsimp only [room_1]); (try simp only [List.length_cons, List.length_nil]); omega)
theorem dpc_0 : decode jdk_52_method_4_code 0 = .ok (.getstatic 44, 3) := by decide +kernel
theorem dpc_3 : decode jdk_52_method_4_code 3 = .ok (.ifCond .ne 25, 3) := by decide +kernel
theorem dpc_28 : decode jdk_52_method_4_code 28 = .ok (.iload_n 1, 1) := by decide +kernel
theorem dpc_29 : decode jdk_52_method_4_code 29 = .ok (.iconst 1, 1) := by decide +kernel
theorem dpc_30 : decode jdk_52_method_4_code 30 = .ok (.ishl, 1) := by decide +kernel
theorem dpc_31 : decode jdk_52_method_4_code 31 = .ok (.istore_n 1, 1) := by decide +kernel
theorem dpc_32 : decode jdk_52_method_4_code 32 = .ok (.aload_n 0, 1) := by decide +kernel
theorem dpc_33 : decode jdk_52_method_4_code 33 = .ok (.iload_n 1, 1) := by decide +kernel
theorem dpc_34 : decode jdk_52_method_4_code 34 = .ok (.iinc 1 1, 3) := by decide +kernel
theorem dpc_37 : decode jdk_52_method_4_code 37 = .ok (.iload_n 2, 1) := by decide +kernel
theorem dpc_38 : decode jdk_52_method_4_code 38 = .ok (.getstatic 59, 3) := by decide +kernel
theorem dpc_41 : decode jdk_52_method_4_code 41 = .ok (.ishr, 1) := by decide +kernel
theorem dpc_42 : decode jdk_52_method_4_code 42 = .ok (.i2b, 1) := by decide +kernel
theorem dpc_43 : decode jdk_52_method_4_code 43 = .ok (.bastore, 1) := by decide +kernel
theorem dpc_44 : decode jdk_52_method_4_code 44 = .ok (.aload_n 0, 1) := by decide +kernel
theorem dpc_45 : decode jdk_52_method_4_code 45 = .ok (.iload_n 1, 1) := by decide +kernel
theorem dpc_46 : decode jdk_52_method_4_code 46 = .ok (.iload_n 2, 1) := by decide +kernel
theorem dpc_47 : decode jdk_52_method_4_code 47 = .ok (.getstatic 63, 3) := by decide +kernel
theorem dpc_50 : decode jdk_52_method_4_code 50 = .ok (.ishr, 1) := by decide +kernel
theorem dpc_51 : decode jdk_52_method_4_code 51 = .ok (.i2b, 1) := by decide +kernel
theorem dpc_52 : decode jdk_52_method_4_code 52 = .ok (.bastore, 1) := by decide +kernel
theorem dpc_53 : decode jdk_52_method_4_code 53 = .ok (.return_, 1) := by decide +kernel
def QPC (Z : State) (a : Addr) (xs : List Int32) (h0 : Heap) (n0 : Nat) (v : Option Value) (h : Heap) (L : List Loc) : Prop := v = none ∧ Fr n0 L ∧ Keep h0 h [a] ∧ AI Z h a .byte xs
set_option maxRecDepth 65536 in
set_option maxHeartbeats 40000000 in
theorem rmPC (l : Launch) (Z : State) (a0 : Array Value) (hw : ∀ d ∈ tables_1, d.before a0 Z = true) (z : Int32) (Su : Su16 Z z) (a : Addr) (xs : List Int32) (i : Nat) (x : Int32) (hl : xs.length ≤ 1000000) (hi : 2 * i + 1 < xs.length) (h0 : Heap) (n0 : Nat) (O : Old Z n0 h0) (hna : n0 ≤ a) (A : AI Z h0 a .byte xs) :
    Ctr l Z (⟨"java/lang/StringUTF16", "putChar", "([BII)V"⟩ : MethodName) jdk_52_method_4_code 3 none [] ({ frames := 0, cells := 0, slots := 0, locals := 0 } : Room) #[(.ref a), (.int (Int32.ofNat i)), (.int x)] h0 (QPC Z a ((xs.set (2 * i) (own_lo x)).set (2 * i + 1) (own_hi x)) h0 n0) := by
  refine Ctr.of (plainFor_of_name pn_1) ?_
  intro p e s m below meth c s₁ hx hby hml hown hnm hret hlk hZ X0 e0
  refine Go.cast (ef_3 m a (Int32.ofNat i) x) ?_
  show Go p e below _ s₁ (mkF m 0 #[.val (.ref a), .val (.int (Int32.ofNat i)), .val (.int x)] [])
  obtain ⟨T1, X1, e1, st1⟩ := getS2 X0 hx hZ hown (host := "") (Or.inl (hw _ (List.mem_of_getElem? (i := 116) rfl))) Via.refl e0 (Su.1.ext O.2) (g := (mkF m 0 #[.val (.ref a), .val (.int (Int32.ofNat i)), .val (.int x)] [])) rfl (hb hby dpc_0)
  refine Go.st st1 ?_
  show Go p e below _ T1 (mkF m 3 #[.val (.ref a), .val (.int (Int32.ofNat i)), .val (.int x)] [(.int (1 : Int32))])
  refine Go.st (fun _ k => XS.ifYes X1.here hx rfl (pc0 := 3) (pc' := 28) rfl (hb hby dpc_3) rfl (XT.i0_ne_t (by decide)) (by decide) (by decide) k) ?_
  show Go p e below _ T1 (mkF m 28 #[.val (.ref a), .val (.int (Int32.ofNat i)), .val (.int x)] [])
  refine Go.st (fun _ k => XS.iloadN X1.here hx rfl (hb hby dpc_28) rfl k) ?_
  show Go p e below _ T1 (mkF m 29 #[.val (.ref a), .val (.int (Int32.ofNat i)), .val (.int x)] [(.int (Int32.ofNat i))])
  refine Go.st (fun _ k => XS.iconst X1.here hx rfl (hb hby dpc_29) k) ?_
  show Go p e below _ T1 (mkF m 30 #[.val (.ref a), .val (.int (Int32.ofNat i)), .val (.int x)] [(.int (1 : Int32)), (.int (Int32.ofNat i))])
  refine Go.st (fun _ k => XT.ishl X1.here hx rfl (hb hby dpc_30) rfl k) ?_
  show Go p e below _ T1 (mkF m 31 #[.val (.ref a), .val (.int (Int32.ofNat i)), .val (.int x)] [(.int ((Int32.ofNat i) <<< ((1 : Int32) &&& 31)))])
  rw [own_shl1 (by omega)]
  show Go p e below _ T1 (mkF m 31 #[.val (.ref a), .val (.int (Int32.ofNat i)), .val (.int x)] [(.int (Int32.ofNat (2 * i)))])
  refine Go.st (fun _ k => XS.istoreN X1.here hx rfl (hb hby dpc_31) rfl (l' := #[.val (.ref a), .val (.int (Int32.ofNat (2 * i))), .val (.int x)]) rfl k) ?_
  show Go p e below _ T1 (mkF m 32 #[.val (.ref a), .val (.int (Int32.ofNat (2 * i))), .val (.int x)] [])
  refine Go.st (fun _ k => XS.aloadN X1.here hx rfl (hb hby dpc_32) rfl rfl k) ?_
  show Go p e below _ T1 (mkF m 33 #[.val (.ref a), .val (.int (Int32.ofNat (2 * i))), .val (.int x)] [(.ref a)])
  refine Go.st (fun _ k => XS.iloadN X1.here hx rfl (hb hby dpc_33) rfl k) ?_
  show Go p e below _ T1 (mkF m 34 #[.val (.ref a), .val (.int (Int32.ofNat (2 * i))), .val (.int x)] [(.int (Int32.ofNat (2 * i))), (.ref a)])
  refine Go.st (fun _ k => XS.iinc X1.here hx rfl (hb hby dpc_34) rfl (l' := #[.val (.ref a), .val (.int ((Int32.ofNat (2 * i)) + (1 : Int32))), .val (.int x)]) rfl k) ?_
  show Go p e below _ T1 (mkF m 37 #[.val (.ref a), .val (.int ((Int32.ofNat (2 * i)) + (1 : Int32))), .val (.int x)] [(.int (Int32.ofNat (2 * i))), (.ref a)])
  rw [own_succ]
  show Go p e below _ T1 (mkF m 37 #[.val (.ref a), .val (.int (Int32.ofNat (2 * i + 1))), .val (.int x)] [(.int (Int32.ofNat (2 * i))), (.ref a)])
  refine Go.st (fun _ k => XS.iloadN X1.here hx rfl (hb hby dpc_37) rfl k) ?_
  show Go p e below _ T1 (mkF m 38 #[.val (.ref a), .val (.int (Int32.ofNat (2 * i + 1))), .val (.int x)] [(.int x), (.int (Int32.ofNat (2 * i))), (.ref a)])
  obtain ⟨T2, X2, e2, st2⟩ := getS2 X1 hx hZ hown (host := "") (Or.inl (hw _ (List.mem_of_getElem? (i := 117) rfl))) Via.refl e1 (Su.2.1.ext O.2) (g := (mkF m 38 #[.val (.ref a), .val (.int (Int32.ofNat (2 * i + 1))), .val (.int x)] [(.int x), (.int (Int32.ofNat (2 * i))), (.ref a)])) rfl (hb hby dpc_38)
  refine Go.st st2 ?_
  show Go p e below _ T2 (mkF m 41 #[.val (.ref a), .val (.int (Int32.ofNat (2 * i + 1))), .val (.int x)] [(.int (0 : Int32)), (.int x), (.int (Int32.ofNat (2 * i))), (.ref a)])
  refine Go.st (fun _ k => XT.ishr X2.here hx rfl (hb hby dpc_41) rfl k) ?_
  show Go p e below _ T2 (mkF m 42 #[.val (.ref a), .val (.int (Int32.ofNat (2 * i + 1))), .val (.int x)] [(.int (x >>> ((0 : Int32) &&& 31))), (.int (Int32.ofNat (2 * i))), (.ref a)])
  refine Go.st (fun _ k => XT.i2b X2.here hx rfl (hb hby dpc_42) rfl k) ?_
  show Go p e below _ T2 (mkF m 43 #[.val (.ref a), .val (.int (Int32.ofNat (2 * i + 1))), .val (.int x)] [(.int ((x >>> ((0 : Int32) &&& 31)).toInt8.toInt32)), (.int (Int32.ofNat (2 * i))), (.ref a)])
  refine Go.bastore X2 hx hZ e2 A (i := 2 * i) rfl (by omega) (g := (mkF m 43 #[.val (.ref a), .val (.int (Int32.ofNat (2 * i + 1))), .val (.int x)] [(.int ((x >>> ((0 : Int32) &&& 31)).toInt8.toInt32)), (.int (Int32.ofNat (2 * i))), (.ref a)])) rfl rfl (hb hby dpc_43) ?_
  rintro T3 h3 X3 e3 W3 A3
  have sW3 := W3.size
  show Go p e below _ T3 (mkF m 44 #[.val (.ref a), .val (.int (Int32.ofNat (2 * i + 1))), .val (.int x)] [])
  refine Go.st (fun _ k => XS.aloadN X3.here hx rfl (hb hby dpc_44) rfl rfl k) ?_
  show Go p e below _ T3 (mkF m 45 #[.val (.ref a), .val (.int (Int32.ofNat (2 * i + 1))), .val (.int x)] [(.ref a)])
  refine Go.st (fun _ k => XS.iloadN X3.here hx rfl (hb hby dpc_45) rfl k) ?_
  show Go p e below _ T3 (mkF m 46 #[.val (.ref a), .val (.int (Int32.ofNat (2 * i + 1))), .val (.int x)] [(.int (Int32.ofNat (2 * i + 1))), (.ref a)])
  refine Go.st (fun _ k => XS.iloadN X3.here hx rfl (hb hby dpc_46) rfl k) ?_
  show Go p e below _ T3 (mkF m 47 #[.val (.ref a), .val (.int (Int32.ofNat (2 * i + 1))), .val (.int x)] [(.int x), (.int (Int32.ofNat (2 * i + 1))), (.ref a)])
  have O3 := O.wr W3 hna
  obtain ⟨T4, X4, e4, st4⟩ := getS2 X3 hx hZ hown (host := "") (Or.inl (hw _ (List.mem_of_getElem? (i := 118) rfl))) Via.refl e3 (Su.2.2.1.ext O3.2) (g := (mkF m 47 #[.val (.ref a), .val (.int (Int32.ofNat (2 * i + 1))), .val (.int x)] [(.int x), (.int (Int32.ofNat (2 * i + 1))), (.ref a)])) rfl (hb hby dpc_47)
  refine Go.st st4 ?_
  show Go p e below _ T4 (mkF m 50 #[.val (.ref a), .val (.int (Int32.ofNat (2 * i + 1))), .val (.int x)] [(.int (8 : Int32)), (.int x), (.int (Int32.ofNat (2 * i + 1))), (.ref a)])
  refine Go.st (fun _ k => XT.ishr X4.here hx rfl (hb hby dpc_50) rfl k) ?_
  show Go p e below _ T4 (mkF m 51 #[.val (.ref a), .val (.int (Int32.ofNat (2 * i + 1))), .val (.int x)] [(.int (x >>> ((8 : Int32) &&& 31))), (.int (Int32.ofNat (2 * i + 1))), (.ref a)])
  refine Go.st (fun _ k => XT.i2b X4.here hx rfl (hb hby dpc_51) rfl k) ?_
  show Go p e below _ T4 (mkF m 52 #[.val (.ref a), .val (.int (Int32.ofNat (2 * i + 1))), .val (.int x)] [(.int ((x >>> ((8 : Int32) &&& 31)).toInt8.toInt32)), (.int (Int32.ofNat (2 * i + 1))), (.ref a)])
  refine Go.bastore X4 hx hZ e4 A3 (i := 2 * i + 1) rfl (by rw [List.length_set]; omega) (g := (mkF m 52 #[.val (.ref a), .val (.int (Int32.ofNat (2 * i + 1))), .val (.int x)] [(.int ((x >>> ((8 : Int32) &&& 31)).toInt8.toInt32)), (.int (Int32.ofNat (2 * i + 1))), (.ref a)])) rfl rfl (hb hby dpc_52) ?_
  rintro T5 h5 X5 e5 W5 A5
  have sW5 := W5.size
  show Go p e below _ T5 (mkF m 53 #[.val (.ref a), .val (.int (Int32.ofNat (2 * i + 1))), .val (.int x)] [])
  have K5 : Keep h0 h5 [a] := ((Keep.refl h0 [a]).wr W3 (Or.inl (List.mem_cons_self ..))).wr W5 (Or.inl (List.mem_cons_self ..))
  rw [own_b0] at A5
  rw [own_b1] at A5
  exact Go.ret0 X5 hx hret hlk (hb hby dpc_53) ⟨rfl, Fr.snoc X5 (Fr.snoc X3 (Fr.nil n0) hna) hna, e5 ▸ K5, e5 ▸ A5⟩ (Nat.le_refl _) (Nat.le_refl _)
theorem own_u16_step {cs : List Int32} {i k : Nat} {x : Int32} (hx : cs[i]? = some x) : ((own_u16 (cs.take i) ++ List.replicate (2 * (k + 1)) 0).set (2 * i) (own_lo x)).set (2 * i + 1) (own_hi x) = own_u16 (cs.take (i + 1)) ++ List.replicate (2 * k) 0 := by
  have hi := (List.getElem?_eq_some_iff.mp hx).1
  have hl : (own_u16 (cs.take i)).length = 2 * i := by rw [own_u16_len, List.length_take, Nat.min_eq_left (by omega)]
  have e : 2 * (k + 1) = (2 * k + 1) + 1 := by omega
  rw [e, own_set_step _ _ _ _ _ hl, own_set_step _ _ _ _ _ (by rw [List.length_append, hl]; rfl), own_take_succ hx, own_u16_app]
  simp [own_u16]
def QTB (Z : State) (b : Addr) (cs : List Int32) (h0 : Heap) (n0 : Nat) (v : Option Value) (h : Heap) (L : List Loc) : Prop := v = some (.ref b) ∧ Fr n0 L ∧ Keep h0 h [] ∧ AI Z h b .byte (own_u16 cs)
theorem dtb_0 : decode jdk_52_method_14_code 0 = .ok (.iload_n 2, 1) := by decide +kernel
theorem dtb_1 : decode jdk_52_method_14_code 1 = .ok (.invokestatic 107, 3) := by decide +kernel
theorem dtb_4 : decode jdk_52_method_14_code 4 = .ok (.astore_n 3, 1) := by decide +kernel
theorem dtb_5 : decode jdk_52_method_14_code 5 = .ok (.iconst 0, 1) := by decide +kernel
theorem dtb_6 : decode jdk_52_method_14_code 6 = .ok (.istore 4, 2) := by decide +kernel
theorem dtb_8 : decode jdk_52_method_14_code 8 = .ok (.iload 4, 2) := by decide +kernel
theorem dtb_10 : decode jdk_52_method_14_code 10 = .ok (.iload_n 2, 1) := by decide +kernel
theorem dtb_11 : decode jdk_52_method_14_code 11 = .ok (.if_icmp .ge 21, 3) := by decide +kernel
theorem dtb_14 : decode jdk_52_method_14_code 14 = .ok (.aload_n 3, 1) := by decide +kernel
theorem dtb_15 : decode jdk_52_method_14_code 15 = .ok (.iload 4, 2) := by decide +kernel
theorem dtb_17 : decode jdk_52_method_14_code 17 = .ok (.aload_n 0, 1) := by decide +kernel
theorem dtb_18 : decode jdk_52_method_14_code 18 = .ok (.iload_n 1, 1) := by decide +kernel
theorem dtb_19 : decode jdk_52_method_14_code 19 = .ok (.caload, 1) := by decide +kernel
theorem dtb_20 : decode jdk_52_method_14_code 20 = .ok (.invokestatic 111, 3) := by decide +kernel
theorem dtb_23 : decode jdk_52_method_14_code 23 = .ok (.iinc 1 1, 3) := by decide +kernel
theorem dtb_26 : decode jdk_52_method_14_code 26 = .ok (.iinc 4 1, 3) := by decide +kernel
theorem dtb_29 : decode jdk_52_method_14_code 29 = .ok (.goto (-21), 3) := by decide +kernel
theorem dtb_32 : decode jdk_52_method_14_code 32 = .ok (.aload_n 3, 1) := by decide +kernel
theorem dtb_33 : decode jdk_52_method_14_code 33 = .ok (.areturn, 1) := by decide +kernel
set_option maxRecDepth 65536 in
set_option maxHeartbeats 40000000 in
theorem lpTB (l : Launch) (Z : State) (a0 : Array Value) (hw : ∀ d ∈ tables_1, d.before a0 Z = true) (z : Int32) (Su : Su16 Z z) (cs : List Int32) (a b : Addr) (h0 h1 : Heap) (n0 : Nat) (hn : cs.length ≤ 4000) {p : Program} {e : Env} {s : State} {m : MethodId} {args : Array Value} {below : List Frame} {meth : Method} {c : Code} (hx : p.tables.exec = Jvm.exec) (hby : c.code = jdk_52_method_14_code) (hml : c.maxLocals = 5) (hown : s.vm.findClass "java/lang/StringUTF16" = some m.cls) (hret : meth.sig.returnType = some (.array .byte)) (hlk : meth.locks = false) (hZ : Z.Warmed39 s.vm) (hb0 : h0.size ≤ b) (hnb : n0 ≤ b) (hab : a ≠ b) (Eb : Ext h0 h1) :
    ∀ (k i : Nat) (T : State) (h : Heap) (locs : List Loc), i + k = cs.length → Stand p l e ({ frames := 2, cells := 1, slots := 2 * cs.length, locals := 24 } : Room) s m args below meth c T locs 1 (2 * cs.length) → T.heap = h → Old Z n0 h → AI Z h a .char cs → AI Z h b .byte (own_u16 (cs.take i) ++ List.replicate (2 * k) 0) → Fr n0 locs → Keep h1 h [b] →
      Go p e below (EndQ s (QTB Z b cs h0 n0) 1 (2 * cs.length)) T (mkF m 8 #[.val (.ref a), .val (.int (Int32.ofNat i)), .val (.int (Int32.ofNat cs.length)), .val (.ref b), .val (.int (Int32.ofNat i))] []) := by
  intro k
  induction k with
  | zero =>
    intro i T h locs hik X1 e1 O A B N K
    show Go p e below _ T (mkF m 8 #[.val (.ref a), .val (.int (Int32.ofNat i)), .val (.int (Int32.ofNat cs.length)), .val (.ref b), .val (.int (Int32.ofNat i))] [])
    refine Go.st (fun _ k => XS.iload X1.here hx rfl (hb hby dtb_8) rfl k) ?_
    show Go p e below _ T (mkF m 10 #[.val (.ref a), .val (.int (Int32.ofNat i)), .val (.int (Int32.ofNat cs.length)), .val (.ref b), .val (.int (Int32.ofNat i))] [(.int (Int32.ofNat i))])
    refine Go.st (fun _ k => XS.iloadN X1.here hx rfl (hb hby dtb_10) rfl k) ?_
    show Go p e below _ T (mkF m 11 #[.val (.ref a), .val (.int (Int32.ofNat i)), .val (.int (Int32.ofNat cs.length)), .val (.ref b), .val (.int (Int32.ofNat i))] [(.int (Int32.ofNat cs.length)), (.int (Int32.ofNat i))])
    have q : ¬ Int32.ofNat i < Int32.ofNat cs.length := by rw [show i = cs.length by omega]; exact fun q => Int32.lt_irrefl q
    refine Go.st (fun _ k => XS.icmpYes X1.here hx rfl (pc0 := 11) (pc' := 32) rfl (hb hby dtb_11) rfl (XT.ii_ge_t q) (by decide) (by decide) k) ?_
    show Go p e below _ T (mkF m 32 #[.val (.ref a), .val (.int (Int32.ofNat i)), .val (.int (Int32.ofNat cs.length)), .val (.ref b), .val (.int (Int32.ofNat i))] [])
    refine Go.st (fun _ k => XS.aloadN X1.here hx rfl (hb hby dtb_32) rfl rfl k) ?_
    show Go p e below _ T (mkF m 33 #[.val (.ref a), .val (.int (Int32.ofNat i)), .val (.int (Int32.ofNat cs.length)), .val (.ref b), .val (.int (Int32.ofNat i))] [(.ref b)])
    have B' : AI Z h b .byte (own_u16 cs) := by have q := B; rw [show i = cs.length by omega, List.take_length] at q; simpa using q
    exact Go.retV X1 hx hret hlk rfl rfl (hb hby dtb_33) ⟨rfl, N, e1 ▸ ((Keep.refl h0 []).ext Eb).trans K (fun x q => Or.inr (by cases List.mem_singleton.mp q; exact hb0)), e1 ▸ B'⟩ (Nat.le_refl _) (Nat.le_refl _)
  | succ k ih =>
    intro i T h locs hik X1 e1 O A B N K
    show Go p e below _ T (mkF m 8 #[.val (.ref a), .val (.int (Int32.ofNat i)), .val (.int (Int32.ofNat cs.length)), .val (.ref b), .val (.int (Int32.ofNat i))] [])
    refine Go.st (fun _ k => XS.iload X1.here hx rfl (hb hby dtb_8) rfl k) ?_
    show Go p e below _ T (mkF m 10 #[.val (.ref a), .val (.int (Int32.ofNat i)), .val (.int (Int32.ofNat cs.length)), .val (.ref b), .val (.int (Int32.ofNat i))] [(.int (Int32.ofNat i))])
    refine Go.st (fun _ k => XS.iloadN X1.here hx rfl (hb hby dtb_10) rfl k) ?_
    show Go p e below _ T (mkF m 11 #[.val (.ref a), .val (.int (Int32.ofNat i)), .val (.int (Int32.ofNat cs.length)), .val (.ref b), .val (.int (Int32.ofNat i))] [(.int (Int32.ofNat cs.length)), (.int (Int32.ofNat i))])
    refine Go.st (fun _ k => XS.icmpNo X1.here hx rfl (hb hby dtb_11) rfl (XT.ii_ge_f (own_ofNat_lt (by omega) (by omega))) k) ?_
    show Go p e below _ T (mkF m 14 #[.val (.ref a), .val (.int (Int32.ofNat i)), .val (.int (Int32.ofNat cs.length)), .val (.ref b), .val (.int (Int32.ofNat i))] [])
    refine Go.st (fun _ k => XS.aloadN X1.here hx rfl (hb hby dtb_14) rfl rfl k) ?_
    show Go p e below _ T (mkF m 15 #[.val (.ref a), .val (.int (Int32.ofNat i)), .val (.int (Int32.ofNat cs.length)), .val (.ref b), .val (.int (Int32.ofNat i))] [(.ref b)])
    refine Go.st (fun _ k => XS.iload X1.here hx rfl (hb hby dtb_15) rfl k) ?_
    show Go p e below _ T (mkF m 17 #[.val (.ref a), .val (.int (Int32.ofNat i)), .val (.int (Int32.ofNat cs.length)), .val (.ref b), .val (.int (Int32.ofNat i))] [(.int (Int32.ofNat i)), (.ref b)])
    refine Go.st (fun _ k => XS.aloadN X1.here hx rfl (hb hby dtb_17) rfl rfl k) ?_
    show Go p e below _ T (mkF m 18 #[.val (.ref a), .val (.int (Int32.ofNat i)), .val (.int (Int32.ofNat cs.length)), .val (.ref b), .val (.int (Int32.ofNat i))] [(.ref a), (.int (Int32.ofNat i)), (.ref b)])
    refine Go.st (fun _ k => XS.iloadN X1.here hx rfl (hb hby dtb_18) rfl k) ?_
    show Go p e below _ T (mkF m 19 #[.val (.ref a), .val (.int (Int32.ofNat i)), .val (.int (Int32.ofNat cs.length)), .val (.ref b), .val (.int (Int32.ofNat i))] [(.int (Int32.ofNat i)), (.ref a), (.int (Int32.ofNat i)), (.ref b)])
    obtain ⟨x, hxi⟩ : ∃ x, cs[i]? = some x := ⟨_, List.getElem?_eq_getElem (by omega)⟩
    refine Go.caload X1 hx hZ e1 A (i := i) (x := x) rfl hxi (g := (mkF m 19 #[.val (.ref a), .val (.int (Int32.ofNat i)), .val (.int (Int32.ofNat cs.length)), .val (.ref b), .val (.int (Int32.ofNat i))] [(.int (Int32.ofNat i)), (.ref a), (.int (Int32.ofNat i)), (.ref b)])) rfl rfl (hb hby dtb_19) ?_
    show Go p e below _ T (mkF m 20 #[.val (.ref a), .val (.int (Int32.ofNat i)), .val (.int (Int32.ofNat cs.length)), .val (.ref b), .val (.int (Int32.ofNat i))] [(.int x), (.int (Int32.ofNat i)), (.ref b)])
    have hlen : (own_u16 (cs.take i) ++ List.replicate (2 * (k + 1)) (0 : Int32)).length = 2 * i + 2 * (k + 1) := by rw [List.length_append, own_u16_len, List.length_take, Nat.min_eq_left (by omega), List.length_replicate]
    refine Go.callS X1 hx (y := (⟨"java/lang/StringUTF16", "putChar", "([BII)V"⟩ : MethodName)) hown (mvT hZ (hw _ (List.mem_of_getElem? (i := 113) rfl))) (mvT hZ (hw _ (List.mem_of_getElem? (i := 114) rfl))) (mvT hZ (hw _ (List.mem_of_getElem? (i := 61) rfl))) (mvT hZ (hw _ (List.mem_of_getElem? (i := 115) rfl))) (by decide) (Ctr.back (W := 0) (rmPC l Z a0 hw z Su b _ i x (by rw [hlen]; omega) (by rw [hlen]; omega) h n0 O hnb B) hZ (hw _ (List.mem_of_getElem? (i := 115) rfl)) (hw _ (List.mem_of_getElem? (i := 61) rfl)) (by (try dsimp only [room_1]); (try simp only [List.length_cons, List.length_nil]); omega) (by (try dsimp only [room_1]); (try simp only [List.length_cons, List.length_nil]); omega)) e1 (g := (mkF m 20 #[.val (.ref a), .val (.int (Int32.ofNat i)), .val (.int (Int32.ofNat cs.length)), .val (.ref b), .val (.int (Int32.ofNat i))] [(.int x), (.int (Int32.ofNat i)), (.ref b)])) rfl (by rw [hml]; rfl) (argsL := [(.ref b), (.int (Int32.ofNat i)), (.int x)]) (rest := []) (lenOf pd_4 rfl) rfl (by show 2 * 0 + _ ≤ _; exact Nat.le_of_eq rfl) (hb hby dtb_20) rfl (by (try dsimp only [room_1]); (try simp only [List.length_cons, List.length_nil]); omega) (by (try dsimp only [room_1]); (try simp only [List.length_cons, List.length_nil]); omega) ?_
    rintro _ T2 L2 X2 ⟨rfl, N2, K2, B2⟩
    show Go p e below _ T2 (mkF m 23 #[.val (.ref a), .val (.int (Int32.ofNat i)), .val (.int (Int32.ofNat cs.length)), .val (.ref b), .val (.int (Int32.ofNat i))] [])
    rw [own_u16_step hxi] at B2
    refine Go.st (fun _ k => XS.iinc X2.here hx rfl (hb hby dtb_23) rfl (l' := #[.val (.ref a), .val (.int ((Int32.ofNat i) + (1 : Int32))), .val (.int (Int32.ofNat cs.length)), .val (.ref b), .val (.int (Int32.ofNat i))]) rfl k) ?_
    show Go p e below _ T2 (mkF m 26 #[.val (.ref a), .val (.int ((Int32.ofNat i) + (1 : Int32))), .val (.int (Int32.ofNat cs.length)), .val (.ref b), .val (.int (Int32.ofNat i))] [])
    rw [own_succ]
    show Go p e below _ T2 (mkF m 26 #[.val (.ref a), .val (.int (Int32.ofNat (i + 1))), .val (.int (Int32.ofNat cs.length)), .val (.ref b), .val (.int (Int32.ofNat i))] [])
    refine Go.st (fun _ k => XS.iinc X2.here hx rfl (hb hby dtb_26) rfl (l' := #[.val (.ref a), .val (.int (Int32.ofNat (i + 1))), .val (.int (Int32.ofNat cs.length)), .val (.ref b), .val (.int ((Int32.ofNat i) + (1 : Int32)))]) rfl k) ?_
    show Go p e below _ T2 (mkF m 29 #[.val (.ref a), .val (.int (Int32.ofNat (i + 1))), .val (.int (Int32.ofNat cs.length)), .val (.ref b), .val (.int ((Int32.ofNat i) + (1 : Int32)))] [])
    rw [own_succ]
    show Go p e below _ T2 (mkF m 29 #[.val (.ref a), .val (.int (Int32.ofNat (i + 1))), .val (.int (Int32.ofNat cs.length)), .val (.ref b), .val (.int (Int32.ofNat (i + 1)))] [])
    refine Go.st (fun _ k => XS.goto X2.here hx rfl (pc0 := 29) (pc' := 8) rfl (hb hby dtb_29) (by decide) (by decide) k) ?_
    show Go p e below _ T2 (mkF m 8 #[.val (.ref a), .val (.int (Int32.ofNat (i + 1))), .val (.int (Int32.ofNat cs.length)), .val (.ref b), .val (.int (Int32.ofNat (i + 1)))] [])
    exact ih (i + 1) T2 T2.heap _ (by omega) X2 rfl (O.keep K2 (allS hnb all0)) (A.keep K2 (ninS hab nin0)) B2 (Fr.app N N2) (K.trans K2 (fun x q => Or.inl q))
set_option maxRecDepth 65536 in
set_option maxHeartbeats 40000000 in
theorem rmTB (l : Launch) (Z : State) (a0 : Array Value) (hw : ∀ d ∈ tables_1, d.before a0 Z = true) (z : Int32) (Su : Su16 Z z) (cs : List Int32) (a : Addr) (h0 : Heap) (n0 : Nat) (hn : cs.length ≤ 4000) (hZ0 : n0 ≤ h0.size) (O : Old Z n0 h0) (A : AI Z h0 a .char cs) :
    Ctr l Z (⟨"java/lang/StringUTF16", "toBytes", "([CII)[B"⟩ : MethodName) jdk_52_method_14_code 5 (some (.array .byte)) [] ({ frames := 2, cells := 1, slots := 2 * cs.length, locals := 24 } : Room) #[(.ref a), (.int (Int32.ofNat 0)), (.int (Int32.ofNat cs.length))] h0 (QTB Z h0.size cs h0 n0) := by
  refine Ctr.of (plainFor_of_name pn_1) ?_
  intro p e s m below meth c s₁ hx hby hml hown hnm hret hlk hZ X0 e0
  refine Go.cast (ef_5 m a (Int32.ofNat 0) (Int32.ofNat cs.length)) ?_
  show Go p e below _ s₁ (mkF m 0 #[.val (.ref a), .val (.int (Int32.ofNat 0)), .val (.int (Int32.ofNat cs.length)), .unset, .unset] [])
  refine Go.st (fun _ k => XS.iloadN X0.here hx rfl (hb hby dtb_0) rfl k) ?_
  show Go p e below _ s₁ (mkF m 1 #[.val (.ref a), .val (.int (Int32.ofNat 0)), .val (.int (Int32.ofNat cs.length)), .unset, .unset] [(.int (Int32.ofNat cs.length))])
  refine Go.callS X0 hx (y := (⟨"java/lang/StringUTF16", "newBytesFor", "(I)[B"⟩ : MethodName)) hown (mvT hZ (hw _ (List.mem_of_getElem? (i := 106) rfl))) (mvT hZ (hw _ (List.mem_of_getElem? (i := 107) rfl))) (mvT hZ (hw _ (List.mem_of_getElem? (i := 61) rfl))) (mvT hZ (hw _ (List.mem_of_getElem? (i := 108) rfl))) (by decide) (Ctr.back (W := 0) (rmNF l Z a0 hw cs.length (by omega) h0 n0) hZ (hw _ (List.mem_of_getElem? (i := 108) rfl)) (hw _ (List.mem_of_getElem? (i := 61) rfl)) (by (try dsimp only [room_1]); (try simp only [List.length_cons, List.length_nil]); omega) (by (try dsimp only [room_1]); (try simp only [List.length_cons, List.length_nil]); omega)) e0 (g := (mkF m 1 #[.val (.ref a), .val (.int (Int32.ofNat 0)), .val (.int (Int32.ofNat cs.length)), .unset, .unset] [(.int (Int32.ofNat cs.length))])) rfl (by rw [hml]; rfl) (argsL := [(.int (Int32.ofNat cs.length))]) (rest := []) (lenOf pd_6 rfl) rfl (by show 2 * 0 + _ ≤ _; exact Nat.le_of_eq rfl) (hb hby dtb_1) rfl (by (try dsimp only [room_1]); (try simp only [List.length_cons, List.length_nil]); omega) (by (try dsimp only [room_1]); (try simp only [List.length_cons, List.length_nil]); omega) ?_
  rintro _ T1 L1 X1 ⟨rfl, N1, E1, B1⟩
  show Go p e below _ T1 (mkF m 4 #[.val (.ref a), .val (.int (Int32.ofNat 0)), .val (.int (Int32.ofNat cs.length)), .unset, .unset] [(.ref h0.size)])
  refine Go.st (fun _ k => XS.astoreN X1.here hx rfl (hb hby dtb_4) rfl rfl (l' := #[.val (.ref a), .val (.int (Int32.ofNat 0)), .val (.int (Int32.ofNat cs.length)), .val (.ref h0.size), .unset]) rfl k) ?_
  show Go p e below _ T1 (mkF m 5 #[.val (.ref a), .val (.int (Int32.ofNat 0)), .val (.int (Int32.ofNat cs.length)), .val (.ref h0.size), .unset] [])
  refine Go.st (fun _ k => XS.iconst X1.here hx rfl (hb hby dtb_5) k) ?_
  show Go p e below _ T1 (mkF m 6 #[.val (.ref a), .val (.int (Int32.ofNat 0)), .val (.int (Int32.ofNat cs.length)), .val (.ref h0.size), .unset] [(.int (0 : Int32))])
  refine Go.st (fun _ k => XS.istore X1.here hx rfl (hb hby dtb_6) rfl (l' := #[.val (.ref a), .val (.int (Int32.ofNat 0)), .val (.int (Int32.ofNat cs.length)), .val (.ref h0.size), .val (.int (0 : Int32))]) rfl k) ?_
  show Go p e below _ T1 (mkF m 8 #[.val (.ref a), .val (.int (Int32.ofNat 0)), .val (.int (Int32.ofNat cs.length)), .val (.ref h0.size), .val (.int (0 : Int32))] [])
  exact lpTB l Z a0 hw z Su cs a h0.size h0 T1.heap n0 hn hx hby hml hown hret hlk hZ (Nat.le_refl _) hZ0 (Nat.ne_of_lt A.lt) E1 cs.length 0 T1 T1.heap _ (by omega) (X1.mono (by (try dsimp only [room_1]); (try simp only [List.length_cons, List.length_nil]); omega) (by (try dsimp only [room_1]); (try simp only [List.length_cons, List.length_nil]); omega)) rfl (O.ext E1) (A.ext E1) (by simpa [own_u16] using B1) (Fr.app (Fr.nil n0) N1) (Keep.refl _ _)
theorem own_mask (c : Int32) : c.toInt8.toInt32 &&& (255 : Int32) = c &&& (255 : Int32) := by
  apply Int32.toBitVec_inj.mp
  apply BitVec.eq_of_getLsbD_eq
  intro i hi
  simp only [Int32.toBitVec_and, BitVec.getLsbD_and]
  by_cases q : i < 8
  · have : (c.toInt8.toInt32.toBitVec).getLsbD i = c.toBitVec.getLsbD i := by
      show ((c.toBitVec.signExtend 8).signExtend 32).getLsbD i = _
      rw [BitVec.signExtend_eq_setWidth_of_le c.toBitVec (by omega : 8 ≤ 32), BitVec.getLsbD_signExtend]
      simp [q, hi]
    rw [this]
  · have z : (255 : Int32).toBitVec.getLsbD i = false := by
      have : ∀ j : Fin 32, ¬ j.val < 8 → (255 : Int32).toBitVec.getLsbD j.val = false := by decide
      exact this ⟨i, hi⟩ q
    rw [z, Bool.and_false, Bool.and_false]
theorem own_get16k (c : Int32) (hlt : c.toBitVec.toNat < 65536) : ((c &&& (255 : Int32)) <<< (0 : Int32) ||| ((c >>> (8 : Int32)) &&& (255 : Int32)) <<< (8 : Int32)) = c := by
  have e0 : (c &&& (255 : Int32)) <<< (0 : Int32) = c &&& 255 := by simp
  rw [e0]
  apply Int32.toBitVec_inj.mp
  have hm : c.toBitVec.msb = false := by rw [BitVec.msb_eq_false_iff_two_mul_lt]; omega
  have e1 : ((c &&& (255 : Int32)) ||| ((c >>> (8 : Int32)) &&& (255 : Int32)) <<< (8 : Int32)).toBitVec = (c.toBitVec &&& 255#32) ||| (((c.toBitVec.sshiftRight 8) &&& 255#32) <<< 8) := by
    rfl
  rw [e1, BitVec.sshiftRight_eq_of_msb_false hm]
  apply BitVec.eq_of_toNat_eq
  rw [BitVec.toNat_or, BitVec.toNat_and, BitVec.toNat_shiftLeft, BitVec.toNat_and, BitVec.toNat_ushiftRight]
  have e2 : (255#32).toNat = 2 ^ 8 - 1 := by decide
  rw [e2, Nat.and_two_pow_sub_one_eq_mod, Nat.and_two_pow_sub_one_eq_mod, Nat.shiftRight_eq_div_pow, Nat.mod_eq_of_lt (a := c.toBitVec.toNat / 2 ^ 8) (by omega), Nat.mod_eq_of_lt (a := (c.toBitVec.toNat / 2 ^ 8) <<< 8) (by rw [Nat.shiftLeft_eq]; omega), Nat.or_comm, ← Nat.shiftLeft_add_eq_or_of_lt (by omega), Nat.shiftLeft_eq]
  omega
theorem own_char (c : Int32) (h1 : ¬ c < 0) (h2 : ¬ (65535 : Int32) < c) : c.toUInt32.toUInt16.toUInt32.toInt32 = c := by
  rw [Int32.lt_iff_toInt_lt] at h1 h2
  have e1 : (65535 : Int32).toInt = 65535 := rfl
  have e2 : (0 : Int32).toInt = 0 := rfl
  apply Int32.toBitVec_inj.mp
  apply BitVec.eq_of_toNat_eq
  have q : c.toInt = c.toBitVec.toInt := rfl
  rw [q, BitVec.toInt_eq_toNat_cond] at h1 h2
  have hb := c.toBitVec.isLt
  show ((c.toBitVec.setWidth 16).setWidth 32).toNat = _
  simp
  split at h1 <;> omega
theorem own_get16 (c : Int32) (h1 : ¬ c < 0) (h2 : ¬ (65535 : Int32) < c) : nar .char (((own_lo c &&& (255 : Int32)) <<< ((0 : Int32) &&& 31) ||| (own_hi c &&& (255 : Int32)) <<< ((8 : Int32) &&& 31)).toUInt32.toUInt16.toUInt32.toInt32) = c := by
  have e0 : ((0 : Int32) &&& 31) = 0 := by decide
  have e8 : ((8 : Int32) &&& 31) = 8 := by decide
  have k : ((own_lo c &&& (255 : Int32)) <<< ((0 : Int32) &&& 31) ||| (own_hi c &&& (255 : Int32)) <<< ((8 : Int32) &&& 31)) = c := by
    rw [e0, e8]
    unfold own_lo own_hi
    rw [own_mask, own_mask]
    have hlt : c.toBitVec.toNat < 65536 := by
      rw [Int32.lt_iff_toInt_lt] at h1 h2
      have e1 : (65535 : Int32).toInt = 65535 := rfl
      have e2 : (0 : Int32).toInt = 0 := rfl
      have q : c.toInt = c.toBitVec.toInt := rfl
      rw [q, BitVec.toInt_eq_toNat_cond] at h1 h2
      have hb := c.toBitVec.isLt
      split at h1 <;> omega
    exact own_get16k c hlt
  rw [k, own_char c h1 h2]
  show c.toUInt32.toUInt16.toUInt32.toInt32 = c
  exact own_char c h1 h2
theorem dgc_0 : decode jdk_52_method_5_code 0 = .ok (.getstatic 44, 3) := by decide +kernel
theorem dgc_3 : decode jdk_52_method_5_code 3 = .ok (.ifCond .ne 25, 3) := by decide +kernel
theorem dgc_28 : decode jdk_52_method_5_code 28 = .ok (.iload_n 1, 1) := by decide +kernel
theorem dgc_29 : decode jdk_52_method_5_code 29 = .ok (.iconst 1, 1) := by decide +kernel
theorem dgc_30 : decode jdk_52_method_5_code 30 = .ok (.ishl, 1) := by decide +kernel
theorem dgc_31 : decode jdk_52_method_5_code 31 = .ok (.istore_n 1, 1) := by decide +kernel
theorem dgc_32 : decode jdk_52_method_5_code 32 = .ok (.aload_n 0, 1) := by decide +kernel
theorem dgc_33 : decode jdk_52_method_5_code 33 = .ok (.iload_n 1, 1) := by decide +kernel
theorem dgc_34 : decode jdk_52_method_5_code 34 = .ok (.iinc 1 1, 3) := by decide +kernel
theorem dgc_37 : decode jdk_52_method_5_code 37 = .ok (.baload, 1) := by decide +kernel
theorem dgc_38 : decode jdk_52_method_5_code 38 = .ok (.sipush 255, 3) := by decide +kernel
theorem dgc_41 : decode jdk_52_method_5_code 41 = .ok (.iand, 1) := by decide +kernel
theorem dgc_42 : decode jdk_52_method_5_code 42 = .ok (.getstatic 59, 3) := by decide +kernel
theorem dgc_45 : decode jdk_52_method_5_code 45 = .ok (.ishl, 1) := by decide +kernel
theorem dgc_46 : decode jdk_52_method_5_code 46 = .ok (.aload_n 0, 1) := by decide +kernel
theorem dgc_47 : decode jdk_52_method_5_code 47 = .ok (.iload_n 1, 1) := by decide +kernel
theorem dgc_48 : decode jdk_52_method_5_code 48 = .ok (.baload, 1) := by decide +kernel
theorem dgc_49 : decode jdk_52_method_5_code 49 = .ok (.sipush 255, 3) := by decide +kernel
theorem dgc_52 : decode jdk_52_method_5_code 52 = .ok (.iand, 1) := by decide +kernel
theorem dgc_53 : decode jdk_52_method_5_code 53 = .ok (.getstatic 63, 3) := by decide +kernel
theorem dgc_56 : decode jdk_52_method_5_code 56 = .ok (.ishl, 1) := by decide +kernel
theorem dgc_57 : decode jdk_52_method_5_code 57 = .ok (.ior, 1) := by decide +kernel
theorem dgc_58 : decode jdk_52_method_5_code 58 = .ok (.i2c, 1) := by decide +kernel
theorem dgc_59 : decode jdk_52_method_5_code 59 = .ok (.ireturn, 1) := by decide +kernel
set_option maxRecDepth 65536 in
set_option maxHeartbeats 40000000 in
theorem rmGC (l : Launch) (Z : State) (a0 : Array Value) (hw : ∀ d ∈ tables_1, d.before a0 Z = true) (z : Int32) (Su : Su16 Z z) (cs : List Int32) (b : Addr) (i : Nat) (x : Int32) (hl : cs.length ≤ 4000) (hxi : cs[i]? = some x) (h1 : ¬ x < 0) (h2 : ¬ (65535 : Int32) < x) (h0 : Heap) (n0 : Nat) (O : Old Z n0 h0) (B : AI Z h0 b .byte (own_u16 cs)) :
    Ctr l Z (⟨"java/lang/StringUTF16", "getChar", "([BI)C"⟩ : MethodName) jdk_52_method_5_code 2 (some .char) [] ({ frames := 0, cells := 0, slots := 0, locals := 0 } : Room) #[(.ref b), (.int (Int32.ofNat i))] h0 (QP x h0 n0) := by
  have hi := (List.getElem?_eq_some_iff.mp hxi).1
  refine Ctr.of (plainFor_of_name pn_1) ?_
  intro p e s m below meth c s₁ hx hby hml hown hnm hret hlk hZ X0 e0
  refine Go.cast (ef_7 m b (Int32.ofNat i)) ?_
  show Go p e below _ s₁ (mkF m 0 #[.val (.ref b), .val (.int (Int32.ofNat i))] [])
  obtain ⟨T1, X1, e1, st1⟩ := getS2 X0 hx hZ hown (host := "") (Or.inl (hw _ (List.mem_of_getElem? (i := 116) rfl))) Via.refl e0 (Su.1.ext O.2) (g := (mkF m 0 #[.val (.ref b), .val (.int (Int32.ofNat i))] [])) rfl (hb hby dgc_0)
  refine Go.st st1 ?_
  show Go p e below _ T1 (mkF m 3 #[.val (.ref b), .val (.int (Int32.ofNat i))] [(.int (1 : Int32))])
  refine Go.st (fun _ k => XS.ifYes X1.here hx rfl (pc0 := 3) (pc' := 28) rfl (hb hby dgc_3) rfl (XT.i0_ne_t (by decide)) (by decide) (by decide) k) ?_
  show Go p e below _ T1 (mkF m 28 #[.val (.ref b), .val (.int (Int32.ofNat i))] [])
  refine Go.st (fun _ k => XS.iloadN X1.here hx rfl (hb hby dgc_28) rfl k) ?_
  show Go p e below _ T1 (mkF m 29 #[.val (.ref b), .val (.int (Int32.ofNat i))] [(.int (Int32.ofNat i))])
  refine Go.st (fun _ k => XS.iconst X1.here hx rfl (hb hby dgc_29) k) ?_
  show Go p e below _ T1 (mkF m 30 #[.val (.ref b), .val (.int (Int32.ofNat i))] [(.int (1 : Int32)), (.int (Int32.ofNat i))])
  refine Go.st (fun _ k => XT.ishl X1.here hx rfl (hb hby dgc_30) rfl k) ?_
  show Go p e below _ T1 (mkF m 31 #[.val (.ref b), .val (.int (Int32.ofNat i))] [(.int ((Int32.ofNat i) <<< ((1 : Int32) &&& 31)))])
  rw [own_shl1 (by omega)]
  show Go p e below _ T1 (mkF m 31 #[.val (.ref b), .val (.int (Int32.ofNat i))] [(.int (Int32.ofNat (2 * i)))])
  refine Go.st (fun _ k => XS.istoreN X1.here hx rfl (hb hby dgc_31) rfl (l' := #[.val (.ref b), .val (.int (Int32.ofNat (2 * i)))]) rfl k) ?_
  show Go p e below _ T1 (mkF m 32 #[.val (.ref b), .val (.int (Int32.ofNat (2 * i)))] [])
  refine Go.st (fun _ k => XS.aloadN X1.here hx rfl (hb hby dgc_32) rfl rfl k) ?_
  show Go p e below _ T1 (mkF m 33 #[.val (.ref b), .val (.int (Int32.ofNat (2 * i)))] [(.ref b)])
  refine Go.st (fun _ k => XS.iloadN X1.here hx rfl (hb hby dgc_33) rfl k) ?_
  show Go p e below _ T1 (mkF m 34 #[.val (.ref b), .val (.int (Int32.ofNat (2 * i)))] [(.int (Int32.ofNat (2 * i))), (.ref b)])
  refine Go.st (fun _ k => XS.iinc X1.here hx rfl (hb hby dgc_34) rfl (l' := #[.val (.ref b), .val (.int ((Int32.ofNat (2 * i)) + (1 : Int32)))]) rfl k) ?_
  show Go p e below _ T1 (mkF m 37 #[.val (.ref b), .val (.int ((Int32.ofNat (2 * i)) + (1 : Int32)))] [(.int (Int32.ofNat (2 * i))), (.ref b)])
  rw [own_succ]
  show Go p e below _ T1 (mkF m 37 #[.val (.ref b), .val (.int (Int32.ofNat (2 * i + 1)))] [(.int (Int32.ofNat (2 * i))), (.ref b)])
  obtain ⟨hb0, hb1⟩ := own_u16_get cs i x hxi
  refine Go.baload X1 hx hZ e1 B (i := 2 * i) (x := (own_lo x)) rfl hb0 (g := (mkF m 37 #[.val (.ref b), .val (.int (Int32.ofNat (2 * i + 1)))] [(.int (Int32.ofNat (2 * i))), (.ref b)])) rfl rfl (hb hby dgc_37) ?_
  show Go p e below _ T1 (mkF m 38 #[.val (.ref b), .val (.int (Int32.ofNat (2 * i + 1)))] [(.int (own_lo x))])
  refine Go.st (fun _ k => XS.sipush X1.here hx rfl (hb hby dgc_38) k) ?_
  show Go p e below _ T1 (mkF m 41 #[.val (.ref b), .val (.int (Int32.ofNat (2 * i + 1)))] [(.int (255 : Int32)), (.int (own_lo x))])
  refine Go.st (fun _ k => XS.iand X1.here hx rfl (hb hby dgc_41) rfl k) ?_
  show Go p e below _ T1 (mkF m 42 #[.val (.ref b), .val (.int (Int32.ofNat (2 * i + 1)))] [(.int ((own_lo x) &&& (255 : Int32)))])
  obtain ⟨T2, X2, e2, st2⟩ := getS2 X1 hx hZ hown (host := "") (Or.inl (hw _ (List.mem_of_getElem? (i := 117) rfl))) Via.refl e1 (Su.2.1.ext O.2) (g := (mkF m 42 #[.val (.ref b), .val (.int (Int32.ofNat (2 * i + 1)))] [(.int ((own_lo x) &&& (255 : Int32)))])) rfl (hb hby dgc_42)
  refine Go.st st2 ?_
  show Go p e below _ T2 (mkF m 45 #[.val (.ref b), .val (.int (Int32.ofNat (2 * i + 1)))] [(.int (0 : Int32)), (.int ((own_lo x) &&& (255 : Int32)))])
  refine Go.st (fun _ k => XT.ishl X2.here hx rfl (hb hby dgc_45) rfl k) ?_
  show Go p e below _ T2 (mkF m 46 #[.val (.ref b), .val (.int (Int32.ofNat (2 * i + 1)))] [(.int (((own_lo x) &&& (255 : Int32)) <<< ((0 : Int32) &&& 31)))])
  refine Go.st (fun _ k => XS.aloadN X2.here hx rfl (hb hby dgc_46) rfl rfl k) ?_
  show Go p e below _ T2 (mkF m 47 #[.val (.ref b), .val (.int (Int32.ofNat (2 * i + 1)))] [(.ref b), (.int (((own_lo x) &&& (255 : Int32)) <<< ((0 : Int32) &&& 31)))])
  refine Go.st (fun _ k => XS.iloadN X2.here hx rfl (hb hby dgc_47) rfl k) ?_
  show Go p e below _ T2 (mkF m 48 #[.val (.ref b), .val (.int (Int32.ofNat (2 * i + 1)))] [(.int (Int32.ofNat (2 * i + 1))), (.ref b), (.int (((own_lo x) &&& (255 : Int32)) <<< ((0 : Int32) &&& 31)))])
  refine Go.baload X2 hx hZ e2 B (i := 2 * i + 1) (x := (own_hi x)) rfl hb1 (g := (mkF m 48 #[.val (.ref b), .val (.int (Int32.ofNat (2 * i + 1)))] [(.int (Int32.ofNat (2 * i + 1))), (.ref b), (.int (((own_lo x) &&& (255 : Int32)) <<< ((0 : Int32) &&& 31)))])) rfl rfl (hb hby dgc_48) ?_
  show Go p e below _ T2 (mkF m 49 #[.val (.ref b), .val (.int (Int32.ofNat (2 * i + 1)))] [(.int (own_hi x)), (.int (((own_lo x) &&& (255 : Int32)) <<< ((0 : Int32) &&& 31)))])
  refine Go.st (fun _ k => XS.sipush X2.here hx rfl (hb hby dgc_49) k) ?_
  show Go p e below _ T2 (mkF m 52 #[.val (.ref b), .val (.int (Int32.ofNat (2 * i + 1)))] [(.int (255 : Int32)), (.int (own_hi x)), (.int (((own_lo x) &&& (255 : Int32)) <<< ((0 : Int32) &&& 31)))])
  refine Go.st (fun _ k => XS.iand X2.here hx rfl (hb hby dgc_52) rfl k) ?_
  show Go p e below _ T2 (mkF m 53 #[.val (.ref b), .val (.int (Int32.ofNat (2 * i + 1)))] [(.int ((own_hi x) &&& (255 : Int32))), (.int (((own_lo x) &&& (255 : Int32)) <<< ((0 : Int32) &&& 31)))])
  obtain ⟨T3, X3, e3, st3⟩ := getS2 X2 hx hZ hown (host := "") (Or.inl (hw _ (List.mem_of_getElem? (i := 118) rfl))) Via.refl e2 (Su.2.2.1.ext O.2) (g := (mkF m 53 #[.val (.ref b), .val (.int (Int32.ofNat (2 * i + 1)))] [(.int ((own_hi x) &&& (255 : Int32))), (.int (((own_lo x) &&& (255 : Int32)) <<< ((0 : Int32) &&& 31)))])) rfl (hb hby dgc_53)
  refine Go.st st3 ?_
  show Go p e below _ T3 (mkF m 56 #[.val (.ref b), .val (.int (Int32.ofNat (2 * i + 1)))] [(.int (8 : Int32)), (.int ((own_hi x) &&& (255 : Int32))), (.int (((own_lo x) &&& (255 : Int32)) <<< ((0 : Int32) &&& 31)))])
  refine Go.st (fun _ k => XT.ishl X3.here hx rfl (hb hby dgc_56) rfl k) ?_
  show Go p e below _ T3 (mkF m 57 #[.val (.ref b), .val (.int (Int32.ofNat (2 * i + 1)))] [(.int (((own_hi x) &&& (255 : Int32)) <<< ((8 : Int32) &&& 31))), (.int (((own_lo x) &&& (255 : Int32)) <<< ((0 : Int32) &&& 31)))])
  refine Go.st (fun _ k => XT.ior X3.here hx rfl (hb hby dgc_57) rfl k) ?_
  show Go p e below _ T3 (mkF m 58 #[.val (.ref b), .val (.int (Int32.ofNat (2 * i + 1)))] [(.int ((((own_lo x) &&& (255 : Int32)) <<< ((0 : Int32) &&& 31)) ||| (((own_hi x) &&& (255 : Int32)) <<< ((8 : Int32) &&& 31))))])
  refine Go.st (fun _ k => XT.i2c X3.here hx rfl (hb hby dgc_58) rfl k) ?_
  show Go p e below _ T3 (mkF m 59 #[.val (.ref b), .val (.int (Int32.ofNat (2 * i + 1)))] [(.int (((((own_lo x) &&& (255 : Int32)) <<< ((0 : Int32) &&& 31)) ||| (((own_hi x) &&& (255 : Int32)) <<< ((8 : Int32) &&& 31))).toUInt32.toUInt16.toUInt32.toInt32))])
  exact Go.retB X3 hx hret hlk (Or.inr (Or.inr (Or.inl rfl))) (hb hby dgc_59) ⟨by rw [own_get16 x h1 h2], Fr.nil n0, e3⟩ (Nat.le_refl _) (Nat.le_refl _)
def QC5 (Z : State) (d : Addr) (cs : List Int32) (h0 : Heap) (n0 : Nat) (v : Option Value) (h : Heap) (L : List Loc) : Prop := v = some (.int (Int32.ofNat (own_fb cs))) ∧ Fr n0 L ∧ Keep h0 h [d] ∧ AI Z h d .byte ((cs.take (own_fb cs)).map own_lo ++ List.replicate (cs.length - own_fb cs) 0)
theorem own_c5_step {cs : List Int32} {i k : Nat} {x : Int32} (hx : cs[i]? = some x) (hik : i + (k + 1) = cs.length) : ((cs.take i).map own_lo ++ List.replicate (k + 1) 0).set i (own_lo x) = (cs.take (i + 1)).map own_lo ++ List.replicate k 0 := by
  have hi := (List.getElem?_eq_some_iff.mp hx).1
  rw [own_set_step _ _ _ _ _ (by rw [List.length_map, List.length_take, Nat.min_eq_left (by omega)]), own_take_succ hx, List.map_append]; rfl
theorem own_nar_lo (x : Int32) : nar .byte (x.toInt8.toInt32) = own_lo x := by simp [nar, own_lo]
theorem dc5_0 : decode jdk_52_method_21_code 0 = .ok (.iconst 0, 1) := by decide +kernel
theorem dc5_1 : decode jdk_52_method_21_code 1 = .ok (.istore 5, 2) := by decide +kernel
theorem dc5_3 : decode jdk_52_method_21_code 3 = .ok (.iload 5, 2) := by decide +kernel
theorem dc5_5 : decode jdk_52_method_21_code 5 = .ok (.iload 4, 2) := by decide +kernel
theorem dc5_7 : decode jdk_52_method_21_code 7 = .ok (.if_icmp .ge 37, 3) := by decide +kernel
theorem dc5_10 : decode jdk_52_method_21_code 10 = .ok (.aload_n 0, 1) := by decide +kernel
theorem dc5_11 : decode jdk_52_method_21_code 11 = .ok (.iload_n 1, 1) := by decide +kernel
theorem dc5_12 : decode jdk_52_method_21_code 12 = .ok (.caload, 1) := by decide +kernel
theorem dc5_13 : decode jdk_52_method_21_code 13 = .ok (.istore 6, 2) := by decide +kernel
theorem dc5_15 : decode jdk_52_method_21_code 15 = .ok (.iload 6, 2) := by decide +kernel
theorem dc5_17 : decode jdk_52_method_21_code 17 = .ok (.sipush 255, 3) := by decide +kernel
theorem dc5_20 : decode jdk_52_method_21_code 20 = .ok (.if_icmp .le 6, 3) := by decide +kernel
theorem dc5_23 : decode jdk_52_method_21_code 23 = .ok (.iload 5, 2) := by decide +kernel
theorem dc5_25 : decode jdk_52_method_21_code 25 = .ok (.ireturn, 1) := by decide +kernel
theorem dc5_26 : decode jdk_52_method_21_code 26 = .ok (.aload_n 2, 1) := by decide +kernel
theorem dc5_27 : decode jdk_52_method_21_code 27 = .ok (.iload_n 3, 1) := by decide +kernel
theorem dc5_28 : decode jdk_52_method_21_code 28 = .ok (.iload 6, 2) := by decide +kernel
theorem dc5_30 : decode jdk_52_method_21_code 30 = .ok (.i2b, 1) := by decide +kernel
theorem dc5_31 : decode jdk_52_method_21_code 31 = .ok (.bastore, 1) := by decide +kernel
theorem dc5_32 : decode jdk_52_method_21_code 32 = .ok (.iinc 1 1, 3) := by decide +kernel
theorem dc5_35 : decode jdk_52_method_21_code 35 = .ok (.iinc 3 1, 3) := by decide +kernel
theorem dc5_38 : decode jdk_52_method_21_code 38 = .ok (.iinc 5 1, 3) := by decide +kernel
theorem dc5_41 : decode jdk_52_method_21_code 41 = .ok (.goto (-38), 3) := by decide +kernel
theorem dc5_44 : decode jdk_52_method_21_code 44 = .ok (.iload 4, 2) := by decide +kernel
theorem dc5_46 : decode jdk_52_method_21_code 46 = .ok (.ireturn, 1) := by decide +kernel
set_option maxRecDepth 65536 in
set_option maxHeartbeats 40000000 in
theorem lpC5 (l : Launch) (Z : State) (a0 : Array Value) (hw : ∀ d ∈ tables_1, d.before a0 Z = true) (cs : List Int32) (a d : Addr) (h0 : Heap) (n0 : Nat) (hn : cs.length ≤ 4000) {p : Program} {e : Env} {s : State} {m : MethodId} {args : Array Value} {below : List Frame} {meth : Method} {c : Code} (hx : p.tables.exec = Jvm.exec) (hby : c.code = jdk_52_method_21_code) (hml : c.maxLocals = 7) (hown : s.vm.findClass "java/lang/StringUTF16" = some m.cls) (hret : meth.sig.returnType = some .int) (hlk : meth.locks = false) (hZ : Z.Warmed39 s.vm) (hnd : n0 ≤ d) (hab : a ≠ d) :
    ∀ (k i : Nat) (T : State) (h : Heap) (locs : List Loc) (s6 : Slot), i + k = cs.length → One s6 → Stand p l e ({ frames := 0, cells := 0, slots := 0, locals := 0 } : Room) s m args below meth c T locs 0 0 → T.heap = h → AI Z h a .char cs → AI Z h d .byte ((cs.take i).map own_lo ++ List.replicate k 0) → own_fb cs = i + own_fb (cs.drop i) → Fr n0 locs → Keep h0 h [d] →
      Go p e below (EndQ s (QC5 Z d cs h0 n0) 0 0) T (mkF m 3 #[.val (.ref a), .val (.int (Int32.ofNat i)), .val (.ref d), .val (.int (Int32.ofNat i)), .val (.int (Int32.ofNat cs.length)), .val (.int (Int32.ofNat i)), s6] []) := by
  intro k
  induction k with
  | zero =>
    intro i T h locs s6 hik o6 X1 e1 A D F N K
    show Go p e below _ T (mkF m 3 #[.val (.ref a), .val (.int (Int32.ofNat i)), .val (.ref d), .val (.int (Int32.ofNat i)), .val (.int (Int32.ofNat cs.length)), .val (.int (Int32.ofNat i)), s6] [])
    refine Go.st (fun _ k => XS.iload X1.here hx rfl (hb hby dc5_3) rfl k) ?_
    show Go p e below _ T (mkF m 5 #[.val (.ref a), .val (.int (Int32.ofNat i)), .val (.ref d), .val (.int (Int32.ofNat i)), .val (.int (Int32.ofNat cs.length)), .val (.int (Int32.ofNat i)), s6] [(.int (Int32.ofNat i))])
    refine Go.st (fun _ k => XS.iload X1.here hx rfl (hb hby dc5_5) rfl k) ?_
    show Go p e below _ T (mkF m 7 #[.val (.ref a), .val (.int (Int32.ofNat i)), .val (.ref d), .val (.int (Int32.ofNat i)), .val (.int (Int32.ofNat cs.length)), .val (.int (Int32.ofNat i)), s6] [(.int (Int32.ofNat cs.length)), (.int (Int32.ofNat i))])
    have q : ¬ Int32.ofNat i < Int32.ofNat cs.length := by rw [show i = cs.length by omega]; exact fun q => Int32.lt_irrefl q
    refine Go.st (fun _ k => XS.icmpYes X1.here hx rfl (pc0 := 7) (pc' := 44) rfl (hb hby dc5_7) rfl (XT.ii_ge_t q) (by decide) (by decide) k) ?_
    show Go p e below _ T (mkF m 44 #[.val (.ref a), .val (.int (Int32.ofNat i)), .val (.ref d), .val (.int (Int32.ofNat i)), .val (.int (Int32.ofNat cs.length)), .val (.int (Int32.ofNat i)), s6] [])
    refine Go.st (fun _ k => XS.iload X1.here hx rfl (hb hby dc5_44) rfl k) ?_
    show Go p e below _ T (mkF m 46 #[.val (.ref a), .val (.int (Int32.ofNat i)), .val (.ref d), .val (.int (Int32.ofNat i)), .val (.int (Int32.ofNat cs.length)), .val (.int (Int32.ofNat i)), s6] [(.int (Int32.ofNat cs.length))])
    have f : own_fb cs = cs.length := by have := own_fb_le cs; omega
    exact Go.retI X1 hx hret hlk (hb hby dc5_46) ⟨by rw [f], N, e1 ▸ K, by rw [f, e1]; have q := D; rw [show i = cs.length by omega] at q; simpa using q⟩ (Nat.le_refl _) (Nat.le_refl _)
  | succ k ih =>
    intro i T h locs s6 hik o6 X1 e1 A D F N K
    show Go p e below _ T (mkF m 3 #[.val (.ref a), .val (.int (Int32.ofNat i)), .val (.ref d), .val (.int (Int32.ofNat i)), .val (.int (Int32.ofNat cs.length)), .val (.int (Int32.ofNat i)), s6] [])
    refine Go.st (fun _ k => XS.iload X1.here hx rfl (hb hby dc5_3) rfl k) ?_
    show Go p e below _ T (mkF m 5 #[.val (.ref a), .val (.int (Int32.ofNat i)), .val (.ref d), .val (.int (Int32.ofNat i)), .val (.int (Int32.ofNat cs.length)), .val (.int (Int32.ofNat i)), s6] [(.int (Int32.ofNat i))])
    refine Go.st (fun _ k => XS.iload X1.here hx rfl (hb hby dc5_5) rfl k) ?_
    show Go p e below _ T (mkF m 7 #[.val (.ref a), .val (.int (Int32.ofNat i)), .val (.ref d), .val (.int (Int32.ofNat i)), .val (.int (Int32.ofNat cs.length)), .val (.int (Int32.ofNat i)), s6] [(.int (Int32.ofNat cs.length)), (.int (Int32.ofNat i))])
    refine Go.st (fun _ k => XS.icmpNo X1.here hx rfl (hb hby dc5_7) rfl (XT.ii_ge_f (own_ofNat_lt (by omega) (by omega))) k) ?_
    show Go p e below _ T (mkF m 10 #[.val (.ref a), .val (.int (Int32.ofNat i)), .val (.ref d), .val (.int (Int32.ofNat i)), .val (.int (Int32.ofNat cs.length)), .val (.int (Int32.ofNat i)), s6] [])
    refine Go.st (fun _ k => XS.aloadN X1.here hx rfl (hb hby dc5_10) rfl rfl k) ?_
    show Go p e below _ T (mkF m 11 #[.val (.ref a), .val (.int (Int32.ofNat i)), .val (.ref d), .val (.int (Int32.ofNat i)), .val (.int (Int32.ofNat cs.length)), .val (.int (Int32.ofNat i)), s6] [(.ref a)])
    refine Go.st (fun _ k => XS.iloadN X1.here hx rfl (hb hby dc5_11) rfl k) ?_
    show Go p e below _ T (mkF m 12 #[.val (.ref a), .val (.int (Int32.ofNat i)), .val (.ref d), .val (.int (Int32.ofNat i)), .val (.int (Int32.ofNat cs.length)), .val (.int (Int32.ofNat i)), s6] [(.int (Int32.ofNat i)), (.ref a)])
    obtain ⟨x, hxi⟩ : ∃ x, cs[i]? = some x := ⟨_, List.getElem?_eq_getElem (by omega)⟩
    refine Go.caload X1 hx hZ e1 A (i := i) (x := x) rfl hxi (g := (mkF m 12 #[.val (.ref a), .val (.int (Int32.ofNat i)), .val (.ref d), .val (.int (Int32.ofNat i)), .val (.int (Int32.ofNat cs.length)), .val (.int (Int32.ofNat i)), s6] [(.int (Int32.ofNat i)), (.ref a)])) rfl rfl (hb hby dc5_12) ?_
    show Go p e below _ T (mkF m 13 #[.val (.ref a), .val (.int (Int32.ofNat i)), .val (.ref d), .val (.int (Int32.ofNat i)), .val (.int (Int32.ofNat cs.length)), .val (.int (Int32.ofNat i)), s6] [(.int x)])
    refine Go.st (fun _ k => XS.istoreS X1.here hx rfl (hb hby dc5_13) rfl (k := 6) (o := s6) rfl o6 k) ?_
    show Go p e below _ T (mkF m 15 #[.val (.ref a), .val (.int (Int32.ofNat i)), .val (.ref d), .val (.int (Int32.ofNat i)), .val (.int (Int32.ofNat cs.length)), .val (.int (Int32.ofNat i)), .val (.int x)] [])
    refine Go.st (fun _ k => XS.iload X1.here hx rfl (hb hby dc5_15) rfl k) ?_
    show Go p e below _ T (mkF m 17 #[.val (.ref a), .val (.int (Int32.ofNat i)), .val (.ref d), .val (.int (Int32.ofNat i)), .val (.int (Int32.ofNat cs.length)), .val (.int (Int32.ofNat i)), .val (.int x)] [(.int x)])
    refine Go.st (fun _ k => XS.sipush X1.here hx rfl (hb hby dc5_17) k) ?_
    show Go p e below _ T (mkF m 20 #[.val (.ref a), .val (.int (Int32.ofNat i)), .val (.ref d), .val (.int (Int32.ofNat i)), .val (.int (Int32.ofNat cs.length)), .val (.int (Int32.ofNat i)), .val (.int x)] [(.int (255 : Int32)), (.int x)])
    by_cases q : (255 : Int32) < x
    · skip
      refine Go.st (fun _ k => XS.icmpNo X1.here hx rfl (hb hby dc5_20) rfl (XT.ii_le_f q) k) ?_
      show Go p e below _ T (mkF m 23 #[.val (.ref a), .val (.int (Int32.ofNat i)), .val (.ref d), .val (.int (Int32.ofNat i)), .val (.int (Int32.ofNat cs.length)), .val (.int (Int32.ofNat i)), .val (.int x)] [])
      refine Go.st (fun _ k => XS.iload X1.here hx rfl (hb hby dc5_23) rfl k) ?_
      show Go p e below _ T (mkF m 25 #[.val (.ref a), .val (.int (Int32.ofNat i)), .val (.ref d), .val (.int (Int32.ofNat i)), .val (.int (Int32.ofNat cs.length)), .val (.int (Int32.ofNat i)), .val (.int x)] [(.int (Int32.ofNat i))])
      have f := own_fb_big F hxi q
      exact Go.retI X1 hx hret hlk (hb hby dc5_25) ⟨by rw [f], N, e1 ▸ K, by rw [f, e1, show cs.length - i = k + 1 by omega]; exact D⟩ (Nat.le_refl _) (Nat.le_refl _)
    · skip
      refine Go.st (fun _ k => XS.icmpYes X1.here hx rfl (pc0 := 20) (pc' := 26) rfl (hb hby dc5_20) rfl (XT.ii_le_t q) (by decide) (by decide) k) ?_
      show Go p e below _ T (mkF m 26 #[.val (.ref a), .val (.int (Int32.ofNat i)), .val (.ref d), .val (.int (Int32.ofNat i)), .val (.int (Int32.ofNat cs.length)), .val (.int (Int32.ofNat i)), .val (.int x)] [])
      refine Go.st (fun _ k => XS.aloadN X1.here hx rfl (hb hby dc5_26) rfl rfl k) ?_
      show Go p e below _ T (mkF m 27 #[.val (.ref a), .val (.int (Int32.ofNat i)), .val (.ref d), .val (.int (Int32.ofNat i)), .val (.int (Int32.ofNat cs.length)), .val (.int (Int32.ofNat i)), .val (.int x)] [(.ref d)])
      refine Go.st (fun _ k => XS.iloadN X1.here hx rfl (hb hby dc5_27) rfl k) ?_
      show Go p e below _ T (mkF m 28 #[.val (.ref a), .val (.int (Int32.ofNat i)), .val (.ref d), .val (.int (Int32.ofNat i)), .val (.int (Int32.ofNat cs.length)), .val (.int (Int32.ofNat i)), .val (.int x)] [(.int (Int32.ofNat i)), (.ref d)])
      refine Go.st (fun _ k => XS.iload X1.here hx rfl (hb hby dc5_28) rfl k) ?_
      show Go p e below _ T (mkF m 30 #[.val (.ref a), .val (.int (Int32.ofNat i)), .val (.ref d), .val (.int (Int32.ofNat i)), .val (.int (Int32.ofNat cs.length)), .val (.int (Int32.ofNat i)), .val (.int x)] [(.int x), (.int (Int32.ofNat i)), (.ref d)])
      refine Go.st (fun _ k => XT.i2b X1.here hx rfl (hb hby dc5_30) rfl k) ?_
      show Go p e below _ T (mkF m 31 #[.val (.ref a), .val (.int (Int32.ofNat i)), .val (.ref d), .val (.int (Int32.ofNat i)), .val (.int (Int32.ofNat cs.length)), .val (.int (Int32.ofNat i)), .val (.int x)] [(.int x.toInt8.toInt32), (.int (Int32.ofNat i)), (.ref d)])
      refine Go.bastore X1 hx hZ e1 D (i := i) rfl (by rw [List.length_append, List.length_map, List.length_take, List.length_replicate]; omega) (g := (mkF m 31 #[.val (.ref a), .val (.int (Int32.ofNat i)), .val (.ref d), .val (.int (Int32.ofNat i)), .val (.int (Int32.ofNat cs.length)), .val (.int (Int32.ofNat i)), .val (.int x)] [(.int x.toInt8.toInt32), (.int (Int32.ofNat i)), (.ref d)])) rfl rfl (hb hby dc5_31) ?_
      rintro T2 h2 X2 e2 W2 A2
      have sW2 := W2.size
      show Go p e below _ T2 (mkF m 32 #[.val (.ref a), .val (.int (Int32.ofNat i)), .val (.ref d), .val (.int (Int32.ofNat i)), .val (.int (Int32.ofNat cs.length)), .val (.int (Int32.ofNat i)), .val (.int x)] [])
      rw [own_nar_lo, own_c5_step hxi hik] at A2
      refine Go.st (fun _ k => XS.iinc X2.here hx rfl (hb hby dc5_32) rfl (l' := #[.val (.ref a), .val (.int ((Int32.ofNat i) + (1 : Int32))), .val (.ref d), .val (.int (Int32.ofNat i)), .val (.int (Int32.ofNat cs.length)), .val (.int (Int32.ofNat i)), .val (.int x)]) rfl k) ?_
      show Go p e below _ T2 (mkF m 35 #[.val (.ref a), .val (.int ((Int32.ofNat i) + (1 : Int32))), .val (.ref d), .val (.int (Int32.ofNat i)), .val (.int (Int32.ofNat cs.length)), .val (.int (Int32.ofNat i)), .val (.int x)] [])
      rw [own_succ]
      show Go p e below _ T2 (mkF m 35 #[.val (.ref a), .val (.int (Int32.ofNat (i + 1))), .val (.ref d), .val (.int (Int32.ofNat i)), .val (.int (Int32.ofNat cs.length)), .val (.int (Int32.ofNat i)), .val (.int x)] [])
      refine Go.st (fun _ k => XS.iinc X2.here hx rfl (hb hby dc5_35) rfl (l' := #[.val (.ref a), .val (.int (Int32.ofNat (i + 1))), .val (.ref d), .val (.int ((Int32.ofNat i) + (1 : Int32))), .val (.int (Int32.ofNat cs.length)), .val (.int (Int32.ofNat i)), .val (.int x)]) rfl k) ?_
      show Go p e below _ T2 (mkF m 38 #[.val (.ref a), .val (.int (Int32.ofNat (i + 1))), .val (.ref d), .val (.int ((Int32.ofNat i) + (1 : Int32))), .val (.int (Int32.ofNat cs.length)), .val (.int (Int32.ofNat i)), .val (.int x)] [])
      rw [own_succ]
      show Go p e below _ T2 (mkF m 38 #[.val (.ref a), .val (.int (Int32.ofNat (i + 1))), .val (.ref d), .val (.int (Int32.ofNat (i + 1))), .val (.int (Int32.ofNat cs.length)), .val (.int (Int32.ofNat i)), .val (.int x)] [])
      refine Go.st (fun _ k => XS.iinc X2.here hx rfl (hb hby dc5_38) rfl (l' := #[.val (.ref a), .val (.int (Int32.ofNat (i + 1))), .val (.ref d), .val (.int (Int32.ofNat (i + 1))), .val (.int (Int32.ofNat cs.length)), .val (.int ((Int32.ofNat i) + (1 : Int32))), .val (.int x)]) rfl k) ?_
      show Go p e below _ T2 (mkF m 41 #[.val (.ref a), .val (.int (Int32.ofNat (i + 1))), .val (.ref d), .val (.int (Int32.ofNat (i + 1))), .val (.int (Int32.ofNat cs.length)), .val (.int ((Int32.ofNat i) + (1 : Int32))), .val (.int x)] [])
      rw [own_succ]
      show Go p e below _ T2 (mkF m 41 #[.val (.ref a), .val (.int (Int32.ofNat (i + 1))), .val (.ref d), .val (.int (Int32.ofNat (i + 1))), .val (.int (Int32.ofNat cs.length)), .val (.int (Int32.ofNat (i + 1))), .val (.int x)] [])
      refine Go.st (fun _ k => XS.goto X2.here hx rfl (pc0 := 41) (pc' := 3) rfl (hb hby dc5_41) (by decide) (by decide) k) ?_
      show Go p e below _ T2 (mkF m 3 #[.val (.ref a), .val (.int (Int32.ofNat (i + 1))), .val (.ref d), .val (.int (Int32.ofNat (i + 1))), .val (.int (Int32.ofNat cs.length)), .val (.int (Int32.ofNat (i + 1))), .val (.int x)] [])
      exact ih (i + 1) T2 h2 _ (.val (.int x)) (by omega) (One.val rfl) X2 e2 (A.other W2 hab) A2 (own_fb_small F hxi q) (Fr.snoc X2 N hnd) (K.wr W2 (Or.inl (List.mem_cons_self ..)))
set_option maxRecDepth 65536 in
set_option maxHeartbeats 40000000 in
theorem rmC5 (l : Launch) (Z : State) (a0 : Array Value) (hw : ∀ d ∈ tables_1, d.before a0 Z = true) (cs : List Int32) (a d : Addr) (h0 : Heap) (n0 : Nat) (hn : cs.length ≤ 4000) (hnd : n0 ≤ d) (hab : a ≠ d) (A : AI Z h0 a .char cs) (D : AI Z h0 d .byte (List.replicate cs.length 0)) :
    Ctr l Z (⟨"java/lang/StringUTF16", "compress", "([CI[BII)I"⟩ : MethodName) jdk_52_method_21_code 7 (some .int) [] ({ frames := 0, cells := 0, slots := 0, locals := 0 } : Room) #[(.ref a), (.int (Int32.ofNat 0)), (.ref d), (.int (Int32.ofNat 0)), (.int (Int32.ofNat cs.length))] h0 (QC5 Z d cs h0 n0) := by
  refine Ctr.of (plainFor_of_name pn_1) ?_
  intro p e s m below meth c s₁ hx hby hml hown hnm hret hlk hZ X0 e0
  refine Go.cast (ef_8 m a (Int32.ofNat 0) d (Int32.ofNat 0) (Int32.ofNat cs.length)) ?_
  show Go p e below _ s₁ (mkF m 0 #[.val (.ref a), .val (.int (Int32.ofNat 0)), .val (.ref d), .val (.int (Int32.ofNat 0)), .val (.int (Int32.ofNat cs.length)), .unset, .unset] [])
  refine Go.st (fun _ k => XS.iconst X0.here hx rfl (hb hby dc5_0) k) ?_
  show Go p e below _ s₁ (mkF m 1 #[.val (.ref a), .val (.int (Int32.ofNat 0)), .val (.ref d), .val (.int (Int32.ofNat 0)), .val (.int (Int32.ofNat cs.length)), .unset, .unset] [(.int (0 : Int32))])
  refine Go.st (fun _ k => XS.istore X0.here hx rfl (hb hby dc5_1) rfl (l' := #[.val (.ref a), .val (.int (Int32.ofNat 0)), .val (.ref d), .val (.int (Int32.ofNat 0)), .val (.int (Int32.ofNat cs.length)), .val (.int (0 : Int32)), .unset]) rfl k) ?_
  show Go p e below _ s₁ (mkF m 3 #[.val (.ref a), .val (.int (Int32.ofNat 0)), .val (.ref d), .val (.int (Int32.ofNat 0)), .val (.int (Int32.ofNat cs.length)), .val (.int (0 : Int32)), .unset] [])
  exact lpC5 l Z a0 hw cs a d h0 n0 hn hx hby hml hown hret hlk hZ hnd hab cs.length 0 s₁ h0 _ .unset (by omega) One.u X0 e0 A (by simpa using D) (by simp) (Fr.nil n0) (Keep.refl _ _)
def own_val (cs : List Int32) : List Int32 := if own_fb cs = cs.length then cs.map own_lo else own_u16 cs
def own_cod (cs : List Int32) : Int32 := if own_fb cs = cs.length then 0 else 1
def QC3 (Z : State) (cs : List Int32) (h0 : Heap) (n0 : Nat) (v : Option Value) (h : Heap) (L : List Loc) : Prop := ∃ t, v = some (.ref t) ∧ Fr n0 L ∧ Keep h0 h [] ∧ AI Z h t .byte (own_val cs) ∧ h0.size ≤ t
theorem dc3_0 : decode jdk_52_method_16_code 0 = .ok (.iload_n 2, 1) := by decide +kernel
theorem dc3_1 : decode jdk_52_method_16_code 1 = .ok (.newarray .byte, 2) := by decide +kernel
theorem dc3_3 : decode jdk_52_method_16_code 3 = .ok (.astore_n 3, 1) := by decide +kernel
theorem dc3_4 : decode jdk_52_method_16_code 4 = .ok (.aload_n 0, 1) := by decide +kernel
theorem dc3_5 : decode jdk_52_method_16_code 5 = .ok (.iload_n 1, 1) := by decide +kernel
theorem dc3_6 : decode jdk_52_method_16_code 6 = .ok (.aload_n 3, 1) := by decide +kernel
theorem dc3_7 : decode jdk_52_method_16_code 7 = .ok (.iconst 0, 1) := by decide +kernel
theorem dc3_8 : decode jdk_52_method_16_code 8 = .ok (.iload_n 2, 1) := by decide +kernel
theorem dc3_9 : decode jdk_52_method_16_code 9 = .ok (.invokestatic 115, 3) := by decide +kernel
theorem dc3_12 : decode jdk_52_method_16_code 12 = .ok (.istore 4, 2) := by decide +kernel
theorem dc3_14 : decode jdk_52_method_16_code 14 = .ok (.iload 4, 2) := by decide +kernel
theorem dc3_16 : decode jdk_52_method_16_code 16 = .ok (.iload_n 2, 1) := by decide +kernel
theorem dc3_17 : decode jdk_52_method_16_code 17 = .ok (.if_icmp .eq 40, 3) := by decide +kernel
theorem dc3_20 : decode jdk_52_method_16_code 20 = .ok (.aload_n 0, 1) := by decide +kernel
theorem dc3_21 : decode jdk_52_method_16_code 21 = .ok (.iload_n 1, 1) := by decide +kernel
theorem dc3_22 : decode jdk_52_method_16_code 22 = .ok (.iload_n 2, 1) := by decide +kernel
theorem dc3_23 : decode jdk_52_method_16_code 23 = .ok (.invokestatic 119, 3) := by decide +kernel
theorem dc3_26 : decode jdk_52_method_16_code 26 = .ok (.astore 5, 2) := by decide +kernel
theorem dc3_28 : decode jdk_52_method_16_code 28 = .ok (.aload 5, 2) := by decide +kernel
theorem dc3_30 : decode jdk_52_method_16_code 30 = .ok (.iload 4, 2) := by decide +kernel
theorem dc3_32 : decode jdk_52_method_16_code 32 = .ok (.invokestatic 71, 3) := by decide +kernel
theorem dc3_35 : decode jdk_52_method_16_code 35 = .ok (.sipush 255, 3) := by decide +kernel
theorem dc3_38 : decode jdk_52_method_16_code 38 = .ok (.if_icmp .gt 16, 3) := by decide +kernel
theorem dc3_54 : decode jdk_52_method_16_code 54 = .ok (.aload 5, 2) := by decide +kernel
theorem dc3_56 : decode jdk_52_method_16_code 56 = .ok (.areturn, 1) := by decide +kernel
theorem dc3_57 : decode jdk_52_method_16_code 57 = .ok (.aload_n 3, 1) := by decide +kernel
theorem dc3_58 : decode jdk_52_method_16_code 58 = .ok (.areturn, 1) := by decide +kernel
set_option maxRecDepth 65536 in
set_option maxHeartbeats 40000000 in
theorem rmC3 (l : Launch) (Z : State) (a0 : Array Value) (hw : ∀ d ∈ tables_1, d.before a0 Z = true) (z : Int32) (Su : Su16 Z z) (cs : List Int32) (a : Addr) (h0 : Heap) (n0 : Nat) (hn : cs.length ≤ 4000) (hbd : ∀ c ∈ cs, ¬ c < 0 ∧ ¬ (65535 : Int32) < c) (hZ0 : n0 ≤ h0.size) (O : Old Z n0 h0) (A : AI Z h0 a .char cs) :
    Ctr l Z (⟨"java/lang/StringUTF16", "compress", "([CII)[B"⟩ : MethodName) jdk_52_method_16_code 6 (some (.array .byte)) [] ({ frames := 3, cells := 2, slots := 3 * cs.length, locals := 40 } : Room) #[(.ref a), (.int (Int32.ofNat 0)), (.int (Int32.ofNat cs.length))] h0 (QC3 Z cs h0 n0) := by
  refine Ctr.of (plainFor_of_name pn_1) ?_
  intro p e s m below meth c s₁ hx hby hml hown hnm hret hlk hZ X0 e0
  refine Go.cast (ef_9 m a (Int32.ofNat 0) (Int32.ofNat cs.length)) ?_
  show Go p e below _ s₁ (mkF m 0 #[.val (.ref a), .val (.int (Int32.ofNat 0)), .val (.int (Int32.ofNat cs.length)), .unset, .unset, .unset] [])
  refine Go.st (fun _ k => XS.iloadN X0.here hx rfl (hb hby dc3_0) rfl k) ?_
  show Go p e below _ s₁ (mkF m 1 #[.val (.ref a), .val (.int (Int32.ofNat 0)), .val (.int (Int32.ofNat cs.length)), .unset, .unset, .unset] [(.int (Int32.ofNat cs.length))])
  refine Go.newarr X0 hx hZ (ty := .byte) rfl rfl (hw _ (List.mem_of_getElem? (i := 26) rfl)) e0 (g := (mkF m 1 #[.val (.ref a), .val (.int (Int32.ofNat 0)), .val (.int (Int32.ofNat cs.length)), .unset, .unset, .unset] [(.int (Int32.ofNat cs.length))])) rfl (hb hby dc3_1) rfl (n := cs.length) rfl (by omega) (by (try dsimp only [room_1]); (try simp only [List.length_cons, List.length_nil]); omega) (by (try dsimp only [room_1]); (try simp only [List.length_cons, List.length_nil]); omega) ?_
  rintro T1 h1 X1 e1 E1 l1 A1
  obtain ⟨d, gd⟩ : ∃ z, z = h0.size := ⟨_, rfl⟩
  rw [← gd] at A1 l1 ⊢
  show Go p e below _ T1 (mkF m 3 #[.val (.ref a), .val (.int (Int32.ofNat 0)), .val (.int (Int32.ofNat cs.length)), .unset, .unset, .unset] [(.ref d)])
  refine Go.st (fun _ k => XS.astoreN X1.here hx rfl (hb hby dc3_3) rfl rfl (l' := #[.val (.ref a), .val (.int (Int32.ofNat 0)), .val (.int (Int32.ofNat cs.length)), .val (.ref d), .unset, .unset]) rfl k) ?_
  show Go p e below _ T1 (mkF m 4 #[.val (.ref a), .val (.int (Int32.ofNat 0)), .val (.int (Int32.ofNat cs.length)), .val (.ref d), .unset, .unset] [])
  refine Go.st (fun _ k => XS.aloadN X1.here hx rfl (hb hby dc3_4) rfl rfl k) ?_
  show Go p e below _ T1 (mkF m 5 #[.val (.ref a), .val (.int (Int32.ofNat 0)), .val (.int (Int32.ofNat cs.length)), .val (.ref d), .unset, .unset] [(.ref a)])
  refine Go.st (fun _ k => XS.iloadN X1.here hx rfl (hb hby dc3_5) rfl k) ?_
  show Go p e below _ T1 (mkF m 6 #[.val (.ref a), .val (.int (Int32.ofNat 0)), .val (.int (Int32.ofNat cs.length)), .val (.ref d), .unset, .unset] [(.int (Int32.ofNat 0)), (.ref a)])
  refine Go.st (fun _ k => XS.aloadN X1.here hx rfl (hb hby dc3_6) rfl rfl k) ?_
  show Go p e below _ T1 (mkF m 7 #[.val (.ref a), .val (.int (Int32.ofNat 0)), .val (.int (Int32.ofNat cs.length)), .val (.ref d), .unset, .unset] [(.ref d), (.int (Int32.ofNat 0)), (.ref a)])
  refine Go.st (fun _ k => XS.iconst X1.here hx rfl (hb hby dc3_7) k) ?_
  show Go p e below _ T1 (mkF m 8 #[.val (.ref a), .val (.int (Int32.ofNat 0)), .val (.int (Int32.ofNat cs.length)), .val (.ref d), .unset, .unset] [(.int (0 : Int32)), (.ref d), (.int (Int32.ofNat 0)), (.ref a)])
  refine Go.st (fun _ k => XS.iloadN X1.here hx rfl (hb hby dc3_8) rfl k) ?_
  show Go p e below _ T1 (mkF m 9 #[.val (.ref a), .val (.int (Int32.ofNat 0)), .val (.int (Int32.ofNat cs.length)), .val (.ref d), .unset, .unset] [(.int (Int32.ofNat cs.length)), (.int (0 : Int32)), (.ref d), (.int (Int32.ofNat 0)), (.ref a)])
  have la : a ≠ d := Nat.ne_of_lt (Nat.lt_of_lt_of_eq A.lt gd.symm)
  refine Go.callS X1 hx (y := (⟨"java/lang/StringUTF16", "compress", "([CI[BII)I"⟩ : MethodName)) hown (mvT hZ (hw _ (List.mem_of_getElem? (i := 63) rfl))) (mvT hZ (hw _ (List.mem_of_getElem? (i := 64) rfl))) (mvT hZ (hw _ (List.mem_of_getElem? (i := 61) rfl))) (mvT hZ (hw _ (List.mem_of_getElem? (i := 65) rfl))) (by decide) (Ctr.back (W := 0) (rmC5 l Z a0 hw cs a d h1 n0 hn (by omega) la (A.ext E1) A1) hZ (hw _ (List.mem_of_getElem? (i := 65) rfl)) (hw _ (List.mem_of_getElem? (i := 61) rfl)) (by (try dsimp only [room_1]); (try simp only [List.length_cons, List.length_nil]); omega) (by (try dsimp only [room_1]); (try simp only [List.length_cons, List.length_nil]); omega)) e1 (g := (mkF m 9 #[.val (.ref a), .val (.int (Int32.ofNat 0)), .val (.int (Int32.ofNat cs.length)), .val (.ref d), .unset, .unset] [(.int (Int32.ofNat cs.length)), (.int (0 : Int32)), (.ref d), (.int (Int32.ofNat 0)), (.ref a)])) rfl (by rw [hml]; rfl) (argsL := [(.ref a), (.int (Int32.ofNat 0)), (.ref d), (.int (0 : Int32)), (.int (Int32.ofNat cs.length))]) (rest := []) (lenOf pd_10 rfl) rfl (by show 2 * 0 + _ ≤ _; exact Nat.le_of_eq rfl) (hb hby dc3_9) rfl (by (try dsimp only [room_1]); (try simp only [List.length_cons, List.length_nil]); omega) (by (try dsimp only [room_1]); (try simp only [List.length_cons, List.length_nil]); omega) ?_
  rintro _ T2 L2 X2 ⟨rfl, N2, K2, A2⟩
  show Go p e below _ T2 (mkF m 12 #[.val (.ref a), .val (.int (Int32.ofNat 0)), .val (.int (Int32.ofNat cs.length)), .val (.ref d), .unset, .unset] [(.int (Int32.ofNat (own_fb cs)))])
  refine Go.st (fun _ k => XS.istore X2.here hx rfl (hb hby dc3_12) rfl (l' := #[.val (.ref a), .val (.int (Int32.ofNat 0)), .val (.int (Int32.ofNat cs.length)), .val (.ref d), .val (.int (Int32.ofNat (own_fb cs))), .unset]) rfl k) ?_
  show Go p e below _ T2 (mkF m 14 #[.val (.ref a), .val (.int (Int32.ofNat 0)), .val (.int (Int32.ofNat cs.length)), .val (.ref d), .val (.int (Int32.ofNat (own_fb cs))), .unset] [])
  refine Go.st (fun _ k => XS.iload X2.here hx rfl (hb hby dc3_14) rfl k) ?_
  show Go p e below _ T2 (mkF m 16 #[.val (.ref a), .val (.int (Int32.ofNat 0)), .val (.int (Int32.ofNat cs.length)), .val (.ref d), .val (.int (Int32.ofNat (own_fb cs))), .unset] [(.int (Int32.ofNat (own_fb cs)))])
  refine Go.st (fun _ k => XS.iloadN X2.here hx rfl (hb hby dc3_16) rfl k) ?_
  show Go p e below _ T2 (mkF m 17 #[.val (.ref a), .val (.int (Int32.ofNat 0)), .val (.int (Int32.ofNat cs.length)), .val (.ref d), .val (.int (Int32.ofNat (own_fb cs))), .unset] [(.int (Int32.ofNat cs.length)), (.int (Int32.ofNat (own_fb cs)))])
  have K02 : Keep h0 T2.heap [] := ((Keep.refl h0 []).ext E1).trans K2 (fun x q => Or.inr (by cases List.mem_singleton.mp q; omega))
  have hfl := own_fb_le cs
  by_cases q : own_fb cs = cs.length
  · skip
    refine Go.st (fun _ k => XS.icmpYes X2.here hx rfl (pc0 := 17) (pc' := 57) rfl (hb hby dc3_17) rfl (XT.ii_eq_t (by rw [q])) (by decide) (by decide) k) ?_
    show Go p e below _ T2 (mkF m 57 #[.val (.ref a), .val (.int (Int32.ofNat 0)), .val (.int (Int32.ofNat cs.length)), .val (.ref d), .val (.int (Int32.ofNat (own_fb cs))), .unset] [])
    refine Go.st (fun _ k => XS.aloadN X2.here hx rfl (hb hby dc3_57) rfl rfl k) ?_
    show Go p e below _ T2 (mkF m 58 #[.val (.ref a), .val (.int (Int32.ofNat 0)), .val (.int (Int32.ofNat cs.length)), .val (.ref d), .val (.int (Int32.ofNat (own_fb cs))), .unset] [(.ref d)])
    exact Go.retV X2 hx hret hlk rfl rfl (hb hby dc3_58) ⟨d, rfl, Fr.app (Fr.nil n0) N2, K02, by unfold own_val; rw [if_pos q]; rw [q] at A2; simpa using A2, by omega⟩ (by (try dsimp only [room_1]); (try simp only [List.length_cons, List.length_nil]); omega) (by (try dsimp only [room_1]); (try simp only [List.length_cons, List.length_nil]); omega)
  · skip
    have qn : ¬ Int32.ofNat (own_fb cs) = Int32.ofNat cs.length := fun z => q (by have z' := congrArg Int32.toInt z; rw [own_toInt (by omega), own_toInt (by omega)] at z'; omega)
    refine Go.st (fun _ k => XS.icmpNo X2.here hx rfl (hb hby dc3_17) rfl (XT.ii_eq_f qn) k) ?_
    show Go p e below _ T2 (mkF m 20 #[.val (.ref a), .val (.int (Int32.ofNat 0)), .val (.int (Int32.ofNat cs.length)), .val (.ref d), .val (.int (Int32.ofNat (own_fb cs))), .unset] [])
    refine Go.st (fun _ k => XS.aloadN X2.here hx rfl (hb hby dc3_20) rfl rfl k) ?_
    show Go p e below _ T2 (mkF m 21 #[.val (.ref a), .val (.int (Int32.ofNat 0)), .val (.int (Int32.ofNat cs.length)), .val (.ref d), .val (.int (Int32.ofNat (own_fb cs))), .unset] [(.ref a)])
    refine Go.st (fun _ k => XS.iloadN X2.here hx rfl (hb hby dc3_21) rfl k) ?_
    show Go p e below _ T2 (mkF m 22 #[.val (.ref a), .val (.int (Int32.ofNat 0)), .val (.int (Int32.ofNat cs.length)), .val (.ref d), .val (.int (Int32.ofNat (own_fb cs))), .unset] [(.int (Int32.ofNat 0)), (.ref a)])
    refine Go.st (fun _ k => XS.iloadN X2.here hx rfl (hb hby dc3_22) rfl k) ?_
    show Go p e below _ T2 (mkF m 23 #[.val (.ref a), .val (.int (Int32.ofNat 0)), .val (.int (Int32.ofNat cs.length)), .val (.ref d), .val (.int (Int32.ofNat (own_fb cs))), .unset] [(.int (Int32.ofNat cs.length)), (.int (Int32.ofNat 0)), (.ref a)])
    have O2 : Old Z n0 T2.heap := (O.ext E1).keep K2 (allS (by omega) all0)
    have Aa : AI Z T2.heap a .char cs := A.keep K02 nin0
    have k02 := K02.1
    refine Go.callS X2 hx (y := (⟨"java/lang/StringUTF16", "toBytes", "([CII)[B"⟩ : MethodName)) hown (mvT hZ (hw _ (List.mem_of_getElem? (i := 103) rfl))) (mvT hZ (hw _ (List.mem_of_getElem? (i := 104) rfl))) (mvT hZ (hw _ (List.mem_of_getElem? (i := 61) rfl))) (mvT hZ (hw _ (List.mem_of_getElem? (i := 105) rfl))) (by decide) (Ctr.back (W := 0) (rmTB l Z a0 hw z Su cs a T2.heap n0 hn (by omega) O2 Aa) hZ (hw _ (List.mem_of_getElem? (i := 105) rfl)) (hw _ (List.mem_of_getElem? (i := 61) rfl)) (by (try dsimp only [room_1]); (try simp only [List.length_cons, List.length_nil]); omega) (by (try dsimp only [room_1]); (try simp only [List.length_cons, List.length_nil]); omega)) rfl (g := (mkF m 23 #[.val (.ref a), .val (.int (Int32.ofNat 0)), .val (.int (Int32.ofNat cs.length)), .val (.ref d), .val (.int (Int32.ofNat (own_fb cs))), .unset] [(.int (Int32.ofNat cs.length)), (.int (Int32.ofNat 0)), (.ref a)])) rfl (by rw [hml]; rfl) (argsL := [(.ref a), (.int (Int32.ofNat 0)), (.int (Int32.ofNat cs.length))]) (rest := []) (lenOf pd_11 rfl) rfl (by show 2 * 0 + _ ≤ _; exact Nat.le_of_eq rfl) (hb hby dc3_23) rfl (by (try dsimp only [room_1]); (try simp only [List.length_cons, List.length_nil]); omega) (by (try dsimp only [room_1]); (try simp only [List.length_cons, List.length_nil]); omega) ?_
    rintro _ T3 L3 X3 ⟨rfl, N3, K3, B3⟩
    show Go p e below _ T3 (mkF m 26 #[.val (.ref a), .val (.int (Int32.ofNat 0)), .val (.int (Int32.ofNat cs.length)), .val (.ref d), .val (.int (Int32.ofNat (own_fb cs))), .unset] [(.ref T2.heap.size)])
    refine Go.st (fun _ k => XS.astore X3.here hx rfl (hb hby dc3_26) rfl rfl (l' := #[.val (.ref a), .val (.int (Int32.ofNat 0)), .val (.int (Int32.ofNat cs.length)), .val (.ref d), .val (.int (Int32.ofNat (own_fb cs))), .val (.ref T2.heap.size)]) rfl k) ?_
    show Go p e below _ T3 (mkF m 28 #[.val (.ref a), .val (.int (Int32.ofNat 0)), .val (.int (Int32.ofNat cs.length)), .val (.ref d), .val (.int (Int32.ofNat (own_fb cs))), .val (.ref T2.heap.size)] [])
    refine Go.st (fun _ k => XS.aload X3.here hx rfl (hb hby dc3_28) rfl rfl k) ?_
    show Go p e below _ T3 (mkF m 30 #[.val (.ref a), .val (.int (Int32.ofNat 0)), .val (.int (Int32.ofNat cs.length)), .val (.ref d), .val (.int (Int32.ofNat (own_fb cs))), .val (.ref T2.heap.size)] [(.ref T2.heap.size)])
    refine Go.st (fun _ k => XS.iload X3.here hx rfl (hb hby dc3_30) rfl k) ?_
    show Go p e below _ T3 (mkF m 32 #[.val (.ref a), .val (.int (Int32.ofNat 0)), .val (.int (Int32.ofNat cs.length)), .val (.ref d), .val (.int (Int32.ofNat (own_fb cs))), .val (.ref T2.heap.size)] [(.int (Int32.ofNat (own_fb cs))), (.ref T2.heap.size)])
    obtain ⟨x, hxi, hxb⟩ := own_fb_at cs (by omega)
    have hx2 := hbd x (List.mem_of_getElem? hxi)
    refine Go.callS X3 hx (y := (⟨"java/lang/StringUTF16", "getChar", "([BI)C"⟩ : MethodName)) hown (mvT hZ (hw _ (List.mem_of_getElem? (i := 119) rfl))) (mvT hZ (hw _ (List.mem_of_getElem? (i := 120) rfl))) (mvT hZ (hw _ (List.mem_of_getElem? (i := 61) rfl))) (mvT hZ (hw _ (List.mem_of_getElem? (i := 121) rfl))) (by decide) (Ctr.back (W := 0) (rmGC l Z a0 hw z Su cs T2.heap.size (own_fb cs) x hn hxi hx2.1 hx2.2 T3.heap n0 (O2.keep K3 all0) B3) hZ (hw _ (List.mem_of_getElem? (i := 121) rfl)) (hw _ (List.mem_of_getElem? (i := 61) rfl)) (by (try dsimp only [room_1]); (try simp only [List.length_cons, List.length_nil]); omega) (by (try dsimp only [room_1]); (try simp only [List.length_cons, List.length_nil]); omega)) rfl (g := (mkF m 32 #[.val (.ref a), .val (.int (Int32.ofNat 0)), .val (.int (Int32.ofNat cs.length)), .val (.ref d), .val (.int (Int32.ofNat (own_fb cs))), .val (.ref T2.heap.size)] [(.int (Int32.ofNat (own_fb cs))), (.ref T2.heap.size)])) rfl (by rw [hml]; rfl) (argsL := [(.ref T2.heap.size), (.int (Int32.ofNat (own_fb cs)))]) (rest := []) (lenOf pd_12 rfl) rfl (by show 2 * 0 + _ ≤ _; exact Nat.le_of_eq rfl) (hb hby dc3_32) rfl (by (try dsimp only [room_1]); (try simp only [List.length_cons, List.length_nil]); omega) (by (try dsimp only [room_1]); (try simp only [List.length_cons, List.length_nil]); omega) ?_
    rintro _ T4 L4 X4 ⟨rfl, N4, e4⟩
    show Go p e below _ T4 (mkF m 35 #[.val (.ref a), .val (.int (Int32.ofNat 0)), .val (.int (Int32.ofNat cs.length)), .val (.ref d), .val (.int (Int32.ofNat (own_fb cs))), .val (.ref T2.heap.size)] [(.int x)])
    refine Go.st (fun _ k => XS.sipush X4.here hx rfl (hb hby dc3_35) k) ?_
    show Go p e below _ T4 (mkF m 38 #[.val (.ref a), .val (.int (Int32.ofNat 0)), .val (.int (Int32.ofNat cs.length)), .val (.ref d), .val (.int (Int32.ofNat (own_fb cs))), .val (.ref T2.heap.size)] [(.int (255 : Int32)), (.int x)])
    refine Go.st (fun _ k => XS.icmpYes X4.here hx rfl (pc0 := 38) (pc' := 54) rfl (hb hby dc3_38) rfl (XT.ii_gt_t hxb) (by decide) (by decide) k) ?_
    show Go p e below _ T4 (mkF m 54 #[.val (.ref a), .val (.int (Int32.ofNat 0)), .val (.int (Int32.ofNat cs.length)), .val (.ref d), .val (.int (Int32.ofNat (own_fb cs))), .val (.ref T2.heap.size)] [])
    refine Go.st (fun _ k => XS.aload X4.here hx rfl (hb hby dc3_54) rfl rfl k) ?_
    show Go p e below _ T4 (mkF m 56 #[.val (.ref a), .val (.int (Int32.ofNat 0)), .val (.int (Int32.ofNat cs.length)), .val (.ref d), .val (.int (Int32.ofNat (own_fb cs))), .val (.ref T2.heap.size)] [(.ref T2.heap.size)])
    exact Go.retV X4 hx hret hlk rfl rfl (hb hby dc3_56) ⟨T2.heap.size, rfl, Fr.app (Fr.app (Fr.app (Fr.nil n0) N2) N3) N4, e4 ▸ K02.trans K3 (fun _ z => nomatch z), by unfold own_val; rw [if_neg q, e4]; exact B3, by omega⟩ (by (try dsimp only [room_1]); (try simp only [List.length_cons, List.length_nil]); omega) (by (try dsimp only [room_1]); (try simp only [List.length_cons, List.length_nil]); omega)
theorem own_val_len (cs : List Int32) : (own_val cs).length = if own_fb cs = cs.length then cs.length else 2 * cs.length := by
  unfold own_val; split
  · simp
  · exact own_u16_len cs
theorem own_ushr_neg {x : Int32} (h : x < 0) : XT.ushr x (31 : Int32) = 1 := by
  rw [XT.negI32] at h
  have q : x.toInt = x.toBitVec.toInt := rfl
  rw [q, BitVec.toInt_eq_toNat_cond] at h
  have hb := x.toBitVec.isLt
  unfold XT.ushr
  have e : ((31 : Int32) &&& 31).toUInt32 = 31 := by decide
  rw [e]
  apply Int32.toBitVec_inj.mp
  apply BitVec.eq_of_toNat_eq
  show (x.toUInt32 >>> 31).toNat = _
  rw [UInt32.toNat_shiftRight]
  have e3 : x.toUInt32.toNat = x.toBitVec.toNat := rfl
  rw [e3]
  have e4 : (31 : UInt32).toNat % 32 = 31 := by decide
  rw [e4, Nat.shiftRight_eq_div_pow]
  have e5 : (1 : Int32).toBitVec.toNat = 1 := by decide
  rw [e5]
  split at h <;> omega
theorem own_coder {cs : List Int32} (hn : cs.length ≤ 4000) (h0 : 0 < cs.length) : nar .byte ((XT.ushr (Int32.ofNat cs.length - Int32.ofNat (own_val cs).length) (31 : Int32)).toInt8.toInt32) = own_cod cs := by
  rw [own_val_len]; unfold own_cod
  split
  · rw [Int32.sub_self]; decide
  · have q : Int32.ofNat cs.length - Int32.ofNat (2 * cs.length) < 0 := by
      rw [XT.negI32, XT.sub32 (by rw [own_toInt (by omega), own_toInt (by omega)]; constructor <;> omega), own_toInt (by omega), own_toInt (by omega)]; omega
    rw [own_ushr_neg q]; decide
theorem dcl_0 : decode jdk_52_method_15_code 0 = .ok (.iload_n 1, 1) := by decide +kernel
theorem dcl_1 : decode jdk_52_method_15_code 1 = .ok (.aload_n 0, 1) := by decide +kernel
theorem dcl_2 : decode jdk_52_method_15_code 2 = .ok (.arraylength, 1) := by decide +kernel
theorem dcl_3 : decode jdk_52_method_15_code 3 = .ok (.isub, 1) := by decide +kernel
theorem dcl_4 : decode jdk_52_method_15_code 4 = .ok (.bipush 31, 2) := by decide +kernel
theorem dcl_6 : decode jdk_52_method_15_code 6 = .ok (.iushr, 1) := by decide +kernel
theorem dcl_7 : decode jdk_52_method_15_code 7 = .ok (.i2b, 1) := by decide +kernel
theorem dcl_8 : decode jdk_52_method_15_code 8 = .ok (.ireturn, 1) := by decide +kernel
set_option maxRecDepth 65536 in
set_option maxHeartbeats 40000000 in
theorem rmCL (l : Launch) (Z : State) (a0 : Array Value) (hw : ∀ d ∈ tables_1, d.before a0 Z = true) (cs : List Int32) (t : Addr) (h0 : Heap) (n0 : Nat) (hn : cs.length ≤ 4000) (h1 : 0 < cs.length) (B : AI Z h0 t .byte (own_val cs)) :
    Ctr l Z (⟨"java/lang/StringUTF16", "coderFromArrayLen", "([BI)B"⟩ : MethodName) jdk_52_method_15_code 2 (some .byte) [] ({ frames := 0, cells := 0, slots := 0, locals := 0 } : Room) #[(.ref t), (.int (Int32.ofNat cs.length))] h0 (QP (own_cod cs) h0 n0) := by
  refine Ctr.of (plainFor_of_name pn_1) ?_
  intro p e s m below meth c s₁ hx hby hml hown hnm hret hlk hZ X0 e0
  refine Go.cast (ef_7 m t (Int32.ofNat cs.length)) ?_
  show Go p e below _ s₁ (mkF m 0 #[.val (.ref t), .val (.int (Int32.ofNat cs.length))] [])
  refine Go.st (fun _ k => XS.iloadN X0.here hx rfl (hb hby dcl_0) rfl k) ?_
  show Go p e below _ s₁ (mkF m 1 #[.val (.ref t), .val (.int (Int32.ofNat cs.length))] [(.int (Int32.ofNat cs.length))])
  refine Go.st (fun _ k => XS.aloadN X0.here hx rfl (hb hby dcl_1) rfl rfl k) ?_
  show Go p e below _ s₁ (mkF m 2 #[.val (.ref t), .val (.int (Int32.ofNat cs.length))] [(.ref t), (.int (Int32.ofNat cs.length))])
  refine Go.alen X0 hx hZ e0 B (g := (mkF m 2 #[.val (.ref t), .val (.int (Int32.ofNat cs.length))] [(.ref t), (.int (Int32.ofNat cs.length))])) rfl rfl (hb hby dcl_2) ?_
  show Go p e below _ s₁ (mkF m 3 #[.val (.ref t), .val (.int (Int32.ofNat cs.length))] [(.int (Int32.ofNat (own_val cs).length)), (.int (Int32.ofNat cs.length))])
  refine Go.st (fun _ k => XS.isub X0.here hx rfl (hb hby dcl_3) rfl k) ?_
  show Go p e below _ s₁ (mkF m 4 #[.val (.ref t), .val (.int (Int32.ofNat cs.length))] [(.int ((Int32.ofNat cs.length) - (Int32.ofNat (own_val cs).length)))])
  refine Go.st (fun _ k => XS.bipush X0.here hx rfl (hb hby dcl_4) k) ?_
  show Go p e below _ s₁ (mkF m 6 #[.val (.ref t), .val (.int (Int32.ofNat cs.length))] [(.int (31 : Int32)), (.int ((Int32.ofNat cs.length) - (Int32.ofNat (own_val cs).length)))])
  refine Go.st (fun _ k => XT.iushr X0.here hx rfl (hb hby dcl_6) rfl k) ?_
  show Go p e below _ s₁ (mkF m 7 #[.val (.ref t), .val (.int (Int32.ofNat cs.length))] [(.int (XT.ushr ((Int32.ofNat cs.length) - (Int32.ofNat (own_val cs).length)) (31 : Int32)))])
  refine Go.st (fun _ k => XT.i2b X0.here hx rfl (hb hby dcl_7) rfl k) ?_
  show Go p e below _ s₁ (mkF m 8 #[.val (.ref t), .val (.int (Int32.ofNat cs.length))] [(.int ((XT.ushr ((Int32.ofNat cs.length) - (Int32.ofNat (own_val cs).length)) (31 : Int32)).toInt8.toInt32))])
  exact Go.retB X0 hx hret hlk (Or.inr (Or.inl rfl)) (hb hby dcl_8) ⟨by rw [own_coder hn h1], Fr.nil n0, e0⟩ (Nat.le_refl _) (Nat.le_refl _)
def QI (Z : State) (x : Addr) (cs : List Int32) (h0 : Heap) (n0 : Nat) (v : Option Value) (h : Heap) (L : List Loc) : Prop := v = none ∧ Fr n0 L ∧ Keep h0 h [x] ∧ Exa Z h x "java/lang/String" ∧ Fld Z h x "java/lang/String" "coder" "B" (.int (own_cod cs)) ∧ ∃ t, Fld Z h x "java/lang/String" "value" "[B" (.ref t) ∧ AI Z h t .byte (own_val cs) ∧ t ≠ x
theorem di4_0 : decode jdk_42_method_149_code 0 = .ok (.aload_n 0, 1) := by decide +kernel
theorem di4_1 : decode jdk_42_method_149_code 1 = .ok (.invokespecial 1, 3) := by decide +kernel
theorem di4_4 : decode jdk_42_method_149_code 4 = .ok (.iload_n 3, 1) := by decide +kernel
theorem di4_5 : decode jdk_42_method_149_code 5 = .ok (.ifCond .ne 22, 3) := by decide +kernel
theorem di4_27 : decode jdk_42_method_149_code 27 = .ok (.getstatic 38, 3) := by decide +kernel
theorem di4_30 : decode jdk_42_method_149_code 30 = .ok (.ifCond .eq 28, 3) := by decide +kernel
theorem di4_33 : decode jdk_42_method_149_code 33 = .ok (.aload_n 1, 1) := by decide +kernel
theorem di4_34 : decode jdk_42_method_149_code 34 = .ok (.iload_n 2, 1) := by decide +kernel
theorem di4_35 : decode jdk_42_method_149_code 35 = .ok (.iload_n 3, 1) := by decide +kernel
theorem di4_36 : decode jdk_42_method_149_code 36 = .ok (.invokestatic 177, 3) := by decide +kernel
theorem di4_39 : decode jdk_42_method_149_code 39 = .ok (.astore 5, 2) := by decide +kernel
theorem di4_41 : decode jdk_42_method_149_code 41 = .ok (.aload_n 0, 1) := by decide +kernel
theorem di4_42 : decode jdk_42_method_149_code 42 = .ok (.aload 5, 2) := by decide +kernel
theorem di4_44 : decode jdk_42_method_149_code 44 = .ok (.iload_n 3, 1) := by decide +kernel
theorem di4_45 : decode jdk_42_method_149_code 45 = .ok (.invokestatic 47, 3) := by decide +kernel
theorem di4_48 : decode jdk_42_method_149_code 48 = .ok (.putfield 15, 3) := by decide +kernel
theorem di4_51 : decode jdk_42_method_149_code 51 = .ok (.aload_n 0, 1) := by decide +kernel
theorem di4_52 : decode jdk_42_method_149_code 52 = .ok (.aload 5, 2) := by decide +kernel
theorem di4_54 : decode jdk_42_method_149_code 54 = .ok (.putfield 9, 3) := by decide +kernel
theorem di4_57 : decode jdk_42_method_149_code 57 = .ok (.return_, 1) := by decide +kernel
set_option maxRecDepth 65536 in
set_option maxHeartbeats 40000000 in
theorem rmI4 (l : Launch) (Z : State) (a0 : Array Value) (hw : ∀ d ∈ tables_1, d.before a0 Z = true) (z : Int32) (Su : Su16 Z z) (cs : List Int32) (hn : cs.length ≤ 4000) (h1 : 0 < cs.length) (hbd : ∀ c ∈ cs, ¬ c < 0 ∧ ¬ (65535 : Int32) < c) (x a : Addr) (v0 c0 : Value) (h0 : Heap) (n0 : Nat) (hna : n0 ≤ x) (hZ0 : n0 ≤ h0.size) (O : Old Z n0 h0) (E : Exa Z h0 x "java/lang/String") (V : Fld Z h0 x "java/lang/String" "value" "[B" v0) (Cc : Fld Z h0 x "java/lang/String" "coder" "B" c0) (A : AI Z h0 a .char cs) :
    Ctr l Z (⟨"java/lang/String", "<init>", "([CIILjava/lang/Void;)V"⟩ : MethodName) jdk_42_method_149_code 6 none [] ({ frames := 4, cells := 2, slots := 3 * cs.length, locals := 57 } : Room) #[(.ref x), (.ref a), (.int (Int32.ofNat 0)), (.int (Int32.ofNat cs.length)), .null] h0 (QI Z x cs h0 n0) := by
  refine Ctr.of (plainFor_of_name pn_15) ?_
  intro p e s m below meth c s₁ hx hby hml hown hnm hret hlk hZ X0 e0
  refine Go.cast (ef_13 m x a (Int32.ofNat 0) (Int32.ofNat cs.length)) ?_
  show Go p e below _ s₁ (mkF m 0 #[.val (.ref x), .val (.ref a), .val (.int (Int32.ofNat 0)), .val (.int (Int32.ofNat cs.length)), .val .null, .unset] [])
  refine Go.st (fun _ k => XS.aloadN X0.here hx rfl (hb hby di4_0) rfl rfl k) ?_
  show Go p e below _ s₁ (mkF m 1 #[.val (.ref x), .val (.ref a), .val (.int (Int32.ofNat 0)), .val (.int (Int32.ofNat cs.length)), .val .null, .unset] [(.ref x)])
  obtain ⟨T1, X1, e1, st1⟩ := initO X0 hx hZ hown (hw _ (List.mem_of_getElem? (i := 22) rfl)) (hw _ (List.mem_of_getElem? (i := 23) rfl)) (hw _ (List.mem_of_getElem? (i := 24) rfl)) e0 (g := (mkF m 1 #[.val (.ref x), .val (.ref a), .val (.int (Int32.ofNat 0)), .val (.int (Int32.ofNat cs.length)), .val .null, .unset] [(.ref x)])) rfl (by rw [hml]; rfl) rfl (hb hby di4_1) (by (try dsimp only [room_1]); (try simp only [List.length_cons, List.length_nil]); omega) (W := 0) (by show 2 * 0 + _ ≤ _; exact Nat.le_of_eq rfl) (by (try dsimp only [room_1]); (try simp only [List.length_cons, List.length_nil]); omega)
  refine Go.st st1 ?_
  show Go p e below _ T1 (mkF m 4 #[.val (.ref x), .val (.ref a), .val (.int (Int32.ofNat 0)), .val (.int (Int32.ofNat cs.length)), .val .null, .unset] [])
  refine Go.st (fun _ k => XS.iloadN X1.here hx rfl (hb hby di4_4) rfl k) ?_
  show Go p e below _ T1 (mkF m 5 #[.val (.ref x), .val (.ref a), .val (.int (Int32.ofNat 0)), .val (.int (Int32.ofNat cs.length)), .val .null, .unset] [(.int (Int32.ofNat cs.length))])
  have qn : ¬ Int32.ofNat cs.length = 0 := fun z' => by have q := congrArg Int32.toInt z'; rw [own_toInt (by omega)] at q; have q2 : ((0 : Int32)).toInt = 0 := rfl; omega
  refine Go.st (fun _ k => XS.ifYes X1.here hx rfl (pc0 := 5) (pc' := 27) rfl (hb hby di4_5) rfl (XT.i0_ne_t qn) (by decide) (by decide) k) ?_
  show Go p e below _ T1 (mkF m 27 #[.val (.ref x), .val (.ref a), .val (.int (Int32.ofNat 0)), .val (.int (Int32.ofNat cs.length)), .val .null, .unset] [])
  obtain ⟨T2, X2, e2, st2⟩ := getS2 X1 hx hZ hown (host := "") (Or.inl (hw _ (List.mem_of_getElem? (i := 58) rfl))) Via.refl e1 (Su.2.2.2.1.ext O.2) (g := (mkF m 27 #[.val (.ref x), .val (.ref a), .val (.int (Int32.ofNat 0)), .val (.int (Int32.ofNat cs.length)), .val .null, .unset] [])) rfl (hb hby di4_27)
  refine Go.st st2 ?_
  show Go p e below _ T2 (mkF m 30 #[.val (.ref x), .val (.ref a), .val (.int (Int32.ofNat 0)), .val (.int (Int32.ofNat cs.length)), .val .null, .unset] [(.int z)])
  refine Go.st (fun _ k => XS.ifNo X2.here hx rfl (hb hby di4_30) rfl (XT.i0_eq_f Su.2.2.2.2) k) ?_
  show Go p e below _ T2 (mkF m 33 #[.val (.ref x), .val (.ref a), .val (.int (Int32.ofNat 0)), .val (.int (Int32.ofNat cs.length)), .val .null, .unset] [])
  refine Go.st (fun _ k => XS.aloadN X2.here hx rfl (hb hby di4_33) rfl rfl k) ?_
  show Go p e below _ T2 (mkF m 34 #[.val (.ref x), .val (.ref a), .val (.int (Int32.ofNat 0)), .val (.int (Int32.ofNat cs.length)), .val .null, .unset] [(.ref a)])
  refine Go.st (fun _ k => XS.iloadN X2.here hx rfl (hb hby di4_34) rfl k) ?_
  show Go p e below _ T2 (mkF m 35 #[.val (.ref x), .val (.ref a), .val (.int (Int32.ofNat 0)), .val (.int (Int32.ofNat cs.length)), .val .null, .unset] [(.int (Int32.ofNat 0)), (.ref a)])
  refine Go.st (fun _ k => XS.iloadN X2.here hx rfl (hb hby di4_35) rfl k) ?_
  show Go p e below _ T2 (mkF m 36 #[.val (.ref x), .val (.ref a), .val (.int (Int32.ofNat 0)), .val (.int (Int32.ofNat cs.length)), .val .null, .unset] [(.int (Int32.ofNat cs.length)), (.int (Int32.ofNat 0)), (.ref a)])
  refine Go.callS X2 hx (y := (⟨"java/lang/StringUTF16", "compress", "([CII)[B"⟩ : MethodName)) hown (mvT hZ (hw _ (List.mem_of_getElem? (i := 59) rfl))) (mvT hZ (hw _ (List.mem_of_getElem? (i := 60) rfl))) (mvT hZ (hw _ (List.mem_of_getElem? (i := 61) rfl))) (mvT hZ (hw _ (List.mem_of_getElem? (i := 62) rfl))) (by decide) (Ctr.back (W := 0) (rmC3 l Z a0 hw z Su cs a h0 n0 hn hbd hZ0 O A) hZ (hw _ (List.mem_of_getElem? (i := 62) rfl)) (hw _ (List.mem_of_getElem? (i := 61) rfl)) (by (try dsimp only [room_1]); (try simp only [List.length_cons, List.length_nil]); omega) (by (try dsimp only [room_1]); (try simp only [List.length_cons, List.length_nil]); omega)) e2 (g := (mkF m 36 #[.val (.ref x), .val (.ref a), .val (.int (Int32.ofNat 0)), .val (.int (Int32.ofNat cs.length)), .val .null, .unset] [(.int (Int32.ofNat cs.length)), (.int (Int32.ofNat 0)), (.ref a)])) rfl (by rw [hml]; rfl) (argsL := [(.ref a), (.int (Int32.ofNat 0)), (.int (Int32.ofNat cs.length))]) (rest := []) (lenOf pd_11 rfl) rfl (by show 2 * 0 + _ ≤ _; exact Nat.le_of_eq rfl) (hb hby di4_36) rfl (by (try dsimp only [room_1]); (try simp only [List.length_cons, List.length_nil]); omega) (by (try dsimp only [room_1]); (try simp only [List.length_cons, List.length_nil]); omega) ?_
  rintro _ T3 L3 X3 ⟨t, rfl, N3, K3, B3, ht⟩
  show Go p e below _ T3 (mkF m 39 #[.val (.ref x), .val (.ref a), .val (.int (Int32.ofNat 0)), .val (.int (Int32.ofNat cs.length)), .val .null, .unset] [(.ref t)])
  refine Go.st (fun _ k => XS.astore X3.here hx rfl (hb hby di4_39) rfl rfl (l' := #[.val (.ref x), .val (.ref a), .val (.int (Int32.ofNat 0)), .val (.int (Int32.ofNat cs.length)), .val .null, .val (.ref t)]) rfl k) ?_
  show Go p e below _ T3 (mkF m 41 #[.val (.ref x), .val (.ref a), .val (.int (Int32.ofNat 0)), .val (.int (Int32.ofNat cs.length)), .val .null, .val (.ref t)] [])
  refine Go.st (fun _ k => XS.aloadN X3.here hx rfl (hb hby di4_41) rfl rfl k) ?_
  show Go p e below _ T3 (mkF m 42 #[.val (.ref x), .val (.ref a), .val (.int (Int32.ofNat 0)), .val (.int (Int32.ofNat cs.length)), .val .null, .val (.ref t)] [(.ref x)])
  refine Go.st (fun _ k => XS.aload X3.here hx rfl (hb hby di4_42) rfl rfl k) ?_
  show Go p e below _ T3 (mkF m 44 #[.val (.ref x), .val (.ref a), .val (.int (Int32.ofNat 0)), .val (.int (Int32.ofNat cs.length)), .val .null, .val (.ref t)] [(.ref t), (.ref x)])
  refine Go.st (fun _ k => XS.iloadN X3.here hx rfl (hb hby di4_44) rfl k) ?_
  show Go p e below _ T3 (mkF m 45 #[.val (.ref x), .val (.ref a), .val (.int (Int32.ofNat 0)), .val (.int (Int32.ofNat cs.length)), .val .null, .val (.ref t)] [(.int (Int32.ofNat cs.length)), (.ref t), (.ref x)])
  refine Go.callS X3 hx (y := (⟨"java/lang/StringUTF16", "coderFromArrayLen", "([BI)B"⟩ : MethodName)) hown (mvT hZ (hw _ (List.mem_of_getElem? (i := 66) rfl))) (mvT hZ (hw _ (List.mem_of_getElem? (i := 67) rfl))) (mvT hZ (hw _ (List.mem_of_getElem? (i := 61) rfl))) (mvT hZ (hw _ (List.mem_of_getElem? (i := 68) rfl))) (by decide) (Ctr.back (W := 1) (rmCL l Z a0 hw cs t T3.heap n0 hn h1 B3) hZ (hw _ (List.mem_of_getElem? (i := 68) rfl)) (hw _ (List.mem_of_getElem? (i := 61) rfl)) (by (try dsimp only [room_1]); (try simp only [List.length_cons, List.length_nil]); omega) (by (try dsimp only [room_1]); (try simp only [List.length_cons, List.length_nil]); omega)) rfl (g := (mkF m 45 #[.val (.ref x), .val (.ref a), .val (.int (Int32.ofNat 0)), .val (.int (Int32.ofNat cs.length)), .val .null, .val (.ref t)] [(.int (Int32.ofNat cs.length)), (.ref t), (.ref x)])) rfl (by rw [hml]; rfl) (argsL := [(.ref t), (.int (Int32.ofNat cs.length))]) (rest := [(.ref x)]) (lenOf pd_14 rfl) rfl (by show 2 * 0 + _ ≤ _; exact Nat.le_of_eq rfl) (hb hby di4_45) rfl (by (try dsimp only [room_1]); (try simp only [List.length_cons, List.length_nil]); omega) (by (try dsimp only [room_1]); (try simp only [List.length_cons, List.length_nil]); omega) ?_
  rintro _ T4 L4 X4 ⟨rfl, N4, e4⟩
  show Go p e below _ T4 (mkF m 48 #[.val (.ref x), .val (.ref a), .val (.int (Int32.ofNat 0)), .val (.int (Int32.ofNat cs.length)), .val .null, .val (.ref t)] [(.int (own_cod cs)), (.ref x)])
  have lx := E.lt
  have hcb : narrow .byte (.int (own_cod cs)) = .int (own_cod cs) ∧ fits .byte (.int (own_cod cs)) = true := by unfold own_cod; split <;> exact ⟨rfl, rfl⟩
  have sn := slot_ne (Or.inr (hw _ (List.mem_of_getElem? (i := 27) rfl))) (Or.inr (hw _ (List.mem_of_getElem? (i := 28) rfl))) (by decide) (t := (.array .byte)) (t' := .byte) (by decide) (by decide)
  have sn' := slot_ne (Or.inr (hw _ (List.mem_of_getElem? (i := 28) rfl))) (Or.inr (hw _ (List.mem_of_getElem? (i := 27) rfl))) (by decide) (t := .byte) (t' := (.array .byte)) (by decide) (by decide)
  obtain ⟨T5, h5, X5, e5, W5, st5⟩ := putF X4 hx hZ hown (host := "") (Or.inl (hw _ (List.mem_of_getElem? (i := 32) rfl))) Via.refl e4 (Cc.keep K3 nin0) (E.keep K3) (Or.inr ⟨(hw _ (List.mem_of_getElem? (i := 28) rfl)), rfl, hnm⟩) (hw _ (List.mem_of_getElem? (i := 13) rfl)) (ty := .byte) (by decide) hcb.1 hcb.2 (g := (mkF m 48 #[.val (.ref x), .val (.ref a), .val (.int (Int32.ofNat 0)), .val (.int (Int32.ofNat cs.length)), .val .null, .val (.ref t)] [(.int (own_cod cs)), (.ref x)])) rfl rfl (hb hby di4_48)
  refine Go.st st5 ?_
  show Go p e below _ T5 (mkF m 51 #[.val (.ref x), .val (.ref a), .val (.int (Int32.ofNat 0)), .val (.int (Int32.ofNat cs.length)), .val .null, .val (.ref t)] [])
  refine Go.st (fun _ k => XS.aloadN X5.here hx rfl (hb hby di4_51) rfl rfl k) ?_
  show Go p e below _ T5 (mkF m 52 #[.val (.ref x), .val (.ref a), .val (.int (Int32.ofNat 0)), .val (.int (Int32.ofNat cs.length)), .val .null, .val (.ref t)] [(.ref x)])
  refine Go.st (fun _ k => XS.aload X5.here hx rfl (hb hby di4_52) rfl rfl k) ?_
  show Go p e below _ T5 (mkF m 54 #[.val (.ref x), .val (.ref a), .val (.int (Int32.ofNat 0)), .val (.int (Int32.ofNat cs.length)), .val .null, .val (.ref t)] [(.ref t), (.ref x)])
  obtain ⟨T6, h6, X6, e6, W6, st6⟩ := putF X5 hx hZ hown (host := "") (Or.inl (hw _ (List.mem_of_getElem? (i := 31) rfl))) Via.refl e5 ((V.keep K3 nin0).other W5 (Or.inr sn)) ((E.keep K3).wr W5) (Or.inr ⟨(hw _ (List.mem_of_getElem? (i := 27) rfl)), rfl, hnm⟩) (hw _ (List.mem_of_getElem? (i := 13) rfl)) (ty := (.array .byte)) (by decide) rfl rfl (g := (mkF m 54 #[.val (.ref x), .val (.ref a), .val (.int (Int32.ofNat 0)), .val (.int (Int32.ofNat cs.length)), .val .null, .val (.ref t)] [(.ref t), (.ref x)])) rfl rfl (hb hby di4_54)
  refine Go.st st6 ?_
  show Go p e below _ T6 (mkF m 57 #[.val (.ref x), .val (.ref a), .val (.int (Int32.ofNat 0)), .val (.int (Int32.ofNat cs.length)), .val .null, .val (.ref t)] [])
  have K6 : Keep h0 h6 [x] := ((((Keep.refl h0 [x]).trans K3 (fun _ q => nomatch q))).wr W5 (Or.inl (List.mem_cons_self ..))).wr W6 (Or.inl (List.mem_cons_self ..))
  have hx' : t ≠ x := Nat.ne_of_gt (Nat.lt_of_lt_of_le E.lt ht)
  exact Go.ret0 X6 hx hret hlk (hb hby di4_57) ⟨rfl, Fr.snoc X6 (Fr.snoc X5 (Fr.app (Fr.app (Fr.nil n0) N3) N4) hna) hna, e6 ▸ K6, e6 ▸ ((E.keep K3).wr W5).wr W6, e6 ▸ ((Cc.keep K3 nin0).same W5).other W6 (Or.inr sn'), t, e6 ▸ ((V.keep K3 nin0).other W5 (Or.inr sn)).same W6, e6 ▸ (B3.other W5 hx').other W6 hx', hx'⟩ (by (try dsimp only [room_1]); (try simp only [List.length_cons, List.length_nil]); omega) (by (try dsimp only [room_1]); (try simp only [List.length_cons, List.length_nil]); omega)
theorem di1_0 : decode jdk_42_method_3_code 0 = .ok (.aload_n 0, 1) := by decide +kernel
theorem di1_1 : decode jdk_42_method_3_code 1 = .ok (.aload_n 1, 1) := by decide +kernel
theorem di1_2 : decode jdk_42_method_3_code 2 = .ok (.iconst 0, 1) := by decide +kernel
theorem di1_3 : decode jdk_42_method_3_code 3 = .ok (.aload_n 1, 1) := by decide +kernel
theorem di1_4 : decode jdk_42_method_3_code 4 = .ok (.arraylength, 1) := by decide +kernel
theorem di1_5 : decode jdk_42_method_3_code 5 = .ok (.aconst_null, 1) := by decide +kernel
theorem di1_6 : decode jdk_42_method_3_code 6 = .ok (.invokespecial 27, 3) := by decide +kernel
theorem di1_9 : decode jdk_42_method_3_code 9 = .ok (.return_, 1) := by decide +kernel
set_option maxRecDepth 65536 in
set_option maxHeartbeats 40000000 in
theorem rmI1 (l : Launch) (Z : State) (a0 : Array Value) (hw : ∀ d ∈ tables_1, d.before a0 Z = true) (z : Int32) (Su : Su16 Z z) (cs : List Int32) (hn : cs.length ≤ 4000) (h1 : 0 < cs.length) (hbd : ∀ c ∈ cs, ¬ c < 0 ∧ ¬ (65535 : Int32) < c) (x a : Addr) (v0 c0 : Value) (h0 : Heap) (n0 : Nat) (hna : n0 ≤ x) (hZ0 : n0 ≤ h0.size) (O : Old Z n0 h0) (E : Exa Z h0 x "java/lang/String") (V : Fld Z h0 x "java/lang/String" "value" "[B" v0) (Cc : Fld Z h0 x "java/lang/String" "coder" "B" c0) (A : AI Z h0 a .char cs) :
    Ctr l Z (⟨"java/lang/String", "<init>", "([C)V"⟩ : MethodName) jdk_42_method_3_code 2 none [] ({ frames := 5, cells := 2, slots := 3 * cs.length, locals := 74 } : Room) #[(.ref x), (.ref a)] h0 (QI Z x cs h0 n0) := by
  refine Ctr.of (plainFor_of_name pn_15) ?_
  intro p e s m below meth c s₁ hx hby hml hown hnm hret hlk hZ X0 e0
  refine Go.cast (ef_16 m x a) ?_
  show Go p e below _ s₁ (mkF m 0 #[.val (.ref x), .val (.ref a)] [])
  refine Go.st (fun _ k => XS.aloadN X0.here hx rfl (hb hby di1_0) rfl rfl k) ?_
  show Go p e below _ s₁ (mkF m 1 #[.val (.ref x), .val (.ref a)] [(.ref x)])
  refine Go.st (fun _ k => XS.aloadN X0.here hx rfl (hb hby di1_1) rfl rfl k) ?_
  show Go p e below _ s₁ (mkF m 2 #[.val (.ref x), .val (.ref a)] [(.ref a), (.ref x)])
  refine Go.st (fun _ k => XS.iconst X0.here hx rfl (hb hby di1_2) k) ?_
  show Go p e below _ s₁ (mkF m 3 #[.val (.ref x), .val (.ref a)] [(.int (0 : Int32)), (.ref a), (.ref x)])
  refine Go.st (fun _ k => XS.aloadN X0.here hx rfl (hb hby di1_3) rfl rfl k) ?_
  show Go p e below _ s₁ (mkF m 4 #[.val (.ref x), .val (.ref a)] [(.ref a), (.int (0 : Int32)), (.ref a), (.ref x)])
  refine Go.alen X0 hx hZ e0 A (g := (mkF m 4 #[.val (.ref x), .val (.ref a)] [(.ref a), (.int (0 : Int32)), (.ref a), (.ref x)])) rfl rfl (hb hby di1_4) ?_
  show Go p e below _ s₁ (mkF m 5 #[.val (.ref x), .val (.ref a)] [(.int (Int32.ofNat cs.length)), (.int (0 : Int32)), (.ref a), (.ref x)])
  refine Go.st (fun _ k => XS.aconstNull X0.here hx rfl (hb hby di1_5) k) ?_
  show Go p e below _ s₁ (mkF m 6 #[.val (.ref x), .val (.ref a)] [.null, (.int (Int32.ofNat cs.length)), (.int (0 : Int32)), (.ref a), (.ref x)])
  refine Go.callI X0 hx (y := (⟨"java/lang/String", "<init>", "([CIILjava/lang/Void;)V"⟩ : MethodName)) rfl hown (mvT hZ (hw _ (List.mem_of_getElem? (i := 18) rfl))) (mvT hZ (hw _ (List.mem_of_getElem? (i := 19) rfl))) (mvT hZ (hw _ (List.mem_of_getElem? (i := 21) rfl))) (by decide) (Ctr.back (W := 0) (rmI4 l Z a0 hw z Su cs hn h1 hbd x a v0 c0 h0 n0 hna hZ0 O E V Cc A) hZ (hw _ (List.mem_of_getElem? (i := 21) rfl)) (hw _ (List.mem_of_getElem? (i := 14) rfl)) (by (try dsimp only [room_1]); (try simp only [List.length_cons, List.length_nil]); omega) (by (try dsimp only [room_1]); (try simp only [List.length_cons, List.length_nil]); omega)) e0 (g := (mkF m 6 #[.val (.ref x), .val (.ref a)] [.null, (.int (Int32.ofNat cs.length)), (.int (0 : Int32)), (.ref a), (.ref x)])) rfl (by rw [hml]; rfl) (a := x) (argsL := [(.ref a), (.int (0 : Int32)), (.int (Int32.ofNat cs.length)), .null]) (rest := []) (lenOf pd_17 rfl) rfl (by show 2 * 0 + _ ≤ _; exact Nat.le_of_eq rfl) (hb hby di1_6) rfl (by (try dsimp only [room_1]); (try simp only [List.length_cons, List.length_nil]); omega) (by (try dsimp only [room_1]); (try simp only [List.length_cons, List.length_nil]); omega) ?_
  rintro _ T1 L1 X1 ⟨rfl, N1, R1⟩
  show Go p e below _ T1 (mkF m 9 #[.val (.ref x), .val (.ref a)] [])
  exact Go.ret0 X1 hx hret hlk (hb hby di1_9) ⟨rfl, Fr.app (Fr.nil n0) N1, R1⟩ (by (try dsimp only [room_1]); (try simp only [List.length_cons, List.length_nil]); omega) (by (try dsimp only [room_1]); (try simp only [List.length_cons, List.length_nil]); omega)
theorem own_empty {us : Array UInt16} (h : utf16ToString? us = some "") : own_bytes us = [] := by
  have q := own_units h (by intro c hc; simp at hc)
  have q2 : us.toList = [] := by simpa using q.symm
  unfold own_bytes; rw [q2]; rfl
theorem di4_8 : decode jdk_42_method_149_code 8 = .ok (.aload_n 0, 1) := by decide +kernel
theorem di4_9 : decode jdk_42_method_149_code 9 = .ok (.ldc 7, 2) := by decide +kernel
theorem di4_11 : decode jdk_42_method_149_code 11 = .ok (.getfield 9, 3) := by decide +kernel
theorem di4_14 : decode jdk_42_method_149_code 14 = .ok (.putfield 9, 3) := by decide +kernel
theorem di4_17 : decode jdk_42_method_149_code 17 = .ok (.aload_n 0, 1) := by decide +kernel
theorem di4_18 : decode jdk_42_method_149_code 18 = .ok (.ldc 7, 2) := by decide +kernel
theorem di4_20 : decode jdk_42_method_149_code 20 = .ok (.getfield 15, 3) := by decide +kernel
theorem di4_23 : decode jdk_42_method_149_code 23 = .ok (.putfield 15, 3) := by decide +kernel
theorem di4_26 : decode jdk_42_method_149_code 26 = .ok (.return_, 1) := by decide +kernel
set_option maxRecDepth 65536 in
set_option maxHeartbeats 40000000 in
theorem rmI4e (l : Launch) (Z : State) (a0 : Array Value) (hw : ∀ d ∈ tables_1, d.before a0 Z = true) (N : Nat → Prop) (x a : Addr) (v0 c0 : Value) (h0 : Heap) (n0 : Nat) (hna : n0 ≤ x) (hNx : ¬ N x) (E : Exa Z h0 x "java/lang/String") (V : Fld Z h0 x "java/lang/String" "value" "[B" v0) (Cc : Fld Z h0 x "java/lang/String" "coder" "B" c0) :
    WCtr consts_1 N l Z (⟨"java/lang/String", "<init>", "([CIILjava/lang/Void;)V"⟩ : MethodName) jdk_42_method_149_code 6 none [] ({ frames := 1, cells := 2, slots := 4, locals := 12 } : Room) #[(.ref x), (.ref a), (.int (Int32.ofNat 0)), (.int (Int32.ofNat 0)), .null] h0 (QI Z x [] h0 n0) := by
  refine WCtr.of (plainFor_of_name pn_15) ?_
  intro p e s m below meth c s₁ hx hby hml hown hnm hret hlk hZ X0 e0 hC0
  refine Go.cast (ef_13 m x a (Int32.ofNat 0) (Int32.ofNat 0)) ?_
  show Go p e below _ s₁ (mkF m 0 #[.val (.ref x), .val (.ref a), .val (.int (Int32.ofNat 0)), .val (.int (Int32.ofNat 0)), .val .null, .unset] [])
  refine Go.st (fun _ k => XS.aloadN X0.here hx rfl (hb hby di4_0) rfl rfl k) ?_
  show Go p e below _ s₁ (mkF m 1 #[.val (.ref x), .val (.ref a), .val (.int (Int32.ofNat 0)), .val (.int (Int32.ofNat 0)), .val .null, .unset] [(.ref x)])
  obtain ⟨T1, X1, e1, st1⟩ := initO X0 hx hZ hown (hw _ (List.mem_of_getElem? (i := 22) rfl)) (hw _ (List.mem_of_getElem? (i := 23) rfl)) (hw _ (List.mem_of_getElem? (i := 24) rfl)) e0 (g := (mkF m 1 #[.val (.ref x), .val (.ref a), .val (.int (Int32.ofNat 0)), .val (.int (Int32.ofNat 0)), .val .null, .unset] [(.ref x)])) rfl (by rw [hml]; rfl) rfl (hb hby di4_1) (by (try dsimp only [room_1]); (try simp only [List.length_cons, List.length_nil]); omega) (W := 0) (by show 2 * 0 + _ ≤ _; exact Nat.le_of_eq rfl) (by (try dsimp only [room_1]); (try simp only [List.length_cons, List.length_nil]); omega)
  refine Go.st st1 ?_
  show Go p e below _ T1 (mkF m 4 #[.val (.ref x), .val (.ref a), .val (.int (Int32.ofNat 0)), .val (.int (Int32.ofNat 0)), .val .null, .unset] [])
  refine Go.st (fun _ k => XS.iloadN X1.here hx rfl (hb hby di4_4) rfl k) ?_
  show Go p e below _ T1 (mkF m 5 #[.val (.ref x), .val (.ref a), .val (.int (Int32.ofNat 0)), .val (.int (Int32.ofNat 0)), .val .null, .unset] [(.int (Int32.ofNat 0))])
  refine Go.st (fun _ k => XS.ifNo X1.here hx rfl (hb hby di4_5) rfl (XT.i0_ne_f rfl) k) ?_
  show Go p e below _ T1 (mkF m 8 #[.val (.ref x), .val (.ref a), .val (.int (Int32.ofNat 0)), .val (.int (Int32.ofNat 0)), .val .null, .unset] [])
  refine Go.st (fun _ k => XS.aloadN X1.here hx rfl (hb hby di4_8) rfl rfl k) ?_
  show Go p e below _ T1 (mkF m 9 #[.val (.ref x), .val (.ref a), .val (.int (Int32.ofNat 0)), .val (.int (Int32.ofNat 0)), .val .null, .unset] [(.ref x)])
  have wS : ∀ d ∈ Bundle.stringAtoms, d.before a0 Z = true := fun d hd => hw d ((by decide +kernel : ∀ d ∈ Bundle.stringAtoms, d ∈ tables_1) d hd)
  refine Go.ldcW X1 hx (Bas.refl s 0) (Nat.zero_le _) hZ hown (hw _ (List.mem_of_getElem? (i := 25) rfl)) wS (by intro c hc; simp at hc) hC0 (by rw [e1]; exact Und.refl N h0) (by simp [consts_1]) (fun _ q => nomatch q) (g := (mkF m 9 #[.val (.ref x), .val (.ref a), .val (.int (Int32.ofNat 0)), .val (.int (Int32.ofNat 0)), .val .null, .unset] [(.ref x)])) rfl (hb hby di4_9) (nn := 0) (by decide) (by decide) (by (try dsimp only [room_1]); (try simp only [List.length_cons, List.length_nil]); omega) (by (try dsimp only [room_1]); (try simp only [List.length_cons, List.length_nil]); omega) ?_
  rintro a1 v1 s2 T2 units locs2 hun hB2 hZ2 hown2 hC2 E2 hsh hloc X2 hres F1 F2 F3 F4 hpl
  obtain rfl : locs2 = [] := List.eq_nil_iff_forall_not_mem.mpr (fun y hy => nomatch hloc y hy)
  rw [own_empty hun] at F4
  have E2' : Ext h0 T2.heap := e1 ▸ E2
  have lx : x < T1.heap.size := e1 ▸ E.lt
  have hax : a1 ≠ x := by
      rcases hpl with ⟨q, -⟩ | ⟨q, -⟩
      · exact fun z => hNx (z ▸ q)
      · exact Nat.ne_of_gt (Nat.lt_of_lt_of_le lx q)
  have hvx : v1 ≠ x := by
      rcases hpl with ⟨-, q⟩ | ⟨-, q⟩
      · exact fun z => hNx (z ▸ q)
      · exact Nat.ne_of_gt (Nat.lt_of_lt_of_le lx q)
  show Go p e below _ T2 (mkF m 11 #[.val (.ref x), .val (.ref a), .val (.int (Int32.ofNat 0)), .val (.int (Int32.ofNat 0)), .val .null, .unset] [(.ref a1), (.ref x)])
  obtain ⟨T3, X3, e3, st3⟩ := getF X2 hx hZ2 hown2 (host := "") (Or.inl (hw _ (List.mem_of_getElem? (i := 31) rfl))) Via.refl rfl F2 (g := (mkF m 11 #[.val (.ref x), .val (.ref a), .val (.int (Int32.ofNat 0)), .val (.int (Int32.ofNat 0)), .val .null, .unset] [(.ref a1), (.ref x)])) rfl rfl (hb hby di4_11)
  refine Go.st st3 ?_
  show Go p e below _ T3 (mkF m 14 #[.val (.ref x), .val (.ref a), .val (.int (Int32.ofNat 0)), .val (.int (Int32.ofNat 0)), .val .null, .unset] [(.ref v1), (.ref x)])
  have sn := slot_ne (Or.inr (hw _ (List.mem_of_getElem? (i := 27) rfl))) (Or.inr (hw _ (List.mem_of_getElem? (i := 28) rfl))) (by decide) (t := (.array .byte)) (t' := .byte) (by decide) (by decide)
  have sn' := slot_ne (Or.inr (hw _ (List.mem_of_getElem? (i := 28) rfl))) (Or.inr (hw _ (List.mem_of_getElem? (i := 27) rfl))) (by decide) (t := .byte) (t' := (.array .byte)) (by decide) (by decide)
  obtain ⟨T5, h5, X5, e5, W5, st5⟩ := putF X3 hx hZ2 hown2 (host := "") (Or.inl (hw _ (List.mem_of_getElem? (i := 31) rfl))) Via.refl e3 (V.ext E2') (E.ext E2') (Or.inr ⟨(hw _ (List.mem_of_getElem? (i := 27) rfl)), rfl, hnm⟩) (hw _ (List.mem_of_getElem? (i := 13) rfl)) (ty := (.array .byte)) (by decide) rfl rfl (g := (mkF m 14 #[.val (.ref x), .val (.ref a), .val (.int (Int32.ofNat 0)), .val (.int (Int32.ofNat 0)), .val .null, .unset] [(.ref v1), (.ref x)])) rfl rfl (hb hby di4_14)
  refine Go.st st5 ?_
  show Go p e below _ T5 (mkF m 17 #[.val (.ref x), .val (.ref a), .val (.int (Int32.ofNat 0)), .val (.int (Int32.ofNat 0)), .val .null, .unset] [])
  refine Go.st (fun _ k => XS.aloadN X5.here hx rfl (hb hby di4_17) rfl rfl k) ?_
  show Go p e below _ T5 (mkF m 18 #[.val (.ref x), .val (.ref a), .val (.int (Int32.ofNat 0)), .val (.int (Int32.ofNat 0)), .val .null, .unset] [(.ref x)])
  refine Go.ldcR X5 hx hZ2 hown2 (hw _ (List.mem_of_getElem? (i := 25) rfl)) hres (g := (mkF m 18 #[.val (.ref x), .val (.ref a), .val (.int (Int32.ofNat 0)), .val (.int (Int32.ofNat 0)), .val .null, .unset] [(.ref x)])) rfl (hb hby di4_18) ?_
  show Go p e below _ T5 (mkF m 20 #[.val (.ref x), .val (.ref a), .val (.int (Int32.ofNat 0)), .val (.int (Int32.ofNat 0)), .val .null, .unset] [(.ref a1), (.ref x)])
  obtain ⟨T6, X6, e6, st6⟩ := getF X5 hx hZ2 hown2 (host := "") (Or.inl (hw _ (List.mem_of_getElem? (i := 32) rfl))) Via.refl e5 (F3.other W5 (Or.inl hax)) (g := (mkF m 20 #[.val (.ref x), .val (.ref a), .val (.int (Int32.ofNat 0)), .val (.int (Int32.ofNat 0)), .val .null, .unset] [(.ref a1), (.ref x)])) rfl rfl (hb hby di4_20)
  refine Go.st st6 ?_
  show Go p e below _ T6 (mkF m 23 #[.val (.ref x), .val (.ref a), .val (.int (Int32.ofNat 0)), .val (.int (Int32.ofNat 0)), .val .null, .unset] [(.int (0 : Int32)), (.ref x)])
  obtain ⟨T7, h7, X7, e7, W7, st7⟩ := putF X6 hx hZ2 hown2 (host := "") (Or.inl (hw _ (List.mem_of_getElem? (i := 32) rfl))) Via.refl e6 ((Cc.ext E2').other W5 (Or.inr sn')) ((E.ext E2').wr W5) (Or.inr ⟨(hw _ (List.mem_of_getElem? (i := 28) rfl)), rfl, hnm⟩) (hw _ (List.mem_of_getElem? (i := 13) rfl)) (ty := .byte) (by decide) rfl rfl (g := (mkF m 23 #[.val (.ref x), .val (.ref a), .val (.int (Int32.ofNat 0)), .val (.int (Int32.ofNat 0)), .val .null, .unset] [(.int (0 : Int32)), (.ref x)])) rfl rfl (hb hby di4_23)
  refine Go.st st7 ?_
  show Go p e below _ T7 (mkF m 26 #[.val (.ref x), .val (.ref a), .val (.int (Int32.ofNat 0)), .val (.int (Int32.ofNat 0)), .val .null, .unset] [])
  have K7 : Keep h0 h7 [x] := (((Keep.refl h0 [x]).ext E2').wr W5 (Or.inl (List.mem_cons_self ..))).wr W7 (Or.inl (List.mem_cons_self ..))
  have hq : ¬ (N x ∨ T1.heap.size ≤ x) := fun z => z.elim hNx (Nat.not_le.mpr lx)
  have U7 : Und (fun b => N b ∨ T1.heap.size ≤ b) T2.heap T7.heap := e7 ▸ (((Und.refl _ T2.heap).wr W5 hq).wr W7 hq)
  exact Go.ret0W X7 hx hB2 U7.1 hC2 U7 hret hlk (hb hby di4_26) ⟨rfl, Fr.snoc X7 (Fr.snoc X5 (Fr.nil n0) hna) hna, e7 ▸ K7, e7 ▸ ((E.ext E2').wr W5).wr W7, e7 ▸ ((Cc.ext E2').other W5 (Or.inr sn')).same W7, v1, e7 ▸ ((V.ext E2').same W5).other W7 (Or.inr sn), e7 ▸ (F4.other W5 hvx).other W7 hvx, hvx⟩ (by (try dsimp only [room_1]); (try simp only [List.length_cons, List.length_nil]); omega) (by (try dsimp only [room_1]); (try simp only [List.length_cons, List.length_nil]); omega)
set_option maxRecDepth 65536 in
set_option maxHeartbeats 40000000 in
theorem rmI1e (l : Launch) (Z : State) (a0 : Array Value) (hw : ∀ d ∈ tables_1, d.before a0 Z = true) (N : Nat → Prop) (x a : Addr) (v0 c0 : Value) (h0 : Heap) (n0 : Nat) (hna : n0 ≤ x) (hNx : ¬ N x) (E : Exa Z h0 x "java/lang/String") (V : Fld Z h0 x "java/lang/String" "value" "[B" v0) (Cc : Fld Z h0 x "java/lang/String" "coder" "B" c0) (A : AI Z h0 a .char []) :
    WCtr consts_1 N l Z (⟨"java/lang/String", "<init>", "([C)V"⟩ : MethodName) jdk_42_method_3_code 2 none [] ({ frames := 2, cells := 2, slots := 4, locals := 29 } : Room) #[(.ref x), (.ref a)] h0 (QI Z x [] h0 n0) := by
  refine WCtr.of (plainFor_of_name pn_15) ?_
  intro p e s m below meth c s₁ hx hby hml hown hnm hret hlk hZ X0 e0 hC0
  refine Go.cast (ef_16 m x a) ?_
  show Go p e below _ s₁ (mkF m 0 #[.val (.ref x), .val (.ref a)] [])
  refine Go.st (fun _ k => XS.aloadN X0.here hx rfl (hb hby di1_0) rfl rfl k) ?_
  show Go p e below _ s₁ (mkF m 1 #[.val (.ref x), .val (.ref a)] [(.ref x)])
  refine Go.st (fun _ k => XS.aloadN X0.here hx rfl (hb hby di1_1) rfl rfl k) ?_
  show Go p e below _ s₁ (mkF m 2 #[.val (.ref x), .val (.ref a)] [(.ref a), (.ref x)])
  refine Go.st (fun _ k => XS.iconst X0.here hx rfl (hb hby di1_2) k) ?_
  show Go p e below _ s₁ (mkF m 3 #[.val (.ref x), .val (.ref a)] [(.int (0 : Int32)), (.ref a), (.ref x)])
  refine Go.st (fun _ k => XS.aloadN X0.here hx rfl (hb hby di1_3) rfl rfl k) ?_
  show Go p e below _ s₁ (mkF m 4 #[.val (.ref x), .val (.ref a)] [(.ref a), (.int (0 : Int32)), (.ref a), (.ref x)])
  refine Go.alen X0 hx hZ e0 A (g := (mkF m 4 #[.val (.ref x), .val (.ref a)] [(.ref a), (.int (0 : Int32)), (.ref a), (.ref x)])) rfl rfl (hb hby di1_4) ?_
  show Go p e below _ s₁ (mkF m 5 #[.val (.ref x), .val (.ref a)] [(.int (Int32.ofNat 0)), (.int (0 : Int32)), (.ref a), (.ref x)])
  refine Go.st (fun _ k => XS.aconstNull X0.here hx rfl (hb hby di1_5) k) ?_
  show Go p e below _ s₁ (mkF m 6 #[.val (.ref x), .val (.ref a)] [.null, (.int (Int32.ofNat 0)), (.int (0 : Int32)), (.ref a), (.ref x)])
  refine Go.callIW X0 hx (Bas.refl s 0) (Nat.zero_le _) hZ (y := (⟨"java/lang/String", "<init>", "([CIILjava/lang/Void;)V"⟩ : MethodName)) rfl hown (mvT hZ (hw _ (List.mem_of_getElem? (i := 18) rfl))) (mvT hZ (hw _ (List.mem_of_getElem? (i := 19) rfl))) (mvT hZ (hw _ (List.mem_of_getElem? (i := 21) rfl))) (by decide) (Wt := 0) (rmI4e l Z a0 hw N x a v0 c0 h0 n0 hna hNx E V Cc) (hw _ (List.mem_of_getElem? (i := 21) rfl)) (hw _ (List.mem_of_getElem? (i := 14) rfl)) (by (try dsimp only [room_1]); (try simp only [List.length_cons, List.length_nil]); omega) (by (try dsimp only [room_1]); (try simp only [List.length_cons, List.length_nil]); omega) e0 hC0 (by rw [e0]; exact Und.refl N h0) (g := (mkF m 6 #[.val (.ref x), .val (.ref a)] [.null, (.int (Int32.ofNat 0)), (.int (0 : Int32)), (.ref a), (.ref x)])) rfl (by rw [hml]; rfl) (a := x) (argsL := [(.ref a), (.int (0 : Int32)), (.int (Int32.ofNat 0)), .null]) (rest := []) (lenOf pd_17 rfl) rfl (by show 2 * 0 + _ ≤ _; exact Nat.le_of_eq rfl) (hb hby di1_6) rfl (by (try dsimp only [room_1]); (try simp only [List.length_cons, List.length_nil]); omega) (by (try dsimp only [room_1]); (try simp only [List.length_cons, List.length_nil]); omega) ?_
  rintro _ s1 T1 L1 hB1 hZ1 hown1 hC1 hsz1 X1 ⟨rfl, N1, R1⟩
  show Go p e below _ T1 (mkF m 9 #[.val (.ref x), .val (.ref a)] [])
  exact Go.ret0W X1 hx hB1 (Nat.le_refl _) hC1 (Und.refl _ _) hret hlk (hb hby di1_9) ⟨rfl, Fr.app (Fr.nil n0) N1, R1⟩ (by (try dsimp only [room_1]); (try simp only [List.length_cons, List.length_nil]); omega) (by (try dsimp only [room_1]); (try simp only [List.length_cons, List.length_nil]); omega)
theorem own_char_rng (y : Int32) : ¬ nar .char y < 0 ∧ ¬ (65535 : Int32) < nar .char y := by
  have key : (nar .char y).toInt = (y.toUInt32.toUInt16.toNat : Int) := by
    show (y.toUInt32.toUInt16.toUInt32.toInt32).toBitVec.toInt = _
    have hu := y.toUInt32.toUInt16.toNat_lt
    have hm : (y.toUInt32.toUInt16.toUInt32.toInt32).toBitVec.toNat = y.toUInt32.toUInt16.toNat := by
      show (y.toUInt32.toUInt16.toUInt32).toNat = _
      simp
    rw [BitVec.toInt_eq_toNat_cond, hm]
    split <;> omega
  have hu := y.toUInt32.toUInt16.toNat_lt
  have e1 : (65535 : Int32).toInt = 65535 := rfl
  have e2 : (0 : Int32).toInt = 0 := rfl
  rw [Int32.lt_iff_toInt_lt, Int32.lt_iff_toInt_lt, key, e1, e2]
  omega
theorem own_nar_c {c : Int32} (h : ¬ c < 0 ∧ ¬ (65535 : Int32) < c) : nar .char c = c := own_char c h.1 h.2
/-- each a char -/
def CB (n : Nat) (cs : List Int32) : Prop := cs.length = n ∧ ∀ c ∈ cs, ¬ c < 0 ∧ ¬ (65535 : Int32) < c
theorem CB.set {n : Nat} {cs : List Int32} (H : CB n cs) (i : Nat) (y : Int32) : CB n (cs.set i (nar .char y)) := ⟨by rw [List.length_set]; exact H.1, fun c hc => by
  rcases List.mem_or_eq_of_mem_set hc with h | h
  · exact H.2 c h
  · rw [h]; exact own_char_rng y⟩
theorem CB.rep (n : Nat) : CB n (List.replicate n 0) := ⟨by simp, fun c hc => by rw [List.eq_of_mem_replicate hc]; decide⟩
theorem Fr.le {k k' : Nat} {L : List Loc} (N : Fr k L) (q : k' ≤ k) : Fr k' L := fun y hy => Nat.le_trans q (N y hy)
def QS_rmTX (Z : State) (ds : List Int32) (h0 : Heap) (n0 : Nat) (v : Option Value) (h : Heap) (L : List Loc) : Prop := ∃ a t, v = some (.ref a) ∧ Fr n0 L ∧ Keep h0 h [] ∧ Exa Z h a "java/lang/String" ∧ Fld Z h a "java/lang/String" "coder" "B" (.int (own_cod ds)) ∧ Fld Z h a "java/lang/String" "value" "[B" (.ref t) ∧ AI Z h t .byte (own_val ds)
theorem dtx_0 : decode method_6_code 0 = .ok (.iload_n 0, 1) := by decide +kernel
theorem dtx_1 : decode method_6_code 1 = .ok (.ifCond .ne 14, 3) := by decide +kernel
theorem dtx_4 : decode method_6_code 4 = .ok (.new 49, 3) := by decide +kernel
theorem dtx_7 : decode method_6_code 7 = .ok (.dup, 1) := by decide +kernel
theorem dtx_8 : decode method_6_code 8 = .ok (.iconst 0, 1) := by decide +kernel
theorem dtx_9 : decode method_6_code 9 = .ok (.newarray .char, 2) := by decide +kernel
theorem dtx_11 : decode method_6_code 11 = .ok (.invokespecial 51, 3) := by decide +kernel
theorem dtx_14 : decode method_6_code 14 = .ok (.areturn, 1) := by decide +kernel
theorem dtx_15 : decode method_6_code 15 = .ok (.iload_n 0, 1) := by decide +kernel
theorem dtx_16 : decode method_6_code 16 = .ok (.iconst 1, 1) := by decide +kernel
theorem dtx_17 : decode method_6_code 17 = .ok (.if_icmp .ne 20, 3) := by decide +kernel
theorem dtx_20 : decode method_6_code 20 = .ok (.new 49, 3) := by decide +kernel
theorem dtx_23 : decode method_6_code 23 = .ok (.dup, 1) := by decide +kernel
theorem dtx_24 : decode method_6_code 24 = .ok (.iconst 1, 1) := by decide +kernel
theorem dtx_25 : decode method_6_code 25 = .ok (.newarray .char, 2) := by decide +kernel
theorem dtx_27 : decode method_6_code 27 = .ok (.dup, 1) := by decide +kernel
theorem dtx_28 : decode method_6_code 28 = .ok (.iconst 0, 1) := by decide +kernel
theorem dtx_29 : decode method_6_code 29 = .ok (.aload_n 1, 1) := by decide +kernel
theorem dtx_30 : decode method_6_code 30 = .ok (.iconst 0, 1) := by decide +kernel
theorem dtx_31 : decode method_6_code 31 = .ok (.caload, 1) := by decide +kernel
theorem dtx_32 : decode method_6_code 32 = .ok (.castore, 1) := by decide +kernel
theorem dtx_33 : decode method_6_code 33 = .ok (.invokespecial 51, 3) := by decide +kernel
theorem dtx_36 : decode method_6_code 36 = .ok (.areturn, 1) := by decide +kernel
theorem dtx_37 : decode method_6_code 37 = .ok (.iload_n 0, 1) := by decide +kernel
theorem dtx_38 : decode method_6_code 38 = .ok (.iconst 2, 1) := by decide +kernel
theorem dtx_39 : decode method_6_code 39 = .ok (.if_icmp .ne 26, 3) := by decide +kernel
theorem dtx_42 : decode method_6_code 42 = .ok (.new 49, 3) := by decide +kernel
theorem dtx_45 : decode method_6_code 45 = .ok (.dup, 1) := by decide +kernel
theorem dtx_46 : decode method_6_code 46 = .ok (.iconst 2, 1) := by decide +kernel
theorem dtx_47 : decode method_6_code 47 = .ok (.newarray .char, 2) := by decide +kernel
theorem dtx_49 : decode method_6_code 49 = .ok (.dup, 1) := by decide +kernel
theorem dtx_50 : decode method_6_code 50 = .ok (.iconst 0, 1) := by decide +kernel
theorem dtx_51 : decode method_6_code 51 = .ok (.aload_n 1, 1) := by decide +kernel
theorem dtx_52 : decode method_6_code 52 = .ok (.iconst 0, 1) := by decide +kernel
theorem dtx_53 : decode method_6_code 53 = .ok (.caload, 1) := by decide +kernel
theorem dtx_54 : decode method_6_code 54 = .ok (.castore, 1) := by decide +kernel
theorem dtx_55 : decode method_6_code 55 = .ok (.dup, 1) := by decide +kernel
theorem dtx_56 : decode method_6_code 56 = .ok (.iconst 1, 1) := by decide +kernel
theorem dtx_57 : decode method_6_code 57 = .ok (.aload_n 1, 1) := by decide +kernel
theorem dtx_58 : decode method_6_code 58 = .ok (.iconst 1, 1) := by decide +kernel
theorem dtx_59 : decode method_6_code 59 = .ok (.caload, 1) := by decide +kernel
theorem dtx_60 : decode method_6_code 60 = .ok (.castore, 1) := by decide +kernel
theorem dtx_61 : decode method_6_code 61 = .ok (.invokespecial 51, 3) := by decide +kernel
theorem dtx_64 : decode method_6_code 64 = .ok (.areturn, 1) := by decide +kernel
theorem dtx_65 : decode method_6_code 65 = .ok (.iload_n 0, 1) := by decide +kernel
theorem dtx_66 : decode method_6_code 66 = .ok (.iconst 3, 1) := by decide +kernel
theorem dtx_67 : decode method_6_code 67 = .ok (.if_icmp .ne 32, 3) := by decide +kernel
theorem dtx_70 : decode method_6_code 70 = .ok (.new 49, 3) := by decide +kernel
theorem dtx_73 : decode method_6_code 73 = .ok (.dup, 1) := by decide +kernel
theorem dtx_74 : decode method_6_code 74 = .ok (.iconst 3, 1) := by decide +kernel
theorem dtx_75 : decode method_6_code 75 = .ok (.newarray .char, 2) := by decide +kernel
theorem dtx_77 : decode method_6_code 77 = .ok (.dup, 1) := by decide +kernel
theorem dtx_78 : decode method_6_code 78 = .ok (.iconst 0, 1) := by decide +kernel
theorem dtx_79 : decode method_6_code 79 = .ok (.aload_n 1, 1) := by decide +kernel
theorem dtx_80 : decode method_6_code 80 = .ok (.iconst 0, 1) := by decide +kernel
theorem dtx_81 : decode method_6_code 81 = .ok (.caload, 1) := by decide +kernel
theorem dtx_82 : decode method_6_code 82 = .ok (.castore, 1) := by decide +kernel
theorem dtx_83 : decode method_6_code 83 = .ok (.dup, 1) := by decide +kernel
theorem dtx_84 : decode method_6_code 84 = .ok (.iconst 1, 1) := by decide +kernel
theorem dtx_85 : decode method_6_code 85 = .ok (.aload_n 1, 1) := by decide +kernel
theorem dtx_86 : decode method_6_code 86 = .ok (.iconst 1, 1) := by decide +kernel
theorem dtx_87 : decode method_6_code 87 = .ok (.caload, 1) := by decide +kernel
theorem dtx_88 : decode method_6_code 88 = .ok (.castore, 1) := by decide +kernel
theorem dtx_89 : decode method_6_code 89 = .ok (.dup, 1) := by decide +kernel
theorem dtx_90 : decode method_6_code 90 = .ok (.iconst 2, 1) := by decide +kernel
theorem dtx_91 : decode method_6_code 91 = .ok (.aload_n 1, 1) := by decide +kernel
theorem dtx_92 : decode method_6_code 92 = .ok (.iconst 2, 1) := by decide +kernel
theorem dtx_93 : decode method_6_code 93 = .ok (.caload, 1) := by decide +kernel
theorem dtx_94 : decode method_6_code 94 = .ok (.castore, 1) := by decide +kernel
theorem dtx_95 : decode method_6_code 95 = .ok (.invokespecial 51, 3) := by decide +kernel
theorem dtx_98 : decode method_6_code 98 = .ok (.areturn, 1) := by decide +kernel
theorem dtx_99 : decode method_6_code 99 = .ok (.iload_n 0, 1) := by decide +kernel
theorem dtx_100 : decode method_6_code 100 = .ok (.iconst 4, 1) := by decide +kernel
theorem dtx_101 : decode method_6_code 101 = .ok (.if_icmp .ne 38, 3) := by decide +kernel
theorem dtx_104 : decode method_6_code 104 = .ok (.new 49, 3) := by decide +kernel
theorem dtx_107 : decode method_6_code 107 = .ok (.dup, 1) := by decide +kernel
theorem dtx_108 : decode method_6_code 108 = .ok (.iconst 4, 1) := by decide +kernel
theorem dtx_109 : decode method_6_code 109 = .ok (.newarray .char, 2) := by decide +kernel
theorem dtx_111 : decode method_6_code 111 = .ok (.dup, 1) := by decide +kernel
theorem dtx_112 : decode method_6_code 112 = .ok (.iconst 0, 1) := by decide +kernel
theorem dtx_113 : decode method_6_code 113 = .ok (.aload_n 1, 1) := by decide +kernel
theorem dtx_114 : decode method_6_code 114 = .ok (.iconst 0, 1) := by decide +kernel
theorem dtx_115 : decode method_6_code 115 = .ok (.caload, 1) := by decide +kernel
theorem dtx_116 : decode method_6_code 116 = .ok (.castore, 1) := by decide +kernel
theorem dtx_117 : decode method_6_code 117 = .ok (.dup, 1) := by decide +kernel
theorem dtx_118 : decode method_6_code 118 = .ok (.iconst 1, 1) := by decide +kernel
theorem dtx_119 : decode method_6_code 119 = .ok (.aload_n 1, 1) := by decide +kernel
theorem dtx_120 : decode method_6_code 120 = .ok (.iconst 1, 1) := by decide +kernel
theorem dtx_121 : decode method_6_code 121 = .ok (.caload, 1) := by decide +kernel
theorem dtx_122 : decode method_6_code 122 = .ok (.castore, 1) := by decide +kernel
theorem dtx_123 : decode method_6_code 123 = .ok (.dup, 1) := by decide +kernel
theorem dtx_124 : decode method_6_code 124 = .ok (.iconst 2, 1) := by decide +kernel
theorem dtx_125 : decode method_6_code 125 = .ok (.aload_n 1, 1) := by decide +kernel
theorem dtx_126 : decode method_6_code 126 = .ok (.iconst 2, 1) := by decide +kernel
theorem dtx_127 : decode method_6_code 127 = .ok (.caload, 1) := by decide +kernel
theorem dtx_128 : decode method_6_code 128 = .ok (.castore, 1) := by decide +kernel
theorem dtx_129 : decode method_6_code 129 = .ok (.dup, 1) := by decide +kernel
theorem dtx_130 : decode method_6_code 130 = .ok (.iconst 3, 1) := by decide +kernel
theorem dtx_131 : decode method_6_code 131 = .ok (.aload_n 1, 1) := by decide +kernel
theorem dtx_132 : decode method_6_code 132 = .ok (.iconst 3, 1) := by decide +kernel
theorem dtx_133 : decode method_6_code 133 = .ok (.caload, 1) := by decide +kernel
theorem dtx_134 : decode method_6_code 134 = .ok (.castore, 1) := by decide +kernel
theorem dtx_135 : decode method_6_code 135 = .ok (.invokespecial 51, 3) := by decide +kernel
theorem dtx_138 : decode method_6_code 138 = .ok (.areturn, 1) := by decide +kernel
theorem dtx_139 : decode method_6_code 139 = .ok (.iload_n 0, 1) := by decide +kernel
theorem dtx_140 : decode method_6_code 140 = .ok (.iconst 5, 1) := by decide +kernel
theorem dtx_141 : decode method_6_code 141 = .ok (.if_icmp .ne 44, 3) := by decide +kernel
theorem dtx_144 : decode method_6_code 144 = .ok (.new 49, 3) := by decide +kernel
theorem dtx_147 : decode method_6_code 147 = .ok (.dup, 1) := by decide +kernel
theorem dtx_148 : decode method_6_code 148 = .ok (.iconst 5, 1) := by decide +kernel
theorem dtx_149 : decode method_6_code 149 = .ok (.newarray .char, 2) := by decide +kernel
theorem dtx_151 : decode method_6_code 151 = .ok (.dup, 1) := by decide +kernel
theorem dtx_152 : decode method_6_code 152 = .ok (.iconst 0, 1) := by decide +kernel
theorem dtx_153 : decode method_6_code 153 = .ok (.aload_n 1, 1) := by decide +kernel
theorem dtx_154 : decode method_6_code 154 = .ok (.iconst 0, 1) := by decide +kernel
theorem dtx_155 : decode method_6_code 155 = .ok (.caload, 1) := by decide +kernel
theorem dtx_156 : decode method_6_code 156 = .ok (.castore, 1) := by decide +kernel
theorem dtx_157 : decode method_6_code 157 = .ok (.dup, 1) := by decide +kernel
theorem dtx_158 : decode method_6_code 158 = .ok (.iconst 1, 1) := by decide +kernel
theorem dtx_159 : decode method_6_code 159 = .ok (.aload_n 1, 1) := by decide +kernel
theorem dtx_160 : decode method_6_code 160 = .ok (.iconst 1, 1) := by decide +kernel
theorem dtx_161 : decode method_6_code 161 = .ok (.caload, 1) := by decide +kernel
theorem dtx_162 : decode method_6_code 162 = .ok (.castore, 1) := by decide +kernel
theorem dtx_163 : decode method_6_code 163 = .ok (.dup, 1) := by decide +kernel
theorem dtx_164 : decode method_6_code 164 = .ok (.iconst 2, 1) := by decide +kernel
theorem dtx_165 : decode method_6_code 165 = .ok (.aload_n 1, 1) := by decide +kernel
theorem dtx_166 : decode method_6_code 166 = .ok (.iconst 2, 1) := by decide +kernel
theorem dtx_167 : decode method_6_code 167 = .ok (.caload, 1) := by decide +kernel
theorem dtx_168 : decode method_6_code 168 = .ok (.castore, 1) := by decide +kernel
theorem dtx_169 : decode method_6_code 169 = .ok (.dup, 1) := by decide +kernel
theorem dtx_170 : decode method_6_code 170 = .ok (.iconst 3, 1) := by decide +kernel
theorem dtx_171 : decode method_6_code 171 = .ok (.aload_n 1, 1) := by decide +kernel
theorem dtx_172 : decode method_6_code 172 = .ok (.iconst 3, 1) := by decide +kernel
theorem dtx_173 : decode method_6_code 173 = .ok (.caload, 1) := by decide +kernel
theorem dtx_174 : decode method_6_code 174 = .ok (.castore, 1) := by decide +kernel
theorem dtx_175 : decode method_6_code 175 = .ok (.dup, 1) := by decide +kernel
theorem dtx_176 : decode method_6_code 176 = .ok (.iconst 4, 1) := by decide +kernel
theorem dtx_177 : decode method_6_code 177 = .ok (.aload_n 1, 1) := by decide +kernel
theorem dtx_178 : decode method_6_code 178 = .ok (.iconst 4, 1) := by decide +kernel
theorem dtx_179 : decode method_6_code 179 = .ok (.caload, 1) := by decide +kernel
theorem dtx_180 : decode method_6_code 180 = .ok (.castore, 1) := by decide +kernel
theorem dtx_181 : decode method_6_code 181 = .ok (.invokespecial 51, 3) := by decide +kernel
theorem dtx_184 : decode method_6_code 184 = .ok (.areturn, 1) := by decide +kernel
theorem dtx_185 : decode method_6_code 185 = .ok (.iload_n 0, 1) := by decide +kernel
theorem dtx_186 : decode method_6_code 186 = .ok (.bipush 6, 2) := by decide +kernel
theorem dtx_188 : decode method_6_code 188 = .ok (.if_icmp .ne 51, 3) := by decide +kernel
theorem dtx_191 : decode method_6_code 191 = .ok (.new 49, 3) := by decide +kernel
theorem dtx_194 : decode method_6_code 194 = .ok (.dup, 1) := by decide +kernel
theorem dtx_195 : decode method_6_code 195 = .ok (.bipush 6, 2) := by decide +kernel
theorem dtx_197 : decode method_6_code 197 = .ok (.newarray .char, 2) := by decide +kernel
theorem dtx_199 : decode method_6_code 199 = .ok (.dup, 1) := by decide +kernel
theorem dtx_200 : decode method_6_code 200 = .ok (.iconst 0, 1) := by decide +kernel
theorem dtx_201 : decode method_6_code 201 = .ok (.aload_n 1, 1) := by decide +kernel
theorem dtx_202 : decode method_6_code 202 = .ok (.iconst 0, 1) := by decide +kernel
theorem dtx_203 : decode method_6_code 203 = .ok (.caload, 1) := by decide +kernel
theorem dtx_204 : decode method_6_code 204 = .ok (.castore, 1) := by decide +kernel
theorem dtx_205 : decode method_6_code 205 = .ok (.dup, 1) := by decide +kernel
theorem dtx_206 : decode method_6_code 206 = .ok (.iconst 1, 1) := by decide +kernel
theorem dtx_207 : decode method_6_code 207 = .ok (.aload_n 1, 1) := by decide +kernel
theorem dtx_208 : decode method_6_code 208 = .ok (.iconst 1, 1) := by decide +kernel
theorem dtx_209 : decode method_6_code 209 = .ok (.caload, 1) := by decide +kernel
theorem dtx_210 : decode method_6_code 210 = .ok (.castore, 1) := by decide +kernel
theorem dtx_211 : decode method_6_code 211 = .ok (.dup, 1) := by decide +kernel
theorem dtx_212 : decode method_6_code 212 = .ok (.iconst 2, 1) := by decide +kernel
theorem dtx_213 : decode method_6_code 213 = .ok (.aload_n 1, 1) := by decide +kernel
theorem dtx_214 : decode method_6_code 214 = .ok (.iconst 2, 1) := by decide +kernel
theorem dtx_215 : decode method_6_code 215 = .ok (.caload, 1) := by decide +kernel
theorem dtx_216 : decode method_6_code 216 = .ok (.castore, 1) := by decide +kernel
theorem dtx_217 : decode method_6_code 217 = .ok (.dup, 1) := by decide +kernel
theorem dtx_218 : decode method_6_code 218 = .ok (.iconst 3, 1) := by decide +kernel
theorem dtx_219 : decode method_6_code 219 = .ok (.aload_n 1, 1) := by decide +kernel
theorem dtx_220 : decode method_6_code 220 = .ok (.iconst 3, 1) := by decide +kernel
theorem dtx_221 : decode method_6_code 221 = .ok (.caload, 1) := by decide +kernel
theorem dtx_222 : decode method_6_code 222 = .ok (.castore, 1) := by decide +kernel
theorem dtx_223 : decode method_6_code 223 = .ok (.dup, 1) := by decide +kernel
theorem dtx_224 : decode method_6_code 224 = .ok (.iconst 4, 1) := by decide +kernel
theorem dtx_225 : decode method_6_code 225 = .ok (.aload_n 1, 1) := by decide +kernel
theorem dtx_226 : decode method_6_code 226 = .ok (.iconst 4, 1) := by decide +kernel
theorem dtx_227 : decode method_6_code 227 = .ok (.caload, 1) := by decide +kernel
theorem dtx_228 : decode method_6_code 228 = .ok (.castore, 1) := by decide +kernel
theorem dtx_229 : decode method_6_code 229 = .ok (.dup, 1) := by decide +kernel
theorem dtx_230 : decode method_6_code 230 = .ok (.iconst 5, 1) := by decide +kernel
theorem dtx_231 : decode method_6_code 231 = .ok (.aload_n 1, 1) := by decide +kernel
theorem dtx_232 : decode method_6_code 232 = .ok (.iconst 5, 1) := by decide +kernel
theorem dtx_233 : decode method_6_code 233 = .ok (.caload, 1) := by decide +kernel
theorem dtx_234 : decode method_6_code 234 = .ok (.castore, 1) := by decide +kernel
theorem dtx_235 : decode method_6_code 235 = .ok (.invokespecial 51, 3) := by decide +kernel
theorem dtx_238 : decode method_6_code 238 = .ok (.areturn, 1) := by decide +kernel
theorem dtx_239 : decode method_6_code 239 = .ok (.iload_n 0, 1) := by decide +kernel
theorem dtx_240 : decode method_6_code 240 = .ok (.bipush 7, 2) := by decide +kernel
theorem dtx_242 : decode method_6_code 242 = .ok (.if_icmp .ne 59, 3) := by decide +kernel
theorem dtx_245 : decode method_6_code 245 = .ok (.new 49, 3) := by decide +kernel
theorem dtx_248 : decode method_6_code 248 = .ok (.dup, 1) := by decide +kernel
theorem dtx_249 : decode method_6_code 249 = .ok (.bipush 7, 2) := by decide +kernel
theorem dtx_251 : decode method_6_code 251 = .ok (.newarray .char, 2) := by decide +kernel
theorem dtx_253 : decode method_6_code 253 = .ok (.dup, 1) := by decide +kernel
theorem dtx_254 : decode method_6_code 254 = .ok (.iconst 0, 1) := by decide +kernel
theorem dtx_255 : decode method_6_code 255 = .ok (.aload_n 1, 1) := by decide +kernel
theorem dtx_256 : decode method_6_code 256 = .ok (.iconst 0, 1) := by decide +kernel
theorem dtx_257 : decode method_6_code 257 = .ok (.caload, 1) := by decide +kernel
theorem dtx_258 : decode method_6_code 258 = .ok (.castore, 1) := by decide +kernel
theorem dtx_259 : decode method_6_code 259 = .ok (.dup, 1) := by decide +kernel
theorem dtx_260 : decode method_6_code 260 = .ok (.iconst 1, 1) := by decide +kernel
theorem dtx_261 : decode method_6_code 261 = .ok (.aload_n 1, 1) := by decide +kernel
theorem dtx_262 : decode method_6_code 262 = .ok (.iconst 1, 1) := by decide +kernel
theorem dtx_263 : decode method_6_code 263 = .ok (.caload, 1) := by decide +kernel
theorem dtx_264 : decode method_6_code 264 = .ok (.castore, 1) := by decide +kernel
theorem dtx_265 : decode method_6_code 265 = .ok (.dup, 1) := by decide +kernel
theorem dtx_266 : decode method_6_code 266 = .ok (.iconst 2, 1) := by decide +kernel
theorem dtx_267 : decode method_6_code 267 = .ok (.aload_n 1, 1) := by decide +kernel
theorem dtx_268 : decode method_6_code 268 = .ok (.iconst 2, 1) := by decide +kernel
theorem dtx_269 : decode method_6_code 269 = .ok (.caload, 1) := by decide +kernel
theorem dtx_270 : decode method_6_code 270 = .ok (.castore, 1) := by decide +kernel
theorem dtx_271 : decode method_6_code 271 = .ok (.dup, 1) := by decide +kernel
theorem dtx_272 : decode method_6_code 272 = .ok (.iconst 3, 1) := by decide +kernel
theorem dtx_273 : decode method_6_code 273 = .ok (.aload_n 1, 1) := by decide +kernel
theorem dtx_274 : decode method_6_code 274 = .ok (.iconst 3, 1) := by decide +kernel
theorem dtx_275 : decode method_6_code 275 = .ok (.caload, 1) := by decide +kernel
theorem dtx_276 : decode method_6_code 276 = .ok (.castore, 1) := by decide +kernel
theorem dtx_277 : decode method_6_code 277 = .ok (.dup, 1) := by decide +kernel
theorem dtx_278 : decode method_6_code 278 = .ok (.iconst 4, 1) := by decide +kernel
theorem dtx_279 : decode method_6_code 279 = .ok (.aload_n 1, 1) := by decide +kernel
theorem dtx_280 : decode method_6_code 280 = .ok (.iconst 4, 1) := by decide +kernel
theorem dtx_281 : decode method_6_code 281 = .ok (.caload, 1) := by decide +kernel
theorem dtx_282 : decode method_6_code 282 = .ok (.castore, 1) := by decide +kernel
theorem dtx_283 : decode method_6_code 283 = .ok (.dup, 1) := by decide +kernel
theorem dtx_284 : decode method_6_code 284 = .ok (.iconst 5, 1) := by decide +kernel
theorem dtx_285 : decode method_6_code 285 = .ok (.aload_n 1, 1) := by decide +kernel
theorem dtx_286 : decode method_6_code 286 = .ok (.iconst 5, 1) := by decide +kernel
theorem dtx_287 : decode method_6_code 287 = .ok (.caload, 1) := by decide +kernel
theorem dtx_288 : decode method_6_code 288 = .ok (.castore, 1) := by decide +kernel
theorem dtx_289 : decode method_6_code 289 = .ok (.dup, 1) := by decide +kernel
theorem dtx_290 : decode method_6_code 290 = .ok (.bipush 6, 2) := by decide +kernel
theorem dtx_292 : decode method_6_code 292 = .ok (.aload_n 1, 1) := by decide +kernel
theorem dtx_293 : decode method_6_code 293 = .ok (.bipush 6, 2) := by decide +kernel
theorem dtx_295 : decode method_6_code 295 = .ok (.caload, 1) := by decide +kernel
theorem dtx_296 : decode method_6_code 296 = .ok (.castore, 1) := by decide +kernel
theorem dtx_297 : decode method_6_code 297 = .ok (.invokespecial 51, 3) := by decide +kernel
theorem dtx_300 : decode method_6_code 300 = .ok (.areturn, 1) := by decide +kernel
theorem dtx_301 : decode method_6_code 301 = .ok (.iload_n 0, 1) := by decide +kernel
theorem dtx_302 : decode method_6_code 302 = .ok (.bipush 8, 2) := by decide +kernel
theorem dtx_304 : decode method_6_code 304 = .ok (.if_icmp .ne 67, 3) := by decide +kernel
theorem dtx_307 : decode method_6_code 307 = .ok (.new 49, 3) := by decide +kernel
theorem dtx_310 : decode method_6_code 310 = .ok (.dup, 1) := by decide +kernel
theorem dtx_311 : decode method_6_code 311 = .ok (.bipush 8, 2) := by decide +kernel
theorem dtx_313 : decode method_6_code 313 = .ok (.newarray .char, 2) := by decide +kernel
theorem dtx_315 : decode method_6_code 315 = .ok (.dup, 1) := by decide +kernel
theorem dtx_316 : decode method_6_code 316 = .ok (.iconst 0, 1) := by decide +kernel
theorem dtx_317 : decode method_6_code 317 = .ok (.aload_n 1, 1) := by decide +kernel
theorem dtx_318 : decode method_6_code 318 = .ok (.iconst 0, 1) := by decide +kernel
theorem dtx_319 : decode method_6_code 319 = .ok (.caload, 1) := by decide +kernel
theorem dtx_320 : decode method_6_code 320 = .ok (.castore, 1) := by decide +kernel
theorem dtx_321 : decode method_6_code 321 = .ok (.dup, 1) := by decide +kernel
theorem dtx_322 : decode method_6_code 322 = .ok (.iconst 1, 1) := by decide +kernel
theorem dtx_323 : decode method_6_code 323 = .ok (.aload_n 1, 1) := by decide +kernel
theorem dtx_324 : decode method_6_code 324 = .ok (.iconst 1, 1) := by decide +kernel
theorem dtx_325 : decode method_6_code 325 = .ok (.caload, 1) := by decide +kernel
theorem dtx_326 : decode method_6_code 326 = .ok (.castore, 1) := by decide +kernel
theorem dtx_327 : decode method_6_code 327 = .ok (.dup, 1) := by decide +kernel
theorem dtx_328 : decode method_6_code 328 = .ok (.iconst 2, 1) := by decide +kernel
theorem dtx_329 : decode method_6_code 329 = .ok (.aload_n 1, 1) := by decide +kernel
theorem dtx_330 : decode method_6_code 330 = .ok (.iconst 2, 1) := by decide +kernel
theorem dtx_331 : decode method_6_code 331 = .ok (.caload, 1) := by decide +kernel
theorem dtx_332 : decode method_6_code 332 = .ok (.castore, 1) := by decide +kernel
theorem dtx_333 : decode method_6_code 333 = .ok (.dup, 1) := by decide +kernel
theorem dtx_334 : decode method_6_code 334 = .ok (.iconst 3, 1) := by decide +kernel
theorem dtx_335 : decode method_6_code 335 = .ok (.aload_n 1, 1) := by decide +kernel
theorem dtx_336 : decode method_6_code 336 = .ok (.iconst 3, 1) := by decide +kernel
theorem dtx_337 : decode method_6_code 337 = .ok (.caload, 1) := by decide +kernel
theorem dtx_338 : decode method_6_code 338 = .ok (.castore, 1) := by decide +kernel
theorem dtx_339 : decode method_6_code 339 = .ok (.dup, 1) := by decide +kernel
theorem dtx_340 : decode method_6_code 340 = .ok (.iconst 4, 1) := by decide +kernel
theorem dtx_341 : decode method_6_code 341 = .ok (.aload_n 1, 1) := by decide +kernel
theorem dtx_342 : decode method_6_code 342 = .ok (.iconst 4, 1) := by decide +kernel
theorem dtx_343 : decode method_6_code 343 = .ok (.caload, 1) := by decide +kernel
theorem dtx_344 : decode method_6_code 344 = .ok (.castore, 1) := by decide +kernel
theorem dtx_345 : decode method_6_code 345 = .ok (.dup, 1) := by decide +kernel
theorem dtx_346 : decode method_6_code 346 = .ok (.iconst 5, 1) := by decide +kernel
theorem dtx_347 : decode method_6_code 347 = .ok (.aload_n 1, 1) := by decide +kernel
theorem dtx_348 : decode method_6_code 348 = .ok (.iconst 5, 1) := by decide +kernel
theorem dtx_349 : decode method_6_code 349 = .ok (.caload, 1) := by decide +kernel
theorem dtx_350 : decode method_6_code 350 = .ok (.castore, 1) := by decide +kernel
theorem dtx_351 : decode method_6_code 351 = .ok (.dup, 1) := by decide +kernel
theorem dtx_352 : decode method_6_code 352 = .ok (.bipush 6, 2) := by decide +kernel
theorem dtx_354 : decode method_6_code 354 = .ok (.aload_n 1, 1) := by decide +kernel
theorem dtx_355 : decode method_6_code 355 = .ok (.bipush 6, 2) := by decide +kernel
theorem dtx_357 : decode method_6_code 357 = .ok (.caload, 1) := by decide +kernel
theorem dtx_358 : decode method_6_code 358 = .ok (.castore, 1) := by decide +kernel
theorem dtx_359 : decode method_6_code 359 = .ok (.dup, 1) := by decide +kernel
theorem dtx_360 : decode method_6_code 360 = .ok (.bipush 7, 2) := by decide +kernel
theorem dtx_362 : decode method_6_code 362 = .ok (.aload_n 1, 1) := by decide +kernel
theorem dtx_363 : decode method_6_code 363 = .ok (.bipush 7, 2) := by decide +kernel
theorem dtx_365 : decode method_6_code 365 = .ok (.caload, 1) := by decide +kernel
theorem dtx_366 : decode method_6_code 366 = .ok (.castore, 1) := by decide +kernel
theorem dtx_367 : decode method_6_code 367 = .ok (.invokespecial 51, 3) := by decide +kernel
theorem dtx_370 : decode method_6_code 370 = .ok (.areturn, 1) := by decide +kernel
theorem dtx_371 : decode method_6_code 371 = .ok (.iload_n 0, 1) := by decide +kernel
theorem dtx_372 : decode method_6_code 372 = .ok (.bipush 9, 2) := by decide +kernel
theorem dtx_374 : decode method_6_code 374 = .ok (.if_icmp .ne 75, 3) := by decide +kernel
theorem dtx_377 : decode method_6_code 377 = .ok (.new 49, 3) := by decide +kernel
theorem dtx_380 : decode method_6_code 380 = .ok (.dup, 1) := by decide +kernel
theorem dtx_381 : decode method_6_code 381 = .ok (.bipush 9, 2) := by decide +kernel
theorem dtx_383 : decode method_6_code 383 = .ok (.newarray .char, 2) := by decide +kernel
theorem dtx_385 : decode method_6_code 385 = .ok (.dup, 1) := by decide +kernel
theorem dtx_386 : decode method_6_code 386 = .ok (.iconst 0, 1) := by decide +kernel
theorem dtx_387 : decode method_6_code 387 = .ok (.aload_n 1, 1) := by decide +kernel
theorem dtx_388 : decode method_6_code 388 = .ok (.iconst 0, 1) := by decide +kernel
theorem dtx_389 : decode method_6_code 389 = .ok (.caload, 1) := by decide +kernel
theorem dtx_390 : decode method_6_code 390 = .ok (.castore, 1) := by decide +kernel
theorem dtx_391 : decode method_6_code 391 = .ok (.dup, 1) := by decide +kernel
theorem dtx_392 : decode method_6_code 392 = .ok (.iconst 1, 1) := by decide +kernel
theorem dtx_393 : decode method_6_code 393 = .ok (.aload_n 1, 1) := by decide +kernel
theorem dtx_394 : decode method_6_code 394 = .ok (.iconst 1, 1) := by decide +kernel
theorem dtx_395 : decode method_6_code 395 = .ok (.caload, 1) := by decide +kernel
theorem dtx_396 : decode method_6_code 396 = .ok (.castore, 1) := by decide +kernel
theorem dtx_397 : decode method_6_code 397 = .ok (.dup, 1) := by decide +kernel
theorem dtx_398 : decode method_6_code 398 = .ok (.iconst 2, 1) := by decide +kernel
theorem dtx_399 : decode method_6_code 399 = .ok (.aload_n 1, 1) := by decide +kernel
theorem dtx_400 : decode method_6_code 400 = .ok (.iconst 2, 1) := by decide +kernel
theorem dtx_401 : decode method_6_code 401 = .ok (.caload, 1) := by decide +kernel
theorem dtx_402 : decode method_6_code 402 = .ok (.castore, 1) := by decide +kernel
theorem dtx_403 : decode method_6_code 403 = .ok (.dup, 1) := by decide +kernel
theorem dtx_404 : decode method_6_code 404 = .ok (.iconst 3, 1) := by decide +kernel
theorem dtx_405 : decode method_6_code 405 = .ok (.aload_n 1, 1) := by decide +kernel
theorem dtx_406 : decode method_6_code 406 = .ok (.iconst 3, 1) := by decide +kernel
theorem dtx_407 : decode method_6_code 407 = .ok (.caload, 1) := by decide +kernel
theorem dtx_408 : decode method_6_code 408 = .ok (.castore, 1) := by decide +kernel
theorem dtx_409 : decode method_6_code 409 = .ok (.dup, 1) := by decide +kernel
theorem dtx_410 : decode method_6_code 410 = .ok (.iconst 4, 1) := by decide +kernel
theorem dtx_411 : decode method_6_code 411 = .ok (.aload_n 1, 1) := by decide +kernel
theorem dtx_412 : decode method_6_code 412 = .ok (.iconst 4, 1) := by decide +kernel
theorem dtx_413 : decode method_6_code 413 = .ok (.caload, 1) := by decide +kernel
theorem dtx_414 : decode method_6_code 414 = .ok (.castore, 1) := by decide +kernel
theorem dtx_415 : decode method_6_code 415 = .ok (.dup, 1) := by decide +kernel
theorem dtx_416 : decode method_6_code 416 = .ok (.iconst 5, 1) := by decide +kernel
theorem dtx_417 : decode method_6_code 417 = .ok (.aload_n 1, 1) := by decide +kernel
theorem dtx_418 : decode method_6_code 418 = .ok (.iconst 5, 1) := by decide +kernel
theorem dtx_419 : decode method_6_code 419 = .ok (.caload, 1) := by decide +kernel
theorem dtx_420 : decode method_6_code 420 = .ok (.castore, 1) := by decide +kernel
theorem dtx_421 : decode method_6_code 421 = .ok (.dup, 1) := by decide +kernel
theorem dtx_422 : decode method_6_code 422 = .ok (.bipush 6, 2) := by decide +kernel
theorem dtx_424 : decode method_6_code 424 = .ok (.aload_n 1, 1) := by decide +kernel
theorem dtx_425 : decode method_6_code 425 = .ok (.bipush 6, 2) := by decide +kernel
theorem dtx_427 : decode method_6_code 427 = .ok (.caload, 1) := by decide +kernel
theorem dtx_428 : decode method_6_code 428 = .ok (.castore, 1) := by decide +kernel
theorem dtx_429 : decode method_6_code 429 = .ok (.dup, 1) := by decide +kernel
theorem dtx_430 : decode method_6_code 430 = .ok (.bipush 7, 2) := by decide +kernel
theorem dtx_432 : decode method_6_code 432 = .ok (.aload_n 1, 1) := by decide +kernel
theorem dtx_433 : decode method_6_code 433 = .ok (.bipush 7, 2) := by decide +kernel
theorem dtx_435 : decode method_6_code 435 = .ok (.caload, 1) := by decide +kernel
theorem dtx_436 : decode method_6_code 436 = .ok (.castore, 1) := by decide +kernel
theorem dtx_437 : decode method_6_code 437 = .ok (.dup, 1) := by decide +kernel
theorem dtx_438 : decode method_6_code 438 = .ok (.bipush 8, 2) := by decide +kernel
theorem dtx_440 : decode method_6_code 440 = .ok (.aload_n 1, 1) := by decide +kernel
theorem dtx_441 : decode method_6_code 441 = .ok (.bipush 8, 2) := by decide +kernel
theorem dtx_443 : decode method_6_code 443 = .ok (.caload, 1) := by decide +kernel
theorem dtx_444 : decode method_6_code 444 = .ok (.castore, 1) := by decide +kernel
theorem dtx_445 : decode method_6_code 445 = .ok (.invokespecial 51, 3) := by decide +kernel
theorem dtx_448 : decode method_6_code 448 = .ok (.areturn, 1) := by decide +kernel
theorem dtx_449 : decode method_6_code 449 = .ok (.iload_n 0, 1) := by decide +kernel
theorem dtx_450 : decode method_6_code 450 = .ok (.bipush 10, 2) := by decide +kernel
theorem dtx_452 : decode method_6_code 452 = .ok (.if_icmp .ne 83, 3) := by decide +kernel
theorem dtx_455 : decode method_6_code 455 = .ok (.new 49, 3) := by decide +kernel
theorem dtx_458 : decode method_6_code 458 = .ok (.dup, 1) := by decide +kernel
theorem dtx_459 : decode method_6_code 459 = .ok (.bipush 10, 2) := by decide +kernel
theorem dtx_461 : decode method_6_code 461 = .ok (.newarray .char, 2) := by decide +kernel
theorem dtx_463 : decode method_6_code 463 = .ok (.dup, 1) := by decide +kernel
theorem dtx_464 : decode method_6_code 464 = .ok (.iconst 0, 1) := by decide +kernel
theorem dtx_465 : decode method_6_code 465 = .ok (.aload_n 1, 1) := by decide +kernel
theorem dtx_466 : decode method_6_code 466 = .ok (.iconst 0, 1) := by decide +kernel
theorem dtx_467 : decode method_6_code 467 = .ok (.caload, 1) := by decide +kernel
theorem dtx_468 : decode method_6_code 468 = .ok (.castore, 1) := by decide +kernel
theorem dtx_469 : decode method_6_code 469 = .ok (.dup, 1) := by decide +kernel
theorem dtx_470 : decode method_6_code 470 = .ok (.iconst 1, 1) := by decide +kernel
theorem dtx_471 : decode method_6_code 471 = .ok (.aload_n 1, 1) := by decide +kernel
theorem dtx_472 : decode method_6_code 472 = .ok (.iconst 1, 1) := by decide +kernel
theorem dtx_473 : decode method_6_code 473 = .ok (.caload, 1) := by decide +kernel
theorem dtx_474 : decode method_6_code 474 = .ok (.castore, 1) := by decide +kernel
theorem dtx_475 : decode method_6_code 475 = .ok (.dup, 1) := by decide +kernel
theorem dtx_476 : decode method_6_code 476 = .ok (.iconst 2, 1) := by decide +kernel
theorem dtx_477 : decode method_6_code 477 = .ok (.aload_n 1, 1) := by decide +kernel
theorem dtx_478 : decode method_6_code 478 = .ok (.iconst 2, 1) := by decide +kernel
theorem dtx_479 : decode method_6_code 479 = .ok (.caload, 1) := by decide +kernel
theorem dtx_480 : decode method_6_code 480 = .ok (.castore, 1) := by decide +kernel
theorem dtx_481 : decode method_6_code 481 = .ok (.dup, 1) := by decide +kernel
theorem dtx_482 : decode method_6_code 482 = .ok (.iconst 3, 1) := by decide +kernel
theorem dtx_483 : decode method_6_code 483 = .ok (.aload_n 1, 1) := by decide +kernel
theorem dtx_484 : decode method_6_code 484 = .ok (.iconst 3, 1) := by decide +kernel
theorem dtx_485 : decode method_6_code 485 = .ok (.caload, 1) := by decide +kernel
theorem dtx_486 : decode method_6_code 486 = .ok (.castore, 1) := by decide +kernel
theorem dtx_487 : decode method_6_code 487 = .ok (.dup, 1) := by decide +kernel
theorem dtx_488 : decode method_6_code 488 = .ok (.iconst 4, 1) := by decide +kernel
theorem dtx_489 : decode method_6_code 489 = .ok (.aload_n 1, 1) := by decide +kernel
theorem dtx_490 : decode method_6_code 490 = .ok (.iconst 4, 1) := by decide +kernel
theorem dtx_491 : decode method_6_code 491 = .ok (.caload, 1) := by decide +kernel
theorem dtx_492 : decode method_6_code 492 = .ok (.castore, 1) := by decide +kernel
theorem dtx_493 : decode method_6_code 493 = .ok (.dup, 1) := by decide +kernel
theorem dtx_494 : decode method_6_code 494 = .ok (.iconst 5, 1) := by decide +kernel
theorem dtx_495 : decode method_6_code 495 = .ok (.aload_n 1, 1) := by decide +kernel
theorem dtx_496 : decode method_6_code 496 = .ok (.iconst 5, 1) := by decide +kernel
theorem dtx_497 : decode method_6_code 497 = .ok (.caload, 1) := by decide +kernel
theorem dtx_498 : decode method_6_code 498 = .ok (.castore, 1) := by decide +kernel
theorem dtx_499 : decode method_6_code 499 = .ok (.dup, 1) := by decide +kernel
theorem dtx_500 : decode method_6_code 500 = .ok (.bipush 6, 2) := by decide +kernel
theorem dtx_502 : decode method_6_code 502 = .ok (.aload_n 1, 1) := by decide +kernel
theorem dtx_503 : decode method_6_code 503 = .ok (.bipush 6, 2) := by decide +kernel
theorem dtx_505 : decode method_6_code 505 = .ok (.caload, 1) := by decide +kernel
theorem dtx_506 : decode method_6_code 506 = .ok (.castore, 1) := by decide +kernel
theorem dtx_507 : decode method_6_code 507 = .ok (.dup, 1) := by decide +kernel
theorem dtx_508 : decode method_6_code 508 = .ok (.bipush 7, 2) := by decide +kernel
theorem dtx_510 : decode method_6_code 510 = .ok (.aload_n 1, 1) := by decide +kernel
theorem dtx_511 : decode method_6_code 511 = .ok (.bipush 7, 2) := by decide +kernel
theorem dtx_513 : decode method_6_code 513 = .ok (.caload, 1) := by decide +kernel
theorem dtx_514 : decode method_6_code 514 = .ok (.castore, 1) := by decide +kernel
theorem dtx_515 : decode method_6_code 515 = .ok (.dup, 1) := by decide +kernel
theorem dtx_516 : decode method_6_code 516 = .ok (.bipush 8, 2) := by decide +kernel
theorem dtx_518 : decode method_6_code 518 = .ok (.aload_n 1, 1) := by decide +kernel
theorem dtx_519 : decode method_6_code 519 = .ok (.bipush 8, 2) := by decide +kernel
theorem dtx_521 : decode method_6_code 521 = .ok (.caload, 1) := by decide +kernel
theorem dtx_522 : decode method_6_code 522 = .ok (.castore, 1) := by decide +kernel
theorem dtx_523 : decode method_6_code 523 = .ok (.dup, 1) := by decide +kernel
theorem dtx_524 : decode method_6_code 524 = .ok (.bipush 9, 2) := by decide +kernel
theorem dtx_526 : decode method_6_code 526 = .ok (.aload_n 1, 1) := by decide +kernel
theorem dtx_527 : decode method_6_code 527 = .ok (.bipush 9, 2) := by decide +kernel
theorem dtx_529 : decode method_6_code 529 = .ok (.caload, 1) := by decide +kernel
theorem dtx_530 : decode method_6_code 530 = .ok (.castore, 1) := by decide +kernel
theorem dtx_531 : decode method_6_code 531 = .ok (.invokespecial 51, 3) := by decide +kernel
theorem dtx_534 : decode method_6_code 534 = .ok (.areturn, 1) := by decide +kernel
theorem dtx_535 : decode method_6_code 535 = .ok (.iload_n 0, 1) := by decide +kernel
theorem dtx_536 : decode method_6_code 536 = .ok (.bipush 11, 2) := by decide +kernel
theorem dtx_538 : decode method_6_code 538 = .ok (.if_icmp .ne 91, 3) := by decide +kernel
theorem dtx_541 : decode method_6_code 541 = .ok (.new 49, 3) := by decide +kernel
theorem dtx_544 : decode method_6_code 544 = .ok (.dup, 1) := by decide +kernel
theorem dtx_545 : decode method_6_code 545 = .ok (.bipush 11, 2) := by decide +kernel
theorem dtx_547 : decode method_6_code 547 = .ok (.newarray .char, 2) := by decide +kernel
theorem dtx_549 : decode method_6_code 549 = .ok (.dup, 1) := by decide +kernel
theorem dtx_550 : decode method_6_code 550 = .ok (.iconst 0, 1) := by decide +kernel
theorem dtx_551 : decode method_6_code 551 = .ok (.aload_n 1, 1) := by decide +kernel
theorem dtx_552 : decode method_6_code 552 = .ok (.iconst 0, 1) := by decide +kernel
theorem dtx_553 : decode method_6_code 553 = .ok (.caload, 1) := by decide +kernel
theorem dtx_554 : decode method_6_code 554 = .ok (.castore, 1) := by decide +kernel
theorem dtx_555 : decode method_6_code 555 = .ok (.dup, 1) := by decide +kernel
theorem dtx_556 : decode method_6_code 556 = .ok (.iconst 1, 1) := by decide +kernel
theorem dtx_557 : decode method_6_code 557 = .ok (.aload_n 1, 1) := by decide +kernel
theorem dtx_558 : decode method_6_code 558 = .ok (.iconst 1, 1) := by decide +kernel
theorem dtx_559 : decode method_6_code 559 = .ok (.caload, 1) := by decide +kernel
theorem dtx_560 : decode method_6_code 560 = .ok (.castore, 1) := by decide +kernel
theorem dtx_561 : decode method_6_code 561 = .ok (.dup, 1) := by decide +kernel
theorem dtx_562 : decode method_6_code 562 = .ok (.iconst 2, 1) := by decide +kernel
theorem dtx_563 : decode method_6_code 563 = .ok (.aload_n 1, 1) := by decide +kernel
theorem dtx_564 : decode method_6_code 564 = .ok (.iconst 2, 1) := by decide +kernel
theorem dtx_565 : decode method_6_code 565 = .ok (.caload, 1) := by decide +kernel
theorem dtx_566 : decode method_6_code 566 = .ok (.castore, 1) := by decide +kernel
theorem dtx_567 : decode method_6_code 567 = .ok (.dup, 1) := by decide +kernel
theorem dtx_568 : decode method_6_code 568 = .ok (.iconst 3, 1) := by decide +kernel
theorem dtx_569 : decode method_6_code 569 = .ok (.aload_n 1, 1) := by decide +kernel
theorem dtx_570 : decode method_6_code 570 = .ok (.iconst 3, 1) := by decide +kernel
theorem dtx_571 : decode method_6_code 571 = .ok (.caload, 1) := by decide +kernel
theorem dtx_572 : decode method_6_code 572 = .ok (.castore, 1) := by decide +kernel
theorem dtx_573 : decode method_6_code 573 = .ok (.dup, 1) := by decide +kernel
theorem dtx_574 : decode method_6_code 574 = .ok (.iconst 4, 1) := by decide +kernel
theorem dtx_575 : decode method_6_code 575 = .ok (.aload_n 1, 1) := by decide +kernel
theorem dtx_576 : decode method_6_code 576 = .ok (.iconst 4, 1) := by decide +kernel
theorem dtx_577 : decode method_6_code 577 = .ok (.caload, 1) := by decide +kernel
theorem dtx_578 : decode method_6_code 578 = .ok (.castore, 1) := by decide +kernel
theorem dtx_579 : decode method_6_code 579 = .ok (.dup, 1) := by decide +kernel
theorem dtx_580 : decode method_6_code 580 = .ok (.iconst 5, 1) := by decide +kernel
theorem dtx_581 : decode method_6_code 581 = .ok (.aload_n 1, 1) := by decide +kernel
theorem dtx_582 : decode method_6_code 582 = .ok (.iconst 5, 1) := by decide +kernel
theorem dtx_583 : decode method_6_code 583 = .ok (.caload, 1) := by decide +kernel
theorem dtx_584 : decode method_6_code 584 = .ok (.castore, 1) := by decide +kernel
theorem dtx_585 : decode method_6_code 585 = .ok (.dup, 1) := by decide +kernel
theorem dtx_586 : decode method_6_code 586 = .ok (.bipush 6, 2) := by decide +kernel
theorem dtx_588 : decode method_6_code 588 = .ok (.aload_n 1, 1) := by decide +kernel
theorem dtx_589 : decode method_6_code 589 = .ok (.bipush 6, 2) := by decide +kernel
theorem dtx_591 : decode method_6_code 591 = .ok (.caload, 1) := by decide +kernel
theorem dtx_592 : decode method_6_code 592 = .ok (.castore, 1) := by decide +kernel
theorem dtx_593 : decode method_6_code 593 = .ok (.dup, 1) := by decide +kernel
theorem dtx_594 : decode method_6_code 594 = .ok (.bipush 7, 2) := by decide +kernel
theorem dtx_596 : decode method_6_code 596 = .ok (.aload_n 1, 1) := by decide +kernel
theorem dtx_597 : decode method_6_code 597 = .ok (.bipush 7, 2) := by decide +kernel
theorem dtx_599 : decode method_6_code 599 = .ok (.caload, 1) := by decide +kernel
theorem dtx_600 : decode method_6_code 600 = .ok (.castore, 1) := by decide +kernel
theorem dtx_601 : decode method_6_code 601 = .ok (.dup, 1) := by decide +kernel
theorem dtx_602 : decode method_6_code 602 = .ok (.bipush 8, 2) := by decide +kernel
theorem dtx_604 : decode method_6_code 604 = .ok (.aload_n 1, 1) := by decide +kernel
theorem dtx_605 : decode method_6_code 605 = .ok (.bipush 8, 2) := by decide +kernel
theorem dtx_607 : decode method_6_code 607 = .ok (.caload, 1) := by decide +kernel
theorem dtx_608 : decode method_6_code 608 = .ok (.castore, 1) := by decide +kernel
theorem dtx_609 : decode method_6_code 609 = .ok (.dup, 1) := by decide +kernel
theorem dtx_610 : decode method_6_code 610 = .ok (.bipush 9, 2) := by decide +kernel
theorem dtx_612 : decode method_6_code 612 = .ok (.aload_n 1, 1) := by decide +kernel
theorem dtx_613 : decode method_6_code 613 = .ok (.bipush 9, 2) := by decide +kernel
theorem dtx_615 : decode method_6_code 615 = .ok (.caload, 1) := by decide +kernel
theorem dtx_616 : decode method_6_code 616 = .ok (.castore, 1) := by decide +kernel
theorem dtx_617 : decode method_6_code 617 = .ok (.dup, 1) := by decide +kernel
theorem dtx_618 : decode method_6_code 618 = .ok (.bipush 10, 2) := by decide +kernel
theorem dtx_620 : decode method_6_code 620 = .ok (.aload_n 1, 1) := by decide +kernel
theorem dtx_621 : decode method_6_code 621 = .ok (.bipush 10, 2) := by decide +kernel
theorem dtx_623 : decode method_6_code 623 = .ok (.caload, 1) := by decide +kernel
theorem dtx_624 : decode method_6_code 624 = .ok (.castore, 1) := by decide +kernel
theorem dtx_625 : decode method_6_code 625 = .ok (.invokespecial 51, 3) := by decide +kernel
theorem dtx_628 : decode method_6_code 628 = .ok (.areturn, 1) := by decide +kernel
theorem dtx_629 : decode method_6_code 629 = .ok (.new 49, 3) := by decide +kernel
theorem dtx_632 : decode method_6_code 632 = .ok (.dup, 1) := by decide +kernel
theorem dtx_633 : decode method_6_code 633 = .ok (.bipush 12, 2) := by decide +kernel
theorem dtx_635 : decode method_6_code 635 = .ok (.newarray .char, 2) := by decide +kernel
theorem dtx_637 : decode method_6_code 637 = .ok (.dup, 1) := by decide +kernel
theorem dtx_638 : decode method_6_code 638 = .ok (.iconst 0, 1) := by decide +kernel
theorem dtx_639 : decode method_6_code 639 = .ok (.aload_n 1, 1) := by decide +kernel
theorem dtx_640 : decode method_6_code 640 = .ok (.iconst 0, 1) := by decide +kernel
theorem dtx_641 : decode method_6_code 641 = .ok (.caload, 1) := by decide +kernel
theorem dtx_642 : decode method_6_code 642 = .ok (.castore, 1) := by decide +kernel
theorem dtx_643 : decode method_6_code 643 = .ok (.dup, 1) := by decide +kernel
theorem dtx_644 : decode method_6_code 644 = .ok (.iconst 1, 1) := by decide +kernel
theorem dtx_645 : decode method_6_code 645 = .ok (.aload_n 1, 1) := by decide +kernel
theorem dtx_646 : decode method_6_code 646 = .ok (.iconst 1, 1) := by decide +kernel
theorem dtx_647 : decode method_6_code 647 = .ok (.caload, 1) := by decide +kernel
theorem dtx_648 : decode method_6_code 648 = .ok (.castore, 1) := by decide +kernel
theorem dtx_649 : decode method_6_code 649 = .ok (.dup, 1) := by decide +kernel
theorem dtx_650 : decode method_6_code 650 = .ok (.iconst 2, 1) := by decide +kernel
theorem dtx_651 : decode method_6_code 651 = .ok (.aload_n 1, 1) := by decide +kernel
theorem dtx_652 : decode method_6_code 652 = .ok (.iconst 2, 1) := by decide +kernel
theorem dtx_653 : decode method_6_code 653 = .ok (.caload, 1) := by decide +kernel
theorem dtx_654 : decode method_6_code 654 = .ok (.castore, 1) := by decide +kernel
theorem dtx_655 : decode method_6_code 655 = .ok (.dup, 1) := by decide +kernel
theorem dtx_656 : decode method_6_code 656 = .ok (.iconst 3, 1) := by decide +kernel
theorem dtx_657 : decode method_6_code 657 = .ok (.aload_n 1, 1) := by decide +kernel
theorem dtx_658 : decode method_6_code 658 = .ok (.iconst 3, 1) := by decide +kernel
theorem dtx_659 : decode method_6_code 659 = .ok (.caload, 1) := by decide +kernel
theorem dtx_660 : decode method_6_code 660 = .ok (.castore, 1) := by decide +kernel
theorem dtx_661 : decode method_6_code 661 = .ok (.dup, 1) := by decide +kernel
theorem dtx_662 : decode method_6_code 662 = .ok (.iconst 4, 1) := by decide +kernel
theorem dtx_663 : decode method_6_code 663 = .ok (.aload_n 1, 1) := by decide +kernel
theorem dtx_664 : decode method_6_code 664 = .ok (.iconst 4, 1) := by decide +kernel
theorem dtx_665 : decode method_6_code 665 = .ok (.caload, 1) := by decide +kernel
theorem dtx_666 : decode method_6_code 666 = .ok (.castore, 1) := by decide +kernel
theorem dtx_667 : decode method_6_code 667 = .ok (.dup, 1) := by decide +kernel
theorem dtx_668 : decode method_6_code 668 = .ok (.iconst 5, 1) := by decide +kernel
theorem dtx_669 : decode method_6_code 669 = .ok (.aload_n 1, 1) := by decide +kernel
theorem dtx_670 : decode method_6_code 670 = .ok (.iconst 5, 1) := by decide +kernel
theorem dtx_671 : decode method_6_code 671 = .ok (.caload, 1) := by decide +kernel
theorem dtx_672 : decode method_6_code 672 = .ok (.castore, 1) := by decide +kernel
theorem dtx_673 : decode method_6_code 673 = .ok (.dup, 1) := by decide +kernel
theorem dtx_674 : decode method_6_code 674 = .ok (.bipush 6, 2) := by decide +kernel
theorem dtx_676 : decode method_6_code 676 = .ok (.aload_n 1, 1) := by decide +kernel
theorem dtx_677 : decode method_6_code 677 = .ok (.bipush 6, 2) := by decide +kernel
theorem dtx_679 : decode method_6_code 679 = .ok (.caload, 1) := by decide +kernel
theorem dtx_680 : decode method_6_code 680 = .ok (.castore, 1) := by decide +kernel
theorem dtx_681 : decode method_6_code 681 = .ok (.dup, 1) := by decide +kernel
theorem dtx_682 : decode method_6_code 682 = .ok (.bipush 7, 2) := by decide +kernel
theorem dtx_684 : decode method_6_code 684 = .ok (.aload_n 1, 1) := by decide +kernel
theorem dtx_685 : decode method_6_code 685 = .ok (.bipush 7, 2) := by decide +kernel
theorem dtx_687 : decode method_6_code 687 = .ok (.caload, 1) := by decide +kernel
theorem dtx_688 : decode method_6_code 688 = .ok (.castore, 1) := by decide +kernel
theorem dtx_689 : decode method_6_code 689 = .ok (.dup, 1) := by decide +kernel
theorem dtx_690 : decode method_6_code 690 = .ok (.bipush 8, 2) := by decide +kernel
theorem dtx_692 : decode method_6_code 692 = .ok (.aload_n 1, 1) := by decide +kernel
theorem dtx_693 : decode method_6_code 693 = .ok (.bipush 8, 2) := by decide +kernel
theorem dtx_695 : decode method_6_code 695 = .ok (.caload, 1) := by decide +kernel
theorem dtx_696 : decode method_6_code 696 = .ok (.castore, 1) := by decide +kernel
theorem dtx_697 : decode method_6_code 697 = .ok (.dup, 1) := by decide +kernel
theorem dtx_698 : decode method_6_code 698 = .ok (.bipush 9, 2) := by decide +kernel
theorem dtx_700 : decode method_6_code 700 = .ok (.aload_n 1, 1) := by decide +kernel
theorem dtx_701 : decode method_6_code 701 = .ok (.bipush 9, 2) := by decide +kernel
theorem dtx_703 : decode method_6_code 703 = .ok (.caload, 1) := by decide +kernel
theorem dtx_704 : decode method_6_code 704 = .ok (.castore, 1) := by decide +kernel
theorem dtx_705 : decode method_6_code 705 = .ok (.dup, 1) := by decide +kernel
theorem dtx_706 : decode method_6_code 706 = .ok (.bipush 10, 2) := by decide +kernel
theorem dtx_708 : decode method_6_code 708 = .ok (.aload_n 1, 1) := by decide +kernel
theorem dtx_709 : decode method_6_code 709 = .ok (.bipush 10, 2) := by decide +kernel
theorem dtx_711 : decode method_6_code 711 = .ok (.caload, 1) := by decide +kernel
theorem dtx_712 : decode method_6_code 712 = .ok (.castore, 1) := by decide +kernel
theorem dtx_713 : decode method_6_code 713 = .ok (.dup, 1) := by decide +kernel
theorem dtx_714 : decode method_6_code 714 = .ok (.bipush 11, 2) := by decide +kernel
theorem dtx_716 : decode method_6_code 716 = .ok (.aload_n 1, 1) := by decide +kernel
theorem dtx_717 : decode method_6_code 717 = .ok (.bipush 11, 2) := by decide +kernel
theorem dtx_719 : decode method_6_code 719 = .ok (.caload, 1) := by decide +kernel
theorem dtx_720 : decode method_6_code 720 = .ok (.castore, 1) := by decide +kernel
theorem dtx_721 : decode method_6_code 721 = .ok (.invokespecial 51, 3) := by decide +kernel
theorem dtx_724 : decode method_6_code 724 = .ok (.areturn, 1) := by decide +kernel
set_option maxRecDepth 65536 in
set_option maxHeartbeats 40000000 in
theorem rmTX (l : Launch) (Z : State) (a0 : Array Value) (hw : ∀ d ∈ tables_1, d.before a0 Z = true) (z : Int32) (Su : Su16 Z z) (n : Nat) (hn : n ≤ 12) (c0 c1 c2 c3 c4 c5 c6 c7 c8 c9 c10 c11 : Int32) (hbd : ∀ c ∈ ([c0, c1, c2, c3, c4, c5, c6, c7, c8, c9, c10, c11] : List Int32), ¬ c < 0 ∧ ¬ (65535 : Int32) < c) (a : Addr) (h0 : Heap) (n0 : Nat) (Z0 : n0 ≤ h0.size) (X00 : Old Z n0 h0) (A : AI Z h0 a .char ([c0, c1, c2, c3, c4, c5, c6, c7, c8, c9, c10, c11] : List Int32)) :
    WCtr consts_1 (fun b => b < h0.size) l Z (⟨"com/example/federate/federate/WholeNumbersParsePinLaw", "text", "(I[C)Ljava/lang/String;"⟩ : MethodName) method_6_code 2 (some (.object "java/lang/String")) [] ({ frames := 6, cells := 4, slots := 52, locals := 88 } : Room) #[(.int (Int32.ofNat n)), (.ref a)] h0 (QS_rmTX Z (([c0, c1, c2, c3, c4, c5, c6, c7, c8, c9, c10, c11] : List Int32).take n) h0 n0) := by
  refine WCtr.of (plainFor_of_name pn_20) ?_
  intro p e s m below meth c s₁ hx hby hml hown hnm hret hlk hZ X0 e0 hC0
  refine Go.cast (ef_18 m (Int32.ofNat n) a) ?_
  show Go p e below _ s₁ (mkF m 0 #[.val (.int (Int32.ofNat n)), .val (.ref a)] [])
  have UX : ∀ {h : Heap}, Keep h0 h [] → Und (fun b => b < h0.size) h0 h := fun K => (Und.refl _ h0).keep K all0
  have e_0 := own_nar_c (hbd c0 (by simp))
  have e_1 := own_nar_c (hbd c1 (by simp))
  have e_2 := own_nar_c (hbd c2 (by simp))
  have e_3 := own_nar_c (hbd c3 (by simp))
  have e_4 := own_nar_c (hbd c4 (by simp))
  have e_5 := own_nar_c (hbd c5 (by simp))
  have e_6 := own_nar_c (hbd c6 (by simp))
  have e_7 := own_nar_c (hbd c7 (by simp))
  have e_8 := own_nar_c (hbd c8 (by simp))
  have e_9 := own_nar_c (hbd c9 (by simp))
  have e_10 := own_nar_c (hbd c10 (by simp))
  have e_11 := own_nar_c (hbd c11 (by simp))
  refine Go.st (fun _ k => XS.iloadN X0.here hx rfl (hb hby dtx_0) rfl k) ?_
  show Go p e below _ s₁ (mkF m 1 #[.val (.int (Int32.ofNat n)), .val (.ref a)] [(.int (Int32.ofNat n))])
  by_cases qn : Int32.ofNat n = (0 : Int32)
  · skip
    refine Go.st (fun _ k => XS.ifNo X0.here hx rfl (hb hby dtx_1) rfl (XT.i0_ne_f qn) k) ?_
    show Go p e below _ s₁ (mkF m 4 #[.val (.int (Int32.ofNat n)), .val (.ref a)] [])
    obtain rfl : n = 0 := by have q := congrArg Int32.toInt qn; rw [own_toInt (by omega)] at q; have q2 : ((0 : Int32)).toInt = 0 := rfl; omega
    clear qn
    show Go p e below _ s₁ (mkF m 4 #[.val (.int (Int32.ofNat 0)), .val (.ref a)] [])
    obtain ⟨T1, h1, X1, e1, E1, A1, D1, -, st1⟩ := newO X0 hx hZ hown (hw _ (List.mem_of_getElem? (i := 12) rfl)) (hw _ (List.mem_of_getElem? (i := 13) rfl)) (hw _ (List.mem_of_getElem? (i := 14) rfl)) e0 (g := (mkF m 4 #[.val (.int (Int32.ofNat 0)), .val (.ref a)] [])) rfl (hb hby dtx_4) (by (try dsimp only [room_1]); (try simp only [List.length_cons, List.length_nil]); omega) (by (try dsimp only [room_1]); (try simp only [List.length_cons, List.length_nil]); omega)
    obtain ⟨a1, g1⟩ : ∃ z, z = h0.size := ⟨_, rfl⟩
    rw [← g1] at A1 D1 st1
    have l1 : a1 < h1.size := A1.lt
    have sE1 := E1.1
    refine Go.st st1 ?_
    show Go p e below _ T1 (mkF m 7 #[.val (.int (Int32.ofNat 0)), .val (.ref a)] [(.ref a1)])
    refine Go.st (fun _ k => XS.dup X1.here hx rfl (hb hby dtx_7) rfl rfl k) ?_
    show Go p e below _ T1 (mkF m 8 #[.val (.int (Int32.ofNat 0)), .val (.ref a)] [(.ref a1), (.ref a1)])
    refine Go.st (fun _ k => XS.iconst X1.here hx rfl (hb hby dtx_8) k) ?_
    show Go p e below _ T1 (mkF m 9 #[.val (.int (Int32.ofNat 0)), .val (.ref a)] [(.int (0 : Int32)), (.ref a1), (.ref a1)])
    refine Go.newarr X1 hx hZ (ty := .char) rfl rfl (hw _ (List.mem_of_getElem? (i := 0) rfl)) e1 (g := (mkF m 9 #[.val (.int (Int32.ofNat 0)), .val (.ref a)] [(.int (0 : Int32)), (.ref a1), (.ref a1)])) rfl (hb hby dtx_9) rfl (n := 0) rfl (by decide) (by (try dsimp only [room_1]); (try simp only [List.length_cons, List.length_nil]); omega) (by (try dsimp only [room_1]); (try simp only [List.length_cons, List.length_nil]); omega) ?_
    rintro T2 h2 X2 e2 E2 l2 A2
    obtain ⟨a2, g2⟩ : ∃ z, z = h1.size := ⟨_, rfl⟩
    rw [← g2] at A2 l2 ⊢
    have sE2 := E2.1
    show Go p e below _ T2 (mkF m 11 #[.val (.int (Int32.ofNat 0)), .val (.ref a)] [(.ref a2), (.ref a1), (.ref a1)])
    have hna : n0 ≤ a1 := by omega
    have hnN : ¬ (fun b => b < h0.size) a1 := by show ¬ a1 < h0.size; omega
    have U2 : Und (fun b => b < h0.size) h0 h2 := ((Und.refl _ h0).ext E1).ext E2
    refine Go.callIW X2 hx (Bas.refl s 0) (Nat.zero_le _) hZ (y := (⟨"java/lang/String", "<init>", "([C)V"⟩ : MethodName)) rfl hown (mvT hZ (hw _ (List.mem_of_getElem? (i := 15) rfl))) (mvT hZ (hw _ (List.mem_of_getElem? (i := 16) rfl))) (mvT hZ (hw _ (List.mem_of_getElem? (i := 17) rfl))) (by decide) (Wt := 1) (rmI1e l Z a0 hw (fun b => b < h0.size) a1 a2 _ _ h2 n0 hna hnN (A1.ext E2) ((D1 (Or.inr (hw _ (List.mem_of_getElem? (i := 27) rfl))) (ty := (.array .byte)) (by decide)).ext E2) ((D1 (Or.inr (hw _ (List.mem_of_getElem? (i := 28) rfl))) (ty := .byte) (by decide)).ext E2) A2) (hw _ (List.mem_of_getElem? (i := 17) rfl)) (hw _ (List.mem_of_getElem? (i := 14) rfl)) (by (try dsimp only [room_1]); (try simp only [List.length_cons, List.length_nil]); omega) (by (try dsimp only [room_1]); (try simp only [List.length_cons, List.length_nil]); omega) e2 hC0 (by rw [e2]; exact U2) (g := (mkF m 11 #[.val (.int (Int32.ofNat 0)), .val (.ref a)] [(.ref a2), (.ref a1), (.ref a1)])) rfl (by rw [hml]; rfl) (a := a1) (argsL := [(.ref a2)]) (rest := [(.ref a1)]) (lenOf pd_19 rfl) rfl (by show 2 * 0 + _ ≤ _; exact Nat.le_of_eq rfl) (hb hby dtx_11) rfl (by (try dsimp only [room_1]); (try simp only [List.length_cons, List.length_nil]); omega) (by (try dsimp only [room_1]); (try simp only [List.length_cons, List.length_nil]); omega) ?_
    rintro _ s4 T4 L4 hB4 hZ4 hown4 hC4 hsz4 X4 ⟨rfl, N4, K4, E4, G4, t, F4, B4, ht⟩
    show Go p e below _ T4 (mkF m 14 #[.val (.int (Int32.ofNat 0)), .val (.ref a)] [(.ref a1)])
    have K04 : Keep h0 T4.heap [] := (((Keep.refl h0 []).ext E1).ext E2).trans K4 (fun x q => Or.inr (by cases List.mem_singleton.mp q; omega))
    exact Go.retVW X4 hx hB4 (Nat.le_refl _) hC4 (Und.refl _ _) hret hlk rfl rfl (hb hby dtx_14) ⟨a1, t, rfl, Fr.app (Fr.nil n0) N4, K04, E4, G4, F4, B4⟩ (by (try dsimp only [room_1]); (try simp only [List.length_cons, List.length_nil]); omega) (by (try dsimp only [room_1]); (try simp only [List.length_cons, List.length_nil]); omega)
  refine Go.st (fun _ k => XS.ifYes X0.here hx rfl (pc0 := 1) (pc' := 15) rfl (hb hby dtx_1) rfl (XT.i0_ne_t qn) (by decide) (by decide) k) ?_
  show Go p e below _ s₁ (mkF m 15 #[.val (.int (Int32.ofNat n)), .val (.ref a)] [])
  have nn0 : n ≠ 0 := fun z => qn (by rw [z]; rfl)
  clear qn
  refine Go.st (fun _ k => XS.iloadN X0.here hx rfl (hb hby dtx_15) rfl k) ?_
  show Go p e below _ s₁ (mkF m 16 #[.val (.int (Int32.ofNat n)), .val (.ref a)] [(.int (Int32.ofNat n))])
  refine Go.st (fun _ k => XS.iconst X0.here hx rfl (hb hby dtx_16) k) ?_
  show Go p e below _ s₁ (mkF m 17 #[.val (.int (Int32.ofNat n)), .val (.ref a)] [(.int (1 : Int32)), (.int (Int32.ofNat n))])
  by_cases qn : Int32.ofNat n = (1 : Int32)
  · skip
    refine Go.st (fun _ k => XS.icmpNo X0.here hx rfl (hb hby dtx_17) rfl (XT.ii_ne_f qn) k) ?_
    show Go p e below _ s₁ (mkF m 20 #[.val (.int (Int32.ofNat n)), .val (.ref a)] [])
    obtain rfl : n = 1 := by have q := congrArg Int32.toInt qn; rw [own_toInt (by omega)] at q; have q2 : ((1 : Int32)).toInt = 1 := rfl; omega
    clear qn
    show Go p e below _ s₁ (mkF m 20 #[.val (.int (Int32.ofNat 1)), .val (.ref a)] [])
    obtain ⟨T1, h1, X1, e1, E1, A1, D1, -, st1⟩ := newO X0 hx hZ hown (hw _ (List.mem_of_getElem? (i := 12) rfl)) (hw _ (List.mem_of_getElem? (i := 13) rfl)) (hw _ (List.mem_of_getElem? (i := 14) rfl)) e0 (g := (mkF m 20 #[.val (.int (Int32.ofNat 1)), .val (.ref a)] [])) rfl (hb hby dtx_20) (by (try dsimp only [room_1]); (try simp only [List.length_cons, List.length_nil]); omega) (by (try dsimp only [room_1]); (try simp only [List.length_cons, List.length_nil]); omega)
    obtain ⟨a1, g1⟩ : ∃ z, z = h0.size := ⟨_, rfl⟩
    rw [← g1] at A1 D1 st1
    have l1 : a1 < h1.size := A1.lt
    have sE1 := E1.1
    refine Go.st st1 ?_
    show Go p e below _ T1 (mkF m 23 #[.val (.int (Int32.ofNat 1)), .val (.ref a)] [(.ref a1)])
    refine Go.st (fun _ k => XS.dup X1.here hx rfl (hb hby dtx_23) rfl rfl k) ?_
    show Go p e below _ T1 (mkF m 24 #[.val (.int (Int32.ofNat 1)), .val (.ref a)] [(.ref a1), (.ref a1)])
    refine Go.st (fun _ k => XS.iconst X1.here hx rfl (hb hby dtx_24) k) ?_
    show Go p e below _ T1 (mkF m 25 #[.val (.int (Int32.ofNat 1)), .val (.ref a)] [(.int (1 : Int32)), (.ref a1), (.ref a1)])
    refine Go.newarr X1 hx hZ (ty := .char) rfl rfl (hw _ (List.mem_of_getElem? (i := 0) rfl)) e1 (g := (mkF m 25 #[.val (.int (Int32.ofNat 1)), .val (.ref a)] [(.int (1 : Int32)), (.ref a1), (.ref a1)])) rfl (hb hby dtx_25) rfl (n := 1) rfl (by decide) (by (try dsimp only [room_1]); (try simp only [List.length_cons, List.length_nil]); omega) (by (try dsimp only [room_1]); (try simp only [List.length_cons, List.length_nil]); omega) ?_
    rintro T2 h2 X2 e2 E2 l2 A2
    obtain ⟨a2, g2⟩ : ∃ z, z = h1.size := ⟨_, rfl⟩
    rw [← g2] at A2 l2 ⊢
    have sE2 := E2.1
    show Go p e below _ T2 (mkF m 27 #[.val (.int (Int32.ofNat 1)), .val (.ref a)] [(.ref a2), (.ref a1), (.ref a1)])
    refine Go.st (fun _ k => XS.dup X2.here hx rfl (hb hby dtx_27) rfl rfl k) ?_
    show Go p e below _ T2 (mkF m 28 #[.val (.int (Int32.ofNat 1)), .val (.ref a)] [(.ref a2), (.ref a2), (.ref a1), (.ref a1)])
    refine Go.st (fun _ k => XS.iconst X2.here hx rfl (hb hby dtx_28) k) ?_
    show Go p e below _ T2 (mkF m 29 #[.val (.int (Int32.ofNat 1)), .val (.ref a)] [(.int (0 : Int32)), (.ref a2), (.ref a2), (.ref a1), (.ref a1)])
    refine Go.st (fun _ k => XS.aloadN X2.here hx rfl (hb hby dtx_29) rfl rfl k) ?_
    show Go p e below _ T2 (mkF m 30 #[.val (.int (Int32.ofNat 1)), .val (.ref a)] [(.ref a), (.int (0 : Int32)), (.ref a2), (.ref a2), (.ref a1), (.ref a1)])
    refine Go.st (fun _ k => XS.iconst X2.here hx rfl (hb hby dtx_30) k) ?_
    show Go p e below _ T2 (mkF m 31 #[.val (.int (Int32.ofNat 1)), .val (.ref a)] [(.int (0 : Int32)), (.ref a), (.int (0 : Int32)), (.ref a2), (.ref a2), (.ref a1), (.ref a1)])
    have A_a := (A.ext E1).ext E2
    have na : a ≠ a2 := Nat.ne_of_lt (Nat.lt_of_lt_of_eq (A.ext E1).lt g2.symm)
    refine Go.caload X2 hx hZ e2 A_a (i := 0) (x := c0) rfl rfl (g := (mkF m 31 #[.val (.int (Int32.ofNat 1)), .val (.ref a)] [(.int (0 : Int32)), (.ref a), (.int (0 : Int32)), (.ref a2), (.ref a2), (.ref a1), (.ref a1)])) rfl rfl (hb hby dtx_31) ?_
    show Go p e below _ T2 (mkF m 32 #[.val (.int (Int32.ofNat 1)), .val (.ref a)] [(.int c0), (.int (0 : Int32)), (.ref a2), (.ref a2), (.ref a1), (.ref a1)])
    refine Go.castore X2 hx hZ e2 A2 (i := 0) rfl (by simp) (g := (mkF m 32 #[.val (.int (Int32.ofNat 1)), .val (.ref a)] [(.int c0), (.int (0 : Int32)), (.ref a2), (.ref a2), (.ref a1), (.ref a1)])) rfl rfl (hb hby dtx_32) ?_
    rintro T3 h3 X3 e3 W3 A3
    have sW3 := W3.size
    show Go p e below _ T3 (mkF m 33 #[.val (.int (Int32.ofNat 1)), .val (.ref a)] [(.ref a2), (.ref a1), (.ref a1)])
    have A_a3 := A_a.other W3 na
    have n12 : a1 ≠ a2 := Nat.ne_of_lt (by omega)
    have Ac : AI Z h3 a2 .char ([c0] : List Int32) := by
      have q : AI Z h3 a2 .char [nar .char c0] := A3
      rwa [e_0] at q
    have hp : ∀ c ∈ ([c0] : List Int32), ¬ c < 0 ∧ ¬ (65535 : Int32) < c := fun c hc => hbd c (List.mem_of_mem_take (i := 1) hc)
    have Ok : Old Z n0 h3 := (((X00.ext E1).ext E2).wr W3 (by omega))
    have Kk : Keep h0 h3 [] := ((((Keep.refl h0 []).ext E1).ext E2).wr W3 (Or.inr (by omega)))
    have Nk := (Fr.snoc X3 (Fr.nil n0) (by omega))
    refine Go.callI X3 hx (y := (⟨"java/lang/String", "<init>", "([C)V"⟩ : MethodName)) rfl hown (mvT hZ (hw _ (List.mem_of_getElem? (i := 15) rfl))) (mvT hZ (hw _ (List.mem_of_getElem? (i := 16) rfl))) (mvT hZ (hw _ (List.mem_of_getElem? (i := 17) rfl))) (by decide) (Ctr.back (W := 1) (rmI1 l Z a0 hw z Su ([c0] : List Int32) (by simp) (by simp) hp a1 a2 _ _ h3 n0 (by omega) (by omega) Ok ((A1.ext E2).wr W3) (((D1 (Or.inr (hw _ (List.mem_of_getElem? (i := 27) rfl))) (ty := (.array .byte)) (by decide)).ext E2).other W3 (Or.inl n12)) (((D1 (Or.inr (hw _ (List.mem_of_getElem? (i := 28) rfl))) (ty := .byte) (by decide)).ext E2).other W3 (Or.inl n12)) Ac) hZ (hw _ (List.mem_of_getElem? (i := 17) rfl)) (hw _ (List.mem_of_getElem? (i := 14) rfl)) (by (try dsimp only [room_1]); (try simp only [List.length_cons, List.length_nil]); omega) (by (try dsimp only [room_1]); (try simp only [List.length_cons, List.length_nil]); omega)) e3 (g := (mkF m 33 #[.val (.int (Int32.ofNat 1)), .val (.ref a)] [(.ref a2), (.ref a1), (.ref a1)])) rfl (by rw [hml]; rfl) (a := a1) (argsL := [(.ref a2)]) (rest := [(.ref a1)]) (lenOf pd_19 rfl) rfl (by show 2 * 0 + _ ≤ _; exact Nat.le_of_eq rfl) (hb hby dtx_33) rfl (by (try dsimp only [room_1]); (try simp only [List.length_cons, List.length_nil]); omega) (by (try dsimp only [room_1]); (try simp only [List.length_cons, List.length_nil]); omega) ?_
    rintro _ T99 L99 X99 ⟨rfl, N99, K99, E99, G99, t, F99, B99, ht⟩
    show Go p e below _ T99 (mkF m 36 #[.val (.int (Int32.ofNat 1)), .val (.ref a)] [(.ref a1)])
    have K09 : Keep h0 T99.heap [] := Kk.trans K99 (fun x q => Or.inr (by cases List.mem_singleton.mp q; omega))
    exact Go.retVW X99 hx (Bas.refl s 0) (Nat.zero_le _) hC0 (UX K09) hret hlk rfl rfl (hb hby dtx_36) ⟨a1, t, rfl, Fr.app Nk N99, K09, E99, G99, F99, B99⟩ (by (try dsimp only [room_1]); (try simp only [List.length_cons, List.length_nil]); omega) (by (try dsimp only [room_1]); (try simp only [List.length_cons, List.length_nil]); omega)
  refine Go.st (fun _ k => XS.icmpYes X0.here hx rfl (pc0 := 17) (pc' := 37) rfl (hb hby dtx_17) rfl (XT.ii_ne_t qn) (by decide) (by decide) k) ?_
  show Go p e below _ s₁ (mkF m 37 #[.val (.int (Int32.ofNat n)), .val (.ref a)] [])
  have nn1 : n ≠ 1 := fun z => qn (by rw [z]; rfl)
  clear qn
  refine Go.st (fun _ k => XS.iloadN X0.here hx rfl (hb hby dtx_37) rfl k) ?_
  show Go p e below _ s₁ (mkF m 38 #[.val (.int (Int32.ofNat n)), .val (.ref a)] [(.int (Int32.ofNat n))])
  refine Go.st (fun _ k => XS.iconst X0.here hx rfl (hb hby dtx_38) k) ?_
  show Go p e below _ s₁ (mkF m 39 #[.val (.int (Int32.ofNat n)), .val (.ref a)] [(.int (2 : Int32)), (.int (Int32.ofNat n))])
  by_cases qn : Int32.ofNat n = (2 : Int32)
  · skip
    refine Go.st (fun _ k => XS.icmpNo X0.here hx rfl (hb hby dtx_39) rfl (XT.ii_ne_f qn) k) ?_
    show Go p e below _ s₁ (mkF m 42 #[.val (.int (Int32.ofNat n)), .val (.ref a)] [])
    obtain rfl : n = 2 := by have q := congrArg Int32.toInt qn; rw [own_toInt (by omega)] at q; have q2 : ((2 : Int32)).toInt = 2 := rfl; omega
    clear qn
    show Go p e below _ s₁ (mkF m 42 #[.val (.int (Int32.ofNat 2)), .val (.ref a)] [])
    obtain ⟨T1, h1, X1, e1, E1, A1, D1, -, st1⟩ := newO X0 hx hZ hown (hw _ (List.mem_of_getElem? (i := 12) rfl)) (hw _ (List.mem_of_getElem? (i := 13) rfl)) (hw _ (List.mem_of_getElem? (i := 14) rfl)) e0 (g := (mkF m 42 #[.val (.int (Int32.ofNat 2)), .val (.ref a)] [])) rfl (hb hby dtx_42) (by (try dsimp only [room_1]); (try simp only [List.length_cons, List.length_nil]); omega) (by (try dsimp only [room_1]); (try simp only [List.length_cons, List.length_nil]); omega)
    obtain ⟨a1, g1⟩ : ∃ z, z = h0.size := ⟨_, rfl⟩
    rw [← g1] at A1 D1 st1
    have l1 : a1 < h1.size := A1.lt
    have sE1 := E1.1
    refine Go.st st1 ?_
    show Go p e below _ T1 (mkF m 45 #[.val (.int (Int32.ofNat 2)), .val (.ref a)] [(.ref a1)])
    refine Go.st (fun _ k => XS.dup X1.here hx rfl (hb hby dtx_45) rfl rfl k) ?_
    show Go p e below _ T1 (mkF m 46 #[.val (.int (Int32.ofNat 2)), .val (.ref a)] [(.ref a1), (.ref a1)])
    refine Go.st (fun _ k => XS.iconst X1.here hx rfl (hb hby dtx_46) k) ?_
    show Go p e below _ T1 (mkF m 47 #[.val (.int (Int32.ofNat 2)), .val (.ref a)] [(.int (2 : Int32)), (.ref a1), (.ref a1)])
    refine Go.newarr X1 hx hZ (ty := .char) rfl rfl (hw _ (List.mem_of_getElem? (i := 0) rfl)) e1 (g := (mkF m 47 #[.val (.int (Int32.ofNat 2)), .val (.ref a)] [(.int (2 : Int32)), (.ref a1), (.ref a1)])) rfl (hb hby dtx_47) rfl (n := 2) rfl (by decide) (by (try dsimp only [room_1]); (try simp only [List.length_cons, List.length_nil]); omega) (by (try dsimp only [room_1]); (try simp only [List.length_cons, List.length_nil]); omega) ?_
    rintro T2 h2 X2 e2 E2 l2 A2
    obtain ⟨a2, g2⟩ : ∃ z, z = h1.size := ⟨_, rfl⟩
    rw [← g2] at A2 l2 ⊢
    have sE2 := E2.1
    show Go p e below _ T2 (mkF m 49 #[.val (.int (Int32.ofNat 2)), .val (.ref a)] [(.ref a2), (.ref a1), (.ref a1)])
    refine Go.st (fun _ k => XS.dup X2.here hx rfl (hb hby dtx_49) rfl rfl k) ?_
    show Go p e below _ T2 (mkF m 50 #[.val (.int (Int32.ofNat 2)), .val (.ref a)] [(.ref a2), (.ref a2), (.ref a1), (.ref a1)])
    refine Go.st (fun _ k => XS.iconst X2.here hx rfl (hb hby dtx_50) k) ?_
    show Go p e below _ T2 (mkF m 51 #[.val (.int (Int32.ofNat 2)), .val (.ref a)] [(.int (0 : Int32)), (.ref a2), (.ref a2), (.ref a1), (.ref a1)])
    refine Go.st (fun _ k => XS.aloadN X2.here hx rfl (hb hby dtx_51) rfl rfl k) ?_
    show Go p e below _ T2 (mkF m 52 #[.val (.int (Int32.ofNat 2)), .val (.ref a)] [(.ref a), (.int (0 : Int32)), (.ref a2), (.ref a2), (.ref a1), (.ref a1)])
    refine Go.st (fun _ k => XS.iconst X2.here hx rfl (hb hby dtx_52) k) ?_
    show Go p e below _ T2 (mkF m 53 #[.val (.int (Int32.ofNat 2)), .val (.ref a)] [(.int (0 : Int32)), (.ref a), (.int (0 : Int32)), (.ref a2), (.ref a2), (.ref a1), (.ref a1)])
    have A_a := (A.ext E1).ext E2
    have na : a ≠ a2 := Nat.ne_of_lt (Nat.lt_of_lt_of_eq (A.ext E1).lt g2.symm)
    refine Go.caload X2 hx hZ e2 A_a (i := 0) (x := c0) rfl rfl (g := (mkF m 53 #[.val (.int (Int32.ofNat 2)), .val (.ref a)] [(.int (0 : Int32)), (.ref a), (.int (0 : Int32)), (.ref a2), (.ref a2), (.ref a1), (.ref a1)])) rfl rfl (hb hby dtx_53) ?_
    show Go p e below _ T2 (mkF m 54 #[.val (.int (Int32.ofNat 2)), .val (.ref a)] [(.int c0), (.int (0 : Int32)), (.ref a2), (.ref a2), (.ref a1), (.ref a1)])
    refine Go.castore X2 hx hZ e2 A2 (i := 0) rfl (by simp) (g := (mkF m 54 #[.val (.int (Int32.ofNat 2)), .val (.ref a)] [(.int c0), (.int (0 : Int32)), (.ref a2), (.ref a2), (.ref a1), (.ref a1)])) rfl rfl (hb hby dtx_54) ?_
    rintro T3 h3 X3 e3 W3 A3
    have sW3 := W3.size
    show Go p e below _ T3 (mkF m 55 #[.val (.int (Int32.ofNat 2)), .val (.ref a)] [(.ref a2), (.ref a1), (.ref a1)])
    have A_a3 := A_a.other W3 na
    refine Go.st (fun _ k => XS.dup X3.here hx rfl (hb hby dtx_55) rfl rfl k) ?_
    show Go p e below _ T3 (mkF m 56 #[.val (.int (Int32.ofNat 2)), .val (.ref a)] [(.ref a2), (.ref a2), (.ref a1), (.ref a1)])
    refine Go.st (fun _ k => XS.iconst X3.here hx rfl (hb hby dtx_56) k) ?_
    show Go p e below _ T3 (mkF m 57 #[.val (.int (Int32.ofNat 2)), .val (.ref a)] [(.int (1 : Int32)), (.ref a2), (.ref a2), (.ref a1), (.ref a1)])
    refine Go.st (fun _ k => XS.aloadN X3.here hx rfl (hb hby dtx_57) rfl rfl k) ?_
    show Go p e below _ T3 (mkF m 58 #[.val (.int (Int32.ofNat 2)), .val (.ref a)] [(.ref a), (.int (1 : Int32)), (.ref a2), (.ref a2), (.ref a1), (.ref a1)])
    refine Go.st (fun _ k => XS.iconst X3.here hx rfl (hb hby dtx_58) k) ?_
    show Go p e below _ T3 (mkF m 59 #[.val (.int (Int32.ofNat 2)), .val (.ref a)] [(.int (1 : Int32)), (.ref a), (.int (1 : Int32)), (.ref a2), (.ref a2), (.ref a1), (.ref a1)])
    refine Go.caload X3 hx hZ e3 A_a3 (i := 1) (x := c1) rfl rfl (g := (mkF m 59 #[.val (.int (Int32.ofNat 2)), .val (.ref a)] [(.int (1 : Int32)), (.ref a), (.int (1 : Int32)), (.ref a2), (.ref a2), (.ref a1), (.ref a1)])) rfl rfl (hb hby dtx_59) ?_
    show Go p e below _ T3 (mkF m 60 #[.val (.int (Int32.ofNat 2)), .val (.ref a)] [(.int c1), (.int (1 : Int32)), (.ref a2), (.ref a2), (.ref a1), (.ref a1)])
    refine Go.castore X3 hx hZ e3 A3 (i := 1) rfl (by simp) (g := (mkF m 60 #[.val (.int (Int32.ofNat 2)), .val (.ref a)] [(.int c1), (.int (1 : Int32)), (.ref a2), (.ref a2), (.ref a1), (.ref a1)])) rfl rfl (hb hby dtx_60) ?_
    rintro T4 h4 X4 e4 W4 A4
    have sW4 := W4.size
    show Go p e below _ T4 (mkF m 61 #[.val (.int (Int32.ofNat 2)), .val (.ref a)] [(.ref a2), (.ref a1), (.ref a1)])
    have A_a4 := A_a3.other W4 na
    have n12 : a1 ≠ a2 := Nat.ne_of_lt (by omega)
    have Ac : AI Z h4 a2 .char ([c0, c1] : List Int32) := by
      have q : AI Z h4 a2 .char [nar .char c0, nar .char c1] := A4
      rwa [e_0, e_1] at q
    have hp : ∀ c ∈ ([c0, c1] : List Int32), ¬ c < 0 ∧ ¬ (65535 : Int32) < c := fun c hc => hbd c (List.mem_of_mem_take (i := 2) hc)
    have Ok : Old Z n0 h4 := ((((X00.ext E1).ext E2).wr W3 (by omega)).wr W4 (by omega))
    have Kk : Keep h0 h4 [] := (((((Keep.refl h0 []).ext E1).ext E2).wr W3 (Or.inr (by omega))).wr W4 (Or.inr (by omega)))
    have Nk := (Fr.snoc X4 (Fr.snoc X3 (Fr.nil n0) (by omega)) (by omega))
    refine Go.callI X4 hx (y := (⟨"java/lang/String", "<init>", "([C)V"⟩ : MethodName)) rfl hown (mvT hZ (hw _ (List.mem_of_getElem? (i := 15) rfl))) (mvT hZ (hw _ (List.mem_of_getElem? (i := 16) rfl))) (mvT hZ (hw _ (List.mem_of_getElem? (i := 17) rfl))) (by decide) (Ctr.back (W := 1) (rmI1 l Z a0 hw z Su ([c0, c1] : List Int32) (by simp) (by simp) hp a1 a2 _ _ h4 n0 (by omega) (by omega) Ok (((A1.ext E2).wr W3).wr W4) ((((D1 (Or.inr (hw _ (List.mem_of_getElem? (i := 27) rfl))) (ty := (.array .byte)) (by decide)).ext E2).other W3 (Or.inl n12)).other W4 (Or.inl n12)) ((((D1 (Or.inr (hw _ (List.mem_of_getElem? (i := 28) rfl))) (ty := .byte) (by decide)).ext E2).other W3 (Or.inl n12)).other W4 (Or.inl n12)) Ac) hZ (hw _ (List.mem_of_getElem? (i := 17) rfl)) (hw _ (List.mem_of_getElem? (i := 14) rfl)) (by (try dsimp only [room_1]); (try simp only [List.length_cons, List.length_nil]); omega) (by (try dsimp only [room_1]); (try simp only [List.length_cons, List.length_nil]); omega)) e4 (g := (mkF m 61 #[.val (.int (Int32.ofNat 2)), .val (.ref a)] [(.ref a2), (.ref a1), (.ref a1)])) rfl (by rw [hml]; rfl) (a := a1) (argsL := [(.ref a2)]) (rest := [(.ref a1)]) (lenOf pd_19 rfl) rfl (by show 2 * 0 + _ ≤ _; exact Nat.le_of_eq rfl) (hb hby dtx_61) rfl (by (try dsimp only [room_1]); (try simp only [List.length_cons, List.length_nil]); omega) (by (try dsimp only [room_1]); (try simp only [List.length_cons, List.length_nil]); omega) ?_
    rintro _ T99 L99 X99 ⟨rfl, N99, K99, E99, G99, t, F99, B99, ht⟩
    show Go p e below _ T99 (mkF m 64 #[.val (.int (Int32.ofNat 2)), .val (.ref a)] [(.ref a1)])
    have K09 : Keep h0 T99.heap [] := Kk.trans K99 (fun x q => Or.inr (by cases List.mem_singleton.mp q; omega))
    exact Go.retVW X99 hx (Bas.refl s 0) (Nat.zero_le _) hC0 (UX K09) hret hlk rfl rfl (hb hby dtx_64) ⟨a1, t, rfl, Fr.app Nk N99, K09, E99, G99, F99, B99⟩ (by (try dsimp only [room_1]); (try simp only [List.length_cons, List.length_nil]); omega) (by (try dsimp only [room_1]); (try simp only [List.length_cons, List.length_nil]); omega)
  refine Go.st (fun _ k => XS.icmpYes X0.here hx rfl (pc0 := 39) (pc' := 65) rfl (hb hby dtx_39) rfl (XT.ii_ne_t qn) (by decide) (by decide) k) ?_
  show Go p e below _ s₁ (mkF m 65 #[.val (.int (Int32.ofNat n)), .val (.ref a)] [])
  have nn2 : n ≠ 2 := fun z => qn (by rw [z]; rfl)
  clear qn
  refine Go.st (fun _ k => XS.iloadN X0.here hx rfl (hb hby dtx_65) rfl k) ?_
  show Go p e below _ s₁ (mkF m 66 #[.val (.int (Int32.ofNat n)), .val (.ref a)] [(.int (Int32.ofNat n))])
  refine Go.st (fun _ k => XS.iconst X0.here hx rfl (hb hby dtx_66) k) ?_
  show Go p e below _ s₁ (mkF m 67 #[.val (.int (Int32.ofNat n)), .val (.ref a)] [(.int (3 : Int32)), (.int (Int32.ofNat n))])
  by_cases qn : Int32.ofNat n = (3 : Int32)
  · skip
    refine Go.st (fun _ k => XS.icmpNo X0.here hx rfl (hb hby dtx_67) rfl (XT.ii_ne_f qn) k) ?_
    show Go p e below _ s₁ (mkF m 70 #[.val (.int (Int32.ofNat n)), .val (.ref a)] [])
    obtain rfl : n = 3 := by have q := congrArg Int32.toInt qn; rw [own_toInt (by omega)] at q; have q2 : ((3 : Int32)).toInt = 3 := rfl; omega
    clear qn
    show Go p e below _ s₁ (mkF m 70 #[.val (.int (Int32.ofNat 3)), .val (.ref a)] [])
    obtain ⟨T1, h1, X1, e1, E1, A1, D1, -, st1⟩ := newO X0 hx hZ hown (hw _ (List.mem_of_getElem? (i := 12) rfl)) (hw _ (List.mem_of_getElem? (i := 13) rfl)) (hw _ (List.mem_of_getElem? (i := 14) rfl)) e0 (g := (mkF m 70 #[.val (.int (Int32.ofNat 3)), .val (.ref a)] [])) rfl (hb hby dtx_70) (by (try dsimp only [room_1]); (try simp only [List.length_cons, List.length_nil]); omega) (by (try dsimp only [room_1]); (try simp only [List.length_cons, List.length_nil]); omega)
    obtain ⟨a1, g1⟩ : ∃ z, z = h0.size := ⟨_, rfl⟩
    rw [← g1] at A1 D1 st1
    have l1 : a1 < h1.size := A1.lt
    have sE1 := E1.1
    refine Go.st st1 ?_
    show Go p e below _ T1 (mkF m 73 #[.val (.int (Int32.ofNat 3)), .val (.ref a)] [(.ref a1)])
    refine Go.st (fun _ k => XS.dup X1.here hx rfl (hb hby dtx_73) rfl rfl k) ?_
    show Go p e below _ T1 (mkF m 74 #[.val (.int (Int32.ofNat 3)), .val (.ref a)] [(.ref a1), (.ref a1)])
    refine Go.st (fun _ k => XS.iconst X1.here hx rfl (hb hby dtx_74) k) ?_
    show Go p e below _ T1 (mkF m 75 #[.val (.int (Int32.ofNat 3)), .val (.ref a)] [(.int (3 : Int32)), (.ref a1), (.ref a1)])
    refine Go.newarr X1 hx hZ (ty := .char) rfl rfl (hw _ (List.mem_of_getElem? (i := 0) rfl)) e1 (g := (mkF m 75 #[.val (.int (Int32.ofNat 3)), .val (.ref a)] [(.int (3 : Int32)), (.ref a1), (.ref a1)])) rfl (hb hby dtx_75) rfl (n := 3) rfl (by decide) (by (try dsimp only [room_1]); (try simp only [List.length_cons, List.length_nil]); omega) (by (try dsimp only [room_1]); (try simp only [List.length_cons, List.length_nil]); omega) ?_
    rintro T2 h2 X2 e2 E2 l2 A2
    obtain ⟨a2, g2⟩ : ∃ z, z = h1.size := ⟨_, rfl⟩
    rw [← g2] at A2 l2 ⊢
    have sE2 := E2.1
    show Go p e below _ T2 (mkF m 77 #[.val (.int (Int32.ofNat 3)), .val (.ref a)] [(.ref a2), (.ref a1), (.ref a1)])
    refine Go.st (fun _ k => XS.dup X2.here hx rfl (hb hby dtx_77) rfl rfl k) ?_
    show Go p e below _ T2 (mkF m 78 #[.val (.int (Int32.ofNat 3)), .val (.ref a)] [(.ref a2), (.ref a2), (.ref a1), (.ref a1)])
    refine Go.st (fun _ k => XS.iconst X2.here hx rfl (hb hby dtx_78) k) ?_
    show Go p e below _ T2 (mkF m 79 #[.val (.int (Int32.ofNat 3)), .val (.ref a)] [(.int (0 : Int32)), (.ref a2), (.ref a2), (.ref a1), (.ref a1)])
    refine Go.st (fun _ k => XS.aloadN X2.here hx rfl (hb hby dtx_79) rfl rfl k) ?_
    show Go p e below _ T2 (mkF m 80 #[.val (.int (Int32.ofNat 3)), .val (.ref a)] [(.ref a), (.int (0 : Int32)), (.ref a2), (.ref a2), (.ref a1), (.ref a1)])
    refine Go.st (fun _ k => XS.iconst X2.here hx rfl (hb hby dtx_80) k) ?_
    show Go p e below _ T2 (mkF m 81 #[.val (.int (Int32.ofNat 3)), .val (.ref a)] [(.int (0 : Int32)), (.ref a), (.int (0 : Int32)), (.ref a2), (.ref a2), (.ref a1), (.ref a1)])
    have A_a := (A.ext E1).ext E2
    have na : a ≠ a2 := Nat.ne_of_lt (Nat.lt_of_lt_of_eq (A.ext E1).lt g2.symm)
    refine Go.caload X2 hx hZ e2 A_a (i := 0) (x := c0) rfl rfl (g := (mkF m 81 #[.val (.int (Int32.ofNat 3)), .val (.ref a)] [(.int (0 : Int32)), (.ref a), (.int (0 : Int32)), (.ref a2), (.ref a2), (.ref a1), (.ref a1)])) rfl rfl (hb hby dtx_81) ?_
    show Go p e below _ T2 (mkF m 82 #[.val (.int (Int32.ofNat 3)), .val (.ref a)] [(.int c0), (.int (0 : Int32)), (.ref a2), (.ref a2), (.ref a1), (.ref a1)])
    refine Go.castore X2 hx hZ e2 A2 (i := 0) rfl (by simp) (g := (mkF m 82 #[.val (.int (Int32.ofNat 3)), .val (.ref a)] [(.int c0), (.int (0 : Int32)), (.ref a2), (.ref a2), (.ref a1), (.ref a1)])) rfl rfl (hb hby dtx_82) ?_
    rintro T3 h3 X3 e3 W3 A3
    have sW3 := W3.size
    show Go p e below _ T3 (mkF m 83 #[.val (.int (Int32.ofNat 3)), .val (.ref a)] [(.ref a2), (.ref a1), (.ref a1)])
    have A_a3 := A_a.other W3 na
    refine Go.st (fun _ k => XS.dup X3.here hx rfl (hb hby dtx_83) rfl rfl k) ?_
    show Go p e below _ T3 (mkF m 84 #[.val (.int (Int32.ofNat 3)), .val (.ref a)] [(.ref a2), (.ref a2), (.ref a1), (.ref a1)])
    refine Go.st (fun _ k => XS.iconst X3.here hx rfl (hb hby dtx_84) k) ?_
    show Go p e below _ T3 (mkF m 85 #[.val (.int (Int32.ofNat 3)), .val (.ref a)] [(.int (1 : Int32)), (.ref a2), (.ref a2), (.ref a1), (.ref a1)])
    refine Go.st (fun _ k => XS.aloadN X3.here hx rfl (hb hby dtx_85) rfl rfl k) ?_
    show Go p e below _ T3 (mkF m 86 #[.val (.int (Int32.ofNat 3)), .val (.ref a)] [(.ref a), (.int (1 : Int32)), (.ref a2), (.ref a2), (.ref a1), (.ref a1)])
    refine Go.st (fun _ k => XS.iconst X3.here hx rfl (hb hby dtx_86) k) ?_
    show Go p e below _ T3 (mkF m 87 #[.val (.int (Int32.ofNat 3)), .val (.ref a)] [(.int (1 : Int32)), (.ref a), (.int (1 : Int32)), (.ref a2), (.ref a2), (.ref a1), (.ref a1)])
    refine Go.caload X3 hx hZ e3 A_a3 (i := 1) (x := c1) rfl rfl (g := (mkF m 87 #[.val (.int (Int32.ofNat 3)), .val (.ref a)] [(.int (1 : Int32)), (.ref a), (.int (1 : Int32)), (.ref a2), (.ref a2), (.ref a1), (.ref a1)])) rfl rfl (hb hby dtx_87) ?_
    show Go p e below _ T3 (mkF m 88 #[.val (.int (Int32.ofNat 3)), .val (.ref a)] [(.int c1), (.int (1 : Int32)), (.ref a2), (.ref a2), (.ref a1), (.ref a1)])
    refine Go.castore X3 hx hZ e3 A3 (i := 1) rfl (by simp) (g := (mkF m 88 #[.val (.int (Int32.ofNat 3)), .val (.ref a)] [(.int c1), (.int (1 : Int32)), (.ref a2), (.ref a2), (.ref a1), (.ref a1)])) rfl rfl (hb hby dtx_88) ?_
    rintro T4 h4 X4 e4 W4 A4
    have sW4 := W4.size
    show Go p e below _ T4 (mkF m 89 #[.val (.int (Int32.ofNat 3)), .val (.ref a)] [(.ref a2), (.ref a1), (.ref a1)])
    have A_a4 := A_a3.other W4 na
    refine Go.st (fun _ k => XS.dup X4.here hx rfl (hb hby dtx_89) rfl rfl k) ?_
    show Go p e below _ T4 (mkF m 90 #[.val (.int (Int32.ofNat 3)), .val (.ref a)] [(.ref a2), (.ref a2), (.ref a1), (.ref a1)])
    refine Go.st (fun _ k => XS.iconst X4.here hx rfl (hb hby dtx_90) k) ?_
    show Go p e below _ T4 (mkF m 91 #[.val (.int (Int32.ofNat 3)), .val (.ref a)] [(.int (2 : Int32)), (.ref a2), (.ref a2), (.ref a1), (.ref a1)])
    refine Go.st (fun _ k => XS.aloadN X4.here hx rfl (hb hby dtx_91) rfl rfl k) ?_
    show Go p e below _ T4 (mkF m 92 #[.val (.int (Int32.ofNat 3)), .val (.ref a)] [(.ref a), (.int (2 : Int32)), (.ref a2), (.ref a2), (.ref a1), (.ref a1)])
    refine Go.st (fun _ k => XS.iconst X4.here hx rfl (hb hby dtx_92) k) ?_
    show Go p e below _ T4 (mkF m 93 #[.val (.int (Int32.ofNat 3)), .val (.ref a)] [(.int (2 : Int32)), (.ref a), (.int (2 : Int32)), (.ref a2), (.ref a2), (.ref a1), (.ref a1)])
    refine Go.caload X4 hx hZ e4 A_a4 (i := 2) (x := c2) rfl rfl (g := (mkF m 93 #[.val (.int (Int32.ofNat 3)), .val (.ref a)] [(.int (2 : Int32)), (.ref a), (.int (2 : Int32)), (.ref a2), (.ref a2), (.ref a1), (.ref a1)])) rfl rfl (hb hby dtx_93) ?_
    show Go p e below _ T4 (mkF m 94 #[.val (.int (Int32.ofNat 3)), .val (.ref a)] [(.int c2), (.int (2 : Int32)), (.ref a2), (.ref a2), (.ref a1), (.ref a1)])
    refine Go.castore X4 hx hZ e4 A4 (i := 2) rfl (by simp) (g := (mkF m 94 #[.val (.int (Int32.ofNat 3)), .val (.ref a)] [(.int c2), (.int (2 : Int32)), (.ref a2), (.ref a2), (.ref a1), (.ref a1)])) rfl rfl (hb hby dtx_94) ?_
    rintro T5 h5 X5 e5 W5 A5
    have sW5 := W5.size
    show Go p e below _ T5 (mkF m 95 #[.val (.int (Int32.ofNat 3)), .val (.ref a)] [(.ref a2), (.ref a1), (.ref a1)])
    have A_a5 := A_a4.other W5 na
    have n12 : a1 ≠ a2 := Nat.ne_of_lt (by omega)
    have Ac : AI Z h5 a2 .char ([c0, c1, c2] : List Int32) := by
      have q : AI Z h5 a2 .char [nar .char c0, nar .char c1, nar .char c2] := A5
      rwa [e_0, e_1, e_2] at q
    have hp : ∀ c ∈ ([c0, c1, c2] : List Int32), ¬ c < 0 ∧ ¬ (65535 : Int32) < c := fun c hc => hbd c (List.mem_of_mem_take (i := 3) hc)
    have Ok : Old Z n0 h5 := (((((X00.ext E1).ext E2).wr W3 (by omega)).wr W4 (by omega)).wr W5 (by omega))
    have Kk : Keep h0 h5 [] := ((((((Keep.refl h0 []).ext E1).ext E2).wr W3 (Or.inr (by omega))).wr W4 (Or.inr (by omega))).wr W5 (Or.inr (by omega)))
    have Nk := (Fr.snoc X5 (Fr.snoc X4 (Fr.snoc X3 (Fr.nil n0) (by omega)) (by omega)) (by omega))
    refine Go.callI X5 hx (y := (⟨"java/lang/String", "<init>", "([C)V"⟩ : MethodName)) rfl hown (mvT hZ (hw _ (List.mem_of_getElem? (i := 15) rfl))) (mvT hZ (hw _ (List.mem_of_getElem? (i := 16) rfl))) (mvT hZ (hw _ (List.mem_of_getElem? (i := 17) rfl))) (by decide) (Ctr.back (W := 1) (rmI1 l Z a0 hw z Su ([c0, c1, c2] : List Int32) (by simp) (by simp) hp a1 a2 _ _ h5 n0 (by omega) (by omega) Ok ((((A1.ext E2).wr W3).wr W4).wr W5) (((((D1 (Or.inr (hw _ (List.mem_of_getElem? (i := 27) rfl))) (ty := (.array .byte)) (by decide)).ext E2).other W3 (Or.inl n12)).other W4 (Or.inl n12)).other W5 (Or.inl n12)) (((((D1 (Or.inr (hw _ (List.mem_of_getElem? (i := 28) rfl))) (ty := .byte) (by decide)).ext E2).other W3 (Or.inl n12)).other W4 (Or.inl n12)).other W5 (Or.inl n12)) Ac) hZ (hw _ (List.mem_of_getElem? (i := 17) rfl)) (hw _ (List.mem_of_getElem? (i := 14) rfl)) (by (try dsimp only [room_1]); (try simp only [List.length_cons, List.length_nil]); omega) (by (try dsimp only [room_1]); (try simp only [List.length_cons, List.length_nil]); omega)) e5 (g := (mkF m 95 #[.val (.int (Int32.ofNat 3)), .val (.ref a)] [(.ref a2), (.ref a1), (.ref a1)])) rfl (by rw [hml]; rfl) (a := a1) (argsL := [(.ref a2)]) (rest := [(.ref a1)]) (lenOf pd_19 rfl) rfl (by show 2 * 0 + _ ≤ _; exact Nat.le_of_eq rfl) (hb hby dtx_95) rfl (by (try dsimp only [room_1]); (try simp only [List.length_cons, List.length_nil]); omega) (by (try dsimp only [room_1]); (try simp only [List.length_cons, List.length_nil]); omega) ?_
    rintro _ T99 L99 X99 ⟨rfl, N99, K99, E99, G99, t, F99, B99, ht⟩
    show Go p e below _ T99 (mkF m 98 #[.val (.int (Int32.ofNat 3)), .val (.ref a)] [(.ref a1)])
    have K09 : Keep h0 T99.heap [] := Kk.trans K99 (fun x q => Or.inr (by cases List.mem_singleton.mp q; omega))
    exact Go.retVW X99 hx (Bas.refl s 0) (Nat.zero_le _) hC0 (UX K09) hret hlk rfl rfl (hb hby dtx_98) ⟨a1, t, rfl, Fr.app Nk N99, K09, E99, G99, F99, B99⟩ (by (try dsimp only [room_1]); (try simp only [List.length_cons, List.length_nil]); omega) (by (try dsimp only [room_1]); (try simp only [List.length_cons, List.length_nil]); omega)
  refine Go.st (fun _ k => XS.icmpYes X0.here hx rfl (pc0 := 67) (pc' := 99) rfl (hb hby dtx_67) rfl (XT.ii_ne_t qn) (by decide) (by decide) k) ?_
  show Go p e below _ s₁ (mkF m 99 #[.val (.int (Int32.ofNat n)), .val (.ref a)] [])
  have nn3 : n ≠ 3 := fun z => qn (by rw [z]; rfl)
  clear qn
  refine Go.st (fun _ k => XS.iloadN X0.here hx rfl (hb hby dtx_99) rfl k) ?_
  show Go p e below _ s₁ (mkF m 100 #[.val (.int (Int32.ofNat n)), .val (.ref a)] [(.int (Int32.ofNat n))])
  refine Go.st (fun _ k => XS.iconst X0.here hx rfl (hb hby dtx_100) k) ?_
  show Go p e below _ s₁ (mkF m 101 #[.val (.int (Int32.ofNat n)), .val (.ref a)] [(.int (4 : Int32)), (.int (Int32.ofNat n))])
  by_cases qn : Int32.ofNat n = (4 : Int32)
  · skip
    refine Go.st (fun _ k => XS.icmpNo X0.here hx rfl (hb hby dtx_101) rfl (XT.ii_ne_f qn) k) ?_
    show Go p e below _ s₁ (mkF m 104 #[.val (.int (Int32.ofNat n)), .val (.ref a)] [])
    obtain rfl : n = 4 := by have q := congrArg Int32.toInt qn; rw [own_toInt (by omega)] at q; have q2 : ((4 : Int32)).toInt = 4 := rfl; omega
    clear qn
    show Go p e below _ s₁ (mkF m 104 #[.val (.int (Int32.ofNat 4)), .val (.ref a)] [])
    obtain ⟨T1, h1, X1, e1, E1, A1, D1, -, st1⟩ := newO X0 hx hZ hown (hw _ (List.mem_of_getElem? (i := 12) rfl)) (hw _ (List.mem_of_getElem? (i := 13) rfl)) (hw _ (List.mem_of_getElem? (i := 14) rfl)) e0 (g := (mkF m 104 #[.val (.int (Int32.ofNat 4)), .val (.ref a)] [])) rfl (hb hby dtx_104) (by (try dsimp only [room_1]); (try simp only [List.length_cons, List.length_nil]); omega) (by (try dsimp only [room_1]); (try simp only [List.length_cons, List.length_nil]); omega)
    obtain ⟨a1, g1⟩ : ∃ z, z = h0.size := ⟨_, rfl⟩
    rw [← g1] at A1 D1 st1
    have l1 : a1 < h1.size := A1.lt
    have sE1 := E1.1
    refine Go.st st1 ?_
    show Go p e below _ T1 (mkF m 107 #[.val (.int (Int32.ofNat 4)), .val (.ref a)] [(.ref a1)])
    refine Go.st (fun _ k => XS.dup X1.here hx rfl (hb hby dtx_107) rfl rfl k) ?_
    show Go p e below _ T1 (mkF m 108 #[.val (.int (Int32.ofNat 4)), .val (.ref a)] [(.ref a1), (.ref a1)])
    refine Go.st (fun _ k => XS.iconst X1.here hx rfl (hb hby dtx_108) k) ?_
    show Go p e below _ T1 (mkF m 109 #[.val (.int (Int32.ofNat 4)), .val (.ref a)] [(.int (4 : Int32)), (.ref a1), (.ref a1)])
    refine Go.newarr X1 hx hZ (ty := .char) rfl rfl (hw _ (List.mem_of_getElem? (i := 0) rfl)) e1 (g := (mkF m 109 #[.val (.int (Int32.ofNat 4)), .val (.ref a)] [(.int (4 : Int32)), (.ref a1), (.ref a1)])) rfl (hb hby dtx_109) rfl (n := 4) rfl (by decide) (by (try dsimp only [room_1]); (try simp only [List.length_cons, List.length_nil]); omega) (by (try dsimp only [room_1]); (try simp only [List.length_cons, List.length_nil]); omega) ?_
    rintro T2 h2 X2 e2 E2 l2 A2
    obtain ⟨a2, g2⟩ : ∃ z, z = h1.size := ⟨_, rfl⟩
    rw [← g2] at A2 l2 ⊢
    have sE2 := E2.1
    show Go p e below _ T2 (mkF m 111 #[.val (.int (Int32.ofNat 4)), .val (.ref a)] [(.ref a2), (.ref a1), (.ref a1)])
    refine Go.st (fun _ k => XS.dup X2.here hx rfl (hb hby dtx_111) rfl rfl k) ?_
    show Go p e below _ T2 (mkF m 112 #[.val (.int (Int32.ofNat 4)), .val (.ref a)] [(.ref a2), (.ref a2), (.ref a1), (.ref a1)])
    refine Go.st (fun _ k => XS.iconst X2.here hx rfl (hb hby dtx_112) k) ?_
    show Go p e below _ T2 (mkF m 113 #[.val (.int (Int32.ofNat 4)), .val (.ref a)] [(.int (0 : Int32)), (.ref a2), (.ref a2), (.ref a1), (.ref a1)])
    refine Go.st (fun _ k => XS.aloadN X2.here hx rfl (hb hby dtx_113) rfl rfl k) ?_
    show Go p e below _ T2 (mkF m 114 #[.val (.int (Int32.ofNat 4)), .val (.ref a)] [(.ref a), (.int (0 : Int32)), (.ref a2), (.ref a2), (.ref a1), (.ref a1)])
    refine Go.st (fun _ k => XS.iconst X2.here hx rfl (hb hby dtx_114) k) ?_
    show Go p e below _ T2 (mkF m 115 #[.val (.int (Int32.ofNat 4)), .val (.ref a)] [(.int (0 : Int32)), (.ref a), (.int (0 : Int32)), (.ref a2), (.ref a2), (.ref a1), (.ref a1)])
    have A_a := (A.ext E1).ext E2
    have na : a ≠ a2 := Nat.ne_of_lt (Nat.lt_of_lt_of_eq (A.ext E1).lt g2.symm)
    refine Go.caload X2 hx hZ e2 A_a (i := 0) (x := c0) rfl rfl (g := (mkF m 115 #[.val (.int (Int32.ofNat 4)), .val (.ref a)] [(.int (0 : Int32)), (.ref a), (.int (0 : Int32)), (.ref a2), (.ref a2), (.ref a1), (.ref a1)])) rfl rfl (hb hby dtx_115) ?_
    show Go p e below _ T2 (mkF m 116 #[.val (.int (Int32.ofNat 4)), .val (.ref a)] [(.int c0), (.int (0 : Int32)), (.ref a2), (.ref a2), (.ref a1), (.ref a1)])
    refine Go.castore X2 hx hZ e2 A2 (i := 0) rfl (by simp) (g := (mkF m 116 #[.val (.int (Int32.ofNat 4)), .val (.ref a)] [(.int c0), (.int (0 : Int32)), (.ref a2), (.ref a2), (.ref a1), (.ref a1)])) rfl rfl (hb hby dtx_116) ?_
    rintro T3 h3 X3 e3 W3 A3
    have sW3 := W3.size
    show Go p e below _ T3 (mkF m 117 #[.val (.int (Int32.ofNat 4)), .val (.ref a)] [(.ref a2), (.ref a1), (.ref a1)])
    have A_a3 := A_a.other W3 na
    refine Go.st (fun _ k => XS.dup X3.here hx rfl (hb hby dtx_117) rfl rfl k) ?_
    show Go p e below _ T3 (mkF m 118 #[.val (.int (Int32.ofNat 4)), .val (.ref a)] [(.ref a2), (.ref a2), (.ref a1), (.ref a1)])
    refine Go.st (fun _ k => XS.iconst X3.here hx rfl (hb hby dtx_118) k) ?_
    show Go p e below _ T3 (mkF m 119 #[.val (.int (Int32.ofNat 4)), .val (.ref a)] [(.int (1 : Int32)), (.ref a2), (.ref a2), (.ref a1), (.ref a1)])
    refine Go.st (fun _ k => XS.aloadN X3.here hx rfl (hb hby dtx_119) rfl rfl k) ?_
    show Go p e below _ T3 (mkF m 120 #[.val (.int (Int32.ofNat 4)), .val (.ref a)] [(.ref a), (.int (1 : Int32)), (.ref a2), (.ref a2), (.ref a1), (.ref a1)])
    refine Go.st (fun _ k => XS.iconst X3.here hx rfl (hb hby dtx_120) k) ?_
    show Go p e below _ T3 (mkF m 121 #[.val (.int (Int32.ofNat 4)), .val (.ref a)] [(.int (1 : Int32)), (.ref a), (.int (1 : Int32)), (.ref a2), (.ref a2), (.ref a1), (.ref a1)])
    refine Go.caload X3 hx hZ e3 A_a3 (i := 1) (x := c1) rfl rfl (g := (mkF m 121 #[.val (.int (Int32.ofNat 4)), .val (.ref a)] [(.int (1 : Int32)), (.ref a), (.int (1 : Int32)), (.ref a2), (.ref a2), (.ref a1), (.ref a1)])) rfl rfl (hb hby dtx_121) ?_
    show Go p e below _ T3 (mkF m 122 #[.val (.int (Int32.ofNat 4)), .val (.ref a)] [(.int c1), (.int (1 : Int32)), (.ref a2), (.ref a2), (.ref a1), (.ref a1)])
    refine Go.castore X3 hx hZ e3 A3 (i := 1) rfl (by simp) (g := (mkF m 122 #[.val (.int (Int32.ofNat 4)), .val (.ref a)] [(.int c1), (.int (1 : Int32)), (.ref a2), (.ref a2), (.ref a1), (.ref a1)])) rfl rfl (hb hby dtx_122) ?_
    rintro T4 h4 X4 e4 W4 A4
    have sW4 := W4.size
    show Go p e below _ T4 (mkF m 123 #[.val (.int (Int32.ofNat 4)), .val (.ref a)] [(.ref a2), (.ref a1), (.ref a1)])
    have A_a4 := A_a3.other W4 na
    refine Go.st (fun _ k => XS.dup X4.here hx rfl (hb hby dtx_123) rfl rfl k) ?_
    show Go p e below _ T4 (mkF m 124 #[.val (.int (Int32.ofNat 4)), .val (.ref a)] [(.ref a2), (.ref a2), (.ref a1), (.ref a1)])
    refine Go.st (fun _ k => XS.iconst X4.here hx rfl (hb hby dtx_124) k) ?_
    show Go p e below _ T4 (mkF m 125 #[.val (.int (Int32.ofNat 4)), .val (.ref a)] [(.int (2 : Int32)), (.ref a2), (.ref a2), (.ref a1), (.ref a1)])
    refine Go.st (fun _ k => XS.aloadN X4.here hx rfl (hb hby dtx_125) rfl rfl k) ?_
    show Go p e below _ T4 (mkF m 126 #[.val (.int (Int32.ofNat 4)), .val (.ref a)] [(.ref a), (.int (2 : Int32)), (.ref a2), (.ref a2), (.ref a1), (.ref a1)])
    refine Go.st (fun _ k => XS.iconst X4.here hx rfl (hb hby dtx_126) k) ?_
    show Go p e below _ T4 (mkF m 127 #[.val (.int (Int32.ofNat 4)), .val (.ref a)] [(.int (2 : Int32)), (.ref a), (.int (2 : Int32)), (.ref a2), (.ref a2), (.ref a1), (.ref a1)])
    refine Go.caload X4 hx hZ e4 A_a4 (i := 2) (x := c2) rfl rfl (g := (mkF m 127 #[.val (.int (Int32.ofNat 4)), .val (.ref a)] [(.int (2 : Int32)), (.ref a), (.int (2 : Int32)), (.ref a2), (.ref a2), (.ref a1), (.ref a1)])) rfl rfl (hb hby dtx_127) ?_
    show Go p e below _ T4 (mkF m 128 #[.val (.int (Int32.ofNat 4)), .val (.ref a)] [(.int c2), (.int (2 : Int32)), (.ref a2), (.ref a2), (.ref a1), (.ref a1)])
    refine Go.castore X4 hx hZ e4 A4 (i := 2) rfl (by simp) (g := (mkF m 128 #[.val (.int (Int32.ofNat 4)), .val (.ref a)] [(.int c2), (.int (2 : Int32)), (.ref a2), (.ref a2), (.ref a1), (.ref a1)])) rfl rfl (hb hby dtx_128) ?_
    rintro T5 h5 X5 e5 W5 A5
    have sW5 := W5.size
    show Go p e below _ T5 (mkF m 129 #[.val (.int (Int32.ofNat 4)), .val (.ref a)] [(.ref a2), (.ref a1), (.ref a1)])
    have A_a5 := A_a4.other W5 na
    refine Go.st (fun _ k => XS.dup X5.here hx rfl (hb hby dtx_129) rfl rfl k) ?_
    show Go p e below _ T5 (mkF m 130 #[.val (.int (Int32.ofNat 4)), .val (.ref a)] [(.ref a2), (.ref a2), (.ref a1), (.ref a1)])
    refine Go.st (fun _ k => XS.iconst X5.here hx rfl (hb hby dtx_130) k) ?_
    show Go p e below _ T5 (mkF m 131 #[.val (.int (Int32.ofNat 4)), .val (.ref a)] [(.int (3 : Int32)), (.ref a2), (.ref a2), (.ref a1), (.ref a1)])
    refine Go.st (fun _ k => XS.aloadN X5.here hx rfl (hb hby dtx_131) rfl rfl k) ?_
    show Go p e below _ T5 (mkF m 132 #[.val (.int (Int32.ofNat 4)), .val (.ref a)] [(.ref a), (.int (3 : Int32)), (.ref a2), (.ref a2), (.ref a1), (.ref a1)])
    refine Go.st (fun _ k => XS.iconst X5.here hx rfl (hb hby dtx_132) k) ?_
    show Go p e below _ T5 (mkF m 133 #[.val (.int (Int32.ofNat 4)), .val (.ref a)] [(.int (3 : Int32)), (.ref a), (.int (3 : Int32)), (.ref a2), (.ref a2), (.ref a1), (.ref a1)])
    refine Go.caload X5 hx hZ e5 A_a5 (i := 3) (x := c3) rfl rfl (g := (mkF m 133 #[.val (.int (Int32.ofNat 4)), .val (.ref a)] [(.int (3 : Int32)), (.ref a), (.int (3 : Int32)), (.ref a2), (.ref a2), (.ref a1), (.ref a1)])) rfl rfl (hb hby dtx_133) ?_
    show Go p e below _ T5 (mkF m 134 #[.val (.int (Int32.ofNat 4)), .val (.ref a)] [(.int c3), (.int (3 : Int32)), (.ref a2), (.ref a2), (.ref a1), (.ref a1)])
    refine Go.castore X5 hx hZ e5 A5 (i := 3) rfl (by simp) (g := (mkF m 134 #[.val (.int (Int32.ofNat 4)), .val (.ref a)] [(.int c3), (.int (3 : Int32)), (.ref a2), (.ref a2), (.ref a1), (.ref a1)])) rfl rfl (hb hby dtx_134) ?_
    rintro T6 h6 X6 e6 W6 A6
    have sW6 := W6.size
    show Go p e below _ T6 (mkF m 135 #[.val (.int (Int32.ofNat 4)), .val (.ref a)] [(.ref a2), (.ref a1), (.ref a1)])
    have A_a6 := A_a5.other W6 na
    have n12 : a1 ≠ a2 := Nat.ne_of_lt (by omega)
    have Ac : AI Z h6 a2 .char ([c0, c1, c2, c3] : List Int32) := by
      have q : AI Z h6 a2 .char [nar .char c0, nar .char c1, nar .char c2, nar .char c3] := A6
      rwa [e_0, e_1, e_2, e_3] at q
    have hp : ∀ c ∈ ([c0, c1, c2, c3] : List Int32), ¬ c < 0 ∧ ¬ (65535 : Int32) < c := fun c hc => hbd c (List.mem_of_mem_take (i := 4) hc)
    have Ok : Old Z n0 h6 := ((((((X00.ext E1).ext E2).wr W3 (by omega)).wr W4 (by omega)).wr W5 (by omega)).wr W6 (by omega))
    have Kk : Keep h0 h6 [] := (((((((Keep.refl h0 []).ext E1).ext E2).wr W3 (Or.inr (by omega))).wr W4 (Or.inr (by omega))).wr W5 (Or.inr (by omega))).wr W6 (Or.inr (by omega)))
    have Nk := (Fr.snoc X6 (Fr.snoc X5 (Fr.snoc X4 (Fr.snoc X3 (Fr.nil n0) (by omega)) (by omega)) (by omega)) (by omega))
    refine Go.callI X6 hx (y := (⟨"java/lang/String", "<init>", "([C)V"⟩ : MethodName)) rfl hown (mvT hZ (hw _ (List.mem_of_getElem? (i := 15) rfl))) (mvT hZ (hw _ (List.mem_of_getElem? (i := 16) rfl))) (mvT hZ (hw _ (List.mem_of_getElem? (i := 17) rfl))) (by decide) (Ctr.back (W := 1) (rmI1 l Z a0 hw z Su ([c0, c1, c2, c3] : List Int32) (by simp) (by simp) hp a1 a2 _ _ h6 n0 (by omega) (by omega) Ok (((((A1.ext E2).wr W3).wr W4).wr W5).wr W6) ((((((D1 (Or.inr (hw _ (List.mem_of_getElem? (i := 27) rfl))) (ty := (.array .byte)) (by decide)).ext E2).other W3 (Or.inl n12)).other W4 (Or.inl n12)).other W5 (Or.inl n12)).other W6 (Or.inl n12)) ((((((D1 (Or.inr (hw _ (List.mem_of_getElem? (i := 28) rfl))) (ty := .byte) (by decide)).ext E2).other W3 (Or.inl n12)).other W4 (Or.inl n12)).other W5 (Or.inl n12)).other W6 (Or.inl n12)) Ac) hZ (hw _ (List.mem_of_getElem? (i := 17) rfl)) (hw _ (List.mem_of_getElem? (i := 14) rfl)) (by (try dsimp only [room_1]); (try simp only [List.length_cons, List.length_nil]); omega) (by (try dsimp only [room_1]); (try simp only [List.length_cons, List.length_nil]); omega)) e6 (g := (mkF m 135 #[.val (.int (Int32.ofNat 4)), .val (.ref a)] [(.ref a2), (.ref a1), (.ref a1)])) rfl (by rw [hml]; rfl) (a := a1) (argsL := [(.ref a2)]) (rest := [(.ref a1)]) (lenOf pd_19 rfl) rfl (by show 2 * 0 + _ ≤ _; exact Nat.le_of_eq rfl) (hb hby dtx_135) rfl (by (try dsimp only [room_1]); (try simp only [List.length_cons, List.length_nil]); omega) (by (try dsimp only [room_1]); (try simp only [List.length_cons, List.length_nil]); omega) ?_
    rintro _ T99 L99 X99 ⟨rfl, N99, K99, E99, G99, t, F99, B99, ht⟩
    show Go p e below _ T99 (mkF m 138 #[.val (.int (Int32.ofNat 4)), .val (.ref a)] [(.ref a1)])
    have K09 : Keep h0 T99.heap [] := Kk.trans K99 (fun x q => Or.inr (by cases List.mem_singleton.mp q; omega))
    exact Go.retVW X99 hx (Bas.refl s 0) (Nat.zero_le _) hC0 (UX K09) hret hlk rfl rfl (hb hby dtx_138) ⟨a1, t, rfl, Fr.app Nk N99, K09, E99, G99, F99, B99⟩ (by (try dsimp only [room_1]); (try simp only [List.length_cons, List.length_nil]); omega) (by (try dsimp only [room_1]); (try simp only [List.length_cons, List.length_nil]); omega)
  refine Go.st (fun _ k => XS.icmpYes X0.here hx rfl (pc0 := 101) (pc' := 139) rfl (hb hby dtx_101) rfl (XT.ii_ne_t qn) (by decide) (by decide) k) ?_
  show Go p e below _ s₁ (mkF m 139 #[.val (.int (Int32.ofNat n)), .val (.ref a)] [])
  have nn4 : n ≠ 4 := fun z => qn (by rw [z]; rfl)
  clear qn
  refine Go.st (fun _ k => XS.iloadN X0.here hx rfl (hb hby dtx_139) rfl k) ?_
  show Go p e below _ s₁ (mkF m 140 #[.val (.int (Int32.ofNat n)), .val (.ref a)] [(.int (Int32.ofNat n))])
  refine Go.st (fun _ k => XS.iconst X0.here hx rfl (hb hby dtx_140) k) ?_
  show Go p e below _ s₁ (mkF m 141 #[.val (.int (Int32.ofNat n)), .val (.ref a)] [(.int (5 : Int32)), (.int (Int32.ofNat n))])
  by_cases qn : Int32.ofNat n = (5 : Int32)
  · skip
    refine Go.st (fun _ k => XS.icmpNo X0.here hx rfl (hb hby dtx_141) rfl (XT.ii_ne_f qn) k) ?_
    show Go p e below _ s₁ (mkF m 144 #[.val (.int (Int32.ofNat n)), .val (.ref a)] [])
    obtain rfl : n = 5 := by have q := congrArg Int32.toInt qn; rw [own_toInt (by omega)] at q; have q2 : ((5 : Int32)).toInt = 5 := rfl; omega
    clear qn
    show Go p e below _ s₁ (mkF m 144 #[.val (.int (Int32.ofNat 5)), .val (.ref a)] [])
    obtain ⟨T1, h1, X1, e1, E1, A1, D1, -, st1⟩ := newO X0 hx hZ hown (hw _ (List.mem_of_getElem? (i := 12) rfl)) (hw _ (List.mem_of_getElem? (i := 13) rfl)) (hw _ (List.mem_of_getElem? (i := 14) rfl)) e0 (g := (mkF m 144 #[.val (.int (Int32.ofNat 5)), .val (.ref a)] [])) rfl (hb hby dtx_144) (by (try dsimp only [room_1]); (try simp only [List.length_cons, List.length_nil]); omega) (by (try dsimp only [room_1]); (try simp only [List.length_cons, List.length_nil]); omega)
    obtain ⟨a1, g1⟩ : ∃ z, z = h0.size := ⟨_, rfl⟩
    rw [← g1] at A1 D1 st1
    have l1 : a1 < h1.size := A1.lt
    have sE1 := E1.1
    refine Go.st st1 ?_
    show Go p e below _ T1 (mkF m 147 #[.val (.int (Int32.ofNat 5)), .val (.ref a)] [(.ref a1)])
    refine Go.st (fun _ k => XS.dup X1.here hx rfl (hb hby dtx_147) rfl rfl k) ?_
    show Go p e below _ T1 (mkF m 148 #[.val (.int (Int32.ofNat 5)), .val (.ref a)] [(.ref a1), (.ref a1)])
    refine Go.st (fun _ k => XS.iconst X1.here hx rfl (hb hby dtx_148) k) ?_
    show Go p e below _ T1 (mkF m 149 #[.val (.int (Int32.ofNat 5)), .val (.ref a)] [(.int (5 : Int32)), (.ref a1), (.ref a1)])
    refine Go.newarr X1 hx hZ (ty := .char) rfl rfl (hw _ (List.mem_of_getElem? (i := 0) rfl)) e1 (g := (mkF m 149 #[.val (.int (Int32.ofNat 5)), .val (.ref a)] [(.int (5 : Int32)), (.ref a1), (.ref a1)])) rfl (hb hby dtx_149) rfl (n := 5) rfl (by decide) (by (try dsimp only [room_1]); (try simp only [List.length_cons, List.length_nil]); omega) (by (try dsimp only [room_1]); (try simp only [List.length_cons, List.length_nil]); omega) ?_
    rintro T2 h2 X2 e2 E2 l2 A2
    obtain ⟨a2, g2⟩ : ∃ z, z = h1.size := ⟨_, rfl⟩
    rw [← g2] at A2 l2 ⊢
    have sE2 := E2.1
    show Go p e below _ T2 (mkF m 151 #[.val (.int (Int32.ofNat 5)), .val (.ref a)] [(.ref a2), (.ref a1), (.ref a1)])
    refine Go.st (fun _ k => XS.dup X2.here hx rfl (hb hby dtx_151) rfl rfl k) ?_
    show Go p e below _ T2 (mkF m 152 #[.val (.int (Int32.ofNat 5)), .val (.ref a)] [(.ref a2), (.ref a2), (.ref a1), (.ref a1)])
    refine Go.st (fun _ k => XS.iconst X2.here hx rfl (hb hby dtx_152) k) ?_
    show Go p e below _ T2 (mkF m 153 #[.val (.int (Int32.ofNat 5)), .val (.ref a)] [(.int (0 : Int32)), (.ref a2), (.ref a2), (.ref a1), (.ref a1)])
    refine Go.st (fun _ k => XS.aloadN X2.here hx rfl (hb hby dtx_153) rfl rfl k) ?_
    show Go p e below _ T2 (mkF m 154 #[.val (.int (Int32.ofNat 5)), .val (.ref a)] [(.ref a), (.int (0 : Int32)), (.ref a2), (.ref a2), (.ref a1), (.ref a1)])
    refine Go.st (fun _ k => XS.iconst X2.here hx rfl (hb hby dtx_154) k) ?_
    show Go p e below _ T2 (mkF m 155 #[.val (.int (Int32.ofNat 5)), .val (.ref a)] [(.int (0 : Int32)), (.ref a), (.int (0 : Int32)), (.ref a2), (.ref a2), (.ref a1), (.ref a1)])
    have A_a := (A.ext E1).ext E2
    have na : a ≠ a2 := Nat.ne_of_lt (Nat.lt_of_lt_of_eq (A.ext E1).lt g2.symm)
    refine Go.caload X2 hx hZ e2 A_a (i := 0) (x := c0) rfl rfl (g := (mkF m 155 #[.val (.int (Int32.ofNat 5)), .val (.ref a)] [(.int (0 : Int32)), (.ref a), (.int (0 : Int32)), (.ref a2), (.ref a2), (.ref a1), (.ref a1)])) rfl rfl (hb hby dtx_155) ?_
    show Go p e below _ T2 (mkF m 156 #[.val (.int (Int32.ofNat 5)), .val (.ref a)] [(.int c0), (.int (0 : Int32)), (.ref a2), (.ref a2), (.ref a1), (.ref a1)])
    refine Go.castore X2 hx hZ e2 A2 (i := 0) rfl (by simp) (g := (mkF m 156 #[.val (.int (Int32.ofNat 5)), .val (.ref a)] [(.int c0), (.int (0 : Int32)), (.ref a2), (.ref a2), (.ref a1), (.ref a1)])) rfl rfl (hb hby dtx_156) ?_
    rintro T3 h3 X3 e3 W3 A3
    have sW3 := W3.size
    show Go p e below _ T3 (mkF m 157 #[.val (.int (Int32.ofNat 5)), .val (.ref a)] [(.ref a2), (.ref a1), (.ref a1)])
    have A_a3 := A_a.other W3 na
    refine Go.st (fun _ k => XS.dup X3.here hx rfl (hb hby dtx_157) rfl rfl k) ?_
    show Go p e below _ T3 (mkF m 158 #[.val (.int (Int32.ofNat 5)), .val (.ref a)] [(.ref a2), (.ref a2), (.ref a1), (.ref a1)])
    refine Go.st (fun _ k => XS.iconst X3.here hx rfl (hb hby dtx_158) k) ?_
    show Go p e below _ T3 (mkF m 159 #[.val (.int (Int32.ofNat 5)), .val (.ref a)] [(.int (1 : Int32)), (.ref a2), (.ref a2), (.ref a1), (.ref a1)])
    refine Go.st (fun _ k => XS.aloadN X3.here hx rfl (hb hby dtx_159) rfl rfl k) ?_
    show Go p e below _ T3 (mkF m 160 #[.val (.int (Int32.ofNat 5)), .val (.ref a)] [(.ref a), (.int (1 : Int32)), (.ref a2), (.ref a2), (.ref a1), (.ref a1)])
    refine Go.st (fun _ k => XS.iconst X3.here hx rfl (hb hby dtx_160) k) ?_
    show Go p e below _ T3 (mkF m 161 #[.val (.int (Int32.ofNat 5)), .val (.ref a)] [(.int (1 : Int32)), (.ref a), (.int (1 : Int32)), (.ref a2), (.ref a2), (.ref a1), (.ref a1)])
    refine Go.caload X3 hx hZ e3 A_a3 (i := 1) (x := c1) rfl rfl (g := (mkF m 161 #[.val (.int (Int32.ofNat 5)), .val (.ref a)] [(.int (1 : Int32)), (.ref a), (.int (1 : Int32)), (.ref a2), (.ref a2), (.ref a1), (.ref a1)])) rfl rfl (hb hby dtx_161) ?_
    show Go p e below _ T3 (mkF m 162 #[.val (.int (Int32.ofNat 5)), .val (.ref a)] [(.int c1), (.int (1 : Int32)), (.ref a2), (.ref a2), (.ref a1), (.ref a1)])
    refine Go.castore X3 hx hZ e3 A3 (i := 1) rfl (by simp) (g := (mkF m 162 #[.val (.int (Int32.ofNat 5)), .val (.ref a)] [(.int c1), (.int (1 : Int32)), (.ref a2), (.ref a2), (.ref a1), (.ref a1)])) rfl rfl (hb hby dtx_162) ?_
    rintro T4 h4 X4 e4 W4 A4
    have sW4 := W4.size
    show Go p e below _ T4 (mkF m 163 #[.val (.int (Int32.ofNat 5)), .val (.ref a)] [(.ref a2), (.ref a1), (.ref a1)])
    have A_a4 := A_a3.other W4 na
    refine Go.st (fun _ k => XS.dup X4.here hx rfl (hb hby dtx_163) rfl rfl k) ?_
    show Go p e below _ T4 (mkF m 164 #[.val (.int (Int32.ofNat 5)), .val (.ref a)] [(.ref a2), (.ref a2), (.ref a1), (.ref a1)])
    refine Go.st (fun _ k => XS.iconst X4.here hx rfl (hb hby dtx_164) k) ?_
    show Go p e below _ T4 (mkF m 165 #[.val (.int (Int32.ofNat 5)), .val (.ref a)] [(.int (2 : Int32)), (.ref a2), (.ref a2), (.ref a1), (.ref a1)])
    refine Go.st (fun _ k => XS.aloadN X4.here hx rfl (hb hby dtx_165) rfl rfl k) ?_
    show Go p e below _ T4 (mkF m 166 #[.val (.int (Int32.ofNat 5)), .val (.ref a)] [(.ref a), (.int (2 : Int32)), (.ref a2), (.ref a2), (.ref a1), (.ref a1)])
    refine Go.st (fun _ k => XS.iconst X4.here hx rfl (hb hby dtx_166) k) ?_
    show Go p e below _ T4 (mkF m 167 #[.val (.int (Int32.ofNat 5)), .val (.ref a)] [(.int (2 : Int32)), (.ref a), (.int (2 : Int32)), (.ref a2), (.ref a2), (.ref a1), (.ref a1)])
    refine Go.caload X4 hx hZ e4 A_a4 (i := 2) (x := c2) rfl rfl (g := (mkF m 167 #[.val (.int (Int32.ofNat 5)), .val (.ref a)] [(.int (2 : Int32)), (.ref a), (.int (2 : Int32)), (.ref a2), (.ref a2), (.ref a1), (.ref a1)])) rfl rfl (hb hby dtx_167) ?_
    show Go p e below _ T4 (mkF m 168 #[.val (.int (Int32.ofNat 5)), .val (.ref a)] [(.int c2), (.int (2 : Int32)), (.ref a2), (.ref a2), (.ref a1), (.ref a1)])
    refine Go.castore X4 hx hZ e4 A4 (i := 2) rfl (by simp) (g := (mkF m 168 #[.val (.int (Int32.ofNat 5)), .val (.ref a)] [(.int c2), (.int (2 : Int32)), (.ref a2), (.ref a2), (.ref a1), (.ref a1)])) rfl rfl (hb hby dtx_168) ?_
    rintro T5 h5 X5 e5 W5 A5
    have sW5 := W5.size
    show Go p e below _ T5 (mkF m 169 #[.val (.int (Int32.ofNat 5)), .val (.ref a)] [(.ref a2), (.ref a1), (.ref a1)])
    have A_a5 := A_a4.other W5 na
    refine Go.st (fun _ k => XS.dup X5.here hx rfl (hb hby dtx_169) rfl rfl k) ?_
    show Go p e below _ T5 (mkF m 170 #[.val (.int (Int32.ofNat 5)), .val (.ref a)] [(.ref a2), (.ref a2), (.ref a1), (.ref a1)])
    refine Go.st (fun _ k => XS.iconst X5.here hx rfl (hb hby dtx_170) k) ?_
    show Go p e below _ T5 (mkF m 171 #[.val (.int (Int32.ofNat 5)), .val (.ref a)] [(.int (3 : Int32)), (.ref a2), (.ref a2), (.ref a1), (.ref a1)])
    refine Go.st (fun _ k => XS.aloadN X5.here hx rfl (hb hby dtx_171) rfl rfl k) ?_
    show Go p e below _ T5 (mkF m 172 #[.val (.int (Int32.ofNat 5)), .val (.ref a)] [(.ref a), (.int (3 : Int32)), (.ref a2), (.ref a2), (.ref a1), (.ref a1)])
    refine Go.st (fun _ k => XS.iconst X5.here hx rfl (hb hby dtx_172) k) ?_
    show Go p e below _ T5 (mkF m 173 #[.val (.int (Int32.ofNat 5)), .val (.ref a)] [(.int (3 : Int32)), (.ref a), (.int (3 : Int32)), (.ref a2), (.ref a2), (.ref a1), (.ref a1)])
    refine Go.caload X5 hx hZ e5 A_a5 (i := 3) (x := c3) rfl rfl (g := (mkF m 173 #[.val (.int (Int32.ofNat 5)), .val (.ref a)] [(.int (3 : Int32)), (.ref a), (.int (3 : Int32)), (.ref a2), (.ref a2), (.ref a1), (.ref a1)])) rfl rfl (hb hby dtx_173) ?_
    show Go p e below _ T5 (mkF m 174 #[.val (.int (Int32.ofNat 5)), .val (.ref a)] [(.int c3), (.int (3 : Int32)), (.ref a2), (.ref a2), (.ref a1), (.ref a1)])
    refine Go.castore X5 hx hZ e5 A5 (i := 3) rfl (by simp) (g := (mkF m 174 #[.val (.int (Int32.ofNat 5)), .val (.ref a)] [(.int c3), (.int (3 : Int32)), (.ref a2), (.ref a2), (.ref a1), (.ref a1)])) rfl rfl (hb hby dtx_174) ?_
    rintro T6 h6 X6 e6 W6 A6
    have sW6 := W6.size
    show Go p e below _ T6 (mkF m 175 #[.val (.int (Int32.ofNat 5)), .val (.ref a)] [(.ref a2), (.ref a1), (.ref a1)])
    have A_a6 := A_a5.other W6 na
    refine Go.st (fun _ k => XS.dup X6.here hx rfl (hb hby dtx_175) rfl rfl k) ?_
    show Go p e below _ T6 (mkF m 176 #[.val (.int (Int32.ofNat 5)), .val (.ref a)] [(.ref a2), (.ref a2), (.ref a1), (.ref a1)])
    refine Go.st (fun _ k => XS.iconst X6.here hx rfl (hb hby dtx_176) k) ?_
    show Go p e below _ T6 (mkF m 177 #[.val (.int (Int32.ofNat 5)), .val (.ref a)] [(.int (4 : Int32)), (.ref a2), (.ref a2), (.ref a1), (.ref a1)])
    refine Go.st (fun _ k => XS.aloadN X6.here hx rfl (hb hby dtx_177) rfl rfl k) ?_
    show Go p e below _ T6 (mkF m 178 #[.val (.int (Int32.ofNat 5)), .val (.ref a)] [(.ref a), (.int (4 : Int32)), (.ref a2), (.ref a2), (.ref a1), (.ref a1)])
    refine Go.st (fun _ k => XS.iconst X6.here hx rfl (hb hby dtx_178) k) ?_
    show Go p e below _ T6 (mkF m 179 #[.val (.int (Int32.ofNat 5)), .val (.ref a)] [(.int (4 : Int32)), (.ref a), (.int (4 : Int32)), (.ref a2), (.ref a2), (.ref a1), (.ref a1)])
    refine Go.caload X6 hx hZ e6 A_a6 (i := 4) (x := c4) rfl rfl (g := (mkF m 179 #[.val (.int (Int32.ofNat 5)), .val (.ref a)] [(.int (4 : Int32)), (.ref a), (.int (4 : Int32)), (.ref a2), (.ref a2), (.ref a1), (.ref a1)])) rfl rfl (hb hby dtx_179) ?_
    show Go p e below _ T6 (mkF m 180 #[.val (.int (Int32.ofNat 5)), .val (.ref a)] [(.int c4), (.int (4 : Int32)), (.ref a2), (.ref a2), (.ref a1), (.ref a1)])
    refine Go.castore X6 hx hZ e6 A6 (i := 4) rfl (by simp) (g := (mkF m 180 #[.val (.int (Int32.ofNat 5)), .val (.ref a)] [(.int c4), (.int (4 : Int32)), (.ref a2), (.ref a2), (.ref a1), (.ref a1)])) rfl rfl (hb hby dtx_180) ?_
    rintro T7 h7 X7 e7 W7 A7
    have sW7 := W7.size
    show Go p e below _ T7 (mkF m 181 #[.val (.int (Int32.ofNat 5)), .val (.ref a)] [(.ref a2), (.ref a1), (.ref a1)])
    have A_a7 := A_a6.other W7 na
    have n12 : a1 ≠ a2 := Nat.ne_of_lt (by omega)
    have Ac : AI Z h7 a2 .char ([c0, c1, c2, c3, c4] : List Int32) := by
      have q : AI Z h7 a2 .char [nar .char c0, nar .char c1, nar .char c2, nar .char c3, nar .char c4] := A7
      rwa [e_0, e_1, e_2, e_3, e_4] at q
    have hp : ∀ c ∈ ([c0, c1, c2, c3, c4] : List Int32), ¬ c < 0 ∧ ¬ (65535 : Int32) < c := fun c hc => hbd c (List.mem_of_mem_take (i := 5) hc)
    have Ok : Old Z n0 h7 := (((((((X00.ext E1).ext E2).wr W3 (by omega)).wr W4 (by omega)).wr W5 (by omega)).wr W6 (by omega)).wr W7 (by omega))
    have Kk : Keep h0 h7 [] := ((((((((Keep.refl h0 []).ext E1).ext E2).wr W3 (Or.inr (by omega))).wr W4 (Or.inr (by omega))).wr W5 (Or.inr (by omega))).wr W6 (Or.inr (by omega))).wr W7 (Or.inr (by omega)))
    have Nk := (Fr.snoc X7 (Fr.snoc X6 (Fr.snoc X5 (Fr.snoc X4 (Fr.snoc X3 (Fr.nil n0) (by omega)) (by omega)) (by omega)) (by omega)) (by omega))
    refine Go.callI X7 hx (y := (⟨"java/lang/String", "<init>", "([C)V"⟩ : MethodName)) rfl hown (mvT hZ (hw _ (List.mem_of_getElem? (i := 15) rfl))) (mvT hZ (hw _ (List.mem_of_getElem? (i := 16) rfl))) (mvT hZ (hw _ (List.mem_of_getElem? (i := 17) rfl))) (by decide) (Ctr.back (W := 1) (rmI1 l Z a0 hw z Su ([c0, c1, c2, c3, c4] : List Int32) (by simp) (by simp) hp a1 a2 _ _ h7 n0 (by omega) (by omega) Ok ((((((A1.ext E2).wr W3).wr W4).wr W5).wr W6).wr W7) (((((((D1 (Or.inr (hw _ (List.mem_of_getElem? (i := 27) rfl))) (ty := (.array .byte)) (by decide)).ext E2).other W3 (Or.inl n12)).other W4 (Or.inl n12)).other W5 (Or.inl n12)).other W6 (Or.inl n12)).other W7 (Or.inl n12)) (((((((D1 (Or.inr (hw _ (List.mem_of_getElem? (i := 28) rfl))) (ty := .byte) (by decide)).ext E2).other W3 (Or.inl n12)).other W4 (Or.inl n12)).other W5 (Or.inl n12)).other W6 (Or.inl n12)).other W7 (Or.inl n12)) Ac) hZ (hw _ (List.mem_of_getElem? (i := 17) rfl)) (hw _ (List.mem_of_getElem? (i := 14) rfl)) (by (try dsimp only [room_1]); (try simp only [List.length_cons, List.length_nil]); omega) (by (try dsimp only [room_1]); (try simp only [List.length_cons, List.length_nil]); omega)) e7 (g := (mkF m 181 #[.val (.int (Int32.ofNat 5)), .val (.ref a)] [(.ref a2), (.ref a1), (.ref a1)])) rfl (by rw [hml]; rfl) (a := a1) (argsL := [(.ref a2)]) (rest := [(.ref a1)]) (lenOf pd_19 rfl) rfl (by show 2 * 0 + _ ≤ _; exact Nat.le_of_eq rfl) (hb hby dtx_181) rfl (by (try dsimp only [room_1]); (try simp only [List.length_cons, List.length_nil]); omega) (by (try dsimp only [room_1]); (try simp only [List.length_cons, List.length_nil]); omega) ?_
    rintro _ T99 L99 X99 ⟨rfl, N99, K99, E99, G99, t, F99, B99, ht⟩
    show Go p e below _ T99 (mkF m 184 #[.val (.int (Int32.ofNat 5)), .val (.ref a)] [(.ref a1)])
    have K09 : Keep h0 T99.heap [] := Kk.trans K99 (fun x q => Or.inr (by cases List.mem_singleton.mp q; omega))
    exact Go.retVW X99 hx (Bas.refl s 0) (Nat.zero_le _) hC0 (UX K09) hret hlk rfl rfl (hb hby dtx_184) ⟨a1, t, rfl, Fr.app Nk N99, K09, E99, G99, F99, B99⟩ (by (try dsimp only [room_1]); (try simp only [List.length_cons, List.length_nil]); omega) (by (try dsimp only [room_1]); (try simp only [List.length_cons, List.length_nil]); omega)
  refine Go.st (fun _ k => XS.icmpYes X0.here hx rfl (pc0 := 141) (pc' := 185) rfl (hb hby dtx_141) rfl (XT.ii_ne_t qn) (by decide) (by decide) k) ?_
  show Go p e below _ s₁ (mkF m 185 #[.val (.int (Int32.ofNat n)), .val (.ref a)] [])
  have nn5 : n ≠ 5 := fun z => qn (by rw [z]; rfl)
  clear qn
  refine Go.st (fun _ k => XS.iloadN X0.here hx rfl (hb hby dtx_185) rfl k) ?_
  show Go p e below _ s₁ (mkF m 186 #[.val (.int (Int32.ofNat n)), .val (.ref a)] [(.int (Int32.ofNat n))])
  refine Go.st (fun _ k => XS.bipush X0.here hx rfl (hb hby dtx_186) k) ?_
  show Go p e below _ s₁ (mkF m 188 #[.val (.int (Int32.ofNat n)), .val (.ref a)] [(.int (6 : Int32)), (.int (Int32.ofNat n))])
  by_cases qn : Int32.ofNat n = (6 : Int32)
  · skip
    refine Go.st (fun _ k => XS.icmpNo X0.here hx rfl (hb hby dtx_188) rfl (XT.ii_ne_f qn) k) ?_
    show Go p e below _ s₁ (mkF m 191 #[.val (.int (Int32.ofNat n)), .val (.ref a)] [])
    obtain rfl : n = 6 := by have q := congrArg Int32.toInt qn; rw [own_toInt (by omega)] at q; have q2 : ((6 : Int32)).toInt = 6 := rfl; omega
    clear qn
    show Go p e below _ s₁ (mkF m 191 #[.val (.int (Int32.ofNat 6)), .val (.ref a)] [])
    obtain ⟨T1, h1, X1, e1, E1, A1, D1, -, st1⟩ := newO X0 hx hZ hown (hw _ (List.mem_of_getElem? (i := 12) rfl)) (hw _ (List.mem_of_getElem? (i := 13) rfl)) (hw _ (List.mem_of_getElem? (i := 14) rfl)) e0 (g := (mkF m 191 #[.val (.int (Int32.ofNat 6)), .val (.ref a)] [])) rfl (hb hby dtx_191) (by (try dsimp only [room_1]); (try simp only [List.length_cons, List.length_nil]); omega) (by (try dsimp only [room_1]); (try simp only [List.length_cons, List.length_nil]); omega)
    obtain ⟨a1, g1⟩ : ∃ z, z = h0.size := ⟨_, rfl⟩
    rw [← g1] at A1 D1 st1
    have l1 : a1 < h1.size := A1.lt
    have sE1 := E1.1
    refine Go.st st1 ?_
    show Go p e below _ T1 (mkF m 194 #[.val (.int (Int32.ofNat 6)), .val (.ref a)] [(.ref a1)])
    refine Go.st (fun _ k => XS.dup X1.here hx rfl (hb hby dtx_194) rfl rfl k) ?_
    show Go p e below _ T1 (mkF m 195 #[.val (.int (Int32.ofNat 6)), .val (.ref a)] [(.ref a1), (.ref a1)])
    refine Go.st (fun _ k => XS.bipush X1.here hx rfl (hb hby dtx_195) k) ?_
    show Go p e below _ T1 (mkF m 197 #[.val (.int (Int32.ofNat 6)), .val (.ref a)] [(.int (6 : Int32)), (.ref a1), (.ref a1)])
    refine Go.newarr X1 hx hZ (ty := .char) rfl rfl (hw _ (List.mem_of_getElem? (i := 0) rfl)) e1 (g := (mkF m 197 #[.val (.int (Int32.ofNat 6)), .val (.ref a)] [(.int (6 : Int32)), (.ref a1), (.ref a1)])) rfl (hb hby dtx_197) rfl (n := 6) rfl (by decide) (by (try dsimp only [room_1]); (try simp only [List.length_cons, List.length_nil]); omega) (by (try dsimp only [room_1]); (try simp only [List.length_cons, List.length_nil]); omega) ?_
    rintro T2 h2 X2 e2 E2 l2 A2
    obtain ⟨a2, g2⟩ : ∃ z, z = h1.size := ⟨_, rfl⟩
    rw [← g2] at A2 l2 ⊢
    have sE2 := E2.1
    show Go p e below _ T2 (mkF m 199 #[.val (.int (Int32.ofNat 6)), .val (.ref a)] [(.ref a2), (.ref a1), (.ref a1)])
    refine Go.st (fun _ k => XS.dup X2.here hx rfl (hb hby dtx_199) rfl rfl k) ?_
    show Go p e below _ T2 (mkF m 200 #[.val (.int (Int32.ofNat 6)), .val (.ref a)] [(.ref a2), (.ref a2), (.ref a1), (.ref a1)])
    refine Go.st (fun _ k => XS.iconst X2.here hx rfl (hb hby dtx_200) k) ?_
    show Go p e below _ T2 (mkF m 201 #[.val (.int (Int32.ofNat 6)), .val (.ref a)] [(.int (0 : Int32)), (.ref a2), (.ref a2), (.ref a1), (.ref a1)])
    refine Go.st (fun _ k => XS.aloadN X2.here hx rfl (hb hby dtx_201) rfl rfl k) ?_
    show Go p e below _ T2 (mkF m 202 #[.val (.int (Int32.ofNat 6)), .val (.ref a)] [(.ref a), (.int (0 : Int32)), (.ref a2), (.ref a2), (.ref a1), (.ref a1)])
    refine Go.st (fun _ k => XS.iconst X2.here hx rfl (hb hby dtx_202) k) ?_
    show Go p e below _ T2 (mkF m 203 #[.val (.int (Int32.ofNat 6)), .val (.ref a)] [(.int (0 : Int32)), (.ref a), (.int (0 : Int32)), (.ref a2), (.ref a2), (.ref a1), (.ref a1)])
    have A_a := (A.ext E1).ext E2
    have na : a ≠ a2 := Nat.ne_of_lt (Nat.lt_of_lt_of_eq (A.ext E1).lt g2.symm)
    refine Go.caload X2 hx hZ e2 A_a (i := 0) (x := c0) rfl rfl (g := (mkF m 203 #[.val (.int (Int32.ofNat 6)), .val (.ref a)] [(.int (0 : Int32)), (.ref a), (.int (0 : Int32)), (.ref a2), (.ref a2), (.ref a1), (.ref a1)])) rfl rfl (hb hby dtx_203) ?_
    show Go p e below _ T2 (mkF m 204 #[.val (.int (Int32.ofNat 6)), .val (.ref a)] [(.int c0), (.int (0 : Int32)), (.ref a2), (.ref a2), (.ref a1), (.ref a1)])
    refine Go.castore X2 hx hZ e2 A2 (i := 0) rfl (by simp) (g := (mkF m 204 #[.val (.int (Int32.ofNat 6)), .val (.ref a)] [(.int c0), (.int (0 : Int32)), (.ref a2), (.ref a2), (.ref a1), (.ref a1)])) rfl rfl (hb hby dtx_204) ?_
    rintro T3 h3 X3 e3 W3 A3
    have sW3 := W3.size
    show Go p e below _ T3 (mkF m 205 #[.val (.int (Int32.ofNat 6)), .val (.ref a)] [(.ref a2), (.ref a1), (.ref a1)])
    have A_a3 := A_a.other W3 na
    refine Go.st (fun _ k => XS.dup X3.here hx rfl (hb hby dtx_205) rfl rfl k) ?_
    show Go p e below _ T3 (mkF m 206 #[.val (.int (Int32.ofNat 6)), .val (.ref a)] [(.ref a2), (.ref a2), (.ref a1), (.ref a1)])
    refine Go.st (fun _ k => XS.iconst X3.here hx rfl (hb hby dtx_206) k) ?_
    show Go p e below _ T3 (mkF m 207 #[.val (.int (Int32.ofNat 6)), .val (.ref a)] [(.int (1 : Int32)), (.ref a2), (.ref a2), (.ref a1), (.ref a1)])
    refine Go.st (fun _ k => XS.aloadN X3.here hx rfl (hb hby dtx_207) rfl rfl k) ?_
    show Go p e below _ T3 (mkF m 208 #[.val (.int (Int32.ofNat 6)), .val (.ref a)] [(.ref a), (.int (1 : Int32)), (.ref a2), (.ref a2), (.ref a1), (.ref a1)])
    refine Go.st (fun _ k => XS.iconst X3.here hx rfl (hb hby dtx_208) k) ?_
    show Go p e below _ T3 (mkF m 209 #[.val (.int (Int32.ofNat 6)), .val (.ref a)] [(.int (1 : Int32)), (.ref a), (.int (1 : Int32)), (.ref a2), (.ref a2), (.ref a1), (.ref a1)])
    refine Go.caload X3 hx hZ e3 A_a3 (i := 1) (x := c1) rfl rfl (g := (mkF m 209 #[.val (.int (Int32.ofNat 6)), .val (.ref a)] [(.int (1 : Int32)), (.ref a), (.int (1 : Int32)), (.ref a2), (.ref a2), (.ref a1), (.ref a1)])) rfl rfl (hb hby dtx_209) ?_
    show Go p e below _ T3 (mkF m 210 #[.val (.int (Int32.ofNat 6)), .val (.ref a)] [(.int c1), (.int (1 : Int32)), (.ref a2), (.ref a2), (.ref a1), (.ref a1)])
    refine Go.castore X3 hx hZ e3 A3 (i := 1) rfl (by simp) (g := (mkF m 210 #[.val (.int (Int32.ofNat 6)), .val (.ref a)] [(.int c1), (.int (1 : Int32)), (.ref a2), (.ref a2), (.ref a1), (.ref a1)])) rfl rfl (hb hby dtx_210) ?_
    rintro T4 h4 X4 e4 W4 A4
    have sW4 := W4.size
    show Go p e below _ T4 (mkF m 211 #[.val (.int (Int32.ofNat 6)), .val (.ref a)] [(.ref a2), (.ref a1), (.ref a1)])
    have A_a4 := A_a3.other W4 na
    refine Go.st (fun _ k => XS.dup X4.here hx rfl (hb hby dtx_211) rfl rfl k) ?_
    show Go p e below _ T4 (mkF m 212 #[.val (.int (Int32.ofNat 6)), .val (.ref a)] [(.ref a2), (.ref a2), (.ref a1), (.ref a1)])
    refine Go.st (fun _ k => XS.iconst X4.here hx rfl (hb hby dtx_212) k) ?_
    show Go p e below _ T4 (mkF m 213 #[.val (.int (Int32.ofNat 6)), .val (.ref a)] [(.int (2 : Int32)), (.ref a2), (.ref a2), (.ref a1), (.ref a1)])
    refine Go.st (fun _ k => XS.aloadN X4.here hx rfl (hb hby dtx_213) rfl rfl k) ?_
    show Go p e below _ T4 (mkF m 214 #[.val (.int (Int32.ofNat 6)), .val (.ref a)] [(.ref a), (.int (2 : Int32)), (.ref a2), (.ref a2), (.ref a1), (.ref a1)])
    refine Go.st (fun _ k => XS.iconst X4.here hx rfl (hb hby dtx_214) k) ?_
    show Go p e below _ T4 (mkF m 215 #[.val (.int (Int32.ofNat 6)), .val (.ref a)] [(.int (2 : Int32)), (.ref a), (.int (2 : Int32)), (.ref a2), (.ref a2), (.ref a1), (.ref a1)])
    refine Go.caload X4 hx hZ e4 A_a4 (i := 2) (x := c2) rfl rfl (g := (mkF m 215 #[.val (.int (Int32.ofNat 6)), .val (.ref a)] [(.int (2 : Int32)), (.ref a), (.int (2 : Int32)), (.ref a2), (.ref a2), (.ref a1), (.ref a1)])) rfl rfl (hb hby dtx_215) ?_
    show Go p e below _ T4 (mkF m 216 #[.val (.int (Int32.ofNat 6)), .val (.ref a)] [(.int c2), (.int (2 : Int32)), (.ref a2), (.ref a2), (.ref a1), (.ref a1)])
    refine Go.castore X4 hx hZ e4 A4 (i := 2) rfl (by simp) (g := (mkF m 216 #[.val (.int (Int32.ofNat 6)), .val (.ref a)] [(.int c2), (.int (2 : Int32)), (.ref a2), (.ref a2), (.ref a1), (.ref a1)])) rfl rfl (hb hby dtx_216) ?_
    rintro T5 h5 X5 e5 W5 A5
    have sW5 := W5.size
    show Go p e below _ T5 (mkF m 217 #[.val (.int (Int32.ofNat 6)), .val (.ref a)] [(.ref a2), (.ref a1), (.ref a1)])
    have A_a5 := A_a4.other W5 na
    refine Go.st (fun _ k => XS.dup X5.here hx rfl (hb hby dtx_217) rfl rfl k) ?_
    show Go p e below _ T5 (mkF m 218 #[.val (.int (Int32.ofNat 6)), .val (.ref a)] [(.ref a2), (.ref a2), (.ref a1), (.ref a1)])
    refine Go.st (fun _ k => XS.iconst X5.here hx rfl (hb hby dtx_218) k) ?_
    show Go p e below _ T5 (mkF m 219 #[.val (.int (Int32.ofNat 6)), .val (.ref a)] [(.int (3 : Int32)), (.ref a2), (.ref a2), (.ref a1), (.ref a1)])
    refine Go.st (fun _ k => XS.aloadN X5.here hx rfl (hb hby dtx_219) rfl rfl k) ?_
    show Go p e below _ T5 (mkF m 220 #[.val (.int (Int32.ofNat 6)), .val (.ref a)] [(.ref a), (.int (3 : Int32)), (.ref a2), (.ref a2), (.ref a1), (.ref a1)])
    refine Go.st (fun _ k => XS.iconst X5.here hx rfl (hb hby dtx_220) k) ?_
    show Go p e below _ T5 (mkF m 221 #[.val (.int (Int32.ofNat 6)), .val (.ref a)] [(.int (3 : Int32)), (.ref a), (.int (3 : Int32)), (.ref a2), (.ref a2), (.ref a1), (.ref a1)])
    refine Go.caload X5 hx hZ e5 A_a5 (i := 3) (x := c3) rfl rfl (g := (mkF m 221 #[.val (.int (Int32.ofNat 6)), .val (.ref a)] [(.int (3 : Int32)), (.ref a), (.int (3 : Int32)), (.ref a2), (.ref a2), (.ref a1), (.ref a1)])) rfl rfl (hb hby dtx_221) ?_
    show Go p e below _ T5 (mkF m 222 #[.val (.int (Int32.ofNat 6)), .val (.ref a)] [(.int c3), (.int (3 : Int32)), (.ref a2), (.ref a2), (.ref a1), (.ref a1)])
    refine Go.castore X5 hx hZ e5 A5 (i := 3) rfl (by simp) (g := (mkF m 222 #[.val (.int (Int32.ofNat 6)), .val (.ref a)] [(.int c3), (.int (3 : Int32)), (.ref a2), (.ref a2), (.ref a1), (.ref a1)])) rfl rfl (hb hby dtx_222) ?_
    rintro T6 h6 X6 e6 W6 A6
    have sW6 := W6.size
    show Go p e below _ T6 (mkF m 223 #[.val (.int (Int32.ofNat 6)), .val (.ref a)] [(.ref a2), (.ref a1), (.ref a1)])
    have A_a6 := A_a5.other W6 na
    refine Go.st (fun _ k => XS.dup X6.here hx rfl (hb hby dtx_223) rfl rfl k) ?_
    show Go p e below _ T6 (mkF m 224 #[.val (.int (Int32.ofNat 6)), .val (.ref a)] [(.ref a2), (.ref a2), (.ref a1), (.ref a1)])
    refine Go.st (fun _ k => XS.iconst X6.here hx rfl (hb hby dtx_224) k) ?_
    show Go p e below _ T6 (mkF m 225 #[.val (.int (Int32.ofNat 6)), .val (.ref a)] [(.int (4 : Int32)), (.ref a2), (.ref a2), (.ref a1), (.ref a1)])
    refine Go.st (fun _ k => XS.aloadN X6.here hx rfl (hb hby dtx_225) rfl rfl k) ?_
    show Go p e below _ T6 (mkF m 226 #[.val (.int (Int32.ofNat 6)), .val (.ref a)] [(.ref a), (.int (4 : Int32)), (.ref a2), (.ref a2), (.ref a1), (.ref a1)])
    refine Go.st (fun _ k => XS.iconst X6.here hx rfl (hb hby dtx_226) k) ?_
    show Go p e below _ T6 (mkF m 227 #[.val (.int (Int32.ofNat 6)), .val (.ref a)] [(.int (4 : Int32)), (.ref a), (.int (4 : Int32)), (.ref a2), (.ref a2), (.ref a1), (.ref a1)])
    refine Go.caload X6 hx hZ e6 A_a6 (i := 4) (x := c4) rfl rfl (g := (mkF m 227 #[.val (.int (Int32.ofNat 6)), .val (.ref a)] [(.int (4 : Int32)), (.ref a), (.int (4 : Int32)), (.ref a2), (.ref a2), (.ref a1), (.ref a1)])) rfl rfl (hb hby dtx_227) ?_
    show Go p e below _ T6 (mkF m 228 #[.val (.int (Int32.ofNat 6)), .val (.ref a)] [(.int c4), (.int (4 : Int32)), (.ref a2), (.ref a2), (.ref a1), (.ref a1)])
    refine Go.castore X6 hx hZ e6 A6 (i := 4) rfl (by simp) (g := (mkF m 228 #[.val (.int (Int32.ofNat 6)), .val (.ref a)] [(.int c4), (.int (4 : Int32)), (.ref a2), (.ref a2), (.ref a1), (.ref a1)])) rfl rfl (hb hby dtx_228) ?_
    rintro T7 h7 X7 e7 W7 A7
    have sW7 := W7.size
    show Go p e below _ T7 (mkF m 229 #[.val (.int (Int32.ofNat 6)), .val (.ref a)] [(.ref a2), (.ref a1), (.ref a1)])
    have A_a7 := A_a6.other W7 na
    refine Go.st (fun _ k => XS.dup X7.here hx rfl (hb hby dtx_229) rfl rfl k) ?_
    show Go p e below _ T7 (mkF m 230 #[.val (.int (Int32.ofNat 6)), .val (.ref a)] [(.ref a2), (.ref a2), (.ref a1), (.ref a1)])
    refine Go.st (fun _ k => XS.iconst X7.here hx rfl (hb hby dtx_230) k) ?_
    show Go p e below _ T7 (mkF m 231 #[.val (.int (Int32.ofNat 6)), .val (.ref a)] [(.int (5 : Int32)), (.ref a2), (.ref a2), (.ref a1), (.ref a1)])
    refine Go.st (fun _ k => XS.aloadN X7.here hx rfl (hb hby dtx_231) rfl rfl k) ?_
    show Go p e below _ T7 (mkF m 232 #[.val (.int (Int32.ofNat 6)), .val (.ref a)] [(.ref a), (.int (5 : Int32)), (.ref a2), (.ref a2), (.ref a1), (.ref a1)])
    refine Go.st (fun _ k => XS.iconst X7.here hx rfl (hb hby dtx_232) k) ?_
    show Go p e below _ T7 (mkF m 233 #[.val (.int (Int32.ofNat 6)), .val (.ref a)] [(.int (5 : Int32)), (.ref a), (.int (5 : Int32)), (.ref a2), (.ref a2), (.ref a1), (.ref a1)])
    refine Go.caload X7 hx hZ e7 A_a7 (i := 5) (x := c5) rfl rfl (g := (mkF m 233 #[.val (.int (Int32.ofNat 6)), .val (.ref a)] [(.int (5 : Int32)), (.ref a), (.int (5 : Int32)), (.ref a2), (.ref a2), (.ref a1), (.ref a1)])) rfl rfl (hb hby dtx_233) ?_
    show Go p e below _ T7 (mkF m 234 #[.val (.int (Int32.ofNat 6)), .val (.ref a)] [(.int c5), (.int (5 : Int32)), (.ref a2), (.ref a2), (.ref a1), (.ref a1)])
    refine Go.castore X7 hx hZ e7 A7 (i := 5) rfl (by simp) (g := (mkF m 234 #[.val (.int (Int32.ofNat 6)), .val (.ref a)] [(.int c5), (.int (5 : Int32)), (.ref a2), (.ref a2), (.ref a1), (.ref a1)])) rfl rfl (hb hby dtx_234) ?_
    rintro T8 h8 X8 e8 W8 A8
    have sW8 := W8.size
    show Go p e below _ T8 (mkF m 235 #[.val (.int (Int32.ofNat 6)), .val (.ref a)] [(.ref a2), (.ref a1), (.ref a1)])
    have A_a8 := A_a7.other W8 na
    have n12 : a1 ≠ a2 := Nat.ne_of_lt (by omega)
    have Ac : AI Z h8 a2 .char ([c0, c1, c2, c3, c4, c5] : List Int32) := by
      have q : AI Z h8 a2 .char [nar .char c0, nar .char c1, nar .char c2, nar .char c3, nar .char c4, nar .char c5] := A8
      rwa [e_0, e_1, e_2, e_3, e_4, e_5] at q
    have hp : ∀ c ∈ ([c0, c1, c2, c3, c4, c5] : List Int32), ¬ c < 0 ∧ ¬ (65535 : Int32) < c := fun c hc => hbd c (List.mem_of_mem_take (i := 6) hc)
    have Ok : Old Z n0 h8 := ((((((((X00.ext E1).ext E2).wr W3 (by omega)).wr W4 (by omega)).wr W5 (by omega)).wr W6 (by omega)).wr W7 (by omega)).wr W8 (by omega))
    have Kk : Keep h0 h8 [] := (((((((((Keep.refl h0 []).ext E1).ext E2).wr W3 (Or.inr (by omega))).wr W4 (Or.inr (by omega))).wr W5 (Or.inr (by omega))).wr W6 (Or.inr (by omega))).wr W7 (Or.inr (by omega))).wr W8 (Or.inr (by omega)))
    have Nk := (Fr.snoc X8 (Fr.snoc X7 (Fr.snoc X6 (Fr.snoc X5 (Fr.snoc X4 (Fr.snoc X3 (Fr.nil n0) (by omega)) (by omega)) (by omega)) (by omega)) (by omega)) (by omega))
    refine Go.callI X8 hx (y := (⟨"java/lang/String", "<init>", "([C)V"⟩ : MethodName)) rfl hown (mvT hZ (hw _ (List.mem_of_getElem? (i := 15) rfl))) (mvT hZ (hw _ (List.mem_of_getElem? (i := 16) rfl))) (mvT hZ (hw _ (List.mem_of_getElem? (i := 17) rfl))) (by decide) (Ctr.back (W := 1) (rmI1 l Z a0 hw z Su ([c0, c1, c2, c3, c4, c5] : List Int32) (by simp) (by simp) hp a1 a2 _ _ h8 n0 (by omega) (by omega) Ok (((((((A1.ext E2).wr W3).wr W4).wr W5).wr W6).wr W7).wr W8) ((((((((D1 (Or.inr (hw _ (List.mem_of_getElem? (i := 27) rfl))) (ty := (.array .byte)) (by decide)).ext E2).other W3 (Or.inl n12)).other W4 (Or.inl n12)).other W5 (Or.inl n12)).other W6 (Or.inl n12)).other W7 (Or.inl n12)).other W8 (Or.inl n12)) ((((((((D1 (Or.inr (hw _ (List.mem_of_getElem? (i := 28) rfl))) (ty := .byte) (by decide)).ext E2).other W3 (Or.inl n12)).other W4 (Or.inl n12)).other W5 (Or.inl n12)).other W6 (Or.inl n12)).other W7 (Or.inl n12)).other W8 (Or.inl n12)) Ac) hZ (hw _ (List.mem_of_getElem? (i := 17) rfl)) (hw _ (List.mem_of_getElem? (i := 14) rfl)) (by (try dsimp only [room_1]); (try simp only [List.length_cons, List.length_nil]); omega) (by (try dsimp only [room_1]); (try simp only [List.length_cons, List.length_nil]); omega)) e8 (g := (mkF m 235 #[.val (.int (Int32.ofNat 6)), .val (.ref a)] [(.ref a2), (.ref a1), (.ref a1)])) rfl (by rw [hml]; rfl) (a := a1) (argsL := [(.ref a2)]) (rest := [(.ref a1)]) (lenOf pd_19 rfl) rfl (by show 2 * 0 + _ ≤ _; exact Nat.le_of_eq rfl) (hb hby dtx_235) rfl (by (try dsimp only [room_1]); (try simp only [List.length_cons, List.length_nil]); omega) (by (try dsimp only [room_1]); (try simp only [List.length_cons, List.length_nil]); omega) ?_
    rintro _ T99 L99 X99 ⟨rfl, N99, K99, E99, G99, t, F99, B99, ht⟩
    show Go p e below _ T99 (mkF m 238 #[.val (.int (Int32.ofNat 6)), .val (.ref a)] [(.ref a1)])
    have K09 : Keep h0 T99.heap [] := Kk.trans K99 (fun x q => Or.inr (by cases List.mem_singleton.mp q; omega))
    exact Go.retVW X99 hx (Bas.refl s 0) (Nat.zero_le _) hC0 (UX K09) hret hlk rfl rfl (hb hby dtx_238) ⟨a1, t, rfl, Fr.app Nk N99, K09, E99, G99, F99, B99⟩ (by (try dsimp only [room_1]); (try simp only [List.length_cons, List.length_nil]); omega) (by (try dsimp only [room_1]); (try simp only [List.length_cons, List.length_nil]); omega)
  refine Go.st (fun _ k => XS.icmpYes X0.here hx rfl (pc0 := 188) (pc' := 239) rfl (hb hby dtx_188) rfl (XT.ii_ne_t qn) (by decide) (by decide) k) ?_
  show Go p e below _ s₁ (mkF m 239 #[.val (.int (Int32.ofNat n)), .val (.ref a)] [])
  have nn6 : n ≠ 6 := fun z => qn (by rw [z]; rfl)
  clear qn
  refine Go.st (fun _ k => XS.iloadN X0.here hx rfl (hb hby dtx_239) rfl k) ?_
  show Go p e below _ s₁ (mkF m 240 #[.val (.int (Int32.ofNat n)), .val (.ref a)] [(.int (Int32.ofNat n))])
  refine Go.st (fun _ k => XS.bipush X0.here hx rfl (hb hby dtx_240) k) ?_
  show Go p e below _ s₁ (mkF m 242 #[.val (.int (Int32.ofNat n)), .val (.ref a)] [(.int (7 : Int32)), (.int (Int32.ofNat n))])
  by_cases qn : Int32.ofNat n = (7 : Int32)
  · skip
    refine Go.st (fun _ k => XS.icmpNo X0.here hx rfl (hb hby dtx_242) rfl (XT.ii_ne_f qn) k) ?_
    show Go p e below _ s₁ (mkF m 245 #[.val (.int (Int32.ofNat n)), .val (.ref a)] [])
    obtain rfl : n = 7 := by have q := congrArg Int32.toInt qn; rw [own_toInt (by omega)] at q; have q2 : ((7 : Int32)).toInt = 7 := rfl; omega
    clear qn
    show Go p e below _ s₁ (mkF m 245 #[.val (.int (Int32.ofNat 7)), .val (.ref a)] [])
    obtain ⟨T1, h1, X1, e1, E1, A1, D1, -, st1⟩ := newO X0 hx hZ hown (hw _ (List.mem_of_getElem? (i := 12) rfl)) (hw _ (List.mem_of_getElem? (i := 13) rfl)) (hw _ (List.mem_of_getElem? (i := 14) rfl)) e0 (g := (mkF m 245 #[.val (.int (Int32.ofNat 7)), .val (.ref a)] [])) rfl (hb hby dtx_245) (by (try dsimp only [room_1]); (try simp only [List.length_cons, List.length_nil]); omega) (by (try dsimp only [room_1]); (try simp only [List.length_cons, List.length_nil]); omega)
    obtain ⟨a1, g1⟩ : ∃ z, z = h0.size := ⟨_, rfl⟩
    rw [← g1] at A1 D1 st1
    have l1 : a1 < h1.size := A1.lt
    have sE1 := E1.1
    refine Go.st st1 ?_
    show Go p e below _ T1 (mkF m 248 #[.val (.int (Int32.ofNat 7)), .val (.ref a)] [(.ref a1)])
    refine Go.st (fun _ k => XS.dup X1.here hx rfl (hb hby dtx_248) rfl rfl k) ?_
    show Go p e below _ T1 (mkF m 249 #[.val (.int (Int32.ofNat 7)), .val (.ref a)] [(.ref a1), (.ref a1)])
    refine Go.st (fun _ k => XS.bipush X1.here hx rfl (hb hby dtx_249) k) ?_
    show Go p e below _ T1 (mkF m 251 #[.val (.int (Int32.ofNat 7)), .val (.ref a)] [(.int (7 : Int32)), (.ref a1), (.ref a1)])
    refine Go.newarr X1 hx hZ (ty := .char) rfl rfl (hw _ (List.mem_of_getElem? (i := 0) rfl)) e1 (g := (mkF m 251 #[.val (.int (Int32.ofNat 7)), .val (.ref a)] [(.int (7 : Int32)), (.ref a1), (.ref a1)])) rfl (hb hby dtx_251) rfl (n := 7) rfl (by decide) (by (try dsimp only [room_1]); (try simp only [List.length_cons, List.length_nil]); omega) (by (try dsimp only [room_1]); (try simp only [List.length_cons, List.length_nil]); omega) ?_
    rintro T2 h2 X2 e2 E2 l2 A2
    obtain ⟨a2, g2⟩ : ∃ z, z = h1.size := ⟨_, rfl⟩
    rw [← g2] at A2 l2 ⊢
    have sE2 := E2.1
    show Go p e below _ T2 (mkF m 253 #[.val (.int (Int32.ofNat 7)), .val (.ref a)] [(.ref a2), (.ref a1), (.ref a1)])
    refine Go.st (fun _ k => XS.dup X2.here hx rfl (hb hby dtx_253) rfl rfl k) ?_
    show Go p e below _ T2 (mkF m 254 #[.val (.int (Int32.ofNat 7)), .val (.ref a)] [(.ref a2), (.ref a2), (.ref a1), (.ref a1)])
    refine Go.st (fun _ k => XS.iconst X2.here hx rfl (hb hby dtx_254) k) ?_
    show Go p e below _ T2 (mkF m 255 #[.val (.int (Int32.ofNat 7)), .val (.ref a)] [(.int (0 : Int32)), (.ref a2), (.ref a2), (.ref a1), (.ref a1)])
    refine Go.st (fun _ k => XS.aloadN X2.here hx rfl (hb hby dtx_255) rfl rfl k) ?_
    show Go p e below _ T2 (mkF m 256 #[.val (.int (Int32.ofNat 7)), .val (.ref a)] [(.ref a), (.int (0 : Int32)), (.ref a2), (.ref a2), (.ref a1), (.ref a1)])
    refine Go.st (fun _ k => XS.iconst X2.here hx rfl (hb hby dtx_256) k) ?_
    show Go p e below _ T2 (mkF m 257 #[.val (.int (Int32.ofNat 7)), .val (.ref a)] [(.int (0 : Int32)), (.ref a), (.int (0 : Int32)), (.ref a2), (.ref a2), (.ref a1), (.ref a1)])
    have A_a := (A.ext E1).ext E2
    have na : a ≠ a2 := Nat.ne_of_lt (Nat.lt_of_lt_of_eq (A.ext E1).lt g2.symm)
    refine Go.caload X2 hx hZ e2 A_a (i := 0) (x := c0) rfl rfl (g := (mkF m 257 #[.val (.int (Int32.ofNat 7)), .val (.ref a)] [(.int (0 : Int32)), (.ref a), (.int (0 : Int32)), (.ref a2), (.ref a2), (.ref a1), (.ref a1)])) rfl rfl (hb hby dtx_257) ?_
    show Go p e below _ T2 (mkF m 258 #[.val (.int (Int32.ofNat 7)), .val (.ref a)] [(.int c0), (.int (0 : Int32)), (.ref a2), (.ref a2), (.ref a1), (.ref a1)])
    refine Go.castore X2 hx hZ e2 A2 (i := 0) rfl (by simp) (g := (mkF m 258 #[.val (.int (Int32.ofNat 7)), .val (.ref a)] [(.int c0), (.int (0 : Int32)), (.ref a2), (.ref a2), (.ref a1), (.ref a1)])) rfl rfl (hb hby dtx_258) ?_
    rintro T3 h3 X3 e3 W3 A3
    have sW3 := W3.size
    show Go p e below _ T3 (mkF m 259 #[.val (.int (Int32.ofNat 7)), .val (.ref a)] [(.ref a2), (.ref a1), (.ref a1)])
    have A_a3 := A_a.other W3 na
    refine Go.st (fun _ k => XS.dup X3.here hx rfl (hb hby dtx_259) rfl rfl k) ?_
    show Go p e below _ T3 (mkF m 260 #[.val (.int (Int32.ofNat 7)), .val (.ref a)] [(.ref a2), (.ref a2), (.ref a1), (.ref a1)])
    refine Go.st (fun _ k => XS.iconst X3.here hx rfl (hb hby dtx_260) k) ?_
    show Go p e below _ T3 (mkF m 261 #[.val (.int (Int32.ofNat 7)), .val (.ref a)] [(.int (1 : Int32)), (.ref a2), (.ref a2), (.ref a1), (.ref a1)])
    refine Go.st (fun _ k => XS.aloadN X3.here hx rfl (hb hby dtx_261) rfl rfl k) ?_
    show Go p e below _ T3 (mkF m 262 #[.val (.int (Int32.ofNat 7)), .val (.ref a)] [(.ref a), (.int (1 : Int32)), (.ref a2), (.ref a2), (.ref a1), (.ref a1)])
    refine Go.st (fun _ k => XS.iconst X3.here hx rfl (hb hby dtx_262) k) ?_
    show Go p e below _ T3 (mkF m 263 #[.val (.int (Int32.ofNat 7)), .val (.ref a)] [(.int (1 : Int32)), (.ref a), (.int (1 : Int32)), (.ref a2), (.ref a2), (.ref a1), (.ref a1)])
    refine Go.caload X3 hx hZ e3 A_a3 (i := 1) (x := c1) rfl rfl (g := (mkF m 263 #[.val (.int (Int32.ofNat 7)), .val (.ref a)] [(.int (1 : Int32)), (.ref a), (.int (1 : Int32)), (.ref a2), (.ref a2), (.ref a1), (.ref a1)])) rfl rfl (hb hby dtx_263) ?_
    show Go p e below _ T3 (mkF m 264 #[.val (.int (Int32.ofNat 7)), .val (.ref a)] [(.int c1), (.int (1 : Int32)), (.ref a2), (.ref a2), (.ref a1), (.ref a1)])
    refine Go.castore X3 hx hZ e3 A3 (i := 1) rfl (by simp) (g := (mkF m 264 #[.val (.int (Int32.ofNat 7)), .val (.ref a)] [(.int c1), (.int (1 : Int32)), (.ref a2), (.ref a2), (.ref a1), (.ref a1)])) rfl rfl (hb hby dtx_264) ?_
    rintro T4 h4 X4 e4 W4 A4
    have sW4 := W4.size
    show Go p e below _ T4 (mkF m 265 #[.val (.int (Int32.ofNat 7)), .val (.ref a)] [(.ref a2), (.ref a1), (.ref a1)])
    have A_a4 := A_a3.other W4 na
    refine Go.st (fun _ k => XS.dup X4.here hx rfl (hb hby dtx_265) rfl rfl k) ?_
    show Go p e below _ T4 (mkF m 266 #[.val (.int (Int32.ofNat 7)), .val (.ref a)] [(.ref a2), (.ref a2), (.ref a1), (.ref a1)])
    refine Go.st (fun _ k => XS.iconst X4.here hx rfl (hb hby dtx_266) k) ?_
    show Go p e below _ T4 (mkF m 267 #[.val (.int (Int32.ofNat 7)), .val (.ref a)] [(.int (2 : Int32)), (.ref a2), (.ref a2), (.ref a1), (.ref a1)])
    refine Go.st (fun _ k => XS.aloadN X4.here hx rfl (hb hby dtx_267) rfl rfl k) ?_
    show Go p e below _ T4 (mkF m 268 #[.val (.int (Int32.ofNat 7)), .val (.ref a)] [(.ref a), (.int (2 : Int32)), (.ref a2), (.ref a2), (.ref a1), (.ref a1)])
    refine Go.st (fun _ k => XS.iconst X4.here hx rfl (hb hby dtx_268) k) ?_
    show Go p e below _ T4 (mkF m 269 #[.val (.int (Int32.ofNat 7)), .val (.ref a)] [(.int (2 : Int32)), (.ref a), (.int (2 : Int32)), (.ref a2), (.ref a2), (.ref a1), (.ref a1)])
    refine Go.caload X4 hx hZ e4 A_a4 (i := 2) (x := c2) rfl rfl (g := (mkF m 269 #[.val (.int (Int32.ofNat 7)), .val (.ref a)] [(.int (2 : Int32)), (.ref a), (.int (2 : Int32)), (.ref a2), (.ref a2), (.ref a1), (.ref a1)])) rfl rfl (hb hby dtx_269) ?_
    show Go p e below _ T4 (mkF m 270 #[.val (.int (Int32.ofNat 7)), .val (.ref a)] [(.int c2), (.int (2 : Int32)), (.ref a2), (.ref a2), (.ref a1), (.ref a1)])
    refine Go.castore X4 hx hZ e4 A4 (i := 2) rfl (by simp) (g := (mkF m 270 #[.val (.int (Int32.ofNat 7)), .val (.ref a)] [(.int c2), (.int (2 : Int32)), (.ref a2), (.ref a2), (.ref a1), (.ref a1)])) rfl rfl (hb hby dtx_270) ?_
    rintro T5 h5 X5 e5 W5 A5
    have sW5 := W5.size
    show Go p e below _ T5 (mkF m 271 #[.val (.int (Int32.ofNat 7)), .val (.ref a)] [(.ref a2), (.ref a1), (.ref a1)])
    have A_a5 := A_a4.other W5 na
    refine Go.st (fun _ k => XS.dup X5.here hx rfl (hb hby dtx_271) rfl rfl k) ?_
    show Go p e below _ T5 (mkF m 272 #[.val (.int (Int32.ofNat 7)), .val (.ref a)] [(.ref a2), (.ref a2), (.ref a1), (.ref a1)])
    refine Go.st (fun _ k => XS.iconst X5.here hx rfl (hb hby dtx_272) k) ?_
    show Go p e below _ T5 (mkF m 273 #[.val (.int (Int32.ofNat 7)), .val (.ref a)] [(.int (3 : Int32)), (.ref a2), (.ref a2), (.ref a1), (.ref a1)])
    refine Go.st (fun _ k => XS.aloadN X5.here hx rfl (hb hby dtx_273) rfl rfl k) ?_
    show Go p e below _ T5 (mkF m 274 #[.val (.int (Int32.ofNat 7)), .val (.ref a)] [(.ref a), (.int (3 : Int32)), (.ref a2), (.ref a2), (.ref a1), (.ref a1)])
    refine Go.st (fun _ k => XS.iconst X5.here hx rfl (hb hby dtx_274) k) ?_
    show Go p e below _ T5 (mkF m 275 #[.val (.int (Int32.ofNat 7)), .val (.ref a)] [(.int (3 : Int32)), (.ref a), (.int (3 : Int32)), (.ref a2), (.ref a2), (.ref a1), (.ref a1)])
    refine Go.caload X5 hx hZ e5 A_a5 (i := 3) (x := c3) rfl rfl (g := (mkF m 275 #[.val (.int (Int32.ofNat 7)), .val (.ref a)] [(.int (3 : Int32)), (.ref a), (.int (3 : Int32)), (.ref a2), (.ref a2), (.ref a1), (.ref a1)])) rfl rfl (hb hby dtx_275) ?_
    show Go p e below _ T5 (mkF m 276 #[.val (.int (Int32.ofNat 7)), .val (.ref a)] [(.int c3), (.int (3 : Int32)), (.ref a2), (.ref a2), (.ref a1), (.ref a1)])
    refine Go.castore X5 hx hZ e5 A5 (i := 3) rfl (by simp) (g := (mkF m 276 #[.val (.int (Int32.ofNat 7)), .val (.ref a)] [(.int c3), (.int (3 : Int32)), (.ref a2), (.ref a2), (.ref a1), (.ref a1)])) rfl rfl (hb hby dtx_276) ?_
    rintro T6 h6 X6 e6 W6 A6
    have sW6 := W6.size
    show Go p e below _ T6 (mkF m 277 #[.val (.int (Int32.ofNat 7)), .val (.ref a)] [(.ref a2), (.ref a1), (.ref a1)])
    have A_a6 := A_a5.other W6 na
    refine Go.st (fun _ k => XS.dup X6.here hx rfl (hb hby dtx_277) rfl rfl k) ?_
    show Go p e below _ T6 (mkF m 278 #[.val (.int (Int32.ofNat 7)), .val (.ref a)] [(.ref a2), (.ref a2), (.ref a1), (.ref a1)])
    refine Go.st (fun _ k => XS.iconst X6.here hx rfl (hb hby dtx_278) k) ?_
    show Go p e below _ T6 (mkF m 279 #[.val (.int (Int32.ofNat 7)), .val (.ref a)] [(.int (4 : Int32)), (.ref a2), (.ref a2), (.ref a1), (.ref a1)])
    refine Go.st (fun _ k => XS.aloadN X6.here hx rfl (hb hby dtx_279) rfl rfl k) ?_
    show Go p e below _ T6 (mkF m 280 #[.val (.int (Int32.ofNat 7)), .val (.ref a)] [(.ref a), (.int (4 : Int32)), (.ref a2), (.ref a2), (.ref a1), (.ref a1)])
    refine Go.st (fun _ k => XS.iconst X6.here hx rfl (hb hby dtx_280) k) ?_
    show Go p e below _ T6 (mkF m 281 #[.val (.int (Int32.ofNat 7)), .val (.ref a)] [(.int (4 : Int32)), (.ref a), (.int (4 : Int32)), (.ref a2), (.ref a2), (.ref a1), (.ref a1)])
    refine Go.caload X6 hx hZ e6 A_a6 (i := 4) (x := c4) rfl rfl (g := (mkF m 281 #[.val (.int (Int32.ofNat 7)), .val (.ref a)] [(.int (4 : Int32)), (.ref a), (.int (4 : Int32)), (.ref a2), (.ref a2), (.ref a1), (.ref a1)])) rfl rfl (hb hby dtx_281) ?_
    show Go p e below _ T6 (mkF m 282 #[.val (.int (Int32.ofNat 7)), .val (.ref a)] [(.int c4), (.int (4 : Int32)), (.ref a2), (.ref a2), (.ref a1), (.ref a1)])
    refine Go.castore X6 hx hZ e6 A6 (i := 4) rfl (by simp) (g := (mkF m 282 #[.val (.int (Int32.ofNat 7)), .val (.ref a)] [(.int c4), (.int (4 : Int32)), (.ref a2), (.ref a2), (.ref a1), (.ref a1)])) rfl rfl (hb hby dtx_282) ?_
    rintro T7 h7 X7 e7 W7 A7
    have sW7 := W7.size
    show Go p e below _ T7 (mkF m 283 #[.val (.int (Int32.ofNat 7)), .val (.ref a)] [(.ref a2), (.ref a1), (.ref a1)])
    have A_a7 := A_a6.other W7 na
    refine Go.st (fun _ k => XS.dup X7.here hx rfl (hb hby dtx_283) rfl rfl k) ?_
    show Go p e below _ T7 (mkF m 284 #[.val (.int (Int32.ofNat 7)), .val (.ref a)] [(.ref a2), (.ref a2), (.ref a1), (.ref a1)])
    refine Go.st (fun _ k => XS.iconst X7.here hx rfl (hb hby dtx_284) k) ?_
    show Go p e below _ T7 (mkF m 285 #[.val (.int (Int32.ofNat 7)), .val (.ref a)] [(.int (5 : Int32)), (.ref a2), (.ref a2), (.ref a1), (.ref a1)])
    refine Go.st (fun _ k => XS.aloadN X7.here hx rfl (hb hby dtx_285) rfl rfl k) ?_
    show Go p e below _ T7 (mkF m 286 #[.val (.int (Int32.ofNat 7)), .val (.ref a)] [(.ref a), (.int (5 : Int32)), (.ref a2), (.ref a2), (.ref a1), (.ref a1)])
    refine Go.st (fun _ k => XS.iconst X7.here hx rfl (hb hby dtx_286) k) ?_
    show Go p e below _ T7 (mkF m 287 #[.val (.int (Int32.ofNat 7)), .val (.ref a)] [(.int (5 : Int32)), (.ref a), (.int (5 : Int32)), (.ref a2), (.ref a2), (.ref a1), (.ref a1)])
    refine Go.caload X7 hx hZ e7 A_a7 (i := 5) (x := c5) rfl rfl (g := (mkF m 287 #[.val (.int (Int32.ofNat 7)), .val (.ref a)] [(.int (5 : Int32)), (.ref a), (.int (5 : Int32)), (.ref a2), (.ref a2), (.ref a1), (.ref a1)])) rfl rfl (hb hby dtx_287) ?_
    show Go p e below _ T7 (mkF m 288 #[.val (.int (Int32.ofNat 7)), .val (.ref a)] [(.int c5), (.int (5 : Int32)), (.ref a2), (.ref a2), (.ref a1), (.ref a1)])
    refine Go.castore X7 hx hZ e7 A7 (i := 5) rfl (by simp) (g := (mkF m 288 #[.val (.int (Int32.ofNat 7)), .val (.ref a)] [(.int c5), (.int (5 : Int32)), (.ref a2), (.ref a2), (.ref a1), (.ref a1)])) rfl rfl (hb hby dtx_288) ?_
    rintro T8 h8 X8 e8 W8 A8
    have sW8 := W8.size
    show Go p e below _ T8 (mkF m 289 #[.val (.int (Int32.ofNat 7)), .val (.ref a)] [(.ref a2), (.ref a1), (.ref a1)])
    have A_a8 := A_a7.other W8 na
    refine Go.st (fun _ k => XS.dup X8.here hx rfl (hb hby dtx_289) rfl rfl k) ?_
    show Go p e below _ T8 (mkF m 290 #[.val (.int (Int32.ofNat 7)), .val (.ref a)] [(.ref a2), (.ref a2), (.ref a1), (.ref a1)])
    refine Go.st (fun _ k => XS.bipush X8.here hx rfl (hb hby dtx_290) k) ?_
    show Go p e below _ T8 (mkF m 292 #[.val (.int (Int32.ofNat 7)), .val (.ref a)] [(.int (6 : Int32)), (.ref a2), (.ref a2), (.ref a1), (.ref a1)])
    refine Go.st (fun _ k => XS.aloadN X8.here hx rfl (hb hby dtx_292) rfl rfl k) ?_
    show Go p e below _ T8 (mkF m 293 #[.val (.int (Int32.ofNat 7)), .val (.ref a)] [(.ref a), (.int (6 : Int32)), (.ref a2), (.ref a2), (.ref a1), (.ref a1)])
    refine Go.st (fun _ k => XS.bipush X8.here hx rfl (hb hby dtx_293) k) ?_
    show Go p e below _ T8 (mkF m 295 #[.val (.int (Int32.ofNat 7)), .val (.ref a)] [(.int (6 : Int32)), (.ref a), (.int (6 : Int32)), (.ref a2), (.ref a2), (.ref a1), (.ref a1)])
    refine Go.caload X8 hx hZ e8 A_a8 (i := 6) (x := c6) rfl rfl (g := (mkF m 295 #[.val (.int (Int32.ofNat 7)), .val (.ref a)] [(.int (6 : Int32)), (.ref a), (.int (6 : Int32)), (.ref a2), (.ref a2), (.ref a1), (.ref a1)])) rfl rfl (hb hby dtx_295) ?_
    show Go p e below _ T8 (mkF m 296 #[.val (.int (Int32.ofNat 7)), .val (.ref a)] [(.int c6), (.int (6 : Int32)), (.ref a2), (.ref a2), (.ref a1), (.ref a1)])
    refine Go.castore X8 hx hZ e8 A8 (i := 6) rfl (by simp) (g := (mkF m 296 #[.val (.int (Int32.ofNat 7)), .val (.ref a)] [(.int c6), (.int (6 : Int32)), (.ref a2), (.ref a2), (.ref a1), (.ref a1)])) rfl rfl (hb hby dtx_296) ?_
    rintro T9 h9 X9 e9 W9 A9
    have sW9 := W9.size
    show Go p e below _ T9 (mkF m 297 #[.val (.int (Int32.ofNat 7)), .val (.ref a)] [(.ref a2), (.ref a1), (.ref a1)])
    have A_a9 := A_a8.other W9 na
    have n12 : a1 ≠ a2 := Nat.ne_of_lt (by omega)
    have Ac : AI Z h9 a2 .char ([c0, c1, c2, c3, c4, c5, c6] : List Int32) := by
      have q : AI Z h9 a2 .char [nar .char c0, nar .char c1, nar .char c2, nar .char c3, nar .char c4, nar .char c5, nar .char c6] := A9
      rwa [e_0, e_1, e_2, e_3, e_4, e_5, e_6] at q
    have hp : ∀ c ∈ ([c0, c1, c2, c3, c4, c5, c6] : List Int32), ¬ c < 0 ∧ ¬ (65535 : Int32) < c := fun c hc => hbd c (List.mem_of_mem_take (i := 7) hc)
    have Ok : Old Z n0 h9 := (((((((((X00.ext E1).ext E2).wr W3 (by omega)).wr W4 (by omega)).wr W5 (by omega)).wr W6 (by omega)).wr W7 (by omega)).wr W8 (by omega)).wr W9 (by omega))
    have Kk : Keep h0 h9 [] := ((((((((((Keep.refl h0 []).ext E1).ext E2).wr W3 (Or.inr (by omega))).wr W4 (Or.inr (by omega))).wr W5 (Or.inr (by omega))).wr W6 (Or.inr (by omega))).wr W7 (Or.inr (by omega))).wr W8 (Or.inr (by omega))).wr W9 (Or.inr (by omega)))
    have Nk := (Fr.snoc X9 (Fr.snoc X8 (Fr.snoc X7 (Fr.snoc X6 (Fr.snoc X5 (Fr.snoc X4 (Fr.snoc X3 (Fr.nil n0) (by omega)) (by omega)) (by omega)) (by omega)) (by omega)) (by omega)) (by omega))
    refine Go.callI X9 hx (y := (⟨"java/lang/String", "<init>", "([C)V"⟩ : MethodName)) rfl hown (mvT hZ (hw _ (List.mem_of_getElem? (i := 15) rfl))) (mvT hZ (hw _ (List.mem_of_getElem? (i := 16) rfl))) (mvT hZ (hw _ (List.mem_of_getElem? (i := 17) rfl))) (by decide) (Ctr.back (W := 1) (rmI1 l Z a0 hw z Su ([c0, c1, c2, c3, c4, c5, c6] : List Int32) (by simp) (by simp) hp a1 a2 _ _ h9 n0 (by omega) (by omega) Ok ((((((((A1.ext E2).wr W3).wr W4).wr W5).wr W6).wr W7).wr W8).wr W9) (((((((((D1 (Or.inr (hw _ (List.mem_of_getElem? (i := 27) rfl))) (ty := (.array .byte)) (by decide)).ext E2).other W3 (Or.inl n12)).other W4 (Or.inl n12)).other W5 (Or.inl n12)).other W6 (Or.inl n12)).other W7 (Or.inl n12)).other W8 (Or.inl n12)).other W9 (Or.inl n12)) (((((((((D1 (Or.inr (hw _ (List.mem_of_getElem? (i := 28) rfl))) (ty := .byte) (by decide)).ext E2).other W3 (Or.inl n12)).other W4 (Or.inl n12)).other W5 (Or.inl n12)).other W6 (Or.inl n12)).other W7 (Or.inl n12)).other W8 (Or.inl n12)).other W9 (Or.inl n12)) Ac) hZ (hw _ (List.mem_of_getElem? (i := 17) rfl)) (hw _ (List.mem_of_getElem? (i := 14) rfl)) (by (try dsimp only [room_1]); (try simp only [List.length_cons, List.length_nil]); omega) (by (try dsimp only [room_1]); (try simp only [List.length_cons, List.length_nil]); omega)) e9 (g := (mkF m 297 #[.val (.int (Int32.ofNat 7)), .val (.ref a)] [(.ref a2), (.ref a1), (.ref a1)])) rfl (by rw [hml]; rfl) (a := a1) (argsL := [(.ref a2)]) (rest := [(.ref a1)]) (lenOf pd_19 rfl) rfl (by show 2 * 0 + _ ≤ _; exact Nat.le_of_eq rfl) (hb hby dtx_297) rfl (by (try dsimp only [room_1]); (try simp only [List.length_cons, List.length_nil]); omega) (by (try dsimp only [room_1]); (try simp only [List.length_cons, List.length_nil]); omega) ?_
    rintro _ T99 L99 X99 ⟨rfl, N99, K99, E99, G99, t, F99, B99, ht⟩
    show Go p e below _ T99 (mkF m 300 #[.val (.int (Int32.ofNat 7)), .val (.ref a)] [(.ref a1)])
    have K09 : Keep h0 T99.heap [] := Kk.trans K99 (fun x q => Or.inr (by cases List.mem_singleton.mp q; omega))
    exact Go.retVW X99 hx (Bas.refl s 0) (Nat.zero_le _) hC0 (UX K09) hret hlk rfl rfl (hb hby dtx_300) ⟨a1, t, rfl, Fr.app Nk N99, K09, E99, G99, F99, B99⟩ (by (try dsimp only [room_1]); (try simp only [List.length_cons, List.length_nil]); omega) (by (try dsimp only [room_1]); (try simp only [List.length_cons, List.length_nil]); omega)
  refine Go.st (fun _ k => XS.icmpYes X0.here hx rfl (pc0 := 242) (pc' := 301) rfl (hb hby dtx_242) rfl (XT.ii_ne_t qn) (by decide) (by decide) k) ?_
  show Go p e below _ s₁ (mkF m 301 #[.val (.int (Int32.ofNat n)), .val (.ref a)] [])
  have nn7 : n ≠ 7 := fun z => qn (by rw [z]; rfl)
  clear qn
  refine Go.st (fun _ k => XS.iloadN X0.here hx rfl (hb hby dtx_301) rfl k) ?_
  show Go p e below _ s₁ (mkF m 302 #[.val (.int (Int32.ofNat n)), .val (.ref a)] [(.int (Int32.ofNat n))])
  refine Go.st (fun _ k => XS.bipush X0.here hx rfl (hb hby dtx_302) k) ?_
  show Go p e below _ s₁ (mkF m 304 #[.val (.int (Int32.ofNat n)), .val (.ref a)] [(.int (8 : Int32)), (.int (Int32.ofNat n))])
  by_cases qn : Int32.ofNat n = (8 : Int32)
  · skip
    refine Go.st (fun _ k => XS.icmpNo X0.here hx rfl (hb hby dtx_304) rfl (XT.ii_ne_f qn) k) ?_
    show Go p e below _ s₁ (mkF m 307 #[.val (.int (Int32.ofNat n)), .val (.ref a)] [])
    obtain rfl : n = 8 := by have q := congrArg Int32.toInt qn; rw [own_toInt (by omega)] at q; have q2 : ((8 : Int32)).toInt = 8 := rfl; omega
    clear qn
    show Go p e below _ s₁ (mkF m 307 #[.val (.int (Int32.ofNat 8)), .val (.ref a)] [])
    obtain ⟨T1, h1, X1, e1, E1, A1, D1, -, st1⟩ := newO X0 hx hZ hown (hw _ (List.mem_of_getElem? (i := 12) rfl)) (hw _ (List.mem_of_getElem? (i := 13) rfl)) (hw _ (List.mem_of_getElem? (i := 14) rfl)) e0 (g := (mkF m 307 #[.val (.int (Int32.ofNat 8)), .val (.ref a)] [])) rfl (hb hby dtx_307) (by (try dsimp only [room_1]); (try simp only [List.length_cons, List.length_nil]); omega) (by (try dsimp only [room_1]); (try simp only [List.length_cons, List.length_nil]); omega)
    obtain ⟨a1, g1⟩ : ∃ z, z = h0.size := ⟨_, rfl⟩
    rw [← g1] at A1 D1 st1
    have l1 : a1 < h1.size := A1.lt
    have sE1 := E1.1
    refine Go.st st1 ?_
    show Go p e below _ T1 (mkF m 310 #[.val (.int (Int32.ofNat 8)), .val (.ref a)] [(.ref a1)])
    refine Go.st (fun _ k => XS.dup X1.here hx rfl (hb hby dtx_310) rfl rfl k) ?_
    show Go p e below _ T1 (mkF m 311 #[.val (.int (Int32.ofNat 8)), .val (.ref a)] [(.ref a1), (.ref a1)])
    refine Go.st (fun _ k => XS.bipush X1.here hx rfl (hb hby dtx_311) k) ?_
    show Go p e below _ T1 (mkF m 313 #[.val (.int (Int32.ofNat 8)), .val (.ref a)] [(.int (8 : Int32)), (.ref a1), (.ref a1)])
    refine Go.newarr X1 hx hZ (ty := .char) rfl rfl (hw _ (List.mem_of_getElem? (i := 0) rfl)) e1 (g := (mkF m 313 #[.val (.int (Int32.ofNat 8)), .val (.ref a)] [(.int (8 : Int32)), (.ref a1), (.ref a1)])) rfl (hb hby dtx_313) rfl (n := 8) rfl (by decide) (by (try dsimp only [room_1]); (try simp only [List.length_cons, List.length_nil]); omega) (by (try dsimp only [room_1]); (try simp only [List.length_cons, List.length_nil]); omega) ?_
    rintro T2 h2 X2 e2 E2 l2 A2
    obtain ⟨a2, g2⟩ : ∃ z, z = h1.size := ⟨_, rfl⟩
    rw [← g2] at A2 l2 ⊢
    have sE2 := E2.1
    show Go p e below _ T2 (mkF m 315 #[.val (.int (Int32.ofNat 8)), .val (.ref a)] [(.ref a2), (.ref a1), (.ref a1)])
    refine Go.st (fun _ k => XS.dup X2.here hx rfl (hb hby dtx_315) rfl rfl k) ?_
    show Go p e below _ T2 (mkF m 316 #[.val (.int (Int32.ofNat 8)), .val (.ref a)] [(.ref a2), (.ref a2), (.ref a1), (.ref a1)])
    refine Go.st (fun _ k => XS.iconst X2.here hx rfl (hb hby dtx_316) k) ?_
    show Go p e below _ T2 (mkF m 317 #[.val (.int (Int32.ofNat 8)), .val (.ref a)] [(.int (0 : Int32)), (.ref a2), (.ref a2), (.ref a1), (.ref a1)])
    refine Go.st (fun _ k => XS.aloadN X2.here hx rfl (hb hby dtx_317) rfl rfl k) ?_
    show Go p e below _ T2 (mkF m 318 #[.val (.int (Int32.ofNat 8)), .val (.ref a)] [(.ref a), (.int (0 : Int32)), (.ref a2), (.ref a2), (.ref a1), (.ref a1)])
    refine Go.st (fun _ k => XS.iconst X2.here hx rfl (hb hby dtx_318) k) ?_
    show Go p e below _ T2 (mkF m 319 #[.val (.int (Int32.ofNat 8)), .val (.ref a)] [(.int (0 : Int32)), (.ref a), (.int (0 : Int32)), (.ref a2), (.ref a2), (.ref a1), (.ref a1)])
    have A_a := (A.ext E1).ext E2
    have na : a ≠ a2 := Nat.ne_of_lt (Nat.lt_of_lt_of_eq (A.ext E1).lt g2.symm)
    refine Go.caload X2 hx hZ e2 A_a (i := 0) (x := c0) rfl rfl (g := (mkF m 319 #[.val (.int (Int32.ofNat 8)), .val (.ref a)] [(.int (0 : Int32)), (.ref a), (.int (0 : Int32)), (.ref a2), (.ref a2), (.ref a1), (.ref a1)])) rfl rfl (hb hby dtx_319) ?_
    show Go p e below _ T2 (mkF m 320 #[.val (.int (Int32.ofNat 8)), .val (.ref a)] [(.int c0), (.int (0 : Int32)), (.ref a2), (.ref a2), (.ref a1), (.ref a1)])
    refine Go.castore X2 hx hZ e2 A2 (i := 0) rfl (by simp) (g := (mkF m 320 #[.val (.int (Int32.ofNat 8)), .val (.ref a)] [(.int c0), (.int (0 : Int32)), (.ref a2), (.ref a2), (.ref a1), (.ref a1)])) rfl rfl (hb hby dtx_320) ?_
    rintro T3 h3 X3 e3 W3 A3
    have sW3 := W3.size
    show Go p e below _ T3 (mkF m 321 #[.val (.int (Int32.ofNat 8)), .val (.ref a)] [(.ref a2), (.ref a1), (.ref a1)])
    have A_a3 := A_a.other W3 na
    refine Go.st (fun _ k => XS.dup X3.here hx rfl (hb hby dtx_321) rfl rfl k) ?_
    show Go p e below _ T3 (mkF m 322 #[.val (.int (Int32.ofNat 8)), .val (.ref a)] [(.ref a2), (.ref a2), (.ref a1), (.ref a1)])
    refine Go.st (fun _ k => XS.iconst X3.here hx rfl (hb hby dtx_322) k) ?_
    show Go p e below _ T3 (mkF m 323 #[.val (.int (Int32.ofNat 8)), .val (.ref a)] [(.int (1 : Int32)), (.ref a2), (.ref a2), (.ref a1), (.ref a1)])
    refine Go.st (fun _ k => XS.aloadN X3.here hx rfl (hb hby dtx_323) rfl rfl k) ?_
    show Go p e below _ T3 (mkF m 324 #[.val (.int (Int32.ofNat 8)), .val (.ref a)] [(.ref a), (.int (1 : Int32)), (.ref a2), (.ref a2), (.ref a1), (.ref a1)])
    refine Go.st (fun _ k => XS.iconst X3.here hx rfl (hb hby dtx_324) k) ?_
    show Go p e below _ T3 (mkF m 325 #[.val (.int (Int32.ofNat 8)), .val (.ref a)] [(.int (1 : Int32)), (.ref a), (.int (1 : Int32)), (.ref a2), (.ref a2), (.ref a1), (.ref a1)])
    refine Go.caload X3 hx hZ e3 A_a3 (i := 1) (x := c1) rfl rfl (g := (mkF m 325 #[.val (.int (Int32.ofNat 8)), .val (.ref a)] [(.int (1 : Int32)), (.ref a), (.int (1 : Int32)), (.ref a2), (.ref a2), (.ref a1), (.ref a1)])) rfl rfl (hb hby dtx_325) ?_
    show Go p e below _ T3 (mkF m 326 #[.val (.int (Int32.ofNat 8)), .val (.ref a)] [(.int c1), (.int (1 : Int32)), (.ref a2), (.ref a2), (.ref a1), (.ref a1)])
    refine Go.castore X3 hx hZ e3 A3 (i := 1) rfl (by simp) (g := (mkF m 326 #[.val (.int (Int32.ofNat 8)), .val (.ref a)] [(.int c1), (.int (1 : Int32)), (.ref a2), (.ref a2), (.ref a1), (.ref a1)])) rfl rfl (hb hby dtx_326) ?_
    rintro T4 h4 X4 e4 W4 A4
    have sW4 := W4.size
    show Go p e below _ T4 (mkF m 327 #[.val (.int (Int32.ofNat 8)), .val (.ref a)] [(.ref a2), (.ref a1), (.ref a1)])
    have A_a4 := A_a3.other W4 na
    refine Go.st (fun _ k => XS.dup X4.here hx rfl (hb hby dtx_327) rfl rfl k) ?_
    show Go p e below _ T4 (mkF m 328 #[.val (.int (Int32.ofNat 8)), .val (.ref a)] [(.ref a2), (.ref a2), (.ref a1), (.ref a1)])
    refine Go.st (fun _ k => XS.iconst X4.here hx rfl (hb hby dtx_328) k) ?_
    show Go p e below _ T4 (mkF m 329 #[.val (.int (Int32.ofNat 8)), .val (.ref a)] [(.int (2 : Int32)), (.ref a2), (.ref a2), (.ref a1), (.ref a1)])
    refine Go.st (fun _ k => XS.aloadN X4.here hx rfl (hb hby dtx_329) rfl rfl k) ?_
    show Go p e below _ T4 (mkF m 330 #[.val (.int (Int32.ofNat 8)), .val (.ref a)] [(.ref a), (.int (2 : Int32)), (.ref a2), (.ref a2), (.ref a1), (.ref a1)])
    refine Go.st (fun _ k => XS.iconst X4.here hx rfl (hb hby dtx_330) k) ?_
    show Go p e below _ T4 (mkF m 331 #[.val (.int (Int32.ofNat 8)), .val (.ref a)] [(.int (2 : Int32)), (.ref a), (.int (2 : Int32)), (.ref a2), (.ref a2), (.ref a1), (.ref a1)])
    refine Go.caload X4 hx hZ e4 A_a4 (i := 2) (x := c2) rfl rfl (g := (mkF m 331 #[.val (.int (Int32.ofNat 8)), .val (.ref a)] [(.int (2 : Int32)), (.ref a), (.int (2 : Int32)), (.ref a2), (.ref a2), (.ref a1), (.ref a1)])) rfl rfl (hb hby dtx_331) ?_
    show Go p e below _ T4 (mkF m 332 #[.val (.int (Int32.ofNat 8)), .val (.ref a)] [(.int c2), (.int (2 : Int32)), (.ref a2), (.ref a2), (.ref a1), (.ref a1)])
    refine Go.castore X4 hx hZ e4 A4 (i := 2) rfl (by simp) (g := (mkF m 332 #[.val (.int (Int32.ofNat 8)), .val (.ref a)] [(.int c2), (.int (2 : Int32)), (.ref a2), (.ref a2), (.ref a1), (.ref a1)])) rfl rfl (hb hby dtx_332) ?_
    rintro T5 h5 X5 e5 W5 A5
    have sW5 := W5.size
    show Go p e below _ T5 (mkF m 333 #[.val (.int (Int32.ofNat 8)), .val (.ref a)] [(.ref a2), (.ref a1), (.ref a1)])
    have A_a5 := A_a4.other W5 na
    refine Go.st (fun _ k => XS.dup X5.here hx rfl (hb hby dtx_333) rfl rfl k) ?_
    show Go p e below _ T5 (mkF m 334 #[.val (.int (Int32.ofNat 8)), .val (.ref a)] [(.ref a2), (.ref a2), (.ref a1), (.ref a1)])
    refine Go.st (fun _ k => XS.iconst X5.here hx rfl (hb hby dtx_334) k) ?_
    show Go p e below _ T5 (mkF m 335 #[.val (.int (Int32.ofNat 8)), .val (.ref a)] [(.int (3 : Int32)), (.ref a2), (.ref a2), (.ref a1), (.ref a1)])
    refine Go.st (fun _ k => XS.aloadN X5.here hx rfl (hb hby dtx_335) rfl rfl k) ?_
    show Go p e below _ T5 (mkF m 336 #[.val (.int (Int32.ofNat 8)), .val (.ref a)] [(.ref a), (.int (3 : Int32)), (.ref a2), (.ref a2), (.ref a1), (.ref a1)])
    refine Go.st (fun _ k => XS.iconst X5.here hx rfl (hb hby dtx_336) k) ?_
    show Go p e below _ T5 (mkF m 337 #[.val (.int (Int32.ofNat 8)), .val (.ref a)] [(.int (3 : Int32)), (.ref a), (.int (3 : Int32)), (.ref a2), (.ref a2), (.ref a1), (.ref a1)])
    refine Go.caload X5 hx hZ e5 A_a5 (i := 3) (x := c3) rfl rfl (g := (mkF m 337 #[.val (.int (Int32.ofNat 8)), .val (.ref a)] [(.int (3 : Int32)), (.ref a), (.int (3 : Int32)), (.ref a2), (.ref a2), (.ref a1), (.ref a1)])) rfl rfl (hb hby dtx_337) ?_
    show Go p e below _ T5 (mkF m 338 #[.val (.int (Int32.ofNat 8)), .val (.ref a)] [(.int c3), (.int (3 : Int32)), (.ref a2), (.ref a2), (.ref a1), (.ref a1)])
    refine Go.castore X5 hx hZ e5 A5 (i := 3) rfl (by simp) (g := (mkF m 338 #[.val (.int (Int32.ofNat 8)), .val (.ref a)] [(.int c3), (.int (3 : Int32)), (.ref a2), (.ref a2), (.ref a1), (.ref a1)])) rfl rfl (hb hby dtx_338) ?_
    rintro T6 h6 X6 e6 W6 A6
    have sW6 := W6.size
    show Go p e below _ T6 (mkF m 339 #[.val (.int (Int32.ofNat 8)), .val (.ref a)] [(.ref a2), (.ref a1), (.ref a1)])
    have A_a6 := A_a5.other W6 na
    refine Go.st (fun _ k => XS.dup X6.here hx rfl (hb hby dtx_339) rfl rfl k) ?_
    show Go p e below _ T6 (mkF m 340 #[.val (.int (Int32.ofNat 8)), .val (.ref a)] [(.ref a2), (.ref a2), (.ref a1), (.ref a1)])
    refine Go.st (fun _ k => XS.iconst X6.here hx rfl (hb hby dtx_340) k) ?_
    show Go p e below _ T6 (mkF m 341 #[.val (.int (Int32.ofNat 8)), .val (.ref a)] [(.int (4 : Int32)), (.ref a2), (.ref a2), (.ref a1), (.ref a1)])
    refine Go.st (fun _ k => XS.aloadN X6.here hx rfl (hb hby dtx_341) rfl rfl k) ?_
    show Go p e below _ T6 (mkF m 342 #[.val (.int (Int32.ofNat 8)), .val (.ref a)] [(.ref a), (.int (4 : Int32)), (.ref a2), (.ref a2), (.ref a1), (.ref a1)])
    refine Go.st (fun _ k => XS.iconst X6.here hx rfl (hb hby dtx_342) k) ?_
    show Go p e below _ T6 (mkF m 343 #[.val (.int (Int32.ofNat 8)), .val (.ref a)] [(.int (4 : Int32)), (.ref a), (.int (4 : Int32)), (.ref a2), (.ref a2), (.ref a1), (.ref a1)])
    refine Go.caload X6 hx hZ e6 A_a6 (i := 4) (x := c4) rfl rfl (g := (mkF m 343 #[.val (.int (Int32.ofNat 8)), .val (.ref a)] [(.int (4 : Int32)), (.ref a), (.int (4 : Int32)), (.ref a2), (.ref a2), (.ref a1), (.ref a1)])) rfl rfl (hb hby dtx_343) ?_
    show Go p e below _ T6 (mkF m 344 #[.val (.int (Int32.ofNat 8)), .val (.ref a)] [(.int c4), (.int (4 : Int32)), (.ref a2), (.ref a2), (.ref a1), (.ref a1)])
    refine Go.castore X6 hx hZ e6 A6 (i := 4) rfl (by simp) (g := (mkF m 344 #[.val (.int (Int32.ofNat 8)), .val (.ref a)] [(.int c4), (.int (4 : Int32)), (.ref a2), (.ref a2), (.ref a1), (.ref a1)])) rfl rfl (hb hby dtx_344) ?_
    rintro T7 h7 X7 e7 W7 A7
    have sW7 := W7.size
    show Go p e below _ T7 (mkF m 345 #[.val (.int (Int32.ofNat 8)), .val (.ref a)] [(.ref a2), (.ref a1), (.ref a1)])
    have A_a7 := A_a6.other W7 na
    refine Go.st (fun _ k => XS.dup X7.here hx rfl (hb hby dtx_345) rfl rfl k) ?_
    show Go p e below _ T7 (mkF m 346 #[.val (.int (Int32.ofNat 8)), .val (.ref a)] [(.ref a2), (.ref a2), (.ref a1), (.ref a1)])
    refine Go.st (fun _ k => XS.iconst X7.here hx rfl (hb hby dtx_346) k) ?_
    show Go p e below _ T7 (mkF m 347 #[.val (.int (Int32.ofNat 8)), .val (.ref a)] [(.int (5 : Int32)), (.ref a2), (.ref a2), (.ref a1), (.ref a1)])
    refine Go.st (fun _ k => XS.aloadN X7.here hx rfl (hb hby dtx_347) rfl rfl k) ?_
    show Go p e below _ T7 (mkF m 348 #[.val (.int (Int32.ofNat 8)), .val (.ref a)] [(.ref a), (.int (5 : Int32)), (.ref a2), (.ref a2), (.ref a1), (.ref a1)])
    refine Go.st (fun _ k => XS.iconst X7.here hx rfl (hb hby dtx_348) k) ?_
    show Go p e below _ T7 (mkF m 349 #[.val (.int (Int32.ofNat 8)), .val (.ref a)] [(.int (5 : Int32)), (.ref a), (.int (5 : Int32)), (.ref a2), (.ref a2), (.ref a1), (.ref a1)])
    refine Go.caload X7 hx hZ e7 A_a7 (i := 5) (x := c5) rfl rfl (g := (mkF m 349 #[.val (.int (Int32.ofNat 8)), .val (.ref a)] [(.int (5 : Int32)), (.ref a), (.int (5 : Int32)), (.ref a2), (.ref a2), (.ref a1), (.ref a1)])) rfl rfl (hb hby dtx_349) ?_
    show Go p e below _ T7 (mkF m 350 #[.val (.int (Int32.ofNat 8)), .val (.ref a)] [(.int c5), (.int (5 : Int32)), (.ref a2), (.ref a2), (.ref a1), (.ref a1)])
    refine Go.castore X7 hx hZ e7 A7 (i := 5) rfl (by simp) (g := (mkF m 350 #[.val (.int (Int32.ofNat 8)), .val (.ref a)] [(.int c5), (.int (5 : Int32)), (.ref a2), (.ref a2), (.ref a1), (.ref a1)])) rfl rfl (hb hby dtx_350) ?_
    rintro T8 h8 X8 e8 W8 A8
    have sW8 := W8.size
    show Go p e below _ T8 (mkF m 351 #[.val (.int (Int32.ofNat 8)), .val (.ref a)] [(.ref a2), (.ref a1), (.ref a1)])
    have A_a8 := A_a7.other W8 na
    refine Go.st (fun _ k => XS.dup X8.here hx rfl (hb hby dtx_351) rfl rfl k) ?_
    show Go p e below _ T8 (mkF m 352 #[.val (.int (Int32.ofNat 8)), .val (.ref a)] [(.ref a2), (.ref a2), (.ref a1), (.ref a1)])
    refine Go.st (fun _ k => XS.bipush X8.here hx rfl (hb hby dtx_352) k) ?_
    show Go p e below _ T8 (mkF m 354 #[.val (.int (Int32.ofNat 8)), .val (.ref a)] [(.int (6 : Int32)), (.ref a2), (.ref a2), (.ref a1), (.ref a1)])
    refine Go.st (fun _ k => XS.aloadN X8.here hx rfl (hb hby dtx_354) rfl rfl k) ?_
    show Go p e below _ T8 (mkF m 355 #[.val (.int (Int32.ofNat 8)), .val (.ref a)] [(.ref a), (.int (6 : Int32)), (.ref a2), (.ref a2), (.ref a1), (.ref a1)])
    refine Go.st (fun _ k => XS.bipush X8.here hx rfl (hb hby dtx_355) k) ?_
    show Go p e below _ T8 (mkF m 357 #[.val (.int (Int32.ofNat 8)), .val (.ref a)] [(.int (6 : Int32)), (.ref a), (.int (6 : Int32)), (.ref a2), (.ref a2), (.ref a1), (.ref a1)])
    refine Go.caload X8 hx hZ e8 A_a8 (i := 6) (x := c6) rfl rfl (g := (mkF m 357 #[.val (.int (Int32.ofNat 8)), .val (.ref a)] [(.int (6 : Int32)), (.ref a), (.int (6 : Int32)), (.ref a2), (.ref a2), (.ref a1), (.ref a1)])) rfl rfl (hb hby dtx_357) ?_
    show Go p e below _ T8 (mkF m 358 #[.val (.int (Int32.ofNat 8)), .val (.ref a)] [(.int c6), (.int (6 : Int32)), (.ref a2), (.ref a2), (.ref a1), (.ref a1)])
    refine Go.castore X8 hx hZ e8 A8 (i := 6) rfl (by simp) (g := (mkF m 358 #[.val (.int (Int32.ofNat 8)), .val (.ref a)] [(.int c6), (.int (6 : Int32)), (.ref a2), (.ref a2), (.ref a1), (.ref a1)])) rfl rfl (hb hby dtx_358) ?_
    rintro T9 h9 X9 e9 W9 A9
    have sW9 := W9.size
    show Go p e below _ T9 (mkF m 359 #[.val (.int (Int32.ofNat 8)), .val (.ref a)] [(.ref a2), (.ref a1), (.ref a1)])
    have A_a9 := A_a8.other W9 na
    refine Go.st (fun _ k => XS.dup X9.here hx rfl (hb hby dtx_359) rfl rfl k) ?_
    show Go p e below _ T9 (mkF m 360 #[.val (.int (Int32.ofNat 8)), .val (.ref a)] [(.ref a2), (.ref a2), (.ref a1), (.ref a1)])
    refine Go.st (fun _ k => XS.bipush X9.here hx rfl (hb hby dtx_360) k) ?_
    show Go p e below _ T9 (mkF m 362 #[.val (.int (Int32.ofNat 8)), .val (.ref a)] [(.int (7 : Int32)), (.ref a2), (.ref a2), (.ref a1), (.ref a1)])
    refine Go.st (fun _ k => XS.aloadN X9.here hx rfl (hb hby dtx_362) rfl rfl k) ?_
    show Go p e below _ T9 (mkF m 363 #[.val (.int (Int32.ofNat 8)), .val (.ref a)] [(.ref a), (.int (7 : Int32)), (.ref a2), (.ref a2), (.ref a1), (.ref a1)])
    refine Go.st (fun _ k => XS.bipush X9.here hx rfl (hb hby dtx_363) k) ?_
    show Go p e below _ T9 (mkF m 365 #[.val (.int (Int32.ofNat 8)), .val (.ref a)] [(.int (7 : Int32)), (.ref a), (.int (7 : Int32)), (.ref a2), (.ref a2), (.ref a1), (.ref a1)])
    refine Go.caload X9 hx hZ e9 A_a9 (i := 7) (x := c7) rfl rfl (g := (mkF m 365 #[.val (.int (Int32.ofNat 8)), .val (.ref a)] [(.int (7 : Int32)), (.ref a), (.int (7 : Int32)), (.ref a2), (.ref a2), (.ref a1), (.ref a1)])) rfl rfl (hb hby dtx_365) ?_
    show Go p e below _ T9 (mkF m 366 #[.val (.int (Int32.ofNat 8)), .val (.ref a)] [(.int c7), (.int (7 : Int32)), (.ref a2), (.ref a2), (.ref a1), (.ref a1)])
    refine Go.castore X9 hx hZ e9 A9 (i := 7) rfl (by simp) (g := (mkF m 366 #[.val (.int (Int32.ofNat 8)), .val (.ref a)] [(.int c7), (.int (7 : Int32)), (.ref a2), (.ref a2), (.ref a1), (.ref a1)])) rfl rfl (hb hby dtx_366) ?_
    rintro T10 h10 X10 e10 W10 A10
    have sW10 := W10.size
    show Go p e below _ T10 (mkF m 367 #[.val (.int (Int32.ofNat 8)), .val (.ref a)] [(.ref a2), (.ref a1), (.ref a1)])
    have A_a10 := A_a9.other W10 na
    have n12 : a1 ≠ a2 := Nat.ne_of_lt (by omega)
    have Ac : AI Z h10 a2 .char ([c0, c1, c2, c3, c4, c5, c6, c7] : List Int32) := by
      have q : AI Z h10 a2 .char [nar .char c0, nar .char c1, nar .char c2, nar .char c3, nar .char c4, nar .char c5, nar .char c6, nar .char c7] := A10
      rwa [e_0, e_1, e_2, e_3, e_4, e_5, e_6, e_7] at q
    have hp : ∀ c ∈ ([c0, c1, c2, c3, c4, c5, c6, c7] : List Int32), ¬ c < 0 ∧ ¬ (65535 : Int32) < c := fun c hc => hbd c (List.mem_of_mem_take (i := 8) hc)
    have Ok : Old Z n0 h10 := ((((((((((X00.ext E1).ext E2).wr W3 (by omega)).wr W4 (by omega)).wr W5 (by omega)).wr W6 (by omega)).wr W7 (by omega)).wr W8 (by omega)).wr W9 (by omega)).wr W10 (by omega))
    have Kk : Keep h0 h10 [] := (((((((((((Keep.refl h0 []).ext E1).ext E2).wr W3 (Or.inr (by omega))).wr W4 (Or.inr (by omega))).wr W5 (Or.inr (by omega))).wr W6 (Or.inr (by omega))).wr W7 (Or.inr (by omega))).wr W8 (Or.inr (by omega))).wr W9 (Or.inr (by omega))).wr W10 (Or.inr (by omega)))
    have Nk := (Fr.snoc X10 (Fr.snoc X9 (Fr.snoc X8 (Fr.snoc X7 (Fr.snoc X6 (Fr.snoc X5 (Fr.snoc X4 (Fr.snoc X3 (Fr.nil n0) (by omega)) (by omega)) (by omega)) (by omega)) (by omega)) (by omega)) (by omega)) (by omega))
    refine Go.callI X10 hx (y := (⟨"java/lang/String", "<init>", "([C)V"⟩ : MethodName)) rfl hown (mvT hZ (hw _ (List.mem_of_getElem? (i := 15) rfl))) (mvT hZ (hw _ (List.mem_of_getElem? (i := 16) rfl))) (mvT hZ (hw _ (List.mem_of_getElem? (i := 17) rfl))) (by decide) (Ctr.back (W := 1) (rmI1 l Z a0 hw z Su ([c0, c1, c2, c3, c4, c5, c6, c7] : List Int32) (by simp) (by simp) hp a1 a2 _ _ h10 n0 (by omega) (by omega) Ok (((((((((A1.ext E2).wr W3).wr W4).wr W5).wr W6).wr W7).wr W8).wr W9).wr W10) ((((((((((D1 (Or.inr (hw _ (List.mem_of_getElem? (i := 27) rfl))) (ty := (.array .byte)) (by decide)).ext E2).other W3 (Or.inl n12)).other W4 (Or.inl n12)).other W5 (Or.inl n12)).other W6 (Or.inl n12)).other W7 (Or.inl n12)).other W8 (Or.inl n12)).other W9 (Or.inl n12)).other W10 (Or.inl n12)) ((((((((((D1 (Or.inr (hw _ (List.mem_of_getElem? (i := 28) rfl))) (ty := .byte) (by decide)).ext E2).other W3 (Or.inl n12)).other W4 (Or.inl n12)).other W5 (Or.inl n12)).other W6 (Or.inl n12)).other W7 (Or.inl n12)).other W8 (Or.inl n12)).other W9 (Or.inl n12)).other W10 (Or.inl n12)) Ac) hZ (hw _ (List.mem_of_getElem? (i := 17) rfl)) (hw _ (List.mem_of_getElem? (i := 14) rfl)) (by (try dsimp only [room_1]); (try simp only [List.length_cons, List.length_nil]); omega) (by (try dsimp only [room_1]); (try simp only [List.length_cons, List.length_nil]); omega)) e10 (g := (mkF m 367 #[.val (.int (Int32.ofNat 8)), .val (.ref a)] [(.ref a2), (.ref a1), (.ref a1)])) rfl (by rw [hml]; rfl) (a := a1) (argsL := [(.ref a2)]) (rest := [(.ref a1)]) (lenOf pd_19 rfl) rfl (by show 2 * 0 + _ ≤ _; exact Nat.le_of_eq rfl) (hb hby dtx_367) rfl (by (try dsimp only [room_1]); (try simp only [List.length_cons, List.length_nil]); omega) (by (try dsimp only [room_1]); (try simp only [List.length_cons, List.length_nil]); omega) ?_
    rintro _ T99 L99 X99 ⟨rfl, N99, K99, E99, G99, t, F99, B99, ht⟩
    show Go p e below _ T99 (mkF m 370 #[.val (.int (Int32.ofNat 8)), .val (.ref a)] [(.ref a1)])
    have K09 : Keep h0 T99.heap [] := Kk.trans K99 (fun x q => Or.inr (by cases List.mem_singleton.mp q; omega))
    exact Go.retVW X99 hx (Bas.refl s 0) (Nat.zero_le _) hC0 (UX K09) hret hlk rfl rfl (hb hby dtx_370) ⟨a1, t, rfl, Fr.app Nk N99, K09, E99, G99, F99, B99⟩ (by (try dsimp only [room_1]); (try simp only [List.length_cons, List.length_nil]); omega) (by (try dsimp only [room_1]); (try simp only [List.length_cons, List.length_nil]); omega)
  refine Go.st (fun _ k => XS.icmpYes X0.here hx rfl (pc0 := 304) (pc' := 371) rfl (hb hby dtx_304) rfl (XT.ii_ne_t qn) (by decide) (by decide) k) ?_
  show Go p e below _ s₁ (mkF m 371 #[.val (.int (Int32.ofNat n)), .val (.ref a)] [])
  have nn8 : n ≠ 8 := fun z => qn (by rw [z]; rfl)
  clear qn
  refine Go.st (fun _ k => XS.iloadN X0.here hx rfl (hb hby dtx_371) rfl k) ?_
  show Go p e below _ s₁ (mkF m 372 #[.val (.int (Int32.ofNat n)), .val (.ref a)] [(.int (Int32.ofNat n))])
  refine Go.st (fun _ k => XS.bipush X0.here hx rfl (hb hby dtx_372) k) ?_
  show Go p e below _ s₁ (mkF m 374 #[.val (.int (Int32.ofNat n)), .val (.ref a)] [(.int (9 : Int32)), (.int (Int32.ofNat n))])
  by_cases qn : Int32.ofNat n = (9 : Int32)
  · skip
    refine Go.st (fun _ k => XS.icmpNo X0.here hx rfl (hb hby dtx_374) rfl (XT.ii_ne_f qn) k) ?_
    show Go p e below _ s₁ (mkF m 377 #[.val (.int (Int32.ofNat n)), .val (.ref a)] [])
    obtain rfl : n = 9 := by have q := congrArg Int32.toInt qn; rw [own_toInt (by omega)] at q; have q2 : ((9 : Int32)).toInt = 9 := rfl; omega
    clear qn
    show Go p e below _ s₁ (mkF m 377 #[.val (.int (Int32.ofNat 9)), .val (.ref a)] [])
    obtain ⟨T1, h1, X1, e1, E1, A1, D1, -, st1⟩ := newO X0 hx hZ hown (hw _ (List.mem_of_getElem? (i := 12) rfl)) (hw _ (List.mem_of_getElem? (i := 13) rfl)) (hw _ (List.mem_of_getElem? (i := 14) rfl)) e0 (g := (mkF m 377 #[.val (.int (Int32.ofNat 9)), .val (.ref a)] [])) rfl (hb hby dtx_377) (by (try dsimp only [room_1]); (try simp only [List.length_cons, List.length_nil]); omega) (by (try dsimp only [room_1]); (try simp only [List.length_cons, List.length_nil]); omega)
    obtain ⟨a1, g1⟩ : ∃ z, z = h0.size := ⟨_, rfl⟩
    rw [← g1] at A1 D1 st1
    have l1 : a1 < h1.size := A1.lt
    have sE1 := E1.1
    refine Go.st st1 ?_
    show Go p e below _ T1 (mkF m 380 #[.val (.int (Int32.ofNat 9)), .val (.ref a)] [(.ref a1)])
    refine Go.st (fun _ k => XS.dup X1.here hx rfl (hb hby dtx_380) rfl rfl k) ?_
    show Go p e below _ T1 (mkF m 381 #[.val (.int (Int32.ofNat 9)), .val (.ref a)] [(.ref a1), (.ref a1)])
    refine Go.st (fun _ k => XS.bipush X1.here hx rfl (hb hby dtx_381) k) ?_
    show Go p e below _ T1 (mkF m 383 #[.val (.int (Int32.ofNat 9)), .val (.ref a)] [(.int (9 : Int32)), (.ref a1), (.ref a1)])
    refine Go.newarr X1 hx hZ (ty := .char) rfl rfl (hw _ (List.mem_of_getElem? (i := 0) rfl)) e1 (g := (mkF m 383 #[.val (.int (Int32.ofNat 9)), .val (.ref a)] [(.int (9 : Int32)), (.ref a1), (.ref a1)])) rfl (hb hby dtx_383) rfl (n := 9) rfl (by decide) (by (try dsimp only [room_1]); (try simp only [List.length_cons, List.length_nil]); omega) (by (try dsimp only [room_1]); (try simp only [List.length_cons, List.length_nil]); omega) ?_
    rintro T2 h2 X2 e2 E2 l2 A2
    obtain ⟨a2, g2⟩ : ∃ z, z = h1.size := ⟨_, rfl⟩
    rw [← g2] at A2 l2 ⊢
    have sE2 := E2.1
    show Go p e below _ T2 (mkF m 385 #[.val (.int (Int32.ofNat 9)), .val (.ref a)] [(.ref a2), (.ref a1), (.ref a1)])
    refine Go.st (fun _ k => XS.dup X2.here hx rfl (hb hby dtx_385) rfl rfl k) ?_
    show Go p e below _ T2 (mkF m 386 #[.val (.int (Int32.ofNat 9)), .val (.ref a)] [(.ref a2), (.ref a2), (.ref a1), (.ref a1)])
    refine Go.st (fun _ k => XS.iconst X2.here hx rfl (hb hby dtx_386) k) ?_
    show Go p e below _ T2 (mkF m 387 #[.val (.int (Int32.ofNat 9)), .val (.ref a)] [(.int (0 : Int32)), (.ref a2), (.ref a2), (.ref a1), (.ref a1)])
    refine Go.st (fun _ k => XS.aloadN X2.here hx rfl (hb hby dtx_387) rfl rfl k) ?_
    show Go p e below _ T2 (mkF m 388 #[.val (.int (Int32.ofNat 9)), .val (.ref a)] [(.ref a), (.int (0 : Int32)), (.ref a2), (.ref a2), (.ref a1), (.ref a1)])
    refine Go.st (fun _ k => XS.iconst X2.here hx rfl (hb hby dtx_388) k) ?_
    show Go p e below _ T2 (mkF m 389 #[.val (.int (Int32.ofNat 9)), .val (.ref a)] [(.int (0 : Int32)), (.ref a), (.int (0 : Int32)), (.ref a2), (.ref a2), (.ref a1), (.ref a1)])
    have A_a := (A.ext E1).ext E2
    have na : a ≠ a2 := Nat.ne_of_lt (Nat.lt_of_lt_of_eq (A.ext E1).lt g2.symm)
    refine Go.caload X2 hx hZ e2 A_a (i := 0) (x := c0) rfl rfl (g := (mkF m 389 #[.val (.int (Int32.ofNat 9)), .val (.ref a)] [(.int (0 : Int32)), (.ref a), (.int (0 : Int32)), (.ref a2), (.ref a2), (.ref a1), (.ref a1)])) rfl rfl (hb hby dtx_389) ?_
    show Go p e below _ T2 (mkF m 390 #[.val (.int (Int32.ofNat 9)), .val (.ref a)] [(.int c0), (.int (0 : Int32)), (.ref a2), (.ref a2), (.ref a1), (.ref a1)])
    refine Go.castore X2 hx hZ e2 A2 (i := 0) rfl (by simp) (g := (mkF m 390 #[.val (.int (Int32.ofNat 9)), .val (.ref a)] [(.int c0), (.int (0 : Int32)), (.ref a2), (.ref a2), (.ref a1), (.ref a1)])) rfl rfl (hb hby dtx_390) ?_
    rintro T3 h3 X3 e3 W3 A3
    have sW3 := W3.size
    show Go p e below _ T3 (mkF m 391 #[.val (.int (Int32.ofNat 9)), .val (.ref a)] [(.ref a2), (.ref a1), (.ref a1)])
    have A_a3 := A_a.other W3 na
    refine Go.st (fun _ k => XS.dup X3.here hx rfl (hb hby dtx_391) rfl rfl k) ?_
    show Go p e below _ T3 (mkF m 392 #[.val (.int (Int32.ofNat 9)), .val (.ref a)] [(.ref a2), (.ref a2), (.ref a1), (.ref a1)])
    refine Go.st (fun _ k => XS.iconst X3.here hx rfl (hb hby dtx_392) k) ?_
    show Go p e below _ T3 (mkF m 393 #[.val (.int (Int32.ofNat 9)), .val (.ref a)] [(.int (1 : Int32)), (.ref a2), (.ref a2), (.ref a1), (.ref a1)])
    refine Go.st (fun _ k => XS.aloadN X3.here hx rfl (hb hby dtx_393) rfl rfl k) ?_
    show Go p e below _ T3 (mkF m 394 #[.val (.int (Int32.ofNat 9)), .val (.ref a)] [(.ref a), (.int (1 : Int32)), (.ref a2), (.ref a2), (.ref a1), (.ref a1)])
    refine Go.st (fun _ k => XS.iconst X3.here hx rfl (hb hby dtx_394) k) ?_
    show Go p e below _ T3 (mkF m 395 #[.val (.int (Int32.ofNat 9)), .val (.ref a)] [(.int (1 : Int32)), (.ref a), (.int (1 : Int32)), (.ref a2), (.ref a2), (.ref a1), (.ref a1)])
    refine Go.caload X3 hx hZ e3 A_a3 (i := 1) (x := c1) rfl rfl (g := (mkF m 395 #[.val (.int (Int32.ofNat 9)), .val (.ref a)] [(.int (1 : Int32)), (.ref a), (.int (1 : Int32)), (.ref a2), (.ref a2), (.ref a1), (.ref a1)])) rfl rfl (hb hby dtx_395) ?_
    show Go p e below _ T3 (mkF m 396 #[.val (.int (Int32.ofNat 9)), .val (.ref a)] [(.int c1), (.int (1 : Int32)), (.ref a2), (.ref a2), (.ref a1), (.ref a1)])
    refine Go.castore X3 hx hZ e3 A3 (i := 1) rfl (by simp) (g := (mkF m 396 #[.val (.int (Int32.ofNat 9)), .val (.ref a)] [(.int c1), (.int (1 : Int32)), (.ref a2), (.ref a2), (.ref a1), (.ref a1)])) rfl rfl (hb hby dtx_396) ?_
    rintro T4 h4 X4 e4 W4 A4
    have sW4 := W4.size
    show Go p e below _ T4 (mkF m 397 #[.val (.int (Int32.ofNat 9)), .val (.ref a)] [(.ref a2), (.ref a1), (.ref a1)])
    have A_a4 := A_a3.other W4 na
    refine Go.st (fun _ k => XS.dup X4.here hx rfl (hb hby dtx_397) rfl rfl k) ?_
    show Go p e below _ T4 (mkF m 398 #[.val (.int (Int32.ofNat 9)), .val (.ref a)] [(.ref a2), (.ref a2), (.ref a1), (.ref a1)])
    refine Go.st (fun _ k => XS.iconst X4.here hx rfl (hb hby dtx_398) k) ?_
    show Go p e below _ T4 (mkF m 399 #[.val (.int (Int32.ofNat 9)), .val (.ref a)] [(.int (2 : Int32)), (.ref a2), (.ref a2), (.ref a1), (.ref a1)])
    refine Go.st (fun _ k => XS.aloadN X4.here hx rfl (hb hby dtx_399) rfl rfl k) ?_
    show Go p e below _ T4 (mkF m 400 #[.val (.int (Int32.ofNat 9)), .val (.ref a)] [(.ref a), (.int (2 : Int32)), (.ref a2), (.ref a2), (.ref a1), (.ref a1)])
    refine Go.st (fun _ k => XS.iconst X4.here hx rfl (hb hby dtx_400) k) ?_
    show Go p e below _ T4 (mkF m 401 #[.val (.int (Int32.ofNat 9)), .val (.ref a)] [(.int (2 : Int32)), (.ref a), (.int (2 : Int32)), (.ref a2), (.ref a2), (.ref a1), (.ref a1)])
    refine Go.caload X4 hx hZ e4 A_a4 (i := 2) (x := c2) rfl rfl (g := (mkF m 401 #[.val (.int (Int32.ofNat 9)), .val (.ref a)] [(.int (2 : Int32)), (.ref a), (.int (2 : Int32)), (.ref a2), (.ref a2), (.ref a1), (.ref a1)])) rfl rfl (hb hby dtx_401) ?_
    show Go p e below _ T4 (mkF m 402 #[.val (.int (Int32.ofNat 9)), .val (.ref a)] [(.int c2), (.int (2 : Int32)), (.ref a2), (.ref a2), (.ref a1), (.ref a1)])
    refine Go.castore X4 hx hZ e4 A4 (i := 2) rfl (by simp) (g := (mkF m 402 #[.val (.int (Int32.ofNat 9)), .val (.ref a)] [(.int c2), (.int (2 : Int32)), (.ref a2), (.ref a2), (.ref a1), (.ref a1)])) rfl rfl (hb hby dtx_402) ?_
    rintro T5 h5 X5 e5 W5 A5
    have sW5 := W5.size
    show Go p e below _ T5 (mkF m 403 #[.val (.int (Int32.ofNat 9)), .val (.ref a)] [(.ref a2), (.ref a1), (.ref a1)])
    have A_a5 := A_a4.other W5 na
    refine Go.st (fun _ k => XS.dup X5.here hx rfl (hb hby dtx_403) rfl rfl k) ?_
    show Go p e below _ T5 (mkF m 404 #[.val (.int (Int32.ofNat 9)), .val (.ref a)] [(.ref a2), (.ref a2), (.ref a1), (.ref a1)])
    refine Go.st (fun _ k => XS.iconst X5.here hx rfl (hb hby dtx_404) k) ?_
    show Go p e below _ T5 (mkF m 405 #[.val (.int (Int32.ofNat 9)), .val (.ref a)] [(.int (3 : Int32)), (.ref a2), (.ref a2), (.ref a1), (.ref a1)])
    refine Go.st (fun _ k => XS.aloadN X5.here hx rfl (hb hby dtx_405) rfl rfl k) ?_
    show Go p e below _ T5 (mkF m 406 #[.val (.int (Int32.ofNat 9)), .val (.ref a)] [(.ref a), (.int (3 : Int32)), (.ref a2), (.ref a2), (.ref a1), (.ref a1)])
    refine Go.st (fun _ k => XS.iconst X5.here hx rfl (hb hby dtx_406) k) ?_
    show Go p e below _ T5 (mkF m 407 #[.val (.int (Int32.ofNat 9)), .val (.ref a)] [(.int (3 : Int32)), (.ref a), (.int (3 : Int32)), (.ref a2), (.ref a2), (.ref a1), (.ref a1)])
    refine Go.caload X5 hx hZ e5 A_a5 (i := 3) (x := c3) rfl rfl (g := (mkF m 407 #[.val (.int (Int32.ofNat 9)), .val (.ref a)] [(.int (3 : Int32)), (.ref a), (.int (3 : Int32)), (.ref a2), (.ref a2), (.ref a1), (.ref a1)])) rfl rfl (hb hby dtx_407) ?_
    show Go p e below _ T5 (mkF m 408 #[.val (.int (Int32.ofNat 9)), .val (.ref a)] [(.int c3), (.int (3 : Int32)), (.ref a2), (.ref a2), (.ref a1), (.ref a1)])
    refine Go.castore X5 hx hZ e5 A5 (i := 3) rfl (by simp) (g := (mkF m 408 #[.val (.int (Int32.ofNat 9)), .val (.ref a)] [(.int c3), (.int (3 : Int32)), (.ref a2), (.ref a2), (.ref a1), (.ref a1)])) rfl rfl (hb hby dtx_408) ?_
    rintro T6 h6 X6 e6 W6 A6
    have sW6 := W6.size
    show Go p e below _ T6 (mkF m 409 #[.val (.int (Int32.ofNat 9)), .val (.ref a)] [(.ref a2), (.ref a1), (.ref a1)])
    have A_a6 := A_a5.other W6 na
    refine Go.st (fun _ k => XS.dup X6.here hx rfl (hb hby dtx_409) rfl rfl k) ?_
    show Go p e below _ T6 (mkF m 410 #[.val (.int (Int32.ofNat 9)), .val (.ref a)] [(.ref a2), (.ref a2), (.ref a1), (.ref a1)])
    refine Go.st (fun _ k => XS.iconst X6.here hx rfl (hb hby dtx_410) k) ?_
    show Go p e below _ T6 (mkF m 411 #[.val (.int (Int32.ofNat 9)), .val (.ref a)] [(.int (4 : Int32)), (.ref a2), (.ref a2), (.ref a1), (.ref a1)])
    refine Go.st (fun _ k => XS.aloadN X6.here hx rfl (hb hby dtx_411) rfl rfl k) ?_
    show Go p e below _ T6 (mkF m 412 #[.val (.int (Int32.ofNat 9)), .val (.ref a)] [(.ref a), (.int (4 : Int32)), (.ref a2), (.ref a2), (.ref a1), (.ref a1)])
    refine Go.st (fun _ k => XS.iconst X6.here hx rfl (hb hby dtx_412) k) ?_
    show Go p e below _ T6 (mkF m 413 #[.val (.int (Int32.ofNat 9)), .val (.ref a)] [(.int (4 : Int32)), (.ref a), (.int (4 : Int32)), (.ref a2), (.ref a2), (.ref a1), (.ref a1)])
    refine Go.caload X6 hx hZ e6 A_a6 (i := 4) (x := c4) rfl rfl (g := (mkF m 413 #[.val (.int (Int32.ofNat 9)), .val (.ref a)] [(.int (4 : Int32)), (.ref a), (.int (4 : Int32)), (.ref a2), (.ref a2), (.ref a1), (.ref a1)])) rfl rfl (hb hby dtx_413) ?_
    show Go p e below _ T6 (mkF m 414 #[.val (.int (Int32.ofNat 9)), .val (.ref a)] [(.int c4), (.int (4 : Int32)), (.ref a2), (.ref a2), (.ref a1), (.ref a1)])
    refine Go.castore X6 hx hZ e6 A6 (i := 4) rfl (by simp) (g := (mkF m 414 #[.val (.int (Int32.ofNat 9)), .val (.ref a)] [(.int c4), (.int (4 : Int32)), (.ref a2), (.ref a2), (.ref a1), (.ref a1)])) rfl rfl (hb hby dtx_414) ?_
    rintro T7 h7 X7 e7 W7 A7
    have sW7 := W7.size
    show Go p e below _ T7 (mkF m 415 #[.val (.int (Int32.ofNat 9)), .val (.ref a)] [(.ref a2), (.ref a1), (.ref a1)])
    have A_a7 := A_a6.other W7 na
    refine Go.st (fun _ k => XS.dup X7.here hx rfl (hb hby dtx_415) rfl rfl k) ?_
    show Go p e below _ T7 (mkF m 416 #[.val (.int (Int32.ofNat 9)), .val (.ref a)] [(.ref a2), (.ref a2), (.ref a1), (.ref a1)])
    refine Go.st (fun _ k => XS.iconst X7.here hx rfl (hb hby dtx_416) k) ?_
    show Go p e below _ T7 (mkF m 417 #[.val (.int (Int32.ofNat 9)), .val (.ref a)] [(.int (5 : Int32)), (.ref a2), (.ref a2), (.ref a1), (.ref a1)])
    refine Go.st (fun _ k => XS.aloadN X7.here hx rfl (hb hby dtx_417) rfl rfl k) ?_
    show Go p e below _ T7 (mkF m 418 #[.val (.int (Int32.ofNat 9)), .val (.ref a)] [(.ref a), (.int (5 : Int32)), (.ref a2), (.ref a2), (.ref a1), (.ref a1)])
    refine Go.st (fun _ k => XS.iconst X7.here hx rfl (hb hby dtx_418) k) ?_
    show Go p e below _ T7 (mkF m 419 #[.val (.int (Int32.ofNat 9)), .val (.ref a)] [(.int (5 : Int32)), (.ref a), (.int (5 : Int32)), (.ref a2), (.ref a2), (.ref a1), (.ref a1)])
    refine Go.caload X7 hx hZ e7 A_a7 (i := 5) (x := c5) rfl rfl (g := (mkF m 419 #[.val (.int (Int32.ofNat 9)), .val (.ref a)] [(.int (5 : Int32)), (.ref a), (.int (5 : Int32)), (.ref a2), (.ref a2), (.ref a1), (.ref a1)])) rfl rfl (hb hby dtx_419) ?_
    show Go p e below _ T7 (mkF m 420 #[.val (.int (Int32.ofNat 9)), .val (.ref a)] [(.int c5), (.int (5 : Int32)), (.ref a2), (.ref a2), (.ref a1), (.ref a1)])
    refine Go.castore X7 hx hZ e7 A7 (i := 5) rfl (by simp) (g := (mkF m 420 #[.val (.int (Int32.ofNat 9)), .val (.ref a)] [(.int c5), (.int (5 : Int32)), (.ref a2), (.ref a2), (.ref a1), (.ref a1)])) rfl rfl (hb hby dtx_420) ?_
    rintro T8 h8 X8 e8 W8 A8
    have sW8 := W8.size
    show Go p e below _ T8 (mkF m 421 #[.val (.int (Int32.ofNat 9)), .val (.ref a)] [(.ref a2), (.ref a1), (.ref a1)])
    have A_a8 := A_a7.other W8 na
    refine Go.st (fun _ k => XS.dup X8.here hx rfl (hb hby dtx_421) rfl rfl k) ?_
    show Go p e below _ T8 (mkF m 422 #[.val (.int (Int32.ofNat 9)), .val (.ref a)] [(.ref a2), (.ref a2), (.ref a1), (.ref a1)])
    refine Go.st (fun _ k => XS.bipush X8.here hx rfl (hb hby dtx_422) k) ?_
    show Go p e below _ T8 (mkF m 424 #[.val (.int (Int32.ofNat 9)), .val (.ref a)] [(.int (6 : Int32)), (.ref a2), (.ref a2), (.ref a1), (.ref a1)])
    refine Go.st (fun _ k => XS.aloadN X8.here hx rfl (hb hby dtx_424) rfl rfl k) ?_
    show Go p e below _ T8 (mkF m 425 #[.val (.int (Int32.ofNat 9)), .val (.ref a)] [(.ref a), (.int (6 : Int32)), (.ref a2), (.ref a2), (.ref a1), (.ref a1)])
    refine Go.st (fun _ k => XS.bipush X8.here hx rfl (hb hby dtx_425) k) ?_
    show Go p e below _ T8 (mkF m 427 #[.val (.int (Int32.ofNat 9)), .val (.ref a)] [(.int (6 : Int32)), (.ref a), (.int (6 : Int32)), (.ref a2), (.ref a2), (.ref a1), (.ref a1)])
    refine Go.caload X8 hx hZ e8 A_a8 (i := 6) (x := c6) rfl rfl (g := (mkF m 427 #[.val (.int (Int32.ofNat 9)), .val (.ref a)] [(.int (6 : Int32)), (.ref a), (.int (6 : Int32)), (.ref a2), (.ref a2), (.ref a1), (.ref a1)])) rfl rfl (hb hby dtx_427) ?_
    show Go p e below _ T8 (mkF m 428 #[.val (.int (Int32.ofNat 9)), .val (.ref a)] [(.int c6), (.int (6 : Int32)), (.ref a2), (.ref a2), (.ref a1), (.ref a1)])
    refine Go.castore X8 hx hZ e8 A8 (i := 6) rfl (by simp) (g := (mkF m 428 #[.val (.int (Int32.ofNat 9)), .val (.ref a)] [(.int c6), (.int (6 : Int32)), (.ref a2), (.ref a2), (.ref a1), (.ref a1)])) rfl rfl (hb hby dtx_428) ?_
    rintro T9 h9 X9 e9 W9 A9
    have sW9 := W9.size
    show Go p e below _ T9 (mkF m 429 #[.val (.int (Int32.ofNat 9)), .val (.ref a)] [(.ref a2), (.ref a1), (.ref a1)])
    have A_a9 := A_a8.other W9 na
    refine Go.st (fun _ k => XS.dup X9.here hx rfl (hb hby dtx_429) rfl rfl k) ?_
    show Go p e below _ T9 (mkF m 430 #[.val (.int (Int32.ofNat 9)), .val (.ref a)] [(.ref a2), (.ref a2), (.ref a1), (.ref a1)])
    refine Go.st (fun _ k => XS.bipush X9.here hx rfl (hb hby dtx_430) k) ?_
    show Go p e below _ T9 (mkF m 432 #[.val (.int (Int32.ofNat 9)), .val (.ref a)] [(.int (7 : Int32)), (.ref a2), (.ref a2), (.ref a1), (.ref a1)])
    refine Go.st (fun _ k => XS.aloadN X9.here hx rfl (hb hby dtx_432) rfl rfl k) ?_
    show Go p e below _ T9 (mkF m 433 #[.val (.int (Int32.ofNat 9)), .val (.ref a)] [(.ref a), (.int (7 : Int32)), (.ref a2), (.ref a2), (.ref a1), (.ref a1)])
    refine Go.st (fun _ k => XS.bipush X9.here hx rfl (hb hby dtx_433) k) ?_
    show Go p e below _ T9 (mkF m 435 #[.val (.int (Int32.ofNat 9)), .val (.ref a)] [(.int (7 : Int32)), (.ref a), (.int (7 : Int32)), (.ref a2), (.ref a2), (.ref a1), (.ref a1)])
    refine Go.caload X9 hx hZ e9 A_a9 (i := 7) (x := c7) rfl rfl (g := (mkF m 435 #[.val (.int (Int32.ofNat 9)), .val (.ref a)] [(.int (7 : Int32)), (.ref a), (.int (7 : Int32)), (.ref a2), (.ref a2), (.ref a1), (.ref a1)])) rfl rfl (hb hby dtx_435) ?_
    show Go p e below _ T9 (mkF m 436 #[.val (.int (Int32.ofNat 9)), .val (.ref a)] [(.int c7), (.int (7 : Int32)), (.ref a2), (.ref a2), (.ref a1), (.ref a1)])
    refine Go.castore X9 hx hZ e9 A9 (i := 7) rfl (by simp) (g := (mkF m 436 #[.val (.int (Int32.ofNat 9)), .val (.ref a)] [(.int c7), (.int (7 : Int32)), (.ref a2), (.ref a2), (.ref a1), (.ref a1)])) rfl rfl (hb hby dtx_436) ?_
    rintro T10 h10 X10 e10 W10 A10
    have sW10 := W10.size
    show Go p e below _ T10 (mkF m 437 #[.val (.int (Int32.ofNat 9)), .val (.ref a)] [(.ref a2), (.ref a1), (.ref a1)])
    have A_a10 := A_a9.other W10 na
    refine Go.st (fun _ k => XS.dup X10.here hx rfl (hb hby dtx_437) rfl rfl k) ?_
    show Go p e below _ T10 (mkF m 438 #[.val (.int (Int32.ofNat 9)), .val (.ref a)] [(.ref a2), (.ref a2), (.ref a1), (.ref a1)])
    refine Go.st (fun _ k => XS.bipush X10.here hx rfl (hb hby dtx_438) k) ?_
    show Go p e below _ T10 (mkF m 440 #[.val (.int (Int32.ofNat 9)), .val (.ref a)] [(.int (8 : Int32)), (.ref a2), (.ref a2), (.ref a1), (.ref a1)])
    refine Go.st (fun _ k => XS.aloadN X10.here hx rfl (hb hby dtx_440) rfl rfl k) ?_
    show Go p e below _ T10 (mkF m 441 #[.val (.int (Int32.ofNat 9)), .val (.ref a)] [(.ref a), (.int (8 : Int32)), (.ref a2), (.ref a2), (.ref a1), (.ref a1)])
    refine Go.st (fun _ k => XS.bipush X10.here hx rfl (hb hby dtx_441) k) ?_
    show Go p e below _ T10 (mkF m 443 #[.val (.int (Int32.ofNat 9)), .val (.ref a)] [(.int (8 : Int32)), (.ref a), (.int (8 : Int32)), (.ref a2), (.ref a2), (.ref a1), (.ref a1)])
    refine Go.caload X10 hx hZ e10 A_a10 (i := 8) (x := c8) rfl rfl (g := (mkF m 443 #[.val (.int (Int32.ofNat 9)), .val (.ref a)] [(.int (8 : Int32)), (.ref a), (.int (8 : Int32)), (.ref a2), (.ref a2), (.ref a1), (.ref a1)])) rfl rfl (hb hby dtx_443) ?_
    show Go p e below _ T10 (mkF m 444 #[.val (.int (Int32.ofNat 9)), .val (.ref a)] [(.int c8), (.int (8 : Int32)), (.ref a2), (.ref a2), (.ref a1), (.ref a1)])
    refine Go.castore X10 hx hZ e10 A10 (i := 8) rfl (by simp) (g := (mkF m 444 #[.val (.int (Int32.ofNat 9)), .val (.ref a)] [(.int c8), (.int (8 : Int32)), (.ref a2), (.ref a2), (.ref a1), (.ref a1)])) rfl rfl (hb hby dtx_444) ?_
    rintro T11 h11 X11 e11 W11 A11
    have sW11 := W11.size
    show Go p e below _ T11 (mkF m 445 #[.val (.int (Int32.ofNat 9)), .val (.ref a)] [(.ref a2), (.ref a1), (.ref a1)])
    have A_a11 := A_a10.other W11 na
    have n12 : a1 ≠ a2 := Nat.ne_of_lt (by omega)
    have Ac : AI Z h11 a2 .char ([c0, c1, c2, c3, c4, c5, c6, c7, c8] : List Int32) := by
      have q : AI Z h11 a2 .char [nar .char c0, nar .char c1, nar .char c2, nar .char c3, nar .char c4, nar .char c5, nar .char c6, nar .char c7, nar .char c8] := A11
      rwa [e_0, e_1, e_2, e_3, e_4, e_5, e_6, e_7, e_8] at q
    have hp : ∀ c ∈ ([c0, c1, c2, c3, c4, c5, c6, c7, c8] : List Int32), ¬ c < 0 ∧ ¬ (65535 : Int32) < c := fun c hc => hbd c (List.mem_of_mem_take (i := 9) hc)
    have Ok : Old Z n0 h11 := (((((((((((X00.ext E1).ext E2).wr W3 (by omega)).wr W4 (by omega)).wr W5 (by omega)).wr W6 (by omega)).wr W7 (by omega)).wr W8 (by omega)).wr W9 (by omega)).wr W10 (by omega)).wr W11 (by omega))
    have Kk : Keep h0 h11 [] := ((((((((((((Keep.refl h0 []).ext E1).ext E2).wr W3 (Or.inr (by omega))).wr W4 (Or.inr (by omega))).wr W5 (Or.inr (by omega))).wr W6 (Or.inr (by omega))).wr W7 (Or.inr (by omega))).wr W8 (Or.inr (by omega))).wr W9 (Or.inr (by omega))).wr W10 (Or.inr (by omega))).wr W11 (Or.inr (by omega)))
    have Nk := (Fr.snoc X11 (Fr.snoc X10 (Fr.snoc X9 (Fr.snoc X8 (Fr.snoc X7 (Fr.snoc X6 (Fr.snoc X5 (Fr.snoc X4 (Fr.snoc X3 (Fr.nil n0) (by omega)) (by omega)) (by omega)) (by omega)) (by omega)) (by omega)) (by omega)) (by omega)) (by omega))
    refine Go.callI X11 hx (y := (⟨"java/lang/String", "<init>", "([C)V"⟩ : MethodName)) rfl hown (mvT hZ (hw _ (List.mem_of_getElem? (i := 15) rfl))) (mvT hZ (hw _ (List.mem_of_getElem? (i := 16) rfl))) (mvT hZ (hw _ (List.mem_of_getElem? (i := 17) rfl))) (by decide) (Ctr.back (W := 1) (rmI1 l Z a0 hw z Su ([c0, c1, c2, c3, c4, c5, c6, c7, c8] : List Int32) (by simp) (by simp) hp a1 a2 _ _ h11 n0 (by omega) (by omega) Ok ((((((((((A1.ext E2).wr W3).wr W4).wr W5).wr W6).wr W7).wr W8).wr W9).wr W10).wr W11) (((((((((((D1 (Or.inr (hw _ (List.mem_of_getElem? (i := 27) rfl))) (ty := (.array .byte)) (by decide)).ext E2).other W3 (Or.inl n12)).other W4 (Or.inl n12)).other W5 (Or.inl n12)).other W6 (Or.inl n12)).other W7 (Or.inl n12)).other W8 (Or.inl n12)).other W9 (Or.inl n12)).other W10 (Or.inl n12)).other W11 (Or.inl n12)) (((((((((((D1 (Or.inr (hw _ (List.mem_of_getElem? (i := 28) rfl))) (ty := .byte) (by decide)).ext E2).other W3 (Or.inl n12)).other W4 (Or.inl n12)).other W5 (Or.inl n12)).other W6 (Or.inl n12)).other W7 (Or.inl n12)).other W8 (Or.inl n12)).other W9 (Or.inl n12)).other W10 (Or.inl n12)).other W11 (Or.inl n12)) Ac) hZ (hw _ (List.mem_of_getElem? (i := 17) rfl)) (hw _ (List.mem_of_getElem? (i := 14) rfl)) (by (try dsimp only [room_1]); (try simp only [List.length_cons, List.length_nil]); omega) (by (try dsimp only [room_1]); (try simp only [List.length_cons, List.length_nil]); omega)) e11 (g := (mkF m 445 #[.val (.int (Int32.ofNat 9)), .val (.ref a)] [(.ref a2), (.ref a1), (.ref a1)])) rfl (by rw [hml]; rfl) (a := a1) (argsL := [(.ref a2)]) (rest := [(.ref a1)]) (lenOf pd_19 rfl) rfl (by show 2 * 0 + _ ≤ _; exact Nat.le_of_eq rfl) (hb hby dtx_445) rfl (by (try dsimp only [room_1]); (try simp only [List.length_cons, List.length_nil]); omega) (by (try dsimp only [room_1]); (try simp only [List.length_cons, List.length_nil]); omega) ?_
    rintro _ T99 L99 X99 ⟨rfl, N99, K99, E99, G99, t, F99, B99, ht⟩
    show Go p e below _ T99 (mkF m 448 #[.val (.int (Int32.ofNat 9)), .val (.ref a)] [(.ref a1)])
    have K09 : Keep h0 T99.heap [] := Kk.trans K99 (fun x q => Or.inr (by cases List.mem_singleton.mp q; omega))
    exact Go.retVW X99 hx (Bas.refl s 0) (Nat.zero_le _) hC0 (UX K09) hret hlk rfl rfl (hb hby dtx_448) ⟨a1, t, rfl, Fr.app Nk N99, K09, E99, G99, F99, B99⟩ (by (try dsimp only [room_1]); (try simp only [List.length_cons, List.length_nil]); omega) (by (try dsimp only [room_1]); (try simp only [List.length_cons, List.length_nil]); omega)
  refine Go.st (fun _ k => XS.icmpYes X0.here hx rfl (pc0 := 374) (pc' := 449) rfl (hb hby dtx_374) rfl (XT.ii_ne_t qn) (by decide) (by decide) k) ?_
  show Go p e below _ s₁ (mkF m 449 #[.val (.int (Int32.ofNat n)), .val (.ref a)] [])
  have nn9 : n ≠ 9 := fun z => qn (by rw [z]; rfl)
  clear qn
  refine Go.st (fun _ k => XS.iloadN X0.here hx rfl (hb hby dtx_449) rfl k) ?_
  show Go p e below _ s₁ (mkF m 450 #[.val (.int (Int32.ofNat n)), .val (.ref a)] [(.int (Int32.ofNat n))])
  refine Go.st (fun _ k => XS.bipush X0.here hx rfl (hb hby dtx_450) k) ?_
  show Go p e below _ s₁ (mkF m 452 #[.val (.int (Int32.ofNat n)), .val (.ref a)] [(.int (10 : Int32)), (.int (Int32.ofNat n))])
  by_cases qn : Int32.ofNat n = (10 : Int32)
  · skip
    refine Go.st (fun _ k => XS.icmpNo X0.here hx rfl (hb hby dtx_452) rfl (XT.ii_ne_f qn) k) ?_
    show Go p e below _ s₁ (mkF m 455 #[.val (.int (Int32.ofNat n)), .val (.ref a)] [])
    obtain rfl : n = 10 := by have q := congrArg Int32.toInt qn; rw [own_toInt (by omega)] at q; have q2 : ((10 : Int32)).toInt = 10 := rfl; omega
    clear qn
    show Go p e below _ s₁ (mkF m 455 #[.val (.int (Int32.ofNat 10)), .val (.ref a)] [])
    obtain ⟨T1, h1, X1, e1, E1, A1, D1, -, st1⟩ := newO X0 hx hZ hown (hw _ (List.mem_of_getElem? (i := 12) rfl)) (hw _ (List.mem_of_getElem? (i := 13) rfl)) (hw _ (List.mem_of_getElem? (i := 14) rfl)) e0 (g := (mkF m 455 #[.val (.int (Int32.ofNat 10)), .val (.ref a)] [])) rfl (hb hby dtx_455) (by (try dsimp only [room_1]); (try simp only [List.length_cons, List.length_nil]); omega) (by (try dsimp only [room_1]); (try simp only [List.length_cons, List.length_nil]); omega)
    obtain ⟨a1, g1⟩ : ∃ z, z = h0.size := ⟨_, rfl⟩
    rw [← g1] at A1 D1 st1
    have l1 : a1 < h1.size := A1.lt
    have sE1 := E1.1
    refine Go.st st1 ?_
    show Go p e below _ T1 (mkF m 458 #[.val (.int (Int32.ofNat 10)), .val (.ref a)] [(.ref a1)])
    refine Go.st (fun _ k => XS.dup X1.here hx rfl (hb hby dtx_458) rfl rfl k) ?_
    show Go p e below _ T1 (mkF m 459 #[.val (.int (Int32.ofNat 10)), .val (.ref a)] [(.ref a1), (.ref a1)])
    refine Go.st (fun _ k => XS.bipush X1.here hx rfl (hb hby dtx_459) k) ?_
    show Go p e below _ T1 (mkF m 461 #[.val (.int (Int32.ofNat 10)), .val (.ref a)] [(.int (10 : Int32)), (.ref a1), (.ref a1)])
    refine Go.newarr X1 hx hZ (ty := .char) rfl rfl (hw _ (List.mem_of_getElem? (i := 0) rfl)) e1 (g := (mkF m 461 #[.val (.int (Int32.ofNat 10)), .val (.ref a)] [(.int (10 : Int32)), (.ref a1), (.ref a1)])) rfl (hb hby dtx_461) rfl (n := 10) rfl (by decide) (by (try dsimp only [room_1]); (try simp only [List.length_cons, List.length_nil]); omega) (by (try dsimp only [room_1]); (try simp only [List.length_cons, List.length_nil]); omega) ?_
    rintro T2 h2 X2 e2 E2 l2 A2
    obtain ⟨a2, g2⟩ : ∃ z, z = h1.size := ⟨_, rfl⟩
    rw [← g2] at A2 l2 ⊢
    have sE2 := E2.1
    show Go p e below _ T2 (mkF m 463 #[.val (.int (Int32.ofNat 10)), .val (.ref a)] [(.ref a2), (.ref a1), (.ref a1)])
    refine Go.st (fun _ k => XS.dup X2.here hx rfl (hb hby dtx_463) rfl rfl k) ?_
    show Go p e below _ T2 (mkF m 464 #[.val (.int (Int32.ofNat 10)), .val (.ref a)] [(.ref a2), (.ref a2), (.ref a1), (.ref a1)])
    refine Go.st (fun _ k => XS.iconst X2.here hx rfl (hb hby dtx_464) k) ?_
    show Go p e below _ T2 (mkF m 465 #[.val (.int (Int32.ofNat 10)), .val (.ref a)] [(.int (0 : Int32)), (.ref a2), (.ref a2), (.ref a1), (.ref a1)])
    refine Go.st (fun _ k => XS.aloadN X2.here hx rfl (hb hby dtx_465) rfl rfl k) ?_
    show Go p e below _ T2 (mkF m 466 #[.val (.int (Int32.ofNat 10)), .val (.ref a)] [(.ref a), (.int (0 : Int32)), (.ref a2), (.ref a2), (.ref a1), (.ref a1)])
    refine Go.st (fun _ k => XS.iconst X2.here hx rfl (hb hby dtx_466) k) ?_
    show Go p e below _ T2 (mkF m 467 #[.val (.int (Int32.ofNat 10)), .val (.ref a)] [(.int (0 : Int32)), (.ref a), (.int (0 : Int32)), (.ref a2), (.ref a2), (.ref a1), (.ref a1)])
    have A_a := (A.ext E1).ext E2
    have na : a ≠ a2 := Nat.ne_of_lt (Nat.lt_of_lt_of_eq (A.ext E1).lt g2.symm)
    refine Go.caload X2 hx hZ e2 A_a (i := 0) (x := c0) rfl rfl (g := (mkF m 467 #[.val (.int (Int32.ofNat 10)), .val (.ref a)] [(.int (0 : Int32)), (.ref a), (.int (0 : Int32)), (.ref a2), (.ref a2), (.ref a1), (.ref a1)])) rfl rfl (hb hby dtx_467) ?_
    show Go p e below _ T2 (mkF m 468 #[.val (.int (Int32.ofNat 10)), .val (.ref a)] [(.int c0), (.int (0 : Int32)), (.ref a2), (.ref a2), (.ref a1), (.ref a1)])
    refine Go.castore X2 hx hZ e2 A2 (i := 0) rfl (by simp) (g := (mkF m 468 #[.val (.int (Int32.ofNat 10)), .val (.ref a)] [(.int c0), (.int (0 : Int32)), (.ref a2), (.ref a2), (.ref a1), (.ref a1)])) rfl rfl (hb hby dtx_468) ?_
    rintro T3 h3 X3 e3 W3 A3
    have sW3 := W3.size
    show Go p e below _ T3 (mkF m 469 #[.val (.int (Int32.ofNat 10)), .val (.ref a)] [(.ref a2), (.ref a1), (.ref a1)])
    have A_a3 := A_a.other W3 na
    refine Go.st (fun _ k => XS.dup X3.here hx rfl (hb hby dtx_469) rfl rfl k) ?_
    show Go p e below _ T3 (mkF m 470 #[.val (.int (Int32.ofNat 10)), .val (.ref a)] [(.ref a2), (.ref a2), (.ref a1), (.ref a1)])
    refine Go.st (fun _ k => XS.iconst X3.here hx rfl (hb hby dtx_470) k) ?_
    show Go p e below _ T3 (mkF m 471 #[.val (.int (Int32.ofNat 10)), .val (.ref a)] [(.int (1 : Int32)), (.ref a2), (.ref a2), (.ref a1), (.ref a1)])
    refine Go.st (fun _ k => XS.aloadN X3.here hx rfl (hb hby dtx_471) rfl rfl k) ?_
    show Go p e below _ T3 (mkF m 472 #[.val (.int (Int32.ofNat 10)), .val (.ref a)] [(.ref a), (.int (1 : Int32)), (.ref a2), (.ref a2), (.ref a1), (.ref a1)])
    refine Go.st (fun _ k => XS.iconst X3.here hx rfl (hb hby dtx_472) k) ?_
    show Go p e below _ T3 (mkF m 473 #[.val (.int (Int32.ofNat 10)), .val (.ref a)] [(.int (1 : Int32)), (.ref a), (.int (1 : Int32)), (.ref a2), (.ref a2), (.ref a1), (.ref a1)])
    refine Go.caload X3 hx hZ e3 A_a3 (i := 1) (x := c1) rfl rfl (g := (mkF m 473 #[.val (.int (Int32.ofNat 10)), .val (.ref a)] [(.int (1 : Int32)), (.ref a), (.int (1 : Int32)), (.ref a2), (.ref a2), (.ref a1), (.ref a1)])) rfl rfl (hb hby dtx_473) ?_
    show Go p e below _ T3 (mkF m 474 #[.val (.int (Int32.ofNat 10)), .val (.ref a)] [(.int c1), (.int (1 : Int32)), (.ref a2), (.ref a2), (.ref a1), (.ref a1)])
    refine Go.castore X3 hx hZ e3 A3 (i := 1) rfl (by simp) (g := (mkF m 474 #[.val (.int (Int32.ofNat 10)), .val (.ref a)] [(.int c1), (.int (1 : Int32)), (.ref a2), (.ref a2), (.ref a1), (.ref a1)])) rfl rfl (hb hby dtx_474) ?_
    rintro T4 h4 X4 e4 W4 A4
    have sW4 := W4.size
    show Go p e below _ T4 (mkF m 475 #[.val (.int (Int32.ofNat 10)), .val (.ref a)] [(.ref a2), (.ref a1), (.ref a1)])
    have A_a4 := A_a3.other W4 na
    refine Go.st (fun _ k => XS.dup X4.here hx rfl (hb hby dtx_475) rfl rfl k) ?_
    show Go p e below _ T4 (mkF m 476 #[.val (.int (Int32.ofNat 10)), .val (.ref a)] [(.ref a2), (.ref a2), (.ref a1), (.ref a1)])
    refine Go.st (fun _ k => XS.iconst X4.here hx rfl (hb hby dtx_476) k) ?_
    show Go p e below _ T4 (mkF m 477 #[.val (.int (Int32.ofNat 10)), .val (.ref a)] [(.int (2 : Int32)), (.ref a2), (.ref a2), (.ref a1), (.ref a1)])
    refine Go.st (fun _ k => XS.aloadN X4.here hx rfl (hb hby dtx_477) rfl rfl k) ?_
    show Go p e below _ T4 (mkF m 478 #[.val (.int (Int32.ofNat 10)), .val (.ref a)] [(.ref a), (.int (2 : Int32)), (.ref a2), (.ref a2), (.ref a1), (.ref a1)])
    refine Go.st (fun _ k => XS.iconst X4.here hx rfl (hb hby dtx_478) k) ?_
    show Go p e below _ T4 (mkF m 479 #[.val (.int (Int32.ofNat 10)), .val (.ref a)] [(.int (2 : Int32)), (.ref a), (.int (2 : Int32)), (.ref a2), (.ref a2), (.ref a1), (.ref a1)])
    refine Go.caload X4 hx hZ e4 A_a4 (i := 2) (x := c2) rfl rfl (g := (mkF m 479 #[.val (.int (Int32.ofNat 10)), .val (.ref a)] [(.int (2 : Int32)), (.ref a), (.int (2 : Int32)), (.ref a2), (.ref a2), (.ref a1), (.ref a1)])) rfl rfl (hb hby dtx_479) ?_
    show Go p e below _ T4 (mkF m 480 #[.val (.int (Int32.ofNat 10)), .val (.ref a)] [(.int c2), (.int (2 : Int32)), (.ref a2), (.ref a2), (.ref a1), (.ref a1)])
    refine Go.castore X4 hx hZ e4 A4 (i := 2) rfl (by simp) (g := (mkF m 480 #[.val (.int (Int32.ofNat 10)), .val (.ref a)] [(.int c2), (.int (2 : Int32)), (.ref a2), (.ref a2), (.ref a1), (.ref a1)])) rfl rfl (hb hby dtx_480) ?_
    rintro T5 h5 X5 e5 W5 A5
    have sW5 := W5.size
    show Go p e below _ T5 (mkF m 481 #[.val (.int (Int32.ofNat 10)), .val (.ref a)] [(.ref a2), (.ref a1), (.ref a1)])
    have A_a5 := A_a4.other W5 na
    refine Go.st (fun _ k => XS.dup X5.here hx rfl (hb hby dtx_481) rfl rfl k) ?_
    show Go p e below _ T5 (mkF m 482 #[.val (.int (Int32.ofNat 10)), .val (.ref a)] [(.ref a2), (.ref a2), (.ref a1), (.ref a1)])
    refine Go.st (fun _ k => XS.iconst X5.here hx rfl (hb hby dtx_482) k) ?_
    show Go p e below _ T5 (mkF m 483 #[.val (.int (Int32.ofNat 10)), .val (.ref a)] [(.int (3 : Int32)), (.ref a2), (.ref a2), (.ref a1), (.ref a1)])
    refine Go.st (fun _ k => XS.aloadN X5.here hx rfl (hb hby dtx_483) rfl rfl k) ?_
    show Go p e below _ T5 (mkF m 484 #[.val (.int (Int32.ofNat 10)), .val (.ref a)] [(.ref a), (.int (3 : Int32)), (.ref a2), (.ref a2), (.ref a1), (.ref a1)])
    refine Go.st (fun _ k => XS.iconst X5.here hx rfl (hb hby dtx_484) k) ?_
    show Go p e below _ T5 (mkF m 485 #[.val (.int (Int32.ofNat 10)), .val (.ref a)] [(.int (3 : Int32)), (.ref a), (.int (3 : Int32)), (.ref a2), (.ref a2), (.ref a1), (.ref a1)])
    refine Go.caload X5 hx hZ e5 A_a5 (i := 3) (x := c3) rfl rfl (g := (mkF m 485 #[.val (.int (Int32.ofNat 10)), .val (.ref a)] [(.int (3 : Int32)), (.ref a), (.int (3 : Int32)), (.ref a2), (.ref a2), (.ref a1), (.ref a1)])) rfl rfl (hb hby dtx_485) ?_
    show Go p e below _ T5 (mkF m 486 #[.val (.int (Int32.ofNat 10)), .val (.ref a)] [(.int c3), (.int (3 : Int32)), (.ref a2), (.ref a2), (.ref a1), (.ref a1)])
    refine Go.castore X5 hx hZ e5 A5 (i := 3) rfl (by simp) (g := (mkF m 486 #[.val (.int (Int32.ofNat 10)), .val (.ref a)] [(.int c3), (.int (3 : Int32)), (.ref a2), (.ref a2), (.ref a1), (.ref a1)])) rfl rfl (hb hby dtx_486) ?_
    rintro T6 h6 X6 e6 W6 A6
    have sW6 := W6.size
    show Go p e below _ T6 (mkF m 487 #[.val (.int (Int32.ofNat 10)), .val (.ref a)] [(.ref a2), (.ref a1), (.ref a1)])
    have A_a6 := A_a5.other W6 na
    refine Go.st (fun _ k => XS.dup X6.here hx rfl (hb hby dtx_487) rfl rfl k) ?_
    show Go p e below _ T6 (mkF m 488 #[.val (.int (Int32.ofNat 10)), .val (.ref a)] [(.ref a2), (.ref a2), (.ref a1), (.ref a1)])
    refine Go.st (fun _ k => XS.iconst X6.here hx rfl (hb hby dtx_488) k) ?_
    show Go p e below _ T6 (mkF m 489 #[.val (.int (Int32.ofNat 10)), .val (.ref a)] [(.int (4 : Int32)), (.ref a2), (.ref a2), (.ref a1), (.ref a1)])
    refine Go.st (fun _ k => XS.aloadN X6.here hx rfl (hb hby dtx_489) rfl rfl k) ?_
    show Go p e below _ T6 (mkF m 490 #[.val (.int (Int32.ofNat 10)), .val (.ref a)] [(.ref a), (.int (4 : Int32)), (.ref a2), (.ref a2), (.ref a1), (.ref a1)])
    refine Go.st (fun _ k => XS.iconst X6.here hx rfl (hb hby dtx_490) k) ?_
    show Go p e below _ T6 (mkF m 491 #[.val (.int (Int32.ofNat 10)), .val (.ref a)] [(.int (4 : Int32)), (.ref a), (.int (4 : Int32)), (.ref a2), (.ref a2), (.ref a1), (.ref a1)])
    refine Go.caload X6 hx hZ e6 A_a6 (i := 4) (x := c4) rfl rfl (g := (mkF m 491 #[.val (.int (Int32.ofNat 10)), .val (.ref a)] [(.int (4 : Int32)), (.ref a), (.int (4 : Int32)), (.ref a2), (.ref a2), (.ref a1), (.ref a1)])) rfl rfl (hb hby dtx_491) ?_
    show Go p e below _ T6 (mkF m 492 #[.val (.int (Int32.ofNat 10)), .val (.ref a)] [(.int c4), (.int (4 : Int32)), (.ref a2), (.ref a2), (.ref a1), (.ref a1)])
    refine Go.castore X6 hx hZ e6 A6 (i := 4) rfl (by simp) (g := (mkF m 492 #[.val (.int (Int32.ofNat 10)), .val (.ref a)] [(.int c4), (.int (4 : Int32)), (.ref a2), (.ref a2), (.ref a1), (.ref a1)])) rfl rfl (hb hby dtx_492) ?_
    rintro T7 h7 X7 e7 W7 A7
    have sW7 := W7.size
    show Go p e below _ T7 (mkF m 493 #[.val (.int (Int32.ofNat 10)), .val (.ref a)] [(.ref a2), (.ref a1), (.ref a1)])
    have A_a7 := A_a6.other W7 na
    refine Go.st (fun _ k => XS.dup X7.here hx rfl (hb hby dtx_493) rfl rfl k) ?_
    show Go p e below _ T7 (mkF m 494 #[.val (.int (Int32.ofNat 10)), .val (.ref a)] [(.ref a2), (.ref a2), (.ref a1), (.ref a1)])
    refine Go.st (fun _ k => XS.iconst X7.here hx rfl (hb hby dtx_494) k) ?_
    show Go p e below _ T7 (mkF m 495 #[.val (.int (Int32.ofNat 10)), .val (.ref a)] [(.int (5 : Int32)), (.ref a2), (.ref a2), (.ref a1), (.ref a1)])
    refine Go.st (fun _ k => XS.aloadN X7.here hx rfl (hb hby dtx_495) rfl rfl k) ?_
    show Go p e below _ T7 (mkF m 496 #[.val (.int (Int32.ofNat 10)), .val (.ref a)] [(.ref a), (.int (5 : Int32)), (.ref a2), (.ref a2), (.ref a1), (.ref a1)])
    refine Go.st (fun _ k => XS.iconst X7.here hx rfl (hb hby dtx_496) k) ?_
    show Go p e below _ T7 (mkF m 497 #[.val (.int (Int32.ofNat 10)), .val (.ref a)] [(.int (5 : Int32)), (.ref a), (.int (5 : Int32)), (.ref a2), (.ref a2), (.ref a1), (.ref a1)])
    refine Go.caload X7 hx hZ e7 A_a7 (i := 5) (x := c5) rfl rfl (g := (mkF m 497 #[.val (.int (Int32.ofNat 10)), .val (.ref a)] [(.int (5 : Int32)), (.ref a), (.int (5 : Int32)), (.ref a2), (.ref a2), (.ref a1), (.ref a1)])) rfl rfl (hb hby dtx_497) ?_
    show Go p e below _ T7 (mkF m 498 #[.val (.int (Int32.ofNat 10)), .val (.ref a)] [(.int c5), (.int (5 : Int32)), (.ref a2), (.ref a2), (.ref a1), (.ref a1)])
    refine Go.castore X7 hx hZ e7 A7 (i := 5) rfl (by simp) (g := (mkF m 498 #[.val (.int (Int32.ofNat 10)), .val (.ref a)] [(.int c5), (.int (5 : Int32)), (.ref a2), (.ref a2), (.ref a1), (.ref a1)])) rfl rfl (hb hby dtx_498) ?_
    rintro T8 h8 X8 e8 W8 A8
    have sW8 := W8.size
    show Go p e below _ T8 (mkF m 499 #[.val (.int (Int32.ofNat 10)), .val (.ref a)] [(.ref a2), (.ref a1), (.ref a1)])
    have A_a8 := A_a7.other W8 na
    refine Go.st (fun _ k => XS.dup X8.here hx rfl (hb hby dtx_499) rfl rfl k) ?_
    show Go p e below _ T8 (mkF m 500 #[.val (.int (Int32.ofNat 10)), .val (.ref a)] [(.ref a2), (.ref a2), (.ref a1), (.ref a1)])
    refine Go.st (fun _ k => XS.bipush X8.here hx rfl (hb hby dtx_500) k) ?_
    show Go p e below _ T8 (mkF m 502 #[.val (.int (Int32.ofNat 10)), .val (.ref a)] [(.int (6 : Int32)), (.ref a2), (.ref a2), (.ref a1), (.ref a1)])
    refine Go.st (fun _ k => XS.aloadN X8.here hx rfl (hb hby dtx_502) rfl rfl k) ?_
    show Go p e below _ T8 (mkF m 503 #[.val (.int (Int32.ofNat 10)), .val (.ref a)] [(.ref a), (.int (6 : Int32)), (.ref a2), (.ref a2), (.ref a1), (.ref a1)])
    refine Go.st (fun _ k => XS.bipush X8.here hx rfl (hb hby dtx_503) k) ?_
    show Go p e below _ T8 (mkF m 505 #[.val (.int (Int32.ofNat 10)), .val (.ref a)] [(.int (6 : Int32)), (.ref a), (.int (6 : Int32)), (.ref a2), (.ref a2), (.ref a1), (.ref a1)])
    refine Go.caload X8 hx hZ e8 A_a8 (i := 6) (x := c6) rfl rfl (g := (mkF m 505 #[.val (.int (Int32.ofNat 10)), .val (.ref a)] [(.int (6 : Int32)), (.ref a), (.int (6 : Int32)), (.ref a2), (.ref a2), (.ref a1), (.ref a1)])) rfl rfl (hb hby dtx_505) ?_
    show Go p e below _ T8 (mkF m 506 #[.val (.int (Int32.ofNat 10)), .val (.ref a)] [(.int c6), (.int (6 : Int32)), (.ref a2), (.ref a2), (.ref a1), (.ref a1)])
    refine Go.castore X8 hx hZ e8 A8 (i := 6) rfl (by simp) (g := (mkF m 506 #[.val (.int (Int32.ofNat 10)), .val (.ref a)] [(.int c6), (.int (6 : Int32)), (.ref a2), (.ref a2), (.ref a1), (.ref a1)])) rfl rfl (hb hby dtx_506) ?_
    rintro T9 h9 X9 e9 W9 A9
    have sW9 := W9.size
    show Go p e below _ T9 (mkF m 507 #[.val (.int (Int32.ofNat 10)), .val (.ref a)] [(.ref a2), (.ref a1), (.ref a1)])
    have A_a9 := A_a8.other W9 na
    refine Go.st (fun _ k => XS.dup X9.here hx rfl (hb hby dtx_507) rfl rfl k) ?_
    show Go p e below _ T9 (mkF m 508 #[.val (.int (Int32.ofNat 10)), .val (.ref a)] [(.ref a2), (.ref a2), (.ref a1), (.ref a1)])
    refine Go.st (fun _ k => XS.bipush X9.here hx rfl (hb hby dtx_508) k) ?_
    show Go p e below _ T9 (mkF m 510 #[.val (.int (Int32.ofNat 10)), .val (.ref a)] [(.int (7 : Int32)), (.ref a2), (.ref a2), (.ref a1), (.ref a1)])
    refine Go.st (fun _ k => XS.aloadN X9.here hx rfl (hb hby dtx_510) rfl rfl k) ?_
    show Go p e below _ T9 (mkF m 511 #[.val (.int (Int32.ofNat 10)), .val (.ref a)] [(.ref a), (.int (7 : Int32)), (.ref a2), (.ref a2), (.ref a1), (.ref a1)])
    refine Go.st (fun _ k => XS.bipush X9.here hx rfl (hb hby dtx_511) k) ?_
    show Go p e below _ T9 (mkF m 513 #[.val (.int (Int32.ofNat 10)), .val (.ref a)] [(.int (7 : Int32)), (.ref a), (.int (7 : Int32)), (.ref a2), (.ref a2), (.ref a1), (.ref a1)])
    refine Go.caload X9 hx hZ e9 A_a9 (i := 7) (x := c7) rfl rfl (g := (mkF m 513 #[.val (.int (Int32.ofNat 10)), .val (.ref a)] [(.int (7 : Int32)), (.ref a), (.int (7 : Int32)), (.ref a2), (.ref a2), (.ref a1), (.ref a1)])) rfl rfl (hb hby dtx_513) ?_
    show Go p e below _ T9 (mkF m 514 #[.val (.int (Int32.ofNat 10)), .val (.ref a)] [(.int c7), (.int (7 : Int32)), (.ref a2), (.ref a2), (.ref a1), (.ref a1)])
    refine Go.castore X9 hx hZ e9 A9 (i := 7) rfl (by simp) (g := (mkF m 514 #[.val (.int (Int32.ofNat 10)), .val (.ref a)] [(.int c7), (.int (7 : Int32)), (.ref a2), (.ref a2), (.ref a1), (.ref a1)])) rfl rfl (hb hby dtx_514) ?_
    rintro T10 h10 X10 e10 W10 A10
    have sW10 := W10.size
    show Go p e below _ T10 (mkF m 515 #[.val (.int (Int32.ofNat 10)), .val (.ref a)] [(.ref a2), (.ref a1), (.ref a1)])
    have A_a10 := A_a9.other W10 na
    refine Go.st (fun _ k => XS.dup X10.here hx rfl (hb hby dtx_515) rfl rfl k) ?_
    show Go p e below _ T10 (mkF m 516 #[.val (.int (Int32.ofNat 10)), .val (.ref a)] [(.ref a2), (.ref a2), (.ref a1), (.ref a1)])
    refine Go.st (fun _ k => XS.bipush X10.here hx rfl (hb hby dtx_516) k) ?_
    show Go p e below _ T10 (mkF m 518 #[.val (.int (Int32.ofNat 10)), .val (.ref a)] [(.int (8 : Int32)), (.ref a2), (.ref a2), (.ref a1), (.ref a1)])
    refine Go.st (fun _ k => XS.aloadN X10.here hx rfl (hb hby dtx_518) rfl rfl k) ?_
    show Go p e below _ T10 (mkF m 519 #[.val (.int (Int32.ofNat 10)), .val (.ref a)] [(.ref a), (.int (8 : Int32)), (.ref a2), (.ref a2), (.ref a1), (.ref a1)])
    refine Go.st (fun _ k => XS.bipush X10.here hx rfl (hb hby dtx_519) k) ?_
    show Go p e below _ T10 (mkF m 521 #[.val (.int (Int32.ofNat 10)), .val (.ref a)] [(.int (8 : Int32)), (.ref a), (.int (8 : Int32)), (.ref a2), (.ref a2), (.ref a1), (.ref a1)])
    refine Go.caload X10 hx hZ e10 A_a10 (i := 8) (x := c8) rfl rfl (g := (mkF m 521 #[.val (.int (Int32.ofNat 10)), .val (.ref a)] [(.int (8 : Int32)), (.ref a), (.int (8 : Int32)), (.ref a2), (.ref a2), (.ref a1), (.ref a1)])) rfl rfl (hb hby dtx_521) ?_
    show Go p e below _ T10 (mkF m 522 #[.val (.int (Int32.ofNat 10)), .val (.ref a)] [(.int c8), (.int (8 : Int32)), (.ref a2), (.ref a2), (.ref a1), (.ref a1)])
    refine Go.castore X10 hx hZ e10 A10 (i := 8) rfl (by simp) (g := (mkF m 522 #[.val (.int (Int32.ofNat 10)), .val (.ref a)] [(.int c8), (.int (8 : Int32)), (.ref a2), (.ref a2), (.ref a1), (.ref a1)])) rfl rfl (hb hby dtx_522) ?_
    rintro T11 h11 X11 e11 W11 A11
    have sW11 := W11.size
    show Go p e below _ T11 (mkF m 523 #[.val (.int (Int32.ofNat 10)), .val (.ref a)] [(.ref a2), (.ref a1), (.ref a1)])
    have A_a11 := A_a10.other W11 na
    refine Go.st (fun _ k => XS.dup X11.here hx rfl (hb hby dtx_523) rfl rfl k) ?_
    show Go p e below _ T11 (mkF m 524 #[.val (.int (Int32.ofNat 10)), .val (.ref a)] [(.ref a2), (.ref a2), (.ref a1), (.ref a1)])
    refine Go.st (fun _ k => XS.bipush X11.here hx rfl (hb hby dtx_524) k) ?_
    show Go p e below _ T11 (mkF m 526 #[.val (.int (Int32.ofNat 10)), .val (.ref a)] [(.int (9 : Int32)), (.ref a2), (.ref a2), (.ref a1), (.ref a1)])
    refine Go.st (fun _ k => XS.aloadN X11.here hx rfl (hb hby dtx_526) rfl rfl k) ?_
    show Go p e below _ T11 (mkF m 527 #[.val (.int (Int32.ofNat 10)), .val (.ref a)] [(.ref a), (.int (9 : Int32)), (.ref a2), (.ref a2), (.ref a1), (.ref a1)])
    refine Go.st (fun _ k => XS.bipush X11.here hx rfl (hb hby dtx_527) k) ?_
    show Go p e below _ T11 (mkF m 529 #[.val (.int (Int32.ofNat 10)), .val (.ref a)] [(.int (9 : Int32)), (.ref a), (.int (9 : Int32)), (.ref a2), (.ref a2), (.ref a1), (.ref a1)])
    refine Go.caload X11 hx hZ e11 A_a11 (i := 9) (x := c9) rfl rfl (g := (mkF m 529 #[.val (.int (Int32.ofNat 10)), .val (.ref a)] [(.int (9 : Int32)), (.ref a), (.int (9 : Int32)), (.ref a2), (.ref a2), (.ref a1), (.ref a1)])) rfl rfl (hb hby dtx_529) ?_
    show Go p e below _ T11 (mkF m 530 #[.val (.int (Int32.ofNat 10)), .val (.ref a)] [(.int c9), (.int (9 : Int32)), (.ref a2), (.ref a2), (.ref a1), (.ref a1)])
    refine Go.castore X11 hx hZ e11 A11 (i := 9) rfl (by simp) (g := (mkF m 530 #[.val (.int (Int32.ofNat 10)), .val (.ref a)] [(.int c9), (.int (9 : Int32)), (.ref a2), (.ref a2), (.ref a1), (.ref a1)])) rfl rfl (hb hby dtx_530) ?_
    rintro T12 h12 X12 e12 W12 A12
    have sW12 := W12.size
    show Go p e below _ T12 (mkF m 531 #[.val (.int (Int32.ofNat 10)), .val (.ref a)] [(.ref a2), (.ref a1), (.ref a1)])
    have A_a12 := A_a11.other W12 na
    have n12 : a1 ≠ a2 := Nat.ne_of_lt (by omega)
    have Ac : AI Z h12 a2 .char ([c0, c1, c2, c3, c4, c5, c6, c7, c8, c9] : List Int32) := by
      have q : AI Z h12 a2 .char [nar .char c0, nar .char c1, nar .char c2, nar .char c3, nar .char c4, nar .char c5, nar .char c6, nar .char c7, nar .char c8, nar .char c9] := A12
      rwa [e_0, e_1, e_2, e_3, e_4, e_5, e_6, e_7, e_8, e_9] at q
    have hp : ∀ c ∈ ([c0, c1, c2, c3, c4, c5, c6, c7, c8, c9] : List Int32), ¬ c < 0 ∧ ¬ (65535 : Int32) < c := fun c hc => hbd c (List.mem_of_mem_take (i := 10) hc)
    have Ok : Old Z n0 h12 := ((((((((((((X00.ext E1).ext E2).wr W3 (by omega)).wr W4 (by omega)).wr W5 (by omega)).wr W6 (by omega)).wr W7 (by omega)).wr W8 (by omega)).wr W9 (by omega)).wr W10 (by omega)).wr W11 (by omega)).wr W12 (by omega))
    have Kk : Keep h0 h12 [] := (((((((((((((Keep.refl h0 []).ext E1).ext E2).wr W3 (Or.inr (by omega))).wr W4 (Or.inr (by omega))).wr W5 (Or.inr (by omega))).wr W6 (Or.inr (by omega))).wr W7 (Or.inr (by omega))).wr W8 (Or.inr (by omega))).wr W9 (Or.inr (by omega))).wr W10 (Or.inr (by omega))).wr W11 (Or.inr (by omega))).wr W12 (Or.inr (by omega)))
    have Nk := (Fr.snoc X12 (Fr.snoc X11 (Fr.snoc X10 (Fr.snoc X9 (Fr.snoc X8 (Fr.snoc X7 (Fr.snoc X6 (Fr.snoc X5 (Fr.snoc X4 (Fr.snoc X3 (Fr.nil n0) (by omega)) (by omega)) (by omega)) (by omega)) (by omega)) (by omega)) (by omega)) (by omega)) (by omega)) (by omega))
    refine Go.callI X12 hx (y := (⟨"java/lang/String", "<init>", "([C)V"⟩ : MethodName)) rfl hown (mvT hZ (hw _ (List.mem_of_getElem? (i := 15) rfl))) (mvT hZ (hw _ (List.mem_of_getElem? (i := 16) rfl))) (mvT hZ (hw _ (List.mem_of_getElem? (i := 17) rfl))) (by decide) (Ctr.back (W := 1) (rmI1 l Z a0 hw z Su ([c0, c1, c2, c3, c4, c5, c6, c7, c8, c9] : List Int32) (by simp) (by simp) hp a1 a2 _ _ h12 n0 (by omega) (by omega) Ok (((((((((((A1.ext E2).wr W3).wr W4).wr W5).wr W6).wr W7).wr W8).wr W9).wr W10).wr W11).wr W12) ((((((((((((D1 (Or.inr (hw _ (List.mem_of_getElem? (i := 27) rfl))) (ty := (.array .byte)) (by decide)).ext E2).other W3 (Or.inl n12)).other W4 (Or.inl n12)).other W5 (Or.inl n12)).other W6 (Or.inl n12)).other W7 (Or.inl n12)).other W8 (Or.inl n12)).other W9 (Or.inl n12)).other W10 (Or.inl n12)).other W11 (Or.inl n12)).other W12 (Or.inl n12)) ((((((((((((D1 (Or.inr (hw _ (List.mem_of_getElem? (i := 28) rfl))) (ty := .byte) (by decide)).ext E2).other W3 (Or.inl n12)).other W4 (Or.inl n12)).other W5 (Or.inl n12)).other W6 (Or.inl n12)).other W7 (Or.inl n12)).other W8 (Or.inl n12)).other W9 (Or.inl n12)).other W10 (Or.inl n12)).other W11 (Or.inl n12)).other W12 (Or.inl n12)) Ac) hZ (hw _ (List.mem_of_getElem? (i := 17) rfl)) (hw _ (List.mem_of_getElem? (i := 14) rfl)) (by (try dsimp only [room_1]); (try simp only [List.length_cons, List.length_nil]); omega) (by (try dsimp only [room_1]); (try simp only [List.length_cons, List.length_nil]); omega)) e12 (g := (mkF m 531 #[.val (.int (Int32.ofNat 10)), .val (.ref a)] [(.ref a2), (.ref a1), (.ref a1)])) rfl (by rw [hml]; rfl) (a := a1) (argsL := [(.ref a2)]) (rest := [(.ref a1)]) (lenOf pd_19 rfl) rfl (by show 2 * 0 + _ ≤ _; exact Nat.le_of_eq rfl) (hb hby dtx_531) rfl (by (try dsimp only [room_1]); (try simp only [List.length_cons, List.length_nil]); omega) (by (try dsimp only [room_1]); (try simp only [List.length_cons, List.length_nil]); omega) ?_
    rintro _ T99 L99 X99 ⟨rfl, N99, K99, E99, G99, t, F99, B99, ht⟩
    show Go p e below _ T99 (mkF m 534 #[.val (.int (Int32.ofNat 10)), .val (.ref a)] [(.ref a1)])
    have K09 : Keep h0 T99.heap [] := Kk.trans K99 (fun x q => Or.inr (by cases List.mem_singleton.mp q; omega))
    exact Go.retVW X99 hx (Bas.refl s 0) (Nat.zero_le _) hC0 (UX K09) hret hlk rfl rfl (hb hby dtx_534) ⟨a1, t, rfl, Fr.app Nk N99, K09, E99, G99, F99, B99⟩ (by (try dsimp only [room_1]); (try simp only [List.length_cons, List.length_nil]); omega) (by (try dsimp only [room_1]); (try simp only [List.length_cons, List.length_nil]); omega)
  refine Go.st (fun _ k => XS.icmpYes X0.here hx rfl (pc0 := 452) (pc' := 535) rfl (hb hby dtx_452) rfl (XT.ii_ne_t qn) (by decide) (by decide) k) ?_
  show Go p e below _ s₁ (mkF m 535 #[.val (.int (Int32.ofNat n)), .val (.ref a)] [])
  have nn10 : n ≠ 10 := fun z => qn (by rw [z]; rfl)
  clear qn
  refine Go.st (fun _ k => XS.iloadN X0.here hx rfl (hb hby dtx_535) rfl k) ?_
  show Go p e below _ s₁ (mkF m 536 #[.val (.int (Int32.ofNat n)), .val (.ref a)] [(.int (Int32.ofNat n))])
  refine Go.st (fun _ k => XS.bipush X0.here hx rfl (hb hby dtx_536) k) ?_
  show Go p e below _ s₁ (mkF m 538 #[.val (.int (Int32.ofNat n)), .val (.ref a)] [(.int (11 : Int32)), (.int (Int32.ofNat n))])
  by_cases qn : Int32.ofNat n = (11 : Int32)
  · skip
    refine Go.st (fun _ k => XS.icmpNo X0.here hx rfl (hb hby dtx_538) rfl (XT.ii_ne_f qn) k) ?_
    show Go p e below _ s₁ (mkF m 541 #[.val (.int (Int32.ofNat n)), .val (.ref a)] [])
    obtain rfl : n = 11 := by have q := congrArg Int32.toInt qn; rw [own_toInt (by omega)] at q; have q2 : ((11 : Int32)).toInt = 11 := rfl; omega
    clear qn
    show Go p e below _ s₁ (mkF m 541 #[.val (.int (Int32.ofNat 11)), .val (.ref a)] [])
    obtain ⟨T1, h1, X1, e1, E1, A1, D1, -, st1⟩ := newO X0 hx hZ hown (hw _ (List.mem_of_getElem? (i := 12) rfl)) (hw _ (List.mem_of_getElem? (i := 13) rfl)) (hw _ (List.mem_of_getElem? (i := 14) rfl)) e0 (g := (mkF m 541 #[.val (.int (Int32.ofNat 11)), .val (.ref a)] [])) rfl (hb hby dtx_541) (by (try dsimp only [room_1]); (try simp only [List.length_cons, List.length_nil]); omega) (by (try dsimp only [room_1]); (try simp only [List.length_cons, List.length_nil]); omega)
    obtain ⟨a1, g1⟩ : ∃ z, z = h0.size := ⟨_, rfl⟩
    rw [← g1] at A1 D1 st1
    have l1 : a1 < h1.size := A1.lt
    have sE1 := E1.1
    refine Go.st st1 ?_
    show Go p e below _ T1 (mkF m 544 #[.val (.int (Int32.ofNat 11)), .val (.ref a)] [(.ref a1)])
    refine Go.st (fun _ k => XS.dup X1.here hx rfl (hb hby dtx_544) rfl rfl k) ?_
    show Go p e below _ T1 (mkF m 545 #[.val (.int (Int32.ofNat 11)), .val (.ref a)] [(.ref a1), (.ref a1)])
    refine Go.st (fun _ k => XS.bipush X1.here hx rfl (hb hby dtx_545) k) ?_
    show Go p e below _ T1 (mkF m 547 #[.val (.int (Int32.ofNat 11)), .val (.ref a)] [(.int (11 : Int32)), (.ref a1), (.ref a1)])
    refine Go.newarr X1 hx hZ (ty := .char) rfl rfl (hw _ (List.mem_of_getElem? (i := 0) rfl)) e1 (g := (mkF m 547 #[.val (.int (Int32.ofNat 11)), .val (.ref a)] [(.int (11 : Int32)), (.ref a1), (.ref a1)])) rfl (hb hby dtx_547) rfl (n := 11) rfl (by decide) (by (try dsimp only [room_1]); (try simp only [List.length_cons, List.length_nil]); omega) (by (try dsimp only [room_1]); (try simp only [List.length_cons, List.length_nil]); omega) ?_
    rintro T2 h2 X2 e2 E2 l2 A2
    obtain ⟨a2, g2⟩ : ∃ z, z = h1.size := ⟨_, rfl⟩
    rw [← g2] at A2 l2 ⊢
    have sE2 := E2.1
    show Go p e below _ T2 (mkF m 549 #[.val (.int (Int32.ofNat 11)), .val (.ref a)] [(.ref a2), (.ref a1), (.ref a1)])
    refine Go.st (fun _ k => XS.dup X2.here hx rfl (hb hby dtx_549) rfl rfl k) ?_
    show Go p e below _ T2 (mkF m 550 #[.val (.int (Int32.ofNat 11)), .val (.ref a)] [(.ref a2), (.ref a2), (.ref a1), (.ref a1)])
    refine Go.st (fun _ k => XS.iconst X2.here hx rfl (hb hby dtx_550) k) ?_
    show Go p e below _ T2 (mkF m 551 #[.val (.int (Int32.ofNat 11)), .val (.ref a)] [(.int (0 : Int32)), (.ref a2), (.ref a2), (.ref a1), (.ref a1)])
    refine Go.st (fun _ k => XS.aloadN X2.here hx rfl (hb hby dtx_551) rfl rfl k) ?_
    show Go p e below _ T2 (mkF m 552 #[.val (.int (Int32.ofNat 11)), .val (.ref a)] [(.ref a), (.int (0 : Int32)), (.ref a2), (.ref a2), (.ref a1), (.ref a1)])
    refine Go.st (fun _ k => XS.iconst X2.here hx rfl (hb hby dtx_552) k) ?_
    show Go p e below _ T2 (mkF m 553 #[.val (.int (Int32.ofNat 11)), .val (.ref a)] [(.int (0 : Int32)), (.ref a), (.int (0 : Int32)), (.ref a2), (.ref a2), (.ref a1), (.ref a1)])
    have A_a := (A.ext E1).ext E2
    have na : a ≠ a2 := Nat.ne_of_lt (Nat.lt_of_lt_of_eq (A.ext E1).lt g2.symm)
    refine Go.caload X2 hx hZ e2 A_a (i := 0) (x := c0) rfl rfl (g := (mkF m 553 #[.val (.int (Int32.ofNat 11)), .val (.ref a)] [(.int (0 : Int32)), (.ref a), (.int (0 : Int32)), (.ref a2), (.ref a2), (.ref a1), (.ref a1)])) rfl rfl (hb hby dtx_553) ?_
    show Go p e below _ T2 (mkF m 554 #[.val (.int (Int32.ofNat 11)), .val (.ref a)] [(.int c0), (.int (0 : Int32)), (.ref a2), (.ref a2), (.ref a1), (.ref a1)])
    refine Go.castore X2 hx hZ e2 A2 (i := 0) rfl (by simp) (g := (mkF m 554 #[.val (.int (Int32.ofNat 11)), .val (.ref a)] [(.int c0), (.int (0 : Int32)), (.ref a2), (.ref a2), (.ref a1), (.ref a1)])) rfl rfl (hb hby dtx_554) ?_
    rintro T3 h3 X3 e3 W3 A3
    have sW3 := W3.size
    show Go p e below _ T3 (mkF m 555 #[.val (.int (Int32.ofNat 11)), .val (.ref a)] [(.ref a2), (.ref a1), (.ref a1)])
    have A_a3 := A_a.other W3 na
    refine Go.st (fun _ k => XS.dup X3.here hx rfl (hb hby dtx_555) rfl rfl k) ?_
    show Go p e below _ T3 (mkF m 556 #[.val (.int (Int32.ofNat 11)), .val (.ref a)] [(.ref a2), (.ref a2), (.ref a1), (.ref a1)])
    refine Go.st (fun _ k => XS.iconst X3.here hx rfl (hb hby dtx_556) k) ?_
    show Go p e below _ T3 (mkF m 557 #[.val (.int (Int32.ofNat 11)), .val (.ref a)] [(.int (1 : Int32)), (.ref a2), (.ref a2), (.ref a1), (.ref a1)])
    refine Go.st (fun _ k => XS.aloadN X3.here hx rfl (hb hby dtx_557) rfl rfl k) ?_
    show Go p e below _ T3 (mkF m 558 #[.val (.int (Int32.ofNat 11)), .val (.ref a)] [(.ref a), (.int (1 : Int32)), (.ref a2), (.ref a2), (.ref a1), (.ref a1)])
    refine Go.st (fun _ k => XS.iconst X3.here hx rfl (hb hby dtx_558) k) ?_
    show Go p e below _ T3 (mkF m 559 #[.val (.int (Int32.ofNat 11)), .val (.ref a)] [(.int (1 : Int32)), (.ref a), (.int (1 : Int32)), (.ref a2), (.ref a2), (.ref a1), (.ref a1)])
    refine Go.caload X3 hx hZ e3 A_a3 (i := 1) (x := c1) rfl rfl (g := (mkF m 559 #[.val (.int (Int32.ofNat 11)), .val (.ref a)] [(.int (1 : Int32)), (.ref a), (.int (1 : Int32)), (.ref a2), (.ref a2), (.ref a1), (.ref a1)])) rfl rfl (hb hby dtx_559) ?_
    show Go p e below _ T3 (mkF m 560 #[.val (.int (Int32.ofNat 11)), .val (.ref a)] [(.int c1), (.int (1 : Int32)), (.ref a2), (.ref a2), (.ref a1), (.ref a1)])
    refine Go.castore X3 hx hZ e3 A3 (i := 1) rfl (by simp) (g := (mkF m 560 #[.val (.int (Int32.ofNat 11)), .val (.ref a)] [(.int c1), (.int (1 : Int32)), (.ref a2), (.ref a2), (.ref a1), (.ref a1)])) rfl rfl (hb hby dtx_560) ?_
    rintro T4 h4 X4 e4 W4 A4
    have sW4 := W4.size
    show Go p e below _ T4 (mkF m 561 #[.val (.int (Int32.ofNat 11)), .val (.ref a)] [(.ref a2), (.ref a1), (.ref a1)])
    have A_a4 := A_a3.other W4 na
    refine Go.st (fun _ k => XS.dup X4.here hx rfl (hb hby dtx_561) rfl rfl k) ?_
    show Go p e below _ T4 (mkF m 562 #[.val (.int (Int32.ofNat 11)), .val (.ref a)] [(.ref a2), (.ref a2), (.ref a1), (.ref a1)])
    refine Go.st (fun _ k => XS.iconst X4.here hx rfl (hb hby dtx_562) k) ?_
    show Go p e below _ T4 (mkF m 563 #[.val (.int (Int32.ofNat 11)), .val (.ref a)] [(.int (2 : Int32)), (.ref a2), (.ref a2), (.ref a1), (.ref a1)])
    refine Go.st (fun _ k => XS.aloadN X4.here hx rfl (hb hby dtx_563) rfl rfl k) ?_
    show Go p e below _ T4 (mkF m 564 #[.val (.int (Int32.ofNat 11)), .val (.ref a)] [(.ref a), (.int (2 : Int32)), (.ref a2), (.ref a2), (.ref a1), (.ref a1)])
    refine Go.st (fun _ k => XS.iconst X4.here hx rfl (hb hby dtx_564) k) ?_
    show Go p e below _ T4 (mkF m 565 #[.val (.int (Int32.ofNat 11)), .val (.ref a)] [(.int (2 : Int32)), (.ref a), (.int (2 : Int32)), (.ref a2), (.ref a2), (.ref a1), (.ref a1)])
    refine Go.caload X4 hx hZ e4 A_a4 (i := 2) (x := c2) rfl rfl (g := (mkF m 565 #[.val (.int (Int32.ofNat 11)), .val (.ref a)] [(.int (2 : Int32)), (.ref a), (.int (2 : Int32)), (.ref a2), (.ref a2), (.ref a1), (.ref a1)])) rfl rfl (hb hby dtx_565) ?_
    show Go p e below _ T4 (mkF m 566 #[.val (.int (Int32.ofNat 11)), .val (.ref a)] [(.int c2), (.int (2 : Int32)), (.ref a2), (.ref a2), (.ref a1), (.ref a1)])
    refine Go.castore X4 hx hZ e4 A4 (i := 2) rfl (by simp) (g := (mkF m 566 #[.val (.int (Int32.ofNat 11)), .val (.ref a)] [(.int c2), (.int (2 : Int32)), (.ref a2), (.ref a2), (.ref a1), (.ref a1)])) rfl rfl (hb hby dtx_566) ?_
    rintro T5 h5 X5 e5 W5 A5
    have sW5 := W5.size
    show Go p e below _ T5 (mkF m 567 #[.val (.int (Int32.ofNat 11)), .val (.ref a)] [(.ref a2), (.ref a1), (.ref a1)])
    have A_a5 := A_a4.other W5 na
    refine Go.st (fun _ k => XS.dup X5.here hx rfl (hb hby dtx_567) rfl rfl k) ?_
    show Go p e below _ T5 (mkF m 568 #[.val (.int (Int32.ofNat 11)), .val (.ref a)] [(.ref a2), (.ref a2), (.ref a1), (.ref a1)])
    refine Go.st (fun _ k => XS.iconst X5.here hx rfl (hb hby dtx_568) k) ?_
    show Go p e below _ T5 (mkF m 569 #[.val (.int (Int32.ofNat 11)), .val (.ref a)] [(.int (3 : Int32)), (.ref a2), (.ref a2), (.ref a1), (.ref a1)])
    refine Go.st (fun _ k => XS.aloadN X5.here hx rfl (hb hby dtx_569) rfl rfl k) ?_
    show Go p e below _ T5 (mkF m 570 #[.val (.int (Int32.ofNat 11)), .val (.ref a)] [(.ref a), (.int (3 : Int32)), (.ref a2), (.ref a2), (.ref a1), (.ref a1)])
    refine Go.st (fun _ k => XS.iconst X5.here hx rfl (hb hby dtx_570) k) ?_
    show Go p e below _ T5 (mkF m 571 #[.val (.int (Int32.ofNat 11)), .val (.ref a)] [(.int (3 : Int32)), (.ref a), (.int (3 : Int32)), (.ref a2), (.ref a2), (.ref a1), (.ref a1)])
    refine Go.caload X5 hx hZ e5 A_a5 (i := 3) (x := c3) rfl rfl (g := (mkF m 571 #[.val (.int (Int32.ofNat 11)), .val (.ref a)] [(.int (3 : Int32)), (.ref a), (.int (3 : Int32)), (.ref a2), (.ref a2), (.ref a1), (.ref a1)])) rfl rfl (hb hby dtx_571) ?_
    show Go p e below _ T5 (mkF m 572 #[.val (.int (Int32.ofNat 11)), .val (.ref a)] [(.int c3), (.int (3 : Int32)), (.ref a2), (.ref a2), (.ref a1), (.ref a1)])
    refine Go.castore X5 hx hZ e5 A5 (i := 3) rfl (by simp) (g := (mkF m 572 #[.val (.int (Int32.ofNat 11)), .val (.ref a)] [(.int c3), (.int (3 : Int32)), (.ref a2), (.ref a2), (.ref a1), (.ref a1)])) rfl rfl (hb hby dtx_572) ?_
    rintro T6 h6 X6 e6 W6 A6
    have sW6 := W6.size
    show Go p e below _ T6 (mkF m 573 #[.val (.int (Int32.ofNat 11)), .val (.ref a)] [(.ref a2), (.ref a1), (.ref a1)])
    have A_a6 := A_a5.other W6 na
    refine Go.st (fun _ k => XS.dup X6.here hx rfl (hb hby dtx_573) rfl rfl k) ?_
    show Go p e below _ T6 (mkF m 574 #[.val (.int (Int32.ofNat 11)), .val (.ref a)] [(.ref a2), (.ref a2), (.ref a1), (.ref a1)])
    refine Go.st (fun _ k => XS.iconst X6.here hx rfl (hb hby dtx_574) k) ?_
    show Go p e below _ T6 (mkF m 575 #[.val (.int (Int32.ofNat 11)), .val (.ref a)] [(.int (4 : Int32)), (.ref a2), (.ref a2), (.ref a1), (.ref a1)])
    refine Go.st (fun _ k => XS.aloadN X6.here hx rfl (hb hby dtx_575) rfl rfl k) ?_
    show Go p e below _ T6 (mkF m 576 #[.val (.int (Int32.ofNat 11)), .val (.ref a)] [(.ref a), (.int (4 : Int32)), (.ref a2), (.ref a2), (.ref a1), (.ref a1)])
    refine Go.st (fun _ k => XS.iconst X6.here hx rfl (hb hby dtx_576) k) ?_
    show Go p e below _ T6 (mkF m 577 #[.val (.int (Int32.ofNat 11)), .val (.ref a)] [(.int (4 : Int32)), (.ref a), (.int (4 : Int32)), (.ref a2), (.ref a2), (.ref a1), (.ref a1)])
    refine Go.caload X6 hx hZ e6 A_a6 (i := 4) (x := c4) rfl rfl (g := (mkF m 577 #[.val (.int (Int32.ofNat 11)), .val (.ref a)] [(.int (4 : Int32)), (.ref a), (.int (4 : Int32)), (.ref a2), (.ref a2), (.ref a1), (.ref a1)])) rfl rfl (hb hby dtx_577) ?_
    show Go p e below _ T6 (mkF m 578 #[.val (.int (Int32.ofNat 11)), .val (.ref a)] [(.int c4), (.int (4 : Int32)), (.ref a2), (.ref a2), (.ref a1), (.ref a1)])
    refine Go.castore X6 hx hZ e6 A6 (i := 4) rfl (by simp) (g := (mkF m 578 #[.val (.int (Int32.ofNat 11)), .val (.ref a)] [(.int c4), (.int (4 : Int32)), (.ref a2), (.ref a2), (.ref a1), (.ref a1)])) rfl rfl (hb hby dtx_578) ?_
    rintro T7 h7 X7 e7 W7 A7
    have sW7 := W7.size
    show Go p e below _ T7 (mkF m 579 #[.val (.int (Int32.ofNat 11)), .val (.ref a)] [(.ref a2), (.ref a1), (.ref a1)])
    have A_a7 := A_a6.other W7 na
    refine Go.st (fun _ k => XS.dup X7.here hx rfl (hb hby dtx_579) rfl rfl k) ?_
    show Go p e below _ T7 (mkF m 580 #[.val (.int (Int32.ofNat 11)), .val (.ref a)] [(.ref a2), (.ref a2), (.ref a1), (.ref a1)])
    refine Go.st (fun _ k => XS.iconst X7.here hx rfl (hb hby dtx_580) k) ?_
    show Go p e below _ T7 (mkF m 581 #[.val (.int (Int32.ofNat 11)), .val (.ref a)] [(.int (5 : Int32)), (.ref a2), (.ref a2), (.ref a1), (.ref a1)])
    refine Go.st (fun _ k => XS.aloadN X7.here hx rfl (hb hby dtx_581) rfl rfl k) ?_
    show Go p e below _ T7 (mkF m 582 #[.val (.int (Int32.ofNat 11)), .val (.ref a)] [(.ref a), (.int (5 : Int32)), (.ref a2), (.ref a2), (.ref a1), (.ref a1)])
    refine Go.st (fun _ k => XS.iconst X7.here hx rfl (hb hby dtx_582) k) ?_
    show Go p e below _ T7 (mkF m 583 #[.val (.int (Int32.ofNat 11)), .val (.ref a)] [(.int (5 : Int32)), (.ref a), (.int (5 : Int32)), (.ref a2), (.ref a2), (.ref a1), (.ref a1)])
    refine Go.caload X7 hx hZ e7 A_a7 (i := 5) (x := c5) rfl rfl (g := (mkF m 583 #[.val (.int (Int32.ofNat 11)), .val (.ref a)] [(.int (5 : Int32)), (.ref a), (.int (5 : Int32)), (.ref a2), (.ref a2), (.ref a1), (.ref a1)])) rfl rfl (hb hby dtx_583) ?_
    show Go p e below _ T7 (mkF m 584 #[.val (.int (Int32.ofNat 11)), .val (.ref a)] [(.int c5), (.int (5 : Int32)), (.ref a2), (.ref a2), (.ref a1), (.ref a1)])
    refine Go.castore X7 hx hZ e7 A7 (i := 5) rfl (by simp) (g := (mkF m 584 #[.val (.int (Int32.ofNat 11)), .val (.ref a)] [(.int c5), (.int (5 : Int32)), (.ref a2), (.ref a2), (.ref a1), (.ref a1)])) rfl rfl (hb hby dtx_584) ?_
    rintro T8 h8 X8 e8 W8 A8
    have sW8 := W8.size
    show Go p e below _ T8 (mkF m 585 #[.val (.int (Int32.ofNat 11)), .val (.ref a)] [(.ref a2), (.ref a1), (.ref a1)])
    have A_a8 := A_a7.other W8 na
    refine Go.st (fun _ k => XS.dup X8.here hx rfl (hb hby dtx_585) rfl rfl k) ?_
    show Go p e below _ T8 (mkF m 586 #[.val (.int (Int32.ofNat 11)), .val (.ref a)] [(.ref a2), (.ref a2), (.ref a1), (.ref a1)])
    refine Go.st (fun _ k => XS.bipush X8.here hx rfl (hb hby dtx_586) k) ?_
    show Go p e below _ T8 (mkF m 588 #[.val (.int (Int32.ofNat 11)), .val (.ref a)] [(.int (6 : Int32)), (.ref a2), (.ref a2), (.ref a1), (.ref a1)])
    refine Go.st (fun _ k => XS.aloadN X8.here hx rfl (hb hby dtx_588) rfl rfl k) ?_
    show Go p e below _ T8 (mkF m 589 #[.val (.int (Int32.ofNat 11)), .val (.ref a)] [(.ref a), (.int (6 : Int32)), (.ref a2), (.ref a2), (.ref a1), (.ref a1)])
    refine Go.st (fun _ k => XS.bipush X8.here hx rfl (hb hby dtx_589) k) ?_
    show Go p e below _ T8 (mkF m 591 #[.val (.int (Int32.ofNat 11)), .val (.ref a)] [(.int (6 : Int32)), (.ref a), (.int (6 : Int32)), (.ref a2), (.ref a2), (.ref a1), (.ref a1)])
    refine Go.caload X8 hx hZ e8 A_a8 (i := 6) (x := c6) rfl rfl (g := (mkF m 591 #[.val (.int (Int32.ofNat 11)), .val (.ref a)] [(.int (6 : Int32)), (.ref a), (.int (6 : Int32)), (.ref a2), (.ref a2), (.ref a1), (.ref a1)])) rfl rfl (hb hby dtx_591) ?_
    show Go p e below _ T8 (mkF m 592 #[.val (.int (Int32.ofNat 11)), .val (.ref a)] [(.int c6), (.int (6 : Int32)), (.ref a2), (.ref a2), (.ref a1), (.ref a1)])
    refine Go.castore X8 hx hZ e8 A8 (i := 6) rfl (by simp) (g := (mkF m 592 #[.val (.int (Int32.ofNat 11)), .val (.ref a)] [(.int c6), (.int (6 : Int32)), (.ref a2), (.ref a2), (.ref a1), (.ref a1)])) rfl rfl (hb hby dtx_592) ?_
    rintro T9 h9 X9 e9 W9 A9
    have sW9 := W9.size
    show Go p e below _ T9 (mkF m 593 #[.val (.int (Int32.ofNat 11)), .val (.ref a)] [(.ref a2), (.ref a1), (.ref a1)])
    have A_a9 := A_a8.other W9 na
    refine Go.st (fun _ k => XS.dup X9.here hx rfl (hb hby dtx_593) rfl rfl k) ?_
    show Go p e below _ T9 (mkF m 594 #[.val (.int (Int32.ofNat 11)), .val (.ref a)] [(.ref a2), (.ref a2), (.ref a1), (.ref a1)])
    refine Go.st (fun _ k => XS.bipush X9.here hx rfl (hb hby dtx_594) k) ?_
    show Go p e below _ T9 (mkF m 596 #[.val (.int (Int32.ofNat 11)), .val (.ref a)] [(.int (7 : Int32)), (.ref a2), (.ref a2), (.ref a1), (.ref a1)])
    refine Go.st (fun _ k => XS.aloadN X9.here hx rfl (hb hby dtx_596) rfl rfl k) ?_
    show Go p e below _ T9 (mkF m 597 #[.val (.int (Int32.ofNat 11)), .val (.ref a)] [(.ref a), (.int (7 : Int32)), (.ref a2), (.ref a2), (.ref a1), (.ref a1)])
    refine Go.st (fun _ k => XS.bipush X9.here hx rfl (hb hby dtx_597) k) ?_
    show Go p e below _ T9 (mkF m 599 #[.val (.int (Int32.ofNat 11)), .val (.ref a)] [(.int (7 : Int32)), (.ref a), (.int (7 : Int32)), (.ref a2), (.ref a2), (.ref a1), (.ref a1)])
    refine Go.caload X9 hx hZ e9 A_a9 (i := 7) (x := c7) rfl rfl (g := (mkF m 599 #[.val (.int (Int32.ofNat 11)), .val (.ref a)] [(.int (7 : Int32)), (.ref a), (.int (7 : Int32)), (.ref a2), (.ref a2), (.ref a1), (.ref a1)])) rfl rfl (hb hby dtx_599) ?_
    show Go p e below _ T9 (mkF m 600 #[.val (.int (Int32.ofNat 11)), .val (.ref a)] [(.int c7), (.int (7 : Int32)), (.ref a2), (.ref a2), (.ref a1), (.ref a1)])
    refine Go.castore X9 hx hZ e9 A9 (i := 7) rfl (by simp) (g := (mkF m 600 #[.val (.int (Int32.ofNat 11)), .val (.ref a)] [(.int c7), (.int (7 : Int32)), (.ref a2), (.ref a2), (.ref a1), (.ref a1)])) rfl rfl (hb hby dtx_600) ?_
    rintro T10 h10 X10 e10 W10 A10
    have sW10 := W10.size
    show Go p e below _ T10 (mkF m 601 #[.val (.int (Int32.ofNat 11)), .val (.ref a)] [(.ref a2), (.ref a1), (.ref a1)])
    have A_a10 := A_a9.other W10 na
    refine Go.st (fun _ k => XS.dup X10.here hx rfl (hb hby dtx_601) rfl rfl k) ?_
    show Go p e below _ T10 (mkF m 602 #[.val (.int (Int32.ofNat 11)), .val (.ref a)] [(.ref a2), (.ref a2), (.ref a1), (.ref a1)])
    refine Go.st (fun _ k => XS.bipush X10.here hx rfl (hb hby dtx_602) k) ?_
    show Go p e below _ T10 (mkF m 604 #[.val (.int (Int32.ofNat 11)), .val (.ref a)] [(.int (8 : Int32)), (.ref a2), (.ref a2), (.ref a1), (.ref a1)])
    refine Go.st (fun _ k => XS.aloadN X10.here hx rfl (hb hby dtx_604) rfl rfl k) ?_
    show Go p e below _ T10 (mkF m 605 #[.val (.int (Int32.ofNat 11)), .val (.ref a)] [(.ref a), (.int (8 : Int32)), (.ref a2), (.ref a2), (.ref a1), (.ref a1)])
    refine Go.st (fun _ k => XS.bipush X10.here hx rfl (hb hby dtx_605) k) ?_
    show Go p e below _ T10 (mkF m 607 #[.val (.int (Int32.ofNat 11)), .val (.ref a)] [(.int (8 : Int32)), (.ref a), (.int (8 : Int32)), (.ref a2), (.ref a2), (.ref a1), (.ref a1)])
    refine Go.caload X10 hx hZ e10 A_a10 (i := 8) (x := c8) rfl rfl (g := (mkF m 607 #[.val (.int (Int32.ofNat 11)), .val (.ref a)] [(.int (8 : Int32)), (.ref a), (.int (8 : Int32)), (.ref a2), (.ref a2), (.ref a1), (.ref a1)])) rfl rfl (hb hby dtx_607) ?_
    show Go p e below _ T10 (mkF m 608 #[.val (.int (Int32.ofNat 11)), .val (.ref a)] [(.int c8), (.int (8 : Int32)), (.ref a2), (.ref a2), (.ref a1), (.ref a1)])
    refine Go.castore X10 hx hZ e10 A10 (i := 8) rfl (by simp) (g := (mkF m 608 #[.val (.int (Int32.ofNat 11)), .val (.ref a)] [(.int c8), (.int (8 : Int32)), (.ref a2), (.ref a2), (.ref a1), (.ref a1)])) rfl rfl (hb hby dtx_608) ?_
    rintro T11 h11 X11 e11 W11 A11
    have sW11 := W11.size
    show Go p e below _ T11 (mkF m 609 #[.val (.int (Int32.ofNat 11)), .val (.ref a)] [(.ref a2), (.ref a1), (.ref a1)])
    have A_a11 := A_a10.other W11 na
    refine Go.st (fun _ k => XS.dup X11.here hx rfl (hb hby dtx_609) rfl rfl k) ?_
    show Go p e below _ T11 (mkF m 610 #[.val (.int (Int32.ofNat 11)), .val (.ref a)] [(.ref a2), (.ref a2), (.ref a1), (.ref a1)])
    refine Go.st (fun _ k => XS.bipush X11.here hx rfl (hb hby dtx_610) k) ?_
    show Go p e below _ T11 (mkF m 612 #[.val (.int (Int32.ofNat 11)), .val (.ref a)] [(.int (9 : Int32)), (.ref a2), (.ref a2), (.ref a1), (.ref a1)])
    refine Go.st (fun _ k => XS.aloadN X11.here hx rfl (hb hby dtx_612) rfl rfl k) ?_
    show Go p e below _ T11 (mkF m 613 #[.val (.int (Int32.ofNat 11)), .val (.ref a)] [(.ref a), (.int (9 : Int32)), (.ref a2), (.ref a2), (.ref a1), (.ref a1)])
    refine Go.st (fun _ k => XS.bipush X11.here hx rfl (hb hby dtx_613) k) ?_
    show Go p e below _ T11 (mkF m 615 #[.val (.int (Int32.ofNat 11)), .val (.ref a)] [(.int (9 : Int32)), (.ref a), (.int (9 : Int32)), (.ref a2), (.ref a2), (.ref a1), (.ref a1)])
    refine Go.caload X11 hx hZ e11 A_a11 (i := 9) (x := c9) rfl rfl (g := (mkF m 615 #[.val (.int (Int32.ofNat 11)), .val (.ref a)] [(.int (9 : Int32)), (.ref a), (.int (9 : Int32)), (.ref a2), (.ref a2), (.ref a1), (.ref a1)])) rfl rfl (hb hby dtx_615) ?_
    show Go p e below _ T11 (mkF m 616 #[.val (.int (Int32.ofNat 11)), .val (.ref a)] [(.int c9), (.int (9 : Int32)), (.ref a2), (.ref a2), (.ref a1), (.ref a1)])
    refine Go.castore X11 hx hZ e11 A11 (i := 9) rfl (by simp) (g := (mkF m 616 #[.val (.int (Int32.ofNat 11)), .val (.ref a)] [(.int c9), (.int (9 : Int32)), (.ref a2), (.ref a2), (.ref a1), (.ref a1)])) rfl rfl (hb hby dtx_616) ?_
    rintro T12 h12 X12 e12 W12 A12
    have sW12 := W12.size
    show Go p e below _ T12 (mkF m 617 #[.val (.int (Int32.ofNat 11)), .val (.ref a)] [(.ref a2), (.ref a1), (.ref a1)])
    have A_a12 := A_a11.other W12 na
    refine Go.st (fun _ k => XS.dup X12.here hx rfl (hb hby dtx_617) rfl rfl k) ?_
    show Go p e below _ T12 (mkF m 618 #[.val (.int (Int32.ofNat 11)), .val (.ref a)] [(.ref a2), (.ref a2), (.ref a1), (.ref a1)])
    refine Go.st (fun _ k => XS.bipush X12.here hx rfl (hb hby dtx_618) k) ?_
    show Go p e below _ T12 (mkF m 620 #[.val (.int (Int32.ofNat 11)), .val (.ref a)] [(.int (10 : Int32)), (.ref a2), (.ref a2), (.ref a1), (.ref a1)])
    refine Go.st (fun _ k => XS.aloadN X12.here hx rfl (hb hby dtx_620) rfl rfl k) ?_
    show Go p e below _ T12 (mkF m 621 #[.val (.int (Int32.ofNat 11)), .val (.ref a)] [(.ref a), (.int (10 : Int32)), (.ref a2), (.ref a2), (.ref a1), (.ref a1)])
    refine Go.st (fun _ k => XS.bipush X12.here hx rfl (hb hby dtx_621) k) ?_
    show Go p e below _ T12 (mkF m 623 #[.val (.int (Int32.ofNat 11)), .val (.ref a)] [(.int (10 : Int32)), (.ref a), (.int (10 : Int32)), (.ref a2), (.ref a2), (.ref a1), (.ref a1)])
    refine Go.caload X12 hx hZ e12 A_a12 (i := 10) (x := c10) rfl rfl (g := (mkF m 623 #[.val (.int (Int32.ofNat 11)), .val (.ref a)] [(.int (10 : Int32)), (.ref a), (.int (10 : Int32)), (.ref a2), (.ref a2), (.ref a1), (.ref a1)])) rfl rfl (hb hby dtx_623) ?_
    show Go p e below _ T12 (mkF m 624 #[.val (.int (Int32.ofNat 11)), .val (.ref a)] [(.int c10), (.int (10 : Int32)), (.ref a2), (.ref a2), (.ref a1), (.ref a1)])
    refine Go.castore X12 hx hZ e12 A12 (i := 10) rfl (by simp) (g := (mkF m 624 #[.val (.int (Int32.ofNat 11)), .val (.ref a)] [(.int c10), (.int (10 : Int32)), (.ref a2), (.ref a2), (.ref a1), (.ref a1)])) rfl rfl (hb hby dtx_624) ?_
    rintro T13 h13 X13 e13 W13 A13
    have sW13 := W13.size
    show Go p e below _ T13 (mkF m 625 #[.val (.int (Int32.ofNat 11)), .val (.ref a)] [(.ref a2), (.ref a1), (.ref a1)])
    have A_a13 := A_a12.other W13 na
    have n12 : a1 ≠ a2 := Nat.ne_of_lt (by omega)
    have Ac : AI Z h13 a2 .char ([c0, c1, c2, c3, c4, c5, c6, c7, c8, c9, c10] : List Int32) := by
      have q : AI Z h13 a2 .char [nar .char c0, nar .char c1, nar .char c2, nar .char c3, nar .char c4, nar .char c5, nar .char c6, nar .char c7, nar .char c8, nar .char c9, nar .char c10] := A13
      rwa [e_0, e_1, e_2, e_3, e_4, e_5, e_6, e_7, e_8, e_9, e_10] at q
    have hp : ∀ c ∈ ([c0, c1, c2, c3, c4, c5, c6, c7, c8, c9, c10] : List Int32), ¬ c < 0 ∧ ¬ (65535 : Int32) < c := fun c hc => hbd c (List.mem_of_mem_take (i := 11) hc)
    have Ok : Old Z n0 h13 := (((((((((((((X00.ext E1).ext E2).wr W3 (by omega)).wr W4 (by omega)).wr W5 (by omega)).wr W6 (by omega)).wr W7 (by omega)).wr W8 (by omega)).wr W9 (by omega)).wr W10 (by omega)).wr W11 (by omega)).wr W12 (by omega)).wr W13 (by omega))
    have Kk : Keep h0 h13 [] := ((((((((((((((Keep.refl h0 []).ext E1).ext E2).wr W3 (Or.inr (by omega))).wr W4 (Or.inr (by omega))).wr W5 (Or.inr (by omega))).wr W6 (Or.inr (by omega))).wr W7 (Or.inr (by omega))).wr W8 (Or.inr (by omega))).wr W9 (Or.inr (by omega))).wr W10 (Or.inr (by omega))).wr W11 (Or.inr (by omega))).wr W12 (Or.inr (by omega))).wr W13 (Or.inr (by omega)))
    have Nk := (Fr.snoc X13 (Fr.snoc X12 (Fr.snoc X11 (Fr.snoc X10 (Fr.snoc X9 (Fr.snoc X8 (Fr.snoc X7 (Fr.snoc X6 (Fr.snoc X5 (Fr.snoc X4 (Fr.snoc X3 (Fr.nil n0) (by omega)) (by omega)) (by omega)) (by omega)) (by omega)) (by omega)) (by omega)) (by omega)) (by omega)) (by omega)) (by omega))
    refine Go.callI X13 hx (y := (⟨"java/lang/String", "<init>", "([C)V"⟩ : MethodName)) rfl hown (mvT hZ (hw _ (List.mem_of_getElem? (i := 15) rfl))) (mvT hZ (hw _ (List.mem_of_getElem? (i := 16) rfl))) (mvT hZ (hw _ (List.mem_of_getElem? (i := 17) rfl))) (by decide) (Ctr.back (W := 1) (rmI1 l Z a0 hw z Su ([c0, c1, c2, c3, c4, c5, c6, c7, c8, c9, c10] : List Int32) (by simp) (by simp) hp a1 a2 _ _ h13 n0 (by omega) (by omega) Ok ((((((((((((A1.ext E2).wr W3).wr W4).wr W5).wr W6).wr W7).wr W8).wr W9).wr W10).wr W11).wr W12).wr W13) (((((((((((((D1 (Or.inr (hw _ (List.mem_of_getElem? (i := 27) rfl))) (ty := (.array .byte)) (by decide)).ext E2).other W3 (Or.inl n12)).other W4 (Or.inl n12)).other W5 (Or.inl n12)).other W6 (Or.inl n12)).other W7 (Or.inl n12)).other W8 (Or.inl n12)).other W9 (Or.inl n12)).other W10 (Or.inl n12)).other W11 (Or.inl n12)).other W12 (Or.inl n12)).other W13 (Or.inl n12)) (((((((((((((D1 (Or.inr (hw _ (List.mem_of_getElem? (i := 28) rfl))) (ty := .byte) (by decide)).ext E2).other W3 (Or.inl n12)).other W4 (Or.inl n12)).other W5 (Or.inl n12)).other W6 (Or.inl n12)).other W7 (Or.inl n12)).other W8 (Or.inl n12)).other W9 (Or.inl n12)).other W10 (Or.inl n12)).other W11 (Or.inl n12)).other W12 (Or.inl n12)).other W13 (Or.inl n12)) Ac) hZ (hw _ (List.mem_of_getElem? (i := 17) rfl)) (hw _ (List.mem_of_getElem? (i := 14) rfl)) (by (try dsimp only [room_1]); (try simp only [List.length_cons, List.length_nil]); omega) (by (try dsimp only [room_1]); (try simp only [List.length_cons, List.length_nil]); omega)) e13 (g := (mkF m 625 #[.val (.int (Int32.ofNat 11)), .val (.ref a)] [(.ref a2), (.ref a1), (.ref a1)])) rfl (by rw [hml]; rfl) (a := a1) (argsL := [(.ref a2)]) (rest := [(.ref a1)]) (lenOf pd_19 rfl) rfl (by show 2 * 0 + _ ≤ _; exact Nat.le_of_eq rfl) (hb hby dtx_625) rfl (by (try dsimp only [room_1]); (try simp only [List.length_cons, List.length_nil]); omega) (by (try dsimp only [room_1]); (try simp only [List.length_cons, List.length_nil]); omega) ?_
    rintro _ T99 L99 X99 ⟨rfl, N99, K99, E99, G99, t, F99, B99, ht⟩
    show Go p e below _ T99 (mkF m 628 #[.val (.int (Int32.ofNat 11)), .val (.ref a)] [(.ref a1)])
    have K09 : Keep h0 T99.heap [] := Kk.trans K99 (fun x q => Or.inr (by cases List.mem_singleton.mp q; omega))
    exact Go.retVW X99 hx (Bas.refl s 0) (Nat.zero_le _) hC0 (UX K09) hret hlk rfl rfl (hb hby dtx_628) ⟨a1, t, rfl, Fr.app Nk N99, K09, E99, G99, F99, B99⟩ (by (try dsimp only [room_1]); (try simp only [List.length_cons, List.length_nil]); omega) (by (try dsimp only [room_1]); (try simp only [List.length_cons, List.length_nil]); omega)
  refine Go.st (fun _ k => XS.icmpYes X0.here hx rfl (pc0 := 538) (pc' := 629) rfl (hb hby dtx_538) rfl (XT.ii_ne_t qn) (by decide) (by decide) k) ?_
  show Go p e below _ s₁ (mkF m 629 #[.val (.int (Int32.ofNat n)), .val (.ref a)] [])
  have nn11 : n ≠ 11 := fun z => qn (by rw [z]; rfl)
  clear qn
  obtain rfl : n = 12 := by omega
  show Go p e below _ s₁ (mkF m 629 #[.val (.int (Int32.ofNat 12)), .val (.ref a)] [])
  obtain ⟨T1, h1, X1, e1, E1, A1, D1, -, st1⟩ := newO X0 hx hZ hown (hw _ (List.mem_of_getElem? (i := 12) rfl)) (hw _ (List.mem_of_getElem? (i := 13) rfl)) (hw _ (List.mem_of_getElem? (i := 14) rfl)) e0 (g := (mkF m 629 #[.val (.int (Int32.ofNat 12)), .val (.ref a)] [])) rfl (hb hby dtx_629) (by (try dsimp only [room_1]); (try simp only [List.length_cons, List.length_nil]); omega) (by (try dsimp only [room_1]); (try simp only [List.length_cons, List.length_nil]); omega)
  obtain ⟨a1, g1⟩ : ∃ z, z = h0.size := ⟨_, rfl⟩
  rw [← g1] at A1 D1 st1
  have l1 : a1 < h1.size := A1.lt
  have sE1 := E1.1
  refine Go.st st1 ?_
  show Go p e below _ T1 (mkF m 632 #[.val (.int (Int32.ofNat 12)), .val (.ref a)] [(.ref a1)])
  refine Go.st (fun _ k => XS.dup X1.here hx rfl (hb hby dtx_632) rfl rfl k) ?_
  show Go p e below _ T1 (mkF m 633 #[.val (.int (Int32.ofNat 12)), .val (.ref a)] [(.ref a1), (.ref a1)])
  refine Go.st (fun _ k => XS.bipush X1.here hx rfl (hb hby dtx_633) k) ?_
  show Go p e below _ T1 (mkF m 635 #[.val (.int (Int32.ofNat 12)), .val (.ref a)] [(.int (12 : Int32)), (.ref a1), (.ref a1)])
  refine Go.newarr X1 hx hZ (ty := .char) rfl rfl (hw _ (List.mem_of_getElem? (i := 0) rfl)) e1 (g := (mkF m 635 #[.val (.int (Int32.ofNat 12)), .val (.ref a)] [(.int (12 : Int32)), (.ref a1), (.ref a1)])) rfl (hb hby dtx_635) rfl (n := 12) rfl (by decide) (by (try dsimp only [room_1]); (try simp only [List.length_cons, List.length_nil]); omega) (by (try dsimp only [room_1]); (try simp only [List.length_cons, List.length_nil]); omega) ?_
  rintro T2 h2 X2 e2 E2 l2 A2
  obtain ⟨a2, g2⟩ : ∃ z, z = h1.size := ⟨_, rfl⟩
  rw [← g2] at A2 l2 ⊢
  have sE2 := E2.1
  show Go p e below _ T2 (mkF m 637 #[.val (.int (Int32.ofNat 12)), .val (.ref a)] [(.ref a2), (.ref a1), (.ref a1)])
  refine Go.st (fun _ k => XS.dup X2.here hx rfl (hb hby dtx_637) rfl rfl k) ?_
  show Go p e below _ T2 (mkF m 638 #[.val (.int (Int32.ofNat 12)), .val (.ref a)] [(.ref a2), (.ref a2), (.ref a1), (.ref a1)])
  refine Go.st (fun _ k => XS.iconst X2.here hx rfl (hb hby dtx_638) k) ?_
  show Go p e below _ T2 (mkF m 639 #[.val (.int (Int32.ofNat 12)), .val (.ref a)] [(.int (0 : Int32)), (.ref a2), (.ref a2), (.ref a1), (.ref a1)])
  refine Go.st (fun _ k => XS.aloadN X2.here hx rfl (hb hby dtx_639) rfl rfl k) ?_
  show Go p e below _ T2 (mkF m 640 #[.val (.int (Int32.ofNat 12)), .val (.ref a)] [(.ref a), (.int (0 : Int32)), (.ref a2), (.ref a2), (.ref a1), (.ref a1)])
  refine Go.st (fun _ k => XS.iconst X2.here hx rfl (hb hby dtx_640) k) ?_
  show Go p e below _ T2 (mkF m 641 #[.val (.int (Int32.ofNat 12)), .val (.ref a)] [(.int (0 : Int32)), (.ref a), (.int (0 : Int32)), (.ref a2), (.ref a2), (.ref a1), (.ref a1)])
  have A_a := (A.ext E1).ext E2
  have na : a ≠ a2 := Nat.ne_of_lt (Nat.lt_of_lt_of_eq (A.ext E1).lt g2.symm)
  refine Go.caload X2 hx hZ e2 A_a (i := 0) (x := c0) rfl rfl (g := (mkF m 641 #[.val (.int (Int32.ofNat 12)), .val (.ref a)] [(.int (0 : Int32)), (.ref a), (.int (0 : Int32)), (.ref a2), (.ref a2), (.ref a1), (.ref a1)])) rfl rfl (hb hby dtx_641) ?_
  show Go p e below _ T2 (mkF m 642 #[.val (.int (Int32.ofNat 12)), .val (.ref a)] [(.int c0), (.int (0 : Int32)), (.ref a2), (.ref a2), (.ref a1), (.ref a1)])
  refine Go.castore X2 hx hZ e2 A2 (i := 0) rfl (by simp) (g := (mkF m 642 #[.val (.int (Int32.ofNat 12)), .val (.ref a)] [(.int c0), (.int (0 : Int32)), (.ref a2), (.ref a2), (.ref a1), (.ref a1)])) rfl rfl (hb hby dtx_642) ?_
  rintro T3 h3 X3 e3 W3 A3
  have sW3 := W3.size
  show Go p e below _ T3 (mkF m 643 #[.val (.int (Int32.ofNat 12)), .val (.ref a)] [(.ref a2), (.ref a1), (.ref a1)])
  have A_a3 := A_a.other W3 na
  refine Go.st (fun _ k => XS.dup X3.here hx rfl (hb hby dtx_643) rfl rfl k) ?_
  show Go p e below _ T3 (mkF m 644 #[.val (.int (Int32.ofNat 12)), .val (.ref a)] [(.ref a2), (.ref a2), (.ref a1), (.ref a1)])
  refine Go.st (fun _ k => XS.iconst X3.here hx rfl (hb hby dtx_644) k) ?_
  show Go p e below _ T3 (mkF m 645 #[.val (.int (Int32.ofNat 12)), .val (.ref a)] [(.int (1 : Int32)), (.ref a2), (.ref a2), (.ref a1), (.ref a1)])
  refine Go.st (fun _ k => XS.aloadN X3.here hx rfl (hb hby dtx_645) rfl rfl k) ?_
  show Go p e below _ T3 (mkF m 646 #[.val (.int (Int32.ofNat 12)), .val (.ref a)] [(.ref a), (.int (1 : Int32)), (.ref a2), (.ref a2), (.ref a1), (.ref a1)])
  refine Go.st (fun _ k => XS.iconst X3.here hx rfl (hb hby dtx_646) k) ?_
  show Go p e below _ T3 (mkF m 647 #[.val (.int (Int32.ofNat 12)), .val (.ref a)] [(.int (1 : Int32)), (.ref a), (.int (1 : Int32)), (.ref a2), (.ref a2), (.ref a1), (.ref a1)])
  refine Go.caload X3 hx hZ e3 A_a3 (i := 1) (x := c1) rfl rfl (g := (mkF m 647 #[.val (.int (Int32.ofNat 12)), .val (.ref a)] [(.int (1 : Int32)), (.ref a), (.int (1 : Int32)), (.ref a2), (.ref a2), (.ref a1), (.ref a1)])) rfl rfl (hb hby dtx_647) ?_
  show Go p e below _ T3 (mkF m 648 #[.val (.int (Int32.ofNat 12)), .val (.ref a)] [(.int c1), (.int (1 : Int32)), (.ref a2), (.ref a2), (.ref a1), (.ref a1)])
  refine Go.castore X3 hx hZ e3 A3 (i := 1) rfl (by simp) (g := (mkF m 648 #[.val (.int (Int32.ofNat 12)), .val (.ref a)] [(.int c1), (.int (1 : Int32)), (.ref a2), (.ref a2), (.ref a1), (.ref a1)])) rfl rfl (hb hby dtx_648) ?_
  rintro T4 h4 X4 e4 W4 A4
  have sW4 := W4.size
  show Go p e below _ T4 (mkF m 649 #[.val (.int (Int32.ofNat 12)), .val (.ref a)] [(.ref a2), (.ref a1), (.ref a1)])
  have A_a4 := A_a3.other W4 na
  refine Go.st (fun _ k => XS.dup X4.here hx rfl (hb hby dtx_649) rfl rfl k) ?_
  show Go p e below _ T4 (mkF m 650 #[.val (.int (Int32.ofNat 12)), .val (.ref a)] [(.ref a2), (.ref a2), (.ref a1), (.ref a1)])
  refine Go.st (fun _ k => XS.iconst X4.here hx rfl (hb hby dtx_650) k) ?_
  show Go p e below _ T4 (mkF m 651 #[.val (.int (Int32.ofNat 12)), .val (.ref a)] [(.int (2 : Int32)), (.ref a2), (.ref a2), (.ref a1), (.ref a1)])
  refine Go.st (fun _ k => XS.aloadN X4.here hx rfl (hb hby dtx_651) rfl rfl k) ?_
  show Go p e below _ T4 (mkF m 652 #[.val (.int (Int32.ofNat 12)), .val (.ref a)] [(.ref a), (.int (2 : Int32)), (.ref a2), (.ref a2), (.ref a1), (.ref a1)])
  refine Go.st (fun _ k => XS.iconst X4.here hx rfl (hb hby dtx_652) k) ?_
  show Go p e below _ T4 (mkF m 653 #[.val (.int (Int32.ofNat 12)), .val (.ref a)] [(.int (2 : Int32)), (.ref a), (.int (2 : Int32)), (.ref a2), (.ref a2), (.ref a1), (.ref a1)])
  refine Go.caload X4 hx hZ e4 A_a4 (i := 2) (x := c2) rfl rfl (g := (mkF m 653 #[.val (.int (Int32.ofNat 12)), .val (.ref a)] [(.int (2 : Int32)), (.ref a), (.int (2 : Int32)), (.ref a2), (.ref a2), (.ref a1), (.ref a1)])) rfl rfl (hb hby dtx_653) ?_
  show Go p e below _ T4 (mkF m 654 #[.val (.int (Int32.ofNat 12)), .val (.ref a)] [(.int c2), (.int (2 : Int32)), (.ref a2), (.ref a2), (.ref a1), (.ref a1)])
  refine Go.castore X4 hx hZ e4 A4 (i := 2) rfl (by simp) (g := (mkF m 654 #[.val (.int (Int32.ofNat 12)), .val (.ref a)] [(.int c2), (.int (2 : Int32)), (.ref a2), (.ref a2), (.ref a1), (.ref a1)])) rfl rfl (hb hby dtx_654) ?_
  rintro T5 h5 X5 e5 W5 A5
  have sW5 := W5.size
  show Go p e below _ T5 (mkF m 655 #[.val (.int (Int32.ofNat 12)), .val (.ref a)] [(.ref a2), (.ref a1), (.ref a1)])
  have A_a5 := A_a4.other W5 na
  refine Go.st (fun _ k => XS.dup X5.here hx rfl (hb hby dtx_655) rfl rfl k) ?_
  show Go p e below _ T5 (mkF m 656 #[.val (.int (Int32.ofNat 12)), .val (.ref a)] [(.ref a2), (.ref a2), (.ref a1), (.ref a1)])
  refine Go.st (fun _ k => XS.iconst X5.here hx rfl (hb hby dtx_656) k) ?_
  show Go p e below _ T5 (mkF m 657 #[.val (.int (Int32.ofNat 12)), .val (.ref a)] [(.int (3 : Int32)), (.ref a2), (.ref a2), (.ref a1), (.ref a1)])
  refine Go.st (fun _ k => XS.aloadN X5.here hx rfl (hb hby dtx_657) rfl rfl k) ?_
  show Go p e below _ T5 (mkF m 658 #[.val (.int (Int32.ofNat 12)), .val (.ref a)] [(.ref a), (.int (3 : Int32)), (.ref a2), (.ref a2), (.ref a1), (.ref a1)])
  refine Go.st (fun _ k => XS.iconst X5.here hx rfl (hb hby dtx_658) k) ?_
  show Go p e below _ T5 (mkF m 659 #[.val (.int (Int32.ofNat 12)), .val (.ref a)] [(.int (3 : Int32)), (.ref a), (.int (3 : Int32)), (.ref a2), (.ref a2), (.ref a1), (.ref a1)])
  refine Go.caload X5 hx hZ e5 A_a5 (i := 3) (x := c3) rfl rfl (g := (mkF m 659 #[.val (.int (Int32.ofNat 12)), .val (.ref a)] [(.int (3 : Int32)), (.ref a), (.int (3 : Int32)), (.ref a2), (.ref a2), (.ref a1), (.ref a1)])) rfl rfl (hb hby dtx_659) ?_
  show Go p e below _ T5 (mkF m 660 #[.val (.int (Int32.ofNat 12)), .val (.ref a)] [(.int c3), (.int (3 : Int32)), (.ref a2), (.ref a2), (.ref a1), (.ref a1)])
  refine Go.castore X5 hx hZ e5 A5 (i := 3) rfl (by simp) (g := (mkF m 660 #[.val (.int (Int32.ofNat 12)), .val (.ref a)] [(.int c3), (.int (3 : Int32)), (.ref a2), (.ref a2), (.ref a1), (.ref a1)])) rfl rfl (hb hby dtx_660) ?_
  rintro T6 h6 X6 e6 W6 A6
  have sW6 := W6.size
  show Go p e below _ T6 (mkF m 661 #[.val (.int (Int32.ofNat 12)), .val (.ref a)] [(.ref a2), (.ref a1), (.ref a1)])
  have A_a6 := A_a5.other W6 na
  refine Go.st (fun _ k => XS.dup X6.here hx rfl (hb hby dtx_661) rfl rfl k) ?_
  show Go p e below _ T6 (mkF m 662 #[.val (.int (Int32.ofNat 12)), .val (.ref a)] [(.ref a2), (.ref a2), (.ref a1), (.ref a1)])
  refine Go.st (fun _ k => XS.iconst X6.here hx rfl (hb hby dtx_662) k) ?_
  show Go p e below _ T6 (mkF m 663 #[.val (.int (Int32.ofNat 12)), .val (.ref a)] [(.int (4 : Int32)), (.ref a2), (.ref a2), (.ref a1), (.ref a1)])
  refine Go.st (fun _ k => XS.aloadN X6.here hx rfl (hb hby dtx_663) rfl rfl k) ?_
  show Go p e below _ T6 (mkF m 664 #[.val (.int (Int32.ofNat 12)), .val (.ref a)] [(.ref a), (.int (4 : Int32)), (.ref a2), (.ref a2), (.ref a1), (.ref a1)])
  refine Go.st (fun _ k => XS.iconst X6.here hx rfl (hb hby dtx_664) k) ?_
  show Go p e below _ T6 (mkF m 665 #[.val (.int (Int32.ofNat 12)), .val (.ref a)] [(.int (4 : Int32)), (.ref a), (.int (4 : Int32)), (.ref a2), (.ref a2), (.ref a1), (.ref a1)])
  refine Go.caload X6 hx hZ e6 A_a6 (i := 4) (x := c4) rfl rfl (g := (mkF m 665 #[.val (.int (Int32.ofNat 12)), .val (.ref a)] [(.int (4 : Int32)), (.ref a), (.int (4 : Int32)), (.ref a2), (.ref a2), (.ref a1), (.ref a1)])) rfl rfl (hb hby dtx_665) ?_
  show Go p e below _ T6 (mkF m 666 #[.val (.int (Int32.ofNat 12)), .val (.ref a)] [(.int c4), (.int (4 : Int32)), (.ref a2), (.ref a2), (.ref a1), (.ref a1)])
  refine Go.castore X6 hx hZ e6 A6 (i := 4) rfl (by simp) (g := (mkF m 666 #[.val (.int (Int32.ofNat 12)), .val (.ref a)] [(.int c4), (.int (4 : Int32)), (.ref a2), (.ref a2), (.ref a1), (.ref a1)])) rfl rfl (hb hby dtx_666) ?_
  rintro T7 h7 X7 e7 W7 A7
  have sW7 := W7.size
  show Go p e below _ T7 (mkF m 667 #[.val (.int (Int32.ofNat 12)), .val (.ref a)] [(.ref a2), (.ref a1), (.ref a1)])
  have A_a7 := A_a6.other W7 na
  refine Go.st (fun _ k => XS.dup X7.here hx rfl (hb hby dtx_667) rfl rfl k) ?_
  show Go p e below _ T7 (mkF m 668 #[.val (.int (Int32.ofNat 12)), .val (.ref a)] [(.ref a2), (.ref a2), (.ref a1), (.ref a1)])
  refine Go.st (fun _ k => XS.iconst X7.here hx rfl (hb hby dtx_668) k) ?_
  show Go p e below _ T7 (mkF m 669 #[.val (.int (Int32.ofNat 12)), .val (.ref a)] [(.int (5 : Int32)), (.ref a2), (.ref a2), (.ref a1), (.ref a1)])
  refine Go.st (fun _ k => XS.aloadN X7.here hx rfl (hb hby dtx_669) rfl rfl k) ?_
  show Go p e below _ T7 (mkF m 670 #[.val (.int (Int32.ofNat 12)), .val (.ref a)] [(.ref a), (.int (5 : Int32)), (.ref a2), (.ref a2), (.ref a1), (.ref a1)])
  refine Go.st (fun _ k => XS.iconst X7.here hx rfl (hb hby dtx_670) k) ?_
  show Go p e below _ T7 (mkF m 671 #[.val (.int (Int32.ofNat 12)), .val (.ref a)] [(.int (5 : Int32)), (.ref a), (.int (5 : Int32)), (.ref a2), (.ref a2), (.ref a1), (.ref a1)])
  refine Go.caload X7 hx hZ e7 A_a7 (i := 5) (x := c5) rfl rfl (g := (mkF m 671 #[.val (.int (Int32.ofNat 12)), .val (.ref a)] [(.int (5 : Int32)), (.ref a), (.int (5 : Int32)), (.ref a2), (.ref a2), (.ref a1), (.ref a1)])) rfl rfl (hb hby dtx_671) ?_
  show Go p e below _ T7 (mkF m 672 #[.val (.int (Int32.ofNat 12)), .val (.ref a)] [(.int c5), (.int (5 : Int32)), (.ref a2), (.ref a2), (.ref a1), (.ref a1)])
  refine Go.castore X7 hx hZ e7 A7 (i := 5) rfl (by simp) (g := (mkF m 672 #[.val (.int (Int32.ofNat 12)), .val (.ref a)] [(.int c5), (.int (5 : Int32)), (.ref a2), (.ref a2), (.ref a1), (.ref a1)])) rfl rfl (hb hby dtx_672) ?_
  rintro T8 h8 X8 e8 W8 A8
  have sW8 := W8.size
  show Go p e below _ T8 (mkF m 673 #[.val (.int (Int32.ofNat 12)), .val (.ref a)] [(.ref a2), (.ref a1), (.ref a1)])
  have A_a8 := A_a7.other W8 na
  refine Go.st (fun _ k => XS.dup X8.here hx rfl (hb hby dtx_673) rfl rfl k) ?_
  show Go p e below _ T8 (mkF m 674 #[.val (.int (Int32.ofNat 12)), .val (.ref a)] [(.ref a2), (.ref a2), (.ref a1), (.ref a1)])
  refine Go.st (fun _ k => XS.bipush X8.here hx rfl (hb hby dtx_674) k) ?_
  show Go p e below _ T8 (mkF m 676 #[.val (.int (Int32.ofNat 12)), .val (.ref a)] [(.int (6 : Int32)), (.ref a2), (.ref a2), (.ref a1), (.ref a1)])
  refine Go.st (fun _ k => XS.aloadN X8.here hx rfl (hb hby dtx_676) rfl rfl k) ?_
  show Go p e below _ T8 (mkF m 677 #[.val (.int (Int32.ofNat 12)), .val (.ref a)] [(.ref a), (.int (6 : Int32)), (.ref a2), (.ref a2), (.ref a1), (.ref a1)])
  refine Go.st (fun _ k => XS.bipush X8.here hx rfl (hb hby dtx_677) k) ?_
  show Go p e below _ T8 (mkF m 679 #[.val (.int (Int32.ofNat 12)), .val (.ref a)] [(.int (6 : Int32)), (.ref a), (.int (6 : Int32)), (.ref a2), (.ref a2), (.ref a1), (.ref a1)])
  refine Go.caload X8 hx hZ e8 A_a8 (i := 6) (x := c6) rfl rfl (g := (mkF m 679 #[.val (.int (Int32.ofNat 12)), .val (.ref a)] [(.int (6 : Int32)), (.ref a), (.int (6 : Int32)), (.ref a2), (.ref a2), (.ref a1), (.ref a1)])) rfl rfl (hb hby dtx_679) ?_
  show Go p e below _ T8 (mkF m 680 #[.val (.int (Int32.ofNat 12)), .val (.ref a)] [(.int c6), (.int (6 : Int32)), (.ref a2), (.ref a2), (.ref a1), (.ref a1)])
  refine Go.castore X8 hx hZ e8 A8 (i := 6) rfl (by simp) (g := (mkF m 680 #[.val (.int (Int32.ofNat 12)), .val (.ref a)] [(.int c6), (.int (6 : Int32)), (.ref a2), (.ref a2), (.ref a1), (.ref a1)])) rfl rfl (hb hby dtx_680) ?_
  rintro T9 h9 X9 e9 W9 A9
  have sW9 := W9.size
  show Go p e below _ T9 (mkF m 681 #[.val (.int (Int32.ofNat 12)), .val (.ref a)] [(.ref a2), (.ref a1), (.ref a1)])
  have A_a9 := A_a8.other W9 na
  refine Go.st (fun _ k => XS.dup X9.here hx rfl (hb hby dtx_681) rfl rfl k) ?_
  show Go p e below _ T9 (mkF m 682 #[.val (.int (Int32.ofNat 12)), .val (.ref a)] [(.ref a2), (.ref a2), (.ref a1), (.ref a1)])
  refine Go.st (fun _ k => XS.bipush X9.here hx rfl (hb hby dtx_682) k) ?_
  show Go p e below _ T9 (mkF m 684 #[.val (.int (Int32.ofNat 12)), .val (.ref a)] [(.int (7 : Int32)), (.ref a2), (.ref a2), (.ref a1), (.ref a1)])
  refine Go.st (fun _ k => XS.aloadN X9.here hx rfl (hb hby dtx_684) rfl rfl k) ?_
  show Go p e below _ T9 (mkF m 685 #[.val (.int (Int32.ofNat 12)), .val (.ref a)] [(.ref a), (.int (7 : Int32)), (.ref a2), (.ref a2), (.ref a1), (.ref a1)])
  refine Go.st (fun _ k => XS.bipush X9.here hx rfl (hb hby dtx_685) k) ?_
  show Go p e below _ T9 (mkF m 687 #[.val (.int (Int32.ofNat 12)), .val (.ref a)] [(.int (7 : Int32)), (.ref a), (.int (7 : Int32)), (.ref a2), (.ref a2), (.ref a1), (.ref a1)])
  refine Go.caload X9 hx hZ e9 A_a9 (i := 7) (x := c7) rfl rfl (g := (mkF m 687 #[.val (.int (Int32.ofNat 12)), .val (.ref a)] [(.int (7 : Int32)), (.ref a), (.int (7 : Int32)), (.ref a2), (.ref a2), (.ref a1), (.ref a1)])) rfl rfl (hb hby dtx_687) ?_
  show Go p e below _ T9 (mkF m 688 #[.val (.int (Int32.ofNat 12)), .val (.ref a)] [(.int c7), (.int (7 : Int32)), (.ref a2), (.ref a2), (.ref a1), (.ref a1)])
  refine Go.castore X9 hx hZ e9 A9 (i := 7) rfl (by simp) (g := (mkF m 688 #[.val (.int (Int32.ofNat 12)), .val (.ref a)] [(.int c7), (.int (7 : Int32)), (.ref a2), (.ref a2), (.ref a1), (.ref a1)])) rfl rfl (hb hby dtx_688) ?_
  rintro T10 h10 X10 e10 W10 A10
  have sW10 := W10.size
  show Go p e below _ T10 (mkF m 689 #[.val (.int (Int32.ofNat 12)), .val (.ref a)] [(.ref a2), (.ref a1), (.ref a1)])
  have A_a10 := A_a9.other W10 na
  refine Go.st (fun _ k => XS.dup X10.here hx rfl (hb hby dtx_689) rfl rfl k) ?_
  show Go p e below _ T10 (mkF m 690 #[.val (.int (Int32.ofNat 12)), .val (.ref a)] [(.ref a2), (.ref a2), (.ref a1), (.ref a1)])
  refine Go.st (fun _ k => XS.bipush X10.here hx rfl (hb hby dtx_690) k) ?_
  show Go p e below _ T10 (mkF m 692 #[.val (.int (Int32.ofNat 12)), .val (.ref a)] [(.int (8 : Int32)), (.ref a2), (.ref a2), (.ref a1), (.ref a1)])
  refine Go.st (fun _ k => XS.aloadN X10.here hx rfl (hb hby dtx_692) rfl rfl k) ?_
  show Go p e below _ T10 (mkF m 693 #[.val (.int (Int32.ofNat 12)), .val (.ref a)] [(.ref a), (.int (8 : Int32)), (.ref a2), (.ref a2), (.ref a1), (.ref a1)])
  refine Go.st (fun _ k => XS.bipush X10.here hx rfl (hb hby dtx_693) k) ?_
  show Go p e below _ T10 (mkF m 695 #[.val (.int (Int32.ofNat 12)), .val (.ref a)] [(.int (8 : Int32)), (.ref a), (.int (8 : Int32)), (.ref a2), (.ref a2), (.ref a1), (.ref a1)])
  refine Go.caload X10 hx hZ e10 A_a10 (i := 8) (x := c8) rfl rfl (g := (mkF m 695 #[.val (.int (Int32.ofNat 12)), .val (.ref a)] [(.int (8 : Int32)), (.ref a), (.int (8 : Int32)), (.ref a2), (.ref a2), (.ref a1), (.ref a1)])) rfl rfl (hb hby dtx_695) ?_
  show Go p e below _ T10 (mkF m 696 #[.val (.int (Int32.ofNat 12)), .val (.ref a)] [(.int c8), (.int (8 : Int32)), (.ref a2), (.ref a2), (.ref a1), (.ref a1)])
  refine Go.castore X10 hx hZ e10 A10 (i := 8) rfl (by simp) (g := (mkF m 696 #[.val (.int (Int32.ofNat 12)), .val (.ref a)] [(.int c8), (.int (8 : Int32)), (.ref a2), (.ref a2), (.ref a1), (.ref a1)])) rfl rfl (hb hby dtx_696) ?_
  rintro T11 h11 X11 e11 W11 A11
  have sW11 := W11.size
  show Go p e below _ T11 (mkF m 697 #[.val (.int (Int32.ofNat 12)), .val (.ref a)] [(.ref a2), (.ref a1), (.ref a1)])
  have A_a11 := A_a10.other W11 na
  refine Go.st (fun _ k => XS.dup X11.here hx rfl (hb hby dtx_697) rfl rfl k) ?_
  show Go p e below _ T11 (mkF m 698 #[.val (.int (Int32.ofNat 12)), .val (.ref a)] [(.ref a2), (.ref a2), (.ref a1), (.ref a1)])
  refine Go.st (fun _ k => XS.bipush X11.here hx rfl (hb hby dtx_698) k) ?_
  show Go p e below _ T11 (mkF m 700 #[.val (.int (Int32.ofNat 12)), .val (.ref a)] [(.int (9 : Int32)), (.ref a2), (.ref a2), (.ref a1), (.ref a1)])
  refine Go.st (fun _ k => XS.aloadN X11.here hx rfl (hb hby dtx_700) rfl rfl k) ?_
  show Go p e below _ T11 (mkF m 701 #[.val (.int (Int32.ofNat 12)), .val (.ref a)] [(.ref a), (.int (9 : Int32)), (.ref a2), (.ref a2), (.ref a1), (.ref a1)])
  refine Go.st (fun _ k => XS.bipush X11.here hx rfl (hb hby dtx_701) k) ?_
  show Go p e below _ T11 (mkF m 703 #[.val (.int (Int32.ofNat 12)), .val (.ref a)] [(.int (9 : Int32)), (.ref a), (.int (9 : Int32)), (.ref a2), (.ref a2), (.ref a1), (.ref a1)])
  refine Go.caload X11 hx hZ e11 A_a11 (i := 9) (x := c9) rfl rfl (g := (mkF m 703 #[.val (.int (Int32.ofNat 12)), .val (.ref a)] [(.int (9 : Int32)), (.ref a), (.int (9 : Int32)), (.ref a2), (.ref a2), (.ref a1), (.ref a1)])) rfl rfl (hb hby dtx_703) ?_
  show Go p e below _ T11 (mkF m 704 #[.val (.int (Int32.ofNat 12)), .val (.ref a)] [(.int c9), (.int (9 : Int32)), (.ref a2), (.ref a2), (.ref a1), (.ref a1)])
  refine Go.castore X11 hx hZ e11 A11 (i := 9) rfl (by simp) (g := (mkF m 704 #[.val (.int (Int32.ofNat 12)), .val (.ref a)] [(.int c9), (.int (9 : Int32)), (.ref a2), (.ref a2), (.ref a1), (.ref a1)])) rfl rfl (hb hby dtx_704) ?_
  rintro T12 h12 X12 e12 W12 A12
  have sW12 := W12.size
  show Go p e below _ T12 (mkF m 705 #[.val (.int (Int32.ofNat 12)), .val (.ref a)] [(.ref a2), (.ref a1), (.ref a1)])
  have A_a12 := A_a11.other W12 na
  refine Go.st (fun _ k => XS.dup X12.here hx rfl (hb hby dtx_705) rfl rfl k) ?_
  show Go p e below _ T12 (mkF m 706 #[.val (.int (Int32.ofNat 12)), .val (.ref a)] [(.ref a2), (.ref a2), (.ref a1), (.ref a1)])
  refine Go.st (fun _ k => XS.bipush X12.here hx rfl (hb hby dtx_706) k) ?_
  show Go p e below _ T12 (mkF m 708 #[.val (.int (Int32.ofNat 12)), .val (.ref a)] [(.int (10 : Int32)), (.ref a2), (.ref a2), (.ref a1), (.ref a1)])
  refine Go.st (fun _ k => XS.aloadN X12.here hx rfl (hb hby dtx_708) rfl rfl k) ?_
  show Go p e below _ T12 (mkF m 709 #[.val (.int (Int32.ofNat 12)), .val (.ref a)] [(.ref a), (.int (10 : Int32)), (.ref a2), (.ref a2), (.ref a1), (.ref a1)])
  refine Go.st (fun _ k => XS.bipush X12.here hx rfl (hb hby dtx_709) k) ?_
  show Go p e below _ T12 (mkF m 711 #[.val (.int (Int32.ofNat 12)), .val (.ref a)] [(.int (10 : Int32)), (.ref a), (.int (10 : Int32)), (.ref a2), (.ref a2), (.ref a1), (.ref a1)])
  refine Go.caload X12 hx hZ e12 A_a12 (i := 10) (x := c10) rfl rfl (g := (mkF m 711 #[.val (.int (Int32.ofNat 12)), .val (.ref a)] [(.int (10 : Int32)), (.ref a), (.int (10 : Int32)), (.ref a2), (.ref a2), (.ref a1), (.ref a1)])) rfl rfl (hb hby dtx_711) ?_
  show Go p e below _ T12 (mkF m 712 #[.val (.int (Int32.ofNat 12)), .val (.ref a)] [(.int c10), (.int (10 : Int32)), (.ref a2), (.ref a2), (.ref a1), (.ref a1)])
  refine Go.castore X12 hx hZ e12 A12 (i := 10) rfl (by simp) (g := (mkF m 712 #[.val (.int (Int32.ofNat 12)), .val (.ref a)] [(.int c10), (.int (10 : Int32)), (.ref a2), (.ref a2), (.ref a1), (.ref a1)])) rfl rfl (hb hby dtx_712) ?_
  rintro T13 h13 X13 e13 W13 A13
  have sW13 := W13.size
  show Go p e below _ T13 (mkF m 713 #[.val (.int (Int32.ofNat 12)), .val (.ref a)] [(.ref a2), (.ref a1), (.ref a1)])
  have A_a13 := A_a12.other W13 na
  refine Go.st (fun _ k => XS.dup X13.here hx rfl (hb hby dtx_713) rfl rfl k) ?_
  show Go p e below _ T13 (mkF m 714 #[.val (.int (Int32.ofNat 12)), .val (.ref a)] [(.ref a2), (.ref a2), (.ref a1), (.ref a1)])
  refine Go.st (fun _ k => XS.bipush X13.here hx rfl (hb hby dtx_714) k) ?_
  show Go p e below _ T13 (mkF m 716 #[.val (.int (Int32.ofNat 12)), .val (.ref a)] [(.int (11 : Int32)), (.ref a2), (.ref a2), (.ref a1), (.ref a1)])
  refine Go.st (fun _ k => XS.aloadN X13.here hx rfl (hb hby dtx_716) rfl rfl k) ?_
  show Go p e below _ T13 (mkF m 717 #[.val (.int (Int32.ofNat 12)), .val (.ref a)] [(.ref a), (.int (11 : Int32)), (.ref a2), (.ref a2), (.ref a1), (.ref a1)])
  refine Go.st (fun _ k => XS.bipush X13.here hx rfl (hb hby dtx_717) k) ?_
  show Go p e below _ T13 (mkF m 719 #[.val (.int (Int32.ofNat 12)), .val (.ref a)] [(.int (11 : Int32)), (.ref a), (.int (11 : Int32)), (.ref a2), (.ref a2), (.ref a1), (.ref a1)])
  refine Go.caload X13 hx hZ e13 A_a13 (i := 11) (x := c11) rfl rfl (g := (mkF m 719 #[.val (.int (Int32.ofNat 12)), .val (.ref a)] [(.int (11 : Int32)), (.ref a), (.int (11 : Int32)), (.ref a2), (.ref a2), (.ref a1), (.ref a1)])) rfl rfl (hb hby dtx_719) ?_
  show Go p e below _ T13 (mkF m 720 #[.val (.int (Int32.ofNat 12)), .val (.ref a)] [(.int c11), (.int (11 : Int32)), (.ref a2), (.ref a2), (.ref a1), (.ref a1)])
  refine Go.castore X13 hx hZ e13 A13 (i := 11) rfl (by simp) (g := (mkF m 720 #[.val (.int (Int32.ofNat 12)), .val (.ref a)] [(.int c11), (.int (11 : Int32)), (.ref a2), (.ref a2), (.ref a1), (.ref a1)])) rfl rfl (hb hby dtx_720) ?_
  rintro T14 h14 X14 e14 W14 A14
  have sW14 := W14.size
  show Go p e below _ T14 (mkF m 721 #[.val (.int (Int32.ofNat 12)), .val (.ref a)] [(.ref a2), (.ref a1), (.ref a1)])
  have A_a14 := A_a13.other W14 na
  have n12 : a1 ≠ a2 := Nat.ne_of_lt (by omega)
  have Ac : AI Z h14 a2 .char ([c0, c1, c2, c3, c4, c5, c6, c7, c8, c9, c10, c11] : List Int32) := by
    have q : AI Z h14 a2 .char [nar .char c0, nar .char c1, nar .char c2, nar .char c3, nar .char c4, nar .char c5, nar .char c6, nar .char c7, nar .char c8, nar .char c9, nar .char c10, nar .char c11] := A14
    rwa [e_0, e_1, e_2, e_3, e_4, e_5, e_6, e_7, e_8, e_9, e_10, e_11] at q
  have hp : ∀ c ∈ ([c0, c1, c2, c3, c4, c5, c6, c7, c8, c9, c10, c11] : List Int32), ¬ c < 0 ∧ ¬ (65535 : Int32) < c := fun c hc => hbd c (List.mem_of_mem_take (i := 12) hc)
  have Ok : Old Z n0 h14 := ((((((((((((((X00.ext E1).ext E2).wr W3 (by omega)).wr W4 (by omega)).wr W5 (by omega)).wr W6 (by omega)).wr W7 (by omega)).wr W8 (by omega)).wr W9 (by omega)).wr W10 (by omega)).wr W11 (by omega)).wr W12 (by omega)).wr W13 (by omega)).wr W14 (by omega))
  have Kk : Keep h0 h14 [] := (((((((((((((((Keep.refl h0 []).ext E1).ext E2).wr W3 (Or.inr (by omega))).wr W4 (Or.inr (by omega))).wr W5 (Or.inr (by omega))).wr W6 (Or.inr (by omega))).wr W7 (Or.inr (by omega))).wr W8 (Or.inr (by omega))).wr W9 (Or.inr (by omega))).wr W10 (Or.inr (by omega))).wr W11 (Or.inr (by omega))).wr W12 (Or.inr (by omega))).wr W13 (Or.inr (by omega))).wr W14 (Or.inr (by omega)))
  have Nk := (Fr.snoc X14 (Fr.snoc X13 (Fr.snoc X12 (Fr.snoc X11 (Fr.snoc X10 (Fr.snoc X9 (Fr.snoc X8 (Fr.snoc X7 (Fr.snoc X6 (Fr.snoc X5 (Fr.snoc X4 (Fr.snoc X3 (Fr.nil n0) (by omega)) (by omega)) (by omega)) (by omega)) (by omega)) (by omega)) (by omega)) (by omega)) (by omega)) (by omega)) (by omega)) (by omega))
  refine Go.callI X14 hx (y := (⟨"java/lang/String", "<init>", "([C)V"⟩ : MethodName)) rfl hown (mvT hZ (hw _ (List.mem_of_getElem? (i := 15) rfl))) (mvT hZ (hw _ (List.mem_of_getElem? (i := 16) rfl))) (mvT hZ (hw _ (List.mem_of_getElem? (i := 17) rfl))) (by decide) (Ctr.back (W := 1) (rmI1 l Z a0 hw z Su ([c0, c1, c2, c3, c4, c5, c6, c7, c8, c9, c10, c11] : List Int32) (by simp) (by simp) hp a1 a2 _ _ h14 n0 (by omega) (by omega) Ok (((((((((((((A1.ext E2).wr W3).wr W4).wr W5).wr W6).wr W7).wr W8).wr W9).wr W10).wr W11).wr W12).wr W13).wr W14) ((((((((((((((D1 (Or.inr (hw _ (List.mem_of_getElem? (i := 27) rfl))) (ty := (.array .byte)) (by decide)).ext E2).other W3 (Or.inl n12)).other W4 (Or.inl n12)).other W5 (Or.inl n12)).other W6 (Or.inl n12)).other W7 (Or.inl n12)).other W8 (Or.inl n12)).other W9 (Or.inl n12)).other W10 (Or.inl n12)).other W11 (Or.inl n12)).other W12 (Or.inl n12)).other W13 (Or.inl n12)).other W14 (Or.inl n12)) ((((((((((((((D1 (Or.inr (hw _ (List.mem_of_getElem? (i := 28) rfl))) (ty := .byte) (by decide)).ext E2).other W3 (Or.inl n12)).other W4 (Or.inl n12)).other W5 (Or.inl n12)).other W6 (Or.inl n12)).other W7 (Or.inl n12)).other W8 (Or.inl n12)).other W9 (Or.inl n12)).other W10 (Or.inl n12)).other W11 (Or.inl n12)).other W12 (Or.inl n12)).other W13 (Or.inl n12)).other W14 (Or.inl n12)) Ac) hZ (hw _ (List.mem_of_getElem? (i := 17) rfl)) (hw _ (List.mem_of_getElem? (i := 14) rfl)) (by (try dsimp only [room_1]); (try simp only [List.length_cons, List.length_nil]); omega) (by (try dsimp only [room_1]); (try simp only [List.length_cons, List.length_nil]); omega)) e14 (g := (mkF m 721 #[.val (.int (Int32.ofNat 12)), .val (.ref a)] [(.ref a2), (.ref a1), (.ref a1)])) rfl (by rw [hml]; rfl) (a := a1) (argsL := [(.ref a2)]) (rest := [(.ref a1)]) (lenOf pd_19 rfl) rfl (by show 2 * 0 + _ ≤ _; exact Nat.le_of_eq rfl) (hb hby dtx_721) rfl (by (try dsimp only [room_1]); (try simp only [List.length_cons, List.length_nil]); omega) (by (try dsimp only [room_1]); (try simp only [List.length_cons, List.length_nil]); omega) ?_
  rintro _ T99 L99 X99 ⟨rfl, N99, K99, E99, G99, t, F99, B99, ht⟩
  show Go p e below _ T99 (mkF m 724 #[.val (.int (Int32.ofNat 12)), .val (.ref a)] [(.ref a1)])
  have K09 : Keep h0 T99.heap [] := Kk.trans K99 (fun x q => Or.inr (by cases List.mem_singleton.mp q; omega))
  exact Go.retVW X99 hx (Bas.refl s 0) (Nat.zero_le _) hC0 (UX K09) hret hlk rfl rfl (hb hby dtx_724) ⟨a1, t, rfl, Fr.app Nk N99, K09, E99, G99, F99, B99⟩ (by (try dsimp only [room_1]); (try simp only [List.length_cons, List.length_nil]); omega) (by (try dsimp only [room_1]); (try simp only [List.length_cons, List.length_nil]); omega)
theorem own_fb_of_all : ∀ cs : List Int32, (∀ c ∈ cs, ¬ (255 : Int32) < c) → own_fb cs = cs.length
  | [], _ => rfl
  | c :: cs, h => by
    rw [own_fb_cons, if_neg (h c (by simp)), own_fb_of_all cs (fun d hd => h d (by simp [hd])), List.length_cons]
theorem own_small {c : Int32} (h1 : ¬ c < 0) (n : Nat) (hn : n < 2147483648) (h2 : ¬ Int32.ofNat n < c) : ∃ k : Nat, k ≤ n ∧ c = Int32.ofNat k := by
  rw [Int32.lt_iff_toInt_lt] at h1 h2
  rw [own_toInt hn] at h2
  have e2 : (0 : Int32).toInt = 0 := rfl
  refine ⟨c.toInt.toNat, by omega, ?_⟩
  apply Int32.toInt_inj.mp
  rw [own_toInt (by omega)]; omega
theorem own_and255_id {c : Int32} (h1 : ¬ c < 0) (h2 : ¬ (255 : Int32) < c) : c &&& 255 = c := by
  obtain ⟨k, hk, rfl⟩ := own_small h1 255 (by decide) h2
  have : ∀ k : Fin 256, Int32.ofNat k.val &&& 255 = Int32.ofNat k.val := by decide +kernel
  exact this ⟨k, by omega⟩
theorem own_lo_id {c : Int32} (h1 : ¬ c < 0) (h2 : ¬ (127 : Int32) < c) : own_lo c = c := by
  obtain ⟨k, hk, rfl⟩ := own_small h1 127 (by decide) h2
  have : ∀ k : Fin 128, own_lo (Int32.ofNat k.val) = Int32.ofNat k.val := by decide +kernel
  exact this ⟨k, by omega⟩
theorem own_lt127 {c : Int32} (h : ¬ (127 : Int32) < c) : ¬ (255 : Int32) < c := fun q => h (by rw [Int32.lt_iff_toInt_lt] at q ⊢; have e1 : (127 : Int32).toInt = 127 := rfl; have e2 : (255 : Int32).toInt = 255 := rfl; omega)
theorem own_map_lo : ∀ (ds lits : List Int32), (∀ c ∈ ds, ¬ c < 0 ∧ ¬ (255 : Int32) < c) → (∀ c ∈ lits, ¬ c < 0 ∧ ¬ (127 : Int32) < c) → ds.map own_lo = lits → ds = lits
  | [], lits, _, _, h => by simpa using h
  | d :: ds, [], _, _, h => by simp at h
  | d :: ds, x :: lits, h1, h2, h => by
    simp only [List.map_cons, List.cons.injEq] at h
    have a1 := h1 d (by simp)
    have a2 := h2 x (by simp)
    have e : d = x := by
      have q := own_mask d
      have q2 : d.toInt8.toInt32 = x := h.1
      rw [q2, own_and255_id a2.1 (own_lt127 a2.2), own_and255_id a1.1 a1.2] at q
      exact q.symm
    rw [e, own_map_lo ds lits (fun c hc => h1 c (by simp [hc])) (fun c hc => h2 c (by simp [hc])) h.2]
theorem own_is_lit {ds lits : List Int32} (h1 : ∀ c ∈ ds, ¬ c < 0 ∧ ¬ (65535 : Int32) < c) (h2 : ∀ c ∈ lits, ¬ c < 0 ∧ ¬ (127 : Int32) < c) : (own_cod ds = 0 ∧ own_val ds = lits) ↔ ds = lits := by
  constructor
  · rintro ⟨q1, q2⟩
    have f : own_fb ds = ds.length := Classical.byContradiction fun z => by unfold own_cod at q1; rw [if_neg z] at q1; exact absurd q1 (by decide)
    unfold own_val at q2
    rw [if_pos f] at q2
    exact own_map_lo ds lits (fun c hc => ⟨(h1 c hc).1, own_fb_all ds f c hc⟩) h2 q2
  · rintro rfl
    have f : own_fb ds = ds.length := own_fb_of_all ds (fun c hc => own_lt127 (h2 c hc).2)
    refine ⟨by unfold own_cod; rw [if_pos f], ?_⟩
    unfold own_val; rw [if_pos f]
    have : ∀ (L : List Int32), (∀ c ∈ L, own_lo c = c) → L.map own_lo = L := by
      intro L hL
      induction L with
      | nil => rfl
      | cons y L ih => rw [List.map_cons, hL y (by simp), ih (fun c hc => hL c (by simp [hc]))]
    exact this ds (fun c hc => own_lo_id (h2 c hc).1 (h2 c hc).2)
theorem own_modN (x d : Int32) (hd : 0 < d.toInt) : ∃ k : Nat, (k : Int) < d.toInt ∧ (x &&& (2147483647 : Int32)) % d = Int32.ofNat k := by
  have h1 : ¬ (x &&& (2147483647 : Int32)) < 0 := fun q => absurd ((XT.and_neg32 _ _).mp q).2 (by decide)
  have h2 : ((x &&& (2147483647 : Int32)) % d).toInt = (x &&& (2147483647 : Int32)).toInt.tmod d.toInt := Int32.toInt_mod ..
  generalize (x &&& (2147483647 : Int32)) = y at h1 h2 ⊢
  rw [XT.negI32] at h1
  rw [Int.tmod_eq_emod_of_nonneg (by omega)] at h2
  have a1 := Int.emod_nonneg y.toInt (b := d.toInt) (by omega)
  have a2 := Int.emod_lt_of_pos y.toInt hd
  have a3 := d.toInt_lt
  refine ⟨(y.toInt % d.toInt).toNat, by omega, ?_⟩
  apply Int32.toInt_inj.mp
  rw [own_toInt (by omega), h2]; omega
theorem own_lit {us us0 : Array UInt16} {text : String} (h : utf16ToString? us = some text) (h0 : utf16ToString? us0 = some text) (ht : ∀ c ∈ text.toList, c.toNat < 256) : own_bytes us = own_bytes us0 := by rw [own_units_inj h h0 ht]
theorem own_shr1 {n : Nat} (hn : n < 100000) : Int32.ofNat (2 * n) >>> ((1 : Int32) &&& 31) = Int32.ofNat n := by
  have e : ((1 : Int32) &&& 31) = 1 := by decide
  rw [e]
  apply Int32.toBitVec_inj.mp
  have e1 : (Int32.ofNat (2 * n) >>> (1 : Int32)).toBitVec = (BitVec.ofNat 32 (2 * n)).sshiftRight 1 := rfl
  have hm : (BitVec.ofNat 32 (2 * n)).msb = false := by rw [BitVec.msb_eq_false_iff_two_mul_lt]; simp; omega
  rw [e1, BitVec.sshiftRight_eq_of_msb_false hm]
  apply BitVec.eq_of_toNat_eq
  show ((BitVec.ofNat 32 (2 * n)) >>> 1).toNat = (BitVec.ofNat 32 n).toNat
  rw [BitVec.toNat_ushiftRight, Nat.shiftRight_eq_div_pow]
  simp
  omega
theorem own_shr0 (x : Int32) : x >>> ((0 : Int32) &&& 31) = x := by
  have e : ((0 : Int32) &&& 31) = 0 := by decide
  rw [e]; simp
def own_step (v : Int64) (c : Int32) : Int64 := if v < 0 then v else if c < 48 ∨ 57 < c then -1 else v * 10 + (c - 48).toInt64
def own_go (mx : Int64) : List Int32 → Int64 → Option Int64
  | [], v => some v
  | c :: cs, v => if c < 48 ∨ 57 < c then none else if mx < v * 10 + (c - 48).toInt64 then none else own_go mx cs (v * 10 + (c - 48).toInt64)
theorem own_step_neg {v : Int64} (h : v < 0) : ∀ L : List Int32, L.foldl own_step v = v
  | [] => rfl
  | c :: L => by
    have e : own_step v c = v := by unfold own_step; rw [if_pos h]
    rw [List.foldl_cons, e, own_step_neg h L]
theorem own_dval {v : Int64} {c : Int32} (hv : 0 ≤ v.toInt) (hb : v.toInt ≤ 100000000000000) (hc : ¬ (c < 48 ∨ 57 < c)) : (v * 10 + (c - 48).toInt64).toInt = v.toInt * 10 + (c.toInt - 48) ∧ 0 ≤ c.toInt - 48 ∧ c.toInt - 48 ≤ 9 := by
  have h1 : ¬ c < 48 := fun q => hc (Or.inl q)
  have h2 : ¬ 57 < c := fun q => hc (Or.inr q)
  rw [Int32.lt_iff_toInt_lt] at h1 h2
  have e1 : (48 : Int32).toInt = 48 := rfl
  have e2 : (57 : Int32).toInt = 57 := rfl
  have e3 : (10 : Int64).toInt = 10 := rfl
  have q1 : (c - 48).toInt = c.toInt - 48 := by rw [Int32.toInt_sub, e1, Int.bmod_eq_of_le (by omega) (by omega)]
  have q2 : ((c - 48).toInt64).toInt = c.toInt - 48 := by rw [Int32.toInt_toInt64, q1]
  have q3 : (v * 10).toInt = v.toInt * 10 := by rw [Int64.toInt_mul, e3, Int.bmod_eq_of_le (by omega) (by omega)]
  refine ⟨?_, by omega, by omega⟩
  rw [Int64.toInt_add, q3, q2, Int.bmod_eq_of_le (by omega) (by omega)]
theorem own_go_main (mx : Int64) : ∀ (L : List Int32) (v : Int64), 0 ≤ v.toInt → (v.toInt + 1) * 10 ^ L.length ≤ 10000000000000 →
    ((L.foldl own_step v) < 0 ∧ own_go mx L v = none) ∨ (v.toInt ≤ (L.foldl own_step v).toInt ∧ (L.foldl own_step v).toInt < 10000000000000 ∧ own_go mx L v = if L ≠ [] ∧ mx < L.foldl own_step v then none else some (L.foldl own_step v))
  | [], v, hv, hb => Or.inr ⟨Int.le_refl _, by simp at hb ⊢; omega, by simp [own_go]⟩
  | c :: L, v, hv, hb => by
    have nv : ¬ v < 0 := by rw [Int64.lt_iff_toInt_lt]; have : (0 : Int64).toInt = 0 := rfl; omega
    by_cases hc : c < 48 ∨ 57 < c
    · have e : own_step v c = -1 := by unfold own_step; rw [if_neg nv, if_pos hc]
      refine Or.inl ⟨?_, by unfold own_go; rw [if_pos hc]⟩
      rw [List.foldl_cons, e, own_step_neg (by decide)]; decide
    · have e : own_step v c = v * 10 + (c - 48).toInt64 := by unfold own_step; rw [if_neg nv, if_neg hc]
      have hp : (10 : Int) ^ (c :: L).length = 10 ^ L.length * 10 := by rw [List.length_cons, Int.pow_succ]
      have p1 : (1 : Int) ≤ 10 ^ L.length := Int.pow_pos (by decide)
      rw [hp] at hb
      have hb1 : (v.toInt + 1) * 10 ≤ 10000000000000 := by
        have : (v.toInt + 1) * 10 * 1 ≤ (v.toInt + 1) * 10 * 10 ^ L.length := Int.mul_le_mul_of_nonneg_left p1 (by omega)
        have e9 : (v.toInt + 1) * (10 ^ L.length * 10) = (v.toInt + 1) * 10 * 10 ^ L.length := by rw [Int.mul_assoc, Int.mul_comm (10 ^ L.length) 10]
        omega
      obtain ⟨d1, d2, d3⟩ := own_dval hv (by omega) hc
      generalize hw : v * 10 + (c - 48).toInt64 = w at e d1
      have ih := own_go_main mx L w (by omega) (by
        have : (w.toInt + 1) * 10 ^ L.length ≤ ((v.toInt + 1) * 10) * 10 ^ L.length := Int.mul_le_mul_of_nonneg_right (by omega) (by omega)
        have e9 : (v.toInt + 1) * (10 ^ L.length * 10) = (v.toInt + 1) * 10 * 10 ^ L.length := by rw [Int.mul_assoc, Int.mul_comm (10 ^ L.length) 10]
        omega)
      rw [List.foldl_cons, e]
      have eg : own_go mx (c :: L) v = if mx < w then none else own_go mx L w := by
        show (if c < 48 ∨ 57 < c then none else if mx < v * 10 + (c - 48).toInt64 then none else own_go mx L (v * 10 + (c - 48).toInt64)) = _
        rw [if_neg hc, hw]
      rcases ih with ⟨i1, i2⟩ | ⟨i1, i3, i2⟩
      · refine Or.inl ⟨i1, ?_⟩
        rw [eg, i2]; split <;> rfl
      · refine Or.inr ⟨by omega, i3, ?_⟩
        rw [eg]
        by_cases q : mx < w
        · have q2 : mx < L.foldl own_step w := by rw [Int64.lt_iff_toInt_lt] at q ⊢; omega
          rw [if_pos q, if_pos ⟨by simp, q2⟩]
        · rw [if_neg q, i2]
          by_cases q3 : L = []
          · subst q3
            simp [q]
          · simp [q3]
theorem die_0 : decode jdk_42_method_55_code 0 = .ok (.aload_n 0, 1) := by decide +kernel
theorem die_1 : decode jdk_42_method_55_code 1 = .ok (.getfield 9, 3) := by decide +kernel
theorem die_4 : decode jdk_42_method_55_code 4 = .ok (.arraylength, 1) := by decide +kernel
theorem die_5 : decode jdk_42_method_55_code 5 = .ok (.ifCond .ne 7, 3) := by decide +kernel
theorem die_8 : decode jdk_42_method_55_code 8 = .ok (.iconst 1, 1) := by decide +kernel
theorem die_9 : decode jdk_42_method_55_code 9 = .ok (.goto 4, 3) := by decide +kernel
theorem die_12 : decode jdk_42_method_55_code 12 = .ok (.iconst 0, 1) := by decide +kernel
theorem die_13 : decode jdk_42_method_55_code 13 = .ok (.ireturn, 1) := by decide +kernel
set_option maxRecDepth 65536 in
set_option maxHeartbeats 40000000 in
theorem rmIE (l : Launch) (Z : State) (a0 : Array Value) (hw : ∀ d ∈ tables_1, d.before a0 Z = true) (a t : Addr) (bs : List Int32) (h0 : Heap) (n0 : Nat) (V : Fld Z h0 a "java/lang/String" "value" "[B" (.ref t)) (B : AI Z h0 t .byte bs) :
    Ctr l Z (⟨"java/lang/String", "isEmpty", "()Z"⟩ : MethodName) jdk_42_method_55_code 1 (some .boolean) [] ({ frames := 0, cells := 0, slots := 0, locals := 0 } : Room) #[(.ref a)] h0 (QP (if bs = [] then 1 else 0) h0 n0) := by
  refine Ctr.of (plainFor_of_name pn_15) ?_
  intro p e s m below meth c s₁ hx hby hml hown hnm hret hlk hZ X0 e0
  refine Go.cast (ef_21 m a) ?_
  show Go p e below _ s₁ (mkF m 0 #[.val (.ref a)] [])
  refine Go.st (fun _ k => XS.aloadN X0.here hx rfl (hb hby die_0) rfl rfl k) ?_
  show Go p e below _ s₁ (mkF m 1 #[.val (.ref a)] [(.ref a)])
  obtain ⟨T1, X1, e1, st1⟩ := getF X0 hx hZ hown (host := "") (Or.inl (hw _ (List.mem_of_getElem? (i := 31) rfl))) Via.refl e0 V (g := (mkF m 1 #[.val (.ref a)] [(.ref a)])) rfl rfl (hb hby die_1)
  refine Go.st st1 ?_
  show Go p e below _ T1 (mkF m 4 #[.val (.ref a)] [(.ref t)])
  refine Go.alen X1 hx hZ e1 B (g := (mkF m 4 #[.val (.ref a)] [(.ref t)])) rfl rfl (hb hby die_4) ?_
  show Go p e below _ T1 (mkF m 5 #[.val (.ref a)] [(.int (Int32.ofNat bs.length))])
  have hlb := B.1
  have hz : Int32.ofNat bs.length = 0 ↔ bs = [] := by
    rw [← List.length_eq_zero_iff]
    refine ⟨fun z' => ?_, fun z' => by rw [z']; rfl⟩
    have q := congrArg Int32.toInt z'
    rw [own_toInt hlb] at q
    have q2 : ((0 : Int32)).toInt = 0 := rfl
    omega
  by_cases q : bs = []
  · skip
    refine Go.st (fun _ k => XS.ifNo X1.here hx rfl (hb hby die_5) rfl (XT.i0_ne_f (hz.mpr q)) k) ?_
    show Go p e below _ T1 (mkF m 8 #[.val (.ref a)] [])
    refine Go.st (fun _ k => XS.iconst X1.here hx rfl (hb hby die_8) k) ?_
    show Go p e below _ T1 (mkF m 9 #[.val (.ref a)] [(.int (1 : Int32))])
    refine Go.st (fun _ k => XS.goto X1.here hx rfl (pc0 := 9) (pc' := 13) rfl (hb hby die_9) (by decide) (by decide) k) ?_
    show Go p e below _ T1 (mkF m 13 #[.val (.ref a)] [(.int (1 : Int32))])
    exact Go.retB X1 hx hret hlk (Or.inl rfl) (hb hby die_13) ⟨by simp [nar, q], Fr.nil n0, e1⟩ (Nat.le_refl _) (Nat.le_refl _)
  · skip
    refine Go.st (fun _ k => XS.ifYes X1.here hx rfl (pc0 := 5) (pc' := 12) rfl (hb hby die_5) rfl (XT.i0_ne_t (fun z' => q (hz.mp z'))) (by decide) (by decide) k) ?_
    show Go p e below _ T1 (mkF m 12 #[.val (.ref a)] [])
    refine Go.st (fun _ k => XS.iconst X1.here hx rfl (hb hby die_12) k) ?_
    show Go p e below _ T1 (mkF m 13 #[.val (.ref a)] [(.int (0 : Int32))])
    exact Go.retB X1 hx hret hlk (Or.inl rfl) (hb hby die_13) ⟨by simp [nar, q], Fr.nil n0, e1⟩ (Nat.le_refl _) (Nat.le_refl _)
def QN (h0 : Heap) (n0 : Nat) (v : Option Value) (h : Heap) (L : List Loc) : Prop := v = none ∧ Fr n0 L ∧ h = h0
theorem dco_0 : decode jdk_42_method_152_code 0 = .ok (.getstatic 38, 3) := by decide +kernel
theorem dco_3 : decode jdk_42_method_152_code 3 = .ok (.ifCond .eq 10, 3) := by decide +kernel
theorem dco_6 : decode jdk_42_method_152_code 6 = .ok (.aload_n 0, 1) := by decide +kernel
theorem dco_7 : decode jdk_42_method_152_code 7 = .ok (.getfield 15, 3) := by decide +kernel
theorem dco_10 : decode jdk_42_method_152_code 10 = .ok (.goto 4, 3) := by decide +kernel
theorem dco_14 : decode jdk_42_method_152_code 14 = .ok (.ireturn, 1) := by decide +kernel
set_option maxRecDepth 65536 in
set_option maxHeartbeats 40000000 in
theorem rmCO (l : Launch) (Z : State) (a0 : Array Value) (hw : ∀ d ∈ tables_1, d.before a0 Z = true) (z : Int32) (SC : Sta Z Z.heap "java/lang/String" "COMPACT_STRINGS" "Z" (.int z)) (nC : ¬ z = 0) (a : Addr) (ds : List Int32) (h0 : Heap) (n0 : Nat) (O : Ext Z.heap h0) (Cd : Fld Z h0 a "java/lang/String" "coder" "B" (.int (own_cod ds))) :
    Ctr l Z (⟨"java/lang/String", "coder", "()B"⟩ : MethodName) jdk_42_method_152_code 1 (some .byte) [] ({ frames := 0, cells := 0, slots := 0, locals := 0 } : Room) #[(.ref a)] h0 (QP (own_cod ds) h0 n0) := by
  refine Ctr.of (plainFor_of_name pn_15) ?_
  intro p e s m below meth c s₁ hx hby hml hown hnm hret hlk hZ X0 e0
  refine Go.cast (ef_21 m a) ?_
  show Go p e below _ s₁ (mkF m 0 #[.val (.ref a)] [])
  obtain ⟨T1, X1, e1, st1⟩ := getS2 X0 hx hZ hown (host := "") (Or.inl (hw _ (List.mem_of_getElem? (i := 58) rfl))) Via.refl e0 (SC.ext O) (g := (mkF m 0 #[.val (.ref a)] [])) rfl (hb hby dco_0)
  refine Go.st st1 ?_
  show Go p e below _ T1 (mkF m 3 #[.val (.ref a)] [(.int z)])
  refine Go.st (fun _ k => XS.ifNo X1.here hx rfl (hb hby dco_3) rfl (XT.i0_eq_f nC) k) ?_
  show Go p e below _ T1 (mkF m 6 #[.val (.ref a)] [])
  refine Go.st (fun _ k => XS.aloadN X1.here hx rfl (hb hby dco_6) rfl rfl k) ?_
  show Go p e below _ T1 (mkF m 7 #[.val (.ref a)] [(.ref a)])
  obtain ⟨T2, X2, e2, st2⟩ := getF X1 hx hZ hown (host := "") (Or.inl (hw _ (List.mem_of_getElem? (i := 32) rfl))) Via.refl e1 Cd (g := (mkF m 7 #[.val (.ref a)] [(.ref a)])) rfl rfl (hb hby dco_7)
  refine Go.st st2 ?_
  show Go p e below _ T2 (mkF m 10 #[.val (.ref a)] [(.int (own_cod ds))])
  refine Go.st (fun _ k => XS.goto X2.here hx rfl (pc0 := 10) (pc' := 14) rfl (hb hby dco_10) (by decide) (by decide) k) ?_
  show Go p e below _ T2 (mkF m 14 #[.val (.ref a)] [(.int (own_cod ds))])
  exact Go.retB X2 hx hret hlk (Or.inr (Or.inl rfl)) (hb hby dco_14) ⟨by unfold own_cod; split <;> rfl, Fr.nil n0, e2⟩ (by (try dsimp only [room_1]); (try simp only [List.length_cons, List.length_nil]); omega) (by (try dsimp only [room_1]); (try simp only [List.length_cons, List.length_nil]); omega)
theorem dln_0 : decode jdk_42_method_54_code 0 = .ok (.aload_n 0, 1) := by decide +kernel
theorem dln_1 : decode jdk_42_method_54_code 1 = .ok (.getfield 9, 3) := by decide +kernel
theorem dln_4 : decode jdk_42_method_54_code 4 = .ok (.arraylength, 1) := by decide +kernel
theorem dln_5 : decode jdk_42_method_54_code 5 = .ok (.aload_n 0, 1) := by decide +kernel
theorem dln_6 : decode jdk_42_method_54_code 6 = .ok (.invokevirtual 335, 3) := by decide +kernel
theorem dln_9 : decode jdk_42_method_54_code 9 = .ok (.ishr, 1) := by decide +kernel
theorem dln_10 : decode jdk_42_method_54_code 10 = .ok (.ireturn, 1) := by decide +kernel
set_option maxRecDepth 65536 in
set_option maxHeartbeats 40000000 in
theorem rmLN (l : Launch) (Z : State) (a0 : Array Value) (hw : ∀ d ∈ tables_1, d.before a0 Z = true) (z : Int32) (SC : Sta Z Z.heap "java/lang/String" "COMPACT_STRINGS" "Z" (.int z)) (nC : ¬ z = 0) (a t : Addr) (ds : List Int32) (h0 : Heap) (n0 : Nat) (O : Ext Z.heap h0) (hn : ds.length ≤ 4000) (E : Exa Z h0 a "java/lang/String") (Cd : Fld Z h0 a "java/lang/String" "coder" "B" (.int (own_cod ds))) (V : Fld Z h0 a "java/lang/String" "value" "[B" (.ref t)) (B : AI Z h0 t .byte (own_val ds)) :
    Ctr l Z (⟨"java/lang/String", "length", "()I"⟩ : MethodName) jdk_42_method_54_code 1 (some .int) [] ({ frames := 1, cells := 0, slots := 0, locals := 13 } : Room) #[(.ref a)] h0 (QP (Int32.ofNat ds.length) h0 n0) := by
  refine Ctr.of (plainFor_of_name pn_15) ?_
  intro p e s m below meth c s₁ hx hby hml hown hnm hret hlk hZ X0 e0
  refine Go.cast (ef_21 m a) ?_
  show Go p e below _ s₁ (mkF m 0 #[.val (.ref a)] [])
  refine Go.st (fun _ k => XS.aloadN X0.here hx rfl (hb hby dln_0) rfl rfl k) ?_
  show Go p e below _ s₁ (mkF m 1 #[.val (.ref a)] [(.ref a)])
  obtain ⟨T1, X1, e1, st1⟩ := getF X0 hx hZ hown (host := "") (Or.inl (hw _ (List.mem_of_getElem? (i := 31) rfl))) Via.refl e0 V (g := (mkF m 1 #[.val (.ref a)] [(.ref a)])) rfl rfl (hb hby dln_1)
  refine Go.st st1 ?_
  show Go p e below _ T1 (mkF m 4 #[.val (.ref a)] [(.ref t)])
  refine Go.alen X1 hx hZ e1 B (g := (mkF m 4 #[.val (.ref a)] [(.ref t)])) rfl rfl (hb hby dln_4) ?_
  show Go p e below _ T1 (mkF m 5 #[.val (.ref a)] [(.int (Int32.ofNat (own_val ds).length))])
  refine Go.st (fun _ k => XS.aloadN X1.here hx rfl (hb hby dln_5) rfl rfl k) ?_
  show Go p e below _ T1 (mkF m 6 #[.val (.ref a)] [(.ref a), (.int (Int32.ofNat (own_val ds).length))])
  refine Go.callV X1 hx hZ (C := "java/lang/String") (y := (⟨"java/lang/String", "coder", "()B"⟩ : MethodName)) (z := (⟨"java/lang/String", "coder", "()B"⟩ : MethodName)) hown (mvT hZ (hw _ (List.mem_of_getElem? (i := 75) rfl))) (mvT hZ (hw _ (List.mem_of_getElem? (i := 76) rfl))) (mvT hZ (hw _ (List.mem_of_getElem? (i := 78) rfl))) (mvT hZ (hw _ (List.mem_of_getElem? (i := 77) rfl))) (by decide) (notFace_of_selects (args := #[]) (mvT hZ (hw _ (List.mem_of_getElem? (i := 78) rfl)))) (Ctr.back (W := 1) (rmCO l Z a0 hw z SC nC a ds h0 n0 O Cd) hZ (hw _ (List.mem_of_getElem? (i := 79) rfl)) (hw _ (List.mem_of_getElem? (i := 14) rfl)) (by (try dsimp only [room_1]); (try simp only [List.length_cons, List.length_nil]); omega) (by (try dsimp only [room_1]); (try simp only [List.length_cons, List.length_nil]); omega)) e1 E (g := (mkF m 6 #[.val (.ref a)] [(.ref a), (.int (Int32.ofNat (own_val ds).length))])) rfl (by rw [hml]; rfl) (argsL := []) (rest := [(.int (Int32.ofNat (own_val ds).length))]) (lenOf pd_22 rfl) rfl (by show 2 * 0 + _ ≤ _; exact Nat.le_of_eq rfl) (hb hby dln_6) rfl (by (try dsimp only [room_1]); (try simp only [List.length_cons, List.length_nil]); omega) (by (try dsimp only [room_1]); (try simp only [List.length_cons, List.length_nil]); omega) ?_
  rintro _ T2 L2 X2 ⟨rfl, N2, e2⟩
  show Go p e below _ T2 (mkF m 9 #[.val (.ref a)] [(.int (own_cod ds)), (.int (Int32.ofNat (own_val ds).length))])
  refine Go.st (fun _ k => XT.ishr X2.here hx rfl (hb hby dln_9) rfl k) ?_
  show Go p e below _ T2 (mkF m 10 #[.val (.ref a)] [(.int ((Int32.ofNat (own_val ds).length) >>> ((own_cod ds) &&& 31)))])
  have hlen : Int32.ofNat (own_val ds).length >>> (own_cod ds &&& 31) = Int32.ofNat ds.length := by
    rw [own_val_len]; unfold own_cod; split
    · exact own_shr0 _
    · exact own_shr1 (by omega)
  rw [hlen]
  exact Go.retI X2 hx hret hlk (hb hby dln_10) ⟨rfl, Fr.app (Fr.nil n0) N2, e2⟩ (by (try dsimp only [room_1]); (try simp only [List.length_cons, List.length_nil]); omega) (by (try dsimp only [room_1]); (try simp only [List.length_cons, List.length_nil]); omega)
theorem dil_0 : decode jdk_42_method_154_code 0 = .ok (.getstatic 38, 3) := by decide +kernel
theorem dil_3 : decode jdk_42_method_154_code 3 = .ok (.ifCond .eq 14, 3) := by decide +kernel
theorem dil_6 : decode jdk_42_method_154_code 6 = .ok (.aload_n 0, 1) := by decide +kernel
theorem dil_7 : decode jdk_42_method_154_code 7 = .ok (.getfield 15, 3) := by decide +kernel
theorem dil_10 : decode jdk_42_method_154_code 10 = .ok (.ifCond .ne 7, 3) := by decide +kernel
theorem dil_13 : decode jdk_42_method_154_code 13 = .ok (.iconst 1, 1) := by decide +kernel
theorem dil_14 : decode jdk_42_method_154_code 14 = .ok (.goto 4, 3) := by decide +kernel
theorem dil_17 : decode jdk_42_method_154_code 17 = .ok (.iconst 0, 1) := by decide +kernel
theorem dil_18 : decode jdk_42_method_154_code 18 = .ok (.ireturn, 1) := by decide +kernel
set_option maxRecDepth 65536 in
set_option maxHeartbeats 40000000 in
theorem rmIL (l : Launch) (Z : State) (a0 : Array Value) (hw : ∀ d ∈ tables_1, d.before a0 Z = true) (z : Int32) (SC : Sta Z Z.heap "java/lang/String" "COMPACT_STRINGS" "Z" (.int z)) (nC : ¬ z = 0) (a : Addr) (ds : List Int32) (h0 : Heap) (n0 : Nat) (O : Ext Z.heap h0) (Cd : Fld Z h0 a "java/lang/String" "coder" "B" (.int (own_cod ds))) :
    Ctr l Z (⟨"java/lang/String", "isLatin1", "()Z"⟩ : MethodName) jdk_42_method_154_code 1 (some .boolean) [] ({ frames := 0, cells := 0, slots := 0, locals := 0 } : Room) #[(.ref a)] h0 (QP (if own_cod ds = 0 then 1 else 0) h0 n0) := by
  refine Ctr.of (plainFor_of_name pn_15) ?_
  intro p e s m below meth c s₁ hx hby hml hown hnm hret hlk hZ X0 e0
  refine Go.cast (ef_21 m a) ?_
  show Go p e below _ s₁ (mkF m 0 #[.val (.ref a)] [])
  obtain ⟨T1, X1, e1, st1⟩ := getS2 X0 hx hZ hown (host := "") (Or.inl (hw _ (List.mem_of_getElem? (i := 58) rfl))) Via.refl e0 (SC.ext O) (g := (mkF m 0 #[.val (.ref a)] [])) rfl (hb hby dil_0)
  refine Go.st st1 ?_
  show Go p e below _ T1 (mkF m 3 #[.val (.ref a)] [(.int z)])
  refine Go.st (fun _ k => XS.ifNo X1.here hx rfl (hb hby dil_3) rfl (XT.i0_eq_f nC) k) ?_
  show Go p e below _ T1 (mkF m 6 #[.val (.ref a)] [])
  refine Go.st (fun _ k => XS.aloadN X1.here hx rfl (hb hby dil_6) rfl rfl k) ?_
  show Go p e below _ T1 (mkF m 7 #[.val (.ref a)] [(.ref a)])
  obtain ⟨T2, X2, e2, st2⟩ := getF X1 hx hZ hown (host := "") (Or.inl (hw _ (List.mem_of_getElem? (i := 32) rfl))) Via.refl e1 Cd (g := (mkF m 7 #[.val (.ref a)] [(.ref a)])) rfl rfl (hb hby dil_7)
  refine Go.st st2 ?_
  show Go p e below _ T2 (mkF m 10 #[.val (.ref a)] [(.int (own_cod ds))])
  by_cases q : own_cod ds = 0
  · skip
    refine Go.st (fun _ k => XS.ifNo X2.here hx rfl (hb hby dil_10) rfl (XT.i0_ne_f q) k) ?_
    show Go p e below _ T2 (mkF m 13 #[.val (.ref a)] [])
    refine Go.st (fun _ k => XS.iconst X2.here hx rfl (hb hby dil_13) k) ?_
    show Go p e below _ T2 (mkF m 14 #[.val (.ref a)] [(.int (1 : Int32))])
    refine Go.st (fun _ k => XS.goto X2.here hx rfl (pc0 := 14) (pc' := 18) rfl (hb hby dil_14) (by decide) (by decide) k) ?_
    show Go p e below _ T2 (mkF m 18 #[.val (.ref a)] [(.int (1 : Int32))])
    exact Go.retB X2 hx hret hlk (Or.inl rfl) (hb hby dil_18) ⟨by rw [if_pos q]; rfl, Fr.nil n0, e2⟩ (by (try dsimp only [room_1]); (try simp only [List.length_cons, List.length_nil]); omega) (by (try dsimp only [room_1]); (try simp only [List.length_cons, List.length_nil]); omega)
  · skip
    refine Go.st (fun _ k => XS.ifYes X2.here hx rfl (pc0 := 10) (pc' := 17) rfl (hb hby dil_10) rfl (XT.i0_ne_t q) (by decide) (by decide) k) ?_
    show Go p e below _ T2 (mkF m 17 #[.val (.ref a)] [])
    refine Go.st (fun _ k => XS.iconst X2.here hx rfl (hb hby dil_17) k) ?_
    show Go p e below _ T2 (mkF m 18 #[.val (.ref a)] [(.int (0 : Int32))])
    exact Go.retB X2 hx hret hlk (Or.inl rfl) (hb hby dil_18) ⟨by rw [if_neg q]; rfl, Fr.nil n0, e2⟩ (by (try dsimp only [room_1]); (try simp only [List.length_cons, List.length_nil]); omega) (by (try dsimp only [room_1]); (try simp only [List.length_cons, List.length_nil]); omega)
theorem dpi_0 : decode jdk_41_method_11_code 0 = .ok (.iload_n 0, 1) := by decide +kernel
theorem dpi_1 : decode jdk_41_method_11_code 1 = .ok (.ifCond .lt 8, 3) := by decide +kernel
theorem dpi_4 : decode jdk_41_method_11_code 4 = .ok (.iload_n 0, 1) := by decide +kernel
theorem dpi_5 : decode jdk_41_method_11_code 5 = .ok (.iload_n 1, 1) := by decide +kernel
theorem dpi_6 : decode jdk_41_method_11_code 6 = .ok (.if_icmp .lt 10, 3) := by decide +kernel
theorem dpi_16 : decode jdk_41_method_11_code 16 = .ok (.iload_n 0, 1) := by decide +kernel
theorem dpi_17 : decode jdk_41_method_11_code 17 = .ok (.ireturn, 1) := by decide +kernel
set_option maxRecDepth 65536 in
set_option maxHeartbeats 40000000 in
theorem rmPI (l : Launch) (Z : State) (a0 : Array Value) (hw : ∀ d ∈ tables_1, d.before a0 Z = true) (i n : Nat) (f : Value) (hf : f.isRef = true) (hi : i < n) (hn : n < 2147483648) (h0 : Heap) (n0 : Nat) :
    Ctr l Z (⟨"jdk/internal/util/Preconditions", "checkIndex", "(IILjava/util/function/BiFunction;)I"⟩ : MethodName) jdk_41_method_11_code 3 (some .int) [] ({ frames := 0, cells := 0, slots := 0, locals := 0 } : Room) #[(.int (Int32.ofNat i)), (.int (Int32.ofNat n)), f] h0 (QP (Int32.ofNat i) h0 n0) := by
  refine Ctr.of (plainFor_of_name pn_24) ?_
  intro p e s m below meth c s₁ hx hby hml hown hnm hret hlk hZ X0 e0
  refine Go.cast (ef_23 m (Int32.ofNat i) (Int32.ofNat n) f hf) ?_
  show Go p e below _ s₁ (mkF m 0 #[.val (.int (Int32.ofNat i)), .val (.int (Int32.ofNat n)), .val f] [])
  refine Go.st (fun _ k => XS.iloadN X0.here hx rfl (hb hby dpi_0) rfl k) ?_
  show Go p e below _ s₁ (mkF m 1 #[.val (.int (Int32.ofNat i)), .val (.int (Int32.ofNat n)), .val f] [(.int (Int32.ofNat i))])
  refine Go.st (fun _ k => XS.ifNo X0.here hx rfl (hb hby dpi_1) rfl (XT.i0_lt_f (own_ofNat_nn (by omega))) k) ?_
  show Go p e below _ s₁ (mkF m 4 #[.val (.int (Int32.ofNat i)), .val (.int (Int32.ofNat n)), .val f] [])
  refine Go.st (fun _ k => XS.iloadN X0.here hx rfl (hb hby dpi_4) rfl k) ?_
  show Go p e below _ s₁ (mkF m 5 #[.val (.int (Int32.ofNat i)), .val (.int (Int32.ofNat n)), .val f] [(.int (Int32.ofNat i))])
  refine Go.st (fun _ k => XS.iloadN X0.here hx rfl (hb hby dpi_5) rfl k) ?_
  show Go p e below _ s₁ (mkF m 6 #[.val (.int (Int32.ofNat i)), .val (.int (Int32.ofNat n)), .val f] [(.int (Int32.ofNat n)), (.int (Int32.ofNat i))])
  refine Go.st (fun _ k => XS.icmpYes X0.here hx rfl (pc0 := 6) (pc' := 16) rfl (hb hby dpi_6) rfl (XT.ii_lt_t (own_ofNat_lt hi hn)) (by decide) (by decide) k) ?_
  show Go p e below _ s₁ (mkF m 16 #[.val (.int (Int32.ofNat i)), .val (.int (Int32.ofNat n)), .val f] [])
  refine Go.st (fun _ k => XS.iloadN X0.here hx rfl (hb hby dpi_16) rfl k) ?_
  show Go p e below _ s₁ (mkF m 17 #[.val (.int (Int32.ofNat i)), .val (.int (Int32.ofNat n)), .val f] [(.int (Int32.ofNat i))])
  exact Go.retI X0 hx hret hlk (hb hby dpi_17) ⟨rfl, Fr.nil n0, e0⟩ (by (try dsimp only [room_1]); (try simp only [List.length_cons, List.length_nil]); omega) (by (try dsimp only [room_1]); (try simp only [List.length_cons, List.length_nil]); omega)
theorem dci_0 : decode jdk_42_method_155_code 0 = .ok (.iload_n 0, 1) := by decide +kernel
theorem dci_1 : decode jdk_42_method_155_code 1 = .ok (.iload_n 1, 1) := by decide +kernel
theorem dci_2 : decode jdk_42_method_155_code 2 = .ok (.getstatic 1053, 3) := by decide +kernel
theorem dci_5 : decode jdk_42_method_155_code 5 = .ok (.invokestatic 1059, 3) := by decide +kernel
theorem dci_8 : decode jdk_42_method_155_code 8 = .ok (.pop, 1) := by decide +kernel
theorem dci_9 : decode jdk_42_method_155_code 9 = .ok (.return_, 1) := by decide +kernel
set_option maxRecDepth 65536 in
set_option maxHeartbeats 40000000 in
theorem rmCI (l : Launch) (Z : State) (a0 : Array Value) (hw : ∀ d ∈ tables_1, d.before a0 Z = true) (f : Value) (hf : f.isRef = true) (SF : Sta Z Z.heap "jdk/internal/util/Preconditions" "SIOOBE_FORMATTER" "Ljava/util/function/BiFunction;" f) (i n : Nat) (hi : i < n) (hn : n < 2147483648) (h0 : Heap) (n0 : Nat) (O : Ext Z.heap h0) :
    Ctr l Z (⟨"java/lang/String", "checkIndex", "(II)V"⟩ : MethodName) jdk_42_method_155_code 2 none [] ({ frames := 1, cells := 0, slots := 0, locals := 14 } : Room) #[(.int (Int32.ofNat i)), (.int (Int32.ofNat n))] h0 (QN h0 n0) := by
  refine Ctr.of (plainFor_of_name pn_15) ?_
  intro p e s m below meth c s₁ hx hby hml hown hnm hret hlk hZ X0 e0
  refine Go.cast (ef_25 m (Int32.ofNat i) (Int32.ofNat n)) ?_
  show Go p e below _ s₁ (mkF m 0 #[.val (.int (Int32.ofNat i)), .val (.int (Int32.ofNat n))] [])
  refine Go.st (fun _ k => XS.iloadN X0.here hx rfl (hb hby dci_0) rfl k) ?_
  show Go p e below _ s₁ (mkF m 1 #[.val (.int (Int32.ofNat i)), .val (.int (Int32.ofNat n))] [(.int (Int32.ofNat i))])
  refine Go.st (fun _ k => XS.iloadN X0.here hx rfl (hb hby dci_1) rfl k) ?_
  show Go p e below _ s₁ (mkF m 2 #[.val (.int (Int32.ofNat i)), .val (.int (Int32.ofNat n))] [(.int (Int32.ofNat n)), (.int (Int32.ofNat i))])
  obtain ⟨T1, X1, e1, st1⟩ := getS2 X0 hx hZ hown (host := "") (Or.inl (hw _ (List.mem_of_getElem? (i := 97) rfl))) Via.refl e0 (SF.ext O) (g := (mkF m 2 #[.val (.int (Int32.ofNat i)), .val (.int (Int32.ofNat n))] [(.int (Int32.ofNat n)), (.int (Int32.ofNat i))])) rfl (hb hby dci_2)
  refine Go.st st1 ?_
  show Go p e below _ T1 (mkF m 5 #[.val (.int (Int32.ofNat i)), .val (.int (Int32.ofNat n))] [f, (.int (Int32.ofNat n)), (.int (Int32.ofNat i))])
  refine Go.callS X1 hx (y := (⟨"jdk/internal/util/Preconditions", "checkIndex", "(IILjava/util/function/BiFunction;)I"⟩ : MethodName)) hown (mvT hZ (hw _ (List.mem_of_getElem? (i := 99) rfl))) (mvT hZ (hw _ (List.mem_of_getElem? (i := 100) rfl))) (mvT hZ (hw _ (List.mem_of_getElem? (i := 98) rfl))) (mvT hZ (hw _ (List.mem_of_getElem? (i := 101) rfl))) (by decide) (Ctr.back (W := 0) (rmPI l Z a0 hw i n f hf hi hn h0 n0) hZ (hw _ (List.mem_of_getElem? (i := 101) rfl)) (hw _ (List.mem_of_getElem? (i := 98) rfl)) (by (try dsimp only [room_1]); (try simp only [List.length_cons, List.length_nil]); omega) (by (try dsimp only [room_1]); (try simp only [List.length_cons, List.length_nil]); omega)) e1 (g := (mkF m 5 #[.val (.int (Int32.ofNat i)), .val (.int (Int32.ofNat n))] [f, (.int (Int32.ofNat n)), (.int (Int32.ofNat i))])) rfl (by rw [hml]; rfl) (argsL := [(.int (Int32.ofNat i)), (.int (Int32.ofNat n)), f]) (rest := []) (lenOf pd_26 rfl) rfl (by show 2 * 0 + _ ≤ _; exact Nat.le_of_eq rfl) (hb hby dci_5) rfl (by (try dsimp only [room_1]); (try simp only [List.length_cons, List.length_nil]); omega) (by (try dsimp only [room_1]); (try simp only [List.length_cons, List.length_nil]); omega) ?_
  rintro _ T2 L2 X2 ⟨rfl, N2, e2⟩
  show Go p e below _ T2 (mkF m 8 #[.val (.int (Int32.ofNat i)), .val (.int (Int32.ofNat n))] [(.int (Int32.ofNat i))])
  refine Go.st (fun _ k => XT.pop X2.here hx rfl (hb hby dci_8) rfl rfl k) ?_
  show Go p e below _ T2 (mkF m 9 #[.val (.int (Int32.ofNat i)), .val (.int (Int32.ofNat n))] [])
  exact Go.ret0 X2 hx hret hlk (hb hby dci_9) ⟨rfl, Fr.app (Fr.nil n0) N2, e2⟩ (by (try dsimp only [room_1]); (try simp only [List.length_cons, List.length_nil]); omega) (by (try dsimp only [room_1]); (try simp only [List.length_cons, List.length_nil]); omega)
theorem dlc_0 : decode jdk_43_method_2_code 0 = .ok (.iload_n 1, 1) := by decide +kernel
theorem dlc_1 : decode jdk_43_method_2_code 1 = .ok (.aload_n 0, 1) := by decide +kernel
theorem dlc_2 : decode jdk_43_method_2_code 2 = .ok (.arraylength, 1) := by decide +kernel
theorem dlc_3 : decode jdk_43_method_2_code 3 = .ok (.invokestatic 9, 3) := by decide +kernel
theorem dlc_6 : decode jdk_43_method_2_code 6 = .ok (.aload_n 0, 1) := by decide +kernel
theorem dlc_7 : decode jdk_43_method_2_code 7 = .ok (.iload_n 1, 1) := by decide +kernel
theorem dlc_8 : decode jdk_43_method_2_code 8 = .ok (.baload, 1) := by decide +kernel
theorem dlc_9 : decode jdk_43_method_2_code 9 = .ok (.sipush 255, 3) := by decide +kernel
theorem dlc_12 : decode jdk_43_method_2_code 12 = .ok (.iand, 1) := by decide +kernel
theorem dlc_13 : decode jdk_43_method_2_code 13 = .ok (.i2c, 1) := by decide +kernel
theorem dlc_14 : decode jdk_43_method_2_code 14 = .ok (.ireturn, 1) := by decide +kernel
set_option maxRecDepth 65536 in
set_option maxHeartbeats 40000000 in
theorem rmLC (l : Launch) (Z : State) (a0 : Array Value) (hw : ∀ d ∈ tables_1, d.before a0 Z = true) (f : Value) (hf : f.isRef = true) (SF : Sta Z Z.heap "jdk/internal/util/Preconditions" "SIOOBE_FORMATTER" "Ljava/util/function/BiFunction;" f) (t : Addr) (ds : List Int32) (i : Nat) (x : Int32) (hn : ds.length ≤ 4000) (hxi : ds[i]? = some x) (h1 : ¬ x < 0) (h2 : ¬ (255 : Int32) < x) (h0 : Heap) (n0 : Nat) (O : Ext Z.heap h0) (B : AI Z h0 t .byte (ds.map own_lo)) :
    Ctr l Z (⟨"java/lang/StringLatin1", "charAt", "([BI)C"⟩ : MethodName) jdk_43_method_2_code 2 (some .char) [] ({ frames := 2, cells := 0, slots := 0, locals := 27 } : Room) #[(.ref t), (.int (Int32.ofNat i))] h0 (QP x h0 n0) := by
  refine Ctr.of (plainFor_of_name pn_28) ?_
  intro p e s m below meth c s₁ hx hby hml hown hnm hret hlk hZ X0 e0
  refine Go.cast (ef_7 m t (Int32.ofNat i)) ?_
  show Go p e below _ s₁ (mkF m 0 #[.val (.ref t), .val (.int (Int32.ofNat i))] [])
  refine Go.st (fun _ k => XS.iloadN X0.here hx rfl (hb hby dlc_0) rfl k) ?_
  show Go p e below _ s₁ (mkF m 1 #[.val (.ref t), .val (.int (Int32.ofNat i))] [(.int (Int32.ofNat i))])
  refine Go.st (fun _ k => XS.aloadN X0.here hx rfl (hb hby dlc_1) rfl rfl k) ?_
  show Go p e below _ s₁ (mkF m 2 #[.val (.ref t), .val (.int (Int32.ofNat i))] [(.ref t), (.int (Int32.ofNat i))])
  have hi := (List.getElem?_eq_some_iff.mp hxi).1
  refine Go.alen X0 hx hZ e0 B (g := (mkF m 2 #[.val (.ref t), .val (.int (Int32.ofNat i))] [(.ref t), (.int (Int32.ofNat i))])) rfl rfl (hb hby dlc_2) ?_
  show Go p e below _ s₁ (mkF m 3 #[.val (.ref t), .val (.int (Int32.ofNat i))] [(.int (Int32.ofNat (ds.map own_lo).length)), (.int (Int32.ofNat i))])
  have hm : (ds.map own_lo).length = ds.length := by simp
  rw [hm]
  show Go p e below _ s₁ (mkF m 3 #[.val (.ref t), .val (.int (Int32.ofNat i))] [(.int (Int32.ofNat ds.length)), (.int (Int32.ofNat i))])
  refine Go.callS X0 hx (y := (⟨"java/lang/String", "checkIndex", "(II)V"⟩ : MethodName)) hown (mvT hZ (hw _ (List.mem_of_getElem? (i := 94) rfl))) (mvT hZ (hw _ (List.mem_of_getElem? (i := 95) rfl))) (mvT hZ (hw _ (List.mem_of_getElem? (i := 14) rfl))) (mvT hZ (hw _ (List.mem_of_getElem? (i := 96) rfl))) (by decide) (Ctr.back (W := 0) (rmCI l Z a0 hw f hf SF i ds.length hi (by omega) h0 n0 O) hZ (hw _ (List.mem_of_getElem? (i := 96) rfl)) (hw _ (List.mem_of_getElem? (i := 14) rfl)) (by (try dsimp only [room_1]); (try simp only [List.length_cons, List.length_nil]); omega) (by (try dsimp only [room_1]); (try simp only [List.length_cons, List.length_nil]); omega)) e0 (g := (mkF m 3 #[.val (.ref t), .val (.int (Int32.ofNat i))] [(.int (Int32.ofNat ds.length)), (.int (Int32.ofNat i))])) rfl (by rw [hml]; rfl) (argsL := [(.int (Int32.ofNat i)), (.int (Int32.ofNat ds.length))]) (rest := []) (lenOf pd_27 rfl) rfl (by show 2 * 0 + _ ≤ _; exact Nat.le_of_eq rfl) (hb hby dlc_3) rfl (by (try dsimp only [room_1]); (try simp only [List.length_cons, List.length_nil]); omega) (by (try dsimp only [room_1]); (try simp only [List.length_cons, List.length_nil]); omega) ?_
  rintro _ T2 L2 X2 ⟨rfl, N2, e2⟩
  show Go p e below _ T2 (mkF m 6 #[.val (.ref t), .val (.int (Int32.ofNat i))] [])
  refine Go.st (fun _ k => XS.aloadN X2.here hx rfl (hb hby dlc_6) rfl rfl k) ?_
  show Go p e below _ T2 (mkF m 7 #[.val (.ref t), .val (.int (Int32.ofNat i))] [(.ref t)])
  refine Go.st (fun _ k => XS.iloadN X2.here hx rfl (hb hby dlc_7) rfl k) ?_
  show Go p e below _ T2 (mkF m 8 #[.val (.ref t), .val (.int (Int32.ofNat i))] [(.int (Int32.ofNat i)), (.ref t)])
  have hbi : (ds.map own_lo)[i]? = some (own_lo x) := by rw [List.getElem?_map, hxi]; rfl
  refine Go.baload X2 hx hZ e2 B (i := i) (x := (own_lo x)) rfl hbi (g := (mkF m 8 #[.val (.ref t), .val (.int (Int32.ofNat i))] [(.int (Int32.ofNat i)), (.ref t)])) rfl rfl (hb hby dlc_8) ?_
  show Go p e below _ T2 (mkF m 9 #[.val (.ref t), .val (.int (Int32.ofNat i))] [(.int (own_lo x))])
  refine Go.st (fun _ k => XS.sipush X2.here hx rfl (hb hby dlc_9) k) ?_
  show Go p e below _ T2 (mkF m 12 #[.val (.ref t), .val (.int (Int32.ofNat i))] [(.int (255 : Int32)), (.int (own_lo x))])
  refine Go.st (fun _ k => XS.iand X2.here hx rfl (hb hby dlc_12) rfl k) ?_
  show Go p e below _ T2 (mkF m 13 #[.val (.ref t), .val (.int (Int32.ofNat i))] [(.int ((own_lo x) &&& (255 : Int32)))])
  refine Go.st (fun _ k => XT.i2c X2.here hx rfl (hb hby dlc_13) rfl k) ?_
  show Go p e below _ T2 (mkF m 14 #[.val (.ref t), .val (.int (Int32.ofNat i))] [(.int (((own_lo x) &&& (255 : Int32)).toUInt32.toUInt16.toUInt32.toInt32))])
  have hm2 : own_lo x &&& (255 : Int32) = x := (own_mask x).trans (own_and255_id h1 h2)
  have h3 : ¬ (65535 : Int32) < x := fun q => h2 (by rw [Int32.lt_iff_toInt_lt] at q ⊢; have e1 : (65535 : Int32).toInt = 65535 := rfl; have e2 : (255 : Int32).toInt = 255 := rfl; omega)
  exact Go.retB X2 hx hret hlk (Or.inr (Or.inr (Or.inl rfl))) (hb hby dlc_14) ⟨by rw [hm2, own_char x h1 h3, own_nar_c ⟨h1, h3⟩], Fr.app (Fr.nil n0) N2, e2⟩ (by (try dsimp only [room_1]); (try simp only [List.length_cons, List.length_nil]); omega) (by (try dsimp only [room_1]); (try simp only [List.length_cons, List.length_nil]); omega)
theorem dul_0 : decode jdk_52_method_6_code 0 = .ok (.aload_n 0, 1) := by decide +kernel
theorem dul_1 : decode jdk_52_method_6_code 1 = .ok (.arraylength, 1) := by decide +kernel
theorem dul_2 : decode jdk_52_method_6_code 2 = .ok (.iconst 1, 1) := by decide +kernel
theorem dul_3 : decode jdk_52_method_6_code 3 = .ok (.ishr, 1) := by decide +kernel
theorem dul_4 : decode jdk_52_method_6_code 4 = .ok (.ireturn, 1) := by decide +kernel
set_option maxRecDepth 65536 in
set_option maxHeartbeats 40000000 in
theorem rmUL (l : Launch) (Z : State) (a0 : Array Value) (hw : ∀ d ∈ tables_1, d.before a0 Z = true) (t : Addr) (ds : List Int32) (hn : ds.length ≤ 4000) (h0 : Heap) (n0 : Nat) (B : AI Z h0 t .byte (own_u16 ds)) :
    Ctr l Z (⟨"java/lang/StringUTF16", "length", "([B)I"⟩ : MethodName) jdk_52_method_6_code 1 (some .int) [] ({ frames := 0, cells := 0, slots := 0, locals := 0 } : Room) #[(.ref t)] h0 (QP (Int32.ofNat ds.length) h0 n0) := by
  refine Ctr.of (plainFor_of_name pn_1) ?_
  intro p e s m below meth c s₁ hx hby hml hown hnm hret hlk hZ X0 e0
  refine Go.cast (ef_21 m t) ?_
  show Go p e below _ s₁ (mkF m 0 #[.val (.ref t)] [])
  refine Go.st (fun _ k => XS.aloadN X0.here hx rfl (hb hby dul_0) rfl rfl k) ?_
  show Go p e below _ s₁ (mkF m 1 #[.val (.ref t)] [(.ref t)])
  refine Go.alen X0 hx hZ e0 B (g := (mkF m 1 #[.val (.ref t)] [(.ref t)])) rfl rfl (hb hby dul_1) ?_
  show Go p e below _ s₁ (mkF m 2 #[.val (.ref t)] [(.int (Int32.ofNat (own_u16 ds).length))])
  refine Go.st (fun _ k => XS.iconst X0.here hx rfl (hb hby dul_2) k) ?_
  show Go p e below _ s₁ (mkF m 3 #[.val (.ref t)] [(.int (1 : Int32)), (.int (Int32.ofNat (own_u16 ds).length))])
  refine Go.st (fun _ k => XT.ishr X0.here hx rfl (hb hby dul_3) rfl k) ?_
  show Go p e below _ s₁ (mkF m 4 #[.val (.ref t)] [(.int ((Int32.ofNat (own_u16 ds).length) >>> ((1 : Int32) &&& 31)))])
  rw [own_u16_len, own_shr1 (by omega)]
  exact Go.retI X0 hx hret hlk (hb hby dul_4) ⟨rfl, Fr.nil n0, e0⟩ (by (try dsimp only [room_1]); (try simp only [List.length_cons, List.length_nil]); omega) (by (try dsimp only [room_1]); (try simp only [List.length_cons, List.length_nil]); omega)
theorem dui_0 : decode jdk_52_method_91_code 0 = .ok (.iload_n 0, 1) := by decide +kernel
theorem dui_1 : decode jdk_52_method_91_code 1 = .ok (.aload_n 1, 1) := by decide +kernel
theorem dui_2 : decode jdk_52_method_91_code 2 = .ok (.invokestatic 48, 3) := by decide +kernel
theorem dui_5 : decode jdk_52_method_91_code 5 = .ok (.invokestatic 414, 3) := by decide +kernel
theorem dui_8 : decode jdk_52_method_91_code 8 = .ok (.return_, 1) := by decide +kernel
set_option maxRecDepth 65536 in
set_option maxHeartbeats 40000000 in
theorem rmUI (l : Launch) (Z : State) (a0 : Array Value) (hw : ∀ d ∈ tables_1, d.before a0 Z = true) (f : Value) (hf : f.isRef = true) (SF : Sta Z Z.heap "jdk/internal/util/Preconditions" "SIOOBE_FORMATTER" "Ljava/util/function/BiFunction;" f) (t : Addr) (ds : List Int32) (i : Nat) (hn : ds.length ≤ 4000) (hi : i < ds.length) (h0 : Heap) (n0 : Nat) (O : Ext Z.heap h0) (B : AI Z h0 t .byte (own_u16 ds)) :
    Ctr l Z (⟨"java/lang/StringUTF16", "checkIndex", "(I[B)V"⟩ : MethodName) jdk_52_method_91_code 2 none [] ({ frames := 2, cells := 0, slots := 0, locals := 27 } : Room) #[(.int (Int32.ofNat i)), (.ref t)] h0 (QN h0 n0) := by
  refine Ctr.of (plainFor_of_name pn_1) ?_
  intro p e s m below meth c s₁ hx hby hml hown hnm hret hlk hZ X0 e0
  refine Go.cast (ef_18 m (Int32.ofNat i) t) ?_
  show Go p e below _ s₁ (mkF m 0 #[.val (.int (Int32.ofNat i)), .val (.ref t)] [])
  refine Go.st (fun _ k => XS.iloadN X0.here hx rfl (hb hby dui_0) rfl k) ?_
  show Go p e below _ s₁ (mkF m 1 #[.val (.int (Int32.ofNat i)), .val (.ref t)] [(.int (Int32.ofNat i))])
  refine Go.st (fun _ k => XS.aloadN X0.here hx rfl (hb hby dui_1) rfl rfl k) ?_
  show Go p e below _ s₁ (mkF m 2 #[.val (.int (Int32.ofNat i)), .val (.ref t)] [(.ref t), (.int (Int32.ofNat i))])
  refine Go.callS X0 hx (y := (⟨"java/lang/StringUTF16", "length", "([B)I"⟩ : MethodName)) hown (mvT hZ (hw _ (List.mem_of_getElem? (i := 128) rfl))) (mvT hZ (hw _ (List.mem_of_getElem? (i := 129) rfl))) (mvT hZ (hw _ (List.mem_of_getElem? (i := 61) rfl))) (mvT hZ (hw _ (List.mem_of_getElem? (i := 130) rfl))) (by decide) (Ctr.back (W := 1) (rmUL l Z a0 hw t ds hn h0 n0 B) hZ (hw _ (List.mem_of_getElem? (i := 130) rfl)) (hw _ (List.mem_of_getElem? (i := 61) rfl)) (by (try dsimp only [room_1]); (try simp only [List.length_cons, List.length_nil]); omega) (by (try dsimp only [room_1]); (try simp only [List.length_cons, List.length_nil]); omega)) e0 (g := (mkF m 2 #[.val (.int (Int32.ofNat i)), .val (.ref t)] [(.ref t), (.int (Int32.ofNat i))])) rfl (by rw [hml]; rfl) (argsL := [(.ref t)]) (rest := [(.int (Int32.ofNat i))]) (lenOf pd_29 rfl) rfl (by show 2 * 0 + _ ≤ _; exact Nat.le_of_eq rfl) (hb hby dui_2) rfl (by (try dsimp only [room_1]); (try simp only [List.length_cons, List.length_nil]); omega) (by (try dsimp only [room_1]); (try simp only [List.length_cons, List.length_nil]); omega) ?_
  rintro _ T1 L1 X1 ⟨rfl, N1, e1⟩
  show Go p e below _ T1 (mkF m 5 #[.val (.int (Int32.ofNat i)), .val (.ref t)] [(.int (Int32.ofNat ds.length)), (.int (Int32.ofNat i))])
  refine Go.callS X1 hx (y := (⟨"java/lang/String", "checkIndex", "(II)V"⟩ : MethodName)) hown (mvT hZ (hw _ (List.mem_of_getElem? (i := 131) rfl))) (mvT hZ (hw _ (List.mem_of_getElem? (i := 95) rfl))) (mvT hZ (hw _ (List.mem_of_getElem? (i := 14) rfl))) (mvT hZ (hw _ (List.mem_of_getElem? (i := 96) rfl))) (by decide) (Ctr.back (W := 0) (rmCI l Z a0 hw f hf SF i ds.length hi (by omega) h0 n0 O) hZ (hw _ (List.mem_of_getElem? (i := 96) rfl)) (hw _ (List.mem_of_getElem? (i := 14) rfl)) (by (try dsimp only [room_1]); (try simp only [List.length_cons, List.length_nil]); omega) (by (try dsimp only [room_1]); (try simp only [List.length_cons, List.length_nil]); omega)) e1 (g := (mkF m 5 #[.val (.int (Int32.ofNat i)), .val (.ref t)] [(.int (Int32.ofNat ds.length)), (.int (Int32.ofNat i))])) rfl (by rw [hml]; rfl) (argsL := [(.int (Int32.ofNat i)), (.int (Int32.ofNat ds.length))]) (rest := []) (lenOf pd_27 rfl) rfl (by show 2 * 0 + _ ≤ _; exact Nat.le_of_eq rfl) (hb hby dui_5) rfl (by (try dsimp only [room_1]); (try simp only [List.length_cons, List.length_nil]); omega) (by (try dsimp only [room_1]); (try simp only [List.length_cons, List.length_nil]); omega) ?_
  rintro _ T2 L2 X2 ⟨rfl, N2, e2⟩
  show Go p e below _ T2 (mkF m 8 #[.val (.int (Int32.ofNat i)), .val (.ref t)] [])
  exact Go.ret0 X2 hx hret hlk (hb hby dui_8) ⟨rfl, Fr.app (Fr.app (Fr.nil n0) N1) N2, e2⟩ (by (try dsimp only [room_1]); (try simp only [List.length_cons, List.length_nil]); omega) (by (try dsimp only [room_1]); (try simp only [List.length_cons, List.length_nil]); omega)
theorem duc_0 : decode jdk_52_method_83_code 0 = .ok (.iload_n 1, 1) := by decide +kernel
theorem duc_1 : decode jdk_52_method_83_code 1 = .ok (.aload_n 0, 1) := by decide +kernel
theorem duc_2 : decode jdk_52_method_83_code 2 = .ok (.invokestatic 67, 3) := by decide +kernel
theorem duc_5 : decode jdk_52_method_83_code 5 = .ok (.aload_n 0, 1) := by decide +kernel
theorem duc_6 : decode jdk_52_method_83_code 6 = .ok (.iload_n 1, 1) := by decide +kernel
theorem duc_7 : decode jdk_52_method_83_code 7 = .ok (.invokestatic 71, 3) := by decide +kernel
theorem duc_10 : decode jdk_52_method_83_code 10 = .ok (.ireturn, 1) := by decide +kernel
set_option maxRecDepth 65536 in
set_option maxHeartbeats 40000000 in
theorem rmUC (l : Launch) (Z : State) (a0 : Array Value) (hw : ∀ d ∈ tables_1, d.before a0 Z = true) (z : Int32) (Su : Su16 Z z) (f : Value) (hf : f.isRef = true) (SF : Sta Z Z.heap "jdk/internal/util/Preconditions" "SIOOBE_FORMATTER" "Ljava/util/function/BiFunction;" f) (t : Addr) (ds : List Int32) (i : Nat) (x : Int32) (hn : ds.length ≤ 4000) (hxi : ds[i]? = some x) (h1 : ¬ x < 0) (h2 : ¬ (65535 : Int32) < x) (h0 : Heap) (n0 : Nat) (O : Old Z n0 h0) (B : AI Z h0 t .byte (own_u16 ds)) :
    Ctr l Z (⟨"java/lang/StringUTF16", "charAt", "([BI)C"⟩ : MethodName) jdk_52_method_83_code 2 (some .char) [] ({ frames := 3, cells := 0, slots := 0, locals := 40 } : Room) #[(.ref t), (.int (Int32.ofNat i))] h0 (QP x h0 n0) := by
  refine Ctr.of (plainFor_of_name pn_1) ?_
  intro p e s m below meth c s₁ hx hby hml hown hnm hret hlk hZ X0 e0
  refine Go.cast (ef_7 m t (Int32.ofNat i)) ?_
  show Go p e below _ s₁ (mkF m 0 #[.val (.ref t), .val (.int (Int32.ofNat i))] [])
  refine Go.st (fun _ k => XS.iloadN X0.here hx rfl (hb hby duc_0) rfl k) ?_
  show Go p e below _ s₁ (mkF m 1 #[.val (.ref t), .val (.int (Int32.ofNat i))] [(.int (Int32.ofNat i))])
  refine Go.st (fun _ k => XS.aloadN X0.here hx rfl (hb hby duc_1) rfl rfl k) ?_
  show Go p e below _ s₁ (mkF m 2 #[.val (.ref t), .val (.int (Int32.ofNat i))] [(.ref t), (.int (Int32.ofNat i))])
  have hi := (List.getElem?_eq_some_iff.mp hxi).1
  refine Go.callS X0 hx (y := (⟨"java/lang/StringUTF16", "checkIndex", "(I[B)V"⟩ : MethodName)) hown (mvT hZ (hw _ (List.mem_of_getElem? (i := 125) rfl))) (mvT hZ (hw _ (List.mem_of_getElem? (i := 126) rfl))) (mvT hZ (hw _ (List.mem_of_getElem? (i := 61) rfl))) (mvT hZ (hw _ (List.mem_of_getElem? (i := 127) rfl))) (by decide) (Ctr.back (W := 0) (rmUI l Z a0 hw f hf SF t ds i hn hi h0 n0 O.2 B) hZ (hw _ (List.mem_of_getElem? (i := 127) rfl)) (hw _ (List.mem_of_getElem? (i := 61) rfl)) (by (try dsimp only [room_1]); (try simp only [List.length_cons, List.length_nil]); omega) (by (try dsimp only [room_1]); (try simp only [List.length_cons, List.length_nil]); omega)) e0 (g := (mkF m 2 #[.val (.ref t), .val (.int (Int32.ofNat i))] [(.ref t), (.int (Int32.ofNat i))])) rfl (by rw [hml]; rfl) (argsL := [(.int (Int32.ofNat i)), (.ref t)]) (rest := []) (lenOf pd_30 rfl) rfl (by show 2 * 0 + _ ≤ _; exact Nat.le_of_eq rfl) (hb hby duc_2) rfl (by (try dsimp only [room_1]); (try simp only [List.length_cons, List.length_nil]); omega) (by (try dsimp only [room_1]); (try simp only [List.length_cons, List.length_nil]); omega) ?_
  rintro _ T1 L1 X1 ⟨rfl, N1, e1⟩
  show Go p e below _ T1 (mkF m 5 #[.val (.ref t), .val (.int (Int32.ofNat i))] [])
  refine Go.st (fun _ k => XS.aloadN X1.here hx rfl (hb hby duc_5) rfl rfl k) ?_
  show Go p e below _ T1 (mkF m 6 #[.val (.ref t), .val (.int (Int32.ofNat i))] [(.ref t)])
  refine Go.st (fun _ k => XS.iloadN X1.here hx rfl (hb hby duc_6) rfl k) ?_
  show Go p e below _ T1 (mkF m 7 #[.val (.ref t), .val (.int (Int32.ofNat i))] [(.int (Int32.ofNat i)), (.ref t)])
  refine Go.callS X1 hx (y := (⟨"java/lang/StringUTF16", "getChar", "([BI)C"⟩ : MethodName)) hown (mvT hZ (hw _ (List.mem_of_getElem? (i := 119) rfl))) (mvT hZ (hw _ (List.mem_of_getElem? (i := 120) rfl))) (mvT hZ (hw _ (List.mem_of_getElem? (i := 61) rfl))) (mvT hZ (hw _ (List.mem_of_getElem? (i := 121) rfl))) (by decide) (Ctr.back (W := 0) (rmGC l Z a0 hw z Su ds t i x hn hxi h1 h2 h0 n0 O B) hZ (hw _ (List.mem_of_getElem? (i := 121) rfl)) (hw _ (List.mem_of_getElem? (i := 61) rfl)) (by (try dsimp only [room_1]); (try simp only [List.length_cons, List.length_nil]); omega) (by (try dsimp only [room_1]); (try simp only [List.length_cons, List.length_nil]); omega)) e1 (g := (mkF m 7 #[.val (.ref t), .val (.int (Int32.ofNat i))] [(.int (Int32.ofNat i)), (.ref t)])) rfl (by rw [hml]; rfl) (argsL := [(.ref t), (.int (Int32.ofNat i))]) (rest := []) (lenOf pd_12 rfl) rfl (by show 2 * 0 + _ ≤ _; exact Nat.le_of_eq rfl) (hb hby duc_7) rfl (by (try dsimp only [room_1]); (try simp only [List.length_cons, List.length_nil]); omega) (by (try dsimp only [room_1]); (try simp only [List.length_cons, List.length_nil]); omega) ?_
  rintro _ T2 L2 X2 ⟨rfl, N2, e2⟩
  show Go p e below _ T2 (mkF m 10 #[.val (.ref t), .val (.int (Int32.ofNat i))] [(.int x)])
  exact Go.retB X2 hx hret hlk (Or.inr (Or.inr (Or.inl rfl))) (hb hby duc_10) ⟨by rw [own_nar_c ⟨h1, h2⟩], Fr.app (Fr.app (Fr.nil n0) N1) N2, e2⟩ (by (try dsimp only [room_1]); (try simp only [List.length_cons, List.length_nil]); omega) (by (try dsimp only [room_1]); (try simp only [List.length_cons, List.length_nil]); omega)
theorem dsc_0 : decode jdk_42_method_56_code 0 = .ok (.aload_n 0, 1) := by decide +kernel
theorem dsc_1 : decode jdk_42_method_56_code 1 = .ok (.invokevirtual 492, 3) := by decide +kernel
theorem dsc_4 : decode jdk_42_method_56_code 4 = .ok (.ifCond .eq 12, 3) := by decide +kernel
theorem dsc_7 : decode jdk_42_method_56_code 7 = .ok (.aload_n 0, 1) := by decide +kernel
theorem dsc_8 : decode jdk_42_method_56_code 8 = .ok (.getfield 9, 3) := by decide +kernel
theorem dsc_11 : decode jdk_42_method_56_code 11 = .ok (.iload_n 1, 1) := by decide +kernel
theorem dsc_12 : decode jdk_42_method_56_code 12 = .ok (.invokestatic 495, 3) := by decide +kernel
theorem dsc_15 : decode jdk_42_method_56_code 15 = .ok (.ireturn, 1) := by decide +kernel
theorem dsc_16 : decode jdk_42_method_56_code 16 = .ok (.aload_n 0, 1) := by decide +kernel
theorem dsc_17 : decode jdk_42_method_56_code 17 = .ok (.getfield 9, 3) := by decide +kernel
theorem dsc_20 : decode jdk_42_method_56_code 20 = .ok (.iload_n 1, 1) := by decide +kernel
theorem dsc_21 : decode jdk_42_method_56_code 21 = .ok (.invokestatic 498, 3) := by decide +kernel
theorem dsc_24 : decode jdk_42_method_56_code 24 = .ok (.ireturn, 1) := by decide +kernel
set_option maxRecDepth 65536 in
set_option maxHeartbeats 40000000 in
theorem rmSC (l : Launch) (Z : State) (a0 : Array Value) (hw : ∀ d ∈ tables_1, d.before a0 Z = true) (z : Int32) (Su : Su16 Z z) (f : Value) (hf : f.isRef = true) (SF : Sta Z Z.heap "jdk/internal/util/Preconditions" "SIOOBE_FORMATTER" "Ljava/util/function/BiFunction;" f) (a t : Addr) (ds : List Int32) (i : Nat) (x : Int32) (hn : ds.length ≤ 4000) (hxi : ds[i]? = some x) (hbd : ∀ c ∈ ds, ¬ c < 0 ∧ ¬ (65535 : Int32) < c) (h0 : Heap) (n0 : Nat) (O : Old Z n0 h0) (E : Exa Z h0 a "java/lang/String") (Cd : Fld Z h0 a "java/lang/String" "coder" "B" (.int (own_cod ds))) (V : Fld Z h0 a "java/lang/String" "value" "[B" (.ref t)) (B : AI Z h0 t .byte (own_val ds)) :
    Ctr l Z (⟨"java/lang/String", "charAt", "(I)C"⟩ : MethodName) jdk_42_method_56_code 2 (some .char) [] ({ frames := 4, cells := 0, slots := 0, locals := 53 } : Room) #[(.ref a), (.int (Int32.ofNat i))] h0 (QP x h0 n0) := by
  refine Ctr.of (plainFor_of_name pn_15) ?_
  intro p e s m below meth c s₁ hx hby hml hown hnm hret hlk hZ X0 e0
  refine Go.cast (ef_7 m a (Int32.ofNat i)) ?_
  show Go p e below _ s₁ (mkF m 0 #[.val (.ref a), .val (.int (Int32.ofNat i))] [])
  refine Go.st (fun _ k => XS.aloadN X0.here hx rfl (hb hby dsc_0) rfl rfl k) ?_
  show Go p e below _ s₁ (mkF m 1 #[.val (.ref a), .val (.int (Int32.ofNat i))] [(.ref a)])
  refine Go.callV X0 hx hZ (C := "java/lang/String") (y := (⟨"java/lang/String", "isLatin1", "()Z"⟩ : MethodName)) (z := (⟨"java/lang/String", "isLatin1", "()Z"⟩ : MethodName)) hown (mvT hZ (hw _ (List.mem_of_getElem? (i := 85) rfl))) (mvT hZ (hw _ (List.mem_of_getElem? (i := 86) rfl))) (mvT hZ (hw _ (List.mem_of_getElem? (i := 88) rfl))) (mvT hZ (hw _ (List.mem_of_getElem? (i := 87) rfl))) (by decide) (notFace_of_selects (args := #[]) (mvT hZ (hw _ (List.mem_of_getElem? (i := 88) rfl)))) (Ctr.back (W := 0) (rmIL l Z a0 hw z Su.2.2.2.1 Su.2.2.2.2 a ds h0 n0 O.2 Cd) hZ (hw _ (List.mem_of_getElem? (i := 89) rfl)) (hw _ (List.mem_of_getElem? (i := 14) rfl)) (by (try dsimp only [room_1]); (try simp only [List.length_cons, List.length_nil]); omega) (by (try dsimp only [room_1]); (try simp only [List.length_cons, List.length_nil]); omega)) e0 E (g := (mkF m 1 #[.val (.ref a), .val (.int (Int32.ofNat i))] [(.ref a)])) rfl (by rw [hml]; rfl) (argsL := []) (rest := []) (lenOf pd_31 rfl) rfl (by show 2 * 0 + _ ≤ _; exact Nat.le_of_eq rfl) (hb hby dsc_1) rfl (by (try dsimp only [room_1]); (try simp only [List.length_cons, List.length_nil]); omega) (by (try dsimp only [room_1]); (try simp only [List.length_cons, List.length_nil]); omega) ?_
  rintro _ T1 L1 X1 ⟨rfl, N1, e1⟩
  show Go p e below _ T1 (mkF m 4 #[.val (.ref a), .val (.int (Int32.ofNat i))] [(.int (if own_cod ds = 0 then 1 else 0))])
  have hx2 := hbd x (List.mem_of_getElem? hxi)
  by_cases q : own_fb ds = ds.length
  · skip
    have qc : own_cod ds = 0 := by unfold own_cod; rw [if_pos q]
    refine Go.st (fun _ k => XS.ifNo X1.here hx rfl (hb hby dsc_4) rfl (XT.i0_eq_f (by rw [if_pos qc]; decide)) k) ?_
    show Go p e below _ T1 (mkF m 7 #[.val (.ref a), .val (.int (Int32.ofNat i))] [])
    refine Go.st (fun _ k => XS.aloadN X1.here hx rfl (hb hby dsc_7) rfl rfl k) ?_
    show Go p e below _ T1 (mkF m 8 #[.val (.ref a), .val (.int (Int32.ofNat i))] [(.ref a)])
    obtain ⟨T2, X2, e2, st2⟩ := getF X1 hx hZ hown (host := "") (Or.inl (hw _ (List.mem_of_getElem? (i := 31) rfl))) Via.refl e1 V (g := (mkF m 8 #[.val (.ref a), .val (.int (Int32.ofNat i))] [(.ref a)])) rfl rfl (hb hby dsc_8)
    refine Go.st st2 ?_
    show Go p e below _ T2 (mkF m 11 #[.val (.ref a), .val (.int (Int32.ofNat i))] [(.ref t)])
    refine Go.st (fun _ k => XS.iloadN X2.here hx rfl (hb hby dsc_11) rfl k) ?_
    show Go p e below _ T2 (mkF m 12 #[.val (.ref a), .val (.int (Int32.ofNat i))] [(.int (Int32.ofNat i)), (.ref t)])
    have B' : AI Z h0 t .byte (ds.map own_lo) := by have q2 := B; unfold own_val at q2; rwa [if_pos q] at q2
    refine Go.callS X2 hx (y := (⟨"java/lang/StringLatin1", "charAt", "([BI)C"⟩ : MethodName)) hown (mvT hZ (hw _ (List.mem_of_getElem? (i := 90) rfl))) (mvT hZ (hw _ (List.mem_of_getElem? (i := 91) rfl))) (mvT hZ (hw _ (List.mem_of_getElem? (i := 92) rfl))) (mvT hZ (hw _ (List.mem_of_getElem? (i := 93) rfl))) (by decide) (Ctr.back (W := 0) (rmLC l Z a0 hw f hf SF t ds i x hn hxi hx2.1 (own_fb_all ds q x (List.mem_of_getElem? hxi)) h0 n0 O.2 B') hZ (hw _ (List.mem_of_getElem? (i := 93) rfl)) (hw _ (List.mem_of_getElem? (i := 92) rfl)) (by (try dsimp only [room_1]); (try simp only [List.length_cons, List.length_nil]); omega) (by (try dsimp only [room_1]); (try simp only [List.length_cons, List.length_nil]); omega)) e2 (g := (mkF m 12 #[.val (.ref a), .val (.int (Int32.ofNat i))] [(.int (Int32.ofNat i)), (.ref t)])) rfl (by rw [hml]; rfl) (argsL := [(.ref t), (.int (Int32.ofNat i))]) (rest := []) (lenOf pd_12 rfl) rfl (by show 2 * 0 + _ ≤ _; exact Nat.le_of_eq rfl) (hb hby dsc_12) rfl (by (try dsimp only [room_1]); (try simp only [List.length_cons, List.length_nil]); omega) (by (try dsimp only [room_1]); (try simp only [List.length_cons, List.length_nil]); omega) ?_
    rintro _ T3 L3 X3 ⟨rfl, N3, e3⟩
    show Go p e below _ T3 (mkF m 15 #[.val (.ref a), .val (.int (Int32.ofNat i))] [(.int x)])
    exact Go.retB X3 hx hret hlk (Or.inr (Or.inr (Or.inl rfl))) (hb hby dsc_15) ⟨by rw [own_nar_c hx2], Fr.app (Fr.app (Fr.nil n0) N1) N3, e3⟩ (by (try dsimp only [room_1]); (try simp only [List.length_cons, List.length_nil]); omega) (by (try dsimp only [room_1]); (try simp only [List.length_cons, List.length_nil]); omega)
  · skip
    have qc : ¬ own_cod ds = 0 := by unfold own_cod; rw [if_neg q]; decide
    refine Go.st (fun _ k => XS.ifYes X1.here hx rfl (pc0 := 4) (pc' := 16) rfl (hb hby dsc_4) rfl (XT.i0_eq_t (by rw [if_neg qc])) (by decide) (by decide) k) ?_
    show Go p e below _ T1 (mkF m 16 #[.val (.ref a), .val (.int (Int32.ofNat i))] [])
    refine Go.st (fun _ k => XS.aloadN X1.here hx rfl (hb hby dsc_16) rfl rfl k) ?_
    show Go p e below _ T1 (mkF m 17 #[.val (.ref a), .val (.int (Int32.ofNat i))] [(.ref a)])
    obtain ⟨T2, X2, e2, st2⟩ := getF X1 hx hZ hown (host := "") (Or.inl (hw _ (List.mem_of_getElem? (i := 31) rfl))) Via.refl e1 V (g := (mkF m 17 #[.val (.ref a), .val (.int (Int32.ofNat i))] [(.ref a)])) rfl rfl (hb hby dsc_17)
    refine Go.st st2 ?_
    show Go p e below _ T2 (mkF m 20 #[.val (.ref a), .val (.int (Int32.ofNat i))] [(.ref t)])
    refine Go.st (fun _ k => XS.iloadN X2.here hx rfl (hb hby dsc_20) rfl k) ?_
    show Go p e below _ T2 (mkF m 21 #[.val (.ref a), .val (.int (Int32.ofNat i))] [(.int (Int32.ofNat i)), (.ref t)])
    have B' : AI Z h0 t .byte (own_u16 ds) := by have q2 := B; unfold own_val at q2; rwa [if_neg q] at q2
    refine Go.callS X2 hx (y := (⟨"java/lang/StringUTF16", "charAt", "([BI)C"⟩ : MethodName)) hown (mvT hZ (hw _ (List.mem_of_getElem? (i := 122) rfl))) (mvT hZ (hw _ (List.mem_of_getElem? (i := 123) rfl))) (mvT hZ (hw _ (List.mem_of_getElem? (i := 61) rfl))) (mvT hZ (hw _ (List.mem_of_getElem? (i := 124) rfl))) (by decide) (Ctr.back (W := 0) (rmUC l Z a0 hw z Su f hf SF t ds i x hn hxi hx2.1 hx2.2 h0 n0 O B') hZ (hw _ (List.mem_of_getElem? (i := 124) rfl)) (hw _ (List.mem_of_getElem? (i := 61) rfl)) (by (try dsimp only [room_1]); (try simp only [List.length_cons, List.length_nil]); omega) (by (try dsimp only [room_1]); (try simp only [List.length_cons, List.length_nil]); omega)) e2 (g := (mkF m 21 #[.val (.ref a), .val (.int (Int32.ofNat i))] [(.int (Int32.ofNat i)), (.ref t)])) rfl (by rw [hml]; rfl) (argsL := [(.ref t), (.int (Int32.ofNat i))]) (rest := []) (lenOf pd_12 rfl) rfl (by show 2 * 0 + _ ≤ _; exact Nat.le_of_eq rfl) (hb hby dsc_21) rfl (by (try dsimp only [room_1]); (try simp only [List.length_cons, List.length_nil]); omega) (by (try dsimp only [room_1]); (try simp only [List.length_cons, List.length_nil]); omega) ?_
    rintro _ T3 L3 X3 ⟨rfl, N3, e3⟩
    show Go p e below _ T3 (mkF m 24 #[.val (.ref a), .val (.int (Int32.ofNat i))] [(.int x)])
    exact Go.retB X3 hx hret hlk (Or.inr (Or.inr (Or.inl rfl))) (hb hby dsc_24) ⟨by rw [own_nar_c hx2], Fr.app (Fr.app (Fr.nil n0) N1) N3, e3⟩ (by (try dsimp only [room_1]); (try simp only [List.length_cons, List.length_nil]); omega) (by (try dsimp only [room_1]); (try simp only [List.length_cons, List.length_nil]); omega)
def QX (h0 : Heap) (n0 : Nat) (v : Option Value) (h : Heap) (L : List Loc) : Prop := ∃ x, v = some (.int x) ∧ Fr n0 L ∧ h = h0
def QR (r : Addr) (h0 : Heap) (n0 : Nat) (v : Option Value) (h : Heap) (L : List Loc) : Prop := v = some (.ref r) ∧ Fr n0 L ∧ h = h0
def QJ (val : Int64) (h0 : Heap) (n0 : Nat) (v : Option Value) (h : Heap) (L : List Loc) : Prop := v = some (.long val) ∧ Fr n0 L ∧ h = h0
def own_acc (v : Int64) (x : Int32) (i n : Nat) : Int64 := if i < n then own_step v x else v
theorem dnb_0 : decode method_3_code 0 = .ok (.lload_n 0, 1) := by decide +kernel
theorem dnb_1 : decode method_3_code 1 = .ok (.iconst 4, 1) := by decide +kernel
theorem dnb_2 : decode method_3_code 2 = .ok (.iload_n 2, 1) := by decide +kernel
theorem dnb_3 : decode method_3_code 3 = .ok (.imul, 1) := by decide +kernel
theorem dnb_4 : decode method_3_code 4 = .ok (.lushr, 1) := by decide +kernel
theorem dnb_5 : decode method_3_code 5 = .ok (.ldc2_w 42, 3) := by decide +kernel
theorem dnb_8 : decode method_3_code 8 = .ok (.land, 1) := by decide +kernel
theorem dnb_9 : decode method_3_code 9 = .ok (.l2i, 1) := by decide +kernel
theorem dnb_10 : decode method_3_code 10 = .ok (.ireturn, 1) := by decide +kernel
set_option maxRecDepth 65536 in
set_option maxHeartbeats 40000000 in
theorem rmNB (l : Launch) (Z : State) (a0 : Array Value) (hw : ∀ d ∈ tables_1, d.before a0 Z = true) (p1 : Int64) (p2 : Int32) (h0 : Heap) (n0 : Nat) :
    Ctr l Z (⟨"com/example/federate/federate/WholeNumbersParsePinLaw", "nib", "(JI)I"⟩ : MethodName) method_3_code 3 (some .int) [] ({ frames := 0, cells := 0, slots := 0, locals := 0 } : Room) #[(.long p1), (.int p2)] h0 (QX h0 n0) := by
  refine Ctr.of (plainFor_of_name pn_20) ?_
  intro p e s m below meth c s₁ hx hby hml hown hnm hret hlk hZ X0 e0
  refine Go.cast (ef_32 m p1 p2) ?_
  show Go p e below _ s₁ (mkF m 0 #[.val (.long p1), .second, .val (.int p2)] [])
  refine Go.st (fun _ k => XT.lloadN X0.here hx rfl (hb hby dnb_0) rfl k) ?_
  show Go p e below _ s₁ (mkF m 1 #[.val (.long p1), .second, .val (.int p2)] [(.long p1)])
  refine Go.st (fun _ k => XS.iconst X0.here hx rfl (hb hby dnb_1) k) ?_
  show Go p e below _ s₁ (mkF m 2 #[.val (.long p1), .second, .val (.int p2)] [(.int (4 : Int32)), (.long p1)])
  refine Go.st (fun _ k => XS.iloadN X0.here hx rfl (hb hby dnb_2) rfl k) ?_
  show Go p e below _ s₁ (mkF m 3 #[.val (.long p1), .second, .val (.int p2)] [(.int p2), (.int (4 : Int32)), (.long p1)])
  refine Go.st (fun _ k => XS.imul X0.here hx rfl (hb hby dnb_3) rfl k) ?_
  show Go p e below _ s₁ (mkF m 4 #[.val (.long p1), .second, .val (.int p2)] [(.int ((4 : Int32) * p2)), (.long p1)])
  refine Go.st (fun _ k => XT.lushr X0.here hx rfl (hb hby dnb_4) rfl k) ?_
  show Go p e below _ s₁ (mkF m 5 #[.val (.long p1), .second, .val (.int p2)] [(.long (XT.ushrL p1 ((4 : Int32) * p2)))])
  refine Go.st (fun _ k => X0.ldc2J hx hown (mvT hZ (hw _ (List.mem_of_getElem? (i := 5) rfl))) rfl (hb hby dnb_5) k) ?_
  show Go p e below _ s₁ (mkF m 8 #[.val (.long p1), .second, .val (.int p2)] [(.long (15 : Int64)), (.long (XT.ushrL p1 ((4 : Int32) * p2)))])
  refine Go.st (fun _ k => XT.land X0.here hx rfl (hb hby dnb_8) rfl k) ?_
  show Go p e below _ s₁ (mkF m 9 #[.val (.long p1), .second, .val (.int p2)] [(.long ((XT.ushrL p1 ((4 : Int32) * p2)) &&& (15 : Int64)))])
  refine Go.st (fun _ k => XT.l2i X0.here hx rfl (hb hby dnb_9) rfl k) ?_
  show Go p e below _ s₁ (mkF m 10 #[.val (.long p1), .second, .val (.int p2)] [(.int (((XT.ushrL p1 ((4 : Int32) * p2)) &&& (15 : Int64)).toInt32))])
  exact Go.retI X0 hx hret hlk (hb hby dnb_10) ⟨_, rfl, Fr.nil n0, e0⟩ (Nat.le_refl _) (Nat.le_refl _)
theorem dch_0 : decode method_4_code 0 = .ok (.iload_n 2, 1) := by decide +kernel
theorem dch_1 : decode method_4_code 1 = .ok (.ifCond .eq 12, 3) := by decide +kernel
theorem dch_4 : decode method_4_code 4 = .ok (.bipush 48, 2) := by decide +kernel
theorem dch_6 : decode method_4_code 6 = .ok (.iload_n 0, 1) := by decide +kernel
theorem dch_7 : decode method_4_code 7 = .ok (.bipush 10, 2) := by decide +kernel
theorem dch_9 : decode method_4_code 9 = .ok (.irem, 1) := by decide +kernel
theorem dch_10 : decode method_4_code 10 = .ok (.iadd, 1) := by decide +kernel
theorem dch_11 : decode method_4_code 11 = .ok (.i2c, 1) := by decide +kernel
theorem dch_12 : decode method_4_code 12 = .ok (.ireturn, 1) := by decide +kernel
theorem dch_13 : decode method_4_code 13 = .ok (.iload_n 0, 1) := by decide +kernel
theorem dch_14 : decode method_4_code 14 = .ok (.bipush 10, 2) := by decide +kernel
theorem dch_16 : decode method_4_code 16 = .ok (.if_icmp .ge 9, 3) := by decide +kernel
theorem dch_19 : decode method_4_code 19 = .ok (.bipush 48, 2) := by decide +kernel
theorem dch_21 : decode method_4_code 21 = .ok (.iload_n 0, 1) := by decide +kernel
theorem dch_22 : decode method_4_code 22 = .ok (.iadd, 1) := by decide +kernel
theorem dch_23 : decode method_4_code 23 = .ok (.i2c, 1) := by decide +kernel
theorem dch_24 : decode method_4_code 24 = .ok (.ireturn, 1) := by decide +kernel
theorem dch_25 : decode method_4_code 25 = .ok (.iload_n 0, 1) := by decide +kernel
theorem dch_26 : decode method_4_code 26 = .ok (.bipush 13, 2) := by decide +kernel
theorem dch_28 : decode method_4_code 28 = .ok (.if_icmp .ge 9, 3) := by decide +kernel
theorem dch_31 : decode method_4_code 31 = .ok (.iload_n 1, 1) := by decide +kernel
theorem dch_32 : decode method_4_code 32 = .ok (.ldc 44, 2) := by decide +kernel
theorem dch_34 : decode method_4_code 34 = .ok (.iand, 1) := by decide +kernel
theorem dch_35 : decode method_4_code 35 = .ok (.i2c, 1) := by decide +kernel
theorem dch_36 : decode method_4_code 36 = .ok (.ireturn, 1) := by decide +kernel
theorem dch_37 : decode method_4_code 37 = .ok (.iload_n 1, 1) := by decide +kernel
theorem dch_38 : decode method_4_code 38 = .ok (.bipush 16, 2) := by decide +kernel
theorem dch_40 : decode method_4_code 40 = .ok (.iushr, 1) := by decide +kernel
theorem dch_41 : decode method_4_code 41 = .ok (.i2c, 1) := by decide +kernel
theorem dch_42 : decode method_4_code 42 = .ok (.ireturn, 1) := by decide +kernel
set_option maxRecDepth 65536 in
set_option maxHeartbeats 40000000 in
theorem rmCH (l : Launch) (Z : State) (a0 : Array Value) (hw : ∀ d ∈ tables_1, d.before a0 Z = true) (p1 p2 p3 : Int32) (h0 : Heap) (n0 : Nat) :
    Ctr l Z (⟨"com/example/federate/federate/WholeNumbersParsePinLaw", "ch", "(IIZ)C"⟩ : MethodName) method_4_code 3 (some .char) [] ({ frames := 0, cells := 0, slots := 0, locals := 0 } : Room) #[(.int p1), (.int p2), (.int p3)] h0 (QX h0 n0) := by
  refine Ctr.of (plainFor_of_name pn_20) ?_
  intro p e s m below meth c s₁ hx hby hml hown hnm hret hlk hZ X0 e0
  refine Go.cast (ef_33 m p1 p2 p3) ?_
  show Go p e below _ s₁ (mkF m 0 #[.val (.int p1), .val (.int p2), .val (.int p3)] [])
  refine Go.st (fun _ k => XS.iloadN X0.here hx rfl (hb hby dch_0) rfl k) ?_
  show Go p e below _ s₁ (mkF m 1 #[.val (.int p1), .val (.int p2), .val (.int p3)] [(.int p3)])
  rcases (Classical.em (p3 = 0)).symm with q | q
  · skip
    refine Go.st (fun _ k => XS.ifNo X0.here hx rfl (hb hby dch_1) rfl (XT.i0_eq_f q) k) ?_
    show Go p e below _ s₁ (mkF m 4 #[.val (.int p1), .val (.int p2), .val (.int p3)] [])
    refine Go.st (fun _ k => XS.bipush X0.here hx rfl (hb hby dch_4) k) ?_
    show Go p e below _ s₁ (mkF m 6 #[.val (.int p1), .val (.int p2), .val (.int p3)] [(.int (48 : Int32))])
    refine Go.st (fun _ k => XS.iloadN X0.here hx rfl (hb hby dch_6) rfl k) ?_
    show Go p e below _ s₁ (mkF m 7 #[.val (.int p1), .val (.int p2), .val (.int p3)] [(.int p1), (.int (48 : Int32))])
    refine Go.st (fun _ k => XS.bipush X0.here hx rfl (hb hby dch_7) k) ?_
    show Go p e below _ s₁ (mkF m 9 #[.val (.int p1), .val (.int p2), .val (.int p3)] [(.int (10 : Int32)), (.int p1), (.int (48 : Int32))])
    refine Go.st (fun _ k => iremM X0 hx rfl (hb hby dch_9) rfl (by decide) k) ?_
    show Go p e below _ s₁ (mkF m 10 #[.val (.int p1), .val (.int p2), .val (.int p3)] [(.int (p1 % (10 : Int32))), (.int (48 : Int32))])
    refine Go.st (fun _ k => XS.iadd X0.here hx rfl (hb hby dch_10) rfl k) ?_
    show Go p e below _ s₁ (mkF m 11 #[.val (.int p1), .val (.int p2), .val (.int p3)] [(.int ((48 : Int32) + (p1 % (10 : Int32))))])
    refine Go.st (fun _ k => XT.i2c X0.here hx rfl (hb hby dch_11) rfl k) ?_
    show Go p e below _ s₁ (mkF m 12 #[.val (.int p1), .val (.int p2), .val (.int p3)] [(.int (((48 : Int32) + (p1 % (10 : Int32))).toUInt32.toUInt16.toUInt32.toInt32))])
    exact Go.retB X0 hx hret hlk (Or.inr (Or.inr (Or.inl rfl))) (hb hby dch_12) ⟨_, rfl, Fr.nil n0, e0⟩ (Nat.le_refl _) (Nat.le_refl _)
  · skip
    refine Go.st (fun _ k => XS.ifYes X0.here hx rfl (pc0 := 1) (pc' := 13) rfl (hb hby dch_1) rfl (XT.i0_eq_t q) (by decide) (by decide) k) ?_
    show Go p e below _ s₁ (mkF m 13 #[.val (.int p1), .val (.int p2), .val (.int p3)] [])
    refine Go.st (fun _ k => XS.iloadN X0.here hx rfl (hb hby dch_13) rfl k) ?_
    show Go p e below _ s₁ (mkF m 14 #[.val (.int p1), .val (.int p2), .val (.int p3)] [(.int p1)])
    refine Go.st (fun _ k => XS.bipush X0.here hx rfl (hb hby dch_14) k) ?_
    show Go p e below _ s₁ (mkF m 16 #[.val (.int p1), .val (.int p2), .val (.int p3)] [(.int (10 : Int32)), (.int p1)])
    rcases Classical.em (p1 < 10) with q1 | q1
    · skip
      refine Go.st (fun _ k => XS.icmpNo X0.here hx rfl (hb hby dch_16) rfl (XT.ii_ge_f q1) k) ?_
      show Go p e below _ s₁ (mkF m 19 #[.val (.int p1), .val (.int p2), .val (.int p3)] [])
      refine Go.st (fun _ k => XS.bipush X0.here hx rfl (hb hby dch_19) k) ?_
      show Go p e below _ s₁ (mkF m 21 #[.val (.int p1), .val (.int p2), .val (.int p3)] [(.int (48 : Int32))])
      refine Go.st (fun _ k => XS.iloadN X0.here hx rfl (hb hby dch_21) rfl k) ?_
      show Go p e below _ s₁ (mkF m 22 #[.val (.int p1), .val (.int p2), .val (.int p3)] [(.int p1), (.int (48 : Int32))])
      refine Go.st (fun _ k => XS.iadd X0.here hx rfl (hb hby dch_22) rfl k) ?_
      show Go p e below _ s₁ (mkF m 23 #[.val (.int p1), .val (.int p2), .val (.int p3)] [(.int ((48 : Int32) + p1))])
      refine Go.st (fun _ k => XT.i2c X0.here hx rfl (hb hby dch_23) rfl k) ?_
      show Go p e below _ s₁ (mkF m 24 #[.val (.int p1), .val (.int p2), .val (.int p3)] [(.int (((48 : Int32) + p1).toUInt32.toUInt16.toUInt32.toInt32))])
      exact Go.retB X0 hx hret hlk (Or.inr (Or.inr (Or.inl rfl))) (hb hby dch_24) ⟨_, rfl, Fr.nil n0, e0⟩ (Nat.le_refl _) (Nat.le_refl _)
    · skip
      refine Go.st (fun _ k => XS.icmpYes X0.here hx rfl (pc0 := 16) (pc' := 25) rfl (hb hby dch_16) rfl (XT.ii_ge_t q1) (by decide) (by decide) k) ?_
      show Go p e below _ s₁ (mkF m 25 #[.val (.int p1), .val (.int p2), .val (.int p3)] [])
      refine Go.st (fun _ k => XS.iloadN X0.here hx rfl (hb hby dch_25) rfl k) ?_
      show Go p e below _ s₁ (mkF m 26 #[.val (.int p1), .val (.int p2), .val (.int p3)] [(.int p1)])
      refine Go.st (fun _ k => XS.bipush X0.here hx rfl (hb hby dch_26) k) ?_
      show Go p e below _ s₁ (mkF m 28 #[.val (.int p1), .val (.int p2), .val (.int p3)] [(.int (13 : Int32)), (.int p1)])
      rcases Classical.em (p1 < 13) with q2 | q2
      · skip
        refine Go.st (fun _ k => XS.icmpNo X0.here hx rfl (hb hby dch_28) rfl (XT.ii_ge_f q2) k) ?_
        show Go p e below _ s₁ (mkF m 31 #[.val (.int p1), .val (.int p2), .val (.int p3)] [])
        refine Go.st (fun _ k => XS.iloadN X0.here hx rfl (hb hby dch_31) rfl k) ?_
        show Go p e below _ s₁ (mkF m 32 #[.val (.int p1), .val (.int p2), .val (.int p3)] [(.int p2)])
        refine Go.st (fun _ k => X0.ldcI hx hown (mvT hZ (hw _ (List.mem_of_getElem? (i := 102) rfl))) rfl (hb hby dch_32) k) ?_
        show Go p e below _ s₁ (mkF m 34 #[.val (.int p1), .val (.int p2), .val (.int p3)] [(.int (65535 : Int32)), (.int p2)])
        refine Go.st (fun _ k => XS.iand X0.here hx rfl (hb hby dch_34) rfl k) ?_
        show Go p e below _ s₁ (mkF m 35 #[.val (.int p1), .val (.int p2), .val (.int p3)] [(.int (p2 &&& (65535 : Int32)))])
        refine Go.st (fun _ k => XT.i2c X0.here hx rfl (hb hby dch_35) rfl k) ?_
        show Go p e below _ s₁ (mkF m 36 #[.val (.int p1), .val (.int p2), .val (.int p3)] [(.int ((p2 &&& (65535 : Int32)).toUInt32.toUInt16.toUInt32.toInt32))])
        exact Go.retB X0 hx hret hlk (Or.inr (Or.inr (Or.inl rfl))) (hb hby dch_36) ⟨_, rfl, Fr.nil n0, e0⟩ (Nat.le_refl _) (Nat.le_refl _)
      · skip
        refine Go.st (fun _ k => XS.icmpYes X0.here hx rfl (pc0 := 28) (pc' := 37) rfl (hb hby dch_28) rfl (XT.ii_ge_t q2) (by decide) (by decide) k) ?_
        show Go p e below _ s₁ (mkF m 37 #[.val (.int p1), .val (.int p2), .val (.int p3)] [])
        refine Go.st (fun _ k => XS.iloadN X0.here hx rfl (hb hby dch_37) rfl k) ?_
        show Go p e below _ s₁ (mkF m 38 #[.val (.int p1), .val (.int p2), .val (.int p3)] [(.int p2)])
        refine Go.st (fun _ k => XS.bipush X0.here hx rfl (hb hby dch_38) k) ?_
        show Go p e below _ s₁ (mkF m 40 #[.val (.int p1), .val (.int p2), .val (.int p3)] [(.int (16 : Int32)), (.int p2)])
        refine Go.st (fun _ k => XT.iushr X0.here hx rfl (hb hby dch_40) rfl k) ?_
        show Go p e below _ s₁ (mkF m 41 #[.val (.int p1), .val (.int p2), .val (.int p3)] [(.int (XT.ushr p2 (16 : Int32)))])
        refine Go.st (fun _ k => XT.i2c X0.here hx rfl (hb hby dch_41) rfl k) ?_
        show Go p e below _ s₁ (mkF m 42 #[.val (.int p1), .val (.int p2), .val (.int p3)] [(.int ((XT.ushr p2 (16 : Int32)).toUInt32.toUInt16.toUInt32.toInt32))])
        exact Go.retB X0 hx hret hlk (Or.inr (Or.inr (Or.inl rfl))) (hb hby dch_42) ⟨_, rfl, Fr.nil n0, e0⟩ (Nat.le_refl _) (Nat.le_refl _)
theorem dac_0 : decode method_5_code 0 = .ok (.lload_n 0, 1) := by decide +kernel
theorem dac_1 : decode method_5_code 1 = .ok (.lconst 0, 1) := by decide +kernel
theorem dac_2 : decode method_5_code 2 = .ok (.lcmp, 1) := by decide +kernel
theorem dac_3 : decode method_5_code 3 = .ok (.ifCond .lt 9, 3) := by decide +kernel
theorem dac_6 : decode method_5_code 6 = .ok (.iload_n 3, 1) := by decide +kernel
theorem dac_7 : decode method_5_code 7 = .ok (.iload 4, 2) := by decide +kernel
theorem dac_9 : decode method_5_code 9 = .ok (.if_icmp .lt 5, 3) := by decide +kernel
theorem dac_12 : decode method_5_code 12 = .ok (.lload_n 0, 1) := by decide +kernel
theorem dac_13 : decode method_5_code 13 = .ok (.lreturn, 1) := by decide +kernel
theorem dac_14 : decode method_5_code 14 = .ok (.aload_n 2, 1) := by decide +kernel
theorem dac_15 : decode method_5_code 15 = .ok (.iload_n 3, 1) := by decide +kernel
theorem dac_16 : decode method_5_code 16 = .ok (.caload, 1) := by decide +kernel
theorem dac_17 : decode method_5_code 17 = .ok (.istore 5, 2) := by decide +kernel
theorem dac_19 : decode method_5_code 19 = .ok (.iload 5, 2) := by decide +kernel
theorem dac_21 : decode method_5_code 21 = .ok (.bipush 48, 2) := by decide +kernel
theorem dac_23 : decode method_5_code 23 = .ok (.if_icmp .lt 10, 3) := by decide +kernel
theorem dac_26 : decode method_5_code 26 = .ok (.iload 5, 2) := by decide +kernel
theorem dac_28 : decode method_5_code 28 = .ok (.bipush 57, 2) := by decide +kernel
theorem dac_30 : decode method_5_code 30 = .ok (.if_icmp .le 7, 3) := by decide +kernel
theorem dac_33 : decode method_5_code 33 = .ok (.ldc2_w 45, 3) := by decide +kernel
theorem dac_36 : decode method_5_code 36 = .ok (.lreturn, 1) := by decide +kernel
theorem dac_37 : decode method_5_code 37 = .ok (.lload_n 0, 1) := by decide +kernel
theorem dac_38 : decode method_5_code 38 = .ok (.ldc2_w 47, 3) := by decide +kernel
theorem dac_41 : decode method_5_code 41 = .ok (.lmul, 1) := by decide +kernel
theorem dac_42 : decode method_5_code 42 = .ok (.iload 5, 2) := by decide +kernel
theorem dac_44 : decode method_5_code 44 = .ok (.bipush 48, 2) := by decide +kernel
theorem dac_46 : decode method_5_code 46 = .ok (.isub, 1) := by decide +kernel
theorem dac_47 : decode method_5_code 47 = .ok (.i2l, 1) := by decide +kernel
theorem dac_48 : decode method_5_code 48 = .ok (.ladd, 1) := by decide +kernel
theorem dac_49 : decode method_5_code 49 = .ok (.lreturn, 1) := by decide +kernel
set_option maxRecDepth 65536 in
set_option maxHeartbeats 40000000 in
theorem rmAC (l : Launch) (Z : State) (a0 : Array Value) (hw : ∀ d ∈ tables_1, d.before a0 Z = true) (v : Int64) (a : Addr) (cs : List Int32) (i n : Nat) (x : Int32) (hl : cs.length ≤ 4000) (hn : n ≤ 4000) (hxi : cs[i]? = some x) (h0 : Heap) (n0 : Nat) (A : AI Z h0 a .char cs) :
    Ctr l Z (⟨"com/example/federate/federate/WholeNumbersParsePinLaw", "acc", "(J[CII)J"⟩ : MethodName) method_5_code 6 (some .long) [] ({ frames := 0, cells := 0, slots := 0, locals := 0 } : Room) #[(.long v), (.ref a), (.int (Int32.ofNat i)), (.int (Int32.ofNat n))] h0 (QJ (own_acc v x i n) h0 n0) := by
  refine Ctr.of (plainFor_of_name pn_20) ?_
  intro p e s m below meth c s₁ hx hby hml hown hnm hret hlk hZ X0 e0
  refine Go.cast (ef_34 m v a (Int32.ofNat i) (Int32.ofNat n)) ?_
  show Go p e below _ s₁ (mkF m 0 #[.val (.long v), .second, .val (.ref a), .val (.int (Int32.ofNat i)), .val (.int (Int32.ofNat n)), .unset] [])
  refine Go.st (fun _ k => XT.lloadN X0.here hx rfl (hb hby dac_0) rfl k) ?_
  show Go p e below _ s₁ (mkF m 1 #[.val (.long v), .second, .val (.ref a), .val (.int (Int32.ofNat i)), .val (.int (Int32.ofNat n)), .unset] [(.long v)])
  refine Go.st (fun _ k => XT.lconst X0.here hx rfl (hb hby dac_1) k) ?_
  show Go p e below _ s₁ (mkF m 2 #[.val (.long v), .second, .val (.ref a), .val (.int (Int32.ofNat i)), .val (.int (Int32.ofNat n)), .unset] [(.long (0 : Int64)), (.long v)])
  refine Go.st (fun _ k => XT.lcmp X0.here hx rfl (hb hby dac_2) rfl k) ?_
  show Go p e below _ s₁ (mkF m 3 #[.val (.long v), .second, .val (.ref a), .val (.int (Int32.ofNat i)), .val (.int (Int32.ofNat n)), .unset] [(.int (XT.cmpL v (0 : Int64)))])
  have hi := (List.getElem?_eq_some_iff.mp hxi).1
  have hac : own_acc v x i n = if i < n then own_step v x else v := rfl
  have hst : own_step v x = if v < 0 then v else if x < 48 ∨ 57 < x then -1 else v * 10 + (x - 48).toInt64 := rfl
  rcases Classical.em (v < 0) with q | q
  · skip
    refine Go.st (fun _ k => XS.ifYes X0.here hx rfl (pc0 := 3) (pc' := 12) rfl (hb hby dac_3) rfl (XT.ll_lt_t q) (by decide) (by decide) k) ?_
    show Go p e below _ s₁ (mkF m 12 #[.val (.long v), .second, .val (.ref a), .val (.int (Int32.ofNat i)), .val (.int (Int32.ofNat n)), .unset] [])
    refine Go.st (fun _ k => XT.lloadN X0.here hx rfl (hb hby dac_12) rfl k) ?_
    show Go p e below _ s₁ (mkF m 13 #[.val (.long v), .second, .val (.ref a), .val (.int (Int32.ofNat i)), .val (.int (Int32.ofNat n)), .unset] [(.long v)])
    exact Go.retJ X0 hx hret hlk (hb hby dac_13) ⟨by rw [hac, hst, if_pos q, ite_self], Fr.nil n0, e0⟩ (Nat.le_refl _) (Nat.le_refl _)
  · skip
    refine Go.st (fun _ k => XS.ifNo X0.here hx rfl (hb hby dac_3) rfl (XT.ll_lt_f q) k) ?_
    show Go p e below _ s₁ (mkF m 6 #[.val (.long v), .second, .val (.ref a), .val (.int (Int32.ofNat i)), .val (.int (Int32.ofNat n)), .unset] [])
    refine Go.st (fun _ k => XS.iloadN X0.here hx rfl (hb hby dac_6) rfl k) ?_
    show Go p e below _ s₁ (mkF m 7 #[.val (.long v), .second, .val (.ref a), .val (.int (Int32.ofNat i)), .val (.int (Int32.ofNat n)), .unset] [(.int (Int32.ofNat i))])
    refine Go.st (fun _ k => XS.iload X0.here hx rfl (hb hby dac_7) rfl k) ?_
    show Go p e below _ s₁ (mkF m 9 #[.val (.long v), .second, .val (.ref a), .val (.int (Int32.ofNat i)), .val (.int (Int32.ofNat n)), .unset] [(.int (Int32.ofNat n)), (.int (Int32.ofNat i))])
    rcases (Classical.em (i < n)).symm with q1 | q1
    · skip
      have qn : ¬ Int32.ofNat i < Int32.ofNat n := fun z => q1 (by rw [Int32.lt_iff_toInt_lt, own_toInt (by omega), own_toInt (by omega)] at z; omega)
      refine Go.st (fun _ k => XS.icmpNo X0.here hx rfl (hb hby dac_9) rfl (XT.ii_lt_f qn) k) ?_
      show Go p e below _ s₁ (mkF m 12 #[.val (.long v), .second, .val (.ref a), .val (.int (Int32.ofNat i)), .val (.int (Int32.ofNat n)), .unset] [])
      refine Go.st (fun _ k => XT.lloadN X0.here hx rfl (hb hby dac_12) rfl k) ?_
      show Go p e below _ s₁ (mkF m 13 #[.val (.long v), .second, .val (.ref a), .val (.int (Int32.ofNat i)), .val (.int (Int32.ofNat n)), .unset] [(.long v)])
      exact Go.retJ X0 hx hret hlk (hb hby dac_13) ⟨by rw [hac, if_neg q1], Fr.nil n0, e0⟩ (Nat.le_refl _) (Nat.le_refl _)
    · skip
      refine Go.st (fun _ k => XS.icmpYes X0.here hx rfl (pc0 := 9) (pc' := 14) rfl (hb hby dac_9) rfl (XT.ii_lt_t (own_ofNat_lt q1 (by omega))) (by decide) (by decide) k) ?_
      show Go p e below _ s₁ (mkF m 14 #[.val (.long v), .second, .val (.ref a), .val (.int (Int32.ofNat i)), .val (.int (Int32.ofNat n)), .unset] [])
      refine Go.st (fun _ k => XS.aloadN X0.here hx rfl (hb hby dac_14) rfl rfl k) ?_
      show Go p e below _ s₁ (mkF m 15 #[.val (.long v), .second, .val (.ref a), .val (.int (Int32.ofNat i)), .val (.int (Int32.ofNat n)), .unset] [(.ref a)])
      refine Go.st (fun _ k => XS.iloadN X0.here hx rfl (hb hby dac_15) rfl k) ?_
      show Go p e below _ s₁ (mkF m 16 #[.val (.long v), .second, .val (.ref a), .val (.int (Int32.ofNat i)), .val (.int (Int32.ofNat n)), .unset] [(.int (Int32.ofNat i)), (.ref a)])
      refine Go.caload X0 hx hZ e0 A (i := i) (x := x) rfl hxi (g := (mkF m 16 #[.val (.long v), .second, .val (.ref a), .val (.int (Int32.ofNat i)), .val (.int (Int32.ofNat n)), .unset] [(.int (Int32.ofNat i)), (.ref a)])) rfl rfl (hb hby dac_16) ?_
      show Go p e below _ s₁ (mkF m 17 #[.val (.long v), .second, .val (.ref a), .val (.int (Int32.ofNat i)), .val (.int (Int32.ofNat n)), .unset] [(.int x)])
      refine Go.st (fun _ k => XS.istore X0.here hx rfl (hb hby dac_17) rfl (l' := #[.val (.long v), .second, .val (.ref a), .val (.int (Int32.ofNat i)), .val (.int (Int32.ofNat n)), .val (.int x)]) rfl k) ?_
      show Go p e below _ s₁ (mkF m 19 #[.val (.long v), .second, .val (.ref a), .val (.int (Int32.ofNat i)), .val (.int (Int32.ofNat n)), .val (.int x)] [])
      refine Go.st (fun _ k => XS.iload X0.here hx rfl (hb hby dac_19) rfl k) ?_
      show Go p e below _ s₁ (mkF m 21 #[.val (.long v), .second, .val (.ref a), .val (.int (Int32.ofNat i)), .val (.int (Int32.ofNat n)), .val (.int x)] [(.int x)])
      refine Go.st (fun _ k => XS.bipush X0.here hx rfl (hb hby dac_21) k) ?_
      show Go p e below _ s₁ (mkF m 23 #[.val (.long v), .second, .val (.ref a), .val (.int (Int32.ofNat i)), .val (.int (Int32.ofNat n)), .val (.int x)] [(.int (48 : Int32)), (.int x)])
      rcases Classical.em (x < 48) with q2 | q2
      · skip
        refine Go.st (fun _ k => XS.icmpYes X0.here hx rfl (pc0 := 23) (pc' := 33) rfl (hb hby dac_23) rfl (XT.ii_lt_t q2) (by decide) (by decide) k) ?_
        show Go p e below _ s₁ (mkF m 33 #[.val (.long v), .second, .val (.ref a), .val (.int (Int32.ofNat i)), .val (.int (Int32.ofNat n)), .val (.int x)] [])
        refine Go.st (fun _ k => X0.ldc2J hx hown (mvT hZ (hw _ (List.mem_of_getElem? (i := 69) rfl))) rfl (hb hby dac_33) k) ?_
        show Go p e below _ s₁ (mkF m 36 #[.val (.long v), .second, .val (.ref a), .val (.int (Int32.ofNat i)), .val (.int (Int32.ofNat n)), .val (.int x)] [(.long (-1 : Int64))])
        exact Go.retJ X0 hx hret hlk (hb hby dac_36) ⟨by rw [hac, if_pos q1, hst, if_neg q, if_pos (Or.inl q2)], Fr.nil n0, e0⟩ (Nat.le_refl _) (Nat.le_refl _)
      · skip
        refine Go.st (fun _ k => XS.icmpNo X0.here hx rfl (hb hby dac_23) rfl (XT.ii_lt_f q2) k) ?_
        show Go p e below _ s₁ (mkF m 26 #[.val (.long v), .second, .val (.ref a), .val (.int (Int32.ofNat i)), .val (.int (Int32.ofNat n)), .val (.int x)] [])
        refine Go.st (fun _ k => XS.iload X0.here hx rfl (hb hby dac_26) rfl k) ?_
        show Go p e below _ s₁ (mkF m 28 #[.val (.long v), .second, .val (.ref a), .val (.int (Int32.ofNat i)), .val (.int (Int32.ofNat n)), .val (.int x)] [(.int x)])
        refine Go.st (fun _ k => XS.bipush X0.here hx rfl (hb hby dac_28) k) ?_
        show Go p e below _ s₁ (mkF m 30 #[.val (.long v), .second, .val (.ref a), .val (.int (Int32.ofNat i)), .val (.int (Int32.ofNat n)), .val (.int x)] [(.int (57 : Int32)), (.int x)])
        rcases Classical.em (57 < x) with q3 | q3
        · skip
          refine Go.st (fun _ k => XS.icmpNo X0.here hx rfl (hb hby dac_30) rfl (XT.ii_le_f q3) k) ?_
          show Go p e below _ s₁ (mkF m 33 #[.val (.long v), .second, .val (.ref a), .val (.int (Int32.ofNat i)), .val (.int (Int32.ofNat n)), .val (.int x)] [])
          refine Go.st (fun _ k => X0.ldc2J hx hown (mvT hZ (hw _ (List.mem_of_getElem? (i := 69) rfl))) rfl (hb hby dac_33) k) ?_
          show Go p e below _ s₁ (mkF m 36 #[.val (.long v), .second, .val (.ref a), .val (.int (Int32.ofNat i)), .val (.int (Int32.ofNat n)), .val (.int x)] [(.long (-1 : Int64))])
          exact Go.retJ X0 hx hret hlk (hb hby dac_36) ⟨by rw [hac, if_pos q1, hst, if_neg q, if_pos (Or.inr q3)], Fr.nil n0, e0⟩ (Nat.le_refl _) (Nat.le_refl _)
        · skip
          refine Go.st (fun _ k => XS.icmpYes X0.here hx rfl (pc0 := 30) (pc' := 37) rfl (hb hby dac_30) rfl (XT.ii_le_t q3) (by decide) (by decide) k) ?_
          show Go p e below _ s₁ (mkF m 37 #[.val (.long v), .second, .val (.ref a), .val (.int (Int32.ofNat i)), .val (.int (Int32.ofNat n)), .val (.int x)] [])
          refine Go.st (fun _ k => XT.lloadN X0.here hx rfl (hb hby dac_37) rfl k) ?_
          show Go p e below _ s₁ (mkF m 38 #[.val (.long v), .second, .val (.ref a), .val (.int (Int32.ofNat i)), .val (.int (Int32.ofNat n)), .val (.int x)] [(.long v)])
          refine Go.st (fun _ k => X0.ldc2J hx hown (mvT hZ (hw _ (List.mem_of_getElem? (i := 132) rfl))) rfl (hb hby dac_38) k) ?_
          show Go p e below _ s₁ (mkF m 41 #[.val (.long v), .second, .val (.ref a), .val (.int (Int32.ofNat i)), .val (.int (Int32.ofNat n)), .val (.int x)] [(.long (10 : Int64)), (.long v)])
          refine Go.st (fun _ k => XT.lmul X0.here hx rfl (hb hby dac_41) rfl k) ?_
          show Go p e below _ s₁ (mkF m 42 #[.val (.long v), .second, .val (.ref a), .val (.int (Int32.ofNat i)), .val (.int (Int32.ofNat n)), .val (.int x)] [(.long (v * (10 : Int64)))])
          refine Go.st (fun _ k => XS.iload X0.here hx rfl (hb hby dac_42) rfl k) ?_
          show Go p e below _ s₁ (mkF m 44 #[.val (.long v), .second, .val (.ref a), .val (.int (Int32.ofNat i)), .val (.int (Int32.ofNat n)), .val (.int x)] [(.int x), (.long (v * (10 : Int64)))])
          refine Go.st (fun _ k => XS.bipush X0.here hx rfl (hb hby dac_44) k) ?_
          show Go p e below _ s₁ (mkF m 46 #[.val (.long v), .second, .val (.ref a), .val (.int (Int32.ofNat i)), .val (.int (Int32.ofNat n)), .val (.int x)] [(.int (48 : Int32)), (.int x), (.long (v * (10 : Int64)))])
          refine Go.st (fun _ k => XS.isub X0.here hx rfl (hb hby dac_46) rfl k) ?_
          show Go p e below _ s₁ (mkF m 47 #[.val (.long v), .second, .val (.ref a), .val (.int (Int32.ofNat i)), .val (.int (Int32.ofNat n)), .val (.int x)] [(.int (x - (48 : Int32))), (.long (v * (10 : Int64)))])
          refine Go.st (fun _ k => XT.i2l X0.here hx rfl (hb hby dac_47) rfl k) ?_
          show Go p e below _ s₁ (mkF m 48 #[.val (.long v), .second, .val (.ref a), .val (.int (Int32.ofNat i)), .val (.int (Int32.ofNat n)), .val (.int x)] [(.long ((x - (48 : Int32)).toInt64)), (.long (v * (10 : Int64)))])
          refine Go.st (fun _ k => XT.ladd X0.here hx rfl (hb hby dac_48) rfl k) ?_
          show Go p e below _ s₁ (mkF m 49 #[.val (.long v), .second, .val (.ref a), .val (.int (Int32.ofNat i)), .val (.int (Int32.ofNat n)), .val (.int x)] [(.long ((v * (10 : Int64)) + ((x - (48 : Int32)).toInt64)))])
          exact Go.retJ X0 hx hret hlk (hb hby dac_49) ⟨by rw [hac, if_pos q1, hst, if_neg q, if_neg (fun z => z.elim q2 q3)], Fr.nil n0, e0⟩ (Nat.le_refl _) (Nat.le_refl _)
theorem dem_0 : decode jdk_2649_method_2_code 0 = .ok (.getstatic 17, 3) := by decide +kernel
theorem dem_3 : decode jdk_2649_method_2_code 3 = .ok (.areturn, 1) := by decide +kernel
set_option maxRecDepth 65536 in
set_option maxHeartbeats 40000000 in
theorem rmEM (l : Launch) (Z : State) (a0 : Array Value) (hw : ∀ d ∈ tables_1, d.before a0 Z = true) (em : Addr) (SE : Sta Z Z.heap "java/util/OptionalInt" "EMPTY" "Ljava/util/OptionalInt;" (.ref em)) (h0 : Heap) (n0 : Nat) (O : Ext Z.heap h0) :
    Ctr l Z (⟨"java/util/OptionalInt", "empty", "()Ljava/util/OptionalInt;"⟩ : MethodName) jdk_2649_method_2_code 0 (some (.object "java/util/OptionalInt")) [] ({ frames := 0, cells := 0, slots := 0, locals := 0 } : Room) #[] h0 (QR em h0 n0) := by
  refine Ctr.of (plainFor_of_name pn_36) ?_
  intro p e s m below meth c s₁ hx hby hml hown hnm hret hlk hZ X0 e0
  refine Go.cast (ef_35 m ) ?_
  show Go p e below _ s₁ (mkF m 0 #[] [])
  obtain ⟨T1, X1, e1, st1⟩ := getS2 X0 hx hZ hown (host := "") (Or.inl (hw _ (List.mem_of_getElem? (i := 50) rfl))) Via.refl e0 (SE.ext O) (g := (mkF m 0 #[] [])) rfl (hb hby dem_0)
  refine Go.st st1 ?_
  show Go p e below _ T1 (mkF m 3 #[] [(.ref em)])
  exact Go.retV X1 hx hret hlk rfl rfl (hb hby dem_3) ⟨rfl, Fr.nil n0, e1⟩ (by (try dsimp only [room_1]); (try simp only [List.length_cons, List.length_nil]); omega) (by (try dsimp only [room_1]); (try simp only [List.length_cons, List.length_nil]); omega)
theorem doi_0 : decode jdk_2649_method_3_code 0 = .ok (.aload_n 0, 1) := by decide +kernel
theorem doi_1 : decode jdk_2649_method_3_code 1 = .ok (.invokespecial 1, 3) := by decide +kernel
theorem doi_4 : decode jdk_2649_method_3_code 4 = .ok (.aload_n 0, 1) := by decide +kernel
theorem doi_5 : decode jdk_2649_method_3_code 5 = .ok (.iconst 1, 1) := by decide +kernel
theorem doi_6 : decode jdk_2649_method_3_code 6 = .ok (.putfield 7, 3) := by decide +kernel
theorem doi_9 : decode jdk_2649_method_3_code 9 = .ok (.aload_n 0, 1) := by decide +kernel
theorem doi_10 : decode jdk_2649_method_3_code 10 = .ok (.iload_n 1, 1) := by decide +kernel
theorem doi_11 : decode jdk_2649_method_3_code 11 = .ok (.putfield 13, 3) := by decide +kernel
theorem doi_14 : decode jdk_2649_method_3_code 14 = .ok (.return_, 1) := by decide +kernel
def QOI (Z : State) (o : Addr) (y : Int32) (h0 : Heap) (n0 : Nat) (v : Option Value) (h : Heap) (L : List Loc) : Prop := v = none ∧ Fr n0 L ∧ Keep h0 h [o] ∧ Exa Z h o "java/util/OptionalInt" ∧ Fld Z h o "java/util/OptionalInt" "isPresent" "Z" (.int 1) ∧ Fld Z h o "java/util/OptionalInt" "value" "I" (.int y)
set_option maxRecDepth 65536 in
set_option maxHeartbeats 40000000 in
theorem rmOI (l : Launch) (Z : State) (a0 : Array Value) (hw : ∀ d ∈ tables_1, d.before a0 Z = true) (o : Addr) (y : Int32) (u1 u2 : Value) (h0 : Heap) (n0 : Nat) (hno : n0 ≤ o) (Eo : Exa Z h0 o "java/util/OptionalInt") (F1 : Fld Z h0 o "java/util/OptionalInt" "isPresent" "Z" u1) (F2 : Fld Z h0 o "java/util/OptionalInt" "value" "I" u2) :
    Ctr l Z (⟨"java/util/OptionalInt", "<init>", "(I)V"⟩ : MethodName) jdk_2649_method_3_code 2 none [] ({ frames := 1, cells := 0, slots := 0, locals := 12 } : Room) #[(.ref o), (.int y)] h0 (QOI Z o y h0 n0) := by
  refine Ctr.of (plainFor_of_name pn_36) ?_
  intro p e s m below meth c s₁ hx hby hml hown hnm hret hlk hZ X0 e0
  refine Go.cast (ef_7 m o y) ?_
  show Go p e below _ s₁ (mkF m 0 #[.val (.ref o), .val (.int y)] [])
  refine Go.st (fun _ k => XS.aloadN X0.here hx rfl (hb hby doi_0) rfl rfl k) ?_
  show Go p e below _ s₁ (mkF m 1 #[.val (.ref o), .val (.int y)] [(.ref o)])
  obtain ⟨T1, X1, e1, st1⟩ := initO X0 hx hZ hown (hw _ (List.mem_of_getElem? (i := 143) rfl)) (hw _ (List.mem_of_getElem? (i := 23) rfl)) (hw _ (List.mem_of_getElem? (i := 24) rfl)) e0 (g := (mkF m 1 #[.val (.ref o), .val (.int y)] [(.ref o)])) rfl (by rw [hml]; rfl) rfl (hb hby doi_1) (by (try dsimp only [room_1]); (try simp only [List.length_cons, List.length_nil]); omega) (W := 0) (by show 2 * 0 + _ ≤ _; exact Nat.le_of_eq rfl) (by (try dsimp only [room_1]); (try simp only [List.length_cons, List.length_nil]); omega)
  refine Go.st st1 ?_
  show Go p e below _ T1 (mkF m 4 #[.val (.ref o), .val (.int y)] [])
  refine Go.st (fun _ k => XS.aloadN X1.here hx rfl (hb hby doi_4) rfl rfl k) ?_
  show Go p e below _ T1 (mkF m 5 #[.val (.ref o), .val (.int y)] [(.ref o)])
  refine Go.st (fun _ k => XS.iconst X1.here hx rfl (hb hby doi_5) k) ?_
  show Go p e below _ T1 (mkF m 6 #[.val (.ref o), .val (.int y)] [(.int (1 : Int32)), (.ref o)])
  have sn := slot_ne (Or.inr (hw _ (List.mem_of_getElem? (i := 145) rfl))) (Or.inr (hw _ (List.mem_of_getElem? (i := 57) rfl))) (by decide) (t := .int) (t' := .boolean) (by decide) (by decide)
  have sn' := slot_ne (Or.inr (hw _ (List.mem_of_getElem? (i := 57) rfl))) (Or.inr (hw _ (List.mem_of_getElem? (i := 145) rfl))) (by decide) (t := .boolean) (t' := .int) (by decide) (by decide)
  obtain ⟨T2, h2, X2, e2, W2, st2⟩ := putF X1 hx hZ hown (host := "") (Or.inl (hw _ (List.mem_of_getElem? (i := 56) rfl))) Via.refl e1 F1 Eo (Or.inr ⟨(hw _ (List.mem_of_getElem? (i := 57) rfl)), rfl, hnm⟩) (hw _ (List.mem_of_getElem? (i := 138) rfl)) (ty := .boolean) (by decide) rfl rfl (g := (mkF m 6 #[.val (.ref o), .val (.int y)] [(.int (1 : Int32)), (.ref o)])) rfl rfl (hb hby doi_6)
  refine Go.st st2 ?_
  show Go p e below _ T2 (mkF m 9 #[.val (.ref o), .val (.int y)] [])
  refine Go.st (fun _ k => XS.aloadN X2.here hx rfl (hb hby doi_9) rfl rfl k) ?_
  show Go p e below _ T2 (mkF m 10 #[.val (.ref o), .val (.int y)] [(.ref o)])
  refine Go.st (fun _ k => XS.iloadN X2.here hx rfl (hb hby doi_10) rfl k) ?_
  show Go p e below _ T2 (mkF m 11 #[.val (.ref o), .val (.int y)] [(.int y), (.ref o)])
  obtain ⟨T3, h3, X3, e3, W3, st3⟩ := putF X2 hx hZ hown (host := "") (Or.inl (hw _ (List.mem_of_getElem? (i := 144) rfl))) Via.refl e2 (F2.other W2 (Or.inr sn)) (Eo.wr W2) (Or.inr ⟨(hw _ (List.mem_of_getElem? (i := 145) rfl)), rfl, hnm⟩) (hw _ (List.mem_of_getElem? (i := 138) rfl)) (ty := .int) (by decide) rfl rfl (g := (mkF m 11 #[.val (.ref o), .val (.int y)] [(.int y), (.ref o)])) rfl rfl (hb hby doi_11)
  refine Go.st st3 ?_
  show Go p e below _ T3 (mkF m 14 #[.val (.ref o), .val (.int y)] [])
  have K3 : Keep h0 h3 [o] := ((Keep.refl h0 [o]).wr W2 (Or.inl (List.mem_cons_self ..))).wr W3 (Or.inl (List.mem_cons_self ..))
  exact Go.ret0 X3 hx hret hlk (hb hby doi_14) ⟨rfl, Fr.snoc X3 (Fr.snoc X2 (Fr.nil n0) hno) hno, e3 ▸ K3, e3 ▸ (Eo.wr W2).wr W3, e3 ▸ (F1.same W2).other W3 (Or.inr sn'), e3 ▸ (F2.other W2 (Or.inr sn)).same W3⟩ (by (try dsimp only [room_1]); (try simp only [List.length_cons, List.length_nil]); omega) (by (try dsimp only [room_1]); (try simp only [List.length_cons, List.length_nil]); omega)
theorem dof_0 : decode jdk_2649_method_4_code 0 = .ok (.new 8, 3) := by decide +kernel
theorem dof_3 : decode jdk_2649_method_4_code 3 = .ok (.dup, 1) := by decide +kernel
theorem dof_4 : decode jdk_2649_method_4_code 4 = .ok (.iload_n 0, 1) := by decide +kernel
theorem dof_5 : decode jdk_2649_method_4_code 5 = .ok (.invokespecial 21, 3) := by decide +kernel
theorem dof_8 : decode jdk_2649_method_4_code 8 = .ok (.areturn, 1) := by decide +kernel
def QOF (Z : State) (y : Int32) (h0 : Heap) (n0 : Nat) (v : Option Value) (h : Heap) (L : List Loc) : Prop := ∃ o, v = some (.ref o) ∧ Fr n0 L ∧ Keep h0 h [] ∧ Exa Z h o "java/util/OptionalInt" ∧ Fld Z h o "java/util/OptionalInt" "isPresent" "Z" (.int 1) ∧ Fld Z h o "java/util/OptionalInt" "value" "I" (.int y)
set_option maxRecDepth 65536 in
set_option maxHeartbeats 40000000 in
theorem rmOF (l : Launch) (Z : State) (a0 : Array Value) (hw : ∀ d ∈ tables_1, d.before a0 Z = true) (y : Int32) (h0 : Heap) (n0 : Nat) (Z0 : n0 ≤ h0.size) :
    Ctr l Z (⟨"java/util/OptionalInt", "of", "(I)Ljava/util/OptionalInt;"⟩ : MethodName) jdk_2649_method_4_code 1 (some (.object "java/util/OptionalInt")) [] ({ frames := 2, cells := 1, slots := 2, locals := 26 } : Room) #[(.int y)] h0 (QOF Z y h0 n0) := by
  refine Ctr.of (plainFor_of_name pn_36) ?_
  intro p e s m below meth c s₁ hx hby hml hown hnm hret hlk hZ X0 e0
  refine Go.cast (ef_0 m y) ?_
  show Go p e below _ s₁ (mkF m 0 #[.val (.int y)] [])
  obtain ⟨T1, h1, X1, e1, E1, A1, D1, -, st1⟩ := newO X0 hx hZ hown (hw _ (List.mem_of_getElem? (i := 137) rfl)) (hw _ (List.mem_of_getElem? (i := 138) rfl)) (hw _ (List.mem_of_getElem? (i := 48) rfl)) e0 (g := (mkF m 0 #[.val (.int y)] [])) rfl (hb hby dof_0) (by (try dsimp only [room_1]); (try simp only [List.length_cons, List.length_nil]); omega) (by (try dsimp only [room_1]); (try simp only [List.length_cons, List.length_nil]); omega)
  obtain ⟨a1, g1⟩ : ∃ z, z = h0.size := ⟨_, rfl⟩
  rw [← g1] at A1 D1 st1
  have l1 : a1 < h1.size := A1.lt
  have sE1 := E1.1
  refine Go.st st1 ?_
  show Go p e below _ T1 (mkF m 3 #[.val (.int y)] [(.ref a1)])
  refine Go.st (fun _ k => XS.dup X1.here hx rfl (hb hby dof_3) rfl rfl k) ?_
  show Go p e below _ T1 (mkF m 4 #[.val (.int y)] [(.ref a1), (.ref a1)])
  refine Go.st (fun _ k => XS.iloadN X1.here hx rfl (hb hby dof_4) rfl k) ?_
  show Go p e below _ T1 (mkF m 5 #[.val (.int y)] [(.int y), (.ref a1), (.ref a1)])
  refine Go.callI X1 hx (y := (⟨"java/util/OptionalInt", "<init>", "(I)V"⟩ : MethodName)) rfl hown (mvT hZ (hw _ (List.mem_of_getElem? (i := 139) rfl))) (mvT hZ (hw _ (List.mem_of_getElem? (i := 140) rfl))) (mvT hZ (hw _ (List.mem_of_getElem? (i := 142) rfl))) (by decide) (Ctr.back (W := 1) (rmOI l Z a0 hw a1 y _ _ h1 n0 (by omega) A1 (D1 (Or.inr (hw _ (List.mem_of_getElem? (i := 57) rfl))) (ty := .boolean) (by decide)) (D1 (Or.inr (hw _ (List.mem_of_getElem? (i := 145) rfl))) (ty := .int) (by decide))) hZ (hw _ (List.mem_of_getElem? (i := 142) rfl)) (hw _ (List.mem_of_getElem? (i := 48) rfl)) (by (try dsimp only [room_1]); (try simp only [List.length_cons, List.length_nil]); omega) (by (try dsimp only [room_1]); (try simp only [List.length_cons, List.length_nil]); omega)) e1 (g := (mkF m 5 #[.val (.int y)] [(.int y), (.ref a1), (.ref a1)])) rfl (by rw [hml]; rfl) (a := a1) (argsL := [(.int y)]) (rest := [(.ref a1)]) (lenOf pd_37 rfl) rfl (by show 2 * 0 + _ ≤ _; exact Nat.le_of_eq rfl) (hb hby dof_5) rfl (by (try dsimp only [room_1]); (try simp only [List.length_cons, List.length_nil]); omega) (by (try dsimp only [room_1]); (try simp only [List.length_cons, List.length_nil]); omega) ?_
  rintro _ T2 L2 X2 ⟨rfl, N2, K2, R2⟩
  show Go p e below _ T2 (mkF m 8 #[.val (.int y)] [(.ref a1)])
  exact Go.retV X2 hx hret hlk rfl rfl (hb hby dof_8) ⟨a1, rfl, Fr.app (Fr.nil n0) N2, ((Keep.refl h0 []).ext E1).trans K2 (fun x q => Or.inr (by cases List.mem_singleton.mp q; omega)), R2⟩ (by (try dsimp only [room_1]); (try simp only [List.length_cons, List.length_nil]); omega) (by (try dsimp only [room_1]); (try simp only [List.length_cons, List.length_nil]); omega)
theorem dip_0 : decode jdk_2649_method_6_code 0 = .ok (.aload_n 0, 1) := by decide +kernel
theorem dip_1 : decode jdk_2649_method_6_code 1 = .ok (.getfield 7, 3) := by decide +kernel
theorem dip_4 : decode jdk_2649_method_6_code 4 = .ok (.ireturn, 1) := by decide +kernel
set_option maxRecDepth 65536 in
set_option maxHeartbeats 40000000 in
theorem rmIP (l : Launch) (Z : State) (a0 : Array Value) (hw : ∀ d ∈ tables_1, d.before a0 Z = true) (o : Addr) (b : Int32) (hb01 : b = 0 ∨ b = 1) (h0 : Heap) (n0 : Nat) (F1 : Fld Z h0 o "java/util/OptionalInt" "isPresent" "Z" (.int b)) :
    Ctr l Z (⟨"java/util/OptionalInt", "isPresent", "()Z"⟩ : MethodName) jdk_2649_method_6_code 1 (some .boolean) [] ({ frames := 0, cells := 0, slots := 0, locals := 0 } : Room) #[(.ref o)] h0 (QP b h0 n0) := by
  refine Ctr.of (plainFor_of_name pn_36) ?_
  intro p e s m below meth c s₁ hx hby hml hown hnm hret hlk hZ X0 e0
  refine Go.cast (ef_21 m o) ?_
  show Go p e below _ s₁ (mkF m 0 #[.val (.ref o)] [])
  refine Go.st (fun _ k => XS.aloadN X0.here hx rfl (hb hby dip_0) rfl rfl k) ?_
  show Go p e below _ s₁ (mkF m 1 #[.val (.ref o)] [(.ref o)])
  obtain ⟨T1, X1, e1, st1⟩ := getF X0 hx hZ hown (host := "") (Or.inl (hw _ (List.mem_of_getElem? (i := 56) rfl))) Via.refl e0 F1 (g := (mkF m 1 #[.val (.ref o)] [(.ref o)])) rfl rfl (hb hby dip_1)
  refine Go.st st1 ?_
  show Go p e below _ T1 (mkF m 4 #[.val (.ref o)] [(.int b)])
  exact Go.retB X1 hx hret hlk (Or.inl rfl) (hb hby dip_4) ⟨by rcases hb01 with rfl | rfl <;> rfl, Fr.nil n0, e1⟩ (by (try dsimp only [room_1]); (try simp only [List.length_cons, List.length_nil]); omega) (by (try dsimp only [room_1]); (try simp only [List.length_cons, List.length_nil]); omega)
theorem dgi_0 : decode jdk_2649_method_5_code 0 = .ok (.aload_n 0, 1) := by decide +kernel
theorem dgi_1 : decode jdk_2649_method_5_code 1 = .ok (.getfield 7, 3) := by decide +kernel
theorem dgi_4 : decode jdk_2649_method_5_code 4 = .ok (.ifCond .ne 13, 3) := by decide +kernel
theorem dgi_17 : decode jdk_2649_method_5_code 17 = .ok (.aload_n 0, 1) := by decide +kernel
theorem dgi_18 : decode jdk_2649_method_5_code 18 = .ok (.getfield 13, 3) := by decide +kernel
theorem dgi_21 : decode jdk_2649_method_5_code 21 = .ok (.ireturn, 1) := by decide +kernel
set_option maxRecDepth 65536 in
set_option maxHeartbeats 40000000 in
theorem rmGI (l : Launch) (Z : State) (a0 : Array Value) (hw : ∀ d ∈ tables_1, d.before a0 Z = true) (o : Addr) (y : Int32) (h0 : Heap) (n0 : Nat) (F1 : Fld Z h0 o "java/util/OptionalInt" "isPresent" "Z" (.int 1)) (F2 : Fld Z h0 o "java/util/OptionalInt" "value" "I" (.int y)) :
    Ctr l Z (⟨"java/util/OptionalInt", "getAsInt", "()I"⟩ : MethodName) jdk_2649_method_5_code 1 (some .int) [] ({ frames := 0, cells := 0, slots := 0, locals := 0 } : Room) #[(.ref o)] h0 (QP y h0 n0) := by
  refine Ctr.of (plainFor_of_name pn_36) ?_
  intro p e s m below meth c s₁ hx hby hml hown hnm hret hlk hZ X0 e0
  refine Go.cast (ef_21 m o) ?_
  show Go p e below _ s₁ (mkF m 0 #[.val (.ref o)] [])
  refine Go.st (fun _ k => XS.aloadN X0.here hx rfl (hb hby dgi_0) rfl rfl k) ?_
  show Go p e below _ s₁ (mkF m 1 #[.val (.ref o)] [(.ref o)])
  obtain ⟨T1, X1, e1, st1⟩ := getF X0 hx hZ hown (host := "") (Or.inl (hw _ (List.mem_of_getElem? (i := 56) rfl))) Via.refl e0 F1 (g := (mkF m 1 #[.val (.ref o)] [(.ref o)])) rfl rfl (hb hby dgi_1)
  refine Go.st st1 ?_
  show Go p e below _ T1 (mkF m 4 #[.val (.ref o)] [(.int (1 : Int32))])
  refine Go.st (fun _ k => XS.ifYes X1.here hx rfl (pc0 := 4) (pc' := 17) rfl (hb hby dgi_4) rfl (XT.i0_ne_t (by decide)) (by decide) (by decide) k) ?_
  show Go p e below _ T1 (mkF m 17 #[.val (.ref o)] [])
  refine Go.st (fun _ k => XS.aloadN X1.here hx rfl (hb hby dgi_17) rfl rfl k) ?_
  show Go p e below _ T1 (mkF m 18 #[.val (.ref o)] [(.ref o)])
  obtain ⟨T2, X2, e2, st2⟩ := getF X1 hx hZ hown (host := "") (Or.inl (hw _ (List.mem_of_getElem? (i := 144) rfl))) Via.refl e1 F2 (g := (mkF m 18 #[.val (.ref o)] [(.ref o)])) rfl rfl (hb hby dgi_18)
  refine Go.st st2 ?_
  show Go p e below _ T2 (mkF m 21 #[.val (.ref o)] [(.int y)])
  exact Go.retI X2 hx hret hlk (hb hby dgi_21) ⟨rfl, Fr.nil n0, e2⟩ (by (try dsimp only [room_1]); (try simp only [List.length_cons, List.length_nil]); omega) (by (try dsimp only [room_1]); (try simp only [List.length_cons, List.length_nil]); omega)
def own_parse (ds : List Int32) (mn mx : Int32) : Option Int32 := if ds = [] then none else match own_go mx.toInt64 ds 0 with | none => none | some v => if v < mn.toInt64 then none else some v.toInt32
theorem own_parse_some {ds : List Int32} {mn mx : Int32} {v : Int64} (h : ds ≠ []) (g : own_go mx.toInt64 ds 0 = some v) : own_parse ds mn mx = if v < mn.toInt64 then none else some v.toInt32 := by unfold own_parse; rw [if_neg h, g]
theorem own_parse_none {ds : List Int32} {mn mx : Int32} (g : own_go mx.toInt64 ds 0 = none) : own_parse ds mn mx = none := by unfold own_parse; split <;> simp [g]
def QPA (Z : State) (r : Option Int32) (h0 : Heap) (n0 : Nat) (v : Option Value) (h : Heap) (L : List Loc) : Prop := ∃ o, v = some (.ref o) ∧ Fr n0 L ∧ Keep h0 h [] ∧ Exa Z h o "java/util/OptionalInt" ∧ ((r = none ∧ Fld Z h o "java/util/OptionalInt" "isPresent" "Z" (.int 0)) ∨ ∃ y, r = some y ∧ Fld Z h o "java/util/OptionalInt" "isPresent" "Z" (.int 1) ∧ Fld Z h o "java/util/OptionalInt" "value" "I" (.int y))
theorem own_go_cons {M : Int64} {ds : List Int32} {i : Nat} {x : Int32} {v : Int64} (hx : ds[i]? = some x) : own_go M (ds.drop i) v = if x < 48 ∨ 57 < x then none else if M < v * 10 + (x - 48).toInt64 then none else own_go M (ds.drop (i + 1)) (v * 10 + (x - 48).toInt64) := by
  obtain ⟨hi, rfl⟩ := List.getElem?_eq_some_iff.mp hx
  rw [List.drop_eq_getElem_cons hi]; rfl
theorem dpa_0 : decode prog_17_method_2_code 0 = .ok (.aload_n 0, 1) := by decide +kernel
theorem dpa_1 : decode prog_17_method_2_code 1 = .ok (.invokevirtual 7, 3) := by decide +kernel
theorem dpa_4 : decode prog_17_method_2_code 4 = .ok (.ifCond .eq 7, 3) := by decide +kernel
theorem dpa_7 : decode prog_17_method_2_code 7 = .ok (.invokestatic 13, 3) := by decide +kernel
theorem dpa_10 : decode prog_17_method_2_code 10 = .ok (.areturn, 1) := by decide +kernel
theorem dpa_11 : decode prog_17_method_2_code 11 = .ok (.lconst 0, 1) := by decide +kernel
theorem dpa_12 : decode prog_17_method_2_code 12 = .ok (.lstore_n 3, 1) := by decide +kernel
theorem dpa_13 : decode prog_17_method_2_code 13 = .ok (.iconst 0, 1) := by decide +kernel
theorem dpa_14 : decode prog_17_method_2_code 14 = .ok (.istore 5, 2) := by decide +kernel
theorem dpa_16 : decode prog_17_method_2_code 16 = .ok (.iload 5, 2) := by decide +kernel
theorem dpa_18 : decode prog_17_method_2_code 18 = .ok (.aload_n 0, 1) := by decide +kernel
theorem dpa_19 : decode prog_17_method_2_code 19 = .ok (.invokevirtual 19, 3) := by decide +kernel
theorem dpa_22 : decode prog_17_method_2_code 22 = .ok (.if_icmp .ge 59, 3) := by decide +kernel
theorem dpa_25 : decode prog_17_method_2_code 25 = .ok (.aload_n 0, 1) := by decide +kernel
theorem dpa_26 : decode prog_17_method_2_code 26 = .ok (.iload 5, 2) := by decide +kernel
theorem dpa_28 : decode prog_17_method_2_code 28 = .ok (.invokevirtual 23, 3) := by decide +kernel
theorem dpa_31 : decode prog_17_method_2_code 31 = .ok (.istore 6, 2) := by decide +kernel
theorem dpa_33 : decode prog_17_method_2_code 33 = .ok (.iload 6, 2) := by decide +kernel
theorem dpa_35 : decode prog_17_method_2_code 35 = .ok (.bipush 48, 2) := by decide +kernel
theorem dpa_37 : decode prog_17_method_2_code 37 = .ok (.if_icmp .lt 10, 3) := by decide +kernel
theorem dpa_40 : decode prog_17_method_2_code 40 = .ok (.iload 6, 2) := by decide +kernel
theorem dpa_42 : decode prog_17_method_2_code 42 = .ok (.bipush 57, 2) := by decide +kernel
theorem dpa_44 : decode prog_17_method_2_code 44 = .ok (.if_icmp .le 7, 3) := by decide +kernel
theorem dpa_47 : decode prog_17_method_2_code 47 = .ok (.invokestatic 13, 3) := by decide +kernel
theorem dpa_50 : decode prog_17_method_2_code 50 = .ok (.areturn, 1) := by decide +kernel
theorem dpa_51 : decode prog_17_method_2_code 51 = .ok (.lload_n 3, 1) := by decide +kernel
theorem dpa_52 : decode prog_17_method_2_code 52 = .ok (.ldc2_w 27, 3) := by decide +kernel
theorem dpa_55 : decode prog_17_method_2_code 55 = .ok (.lmul, 1) := by decide +kernel
theorem dpa_56 : decode prog_17_method_2_code 56 = .ok (.iload 6, 2) := by decide +kernel
theorem dpa_58 : decode prog_17_method_2_code 58 = .ok (.bipush 48, 2) := by decide +kernel
theorem dpa_60 : decode prog_17_method_2_code 60 = .ok (.isub, 1) := by decide +kernel
theorem dpa_61 : decode prog_17_method_2_code 61 = .ok (.i2l, 1) := by decide +kernel
theorem dpa_62 : decode prog_17_method_2_code 62 = .ok (.ladd, 1) := by decide +kernel
theorem dpa_63 : decode prog_17_method_2_code 63 = .ok (.lstore_n 3, 1) := by decide +kernel
theorem dpa_64 : decode prog_17_method_2_code 64 = .ok (.lload_n 3, 1) := by decide +kernel
theorem dpa_65 : decode prog_17_method_2_code 65 = .ok (.iload_n 2, 1) := by decide +kernel
theorem dpa_66 : decode prog_17_method_2_code 66 = .ok (.i2l, 1) := by decide +kernel
theorem dpa_67 : decode prog_17_method_2_code 67 = .ok (.lcmp, 1) := by decide +kernel
theorem dpa_68 : decode prog_17_method_2_code 68 = .ok (.ifCond .le 7, 3) := by decide +kernel
theorem dpa_71 : decode prog_17_method_2_code 71 = .ok (.invokestatic 13, 3) := by decide +kernel
theorem dpa_74 : decode prog_17_method_2_code 74 = .ok (.areturn, 1) := by decide +kernel
theorem dpa_75 : decode prog_17_method_2_code 75 = .ok (.iinc 5 1, 3) := by decide +kernel
theorem dpa_78 : decode prog_17_method_2_code 78 = .ok (.goto (-62), 3) := by decide +kernel
theorem dpa_81 : decode prog_17_method_2_code 81 = .ok (.lload_n 3, 1) := by decide +kernel
theorem dpa_82 : decode prog_17_method_2_code 82 = .ok (.iload_n 1, 1) := by decide +kernel
theorem dpa_83 : decode prog_17_method_2_code 83 = .ok (.i2l, 1) := by decide +kernel
theorem dpa_84 : decode prog_17_method_2_code 84 = .ok (.lcmp, 1) := by decide +kernel
theorem dpa_85 : decode prog_17_method_2_code 85 = .ok (.ifCond .ge 9, 3) := by decide +kernel
theorem dpa_88 : decode prog_17_method_2_code 88 = .ok (.invokestatic 13, 3) := by decide +kernel
theorem dpa_91 : decode prog_17_method_2_code 91 = .ok (.goto 8, 3) := by decide +kernel
theorem dpa_94 : decode prog_17_method_2_code 94 = .ok (.lload_n 3, 1) := by decide +kernel
theorem dpa_95 : decode prog_17_method_2_code 95 = .ok (.l2i, 1) := by decide +kernel
theorem dpa_96 : decode prog_17_method_2_code 96 = .ok (.invokestatic 29, 3) := by decide +kernel
theorem dpa_99 : decode prog_17_method_2_code 99 = .ok (.areturn, 1) := by decide +kernel
set_option maxRecDepth 65536 in
set_option maxHeartbeats 40000000 in
theorem lpPA (l : Launch) (Z : State) (a0 : Array Value) (hw : ∀ d ∈ tables_1, d.before a0 Z = true) (z : Int32) (Su : Su16 Z z) (f : Value) (hf : f.isRef = true) (SF : Sta Z Z.heap "jdk/internal/util/Preconditions" "SIOOBE_FORMATTER" "Ljava/util/function/BiFunction;" f) (em : Addr) (SE : Sta Z Z.heap "java/util/OptionalInt" "EMPTY" "Ljava/util/OptionalInt;" (.ref em)) (a t : Addr) (ds : List Int32) (mn mx : Int32) (hn : ds.length ≤ 4000) (hbd : ∀ c ∈ ds, ¬ c < 0 ∧ ¬ (65535 : Int32) < c) (hne : ds ≠ []) (h0 : Heap) (n0 : Nat) (Z0 : n0 ≤ h0.size) (O : Old Z n0 h0) (E : Exa Z h0 a "java/lang/String") (Cd : Fld Z h0 a "java/lang/String" "coder" "B" (.int (own_cod ds))) (V : Fld Z h0 a "java/lang/String" "value" "[B" (.ref t)) (B : AI Z h0 t .byte (own_val ds)) (Em : Exa Z h0 em "java/util/OptionalInt") (Fm : Fld Z h0 em "java/util/OptionalInt" "isPresent" "Z" (.int 0)) {p : Program} {e : Env} {s : State} {m : MethodId} {args : Array Value} {below : List Frame} {meth : Method} {c : Code} (hx : p.tables.exec = Jvm.exec) (hby : c.code = prog_17_method_2_code) (hml : c.maxLocals = 7) (hown : s.vm.findClass "com/example/federate/federate/WholeNumbers" = some m.cls) (hret : meth.sig.returnType = some (.object "java/util/OptionalInt")) (hlk : meth.locks = false) (hZ : Z.Warmed39 s.vm) :
    ∀ (k i : Nat) (T : State) (locs : List Loc) (v : Int64) (s6 : Slot), i + k = ds.length → One s6 → Stand p l e ({ frames := 5, cells := 1, slots := 2, locals := 66 } : Room) s m args below meth c T locs 0 0 → T.heap = h0 → own_go mx.toInt64 ds 0 = own_go mx.toInt64 (ds.drop i) v → Fr n0 locs →
      Go p e below (EndQ s (QPA Z (own_parse ds mn mx) h0 n0) 1 2) T (mkF m 16 #[.val (.ref a), .val (.int mn), .val (.int mx), .val (.long v), .second, .val (.int (Int32.ofNat i)), s6] []) := by
  intro k
  induction k with
  | zero =>
    intro i T locs v s6 hik o6 X1 e1 hgo N
    show Go p e below _ T (mkF m 16 #[.val (.ref a), .val (.int mn), .val (.int mx), .val (.long v), .second, .val (.int (Int32.ofNat i)), s6] [])
    refine Go.st (fun _ k => XS.iload X1.here hx rfl (hb hby dpa_16) rfl k) ?_
    show Go p e below _ T (mkF m 18 #[.val (.ref a), .val (.int mn), .val (.int mx), .val (.long v), .second, .val (.int (Int32.ofNat i)), s6] [(.int (Int32.ofNat i))])
    refine Go.st (fun _ k => XS.aloadN X1.here hx rfl (hb hby dpa_18) rfl rfl k) ?_
    show Go p e below _ T (mkF m 19 #[.val (.ref a), .val (.int mn), .val (.int mx), .val (.long v), .second, .val (.int (Int32.ofNat i)), s6] [(.ref a), (.int (Int32.ofNat i))])
    refine Go.callV X1 hx hZ (C := "java/lang/String") (y := (⟨"java/lang/String", "length", "()I"⟩ : MethodName)) (z := (⟨"java/lang/String", "length", "()I"⟩ : MethodName)) hown (mvT hZ (hw _ (List.mem_of_getElem? (i := 70) rfl))) (mvT hZ (hw _ (List.mem_of_getElem? (i := 71) rfl))) (mvT hZ (hw _ (List.mem_of_getElem? (i := 73) rfl))) (mvT hZ (hw _ (List.mem_of_getElem? (i := 72) rfl))) (by decide) (notFace_of_selects (args := #[]) (mvT hZ (hw _ (List.mem_of_getElem? (i := 73) rfl)))) (Ctr.back (W := 1) (rmLN l Z a0 hw z Su.2.2.2.1 Su.2.2.2.2 a t ds h0 n0 O.2 hn E Cd V B) hZ (hw _ (List.mem_of_getElem? (i := 74) rfl)) (hw _ (List.mem_of_getElem? (i := 14) rfl)) (by (try dsimp only [room_1]); (try simp only [List.length_cons, List.length_nil]); omega) (by (try dsimp only [room_1]); (try simp only [List.length_cons, List.length_nil]); omega)) e1 E (g := (mkF m 19 #[.val (.ref a), .val (.int mn), .val (.int mx), .val (.long v), .second, .val (.int (Int32.ofNat i)), s6] [(.ref a), (.int (Int32.ofNat i))])) rfl (by rw [hml]; rfl) (argsL := []) (rest := [(.int (Int32.ofNat i))]) (lenOf pd_38 rfl) rfl (by show 2 * 0 + _ ≤ _; exact Nat.le_of_eq rfl) (hb hby dpa_19) rfl (by (try dsimp only [room_1]); (try simp only [List.length_cons, List.length_nil]); omega) (by (try dsimp only [room_1]); (try simp only [List.length_cons, List.length_nil]); omega) ?_
    rintro _ T2 L2 X2 ⟨rfl, N2, e2⟩
    show Go p e below _ T2 (mkF m 22 #[.val (.ref a), .val (.int mn), .val (.int mx), .val (.long v), .second, .val (.int (Int32.ofNat i)), s6] [(.int (Int32.ofNat ds.length)), (.int (Int32.ofNat i))])
    have q : ¬ Int32.ofNat i < Int32.ofNat ds.length := by rw [show i = ds.length by omega]; exact fun q => Int32.lt_irrefl q
    refine Go.st (fun _ k => XS.icmpYes X2.here hx rfl (pc0 := 22) (pc' := 81) rfl (hb hby dpa_22) rfl (XT.ii_ge_t q) (by decide) (by decide) k) ?_
    show Go p e below _ T2 (mkF m 81 #[.val (.ref a), .val (.int mn), .val (.int mx), .val (.long v), .second, .val (.int (Int32.ofNat i)), s6] [])
    refine Go.st (fun _ k => XT.lloadN X2.here hx rfl (hb hby dpa_81) rfl k) ?_
    show Go p e below _ T2 (mkF m 82 #[.val (.ref a), .val (.int mn), .val (.int mx), .val (.long v), .second, .val (.int (Int32.ofNat i)), s6] [(.long v)])
    refine Go.st (fun _ k => XS.iloadN X2.here hx rfl (hb hby dpa_82) rfl k) ?_
    show Go p e below _ T2 (mkF m 83 #[.val (.ref a), .val (.int mn), .val (.int mx), .val (.long v), .second, .val (.int (Int32.ofNat i)), s6] [(.int mn), (.long v)])
    refine Go.st (fun _ k => XT.i2l X2.here hx rfl (hb hby dpa_83) rfl k) ?_
    show Go p e below _ T2 (mkF m 84 #[.val (.ref a), .val (.int mn), .val (.int mx), .val (.long v), .second, .val (.int (Int32.ofNat i)), s6] [(.long mn.toInt64), (.long v)])
    refine Go.st (fun _ k => XT.lcmp X2.here hx rfl (hb hby dpa_84) rfl k) ?_
    show Go p e below _ T2 (mkF m 85 #[.val (.ref a), .val (.int mn), .val (.int mx), .val (.long v), .second, .val (.int (Int32.ofNat i)), s6] [(.int (XT.cmpL v mn.toInt64))])
    have hg2 : own_go mx.toInt64 ds 0 = some v := by rw [hgo, show i = ds.length by omega, List.drop_length]; rfl
    have hp := own_parse_some (mn := mn) hne hg2
    rcases Classical.em (v < mn.toInt64) with q1 | q1
    · skip
      refine Go.st (fun _ k => XS.ifNo X2.here hx rfl (hb hby dpa_85) rfl (XT.ll_ge_f q1) k) ?_
      show Go p e below _ T2 (mkF m 88 #[.val (.ref a), .val (.int mn), .val (.int mx), .val (.long v), .second, .val (.int (Int32.ofNat i)), s6] [])
      refine Go.callS X2 hx (y := (⟨"java/util/OptionalInt", "empty", "()Ljava/util/OptionalInt;"⟩ : MethodName)) hown (mvT hZ (hw _ (List.mem_of_getElem? (i := 46) rfl))) (mvT hZ (hw _ (List.mem_of_getElem? (i := 47) rfl))) (mvT hZ (hw _ (List.mem_of_getElem? (i := 48) rfl))) (mvT hZ (hw _ (List.mem_of_getElem? (i := 49) rfl))) (by decide) (Ctr.back (W := 0) (rmEM l Z a0 hw em SE h0 n0 O.2) hZ (hw _ (List.mem_of_getElem? (i := 49) rfl)) (hw _ (List.mem_of_getElem? (i := 48) rfl)) (by (try dsimp only [room_1]); (try simp only [List.length_cons, List.length_nil]); omega) (by (try dsimp only [room_1]); (try simp only [List.length_cons, List.length_nil]); omega)) e2 (g := (mkF m 88 #[.val (.ref a), .val (.int mn), .val (.int mx), .val (.long v), .second, .val (.int (Int32.ofNat i)), s6] [])) rfl (by rw [hml]; rfl) (argsL := []) (rest := []) (lenOf pd_39 rfl) rfl (by show 2 * 0 + _ ≤ _; exact Nat.le_of_eq rfl) (hb hby dpa_88) rfl (by (try dsimp only [room_1]); (try simp only [List.length_cons, List.length_nil]); omega) (by (try dsimp only [room_1]); (try simp only [List.length_cons, List.length_nil]); omega) ?_
      rintro _ T3 L3 X3 ⟨rfl, N3, e3⟩
      show Go p e below _ T3 (mkF m 91 #[.val (.ref a), .val (.int mn), .val (.int mx), .val (.long v), .second, .val (.int (Int32.ofNat i)), s6] [(.ref em)])
      refine Go.st (fun _ k => XS.goto X3.here hx rfl (pc0 := 91) (pc' := 99) rfl (hb hby dpa_91) (by decide) (by decide) k) ?_
      show Go p e below _ T3 (mkF m 99 #[.val (.ref a), .val (.int mn), .val (.int mx), .val (.long v), .second, .val (.int (Int32.ofNat i)), s6] [(.ref em)])
      exact Go.retV X3 hx hret hlk rfl rfl (hb hby dpa_99) ⟨em, rfl, Fr.app (Fr.app N N2) N3, (by rw [e3]; exact Keep.refl _ _), e3 ▸ Em, Or.inl ⟨by rw [hp, if_pos q1], e3 ▸ Fm⟩⟩ (by (try dsimp only [room_1]); (try simp only [List.length_cons, List.length_nil]); omega) (by (try dsimp only [room_1]); (try simp only [List.length_cons, List.length_nil]); omega)
    · skip
      refine Go.st (fun _ k => XS.ifYes X2.here hx rfl (pc0 := 85) (pc' := 94) rfl (hb hby dpa_85) rfl (XT.ll_ge_t q1) (by decide) (by decide) k) ?_
      show Go p e below _ T2 (mkF m 94 #[.val (.ref a), .val (.int mn), .val (.int mx), .val (.long v), .second, .val (.int (Int32.ofNat i)), s6] [])
      refine Go.st (fun _ k => XT.lloadN X2.here hx rfl (hb hby dpa_94) rfl k) ?_
      show Go p e below _ T2 (mkF m 95 #[.val (.ref a), .val (.int mn), .val (.int mx), .val (.long v), .second, .val (.int (Int32.ofNat i)), s6] [(.long v)])
      refine Go.st (fun _ k => XT.l2i X2.here hx rfl (hb hby dpa_95) rfl k) ?_
      show Go p e below _ T2 (mkF m 96 #[.val (.ref a), .val (.int mn), .val (.int mx), .val (.long v), .second, .val (.int (Int32.ofNat i)), s6] [(.int v.toInt32)])
      refine Go.callS X2 hx (y := (⟨"java/util/OptionalInt", "of", "(I)Ljava/util/OptionalInt;"⟩ : MethodName)) hown (mvT hZ (hw _ (List.mem_of_getElem? (i := 134) rfl))) (mvT hZ (hw _ (List.mem_of_getElem? (i := 135) rfl))) (mvT hZ (hw _ (List.mem_of_getElem? (i := 48) rfl))) (mvT hZ (hw _ (List.mem_of_getElem? (i := 136) rfl))) (by decide) (Ctr.back (W := 0) (rmOF l Z a0 hw v.toInt32 h0 n0 Z0) hZ (hw _ (List.mem_of_getElem? (i := 136) rfl)) (hw _ (List.mem_of_getElem? (i := 48) rfl)) (by (try dsimp only [room_1]); (try simp only [List.length_cons, List.length_nil]); omega) (by (try dsimp only [room_1]); (try simp only [List.length_cons, List.length_nil]); omega)) e2 (g := (mkF m 96 #[.val (.ref a), .val (.int mn), .val (.int mx), .val (.long v), .second, .val (.int (Int32.ofNat i)), s6] [(.int v.toInt32)])) rfl (by rw [hml]; rfl) (argsL := [(.int v.toInt32)]) (rest := []) (lenOf pd_40 rfl) rfl (by show 2 * 0 + _ ≤ _; exact Nat.le_of_eq rfl) (hb hby dpa_96) rfl (by (try dsimp only [room_1]); (try simp only [List.length_cons, List.length_nil]); omega) (by (try dsimp only [room_1]); (try simp only [List.length_cons, List.length_nil]); omega) ?_
      rintro _ T3 L3 X3 ⟨o, rfl, N3, K3, Eo, F3, G3⟩
      show Go p e below _ T3 (mkF m 99 #[.val (.ref a), .val (.int mn), .val (.int mx), .val (.long v), .second, .val (.int (Int32.ofNat i)), s6] [(.ref o)])
      exact Go.retV X3 hx hret hlk rfl rfl (hb hby dpa_99) ⟨o, rfl, Fr.app (Fr.app N N2) N3, K3, Eo, Or.inr ⟨_, by rw [hp, if_neg q1], F3, G3⟩⟩ (by (try dsimp only [room_1]); (try simp only [List.length_cons, List.length_nil]); omega) (by (try dsimp only [room_1]); (try simp only [List.length_cons, List.length_nil]); omega)
  | succ k ih =>
    intro i T locs v s6 hik o6 X1 e1 hgo N
    show Go p e below _ T (mkF m 16 #[.val (.ref a), .val (.int mn), .val (.int mx), .val (.long v), .second, .val (.int (Int32.ofNat i)), s6] [])
    refine Go.st (fun _ k => XS.iload X1.here hx rfl (hb hby dpa_16) rfl k) ?_
    show Go p e below _ T (mkF m 18 #[.val (.ref a), .val (.int mn), .val (.int mx), .val (.long v), .second, .val (.int (Int32.ofNat i)), s6] [(.int (Int32.ofNat i))])
    refine Go.st (fun _ k => XS.aloadN X1.here hx rfl (hb hby dpa_18) rfl rfl k) ?_
    show Go p e below _ T (mkF m 19 #[.val (.ref a), .val (.int mn), .val (.int mx), .val (.long v), .second, .val (.int (Int32.ofNat i)), s6] [(.ref a), (.int (Int32.ofNat i))])
    refine Go.callV X1 hx hZ (C := "java/lang/String") (y := (⟨"java/lang/String", "length", "()I"⟩ : MethodName)) (z := (⟨"java/lang/String", "length", "()I"⟩ : MethodName)) hown (mvT hZ (hw _ (List.mem_of_getElem? (i := 70) rfl))) (mvT hZ (hw _ (List.mem_of_getElem? (i := 71) rfl))) (mvT hZ (hw _ (List.mem_of_getElem? (i := 73) rfl))) (mvT hZ (hw _ (List.mem_of_getElem? (i := 72) rfl))) (by decide) (notFace_of_selects (args := #[]) (mvT hZ (hw _ (List.mem_of_getElem? (i := 73) rfl)))) (Ctr.back (W := 1) (rmLN l Z a0 hw z Su.2.2.2.1 Su.2.2.2.2 a t ds h0 n0 O.2 hn E Cd V B) hZ (hw _ (List.mem_of_getElem? (i := 74) rfl)) (hw _ (List.mem_of_getElem? (i := 14) rfl)) (by (try dsimp only [room_1]); (try simp only [List.length_cons, List.length_nil]); omega) (by (try dsimp only [room_1]); (try simp only [List.length_cons, List.length_nil]); omega)) e1 E (g := (mkF m 19 #[.val (.ref a), .val (.int mn), .val (.int mx), .val (.long v), .second, .val (.int (Int32.ofNat i)), s6] [(.ref a), (.int (Int32.ofNat i))])) rfl (by rw [hml]; rfl) (argsL := []) (rest := [(.int (Int32.ofNat i))]) (lenOf pd_38 rfl) rfl (by show 2 * 0 + _ ≤ _; exact Nat.le_of_eq rfl) (hb hby dpa_19) rfl (by (try dsimp only [room_1]); (try simp only [List.length_cons, List.length_nil]); omega) (by (try dsimp only [room_1]); (try simp only [List.length_cons, List.length_nil]); omega) ?_
    rintro _ T2 L2 X2 ⟨rfl, N2, e2⟩
    show Go p e below _ T2 (mkF m 22 #[.val (.ref a), .val (.int mn), .val (.int mx), .val (.long v), .second, .val (.int (Int32.ofNat i)), s6] [(.int (Int32.ofNat ds.length)), (.int (Int32.ofNat i))])
    refine Go.st (fun _ k => XS.icmpNo X2.here hx rfl (hb hby dpa_22) rfl (XT.ii_ge_f (own_ofNat_lt (by omega) (by omega))) k) ?_
    show Go p e below _ T2 (mkF m 25 #[.val (.ref a), .val (.int mn), .val (.int mx), .val (.long v), .second, .val (.int (Int32.ofNat i)), s6] [])
    refine Go.st (fun _ k => XS.aloadN X2.here hx rfl (hb hby dpa_25) rfl rfl k) ?_
    show Go p e below _ T2 (mkF m 26 #[.val (.ref a), .val (.int mn), .val (.int mx), .val (.long v), .second, .val (.int (Int32.ofNat i)), s6] [(.ref a)])
    refine Go.st (fun _ k => XS.iload X2.here hx rfl (hb hby dpa_26) rfl k) ?_
    show Go p e below _ T2 (mkF m 28 #[.val (.ref a), .val (.int mn), .val (.int mx), .val (.long v), .second, .val (.int (Int32.ofNat i)), s6] [(.int (Int32.ofNat i)), (.ref a)])
    obtain ⟨x, hxi⟩ : ∃ x, ds[i]? = some x := ⟨_, List.getElem?_eq_getElem (by omega)⟩
    refine Go.callV X2 hx hZ (C := "java/lang/String") (y := (⟨"java/lang/String", "charAt", "(I)C"⟩ : MethodName)) (z := (⟨"java/lang/String", "charAt", "(I)C"⟩ : MethodName)) hown (mvT hZ (hw _ (List.mem_of_getElem? (i := 80) rfl))) (mvT hZ (hw _ (List.mem_of_getElem? (i := 81) rfl))) (mvT hZ (hw _ (List.mem_of_getElem? (i := 83) rfl))) (mvT hZ (hw _ (List.mem_of_getElem? (i := 82) rfl))) (by decide) (notFace_of_selects (args := #[]) (mvT hZ (hw _ (List.mem_of_getElem? (i := 83) rfl)))) (Ctr.back (W := 0) (rmSC l Z a0 hw z Su f hf SF a t ds i x hn hxi hbd h0 n0 O E Cd V B) hZ (hw _ (List.mem_of_getElem? (i := 84) rfl)) (hw _ (List.mem_of_getElem? (i := 14) rfl)) (by (try dsimp only [room_1]); (try simp only [List.length_cons, List.length_nil]); omega) (by (try dsimp only [room_1]); (try simp only [List.length_cons, List.length_nil]); omega)) e2 E (g := (mkF m 28 #[.val (.ref a), .val (.int mn), .val (.int mx), .val (.long v), .second, .val (.int (Int32.ofNat i)), s6] [(.int (Int32.ofNat i)), (.ref a)])) rfl (by rw [hml]; rfl) (argsL := [(.int (Int32.ofNat i))]) (rest := []) (lenOf pd_41 rfl) rfl (by show 2 * 0 + _ ≤ _; exact Nat.le_of_eq rfl) (hb hby dpa_28) rfl (by (try dsimp only [room_1]); (try simp only [List.length_cons, List.length_nil]); omega) (by (try dsimp only [room_1]); (try simp only [List.length_cons, List.length_nil]); omega) ?_
    rintro _ T3 L3 X3 ⟨rfl, N3, e3⟩
    show Go p e below _ T3 (mkF m 31 #[.val (.ref a), .val (.int mn), .val (.int mx), .val (.long v), .second, .val (.int (Int32.ofNat i)), s6] [(.int x)])
    refine Go.st (fun _ k => XS.istoreS X3.here hx rfl (hb hby dpa_31) rfl (k := 6) (o := s6) rfl o6 k) ?_
    show Go p e below _ T3 (mkF m 33 #[.val (.ref a), .val (.int mn), .val (.int mx), .val (.long v), .second, .val (.int (Int32.ofNat i)), .val (.int x)] [])
    refine Go.st (fun _ k => XS.iload X3.here hx rfl (hb hby dpa_33) rfl k) ?_
    show Go p e below _ T3 (mkF m 35 #[.val (.ref a), .val (.int mn), .val (.int mx), .val (.long v), .second, .val (.int (Int32.ofNat i)), .val (.int x)] [(.int x)])
    refine Go.st (fun _ k => XS.bipush X3.here hx rfl (hb hby dpa_35) k) ?_
    show Go p e below _ T3 (mkF m 37 #[.val (.ref a), .val (.int mn), .val (.int mx), .val (.long v), .second, .val (.int (Int32.ofNat i)), .val (.int x)] [(.int (48 : Int32)), (.int x)])
    have hgc := hgo.trans (own_go_cons hxi)
    have N03 := Fr.app (Fr.app N N2) N3
    rcases Classical.em (x < 48) with q2 | q2
    · skip
      refine Go.st (fun _ k => XS.icmpYes X3.here hx rfl (pc0 := 37) (pc' := 47) rfl (hb hby dpa_37) rfl (XT.ii_lt_t q2) (by decide) (by decide) k) ?_
      show Go p e below _ T3 (mkF m 47 #[.val (.ref a), .val (.int mn), .val (.int mx), .val (.long v), .second, .val (.int (Int32.ofNat i)), .val (.int x)] [])
      refine Go.callS X3 hx (y := (⟨"java/util/OptionalInt", "empty", "()Ljava/util/OptionalInt;"⟩ : MethodName)) hown (mvT hZ (hw _ (List.mem_of_getElem? (i := 46) rfl))) (mvT hZ (hw _ (List.mem_of_getElem? (i := 47) rfl))) (mvT hZ (hw _ (List.mem_of_getElem? (i := 48) rfl))) (mvT hZ (hw _ (List.mem_of_getElem? (i := 49) rfl))) (by decide) (Ctr.back (W := 0) (rmEM l Z a0 hw em SE h0 n0 O.2) hZ (hw _ (List.mem_of_getElem? (i := 49) rfl)) (hw _ (List.mem_of_getElem? (i := 48) rfl)) (by (try dsimp only [room_1]); (try simp only [List.length_cons, List.length_nil]); omega) (by (try dsimp only [room_1]); (try simp only [List.length_cons, List.length_nil]); omega)) e3 (g := (mkF m 47 #[.val (.ref a), .val (.int mn), .val (.int mx), .val (.long v), .second, .val (.int (Int32.ofNat i)), .val (.int x)] [])) rfl (by rw [hml]; rfl) (argsL := []) (rest := []) (lenOf pd_39 rfl) rfl (by show 2 * 0 + _ ≤ _; exact Nat.le_of_eq rfl) (hb hby dpa_47) rfl (by (try dsimp only [room_1]); (try simp only [List.length_cons, List.length_nil]); omega) (by (try dsimp only [room_1]); (try simp only [List.length_cons, List.length_nil]); omega) ?_
      rintro _ T4 L4 X4 ⟨rfl, N4, e4⟩
      show Go p e below _ T4 (mkF m 50 #[.val (.ref a), .val (.int mn), .val (.int mx), .val (.long v), .second, .val (.int (Int32.ofNat i)), .val (.int x)] [(.ref em)])
      exact Go.retV X4 hx hret hlk rfl rfl (hb hby dpa_50) ⟨em, rfl, Fr.app N03 N4, (by rw [e4]; exact Keep.refl _ _), e4 ▸ Em, Or.inl ⟨own_parse_none (by rw [hgc, if_pos (Or.inl q2)]), e4 ▸ Fm⟩⟩ (by (try dsimp only [room_1]); (try simp only [List.length_cons, List.length_nil]); omega) (by (try dsimp only [room_1]); (try simp only [List.length_cons, List.length_nil]); omega)
    · skip
      refine Go.st (fun _ k => XS.icmpNo X3.here hx rfl (hb hby dpa_37) rfl (XT.ii_lt_f q2) k) ?_
      show Go p e below _ T3 (mkF m 40 #[.val (.ref a), .val (.int mn), .val (.int mx), .val (.long v), .second, .val (.int (Int32.ofNat i)), .val (.int x)] [])
      refine Go.st (fun _ k => XS.iload X3.here hx rfl (hb hby dpa_40) rfl k) ?_
      show Go p e below _ T3 (mkF m 42 #[.val (.ref a), .val (.int mn), .val (.int mx), .val (.long v), .second, .val (.int (Int32.ofNat i)), .val (.int x)] [(.int x)])
      refine Go.st (fun _ k => XS.bipush X3.here hx rfl (hb hby dpa_42) k) ?_
      show Go p e below _ T3 (mkF m 44 #[.val (.ref a), .val (.int mn), .val (.int mx), .val (.long v), .second, .val (.int (Int32.ofNat i)), .val (.int x)] [(.int (57 : Int32)), (.int x)])
      rcases Classical.em (57 < x) with q3 | q3
      · skip
        refine Go.st (fun _ k => XS.icmpNo X3.here hx rfl (hb hby dpa_44) rfl (XT.ii_le_f q3) k) ?_
        show Go p e below _ T3 (mkF m 47 #[.val (.ref a), .val (.int mn), .val (.int mx), .val (.long v), .second, .val (.int (Int32.ofNat i)), .val (.int x)] [])
        refine Go.callS X3 hx (y := (⟨"java/util/OptionalInt", "empty", "()Ljava/util/OptionalInt;"⟩ : MethodName)) hown (mvT hZ (hw _ (List.mem_of_getElem? (i := 46) rfl))) (mvT hZ (hw _ (List.mem_of_getElem? (i := 47) rfl))) (mvT hZ (hw _ (List.mem_of_getElem? (i := 48) rfl))) (mvT hZ (hw _ (List.mem_of_getElem? (i := 49) rfl))) (by decide) (Ctr.back (W := 0) (rmEM l Z a0 hw em SE h0 n0 O.2) hZ (hw _ (List.mem_of_getElem? (i := 49) rfl)) (hw _ (List.mem_of_getElem? (i := 48) rfl)) (by (try dsimp only [room_1]); (try simp only [List.length_cons, List.length_nil]); omega) (by (try dsimp only [room_1]); (try simp only [List.length_cons, List.length_nil]); omega)) e3 (g := (mkF m 47 #[.val (.ref a), .val (.int mn), .val (.int mx), .val (.long v), .second, .val (.int (Int32.ofNat i)), .val (.int x)] [])) rfl (by rw [hml]; rfl) (argsL := []) (rest := []) (lenOf pd_39 rfl) rfl (by show 2 * 0 + _ ≤ _; exact Nat.le_of_eq rfl) (hb hby dpa_47) rfl (by (try dsimp only [room_1]); (try simp only [List.length_cons, List.length_nil]); omega) (by (try dsimp only [room_1]); (try simp only [List.length_cons, List.length_nil]); omega) ?_
        rintro _ T4 L4 X4 ⟨rfl, N4, e4⟩
        show Go p e below _ T4 (mkF m 50 #[.val (.ref a), .val (.int mn), .val (.int mx), .val (.long v), .second, .val (.int (Int32.ofNat i)), .val (.int x)] [(.ref em)])
        exact Go.retV X4 hx hret hlk rfl rfl (hb hby dpa_50) ⟨em, rfl, Fr.app N03 N4, (by rw [e4]; exact Keep.refl _ _), e4 ▸ Em, Or.inl ⟨own_parse_none (by rw [hgc, if_pos (Or.inr q3)]), e4 ▸ Fm⟩⟩ (by (try dsimp only [room_1]); (try simp only [List.length_cons, List.length_nil]); omega) (by (try dsimp only [room_1]); (try simp only [List.length_cons, List.length_nil]); omega)
      · skip
        refine Go.st (fun _ k => XS.icmpYes X3.here hx rfl (pc0 := 44) (pc' := 51) rfl (hb hby dpa_44) rfl (XT.ii_le_t q3) (by decide) (by decide) k) ?_
        show Go p e below _ T3 (mkF m 51 #[.val (.ref a), .val (.int mn), .val (.int mx), .val (.long v), .second, .val (.int (Int32.ofNat i)), .val (.int x)] [])
        rw [if_neg (fun z => z.elim q2 q3)] at hgc
        refine Go.st (fun _ k => XT.lloadN X3.here hx rfl (hb hby dpa_51) rfl k) ?_
        show Go p e below _ T3 (mkF m 52 #[.val (.ref a), .val (.int mn), .val (.int mx), .val (.long v), .second, .val (.int (Int32.ofNat i)), .val (.int x)] [(.long v)])
        refine Go.st (fun _ k => X3.ldc2J hx hown (mvT hZ (hw _ (List.mem_of_getElem? (i := 133) rfl))) rfl (hb hby dpa_52) k) ?_
        show Go p e below _ T3 (mkF m 55 #[.val (.ref a), .val (.int mn), .val (.int mx), .val (.long v), .second, .val (.int (Int32.ofNat i)), .val (.int x)] [(.long (10 : Int64)), (.long v)])
        refine Go.st (fun _ k => XT.lmul X3.here hx rfl (hb hby dpa_55) rfl k) ?_
        show Go p e below _ T3 (mkF m 56 #[.val (.ref a), .val (.int mn), .val (.int mx), .val (.long v), .second, .val (.int (Int32.ofNat i)), .val (.int x)] [(.long (v * (10 : Int64)))])
        refine Go.st (fun _ k => XS.iload X3.here hx rfl (hb hby dpa_56) rfl k) ?_
        show Go p e below _ T3 (mkF m 58 #[.val (.ref a), .val (.int mn), .val (.int mx), .val (.long v), .second, .val (.int (Int32.ofNat i)), .val (.int x)] [(.int x), (.long (v * (10 : Int64)))])
        refine Go.st (fun _ k => XS.bipush X3.here hx rfl (hb hby dpa_58) k) ?_
        show Go p e below _ T3 (mkF m 60 #[.val (.ref a), .val (.int mn), .val (.int mx), .val (.long v), .second, .val (.int (Int32.ofNat i)), .val (.int x)] [(.int (48 : Int32)), (.int x), (.long (v * (10 : Int64)))])
        refine Go.st (fun _ k => XS.isub X3.here hx rfl (hb hby dpa_60) rfl k) ?_
        show Go p e below _ T3 (mkF m 61 #[.val (.ref a), .val (.int mn), .val (.int mx), .val (.long v), .second, .val (.int (Int32.ofNat i)), .val (.int x)] [(.int (x - (48 : Int32))), (.long (v * (10 : Int64)))])
        refine Go.st (fun _ k => XT.i2l X3.here hx rfl (hb hby dpa_61) rfl k) ?_
        show Go p e below _ T3 (mkF m 62 #[.val (.ref a), .val (.int mn), .val (.int mx), .val (.long v), .second, .val (.int (Int32.ofNat i)), .val (.int x)] [(.long ((x - (48 : Int32)).toInt64)), (.long (v * (10 : Int64)))])
        refine Go.st (fun _ k => XT.ladd X3.here hx rfl (hb hby dpa_62) rfl k) ?_
        show Go p e below _ T3 (mkF m 63 #[.val (.ref a), .val (.int mn), .val (.int mx), .val (.long v), .second, .val (.int (Int32.ofNat i)), .val (.int x)] [(.long ((v * (10 : Int64)) + ((x - (48 : Int32)).toInt64)))])
        refine Go.st (fun _ k => XT.lstoreN X3.here hx rfl (hb hby dpa_63) rfl (l' := #[.val (.ref a), .val (.int mn), .val (.int mx), .val (.long ((v * (10 : Int64)) + ((x - (48 : Int32)).toInt64))), .second, .val (.int (Int32.ofNat i)), .val (.int x)]) rfl k) ?_
        show Go p e below _ T3 (mkF m 64 #[.val (.ref a), .val (.int mn), .val (.int mx), .val (.long ((v * (10 : Int64)) + ((x - (48 : Int32)).toInt64))), .second, .val (.int (Int32.ofNat i)), .val (.int x)] [])
        refine Go.st (fun _ k => XT.lloadN X3.here hx rfl (hb hby dpa_64) rfl k) ?_
        show Go p e below _ T3 (mkF m 65 #[.val (.ref a), .val (.int mn), .val (.int mx), .val (.long ((v * (10 : Int64)) + ((x - (48 : Int32)).toInt64))), .second, .val (.int (Int32.ofNat i)), .val (.int x)] [(.long ((v * (10 : Int64)) + ((x - (48 : Int32)).toInt64)))])
        refine Go.st (fun _ k => XS.iloadN X3.here hx rfl (hb hby dpa_65) rfl k) ?_
        show Go p e below _ T3 (mkF m 66 #[.val (.ref a), .val (.int mn), .val (.int mx), .val (.long ((v * (10 : Int64)) + ((x - (48 : Int32)).toInt64))), .second, .val (.int (Int32.ofNat i)), .val (.int x)] [(.int mx), (.long ((v * (10 : Int64)) + ((x - (48 : Int32)).toInt64)))])
        refine Go.st (fun _ k => XT.i2l X3.here hx rfl (hb hby dpa_66) rfl k) ?_
        show Go p e below _ T3 (mkF m 67 #[.val (.ref a), .val (.int mn), .val (.int mx), .val (.long ((v * (10 : Int64)) + ((x - (48 : Int32)).toInt64))), .second, .val (.int (Int32.ofNat i)), .val (.int x)] [(.long mx.toInt64), (.long ((v * (10 : Int64)) + ((x - (48 : Int32)).toInt64)))])
        refine Go.st (fun _ k => XT.lcmp X3.here hx rfl (hb hby dpa_67) rfl k) ?_
        show Go p e below _ T3 (mkF m 68 #[.val (.ref a), .val (.int mn), .val (.int mx), .val (.long ((v * (10 : Int64)) + ((x - (48 : Int32)).toInt64))), .second, .val (.int (Int32.ofNat i)), .val (.int x)] [(.int (XT.cmpL ((v * (10 : Int64)) + ((x - (48 : Int32)).toInt64)) mx.toInt64))])
        rcases Classical.em (mx.toInt64 < (v * (10 : Int64)) + ((x - (48 : Int32)).toInt64)) with q4 | q4
        · skip
          refine Go.st (fun _ k => XS.ifNo X3.here hx rfl (hb hby dpa_68) rfl (XT.ll_le_f q4) k) ?_
          show Go p e below _ T3 (mkF m 71 #[.val (.ref a), .val (.int mn), .val (.int mx), .val (.long ((v * (10 : Int64)) + ((x - (48 : Int32)).toInt64))), .second, .val (.int (Int32.ofNat i)), .val (.int x)] [])
          refine Go.callS X3 hx (y := (⟨"java/util/OptionalInt", "empty", "()Ljava/util/OptionalInt;"⟩ : MethodName)) hown (mvT hZ (hw _ (List.mem_of_getElem? (i := 46) rfl))) (mvT hZ (hw _ (List.mem_of_getElem? (i := 47) rfl))) (mvT hZ (hw _ (List.mem_of_getElem? (i := 48) rfl))) (mvT hZ (hw _ (List.mem_of_getElem? (i := 49) rfl))) (by decide) (Ctr.back (W := 0) (rmEM l Z a0 hw em SE h0 n0 O.2) hZ (hw _ (List.mem_of_getElem? (i := 49) rfl)) (hw _ (List.mem_of_getElem? (i := 48) rfl)) (by (try dsimp only [room_1]); (try simp only [List.length_cons, List.length_nil]); omega) (by (try dsimp only [room_1]); (try simp only [List.length_cons, List.length_nil]); omega)) e3 (g := (mkF m 71 #[.val (.ref a), .val (.int mn), .val (.int mx), .val (.long ((v * (10 : Int64)) + ((x - (48 : Int32)).toInt64))), .second, .val (.int (Int32.ofNat i)), .val (.int x)] [])) rfl (by rw [hml]; rfl) (argsL := []) (rest := []) (lenOf pd_39 rfl) rfl (by show 2 * 0 + _ ≤ _; exact Nat.le_of_eq rfl) (hb hby dpa_71) rfl (by (try dsimp only [room_1]); (try simp only [List.length_cons, List.length_nil]); omega) (by (try dsimp only [room_1]); (try simp only [List.length_cons, List.length_nil]); omega) ?_
          rintro _ T4 L4 X4 ⟨rfl, N4, e4⟩
          show Go p e below _ T4 (mkF m 74 #[.val (.ref a), .val (.int mn), .val (.int mx), .val (.long ((v * (10 : Int64)) + ((x - (48 : Int32)).toInt64))), .second, .val (.int (Int32.ofNat i)), .val (.int x)] [(.ref em)])
          exact Go.retV X4 hx hret hlk rfl rfl (hb hby dpa_74) ⟨em, rfl, Fr.app N03 N4, (by rw [e4]; exact Keep.refl _ _), e4 ▸ Em, Or.inl ⟨own_parse_none (by rw [hgc, if_pos q4]), e4 ▸ Fm⟩⟩ (by (try dsimp only [room_1]); (try simp only [List.length_cons, List.length_nil]); omega) (by (try dsimp only [room_1]); (try simp only [List.length_cons, List.length_nil]); omega)
        · skip
          refine Go.st (fun _ k => XS.ifYes X3.here hx rfl (pc0 := 68) (pc' := 75) rfl (hb hby dpa_68) rfl (XT.ll_le_t q4) (by decide) (by decide) k) ?_
          show Go p e below _ T3 (mkF m 75 #[.val (.ref a), .val (.int mn), .val (.int mx), .val (.long ((v * (10 : Int64)) + ((x - (48 : Int32)).toInt64))), .second, .val (.int (Int32.ofNat i)), .val (.int x)] [])
          rw [if_neg q4] at hgc
          refine Go.st (fun _ k => XS.iinc X3.here hx rfl (hb hby dpa_75) rfl (l' := #[.val (.ref a), .val (.int mn), .val (.int mx), .val (.long ((v * (10 : Int64)) + ((x - (48 : Int32)).toInt64))), .second, .val (.int ((Int32.ofNat i) + (1 : Int32))), .val (.int x)]) rfl k) ?_
          show Go p e below _ T3 (mkF m 78 #[.val (.ref a), .val (.int mn), .val (.int mx), .val (.long ((v * (10 : Int64)) + ((x - (48 : Int32)).toInt64))), .second, .val (.int ((Int32.ofNat i) + (1 : Int32))), .val (.int x)] [])
          rw [own_succ]
          show Go p e below _ T3 (mkF m 78 #[.val (.ref a), .val (.int mn), .val (.int mx), .val (.long ((v * (10 : Int64)) + ((x - (48 : Int32)).toInt64))), .second, .val (.int (Int32.ofNat (i + 1))), .val (.int x)] [])
          refine Go.st (fun _ k => XS.goto X3.here hx rfl (pc0 := 78) (pc' := 16) rfl (hb hby dpa_78) (by decide) (by decide) k) ?_
          show Go p e below _ T3 (mkF m 16 #[.val (.ref a), .val (.int mn), .val (.int mx), .val (.long ((v * (10 : Int64)) + ((x - (48 : Int32)).toInt64))), .second, .val (.int (Int32.ofNat (i + 1))), .val (.int x)] [])
          exact ih (i + 1) T3 _ _ (.val (.int x)) (by omega) (One.val rfl) X3 e3 hgc N03
set_option maxRecDepth 65536 in
set_option maxHeartbeats 40000000 in
theorem rmPA (l : Launch) (Z : State) (a0 : Array Value) (hw : ∀ d ∈ tables_1, d.before a0 Z = true) (z : Int32) (Su : Su16 Z z) (f : Value) (hf : f.isRef = true) (SF : Sta Z Z.heap "jdk/internal/util/Preconditions" "SIOOBE_FORMATTER" "Ljava/util/function/BiFunction;" f) (em : Addr) (SE : Sta Z Z.heap "java/util/OptionalInt" "EMPTY" "Ljava/util/OptionalInt;" (.ref em)) (a t : Addr) (ds : List Int32) (mn mx : Int32) (hn : ds.length ≤ 4000) (hbd : ∀ c ∈ ds, ¬ c < 0 ∧ ¬ (65535 : Int32) < c) (h0 : Heap) (n0 : Nat) (Z0 : n0 ≤ h0.size) (O : Old Z n0 h0) (E : Exa Z h0 a "java/lang/String") (Cd : Fld Z h0 a "java/lang/String" "coder" "B" (.int (own_cod ds))) (V : Fld Z h0 a "java/lang/String" "value" "[B" (.ref t)) (B : AI Z h0 t .byte (own_val ds)) (Em : Exa Z h0 em "java/util/OptionalInt") (Fm : Fld Z h0 em "java/util/OptionalInt" "isPresent" "Z" (.int 0)) :
    Ctr l Z (⟨"com/example/federate/federate/WholeNumbers", "parse", "(Ljava/lang/String;II)Ljava/util/OptionalInt;"⟩ : MethodName) prog_17_method_2_code 7 (some (.object "java/util/OptionalInt")) [] ({ frames := 5, cells := 1, slots := 2, locals := 66 } : Room) #[(.ref a), (.int mn), (.int mx)] h0 (QPA Z (own_parse ds mn mx) h0 n0) := by
  refine Ctr.of (plainFor_of_name pn_43) ?_
  intro p e s m below meth c s₁ hx hby hml hown hnm hret hlk hZ X0 e0
  refine Go.cast (ef_42 m a mn mx) ?_
  show Go p e below _ s₁ (mkF m 0 #[.val (.ref a), .val (.int mn), .val (.int mx), .unset, .unset, .unset, .unset] [])
  refine Go.st (fun _ k => XS.aloadN X0.here hx rfl (hb hby dpa_0) rfl rfl k) ?_
  show Go p e below _ s₁ (mkF m 1 #[.val (.ref a), .val (.int mn), .val (.int mx), .unset, .unset, .unset, .unset] [(.ref a)])
  refine Go.callV X0 hx hZ (C := "java/lang/String") (y := (⟨"java/lang/String", "isEmpty", "()Z"⟩ : MethodName)) (z := (⟨"java/lang/String", "isEmpty", "()Z"⟩ : MethodName)) hown (mvT hZ (hw _ (List.mem_of_getElem? (i := 41) rfl))) (mvT hZ (hw _ (List.mem_of_getElem? (i := 42) rfl))) (mvT hZ (hw _ (List.mem_of_getElem? (i := 44) rfl))) (mvT hZ (hw _ (List.mem_of_getElem? (i := 43) rfl))) (by decide) (notFace_of_selects (args := #[]) (mvT hZ (hw _ (List.mem_of_getElem? (i := 44) rfl)))) (Ctr.back (W := 0) (rmIE l Z a0 hw a t (own_val ds) h0 n0 V B) hZ (hw _ (List.mem_of_getElem? (i := 45) rfl)) (hw _ (List.mem_of_getElem? (i := 14) rfl)) (by (try dsimp only [room_1]); (try simp only [List.length_cons, List.length_nil]); omega) (by (try dsimp only [room_1]); (try simp only [List.length_cons, List.length_nil]); omega)) e0 E (g := (mkF m 1 #[.val (.ref a), .val (.int mn), .val (.int mx), .unset, .unset, .unset, .unset] [(.ref a)])) rfl (by rw [hml]; rfl) (argsL := []) (rest := []) (lenOf pd_31 rfl) rfl (by show 2 * 0 + _ ≤ _; exact Nat.le_of_eq rfl) (hb hby dpa_1) rfl (by (try dsimp only [room_1]); (try simp only [List.length_cons, List.length_nil]); omega) (by (try dsimp only [room_1]); (try simp only [List.length_cons, List.length_nil]); omega) ?_
  rintro _ T1 L1 X1 ⟨rfl, N1, e1⟩
  show Go p e below _ T1 (mkF m 4 #[.val (.ref a), .val (.int mn), .val (.int mx), .unset, .unset, .unset, .unset] [(.int (if own_val ds = [] then 1 else 0))])
  have hnil : own_val ds = [] ↔ ds = [] := by rw [← List.length_eq_zero_iff, own_val_len, ← List.length_eq_zero_iff]; split <;> omega
  rcases Classical.em (ds = []) with q | q
  · skip
    refine Go.st (fun _ k => XS.ifNo X1.here hx rfl (hb hby dpa_4) rfl (XT.i0_eq_f (by rw [if_pos (hnil.mpr q)]; decide)) k) ?_
    show Go p e below _ T1 (mkF m 7 #[.val (.ref a), .val (.int mn), .val (.int mx), .unset, .unset, .unset, .unset] [])
    refine Go.callS X1 hx (y := (⟨"java/util/OptionalInt", "empty", "()Ljava/util/OptionalInt;"⟩ : MethodName)) hown (mvT hZ (hw _ (List.mem_of_getElem? (i := 46) rfl))) (mvT hZ (hw _ (List.mem_of_getElem? (i := 47) rfl))) (mvT hZ (hw _ (List.mem_of_getElem? (i := 48) rfl))) (mvT hZ (hw _ (List.mem_of_getElem? (i := 49) rfl))) (by decide) (Ctr.back (W := 0) (rmEM l Z a0 hw em SE h0 n0 O.2) hZ (hw _ (List.mem_of_getElem? (i := 49) rfl)) (hw _ (List.mem_of_getElem? (i := 48) rfl)) (by (try dsimp only [room_1]); (try simp only [List.length_cons, List.length_nil]); omega) (by (try dsimp only [room_1]); (try simp only [List.length_cons, List.length_nil]); omega)) e1 (g := (mkF m 7 #[.val (.ref a), .val (.int mn), .val (.int mx), .unset, .unset, .unset, .unset] [])) rfl (by rw [hml]; rfl) (argsL := []) (rest := []) (lenOf pd_39 rfl) rfl (by show 2 * 0 + _ ≤ _; exact Nat.le_of_eq rfl) (hb hby dpa_7) rfl (by (try dsimp only [room_1]); (try simp only [List.length_cons, List.length_nil]); omega) (by (try dsimp only [room_1]); (try simp only [List.length_cons, List.length_nil]); omega) ?_
    rintro _ T2 L2 X2 ⟨rfl, N2, e2⟩
    show Go p e below _ T2 (mkF m 10 #[.val (.ref a), .val (.int mn), .val (.int mx), .unset, .unset, .unset, .unset] [(.ref em)])
    exact Go.retV X2 hx hret hlk rfl rfl (hb hby dpa_10) ⟨em, rfl, Fr.app (Fr.app (Fr.nil n0) N1) N2, (by rw [e2]; exact Keep.refl _ _), e2 ▸ Em, Or.inl ⟨by unfold own_parse; rw [if_pos q], e2 ▸ Fm⟩⟩ (by (try dsimp only [room_1]); (try simp only [List.length_cons, List.length_nil]); omega) (by (try dsimp only [room_1]); (try simp only [List.length_cons, List.length_nil]); omega)
  · skip
    refine Go.st (fun _ k => XS.ifYes X1.here hx rfl (pc0 := 4) (pc' := 11) rfl (hb hby dpa_4) rfl (XT.i0_eq_t (by rw [if_neg (fun z => q (hnil.mp z))])) (by decide) (by decide) k) ?_
    show Go p e below _ T1 (mkF m 11 #[.val (.ref a), .val (.int mn), .val (.int mx), .unset, .unset, .unset, .unset] [])
    refine Go.st (fun _ k => XT.lconst X1.here hx rfl (hb hby dpa_11) k) ?_
    show Go p e below _ T1 (mkF m 12 #[.val (.ref a), .val (.int mn), .val (.int mx), .unset, .unset, .unset, .unset] [(.long (0 : Int64))])
    refine Go.st (fun _ k => XT.lstoreN X1.here hx rfl (hb hby dpa_12) rfl (l' := #[.val (.ref a), .val (.int mn), .val (.int mx), .val (.long (0 : Int64)), .second, .unset, .unset]) rfl k) ?_
    show Go p e below _ T1 (mkF m 13 #[.val (.ref a), .val (.int mn), .val (.int mx), .val (.long (0 : Int64)), .second, .unset, .unset] [])
    refine Go.st (fun _ k => XS.iconst X1.here hx rfl (hb hby dpa_13) k) ?_
    show Go p e below _ T1 (mkF m 14 #[.val (.ref a), .val (.int mn), .val (.int mx), .val (.long (0 : Int64)), .second, .unset, .unset] [(.int (0 : Int32))])
    refine Go.st (fun _ k => XS.istore X1.here hx rfl (hb hby dpa_14) rfl (l' := #[.val (.ref a), .val (.int mn), .val (.int mx), .val (.long (0 : Int64)), .second, .val (.int (0 : Int32)), .unset]) rfl k) ?_
    show Go p e below _ T1 (mkF m 16 #[.val (.ref a), .val (.int mn), .val (.int mx), .val (.long (0 : Int64)), .second, .val (.int (0 : Int32)), .unset] [])
    exact lpPA l Z a0 hw z Su f hf SF em SE a t ds mn mx hn hbd q h0 n0 Z0 O E Cd V B Em Fm hx hby hml hown hret hlk hZ ds.length 0 T1 _ 0 .unset (by omega) One.u X1 e1 rfl (Fr.app (Fr.nil n0) N1)
theorem own_modM (x mk d : Int32) (hm : ¬ mk < 0) (hd : 0 < d.toInt) : ∃ k : Nat, (k : Int) < d.toInt ∧ (x &&& mk) % d = Int32.ofNat k := by
  have h1 : ¬ (x &&& mk) < 0 := fun q => absurd ((XT.and_neg32 _ _).mp q).2 hm
  have h2 : ((x &&& mk) % d).toInt = (x &&& mk).toInt.tmod d.toInt := Int32.toInt_mod ..
  generalize (x &&& mk) = y at h1 h2 ⊢
  rw [XT.negI32] at h1
  rw [Int.tmod_eq_emod_of_nonneg (by omega)] at h2
  have a1 := Int.emod_nonneg y.toInt (b := d.toInt) (by omega)
  have a2 := Int.emod_lt_of_pos y.toInt hd
  have a3 := d.toInt_lt
  refine ⟨(y.toInt % d.toInt).toNat, by omega, ?_⟩
  apply Int32.toInt_inj.mp
  rw [own_toInt (by omega), h2]; omega
theorem own_i32 {V : Int64} {mx : Int32} (h1 : ¬ V < 0) (h2 : ¬ mx.toInt64 < V) : V.toInt32.toInt64 = V := by
  rw [Int64.lt_iff_toInt_lt] at h1 h2
  have e0 : (0 : Int64).toInt = 0 := rfl
  rw [Int32.toInt_toInt64] at h2
  have h3 := mx.toInt_lt
  apply Int64.toInt_inj.mp
  rw [Int32.toInt_toInt64, Int64.toInt_toInt32, Int.bmod_eq_of_le (by omega) (by omega)]
theorem own_pkey {ds : List Int32} {mn mx : Int32} {V : Int64} (hV : V = ds.foldl own_step 0) (hl : ds.length ≤ 12) :
    (ds ≠ [] ∧ ¬ V < 0 ∧ ¬ V < mn.toInt64 ∧ ¬ mx.toInt64 < V → own_parse ds mn mx = some V.toInt32 ∧ V.toInt32.toInt64 = V) ∧ (¬ (ds ≠ [] ∧ ¬ V < 0 ∧ ¬ V < mn.toInt64 ∧ ¬ mx.toInt64 < V) → own_parse ds mn mx = none) := by
  have hp : ((0 : Int64).toInt + 1) * 10 ^ ds.length ≤ 10000000000000 := by
    generalize ds.length = n at hl
    rcases (by omega : n = 0 ∨ n = 1 ∨ n = 2 ∨ n = 3 ∨ n = 4 ∨ n = 5 ∨ n = 6 ∨ n = 7 ∨ n = 8 ∨ n = 9 ∨ n = 10 ∨ n = 11 ∨ n = 12) with rfl | rfl | rfl | rfl | rfl | rfl | rfl | rfl | rfl | rfl | rfl | rfl | rfl <;> decide
  have hm := own_go_main mx.toInt64 ds 0 (by decide) hp
  rw [← hV] at hm
  clear hV hp
  rcases hm with ⟨q1, q2⟩ | ⟨q1, q2, q3⟩
  · exact ⟨fun h => absurd q1 h.2.1, fun _ => own_parse_none q2⟩
  · have nV : ¬ V < 0 := by rw [Int64.lt_iff_toInt_lt]; omega
    refine ⟨fun ⟨h1, h2, h3, h4⟩ => ?_, fun h => ?_⟩
    · rw [if_neg (fun z => h4 z.2)] at q3
      exact ⟨by rw [own_parse_some h1 q3, if_neg h3], own_i32 h2 h4⟩
    · by_cases e : ds = []
      · unfold own_parse; rw [if_pos e]
      · by_cases q : mx.toInt64 < V
        · exact own_parse_none (by rw [q3, if_pos ⟨e, q⟩])
        · rw [if_neg (fun z => q z.2)] at q3
          rw [own_parse_some e q3, if_pos]
          exact Classical.byContradiction fun z => h ⟨e, nV, z, q⟩
theorem own_acc12 (c0 c1 c2 c3 c4 c5 c6 c7 c8 c9 c10 c11 : Int32) (n : Nat) (hn : n ≤ 12) : own_acc (own_acc (own_acc (own_acc (own_acc (own_acc (own_acc (own_acc (own_acc (own_acc (own_acc (own_acc 0 c0 0 n) c1 1 n) c2 2 n) c3 3 n) c4 4 n) c5 5 n) c6 6 n) c7 7 n) c8 8 n) c9 9 n) c10 10 n) c11 11 n = (([c0, c1, c2, c3, c4, c5, c6, c7, c8, c9, c10, c11] : List Int32).take n).foldl own_step 0 := by
  rcases (by omega : n = 0 ∨ n = 1 ∨ n = 2 ∨ n = 3 ∨ n = 4 ∨ n = 5 ∨ n = 6 ∨ n = 7 ∨ n = 8 ∨ n = 9 ∨ n = 10 ∨ n = 11 ∨ n = 12) with rfl | rfl | rfl | rfl | rfl | rfl | rfl | rfl | rfl | rfl | rfl | rfl | rfl <;> simp [own_acc]
theorem own_tk_nil (c : Int32) (L : List Int32) (n : Nat) : (c :: L).take n ≠ [] ↔ 0 < n := by cases n <;> simp
def Q0 (n0 : Nat) (v : Option Value) (h : Heap) (L : List Loc) : Prop := v = some (.int 1) ∧ Fr n0 L
set_option maxRecDepth 65536 in
set_option maxHeartbeats 40000000 in
theorem rm0 (l : Launch) (Z : State) (a0 : Array Value) (hw : ∀ d ∈ tables_1, d.before a0 Z = true) (ws : List Jvm.Cond) (p0 : Int32) (p1 : Int64) (p2 p3 p4 : Int32) (z : Int32) (Su : Su16 Z z) (f : Value) (hf : f.isRef = true) (SF : Sta Z Z.heap "jdk/internal/util/Preconditions" "SIOOBE_FORMATTER" "Ljava/util/function/BiFunction;" f) (em : Addr) (SE : Sta Z Z.heap "java/util/OptionalInt" "EMPTY" "Ljava/util/OptionalInt;" (.ref em)) (h0 : Heap) (n0 : Nat) (Z0 : n0 = h0.size) (X00 : Old Z n0 h0) (Em : Exa Z h0 em "java/util/OptionalInt") (Fm : Fld Z h0 em "java/util/OptionalInt" "isPresent" "Z" (.int 0)) :
    WCtr consts_1 (fun b => b < h0.size) l Z x code maxLocals ret ws room_1 #[(.int p0), (.long p1), (.int p2), (.int p3), (.int p4)] h0 (Q0 n0) := by
  refine WCtr.of (plainFor_of_name pn_20) ?_
  intro p e s m below meth c s₁ hx hby hml hown hnm hret hlk hZ X0 e0 hC0
  have hml : c.maxLocals = 16 := hml
  refine Go.cast (ef_44 m p0 p1 p2 p3 p4) ?_
  show Go p e below _ s₁ (mkF m 0 #[.val (.int p0), .val (.long p1), .second, .val (.int p2), .val (.int p3), .val (.int p4), .unset, .unset, .unset, .unset, .unset, .unset, .unset, .unset, .unset, .unset] [])
  refine Go.st (fun _ k => XS.iloadN X0.here hx rfl (hb hby at_0) rfl k) ?_
  show Go p e below _ s₁ (mkF m 1 #[.val (.int p0), .val (.long p1), .second, .val (.int p2), .val (.int p3), .val (.int p4), .unset, .unset, .unset, .unset, .unset, .unset, .unset, .unset, .unset, .unset] [(.int p0)])
  refine Go.st (fun _ k => XS.bipush X0.here hx rfl (hb hby at_1) k) ?_
  show Go p e below _ s₁ (mkF m 3 #[.val (.int p0), .val (.long p1), .second, .val (.int p2), .val (.int p3), .val (.int p4), .unset, .unset, .unset, .unset, .unset, .unset, .unset, .unset, .unset, .unset] [(.int (15 : Int32)), (.int p0)])
  refine Go.st (fun _ k => XS.iand X0.here hx rfl (hb hby at_3) rfl k) ?_
  show Go p e below _ s₁ (mkF m 4 #[.val (.int p0), .val (.long p1), .second, .val (.int p2), .val (.int p3), .val (.int p4), .unset, .unset, .unset, .unset, .unset, .unset, .unset, .unset, .unset, .unset] [(.int (p0 &&& (15 : Int32)))])
  refine Go.st (fun _ k => XS.bipush X0.here hx rfl (hb hby at_4) k) ?_
  show Go p e below _ s₁ (mkF m 6 #[.val (.int p0), .val (.long p1), .second, .val (.int p2), .val (.int p3), .val (.int p4), .unset, .unset, .unset, .unset, .unset, .unset, .unset, .unset, .unset, .unset] [(.int (13 : Int32)), (.int (p0 &&& (15 : Int32)))])
  refine Go.st (fun _ k => iremM X0 hx rfl (hb hby at_6) rfl (by decide) k) ?_
  show Go p e below _ s₁ (mkF m 7 #[.val (.int p0), .val (.long p1), .second, .val (.int p2), .val (.int p3), .val (.int p4), .unset, .unset, .unset, .unset, .unset, .unset, .unset, .unset, .unset, .unset] [(.int ((p0 &&& (15 : Int32)) % (13 : Int32)))])
  obtain ⟨n, hn', en⟩ := own_modM p0 (15 : Int32) (13 : Int32) (by decide) (by decide)
  have hn : n ≤ 12 := by have q : ((13 : Int32)).toInt = 13 := rfl; omega
  rw [en]
  clear en hn'
  show Go p e below _ s₁ (mkF m 7 #[.val (.int p0), .val (.long p1), .second, .val (.int p2), .val (.int p3), .val (.int p4), .unset, .unset, .unset, .unset, .unset, .unset, .unset, .unset, .unset, .unset] [(.int (Int32.ofNat n))])
  refine Go.st (fun _ k => XS.istore X0.here hx rfl (hb hby at_7) rfl (l' := #[.val (.int p0), .val (.long p1), .second, .val (.int p2), .val (.int p3), .val (.int p4), .val (.int (Int32.ofNat n)), .unset, .unset, .unset, .unset, .unset, .unset, .unset, .unset, .unset]) rfl k) ?_
  show Go p e below _ s₁ (mkF m 9 #[.val (.int p0), .val (.long p1), .second, .val (.int p2), .val (.int p3), .val (.int p4), .val (.int (Int32.ofNat n)), .unset, .unset, .unset, .unset, .unset, .unset, .unset, .unset, .unset] [])
  refine Go.st (fun _ k => XS.iloadN X0.here hx rfl (hb hby at_9) rfl k) ?_
  show Go p e below _ s₁ (mkF m 10 #[.val (.int p0), .val (.long p1), .second, .val (.int p2), .val (.int p3), .val (.int p4), .val (.int (Int32.ofNat n)), .unset, .unset, .unset, .unset, .unset, .unset, .unset, .unset, .unset] [(.int p0)])
  refine Go.st (fun _ k => XS.bipush X0.here hx rfl (hb hby at_10) k) ?_
  show Go p e below _ s₁ (mkF m 12 #[.val (.int p0), .val (.long p1), .second, .val (.int p2), .val (.int p3), .val (.int p4), .val (.int (Int32.ofNat n)), .unset, .unset, .unset, .unset, .unset, .unset, .unset, .unset, .unset] [(.int (32 : Int32)), (.int p0)])
  refine Go.st (fun _ k => XS.iand X0.here hx rfl (hb hby at_12) rfl k) ?_
  show Go p e below _ s₁ (mkF m 13 #[.val (.int p0), .val (.long p1), .second, .val (.int p2), .val (.int p3), .val (.int p4), .val (.int (Int32.ofNat n)), .unset, .unset, .unset, .unset, .unset, .unset, .unset, .unset, .unset] [(.int (p0 &&& (32 : Int32)))])
  have J1 : ∀ al : Int32, Go p e below (EndW consts_1 s (Q0 n0) room_1.cells room_1.slots) s₁ (mkF m 21 #[.val (.int p0), .val (.long p1), .second, .val (.int p2), .val (.int p3), .val (.int p4), .val (.int (Int32.ofNat n)), .unset, .unset, .unset, .unset, .unset, .unset, .unset, .unset, .unset] [(.int al)]) := by
    intro al
    show Go p e below _ s₁ (mkF m 21 #[.val (.int p0), .val (.long p1), .second, .val (.int p2), .val (.int p3), .val (.int p4), .val (.int (Int32.ofNat n)), .unset, .unset, .unset, .unset, .unset, .unset, .unset, .unset, .unset] [(.int al)])
    refine Go.st (fun _ k => XS.istore X0.here hx rfl (hb hby at_21) rfl (l' := #[.val (.int p0), .val (.long p1), .second, .val (.int p2), .val (.int p3), .val (.int p4), .val (.int (Int32.ofNat n)), .val (.int al), .unset, .unset, .unset, .unset, .unset, .unset, .unset, .unset]) rfl k) ?_
    show Go p e below _ s₁ (mkF m 23 #[.val (.int p0), .val (.long p1), .second, .val (.int p2), .val (.int p3), .val (.int p4), .val (.int (Int32.ofNat n)), .val (.int al), .unset, .unset, .unset, .unset, .unset, .unset, .unset, .unset] [])
    refine Go.st (fun _ k => XS.bipush X0.here hx rfl (hb hby at_23) k) ?_
    show Go p e below _ s₁ (mkF m 25 #[.val (.int p0), .val (.long p1), .second, .val (.int p2), .val (.int p3), .val (.int p4), .val (.int (Int32.ofNat n)), .val (.int al), .unset, .unset, .unset, .unset, .unset, .unset, .unset, .unset] [(.int (12 : Int32))])
    refine Go.newarr X0 hx hZ (ty := .char) rfl rfl (hw _ (List.mem_of_getElem? (i := 0) rfl)) e0 (g := (mkF m 25 #[.val (.int p0), .val (.long p1), .second, .val (.int p2), .val (.int p3), .val (.int p4), .val (.int (Int32.ofNat n)), .val (.int al), .unset, .unset, .unset, .unset, .unset, .unset, .unset, .unset] [(.int (12 : Int32))])) rfl (hb hby at_25) rfl (n := 12) rfl (by decide) (by (try dsimp only [room_1]); (try simp only [List.length_cons, List.length_nil]); omega) (by (try dsimp only [room_1]); (try simp only [List.length_cons, List.length_nil]); omega) ?_
    rintro T1 h1 X1 e1 E1 l1 A1
    obtain ⟨a1, g1⟩ : ∃ z, z = h0.size := ⟨_, rfl⟩
    rw [← g1] at A1 l1 ⊢
    have sE1 := E1.1
    show Go p e below _ T1 (mkF m 27 #[.val (.int p0), .val (.long p1), .second, .val (.int p2), .val (.int p3), .val (.int p4), .val (.int (Int32.ofNat n)), .val (.int al), .unset, .unset, .unset, .unset, .unset, .unset, .unset, .unset] [(.ref a1)])
    refine Go.st (fun _ k => XS.astore X1.here hx rfl (hb hby at_27) rfl rfl (l' := #[.val (.int p0), .val (.long p1), .second, .val (.int p2), .val (.int p3), .val (.int p4), .val (.int (Int32.ofNat n)), .val (.int al), .val (.ref a1), .unset, .unset, .unset, .unset, .unset, .unset, .unset]) rfl k) ?_
    show Go p e below _ T1 (mkF m 29 #[.val (.int p0), .val (.long p1), .second, .val (.int p2), .val (.int p3), .val (.int p4), .val (.int (Int32.ofNat n)), .val (.int al), .val (.ref a1), .unset, .unset, .unset, .unset, .unset, .unset, .unset] [])
    refine Go.st (fun _ k => XS.aload X1.here hx rfl (hb hby at_29) rfl rfl k) ?_
    show Go p e below _ T1 (mkF m 31 #[.val (.int p0), .val (.long p1), .second, .val (.int p2), .val (.int p3), .val (.int p4), .val (.int (Int32.ofNat n)), .val (.int al), .val (.ref a1), .unset, .unset, .unset, .unset, .unset, .unset, .unset] [(.ref a1)])
    refine Go.st (fun _ k => XS.iconst X1.here hx rfl (hb hby at_31) k) ?_
    show Go p e below _ T1 (mkF m 32 #[.val (.int p0), .val (.long p1), .second, .val (.int p2), .val (.int p3), .val (.int p4), .val (.int (Int32.ofNat n)), .val (.int al), .val (.ref a1), .unset, .unset, .unset, .unset, .unset, .unset, .unset] [(.int (0 : Int32)), (.ref a1)])
    refine Go.st (fun _ k => XT.lloadN X1.here hx rfl (hb hby at_32) rfl k) ?_
    show Go p e below _ T1 (mkF m 33 #[.val (.int p0), .val (.long p1), .second, .val (.int p2), .val (.int p3), .val (.int p4), .val (.int (Int32.ofNat n)), .val (.int al), .val (.ref a1), .unset, .unset, .unset, .unset, .unset, .unset, .unset] [(.long p1), (.int (0 : Int32)), (.ref a1)])
    refine Go.st (fun _ k => XS.iconst X1.here hx rfl (hb hby at_33) k) ?_
    show Go p e below _ T1 (mkF m 34 #[.val (.int p0), .val (.long p1), .second, .val (.int p2), .val (.int p3), .val (.int p4), .val (.int (Int32.ofNat n)), .val (.int al), .val (.ref a1), .unset, .unset, .unset, .unset, .unset, .unset, .unset] [(.int (0 : Int32)), (.long p1), (.int (0 : Int32)), (.ref a1)])
    have ha1 : h0.size ≤ a1 := by omega
    have UX : ∀ {h : Heap}, Keep h0 h [] → Und (fun b => b < h0.size) h0 h := fun K => (Und.refl _ h0).keep K all0
    have B1 : CB 12 (List.replicate 12 0) := CB.rep 12
    have K1 : Keep h0 h1 [] := (Keep.refl h0 []).ext E1
    have N1 : Fr n0 [] := Fr.nil n0
    show Go p e below _ T1 (mkF m 34 #[.val (.int p0), .val (.long p1), .second, .val (.int p2), .val (.int p3), .val (.int p4), .val (.int (Int32.ofNat n)), .val (.int al), .val (.ref a1), .unset, .unset, .unset, .unset, .unset, .unset, .unset] [(.int (0 : Int32)), (.long p1), (.int (0 : Int32)), (.ref a1)])
    refine Go.callS X1 hx (y := (⟨"com/example/federate/federate/WholeNumbersParsePinLaw", "nib", "(JI)I"⟩ : MethodName)) hown (mvT hZ (hw _ (List.mem_of_getElem? (i := 1) rfl))) (mvT hZ (hw _ (List.mem_of_getElem? (i := 2) rfl))) (mvT hZ (hw _ (List.mem_of_getElem? (i := 3) rfl))) (mvT hZ (hw _ (List.mem_of_getElem? (i := 4) rfl))) (by decide) (Ctr.back (W := 2) (rmNB l Z a0 hw p1 (0 : Int32) h1 n0) hZ (hw _ (List.mem_of_getElem? (i := 4) rfl)) (hw _ (List.mem_of_getElem? (i := 3) rfl)) (by (try dsimp only [room_1]); (try simp only [List.length_cons, List.length_nil]); omega) (by (try dsimp only [room_1]); (try simp only [List.length_cons, List.length_nil]); omega)) e1 (g := (mkF m 34 #[.val (.int p0), .val (.long p1), .second, .val (.int p2), .val (.int p3), .val (.int p4), .val (.int (Int32.ofNat n)), .val (.int al), .val (.ref a1), .unset, .unset, .unset, .unset, .unset, .unset, .unset] [(.int (0 : Int32)), (.long p1), (.int (0 : Int32)), (.ref a1)])) rfl (by rw [hml]; rfl) (argsL := [(.long p1), (.int (0 : Int32))]) (rest := [(.int (0 : Int32)), (.ref a1)]) (lenOf pd_45 rfl) rfl (by show 2 * 0 + _ ≤ _; exact Nat.le_of_eq rfl) (hb hby at_34) rfl (by (try dsimp only [room_1]); (try simp only [List.length_cons, List.length_nil]); omega) (by (try dsimp only [room_1]); (try simp only [List.length_cons, List.length_nil]); omega) ?_
    rintro _ T2 L2 X2 ⟨x2, rfl, N2q, e2⟩
    show Go p e below _ T2 (mkF m 37 #[.val (.int p0), .val (.long p1), .second, .val (.int p2), .val (.int p3), .val (.int p4), .val (.int (Int32.ofNat n)), .val (.int al), .val (.ref a1), .unset, .unset, .unset, .unset, .unset, .unset, .unset] [(.int x2), (.int (0 : Int32)), (.ref a1)])
    have N2 := Fr.app N1 N2q
    refine Go.st (fun _ k => XS.iloadN X2.here hx rfl (hb hby at_37) rfl k) ?_
    show Go p e below _ T2 (mkF m 38 #[.val (.int p0), .val (.long p1), .second, .val (.int p2), .val (.int p3), .val (.int p4), .val (.int (Int32.ofNat n)), .val (.int al), .val (.ref a1), .unset, .unset, .unset, .unset, .unset, .unset, .unset] [(.int p2), (.int x2), (.int (0 : Int32)), (.ref a1)])
    refine Go.st (fun _ k => XS.iload X2.here hx rfl (hb hby at_38) rfl k) ?_
    show Go p e below _ T2 (mkF m 40 #[.val (.int p0), .val (.long p1), .second, .val (.int p2), .val (.int p3), .val (.int p4), .val (.int (Int32.ofNat n)), .val (.int al), .val (.ref a1), .unset, .unset, .unset, .unset, .unset, .unset, .unset] [(.int al), (.int p2), (.int x2), (.int (0 : Int32)), (.ref a1)])
    refine Go.callS X2 hx (y := (⟨"com/example/federate/federate/WholeNumbersParsePinLaw", "ch", "(IIZ)C"⟩ : MethodName)) hown (mvT hZ (hw _ (List.mem_of_getElem? (i := 6) rfl))) (mvT hZ (hw _ (List.mem_of_getElem? (i := 7) rfl))) (mvT hZ (hw _ (List.mem_of_getElem? (i := 3) rfl))) (mvT hZ (hw _ (List.mem_of_getElem? (i := 8) rfl))) (by decide) (Ctr.back (W := 2) (rmCH l Z a0 hw x2 p2 al h1 n0) hZ (hw _ (List.mem_of_getElem? (i := 8) rfl)) (hw _ (List.mem_of_getElem? (i := 3) rfl)) (by (try dsimp only [room_1]); (try simp only [List.length_cons, List.length_nil]); omega) (by (try dsimp only [room_1]); (try simp only [List.length_cons, List.length_nil]); omega)) e2 (g := (mkF m 40 #[.val (.int p0), .val (.long p1), .second, .val (.int p2), .val (.int p3), .val (.int p4), .val (.int (Int32.ofNat n)), .val (.int al), .val (.ref a1), .unset, .unset, .unset, .unset, .unset, .unset, .unset] [(.int al), (.int p2), (.int x2), (.int (0 : Int32)), (.ref a1)])) rfl (by rw [hml]; rfl) (argsL := [(.int x2), (.int p2), (.int al)]) (rest := [(.int (0 : Int32)), (.ref a1)]) (lenOf pd_46 rfl) rfl (by show 2 * 0 + _ ≤ _; exact Nat.le_of_eq rfl) (hb hby at_40) rfl (by (try dsimp only [room_1]); (try simp only [List.length_cons, List.length_nil]); omega) (by (try dsimp only [room_1]); (try simp only [List.length_cons, List.length_nil]); omega) ?_
    rintro _ T3 L3 X3 ⟨x3, rfl, N3q, e3⟩
    show Go p e below _ T3 (mkF m 43 #[.val (.int p0), .val (.long p1), .second, .val (.int p2), .val (.int p3), .val (.int p4), .val (.int (Int32.ofNat n)), .val (.int al), .val (.ref a1), .unset, .unset, .unset, .unset, .unset, .unset, .unset] [(.int x3), (.int (0 : Int32)), (.ref a1)])
    have N3 := Fr.app N2 N3q
    refine Go.castore X3 hx hZ e3 A1 (i := 0) rfl (by rw [B1.1]; decide) (g := (mkF m 43 #[.val (.int p0), .val (.long p1), .second, .val (.int p2), .val (.int p3), .val (.int p4), .val (.int (Int32.ofNat n)), .val (.int al), .val (.ref a1), .unset, .unset, .unset, .unset, .unset, .unset, .unset] [(.int x3), (.int (0 : Int32)), (.ref a1)])) rfl rfl (hb hby at_43) ?_
    rintro T4 h4 X4 e4 W4 A4
    have sW4 := W4.size
    show Go p e below _ T4 (mkF m 44 #[.val (.int p0), .val (.long p1), .second, .val (.int p2), .val (.int p3), .val (.int p4), .val (.int (Int32.ofNat n)), .val (.int al), .val (.ref a1), .unset, .unset, .unset, .unset, .unset, .unset, .unset] [])
    obtain ⟨cs4, A4, B4⟩ : ∃ cs, AI Z h4 a1 .char cs ∧ CB 12 cs := ⟨_, A4, B1.set 0 _⟩
    have K4 := K1.wr W4 (Or.inr ha1)
    have N4 := Fr.snoc X4 N3 (by omega)
    refine Go.st (fun _ k => XS.aload X4.here hx rfl (hb hby at_44) rfl rfl k) ?_
    show Go p e below _ T4 (mkF m 46 #[.val (.int p0), .val (.long p1), .second, .val (.int p2), .val (.int p3), .val (.int p4), .val (.int (Int32.ofNat n)), .val (.int al), .val (.ref a1), .unset, .unset, .unset, .unset, .unset, .unset, .unset] [(.ref a1)])
    refine Go.st (fun _ k => XS.iconst X4.here hx rfl (hb hby at_46) k) ?_
    show Go p e below _ T4 (mkF m 47 #[.val (.int p0), .val (.long p1), .second, .val (.int p2), .val (.int p3), .val (.int p4), .val (.int (Int32.ofNat n)), .val (.int al), .val (.ref a1), .unset, .unset, .unset, .unset, .unset, .unset, .unset] [(.int (1 : Int32)), (.ref a1)])
    refine Go.st (fun _ k => XT.lloadN X4.here hx rfl (hb hby at_47) rfl k) ?_
    show Go p e below _ T4 (mkF m 48 #[.val (.int p0), .val (.long p1), .second, .val (.int p2), .val (.int p3), .val (.int p4), .val (.int (Int32.ofNat n)), .val (.int al), .val (.ref a1), .unset, .unset, .unset, .unset, .unset, .unset, .unset] [(.long p1), (.int (1 : Int32)), (.ref a1)])
    refine Go.st (fun _ k => XS.iconst X4.here hx rfl (hb hby at_48) k) ?_
    show Go p e below _ T4 (mkF m 49 #[.val (.int p0), .val (.long p1), .second, .val (.int p2), .val (.int p3), .val (.int p4), .val (.int (Int32.ofNat n)), .val (.int al), .val (.ref a1), .unset, .unset, .unset, .unset, .unset, .unset, .unset] [(.int (1 : Int32)), (.long p1), (.int (1 : Int32)), (.ref a1)])
    refine Go.callS X4 hx (y := (⟨"com/example/federate/federate/WholeNumbersParsePinLaw", "nib", "(JI)I"⟩ : MethodName)) hown (mvT hZ (hw _ (List.mem_of_getElem? (i := 1) rfl))) (mvT hZ (hw _ (List.mem_of_getElem? (i := 2) rfl))) (mvT hZ (hw _ (List.mem_of_getElem? (i := 3) rfl))) (mvT hZ (hw _ (List.mem_of_getElem? (i := 4) rfl))) (by decide) (Ctr.back (W := 2) (rmNB l Z a0 hw p1 (1 : Int32) h4 n0) hZ (hw _ (List.mem_of_getElem? (i := 4) rfl)) (hw _ (List.mem_of_getElem? (i := 3) rfl)) (by (try dsimp only [room_1]); (try simp only [List.length_cons, List.length_nil]); omega) (by (try dsimp only [room_1]); (try simp only [List.length_cons, List.length_nil]); omega)) e4 (g := (mkF m 49 #[.val (.int p0), .val (.long p1), .second, .val (.int p2), .val (.int p3), .val (.int p4), .val (.int (Int32.ofNat n)), .val (.int al), .val (.ref a1), .unset, .unset, .unset, .unset, .unset, .unset, .unset] [(.int (1 : Int32)), (.long p1), (.int (1 : Int32)), (.ref a1)])) rfl (by rw [hml]; rfl) (argsL := [(.long p1), (.int (1 : Int32))]) (rest := [(.int (1 : Int32)), (.ref a1)]) (lenOf pd_45 rfl) rfl (by show 2 * 0 + _ ≤ _; exact Nat.le_of_eq rfl) (hb hby at_49) rfl (by (try dsimp only [room_1]); (try simp only [List.length_cons, List.length_nil]); omega) (by (try dsimp only [room_1]); (try simp only [List.length_cons, List.length_nil]); omega) ?_
    rintro _ T5 L5 X5 ⟨x5, rfl, N5q, e5⟩
    show Go p e below _ T5 (mkF m 52 #[.val (.int p0), .val (.long p1), .second, .val (.int p2), .val (.int p3), .val (.int p4), .val (.int (Int32.ofNat n)), .val (.int al), .val (.ref a1), .unset, .unset, .unset, .unset, .unset, .unset, .unset] [(.int x5), (.int (1 : Int32)), (.ref a1)])
    have N5 := Fr.app N4 N5q
    refine Go.st (fun _ k => XS.iloadN X5.here hx rfl (hb hby at_52) rfl k) ?_
    show Go p e below _ T5 (mkF m 53 #[.val (.int p0), .val (.long p1), .second, .val (.int p2), .val (.int p3), .val (.int p4), .val (.int (Int32.ofNat n)), .val (.int al), .val (.ref a1), .unset, .unset, .unset, .unset, .unset, .unset, .unset] [(.int p2), (.int x5), (.int (1 : Int32)), (.ref a1)])
    refine Go.st (fun _ k => XS.iload X5.here hx rfl (hb hby at_53) rfl k) ?_
    show Go p e below _ T5 (mkF m 55 #[.val (.int p0), .val (.long p1), .second, .val (.int p2), .val (.int p3), .val (.int p4), .val (.int (Int32.ofNat n)), .val (.int al), .val (.ref a1), .unset, .unset, .unset, .unset, .unset, .unset, .unset] [(.int al), (.int p2), (.int x5), (.int (1 : Int32)), (.ref a1)])
    refine Go.callS X5 hx (y := (⟨"com/example/federate/federate/WholeNumbersParsePinLaw", "ch", "(IIZ)C"⟩ : MethodName)) hown (mvT hZ (hw _ (List.mem_of_getElem? (i := 6) rfl))) (mvT hZ (hw _ (List.mem_of_getElem? (i := 7) rfl))) (mvT hZ (hw _ (List.mem_of_getElem? (i := 3) rfl))) (mvT hZ (hw _ (List.mem_of_getElem? (i := 8) rfl))) (by decide) (Ctr.back (W := 2) (rmCH l Z a0 hw x5 p2 al h4 n0) hZ (hw _ (List.mem_of_getElem? (i := 8) rfl)) (hw _ (List.mem_of_getElem? (i := 3) rfl)) (by (try dsimp only [room_1]); (try simp only [List.length_cons, List.length_nil]); omega) (by (try dsimp only [room_1]); (try simp only [List.length_cons, List.length_nil]); omega)) e5 (g := (mkF m 55 #[.val (.int p0), .val (.long p1), .second, .val (.int p2), .val (.int p3), .val (.int p4), .val (.int (Int32.ofNat n)), .val (.int al), .val (.ref a1), .unset, .unset, .unset, .unset, .unset, .unset, .unset] [(.int al), (.int p2), (.int x5), (.int (1 : Int32)), (.ref a1)])) rfl (by rw [hml]; rfl) (argsL := [(.int x5), (.int p2), (.int al)]) (rest := [(.int (1 : Int32)), (.ref a1)]) (lenOf pd_46 rfl) rfl (by show 2 * 0 + _ ≤ _; exact Nat.le_of_eq rfl) (hb hby at_55) rfl (by (try dsimp only [room_1]); (try simp only [List.length_cons, List.length_nil]); omega) (by (try dsimp only [room_1]); (try simp only [List.length_cons, List.length_nil]); omega) ?_
    rintro _ T6 L6 X6 ⟨x6, rfl, N6q, e6⟩
    show Go p e below _ T6 (mkF m 58 #[.val (.int p0), .val (.long p1), .second, .val (.int p2), .val (.int p3), .val (.int p4), .val (.int (Int32.ofNat n)), .val (.int al), .val (.ref a1), .unset, .unset, .unset, .unset, .unset, .unset, .unset] [(.int x6), (.int (1 : Int32)), (.ref a1)])
    have N6 := Fr.app N5 N6q
    refine Go.castore X6 hx hZ e6 A4 (i := 1) rfl (by rw [B4.1]; decide) (g := (mkF m 58 #[.val (.int p0), .val (.long p1), .second, .val (.int p2), .val (.int p3), .val (.int p4), .val (.int (Int32.ofNat n)), .val (.int al), .val (.ref a1), .unset, .unset, .unset, .unset, .unset, .unset, .unset] [(.int x6), (.int (1 : Int32)), (.ref a1)])) rfl rfl (hb hby at_58) ?_
    rintro T7 h7 X7 e7 W7 A7
    have sW7 := W7.size
    show Go p e below _ T7 (mkF m 59 #[.val (.int p0), .val (.long p1), .second, .val (.int p2), .val (.int p3), .val (.int p4), .val (.int (Int32.ofNat n)), .val (.int al), .val (.ref a1), .unset, .unset, .unset, .unset, .unset, .unset, .unset] [])
    obtain ⟨cs7, A7, B7⟩ : ∃ cs, AI Z h7 a1 .char cs ∧ CB 12 cs := ⟨_, A7, B4.set 1 _⟩
    have K7 := K4.wr W7 (Or.inr ha1)
    have N7 := Fr.snoc X7 N6 (by omega)
    refine Go.st (fun _ k => XS.aload X7.here hx rfl (hb hby at_59) rfl rfl k) ?_
    show Go p e below _ T7 (mkF m 61 #[.val (.int p0), .val (.long p1), .second, .val (.int p2), .val (.int p3), .val (.int p4), .val (.int (Int32.ofNat n)), .val (.int al), .val (.ref a1), .unset, .unset, .unset, .unset, .unset, .unset, .unset] [(.ref a1)])
    refine Go.st (fun _ k => XS.iconst X7.here hx rfl (hb hby at_61) k) ?_
    show Go p e below _ T7 (mkF m 62 #[.val (.int p0), .val (.long p1), .second, .val (.int p2), .val (.int p3), .val (.int p4), .val (.int (Int32.ofNat n)), .val (.int al), .val (.ref a1), .unset, .unset, .unset, .unset, .unset, .unset, .unset] [(.int (2 : Int32)), (.ref a1)])
    refine Go.st (fun _ k => XT.lloadN X7.here hx rfl (hb hby at_62) rfl k) ?_
    show Go p e below _ T7 (mkF m 63 #[.val (.int p0), .val (.long p1), .second, .val (.int p2), .val (.int p3), .val (.int p4), .val (.int (Int32.ofNat n)), .val (.int al), .val (.ref a1), .unset, .unset, .unset, .unset, .unset, .unset, .unset] [(.long p1), (.int (2 : Int32)), (.ref a1)])
    refine Go.st (fun _ k => XS.iconst X7.here hx rfl (hb hby at_63) k) ?_
    show Go p e below _ T7 (mkF m 64 #[.val (.int p0), .val (.long p1), .second, .val (.int p2), .val (.int p3), .val (.int p4), .val (.int (Int32.ofNat n)), .val (.int al), .val (.ref a1), .unset, .unset, .unset, .unset, .unset, .unset, .unset] [(.int (2 : Int32)), (.long p1), (.int (2 : Int32)), (.ref a1)])
    refine Go.callS X7 hx (y := (⟨"com/example/federate/federate/WholeNumbersParsePinLaw", "nib", "(JI)I"⟩ : MethodName)) hown (mvT hZ (hw _ (List.mem_of_getElem? (i := 1) rfl))) (mvT hZ (hw _ (List.mem_of_getElem? (i := 2) rfl))) (mvT hZ (hw _ (List.mem_of_getElem? (i := 3) rfl))) (mvT hZ (hw _ (List.mem_of_getElem? (i := 4) rfl))) (by decide) (Ctr.back (W := 2) (rmNB l Z a0 hw p1 (2 : Int32) h7 n0) hZ (hw _ (List.mem_of_getElem? (i := 4) rfl)) (hw _ (List.mem_of_getElem? (i := 3) rfl)) (by (try dsimp only [room_1]); (try simp only [List.length_cons, List.length_nil]); omega) (by (try dsimp only [room_1]); (try simp only [List.length_cons, List.length_nil]); omega)) e7 (g := (mkF m 64 #[.val (.int p0), .val (.long p1), .second, .val (.int p2), .val (.int p3), .val (.int p4), .val (.int (Int32.ofNat n)), .val (.int al), .val (.ref a1), .unset, .unset, .unset, .unset, .unset, .unset, .unset] [(.int (2 : Int32)), (.long p1), (.int (2 : Int32)), (.ref a1)])) rfl (by rw [hml]; rfl) (argsL := [(.long p1), (.int (2 : Int32))]) (rest := [(.int (2 : Int32)), (.ref a1)]) (lenOf pd_45 rfl) rfl (by show 2 * 0 + _ ≤ _; exact Nat.le_of_eq rfl) (hb hby at_64) rfl (by (try dsimp only [room_1]); (try simp only [List.length_cons, List.length_nil]); omega) (by (try dsimp only [room_1]); (try simp only [List.length_cons, List.length_nil]); omega) ?_
    rintro _ T8 L8 X8 ⟨x8, rfl, N8q, e8⟩
    show Go p e below _ T8 (mkF m 67 #[.val (.int p0), .val (.long p1), .second, .val (.int p2), .val (.int p3), .val (.int p4), .val (.int (Int32.ofNat n)), .val (.int al), .val (.ref a1), .unset, .unset, .unset, .unset, .unset, .unset, .unset] [(.int x8), (.int (2 : Int32)), (.ref a1)])
    have N8 := Fr.app N7 N8q
    refine Go.st (fun _ k => XS.iloadN X8.here hx rfl (hb hby at_67) rfl k) ?_
    show Go p e below _ T8 (mkF m 68 #[.val (.int p0), .val (.long p1), .second, .val (.int p2), .val (.int p3), .val (.int p4), .val (.int (Int32.ofNat n)), .val (.int al), .val (.ref a1), .unset, .unset, .unset, .unset, .unset, .unset, .unset] [(.int p2), (.int x8), (.int (2 : Int32)), (.ref a1)])
    refine Go.st (fun _ k => XS.iload X8.here hx rfl (hb hby at_68) rfl k) ?_
    show Go p e below _ T8 (mkF m 70 #[.val (.int p0), .val (.long p1), .second, .val (.int p2), .val (.int p3), .val (.int p4), .val (.int (Int32.ofNat n)), .val (.int al), .val (.ref a1), .unset, .unset, .unset, .unset, .unset, .unset, .unset] [(.int al), (.int p2), (.int x8), (.int (2 : Int32)), (.ref a1)])
    refine Go.callS X8 hx (y := (⟨"com/example/federate/federate/WholeNumbersParsePinLaw", "ch", "(IIZ)C"⟩ : MethodName)) hown (mvT hZ (hw _ (List.mem_of_getElem? (i := 6) rfl))) (mvT hZ (hw _ (List.mem_of_getElem? (i := 7) rfl))) (mvT hZ (hw _ (List.mem_of_getElem? (i := 3) rfl))) (mvT hZ (hw _ (List.mem_of_getElem? (i := 8) rfl))) (by decide) (Ctr.back (W := 2) (rmCH l Z a0 hw x8 p2 al h7 n0) hZ (hw _ (List.mem_of_getElem? (i := 8) rfl)) (hw _ (List.mem_of_getElem? (i := 3) rfl)) (by (try dsimp only [room_1]); (try simp only [List.length_cons, List.length_nil]); omega) (by (try dsimp only [room_1]); (try simp only [List.length_cons, List.length_nil]); omega)) e8 (g := (mkF m 70 #[.val (.int p0), .val (.long p1), .second, .val (.int p2), .val (.int p3), .val (.int p4), .val (.int (Int32.ofNat n)), .val (.int al), .val (.ref a1), .unset, .unset, .unset, .unset, .unset, .unset, .unset] [(.int al), (.int p2), (.int x8), (.int (2 : Int32)), (.ref a1)])) rfl (by rw [hml]; rfl) (argsL := [(.int x8), (.int p2), (.int al)]) (rest := [(.int (2 : Int32)), (.ref a1)]) (lenOf pd_46 rfl) rfl (by show 2 * 0 + _ ≤ _; exact Nat.le_of_eq rfl) (hb hby at_70) rfl (by (try dsimp only [room_1]); (try simp only [List.length_cons, List.length_nil]); omega) (by (try dsimp only [room_1]); (try simp only [List.length_cons, List.length_nil]); omega) ?_
    rintro _ T9 L9 X9 ⟨x9, rfl, N9q, e9⟩
    show Go p e below _ T9 (mkF m 73 #[.val (.int p0), .val (.long p1), .second, .val (.int p2), .val (.int p3), .val (.int p4), .val (.int (Int32.ofNat n)), .val (.int al), .val (.ref a1), .unset, .unset, .unset, .unset, .unset, .unset, .unset] [(.int x9), (.int (2 : Int32)), (.ref a1)])
    have N9 := Fr.app N8 N9q
    refine Go.castore X9 hx hZ e9 A7 (i := 2) rfl (by rw [B7.1]; decide) (g := (mkF m 73 #[.val (.int p0), .val (.long p1), .second, .val (.int p2), .val (.int p3), .val (.int p4), .val (.int (Int32.ofNat n)), .val (.int al), .val (.ref a1), .unset, .unset, .unset, .unset, .unset, .unset, .unset] [(.int x9), (.int (2 : Int32)), (.ref a1)])) rfl rfl (hb hby at_73) ?_
    rintro T10 h10 X10 e10 W10 A10
    have sW10 := W10.size
    show Go p e below _ T10 (mkF m 74 #[.val (.int p0), .val (.long p1), .second, .val (.int p2), .val (.int p3), .val (.int p4), .val (.int (Int32.ofNat n)), .val (.int al), .val (.ref a1), .unset, .unset, .unset, .unset, .unset, .unset, .unset] [])
    obtain ⟨cs10, A10, B10⟩ : ∃ cs, AI Z h10 a1 .char cs ∧ CB 12 cs := ⟨_, A10, B7.set 2 _⟩
    have K10 := K7.wr W10 (Or.inr ha1)
    have N10 := Fr.snoc X10 N9 (by omega)
    refine Go.st (fun _ k => XS.aload X10.here hx rfl (hb hby at_74) rfl rfl k) ?_
    show Go p e below _ T10 (mkF m 76 #[.val (.int p0), .val (.long p1), .second, .val (.int p2), .val (.int p3), .val (.int p4), .val (.int (Int32.ofNat n)), .val (.int al), .val (.ref a1), .unset, .unset, .unset, .unset, .unset, .unset, .unset] [(.ref a1)])
    refine Go.st (fun _ k => XS.iconst X10.here hx rfl (hb hby at_76) k) ?_
    show Go p e below _ T10 (mkF m 77 #[.val (.int p0), .val (.long p1), .second, .val (.int p2), .val (.int p3), .val (.int p4), .val (.int (Int32.ofNat n)), .val (.int al), .val (.ref a1), .unset, .unset, .unset, .unset, .unset, .unset, .unset] [(.int (3 : Int32)), (.ref a1)])
    refine Go.st (fun _ k => XT.lloadN X10.here hx rfl (hb hby at_77) rfl k) ?_
    show Go p e below _ T10 (mkF m 78 #[.val (.int p0), .val (.long p1), .second, .val (.int p2), .val (.int p3), .val (.int p4), .val (.int (Int32.ofNat n)), .val (.int al), .val (.ref a1), .unset, .unset, .unset, .unset, .unset, .unset, .unset] [(.long p1), (.int (3 : Int32)), (.ref a1)])
    refine Go.st (fun _ k => XS.iconst X10.here hx rfl (hb hby at_78) k) ?_
    show Go p e below _ T10 (mkF m 79 #[.val (.int p0), .val (.long p1), .second, .val (.int p2), .val (.int p3), .val (.int p4), .val (.int (Int32.ofNat n)), .val (.int al), .val (.ref a1), .unset, .unset, .unset, .unset, .unset, .unset, .unset] [(.int (3 : Int32)), (.long p1), (.int (3 : Int32)), (.ref a1)])
    refine Go.callS X10 hx (y := (⟨"com/example/federate/federate/WholeNumbersParsePinLaw", "nib", "(JI)I"⟩ : MethodName)) hown (mvT hZ (hw _ (List.mem_of_getElem? (i := 1) rfl))) (mvT hZ (hw _ (List.mem_of_getElem? (i := 2) rfl))) (mvT hZ (hw _ (List.mem_of_getElem? (i := 3) rfl))) (mvT hZ (hw _ (List.mem_of_getElem? (i := 4) rfl))) (by decide) (Ctr.back (W := 2) (rmNB l Z a0 hw p1 (3 : Int32) h10 n0) hZ (hw _ (List.mem_of_getElem? (i := 4) rfl)) (hw _ (List.mem_of_getElem? (i := 3) rfl)) (by (try dsimp only [room_1]); (try simp only [List.length_cons, List.length_nil]); omega) (by (try dsimp only [room_1]); (try simp only [List.length_cons, List.length_nil]); omega)) e10 (g := (mkF m 79 #[.val (.int p0), .val (.long p1), .second, .val (.int p2), .val (.int p3), .val (.int p4), .val (.int (Int32.ofNat n)), .val (.int al), .val (.ref a1), .unset, .unset, .unset, .unset, .unset, .unset, .unset] [(.int (3 : Int32)), (.long p1), (.int (3 : Int32)), (.ref a1)])) rfl (by rw [hml]; rfl) (argsL := [(.long p1), (.int (3 : Int32))]) (rest := [(.int (3 : Int32)), (.ref a1)]) (lenOf pd_45 rfl) rfl (by show 2 * 0 + _ ≤ _; exact Nat.le_of_eq rfl) (hb hby at_79) rfl (by (try dsimp only [room_1]); (try simp only [List.length_cons, List.length_nil]); omega) (by (try dsimp only [room_1]); (try simp only [List.length_cons, List.length_nil]); omega) ?_
    rintro _ T11 L11 X11 ⟨x11, rfl, N11q, e11⟩
    show Go p e below _ T11 (mkF m 82 #[.val (.int p0), .val (.long p1), .second, .val (.int p2), .val (.int p3), .val (.int p4), .val (.int (Int32.ofNat n)), .val (.int al), .val (.ref a1), .unset, .unset, .unset, .unset, .unset, .unset, .unset] [(.int x11), (.int (3 : Int32)), (.ref a1)])
    have N11 := Fr.app N10 N11q
    refine Go.st (fun _ k => XS.iloadN X11.here hx rfl (hb hby at_82) rfl k) ?_
    show Go p e below _ T11 (mkF m 83 #[.val (.int p0), .val (.long p1), .second, .val (.int p2), .val (.int p3), .val (.int p4), .val (.int (Int32.ofNat n)), .val (.int al), .val (.ref a1), .unset, .unset, .unset, .unset, .unset, .unset, .unset] [(.int p2), (.int x11), (.int (3 : Int32)), (.ref a1)])
    refine Go.st (fun _ k => XS.iload X11.here hx rfl (hb hby at_83) rfl k) ?_
    show Go p e below _ T11 (mkF m 85 #[.val (.int p0), .val (.long p1), .second, .val (.int p2), .val (.int p3), .val (.int p4), .val (.int (Int32.ofNat n)), .val (.int al), .val (.ref a1), .unset, .unset, .unset, .unset, .unset, .unset, .unset] [(.int al), (.int p2), (.int x11), (.int (3 : Int32)), (.ref a1)])
    refine Go.callS X11 hx (y := (⟨"com/example/federate/federate/WholeNumbersParsePinLaw", "ch", "(IIZ)C"⟩ : MethodName)) hown (mvT hZ (hw _ (List.mem_of_getElem? (i := 6) rfl))) (mvT hZ (hw _ (List.mem_of_getElem? (i := 7) rfl))) (mvT hZ (hw _ (List.mem_of_getElem? (i := 3) rfl))) (mvT hZ (hw _ (List.mem_of_getElem? (i := 8) rfl))) (by decide) (Ctr.back (W := 2) (rmCH l Z a0 hw x11 p2 al h10 n0) hZ (hw _ (List.mem_of_getElem? (i := 8) rfl)) (hw _ (List.mem_of_getElem? (i := 3) rfl)) (by (try dsimp only [room_1]); (try simp only [List.length_cons, List.length_nil]); omega) (by (try dsimp only [room_1]); (try simp only [List.length_cons, List.length_nil]); omega)) e11 (g := (mkF m 85 #[.val (.int p0), .val (.long p1), .second, .val (.int p2), .val (.int p3), .val (.int p4), .val (.int (Int32.ofNat n)), .val (.int al), .val (.ref a1), .unset, .unset, .unset, .unset, .unset, .unset, .unset] [(.int al), (.int p2), (.int x11), (.int (3 : Int32)), (.ref a1)])) rfl (by rw [hml]; rfl) (argsL := [(.int x11), (.int p2), (.int al)]) (rest := [(.int (3 : Int32)), (.ref a1)]) (lenOf pd_46 rfl) rfl (by show 2 * 0 + _ ≤ _; exact Nat.le_of_eq rfl) (hb hby at_85) rfl (by (try dsimp only [room_1]); (try simp only [List.length_cons, List.length_nil]); omega) (by (try dsimp only [room_1]); (try simp only [List.length_cons, List.length_nil]); omega) ?_
    rintro _ T12 L12 X12 ⟨x12, rfl, N12q, e12⟩
    show Go p e below _ T12 (mkF m 88 #[.val (.int p0), .val (.long p1), .second, .val (.int p2), .val (.int p3), .val (.int p4), .val (.int (Int32.ofNat n)), .val (.int al), .val (.ref a1), .unset, .unset, .unset, .unset, .unset, .unset, .unset] [(.int x12), (.int (3 : Int32)), (.ref a1)])
    have N12 := Fr.app N11 N12q
    refine Go.castore X12 hx hZ e12 A10 (i := 3) rfl (by rw [B10.1]; decide) (g := (mkF m 88 #[.val (.int p0), .val (.long p1), .second, .val (.int p2), .val (.int p3), .val (.int p4), .val (.int (Int32.ofNat n)), .val (.int al), .val (.ref a1), .unset, .unset, .unset, .unset, .unset, .unset, .unset] [(.int x12), (.int (3 : Int32)), (.ref a1)])) rfl rfl (hb hby at_88) ?_
    rintro T13 h13 X13 e13 W13 A13
    have sW13 := W13.size
    show Go p e below _ T13 (mkF m 89 #[.val (.int p0), .val (.long p1), .second, .val (.int p2), .val (.int p3), .val (.int p4), .val (.int (Int32.ofNat n)), .val (.int al), .val (.ref a1), .unset, .unset, .unset, .unset, .unset, .unset, .unset] [])
    obtain ⟨cs13, A13, B13⟩ : ∃ cs, AI Z h13 a1 .char cs ∧ CB 12 cs := ⟨_, A13, B10.set 3 _⟩
    have K13 := K10.wr W13 (Or.inr ha1)
    have N13 := Fr.snoc X13 N12 (by omega)
    refine Go.st (fun _ k => XS.aload X13.here hx rfl (hb hby at_89) rfl rfl k) ?_
    show Go p e below _ T13 (mkF m 91 #[.val (.int p0), .val (.long p1), .second, .val (.int p2), .val (.int p3), .val (.int p4), .val (.int (Int32.ofNat n)), .val (.int al), .val (.ref a1), .unset, .unset, .unset, .unset, .unset, .unset, .unset] [(.ref a1)])
    refine Go.st (fun _ k => XS.iconst X13.here hx rfl (hb hby at_91) k) ?_
    show Go p e below _ T13 (mkF m 92 #[.val (.int p0), .val (.long p1), .second, .val (.int p2), .val (.int p3), .val (.int p4), .val (.int (Int32.ofNat n)), .val (.int al), .val (.ref a1), .unset, .unset, .unset, .unset, .unset, .unset, .unset] [(.int (4 : Int32)), (.ref a1)])
    refine Go.st (fun _ k => XT.lloadN X13.here hx rfl (hb hby at_92) rfl k) ?_
    show Go p e below _ T13 (mkF m 93 #[.val (.int p0), .val (.long p1), .second, .val (.int p2), .val (.int p3), .val (.int p4), .val (.int (Int32.ofNat n)), .val (.int al), .val (.ref a1), .unset, .unset, .unset, .unset, .unset, .unset, .unset] [(.long p1), (.int (4 : Int32)), (.ref a1)])
    refine Go.st (fun _ k => XS.iconst X13.here hx rfl (hb hby at_93) k) ?_
    show Go p e below _ T13 (mkF m 94 #[.val (.int p0), .val (.long p1), .second, .val (.int p2), .val (.int p3), .val (.int p4), .val (.int (Int32.ofNat n)), .val (.int al), .val (.ref a1), .unset, .unset, .unset, .unset, .unset, .unset, .unset] [(.int (4 : Int32)), (.long p1), (.int (4 : Int32)), (.ref a1)])
    refine Go.callS X13 hx (y := (⟨"com/example/federate/federate/WholeNumbersParsePinLaw", "nib", "(JI)I"⟩ : MethodName)) hown (mvT hZ (hw _ (List.mem_of_getElem? (i := 1) rfl))) (mvT hZ (hw _ (List.mem_of_getElem? (i := 2) rfl))) (mvT hZ (hw _ (List.mem_of_getElem? (i := 3) rfl))) (mvT hZ (hw _ (List.mem_of_getElem? (i := 4) rfl))) (by decide) (Ctr.back (W := 2) (rmNB l Z a0 hw p1 (4 : Int32) h13 n0) hZ (hw _ (List.mem_of_getElem? (i := 4) rfl)) (hw _ (List.mem_of_getElem? (i := 3) rfl)) (by (try dsimp only [room_1]); (try simp only [List.length_cons, List.length_nil]); omega) (by (try dsimp only [room_1]); (try simp only [List.length_cons, List.length_nil]); omega)) e13 (g := (mkF m 94 #[.val (.int p0), .val (.long p1), .second, .val (.int p2), .val (.int p3), .val (.int p4), .val (.int (Int32.ofNat n)), .val (.int al), .val (.ref a1), .unset, .unset, .unset, .unset, .unset, .unset, .unset] [(.int (4 : Int32)), (.long p1), (.int (4 : Int32)), (.ref a1)])) rfl (by rw [hml]; rfl) (argsL := [(.long p1), (.int (4 : Int32))]) (rest := [(.int (4 : Int32)), (.ref a1)]) (lenOf pd_45 rfl) rfl (by show 2 * 0 + _ ≤ _; exact Nat.le_of_eq rfl) (hb hby at_94) rfl (by (try dsimp only [room_1]); (try simp only [List.length_cons, List.length_nil]); omega) (by (try dsimp only [room_1]); (try simp only [List.length_cons, List.length_nil]); omega) ?_
    rintro _ T14 L14 X14 ⟨x14, rfl, N14q, e14⟩
    show Go p e below _ T14 (mkF m 97 #[.val (.int p0), .val (.long p1), .second, .val (.int p2), .val (.int p3), .val (.int p4), .val (.int (Int32.ofNat n)), .val (.int al), .val (.ref a1), .unset, .unset, .unset, .unset, .unset, .unset, .unset] [(.int x14), (.int (4 : Int32)), (.ref a1)])
    have N14 := Fr.app N13 N14q
    refine Go.st (fun _ k => XS.iloadN X14.here hx rfl (hb hby at_97) rfl k) ?_
    show Go p e below _ T14 (mkF m 98 #[.val (.int p0), .val (.long p1), .second, .val (.int p2), .val (.int p3), .val (.int p4), .val (.int (Int32.ofNat n)), .val (.int al), .val (.ref a1), .unset, .unset, .unset, .unset, .unset, .unset, .unset] [(.int p2), (.int x14), (.int (4 : Int32)), (.ref a1)])
    refine Go.st (fun _ k => XS.iload X14.here hx rfl (hb hby at_98) rfl k) ?_
    show Go p e below _ T14 (mkF m 100 #[.val (.int p0), .val (.long p1), .second, .val (.int p2), .val (.int p3), .val (.int p4), .val (.int (Int32.ofNat n)), .val (.int al), .val (.ref a1), .unset, .unset, .unset, .unset, .unset, .unset, .unset] [(.int al), (.int p2), (.int x14), (.int (4 : Int32)), (.ref a1)])
    refine Go.callS X14 hx (y := (⟨"com/example/federate/federate/WholeNumbersParsePinLaw", "ch", "(IIZ)C"⟩ : MethodName)) hown (mvT hZ (hw _ (List.mem_of_getElem? (i := 6) rfl))) (mvT hZ (hw _ (List.mem_of_getElem? (i := 7) rfl))) (mvT hZ (hw _ (List.mem_of_getElem? (i := 3) rfl))) (mvT hZ (hw _ (List.mem_of_getElem? (i := 8) rfl))) (by decide) (Ctr.back (W := 2) (rmCH l Z a0 hw x14 p2 al h13 n0) hZ (hw _ (List.mem_of_getElem? (i := 8) rfl)) (hw _ (List.mem_of_getElem? (i := 3) rfl)) (by (try dsimp only [room_1]); (try simp only [List.length_cons, List.length_nil]); omega) (by (try dsimp only [room_1]); (try simp only [List.length_cons, List.length_nil]); omega)) e14 (g := (mkF m 100 #[.val (.int p0), .val (.long p1), .second, .val (.int p2), .val (.int p3), .val (.int p4), .val (.int (Int32.ofNat n)), .val (.int al), .val (.ref a1), .unset, .unset, .unset, .unset, .unset, .unset, .unset] [(.int al), (.int p2), (.int x14), (.int (4 : Int32)), (.ref a1)])) rfl (by rw [hml]; rfl) (argsL := [(.int x14), (.int p2), (.int al)]) (rest := [(.int (4 : Int32)), (.ref a1)]) (lenOf pd_46 rfl) rfl (by show 2 * 0 + _ ≤ _; exact Nat.le_of_eq rfl) (hb hby at_100) rfl (by (try dsimp only [room_1]); (try simp only [List.length_cons, List.length_nil]); omega) (by (try dsimp only [room_1]); (try simp only [List.length_cons, List.length_nil]); omega) ?_
    rintro _ T15 L15 X15 ⟨x15, rfl, N15q, e15⟩
    show Go p e below _ T15 (mkF m 103 #[.val (.int p0), .val (.long p1), .second, .val (.int p2), .val (.int p3), .val (.int p4), .val (.int (Int32.ofNat n)), .val (.int al), .val (.ref a1), .unset, .unset, .unset, .unset, .unset, .unset, .unset] [(.int x15), (.int (4 : Int32)), (.ref a1)])
    have N15 := Fr.app N14 N15q
    refine Go.castore X15 hx hZ e15 A13 (i := 4) rfl (by rw [B13.1]; decide) (g := (mkF m 103 #[.val (.int p0), .val (.long p1), .second, .val (.int p2), .val (.int p3), .val (.int p4), .val (.int (Int32.ofNat n)), .val (.int al), .val (.ref a1), .unset, .unset, .unset, .unset, .unset, .unset, .unset] [(.int x15), (.int (4 : Int32)), (.ref a1)])) rfl rfl (hb hby at_103) ?_
    rintro T16 h16 X16 e16 W16 A16
    have sW16 := W16.size
    show Go p e below _ T16 (mkF m 104 #[.val (.int p0), .val (.long p1), .second, .val (.int p2), .val (.int p3), .val (.int p4), .val (.int (Int32.ofNat n)), .val (.int al), .val (.ref a1), .unset, .unset, .unset, .unset, .unset, .unset, .unset] [])
    obtain ⟨cs16, A16, B16⟩ : ∃ cs, AI Z h16 a1 .char cs ∧ CB 12 cs := ⟨_, A16, B13.set 4 _⟩
    have K16 := K13.wr W16 (Or.inr ha1)
    have N16 := Fr.snoc X16 N15 (by omega)
    refine Go.st (fun _ k => XS.aload X16.here hx rfl (hb hby at_104) rfl rfl k) ?_
    show Go p e below _ T16 (mkF m 106 #[.val (.int p0), .val (.long p1), .second, .val (.int p2), .val (.int p3), .val (.int p4), .val (.int (Int32.ofNat n)), .val (.int al), .val (.ref a1), .unset, .unset, .unset, .unset, .unset, .unset, .unset] [(.ref a1)])
    refine Go.st (fun _ k => XS.iconst X16.here hx rfl (hb hby at_106) k) ?_
    show Go p e below _ T16 (mkF m 107 #[.val (.int p0), .val (.long p1), .second, .val (.int p2), .val (.int p3), .val (.int p4), .val (.int (Int32.ofNat n)), .val (.int al), .val (.ref a1), .unset, .unset, .unset, .unset, .unset, .unset, .unset] [(.int (5 : Int32)), (.ref a1)])
    refine Go.st (fun _ k => XT.lloadN X16.here hx rfl (hb hby at_107) rfl k) ?_
    show Go p e below _ T16 (mkF m 108 #[.val (.int p0), .val (.long p1), .second, .val (.int p2), .val (.int p3), .val (.int p4), .val (.int (Int32.ofNat n)), .val (.int al), .val (.ref a1), .unset, .unset, .unset, .unset, .unset, .unset, .unset] [(.long p1), (.int (5 : Int32)), (.ref a1)])
    refine Go.st (fun _ k => XS.iconst X16.here hx rfl (hb hby at_108) k) ?_
    show Go p e below _ T16 (mkF m 109 #[.val (.int p0), .val (.long p1), .second, .val (.int p2), .val (.int p3), .val (.int p4), .val (.int (Int32.ofNat n)), .val (.int al), .val (.ref a1), .unset, .unset, .unset, .unset, .unset, .unset, .unset] [(.int (5 : Int32)), (.long p1), (.int (5 : Int32)), (.ref a1)])
    refine Go.callS X16 hx (y := (⟨"com/example/federate/federate/WholeNumbersParsePinLaw", "nib", "(JI)I"⟩ : MethodName)) hown (mvT hZ (hw _ (List.mem_of_getElem? (i := 1) rfl))) (mvT hZ (hw _ (List.mem_of_getElem? (i := 2) rfl))) (mvT hZ (hw _ (List.mem_of_getElem? (i := 3) rfl))) (mvT hZ (hw _ (List.mem_of_getElem? (i := 4) rfl))) (by decide) (Ctr.back (W := 2) (rmNB l Z a0 hw p1 (5 : Int32) h16 n0) hZ (hw _ (List.mem_of_getElem? (i := 4) rfl)) (hw _ (List.mem_of_getElem? (i := 3) rfl)) (by (try dsimp only [room_1]); (try simp only [List.length_cons, List.length_nil]); omega) (by (try dsimp only [room_1]); (try simp only [List.length_cons, List.length_nil]); omega)) e16 (g := (mkF m 109 #[.val (.int p0), .val (.long p1), .second, .val (.int p2), .val (.int p3), .val (.int p4), .val (.int (Int32.ofNat n)), .val (.int al), .val (.ref a1), .unset, .unset, .unset, .unset, .unset, .unset, .unset] [(.int (5 : Int32)), (.long p1), (.int (5 : Int32)), (.ref a1)])) rfl (by rw [hml]; rfl) (argsL := [(.long p1), (.int (5 : Int32))]) (rest := [(.int (5 : Int32)), (.ref a1)]) (lenOf pd_45 rfl) rfl (by show 2 * 0 + _ ≤ _; exact Nat.le_of_eq rfl) (hb hby at_109) rfl (by (try dsimp only [room_1]); (try simp only [List.length_cons, List.length_nil]); omega) (by (try dsimp only [room_1]); (try simp only [List.length_cons, List.length_nil]); omega) ?_
    rintro _ T17 L17 X17 ⟨x17, rfl, N17q, e17⟩
    show Go p e below _ T17 (mkF m 112 #[.val (.int p0), .val (.long p1), .second, .val (.int p2), .val (.int p3), .val (.int p4), .val (.int (Int32.ofNat n)), .val (.int al), .val (.ref a1), .unset, .unset, .unset, .unset, .unset, .unset, .unset] [(.int x17), (.int (5 : Int32)), (.ref a1)])
    have N17 := Fr.app N16 N17q
    refine Go.st (fun _ k => XS.iloadN X17.here hx rfl (hb hby at_112) rfl k) ?_
    show Go p e below _ T17 (mkF m 113 #[.val (.int p0), .val (.long p1), .second, .val (.int p2), .val (.int p3), .val (.int p4), .val (.int (Int32.ofNat n)), .val (.int al), .val (.ref a1), .unset, .unset, .unset, .unset, .unset, .unset, .unset] [(.int p2), (.int x17), (.int (5 : Int32)), (.ref a1)])
    refine Go.st (fun _ k => XS.iload X17.here hx rfl (hb hby at_113) rfl k) ?_
    show Go p e below _ T17 (mkF m 115 #[.val (.int p0), .val (.long p1), .second, .val (.int p2), .val (.int p3), .val (.int p4), .val (.int (Int32.ofNat n)), .val (.int al), .val (.ref a1), .unset, .unset, .unset, .unset, .unset, .unset, .unset] [(.int al), (.int p2), (.int x17), (.int (5 : Int32)), (.ref a1)])
    refine Go.callS X17 hx (y := (⟨"com/example/federate/federate/WholeNumbersParsePinLaw", "ch", "(IIZ)C"⟩ : MethodName)) hown (mvT hZ (hw _ (List.mem_of_getElem? (i := 6) rfl))) (mvT hZ (hw _ (List.mem_of_getElem? (i := 7) rfl))) (mvT hZ (hw _ (List.mem_of_getElem? (i := 3) rfl))) (mvT hZ (hw _ (List.mem_of_getElem? (i := 8) rfl))) (by decide) (Ctr.back (W := 2) (rmCH l Z a0 hw x17 p2 al h16 n0) hZ (hw _ (List.mem_of_getElem? (i := 8) rfl)) (hw _ (List.mem_of_getElem? (i := 3) rfl)) (by (try dsimp only [room_1]); (try simp only [List.length_cons, List.length_nil]); omega) (by (try dsimp only [room_1]); (try simp only [List.length_cons, List.length_nil]); omega)) e17 (g := (mkF m 115 #[.val (.int p0), .val (.long p1), .second, .val (.int p2), .val (.int p3), .val (.int p4), .val (.int (Int32.ofNat n)), .val (.int al), .val (.ref a1), .unset, .unset, .unset, .unset, .unset, .unset, .unset] [(.int al), (.int p2), (.int x17), (.int (5 : Int32)), (.ref a1)])) rfl (by rw [hml]; rfl) (argsL := [(.int x17), (.int p2), (.int al)]) (rest := [(.int (5 : Int32)), (.ref a1)]) (lenOf pd_46 rfl) rfl (by show 2 * 0 + _ ≤ _; exact Nat.le_of_eq rfl) (hb hby at_115) rfl (by (try dsimp only [room_1]); (try simp only [List.length_cons, List.length_nil]); omega) (by (try dsimp only [room_1]); (try simp only [List.length_cons, List.length_nil]); omega) ?_
    rintro _ T18 L18 X18 ⟨x18, rfl, N18q, e18⟩
    show Go p e below _ T18 (mkF m 118 #[.val (.int p0), .val (.long p1), .second, .val (.int p2), .val (.int p3), .val (.int p4), .val (.int (Int32.ofNat n)), .val (.int al), .val (.ref a1), .unset, .unset, .unset, .unset, .unset, .unset, .unset] [(.int x18), (.int (5 : Int32)), (.ref a1)])
    have N18 := Fr.app N17 N18q
    refine Go.castore X18 hx hZ e18 A16 (i := 5) rfl (by rw [B16.1]; decide) (g := (mkF m 118 #[.val (.int p0), .val (.long p1), .second, .val (.int p2), .val (.int p3), .val (.int p4), .val (.int (Int32.ofNat n)), .val (.int al), .val (.ref a1), .unset, .unset, .unset, .unset, .unset, .unset, .unset] [(.int x18), (.int (5 : Int32)), (.ref a1)])) rfl rfl (hb hby at_118) ?_
    rintro T19 h19 X19 e19 W19 A19
    have sW19 := W19.size
    show Go p e below _ T19 (mkF m 119 #[.val (.int p0), .val (.long p1), .second, .val (.int p2), .val (.int p3), .val (.int p4), .val (.int (Int32.ofNat n)), .val (.int al), .val (.ref a1), .unset, .unset, .unset, .unset, .unset, .unset, .unset] [])
    obtain ⟨cs19, A19, B19⟩ : ∃ cs, AI Z h19 a1 .char cs ∧ CB 12 cs := ⟨_, A19, B16.set 5 _⟩
    have K19 := K16.wr W19 (Or.inr ha1)
    have N19 := Fr.snoc X19 N18 (by omega)
    refine Go.st (fun _ k => XS.aload X19.here hx rfl (hb hby at_119) rfl rfl k) ?_
    show Go p e below _ T19 (mkF m 121 #[.val (.int p0), .val (.long p1), .second, .val (.int p2), .val (.int p3), .val (.int p4), .val (.int (Int32.ofNat n)), .val (.int al), .val (.ref a1), .unset, .unset, .unset, .unset, .unset, .unset, .unset] [(.ref a1)])
    refine Go.st (fun _ k => XS.bipush X19.here hx rfl (hb hby at_121) k) ?_
    show Go p e below _ T19 (mkF m 123 #[.val (.int p0), .val (.long p1), .second, .val (.int p2), .val (.int p3), .val (.int p4), .val (.int (Int32.ofNat n)), .val (.int al), .val (.ref a1), .unset, .unset, .unset, .unset, .unset, .unset, .unset] [(.int (6 : Int32)), (.ref a1)])
    refine Go.st (fun _ k => XT.lloadN X19.here hx rfl (hb hby at_123) rfl k) ?_
    show Go p e below _ T19 (mkF m 124 #[.val (.int p0), .val (.long p1), .second, .val (.int p2), .val (.int p3), .val (.int p4), .val (.int (Int32.ofNat n)), .val (.int al), .val (.ref a1), .unset, .unset, .unset, .unset, .unset, .unset, .unset] [(.long p1), (.int (6 : Int32)), (.ref a1)])
    refine Go.st (fun _ k => XS.bipush X19.here hx rfl (hb hby at_124) k) ?_
    show Go p e below _ T19 (mkF m 126 #[.val (.int p0), .val (.long p1), .second, .val (.int p2), .val (.int p3), .val (.int p4), .val (.int (Int32.ofNat n)), .val (.int al), .val (.ref a1), .unset, .unset, .unset, .unset, .unset, .unset, .unset] [(.int (6 : Int32)), (.long p1), (.int (6 : Int32)), (.ref a1)])
    refine Go.callS X19 hx (y := (⟨"com/example/federate/federate/WholeNumbersParsePinLaw", "nib", "(JI)I"⟩ : MethodName)) hown (mvT hZ (hw _ (List.mem_of_getElem? (i := 1) rfl))) (mvT hZ (hw _ (List.mem_of_getElem? (i := 2) rfl))) (mvT hZ (hw _ (List.mem_of_getElem? (i := 3) rfl))) (mvT hZ (hw _ (List.mem_of_getElem? (i := 4) rfl))) (by decide) (Ctr.back (W := 2) (rmNB l Z a0 hw p1 (6 : Int32) h19 n0) hZ (hw _ (List.mem_of_getElem? (i := 4) rfl)) (hw _ (List.mem_of_getElem? (i := 3) rfl)) (by (try dsimp only [room_1]); (try simp only [List.length_cons, List.length_nil]); omega) (by (try dsimp only [room_1]); (try simp only [List.length_cons, List.length_nil]); omega)) e19 (g := (mkF m 126 #[.val (.int p0), .val (.long p1), .second, .val (.int p2), .val (.int p3), .val (.int p4), .val (.int (Int32.ofNat n)), .val (.int al), .val (.ref a1), .unset, .unset, .unset, .unset, .unset, .unset, .unset] [(.int (6 : Int32)), (.long p1), (.int (6 : Int32)), (.ref a1)])) rfl (by rw [hml]; rfl) (argsL := [(.long p1), (.int (6 : Int32))]) (rest := [(.int (6 : Int32)), (.ref a1)]) (lenOf pd_45 rfl) rfl (by show 2 * 0 + _ ≤ _; exact Nat.le_of_eq rfl) (hb hby at_126) rfl (by (try dsimp only [room_1]); (try simp only [List.length_cons, List.length_nil]); omega) (by (try dsimp only [room_1]); (try simp only [List.length_cons, List.length_nil]); omega) ?_
    rintro _ T20 L20 X20 ⟨x20, rfl, N20q, e20⟩
    show Go p e below _ T20 (mkF m 129 #[.val (.int p0), .val (.long p1), .second, .val (.int p2), .val (.int p3), .val (.int p4), .val (.int (Int32.ofNat n)), .val (.int al), .val (.ref a1), .unset, .unset, .unset, .unset, .unset, .unset, .unset] [(.int x20), (.int (6 : Int32)), (.ref a1)])
    have N20 := Fr.app N19 N20q
    refine Go.st (fun _ k => XS.iloadN X20.here hx rfl (hb hby at_129) rfl k) ?_
    show Go p e below _ T20 (mkF m 130 #[.val (.int p0), .val (.long p1), .second, .val (.int p2), .val (.int p3), .val (.int p4), .val (.int (Int32.ofNat n)), .val (.int al), .val (.ref a1), .unset, .unset, .unset, .unset, .unset, .unset, .unset] [(.int p2), (.int x20), (.int (6 : Int32)), (.ref a1)])
    refine Go.st (fun _ k => XS.iload X20.here hx rfl (hb hby at_130) rfl k) ?_
    show Go p e below _ T20 (mkF m 132 #[.val (.int p0), .val (.long p1), .second, .val (.int p2), .val (.int p3), .val (.int p4), .val (.int (Int32.ofNat n)), .val (.int al), .val (.ref a1), .unset, .unset, .unset, .unset, .unset, .unset, .unset] [(.int al), (.int p2), (.int x20), (.int (6 : Int32)), (.ref a1)])
    refine Go.callS X20 hx (y := (⟨"com/example/federate/federate/WholeNumbersParsePinLaw", "ch", "(IIZ)C"⟩ : MethodName)) hown (mvT hZ (hw _ (List.mem_of_getElem? (i := 6) rfl))) (mvT hZ (hw _ (List.mem_of_getElem? (i := 7) rfl))) (mvT hZ (hw _ (List.mem_of_getElem? (i := 3) rfl))) (mvT hZ (hw _ (List.mem_of_getElem? (i := 8) rfl))) (by decide) (Ctr.back (W := 2) (rmCH l Z a0 hw x20 p2 al h19 n0) hZ (hw _ (List.mem_of_getElem? (i := 8) rfl)) (hw _ (List.mem_of_getElem? (i := 3) rfl)) (by (try dsimp only [room_1]); (try simp only [List.length_cons, List.length_nil]); omega) (by (try dsimp only [room_1]); (try simp only [List.length_cons, List.length_nil]); omega)) e20 (g := (mkF m 132 #[.val (.int p0), .val (.long p1), .second, .val (.int p2), .val (.int p3), .val (.int p4), .val (.int (Int32.ofNat n)), .val (.int al), .val (.ref a1), .unset, .unset, .unset, .unset, .unset, .unset, .unset] [(.int al), (.int p2), (.int x20), (.int (6 : Int32)), (.ref a1)])) rfl (by rw [hml]; rfl) (argsL := [(.int x20), (.int p2), (.int al)]) (rest := [(.int (6 : Int32)), (.ref a1)]) (lenOf pd_46 rfl) rfl (by show 2 * 0 + _ ≤ _; exact Nat.le_of_eq rfl) (hb hby at_132) rfl (by (try dsimp only [room_1]); (try simp only [List.length_cons, List.length_nil]); omega) (by (try dsimp only [room_1]); (try simp only [List.length_cons, List.length_nil]); omega) ?_
    rintro _ T21 L21 X21 ⟨x21, rfl, N21q, e21⟩
    show Go p e below _ T21 (mkF m 135 #[.val (.int p0), .val (.long p1), .second, .val (.int p2), .val (.int p3), .val (.int p4), .val (.int (Int32.ofNat n)), .val (.int al), .val (.ref a1), .unset, .unset, .unset, .unset, .unset, .unset, .unset] [(.int x21), (.int (6 : Int32)), (.ref a1)])
    have N21 := Fr.app N20 N21q
    refine Go.castore X21 hx hZ e21 A19 (i := 6) rfl (by rw [B19.1]; decide) (g := (mkF m 135 #[.val (.int p0), .val (.long p1), .second, .val (.int p2), .val (.int p3), .val (.int p4), .val (.int (Int32.ofNat n)), .val (.int al), .val (.ref a1), .unset, .unset, .unset, .unset, .unset, .unset, .unset] [(.int x21), (.int (6 : Int32)), (.ref a1)])) rfl rfl (hb hby at_135) ?_
    rintro T22 h22 X22 e22 W22 A22
    have sW22 := W22.size
    show Go p e below _ T22 (mkF m 136 #[.val (.int p0), .val (.long p1), .second, .val (.int p2), .val (.int p3), .val (.int p4), .val (.int (Int32.ofNat n)), .val (.int al), .val (.ref a1), .unset, .unset, .unset, .unset, .unset, .unset, .unset] [])
    obtain ⟨cs22, A22, B22⟩ : ∃ cs, AI Z h22 a1 .char cs ∧ CB 12 cs := ⟨_, A22, B19.set 6 _⟩
    have K22 := K19.wr W22 (Or.inr ha1)
    have N22 := Fr.snoc X22 N21 (by omega)
    refine Go.st (fun _ k => XS.aload X22.here hx rfl (hb hby at_136) rfl rfl k) ?_
    show Go p e below _ T22 (mkF m 138 #[.val (.int p0), .val (.long p1), .second, .val (.int p2), .val (.int p3), .val (.int p4), .val (.int (Int32.ofNat n)), .val (.int al), .val (.ref a1), .unset, .unset, .unset, .unset, .unset, .unset, .unset] [(.ref a1)])
    refine Go.st (fun _ k => XS.bipush X22.here hx rfl (hb hby at_138) k) ?_
    show Go p e below _ T22 (mkF m 140 #[.val (.int p0), .val (.long p1), .second, .val (.int p2), .val (.int p3), .val (.int p4), .val (.int (Int32.ofNat n)), .val (.int al), .val (.ref a1), .unset, .unset, .unset, .unset, .unset, .unset, .unset] [(.int (7 : Int32)), (.ref a1)])
    refine Go.st (fun _ k => XT.lloadN X22.here hx rfl (hb hby at_140) rfl k) ?_
    show Go p e below _ T22 (mkF m 141 #[.val (.int p0), .val (.long p1), .second, .val (.int p2), .val (.int p3), .val (.int p4), .val (.int (Int32.ofNat n)), .val (.int al), .val (.ref a1), .unset, .unset, .unset, .unset, .unset, .unset, .unset] [(.long p1), (.int (7 : Int32)), (.ref a1)])
    refine Go.st (fun _ k => XS.bipush X22.here hx rfl (hb hby at_141) k) ?_
    show Go p e below _ T22 (mkF m 143 #[.val (.int p0), .val (.long p1), .second, .val (.int p2), .val (.int p3), .val (.int p4), .val (.int (Int32.ofNat n)), .val (.int al), .val (.ref a1), .unset, .unset, .unset, .unset, .unset, .unset, .unset] [(.int (7 : Int32)), (.long p1), (.int (7 : Int32)), (.ref a1)])
    refine Go.callS X22 hx (y := (⟨"com/example/federate/federate/WholeNumbersParsePinLaw", "nib", "(JI)I"⟩ : MethodName)) hown (mvT hZ (hw _ (List.mem_of_getElem? (i := 1) rfl))) (mvT hZ (hw _ (List.mem_of_getElem? (i := 2) rfl))) (mvT hZ (hw _ (List.mem_of_getElem? (i := 3) rfl))) (mvT hZ (hw _ (List.mem_of_getElem? (i := 4) rfl))) (by decide) (Ctr.back (W := 2) (rmNB l Z a0 hw p1 (7 : Int32) h22 n0) hZ (hw _ (List.mem_of_getElem? (i := 4) rfl)) (hw _ (List.mem_of_getElem? (i := 3) rfl)) (by (try dsimp only [room_1]); (try simp only [List.length_cons, List.length_nil]); omega) (by (try dsimp only [room_1]); (try simp only [List.length_cons, List.length_nil]); omega)) e22 (g := (mkF m 143 #[.val (.int p0), .val (.long p1), .second, .val (.int p2), .val (.int p3), .val (.int p4), .val (.int (Int32.ofNat n)), .val (.int al), .val (.ref a1), .unset, .unset, .unset, .unset, .unset, .unset, .unset] [(.int (7 : Int32)), (.long p1), (.int (7 : Int32)), (.ref a1)])) rfl (by rw [hml]; rfl) (argsL := [(.long p1), (.int (7 : Int32))]) (rest := [(.int (7 : Int32)), (.ref a1)]) (lenOf pd_45 rfl) rfl (by show 2 * 0 + _ ≤ _; exact Nat.le_of_eq rfl) (hb hby at_143) rfl (by (try dsimp only [room_1]); (try simp only [List.length_cons, List.length_nil]); omega) (by (try dsimp only [room_1]); (try simp only [List.length_cons, List.length_nil]); omega) ?_
    rintro _ T23 L23 X23 ⟨x23, rfl, N23q, e23⟩
    show Go p e below _ T23 (mkF m 146 #[.val (.int p0), .val (.long p1), .second, .val (.int p2), .val (.int p3), .val (.int p4), .val (.int (Int32.ofNat n)), .val (.int al), .val (.ref a1), .unset, .unset, .unset, .unset, .unset, .unset, .unset] [(.int x23), (.int (7 : Int32)), (.ref a1)])
    have N23 := Fr.app N22 N23q
    refine Go.st (fun _ k => XS.iloadN X23.here hx rfl (hb hby at_146) rfl k) ?_
    show Go p e below _ T23 (mkF m 147 #[.val (.int p0), .val (.long p1), .second, .val (.int p2), .val (.int p3), .val (.int p4), .val (.int (Int32.ofNat n)), .val (.int al), .val (.ref a1), .unset, .unset, .unset, .unset, .unset, .unset, .unset] [(.int p2), (.int x23), (.int (7 : Int32)), (.ref a1)])
    refine Go.st (fun _ k => XS.iload X23.here hx rfl (hb hby at_147) rfl k) ?_
    show Go p e below _ T23 (mkF m 149 #[.val (.int p0), .val (.long p1), .second, .val (.int p2), .val (.int p3), .val (.int p4), .val (.int (Int32.ofNat n)), .val (.int al), .val (.ref a1), .unset, .unset, .unset, .unset, .unset, .unset, .unset] [(.int al), (.int p2), (.int x23), (.int (7 : Int32)), (.ref a1)])
    refine Go.callS X23 hx (y := (⟨"com/example/federate/federate/WholeNumbersParsePinLaw", "ch", "(IIZ)C"⟩ : MethodName)) hown (mvT hZ (hw _ (List.mem_of_getElem? (i := 6) rfl))) (mvT hZ (hw _ (List.mem_of_getElem? (i := 7) rfl))) (mvT hZ (hw _ (List.mem_of_getElem? (i := 3) rfl))) (mvT hZ (hw _ (List.mem_of_getElem? (i := 8) rfl))) (by decide) (Ctr.back (W := 2) (rmCH l Z a0 hw x23 p2 al h22 n0) hZ (hw _ (List.mem_of_getElem? (i := 8) rfl)) (hw _ (List.mem_of_getElem? (i := 3) rfl)) (by (try dsimp only [room_1]); (try simp only [List.length_cons, List.length_nil]); omega) (by (try dsimp only [room_1]); (try simp only [List.length_cons, List.length_nil]); omega)) e23 (g := (mkF m 149 #[.val (.int p0), .val (.long p1), .second, .val (.int p2), .val (.int p3), .val (.int p4), .val (.int (Int32.ofNat n)), .val (.int al), .val (.ref a1), .unset, .unset, .unset, .unset, .unset, .unset, .unset] [(.int al), (.int p2), (.int x23), (.int (7 : Int32)), (.ref a1)])) rfl (by rw [hml]; rfl) (argsL := [(.int x23), (.int p2), (.int al)]) (rest := [(.int (7 : Int32)), (.ref a1)]) (lenOf pd_46 rfl) rfl (by show 2 * 0 + _ ≤ _; exact Nat.le_of_eq rfl) (hb hby at_149) rfl (by (try dsimp only [room_1]); (try simp only [List.length_cons, List.length_nil]); omega) (by (try dsimp only [room_1]); (try simp only [List.length_cons, List.length_nil]); omega) ?_
    rintro _ T24 L24 X24 ⟨x24, rfl, N24q, e24⟩
    show Go p e below _ T24 (mkF m 152 #[.val (.int p0), .val (.long p1), .second, .val (.int p2), .val (.int p3), .val (.int p4), .val (.int (Int32.ofNat n)), .val (.int al), .val (.ref a1), .unset, .unset, .unset, .unset, .unset, .unset, .unset] [(.int x24), (.int (7 : Int32)), (.ref a1)])
    have N24 := Fr.app N23 N24q
    refine Go.castore X24 hx hZ e24 A22 (i := 7) rfl (by rw [B22.1]; decide) (g := (mkF m 152 #[.val (.int p0), .val (.long p1), .second, .val (.int p2), .val (.int p3), .val (.int p4), .val (.int (Int32.ofNat n)), .val (.int al), .val (.ref a1), .unset, .unset, .unset, .unset, .unset, .unset, .unset] [(.int x24), (.int (7 : Int32)), (.ref a1)])) rfl rfl (hb hby at_152) ?_
    rintro T25 h25 X25 e25 W25 A25
    have sW25 := W25.size
    show Go p e below _ T25 (mkF m 153 #[.val (.int p0), .val (.long p1), .second, .val (.int p2), .val (.int p3), .val (.int p4), .val (.int (Int32.ofNat n)), .val (.int al), .val (.ref a1), .unset, .unset, .unset, .unset, .unset, .unset, .unset] [])
    obtain ⟨cs25, A25, B25⟩ : ∃ cs, AI Z h25 a1 .char cs ∧ CB 12 cs := ⟨_, A25, B22.set 7 _⟩
    have K25 := K22.wr W25 (Or.inr ha1)
    have N25 := Fr.snoc X25 N24 (by omega)
    refine Go.st (fun _ k => XS.aload X25.here hx rfl (hb hby at_153) rfl rfl k) ?_
    show Go p e below _ T25 (mkF m 155 #[.val (.int p0), .val (.long p1), .second, .val (.int p2), .val (.int p3), .val (.int p4), .val (.int (Int32.ofNat n)), .val (.int al), .val (.ref a1), .unset, .unset, .unset, .unset, .unset, .unset, .unset] [(.ref a1)])
    refine Go.st (fun _ k => XS.bipush X25.here hx rfl (hb hby at_155) k) ?_
    show Go p e below _ T25 (mkF m 157 #[.val (.int p0), .val (.long p1), .second, .val (.int p2), .val (.int p3), .val (.int p4), .val (.int (Int32.ofNat n)), .val (.int al), .val (.ref a1), .unset, .unset, .unset, .unset, .unset, .unset, .unset] [(.int (8 : Int32)), (.ref a1)])
    refine Go.st (fun _ k => XT.lloadN X25.here hx rfl (hb hby at_157) rfl k) ?_
    show Go p e below _ T25 (mkF m 158 #[.val (.int p0), .val (.long p1), .second, .val (.int p2), .val (.int p3), .val (.int p4), .val (.int (Int32.ofNat n)), .val (.int al), .val (.ref a1), .unset, .unset, .unset, .unset, .unset, .unset, .unset] [(.long p1), (.int (8 : Int32)), (.ref a1)])
    refine Go.st (fun _ k => XS.bipush X25.here hx rfl (hb hby at_158) k) ?_
    show Go p e below _ T25 (mkF m 160 #[.val (.int p0), .val (.long p1), .second, .val (.int p2), .val (.int p3), .val (.int p4), .val (.int (Int32.ofNat n)), .val (.int al), .val (.ref a1), .unset, .unset, .unset, .unset, .unset, .unset, .unset] [(.int (8 : Int32)), (.long p1), (.int (8 : Int32)), (.ref a1)])
    refine Go.callS X25 hx (y := (⟨"com/example/federate/federate/WholeNumbersParsePinLaw", "nib", "(JI)I"⟩ : MethodName)) hown (mvT hZ (hw _ (List.mem_of_getElem? (i := 1) rfl))) (mvT hZ (hw _ (List.mem_of_getElem? (i := 2) rfl))) (mvT hZ (hw _ (List.mem_of_getElem? (i := 3) rfl))) (mvT hZ (hw _ (List.mem_of_getElem? (i := 4) rfl))) (by decide) (Ctr.back (W := 2) (rmNB l Z a0 hw p1 (8 : Int32) h25 n0) hZ (hw _ (List.mem_of_getElem? (i := 4) rfl)) (hw _ (List.mem_of_getElem? (i := 3) rfl)) (by (try dsimp only [room_1]); (try simp only [List.length_cons, List.length_nil]); omega) (by (try dsimp only [room_1]); (try simp only [List.length_cons, List.length_nil]); omega)) e25 (g := (mkF m 160 #[.val (.int p0), .val (.long p1), .second, .val (.int p2), .val (.int p3), .val (.int p4), .val (.int (Int32.ofNat n)), .val (.int al), .val (.ref a1), .unset, .unset, .unset, .unset, .unset, .unset, .unset] [(.int (8 : Int32)), (.long p1), (.int (8 : Int32)), (.ref a1)])) rfl (by rw [hml]; rfl) (argsL := [(.long p1), (.int (8 : Int32))]) (rest := [(.int (8 : Int32)), (.ref a1)]) (lenOf pd_45 rfl) rfl (by show 2 * 0 + _ ≤ _; exact Nat.le_of_eq rfl) (hb hby at_160) rfl (by (try dsimp only [room_1]); (try simp only [List.length_cons, List.length_nil]); omega) (by (try dsimp only [room_1]); (try simp only [List.length_cons, List.length_nil]); omega) ?_
    rintro _ T26 L26 X26 ⟨x26, rfl, N26q, e26⟩
    show Go p e below _ T26 (mkF m 163 #[.val (.int p0), .val (.long p1), .second, .val (.int p2), .val (.int p3), .val (.int p4), .val (.int (Int32.ofNat n)), .val (.int al), .val (.ref a1), .unset, .unset, .unset, .unset, .unset, .unset, .unset] [(.int x26), (.int (8 : Int32)), (.ref a1)])
    have N26 := Fr.app N25 N26q
    refine Go.st (fun _ k => XS.iloadN X26.here hx rfl (hb hby at_163) rfl k) ?_
    show Go p e below _ T26 (mkF m 164 #[.val (.int p0), .val (.long p1), .second, .val (.int p2), .val (.int p3), .val (.int p4), .val (.int (Int32.ofNat n)), .val (.int al), .val (.ref a1), .unset, .unset, .unset, .unset, .unset, .unset, .unset] [(.int p2), (.int x26), (.int (8 : Int32)), (.ref a1)])
    refine Go.st (fun _ k => XS.iload X26.here hx rfl (hb hby at_164) rfl k) ?_
    show Go p e below _ T26 (mkF m 166 #[.val (.int p0), .val (.long p1), .second, .val (.int p2), .val (.int p3), .val (.int p4), .val (.int (Int32.ofNat n)), .val (.int al), .val (.ref a1), .unset, .unset, .unset, .unset, .unset, .unset, .unset] [(.int al), (.int p2), (.int x26), (.int (8 : Int32)), (.ref a1)])
    refine Go.callS X26 hx (y := (⟨"com/example/federate/federate/WholeNumbersParsePinLaw", "ch", "(IIZ)C"⟩ : MethodName)) hown (mvT hZ (hw _ (List.mem_of_getElem? (i := 6) rfl))) (mvT hZ (hw _ (List.mem_of_getElem? (i := 7) rfl))) (mvT hZ (hw _ (List.mem_of_getElem? (i := 3) rfl))) (mvT hZ (hw _ (List.mem_of_getElem? (i := 8) rfl))) (by decide) (Ctr.back (W := 2) (rmCH l Z a0 hw x26 p2 al h25 n0) hZ (hw _ (List.mem_of_getElem? (i := 8) rfl)) (hw _ (List.mem_of_getElem? (i := 3) rfl)) (by (try dsimp only [room_1]); (try simp only [List.length_cons, List.length_nil]); omega) (by (try dsimp only [room_1]); (try simp only [List.length_cons, List.length_nil]); omega)) e26 (g := (mkF m 166 #[.val (.int p0), .val (.long p1), .second, .val (.int p2), .val (.int p3), .val (.int p4), .val (.int (Int32.ofNat n)), .val (.int al), .val (.ref a1), .unset, .unset, .unset, .unset, .unset, .unset, .unset] [(.int al), (.int p2), (.int x26), (.int (8 : Int32)), (.ref a1)])) rfl (by rw [hml]; rfl) (argsL := [(.int x26), (.int p2), (.int al)]) (rest := [(.int (8 : Int32)), (.ref a1)]) (lenOf pd_46 rfl) rfl (by show 2 * 0 + _ ≤ _; exact Nat.le_of_eq rfl) (hb hby at_166) rfl (by (try dsimp only [room_1]); (try simp only [List.length_cons, List.length_nil]); omega) (by (try dsimp only [room_1]); (try simp only [List.length_cons, List.length_nil]); omega) ?_
    rintro _ T27 L27 X27 ⟨x27, rfl, N27q, e27⟩
    show Go p e below _ T27 (mkF m 169 #[.val (.int p0), .val (.long p1), .second, .val (.int p2), .val (.int p3), .val (.int p4), .val (.int (Int32.ofNat n)), .val (.int al), .val (.ref a1), .unset, .unset, .unset, .unset, .unset, .unset, .unset] [(.int x27), (.int (8 : Int32)), (.ref a1)])
    have N27 := Fr.app N26 N27q
    refine Go.castore X27 hx hZ e27 A25 (i := 8) rfl (by rw [B25.1]; decide) (g := (mkF m 169 #[.val (.int p0), .val (.long p1), .second, .val (.int p2), .val (.int p3), .val (.int p4), .val (.int (Int32.ofNat n)), .val (.int al), .val (.ref a1), .unset, .unset, .unset, .unset, .unset, .unset, .unset] [(.int x27), (.int (8 : Int32)), (.ref a1)])) rfl rfl (hb hby at_169) ?_
    rintro T28 h28 X28 e28 W28 A28
    have sW28 := W28.size
    show Go p e below _ T28 (mkF m 170 #[.val (.int p0), .val (.long p1), .second, .val (.int p2), .val (.int p3), .val (.int p4), .val (.int (Int32.ofNat n)), .val (.int al), .val (.ref a1), .unset, .unset, .unset, .unset, .unset, .unset, .unset] [])
    obtain ⟨cs28, A28, B28⟩ : ∃ cs, AI Z h28 a1 .char cs ∧ CB 12 cs := ⟨_, A28, B25.set 8 _⟩
    have K28 := K25.wr W28 (Or.inr ha1)
    have N28 := Fr.snoc X28 N27 (by omega)
    refine Go.st (fun _ k => XS.aload X28.here hx rfl (hb hby at_170) rfl rfl k) ?_
    show Go p e below _ T28 (mkF m 172 #[.val (.int p0), .val (.long p1), .second, .val (.int p2), .val (.int p3), .val (.int p4), .val (.int (Int32.ofNat n)), .val (.int al), .val (.ref a1), .unset, .unset, .unset, .unset, .unset, .unset, .unset] [(.ref a1)])
    refine Go.st (fun _ k => XS.bipush X28.here hx rfl (hb hby at_172) k) ?_
    show Go p e below _ T28 (mkF m 174 #[.val (.int p0), .val (.long p1), .second, .val (.int p2), .val (.int p3), .val (.int p4), .val (.int (Int32.ofNat n)), .val (.int al), .val (.ref a1), .unset, .unset, .unset, .unset, .unset, .unset, .unset] [(.int (9 : Int32)), (.ref a1)])
    refine Go.st (fun _ k => XT.lloadN X28.here hx rfl (hb hby at_174) rfl k) ?_
    show Go p e below _ T28 (mkF m 175 #[.val (.int p0), .val (.long p1), .second, .val (.int p2), .val (.int p3), .val (.int p4), .val (.int (Int32.ofNat n)), .val (.int al), .val (.ref a1), .unset, .unset, .unset, .unset, .unset, .unset, .unset] [(.long p1), (.int (9 : Int32)), (.ref a1)])
    refine Go.st (fun _ k => XS.bipush X28.here hx rfl (hb hby at_175) k) ?_
    show Go p e below _ T28 (mkF m 177 #[.val (.int p0), .val (.long p1), .second, .val (.int p2), .val (.int p3), .val (.int p4), .val (.int (Int32.ofNat n)), .val (.int al), .val (.ref a1), .unset, .unset, .unset, .unset, .unset, .unset, .unset] [(.int (9 : Int32)), (.long p1), (.int (9 : Int32)), (.ref a1)])
    refine Go.callS X28 hx (y := (⟨"com/example/federate/federate/WholeNumbersParsePinLaw", "nib", "(JI)I"⟩ : MethodName)) hown (mvT hZ (hw _ (List.mem_of_getElem? (i := 1) rfl))) (mvT hZ (hw _ (List.mem_of_getElem? (i := 2) rfl))) (mvT hZ (hw _ (List.mem_of_getElem? (i := 3) rfl))) (mvT hZ (hw _ (List.mem_of_getElem? (i := 4) rfl))) (by decide) (Ctr.back (W := 2) (rmNB l Z a0 hw p1 (9 : Int32) h28 n0) hZ (hw _ (List.mem_of_getElem? (i := 4) rfl)) (hw _ (List.mem_of_getElem? (i := 3) rfl)) (by (try dsimp only [room_1]); (try simp only [List.length_cons, List.length_nil]); omega) (by (try dsimp only [room_1]); (try simp only [List.length_cons, List.length_nil]); omega)) e28 (g := (mkF m 177 #[.val (.int p0), .val (.long p1), .second, .val (.int p2), .val (.int p3), .val (.int p4), .val (.int (Int32.ofNat n)), .val (.int al), .val (.ref a1), .unset, .unset, .unset, .unset, .unset, .unset, .unset] [(.int (9 : Int32)), (.long p1), (.int (9 : Int32)), (.ref a1)])) rfl (by rw [hml]; rfl) (argsL := [(.long p1), (.int (9 : Int32))]) (rest := [(.int (9 : Int32)), (.ref a1)]) (lenOf pd_45 rfl) rfl (by show 2 * 0 + _ ≤ _; exact Nat.le_of_eq rfl) (hb hby at_177) rfl (by (try dsimp only [room_1]); (try simp only [List.length_cons, List.length_nil]); omega) (by (try dsimp only [room_1]); (try simp only [List.length_cons, List.length_nil]); omega) ?_
    rintro _ T29 L29 X29 ⟨x29, rfl, N29q, e29⟩
    show Go p e below _ T29 (mkF m 180 #[.val (.int p0), .val (.long p1), .second, .val (.int p2), .val (.int p3), .val (.int p4), .val (.int (Int32.ofNat n)), .val (.int al), .val (.ref a1), .unset, .unset, .unset, .unset, .unset, .unset, .unset] [(.int x29), (.int (9 : Int32)), (.ref a1)])
    have N29 := Fr.app N28 N29q
    refine Go.st (fun _ k => XS.iloadN X29.here hx rfl (hb hby at_180) rfl k) ?_
    show Go p e below _ T29 (mkF m 181 #[.val (.int p0), .val (.long p1), .second, .val (.int p2), .val (.int p3), .val (.int p4), .val (.int (Int32.ofNat n)), .val (.int al), .val (.ref a1), .unset, .unset, .unset, .unset, .unset, .unset, .unset] [(.int p2), (.int x29), (.int (9 : Int32)), (.ref a1)])
    refine Go.st (fun _ k => XS.iload X29.here hx rfl (hb hby at_181) rfl k) ?_
    show Go p e below _ T29 (mkF m 183 #[.val (.int p0), .val (.long p1), .second, .val (.int p2), .val (.int p3), .val (.int p4), .val (.int (Int32.ofNat n)), .val (.int al), .val (.ref a1), .unset, .unset, .unset, .unset, .unset, .unset, .unset] [(.int al), (.int p2), (.int x29), (.int (9 : Int32)), (.ref a1)])
    refine Go.callS X29 hx (y := (⟨"com/example/federate/federate/WholeNumbersParsePinLaw", "ch", "(IIZ)C"⟩ : MethodName)) hown (mvT hZ (hw _ (List.mem_of_getElem? (i := 6) rfl))) (mvT hZ (hw _ (List.mem_of_getElem? (i := 7) rfl))) (mvT hZ (hw _ (List.mem_of_getElem? (i := 3) rfl))) (mvT hZ (hw _ (List.mem_of_getElem? (i := 8) rfl))) (by decide) (Ctr.back (W := 2) (rmCH l Z a0 hw x29 p2 al h28 n0) hZ (hw _ (List.mem_of_getElem? (i := 8) rfl)) (hw _ (List.mem_of_getElem? (i := 3) rfl)) (by (try dsimp only [room_1]); (try simp only [List.length_cons, List.length_nil]); omega) (by (try dsimp only [room_1]); (try simp only [List.length_cons, List.length_nil]); omega)) e29 (g := (mkF m 183 #[.val (.int p0), .val (.long p1), .second, .val (.int p2), .val (.int p3), .val (.int p4), .val (.int (Int32.ofNat n)), .val (.int al), .val (.ref a1), .unset, .unset, .unset, .unset, .unset, .unset, .unset] [(.int al), (.int p2), (.int x29), (.int (9 : Int32)), (.ref a1)])) rfl (by rw [hml]; rfl) (argsL := [(.int x29), (.int p2), (.int al)]) (rest := [(.int (9 : Int32)), (.ref a1)]) (lenOf pd_46 rfl) rfl (by show 2 * 0 + _ ≤ _; exact Nat.le_of_eq rfl) (hb hby at_183) rfl (by (try dsimp only [room_1]); (try simp only [List.length_cons, List.length_nil]); omega) (by (try dsimp only [room_1]); (try simp only [List.length_cons, List.length_nil]); omega) ?_
    rintro _ T30 L30 X30 ⟨x30, rfl, N30q, e30⟩
    show Go p e below _ T30 (mkF m 186 #[.val (.int p0), .val (.long p1), .second, .val (.int p2), .val (.int p3), .val (.int p4), .val (.int (Int32.ofNat n)), .val (.int al), .val (.ref a1), .unset, .unset, .unset, .unset, .unset, .unset, .unset] [(.int x30), (.int (9 : Int32)), (.ref a1)])
    have N30 := Fr.app N29 N30q
    refine Go.castore X30 hx hZ e30 A28 (i := 9) rfl (by rw [B28.1]; decide) (g := (mkF m 186 #[.val (.int p0), .val (.long p1), .second, .val (.int p2), .val (.int p3), .val (.int p4), .val (.int (Int32.ofNat n)), .val (.int al), .val (.ref a1), .unset, .unset, .unset, .unset, .unset, .unset, .unset] [(.int x30), (.int (9 : Int32)), (.ref a1)])) rfl rfl (hb hby at_186) ?_
    rintro T31 h31 X31 e31 W31 A31
    have sW31 := W31.size
    show Go p e below _ T31 (mkF m 187 #[.val (.int p0), .val (.long p1), .second, .val (.int p2), .val (.int p3), .val (.int p4), .val (.int (Int32.ofNat n)), .val (.int al), .val (.ref a1), .unset, .unset, .unset, .unset, .unset, .unset, .unset] [])
    obtain ⟨cs31, A31, B31⟩ : ∃ cs, AI Z h31 a1 .char cs ∧ CB 12 cs := ⟨_, A31, B28.set 9 _⟩
    have K31 := K28.wr W31 (Or.inr ha1)
    have N31 := Fr.snoc X31 N30 (by omega)
    refine Go.st (fun _ k => XS.aload X31.here hx rfl (hb hby at_187) rfl rfl k) ?_
    show Go p e below _ T31 (mkF m 189 #[.val (.int p0), .val (.long p1), .second, .val (.int p2), .val (.int p3), .val (.int p4), .val (.int (Int32.ofNat n)), .val (.int al), .val (.ref a1), .unset, .unset, .unset, .unset, .unset, .unset, .unset] [(.ref a1)])
    refine Go.st (fun _ k => XS.bipush X31.here hx rfl (hb hby at_189) k) ?_
    show Go p e below _ T31 (mkF m 191 #[.val (.int p0), .val (.long p1), .second, .val (.int p2), .val (.int p3), .val (.int p4), .val (.int (Int32.ofNat n)), .val (.int al), .val (.ref a1), .unset, .unset, .unset, .unset, .unset, .unset, .unset] [(.int (10 : Int32)), (.ref a1)])
    refine Go.st (fun _ k => XT.lloadN X31.here hx rfl (hb hby at_191) rfl k) ?_
    show Go p e below _ T31 (mkF m 192 #[.val (.int p0), .val (.long p1), .second, .val (.int p2), .val (.int p3), .val (.int p4), .val (.int (Int32.ofNat n)), .val (.int al), .val (.ref a1), .unset, .unset, .unset, .unset, .unset, .unset, .unset] [(.long p1), (.int (10 : Int32)), (.ref a1)])
    refine Go.st (fun _ k => XS.bipush X31.here hx rfl (hb hby at_192) k) ?_
    show Go p e below _ T31 (mkF m 194 #[.val (.int p0), .val (.long p1), .second, .val (.int p2), .val (.int p3), .val (.int p4), .val (.int (Int32.ofNat n)), .val (.int al), .val (.ref a1), .unset, .unset, .unset, .unset, .unset, .unset, .unset] [(.int (10 : Int32)), (.long p1), (.int (10 : Int32)), (.ref a1)])
    refine Go.callS X31 hx (y := (⟨"com/example/federate/federate/WholeNumbersParsePinLaw", "nib", "(JI)I"⟩ : MethodName)) hown (mvT hZ (hw _ (List.mem_of_getElem? (i := 1) rfl))) (mvT hZ (hw _ (List.mem_of_getElem? (i := 2) rfl))) (mvT hZ (hw _ (List.mem_of_getElem? (i := 3) rfl))) (mvT hZ (hw _ (List.mem_of_getElem? (i := 4) rfl))) (by decide) (Ctr.back (W := 2) (rmNB l Z a0 hw p1 (10 : Int32) h31 n0) hZ (hw _ (List.mem_of_getElem? (i := 4) rfl)) (hw _ (List.mem_of_getElem? (i := 3) rfl)) (by (try dsimp only [room_1]); (try simp only [List.length_cons, List.length_nil]); omega) (by (try dsimp only [room_1]); (try simp only [List.length_cons, List.length_nil]); omega)) e31 (g := (mkF m 194 #[.val (.int p0), .val (.long p1), .second, .val (.int p2), .val (.int p3), .val (.int p4), .val (.int (Int32.ofNat n)), .val (.int al), .val (.ref a1), .unset, .unset, .unset, .unset, .unset, .unset, .unset] [(.int (10 : Int32)), (.long p1), (.int (10 : Int32)), (.ref a1)])) rfl (by rw [hml]; rfl) (argsL := [(.long p1), (.int (10 : Int32))]) (rest := [(.int (10 : Int32)), (.ref a1)]) (lenOf pd_45 rfl) rfl (by show 2 * 0 + _ ≤ _; exact Nat.le_of_eq rfl) (hb hby at_194) rfl (by (try dsimp only [room_1]); (try simp only [List.length_cons, List.length_nil]); omega) (by (try dsimp only [room_1]); (try simp only [List.length_cons, List.length_nil]); omega) ?_
    rintro _ T32 L32 X32 ⟨x32, rfl, N32q, e32⟩
    show Go p e below _ T32 (mkF m 197 #[.val (.int p0), .val (.long p1), .second, .val (.int p2), .val (.int p3), .val (.int p4), .val (.int (Int32.ofNat n)), .val (.int al), .val (.ref a1), .unset, .unset, .unset, .unset, .unset, .unset, .unset] [(.int x32), (.int (10 : Int32)), (.ref a1)])
    have N32 := Fr.app N31 N32q
    refine Go.st (fun _ k => XS.iloadN X32.here hx rfl (hb hby at_197) rfl k) ?_
    show Go p e below _ T32 (mkF m 198 #[.val (.int p0), .val (.long p1), .second, .val (.int p2), .val (.int p3), .val (.int p4), .val (.int (Int32.ofNat n)), .val (.int al), .val (.ref a1), .unset, .unset, .unset, .unset, .unset, .unset, .unset] [(.int p2), (.int x32), (.int (10 : Int32)), (.ref a1)])
    refine Go.st (fun _ k => XS.iload X32.here hx rfl (hb hby at_198) rfl k) ?_
    show Go p e below _ T32 (mkF m 200 #[.val (.int p0), .val (.long p1), .second, .val (.int p2), .val (.int p3), .val (.int p4), .val (.int (Int32.ofNat n)), .val (.int al), .val (.ref a1), .unset, .unset, .unset, .unset, .unset, .unset, .unset] [(.int al), (.int p2), (.int x32), (.int (10 : Int32)), (.ref a1)])
    refine Go.callS X32 hx (y := (⟨"com/example/federate/federate/WholeNumbersParsePinLaw", "ch", "(IIZ)C"⟩ : MethodName)) hown (mvT hZ (hw _ (List.mem_of_getElem? (i := 6) rfl))) (mvT hZ (hw _ (List.mem_of_getElem? (i := 7) rfl))) (mvT hZ (hw _ (List.mem_of_getElem? (i := 3) rfl))) (mvT hZ (hw _ (List.mem_of_getElem? (i := 8) rfl))) (by decide) (Ctr.back (W := 2) (rmCH l Z a0 hw x32 p2 al h31 n0) hZ (hw _ (List.mem_of_getElem? (i := 8) rfl)) (hw _ (List.mem_of_getElem? (i := 3) rfl)) (by (try dsimp only [room_1]); (try simp only [List.length_cons, List.length_nil]); omega) (by (try dsimp only [room_1]); (try simp only [List.length_cons, List.length_nil]); omega)) e32 (g := (mkF m 200 #[.val (.int p0), .val (.long p1), .second, .val (.int p2), .val (.int p3), .val (.int p4), .val (.int (Int32.ofNat n)), .val (.int al), .val (.ref a1), .unset, .unset, .unset, .unset, .unset, .unset, .unset] [(.int al), (.int p2), (.int x32), (.int (10 : Int32)), (.ref a1)])) rfl (by rw [hml]; rfl) (argsL := [(.int x32), (.int p2), (.int al)]) (rest := [(.int (10 : Int32)), (.ref a1)]) (lenOf pd_46 rfl) rfl (by show 2 * 0 + _ ≤ _; exact Nat.le_of_eq rfl) (hb hby at_200) rfl (by (try dsimp only [room_1]); (try simp only [List.length_cons, List.length_nil]); omega) (by (try dsimp only [room_1]); (try simp only [List.length_cons, List.length_nil]); omega) ?_
    rintro _ T33 L33 X33 ⟨x33, rfl, N33q, e33⟩
    show Go p e below _ T33 (mkF m 203 #[.val (.int p0), .val (.long p1), .second, .val (.int p2), .val (.int p3), .val (.int p4), .val (.int (Int32.ofNat n)), .val (.int al), .val (.ref a1), .unset, .unset, .unset, .unset, .unset, .unset, .unset] [(.int x33), (.int (10 : Int32)), (.ref a1)])
    have N33 := Fr.app N32 N33q
    refine Go.castore X33 hx hZ e33 A31 (i := 10) rfl (by rw [B31.1]; decide) (g := (mkF m 203 #[.val (.int p0), .val (.long p1), .second, .val (.int p2), .val (.int p3), .val (.int p4), .val (.int (Int32.ofNat n)), .val (.int al), .val (.ref a1), .unset, .unset, .unset, .unset, .unset, .unset, .unset] [(.int x33), (.int (10 : Int32)), (.ref a1)])) rfl rfl (hb hby at_203) ?_
    rintro T34 h34 X34 e34 W34 A34
    have sW34 := W34.size
    show Go p e below _ T34 (mkF m 204 #[.val (.int p0), .val (.long p1), .second, .val (.int p2), .val (.int p3), .val (.int p4), .val (.int (Int32.ofNat n)), .val (.int al), .val (.ref a1), .unset, .unset, .unset, .unset, .unset, .unset, .unset] [])
    obtain ⟨cs34, A34, B34⟩ : ∃ cs, AI Z h34 a1 .char cs ∧ CB 12 cs := ⟨_, A34, B31.set 10 _⟩
    have K34 := K31.wr W34 (Or.inr ha1)
    have N34 := Fr.snoc X34 N33 (by omega)
    refine Go.st (fun _ k => XS.aload X34.here hx rfl (hb hby at_204) rfl rfl k) ?_
    show Go p e below _ T34 (mkF m 206 #[.val (.int p0), .val (.long p1), .second, .val (.int p2), .val (.int p3), .val (.int p4), .val (.int (Int32.ofNat n)), .val (.int al), .val (.ref a1), .unset, .unset, .unset, .unset, .unset, .unset, .unset] [(.ref a1)])
    refine Go.st (fun _ k => XS.bipush X34.here hx rfl (hb hby at_206) k) ?_
    show Go p e below _ T34 (mkF m 208 #[.val (.int p0), .val (.long p1), .second, .val (.int p2), .val (.int p3), .val (.int p4), .val (.int (Int32.ofNat n)), .val (.int al), .val (.ref a1), .unset, .unset, .unset, .unset, .unset, .unset, .unset] [(.int (11 : Int32)), (.ref a1)])
    refine Go.st (fun _ k => XT.lloadN X34.here hx rfl (hb hby at_208) rfl k) ?_
    show Go p e below _ T34 (mkF m 209 #[.val (.int p0), .val (.long p1), .second, .val (.int p2), .val (.int p3), .val (.int p4), .val (.int (Int32.ofNat n)), .val (.int al), .val (.ref a1), .unset, .unset, .unset, .unset, .unset, .unset, .unset] [(.long p1), (.int (11 : Int32)), (.ref a1)])
    refine Go.st (fun _ k => XS.bipush X34.here hx rfl (hb hby at_209) k) ?_
    show Go p e below _ T34 (mkF m 211 #[.val (.int p0), .val (.long p1), .second, .val (.int p2), .val (.int p3), .val (.int p4), .val (.int (Int32.ofNat n)), .val (.int al), .val (.ref a1), .unset, .unset, .unset, .unset, .unset, .unset, .unset] [(.int (11 : Int32)), (.long p1), (.int (11 : Int32)), (.ref a1)])
    refine Go.callS X34 hx (y := (⟨"com/example/federate/federate/WholeNumbersParsePinLaw", "nib", "(JI)I"⟩ : MethodName)) hown (mvT hZ (hw _ (List.mem_of_getElem? (i := 1) rfl))) (mvT hZ (hw _ (List.mem_of_getElem? (i := 2) rfl))) (mvT hZ (hw _ (List.mem_of_getElem? (i := 3) rfl))) (mvT hZ (hw _ (List.mem_of_getElem? (i := 4) rfl))) (by decide) (Ctr.back (W := 2) (rmNB l Z a0 hw p1 (11 : Int32) h34 n0) hZ (hw _ (List.mem_of_getElem? (i := 4) rfl)) (hw _ (List.mem_of_getElem? (i := 3) rfl)) (by (try dsimp only [room_1]); (try simp only [List.length_cons, List.length_nil]); omega) (by (try dsimp only [room_1]); (try simp only [List.length_cons, List.length_nil]); omega)) e34 (g := (mkF m 211 #[.val (.int p0), .val (.long p1), .second, .val (.int p2), .val (.int p3), .val (.int p4), .val (.int (Int32.ofNat n)), .val (.int al), .val (.ref a1), .unset, .unset, .unset, .unset, .unset, .unset, .unset] [(.int (11 : Int32)), (.long p1), (.int (11 : Int32)), (.ref a1)])) rfl (by rw [hml]; rfl) (argsL := [(.long p1), (.int (11 : Int32))]) (rest := [(.int (11 : Int32)), (.ref a1)]) (lenOf pd_45 rfl) rfl (by show 2 * 0 + _ ≤ _; exact Nat.le_of_eq rfl) (hb hby at_211) rfl (by (try dsimp only [room_1]); (try simp only [List.length_cons, List.length_nil]); omega) (by (try dsimp only [room_1]); (try simp only [List.length_cons, List.length_nil]); omega) ?_
    rintro _ T35 L35 X35 ⟨x35, rfl, N35q, e35⟩
    show Go p e below _ T35 (mkF m 214 #[.val (.int p0), .val (.long p1), .second, .val (.int p2), .val (.int p3), .val (.int p4), .val (.int (Int32.ofNat n)), .val (.int al), .val (.ref a1), .unset, .unset, .unset, .unset, .unset, .unset, .unset] [(.int x35), (.int (11 : Int32)), (.ref a1)])
    have N35 := Fr.app N34 N35q
    refine Go.st (fun _ k => XS.iloadN X35.here hx rfl (hb hby at_214) rfl k) ?_
    show Go p e below _ T35 (mkF m 215 #[.val (.int p0), .val (.long p1), .second, .val (.int p2), .val (.int p3), .val (.int p4), .val (.int (Int32.ofNat n)), .val (.int al), .val (.ref a1), .unset, .unset, .unset, .unset, .unset, .unset, .unset] [(.int p2), (.int x35), (.int (11 : Int32)), (.ref a1)])
    refine Go.st (fun _ k => XS.iload X35.here hx rfl (hb hby at_215) rfl k) ?_
    show Go p e below _ T35 (mkF m 217 #[.val (.int p0), .val (.long p1), .second, .val (.int p2), .val (.int p3), .val (.int p4), .val (.int (Int32.ofNat n)), .val (.int al), .val (.ref a1), .unset, .unset, .unset, .unset, .unset, .unset, .unset] [(.int al), (.int p2), (.int x35), (.int (11 : Int32)), (.ref a1)])
    refine Go.callS X35 hx (y := (⟨"com/example/federate/federate/WholeNumbersParsePinLaw", "ch", "(IIZ)C"⟩ : MethodName)) hown (mvT hZ (hw _ (List.mem_of_getElem? (i := 6) rfl))) (mvT hZ (hw _ (List.mem_of_getElem? (i := 7) rfl))) (mvT hZ (hw _ (List.mem_of_getElem? (i := 3) rfl))) (mvT hZ (hw _ (List.mem_of_getElem? (i := 8) rfl))) (by decide) (Ctr.back (W := 2) (rmCH l Z a0 hw x35 p2 al h34 n0) hZ (hw _ (List.mem_of_getElem? (i := 8) rfl)) (hw _ (List.mem_of_getElem? (i := 3) rfl)) (by (try dsimp only [room_1]); (try simp only [List.length_cons, List.length_nil]); omega) (by (try dsimp only [room_1]); (try simp only [List.length_cons, List.length_nil]); omega)) e35 (g := (mkF m 217 #[.val (.int p0), .val (.long p1), .second, .val (.int p2), .val (.int p3), .val (.int p4), .val (.int (Int32.ofNat n)), .val (.int al), .val (.ref a1), .unset, .unset, .unset, .unset, .unset, .unset, .unset] [(.int al), (.int p2), (.int x35), (.int (11 : Int32)), (.ref a1)])) rfl (by rw [hml]; rfl) (argsL := [(.int x35), (.int p2), (.int al)]) (rest := [(.int (11 : Int32)), (.ref a1)]) (lenOf pd_46 rfl) rfl (by show 2 * 0 + _ ≤ _; exact Nat.le_of_eq rfl) (hb hby at_217) rfl (by (try dsimp only [room_1]); (try simp only [List.length_cons, List.length_nil]); omega) (by (try dsimp only [room_1]); (try simp only [List.length_cons, List.length_nil]); omega) ?_
    rintro _ T36 L36 X36 ⟨x36, rfl, N36q, e36⟩
    show Go p e below _ T36 (mkF m 220 #[.val (.int p0), .val (.long p1), .second, .val (.int p2), .val (.int p3), .val (.int p4), .val (.int (Int32.ofNat n)), .val (.int al), .val (.ref a1), .unset, .unset, .unset, .unset, .unset, .unset, .unset] [(.int x36), (.int (11 : Int32)), (.ref a1)])
    have N36 := Fr.app N35 N36q
    refine Go.castore X36 hx hZ e36 A34 (i := 11) rfl (by rw [B34.1]; decide) (g := (mkF m 220 #[.val (.int p0), .val (.long p1), .second, .val (.int p2), .val (.int p3), .val (.int p4), .val (.int (Int32.ofNat n)), .val (.int al), .val (.ref a1), .unset, .unset, .unset, .unset, .unset, .unset, .unset] [(.int x36), (.int (11 : Int32)), (.ref a1)])) rfl rfl (hb hby at_220) ?_
    rintro T37 h37 X37 e37 W37 A37
    have sW37 := W37.size
    show Go p e below _ T37 (mkF m 221 #[.val (.int p0), .val (.long p1), .second, .val (.int p2), .val (.int p3), .val (.int p4), .val (.int (Int32.ofNat n)), .val (.int al), .val (.ref a1), .unset, .unset, .unset, .unset, .unset, .unset, .unset] [])
    obtain ⟨cs37, A37, B37⟩ : ∃ cs, AI Z h37 a1 .char cs ∧ CB 12 cs := ⟨_, A37, B34.set 11 _⟩
    have K37 := K34.wr W37 (Or.inr ha1)
    have N37 := Fr.snoc X37 N36 (by omega)
    refine Go.st (fun _ k => XS.iload X37.here hx rfl (hb hby at_221) rfl k) ?_
    show Go p e below _ T37 (mkF m 223 #[.val (.int p0), .val (.long p1), .second, .val (.int p2), .val (.int p3), .val (.int p4), .val (.int (Int32.ofNat n)), .val (.int al), .val (.ref a1), .unset, .unset, .unset, .unset, .unset, .unset, .unset] [(.int (Int32.ofNat n))])
    refine Go.st (fun _ k => XS.aload X37.here hx rfl (hb hby at_223) rfl rfl k) ?_
    show Go p e below _ T37 (mkF m 225 #[.val (.int p0), .val (.long p1), .second, .val (.int p2), .val (.int p3), .val (.int p4), .val (.int (Int32.ofNat n)), .val (.int al), .val (.ref a1), .unset, .unset, .unset, .unset, .unset, .unset, .unset] [(.ref a1), (.int (Int32.ofNat n))])
    obtain ⟨c0, c1, c2, c3, c4, c5, c6, c7, c8, c9, c10, c11, ecs⟩ : ∃ c0 c1 c2 c3 c4 c5 c6 c7 c8 c9 c10 c11, cs37 = [c0, c1, c2, c3, c4, c5, c6, c7, c8, c9, c10, c11] := by
      match cs37, B37.1 with
      | [c0, c1, c2, c3, c4, c5, c6, c7, c8, c9, c10, c11], _ => exact ⟨c0, c1, c2, c3, c4, c5, c6, c7, c8, c9, c10, c11, rfl⟩
    subst ecs
    have k0 := K37.1
    refine Go.callSW X37 hx (Bas.refl s 0) (Nat.zero_le _) hZ (y := (⟨"com/example/federate/federate/WholeNumbersParsePinLaw", "text", "(I[C)Ljava/lang/String;"⟩ : MethodName)) hown (mvT hZ (hw _ (List.mem_of_getElem? (i := 9) rfl))) (mvT hZ (hw _ (List.mem_of_getElem? (i := 10) rfl))) (mvT hZ (hw _ (List.mem_of_getElem? (i := 3) rfl))) (mvT hZ (hw _ (List.mem_of_getElem? (i := 11) rfl))) (by decide) (Wt := 0) (rmTX l Z a0 hw z Su n hn c0 c1 c2 c3 c4 c5 c6 c7 c8 c9 c10 c11 B37.2 a1 h37 n0 (by omega) (X00.keep K37 all0) A37) (hw _ (List.mem_of_getElem? (i := 11) rfl)) (hw _ (List.mem_of_getElem? (i := 3) rfl)) (by (try dsimp only [room_1]); (try simp only [List.length_cons, List.length_nil]); omega) (by (try dsimp only [room_1]); (try simp only [List.length_cons, List.length_nil]); omega) e37 (CHb.to' hC0 (UX K37) (fun b q => Nat.lt_of_lt_of_le q K37.1) : CHb consts_1 (fun b => b < h37.size) s h37) (by rw [e37]; exact Und.refl _ _) (g := (mkF m 225 #[.val (.int p0), .val (.long p1), .second, .val (.int p2), .val (.int p3), .val (.int p4), .val (.int (Int32.ofNat n)), .val (.int al), .val (.ref a1), .unset, .unset, .unset, .unset, .unset, .unset, .unset] [(.ref a1), (.int (Int32.ofNat n))])) rfl (by rw [hml]; rfl) (argsL := [(.int (Int32.ofNat n)), (.ref a1)]) (rest := []) (lenOf pd_47 rfl) rfl (by show 2 * 0 + _ ≤ _; exact Nat.le_of_eq rfl) (hb hby at_225) rfl (by (try dsimp only [room_1]); (try simp only [List.length_cons, List.length_nil]); omega) (by (try dsimp only [room_1]); (try simp only [List.length_cons, List.length_nil]); omega) ?_
    rintro _ s50 T50 L50 hB50 hZ50 hown50 hC50 hsz50 X50 ⟨o, t, rfl, N50q, K50, E50, C50, V50, B50⟩
    show Go p e below _ T50 (mkF m 228 #[.val (.int p0), .val (.long p1), .second, .val (.int p2), .val (.int p3), .val (.int p4), .val (.int (Int32.ofNat n)), .val (.int al), .val (.ref a1), .unset, .unset, .unset, .unset, .unset, .unset, .unset] [(.ref o)])
    have K050 := K37.trans K50 (fun _ z => nomatch z)
    have k50 := K050.1
    have A50 := A37.keep K50 nin0
    have N50 := Fr.app N37 N50q
    refine Go.st (fun _ k => XS.astore X50.here hx rfl (hb hby at_228) rfl rfl (l' := #[.val (.int p0), .val (.long p1), .second, .val (.int p2), .val (.int p3), .val (.int p4), .val (.int (Int32.ofNat n)), .val (.int al), .val (.ref a1), .val (.ref o), .unset, .unset, .unset, .unset, .unset, .unset]) rfl k) ?_
    show Go p e below _ T50 (mkF m 230 #[.val (.int p0), .val (.long p1), .second, .val (.int p2), .val (.int p3), .val (.int p4), .val (.int (Int32.ofNat n)), .val (.int al), .val (.ref a1), .val (.ref o), .unset, .unset, .unset, .unset, .unset, .unset] [])
    refine Go.st (fun _ k => XS.iload X50.here hx rfl (hb hby at_230) rfl k) ?_
    show Go p e below _ T50 (mkF m 232 #[.val (.int p0), .val (.long p1), .second, .val (.int p2), .val (.int p3), .val (.int p4), .val (.int (Int32.ofNat n)), .val (.int al), .val (.ref a1), .val (.ref o), .unset, .unset, .unset, .unset, .unset, .unset] [(.int p3)])
    refine Go.st (fun _ k => X50.ldcI hx hown50 (mvT hZ50 (hw _ (List.mem_of_getElem? (i := 33) rfl))) rfl (hb hby at_232) k) ?_
    show Go p e below _ T50 (mkF m 234 #[.val (.int p0), .val (.long p1), .second, .val (.int p2), .val (.int p3), .val (.int p4), .val (.int (Int32.ofNat n)), .val (.int al), .val (.ref a1), .val (.ref o), .unset, .unset, .unset, .unset, .unset, .unset] [(.int (2147483647 : Int32)), (.int p3)])
    refine Go.st (fun _ k => XS.iand X50.here hx rfl (hb hby at_234) rfl k) ?_
    show Go p e below _ T50 (mkF m 235 #[.val (.int p0), .val (.long p1), .second, .val (.int p2), .val (.int p3), .val (.int p4), .val (.int (Int32.ofNat n)), .val (.int al), .val (.ref a1), .val (.ref o), .unset, .unset, .unset, .unset, .unset, .unset] [(.int (p3 &&& (2147483647 : Int32)))])
    refine Go.st (fun _ k => XS.istore X50.here hx rfl (hb hby at_235) rfl (l' := #[.val (.int p0), .val (.long p1), .second, .val (.int p2), .val (.int p3), .val (.int p4), .val (.int (Int32.ofNat n)), .val (.int al), .val (.ref a1), .val (.ref o), .val (.int (p3 &&& (2147483647 : Int32))), .unset, .unset, .unset, .unset, .unset]) rfl k) ?_
    show Go p e below _ T50 (mkF m 237 #[.val (.int p0), .val (.long p1), .second, .val (.int p2), .val (.int p3), .val (.int p4), .val (.int (Int32.ofNat n)), .val (.int al), .val (.ref a1), .val (.ref o), .val (.int (p3 &&& (2147483647 : Int32))), .unset, .unset, .unset, .unset, .unset] [])
    refine Go.st (fun _ k => XS.iload X50.here hx rfl (hb hby at_237) rfl k) ?_
    show Go p e below _ T50 (mkF m 239 #[.val (.int p0), .val (.long p1), .second, .val (.int p2), .val (.int p3), .val (.int p4), .val (.int (Int32.ofNat n)), .val (.int al), .val (.ref a1), .val (.ref o), .val (.int (p3 &&& (2147483647 : Int32))), .unset, .unset, .unset, .unset, .unset] [(.int p4)])
    refine Go.st (fun _ k => XS.istore X50.here hx rfl (hb hby at_239) rfl (l' := #[.val (.int p0), .val (.long p1), .second, .val (.int p2), .val (.int p3), .val (.int p4), .val (.int (Int32.ofNat n)), .val (.int al), .val (.ref a1), .val (.ref o), .val (.int (p3 &&& (2147483647 : Int32))), .val (.int p4), .unset, .unset, .unset, .unset]) rfl k) ?_
    show Go p e below _ T50 (mkF m 241 #[.val (.int p0), .val (.long p1), .second, .val (.int p2), .val (.int p3), .val (.int p4), .val (.int (Int32.ofNat n)), .val (.int al), .val (.ref a1), .val (.ref o), .val (.int (p3 &&& (2147483647 : Int32))), .val (.int p4), .unset, .unset, .unset, .unset] [])
    refine Go.st (fun _ k => XT.lconst X50.here hx rfl (hb hby at_241) k) ?_
    show Go p e below _ T50 (mkF m 242 #[.val (.int p0), .val (.long p1), .second, .val (.int p2), .val (.int p3), .val (.int p4), .val (.int (Int32.ofNat n)), .val (.int al), .val (.ref a1), .val (.ref o), .val (.int (p3 &&& (2147483647 : Int32))), .val (.int p4), .unset, .unset, .unset, .unset] [(.long (0 : Int64))])
    refine Go.st (fun _ k => XT.lstore X50.here hx rfl (hb hby at_242) rfl (l' := #[.val (.int p0), .val (.long p1), .second, .val (.int p2), .val (.int p3), .val (.int p4), .val (.int (Int32.ofNat n)), .val (.int al), .val (.ref a1), .val (.ref o), .val (.int (p3 &&& (2147483647 : Int32))), .val (.int p4), .val (.long (0 : Int64)), .second, .unset, .unset]) rfl k) ?_
    show Go p e below _ T50 (mkF m 244 #[.val (.int p0), .val (.long p1), .second, .val (.int p2), .val (.int p3), .val (.int p4), .val (.int (Int32.ofNat n)), .val (.int al), .val (.ref a1), .val (.ref o), .val (.int (p3 &&& (2147483647 : Int32))), .val (.int p4), .val (.long (0 : Int64)), .second, .unset, .unset] [])
    refine Go.st (fun _ k => XT.lload X50.here hx rfl (hb hby at_244) rfl k) ?_
    show Go p e below _ T50 (mkF m 246 #[.val (.int p0), .val (.long p1), .second, .val (.int p2), .val (.int p3), .val (.int p4), .val (.int (Int32.ofNat n)), .val (.int al), .val (.ref a1), .val (.ref o), .val (.int (p3 &&& (2147483647 : Int32))), .val (.int p4), .val (.long (0 : Int64)), .second, .unset, .unset] [(.long (0 : Int64))])
    refine Go.st (fun _ k => XS.aload X50.here hx rfl (hb hby at_246) rfl rfl k) ?_
    show Go p e below _ T50 (mkF m 248 #[.val (.int p0), .val (.long p1), .second, .val (.int p2), .val (.int p3), .val (.int p4), .val (.int (Int32.ofNat n)), .val (.int al), .val (.ref a1), .val (.ref o), .val (.int (p3 &&& (2147483647 : Int32))), .val (.int p4), .val (.long (0 : Int64)), .second, .unset, .unset] [(.ref a1), (.long (0 : Int64))])
    refine Go.st (fun _ k => XS.iconst X50.here hx rfl (hb hby at_248) k) ?_
    show Go p e below _ T50 (mkF m 249 #[.val (.int p0), .val (.long p1), .second, .val (.int p2), .val (.int p3), .val (.int p4), .val (.int (Int32.ofNat n)), .val (.int al), .val (.ref a1), .val (.ref o), .val (.int (p3 &&& (2147483647 : Int32))), .val (.int p4), .val (.long (0 : Int64)), .second, .unset, .unset] [(.int (0 : Int32)), (.ref a1), (.long (0 : Int64))])
    refine Go.st (fun _ k => XS.iload X50.here hx rfl (hb hby at_249) rfl k) ?_
    show Go p e below _ T50 (mkF m 251 #[.val (.int p0), .val (.long p1), .second, .val (.int p2), .val (.int p3), .val (.int p4), .val (.int (Int32.ofNat n)), .val (.int al), .val (.ref a1), .val (.ref o), .val (.int (p3 &&& (2147483647 : Int32))), .val (.int p4), .val (.long (0 : Int64)), .second, .unset, .unset] [(.int (Int32.ofNat n)), (.int (0 : Int32)), (.ref a1), (.long (0 : Int64))])
    show Go p e below _ T50 (mkF m 251 #[.val (.int p0), .val (.long p1), .second, .val (.int p2), .val (.int p3), .val (.int p4), .val (.int (Int32.ofNat n)), .val (.int al), .val (.ref a1), .val (.ref o), .val (.int (p3 &&& (2147483647 : Int32))), .val (.int p4), .val (.long (0 : Int64)), .second, .unset, .unset] [(.int (Int32.ofNat n)), (.int (Int32.ofNat 0)), (.ref a1), (.long (0 : Int64))])
    refine Go.callS X50 hx (y := (⟨"com/example/federate/federate/WholeNumbersParsePinLaw", "acc", "(J[CII)J"⟩ : MethodName)) hown50 (mvT hZ50 (hw _ (List.mem_of_getElem? (i := 34) rfl))) (mvT hZ50 (hw _ (List.mem_of_getElem? (i := 35) rfl))) (mvT hZ50 (hw _ (List.mem_of_getElem? (i := 3) rfl))) (mvT hZ50 (hw _ (List.mem_of_getElem? (i := 36) rfl))) (by decide) (Ctr.back (W := 0) (rmAC l Z a0 hw (0 : Int64) a1 ([c0, c1, c2, c3, c4, c5, c6, c7, c8, c9, c10, c11] : List Int32) 0 n c0 (by simp) (by omega) rfl T50.heap n0 A50) hZ50 (hw _ (List.mem_of_getElem? (i := 36) rfl)) (hw _ (List.mem_of_getElem? (i := 3) rfl)) (by (try dsimp only [room_1]); (try simp only [List.length_cons, List.length_nil]); omega) (by (try dsimp only [room_1]); (try simp only [List.length_cons, List.length_nil]); omega)) rfl (g := (mkF m 251 #[.val (.int p0), .val (.long p1), .second, .val (.int p2), .val (.int p3), .val (.int p4), .val (.int (Int32.ofNat n)), .val (.int al), .val (.ref a1), .val (.ref o), .val (.int (p3 &&& (2147483647 : Int32))), .val (.int p4), .val (.long (0 : Int64)), .second, .unset, .unset] [(.int (Int32.ofNat n)), (.int (Int32.ofNat 0)), (.ref a1), (.long (0 : Int64))])) rfl (by rw [hml]; rfl) (argsL := [(.long (0 : Int64)), (.ref a1), (.int (Int32.ofNat 0)), (.int (Int32.ofNat n))]) (rest := []) (lenOf pd_48 rfl) rfl (by show 2 * 0 + _ ≤ _; exact Nat.le_of_eq rfl) (hb hby at_251) rfl (by (try dsimp only [room_1]); (try simp only [List.length_cons, List.length_nil]); omega) (by (try dsimp only [room_1]); (try simp only [List.length_cons, List.length_nil]); omega) ?_
    rintro _ T51 L51 X51 ⟨rfl, N51q, e51⟩
    show Go p e below _ T51 (mkF m 254 #[.val (.int p0), .val (.long p1), .second, .val (.int p2), .val (.int p3), .val (.int p4), .val (.int (Int32.ofNat n)), .val (.int al), .val (.ref a1), .val (.ref o), .val (.int (p3 &&& (2147483647 : Int32))), .val (.int p4), .val (.long (0 : Int64)), .second, .unset, .unset] [(.long (own_acc (0 : Int64) c0 0 n))])
    have N51 := Fr.app N50 N51q
    obtain ⟨v0, hv0⟩ : ∃ v, v = own_acc (0 : Int64) c0 0 n := ⟨_, rfl⟩
    rw [← hv0]
    show Go p e below _ T51 (mkF m 254 #[.val (.int p0), .val (.long p1), .second, .val (.int p2), .val (.int p3), .val (.int p4), .val (.int (Int32.ofNat n)), .val (.int al), .val (.ref a1), .val (.ref o), .val (.int (p3 &&& (2147483647 : Int32))), .val (.int p4), .val (.long (0 : Int64)), .second, .unset, .unset] [(.long v0)])
    refine Go.st (fun _ k => XT.lstore X51.here hx rfl (hb hby at_254) rfl (l' := #[.val (.int p0), .val (.long p1), .second, .val (.int p2), .val (.int p3), .val (.int p4), .val (.int (Int32.ofNat n)), .val (.int al), .val (.ref a1), .val (.ref o), .val (.int (p3 &&& (2147483647 : Int32))), .val (.int p4), .val (.long v0), .second, .unset, .unset]) rfl k) ?_
    show Go p e below _ T51 (mkF m 256 #[.val (.int p0), .val (.long p1), .second, .val (.int p2), .val (.int p3), .val (.int p4), .val (.int (Int32.ofNat n)), .val (.int al), .val (.ref a1), .val (.ref o), .val (.int (p3 &&& (2147483647 : Int32))), .val (.int p4), .val (.long v0), .second, .unset, .unset] [])
    refine Go.st (fun _ k => XT.lload X51.here hx rfl (hb hby at_256) rfl k) ?_
    show Go p e below _ T51 (mkF m 258 #[.val (.int p0), .val (.long p1), .second, .val (.int p2), .val (.int p3), .val (.int p4), .val (.int (Int32.ofNat n)), .val (.int al), .val (.ref a1), .val (.ref o), .val (.int (p3 &&& (2147483647 : Int32))), .val (.int p4), .val (.long v0), .second, .unset, .unset] [(.long v0)])
    refine Go.st (fun _ k => XS.aload X51.here hx rfl (hb hby at_258) rfl rfl k) ?_
    show Go p e below _ T51 (mkF m 260 #[.val (.int p0), .val (.long p1), .second, .val (.int p2), .val (.int p3), .val (.int p4), .val (.int (Int32.ofNat n)), .val (.int al), .val (.ref a1), .val (.ref o), .val (.int (p3 &&& (2147483647 : Int32))), .val (.int p4), .val (.long v0), .second, .unset, .unset] [(.ref a1), (.long v0)])
    refine Go.st (fun _ k => XS.iconst X51.here hx rfl (hb hby at_260) k) ?_
    show Go p e below _ T51 (mkF m 261 #[.val (.int p0), .val (.long p1), .second, .val (.int p2), .val (.int p3), .val (.int p4), .val (.int (Int32.ofNat n)), .val (.int al), .val (.ref a1), .val (.ref o), .val (.int (p3 &&& (2147483647 : Int32))), .val (.int p4), .val (.long v0), .second, .unset, .unset] [(.int (1 : Int32)), (.ref a1), (.long v0)])
    refine Go.st (fun _ k => XS.iload X51.here hx rfl (hb hby at_261) rfl k) ?_
    show Go p e below _ T51 (mkF m 263 #[.val (.int p0), .val (.long p1), .second, .val (.int p2), .val (.int p3), .val (.int p4), .val (.int (Int32.ofNat n)), .val (.int al), .val (.ref a1), .val (.ref o), .val (.int (p3 &&& (2147483647 : Int32))), .val (.int p4), .val (.long v0), .second, .unset, .unset] [(.int (Int32.ofNat n)), (.int (1 : Int32)), (.ref a1), (.long v0)])
    show Go p e below _ T51 (mkF m 263 #[.val (.int p0), .val (.long p1), .second, .val (.int p2), .val (.int p3), .val (.int p4), .val (.int (Int32.ofNat n)), .val (.int al), .val (.ref a1), .val (.ref o), .val (.int (p3 &&& (2147483647 : Int32))), .val (.int p4), .val (.long v0), .second, .unset, .unset] [(.int (Int32.ofNat n)), (.int (Int32.ofNat 1)), (.ref a1), (.long v0)])
    refine Go.callS X51 hx (y := (⟨"com/example/federate/federate/WholeNumbersParsePinLaw", "acc", "(J[CII)J"⟩ : MethodName)) hown50 (mvT hZ50 (hw _ (List.mem_of_getElem? (i := 34) rfl))) (mvT hZ50 (hw _ (List.mem_of_getElem? (i := 35) rfl))) (mvT hZ50 (hw _ (List.mem_of_getElem? (i := 3) rfl))) (mvT hZ50 (hw _ (List.mem_of_getElem? (i := 36) rfl))) (by decide) (Ctr.back (W := 0) (rmAC l Z a0 hw v0 a1 ([c0, c1, c2, c3, c4, c5, c6, c7, c8, c9, c10, c11] : List Int32) 1 n c1 (by simp) (by omega) rfl T50.heap n0 A50) hZ50 (hw _ (List.mem_of_getElem? (i := 36) rfl)) (hw _ (List.mem_of_getElem? (i := 3) rfl)) (by (try dsimp only [room_1]); (try simp only [List.length_cons, List.length_nil]); omega) (by (try dsimp only [room_1]); (try simp only [List.length_cons, List.length_nil]); omega)) e51 (g := (mkF m 263 #[.val (.int p0), .val (.long p1), .second, .val (.int p2), .val (.int p3), .val (.int p4), .val (.int (Int32.ofNat n)), .val (.int al), .val (.ref a1), .val (.ref o), .val (.int (p3 &&& (2147483647 : Int32))), .val (.int p4), .val (.long v0), .second, .unset, .unset] [(.int (Int32.ofNat n)), (.int (Int32.ofNat 1)), (.ref a1), (.long v0)])) rfl (by rw [hml]; rfl) (argsL := [(.long v0), (.ref a1), (.int (Int32.ofNat 1)), (.int (Int32.ofNat n))]) (rest := []) (lenOf pd_48 rfl) rfl (by show 2 * 0 + _ ≤ _; exact Nat.le_of_eq rfl) (hb hby at_263) rfl (by (try dsimp only [room_1]); (try simp only [List.length_cons, List.length_nil]); omega) (by (try dsimp only [room_1]); (try simp only [List.length_cons, List.length_nil]); omega) ?_
    rintro _ T52 L52 X52 ⟨rfl, N52q, e52⟩
    show Go p e below _ T52 (mkF m 266 #[.val (.int p0), .val (.long p1), .second, .val (.int p2), .val (.int p3), .val (.int p4), .val (.int (Int32.ofNat n)), .val (.int al), .val (.ref a1), .val (.ref o), .val (.int (p3 &&& (2147483647 : Int32))), .val (.int p4), .val (.long v0), .second, .unset, .unset] [(.long (own_acc v0 c1 1 n))])
    have N52 := Fr.app N51 N52q
    obtain ⟨v1, hv1⟩ : ∃ v, v = own_acc v0 c1 1 n := ⟨_, rfl⟩
    rw [← hv1]
    show Go p e below _ T52 (mkF m 266 #[.val (.int p0), .val (.long p1), .second, .val (.int p2), .val (.int p3), .val (.int p4), .val (.int (Int32.ofNat n)), .val (.int al), .val (.ref a1), .val (.ref o), .val (.int (p3 &&& (2147483647 : Int32))), .val (.int p4), .val (.long v0), .second, .unset, .unset] [(.long v1)])
    refine Go.st (fun _ k => XT.lstore X52.here hx rfl (hb hby at_266) rfl (l' := #[.val (.int p0), .val (.long p1), .second, .val (.int p2), .val (.int p3), .val (.int p4), .val (.int (Int32.ofNat n)), .val (.int al), .val (.ref a1), .val (.ref o), .val (.int (p3 &&& (2147483647 : Int32))), .val (.int p4), .val (.long v1), .second, .unset, .unset]) rfl k) ?_
    show Go p e below _ T52 (mkF m 268 #[.val (.int p0), .val (.long p1), .second, .val (.int p2), .val (.int p3), .val (.int p4), .val (.int (Int32.ofNat n)), .val (.int al), .val (.ref a1), .val (.ref o), .val (.int (p3 &&& (2147483647 : Int32))), .val (.int p4), .val (.long v1), .second, .unset, .unset] [])
    refine Go.st (fun _ k => XT.lload X52.here hx rfl (hb hby at_268) rfl k) ?_
    show Go p e below _ T52 (mkF m 270 #[.val (.int p0), .val (.long p1), .second, .val (.int p2), .val (.int p3), .val (.int p4), .val (.int (Int32.ofNat n)), .val (.int al), .val (.ref a1), .val (.ref o), .val (.int (p3 &&& (2147483647 : Int32))), .val (.int p4), .val (.long v1), .second, .unset, .unset] [(.long v1)])
    refine Go.st (fun _ k => XS.aload X52.here hx rfl (hb hby at_270) rfl rfl k) ?_
    show Go p e below _ T52 (mkF m 272 #[.val (.int p0), .val (.long p1), .second, .val (.int p2), .val (.int p3), .val (.int p4), .val (.int (Int32.ofNat n)), .val (.int al), .val (.ref a1), .val (.ref o), .val (.int (p3 &&& (2147483647 : Int32))), .val (.int p4), .val (.long v1), .second, .unset, .unset] [(.ref a1), (.long v1)])
    refine Go.st (fun _ k => XS.iconst X52.here hx rfl (hb hby at_272) k) ?_
    show Go p e below _ T52 (mkF m 273 #[.val (.int p0), .val (.long p1), .second, .val (.int p2), .val (.int p3), .val (.int p4), .val (.int (Int32.ofNat n)), .val (.int al), .val (.ref a1), .val (.ref o), .val (.int (p3 &&& (2147483647 : Int32))), .val (.int p4), .val (.long v1), .second, .unset, .unset] [(.int (2 : Int32)), (.ref a1), (.long v1)])
    refine Go.st (fun _ k => XS.iload X52.here hx rfl (hb hby at_273) rfl k) ?_
    show Go p e below _ T52 (mkF m 275 #[.val (.int p0), .val (.long p1), .second, .val (.int p2), .val (.int p3), .val (.int p4), .val (.int (Int32.ofNat n)), .val (.int al), .val (.ref a1), .val (.ref o), .val (.int (p3 &&& (2147483647 : Int32))), .val (.int p4), .val (.long v1), .second, .unset, .unset] [(.int (Int32.ofNat n)), (.int (2 : Int32)), (.ref a1), (.long v1)])
    show Go p e below _ T52 (mkF m 275 #[.val (.int p0), .val (.long p1), .second, .val (.int p2), .val (.int p3), .val (.int p4), .val (.int (Int32.ofNat n)), .val (.int al), .val (.ref a1), .val (.ref o), .val (.int (p3 &&& (2147483647 : Int32))), .val (.int p4), .val (.long v1), .second, .unset, .unset] [(.int (Int32.ofNat n)), (.int (Int32.ofNat 2)), (.ref a1), (.long v1)])
    refine Go.callS X52 hx (y := (⟨"com/example/federate/federate/WholeNumbersParsePinLaw", "acc", "(J[CII)J"⟩ : MethodName)) hown50 (mvT hZ50 (hw _ (List.mem_of_getElem? (i := 34) rfl))) (mvT hZ50 (hw _ (List.mem_of_getElem? (i := 35) rfl))) (mvT hZ50 (hw _ (List.mem_of_getElem? (i := 3) rfl))) (mvT hZ50 (hw _ (List.mem_of_getElem? (i := 36) rfl))) (by decide) (Ctr.back (W := 0) (rmAC l Z a0 hw v1 a1 ([c0, c1, c2, c3, c4, c5, c6, c7, c8, c9, c10, c11] : List Int32) 2 n c2 (by simp) (by omega) rfl T50.heap n0 A50) hZ50 (hw _ (List.mem_of_getElem? (i := 36) rfl)) (hw _ (List.mem_of_getElem? (i := 3) rfl)) (by (try dsimp only [room_1]); (try simp only [List.length_cons, List.length_nil]); omega) (by (try dsimp only [room_1]); (try simp only [List.length_cons, List.length_nil]); omega)) e52 (g := (mkF m 275 #[.val (.int p0), .val (.long p1), .second, .val (.int p2), .val (.int p3), .val (.int p4), .val (.int (Int32.ofNat n)), .val (.int al), .val (.ref a1), .val (.ref o), .val (.int (p3 &&& (2147483647 : Int32))), .val (.int p4), .val (.long v1), .second, .unset, .unset] [(.int (Int32.ofNat n)), (.int (Int32.ofNat 2)), (.ref a1), (.long v1)])) rfl (by rw [hml]; rfl) (argsL := [(.long v1), (.ref a1), (.int (Int32.ofNat 2)), (.int (Int32.ofNat n))]) (rest := []) (lenOf pd_48 rfl) rfl (by show 2 * 0 + _ ≤ _; exact Nat.le_of_eq rfl) (hb hby at_275) rfl (by (try dsimp only [room_1]); (try simp only [List.length_cons, List.length_nil]); omega) (by (try dsimp only [room_1]); (try simp only [List.length_cons, List.length_nil]); omega) ?_
    rintro _ T53 L53 X53 ⟨rfl, N53q, e53⟩
    show Go p e below _ T53 (mkF m 278 #[.val (.int p0), .val (.long p1), .second, .val (.int p2), .val (.int p3), .val (.int p4), .val (.int (Int32.ofNat n)), .val (.int al), .val (.ref a1), .val (.ref o), .val (.int (p3 &&& (2147483647 : Int32))), .val (.int p4), .val (.long v1), .second, .unset, .unset] [(.long (own_acc v1 c2 2 n))])
    have N53 := Fr.app N52 N53q
    obtain ⟨v2, hv2⟩ : ∃ v, v = own_acc v1 c2 2 n := ⟨_, rfl⟩
    rw [← hv2]
    show Go p e below _ T53 (mkF m 278 #[.val (.int p0), .val (.long p1), .second, .val (.int p2), .val (.int p3), .val (.int p4), .val (.int (Int32.ofNat n)), .val (.int al), .val (.ref a1), .val (.ref o), .val (.int (p3 &&& (2147483647 : Int32))), .val (.int p4), .val (.long v1), .second, .unset, .unset] [(.long v2)])
    refine Go.st (fun _ k => XT.lstore X53.here hx rfl (hb hby at_278) rfl (l' := #[.val (.int p0), .val (.long p1), .second, .val (.int p2), .val (.int p3), .val (.int p4), .val (.int (Int32.ofNat n)), .val (.int al), .val (.ref a1), .val (.ref o), .val (.int (p3 &&& (2147483647 : Int32))), .val (.int p4), .val (.long v2), .second, .unset, .unset]) rfl k) ?_
    show Go p e below _ T53 (mkF m 280 #[.val (.int p0), .val (.long p1), .second, .val (.int p2), .val (.int p3), .val (.int p4), .val (.int (Int32.ofNat n)), .val (.int al), .val (.ref a1), .val (.ref o), .val (.int (p3 &&& (2147483647 : Int32))), .val (.int p4), .val (.long v2), .second, .unset, .unset] [])
    refine Go.st (fun _ k => XT.lload X53.here hx rfl (hb hby at_280) rfl k) ?_
    show Go p e below _ T53 (mkF m 282 #[.val (.int p0), .val (.long p1), .second, .val (.int p2), .val (.int p3), .val (.int p4), .val (.int (Int32.ofNat n)), .val (.int al), .val (.ref a1), .val (.ref o), .val (.int (p3 &&& (2147483647 : Int32))), .val (.int p4), .val (.long v2), .second, .unset, .unset] [(.long v2)])
    refine Go.st (fun _ k => XS.aload X53.here hx rfl (hb hby at_282) rfl rfl k) ?_
    show Go p e below _ T53 (mkF m 284 #[.val (.int p0), .val (.long p1), .second, .val (.int p2), .val (.int p3), .val (.int p4), .val (.int (Int32.ofNat n)), .val (.int al), .val (.ref a1), .val (.ref o), .val (.int (p3 &&& (2147483647 : Int32))), .val (.int p4), .val (.long v2), .second, .unset, .unset] [(.ref a1), (.long v2)])
    refine Go.st (fun _ k => XS.iconst X53.here hx rfl (hb hby at_284) k) ?_
    show Go p e below _ T53 (mkF m 285 #[.val (.int p0), .val (.long p1), .second, .val (.int p2), .val (.int p3), .val (.int p4), .val (.int (Int32.ofNat n)), .val (.int al), .val (.ref a1), .val (.ref o), .val (.int (p3 &&& (2147483647 : Int32))), .val (.int p4), .val (.long v2), .second, .unset, .unset] [(.int (3 : Int32)), (.ref a1), (.long v2)])
    refine Go.st (fun _ k => XS.iload X53.here hx rfl (hb hby at_285) rfl k) ?_
    show Go p e below _ T53 (mkF m 287 #[.val (.int p0), .val (.long p1), .second, .val (.int p2), .val (.int p3), .val (.int p4), .val (.int (Int32.ofNat n)), .val (.int al), .val (.ref a1), .val (.ref o), .val (.int (p3 &&& (2147483647 : Int32))), .val (.int p4), .val (.long v2), .second, .unset, .unset] [(.int (Int32.ofNat n)), (.int (3 : Int32)), (.ref a1), (.long v2)])
    show Go p e below _ T53 (mkF m 287 #[.val (.int p0), .val (.long p1), .second, .val (.int p2), .val (.int p3), .val (.int p4), .val (.int (Int32.ofNat n)), .val (.int al), .val (.ref a1), .val (.ref o), .val (.int (p3 &&& (2147483647 : Int32))), .val (.int p4), .val (.long v2), .second, .unset, .unset] [(.int (Int32.ofNat n)), (.int (Int32.ofNat 3)), (.ref a1), (.long v2)])
    refine Go.callS X53 hx (y := (⟨"com/example/federate/federate/WholeNumbersParsePinLaw", "acc", "(J[CII)J"⟩ : MethodName)) hown50 (mvT hZ50 (hw _ (List.mem_of_getElem? (i := 34) rfl))) (mvT hZ50 (hw _ (List.mem_of_getElem? (i := 35) rfl))) (mvT hZ50 (hw _ (List.mem_of_getElem? (i := 3) rfl))) (mvT hZ50 (hw _ (List.mem_of_getElem? (i := 36) rfl))) (by decide) (Ctr.back (W := 0) (rmAC l Z a0 hw v2 a1 ([c0, c1, c2, c3, c4, c5, c6, c7, c8, c9, c10, c11] : List Int32) 3 n c3 (by simp) (by omega) rfl T50.heap n0 A50) hZ50 (hw _ (List.mem_of_getElem? (i := 36) rfl)) (hw _ (List.mem_of_getElem? (i := 3) rfl)) (by (try dsimp only [room_1]); (try simp only [List.length_cons, List.length_nil]); omega) (by (try dsimp only [room_1]); (try simp only [List.length_cons, List.length_nil]); omega)) e53 (g := (mkF m 287 #[.val (.int p0), .val (.long p1), .second, .val (.int p2), .val (.int p3), .val (.int p4), .val (.int (Int32.ofNat n)), .val (.int al), .val (.ref a1), .val (.ref o), .val (.int (p3 &&& (2147483647 : Int32))), .val (.int p4), .val (.long v2), .second, .unset, .unset] [(.int (Int32.ofNat n)), (.int (Int32.ofNat 3)), (.ref a1), (.long v2)])) rfl (by rw [hml]; rfl) (argsL := [(.long v2), (.ref a1), (.int (Int32.ofNat 3)), (.int (Int32.ofNat n))]) (rest := []) (lenOf pd_48 rfl) rfl (by show 2 * 0 + _ ≤ _; exact Nat.le_of_eq rfl) (hb hby at_287) rfl (by (try dsimp only [room_1]); (try simp only [List.length_cons, List.length_nil]); omega) (by (try dsimp only [room_1]); (try simp only [List.length_cons, List.length_nil]); omega) ?_
    rintro _ T54 L54 X54 ⟨rfl, N54q, e54⟩
    show Go p e below _ T54 (mkF m 290 #[.val (.int p0), .val (.long p1), .second, .val (.int p2), .val (.int p3), .val (.int p4), .val (.int (Int32.ofNat n)), .val (.int al), .val (.ref a1), .val (.ref o), .val (.int (p3 &&& (2147483647 : Int32))), .val (.int p4), .val (.long v2), .second, .unset, .unset] [(.long (own_acc v2 c3 3 n))])
    have N54 := Fr.app N53 N54q
    obtain ⟨v3, hv3⟩ : ∃ v, v = own_acc v2 c3 3 n := ⟨_, rfl⟩
    rw [← hv3]
    show Go p e below _ T54 (mkF m 290 #[.val (.int p0), .val (.long p1), .second, .val (.int p2), .val (.int p3), .val (.int p4), .val (.int (Int32.ofNat n)), .val (.int al), .val (.ref a1), .val (.ref o), .val (.int (p3 &&& (2147483647 : Int32))), .val (.int p4), .val (.long v2), .second, .unset, .unset] [(.long v3)])
    refine Go.st (fun _ k => XT.lstore X54.here hx rfl (hb hby at_290) rfl (l' := #[.val (.int p0), .val (.long p1), .second, .val (.int p2), .val (.int p3), .val (.int p4), .val (.int (Int32.ofNat n)), .val (.int al), .val (.ref a1), .val (.ref o), .val (.int (p3 &&& (2147483647 : Int32))), .val (.int p4), .val (.long v3), .second, .unset, .unset]) rfl k) ?_
    show Go p e below _ T54 (mkF m 292 #[.val (.int p0), .val (.long p1), .second, .val (.int p2), .val (.int p3), .val (.int p4), .val (.int (Int32.ofNat n)), .val (.int al), .val (.ref a1), .val (.ref o), .val (.int (p3 &&& (2147483647 : Int32))), .val (.int p4), .val (.long v3), .second, .unset, .unset] [])
    refine Go.st (fun _ k => XT.lload X54.here hx rfl (hb hby at_292) rfl k) ?_
    show Go p e below _ T54 (mkF m 294 #[.val (.int p0), .val (.long p1), .second, .val (.int p2), .val (.int p3), .val (.int p4), .val (.int (Int32.ofNat n)), .val (.int al), .val (.ref a1), .val (.ref o), .val (.int (p3 &&& (2147483647 : Int32))), .val (.int p4), .val (.long v3), .second, .unset, .unset] [(.long v3)])
    refine Go.st (fun _ k => XS.aload X54.here hx rfl (hb hby at_294) rfl rfl k) ?_
    show Go p e below _ T54 (mkF m 296 #[.val (.int p0), .val (.long p1), .second, .val (.int p2), .val (.int p3), .val (.int p4), .val (.int (Int32.ofNat n)), .val (.int al), .val (.ref a1), .val (.ref o), .val (.int (p3 &&& (2147483647 : Int32))), .val (.int p4), .val (.long v3), .second, .unset, .unset] [(.ref a1), (.long v3)])
    refine Go.st (fun _ k => XS.iconst X54.here hx rfl (hb hby at_296) k) ?_
    show Go p e below _ T54 (mkF m 297 #[.val (.int p0), .val (.long p1), .second, .val (.int p2), .val (.int p3), .val (.int p4), .val (.int (Int32.ofNat n)), .val (.int al), .val (.ref a1), .val (.ref o), .val (.int (p3 &&& (2147483647 : Int32))), .val (.int p4), .val (.long v3), .second, .unset, .unset] [(.int (4 : Int32)), (.ref a1), (.long v3)])
    refine Go.st (fun _ k => XS.iload X54.here hx rfl (hb hby at_297) rfl k) ?_
    show Go p e below _ T54 (mkF m 299 #[.val (.int p0), .val (.long p1), .second, .val (.int p2), .val (.int p3), .val (.int p4), .val (.int (Int32.ofNat n)), .val (.int al), .val (.ref a1), .val (.ref o), .val (.int (p3 &&& (2147483647 : Int32))), .val (.int p4), .val (.long v3), .second, .unset, .unset] [(.int (Int32.ofNat n)), (.int (4 : Int32)), (.ref a1), (.long v3)])
    show Go p e below _ T54 (mkF m 299 #[.val (.int p0), .val (.long p1), .second, .val (.int p2), .val (.int p3), .val (.int p4), .val (.int (Int32.ofNat n)), .val (.int al), .val (.ref a1), .val (.ref o), .val (.int (p3 &&& (2147483647 : Int32))), .val (.int p4), .val (.long v3), .second, .unset, .unset] [(.int (Int32.ofNat n)), (.int (Int32.ofNat 4)), (.ref a1), (.long v3)])
    refine Go.callS X54 hx (y := (⟨"com/example/federate/federate/WholeNumbersParsePinLaw", "acc", "(J[CII)J"⟩ : MethodName)) hown50 (mvT hZ50 (hw _ (List.mem_of_getElem? (i := 34) rfl))) (mvT hZ50 (hw _ (List.mem_of_getElem? (i := 35) rfl))) (mvT hZ50 (hw _ (List.mem_of_getElem? (i := 3) rfl))) (mvT hZ50 (hw _ (List.mem_of_getElem? (i := 36) rfl))) (by decide) (Ctr.back (W := 0) (rmAC l Z a0 hw v3 a1 ([c0, c1, c2, c3, c4, c5, c6, c7, c8, c9, c10, c11] : List Int32) 4 n c4 (by simp) (by omega) rfl T50.heap n0 A50) hZ50 (hw _ (List.mem_of_getElem? (i := 36) rfl)) (hw _ (List.mem_of_getElem? (i := 3) rfl)) (by (try dsimp only [room_1]); (try simp only [List.length_cons, List.length_nil]); omega) (by (try dsimp only [room_1]); (try simp only [List.length_cons, List.length_nil]); omega)) e54 (g := (mkF m 299 #[.val (.int p0), .val (.long p1), .second, .val (.int p2), .val (.int p3), .val (.int p4), .val (.int (Int32.ofNat n)), .val (.int al), .val (.ref a1), .val (.ref o), .val (.int (p3 &&& (2147483647 : Int32))), .val (.int p4), .val (.long v3), .second, .unset, .unset] [(.int (Int32.ofNat n)), (.int (Int32.ofNat 4)), (.ref a1), (.long v3)])) rfl (by rw [hml]; rfl) (argsL := [(.long v3), (.ref a1), (.int (Int32.ofNat 4)), (.int (Int32.ofNat n))]) (rest := []) (lenOf pd_48 rfl) rfl (by show 2 * 0 + _ ≤ _; exact Nat.le_of_eq rfl) (hb hby at_299) rfl (by (try dsimp only [room_1]); (try simp only [List.length_cons, List.length_nil]); omega) (by (try dsimp only [room_1]); (try simp only [List.length_cons, List.length_nil]); omega) ?_
    rintro _ T55 L55 X55 ⟨rfl, N55q, e55⟩
    show Go p e below _ T55 (mkF m 302 #[.val (.int p0), .val (.long p1), .second, .val (.int p2), .val (.int p3), .val (.int p4), .val (.int (Int32.ofNat n)), .val (.int al), .val (.ref a1), .val (.ref o), .val (.int (p3 &&& (2147483647 : Int32))), .val (.int p4), .val (.long v3), .second, .unset, .unset] [(.long (own_acc v3 c4 4 n))])
    have N55 := Fr.app N54 N55q
    obtain ⟨v4, hv4⟩ : ∃ v, v = own_acc v3 c4 4 n := ⟨_, rfl⟩
    rw [← hv4]
    show Go p e below _ T55 (mkF m 302 #[.val (.int p0), .val (.long p1), .second, .val (.int p2), .val (.int p3), .val (.int p4), .val (.int (Int32.ofNat n)), .val (.int al), .val (.ref a1), .val (.ref o), .val (.int (p3 &&& (2147483647 : Int32))), .val (.int p4), .val (.long v3), .second, .unset, .unset] [(.long v4)])
    refine Go.st (fun _ k => XT.lstore X55.here hx rfl (hb hby at_302) rfl (l' := #[.val (.int p0), .val (.long p1), .second, .val (.int p2), .val (.int p3), .val (.int p4), .val (.int (Int32.ofNat n)), .val (.int al), .val (.ref a1), .val (.ref o), .val (.int (p3 &&& (2147483647 : Int32))), .val (.int p4), .val (.long v4), .second, .unset, .unset]) rfl k) ?_
    show Go p e below _ T55 (mkF m 304 #[.val (.int p0), .val (.long p1), .second, .val (.int p2), .val (.int p3), .val (.int p4), .val (.int (Int32.ofNat n)), .val (.int al), .val (.ref a1), .val (.ref o), .val (.int (p3 &&& (2147483647 : Int32))), .val (.int p4), .val (.long v4), .second, .unset, .unset] [])
    refine Go.st (fun _ k => XT.lload X55.here hx rfl (hb hby at_304) rfl k) ?_
    show Go p e below _ T55 (mkF m 306 #[.val (.int p0), .val (.long p1), .second, .val (.int p2), .val (.int p3), .val (.int p4), .val (.int (Int32.ofNat n)), .val (.int al), .val (.ref a1), .val (.ref o), .val (.int (p3 &&& (2147483647 : Int32))), .val (.int p4), .val (.long v4), .second, .unset, .unset] [(.long v4)])
    refine Go.st (fun _ k => XS.aload X55.here hx rfl (hb hby at_306) rfl rfl k) ?_
    show Go p e below _ T55 (mkF m 308 #[.val (.int p0), .val (.long p1), .second, .val (.int p2), .val (.int p3), .val (.int p4), .val (.int (Int32.ofNat n)), .val (.int al), .val (.ref a1), .val (.ref o), .val (.int (p3 &&& (2147483647 : Int32))), .val (.int p4), .val (.long v4), .second, .unset, .unset] [(.ref a1), (.long v4)])
    refine Go.st (fun _ k => XS.iconst X55.here hx rfl (hb hby at_308) k) ?_
    show Go p e below _ T55 (mkF m 309 #[.val (.int p0), .val (.long p1), .second, .val (.int p2), .val (.int p3), .val (.int p4), .val (.int (Int32.ofNat n)), .val (.int al), .val (.ref a1), .val (.ref o), .val (.int (p3 &&& (2147483647 : Int32))), .val (.int p4), .val (.long v4), .second, .unset, .unset] [(.int (5 : Int32)), (.ref a1), (.long v4)])
    refine Go.st (fun _ k => XS.iload X55.here hx rfl (hb hby at_309) rfl k) ?_
    show Go p e below _ T55 (mkF m 311 #[.val (.int p0), .val (.long p1), .second, .val (.int p2), .val (.int p3), .val (.int p4), .val (.int (Int32.ofNat n)), .val (.int al), .val (.ref a1), .val (.ref o), .val (.int (p3 &&& (2147483647 : Int32))), .val (.int p4), .val (.long v4), .second, .unset, .unset] [(.int (Int32.ofNat n)), (.int (5 : Int32)), (.ref a1), (.long v4)])
    show Go p e below _ T55 (mkF m 311 #[.val (.int p0), .val (.long p1), .second, .val (.int p2), .val (.int p3), .val (.int p4), .val (.int (Int32.ofNat n)), .val (.int al), .val (.ref a1), .val (.ref o), .val (.int (p3 &&& (2147483647 : Int32))), .val (.int p4), .val (.long v4), .second, .unset, .unset] [(.int (Int32.ofNat n)), (.int (Int32.ofNat 5)), (.ref a1), (.long v4)])
    refine Go.callS X55 hx (y := (⟨"com/example/federate/federate/WholeNumbersParsePinLaw", "acc", "(J[CII)J"⟩ : MethodName)) hown50 (mvT hZ50 (hw _ (List.mem_of_getElem? (i := 34) rfl))) (mvT hZ50 (hw _ (List.mem_of_getElem? (i := 35) rfl))) (mvT hZ50 (hw _ (List.mem_of_getElem? (i := 3) rfl))) (mvT hZ50 (hw _ (List.mem_of_getElem? (i := 36) rfl))) (by decide) (Ctr.back (W := 0) (rmAC l Z a0 hw v4 a1 ([c0, c1, c2, c3, c4, c5, c6, c7, c8, c9, c10, c11] : List Int32) 5 n c5 (by simp) (by omega) rfl T50.heap n0 A50) hZ50 (hw _ (List.mem_of_getElem? (i := 36) rfl)) (hw _ (List.mem_of_getElem? (i := 3) rfl)) (by (try dsimp only [room_1]); (try simp only [List.length_cons, List.length_nil]); omega) (by (try dsimp only [room_1]); (try simp only [List.length_cons, List.length_nil]); omega)) e55 (g := (mkF m 311 #[.val (.int p0), .val (.long p1), .second, .val (.int p2), .val (.int p3), .val (.int p4), .val (.int (Int32.ofNat n)), .val (.int al), .val (.ref a1), .val (.ref o), .val (.int (p3 &&& (2147483647 : Int32))), .val (.int p4), .val (.long v4), .second, .unset, .unset] [(.int (Int32.ofNat n)), (.int (Int32.ofNat 5)), (.ref a1), (.long v4)])) rfl (by rw [hml]; rfl) (argsL := [(.long v4), (.ref a1), (.int (Int32.ofNat 5)), (.int (Int32.ofNat n))]) (rest := []) (lenOf pd_48 rfl) rfl (by show 2 * 0 + _ ≤ _; exact Nat.le_of_eq rfl) (hb hby at_311) rfl (by (try dsimp only [room_1]); (try simp only [List.length_cons, List.length_nil]); omega) (by (try dsimp only [room_1]); (try simp only [List.length_cons, List.length_nil]); omega) ?_
    rintro _ T56 L56 X56 ⟨rfl, N56q, e56⟩
    show Go p e below _ T56 (mkF m 314 #[.val (.int p0), .val (.long p1), .second, .val (.int p2), .val (.int p3), .val (.int p4), .val (.int (Int32.ofNat n)), .val (.int al), .val (.ref a1), .val (.ref o), .val (.int (p3 &&& (2147483647 : Int32))), .val (.int p4), .val (.long v4), .second, .unset, .unset] [(.long (own_acc v4 c5 5 n))])
    have N56 := Fr.app N55 N56q
    obtain ⟨v5, hv5⟩ : ∃ v, v = own_acc v4 c5 5 n := ⟨_, rfl⟩
    rw [← hv5]
    show Go p e below _ T56 (mkF m 314 #[.val (.int p0), .val (.long p1), .second, .val (.int p2), .val (.int p3), .val (.int p4), .val (.int (Int32.ofNat n)), .val (.int al), .val (.ref a1), .val (.ref o), .val (.int (p3 &&& (2147483647 : Int32))), .val (.int p4), .val (.long v4), .second, .unset, .unset] [(.long v5)])
    refine Go.st (fun _ k => XT.lstore X56.here hx rfl (hb hby at_314) rfl (l' := #[.val (.int p0), .val (.long p1), .second, .val (.int p2), .val (.int p3), .val (.int p4), .val (.int (Int32.ofNat n)), .val (.int al), .val (.ref a1), .val (.ref o), .val (.int (p3 &&& (2147483647 : Int32))), .val (.int p4), .val (.long v5), .second, .unset, .unset]) rfl k) ?_
    show Go p e below _ T56 (mkF m 316 #[.val (.int p0), .val (.long p1), .second, .val (.int p2), .val (.int p3), .val (.int p4), .val (.int (Int32.ofNat n)), .val (.int al), .val (.ref a1), .val (.ref o), .val (.int (p3 &&& (2147483647 : Int32))), .val (.int p4), .val (.long v5), .second, .unset, .unset] [])
    refine Go.st (fun _ k => XT.lload X56.here hx rfl (hb hby at_316) rfl k) ?_
    show Go p e below _ T56 (mkF m 318 #[.val (.int p0), .val (.long p1), .second, .val (.int p2), .val (.int p3), .val (.int p4), .val (.int (Int32.ofNat n)), .val (.int al), .val (.ref a1), .val (.ref o), .val (.int (p3 &&& (2147483647 : Int32))), .val (.int p4), .val (.long v5), .second, .unset, .unset] [(.long v5)])
    refine Go.st (fun _ k => XS.aload X56.here hx rfl (hb hby at_318) rfl rfl k) ?_
    show Go p e below _ T56 (mkF m 320 #[.val (.int p0), .val (.long p1), .second, .val (.int p2), .val (.int p3), .val (.int p4), .val (.int (Int32.ofNat n)), .val (.int al), .val (.ref a1), .val (.ref o), .val (.int (p3 &&& (2147483647 : Int32))), .val (.int p4), .val (.long v5), .second, .unset, .unset] [(.ref a1), (.long v5)])
    refine Go.st (fun _ k => XS.bipush X56.here hx rfl (hb hby at_320) k) ?_
    show Go p e below _ T56 (mkF m 322 #[.val (.int p0), .val (.long p1), .second, .val (.int p2), .val (.int p3), .val (.int p4), .val (.int (Int32.ofNat n)), .val (.int al), .val (.ref a1), .val (.ref o), .val (.int (p3 &&& (2147483647 : Int32))), .val (.int p4), .val (.long v5), .second, .unset, .unset] [(.int (6 : Int32)), (.ref a1), (.long v5)])
    refine Go.st (fun _ k => XS.iload X56.here hx rfl (hb hby at_322) rfl k) ?_
    show Go p e below _ T56 (mkF m 324 #[.val (.int p0), .val (.long p1), .second, .val (.int p2), .val (.int p3), .val (.int p4), .val (.int (Int32.ofNat n)), .val (.int al), .val (.ref a1), .val (.ref o), .val (.int (p3 &&& (2147483647 : Int32))), .val (.int p4), .val (.long v5), .second, .unset, .unset] [(.int (Int32.ofNat n)), (.int (6 : Int32)), (.ref a1), (.long v5)])
    show Go p e below _ T56 (mkF m 324 #[.val (.int p0), .val (.long p1), .second, .val (.int p2), .val (.int p3), .val (.int p4), .val (.int (Int32.ofNat n)), .val (.int al), .val (.ref a1), .val (.ref o), .val (.int (p3 &&& (2147483647 : Int32))), .val (.int p4), .val (.long v5), .second, .unset, .unset] [(.int (Int32.ofNat n)), (.int (Int32.ofNat 6)), (.ref a1), (.long v5)])
    refine Go.callS X56 hx (y := (⟨"com/example/federate/federate/WholeNumbersParsePinLaw", "acc", "(J[CII)J"⟩ : MethodName)) hown50 (mvT hZ50 (hw _ (List.mem_of_getElem? (i := 34) rfl))) (mvT hZ50 (hw _ (List.mem_of_getElem? (i := 35) rfl))) (mvT hZ50 (hw _ (List.mem_of_getElem? (i := 3) rfl))) (mvT hZ50 (hw _ (List.mem_of_getElem? (i := 36) rfl))) (by decide) (Ctr.back (W := 0) (rmAC l Z a0 hw v5 a1 ([c0, c1, c2, c3, c4, c5, c6, c7, c8, c9, c10, c11] : List Int32) 6 n c6 (by simp) (by omega) rfl T50.heap n0 A50) hZ50 (hw _ (List.mem_of_getElem? (i := 36) rfl)) (hw _ (List.mem_of_getElem? (i := 3) rfl)) (by (try dsimp only [room_1]); (try simp only [List.length_cons, List.length_nil]); omega) (by (try dsimp only [room_1]); (try simp only [List.length_cons, List.length_nil]); omega)) e56 (g := (mkF m 324 #[.val (.int p0), .val (.long p1), .second, .val (.int p2), .val (.int p3), .val (.int p4), .val (.int (Int32.ofNat n)), .val (.int al), .val (.ref a1), .val (.ref o), .val (.int (p3 &&& (2147483647 : Int32))), .val (.int p4), .val (.long v5), .second, .unset, .unset] [(.int (Int32.ofNat n)), (.int (Int32.ofNat 6)), (.ref a1), (.long v5)])) rfl (by rw [hml]; rfl) (argsL := [(.long v5), (.ref a1), (.int (Int32.ofNat 6)), (.int (Int32.ofNat n))]) (rest := []) (lenOf pd_48 rfl) rfl (by show 2 * 0 + _ ≤ _; exact Nat.le_of_eq rfl) (hb hby at_324) rfl (by (try dsimp only [room_1]); (try simp only [List.length_cons, List.length_nil]); omega) (by (try dsimp only [room_1]); (try simp only [List.length_cons, List.length_nil]); omega) ?_
    rintro _ T57 L57 X57 ⟨rfl, N57q, e57⟩
    show Go p e below _ T57 (mkF m 327 #[.val (.int p0), .val (.long p1), .second, .val (.int p2), .val (.int p3), .val (.int p4), .val (.int (Int32.ofNat n)), .val (.int al), .val (.ref a1), .val (.ref o), .val (.int (p3 &&& (2147483647 : Int32))), .val (.int p4), .val (.long v5), .second, .unset, .unset] [(.long (own_acc v5 c6 6 n))])
    have N57 := Fr.app N56 N57q
    obtain ⟨v6, hv6⟩ : ∃ v, v = own_acc v5 c6 6 n := ⟨_, rfl⟩
    rw [← hv6]
    show Go p e below _ T57 (mkF m 327 #[.val (.int p0), .val (.long p1), .second, .val (.int p2), .val (.int p3), .val (.int p4), .val (.int (Int32.ofNat n)), .val (.int al), .val (.ref a1), .val (.ref o), .val (.int (p3 &&& (2147483647 : Int32))), .val (.int p4), .val (.long v5), .second, .unset, .unset] [(.long v6)])
    refine Go.st (fun _ k => XT.lstore X57.here hx rfl (hb hby at_327) rfl (l' := #[.val (.int p0), .val (.long p1), .second, .val (.int p2), .val (.int p3), .val (.int p4), .val (.int (Int32.ofNat n)), .val (.int al), .val (.ref a1), .val (.ref o), .val (.int (p3 &&& (2147483647 : Int32))), .val (.int p4), .val (.long v6), .second, .unset, .unset]) rfl k) ?_
    show Go p e below _ T57 (mkF m 329 #[.val (.int p0), .val (.long p1), .second, .val (.int p2), .val (.int p3), .val (.int p4), .val (.int (Int32.ofNat n)), .val (.int al), .val (.ref a1), .val (.ref o), .val (.int (p3 &&& (2147483647 : Int32))), .val (.int p4), .val (.long v6), .second, .unset, .unset] [])
    refine Go.st (fun _ k => XT.lload X57.here hx rfl (hb hby at_329) rfl k) ?_
    show Go p e below _ T57 (mkF m 331 #[.val (.int p0), .val (.long p1), .second, .val (.int p2), .val (.int p3), .val (.int p4), .val (.int (Int32.ofNat n)), .val (.int al), .val (.ref a1), .val (.ref o), .val (.int (p3 &&& (2147483647 : Int32))), .val (.int p4), .val (.long v6), .second, .unset, .unset] [(.long v6)])
    refine Go.st (fun _ k => XS.aload X57.here hx rfl (hb hby at_331) rfl rfl k) ?_
    show Go p e below _ T57 (mkF m 333 #[.val (.int p0), .val (.long p1), .second, .val (.int p2), .val (.int p3), .val (.int p4), .val (.int (Int32.ofNat n)), .val (.int al), .val (.ref a1), .val (.ref o), .val (.int (p3 &&& (2147483647 : Int32))), .val (.int p4), .val (.long v6), .second, .unset, .unset] [(.ref a1), (.long v6)])
    refine Go.st (fun _ k => XS.bipush X57.here hx rfl (hb hby at_333) k) ?_
    show Go p e below _ T57 (mkF m 335 #[.val (.int p0), .val (.long p1), .second, .val (.int p2), .val (.int p3), .val (.int p4), .val (.int (Int32.ofNat n)), .val (.int al), .val (.ref a1), .val (.ref o), .val (.int (p3 &&& (2147483647 : Int32))), .val (.int p4), .val (.long v6), .second, .unset, .unset] [(.int (7 : Int32)), (.ref a1), (.long v6)])
    refine Go.st (fun _ k => XS.iload X57.here hx rfl (hb hby at_335) rfl k) ?_
    show Go p e below _ T57 (mkF m 337 #[.val (.int p0), .val (.long p1), .second, .val (.int p2), .val (.int p3), .val (.int p4), .val (.int (Int32.ofNat n)), .val (.int al), .val (.ref a1), .val (.ref o), .val (.int (p3 &&& (2147483647 : Int32))), .val (.int p4), .val (.long v6), .second, .unset, .unset] [(.int (Int32.ofNat n)), (.int (7 : Int32)), (.ref a1), (.long v6)])
    show Go p e below _ T57 (mkF m 337 #[.val (.int p0), .val (.long p1), .second, .val (.int p2), .val (.int p3), .val (.int p4), .val (.int (Int32.ofNat n)), .val (.int al), .val (.ref a1), .val (.ref o), .val (.int (p3 &&& (2147483647 : Int32))), .val (.int p4), .val (.long v6), .second, .unset, .unset] [(.int (Int32.ofNat n)), (.int (Int32.ofNat 7)), (.ref a1), (.long v6)])
    refine Go.callS X57 hx (y := (⟨"com/example/federate/federate/WholeNumbersParsePinLaw", "acc", "(J[CII)J"⟩ : MethodName)) hown50 (mvT hZ50 (hw _ (List.mem_of_getElem? (i := 34) rfl))) (mvT hZ50 (hw _ (List.mem_of_getElem? (i := 35) rfl))) (mvT hZ50 (hw _ (List.mem_of_getElem? (i := 3) rfl))) (mvT hZ50 (hw _ (List.mem_of_getElem? (i := 36) rfl))) (by decide) (Ctr.back (W := 0) (rmAC l Z a0 hw v6 a1 ([c0, c1, c2, c3, c4, c5, c6, c7, c8, c9, c10, c11] : List Int32) 7 n c7 (by simp) (by omega) rfl T50.heap n0 A50) hZ50 (hw _ (List.mem_of_getElem? (i := 36) rfl)) (hw _ (List.mem_of_getElem? (i := 3) rfl)) (by (try dsimp only [room_1]); (try simp only [List.length_cons, List.length_nil]); omega) (by (try dsimp only [room_1]); (try simp only [List.length_cons, List.length_nil]); omega)) e57 (g := (mkF m 337 #[.val (.int p0), .val (.long p1), .second, .val (.int p2), .val (.int p3), .val (.int p4), .val (.int (Int32.ofNat n)), .val (.int al), .val (.ref a1), .val (.ref o), .val (.int (p3 &&& (2147483647 : Int32))), .val (.int p4), .val (.long v6), .second, .unset, .unset] [(.int (Int32.ofNat n)), (.int (Int32.ofNat 7)), (.ref a1), (.long v6)])) rfl (by rw [hml]; rfl) (argsL := [(.long v6), (.ref a1), (.int (Int32.ofNat 7)), (.int (Int32.ofNat n))]) (rest := []) (lenOf pd_48 rfl) rfl (by show 2 * 0 + _ ≤ _; exact Nat.le_of_eq rfl) (hb hby at_337) rfl (by (try dsimp only [room_1]); (try simp only [List.length_cons, List.length_nil]); omega) (by (try dsimp only [room_1]); (try simp only [List.length_cons, List.length_nil]); omega) ?_
    rintro _ T58 L58 X58 ⟨rfl, N58q, e58⟩
    show Go p e below _ T58 (mkF m 340 #[.val (.int p0), .val (.long p1), .second, .val (.int p2), .val (.int p3), .val (.int p4), .val (.int (Int32.ofNat n)), .val (.int al), .val (.ref a1), .val (.ref o), .val (.int (p3 &&& (2147483647 : Int32))), .val (.int p4), .val (.long v6), .second, .unset, .unset] [(.long (own_acc v6 c7 7 n))])
    have N58 := Fr.app N57 N58q
    obtain ⟨v7, hv7⟩ : ∃ v, v = own_acc v6 c7 7 n := ⟨_, rfl⟩
    rw [← hv7]
    show Go p e below _ T58 (mkF m 340 #[.val (.int p0), .val (.long p1), .second, .val (.int p2), .val (.int p3), .val (.int p4), .val (.int (Int32.ofNat n)), .val (.int al), .val (.ref a1), .val (.ref o), .val (.int (p3 &&& (2147483647 : Int32))), .val (.int p4), .val (.long v6), .second, .unset, .unset] [(.long v7)])
    refine Go.st (fun _ k => XT.lstore X58.here hx rfl (hb hby at_340) rfl (l' := #[.val (.int p0), .val (.long p1), .second, .val (.int p2), .val (.int p3), .val (.int p4), .val (.int (Int32.ofNat n)), .val (.int al), .val (.ref a1), .val (.ref o), .val (.int (p3 &&& (2147483647 : Int32))), .val (.int p4), .val (.long v7), .second, .unset, .unset]) rfl k) ?_
    show Go p e below _ T58 (mkF m 342 #[.val (.int p0), .val (.long p1), .second, .val (.int p2), .val (.int p3), .val (.int p4), .val (.int (Int32.ofNat n)), .val (.int al), .val (.ref a1), .val (.ref o), .val (.int (p3 &&& (2147483647 : Int32))), .val (.int p4), .val (.long v7), .second, .unset, .unset] [])
    refine Go.st (fun _ k => XT.lload X58.here hx rfl (hb hby at_342) rfl k) ?_
    show Go p e below _ T58 (mkF m 344 #[.val (.int p0), .val (.long p1), .second, .val (.int p2), .val (.int p3), .val (.int p4), .val (.int (Int32.ofNat n)), .val (.int al), .val (.ref a1), .val (.ref o), .val (.int (p3 &&& (2147483647 : Int32))), .val (.int p4), .val (.long v7), .second, .unset, .unset] [(.long v7)])
    refine Go.st (fun _ k => XS.aload X58.here hx rfl (hb hby at_344) rfl rfl k) ?_
    show Go p e below _ T58 (mkF m 346 #[.val (.int p0), .val (.long p1), .second, .val (.int p2), .val (.int p3), .val (.int p4), .val (.int (Int32.ofNat n)), .val (.int al), .val (.ref a1), .val (.ref o), .val (.int (p3 &&& (2147483647 : Int32))), .val (.int p4), .val (.long v7), .second, .unset, .unset] [(.ref a1), (.long v7)])
    refine Go.st (fun _ k => XS.bipush X58.here hx rfl (hb hby at_346) k) ?_
    show Go p e below _ T58 (mkF m 348 #[.val (.int p0), .val (.long p1), .second, .val (.int p2), .val (.int p3), .val (.int p4), .val (.int (Int32.ofNat n)), .val (.int al), .val (.ref a1), .val (.ref o), .val (.int (p3 &&& (2147483647 : Int32))), .val (.int p4), .val (.long v7), .second, .unset, .unset] [(.int (8 : Int32)), (.ref a1), (.long v7)])
    refine Go.st (fun _ k => XS.iload X58.here hx rfl (hb hby at_348) rfl k) ?_
    show Go p e below _ T58 (mkF m 350 #[.val (.int p0), .val (.long p1), .second, .val (.int p2), .val (.int p3), .val (.int p4), .val (.int (Int32.ofNat n)), .val (.int al), .val (.ref a1), .val (.ref o), .val (.int (p3 &&& (2147483647 : Int32))), .val (.int p4), .val (.long v7), .second, .unset, .unset] [(.int (Int32.ofNat n)), (.int (8 : Int32)), (.ref a1), (.long v7)])
    show Go p e below _ T58 (mkF m 350 #[.val (.int p0), .val (.long p1), .second, .val (.int p2), .val (.int p3), .val (.int p4), .val (.int (Int32.ofNat n)), .val (.int al), .val (.ref a1), .val (.ref o), .val (.int (p3 &&& (2147483647 : Int32))), .val (.int p4), .val (.long v7), .second, .unset, .unset] [(.int (Int32.ofNat n)), (.int (Int32.ofNat 8)), (.ref a1), (.long v7)])
    refine Go.callS X58 hx (y := (⟨"com/example/federate/federate/WholeNumbersParsePinLaw", "acc", "(J[CII)J"⟩ : MethodName)) hown50 (mvT hZ50 (hw _ (List.mem_of_getElem? (i := 34) rfl))) (mvT hZ50 (hw _ (List.mem_of_getElem? (i := 35) rfl))) (mvT hZ50 (hw _ (List.mem_of_getElem? (i := 3) rfl))) (mvT hZ50 (hw _ (List.mem_of_getElem? (i := 36) rfl))) (by decide) (Ctr.back (W := 0) (rmAC l Z a0 hw v7 a1 ([c0, c1, c2, c3, c4, c5, c6, c7, c8, c9, c10, c11] : List Int32) 8 n c8 (by simp) (by omega) rfl T50.heap n0 A50) hZ50 (hw _ (List.mem_of_getElem? (i := 36) rfl)) (hw _ (List.mem_of_getElem? (i := 3) rfl)) (by (try dsimp only [room_1]); (try simp only [List.length_cons, List.length_nil]); omega) (by (try dsimp only [room_1]); (try simp only [List.length_cons, List.length_nil]); omega)) e58 (g := (mkF m 350 #[.val (.int p0), .val (.long p1), .second, .val (.int p2), .val (.int p3), .val (.int p4), .val (.int (Int32.ofNat n)), .val (.int al), .val (.ref a1), .val (.ref o), .val (.int (p3 &&& (2147483647 : Int32))), .val (.int p4), .val (.long v7), .second, .unset, .unset] [(.int (Int32.ofNat n)), (.int (Int32.ofNat 8)), (.ref a1), (.long v7)])) rfl (by rw [hml]; rfl) (argsL := [(.long v7), (.ref a1), (.int (Int32.ofNat 8)), (.int (Int32.ofNat n))]) (rest := []) (lenOf pd_48 rfl) rfl (by show 2 * 0 + _ ≤ _; exact Nat.le_of_eq rfl) (hb hby at_350) rfl (by (try dsimp only [room_1]); (try simp only [List.length_cons, List.length_nil]); omega) (by (try dsimp only [room_1]); (try simp only [List.length_cons, List.length_nil]); omega) ?_
    rintro _ T59 L59 X59 ⟨rfl, N59q, e59⟩
    show Go p e below _ T59 (mkF m 353 #[.val (.int p0), .val (.long p1), .second, .val (.int p2), .val (.int p3), .val (.int p4), .val (.int (Int32.ofNat n)), .val (.int al), .val (.ref a1), .val (.ref o), .val (.int (p3 &&& (2147483647 : Int32))), .val (.int p4), .val (.long v7), .second, .unset, .unset] [(.long (own_acc v7 c8 8 n))])
    have N59 := Fr.app N58 N59q
    obtain ⟨v8, hv8⟩ : ∃ v, v = own_acc v7 c8 8 n := ⟨_, rfl⟩
    rw [← hv8]
    show Go p e below _ T59 (mkF m 353 #[.val (.int p0), .val (.long p1), .second, .val (.int p2), .val (.int p3), .val (.int p4), .val (.int (Int32.ofNat n)), .val (.int al), .val (.ref a1), .val (.ref o), .val (.int (p3 &&& (2147483647 : Int32))), .val (.int p4), .val (.long v7), .second, .unset, .unset] [(.long v8)])
    refine Go.st (fun _ k => XT.lstore X59.here hx rfl (hb hby at_353) rfl (l' := #[.val (.int p0), .val (.long p1), .second, .val (.int p2), .val (.int p3), .val (.int p4), .val (.int (Int32.ofNat n)), .val (.int al), .val (.ref a1), .val (.ref o), .val (.int (p3 &&& (2147483647 : Int32))), .val (.int p4), .val (.long v8), .second, .unset, .unset]) rfl k) ?_
    show Go p e below _ T59 (mkF m 355 #[.val (.int p0), .val (.long p1), .second, .val (.int p2), .val (.int p3), .val (.int p4), .val (.int (Int32.ofNat n)), .val (.int al), .val (.ref a1), .val (.ref o), .val (.int (p3 &&& (2147483647 : Int32))), .val (.int p4), .val (.long v8), .second, .unset, .unset] [])
    refine Go.st (fun _ k => XT.lload X59.here hx rfl (hb hby at_355) rfl k) ?_
    show Go p e below _ T59 (mkF m 357 #[.val (.int p0), .val (.long p1), .second, .val (.int p2), .val (.int p3), .val (.int p4), .val (.int (Int32.ofNat n)), .val (.int al), .val (.ref a1), .val (.ref o), .val (.int (p3 &&& (2147483647 : Int32))), .val (.int p4), .val (.long v8), .second, .unset, .unset] [(.long v8)])
    refine Go.st (fun _ k => XS.aload X59.here hx rfl (hb hby at_357) rfl rfl k) ?_
    show Go p e below _ T59 (mkF m 359 #[.val (.int p0), .val (.long p1), .second, .val (.int p2), .val (.int p3), .val (.int p4), .val (.int (Int32.ofNat n)), .val (.int al), .val (.ref a1), .val (.ref o), .val (.int (p3 &&& (2147483647 : Int32))), .val (.int p4), .val (.long v8), .second, .unset, .unset] [(.ref a1), (.long v8)])
    refine Go.st (fun _ k => XS.bipush X59.here hx rfl (hb hby at_359) k) ?_
    show Go p e below _ T59 (mkF m 361 #[.val (.int p0), .val (.long p1), .second, .val (.int p2), .val (.int p3), .val (.int p4), .val (.int (Int32.ofNat n)), .val (.int al), .val (.ref a1), .val (.ref o), .val (.int (p3 &&& (2147483647 : Int32))), .val (.int p4), .val (.long v8), .second, .unset, .unset] [(.int (9 : Int32)), (.ref a1), (.long v8)])
    refine Go.st (fun _ k => XS.iload X59.here hx rfl (hb hby at_361) rfl k) ?_
    show Go p e below _ T59 (mkF m 363 #[.val (.int p0), .val (.long p1), .second, .val (.int p2), .val (.int p3), .val (.int p4), .val (.int (Int32.ofNat n)), .val (.int al), .val (.ref a1), .val (.ref o), .val (.int (p3 &&& (2147483647 : Int32))), .val (.int p4), .val (.long v8), .second, .unset, .unset] [(.int (Int32.ofNat n)), (.int (9 : Int32)), (.ref a1), (.long v8)])
    show Go p e below _ T59 (mkF m 363 #[.val (.int p0), .val (.long p1), .second, .val (.int p2), .val (.int p3), .val (.int p4), .val (.int (Int32.ofNat n)), .val (.int al), .val (.ref a1), .val (.ref o), .val (.int (p3 &&& (2147483647 : Int32))), .val (.int p4), .val (.long v8), .second, .unset, .unset] [(.int (Int32.ofNat n)), (.int (Int32.ofNat 9)), (.ref a1), (.long v8)])
    refine Go.callS X59 hx (y := (⟨"com/example/federate/federate/WholeNumbersParsePinLaw", "acc", "(J[CII)J"⟩ : MethodName)) hown50 (mvT hZ50 (hw _ (List.mem_of_getElem? (i := 34) rfl))) (mvT hZ50 (hw _ (List.mem_of_getElem? (i := 35) rfl))) (mvT hZ50 (hw _ (List.mem_of_getElem? (i := 3) rfl))) (mvT hZ50 (hw _ (List.mem_of_getElem? (i := 36) rfl))) (by decide) (Ctr.back (W := 0) (rmAC l Z a0 hw v8 a1 ([c0, c1, c2, c3, c4, c5, c6, c7, c8, c9, c10, c11] : List Int32) 9 n c9 (by simp) (by omega) rfl T50.heap n0 A50) hZ50 (hw _ (List.mem_of_getElem? (i := 36) rfl)) (hw _ (List.mem_of_getElem? (i := 3) rfl)) (by (try dsimp only [room_1]); (try simp only [List.length_cons, List.length_nil]); omega) (by (try dsimp only [room_1]); (try simp only [List.length_cons, List.length_nil]); omega)) e59 (g := (mkF m 363 #[.val (.int p0), .val (.long p1), .second, .val (.int p2), .val (.int p3), .val (.int p4), .val (.int (Int32.ofNat n)), .val (.int al), .val (.ref a1), .val (.ref o), .val (.int (p3 &&& (2147483647 : Int32))), .val (.int p4), .val (.long v8), .second, .unset, .unset] [(.int (Int32.ofNat n)), (.int (Int32.ofNat 9)), (.ref a1), (.long v8)])) rfl (by rw [hml]; rfl) (argsL := [(.long v8), (.ref a1), (.int (Int32.ofNat 9)), (.int (Int32.ofNat n))]) (rest := []) (lenOf pd_48 rfl) rfl (by show 2 * 0 + _ ≤ _; exact Nat.le_of_eq rfl) (hb hby at_363) rfl (by (try dsimp only [room_1]); (try simp only [List.length_cons, List.length_nil]); omega) (by (try dsimp only [room_1]); (try simp only [List.length_cons, List.length_nil]); omega) ?_
    rintro _ T60 L60 X60 ⟨rfl, N60q, e60⟩
    show Go p e below _ T60 (mkF m 366 #[.val (.int p0), .val (.long p1), .second, .val (.int p2), .val (.int p3), .val (.int p4), .val (.int (Int32.ofNat n)), .val (.int al), .val (.ref a1), .val (.ref o), .val (.int (p3 &&& (2147483647 : Int32))), .val (.int p4), .val (.long v8), .second, .unset, .unset] [(.long (own_acc v8 c9 9 n))])
    have N60 := Fr.app N59 N60q
    obtain ⟨v9, hv9⟩ : ∃ v, v = own_acc v8 c9 9 n := ⟨_, rfl⟩
    rw [← hv9]
    show Go p e below _ T60 (mkF m 366 #[.val (.int p0), .val (.long p1), .second, .val (.int p2), .val (.int p3), .val (.int p4), .val (.int (Int32.ofNat n)), .val (.int al), .val (.ref a1), .val (.ref o), .val (.int (p3 &&& (2147483647 : Int32))), .val (.int p4), .val (.long v8), .second, .unset, .unset] [(.long v9)])
    refine Go.st (fun _ k => XT.lstore X60.here hx rfl (hb hby at_366) rfl (l' := #[.val (.int p0), .val (.long p1), .second, .val (.int p2), .val (.int p3), .val (.int p4), .val (.int (Int32.ofNat n)), .val (.int al), .val (.ref a1), .val (.ref o), .val (.int (p3 &&& (2147483647 : Int32))), .val (.int p4), .val (.long v9), .second, .unset, .unset]) rfl k) ?_
    show Go p e below _ T60 (mkF m 368 #[.val (.int p0), .val (.long p1), .second, .val (.int p2), .val (.int p3), .val (.int p4), .val (.int (Int32.ofNat n)), .val (.int al), .val (.ref a1), .val (.ref o), .val (.int (p3 &&& (2147483647 : Int32))), .val (.int p4), .val (.long v9), .second, .unset, .unset] [])
    refine Go.st (fun _ k => XT.lload X60.here hx rfl (hb hby at_368) rfl k) ?_
    show Go p e below _ T60 (mkF m 370 #[.val (.int p0), .val (.long p1), .second, .val (.int p2), .val (.int p3), .val (.int p4), .val (.int (Int32.ofNat n)), .val (.int al), .val (.ref a1), .val (.ref o), .val (.int (p3 &&& (2147483647 : Int32))), .val (.int p4), .val (.long v9), .second, .unset, .unset] [(.long v9)])
    refine Go.st (fun _ k => XS.aload X60.here hx rfl (hb hby at_370) rfl rfl k) ?_
    show Go p e below _ T60 (mkF m 372 #[.val (.int p0), .val (.long p1), .second, .val (.int p2), .val (.int p3), .val (.int p4), .val (.int (Int32.ofNat n)), .val (.int al), .val (.ref a1), .val (.ref o), .val (.int (p3 &&& (2147483647 : Int32))), .val (.int p4), .val (.long v9), .second, .unset, .unset] [(.ref a1), (.long v9)])
    refine Go.st (fun _ k => XS.bipush X60.here hx rfl (hb hby at_372) k) ?_
    show Go p e below _ T60 (mkF m 374 #[.val (.int p0), .val (.long p1), .second, .val (.int p2), .val (.int p3), .val (.int p4), .val (.int (Int32.ofNat n)), .val (.int al), .val (.ref a1), .val (.ref o), .val (.int (p3 &&& (2147483647 : Int32))), .val (.int p4), .val (.long v9), .second, .unset, .unset] [(.int (10 : Int32)), (.ref a1), (.long v9)])
    refine Go.st (fun _ k => XS.iload X60.here hx rfl (hb hby at_374) rfl k) ?_
    show Go p e below _ T60 (mkF m 376 #[.val (.int p0), .val (.long p1), .second, .val (.int p2), .val (.int p3), .val (.int p4), .val (.int (Int32.ofNat n)), .val (.int al), .val (.ref a1), .val (.ref o), .val (.int (p3 &&& (2147483647 : Int32))), .val (.int p4), .val (.long v9), .second, .unset, .unset] [(.int (Int32.ofNat n)), (.int (10 : Int32)), (.ref a1), (.long v9)])
    show Go p e below _ T60 (mkF m 376 #[.val (.int p0), .val (.long p1), .second, .val (.int p2), .val (.int p3), .val (.int p4), .val (.int (Int32.ofNat n)), .val (.int al), .val (.ref a1), .val (.ref o), .val (.int (p3 &&& (2147483647 : Int32))), .val (.int p4), .val (.long v9), .second, .unset, .unset] [(.int (Int32.ofNat n)), (.int (Int32.ofNat 10)), (.ref a1), (.long v9)])
    refine Go.callS X60 hx (y := (⟨"com/example/federate/federate/WholeNumbersParsePinLaw", "acc", "(J[CII)J"⟩ : MethodName)) hown50 (mvT hZ50 (hw _ (List.mem_of_getElem? (i := 34) rfl))) (mvT hZ50 (hw _ (List.mem_of_getElem? (i := 35) rfl))) (mvT hZ50 (hw _ (List.mem_of_getElem? (i := 3) rfl))) (mvT hZ50 (hw _ (List.mem_of_getElem? (i := 36) rfl))) (by decide) (Ctr.back (W := 0) (rmAC l Z a0 hw v9 a1 ([c0, c1, c2, c3, c4, c5, c6, c7, c8, c9, c10, c11] : List Int32) 10 n c10 (by simp) (by omega) rfl T50.heap n0 A50) hZ50 (hw _ (List.mem_of_getElem? (i := 36) rfl)) (hw _ (List.mem_of_getElem? (i := 3) rfl)) (by (try dsimp only [room_1]); (try simp only [List.length_cons, List.length_nil]); omega) (by (try dsimp only [room_1]); (try simp only [List.length_cons, List.length_nil]); omega)) e60 (g := (mkF m 376 #[.val (.int p0), .val (.long p1), .second, .val (.int p2), .val (.int p3), .val (.int p4), .val (.int (Int32.ofNat n)), .val (.int al), .val (.ref a1), .val (.ref o), .val (.int (p3 &&& (2147483647 : Int32))), .val (.int p4), .val (.long v9), .second, .unset, .unset] [(.int (Int32.ofNat n)), (.int (Int32.ofNat 10)), (.ref a1), (.long v9)])) rfl (by rw [hml]; rfl) (argsL := [(.long v9), (.ref a1), (.int (Int32.ofNat 10)), (.int (Int32.ofNat n))]) (rest := []) (lenOf pd_48 rfl) rfl (by show 2 * 0 + _ ≤ _; exact Nat.le_of_eq rfl) (hb hby at_376) rfl (by (try dsimp only [room_1]); (try simp only [List.length_cons, List.length_nil]); omega) (by (try dsimp only [room_1]); (try simp only [List.length_cons, List.length_nil]); omega) ?_
    rintro _ T61 L61 X61 ⟨rfl, N61q, e61⟩
    show Go p e below _ T61 (mkF m 379 #[.val (.int p0), .val (.long p1), .second, .val (.int p2), .val (.int p3), .val (.int p4), .val (.int (Int32.ofNat n)), .val (.int al), .val (.ref a1), .val (.ref o), .val (.int (p3 &&& (2147483647 : Int32))), .val (.int p4), .val (.long v9), .second, .unset, .unset] [(.long (own_acc v9 c10 10 n))])
    have N61 := Fr.app N60 N61q
    obtain ⟨v10, hv10⟩ : ∃ v, v = own_acc v9 c10 10 n := ⟨_, rfl⟩
    rw [← hv10]
    show Go p e below _ T61 (mkF m 379 #[.val (.int p0), .val (.long p1), .second, .val (.int p2), .val (.int p3), .val (.int p4), .val (.int (Int32.ofNat n)), .val (.int al), .val (.ref a1), .val (.ref o), .val (.int (p3 &&& (2147483647 : Int32))), .val (.int p4), .val (.long v9), .second, .unset, .unset] [(.long v10)])
    refine Go.st (fun _ k => XT.lstore X61.here hx rfl (hb hby at_379) rfl (l' := #[.val (.int p0), .val (.long p1), .second, .val (.int p2), .val (.int p3), .val (.int p4), .val (.int (Int32.ofNat n)), .val (.int al), .val (.ref a1), .val (.ref o), .val (.int (p3 &&& (2147483647 : Int32))), .val (.int p4), .val (.long v10), .second, .unset, .unset]) rfl k) ?_
    show Go p e below _ T61 (mkF m 381 #[.val (.int p0), .val (.long p1), .second, .val (.int p2), .val (.int p3), .val (.int p4), .val (.int (Int32.ofNat n)), .val (.int al), .val (.ref a1), .val (.ref o), .val (.int (p3 &&& (2147483647 : Int32))), .val (.int p4), .val (.long v10), .second, .unset, .unset] [])
    refine Go.st (fun _ k => XT.lload X61.here hx rfl (hb hby at_381) rfl k) ?_
    show Go p e below _ T61 (mkF m 383 #[.val (.int p0), .val (.long p1), .second, .val (.int p2), .val (.int p3), .val (.int p4), .val (.int (Int32.ofNat n)), .val (.int al), .val (.ref a1), .val (.ref o), .val (.int (p3 &&& (2147483647 : Int32))), .val (.int p4), .val (.long v10), .second, .unset, .unset] [(.long v10)])
    refine Go.st (fun _ k => XS.aload X61.here hx rfl (hb hby at_383) rfl rfl k) ?_
    show Go p e below _ T61 (mkF m 385 #[.val (.int p0), .val (.long p1), .second, .val (.int p2), .val (.int p3), .val (.int p4), .val (.int (Int32.ofNat n)), .val (.int al), .val (.ref a1), .val (.ref o), .val (.int (p3 &&& (2147483647 : Int32))), .val (.int p4), .val (.long v10), .second, .unset, .unset] [(.ref a1), (.long v10)])
    refine Go.st (fun _ k => XS.bipush X61.here hx rfl (hb hby at_385) k) ?_
    show Go p e below _ T61 (mkF m 387 #[.val (.int p0), .val (.long p1), .second, .val (.int p2), .val (.int p3), .val (.int p4), .val (.int (Int32.ofNat n)), .val (.int al), .val (.ref a1), .val (.ref o), .val (.int (p3 &&& (2147483647 : Int32))), .val (.int p4), .val (.long v10), .second, .unset, .unset] [(.int (11 : Int32)), (.ref a1), (.long v10)])
    refine Go.st (fun _ k => XS.iload X61.here hx rfl (hb hby at_387) rfl k) ?_
    show Go p e below _ T61 (mkF m 389 #[.val (.int p0), .val (.long p1), .second, .val (.int p2), .val (.int p3), .val (.int p4), .val (.int (Int32.ofNat n)), .val (.int al), .val (.ref a1), .val (.ref o), .val (.int (p3 &&& (2147483647 : Int32))), .val (.int p4), .val (.long v10), .second, .unset, .unset] [(.int (Int32.ofNat n)), (.int (11 : Int32)), (.ref a1), (.long v10)])
    show Go p e below _ T61 (mkF m 389 #[.val (.int p0), .val (.long p1), .second, .val (.int p2), .val (.int p3), .val (.int p4), .val (.int (Int32.ofNat n)), .val (.int al), .val (.ref a1), .val (.ref o), .val (.int (p3 &&& (2147483647 : Int32))), .val (.int p4), .val (.long v10), .second, .unset, .unset] [(.int (Int32.ofNat n)), (.int (Int32.ofNat 11)), (.ref a1), (.long v10)])
    refine Go.callS X61 hx (y := (⟨"com/example/federate/federate/WholeNumbersParsePinLaw", "acc", "(J[CII)J"⟩ : MethodName)) hown50 (mvT hZ50 (hw _ (List.mem_of_getElem? (i := 34) rfl))) (mvT hZ50 (hw _ (List.mem_of_getElem? (i := 35) rfl))) (mvT hZ50 (hw _ (List.mem_of_getElem? (i := 3) rfl))) (mvT hZ50 (hw _ (List.mem_of_getElem? (i := 36) rfl))) (by decide) (Ctr.back (W := 0) (rmAC l Z a0 hw v10 a1 ([c0, c1, c2, c3, c4, c5, c6, c7, c8, c9, c10, c11] : List Int32) 11 n c11 (by simp) (by omega) rfl T50.heap n0 A50) hZ50 (hw _ (List.mem_of_getElem? (i := 36) rfl)) (hw _ (List.mem_of_getElem? (i := 3) rfl)) (by (try dsimp only [room_1]); (try simp only [List.length_cons, List.length_nil]); omega) (by (try dsimp only [room_1]); (try simp only [List.length_cons, List.length_nil]); omega)) e61 (g := (mkF m 389 #[.val (.int p0), .val (.long p1), .second, .val (.int p2), .val (.int p3), .val (.int p4), .val (.int (Int32.ofNat n)), .val (.int al), .val (.ref a1), .val (.ref o), .val (.int (p3 &&& (2147483647 : Int32))), .val (.int p4), .val (.long v10), .second, .unset, .unset] [(.int (Int32.ofNat n)), (.int (Int32.ofNat 11)), (.ref a1), (.long v10)])) rfl (by rw [hml]; rfl) (argsL := [(.long v10), (.ref a1), (.int (Int32.ofNat 11)), (.int (Int32.ofNat n))]) (rest := []) (lenOf pd_48 rfl) rfl (by show 2 * 0 + _ ≤ _; exact Nat.le_of_eq rfl) (hb hby at_389) rfl (by (try dsimp only [room_1]); (try simp only [List.length_cons, List.length_nil]); omega) (by (try dsimp only [room_1]); (try simp only [List.length_cons, List.length_nil]); omega) ?_
    rintro _ T62 L62 X62 ⟨rfl, N62q, e62⟩
    show Go p e below _ T62 (mkF m 392 #[.val (.int p0), .val (.long p1), .second, .val (.int p2), .val (.int p3), .val (.int p4), .val (.int (Int32.ofNat n)), .val (.int al), .val (.ref a1), .val (.ref o), .val (.int (p3 &&& (2147483647 : Int32))), .val (.int p4), .val (.long v10), .second, .unset, .unset] [(.long (own_acc v10 c11 11 n))])
    have N62 := Fr.app N61 N62q
    obtain ⟨v11, hv11⟩ : ∃ v, v = own_acc v10 c11 11 n := ⟨_, rfl⟩
    rw [← hv11]
    show Go p e below _ T62 (mkF m 392 #[.val (.int p0), .val (.long p1), .second, .val (.int p2), .val (.int p3), .val (.int p4), .val (.int (Int32.ofNat n)), .val (.int al), .val (.ref a1), .val (.ref o), .val (.int (p3 &&& (2147483647 : Int32))), .val (.int p4), .val (.long v10), .second, .unset, .unset] [(.long v11)])
    refine Go.st (fun _ k => XT.lstore X62.here hx rfl (hb hby at_392) rfl (l' := #[.val (.int p0), .val (.long p1), .second, .val (.int p2), .val (.int p3), .val (.int p4), .val (.int (Int32.ofNat n)), .val (.int al), .val (.ref a1), .val (.ref o), .val (.int (p3 &&& (2147483647 : Int32))), .val (.int p4), .val (.long v11), .second, .unset, .unset]) rfl k) ?_
    show Go p e below _ T62 (mkF m 394 #[.val (.int p0), .val (.long p1), .second, .val (.int p2), .val (.int p3), .val (.int p4), .val (.int (Int32.ofNat n)), .val (.int al), .val (.ref a1), .val (.ref o), .val (.int (p3 &&& (2147483647 : Int32))), .val (.int p4), .val (.long v11), .second, .unset, .unset] [])
    refine Go.st (fun _ k => XS.iload X62.here hx rfl (hb hby at_394) rfl k) ?_
    show Go p e below _ T62 (mkF m 396 #[.val (.int p0), .val (.long p1), .second, .val (.int p2), .val (.int p3), .val (.int p4), .val (.int (Int32.ofNat n)), .val (.int al), .val (.ref a1), .val (.ref o), .val (.int (p3 &&& (2147483647 : Int32))), .val (.int p4), .val (.long v11), .second, .unset, .unset] [(.int (Int32.ofNat n))])
    have hV : v11 = (([c0, c1, c2, c3, c4, c5, c6, c7, c8, c9, c10, c11] : List Int32).take n).foldl own_step 0 := by rw [hv11, hv10, hv9, hv8, hv7, hv6, hv5, hv4, hv3, hv2, hv1, hv0]; exact own_acc12 _ _ _ _ _ _ _ _ _ _ _ _ n hn
    obtain ⟨hk1, hk2⟩ := own_pkey (mn := p3 &&& (2147483647 : Int32)) (mx := p4) hV (Nat.le_trans (List.length_take_le ..) hn)
    rw [own_tk_nil] at hk1 hk2
    clear hv0 hv1 hv2 hv3 hv4 hv5 hv6 hv7 hv8 hv9 hv10 hv11 hV
    have J2 : ∀ b : Int32, (b = 1 ∧ (0 < n ∧ ¬ v11 < 0 ∧ ¬ v11 < (p3 &&& (2147483647 : Int32)).toInt64 ∧ ¬ p4.toInt64 < v11)) ∨ (b = 0 ∧ ¬ (0 < n ∧ ¬ v11 < 0 ∧ ¬ v11 < (p3 &&& (2147483647 : Int32)).toInt64 ∧ ¬ p4.toInt64 < v11)) → Go p e below (EndW consts_1 s (Q0 n0) room_1.cells room_1.slots) T62 (mkF m 429 #[.val (.int p0), .val (.long p1), .second, .val (.int p2), .val (.int p3), .val (.int p4), .val (.int (Int32.ofNat n)), .val (.int al), .val (.ref a1), .val (.ref o), .val (.int (p3 &&& (2147483647 : Int32))), .val (.int p4), .val (.long v11), .second, .unset, .unset] [(.int b)]) := by
      intro b hb2
      show Go p e below _ T62 (mkF m 429 #[.val (.int p0), .val (.long p1), .second, .val (.int p2), .val (.int p3), .val (.int p4), .val (.int (Int32.ofNat n)), .val (.int al), .val (.ref a1), .val (.ref o), .val (.int (p3 &&& (2147483647 : Int32))), .val (.int p4), .val (.long v11), .second, .unset, .unset] [(.int b)])
      refine Go.st (fun _ k => XS.istore X62.here hx rfl (hb hby at_429) rfl (l' := #[.val (.int p0), .val (.long p1), .second, .val (.int p2), .val (.int p3), .val (.int p4), .val (.int (Int32.ofNat n)), .val (.int al), .val (.ref a1), .val (.ref o), .val (.int (p3 &&& (2147483647 : Int32))), .val (.int p4), .val (.long v11), .second, .val (.int b), .unset]) rfl k) ?_
      show Go p e below _ T62 (mkF m 431 #[.val (.int p0), .val (.long p1), .second, .val (.int p2), .val (.int p3), .val (.int p4), .val (.int (Int32.ofNat n)), .val (.int al), .val (.ref a1), .val (.ref o), .val (.int (p3 &&& (2147483647 : Int32))), .val (.int p4), .val (.long v11), .second, .val (.int b), .unset] [])
      refine Go.st (fun _ k => XS.aload X62.here hx rfl (hb hby at_431) rfl rfl k) ?_
      show Go p e below _ T62 (mkF m 433 #[.val (.int p0), .val (.long p1), .second, .val (.int p2), .val (.int p3), .val (.int p4), .val (.int (Int32.ofNat n)), .val (.int al), .val (.ref a1), .val (.ref o), .val (.int (p3 &&& (2147483647 : Int32))), .val (.int p4), .val (.long v11), .second, .val (.int b), .unset] [(.ref o)])
      refine Go.st (fun _ k => XS.iload X62.here hx rfl (hb hby at_433) rfl k) ?_
      show Go p e below _ T62 (mkF m 435 #[.val (.int p0), .val (.long p1), .second, .val (.int p2), .val (.int p3), .val (.int p4), .val (.int (Int32.ofNat n)), .val (.int al), .val (.ref a1), .val (.ref o), .val (.int (p3 &&& (2147483647 : Int32))), .val (.int p4), .val (.long v11), .second, .val (.int b), .unset] [(.int (p3 &&& (2147483647 : Int32))), (.ref o)])
      refine Go.st (fun _ k => XS.iload X62.here hx rfl (hb hby at_435) rfl k) ?_
      show Go p e below _ T62 (mkF m 437 #[.val (.int p0), .val (.long p1), .second, .val (.int p2), .val (.int p3), .val (.int p4), .val (.int (Int32.ofNat n)), .val (.int al), .val (.ref a1), .val (.ref o), .val (.int (p3 &&& (2147483647 : Int32))), .val (.int p4), .val (.long v11), .second, .val (.int b), .unset] [(.int p4), (.int (p3 &&& (2147483647 : Int32))), (.ref o)])
      have O50 : Old Z n0 T50.heap := X00.keep K050 all0
      have hbt : ∀ c ∈ (([c0, c1, c2, c3, c4, c5, c6, c7, c8, c9, c10, c11] : List Int32).take n), ¬ c < 0 ∧ ¬ (65535 : Int32) < c := fun c hc => B37.2 c (List.mem_of_mem_take hc)
      refine Go.callS X62 hx (y := (⟨"com/example/federate/federate/WholeNumbers", "parse", "(Ljava/lang/String;II)Ljava/util/OptionalInt;"⟩ : MethodName)) hown50 (mvT hZ50 (hw _ (List.mem_of_getElem? (i := 37) rfl))) (mvT hZ50 (hw _ (List.mem_of_getElem? (i := 38) rfl))) (mvT hZ50 (hw _ (List.mem_of_getElem? (i := 39) rfl))) (mvT hZ50 (hw _ (List.mem_of_getElem? (i := 40) rfl))) (by decide) (Ctr.back (W := 0) (rmPA l Z a0 hw z Su f hf SF em SE o t (([c0, c1, c2, c3, c4, c5, c6, c7, c8, c9, c10, c11] : List Int32).take n) (p3 &&& (2147483647 : Int32)) p4 (Nat.le_trans (List.length_take_le ..) (by omega)) hbt T50.heap n0 (by omega) O50 E50 C50 V50 B50 (Em.keep K050) (Fm.keep K050 nin0)) hZ50 (hw _ (List.mem_of_getElem? (i := 40) rfl)) (hw _ (List.mem_of_getElem? (i := 39) rfl)) (by (try dsimp only [room_1]); (try simp only [List.length_cons, List.length_nil]); omega) (by (try dsimp only [room_1]); (try simp only [List.length_cons, List.length_nil]); omega)) e62 (g := (mkF m 437 #[.val (.int p0), .val (.long p1), .second, .val (.int p2), .val (.int p3), .val (.int p4), .val (.int (Int32.ofNat n)), .val (.int al), .val (.ref a1), .val (.ref o), .val (.int (p3 &&& (2147483647 : Int32))), .val (.int p4), .val (.long v11), .second, .val (.int b), .unset] [(.int p4), (.int (p3 &&& (2147483647 : Int32))), (.ref o)])) rfl (by rw [hml]; rfl) (argsL := [(.ref o), (.int (p3 &&& (2147483647 : Int32))), (.int p4)]) (rest := []) (lenOf pd_49 rfl) rfl (by show 2 * 0 + _ ≤ _; exact Nat.le_of_eq rfl) (hb hby at_437) rfl (by (try dsimp only [room_1]); (try simp only [List.length_cons, List.length_nil]); omega) (by (try dsimp only [room_1]); (try simp only [List.length_cons, List.length_nil]); omega) ?_
      rintro _ T70 L70 X70 ⟨r, rfl, N70q, K70, E70, H70⟩
      show Go p e below _ T70 (mkF m 440 #[.val (.int p0), .val (.long p1), .second, .val (.int p2), .val (.int p3), .val (.int p4), .val (.int (Int32.ofNat n)), .val (.int al), .val (.ref a1), .val (.ref o), .val (.int (p3 &&& (2147483647 : Int32))), .val (.int p4), .val (.long v11), .second, .val (.int b), .unset] [(.ref r)])
      have N70 := Fr.app N62 N70q
      have U70 : Und (fun b => b < T50.heap.size) T50.heap T70.heap := (Und.refl _ _).keep K70 all0
      have k70 := K70.1
      refine Go.st (fun _ k => XS.astore X70.here hx rfl (hb hby at_440) rfl rfl (l' := #[.val (.int p0), .val (.long p1), .second, .val (.int p2), .val (.int p3), .val (.int p4), .val (.int (Int32.ofNat n)), .val (.int al), .val (.ref a1), .val (.ref o), .val (.int (p3 &&& (2147483647 : Int32))), .val (.int p4), .val (.long v11), .second, .val (.int b), .val (.ref r)]) rfl k) ?_
      show Go p e below _ T70 (mkF m 442 #[.val (.int p0), .val (.long p1), .second, .val (.int p2), .val (.int p3), .val (.int p4), .val (.int (Int32.ofNat n)), .val (.int al), .val (.ref a1), .val (.ref o), .val (.int (p3 &&& (2147483647 : Int32))), .val (.int p4), .val (.long v11), .second, .val (.int b), .val (.ref r)] [])
      refine Go.st (fun _ k => XS.iload X70.here hx rfl (hb hby at_442) rfl k) ?_
      show Go p e below _ T70 (mkF m 444 #[.val (.int p0), .val (.long p1), .second, .val (.int p2), .val (.int p3), .val (.int p4), .val (.int (Int32.ofNat n)), .val (.int al), .val (.ref a1), .val (.ref o), .val (.int (p3 &&& (2147483647 : Int32))), .val (.int p4), .val (.long v11), .second, .val (.int b), .val (.ref r)] [(.int b)])
      rcases hb2 with ⟨rfl, hE⟩ | ⟨rfl, hE⟩
      · skip
        show Go p e below _ T70 (mkF m 444 #[.val (.int p0), .val (.long p1), .second, .val (.int p2), .val (.int p3), .val (.int p4), .val (.int (Int32.ofNat n)), .val (.int al), .val (.ref a1), .val (.ref o), .val (.int (p3 &&& (2147483647 : Int32))), .val (.int p4), .val (.long v11), .second, .val (.int (1 : Int32)), .val (.ref r)] [(.int (1 : Int32))])
        obtain ⟨g1, g2⟩ := hk1 hE
        refine Go.st (fun _ k => XS.ifYes X70.here hx rfl (pc0 := 444) (pc' := 461) rfl (hb hby at_444) rfl (XT.i0_ne_t (by decide)) (by decide) (by decide) k) ?_
        show Go p e below _ T70 (mkF m 461 #[.val (.int p0), .val (.long p1), .second, .val (.int p2), .val (.int p3), .val (.int p4), .val (.int (Int32.ofNat n)), .val (.int al), .val (.ref a1), .val (.ref o), .val (.int (p3 &&& (2147483647 : Int32))), .val (.int p4), .val (.long v11), .second, .val (.int (1 : Int32)), .val (.ref r)] [])
        refine Go.st (fun _ k => XS.aload X70.here hx rfl (hb hby at_461) rfl rfl k) ?_
        show Go p e below _ T70 (mkF m 463 #[.val (.int p0), .val (.long p1), .second, .val (.int p2), .val (.int p3), .val (.int p4), .val (.int (Int32.ofNat n)), .val (.int al), .val (.ref a1), .val (.ref o), .val (.int (p3 &&& (2147483647 : Int32))), .val (.int p4), .val (.long v11), .second, .val (.int (1 : Int32)), .val (.ref r)] [(.ref r)])
        rcases H70 with ⟨g3, -⟩ | ⟨y, g3, F70, G70⟩
        · rw [g1] at g3; cases g3
        obtain rfl := Option.some.inj (g1.symm.trans g3)
        refine Go.callV X70 hx hZ50 (C := "java/util/OptionalInt") (y := (⟨"java/util/OptionalInt", "isPresent", "()Z"⟩ : MethodName)) (z := (⟨"java/util/OptionalInt", "isPresent", "()Z"⟩ : MethodName)) hown50 (mvT hZ50 (hw _ (List.mem_of_getElem? (i := 51) rfl))) (mvT hZ50 (hw _ (List.mem_of_getElem? (i := 52) rfl))) (mvT hZ50 (hw _ (List.mem_of_getElem? (i := 54) rfl))) (mvT hZ50 (hw _ (List.mem_of_getElem? (i := 53) rfl))) (by decide) (notFace_of_selects (args := #[]) (mvT hZ50 (hw _ (List.mem_of_getElem? (i := 54) rfl)))) (Ctr.back (W := 0) (rmIP l Z a0 hw r 1 (Or.inr rfl) T70.heap n0 F70) hZ50 (hw _ (List.mem_of_getElem? (i := 55) rfl)) (hw _ (List.mem_of_getElem? (i := 48) rfl)) (by (try dsimp only [room_1]); (try simp only [List.length_cons, List.length_nil]); omega) (by (try dsimp only [room_1]); (try simp only [List.length_cons, List.length_nil]); omega)) rfl E70 (g := (mkF m 463 #[.val (.int p0), .val (.long p1), .second, .val (.int p2), .val (.int p3), .val (.int p4), .val (.int (Int32.ofNat n)), .val (.int al), .val (.ref a1), .val (.ref o), .val (.int (p3 &&& (2147483647 : Int32))), .val (.int p4), .val (.long v11), .second, .val (.int (1 : Int32)), .val (.ref r)] [(.ref r)])) rfl (by rw [hml]; rfl) (argsL := []) (rest := []) (lenOf pd_31 rfl) rfl (by show 2 * 0 + _ ≤ _; exact Nat.le_of_eq rfl) (hb hby at_463) rfl (by (try dsimp only [room_1]); (try simp only [List.length_cons, List.length_nil]); omega) (by (try dsimp only [room_1]); (try simp only [List.length_cons, List.length_nil]); omega) ?_
        rintro _ T71 L71 X71 ⟨rfl, N71, e71⟩
        show Go p e below _ T71 (mkF m 466 #[.val (.int p0), .val (.long p1), .second, .val (.int p2), .val (.int p3), .val (.int p4), .val (.int (Int32.ofNat n)), .val (.int al), .val (.ref a1), .val (.ref o), .val (.int (p3 &&& (2147483647 : Int32))), .val (.int p4), .val (.long v11), .second, .val (.int (1 : Int32)), .val (.ref r)] [(.int (1 : Int32))])
        refine Go.st (fun _ k => XS.ifNo X71.here hx rfl (hb hby at_466) rfl (XT.i0_eq_f (by decide)) k) ?_
        show Go p e below _ T71 (mkF m 469 #[.val (.int p0), .val (.long p1), .second, .val (.int p2), .val (.int p3), .val (.int p4), .val (.int (Int32.ofNat n)), .val (.int al), .val (.ref a1), .val (.ref o), .val (.int (p3 &&& (2147483647 : Int32))), .val (.int p4), .val (.long v11), .second, .val (.int (1 : Int32)), .val (.ref r)] [])
        refine Go.st (fun _ k => XS.aload X71.here hx rfl (hb hby at_469) rfl rfl k) ?_
        show Go p e below _ T71 (mkF m 471 #[.val (.int p0), .val (.long p1), .second, .val (.int p2), .val (.int p3), .val (.int p4), .val (.int (Int32.ofNat n)), .val (.int al), .val (.ref a1), .val (.ref o), .val (.int (p3 &&& (2147483647 : Int32))), .val (.int p4), .val (.long v11), .second, .val (.int (1 : Int32)), .val (.ref r)] [(.ref r)])
        refine Go.callV X71 hx hZ50 (C := "java/util/OptionalInt") (y := (⟨"java/util/OptionalInt", "getAsInt", "()I"⟩ : MethodName)) (z := (⟨"java/util/OptionalInt", "getAsInt", "()I"⟩ : MethodName)) hown50 (mvT hZ50 (hw _ (List.mem_of_getElem? (i := 146) rfl))) (mvT hZ50 (hw _ (List.mem_of_getElem? (i := 147) rfl))) (mvT hZ50 (hw _ (List.mem_of_getElem? (i := 149) rfl))) (mvT hZ50 (hw _ (List.mem_of_getElem? (i := 148) rfl))) (by decide) (notFace_of_selects (args := #[]) (mvT hZ50 (hw _ (List.mem_of_getElem? (i := 149) rfl)))) (Ctr.back (W := 0) (rmGI l Z a0 hw r v11.toInt32 T70.heap n0 F70 G70) hZ50 (hw _ (List.mem_of_getElem? (i := 150) rfl)) (hw _ (List.mem_of_getElem? (i := 48) rfl)) (by (try dsimp only [room_1]); (try simp only [List.length_cons, List.length_nil]); omega) (by (try dsimp only [room_1]); (try simp only [List.length_cons, List.length_nil]); omega)) e71 E70 (g := (mkF m 471 #[.val (.int p0), .val (.long p1), .second, .val (.int p2), .val (.int p3), .val (.int p4), .val (.int (Int32.ofNat n)), .val (.int al), .val (.ref a1), .val (.ref o), .val (.int (p3 &&& (2147483647 : Int32))), .val (.int p4), .val (.long v11), .second, .val (.int (1 : Int32)), .val (.ref r)] [(.ref r)])) rfl (by rw [hml]; rfl) (argsL := []) (rest := []) (lenOf pd_38 rfl) rfl (by show 2 * 0 + _ ≤ _; exact Nat.le_of_eq rfl) (hb hby at_471) rfl (by (try dsimp only [room_1]); (try simp only [List.length_cons, List.length_nil]); omega) (by (try dsimp only [room_1]); (try simp only [List.length_cons, List.length_nil]); omega) ?_
        rintro _ T72 L72 X72 ⟨rfl, N72, e72⟩
        show Go p e below _ T72 (mkF m 474 #[.val (.int p0), .val (.long p1), .second, .val (.int p2), .val (.int p3), .val (.int p4), .val (.int (Int32.ofNat n)), .val (.int al), .val (.ref a1), .val (.ref o), .val (.int (p3 &&& (2147483647 : Int32))), .val (.int p4), .val (.long v11), .second, .val (.int (1 : Int32)), .val (.ref r)] [(.int v11.toInt32)])
        refine Go.st (fun _ k => XT.i2l X72.here hx rfl (hb hby at_474) rfl k) ?_
        show Go p e below _ T72 (mkF m 475 #[.val (.int p0), .val (.long p1), .second, .val (.int p2), .val (.int p3), .val (.int p4), .val (.int (Int32.ofNat n)), .val (.int al), .val (.ref a1), .val (.ref o), .val (.int (p3 &&& (2147483647 : Int32))), .val (.int p4), .val (.long v11), .second, .val (.int (1 : Int32)), .val (.ref r)] [(.long v11.toInt32.toInt64)])
        refine Go.st (fun _ k => XT.lload X72.here hx rfl (hb hby at_475) rfl k) ?_
        show Go p e below _ T72 (mkF m 477 #[.val (.int p0), .val (.long p1), .second, .val (.int p2), .val (.int p3), .val (.int p4), .val (.int (Int32.ofNat n)), .val (.int al), .val (.ref a1), .val (.ref o), .val (.int (p3 &&& (2147483647 : Int32))), .val (.int p4), .val (.long v11), .second, .val (.int (1 : Int32)), .val (.ref r)] [(.long v11), (.long v11.toInt32.toInt64)])
        refine Go.st (fun _ k => XT.lcmp X72.here hx rfl (hb hby at_477) rfl k) ?_
        show Go p e below _ T72 (mkF m 478 #[.val (.int p0), .val (.long p1), .second, .val (.int p2), .val (.int p3), .val (.int p4), .val (.int (Int32.ofNat n)), .val (.int al), .val (.ref a1), .val (.ref o), .val (.int (p3 &&& (2147483647 : Int32))), .val (.int p4), .val (.long v11), .second, .val (.int (1 : Int32)), .val (.ref r)] [(.int (XT.cmpL v11.toInt32.toInt64 v11))])
        refine Go.st (fun _ k => XS.ifNo X72.here hx rfl (hb hby at_478) rfl (XT.ll_ne_f g2) k) ?_
        show Go p e below _ T72 (mkF m 481 #[.val (.int p0), .val (.long p1), .second, .val (.int p2), .val (.int p3), .val (.int p4), .val (.int (Int32.ofNat n)), .val (.int al), .val (.ref a1), .val (.ref o), .val (.int (p3 &&& (2147483647 : Int32))), .val (.int p4), .val (.long v11), .second, .val (.int (1 : Int32)), .val (.ref r)] [])
        refine Go.st (fun _ k => XS.iconst X72.here hx rfl (hb hby at_481) k) ?_
        show Go p e below _ T72 (mkF m 482 #[.val (.int p0), .val (.long p1), .second, .val (.int p2), .val (.int p3), .val (.int p4), .val (.int (Int32.ofNat n)), .val (.int al), .val (.ref a1), .val (.ref o), .val (.int (p3 &&& (2147483647 : Int32))), .val (.int p4), .val (.long v11), .second, .val (.int (1 : Int32)), .val (.ref r)] [(.int (1 : Int32))])
        refine Go.st (fun _ k => XS.goto X72.here hx rfl (pc0 := 482) (pc' := 486) rfl (hb hby at_482) (by decide) (by decide) k) ?_
        show Go p e below _ T72 (mkF m 486 #[.val (.int p0), .val (.long p1), .second, .val (.int p2), .val (.int p3), .val (.int p4), .val (.int (Int32.ofNat n)), .val (.int al), .val (.ref a1), .val (.ref o), .val (.int (p3 &&& (2147483647 : Int32))), .val (.int p4), .val (.long v11), .second, .val (.int (1 : Int32)), .val (.ref r)] [(.int (1 : Int32))])
        exact Go.retBW X72 hx hB50 (by rw [e72]; exact k70) hC50 (by rw [e72]; exact U70) hret hlk (Or.inl rfl) (hb hby at_486) ⟨rfl, Fr.app (Fr.app N70 N71) N72⟩ (by (try dsimp only [room_1]); (try simp only [List.length_cons, List.length_nil]); omega) (by (try dsimp only [room_1]); (try simp only [List.length_cons, List.length_nil]); omega)
      · skip
        show Go p e below _ T70 (mkF m 444 #[.val (.int p0), .val (.long p1), .second, .val (.int p2), .val (.int p3), .val (.int p4), .val (.int (Int32.ofNat n)), .val (.int al), .val (.ref a1), .val (.ref o), .val (.int (p3 &&& (2147483647 : Int32))), .val (.int p4), .val (.long v11), .second, .val (.int (0 : Int32)), .val (.ref r)] [(.int (0 : Int32))])
        have g1 := hk2 hE
        refine Go.st (fun _ k => XS.ifNo X70.here hx rfl (hb hby at_444) rfl (XT.i0_ne_f rfl) k) ?_
        show Go p e below _ T70 (mkF m 447 #[.val (.int p0), .val (.long p1), .second, .val (.int p2), .val (.int p3), .val (.int p4), .val (.int (Int32.ofNat n)), .val (.int al), .val (.ref a1), .val (.ref o), .val (.int (p3 &&& (2147483647 : Int32))), .val (.int p4), .val (.long v11), .second, .val (.int (0 : Int32)), .val (.ref r)] [])
        refine Go.st (fun _ k => XS.aload X70.here hx rfl (hb hby at_447) rfl rfl k) ?_
        show Go p e below _ T70 (mkF m 449 #[.val (.int p0), .val (.long p1), .second, .val (.int p2), .val (.int p3), .val (.int p4), .val (.int (Int32.ofNat n)), .val (.int al), .val (.ref a1), .val (.ref o), .val (.int (p3 &&& (2147483647 : Int32))), .val (.int p4), .val (.long v11), .second, .val (.int (0 : Int32)), .val (.ref r)] [(.ref r)])
        rcases H70 with ⟨-, F70⟩ | ⟨y, g3, -⟩
        rotate_left
        · rw [g1] at g3; cases g3
        refine Go.callV X70 hx hZ50 (C := "java/util/OptionalInt") (y := (⟨"java/util/OptionalInt", "isPresent", "()Z"⟩ : MethodName)) (z := (⟨"java/util/OptionalInt", "isPresent", "()Z"⟩ : MethodName)) hown50 (mvT hZ50 (hw _ (List.mem_of_getElem? (i := 51) rfl))) (mvT hZ50 (hw _ (List.mem_of_getElem? (i := 52) rfl))) (mvT hZ50 (hw _ (List.mem_of_getElem? (i := 54) rfl))) (mvT hZ50 (hw _ (List.mem_of_getElem? (i := 53) rfl))) (by decide) (notFace_of_selects (args := #[]) (mvT hZ50 (hw _ (List.mem_of_getElem? (i := 54) rfl)))) (Ctr.back (W := 0) (rmIP l Z a0 hw r 0 (Or.inl rfl) T70.heap n0 F70) hZ50 (hw _ (List.mem_of_getElem? (i := 55) rfl)) (hw _ (List.mem_of_getElem? (i := 48) rfl)) (by (try dsimp only [room_1]); (try simp only [List.length_cons, List.length_nil]); omega) (by (try dsimp only [room_1]); (try simp only [List.length_cons, List.length_nil]); omega)) rfl E70 (g := (mkF m 449 #[.val (.int p0), .val (.long p1), .second, .val (.int p2), .val (.int p3), .val (.int p4), .val (.int (Int32.ofNat n)), .val (.int al), .val (.ref a1), .val (.ref o), .val (.int (p3 &&& (2147483647 : Int32))), .val (.int p4), .val (.long v11), .second, .val (.int (0 : Int32)), .val (.ref r)] [(.ref r)])) rfl (by rw [hml]; rfl) (argsL := []) (rest := []) (lenOf pd_31 rfl) rfl (by show 2 * 0 + _ ≤ _; exact Nat.le_of_eq rfl) (hb hby at_449) rfl (by (try dsimp only [room_1]); (try simp only [List.length_cons, List.length_nil]); omega) (by (try dsimp only [room_1]); (try simp only [List.length_cons, List.length_nil]); omega) ?_
        rintro _ T71 L71 X71 ⟨rfl, N71, e71⟩
        show Go p e below _ T71 (mkF m 452 #[.val (.int p0), .val (.long p1), .second, .val (.int p2), .val (.int p3), .val (.int p4), .val (.int (Int32.ofNat n)), .val (.int al), .val (.ref a1), .val (.ref o), .val (.int (p3 &&& (2147483647 : Int32))), .val (.int p4), .val (.long v11), .second, .val (.int (0 : Int32)), .val (.ref r)] [(.int (0 : Int32))])
        refine Go.st (fun _ k => XS.ifNo X71.here hx rfl (hb hby at_452) rfl (XT.i0_ne_f rfl) k) ?_
        show Go p e below _ T71 (mkF m 455 #[.val (.int p0), .val (.long p1), .second, .val (.int p2), .val (.int p3), .val (.int p4), .val (.int (Int32.ofNat n)), .val (.int al), .val (.ref a1), .val (.ref o), .val (.int (p3 &&& (2147483647 : Int32))), .val (.int p4), .val (.long v11), .second, .val (.int (0 : Int32)), .val (.ref r)] [])
        refine Go.st (fun _ k => XS.iconst X71.here hx rfl (hb hby at_455) k) ?_
        show Go p e below _ T71 (mkF m 456 #[.val (.int p0), .val (.long p1), .second, .val (.int p2), .val (.int p3), .val (.int p4), .val (.int (Int32.ofNat n)), .val (.int al), .val (.ref a1), .val (.ref o), .val (.int (p3 &&& (2147483647 : Int32))), .val (.int p4), .val (.long v11), .second, .val (.int (0 : Int32)), .val (.ref r)] [(.int (1 : Int32))])
        refine Go.st (fun _ k => XS.goto X71.here hx rfl (pc0 := 456) (pc' := 460) rfl (hb hby at_456) (by decide) (by decide) k) ?_
        show Go p e below _ T71 (mkF m 460 #[.val (.int p0), .val (.long p1), .second, .val (.int p2), .val (.int p3), .val (.int p4), .val (.int (Int32.ofNat n)), .val (.int al), .val (.ref a1), .val (.ref o), .val (.int (p3 &&& (2147483647 : Int32))), .val (.int p4), .val (.long v11), .second, .val (.int (0 : Int32)), .val (.ref r)] [(.int (1 : Int32))])
        exact Go.retBW X71 hx hB50 (by rw [e71]; exact k70) hC50 (by rw [e71]; exact U70) hret hlk (Or.inl rfl) (hb hby at_460) ⟨rfl, Fr.app N70 N71⟩ (by (try dsimp only [room_1]); (try simp only [List.length_cons, List.length_nil]); omega) (by (try dsimp only [room_1]); (try simp only [List.length_cons, List.length_nil]); omega)
    show Go p e below _ T62 (mkF m 396 #[.val (.int p0), .val (.long p1), .second, .val (.int p2), .val (.int p3), .val (.int p4), .val (.int (Int32.ofNat n)), .val (.int al), .val (.ref a1), .val (.ref o), .val (.int (p3 &&& (2147483647 : Int32))), .val (.int p4), .val (.long v11), .second, .unset, .unset] [(.int (Int32.ofNat n))])
    rcases Classical.em (0 < n) with q0 | q0
    rotate_left
    · skip
      refine Go.st (fun _ k => XS.ifYes X62.here hx rfl (pc0 := 396) (pc' := 428) rfl (hb hby at_396) rfl (XT.i0_le_t (by rw [show n = 0 by omega]; decide)) (by decide) (by decide) k) ?_
      show Go p e below _ T62 (mkF m 428 #[.val (.int p0), .val (.long p1), .second, .val (.int p2), .val (.int p3), .val (.int p4), .val (.int (Int32.ofNat n)), .val (.int al), .val (.ref a1), .val (.ref o), .val (.int (p3 &&& (2147483647 : Int32))), .val (.int p4), .val (.long v11), .second, .unset, .unset] [])
      refine Go.st (fun _ k => XS.iconst X62.here hx rfl (hb hby at_428) k) ?_
      show Go p e below _ T62 (mkF m 429 #[.val (.int p0), .val (.long p1), .second, .val (.int p2), .val (.int p3), .val (.int p4), .val (.int (Int32.ofNat n)), .val (.int al), .val (.ref a1), .val (.ref o), .val (.int (p3 &&& (2147483647 : Int32))), .val (.int p4), .val (.long v11), .second, .unset, .unset] [(.int (0 : Int32))])
      exact J2 _ (Or.inr ⟨rfl, fun z => q0 z.1⟩)
    refine Go.st (fun _ k => XS.ifNo X62.here hx rfl (hb hby at_396) rfl (XT.i0_le_f (own_ofNat_lt (i := 0) q0 (by omega))) k) ?_
    show Go p e below _ T62 (mkF m 399 #[.val (.int p0), .val (.long p1), .second, .val (.int p2), .val (.int p3), .val (.int p4), .val (.int (Int32.ofNat n)), .val (.int al), .val (.ref a1), .val (.ref o), .val (.int (p3 &&& (2147483647 : Int32))), .val (.int p4), .val (.long v11), .second, .unset, .unset] [])
    refine Go.st (fun _ k => XT.lload X62.here hx rfl (hb hby at_399) rfl k) ?_
    show Go p e below _ T62 (mkF m 401 #[.val (.int p0), .val (.long p1), .second, .val (.int p2), .val (.int p3), .val (.int p4), .val (.int (Int32.ofNat n)), .val (.int al), .val (.ref a1), .val (.ref o), .val (.int (p3 &&& (2147483647 : Int32))), .val (.int p4), .val (.long v11), .second, .unset, .unset] [(.long v11)])
    refine Go.st (fun _ k => XT.lconst X62.here hx rfl (hb hby at_401) k) ?_
    show Go p e below _ T62 (mkF m 402 #[.val (.int p0), .val (.long p1), .second, .val (.int p2), .val (.int p3), .val (.int p4), .val (.int (Int32.ofNat n)), .val (.int al), .val (.ref a1), .val (.ref o), .val (.int (p3 &&& (2147483647 : Int32))), .val (.int p4), .val (.long v11), .second, .unset, .unset] [(.long (0 : Int64)), (.long v11)])
    refine Go.st (fun _ k => XT.lcmp X62.here hx rfl (hb hby at_402) rfl k) ?_
    show Go p e below _ T62 (mkF m 403 #[.val (.int p0), .val (.long p1), .second, .val (.int p2), .val (.int p3), .val (.int p4), .val (.int (Int32.ofNat n)), .val (.int al), .val (.ref a1), .val (.ref o), .val (.int (p3 &&& (2147483647 : Int32))), .val (.int p4), .val (.long v11), .second, .unset, .unset] [(.int (XT.cmpL v11 (0 : Int64)))])
    rcases Classical.em (v11 < 0) with q1 | q1
    · skip
      refine Go.st (fun _ k => XS.ifYes X62.here hx rfl (pc0 := 403) (pc' := 428) rfl (hb hby at_403) rfl (XT.ll_lt_t q1) (by decide) (by decide) k) ?_
      show Go p e below _ T62 (mkF m 428 #[.val (.int p0), .val (.long p1), .second, .val (.int p2), .val (.int p3), .val (.int p4), .val (.int (Int32.ofNat n)), .val (.int al), .val (.ref a1), .val (.ref o), .val (.int (p3 &&& (2147483647 : Int32))), .val (.int p4), .val (.long v11), .second, .unset, .unset] [])
      refine Go.st (fun _ k => XS.iconst X62.here hx rfl (hb hby at_428) k) ?_
      show Go p e below _ T62 (mkF m 429 #[.val (.int p0), .val (.long p1), .second, .val (.int p2), .val (.int p3), .val (.int p4), .val (.int (Int32.ofNat n)), .val (.int al), .val (.ref a1), .val (.ref o), .val (.int (p3 &&& (2147483647 : Int32))), .val (.int p4), .val (.long v11), .second, .unset, .unset] [(.int (0 : Int32))])
      exact J2 _ (Or.inr ⟨rfl, fun z => z.2.1 q1⟩)
    refine Go.st (fun _ k => XS.ifNo X62.here hx rfl (hb hby at_403) rfl (XT.ll_lt_f q1) k) ?_
    show Go p e below _ T62 (mkF m 406 #[.val (.int p0), .val (.long p1), .second, .val (.int p2), .val (.int p3), .val (.int p4), .val (.int (Int32.ofNat n)), .val (.int al), .val (.ref a1), .val (.ref o), .val (.int (p3 &&& (2147483647 : Int32))), .val (.int p4), .val (.long v11), .second, .unset, .unset] [])
    refine Go.st (fun _ k => XT.lload X62.here hx rfl (hb hby at_406) rfl k) ?_
    show Go p e below _ T62 (mkF m 408 #[.val (.int p0), .val (.long p1), .second, .val (.int p2), .val (.int p3), .val (.int p4), .val (.int (Int32.ofNat n)), .val (.int al), .val (.ref a1), .val (.ref o), .val (.int (p3 &&& (2147483647 : Int32))), .val (.int p4), .val (.long v11), .second, .unset, .unset] [(.long v11)])
    refine Go.st (fun _ k => XS.iload X62.here hx rfl (hb hby at_408) rfl k) ?_
    show Go p e below _ T62 (mkF m 410 #[.val (.int p0), .val (.long p1), .second, .val (.int p2), .val (.int p3), .val (.int p4), .val (.int (Int32.ofNat n)), .val (.int al), .val (.ref a1), .val (.ref o), .val (.int (p3 &&& (2147483647 : Int32))), .val (.int p4), .val (.long v11), .second, .unset, .unset] [(.int (p3 &&& (2147483647 : Int32))), (.long v11)])
    refine Go.st (fun _ k => XT.i2l X62.here hx rfl (hb hby at_410) rfl k) ?_
    show Go p e below _ T62 (mkF m 411 #[.val (.int p0), .val (.long p1), .second, .val (.int p2), .val (.int p3), .val (.int p4), .val (.int (Int32.ofNat n)), .val (.int al), .val (.ref a1), .val (.ref o), .val (.int (p3 &&& (2147483647 : Int32))), .val (.int p4), .val (.long v11), .second, .unset, .unset] [(.long ((p3 &&& (2147483647 : Int32)).toInt64)), (.long v11)])
    refine Go.st (fun _ k => XT.lcmp X62.here hx rfl (hb hby at_411) rfl k) ?_
    show Go p e below _ T62 (mkF m 412 #[.val (.int p0), .val (.long p1), .second, .val (.int p2), .val (.int p3), .val (.int p4), .val (.int (Int32.ofNat n)), .val (.int al), .val (.ref a1), .val (.ref o), .val (.int (p3 &&& (2147483647 : Int32))), .val (.int p4), .val (.long v11), .second, .unset, .unset] [(.int (XT.cmpL v11 ((p3 &&& (2147483647 : Int32)).toInt64)))])
    rcases Classical.em (v11 < (p3 &&& (2147483647 : Int32)).toInt64) with q2 | q2
    · skip
      refine Go.st (fun _ k => XS.ifYes X62.here hx rfl (pc0 := 412) (pc' := 428) rfl (hb hby at_412) rfl (XT.ll_lt_t q2) (by decide) (by decide) k) ?_
      show Go p e below _ T62 (mkF m 428 #[.val (.int p0), .val (.long p1), .second, .val (.int p2), .val (.int p3), .val (.int p4), .val (.int (Int32.ofNat n)), .val (.int al), .val (.ref a1), .val (.ref o), .val (.int (p3 &&& (2147483647 : Int32))), .val (.int p4), .val (.long v11), .second, .unset, .unset] [])
      refine Go.st (fun _ k => XS.iconst X62.here hx rfl (hb hby at_428) k) ?_
      show Go p e below _ T62 (mkF m 429 #[.val (.int p0), .val (.long p1), .second, .val (.int p2), .val (.int p3), .val (.int p4), .val (.int (Int32.ofNat n)), .val (.int al), .val (.ref a1), .val (.ref o), .val (.int (p3 &&& (2147483647 : Int32))), .val (.int p4), .val (.long v11), .second, .unset, .unset] [(.int (0 : Int32))])
      exact J2 _ (Or.inr ⟨rfl, fun z => z.2.2.1 q2⟩)
    refine Go.st (fun _ k => XS.ifNo X62.here hx rfl (hb hby at_412) rfl (XT.ll_lt_f q2) k) ?_
    show Go p e below _ T62 (mkF m 415 #[.val (.int p0), .val (.long p1), .second, .val (.int p2), .val (.int p3), .val (.int p4), .val (.int (Int32.ofNat n)), .val (.int al), .val (.ref a1), .val (.ref o), .val (.int (p3 &&& (2147483647 : Int32))), .val (.int p4), .val (.long v11), .second, .unset, .unset] [])
    refine Go.st (fun _ k => XT.lload X62.here hx rfl (hb hby at_415) rfl k) ?_
    show Go p e below _ T62 (mkF m 417 #[.val (.int p0), .val (.long p1), .second, .val (.int p2), .val (.int p3), .val (.int p4), .val (.int (Int32.ofNat n)), .val (.int al), .val (.ref a1), .val (.ref o), .val (.int (p3 &&& (2147483647 : Int32))), .val (.int p4), .val (.long v11), .second, .unset, .unset] [(.long v11)])
    refine Go.st (fun _ k => XS.iload X62.here hx rfl (hb hby at_417) rfl k) ?_
    show Go p e below _ T62 (mkF m 419 #[.val (.int p0), .val (.long p1), .second, .val (.int p2), .val (.int p3), .val (.int p4), .val (.int (Int32.ofNat n)), .val (.int al), .val (.ref a1), .val (.ref o), .val (.int (p3 &&& (2147483647 : Int32))), .val (.int p4), .val (.long v11), .second, .unset, .unset] [(.int p4), (.long v11)])
    refine Go.st (fun _ k => XT.i2l X62.here hx rfl (hb hby at_419) rfl k) ?_
    show Go p e below _ T62 (mkF m 420 #[.val (.int p0), .val (.long p1), .second, .val (.int p2), .val (.int p3), .val (.int p4), .val (.int (Int32.ofNat n)), .val (.int al), .val (.ref a1), .val (.ref o), .val (.int (p3 &&& (2147483647 : Int32))), .val (.int p4), .val (.long v11), .second, .unset, .unset] [(.long p4.toInt64), (.long v11)])
    refine Go.st (fun _ k => XT.lcmp X62.here hx rfl (hb hby at_420) rfl k) ?_
    show Go p e below _ T62 (mkF m 421 #[.val (.int p0), .val (.long p1), .second, .val (.int p2), .val (.int p3), .val (.int p4), .val (.int (Int32.ofNat n)), .val (.int al), .val (.ref a1), .val (.ref o), .val (.int (p3 &&& (2147483647 : Int32))), .val (.int p4), .val (.long v11), .second, .unset, .unset] [(.int (XT.cmpL v11 p4.toInt64))])
    rcases Classical.em (p4.toInt64 < v11) with q3 | q3
    · skip
      refine Go.st (fun _ k => XS.ifYes X62.here hx rfl (pc0 := 421) (pc' := 428) rfl (hb hby at_421) rfl (XT.ll_gt_t q3) (by decide) (by decide) k) ?_
      show Go p e below _ T62 (mkF m 428 #[.val (.int p0), .val (.long p1), .second, .val (.int p2), .val (.int p3), .val (.int p4), .val (.int (Int32.ofNat n)), .val (.int al), .val (.ref a1), .val (.ref o), .val (.int (p3 &&& (2147483647 : Int32))), .val (.int p4), .val (.long v11), .second, .unset, .unset] [])
      refine Go.st (fun _ k => XS.iconst X62.here hx rfl (hb hby at_428) k) ?_
      show Go p e below _ T62 (mkF m 429 #[.val (.int p0), .val (.long p1), .second, .val (.int p2), .val (.int p3), .val (.int p4), .val (.int (Int32.ofNat n)), .val (.int al), .val (.ref a1), .val (.ref o), .val (.int (p3 &&& (2147483647 : Int32))), .val (.int p4), .val (.long v11), .second, .unset, .unset] [(.int (0 : Int32))])
      exact J2 _ (Or.inr ⟨rfl, fun z => z.2.2.2 q3⟩)
    refine Go.st (fun _ k => XS.ifNo X62.here hx rfl (hb hby at_421) rfl (XT.ll_gt_f q3) k) ?_
    show Go p e below _ T62 (mkF m 424 #[.val (.int p0), .val (.long p1), .second, .val (.int p2), .val (.int p3), .val (.int p4), .val (.int (Int32.ofNat n)), .val (.int al), .val (.ref a1), .val (.ref o), .val (.int (p3 &&& (2147483647 : Int32))), .val (.int p4), .val (.long v11), .second, .unset, .unset] [])
    refine Go.st (fun _ k => XS.iconst X62.here hx rfl (hb hby at_424) k) ?_
    show Go p e below _ T62 (mkF m 425 #[.val (.int p0), .val (.long p1), .second, .val (.int p2), .val (.int p3), .val (.int p4), .val (.int (Int32.ofNat n)), .val (.int al), .val (.ref a1), .val (.ref o), .val (.int (p3 &&& (2147483647 : Int32))), .val (.int p4), .val (.long v11), .second, .unset, .unset] [(.int (1 : Int32))])
    refine Go.st (fun _ k => XS.goto X62.here hx rfl (pc0 := 425) (pc' := 429) rfl (hb hby at_425) (by decide) (by decide) k) ?_
    show Go p e below _ T62 (mkF m 429 #[.val (.int p0), .val (.long p1), .second, .val (.int p2), .val (.int p3), .val (.int p4), .val (.int (Int32.ofNat n)), .val (.int al), .val (.ref a1), .val (.ref o), .val (.int (p3 &&& (2147483647 : Int32))), .val (.int p4), .val (.long v11), .second, .unset, .unset] [(.int (1 : Int32))])
    exact J2 _ (Or.inl ⟨rfl, q0, q1, q2, q3⟩)
  by_cases al0 : p0 &&& (32 : Int32) = 0
  · skip
    refine Go.st (fun _ k => XS.ifYes X0.here hx rfl (pc0 := 13) (pc' := 20) rfl (hb hby at_13) rfl (XT.i0_eq_t al0) (by decide) (by decide) k) ?_
    show Go p e below _ s₁ (mkF m 20 #[.val (.int p0), .val (.long p1), .second, .val (.int p2), .val (.int p3), .val (.int p4), .val (.int (Int32.ofNat n)), .unset, .unset, .unset, .unset, .unset, .unset, .unset, .unset, .unset] [])
    refine Go.st (fun _ k => XS.iconst X0.here hx rfl (hb hby at_20) k) ?_
    show Go p e below _ s₁ (mkF m 21 #[.val (.int p0), .val (.long p1), .second, .val (.int p2), .val (.int p3), .val (.int p4), .val (.int (Int32.ofNat n)), .unset, .unset, .unset, .unset, .unset, .unset, .unset, .unset, .unset] [(.int (0 : Int32))])
    exact J1 _
  refine Go.st (fun _ k => XS.ifNo X0.here hx rfl (hb hby at_13) rfl (XT.i0_eq_f al0) k) ?_
  show Go p e below _ s₁ (mkF m 16 #[.val (.int p0), .val (.long p1), .second, .val (.int p2), .val (.int p3), .val (.int p4), .val (.int (Int32.ofNat n)), .unset, .unset, .unset, .unset, .unset, .unset, .unset, .unset, .unset] [])
  refine Go.st (fun _ k => XS.iconst X0.here hx rfl (hb hby at_16) k) ?_
  show Go p e below _ s₁ (mkF m 17 #[.val (.int p0), .val (.long p1), .second, .val (.int p2), .val (.int p3), .val (.int p4), .val (.int (Int32.ofNat n)), .unset, .unset, .unset, .unset, .unset, .unset, .unset, .unset, .unset] [(.int (1 : Int32))])
  refine Go.st (fun _ k => XS.goto X0.here hx rfl (pc0 := 17) (pc' := 21) rfl (hb hby at_17) (by decide) (by decide) k) ?_
  show Go p e below _ s₁ (mkF m 21 #[.val (.int p0), .val (.long p1), .second, .val (.int p2), .val (.int p3), .val (.int p4), .val (.int (Int32.ofNat n)), .unset, .unset, .unset, .unset, .unset, .unset, .unset, .unset, .unset] [(.int (1 : Int32))])
  exact J1 _
theorem own_eqv {s : State} {args : Array Value} {t : Term} {v : Int32} (h : (Cond.eq t (Term.int v)).value args s none s [] = some true) : t.eval args s none [] s = some (.int v) := by
  obtain ⟨x, y, h1, h2, k1, k2⟩ := cmp_v (Or.inl h)
  cases Option.some.inj ((Term.int_eval v).symm.trans h2)
  obtain ⟨z, rfl⟩ := k2
  have q := gotT (Cond.eq_ints h1 (Term.int_eval v)) h
  rw [h1, q]
set_option maxRecDepth 65536 in
set_option maxHeartbeats 40000000 in
theorem comes_1 {Post : Tables → Env → Array Value → State → Outcome → State → Prop} (hpost : ∀ tb e args s v u, (limb_1_1.after args s (.returned v) u = true ∧ limb_1_2.after args s (.returned v) u = true ∧ True) → FramedW s (.returned v) u (Jvm.fieldLocs frame_1_writes args s ++ Jvm.arrayLocs frame_1_arrays args s ++ Jvm.staticLocs frame_1_statics s) 24 1280 → Post tb e args s (.returned v) u) :
    ArmFor flags0 classFile x code maxLocals ret World_1 tables_1 room_1 Calls_1 rest_1 Pre_1 Post := by
  intro l hfl _ _ p e ha hc hk s m args below hf hA hF happ hP
  obtain ⟨hcalls, hrest, hpre⟩ := hP
  obtain ⟨-, -, -, hnamed, -, -, -, hat⟩ := (Spec.applies_iff hf).mp happ
  obtain ⟨hg, hn⟩ := and_e (Cond.before_iff.mp (show (Jvm.Cond.and given_1 narrow_1).before args s = true from hpre))
  obtain ⟨hcount, g0⟩ := and_e hg
  obtain ⟨ga0, g1⟩ := and_e g0
  obtain ⟨ga1, g2⟩ := and_e g1
  obtain ⟨ga2, g3⟩ := and_e g2
  obtain ⟨ga3, g4⟩ := and_e g3
  have ga4 := g4
  obtain ⟨w0, w1, w2, w3, w4, rfl⟩ : ∃ w0 w1 w2 w3 w4 : Value, args = #[w0, w1, w2, w3, w4] := by
    have hs : args.size = 5 := by simpa [Cond.value, given_1] using hcount
    obtain ⟨L⟩ := args
    match L, hs with
    | [w0, w1, w2, w3, w4], _ => exact ⟨w0, w1, w2, w3, w4, rfl⟩
  have hw := fun d (hd : d ∈ tables_1) => atoms_spec (ws := Jvm.Cond.code x code maxLocals ret :: tables_1) hat d (List.mem_cons_of_mem _ hd)
  obtain ⟨hsets, hown0⟩ := atoms_of _ (rest_1_c_eq ▸ (show rest_1_c.before _ s = true from hrest))
  have hfit : Fit s := fun {y c} hc i hi => by
    obtain ⟨ha, rfl⟩ := Array.getElem?_eq_some_iff.mp hc
    have q := List.all_eq_true.mp ((Array.all_eq_true_iff_forall_mem.mp hF) _ (Array.getElem_mem ha)) i (List.mem_range.mpr hi)
    simpa [Array.getElem?_eq_getElem hi] using q
  obtain ⟨i0, ea0⟩ := is_v ga0
  obtain rfl : w0 = (.int i0) := Option.some.inj ea0
  obtain ⟨i1, ea1⟩ := isL_v ga1
  obtain rfl : w1 = (.long i1) := Option.some.inj ea1
  obtain ⟨i2, ea2⟩ := is_v ga2
  obtain rfl : w2 = (.int i2) := Option.some.inj ea2
  obtain ⟨i3, ea3⟩ := is_v ga3
  obtain rfl : w3 = (.int i3) := Option.some.inj ea3
  obtain ⟨i4, ea4⟩ := is_v ga4
  obtain rfl : w4 = (.int i4) := Option.some.inj ea4
  obtain ⟨iC, eC⟩ := is_v (Cond.before_iff.mp (hsets _ (List.mem_of_getElem? (i := 6) rfl)))
  have SC : Sta s s.heap "java/lang/String" "COMPACT_STRINGS" "Z" (.int iC) := Sta.start eC (Or.inl (hsets _ (List.mem_of_getElem? (i := 5) rfl)))
  have nC : ¬ (iC = (0 : Int32)) := gotF (Cond.eq_ints eC (Term.int_eval (0))) (not_v (Cond.before_iff.mp (hsets _ (List.mem_of_getElem? (i := 7) rfl))))
  have SA : Sta s s.heap "java/lang/StringUTF16" "$assertionsDisabled" "Z" (.int 1) := Sta.start (own_eqv (Cond.before_iff.mp (hsets _ (List.mem_of_getElem? (i := 17) rfl)))) (Or.inl (hsets _ (List.mem_of_getElem? (i := 16) rfl)))
  have SH : Sta s s.heap "java/lang/StringUTF16" "HI_BYTE_SHIFT" "I" (.int 0) := Sta.start (own_eqv (Cond.before_iff.mp (hsets _ (List.mem_of_getElem? (i := 20) rfl)))) (Or.inl (hsets _ (List.mem_of_getElem? (i := 19) rfl)))
  have SL : Sta s s.heap "java/lang/StringUTF16" "LO_BYTE_SHIFT" "I" (.int 8) := Sta.start (own_eqv (Cond.before_iff.mp (hsets _ (List.mem_of_getElem? (i := 23) rfl)))) (Or.inl (hsets _ (List.mem_of_getElem? (i := 22) rfl)))
  have hcons := hcalls.1
  have hheld : CHn consts_1 (fun b => b < s.heap.size) s := CHn.start (fun y hy => by
    have hy0 := hy
    simp only [consts_1, List.mem_cons, List.not_mem_nil, or_false] at hy
    rcases hy with rfl
    · exact own_heldL (text := "") (hcons _ hy0) (hw _ (List.mem_of_getElem? (i := 25) rfl)) (by decide) (hsets _ (List.mem_of_getElem? (i := 7) rfl)) (hw _ (List.mem_of_getElem? (i := 26) rfl)) (hw _ (List.mem_of_getElem? (i := 13) rfl)))
  obtain ⟨em, eE⟩ := exa_v (Cond.before_iff.mp (hsets _ (List.mem_of_getElem? (i := 2) rfl)))
  have Em := Exa.start eE (Cond.before_iff.mp (hsets _ (List.mem_of_getElem? (i := 2) rfl)))
  have SE : Sta s s.heap "java/util/OptionalInt" "EMPTY" "Ljava/util/OptionalInt;" (.ref em) := Sta.start eE (Or.inl (hsets _ (List.mem_of_getElem? (i := 1) rfl)))
  have Fm : Fld s s.heap em "java/util/OptionalInt" "isPresent" "Z" (.int 0) := Fld.start ((fld_at eE).symm.trans (own_eqv (Cond.before_iff.mp (hsets _ (List.mem_of_getElem? (i := 3) rfl)))))
  obtain ⟨f, eF, hfr⟩ := isR_v (Cond.before_iff.mp (hsets _ (List.mem_of_getElem? (i := 13) rfl)))
  have SF : Sta s s.heap "jdk/internal/util/Preconditions" "SIOOBE_FORMATTER" "Ljava/util/function/BiFunction;" f := Sta.start eF (Or.inl (hsets _ (List.mem_of_getElem? (i := 12) rfl)))
  obtain ⟨n, o, h1, h2, h3, _, L, rfl, ⟨rfl, N⟩, -, hq⟩ := rm0 l s _ hw tables_1 i0 i1 i2 i3 i4 iC ⟨SA, SH, SL, SC, nC⟩ f hfr SF em SE s.heap s.heap.size rfl (Old.start s) Em Fm p e ha hc hk s m _ below hf ((Spec.applies_iff_loose hf).mp happ).1 ⟨rfl, State.Warmed39.refl s, rfl, hheld⟩ trivial
  refine ⟨n, _, h1, h2, h3, hpost _ _ _ _ _ _ ⟨Cond.after_iff.mpr rfl, Cond.after_iff.mpr (eq_i res_at (Term.int_eval (1)) rfl), trivial⟩ ⟨hq.1, hq.2.1, hq.2.2.1, (hq.2.2.2.sift fun y hy => Or.inr (N y hy)).mono (by decide) (by decide)⟩⟩
theorem main_1_1 : Claimed_1_1 := comes_1 fun _ _ _ _ _ _ h hF => ⟨h.1, hF⟩
theorem main_1_2 : Claimed_1_2 := comes_1 fun _ _ _ _ _ _ h hF => ⟨h.2.1, hF⟩
end Jvm.Pilot.@@N@@
namespace Jvm.Pilot.@@N@@
open Jvm Jvm.ClassFile Sem Op Lib Jvm.Free Jvm.Stand Jvm.Pilot.@@N@@.Jvm.D
/-! MADE BY PROGRAM (witnessworld.py) out of the Statement's table words and the real class files: 21 classes; the members and pool entries that the words name. The judged class is class 1, her method 1. -/
namespace start1
open Jvm.ClassFile
def u (s : String) : CpInfo := .utf8 (stringToUtf16 s)
/-- a pool by its gaps: so many unusable entries, then the entry; so many at the end -/
def gap : Nat → List CpInfo → List CpInfo
  | 0, r => r
  | n + 1, r => .unusable :: gap n r
def poolList (es : List (Nat × CpInfo)) (last : Nat) : List CpInfo := es.foldr (fun e r => gap e.1 (e.2 :: r)) (gap last [])
def pool (es : List (Nat × CpInfo)) (last : Nat) : Array CpInfo := ⟨poolList es last⟩
def fileOf (pool : Array CpInfo) (this : Nat) (attrs : Array Attribute := #[]) (ms : Array MethodInfo := #[]) (fl : Nat := 33) (sup : Nat := 0) (ifs : Array Nat := #[]) (fds : Array FieldInfo := #[]) : ClassFile where
  minorVersion := 0
  majorVersion := 65
  constantPool := pool
  accessFlags := fl
  thisClass := this
  superClass := sup
  interfaces := ifs
  fields := fds
  methods := ms
  attributes := attrs
def plain (name : String) (sup : Option ClassId) : Class where
  name := name
  kind := .ordinary
  loader := none
  accessFlags := 33
  super := sup
  interfaces := #[]
  cf := none
  fields := #[]
  methods := #[]
  instanceTypes := #[]
  staticTypes := #[]
  resolved := #[]
  callSites := []
  init := .initialized
  statics := none
  mirror := none

def pool0 : Array CpInfo := pool [(5, u "<init>"), (0, u "()V"), (1, .class_ 10), (1, u "java/lang/Object")] 113

def k0c0 : Code := { maxStack := 0, maxLocals := 1, code := object_method_1_code, exceptionTable := #[], attributes := #[] }
def k0m0 : Method := { name := "<init>", desc := "()V", sig := { parameters := [], returnType := none }, accessFlags := 1, code := some k0c0 }
/-- java/lang/Object -/
def k0 : Class := { plain "java/lang/Object" none with
  accessFlags := 33
  interfaces := #[]
  cf := some (fileOf pool0 8 #[] #[{ accessFlags := 1, nameIndex := 5, descriptorIndex := 6, attributes := #[] }] 33 0 #[] #[])
  fields := #[]
  methods := #[k0m0]
  instanceTypes := #[]
  staticTypes := #[]
  resolved := Array.replicate 124 none
  statics := none }

def pool1 : Array CpInfo := pool [(2, .class_ 4), (1, u "java/lang/Object"), (0, u "<init>"), (0, u "()V"), (0, .methodref 8 9), (0, .class_ 10), (0, .nameAndType 11 12), (0, u "com/example/federate/federate/WholeNumbersParsePinLaw"), (0, u "nib"), (0, u "(JI)I"), (0, .methodref 8 14), (0, .nameAndType 15 16), (0, u "ch"), (0, u "(IIZ)C"), (0, .methodref 8 18), (0, .nameAndType 19 20), (0, u "text"), (0, u "(I[C)Ljava/lang/String;"), (0, .integer 2147483647), (0, .methodref 8 23), (0, .nameAndType 24 25), (0, u "acc"), (0, u "(J[CII)J"), (0, .methodref 27 28), (0, .class_ 29), (0, .nameAndType 30 31), (0, u "com/example/federate/federate/WholeNumbers"), (0, u "parse"), (0, u "(Ljava/lang/String;II)Ljava/util/OptionalInt;"), (0, .methodref 33 34), (0, .class_ 35), (0, .nameAndType 36 37), (0, u "java/util/OptionalInt"), (0, u "isPresent"), (0, u "()Z"), (0, .methodref 33 39), (0, .nameAndType 40 41), (0, u "getAsInt"), (0, u "()I"), (0, .long 15), (1, .integer 65535), (0, .long 18446744073709551615), (1, .long 10), (1, .class_ 50), (0, u "java/lang/String"), (0, .methodref 49 52), (0, .nameAndType 5 53), (0, u "([C)V"), (2, u "law"), (0, u "(IJIII)Z")] 5

def k1m0 : Method := { name := "<init>", desc := "()V", sig := { parameters := [], returnType := none }, accessFlags := 2, code := none }
def k1c1 : Code := { maxStack := 5, maxLocals := 16, code := code, exceptionTable := #[], attributes := #[] }
def k1m1 : Method := { name := "law", desc := "(IJIII)Z", sig := { parameters := [.int, .long, .int, .int, .int], returnType := some .boolean }, accessFlags := 9, code := some k1c1 }
def k1c2 : Code := { maxStack := 4, maxLocals := 3, code := method_3_code, exceptionTable := #[], attributes := #[] }
def k1m2 : Method := { name := "nib", desc := "(JI)I", sig := { parameters := [.long, .int], returnType := some .int }, accessFlags := 10, code := some k1c2 }
def k1c3 : Code := { maxStack := 3, maxLocals := 3, code := method_4_code, exceptionTable := #[], attributes := #[] }
def k1m3 : Method := { name := "ch", desc := "(IIZ)C", sig := { parameters := [.int, .int, .boolean], returnType := some .char }, accessFlags := 10, code := some k1c3 }
def k1c4 : Code := { maxStack := 4, maxLocals := 6, code := method_5_code, exceptionTable := #[], attributes := #[] }
def k1m4 : Method := { name := "acc", desc := "(J[CII)J", sig := { parameters := [.long, (.array .char), .int, .int], returnType := some .long }, accessFlags := 10, code := some k1c4 }
def k1c5 : Code := { maxStack := 7, maxLocals := 2, code := method_6_code, exceptionTable := #[], attributes := #[] }
def k1m5 : Method := { name := "text", desc := "(I[C)Ljava/lang/String;", sig := { parameters := [.int, (.array .char)], returnType := some (.object "java/lang/String") }, accessFlags := 10, code := some k1c5 }
/-- com/example/federate/federate/WholeNumbersParsePinLaw -/
def k1 : Class := { plain "com/example/federate/federate/WholeNumbersParsePinLaw" (some 0) with
  accessFlags := 49
  interfaces := #[]
  cf := some (fileOf pool1 8 #[] #[{ accessFlags := 2, nameIndex := 5, descriptorIndex := 6, attributes := #[] }, { accessFlags := 9, nameIndex := 56, descriptorIndex := 57, attributes := #[] }, { accessFlags := 10, nameIndex := 11, descriptorIndex := 12, attributes := #[] }, { accessFlags := 10, nameIndex := 15, descriptorIndex := 16, attributes := #[] }, { accessFlags := 10, nameIndex := 24, descriptorIndex := 25, attributes := #[] }, { accessFlags := 10, nameIndex := 19, descriptorIndex := 20, attributes := #[] }] 49 2 #[] #[])
  fields := #[]
  methods := #[k1m0, k1m1, k1m2, k1m3, k1m4, k1m5]
  instanceTypes := #[]
  staticTypes := #[]
  resolved := Array.replicate 63 none
  statics := none }

def pool2 : Array CpInfo := pool [(1, .class_ 2), (0, u "java/io/Serializable"), (0, .class_ 4), (0, u "java/lang/Object")] 2

/-- java/io/Serializable -/
def k2 : Class := { plain "java/io/Serializable" (some 0) with
  accessFlags := 1537
  interfaces := #[]
  cf := some (fileOf pool2 1 #[] #[] 1537 3 #[] #[])
  fields := #[]
  methods := #[]
  instanceTypes := #[]
  staticTypes := #[]
  resolved := Array.replicate 7 none
  statics := none }

def pool3 : Array CpInfo := pool [(1, .class_ 2), (0, u "java/lang/Comparable"), (0, .class_ 4), (0, u "java/lang/Object")] 7

/-- java/lang/Comparable -/
def k3 : Class := { plain "java/lang/Comparable" (some 0) with
  accessFlags := 1537
  interfaces := #[]
  cf := some (fileOf pool3 1 #[] #[] 1537 3 #[] #[])
  fields := #[]
  methods := #[]
  instanceTypes := #[]
  staticTypes := #[]
  resolved := Array.replicate 12 none
  statics := none }

def pool4 : Array CpInfo := pool [(2, .class_ 4), (1, u "java/lang/CharSequence"), (42, .class_ 48), (0, u "java/lang/CharSequence$1CodePointIterator"), (10, .class_ 60), (0, u "java/lang/CharSequence$1CharIterator"), (5, .class_ 67), (0, u "java/lang/Object")] 63

/-- java/lang/CharSequence -/
def k4 : Class := { plain "java/lang/CharSequence" (some 0) with
  accessFlags := 1537
  interfaces := #[]
  cf := some (fileOf pool4 2 #[.nestMembers #[47, 59]] #[] 1537 66 #[] #[])
  fields := #[]
  methods := #[]
  instanceTypes := #[]
  staticTypes := #[]
  resolved := Array.replicate 131 none
  statics := none }

def pool5 : Array CpInfo := pool [(1, .class_ 2), (0, u "java/lang/constant/Constable"), (0, .class_ 4), (0, u "java/lang/Object")] 6

/-- java/lang/constant/Constable -/
def k5 : Class := { plain "java/lang/constant/Constable" (some 0) with
  accessFlags := 1537
  interfaces := #[]
  cf := some (fileOf pool5 1 #[] #[] 1537 3 #[] #[])
  fields := #[]
  methods := #[]
  instanceTypes := #[]
  staticTypes := #[]
  resolved := Array.replicate 11 none
  statics := none }

def pool6 : Array CpInfo := pool [(1, .class_ 2), (0, u "java/lang/constant/ConstantDesc"), (0, .class_ 4), (0, u "java/lang/Object")] 32

/-- java/lang/constant/ConstantDesc -/
def k6 : Class := { plain "java/lang/constant/ConstantDesc" (some 0) with
  accessFlags := 1537
  interfaces := #[]
  cf := some (fileOf pool6 1 #[] #[] 1537 3 #[] #[])
  fields := #[]
  methods := #[]
  instanceTypes := #[]
  staticTypes := #[]
  resolved := Array.replicate 37 none
  statics := none }

def pool7 : Array CpInfo := pool [(1, .methodref 2 3), (0, .class_ 4), (0, .nameAndType 5 6), (0, u "java/lang/Object"), (0, u "<init>"), (0, u "()V"), (0, .string 8), (0, u ""), (0, .fieldref 10 11), (0, .class_ 12), (0, .nameAndType 13 14), (0, u "java/lang/String"), (0, u "value"), (0, u "[B"), (0, .fieldref 10 16), (0, .nameAndType 17 18), (0, u "coder"), (0, u "B"), (2, u "hash"), (0, u "I"), (2, u "hashIsZero"), (0, u "Z"), (0, .methodref 10 28), (0, .nameAndType 5 29), (0, u "([CIILjava/lang/Void;)V"), (8, .fieldref 10 39), (0, .nameAndType 40 26), (0, u "COMPACT_STRINGS"), (1, .class_ 44), (1, u "java/lang/StringUTF16"), (0, u "compress"), (1, .methodref 42 48), (0, .nameAndType 49 50), (0, u "coderFromArrayLen"), (0, u "([BI)B"), (56, .class_ 109), (1, u "java/lang/StringLatin1"), (32, u "()Z"), (34, .methodref 42 178), (0, .nameAndType 45 179), (0, u "([CII)[B"), (154, u "()I"), (0, .methodref 10 336), (0, .nameAndType 17 337), (0, u "()B"), (25, u "([BI)C"), (27, u "(II)V"), (35, u "(I)C"), (64, .methodref 10 493), (0, .nameAndType 494 142), (0, u "isLatin1"), (0, .methodref 107 496), (0, .nameAndType 497 363), (0, u "charAt"), (0, .methodref 42 496), (2, u "checkIndex"), (5, u "length"), (67, .class_ 576), (0, u "java/lang/CharSequence"), (22, u "CASE_INSENSITIVE_ORDER"), (0, u "Ljava/util/Comparator;"), (91, u "isEmpty"), (317, u "([C)V"), (42, .fieldref 1054 1055), (0, .class_ 1056), (0, .nameAndType 1057 1058), (0, u "jdk/internal/util/Preconditions"), (0, u "SIOOBE_FORMATTER"), (0, u "Ljava/util/function/BiFunction;"), (0, .methodref 1054 1060), (0, .nameAndType 501 1061), (0, u "(IILjava/util/function/BiFunction;)I"), (39, u "serialPersistentFields"), (0, u "[Ljava/io/ObjectStreamField;"), (0, .class_ 1104), (0, u "java/lang/String$CaseInsensitiveComparator"), (1, .class_ 1107), (0, u "java/io/Serializable"), (0, .class_ 1109), (0, u "java/lang/Comparable"), (0, .class_ 1111), (0, u "java/lang/constant/Constable"), (0, .class_ 1113), (0, u "java/lang/constant/ConstantDesc"), (2, u "serialVersionUID"), (0, u "J"), (3, u "REPL"), (0, u "C"), (2, u "LATIN1"), (1, u "UTF16")] 323

def k7m0 : Method := { name := "<init>", desc := "()V", sig := { parameters := [], returnType := none }, accessFlags := 1, code := none }
def k7c1 : Code := { maxStack := 5, maxLocals := 2, code := jdk_42_method_3_code, exceptionTable := #[], attributes := #[] }
def k7m1 : Method := { name := "<init>", desc := "([C)V", sig := { parameters := [(.array .char)], returnType := none }, accessFlags := 1, code := some k7c1 }
def k7c2 : Code := { maxStack := 2, maxLocals := 1, code := jdk_42_method_54_code, exceptionTable := #[], attributes := #[] }
def k7m2 : Method := { name := "length", desc := "()I", sig := { parameters := [], returnType := some .int }, accessFlags := 1, code := some k7c2 }
def k7c3 : Code := { maxStack := 1, maxLocals := 1, code := jdk_42_method_55_code, exceptionTable := #[], attributes := #[] }
def k7m3 : Method := { name := "isEmpty", desc := "()Z", sig := { parameters := [], returnType := some .boolean }, accessFlags := 1, code := some k7c3 }
def k7c4 : Code := { maxStack := 2, maxLocals := 2, code := jdk_42_method_56_code, exceptionTable := #[], attributes := #[] }
def k7m4 : Method := { name := "charAt", desc := "(I)C", sig := { parameters := [.int], returnType := some .char }, accessFlags := 1, code := some k7c4 }
def k7c5 : Code := { maxStack := 4, maxLocals := 6, code := jdk_42_method_149_code, exceptionTable := #[], attributes := #[] }
def k7m5 : Method := { name := "<init>", desc := "([CIILjava/lang/Void;)V", sig := { parameters := [(.array .char), .int, .int, (.object "java/lang/Void")], returnType := none }, accessFlags := 2, code := some k7c5 }
def k7c6 : Code := { maxStack := 1, maxLocals := 1, code := jdk_42_method_152_code, exceptionTable := #[], attributes := #[] }
def k7m6 : Method := { name := "coder", desc := "()B", sig := { parameters := [], returnType := some .byte }, accessFlags := 0, code := some k7c6 }
def k7c7 : Code := { maxStack := 1, maxLocals := 1, code := jdk_42_method_154_code, exceptionTable := #[], attributes := #[] }
def k7m7 : Method := { name := "isLatin1", desc := "()Z", sig := { parameters := [], returnType := some .boolean }, accessFlags := 0, code := some k7c7 }
def k7c8 : Code := { maxStack := 3, maxLocals := 2, code := jdk_42_method_155_code, exceptionTable := #[], attributes := #[] }
def k7m8 : Method := { name := "checkIndex", desc := "(II)V", sig := { parameters := [.int, .int], returnType := none }, accessFlags := 8, code := some k7c8 }
/-- java/lang/String -/
def k7 : Class := { plain "java/lang/String" (some 0) with
  accessFlags := 49
  interfaces := #[2, 3, 4, 5, 6]
  cf := some (fileOf pool7 10 #[.nestMembers #[1103]] #[{ accessFlags := 1, nameIndex := 5, descriptorIndex := 6, attributes := #[] }, { accessFlags := 1, nameIndex := 5, descriptorIndex := 1010, attributes := #[] }, { accessFlags := 1, nameIndex := 507, descriptorIndex := 334, attributes := #[] }, { accessFlags := 1, nameIndex := 692, descriptorIndex := 142, attributes := #[] }, { accessFlags := 1, nameIndex := 497, descriptorIndex := 427, attributes := #[] }, { accessFlags := 2, nameIndex := 5, descriptorIndex := 29, attributes := #[] }, { accessFlags := 0, nameIndex := 17, descriptorIndex := 337, attributes := #[] }, { accessFlags := 0, nameIndex := 494, descriptorIndex := 142, attributes := #[] }, { accessFlags := 8, nameIndex := 501, descriptorIndex := 391, attributes := #[] }] 49 2 #[1106, 1108, 575, 1110, 1112] #[{ accessFlags := 18, nameIndex := 13, descriptorIndex := 14, attributes := #[] }, { accessFlags := 18, nameIndex := 17, descriptorIndex := 18, attributes := #[] }, { accessFlags := 2, nameIndex := 21, descriptorIndex := 22, attributes := #[] }, { accessFlags := 2, nameIndex := 25, descriptorIndex := 26, attributes := #[] }, { accessFlags := 26, nameIndex := 1116, descriptorIndex := 1117, attributes := #[] }, { accessFlags := 24, nameIndex := 40, descriptorIndex := 26, attributes := #[] }, { accessFlags := 26, nameIndex := 1101, descriptorIndex := 1102, attributes := #[] }, { accessFlags := 26, nameIndex := 1121, descriptorIndex := 1122, attributes := #[] }, { accessFlags := 25, nameIndex := 599, descriptorIndex := 600, attributes := #[] }, { accessFlags := 24, nameIndex := 1125, descriptorIndex := 18, attributes := #[] }, { accessFlags := 24, nameIndex := 1127, descriptorIndex := 18, attributes := #[] }])
  fields := #[{ name := "value", type := (.array .byte), accessFlags := 18, slot := 0, constantValue := 0 }, { name := "coder", type := .byte, accessFlags := 18, slot := 1, constantValue := 0 }, { name := "hash", type := .int, accessFlags := 2, slot := 2, constantValue := 0 }, { name := "hashIsZero", type := .boolean, accessFlags := 2, slot := 3, constantValue := 0 }, { name := "serialVersionUID", type := .long, accessFlags := 26, slot := 0, constantValue := 0 }, { name := "COMPACT_STRINGS", type := .boolean, accessFlags := 24, slot := 1, constantValue := 0 }, { name := "serialPersistentFields", type := (.array (.object "java/io/ObjectStreamField")), accessFlags := 26, slot := 2, constantValue := 0 }, { name := "REPL", type := .char, accessFlags := 26, slot := 3, constantValue := 0 }, { name := "CASE_INSENSITIVE_ORDER", type := (.object "java/util/Comparator"), accessFlags := 25, slot := 4, constantValue := 0 }, { name := "LATIN1", type := .byte, accessFlags := 24, slot := 5, constantValue := 0 }, { name := "UTF16", type := .byte, accessFlags := 24, slot := 6, constantValue := 0 }]
  methods := #[k7m0, k7m1, k7m2, k7m3, k7m4, k7m5, k7m6, k7m7, k7m8]
  instanceTypes := #[(.array .byte), .byte, .int, .boolean]
  staticTypes := #[.long, .boolean, (.array (.object "java/io/ObjectStreamField")), .char, (.object "java/util/Comparator"), .byte, .byte]
  resolved := Array.replicate 1451 none
  statics := some 0 }

def pool8 : Array CpInfo := pool [(2, .class_ 4), (1, u "java/lang/Object"), (0, u "<init>"), (0, u "()V"), (0, .methodref 8 9), (0, .class_ 10), (0, .nameAndType 11 12), (0, u "java/lang/String"), (0, u "isEmpty"), (0, u "()Z"), (0, .methodref 14 15), (0, .class_ 16), (0, .nameAndType 17 18), (0, u "java/util/OptionalInt"), (0, u "empty"), (0, u "()Ljava/util/OptionalInt;"), (0, .methodref 8 20), (0, .nameAndType 21 22), (0, u "length"), (0, u "()I"), (0, .methodref 8 24), (0, .nameAndType 25 26), (0, u "charAt"), (0, u "(I)C"), (0, .long 10), (1, .methodref 14 30), (0, .nameAndType 31 32), (0, u "of"), (0, u "(I)Ljava/util/OptionalInt;"), (0, .class_ 34), (0, u "com/example/federate/federate/WholeNumbers"), (2, u "parse"), (0, u "(Ljava/lang/String;II)Ljava/util/OptionalInt;")] 3

def k8m0 : Method := { name := "<init>", desc := "()V", sig := { parameters := [], returnType := none }, accessFlags := 2, code := none }
def k8c1 : Code := { maxStack := 4, maxLocals := 7, code := prog_17_method_2_code, exceptionTable := #[], attributes := #[] }
def k8m1 : Method := { name := "parse", desc := "(Ljava/lang/String;II)Ljava/util/OptionalInt;", sig := { parameters := [(.object "java/lang/String"), .int, .int], returnType := some (.object "java/util/OptionalInt") }, accessFlags := 9, code := some k8c1 }
/-- com/example/federate/federate/WholeNumbers -/
def k8 : Class := { plain "com/example/federate/federate/WholeNumbers" (some 0) with
  accessFlags := 33
  interfaces := #[]
  cf := some (fileOf pool8 33 #[] #[{ accessFlags := 2, nameIndex := 5, descriptorIndex := 6, attributes := #[] }, { accessFlags := 9, nameIndex := 37, descriptorIndex := 38, attributes := #[] }] 33 2 #[] #[])
  fields := #[]
  methods := #[k8m0, k8m1]
  instanceTypes := #[]
  staticTypes := #[]
  resolved := Array.replicate 42 none
  statics := none }

def pool9 : Array CpInfo := pool [(1, .methodref 2 3), (0, .class_ 4), (0, .nameAndType 5 6), (0, u "java/lang/Object"), (0, u "<init>"), (0, u "()V"), (0, .fieldref 8 9), (0, .class_ 10), (0, .nameAndType 11 12), (0, u "java/util/OptionalInt"), (0, u "isPresent"), (0, u "Z"), (0, .fieldref 8 14), (0, .nameAndType 15 16), (0, u "value"), (0, u "I"), (0, .fieldref 8 18), (0, .nameAndType 19 20), (0, u "EMPTY"), (0, u "Ljava/util/OptionalInt;"), (0, .methodref 8 22), (0, .nameAndType 5 23), (0, u "(I)V"), (21, u "of"), (3, u "empty"), (5, u "getAsInt"), (0, u "()I"), (39, u "()Ljava/util/OptionalInt;"), (0, u "(I)Ljava/util/OptionalInt;"), (1, u "()Z")] 36

def k9m0 : Method := { name := "<init>", desc := "()V", sig := { parameters := [], returnType := none }, accessFlags := 2, code := none }
def k9c1 : Code := { maxStack := 1, maxLocals := 0, code := jdk_2649_method_2_code, exceptionTable := #[], attributes := #[] }
def k9m1 : Method := { name := "empty", desc := "()Ljava/util/OptionalInt;", sig := { parameters := [], returnType := some (.object "java/util/OptionalInt") }, accessFlags := 9, code := some k9c1 }
def k9c2 : Code := { maxStack := 2, maxLocals := 2, code := jdk_2649_method_3_code, exceptionTable := #[], attributes := #[] }
def k9m2 : Method := { name := "<init>", desc := "(I)V", sig := { parameters := [.int], returnType := none }, accessFlags := 2, code := some k9c2 }
def k9c3 : Code := { maxStack := 3, maxLocals := 1, code := jdk_2649_method_4_code, exceptionTable := #[], attributes := #[] }
def k9m3 : Method := { name := "of", desc := "(I)Ljava/util/OptionalInt;", sig := { parameters := [.int], returnType := some (.object "java/util/OptionalInt") }, accessFlags := 9, code := some k9c3 }
def k9c4 : Code := { maxStack := 3, maxLocals := 1, code := jdk_2649_method_5_code, exceptionTable := #[], attributes := #[] }
def k9m4 : Method := { name := "getAsInt", desc := "()I", sig := { parameters := [], returnType := some .int }, accessFlags := 1, code := some k9c4 }
def k9c5 : Code := { maxStack := 1, maxLocals := 1, code := jdk_2649_method_6_code, exceptionTable := #[], attributes := #[] }
def k9m5 : Method := { name := "isPresent", desc := "()Z", sig := { parameters := [], returnType := some .boolean }, accessFlags := 1, code := some k9c5 }
/-- java/util/OptionalInt -/
def k9 : Class := { plain "java/util/OptionalInt" (some 0) with
  accessFlags := 49
  interfaces := #[]
  cf := some (fileOf pool9 8 #[] #[{ accessFlags := 2, nameIndex := 5, descriptorIndex := 6, attributes := #[] }, { accessFlags := 9, nameIndex := 49, descriptorIndex := 96, attributes := #[] }, { accessFlags := 2, nameIndex := 5, descriptorIndex := 23, attributes := #[] }, { accessFlags := 9, nameIndex := 45, descriptorIndex := 97, attributes := #[] }, { accessFlags := 1, nameIndex := 55, descriptorIndex := 56, attributes := #[] }, { accessFlags := 1, nameIndex := 11, descriptorIndex := 99, attributes := #[] }] 49 2 #[] #[{ accessFlags := 26, nameIndex := 19, descriptorIndex := 20, attributes := #[] }, { accessFlags := 18, nameIndex := 11, descriptorIndex := 12, attributes := #[] }, { accessFlags := 18, nameIndex := 15, descriptorIndex := 16, attributes := #[] }])
  fields := #[{ name := "EMPTY", type := (.object "java/util/OptionalInt"), accessFlags := 26, slot := 0, constantValue := 0 }, { name := "isPresent", type := .boolean, accessFlags := 18, slot := 0, constantValue := 0 }, { name := "value", type := .int, accessFlags := 18, slot := 1, constantValue := 0 }]
  methods := #[k9m0, k9m1, k9m2, k9m3, k9m4, k9m5]
  instanceTypes := #[.boolean, .int]
  staticTypes := #[(.object "java/util/OptionalInt")]
  resolved := Array.replicate 136 none
  statics := some 1 }

def pool10 : Array CpInfo := pool [(3, .class_ 4), (0, u "java/lang/String"), (1, .class_ 8), (1, u "java/lang/Object"), (0, u "<init>"), (0, u "()V"), (0, .methodref 12 13), (0, .class_ 14), (0, .nameAndType 15 16), (0, u "java/lang/StringUTF16"), (0, u "newBytesLength"), (0, u "(I)I"), (3, .integer 1073741823), (23, .fieldref 12 45), (0, .nameAndType 46 47), (0, u "$assertionsDisabled"), (0, u "Z"), (0, .methodref 12 49), (0, .nameAndType 50 51), (0, u "length"), (0, u "([B)I"), (7, .fieldref 12 60), (0, .nameAndType 61 62), (0, u "HI_BYTE_SHIFT"), (0, u "I"), (0, .fieldref 12 64), (0, .nameAndType 65 62), (0, u "LO_BYTE_SHIFT"), (1, .methodref 12 68), (0, .nameAndType 69 70), (0, u "checkIndex"), (0, u "(I[B)V"), (0, .methodref 12 72), (0, .nameAndType 73 74), (0, u "getChar"), (0, u "([BI)C"), (32, .methodref 12 108), (0, .nameAndType 109 110), (0, u "newBytesFor"), (0, u "(I)[B"), (0, .methodref 12 112), (0, .nameAndType 113 114), (0, u "putChar"), (0, u "([BII)V"), (0, .methodref 12 116), (0, .nameAndType 117 118), (0, u "compress"), (0, u "([CI[BII)I"), (0, .methodref 12 120), (0, .nameAndType 121 122), (0, u "toBytes"), (0, u "([CII)[B"), (138, u "coderFromArrayLen"), (0, u "([BI)B"), (106, .class_ 371), (1, u "java/lang/StringUTF16$LinesSpliterator"), (20, u "charAt"), (21, .methodref 3 415), (0, .nameAndType 69 416), (0, u "(II)V"), (13, u "MAX_LENGTH"), (196, .class_ 628), (0, u "java/lang/StringUTF16$CodePointsSpliterator"), (0, .class_ 630), (0, u "java/lang/StringUTF16$CharsSpliterator")] 4

def k10m0 : Method := { name := "<init>", desc := "()V", sig := { parameters := [], returnType := none }, accessFlags := 0, code := none }
def k10c1 : Code := { maxStack := 1, maxLocals := 1, code := jdk_52_method_2_code, exceptionTable := #[], attributes := #[] }
def k10m1 : Method := { name := "newBytesFor", desc := "(I)[B", sig := { parameters := [.int], returnType := some (.array .byte) }, accessFlags := 9, code := some k10c1 }
def k10c2 : Code := { maxStack := 4, maxLocals := 1, code := jdk_52_method_3_code, exceptionTable := #[], attributes := #[] }
def k10m2 : Method := { name := "newBytesLength", desc := "(I)I", sig := { parameters := [.int], returnType := some .int }, accessFlags := 9, code := some k10c2 }
def k10c3 : Code := { maxStack := 4, maxLocals := 3, code := jdk_52_method_4_code, exceptionTable := #[], attributes := #[] }
def k10m3 : Method := { name := "putChar", desc := "([BII)V", sig := { parameters := [(.array .byte), .int, .int], returnType := none }, accessFlags := 8, code := some k10c3 }
def k10c4 : Code := { maxStack := 3, maxLocals := 2, code := jdk_52_method_5_code, exceptionTable := #[], attributes := #[] }
def k10m4 : Method := { name := "getChar", desc := "([BI)C", sig := { parameters := [(.array .byte), .int], returnType := some .char }, accessFlags := 8, code := some k10c4 }
def k10c5 : Code := { maxStack := 2, maxLocals := 1, code := jdk_52_method_6_code, exceptionTable := #[], attributes := #[] }
def k10m5 : Method := { name := "length", desc := "([B)I", sig := { parameters := [(.array .byte)], returnType := some .int }, accessFlags := 9, code := some k10c5 }
def k10c6 : Code := { maxStack := 4, maxLocals := 5, code := jdk_52_method_14_code, exceptionTable := #[], attributes := #[] }
def k10m6 : Method := { name := "toBytes", desc := "([CII)[B", sig := { parameters := [(.array .char), .int, .int], returnType := some (.array .byte) }, accessFlags := 9, code := some k10c6 }
def k10c7 : Code := { maxStack := 2, maxLocals := 2, code := jdk_52_method_15_code, exceptionTable := #[], attributes := #[] }
def k10m7 : Method := { name := "coderFromArrayLen", desc := "([BI)B", sig := { parameters := [(.array .byte), .int], returnType := some .byte }, accessFlags := 8, code := some k10c7 }
def k10c8 : Code := { maxStack := 5, maxLocals := 6, code := jdk_52_method_16_code, exceptionTable := #[], attributes := #[] }
def k10m8 : Method := { name := "compress", desc := "([CII)[B", sig := { parameters := [(.array .char), .int, .int], returnType := some (.array .byte) }, accessFlags := 9, code := some k10c8 }
def k10c9 : Code := { maxStack := 3, maxLocals := 7, code := jdk_52_method_21_code, exceptionTable := #[], attributes := #[] }
def k10m9 : Method := { name := "compress", desc := "([CI[BII)I", sig := { parameters := [(.array .char), .int, (.array .byte), .int, .int], returnType := some .int }, accessFlags := 9, code := some k10c9 }
def k10c10 : Code := { maxStack := 2, maxLocals := 2, code := jdk_52_method_83_code, exceptionTable := #[], attributes := #[] }
def k10m10 : Method := { name := "charAt", desc := "([BI)C", sig := { parameters := [(.array .byte), .int], returnType := some .char }, accessFlags := 9, code := some k10c10 }
def k10c11 : Code := { maxStack := 2, maxLocals := 2, code := jdk_52_method_91_code, exceptionTable := #[], attributes := #[] }
def k10m11 : Method := { name := "checkIndex", desc := "(I[B)V", sig := { parameters := [.int, (.array .byte)], returnType := none }, accessFlags := 9, code := some k10c11 }
/-- java/lang/StringUTF16 -/
def k10 : Class := { plain "java/lang/StringUTF16" (some 0) with
  accessFlags := 48
  interfaces := #[]
  cf := some (fileOf pool10 12 #[.nestMembers #[627, 629, 369]] #[{ accessFlags := 0, nameIndex := 9, descriptorIndex := 10, attributes := #[] }, { accessFlags := 9, nameIndex := 109, descriptorIndex := 110, attributes := #[] }, { accessFlags := 9, nameIndex := 15, descriptorIndex := 16, attributes := #[] }, { accessFlags := 8, nameIndex := 113, descriptorIndex := 114, attributes := #[] }, { accessFlags := 8, nameIndex := 73, descriptorIndex := 74, attributes := #[] }, { accessFlags := 9, nameIndex := 50, descriptorIndex := 51, attributes := #[] }, { accessFlags := 9, nameIndex := 121, descriptorIndex := 122, attributes := #[] }, { accessFlags := 8, nameIndex := 261, descriptorIndex := 262, attributes := #[] }, { accessFlags := 9, nameIndex := 117, descriptorIndex := 122, attributes := #[] }, { accessFlags := 9, nameIndex := 117, descriptorIndex := 118, attributes := #[] }, { accessFlags := 9, nameIndex := 392, descriptorIndex := 74, attributes := #[] }, { accessFlags := 9, nameIndex := 69, descriptorIndex := 70, attributes := #[] }] 48 6 #[] #[{ accessFlags := 26, nameIndex := 61, descriptorIndex := 62, attributes := #[] }, { accessFlags := 26, nameIndex := 65, descriptorIndex := 62, attributes := #[] }, { accessFlags := 24, nameIndex := 430, descriptorIndex := 62, attributes := #[] }, { accessFlags := 4120, nameIndex := 46, descriptorIndex := 47, attributes := #[] }])
  fields := #[{ name := "HI_BYTE_SHIFT", type := .int, accessFlags := 26, slot := 0, constantValue := 0 }, { name := "LO_BYTE_SHIFT", type := .int, accessFlags := 26, slot := 1, constantValue := 0 }, { name := "MAX_LENGTH", type := .int, accessFlags := 24, slot := 2, constantValue := 0 }, { name := "$assertionsDisabled", type := .boolean, accessFlags := 4120, slot := 3, constantValue := 0 }]
  methods := #[k10m0, k10m1, k10m2, k10m3, k10m4, k10m5, k10m6, k10m7, k10m8, k10m9, k10m10, k10m11]
  instanceTypes := #[]
  staticTypes := #[.int, .int, .int, .boolean]
  resolved := Array.replicate 635 none
  statics := some 2 }

def pool11 : Array CpInfo := pool [(1, .class_ 2), (0, u "java/lang/String"), (1, .class_ 6), (1, u "java/lang/Object"), (0, u "<init>"), (0, u "()V"), (0, .methodref 1 10), (0, .nameAndType 11 12), (0, u "checkIndex"), (0, u "(II)V"), (1, .class_ 16), (1, u "java/lang/StringLatin1"), (36, u "([BI)C"), (67, u "$assertionsDisabled"), (0, u "Z"), (98, .class_ 223), (1, u "java/lang/StringLatin1$LinesSpliterator"), (28, u "charAt"), (137, .class_ 391), (0, u "java/lang/StringLatin1$CharsSpliterator")] 3

def k11m0 : Method := { name := "<init>", desc := "()V", sig := { parameters := [], returnType := none }, accessFlags := 0, code := none }
def k11c1 : Code := { maxStack := 2, maxLocals := 2, code := jdk_43_method_2_code, exceptionTable := #[], attributes := #[] }
def k11m1 : Method := { name := "charAt", desc := "([BI)C", sig := { parameters := [(.array .byte), .int], returnType := some .char }, accessFlags := 9, code := some k11c1 }
/-- java/lang/StringLatin1 -/
def k11 : Class := { plain "java/lang/StringLatin1" (some 0) with
  accessFlags := 48
  interfaces := #[]
  cf := some (fileOf pool11 14 #[.nestMembers #[390, 221]] #[{ accessFlags := 0, nameIndex := 7, descriptorIndex := 8, attributes := #[] }, { accessFlags := 9, nameIndex := 252, descriptorIndex := 53, attributes := #[] }] 48 4 #[] #[{ accessFlags := 4120, nameIndex := 121, descriptorIndex := 122, attributes := #[] }])
  fields := #[{ name := "$assertionsDisabled", type := .boolean, accessFlags := 4120, slot := 0, constantValue := 0 }]
  methods := #[k11m0, k11m1]
  instanceTypes := #[]
  staticTypes := #[.boolean]
  resolved := Array.replicate 395 none
  statics := none }

def pool12 : Array CpInfo := pool [(2, .class_ 4), (1, u "java/lang/Object"), (0, u "<init>"), (0, u "()V"), (17, .class_ 26), (1, u "jdk/internal/util/Preconditions"), (6, u "checkIndex"), (21, .class_ 56), (0, u "jdk/internal/util/Preconditions$4"), (57, .class_ 115), (0, u "jdk/internal/util/Preconditions$1"), (7, u "SIOOBE_FORMATTER"), (0, u "Ljava/util/function/BiFunction;"), (0, .class_ 126), (0, u "jdk/internal/util/Preconditions$2"), (3, u "AIOOBE_FORMATTER"), (0, .class_ 132), (0, u "jdk/internal/util/Preconditions$3"), (3, u "IOOBE_FORMATTER"), (41, u "(IILjava/util/function/BiFunction;)I")] 15

def k12m0 : Method := { name := "<init>", desc := "()V", sig := { parameters := [], returnType := none }, accessFlags := 1, code := none }
def k12c1 : Code := { maxStack := 3, maxLocals := 3, code := jdk_41_method_11_code, exceptionTable := #[], attributes := #[] }
def k12m1 : Method := { name := "checkIndex", desc := "(IILjava/util/function/BiFunction;)I", sig := { parameters := [.int, .int, (.object "java/util/function/BiFunction")], returnType := some .int }, accessFlags := 9, code := some k12c1 }
/-- jdk/internal/util/Preconditions -/
def k12 : Class := { plain "jdk/internal/util/Preconditions" (some 0) with
  accessFlags := 33
  interfaces := #[]
  cf := some (fileOf pool12 24 #[.nestMembers #[55, 131, 125, 114]] #[{ accessFlags := 1, nameIndex := 5, descriptorIndex := 6, attributes := #[] }, { accessFlags := 9, nameIndex := 33, descriptorIndex := 178, attributes := #[] }] 33 2 #[] #[{ accessFlags := 25, nameIndex := 123, descriptorIndex := 124, attributes := #[] }, { accessFlags := 25, nameIndex := 130, descriptorIndex := 124, attributes := #[] }, { accessFlags := 25, nameIndex := 136, descriptorIndex := 124, attributes := #[] }])
  fields := #[{ name := "SIOOBE_FORMATTER", type := (.object "java/util/function/BiFunction"), accessFlags := 25, slot := 0, constantValue := 0 }, { name := "AIOOBE_FORMATTER", type := (.object "java/util/function/BiFunction"), accessFlags := 25, slot := 1, constantValue := 0 }, { name := "IOOBE_FORMATTER", type := (.object "java/util/function/BiFunction"), accessFlags := 25, slot := 2, constantValue := 0 }]
  methods := #[k12m0, k12m1]
  instanceTypes := #[]
  staticTypes := #[(.object "java/util/function/BiFunction"), (.object "java/util/function/BiFunction"), (.object "java/util/function/BiFunction")]
  resolved := Array.replicate 194 none
  statics := some 3 }

def pool13 : Array CpInfo := pool [(9, u "<init>"), (6, .class_ 18), (1, u "java/lang/Object"), (0, u "()V"), (1, .class_ 23), (1, u "jdk/internal/util/ArraysSupport"), (0, u "LOG2_ARRAY_LONG_INDEX_SCALE"), (0, u "I"), (2, u "U"), (0, u "Ljdk/internal/misc/Unsafe;"), (8, u "BIG_ENDIAN"), (0, u "Z"), (8, u "LOG2_BYTE_BIT_SIZE"), (4, u "LOG2_ARRAY_INT_INDEX_SCALE"), (54, u "JLA"), (0, u "Ljdk/internal/access/JavaLangAccess;"), (11, u "LOG2_ARRAY_BOOLEAN_INDEX_SCALE"), (9, u "LOG2_ARRAY_BYTE_INDEX_SCALE"), (5, u "LOG2_ARRAY_CHAR_INDEX_SCALE"), (5, u "LOG2_ARRAY_SHORT_INDEX_SCALE"), (18, u "LOG2_ARRAY_FLOAT_INDEX_SCALE"), (24, u "LOG2_ARRAY_DOUBLE_INDEX_SCALE"), (89, u "T_BOOLEAN"), (2, u "T_CHAR"), (1, u "T_FLOAT"), (1, u "T_DOUBLE"), (1, u "T_BYTE"), (1, u "T_SHORT"), (1, u "T_INT"), (1, u "T_LONG"), (1, u "SOFT_MAX_ARRAY_LENGTH")] 83

def k13m0 : Method := { name := "<init>", desc := "()V", sig := { parameters := [], returnType := none }, accessFlags := 2, code := none }
/-- jdk/internal/util/ArraysSupport -/
def k13 : Class := { plain "jdk/internal/util/ArraysSupport" (some 0) with
  accessFlags := 33
  interfaces := #[]
  cf := some (fileOf pool13 21 #[] #[{ accessFlags := 2, nameIndex := 9, descriptorIndex := 19, attributes := #[] }] 33 16 #[] #[{ accessFlags := 24, nameIndex := 28, descriptorIndex := 29, attributes := #[] }, { accessFlags := 26, nameIndex := 38, descriptorIndex := 39, attributes := #[] }, { accessFlags := 25, nameIndex := 121, descriptorIndex := 25, attributes := #[] }, { accessFlags := 25, nameIndex := 131, descriptorIndex := 25, attributes := #[] }, { accessFlags := 25, nameIndex := 137, descriptorIndex := 25, attributes := #[] }, { accessFlags := 25, nameIndex := 143, descriptorIndex := 25, attributes := #[] }, { accessFlags := 25, nameIndex := 53, descriptorIndex := 25, attributes := #[] }, { accessFlags := 25, nameIndex := 24, descriptorIndex := 25, attributes := #[] }, { accessFlags := 25, nameIndex := 162, descriptorIndex := 25, attributes := #[] }, { accessFlags := 25, nameIndex := 187, descriptorIndex := 25, attributes := #[] }, { accessFlags := 26, nameIndex := 48, descriptorIndex := 25, attributes := #[] }, { accessFlags := 25, nameIndex := 277, descriptorIndex := 25, attributes := #[] }, { accessFlags := 25, nameIndex := 280, descriptorIndex := 25, attributes := #[] }, { accessFlags := 25, nameIndex := 282, descriptorIndex := 25, attributes := #[] }, { accessFlags := 25, nameIndex := 284, descriptorIndex := 25, attributes := #[] }, { accessFlags := 25, nameIndex := 286, descriptorIndex := 25, attributes := #[] }, { accessFlags := 25, nameIndex := 288, descriptorIndex := 25, attributes := #[] }, { accessFlags := 25, nameIndex := 290, descriptorIndex := 25, attributes := #[] }, { accessFlags := 25, nameIndex := 292, descriptorIndex := 25, attributes := #[] }, { accessFlags := 26, nameIndex := 108, descriptorIndex := 109, attributes := #[] }, { accessFlags := 25, nameIndex := 294, descriptorIndex := 25, attributes := #[] }])
  fields := #[{ name := "U", type := (.object "jdk/internal/misc/Unsafe"), accessFlags := 24, slot := 0, constantValue := 0 }, { name := "BIG_ENDIAN", type := .boolean, accessFlags := 26, slot := 1, constantValue := 0 }, { name := "LOG2_ARRAY_BOOLEAN_INDEX_SCALE", type := .int, accessFlags := 25, slot := 2, constantValue := 0 }, { name := "LOG2_ARRAY_BYTE_INDEX_SCALE", type := .int, accessFlags := 25, slot := 3, constantValue := 0 }, { name := "LOG2_ARRAY_CHAR_INDEX_SCALE", type := .int, accessFlags := 25, slot := 4, constantValue := 0 }, { name := "LOG2_ARRAY_SHORT_INDEX_SCALE", type := .int, accessFlags := 25, slot := 5, constantValue := 0 }, { name := "LOG2_ARRAY_INT_INDEX_SCALE", type := .int, accessFlags := 25, slot := 6, constantValue := 0 }, { name := "LOG2_ARRAY_LONG_INDEX_SCALE", type := .int, accessFlags := 25, slot := 7, constantValue := 0 }, { name := "LOG2_ARRAY_FLOAT_INDEX_SCALE", type := .int, accessFlags := 25, slot := 8, constantValue := 0 }, { name := "LOG2_ARRAY_DOUBLE_INDEX_SCALE", type := .int, accessFlags := 25, slot := 9, constantValue := 0 }, { name := "LOG2_BYTE_BIT_SIZE", type := .int, accessFlags := 26, slot := 10, constantValue := 0 }, { name := "T_BOOLEAN", type := .int, accessFlags := 25, slot := 11, constantValue := 0 }, { name := "T_CHAR", type := .int, accessFlags := 25, slot := 12, constantValue := 0 }, { name := "T_FLOAT", type := .int, accessFlags := 25, slot := 13, constantValue := 0 }, { name := "T_DOUBLE", type := .int, accessFlags := 25, slot := 14, constantValue := 0 }, { name := "T_BYTE", type := .int, accessFlags := 25, slot := 15, constantValue := 0 }, { name := "T_SHORT", type := .int, accessFlags := 25, slot := 16, constantValue := 0 }, { name := "T_INT", type := .int, accessFlags := 25, slot := 17, constantValue := 0 }, { name := "T_LONG", type := .int, accessFlags := 25, slot := 18, constantValue := 0 }, { name := "JLA", type := (.object "jdk/internal/access/JavaLangAccess"), accessFlags := 26, slot := 19, constantValue := 0 }, { name := "SOFT_MAX_ARRAY_LENGTH", type := .int, accessFlags := 25, slot := 20, constantValue := 0 }]
  methods := #[k13m0]
  instanceTypes := #[]
  staticTypes := #[(.object "jdk/internal/misc/Unsafe"), .boolean, .int, .int, .int, .int, .int, .int, .int, .int, .int, .int, .int, .int, .int, .int, .int, .int, .int, (.object "jdk/internal/access/JavaLangAccess"), .int]
  resolved := Array.replicate 378 none
  statics := none }

def pool14 : Array CpInfo := pool [(1, u "java/lang/Cloneable"), (0, .class_ 1), (0, u "java/lang/Object"), (0, .class_ 3)] 3

/-- java/lang/Cloneable -/
def k14 : Class := { plain "java/lang/Cloneable" (some 0) with
  accessFlags := 1537
  interfaces := #[]
  cf := some (fileOf pool14 2 #[] #[] 1537 4 #[] #[])
  fields := #[]
  methods := #[]
  instanceTypes := #[]
  staticTypes := #[]
  resolved := Array.replicate 8 none
  statics := none }

/-- the primitive byte -/
def k15 : Class := { plain "byte" none with kind := .primitive 'B', accessFlags := 0x411 }
/-- [B -/
def k16 : Class := { plain "[B" (some 0) with kind := .array 15 .byte, interfaces := #[14, 2], accessFlags := 1041 }

/-- the primitive char -/
def k17 : Class := { plain "char" none with kind := .primitive 'C', accessFlags := 0x411 }
/-- [C -/
def k18 : Class := { plain "[C" (some 0) with kind := .array 17 .char, interfaces := #[14, 2], accessFlags := 1041 }

/-- the primitive int -/
def k19 : Class := { plain "int" none with kind := .primitive 'I', accessFlags := 0x411 }
/-- [I -/
def k20 : Class := { plain "[I" (some 0) with kind := .array 19 .int, interfaces := #[14, 2], accessFlags := 1041 }

def heap : Heap := #[{ cls := 7, slots := #[.long 0, .int 1, .null, .int 0, .null, .int 0, .int 0], vm := .statics 7 },
  { cls := 9, slots := #[.ref 4], vm := .statics 9 },
  { cls := 10, slots := #[.int 0, .int 8, .int 0, .int 1], vm := .statics 10 },
  { cls := 12, slots := #[.null, .null, .null], vm := .statics 12 },
  { cls := 9, slots := #[.int 0, .int 0], vm := .none }]
def classes : Array Class := #[k0, k1, k2, k3, k4, k5, k6, k7, k8, k9, k10, k11, k12, k13, k14, k15, k16, k17, k18, k19, k20]
def interned : List (Array UInt16 × Addr) := []
def slotsUsed : Nat := 17
def theMethod : MethodId := ⟨1, 1⟩
def args0 : Array Value := #[.int 1, .long 7, .int 65, .int 0, .int 9]
def aboutOver (below : List Frame) : State where
  vm := { classes := classes, interned := interned.toArray }
  heap := heap
  slotsUsed := slotsUsed
  threads := #[{ frames := .invoking theMethod args0 :: below }]
def below0 : List Frame := [.native { method := ⟨0, 0⟩, args := #[] }]
def about1 : State := aboutOver below0
def p0 : Program := .bare "" "" ""
def e0 : Env := launch0.env 0 0 0
theorem w_frames : about1.frames = Frame.invoking theMethod args0 :: below0 := rfl
set_option maxRecDepth 65536 in
theorem w_args : argsFit about1.vm theMethod args0 = true := by decide +kernel
set_option maxRecDepth 65536 in
theorem w_heap : heapFits about1 = true := by decide +kernel
set_option maxRecDepth 65536 in
theorem w_runnable : about1.curStatus? = some .runnable := by decide +kernel
set_option maxRecDepth 65536 in
theorem w_alone : about1.alone = true := by decide +kernel
set_option maxRecDepth 65536 in
theorem w_named : about1.methodNamed? x = some theMethod := by decide +kernel
set_option maxRecDepth 65536 in
theorem w_hears : about1.hears theMethod below0 = true := by decide +kernel
set_option maxRecDepth 65536 in
theorem w_ripe : about1.ripe theMethod args0 below0 = true := by decide +kernel
theorem w_running : about1.status = .running := rfl
set_option maxRecDepth 65536 in
theorem w_room : about1.hasRoom e0.platform room_1 = true :=
  launch0.hasRoom_least _ room_1 (by decide +kernel) (by decide +kernel) (by decide +kernel) (by decide +kernel) (by decide +kernel) (by decide +kernel)
theorem allAtoms_all (ts : List Jvm.Cond) (a : Array Jvm.Value) (st : Jvm.State) : (allAtoms ts).before a st = ts.all (fun c => c.before a st) := by
  induction ts with
  | nil => rfl
  | cons c t ih =>
    show (Jvm.Cond.and c (allAtoms t)).before a st = _
    rw [Jvm.Cond.before_and, ih, List.all_cons]
def words1 : List Jvm.Cond := Jvm.Cond.code x code maxLocals ret :: tables_1
/-- a 'code' word, met by the world's own term for the bytes: nothing is compared byte by byte -/
theorem code_word {y : MethodName} {bytes : ByteArray} {mx : Nat} {rt : Option FieldType} {a : Array Value} {s : State} {m : MethodId} {meth : Method} {c : Code} (h1 : s.methodNamed? y = some m) (h2 : s.vm.method? m = some meth) (h3 : meth.code = some c) (h4 : c.code = bytes)
    (h5 : (c.maxLocals == mx && c.exceptionTable.isEmpty && decide (c.maxStack ≤ mostOperands) && decide (meth.sig.returnType = rt) && !meth.locks && decide (parseMethodDescriptor y.desc = some meth.sig)) = true) : (Jvm.Cond.code y bytes mx rt).before a s = true := by
  simp only [Bool.and_eq_true, beq_iff_eq, Bool.not_eq_true', decide_eq_true_eq] at h5
  obtain ⟨⟨⟨⟨⟨g1, g2⟩, g3⟩, g4⟩, g5⟩, g6⟩ := h5
  simp [Cond.before, Cond.holds, Cond.value, h1, h2, h3, h4, g1, g2, g3, g4, g5, g6]
def isCode : Jvm.Cond → Bool
  | .code _ _ _ _ => true
  | _ => false
theorem all_split {L : List Jvm.Cond} {P : Jvm.Cond → Bool} (h1 : L.all (fun c => isCode c || P c) = true) (h2 : ∀ c ∈ L.filter isCode, P c = true) : L.all P = true := by
  refine List.all_eq_true.mpr fun c hc => ?_
  have h := List.all_eq_true.mp h1 c hc
  rcases Bool.eq_false_or_eq_true (isCode c) with hi | hi
  · exact h2 c (List.mem_filter.mpr ⟨hc, hi⟩)
  · simpa [hi] using h
set_option maxRecDepth 65536 in
theorem w_c0 : (Jvm.Cond.code x code maxLocals ret).before args0 about1 = true := code_word (m := ⟨1, 1⟩) (meth := k1m1) (c := k1c1) (by decide +kernel) rfl rfl rfl (by decide +kernel)
set_option maxRecDepth 65536 in
theorem w_c1 : (Jvm.Cond.code ({ cls := "com/example/federate/federate/WholeNumbersParsePinLaw", name := "nib", desc := "(JI)I" } : Jvm.MethodName) method_3_code (3 : Nat) (Option.some Jvm.ClassFile.FieldType.int)).before args0 about1 = true := code_word (m := ⟨1, 2⟩) (meth := k1m2) (c := k1c2) (by decide +kernel) rfl rfl rfl (by decide +kernel)
set_option maxRecDepth 65536 in
theorem w_c2 : (Jvm.Cond.code ({ cls := "com/example/federate/federate/WholeNumbersParsePinLaw", name := "ch", desc := "(IIZ)C" } : Jvm.MethodName) method_4_code (3 : Nat) (Option.some Jvm.ClassFile.FieldType.char)).before args0 about1 = true := code_word (m := ⟨1, 3⟩) (meth := k1m3) (c := k1c3) (by decide +kernel) rfl rfl rfl (by decide +kernel)
set_option maxRecDepth 65536 in
theorem w_c3 : (Jvm.Cond.code ({ cls := "com/example/federate/federate/WholeNumbersParsePinLaw", name := "text", desc := "(I[C)Ljava/lang/String;" } : Jvm.MethodName) method_6_code (2 : Nat) (Option.some (Jvm.ClassFile.FieldType.object "java/lang/String"))).before args0 about1 = true := code_word (m := ⟨1, 5⟩) (meth := k1m5) (c := k1c5) (by decide +kernel) rfl rfl rfl (by decide +kernel)
set_option maxRecDepth 65536 in
theorem w_c4 : (Jvm.Cond.code ({ cls := "java/lang/String", name := "<init>", desc := "([C)V" } : Jvm.MethodName) jdk_42_method_3_code (2 : Nat) (Option.none : Option Jvm.ClassFile.FieldType)).before args0 about1 = true := code_word (m := ⟨7, 1⟩) (meth := k7m1) (c := k7c1) (by decide +kernel) rfl rfl rfl (by decide +kernel)
set_option maxRecDepth 65536 in
theorem w_c5 : (Jvm.Cond.code ({ cls := "java/lang/String", name := "<init>", desc := "([CIILjava/lang/Void;)V" } : Jvm.MethodName) jdk_42_method_149_code (6 : Nat) (Option.none : Option Jvm.ClassFile.FieldType)).before args0 about1 = true := code_word (m := ⟨7, 5⟩) (meth := k7m5) (c := k7c5) (by decide +kernel) rfl rfl rfl (by decide +kernel)
set_option maxRecDepth 65536 in
theorem w_c6 : (Jvm.Cond.code ({ cls := "java/lang/Object", name := "<init>", desc := "()V" } : Jvm.MethodName) object_method_1_code (1 : Nat) (Option.none : Option Jvm.ClassFile.FieldType)).before args0 about1 = true := code_word (m := ⟨0, 0⟩) (meth := k0m0) (c := k0c0) (by decide +kernel) rfl rfl rfl (by decide +kernel)
set_option maxRecDepth 65536 in
theorem w_c7 : (Jvm.Cond.code ({ cls := "com/example/federate/federate/WholeNumbersParsePinLaw", name := "acc", desc := "(J[CII)J" } : Jvm.MethodName) method_5_code (6 : Nat) (Option.some Jvm.ClassFile.FieldType.long)).before args0 about1 = true := code_word (m := ⟨1, 4⟩) (meth := k1m4) (c := k1c4) (by decide +kernel) rfl rfl rfl (by decide +kernel)
set_option maxRecDepth 65536 in
theorem w_c8 : (Jvm.Cond.code ({ cls := "com/example/federate/federate/WholeNumbers", name := "parse", desc := "(Ljava/lang/String;II)Ljava/util/OptionalInt;" } : Jvm.MethodName) prog_17_method_2_code (7 : Nat) (Option.some (Jvm.ClassFile.FieldType.object "java/util/OptionalInt"))).before args0 about1 = true := code_word (m := ⟨8, 1⟩) (meth := k8m1) (c := k8c1) (by decide +kernel) rfl rfl rfl (by decide +kernel)
set_option maxRecDepth 65536 in
theorem w_c9 : (Jvm.Cond.code ({ cls := "java/lang/String", name := "isEmpty", desc := "()Z" } : Jvm.MethodName) jdk_42_method_55_code (1 : Nat) (Option.some Jvm.ClassFile.FieldType.boolean)).before args0 about1 = true := code_word (m := ⟨7, 3⟩) (meth := k7m3) (c := k7c3) (by decide +kernel) rfl rfl rfl (by decide +kernel)
set_option maxRecDepth 65536 in
theorem w_c10 : (Jvm.Cond.code ({ cls := "java/util/OptionalInt", name := "empty", desc := "()Ljava/util/OptionalInt;" } : Jvm.MethodName) jdk_2649_method_2_code (0 : Nat) (Option.some (Jvm.ClassFile.FieldType.object "java/util/OptionalInt"))).before args0 about1 = true := code_word (m := ⟨9, 1⟩) (meth := k9m1) (c := k9c1) (by decide +kernel) rfl rfl rfl (by decide +kernel)
set_option maxRecDepth 65536 in
theorem w_c11 : (Jvm.Cond.code ({ cls := "java/util/OptionalInt", name := "isPresent", desc := "()Z" } : Jvm.MethodName) jdk_2649_method_6_code (1 : Nat) (Option.some Jvm.ClassFile.FieldType.boolean)).before args0 about1 = true := code_word (m := ⟨9, 5⟩) (meth := k9m5) (c := k9c5) (by decide +kernel) rfl rfl rfl (by decide +kernel)
set_option maxRecDepth 65536 in
theorem w_c12 : (Jvm.Cond.code ({ cls := "java/lang/StringUTF16", name := "compress", desc := "([CII)[B" } : Jvm.MethodName) jdk_52_method_16_code (6 : Nat) (Option.some (Jvm.ClassFile.FieldType.array Jvm.ClassFile.FieldType.byte))).before args0 about1 = true := code_word (m := ⟨10, 8⟩) (meth := k10m8) (c := k10c8) (by decide +kernel) rfl rfl rfl (by decide +kernel)
set_option maxRecDepth 65536 in
theorem w_c13 : (Jvm.Cond.code ({ cls := "java/lang/StringUTF16", name := "compress", desc := "([CI[BII)I" } : Jvm.MethodName) jdk_52_method_21_code (7 : Nat) (Option.some Jvm.ClassFile.FieldType.int)).before args0 about1 = true := code_word (m := ⟨10, 9⟩) (meth := k10m9) (c := k10c9) (by decide +kernel) rfl rfl rfl (by decide +kernel)
set_option maxRecDepth 65536 in
theorem w_c14 : (Jvm.Cond.code ({ cls := "java/lang/StringUTF16", name := "coderFromArrayLen", desc := "([BI)B" } : Jvm.MethodName) jdk_52_method_15_code (2 : Nat) (Option.some Jvm.ClassFile.FieldType.byte)).before args0 about1 = true := code_word (m := ⟨10, 7⟩) (meth := k10m7) (c := k10c7) (by decide +kernel) rfl rfl rfl (by decide +kernel)
set_option maxRecDepth 65536 in
theorem w_c15 : (Jvm.Cond.code ({ cls := "java/lang/String", name := "length", desc := "()I" } : Jvm.MethodName) jdk_42_method_54_code (1 : Nat) (Option.some Jvm.ClassFile.FieldType.int)).before args0 about1 = true := code_word (m := ⟨7, 2⟩) (meth := k7m2) (c := k7c2) (by decide +kernel) rfl rfl rfl (by decide +kernel)
set_option maxRecDepth 65536 in
theorem w_c16 : (Jvm.Cond.code ({ cls := "java/lang/String", name := "coder", desc := "()B" } : Jvm.MethodName) jdk_42_method_152_code (1 : Nat) (Option.some Jvm.ClassFile.FieldType.byte)).before args0 about1 = true := code_word (m := ⟨7, 6⟩) (meth := k7m6) (c := k7c6) (by decide +kernel) rfl rfl rfl (by decide +kernel)
set_option maxRecDepth 65536 in
theorem w_c17 : (Jvm.Cond.code ({ cls := "java/lang/String", name := "charAt", desc := "(I)C" } : Jvm.MethodName) jdk_42_method_56_code (2 : Nat) (Option.some Jvm.ClassFile.FieldType.char)).before args0 about1 = true := code_word (m := ⟨7, 4⟩) (meth := k7m4) (c := k7c4) (by decide +kernel) rfl rfl rfl (by decide +kernel)
set_option maxRecDepth 65536 in
theorem w_c18 : (Jvm.Cond.code ({ cls := "java/lang/String", name := "isLatin1", desc := "()Z" } : Jvm.MethodName) jdk_42_method_154_code (1 : Nat) (Option.some Jvm.ClassFile.FieldType.boolean)).before args0 about1 = true := code_word (m := ⟨7, 7⟩) (meth := k7m7) (c := k7c7) (by decide +kernel) rfl rfl rfl (by decide +kernel)
set_option maxRecDepth 65536 in
theorem w_c19 : (Jvm.Cond.code ({ cls := "java/lang/StringLatin1", name := "charAt", desc := "([BI)C" } : Jvm.MethodName) jdk_43_method_2_code (2 : Nat) (Option.some Jvm.ClassFile.FieldType.char)).before args0 about1 = true := code_word (m := ⟨11, 1⟩) (meth := k11m1) (c := k11c1) (by decide +kernel) rfl rfl rfl (by decide +kernel)
set_option maxRecDepth 65536 in
theorem w_c20 : (Jvm.Cond.code ({ cls := "java/lang/String", name := "checkIndex", desc := "(II)V" } : Jvm.MethodName) jdk_42_method_155_code (2 : Nat) (Option.none : Option Jvm.ClassFile.FieldType)).before args0 about1 = true := code_word (m := ⟨7, 8⟩) (meth := k7m8) (c := k7c8) (by decide +kernel) rfl rfl rfl (by decide +kernel)
set_option maxRecDepth 65536 in
theorem w_c21 : (Jvm.Cond.code ({ cls := "jdk/internal/util/Preconditions", name := "checkIndex", desc := "(IILjava/util/function/BiFunction;)I" } : Jvm.MethodName) jdk_41_method_11_code (3 : Nat) (Option.some Jvm.ClassFile.FieldType.int)).before args0 about1 = true := code_word (m := ⟨12, 1⟩) (meth := k12m1) (c := k12c1) (by decide +kernel) rfl rfl rfl (by decide +kernel)
set_option maxRecDepth 65536 in
theorem w_c22 : (Jvm.Cond.code ({ cls := "java/lang/StringUTF16", name := "toBytes", desc := "([CII)[B" } : Jvm.MethodName) jdk_52_method_14_code (5 : Nat) (Option.some (Jvm.ClassFile.FieldType.array Jvm.ClassFile.FieldType.byte))).before args0 about1 = true := code_word (m := ⟨10, 6⟩) (meth := k10m6) (c := k10c6) (by decide +kernel) rfl rfl rfl (by decide +kernel)
set_option maxRecDepth 65536 in
theorem w_c23 : (Jvm.Cond.code ({ cls := "java/lang/StringUTF16", name := "newBytesFor", desc := "(I)[B" } : Jvm.MethodName) jdk_52_method_2_code (1 : Nat) (Option.some (Jvm.ClassFile.FieldType.array Jvm.ClassFile.FieldType.byte))).before args0 about1 = true := code_word (m := ⟨10, 1⟩) (meth := k10m1) (c := k10c1) (by decide +kernel) rfl rfl rfl (by decide +kernel)
set_option maxRecDepth 65536 in
theorem w_c24 : (Jvm.Cond.code ({ cls := "java/lang/StringUTF16", name := "newBytesLength", desc := "(I)I" } : Jvm.MethodName) jdk_52_method_3_code (1 : Nat) (Option.some Jvm.ClassFile.FieldType.int)).before args0 about1 = true := code_word (m := ⟨10, 2⟩) (meth := k10m2) (c := k10c2) (by decide +kernel) rfl rfl rfl (by decide +kernel)
set_option maxRecDepth 65536 in
theorem w_c25 : (Jvm.Cond.code ({ cls := "java/lang/StringUTF16", name := "putChar", desc := "([BII)V" } : Jvm.MethodName) jdk_52_method_4_code (3 : Nat) (Option.none : Option Jvm.ClassFile.FieldType)).before args0 about1 = true := code_word (m := ⟨10, 3⟩) (meth := k10m3) (c := k10c3) (by decide +kernel) rfl rfl rfl (by decide +kernel)
set_option maxRecDepth 65536 in
theorem w_c26 : (Jvm.Cond.code ({ cls := "java/lang/StringUTF16", name := "getChar", desc := "([BI)C" } : Jvm.MethodName) jdk_52_method_5_code (2 : Nat) (Option.some Jvm.ClassFile.FieldType.char)).before args0 about1 = true := code_word (m := ⟨10, 4⟩) (meth := k10m4) (c := k10c4) (by decide +kernel) rfl rfl rfl (by decide +kernel)
set_option maxRecDepth 65536 in
theorem w_c27 : (Jvm.Cond.code ({ cls := "java/lang/StringUTF16", name := "charAt", desc := "([BI)C" } : Jvm.MethodName) jdk_52_method_83_code (2 : Nat) (Option.some Jvm.ClassFile.FieldType.char)).before args0 about1 = true := code_word (m := ⟨10, 10⟩) (meth := k10m10) (c := k10c10) (by decide +kernel) rfl rfl rfl (by decide +kernel)
set_option maxRecDepth 65536 in
theorem w_c28 : (Jvm.Cond.code ({ cls := "java/lang/StringUTF16", name := "checkIndex", desc := "(I[B)V" } : Jvm.MethodName) jdk_52_method_91_code (2 : Nat) (Option.none : Option Jvm.ClassFile.FieldType)).before args0 about1 = true := code_word (m := ⟨10, 11⟩) (meth := k10m11) (c := k10c11) (by decide +kernel) rfl rfl rfl (by decide +kernel)
set_option maxRecDepth 65536 in
theorem w_c29 : (Jvm.Cond.code ({ cls := "java/lang/StringUTF16", name := "length", desc := "([B)I" } : Jvm.MethodName) jdk_52_method_6_code (1 : Nat) (Option.some Jvm.ClassFile.FieldType.int)).before args0 about1 = true := code_word (m := ⟨10, 5⟩) (meth := k10m5) (c := k10c5) (by decide +kernel) rfl rfl rfl (by decide +kernel)
set_option maxRecDepth 65536 in
theorem w_c30 : (Jvm.Cond.code ({ cls := "java/util/OptionalInt", name := "of", desc := "(I)Ljava/util/OptionalInt;" } : Jvm.MethodName) jdk_2649_method_4_code (1 : Nat) (Option.some (Jvm.ClassFile.FieldType.object "java/util/OptionalInt"))).before args0 about1 = true := code_word (m := ⟨9, 3⟩) (meth := k9m3) (c := k9c3) (by decide +kernel) rfl rfl rfl (by decide +kernel)
set_option maxRecDepth 65536 in
theorem w_c31 : (Jvm.Cond.code ({ cls := "java/util/OptionalInt", name := "<init>", desc := "(I)V" } : Jvm.MethodName) jdk_2649_method_3_code (2 : Nat) (Option.none : Option Jvm.ClassFile.FieldType)).before args0 about1 = true := code_word (m := ⟨9, 2⟩) (meth := k9m2) (c := k9c2) (by decide +kernel) rfl rfl rfl (by decide +kernel)
set_option maxRecDepth 65536 in
theorem w_c32 : (Jvm.Cond.code ({ cls := "java/util/OptionalInt", name := "getAsInt", desc := "()I" } : Jvm.MethodName) jdk_2649_method_5_code (1 : Nat) (Option.some Jvm.ClassFile.FieldType.int)).before args0 about1 = true := code_word (m := ⟨9, 4⟩) (meth := k9m4) (c := k9c4) (by decide +kernel) rfl rfl rfl (by decide +kernel)
def codes1 : List Jvm.Cond := [Jvm.Cond.code x code maxLocals ret, Jvm.Cond.code ({ cls := "com/example/federate/federate/WholeNumbersParsePinLaw", name := "nib", desc := "(JI)I" } : Jvm.MethodName) method_3_code (3 : Nat) (Option.some Jvm.ClassFile.FieldType.int), Jvm.Cond.code ({ cls := "com/example/federate/federate/WholeNumbersParsePinLaw", name := "ch", desc := "(IIZ)C" } : Jvm.MethodName) method_4_code (3 : Nat) (Option.some Jvm.ClassFile.FieldType.char), Jvm.Cond.code ({ cls := "com/example/federate/federate/WholeNumbersParsePinLaw", name := "text", desc := "(I[C)Ljava/lang/String;" } : Jvm.MethodName) method_6_code (2 : Nat) (Option.some (Jvm.ClassFile.FieldType.object "java/lang/String")), Jvm.Cond.code ({ cls := "java/lang/String", name := "<init>", desc := "([C)V" } : Jvm.MethodName) jdk_42_method_3_code (2 : Nat) (Option.none : Option Jvm.ClassFile.FieldType), Jvm.Cond.code ({ cls := "java/lang/String", name := "<init>", desc := "([CIILjava/lang/Void;)V" } : Jvm.MethodName) jdk_42_method_149_code (6 : Nat) (Option.none : Option Jvm.ClassFile.FieldType), Jvm.Cond.code ({ cls := "java/lang/Object", name := "<init>", desc := "()V" } : Jvm.MethodName) object_method_1_code (1 : Nat) (Option.none : Option Jvm.ClassFile.FieldType), Jvm.Cond.code ({ cls := "com/example/federate/federate/WholeNumbersParsePinLaw", name := "acc", desc := "(J[CII)J" } : Jvm.MethodName) method_5_code (6 : Nat) (Option.some Jvm.ClassFile.FieldType.long), Jvm.Cond.code ({ cls := "com/example/federate/federate/WholeNumbers", name := "parse", desc := "(Ljava/lang/String;II)Ljava/util/OptionalInt;" } : Jvm.MethodName) prog_17_method_2_code (7 : Nat) (Option.some (Jvm.ClassFile.FieldType.object "java/util/OptionalInt")), Jvm.Cond.code ({ cls := "java/lang/String", name := "isEmpty", desc := "()Z" } : Jvm.MethodName) jdk_42_method_55_code (1 : Nat) (Option.some Jvm.ClassFile.FieldType.boolean), Jvm.Cond.code ({ cls := "java/util/OptionalInt", name := "empty", desc := "()Ljava/util/OptionalInt;" } : Jvm.MethodName) jdk_2649_method_2_code (0 : Nat) (Option.some (Jvm.ClassFile.FieldType.object "java/util/OptionalInt")), Jvm.Cond.code ({ cls := "java/util/OptionalInt", name := "isPresent", desc := "()Z" } : Jvm.MethodName) jdk_2649_method_6_code (1 : Nat) (Option.some Jvm.ClassFile.FieldType.boolean), Jvm.Cond.code ({ cls := "java/lang/StringUTF16", name := "compress", desc := "([CII)[B" } : Jvm.MethodName) jdk_52_method_16_code (6 : Nat) (Option.some (Jvm.ClassFile.FieldType.array Jvm.ClassFile.FieldType.byte)), Jvm.Cond.code ({ cls := "java/lang/StringUTF16", name := "compress", desc := "([CI[BII)I" } : Jvm.MethodName) jdk_52_method_21_code (7 : Nat) (Option.some Jvm.ClassFile.FieldType.int), Jvm.Cond.code ({ cls := "java/lang/StringUTF16", name := "coderFromArrayLen", desc := "([BI)B" } : Jvm.MethodName) jdk_52_method_15_code (2 : Nat) (Option.some Jvm.ClassFile.FieldType.byte), Jvm.Cond.code ({ cls := "java/lang/String", name := "length", desc := "()I" } : Jvm.MethodName) jdk_42_method_54_code (1 : Nat) (Option.some Jvm.ClassFile.FieldType.int), Jvm.Cond.code ({ cls := "java/lang/String", name := "coder", desc := "()B" } : Jvm.MethodName) jdk_42_method_152_code (1 : Nat) (Option.some Jvm.ClassFile.FieldType.byte), Jvm.Cond.code ({ cls := "java/lang/String", name := "charAt", desc := "(I)C" } : Jvm.MethodName) jdk_42_method_56_code (2 : Nat) (Option.some Jvm.ClassFile.FieldType.char), Jvm.Cond.code ({ cls := "java/lang/String", name := "isLatin1", desc := "()Z" } : Jvm.MethodName) jdk_42_method_154_code (1 : Nat) (Option.some Jvm.ClassFile.FieldType.boolean), Jvm.Cond.code ({ cls := "java/lang/StringLatin1", name := "charAt", desc := "([BI)C" } : Jvm.MethodName) jdk_43_method_2_code (2 : Nat) (Option.some Jvm.ClassFile.FieldType.char), Jvm.Cond.code ({ cls := "java/lang/String", name := "checkIndex", desc := "(II)V" } : Jvm.MethodName) jdk_42_method_155_code (2 : Nat) (Option.none : Option Jvm.ClassFile.FieldType), Jvm.Cond.code ({ cls := "jdk/internal/util/Preconditions", name := "checkIndex", desc := "(IILjava/util/function/BiFunction;)I" } : Jvm.MethodName) jdk_41_method_11_code (3 : Nat) (Option.some Jvm.ClassFile.FieldType.int), Jvm.Cond.code ({ cls := "java/lang/StringUTF16", name := "toBytes", desc := "([CII)[B" } : Jvm.MethodName) jdk_52_method_14_code (5 : Nat) (Option.some (Jvm.ClassFile.FieldType.array Jvm.ClassFile.FieldType.byte)), Jvm.Cond.code ({ cls := "java/lang/StringUTF16", name := "newBytesFor", desc := "(I)[B" } : Jvm.MethodName) jdk_52_method_2_code (1 : Nat) (Option.some (Jvm.ClassFile.FieldType.array Jvm.ClassFile.FieldType.byte)), Jvm.Cond.code ({ cls := "java/lang/StringUTF16", name := "newBytesLength", desc := "(I)I" } : Jvm.MethodName) jdk_52_method_3_code (1 : Nat) (Option.some Jvm.ClassFile.FieldType.int), Jvm.Cond.code ({ cls := "java/lang/StringUTF16", name := "putChar", desc := "([BII)V" } : Jvm.MethodName) jdk_52_method_4_code (3 : Nat) (Option.none : Option Jvm.ClassFile.FieldType), Jvm.Cond.code ({ cls := "java/lang/StringUTF16", name := "getChar", desc := "([BI)C" } : Jvm.MethodName) jdk_52_method_5_code (2 : Nat) (Option.some Jvm.ClassFile.FieldType.char), Jvm.Cond.code ({ cls := "java/lang/StringUTF16", name := "charAt", desc := "([BI)C" } : Jvm.MethodName) jdk_52_method_83_code (2 : Nat) (Option.some Jvm.ClassFile.FieldType.char), Jvm.Cond.code ({ cls := "java/lang/StringUTF16", name := "checkIndex", desc := "(I[B)V" } : Jvm.MethodName) jdk_52_method_91_code (2 : Nat) (Option.none : Option Jvm.ClassFile.FieldType), Jvm.Cond.code ({ cls := "java/lang/StringUTF16", name := "length", desc := "([B)I" } : Jvm.MethodName) jdk_52_method_6_code (1 : Nat) (Option.some Jvm.ClassFile.FieldType.int), Jvm.Cond.code ({ cls := "java/util/OptionalInt", name := "of", desc := "(I)Ljava/util/OptionalInt;" } : Jvm.MethodName) jdk_2649_method_4_code (1 : Nat) (Option.some (Jvm.ClassFile.FieldType.object "java/util/OptionalInt")), Jvm.Cond.code ({ cls := "java/util/OptionalInt", name := "<init>", desc := "(I)V" } : Jvm.MethodName) jdk_2649_method_3_code (2 : Nat) (Option.none : Option Jvm.ClassFile.FieldType), Jvm.Cond.code ({ cls := "java/util/OptionalInt", name := "getAsInt", desc := "()I" } : Jvm.MethodName) jdk_2649_method_5_code (1 : Nat) (Option.some Jvm.ClassFile.FieldType.int)]
set_option maxRecDepth 65536 in
theorem codes_eq : words1.filter isCode = codes1 := rfl
theorem w_codes : ∀ c ∈ words1.filter isCode, c.before args0 about1 = true := by
  rw [codes_eq]
  intro c hc
  simp only [codes1, List.mem_cons, List.not_mem_nil, or_false] at hc
  rcases hc with rfl | rfl | rfl | rfl | rfl | rfl | rfl | rfl | rfl | rfl | rfl | rfl | rfl | rfl | rfl | rfl | rfl | rfl | rfl | rfl | rfl | rfl | rfl | rfl | rfl | rfl | rfl | rfl | rfl | rfl | rfl | rfl | rfl
  · exact w_c0
  · exact w_c1
  · exact w_c2
  · exact w_c3
  · exact w_c4
  · exact w_c5
  · exact w_c6
  · exact w_c7
  · exact w_c8
  · exact w_c9
  · exact w_c10
  · exact w_c11
  · exact w_c12
  · exact w_c13
  · exact w_c14
  · exact w_c15
  · exact w_c16
  · exact w_c17
  · exact w_c18
  · exact w_c19
  · exact w_c20
  · exact w_c21
  · exact w_c22
  · exact w_c23
  · exact w_c24
  · exact w_c25
  · exact w_c26
  · exact w_c27
  · exact w_c28
  · exact w_c29
  · exact w_c30
  · exact w_c31
  · exact w_c32
set_option maxRecDepth 65536 in
theorem w_t1 : (words1.take 24).all (fun c => isCode c || c.before args0 about1) = true := by decide +kernel
set_option maxRecDepth 65536 in
theorem w_t2 : ((words1.drop 24).take 24).all (fun c => isCode c || c.before args0 about1) = true := by decide +kernel
set_option maxRecDepth 65536 in
theorem w_t3 : (((words1.drop 24).drop 24).take 24).all (fun c => isCode c || c.before args0 about1) = true := by decide +kernel
set_option maxRecDepth 65536 in
theorem w_t4 : ((((words1.drop 24).drop 24).drop 24).take 24).all (fun c => isCode c || c.before args0 about1) = true := by decide +kernel
set_option maxRecDepth 65536 in
theorem w_t5 : (((((words1.drop 24).drop 24).drop 24).drop 24).take 24).all (fun c => isCode c || c.before args0 about1) = true := by decide +kernel
set_option maxRecDepth 65536 in
theorem w_t6 : ((((((words1.drop 24).drop 24).drop 24).drop 24).drop 24).take 24).all (fun c => isCode c || c.before args0 about1) = true := by decide +kernel
set_option maxRecDepth 65536 in
theorem w_t7 : ((((((words1.drop 24).drop 24).drop 24).drop 24).drop 24).drop 24).all (fun c => isCode c || c.before args0 about1) = true := by decide +kernel
theorem w_tables : (allAtoms (Jvm.Cond.code x code maxLocals ret :: tables_1)).before args0 about1 = true := by
  rw [allAtoms_all]
  show words1.all (fun c => c.before args0 about1) = true
  refine all_split ?_ w_codes
  rw [← List.take_append_drop 24 words1, List.all_append, w_t1, ← List.take_append_drop 24 (words1.drop 24), List.all_append, w_t2, ← List.take_append_drop 24 ((words1.drop 24).drop 24), List.all_append, w_t3, ← List.take_append_drop 24 (((words1.drop 24).drop 24).drop 24), List.all_append, w_t4, ← List.take_append_drop 24 ((((words1.drop 24).drop 24).drop 24).drop 24), List.all_append, w_t5, ← List.take_append_drop 24 (((((words1.drop 24).drop 24).drop 24).drop 24).drop 24), List.all_append, w_t6, w_t7]
  rfl
set_option maxRecDepth 65536 in
theorem w_rest : rest_1_c.before args0 about1 = true := by decide +kernel
set_option maxRecDepth 65536 in
theorem w_case : (Jvm.Cond.and given_1 narrow_1).before args0 about1 = true := by decide +kernel
set_option maxRecDepth 65536 in
theorem w_consts : constsHeld consts_1 about1 := Jvm.Lit.constsHeldB_iff.mp (by decide +kernel)
theorem w_applies : (headSpec (Jvm.Cond.code x code maxLocals ret :: tables_1) room_1).applies x e0.platform about1 = true :=
  (Spec.applies_iff w_frames).mpr ⟨w_running, w_runnable, w_alone, w_named, w_hears, w_ripe, w_room, w_tables⟩
theorem atStart : AtStart classFile x code maxLocals ret World_1 tables_1 room_1 Calls_1 rest_1 Pre_1 launch0 p0 e0 about1 theMethod args0 below0 :=
  ⟨lists_1, trivial, launch0.admits_env _ _ _, launch0.least_env, fairChoices_fair.cas, fairChoices_fair.clock, w_frames, w_args, w_heap, w_applies, ⟨w_consts, trivial⟩, w_rest, w_case⟩
end start1
theorem witness_1 : WitnessClaimed_1 := ⟨start1.p0, start1.e0, start1.about1, start1.theMethod, start1.args0, start1.below0, start1.atStart⟩
end Jvm.Pilot.@@N@@
