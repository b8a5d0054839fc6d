import JvmDerived
import JvmDerived.Pilot.@@N@@Statement
import JvmDerived.Pilot.@@N@@Code
set_option linter.unusedVariables false
set_option linter.unusedSimpArgs false
namespace Jvm.Pilot.@@N@@
open Jvm Jvm.ClassFile Sem Op Lib Jvm.Free Jvm.Stand Jvm.LawKit Jvm.RoadKit Bundle Jvm.Pilot.@@N@@.Jvm.D
section GoKit
variable {p : Program} {l : Launch} {e : Env} {R : Room} {s : State} {m : MethodId} {args : Array Value} {below : List Frame} {meth : Method} {c : Code} {T T' : State} {locs : List Loc} {cells slots : Nat} {Z : State} {a0 : Array Value} {h h' : Heap} {G : Outcome → State → Prop} {g g' : JFrame}
/-- from here the run comes to an end of which G speaks -/
def Go (p : Program) (e : Env) (below : List Frame) (G : Outcome → State → Prop) (T : State) (g : JFrame) : Prop :=
  ∃ s₂ o, Steps p.tables e below (T.setTop g) s₂ ∧ s₂.status = .running ∧ Ended s₂ below o ∧ G o s₂
theorem Go.st (st : ∀ t, Steps p.tables e below (T'.setTop g') t → Steps p.tables e below (T.setTop g) t) (k : Go p e below G T' g') : Go p e below G T g := by
  obtain ⟨s₂, o, q, r⟩ := k; exact ⟨s₂, o, st _ q, r⟩
theorem Go.tr (st : Steps p.tables e below (T.setTop g) (T'.setTop g')) (k : Go p e below G T' g') : Go p e below G T g := by
  obtain ⟨s₂, o, q, r⟩ := k; exact ⟨s₂, o, st.trans q, r⟩
theorem Go.cast (q : g = g') (k : Go p e below G T g') : Go p e below G T g := q ▸ k
/-- a narrow end: it returned v, the heap and the written places meet Q -/
def EndQ (s : State) (Q : Option Value → Heap → List Loc → Prop) (kc ks : Nat) (o : Outcome) (t : State) : Prop := ∃ v L, o = .returned v ∧ Q v t.heap L ∧ FrameEnd s o t L kc ks
theorem Go.done (X : Stand p l e R s m args below meth c T locs cells slots) {Q : Option Value → Heap → List Loc → Prop} {kc ks : Nat} {v : Option Value} (hv : meth.sig.returnType = none → v = none) (hlk : meth.locks = false)
    (fin : ∀ fs, (∀ (f : JFrame) (acts : List Action), f.method = m → f.locked = none → f.entered = [] → (doReturn e (T.setTop f) acts v).1 = T.setFrames fs) → Steps p.tables e below (T.setTop g) (T.setFrames fs))
    (hQ : Q v T.heap locs) (hc : cells ≤ kc) (hs : slots ≤ ks) : Go p e below (EndQ s Q kc ks) T g := by
  obtain ⟨fs, hr, hrun, hended, hW, hsame⟩ := X.leave hv hlk
  exact ⟨_, _, fin fs hr, hrun, hended, v, locs, rfl, hQ, ⟨v, rfl⟩, hW, hsame.mono hc hs⟩
def Ctr (l : Launch) (Z : State) (y : MethodName) (bytes : ByteArray) (maxL : Nat) (ret : Option FieldType) (ws : List Jvm.Cond) (rm : Room) (as' : Array Value) (h0 : Heap) (Q : Option Value → Heap → List Loc → Prop) : Prop :=
  MetFree l y (head1 (Jvm.Cond.code y bytes maxL ret :: ws) rm) (fun a U => a = as' ∧ Z.Warmed39 U.vm ∧ U.heap = h0) (fun _ _ _ _ _ => True) (fun _ U o U' => ∃ v L, o = .returned v ∧ Q v U'.heap L ∧ FrameEnd U o U' L rm.cells rm.slots)
theorem Ctr.of {y : MethodName} {bytes : ByteArray} {maxL : Nat} {ret : Option FieldType} {ws : List Jvm.Cond} {rm : Room} {as' : Array Value} {h0 : Heap} {Q : Option Value → Heap → List Loc → Prop} (hpf : plainFor y = true)
    (body : ∀ p e s m below meth c s₁, p.tables.exec = Jvm.exec → c.code = bytes → c.maxLocals = maxL → s.vm.findClass y.cls = some m.cls → meth.name = y.name → meth.sig.returnType = ret → meth.locks = false → Z.Warmed39 s.vm →
      Stand p l e rm s m as' below meth c s₁ [] 0 0 → s₁.heap = h0 → Go p e below (EndQ s Q rm.cells rm.slots) s₁ (entryFrame m as' maxL)) : Ctr l Z y bytes maxL ret ws rm as' h0 Q := by
  refine MetFree.of_bodySF hpf hisR ?_
  intro p e s m args below meth c s₁ Bd hml0 hP hK
  obtain ⟨rfl, hZ, hh⟩ := hP
  exact body p e s m below meth c s₁ Bd.exec Bd.bytes hml0 (findClass_of_methodNamed Bd.named) (name_of_methodNamed Bd.named Bd.method).1 Bd.returns Bd.notSynchronized hZ (Stand.of_body Bd) (by rw [← hh, Bd.state]; rfl)
abbrev BackQ (l : Launch) (R : Room) (p : Program) (e : Env) (below : List Frame) (s : State) (args : Array Value) (y : MethodName) (W : Nat) (as' : Array Value) (h : Heap) (kc ks : Nat) (Q : Option Value → Heap → List Loc → Prop) : Prop :=
  Back l R p e below s args y 3 W (fun A a => a = as' ∧ A.U.heap = h ∧ A.cells + kc ≤ R.cells ∧ A.slots + ks ≤ R.slots) (fun A _ v B => ∃ L, Q v B.U.heap L ∧ B.locs = A.locs ++ L ∧ B.cells = A.cells + kc ∧ B.slots = A.slots + ks)
theorem Ctr.back {y : MethodName} {bytes : ByteArray} {maxL W : Nat} {ret : Option FieldType} {rm : Room} {as' : Array Value} {Q : Option Value → Heap → List Loc → Prop} (hM : Ctr l Z y bytes maxL ret [] rm as' h Q)
    (hZ : Z.Warmed39 s.vm) (wc : (Jvm.Cond.code y bytes maxL ret).before a0 Z = true) (wz : (Jvm.Cond.initialized y.cls).before a0 Z = true) (hf : rm.frames + 1 ≤ R.frames) (hl : W + (maxL + 11) + rm.locals ≤ R.locals) :
    BackQ l R p e below s args y W as' h rm.cells rm.slots Q := backOf hM hZ wc wz hf hl
theorem Go.callS (X : Stand p l e R s m args below meth c T locs cells slots) (hx : p.tables.exec = Jvm.exec) {own : String} {index : Nat} {y : MethodName} {bytes : ByteArray} {maxL : Nat} {ret : Option FieldType}
    (hown : s.vm.findClass own = some m.cls) (hlink : (Jvm.Cond.methodLink own index y).before args s = true) (hstat : (Jvm.Cond.static y).before args s = true) (hinit : (Jvm.Cond.initialized y.cls).before args s = true)
    (hcode : (Jvm.Cond.code y bytes maxL ret).before args s = true) (hy : y.cls ≠ "java/lang/invoke/MethodHandle" ∧ y.cls ≠ "java/lang/invoke/VarHandle")
    {W kc ks : Nat} {as' : Array Value} {Q : Option Value → Heap → List Loc → Prop} (hK : BackQ l R p e below s args y W as' h kc ks Q) (eT : T.heap = h)
    {g : JFrame} (hg : g.method = m) (hsize : g.locals.size = c.maxLocals) {argsL rest : List Value} (hlen : ∀ sig, parseMethodDescriptor y.desc = some sig → argsL.length = sig.parameters.length)
    (hstack : g.stack = argsL.reverse ++ rest) (hW : 2 * g.monitorRoom + (rest.map fun v => v.category).sum ≤ W) (hdg : decode c.code g.pc = .ok (.invokestatic index, 3))
    (has : argsL.toArray = as') (hc : cells + kc ≤ R.cells) (hs : slots + ks ≤ R.slots)
    (k : ∀ v T' L, Stand p l e R s m args below meth c T' (locs ++ L) (cells + kc) (slots + ks) → Q v T'.heap L → Go p e below G T' { g with pc := g.pc + 3, stack := v.toList ++ rest }) : Go p e below G T g := by
  obtain ⟨v, vm₁, ⟨T1, L1, k1, n1⟩, -, X1, ⟨L, hQ, h1, h2, h3⟩, st⟩ := Jvm.LawKit.callS X hx hown hlink hstat hinit hcode hy hK hg hsize hlen hstack hW hdg (fun _ _ => ⟨has, eT, hc, hs⟩)
  dsimp only [Pt.U, Pt.locs, Pt.cells, Pt.slots] at X1 h1 h2 h3 st hQ
  subst h1 h2 h3
  exact Go.st st (k v T1 L X1 hQ)
theorem Go.callI (X : Stand p l e R s m args below meth c T locs cells slots) (hx : p.tables.exec = Jvm.exec) {own : String} {index : Nat} {y : MethodName} {bytes : ByteArray} {maxL : Nat} (hy1 : y.name = "<init>")
    (hown : s.vm.findClass own = some m.cls) (hlink : (Jvm.Cond.methodLink own index y).before args s = true) (hinst : (Jvm.Cond.instanceMethod y).before args s = true)
    (hcode : (Jvm.Cond.code y bytes maxL none).before args s = true) (hy : y.cls ≠ "java/lang/invoke/MethodHandle" ∧ y.cls ≠ "java/lang/invoke/VarHandle")
    {W kc ks : Nat} {as' : Array Value} {Q : Option Value → Heap → List Loc → Prop} (hK : BackQ l R p e below s args y W as' h kc ks Q) (eT : T.heap = h)
    {g : JFrame} (hg : g.method = m) (hsize : g.locals.size = c.maxLocals) {a : Addr} {argsL rest : List Value} (hlen : ∀ sig, parseMethodDescriptor y.desc = some sig → argsL.length = sig.parameters.length)
    (hstack : g.stack = argsL.reverse ++ .ref a :: rest) (hW : 2 * g.monitorRoom + (rest.map fun v => v.category).sum ≤ W) (hdg : decode c.code g.pc = .ok (.invokespecial index, 3))
    (has : (.ref a :: argsL).toArray = as') (hc : cells + kc ≤ R.cells) (hs : slots + ks ≤ R.slots)
    (k : ∀ v T' L, Stand p l e R s m args below meth c T' (locs ++ L) (cells + kc) (slots + ks) → Q v T'.heap L → Go p e below G T' { g with pc := g.pc + 3, stack := v.toList ++ rest }) : Go p e below G T g := by
  obtain ⟨v, vm₁, ⟨T1, L1, k1, n1⟩, -, X1, ⟨L, hQ, h1, h2, h3⟩, st⟩ := X.specialBack hx hy1 hown hlink hinst hcode hy hK hg hsize (Steps.refl _) hlen hstack hW hdg (fun _ _ => ⟨has, eT, hc, hs⟩)
  dsimp only [Pt.U, Pt.locs, Pt.cells, Pt.slots] at X1 h1 h2 h3 st hQ
  subst h1 h2 h3
  exact Go.tr st (k v T1 L X1 hQ)
theorem Go.callV (X : Stand p l e R s m args below meth c T locs cells slots) (hx : p.tables.exec = Jvm.exec) (hZ : Z.Warmed39 s.vm) {own C : String} {index : Nat} {y z : MethodName}
    (hown : s.vm.findClass own = some m.cls) (hlink : (Jvm.Cond.methodLink own index y).before args s = true) (hdecl : (Jvm.Cond.declares y).before args s = true) 
    (hsel : (Jvm.Cond.selects C y z).before args s = true) (hinst : (Jvm.Cond.instanceMethod z).before args s = true)
    (hy : y.cls ≠ "java/lang/invoke/MethodHandle" ∧ y.cls ≠ "java/lang/invoke/VarHandle") (hnf : NotFace s y)
    {W kc ks : Nat} {as' : Array Value} {Q : Option Value → Heap → List Loc → Prop} (hK : BackQ l R p e below s args z W as' h kc ks Q) (eT : T.heap = h)
    {b : Addr} (E : Exa Z h b C)
    {g : JFrame} (hg : g.method = m) (hsize : g.locals.size = c.maxLocals) {argsL rest : List Value} (hlen : ∀ sig, parseMethodDescriptor y.desc = some sig → argsL.length = sig.parameters.length)
    (hstack : g.stack = argsL.reverse ++ .ref b :: rest) (hW : 2 * g.monitorRoom + (rest.map fun v => v.category).sum ≤ W) (hdg : decode c.code g.pc = .ok (.invokevirtual index, 3))
    (has : (.ref b :: argsL).toArray = as') (hc : cells + kc ≤ R.cells) (hs : slots + ks ≤ R.slots)
    (k : ∀ v T' L, Stand p l e R s m args below meth c T' (locs ++ L) (cells + kc) (slots + ks) → Q v T'.heap L → Go p e below G T' { g with pc := g.pc + 3, stack := v.toList ++ rest }) : Go p e below G T g := by
  obtain ⟨cq, kq, qa, qb, qc⟩ := isOf hZ eT E
  obtain ⟨v, vm₁, ⟨T1, L1, k1, n1⟩, -, X1, ⟨L, hQ, h1, h2, h3⟩, st⟩ := X.virtualBack hx hown hlink hdecl hnf hsel hinst hy hK qa qc hg hsize (Steps.refl _) hlen hstack hW hdg (fun _ _ => ⟨has, eT, hc, hs⟩)
  dsimp only [Pt.U, Pt.locs, Pt.cells, Pt.slots] at X1 h1 h2 h3 st hQ
  subst h1 h2 h3
  exact Go.tr st (k v T1 L X1 hQ)
/-! arrays of ints, chars, bytes: their contents as a list -/
def AI (Z : State) (h : Heap) (a : Addr) (ty : FieldType) (xs : List Int32) : Prop := xs.length < 2147483648 ∧ ∃ k, Arv Z h a k ty (Int32.ofNat xs.length) (xs.map Value.int) (.int 0)
theorem AI.lt {a : Addr} {ty : FieldType} {xs : List Int32} (F : AI Z h a ty xs) : a < h.size := by obtain ⟨-, k, F⟩ := F; exact F.lt
theorem AI.ext {a : Addr} {ty : FieldType} {xs : List Int32} (F : AI Z h a ty xs) (E : Ext h h') : AI Z h' a ty xs := by obtain ⟨q, k, F⟩ := F; exact ⟨q, k, F.ext E⟩
theorem AI.other {a b : Addr} {ty : FieldType} {xs : List Int32} {sl : Nat} {v : Value} (F : AI Z h b ty xs) (W : Wr h h' a sl v) (q : b ≠ a) : AI Z h' b ty xs := by obtain ⟨q0, k, F⟩ := F; exact ⟨q0, k, F.other W q⟩
theorem AI.keep {a : Addr} {ty : FieldType} {xs : List Int32} {ws : List Addr} (F : AI Z h a ty xs) (K : Keep h h' ws) (q : a ∉ ws) : AI Z h' a ty xs := by obtain ⟨q0, k, F⟩ := F; exact ⟨q0, k, F.keep K q⟩
theorem own_ofNat_nn {n : Nat} (hn : n < 2147483648) : ¬ Int32.ofNat n < 0 := by
  have q : (Int32.ofNat n).toInt = n := Int32.toInt_ofNat_small hn
  simp only [Int32.lt_iff_toInt_lt, q, Int32.reduceToInt]; omega
theorem own_ofNat_clamp {n : Nat} (hn : n < 2147483648) : (Int32.ofNat n).toNatClampNeg = n := by
  have q : (Int32.ofNat n).toInt = n := Int32.toInt_ofNat_small hn
  simp only [Int32.toNatClampNeg, q]; omega
theorem own_ofNat_lt {i n : Nat} (hi : i < n) (hn : n < 2147483648) : Int32.ofNat i < Int32.ofNat n := by
  have q : (Int32.ofNat n).toInt = n := Int32.toInt_ofNat_small hn
  have q' : (Int32.ofNat i).toInt = i := Int32.toInt_ofNat_small (by omega)
  simp only [Int32.lt_iff_toInt_lt, q, q']; omega
theorem AI.new {a : Addr} {ty : FieldType} {k : ClassId} {n : Nat} (hn : n < 2147483648) (hd : defaultValue ty = .int 0) (A : Arr Z h a (newA k ty (Int32.ofNat n)) ty) : AI Z h a ty (List.replicate n 0) := by
  have V := Arv.new A (own_ofNat_nn hn)
  rw [hd] at V
  refine ⟨by simpa using hn, k, ?_⟩
  have e : (Int32.ofNat (List.replicate n (0 : Int32)).length) = Int32.ofNat n := by simp
  rw [e, List.map_replicate]
  have := V.pad (pad_rep [] (.int (0 : Int32)) n)
  simpa using this
theorem AI.set {a : Addr} {ty : FieldType} {xs : List Int32} {x : Int32} {i : Nat} (F : AI Z h a ty xs) (hi : i < xs.length) (hf : fits ty (.int x) = true) (W : Wr h h' a i (.int x)) : AI Z h' a ty (xs.set i x) := by
  obtain ⟨q0, k, cl, A, q, S, M, H, U⟩ := F
  refine ⟨by simpa using q0, k, ?_⟩
  have e := own_ofNat_clamp (n := i) (by omega)
  rw [List.length_set, List.map_set]
  exact Arv.set A q S M H U hf (j := Int32.ofNat i) (by rw [e]; exact W) i e (by simpa using hi)
theorem AI.at {a : Addr} {ty : FieldType} {xs : List Int32} (F : AI Z h a ty xs) : ∃ cl : Cell, Arr Z h a cl ty ∧ cl.slots.size = xs.length ∧ ∀ i (hi : i < xs.length), cl.slots[i]? = some (.int xs[i]) := by
  obtain ⟨q0, k, cl, A, q, S, M, H, U⟩ := F
  rw [own_ofNat_clamp q0] at S
  refine ⟨cl, A, S, fun i hi => ?_⟩
  have := H i (by omega)
  rw [this, List.getD_eq_getElem?_getD, List.getElem?_map, List.getElem?_eq_getElem hi]
  rfl
theorem own_inb {n i : Nat} (hi : i < n) (hn : n < 2147483648) : ¬ (Int32.ofNat i < 0 ∨ n ≤ (Int32.ofNat i).toNatClampNeg) := by
  rw [own_ofNat_clamp (by omega)]
  intro q
  rcases q with q | q
  · exact own_ofNat_nn (by omega) q
  · omega
theorem Go.caload (X : Stand p l e R s m args below meth c T locs cells slots) (hx : p.tables.exec = Jvm.exec) (hZ : Z.Warmed39 s.vm) (eT : T.heap = h) {a : Addr} {xs : List Int32} (A : AI Z h a .char xs) {j x : Int32} {i : Nat} (hj : j = Int32.ofNat i) (hv : xs[i]? = some x)
    {g : JFrame} (hg : g.method = m) {rest : List Value} (hs : g.stack = .int j :: .ref a :: rest) (hd : decode c.code g.pc = .ok (.caload, 1)) (k : Go p e below G T { g with pc := g.pc + 1, stack := .int x :: rest }) : Go p e below G T g := by
  subst hj
  obtain ⟨cl, Ar, S, H⟩ := A.at
  obtain ⟨hi, rfl⟩ := List.getElem?_eq_some_iff.mp hv
  have q0 := A.1
  refine Go.st (fun t r => X.caload hx (cell := cl) (j := Int32.ofNat i) (v := .int xs[i]) (by rw [eT]; exact Ar.1) (State.isArrayOf_alike hZ.alike Ar.2.1) Ar.2.2 (by rw [S]; exact own_inb hi q0) (by rw [own_ofNat_clamp (by omega)]; exact H i hi) hg hs hd t r) k
theorem Go.baload (X : Stand p l e R s m args below meth c T locs cells slots) (hx : p.tables.exec = Jvm.exec) (hZ : Z.Warmed39 s.vm) (eT : T.heap = h) {a : Addr} {xs : List Int32} (A : AI Z h a .byte xs) {j x : Int32} {i : Nat} (hj : j = Int32.ofNat i) (hv : xs[i]? = some x)
    {g : JFrame} (hg : g.method = m) {rest : List Value} (hs : g.stack = .int j :: .ref a :: rest) (hd : decode c.code g.pc = .ok (.baload, 1)) (k : Go p e below G T { g with pc := g.pc + 1, stack := .int x :: rest }) : Go p e below G T g := by
  subst hj
  obtain ⟨cl, Ar, S, H⟩ := A.at
  obtain ⟨hi, rfl⟩ := List.getElem?_eq_some_iff.mp hv
  have q0 := A.1
  refine Go.st (fun t r => X.baloadBytes hx (cell := cl) (j := Int32.ofNat i) (v := .int xs[i]) (by rw [eT]; exact Ar.1) (State.isArrayOf_alike hZ.alike Ar.2.1) Ar.2.2 (by rw [S]; exact own_inb hi q0) (by rw [own_ofNat_clamp (by omega)]; exact H i hi) hg hs hd t r) k
theorem Go.iaload (X : Stand p l e R s m args below meth c T locs cells slots) (hx : p.tables.exec = Jvm.exec) (hZ : Z.Warmed39 s.vm) (eT : T.heap = h) {a : Addr} {xs : List Int32} (A : AI Z h a .int xs) {j x : Int32} {i : Nat} (hj : j = Int32.ofNat i) (hv : xs[i]? = some x)
    {g : JFrame} (hg : g.method = m) {rest : List Value} (hs : g.stack = .int j :: .ref a :: rest) (hd : decode c.code g.pc = .ok (.iaload, 1)) (k : Go p e below G T { g with pc := g.pc + 1, stack := .int x :: rest }) : Go p e below G T g := by
  subst hj
  obtain ⟨cl, Ar, S, H⟩ := A.at
  obtain ⟨hi, rfl⟩ := List.getElem?_eq_some_iff.mp hv
  have q0 := A.1
  refine Go.st (fun t r => X.iaload hx (cell := cl) (j := Int32.ofNat i) (v := .int xs[i]) (by rw [eT]; exact Ar.1) (State.isArrayOf_alike hZ.alike Ar.2.1) Ar.2.2 (by rw [S]; exact own_inb hi q0) (by rw [own_ofNat_clamp (by omega)]; exact H i hi) hg hs hd t r) k
theorem Go.alen (X : Stand p l e R s m args below meth c T locs cells slots) (hx : p.tables.exec = Jvm.exec) (hZ : Z.Warmed39 s.vm) (eT : T.heap = h) {a : Addr} {ty : FieldType} {xs : List Int32} (A : AI Z h a ty xs)
    {g : JFrame} (hg : g.method = m) {rest : List Value} (hs : g.stack = .ref a :: rest) (hd : decode c.code g.pc = .ok (.arraylength, 1)) (k : Go p e below G T { g with pc := g.pc + 1, stack := .int (Int32.ofNat xs.length) :: rest }) : Go p e below G T g := by
  obtain ⟨cl, Ar, S, H⟩ := A.at
  refine Go.st (fun t r => X.arraylength hx (cell := cl) (by rw [eT]; exact Ar.1) (State.isArrayOf_alike hZ.alike Ar.2.1) hg hs hd t (by rw [S]; exact r)) k
theorem Go.castore (X : Stand p l e R s m args below meth c T locs cells slots) (hx : p.tables.exec = Jvm.exec) (hZ : Z.Warmed39 s.vm) (eT : T.heap = h) {a : Addr} {xs : List Int32} (A : AI Z h a .char xs) {j x : Int32} {i : Nat} (hj : j = Int32.ofNat i) (hi : i < xs.length)
    {g : JFrame} (hg : g.method = m) {rest : List Value} (hs : g.stack = .int x :: .int j :: .ref a :: rest) (hd : decode c.code g.pc = .ok (.castore, 1))
    (k : ∀ T' h', Stand p l e R s m args below meth c T' (locs ++ [⟨a, i⟩]) cells slots → T'.heap = h' → Wr h h' a i (.int (nar .char x)) → AI Z h' a .char (xs.set i (nar .char x)) → Go p e below G T' { g with pc := g.pc + 1, stack := rest }) : Go p e below G T g := by
  subst hj
  obtain ⟨cl, Ar, S, H⟩ := A.at
  have q0 := A.1
  obtain ⟨T', h', X', e', W, st⟩ := stC X hx hZ eT Ar (j := Int32.ofNat i) (by rw [S]; exact own_inb hi q0) hg hs hd
  rw [own_ofNat_clamp (by omega)] at X' W
  exact Go.st st (k T' h' X' e' W (A.set hi (fits_nar_char _) W))
theorem Go.bastore (X : Stand p l e R s m args below meth c T locs cells slots) (hx : p.tables.exec = Jvm.exec) (hZ : Z.Warmed39 s.vm) (eT : T.heap = h) {a : Addr} {xs : List Int32} (A : AI Z h a .byte xs) {j x : Int32} {i : Nat} (hj : j = Int32.ofNat i) (hi : i < xs.length)
    {g : JFrame} (hg : g.method = m) {rest : List Value} (hs : g.stack = .int x :: .int j :: .ref a :: rest) (hd : decode c.code g.pc = .ok (.bastore, 1))
    (k : ∀ T' h', Stand p l e R s m args below meth c T' (locs ++ [⟨a, i⟩]) cells slots → T'.heap = h' → Wr h h' a i (.int (nar .byte x)) → AI Z h' a .byte (xs.set i (nar .byte x)) → Go p e below G T' { g with pc := g.pc + 1, stack := rest }) : Go p e below G T g := by
  subst hj
  obtain ⟨cl, Ar, S, H⟩ := A.at
  have q0 := A.1
  obtain ⟨T', h', X', e', W, st⟩ := stB X hx hZ eT Ar (j := Int32.ofNat i) (by rw [S]; exact own_inb hi q0) hg hs hd
  rw [own_ofNat_clamp (by omega)] at X' W
  exact Go.st st (k T' h' X' e' W (A.set hi (Jvm.Free.SBG.fits_of_int8 _) W))
theorem Go.iastore (X : Stand p l e R s m args below meth c T locs cells slots) (hx : p.tables.exec = Jvm.exec) (hZ : Z.Warmed39 s.vm) (eT : T.heap = h) {a : Addr} {xs : List Int32} (A : AI Z h a .int xs) {j x : Int32} {i : Nat} (hj : j = Int32.ofNat i) (hi : i < xs.length)
    {g : JFrame} (hg : g.method = m) {rest : List Value} (hs : g.stack = .int x :: .int j :: .ref a :: rest) (hd : decode c.code g.pc = .ok (.iastore, 1))
    (k : ∀ T' h', Stand p l e R s m args below meth c T' (locs ++ [⟨a, i⟩]) cells slots → T'.heap = h' → Wr h h' a i (.int x) → AI Z h' a .int (xs.set i x) → Go p e below G T' { g with pc := g.pc + 1, stack := rest }) : Go p e below G T g := by
  subst hj
  obtain ⟨cl, Ar, S, H⟩ := A.at
  have q0 := A.1
  obtain ⟨T', h', X', e', W, st⟩ := stI X hx hZ eT Ar (j := Int32.ofNat i) (by rw [S]; exact own_inb hi q0) hg hs hd
  rw [own_ofNat_clamp (by omega)] at X' W
  exact Go.st st (k T' h' X' e' W (A.set hi rfl W))
theorem Go.newarr (X : Stand p l e R s m args below meth c T locs cells slots) (hx : p.tables.exec = Jvm.exec) (hZ : Z.Warmed39 s.vm) {aty : ArrayType} {ty : FieldType} (hty : newarray.typeOf aty = ty) (hdv : defaultValue ty = .int 0) (w : (Jvm.Cond.arrayClass ty).before a0 Z = true) (eT : T.heap = h)
    {g : JFrame} (hg : g.method = m) (hd : decode c.code g.pc = .ok (.newarray aty, 2)) {j : Int32} {n : Nat} {rest : List Value} (hs : g.stack = .int j :: rest) (hj : j = Int32.ofNat n) (hn : n * 8 ≤ 536870912) (hc : cells + 1 ≤ R.cells) (hl : slots + n ≤ R.slots)
    (k : ∀ T' h', Stand p l e R s m args below meth c T' locs (cells + 1) (slots + n) → T'.heap = h' → Ext h h' → h.size < h'.size → AI Z h' h.size ty (List.replicate n 0) → Go p e below G T' { g with pc := g.pc + 2, stack := .ref h.size :: rest }) : Go p e below G T g := by
  subst hj
  subst hty
  obtain ⟨T', h', cA, X', e', E, A, st⟩ := newP X hx hZ w eT hg hd hs (own_ofNat_nn (by omega)) (cap := n) (by rw [own_ofNat_clamp (by omega)]; exact Nat.le_refl _) hn hc hl
  exact Go.st st (k T' h' X' e' E A.lt (AI.new (by omega) hdv A))
theorem Go.retV (X : Stand p l e R s m args below meth c T locs cells slots) (hx : p.tables.exec = Jvm.exec) {pc : Nat} {Ls : Array Slot} {Q : Option Value → Heap → List Loc → Prop} {kc ks : Nat} {rest : List Value} {w : Value} {t : FieldType} (hret : meth.sig.returnType = some t) (hlk : meth.locks = false) (ht : t.isReference = true) (hw : w.isRef = true)
    (hd : decode c.code pc = .ok (.areturn, 1)) (hQ : Q (some w) T.heap locs) (hc : cells ≤ kc) (hs : slots ≤ ks) : Go p e below (EndQ s Q kc ks) T (mkF m pc Ls (w :: rest)) :=
  Go.done X (fun q => by rw [hret] at q; cases q) hlk (fun fs hr => retOut X hx hret (by rcases ref_cases hw with rfl | ⟨z, rfl⟩ <;> cases t <;> first | rfl | cases ht) (Or.inr (Or.inr (Or.inr (Or.inr ⟨rfl, ht, hw⟩)))) hd hr) hQ hc hs
theorem Go.retI (X : Stand p l e R s m args below meth c T locs cells slots) (hx : p.tables.exec = Jvm.exec) {pc : Nat} {Ls : Array Slot} {Q : Option Value → Heap → List Loc → Prop} {kc ks : Nat} {rest : List Value} {z : Int32} (hret : meth.sig.returnType = some .int) (hlk : meth.locks = false)
    (hd : decode c.code pc = .ok (.ireturn, 1)) (hQ : Q (some (.int z)) T.heap locs) (hc : cells ≤ kc) (hs : slots ≤ ks) : Go p e below (EndQ s Q kc ks) T (mkF m pc Ls (.int z :: rest)) :=
  Go.done X (fun q => by rw [hret] at q; cases q) hlk (fun fs hr => retOut X hx hret rfl (Or.inl ⟨rfl, Or.inl rfl, z, rfl⟩) hd hr) hQ hc hs
theorem Go.retJ (X : Stand p l e R s m args below meth c T locs cells slots) (hx : p.tables.exec = Jvm.exec) {pc : Nat} {Ls : Array Slot} {Q : Option Value → Heap → List Loc → Prop} {kc ks : Nat} {rest : List Value} {z : Int64} (hret : meth.sig.returnType = some .long) (hlk : meth.locks = false)
    (hd : decode c.code pc = .ok (.lreturn, 1)) (hQ : Q (some (.long z)) T.heap locs) (hc : cells ≤ kc) (hs : slots ≤ ks) : Go p e below (EndQ s Q kc ks) T (mkF m pc Ls (.long z :: rest)) :=
  Go.done X (fun q => by rw [hret] at q; cases q) hlk (fun fs hr => retOut X hx hret rfl (Or.inr (Or.inl ⟨rfl, rfl, z, rfl⟩)) hd hr) hQ hc hs
theorem Go.retB (X : Stand p l e R s m args below meth c T locs cells slots) (hx : p.tables.exec = Jvm.exec) {pc : Nat} {Ls : Array Slot} {Q : Option Value → Heap → List Loc → Prop} {kc ks : Nat} {rest : List Value} {z : Int32} {t : FieldType} (hret : meth.sig.returnType = some t) (hlk : meth.locks = false) (ht : t = .boolean ∨ t = .byte ∨ t = .char ∨ t = .short)
    (hd : decode c.code pc = .ok (.ireturn, 1)) (hQ : Q (some (.int (nar t z))) T.heap locs) (hc : cells ≤ kc) (hs : slots ≤ ks) : Go p e below (EndQ s Q kc ks) T (mkF m pc Ls (.int z :: rest)) :=
  Go.done X (fun q => by rw [hret] at q; cases q) hlk (fun fs hr => retN X hx hret ht hd hr) hQ hc hs
theorem Go.ret0 (X : Stand p l e R s m args below meth c T locs cells slots) (hx : p.tables.exec = Jvm.exec) {pc : Nat} {Ls : Array Slot} {Q : Option Value → Heap → List Loc → Prop} {kc ks : Nat} (hret : meth.sig.returnType = none) (hlk : meth.locks = false)
    (hd : decode c.code pc = .ok (.return_, 1)) (hQ : Q none T.heap locs) (hc : cells ≤ kc) (hs : slots ≤ ks) : Go p e below (EndQ s Q kc ks) T (mkF m pc Ls []) :=
  Go.done X (fun _ => rfl) hlk (fun fs hr => X.returnOut hx hret hd hr) hQ hc hs
theorem own_storeR {L : Array Slot} {i : Nat} {v : Value} {o : Slot} {L' : Array Slot} (hv : v.isRef = true) (hold : L[i]? = some o) (ho : One o) (e : L.setIfInBounds i (.val v) = L' := by rfl) : storeLocals L i v = some L' := by
  rw [← e]; exact XS.store1 hold ho (XT.cat1 hv)
theorem own_narrowR {v : Value} {C : String} (hv : v.isRef = true) : narrow (.object C) v = v := by rcases ref_cases hv with rfl | ⟨_, rfl⟩ <;> rfl
theorem own_fitsR {v : Value} {C : String} (hv : v.isRef = true) : fits (.object C) v = true := by rcases ref_cases hv with rfl | ⟨_, rfl⟩ <;> rfl
end GoKit
section GoWide
open Jvm.Free.SB Jvm.Free.SBG
variable {p : Program} {l : Launch} {e : Env} {R : Room} {s s0 : State} {m : MethodId} {args : Array Value} {below : List Frame} {meth : Method} {c : Code} {T T' : State} {locs : List Loc} {cells slots : Nat} {Z : State} {a0 : Array Value} {h h' : Heap} {G : Outcome → State → Prop} {g g' : JFrame} {W : State} {cs : List (String × Nat)} {N N' : Nat → Prop}
/-- the cells of N stand as they stood -/
def Und (N : Nat → Prop) (h h' : Heap) : Prop := h.size ≤ h'.size ∧ ∀ (b : Addr) (c : Cell), N b → h[b]? = some c → h'[b]? = some c
theorem Und.refl (N : Nat → Prop) (h : Heap) : Und N h h := ⟨Nat.le_refl _, fun _ _ _ q => q⟩
theorem Und.ext (U : Und N h h') {h'' : Heap} (E : Ext h' h'') : Und N h h'' := ⟨Nat.le_trans U.1 E.1, fun b c q r => E.2 b c (U.2 b c q r)⟩
theorem Und.keep (U : Und N h h') {h'' : Heap} {ws : List Addr} (K : Keep h' h'' ws) (q : ∀ x ∈ ws, ¬ N x) : Und N h h'' := ⟨Nat.le_trans U.1 K.1, fun b c r y => K.2.1 b c (U.2 b c r y) fun z => absurd r (q b z)⟩
theorem Und.wr (U : Und N h h') {h'' : Heap} {a : Addr} {sl : Nat} {v : Value} (W : Wr h' h'' a sl v) (q : ¬ N a) : Und N h h'' := U.keep (Keep.of_wr W) (allS q all0)
/-- the String at a: an ordinary compact one of these units, both her cells of N -/
def SlN (N : Nat → Prop) (W : State) (a : Addr) (units : Array UInt16) : Prop :=
  ∃ (q : SQ) (cS : ClassId), q.sa = a ∧ Sl q cS W ∧ (∃ kS : Class, W.vm.classes[cS]? = some kS ∧ kS.kind = .ordinary ∧ q.sC.slots.size = kS.instanceTypes.size) ∧ W.vm.findClass "[B" = some q.SA.cls ∧ q.SA.slots = stringBytes units ∧ N q.sa ∧ N q.sd
theorem SlN.of {a : Addr} {u : Array UInt16} (h : SlN N W a u) : SlOf W a u := by
  obtain ⟨q, cS, h1, h2, h3, h4, h5, -⟩ := h; exact ⟨q, cS, h1, h2, h3, h4, h5⟩
theorem SlN.start {a : Addr} {u : Array UInt16} (h : SlOf W a u) : SlN (fun b => b < W.heap.size) W a u := by
  obtain ⟨q, cS, h1, h2, h3, h4, h5⟩ := h
  exact ⟨q, cS, h1, h2, h3, h4, h5, (Array.getElem?_eq_some_iff.mp h2.1.1).1, (Array.getElem?_eq_some_iff.mp h2.1.2.2.2.2.2.2.2.2.2.1).1⟩
theorem SlN.of_in {a : Addr} {u : Array UInt16} {lo hi : Nat} (h : SlIn lo hi W a u) : SlOf W a u := by
  obtain ⟨q, cS, h1, h2, h3, h4, h5, -⟩ := h; exact ⟨q, cS, h1, h2, h3, h4, h5⟩
theorem SlN.mv {a : Addr} {u : Array UInt16} {V : State} (h : SlN N W a u) (hal : W.vm.Alike V.vm) (hk : ∀ (b : Addr) (c : Cell), N b → W.heap[b]? = some c → V.heap[b]? = some c) : SlN N V a u := by
  obtain ⟨q, cS, h1, h2, ⟨kS, k1, k2, k3⟩, h4, h5, h6, h7⟩ := h
  obtain ⟨kS', hk', ek⟩ := hal.2.2 _ _ k1
  exact ⟨q, cS, h1, h2.carry hal (hk _ _ h6 h2.1.1) (hk _ _ h7 h2.1.2.2.2.2.2.2.2.2.2.1), ⟨kS', hk', by rw [ek]; exact k2, by rw [ek]; exact k3⟩, by rw [hal.findClass]; exact h4, h5, h6, h7⟩
theorem SlN.up {a : Addr} {u : Array UInt16} (h : SlN N W a u) (q : ∀ b, N b → N' b) : SlN N' W a u := by
  obtain ⟨q', cS, h1, h2, h3, h4, h5, h6, h7⟩ := h; exact ⟨q', cS, h1, h2, h3, h4, h5, q _ h6, q _ h7⟩
/-- every constant of the list which the tables hold already is such a String, under N -/
def CHn (cs : List (String × Nat)) (N : Nat → Prop) (U : State) : Prop := ∀ x ∈ cs, ∀ (c : ClassId) (k : Class) (cf : ClassFile) (i : Nat) (units : Array UInt16) (a : Addr), U.vm.findClass x.1 = some c → U.vm.classes[c]? = some k → k.cf = some cf →
    cf.constantPool[x.2]? = some (.string i) → cf.constantPool[i]? = some (.utf8 units) →
    (k.resolved[x.2]? = some (some (.string a)) ∨ (k.resolved[x.2]? = some none ∧ U.vm.interned.find? (fun p => p.1 == units) = some (units, a))) → SlN N U a units
theorem CHn.held (H : CHn cs N W) {own : String} {i : Nat} (hm : (own, i) ∈ cs) : ConstHeldL W own i := fun c k cf i units a h1 h2 h3 h4 h5 h6 => (H _ hm c k cf i units a h1 h2 h3 h4 h5 h6).of
theorem CHn.start (H : ∀ x ∈ cs, ConstHeldL W x.1 x.2) : CHn cs (fun b => b < W.heap.size) W := fun x hx c k cf i units a h1 h2 h3 h4 h5 h6 => SlN.start (H x hx c k cf i units a h1 h2 h3 h4 h5 h6)
theorem CHn.up (H : CHn cs N W) (q : ∀ b, N b → N' b) : CHn cs N' W := fun x hx c k cf i units a h1 h2 h3 h4 h5 h6 => (H x hx c k cf i units a h1 h2 h3 h4 h5 h6).up q
theorem CHn.lt (H : CHn cs N W) : CHn cs (fun b => b < W.heap.size) W := fun x hx c k cf i units a h1 h2 h3 h4 h5 h6 => SlN.start (H x hx c k cf i units a h1 h2 h3 h4 h5 h6).of
theorem own_right_string {U : State} {d : ClassId} {i : Nat} {a : Addr} : U.rightAt d i (.string a) = false := by
  unfold State.rightAt; split <;> simp_all
theorem CHn.mv {V : State} (H : CHn cs N W) (hW : W.WarmedH V.vm) (hk : ∀ (b : Addr) (c : Cell), N b → W.heap[b]? = some c → V.heap[b]? = some c) : CHn cs N V := by
  intro x hx c k' cf i units a h1 h2 h3 h4 h5 h6
  have hal := hW.alike
  have h1' : W.vm.findClass x.1 = some c := by rw [← hal.findClass]; exact h1
  obtain ⟨k, hkc, -⟩ := Vm.findClass_spec h1'
  obtain ⟨k2, g1, g2, -, g4, -⟩ := hW.2.2 c k hkc
  cases h2.symm.trans g1
  have h3' : k.cf = some cf := by rw [g2] at h3; exact h3
  refine (H x hx c k cf i units a h1' hkc h3' h4 h5 ?_).mv hal hk
  rcases h6 with h6 | ⟨h6, h7⟩
  · rcases g4 x.2 with q | ⟨q, r, q2, q3⟩
    · exact Or.inl (q ▸ h6)
    · rw [h6] at q2
      cases q2
      rw [own_right_string] at q3; cases q3
  · refine Or.inr ⟨?_, ?_⟩
    · rcases g4 x.2 with q | ⟨q, r, q2, q3⟩
      · exact q ▸ h6
      · exact q
    · rw [← hW.interned_eq]; exact h7
/-- a wide end -/
def EndW (cs : List (String × Nat)) (s : State) (Q : Option Value → Heap → List Loc → Prop) (kc ks : Nat) (o : Outcome) (t : State) : Prop := ∃ v L, o = .returned v ∧ Q v t.heap L ∧ CHn cs (fun b => b < t.heap.size) t ∧ ReturnedEndW s o t L kc ks
def WCtr (cs : List (String × Nat)) (N : Nat → Prop) (l : Launch) (Z : State) (y : MethodName) (bytes : ByteArray) (maxL : Nat) (ret : Option FieldType) (ws : List Jvm.Cond) (rm : Room) (as' : Array Value) (h0 : Heap) (Q : Option Value → Heap → List Loc → Prop) : Prop :=
  MetFree l y (head1 (Jvm.Cond.code y bytes maxL ret :: ws) rm) (fun a U => a = as' ∧ Z.Warmed39 U.vm ∧ U.heap = h0 ∧ CHn cs N U) (fun _ _ _ _ _ => True) (fun _ U o U' => EndW cs U Q rm.cells rm.slots o U')
/-- where the walk stands: its base is the true start s0 with other tables -/
def Bas (s0 s : State) (n : Nat) : Prop := s = s0.setVm s.vm ∧ s0.Since s.vm n
theorem Bas.refl (s : State) (n : Nat) : Bas s s n := ⟨rfl, (State.WarmedH.refl s).since n⟩
/-- the constants held, said of the base's tables and a heap -/
def CHb (cs : List (String × Nat)) (N : Nat → Prop) (s : State) (h : Heap) : Prop := CHn cs N ({ s with heap := h } : State)
theorem CHb.to (H : CHb cs N s h) (X : Stand p l e R s m args below meth c T locs cells slots) (U : Und N h T.heap) : CHn cs N T := CHn.mv H (show ({ s with heap := h } : State).WarmedH T.vm from X.warmed) U.2
theorem CHb.to' {h' : Heap} (H : CHb cs N s h) (U : Und N h h') (q : ∀ b, N b → N' b) : CHb cs N' s h' := CHn.up (CHn.mv (V := ({ s with heap := h' } : State)) H (State.WarmedH.refl _) U.2) q
theorem WCtr.of {y : MethodName} {bytes : ByteArray} {maxL : Nat} {ret : Option FieldType} {ws : List Jvm.Cond} {rm : Room} {as' : Array Value} {h0 : Heap} {Q : Option Value → Heap → List Loc → Prop} (hpf : plainFor y = true)
    (body : ∀ p e s m below meth c s₁, p.tables.exec = Jvm.exec → c.code = bytes → c.maxLocals = maxL → s.vm.findClass y.cls = some m.cls → meth.name = y.name → meth.sig.returnType = ret → meth.locks = false → Z.Warmed39 s.vm →
      Stand p l e rm s m as' below meth c s₁ [] 0 0 → s₁.heap = h0 → CHb cs N s h0 → Go p e below (EndW cs s Q rm.cells rm.slots) s₁ (entryFrame m as' maxL)) : WCtr cs N l Z y bytes maxL ret ws rm as' h0 Q := by
  refine MetFree.of_bodySF hpf hisR ?_
  intro p e s m args below meth c s₁ Bd hml0 hP hK
  obtain ⟨rfl, hZ, hh, hC⟩ := hP
  exact body p e s m below meth c s₁ Bd.exec Bd.bytes hml0 (findClass_of_methodNamed Bd.named) (name_of_methodNamed Bd.named Bd.method).1 Bd.returns Bd.notSynchronized hZ (Stand.of_body Bd) (by rw [← hh, Bd.state]; rfl) (by subst hh; exact hC)
theorem Go.doneW (X : Stand p l e R s m args below meth c T locs cells slots) {n : Nat} (hB : Bas s0 s n) (hn : n ≤ T.heap.size) (hC : CHn cs N T) {Q : Option Value → Heap → List Loc → Prop} {kc ks : Nat} {v : Option Value} (hv : meth.sig.returnType = none → v = none) (hlk : meth.locks = false)
    (fin : ∀ fs, (∀ (f : JFrame) (acts : List Action), f.method = m → f.locked = none → f.entered = [] → (doReturn e (T.setTop f) acts v).1 = T.setFrames fs) → Steps p.tables e below (T.setTop g) (T.setFrames fs))
    (hQ : Q v T.heap locs) (hc : cells ≤ kc) (hs : slots ≤ ks) : Go p e below (EndW cs s0 Q kc ks) T g := by
  obtain ⟨e1, hS⟩ := hB
  have X' : Stand p l e R (s0.setVm s.vm) m args below meth c T locs cells slots := e1 ▸ X
  obtain ⟨fs, hr, hrun, hended, r1, r2, r3, r4⟩ := X'.leaveW hS hn hv hlk
  exact ⟨_, _, fin fs hr, hrun, hended, v, locs, rfl, hQ, CHn.lt hC, r1, r2, r3, r4.mono hc hs⟩
theorem own_backW {y : MethodName} {bytes : ByteArray} {maxL Wt len : Nat} {ret : Option FieldType} {rm : Room} {as' : Array Value} {Q : Option Value → Heap → List Loc → Prop} (hM : WCtr cs N l Z y bytes maxL ret [] rm as' h Q)
    (X : Stand p l e R s m args below meth c T locs cells slots) (hZ : Z.Warmed39 s.vm) (wc : (Jvm.Cond.code y bytes maxL ret).before a0 Z = true) (wz : (Jvm.Cond.initialized y.cls).before a0 Z = true) (hf : rm.frames + 1 ≤ R.frames) (hl : Wt + (maxL + 11) + rm.locals ≤ R.locals)
    (hg : g.method = m) (hsize : g.locals.size = c.maxLocals) {ig : Instr} (hdg : decode c.code g.pc = .ok (ig, len)) (hW : 2 * g.monitorRoom + (g.stack.map fun v => v.category).sum ≤ Wt) {mk : MethodId} (hnm : T.methodNamed? y = some mk) (eT : T.heap = h) (hC : CHn cs N T)
    (hc : cells + rm.cells ≤ R.cells) (hs : slots + rm.slots ≤ R.slots) :
    ∃ (v : Option Value) (T' : State) (L : List Loc), Stand p l e R (s.setVm T'.vm) m args below meth c T' (locs ++ L) (cells + rm.cells) (slots + rm.slots) ∧ s.Since T'.vm T'.heap.size ∧ T.heap.size ≤ T'.heap.size ∧ Q v T'.heap L ∧ CHn cs (fun b => b < T'.heap.size) T' ∧
      Steps p.tables e below (doInvoke e (T.setTop g) [] mk as').1 (T'.setTop { g with pc := g.pc + len, stack := v.toList ++ g.stack }) := by
  have hU : Z.Warmed39 T.vm := wtrans hZ X.warmed
  have h2 : (Jvm.Cond.code y bytes maxL ret).before as' T = true := mvT hU wc
  have h3 : (Jvm.Cond.initialized y.cls).before as' T = true := mvT hU wz
  obtain ⟨methY, cY, hmY, hcY, -, hlY, -, -, -, -⟩ := Cond.code_spec hnm h2
  obtain ⟨kY, hkY, -⟩ := className_of_methodNamed hnm
  have hinitY : kY.init = .initialized := Cond.initialized_spec (findClass_of_methodNamed hnm) hkY h3
  have hh : At T g.method c below := by rw [hg]; exact X.here
  have h1 : (head1 [Jvm.Cond.code y bytes maxL ret] rm).pre.before as' T = true := by
    show (Cond.and _ .tt).before as' T = true
    rw [Cond.before_and, h2]; rfl
  have happ : (head1 [Jvm.Cond.code y bytes maxL ret] rm).appliesLoose y e.platform (T.calling g mk as') = true :=
    Spec.appliesLoose_calling (g := g) hh hdg hnm hkY hinitY (X.room_calling (g := g) (R' := rm) hsize hmY hcY hf (by rw [hlY]; omega) hc hs) h1
  obtain ⟨mid, hmid⟩ := hh.above
  have hfr : (T.setTop g).frames = (.java g :: mid) ++ below := by rw [State.frames_setTop' g hh.top, hmid]; rfl
  have hcv : (T.calling g mk as').vm = T.vm := by rw [State.calling_eq hh.top]; rfl
  have hch' : (T.calling g mk as').heap = T.heap := by rw [State.calling_eq hh.top]; rfl
  have hP1 : Z.Warmed39 (T.calling g mk as').vm := by rw [hcv]; exact hU
  have hP2 : (T.calling g mk as').heap = h := by rw [hch']; exact eT
  have hP3 : CHn cs N (T.calling g mk as') := CHn.mv hC (by rw [hcv]; exact State.WarmedH.refl T) (fun b c _ q => by rw [hch']; exact q)
  obtain ⟨o, s₂, hsteps, -, hend, hq⟩ := Steps.callFree hM p X.admits X.cas X.clock (acts := []) hfr happ ⟨rfl, hP1, hP2, hP3⟩ trivial
  have hq' : EndW cs (T.calling g mk as') Q rm.cells rm.slots o s₂ := hq
  obtain ⟨v, L, rfl, hQ, hCH, -, hW2, hB2, e2, q2, q3, q4, q5, q6⟩ := hq'
  rw [State.frames_setTop' g hh.top] at hend
  have hW' : T.Warmed39 s₂.vm := State.Warmed39.of_rootvm hcv.symm hW2
  have hB' : T.Booked s₂.vm s₂.heap.size := fun j q hj hq => by
    have := hB2 j q (by rw [hcv]; exact hj) hq
    rw [hch'] at this
    exact this
  obtain ⟨c₂, i₂, len₂, hc₂, hd₂, hf₂⟩ := hend
  have hcc : c₂ = c := by
    have h1 : s₂.code? g.method = T.code? g.method := by rw [State.code?_eq, State.code?_eq, hW'.alike.method?]
    exact Option.some.inj (hc₂.symm.trans (h1.trans hh.code))
  subst hcc
  have hlen : len₂ = len := by rw [hdg] at hd₂; cases hd₂; rfl
  subst hlen
  obtain ⟨g₀, hg0⟩ := Option.isSome_iff_exists.mp hh.top
  obtain ⟨r, hr⟩ := State.topJava?_eq_some.mp hg0
  have e3 : s₂ = ({ (T.calling g mk as').setFrames s₂.frames with heap := s₂.heap, slotsUsed := s₂.slotsUsed } : State).setVm s₂.vm := by
    have : s₂ = ({ s₂ with vm := (T.calling g mk as').vm } : State).setVm s₂.vm := rfl
    rw [e2] at this
    exact this
  have hs₂ : s₂ = (({ T with heap := s₂.heap, slotsUsed := s₂.slotsUsed } : State).setVm s₂.vm).setTop { g with pc := g.pc + len₂, stack := v.toList ++ g.stack } := by
    have hr' : (({ T with heap := s₂.heap, slotsUsed := s₂.slotsUsed } : State).setVm s₂.vm).frames = .java g₀ :: r := hr
    refine e3.trans ?_
    rw [hf₂, State.calling_eq hh.top, State.setFrames_setFrames, State.setTop_of_frames _ hr', hr]
    rfl
  have hsame : T.sameButNew ({ T with heap := s₂.heap, slotsUsed := s₂.slotsUsed } : State) L rm.cells rm.slots := by
    refine ⟨?_, q2, q3, q4, q5, q6⟩
    obtain ⟨t, ht, -⟩ := State.frames_cons hr
    show ({ T with heap := s₂.heap, slotsUsed := s₂.slotsUsed } : State) = { T.setFrames T.frames with heap := s₂.heap, slotsUsed := s₂.slotsUsed }
    rw [State.setFrames_self ht]
  obtain ⟨X', hS⟩ := X.movedW (T₂ := ({ T with heap := s₂.heap, slotsUsed := s₂.slotsUsed } : State).setVm s₂.vm) ((X.here.setHeapUsed s₂.heap s₂.slotsUsed).setVm hW'.alike) X.tail rfl rfl hW' hB' hsame
  refine ⟨v, _, L, X', hS, hsame.2.1, hQ, hCH, ?_⟩
  rw [← hs₂]
  exact hsteps
theorem Bas.next {n : Nat} (hB : Bas s0 s n) {T' : State} (hS : s.Since T'.vm T'.heap.size) (hn : n ≤ T'.heap.size) : Bas s0 (s.setVm T'.vm) T'.heap.size := by
  obtain ⟨e1, h1⟩ := hB
  refine ⟨?_, ?_⟩
  · rw [e1]; rfl
  · have hS' : (s0.setVm s.vm).Since T'.vm T'.heap.size := e1 ▸ hS
    exact h1.trans hS' hn
theorem Go.callSW (X : Stand p l e R s m args below meth c T locs cells slots) (hx : p.tables.exec = Jvm.exec) {n : Nat} (hB : Bas s0 s n) (hn : n ≤ T.heap.size) (hZ : Z.Warmed39 s.vm) {own : String} {index : Nat} {y : MethodName} {bytes : ByteArray} {maxL : Nat} {ret : Option FieldType}
    (hown : s.vm.findClass own = some m.cls) (hlink : (Jvm.Cond.methodLink own index y).before args s = true) (hstat : (Jvm.Cond.static y).before args s = true) (hinit : (Jvm.Cond.initialized y.cls).before args s = true)
    (hcode : (Jvm.Cond.code y bytes maxL ret).before args s = true) (hy : y.cls ≠ "java/lang/invoke/MethodHandle" ∧ y.cls ≠ "java/lang/invoke/VarHandle")
    {Wt : Nat} {rm : Room} {as' : Array Value} {Q : Option Value → Heap → List Loc → Prop} (hM : WCtr cs N l Z y bytes maxL ret [] rm as' h Q) (wc : (Jvm.Cond.code y bytes maxL ret).before a0 Z = true) (wz : (Jvm.Cond.initialized y.cls).before a0 Z = true) (hf : rm.frames + 1 ≤ R.frames) (hl : Wt + (maxL + 11) + rm.locals ≤ R.locals) (eT : T.heap = h) {hb : Heap} (hC : CHb cs N s hb) (hU : Und N hb T.heap)
    {g : JFrame} (hg : g.method = m) (hsize : g.locals.size = c.maxLocals) {argsL rest : List Value} (hlen : ∀ sig, parseMethodDescriptor y.desc = some sig → argsL.length = sig.parameters.length)
    (hstack : g.stack = argsL.reverse ++ rest) (hW : 2 * g.monitorRoom + (rest.map fun v => v.category).sum ≤ Wt) (hdg : decode c.code g.pc = .ok (.invokestatic index, 3))
    (has : argsL.toArray = as') (hc : cells + rm.cells ≤ R.cells) (hs : slots + rm.slots ≤ R.slots)
    (k : ∀ v s' T' L, Bas s0 s' T'.heap.size → Z.Warmed39 s'.vm → s'.vm.findClass own = some m.cls → CHb cs (fun b => b < T'.heap.size) s' T'.heap → T.heap.size ≤ T'.heap.size → Stand p l e R s' m args below meth c T' (locs ++ L) (cells + rm.cells) (slots + rm.slots) → Q v T'.heap L → Go p e below G T' { g with pc := g.pc + 3, stack := v.toList ++ rest }) : Go p e below G T g := by
  obtain ⟨mk, hnamed⟩ := Cond.code_named hcode
  obtain ⟨methM, cM, hmethM, -, -, -, -, -, -, hsigM⟩ := Cond.code_spec hnamed hcode
  have hstatic : methM.isStatic = true := Cond.static_spec hnamed hmethM hstat
  obtain ⟨kP, hkP, -⟩ := className_of_methodNamed hnamed
  have hinitP : kP.init = .initialized := Cond.initialized_spec (findClass_of_methodNamed hnamed) hkP hinit
  obtain ⟨vm₁, X₁, hstep₁⟩ := X.invokestatic hx hown hlink hnamed hmethM hstatic hkP hinitP hy (g := g) hg (argsL := argsL) (rest := rest) (hlen _ hsigM) hstack hdg
  subst has
  obtain ⟨v, T', L, X', hS, hsz, hQ, hCH, st⟩ := own_backW (g := { g with stack := rest }) hM X₁ hZ wc wz hf hl hg hsize hdg hW (X₁.named hnamed) eT (hC.to X₁ hU) hc hs
  have hsz' : T.heap.size ≤ T'.heap.size := hsz
  have hWs : s.Warmed39 T'.vm := hS.1
  exact Go.st (fun t q => hstep₁ t fun acts => by rw [doInvoke_state]; exact st.trans q) (k v (s.setVm T'.vm) T' L (hB.next hS (Nat.le_trans hn hsz')) (State.Warmed39.trans hZ hWs) (by show T'.vm.findClass own = _; rw [hWs.alike.findClass]; exact hown) hCH hsz' X' hQ)
theorem Go.callIW (X : Stand p l e R s m args below meth c T locs cells slots) (hx : p.tables.exec = Jvm.exec) {n : Nat} (hB : Bas s0 s n) (hn : n ≤ T.heap.size) (hZ : Z.Warmed39 s.vm) {own : String} {index : Nat} {y : MethodName} {bytes : ByteArray} {maxL : Nat} (hy1 : y.name = "<init>")
    (hown : s.vm.findClass own = some m.cls) (hlink : (Jvm.Cond.methodLink own index y).before args s = true) (hinst : (Jvm.Cond.instanceMethod y).before args s = true)
    (hcode : (Jvm.Cond.code y bytes maxL none).before args s = true) (hy : y.cls ≠ "java/lang/invoke/MethodHandle" ∧ y.cls ≠ "java/lang/invoke/VarHandle")
    {Wt : Nat} {rm : Room} {as' : Array Value} {Q : Option Value → Heap → List Loc → Prop} (hM : WCtr cs N l Z y bytes maxL none [] rm as' h Q) (wc : (Jvm.Cond.code y bytes maxL none).before a0 Z = true) (wz : (Jvm.Cond.initialized y.cls).before a0 Z = true) (hf : rm.frames + 1 ≤ R.frames) (hl : Wt + (maxL + 11) + rm.locals ≤ R.locals) (eT : T.heap = h) {hb : Heap} (hC : CHb cs N s hb) (hU : Und N hb T.heap)
    {g : JFrame} (hg : g.method = m) (hsize : g.locals.size = c.maxLocals) {a : Addr} {argsL rest : List Value} (hlen : ∀ sig, parseMethodDescriptor y.desc = some sig → argsL.length = sig.parameters.length)
    (hstack : g.stack = argsL.reverse ++ .ref a :: rest) (hW : 2 * g.monitorRoom + (rest.map fun v => v.category).sum ≤ Wt) (hdg : decode c.code g.pc = .ok (.invokespecial index, 3))
    (has : (.ref a :: argsL).toArray = as') (hc : cells + rm.cells ≤ R.cells) (hs : slots + rm.slots ≤ R.slots)
    (k : ∀ v s' T' L, Bas s0 s' T'.heap.size → Z.Warmed39 s'.vm → s'.vm.findClass own = some m.cls → CHb cs (fun b => b < T'.heap.size) s' T'.heap → T.heap.size ≤ T'.heap.size → Stand p l e R s' m args below meth c T' (locs ++ L) (cells + rm.cells) (slots + rm.slots) → Q v T'.heap L → Go p e below G T' { g with pc := g.pc + 3, stack := v.toList ++ rest }) : Go p e below G T g := by
  have hpl : e.platform.magicAccessors = ({} : Platform).magicAccessors := by rw [X.admits.platform]
  obtain ⟨mk, methM, cM, kP, vm₁, hnamed, hmethM, -, -, -, -, hkP, -, hW₁, hstep₁⟩ := Steps.initColdArgs (e := e) X.here hx X.warmed hpl hown hy1 hy hlink hinst hcode (f := g) hg hlen hstack hdg
  have X₁ := X.noted hW₁
  subst has
  obtain ⟨v, T', L, X', hS, hsz, hQ, hCH, st⟩ := own_backW (g := { g with stack := rest }) hM X₁ hZ wc wz hf hl hg hsize hdg hW (X₁.named hnamed) eT (hC.to X₁ hU) hc hs
  have hsz' : T.heap.size ≤ T'.heap.size := hsz
  have hWs : s.Warmed39 T'.vm := hS.1
  exact Go.st (fun t q => hstep₁ t fun acts => by rw [doInvoke_state]; exact st.trans q) (k v (s.setVm T'.vm) T' L (hB.next hS (Nat.le_trans hn hsz')) (State.Warmed39.trans hZ hWs) (by show T'.vm.findClass own = _; rw [hWs.alike.findClass]; exact hown) hCH hsz' X' hQ)
/-- the same over wider tables: what they find anew is such a String too -/
theorem CHn.wide {V : State} (H : CHn cs N W) (hW : W.Warmed39 V.vm) (hk : ∀ (b : Addr) (c : Cell), N b → W.heap[b]? = some c → V.heap[b]? = some c) (hN : ∀ b, N b → N' b)
    (hf : ∀ (units : Array UInt16) (a : Addr), V.vm.interned.find? (fun p => p.1 == units) = some (units, a) → W.vm.interned.find? (fun p => p.1 == units) = some (units, a) ∨ SlN N' V a units) : CHn cs N' V := by
  intro x hx c k' cf i units a h1 h2 h3 h4 h5 h6
  have hal := hW.alike
  have h1' : W.vm.findClass x.1 = some c := by rw [← hal.findClass]; exact h1
  obtain ⟨k, hkc, -⟩ := Vm.findClass_spec h1'
  obtain ⟨k2, g1, g2, -, g4, -⟩ := hW.2.2.2 c k hkc
  cases h2.symm.trans g1
  have h3' : k.cf = some cf := by rw [g2] at h3; exact h3
  have old := fun q => ((H x hx c k cf i units a h1' hkc h3' h4 h5 q).mv hal hk).up hN
  have found : k.resolved[x.2]? = some none → V.vm.interned.find? (fun p => p.1 == units) = some (units, a) → SlN N' V a units := fun q r => by
    rcases hf units a r with z | z
    · exact old (Or.inr ⟨q, z⟩)
    · exact z
  rcases h6 with h6 | ⟨h6, h7⟩
  · rcases g4 x.2 with q | ⟨q, r, q2, q3⟩
    · exact old (Or.inl (q ▸ h6))
    · rw [h6] at q2
      cases q2
      rcases q3 with q3 | ⟨a', t, si, us, e1, -, e3, e4, e5⟩
      · rw [own_right_string] at q3; cases q3
      · cases e1
        rw [h3'] at e3 e4
        have e6 : si = i := by have := e3.symm.trans h4; simpa using this
        subst e6
        have e7 : us = units := by simpa [ConstantPool.utf8?, h5] using e4.symm
        subst e7
        exact found q e5
  · rcases g4 x.2 with q | ⟨q, r, q2, q3⟩
    · exact found (q ▸ h6) h7
    · rw [h6] at q2; cases q2
theorem AI.ofCell {a : Addr} {ty : FieldType} {xs : List Int32} {c : Cell} (A : Arr Z h a c ty) (hs : c.slots.toList = xs.map Value.int) (hf : ∀ x ∈ xs, fits ty (.int x) = true) (hl : xs.length < 2147483648) : AI Z h a ty xs := by
  have hsz : c.slots.size = xs.length := by rw [← Array.length_toList, hs, List.length_map]
  refine ⟨hl, c.cls, c, A, rfl, by rw [own_ofNat_clamp hl]; exact hsz, own_ofNat_nn hl, fun i hi => ?_, fun i hi => ?_⟩
  · rw [← Array.getElem?_toList, hs, List.getD_eq_getElem?_getD]
    have : i < (xs.map Value.int).length := by rw [List.length_map]; omega
    rw [List.getElem?_eq_getElem this]; rfl
  · have hi' : i < xs.length := by omega
    rw [List.getD_eq_getElem?_getD, List.getElem?_map, List.getElem?_eq_getElem hi']
    exact hf _ (List.getElem_mem hi')
def own_bytes (units : Array UInt16) : List Int32 := units.toList.map fun u => u.toUInt8.toInt8.toInt32
theorem own_sl_core {q : SQ} {cS : ClassId} {u : Array UInt16} (h2 : Sl q cS W) (h3 : ∃ kS : Class, W.vm.classes[cS]? = some kS ∧ kS.kind = .ordinary ∧ q.sC.slots.size = kS.instanceTypes.size) (h5 : q.SA.slots = stringBytes u) (hZ : Z.Warmed39 W.vm) (hlat : u.all (· < 256) = true) :
    Exa Z W.heap q.sa "java/lang/String" ∧ Fld Z W.heap q.sa "java/lang/String" "value" "[B" (.ref q.sd) ∧ Fld Z W.heap q.sa "java/lang/String" "coder" "B" (.int 0) ∧ AI Z W.heap q.sd .byte (own_bytes u) := by
  obtain ⟨⟨s1, s2, s3, s4, s5, s6, s7, s8, s9, s10, s11, s12, s13, s14, s15, s16⟩, hc1, hc2⟩ := h2
  obtain ⟨kS, k1, k2, k3⟩ := h3
  have hal : W.vm.Alike Z.vm := hZ.alike.symm
  obtain ⟨cv, kv, iv, v1, v2⟩ := found_asg hal s4
  obtain ⟨cc, kc, ic, w1, w2⟩ := found_asg hal s5
  obtain ⟨kZ, hkZ, ekZ⟩ := hal.2.2 _ _ k1
  refine ⟨⟨q.sC, kZ, s1, by rw [hal.findClass, hc2]; exact hc1, by rw [hc2]; exact hkZ, s3, fun _ => by rw [ekZ]; exact k3⟩, ⟨q.sC, cv, kv, iv, q.fSV, s1, v1, s6, s2, s3, v2, s8⟩, ⟨q.sC, cc, kc, ic, q.fSC, s1, w1, s7, s2, s3, w2, s9⟩, ?_⟩
  refine AI.ofCell (c := q.SA) ⟨s10, State.isArrayOf_alike hal s11, s12⟩ ?_ ?_ ?_
  · rw [h5, stringBytes_lat hlat]; simp [own_bytes, byteValue, Function.comp_def]
  · intro x hx
    simp only [own_bytes, List.mem_map] at hx
    obtain ⟨y, -, rfl⟩ := hx
    exact fits_of_int8 _
  · have : (own_bytes u).length = q.SA.slots.size := by rw [h5, stringBytes_lat hlat]; simp [own_bytes]
    rw [this, s13]; exact s14
theorem SlN.facts {a : Addr} {u : Array UInt16} (F : SlN N W a u) (hZ : Z.Warmed39 W.vm) (hlat : u.all (· < 256) = true) :
    ∃ v, Exa Z W.heap a "java/lang/String" ∧ Fld Z W.heap a "java/lang/String" "value" "[B" (.ref v) ∧ Fld Z W.heap a "java/lang/String" "coder" "B" (.int 0) ∧ AI Z W.heap v .byte (own_bytes u) ∧ N a ∧ N v := by
  obtain ⟨q, cS, rfl, h2, h3, h4, h5, h6, h7⟩ := F
  obtain ⟨f1, f2, f3, f4⟩ := own_sl_core h2 h3 h5 hZ hlat
  exact ⟨q.sd, f1, f2, f3, f4, h6, h7⟩
theorem own_slIn_facts {a : Addr} {u : Array UInt16} {lo hi : Nat} (F : SlIn lo hi W a u) (hZ : Z.Warmed39 W.vm) (hlat : u.all (· < 256) = true) :
    ∃ v, Exa Z W.heap a "java/lang/String" ∧ Fld Z W.heap a "java/lang/String" "value" "[B" (.ref v) ∧ Fld Z W.heap a "java/lang/String" "coder" "B" (.int 0) ∧ AI Z W.heap v .byte (own_bytes u) ∧ ((a < lo ∧ v < lo) ∨ (hi ≤ a ∧ hi ≤ v)) := by
  obtain ⟨q, cS, rfl, h2, h3, h4, h5, h6⟩ := F
  obtain ⟨f1, f2, f3, f4⟩ := own_sl_core h2 h3 h5 hZ hlat
  exact ⟨q.sd, f1, f2, f3, f4, h6⟩
theorem own_chr (n : Nat) (h : n < 256) : (Char.ofNat n).toNat = n := by
  have : ∀ k : Fin 256, (Char.ofNat k.val).toNat = k.val := by decide +kernel
  exact this ⟨n, h⟩
theorem own_units {us : Array UInt16} {text : String} (h : utf16ToString? us = some text) (ht : ∀ c ∈ text.toList, c.toNat < 256) : text.toList = us.toList.map fun u => Char.ofNat u.toNat := by
  have hl := lat_of_text h ht
  rw [Array.all_eq_true_iff_forall_mem] at hl
  have := app_eq us.toList "" text (fun u hu => by have := hl u (Array.mem_toList_iff.mp hu); simpa using this) h
  simpa using this
theorem own_units_inj {us us' : Array UInt16} {text : String} (h : utf16ToString? us = some text) (h' : utf16ToString? us' = some text) (ht : ∀ c ∈ text.toList, c.toNat < 256) : us = us' := by
  have e := (own_units h ht).symm.trans (own_units h' ht)
  have l1 := lat_of_text h ht
  have l2 := lat_of_text h' ht
  rw [Array.all_eq_true_iff_forall_mem] at l1 l2
  apply Array.toList_inj.mp
  have key : ∀ (L L' : List UInt16), (∀ u ∈ L, u < 256) → (∀ u ∈ L', u < 256) → L.map (fun u => Char.ofNat u.toNat) = L'.map (fun u => Char.ofNat u.toNat) → L = L' := by
    intro L
    induction L with
    | nil => intro L' _ _ q; cases L' with | nil => rfl | cons => simp at q
    | cons x L ih =>
      intro L' g1 g2 q
      cases L' with
      | nil => simp at q
      | cons y L' =>
        simp only [List.map_cons, List.cons.injEq] at q
        have a1 : x.toNat < 256 := by have := g1 x (by simp); simpa [UInt16.lt_iff_toNat_lt] using this
        have a2 : y.toNat < 256 := by have := g2 y (by simp); simpa [UInt16.lt_iff_toNat_lt] using this
        have b1 : (Char.ofNat x.toNat).toNat = x.toNat := own_chr _ (by omega)
        have b2 : (Char.ofNat y.toNat).toNat = y.toNat := own_chr _ (by omega)
        have c1 : x.toNat = y.toNat := by rw [← b1, ← b2, q.1]
        rw [UInt16.toNat_inj.mp c1, ih L' (fun u hu => g1 u (by simp [hu])) (fun u hu => g2 u (by simp [hu])) q.2]
  exact key _ _ (fun u hu => by have := l1 u (Array.mem_toList_iff.mp hu); simpa using this) (fun u hu => by have := l2 u (Array.mem_toList_iff.mp hu); simpa using this) e
/-- ldc of a String constant whose entry is resolved -/
theorem Go.ldcR (X : Stand p l e R s m args below meth c T locs cells slots) (hx : p.tables.exec = Jvm.exec) (hZ : Z.Warmed39 s.vm) {own text : String} {index : Nat} (hown : s.vm.findClass own = some m.cls) (w : (Jvm.Cond.stringLink own index text).before a0 Z = true) {a : Addr}
    (hr : ∃ k₂, s.vm.classes[m.cls]? = some k₂ ∧ k₂.resolved[index]? = some (some (.string a))) {g : JFrame} (hg : g.method = m) (hdg : decode c.code g.pc = .ok (.ldc index, 2))
    (k : Go p e below G T { g with pc := g.pc + 2, stack := .ref a :: g.stack }) : Go p e below G T g := by
  have hlink : (Jvm.Cond.stringLink own index text).before args s = true := mvS (s := s) hZ w
  obtain ⟨k0, cf, i, units, hk, hcf, hc, hu, hnm, hdec, hres⟩ := Cond.stringLink_spec hown hlink
  obtain ⟨k₂, q1, q2⟩ := hr
  cases hk.symm.trans q1
  obtain ⟨k', g1, g2, -, g4, -⟩ := X.warmed.2.2 _ _ hk
  have hcf' : k'.cf = some cf := by rw [g2]; exact hcf
  have hr' : k'.resolved[index]? = some (some (.string a)) := by
    rcases g4 index with z | ⟨z, -⟩
    · exact z.trans q2
    · rw [q2] at z; cases z
  subst hg
  refine Go.st (fun t hrest => ?_) k
  jvm_step X.here [hx, hdg, ldc.wp_string (e := e) (s := T) (f := g) X.here.top g1 hcf' hc hr']
  exact hrest
theorem Go.ldcW (X : Stand p l e R s m args below meth c T locs cells slots) (hx : p.tables.exec = Jvm.exec) {n : Nat} (hB : Bas s0 s n) (hn : n ≤ T.heap.size) (hZ : Z.Warmed39 s.vm) {own text : String} {index : Nat} (hown : s.vm.findClass own = some m.cls) (w : (Jvm.Cond.stringLink own index text).before a0 Z = true)
    (wS : ∀ d ∈ Bundle.stringAtoms, d.before a0 Z = true) (htx : ∀ c ∈ text.toList, c.toNat < 256) {hb : Heap} (hC : CHb cs N s hb) (hU : Und N hb T.heap) (hm : (own, index) ∈ cs) (hfr : ∀ y ∈ locs, s.heap.size ≤ y.base)
    {g : JFrame} (hg : g.method = m) (hdg : decode c.code g.pc = .ok (.ldc index, 2)) {nn : Nat} (hnn : 4 * text.toList.length ≤ nn) (hbig : nn ≤ 536870912) (hc : cells + 2 ≤ R.cells) (hs : slots + (nn + 4) ≤ R.slots)
    (k : ∀ a v s' T' units locs', utf16ToString? units = some text → Bas s0 s' T'.heap.size → Z.Warmed39 s'.vm → s'.vm.findClass own = some m.cls → CHb cs (fun b => N b ∨ T.heap.size ≤ b) s' T'.heap → Ext T.heap T'.heap → s'.heap = s.heap → (∀ y ∈ locs', y ∈ locs) →
      Stand p l e R s' m args below meth c T' locs' (cells + 2) (slots + (nn + 4)) → (∃ k₂, s'.vm.classes[m.cls]? = some k₂ ∧ k₂.resolved[index]? = some (some (.string a))) →
      Exa Z T'.heap a "java/lang/String" → Fld Z T'.heap a "java/lang/String" "value" "[B" (.ref v) → Fld Z T'.heap a "java/lang/String" "coder" "B" (.int 0) → AI Z T'.heap v .byte (own_bytes units) → ((N a ∧ N v) ∨ (T.heap.size ≤ a ∧ T.heap.size ≤ v)) →
      Go p e below G T' { g with pc := g.pc + 2, stack := .ref a :: g.stack }) : Go p e below G T g := by
  have hlink : (Jvm.Cond.stringLink own index text).before args s = true := mvS (s := s) hZ w
  have hCT : CHn cs N T := hC.to X hU
  obtain ⟨k0, cf, i, units, hk, hcf, hcp, hu, hnm, hdec, hres⟩ := Cond.stringLink_spec hown hlink
  have hlat : units.all (· < 256) = true := lat_of_text hdec htx
  obtain ⟨k', g1, g2, -, g4, -⟩ := X.warmed.2.2 _ _ hk
  have hcf' : k'.cf = some cf := by rw [g2]; exact hcf
  have hsame : k'.resolved[index]? = k0.resolved[index]? := by
    rcases g4 index with z | ⟨z, r, z2, z3⟩
    · exact z
    · exfalso; cases r <;> simp [State.rightAt, hk, hcf, hnm] at z3
  have hownT : T.vm.findClass own = some m.cls := by rw [X.warmed.alike.findClass]; exact hown
  have hint : T.vm.interned = s.vm.interned := X.warmed.interned_eq
  have hZT : Z.Warmed39 T.vm := wtrans hZ X.warmed
  rcases hres with hop | ⟨a, hra⟩
  · cases hf : s.vm.interned.find? (fun p => p.1 == units) with
    | some pr =>
      obtain ⟨u', a⟩ := pr
      have hu' : u' = units := by have := Array.find?_some hf; simpa using this
      subst hu'
      have hopT : k'.resolved[index]? = some none := hsame.trans hop
      have hfT : T.vm.interned.find? (fun p => p.1 == u') = some (u', a) := by rw [hint]; exact hf
      have hSl : SlN N T a u' := hCT _ hm _ k' cf i u' a hownT g1 hcf' hcp hu (Or.inr ⟨hopT, hfT⟩)
      have q2 : k0.cf.bind (namesOf? ·.constantPool index) = some (.string text) := by rw [hcf]; exact hnm
      have q3 : k0.cf.bind (·.constantPool[index]?) = some (.string i) := by rw [hcf]; exact hcp
      have q4 : k0.cf.bind (·.constantPool.utf8? i) = some u' := by rw [hcf]; simp [ConstantPool.utf8?, hu]
      have hW : s.Warmed39 (T.vm.noted m.cls index (.string a)) := X.warmed.wide.notedString hk (Or.inl hop) q2 q3 q4 hfT
      have X2 := (X.mono (Nat.le_add_right cells 2) (Nat.le_add_right slots (nn + 4))).retabled hW
      have hSl2 : SlN N (T.setVm (T.vm.noted m.cls index (.string a))) a u' := hSl.mv (X.warmed.alike.symm.trans hW.alike) (fun _ _ _ q => q)
      obtain ⟨v, f1, f2, f3, f4, f5, f6⟩ := hSl2.facts (State.Warmed39.trans hZ hW) hlat
      have hS : s.Since (T.vm.noted m.cls index (.string a)) T.heap.size := ⟨hW, fun j pr hj hp => by
        have hp' : T.vm.interned[j]? = some pr := hp
        rw [hint] at hp'
        exact absurd (Array.getElem?_eq_some_iff.mp hp').1 (Nat.not_lt.mpr hj)⟩
      have hCH : CHb cs (fun b => N b ∨ T.heap.size ≤ b) (s.setVm (T.vm.noted m.cls index (.string a))) T.heap :=
        CHn.wide (V := ({ s.setVm (T.vm.noted m.cls index (.string a)) with heap := T.heap } : State)) hC (show ({ s with heap := hb } : State).Warmed39 _ from hW) hU.2 (fun _ q => Or.inl q) (fun us b q => Or.inl (by
          have q' : T.vm.interned.find? (fun p => p.1 == us) = some (us, b) := q
          rw [hint] at q'; exact q'))
      refine Go.st (fun t hrest => ?_) (k a v (s.setVm (T.vm.noted m.cls index (.string a))) (T.setVm (T.vm.noted m.cls index (.string a))) u' locs hdec (hB.next (T' := T.setVm (T.vm.noted m.cls index (.string a))) hS hn) (State.Warmed39.trans hZ hW) (by show (T.vm.noted m.cls index (.string a)).findClass own = _; rw [hW.alike.findClass]; exact hown) hCH ⟨Nat.le_refl _, fun _ _ q => q⟩ rfl (fun _ q => q) X2 ⟨_, Vm.classes_note_self index (.string a) g1, Class.resolved_note_self (.string a) hopT⟩ f1 f2 f3 f4 (Or.inl ⟨f5, f6⟩))
      subst hg
      jvm_step X.here [hx, hdg, ldc.wp_string_found (e := e) (s := T) (f := g) X.here.top g1 hcf' hcp hu hopT hfT]
      exact hrest
    | none =>
      have X0 : Stand p l e R s m args below meth c T [] cells slots := Stand.dropFresh (locs := []) (J := locs) (by simpa using X) hfr
      have hheld : ConstHeldL s own index := by
        intro c2 k2 cf2 i2 us2 a2 h1 h2 h3 h4 h5 h6
        cases hown.symm.trans h1
        cases hk.symm.trans h2
        cases hcf.symm.trans h3
        cases hcp.symm.trans h4
        cases hu.symm.trans h5
        rcases h6 with h6 | ⟨-, h6⟩
        · rw [hop] at h6; cases h6
        · rw [hf] at h6; cases h6
      have hSat : ∀ d ∈ Bundle.stringAtoms, d.before args s = true := fun d hd => by
        have q := wS d hd
        simp only [Bundle.stringAtoms, List.mem_cons, List.not_mem_nil, or_false] at hd
        rcases hd with rfl | rfl | rfl | rfl | rfl | rfl | rfl
        · exact mv hZ q
        · exact mv hZ q
        · exact mvA hZ q
        · exact mv hZ q
        · exact mv hZ q
        · exact mv hZ q
        · exact mv hZ q
      obtain ⟨a, T₂, X2, hS, hres2, hkeep, hI1, hI2, ⟨us, hus, hin⟩, st⟩ := X0.ldcStringColdSl2 hx hown hlink hSat hheld (fun us2 h2 => lat_of_text h2 htx) hg hdg hnn hbig hc hs
      have hlat2 : us.all (· < 256) = true := lat_of_text hus htx
      have hZ2 : Z.Warmed39 T₂.vm := State.Warmed39.trans hZ hS.1
      have eus : us = units := own_units_inj hus hdec htx
      subst eus
      obtain ⟨v, f1, f2, f3, f4, f5⟩ := own_slIn_facts hin hZ2 hlat2
      have hE : Ext T.heap T₂.heap := ext_of hkeep
      have hfa : T₂.vm.interned.find? (fun p => p.1 == us) = some (us, a) := by
        obtain ⟨k2, hk2, hr2⟩ := hres2
        obtain ⟨k3, b1, b2, -, b4, -⟩ := hS.1.2.2.2 _ _ hk
        cases hk2.symm.trans b1
        rcases b4 index with z | ⟨-, r, z2, z3⟩
        · rw [hop, hr2] at z; cases z
        · rw [hr2] at z2
          cases z2
          rcases z3 with z3 | ⟨a3, t3, si3, us3, y1, -, y3, y4, y5⟩
          · rw [own_right_string] at z3; cases z3
          · cases y1
            rw [hcf] at y3 y4
            have e6 : si3 = i := by have := y3.symm.trans hcp; simpa using this
            subst e6
            have e7 : us3 = us := by simpa [ConstantPool.utf8?, hu] using y4.symm
            subst e7
            exact y5
      have hnew : s.heap.size ≤ a := by
        obtain ⟨more, hmore⟩ := hS.1.2.2.1
        have hmem : (us, a) ∈ T₂.vm.interned := Array.mem_of_find?_eq_some hfa
        rw [hmore] at hmem
        rcases Array.mem_append.mp hmem with z | z
        · rw [Array.find?_eq_none] at hf
          exact absurd (by simp) (hf _ z)
        · obtain ⟨j, hj, ej⟩ := Array.mem_iff_getElem.mp z
          have := hS.2 (s.vm.interned.size + j) (us, a) (Nat.le_add_right _ _) (by rw [hmore, Array.getElem?_append_right (Nat.le_add_right _ _), Nat.add_sub_cancel_left, Array.getElem?_eq_getElem hj, ej])
          exact this.1
      have hSl : SlN (fun b => N b ∨ T.heap.size ≤ b) T₂ a us := by
        obtain ⟨q, cS, j1, j2, j3, j4, j5, j6⟩ := hin
        rcases j6 with ⟨z, -⟩ | ⟨z1, z2⟩
        · rw [j1] at z; exact absurd z (Nat.not_lt.mpr hnew)
        · exact ⟨q, cS, j1, j2, j3, j4, j5, Or.inr z1, Or.inr z2⟩
      have hCH : CHb cs (fun b => N b ∨ T.heap.size ≤ b) (s.setVm T₂.vm) T₂.heap :=
        CHn.wide (V := ({ s.setVm T₂.vm with heap := T₂.heap } : State)) hC (show ({ s with heap := hb } : State).Warmed39 _ from hS.1) (hU.ext hE).2 (fun _ q => Or.inl q) (fun us2 b q => by
          have q' : T₂.vm.interned.find? (fun p => p.1 == us2) = some (us2, b) := q
          rcases hI2 with y | ⟨u3, a3, y1, y2⟩
          · rw [y, hint] at q'; exact Or.inl q'
          · have q0 := q'
            rw [y2, hint, Array.find?_push] at q'
            cases hf2 : s.vm.interned.find? (fun p => p.1 == us2) with
            | some pr => rw [hf2] at q'; exact Or.inl (by simpa [hf2] using q')
            | none =>
              rw [hf2] at q'
              simp only [Option.none_or] at q'
              split at q'
              · rename_i hbe
                have hu3 : u3 = us2 := by simpa using hbe
                subst hu3
                have hb3 : a3 = b := by simpa using q'
                subst hb3
                have e8 : u3 = us := own_units_inj y1 hus htx
                subst e8
                rw [hfa] at q0
                cases q0
                exact Or.inr (hSl.mv (V := ({ s.setVm T₂.vm with heap := T₂.heap } : State)) (Vm.Alike.refl _) (fun _ _ _ q => q))
              · cases q')
      refine Go.st st (k a v (s.setVm T₂.vm) T₂ us [] hus (hB.next hS (Nat.le_trans hn hE.1)) hZ2 (by show T₂.vm.findClass own = _; rw [hS.1.alike.findClass]; exact hown) hCH hE rfl (fun _ q => nomatch q) X2 hres2 f1 f2 f3 f4 ?_)
      rcases f5 with ⟨z, -⟩ | z
      · exact absurd z (Nat.not_lt.mpr hnew)
      · exact Or.inr z
  · have hraT : k'.resolved[index]? = some (some (.string a)) := hsame.trans hra
    have hSl : SlN N T a units := hCT _ hm _ k' cf i units a hownT g1 hcf' hcp hu (Or.inl hraT)
    obtain ⟨v, f1, f2, f3, f4, f5, f6⟩ := hSl.facts hZT hlat
    have X2 := X.mono (Nat.le_add_right cells 2) (Nat.le_add_right slots (nn + 4))
    have hCH : CHb cs (fun b => N b ∨ T.heap.size ≤ b) s T.heap := CHn.up (CHn.mv (V := ({ s with heap := T.heap } : State)) hC (State.WarmedH.refl _) hU.2) (fun _ q => Or.inl q)
    have hB2 : Bas s0 s T.heap.size := ⟨hB.1, hB.2.1, hB.2.2.mono hn⟩
    refine Go.st (fun t hrest => ?_) (k a v s T units locs hdec hB2 hZ hown hCH ⟨Nat.le_refl _, fun _ _ q => q⟩ rfl (fun _ q => q) X2 ⟨_, hk, hra⟩ f1 f2 f3 f4 (Or.inl ⟨f5, f6⟩))
    subst hg
    jvm_step X.here [hx, hdg, ldc.wp_string (e := e) (s := T) (f := g) X.here.top g1 hcf' hcp hraT]
    exact hrest
theorem Go.retVW (X : Stand p l e R s m args below meth c T locs cells slots) (hx : p.tables.exec = Jvm.exec) {n : Nat} (hB : Bas s0 s n) (hn : n ≤ T.heap.size) {hb : Heap} (hC : CHb cs N s hb) (hU : Und N hb T.heap) {pc : Nat} {Ls : Array Slot} {Q : Option Value → Heap → List Loc → Prop} {kc ks : Nat} {rest : List Value} {w : Value} {t : FieldType} (hret : meth.sig.returnType = some t) (hlk : meth.locks = false) (ht : t.isReference = true) (hw : w.isRef = true)
    (hd : decode c.code pc = .ok (.areturn, 1)) (hQ : Q (some w) T.heap locs) (hc : cells ≤ kc) (hs : slots ≤ ks) : Go p e below (EndW cs s0 Q kc ks) T (mkF m pc Ls (w :: rest)) :=
  Go.doneW X hB hn (hC.to X hU) (fun q => by rw [hret] at q; cases q) hlk (fun fs hr => retOut X hx hret (by rcases ref_cases hw with rfl | ⟨z, rfl⟩ <;> cases t <;> first | rfl | cases ht) (Or.inr (Or.inr (Or.inr (Or.inr ⟨rfl, ht, hw⟩)))) hd hr) hQ hc hs
theorem Go.retBW (X : Stand p l e R s m args below meth c T locs cells slots) (hx : p.tables.exec = Jvm.exec) {n : Nat} (hB : Bas s0 s n) (hn : n ≤ T.heap.size) {hb : Heap} (hC : CHb cs N s hb) (hU : Und N hb T.heap) {pc : Nat} {Ls : Array Slot} {Q : Option Value → Heap → List Loc → Prop} {kc ks : Nat} {rest : List Value} {z : Int32} {t : FieldType} (hret : meth.sig.returnType = some t) (hlk : meth.locks = false) (ht : t = .boolean ∨ t = .byte ∨ t = .char ∨ t = .short)
    (hd : decode c.code pc = .ok (.ireturn, 1)) (hQ : Q (some (.int (nar t z))) T.heap locs) (hc : cells ≤ kc) (hs : slots ≤ ks) : Go p e below (EndW cs s0 Q kc ks) T (mkF m pc Ls (.int z :: rest)) :=
  Go.doneW X hB hn (hC.to X hU) (fun q => by rw [hret] at q; cases q) hlk (fun fs hr => retN X hx hret ht hd hr) hQ hc hs
theorem Go.ret0W (X : Stand p l e R s m args below meth c T locs cells slots) (hx : p.tables.exec = Jvm.exec) {n : Nat} (hB : Bas s0 s n) (hn : n ≤ T.heap.size) {hb : Heap} (hC : CHb cs N s hb) (hU : Und N hb T.heap) {pc : Nat} {Ls : Array Slot} {Q : Option Value → Heap → List Loc → Prop} {kc ks : Nat} (hret : meth.sig.returnType = none) (hlk : meth.locks = false)
    (hd : decode c.code pc = .ok (.return_, 1)) (hQ : Q none T.heap locs) (hc : cells ≤ kc) (hs : slots ≤ ks) : Go p e below (EndW cs s0 Q kc ks) T (mkF m pc Ls []) :=
  Go.doneW X hB hn (hC.to X hU) (fun _ => rfl) hlk (fun fs hr => X.returnOut hx hret hd hr) hQ hc hs
/-! from the statement's word on held constants -/
theorem own_eqI {args : Array Value} {t : Term} {v : Int32} (h : (Cond.eq t (Term.int v)).before args s = true) : t.eval args s none [] s = some (.int v) := by
  have h := Cond.before_iff.mp h
  obtain ⟨x, y, h1, h2, k1, k2⟩ := cmp_v (Or.inl h)
  cases Option.some.inj ((Term.int_eval v).symm.trans h2)
  obtain ⟨z, rfl⟩ := k2
  have q := gotT (Cond.eq_ints h1 (Term.int_eval v)) h
  rw [h1, q]
theorem own_slOf {a : Addr} {units : Array UInt16} (hl : units.all (· < 256) = true) (hbig : units.size < 2147483648) (hw : (Jvm.Lit.latin1L units).all (fun w => w.before #[.ref a] s) = true)
    (harr : (Jvm.Cond.arrayClass .byte).before #[.ref a] s = true) (hins : (Jvm.Cond.instantiable "java/lang/String" 4).before #[.ref a] s = true) : SlOf s a units := by
  have Wd := fun w hm => List.all_eq_true.mp hw w hm
  have ev0 : (Term.arg 0).eval #[.ref a] s none [] s = some (.ref a) := rfl
  have w1 : (Jvm.Cond.exactly (.arg 0) "java/lang/String").before #[.ref a] s = true := Wd _ (by simp [Jvm.Lit.latin1L])
  have c2 := own_eqI (Wd (Jvm.Cond.eq Jvm.Lit.C0 (.int 0)) (by simp [Jvm.Lit.latin1L]))
  have w3 : (Jvm.Cond.exactly Jvm.Lit.V0 "[B").before #[.ref a] s = true := Wd _ (by simp [Jvm.Lit.latin1L])
  have c4 := own_eqI (Wd (Jvm.Cond.eq (.length Jvm.Lit.V0) (.int (Int32.ofNat units.size))) (by simp [Jvm.Lit.latin1L]))
  have c5 : ∀ j, j < units.size → (Term.elem Jvm.Lit.V0 (.int (Int32.ofNat j))).eval #[.ref a] s none [] s = some (.int (Jvm.Lit.byteI (units.getD j 0))) := fun j hj =>
    own_eqI (Wd _ (List.mem_append_right _ (List.mem_map.mpr ⟨j, List.mem_range.mpr hj, rfl⟩)))
  have E : Exa s s.heap a "java/lang/String" := Exa.start ev0 (Cond.before_iff.mp w1)
  have FC : Fld s s.heap a "java/lang/String" "coder" "B" (.int 0) := Fld.start (by rw [← fld_at (t := .arg 0) (args := #[.ref a]) (first := s) (o := none) (idx := []) ev0]; exact c2)
  obtain ⟨sd, SA, hev, hAt, -⟩ := Term.length_spec c4
  have FV : Fld s s.heap a "java/lang/String" "value" "[B" (.ref sd) := Fld.start (by rw [← fld_at (t := .arg 0) (args := #[.ref a]) (first := s) (o := none) (idx := []) ev0]; exact hev)
  have h31 := Jvm.Free.SBG.length_lt hev hAt c4
  obtain ⟨sd', cB, SA', kB, hevB, hfB, hcB, hkB, -, hclsB, -⟩ := Cond.exactly_spec w3
  cases hev.symm.trans hevB
  obtain ⟨hcell, hunk, hst, -⟩ := State.arrayAt?_spec hAt
  cases hcell.symm.trans hcB
  obtain ⟨cA, kA, comp, f1, f2, f3⟩ := Cond.arrayClass_spec harr
  have f1' : s.vm.findClass "[B" = some cA := f1
  cases hfB.symm.trans f1'
  have hArr : s.isArrayOf SA .byte := ⟨fun k hk => (by rw [hk] at hst; cases hst), kA, (by rw [hclsB]; exact f2), comp, f3⟩
  have hsz : SA.slots.size = units.size := by
    have e : (Term.length Jvm.Lit.V0).eval #[.ref a] s none [] s = some (.int (Int32.ofNat SA.slots.size)) := by simp [Term.eval] at hev ⊢; simp [hev, hAt, h31]
    have h2 : Int32.ofNat SA.slots.size = Int32.ofNat units.size := by simpa using Option.some.inj (e.symm.trans c4)
    have := congrArg Int32.toInt h2
    rw [Int32.toInt_ofNat_small h31, Int32.toInt_ofNat_small (by omega)] at this; omega
  have hat : ∀ j, j < units.size → SA.slots[j]? = some (.int (Jvm.Lit.byteI (units.getD j 0))) := fun j hj => by
    have e1 := c5 j hj
    rw [Jvm.Free.SBG.elem_at (ix := .int (Int32.ofNat j)) hev hAt (by omega) h31 rfl] at e1; exact e1
  have hslots : SA.slots = stringBytes units := by
    rw [stringBytes_lat hl]
    apply Array.ext
    · rw [hsz, Array.size_map]
    · intro j h1 h2
      have hj : j < units.size := by omega
      have e := hat j hj
      rw [Array.getElem?_eq_getElem h1] at e
      rw [Option.some.inj e, Array.getElem_map]
      simp [byteValue, Jvm.Lit.byteI, Array.getD, hj]
  have hne : a ≠ sd := ne_arr E hins ⟨hcell, hArr, hunk⟩
  obtain ⟨cell, k, e1, e2, e3, e4, e5⟩ := E
  obtain ⟨cv, cfv, kv, iv, fv, v1, v2, v3, v4, v5, v6, v7⟩ := FV
  cases e1.symm.trans v1
  obtain ⟨cc, cfc, kc, ic, fc, x1, x2, x3, x4, x5, x6, x7⟩ := FC
  cases e1.symm.trans x1
  obtain ⟨cI, kI, i1, i2, i3, -⟩ := Cond.instantiable_spec hins
  cases e2.symm.trans i1
  cases e3.symm.trans i2
  refine ⟨(a, cell, fv, fc, sd, SA, SA.slots.size), cell.cls, rfl, ⟨⟨e1, v4, v5, ⟨cfv, kv, iv, v2, v6⟩, ⟨cfc, kc, ic, x2, x6⟩, v3, x3, v7, x7, hcell, hArr, hunk, rfl, h31, hne, fun j hj => ?_⟩, e2, rfl⟩, ⟨k, e3, i3, e5 i3⟩, by rw [hclsB]; exact hfB, hslots⟩
  have hj2 : j < SA.slots.size := hj
  have hj' : j < units.size := by omega
  have := hat j hj'
  show fits .byte (SA.slots.getD j .null) = true
  rw [Array.getD_eq_getD_getElem?, this]
  exact fits_of_int8 _
theorem own_heldL {args : Array Value} {own text : String} {index : Nat} (hh : Jvm.Lit.constHeld s own index) (hlink : (Jvm.Cond.stringLink own index text).before args s = true) (htx : ∀ c ∈ text.toList, c.toNat < 256)
    (hcw : Jvm.Lit.compactW.before args s = true) (harr : (Jvm.Cond.arrayClass .byte).before args s = true) (hins : (Jvm.Cond.instantiable "java/lang/String" 4).before args s = true) : ConstHeldL s own index := by
  intro c k cf i units a hc hk hcf hp hu hor
  obtain ⟨k', cf', i', units', hk', hcf', hp', hu', -, htext, -⟩ := Cond.stringLink_spec hc hlink
  cases hk.symm.trans hk'
  cases hcf.symm.trans hcf'
  cases hp.symm.trans hp'
  cases hu.symm.trans hu'
  have hlat := lat_of_text htext htx
  have q := hh c k cf i units a hc hk hcf hp hu hlat (by rw [← hcw]; rfl) hor
  exact own_slOf hlat q.1 q.2 (by simpa [Cond.before, Cond.holds, Cond.value] using harr) (tableWord_moved rfl hins)
end GoWide
section B64Kit
variable {p : Program} {l : Launch} {e : Env} {R : Room} {s : State} {m : MethodId} {args : Array Value} {below : List Frame} {meth : Method} {c : Code} {T T' : State} {locs : List Loc} {cells slots : Nat} {Z : State} {a0 : Array Value} {h h' : Heap} {G : Outcome → State → Prop} {g g' : JFrame} {cs : List (String × Nat)} {N : Nat → Prop} {W : State}
/-- a contract of a method with an exception table whose walk throws nothing -/
def CtrH (l : Launch) (Z : State) (y : MethodName) (bytes : ByteArray) (maxL : Nat) (ret : Option FieldType) (hs : List (Nat × Nat × Nat × Nat)) (rm : Room) (as' : Array Value) (h0 : Heap) (Q : Option Value → Heap → List Loc → Prop) : Prop :=
  MetFree l y (head1 [Jvm.Cond.codeWith y bytes maxL ret hs] rm) (fun a U => a = as' ∧ Z.Warmed39 U.vm ∧ U.heap = h0) (fun _ _ _ _ _ => True) (fun _ U o U' => ∃ v L, o = .returned v ∧ Q v U'.heap L ∧ FrameEnd U o U' L rm.cells rm.slots)
theorem CtrH.of {y : MethodName} {bytes : ByteArray} {maxL : Nat} {ret : Option FieldType} {hs : List (Nat × Nat × Nat × Nat)} {rm : Room} {as' : Array Value} {h0 : Heap} {Q : Option Value → Heap → List Loc → Prop} (hpf : plainFor y = true)
    (body : ∀ p e s m below meth c s₁, p.tables.exec = Jvm.exec → c.code = bytes → c.maxLocals = maxL → s.vm.findClass y.cls = some m.cls → meth.name = y.name → meth.sig.returnType = ret → meth.locks = false → Z.Warmed39 s.vm →
      Stand p l e rm s m as' below meth c s₁ [] 0 0 → s₁.heap = h0 → Go p e below (EndQ s Q rm.cells rm.slots) s₁ (entryFrame m as' maxL)) : CtrH l Z y bytes maxL ret hs rm as' h0 Q := by
  refine MetFree.of_bodySF hpf hisWith ?_
  intro p e s m args below meth c s₁ Bd hml0 hP hK
  obtain ⟨rfl, hZ, hh⟩ := hP
  exact body p e s m below meth c s₁ Bd.exec Bd.bytes hml0 (findClass_of_methodNamed Bd.named) (name_of_methodNamed Bd.named Bd.method).1 Bd.returns Bd.notSynchronized hZ (Stand.of_body Bd) (by rw [← hh, Bd.state]; rfl)
theorem CtrH.back {y : MethodName} {bytes : ByteArray} {maxL W : Nat} {ret : Option FieldType} {hs : List (Nat × Nat × Nat × Nat)} {rm : Room} {as' : Array Value} {Q : Option Value → Heap → List Loc → Prop} (hM : CtrH l Z y bytes maxL ret hs rm as' h Q)
    (hZ : Z.Warmed39 s.vm) (wc : (Jvm.Cond.codeWith y bytes maxL ret hs).before a0 Z = true) (wz : (Jvm.Cond.initialized y.cls).before a0 Z = true) (hf : rm.frames + 1 ≤ R.frames) (hl : W + (maxL + 11) + rm.locals ≤ R.locals) :
    BackQ l R p e below s args y W as' h rm.cells rm.slots Q := backOfWith hM hZ wc wz hf hl
/-- invokevirtual of a private method -/
theorem Go.callPV (X : Stand p l e R s m args below meth c T locs cells slots) (hx : p.tables.exec = Jvm.exec) {own C : String} {index : Nat} {y : MethodName} {bytes : ByteArray} {maxL : Nat} {ret : Option FieldType}
    (hown : s.vm.findClass own = some m.cls) (hlink : (Jvm.Cond.methodLink own index y).before args s = true) (hinst : (Jvm.Cond.instanceMethod y).before args s = true) (hsel : (Jvm.Cond.selects y.cls y y).before args s = true)
    (hpriv : (Jvm.Cond.privateMethod y).before args s = true) (hcode : (Jvm.Cond.code y bytes maxL ret).before args s = true)
    (hy : y.cls ≠ "java/lang/invoke/MethodHandle" ∧ y.cls ≠ "java/lang/invoke/VarHandle")
    {W kc ks : Nat} {as' : Array Value} {Q : Option Value → Heap → List Loc → Prop} (hK : BackQ l R p e below s args y W as' h kc ks Q) (eT : T.heap = h)
    {b : Addr} (E : Exa Z h b C)
    {g : JFrame} (hg : g.method = m) (hsize : g.locals.size = c.maxLocals) {argsL rest : List Value} (hlen : ∀ sig, parseMethodDescriptor y.desc = some sig → argsL.length = sig.parameters.length)
    (hstack : g.stack = argsL.reverse ++ .ref b :: rest) (hW : 2 * g.monitorRoom + (rest.map fun v => v.category).sum ≤ W) (hdg : decode c.code g.pc = .ok (.invokevirtual index, 3))
    (has : (.ref b :: argsL).toArray = as') (hc : cells + kc ≤ R.cells) (hs : slots + ks ≤ R.slots)
    (k : ∀ v T' L, Stand p l e R s m args below meth c T' (locs ++ L) (cells + kc) (slots + ks) → Q v T'.heap L → Go p e below G T' { g with pc := g.pc + 3, stack := v.toList ++ rest }) : Go p e below G T g := by
  obtain ⟨cell, kq, qa, -, -, qd, -⟩ := E
  obtain ⟨v, vm₁, ⟨T1, L1, k1, n1⟩, -, X1, ⟨L, hQ, h1, h2, h3⟩, st⟩ := X.privateBack hx hown hlink hinst hsel (Cond.privateMethod_at hpriv) hcode hy hK hg hsize (Steps.refl _) (cell := cell) (by rw [eT]; exact qa) (fun q z => by rw [z] at qd; cases qd) hlen hstack hW hdg (fun _ _ => ⟨has, eT, hc, hs⟩)
  dsimp only [Pt.U, Pt.locs, Pt.cells, Pt.slots] at X1 h1 h2 h3 st hQ
  subst h1 h2 h3
  exact Go.tr st (k v T1 L X1 hQ)
theorem Go.newarrE (X : Stand p l e R s m args below meth c T locs cells slots) (hx : p.tables.exec = Jvm.exec) (hZ : Z.Warmed39 s.vm) {aty : ArrayType} {ty : FieldType} {ad : String} (had : "[" ++ (newarray.typeOf aty).toString = ad) (hty : newarray.typeOf aty = ty) (hdv : defaultValue ty = .int 0) (w : (Jvm.Cond.arrayClass ty).before a0 Z = true) (eT : T.heap = h)
    {g : JFrame} (hg : g.method = m) (hd : decode c.code g.pc = .ok (.newarray aty, 2)) {j : Int32} {n : Nat} {rest : List Value} (hs : g.stack = .int j :: rest) (hj : j = Int32.ofNat n) (hn : n * 8 ≤ 536870912) (hc : cells + 1 ≤ R.cells) (hl : slots + n ≤ R.slots)
    (k : ∀ T' h', Stand p l e R s m args below meth c T' locs (cells + 1) (slots + n) → T'.heap = h' → Ext h h' → h.size < h'.size → AI Z h' h.size ty (List.replicate n 0) → Exa Z h' h.size ad → Go p e below G T' { g with pc := g.pc + 2, stack := .ref h.size :: rest }) : Go p e below G T g := by
  subst hj
  subst hty
  obtain ⟨T', h', cA, X', e', E, A, A2, st⟩ := newPE X hx hZ w eT hg hd hs (own_ofNat_nn (by omega)) (cap := n) (by rw [own_ofNat_clamp (by omega)]; exact Nat.le_refl _) hn hc hl had
  exact Go.st st (k T' h' X' e' E A.lt (AI.new (by omega) hdv A) A2)
theorem Go.clone (X : Stand p l e R s m args below meth c T locs cells slots) (hx : p.tables.exec = Jvm.exec) (hZ : Z.Warmed39 s.vm) {own ad : String} {index : Nat} (hown : s.vm.findClass own = some m.cls)
    (w1 : (Jvm.Cond.methodLink own index ⟨ad, "clone", "()Ljava/lang/Object;"⟩).before a0 Z = true) (w2 : (Jvm.Cond.sameMethod ad "java/lang/Object" "clone" "()Ljava/lang/Object;").before a0 Z = true) (w3 : (Jvm.Cond.native ⟨"java/lang/Object", "clone", "()Ljava/lang/Object;"⟩).before a0 Z = true)
    (w4 : (Jvm.Cond.instanceMethod ⟨"java/lang/Object", "clone", "()Ljava/lang/Object;"⟩).before a0 Z = true) (w5 : (Jvm.Cond.selects ad ⟨ad, "clone", "()Ljava/lang/Object;"⟩ ⟨"java/lang/Object", "clone", "()Ljava/lang/Object;"⟩).before a0 Z = true) (w6 : (Jvm.Cond.castable ad "java/lang/Cloneable").before a0 Z = true)
    (eT : T.heap = h) {a : Addr} {ty : FieldType} {xs : List Int32} (A : AI Z h a ty xs) (E : Exa Z h a ad) {g : JFrame} (hg : g.method = m) (hsize : g.locals.size = c.maxLocals) {rest : List Value} (hst : g.stack = .ref a :: rest) (hd : decode c.code g.pc = .ok (.invokevirtual index, 3))
    (hf : 1 ≤ R.frames) {W : Nat} (hW : 2 * g.monitorRoom + (rest.map fun v => v.category).sum ≤ W) (hl : W + 14 ≤ R.locals) (hc : cells + 1 ≤ R.cells) (hsl : slots + xs.length ≤ R.slots)
    (k : ∀ T' h', Stand p l e R s m args below meth c T' locs (cells + 1) (slots + xs.length) → T'.heap = h' → Ext h h' → h.size < h'.size → AI Z h' h.size ty xs → Exa Z h' h.size ad → Go p e below G T' { g with pc := g.pc + 3, stack := .ref h.size :: rest }) : Go p e below G T g := by
  obtain ⟨q0, k0, F⟩ := A
  obtain ⟨T', h', X', e', E', F', A', st⟩ := cloneH X hx hZ hown w1 w2 w3 w4 w5 w6 eT F.arh E hg hsize hst hd hf hW hl (cap := xs.length) (by rw [own_ofNat_clamp q0]; exact Nat.le_refl _) hc hsl
  exact Go.st st (k T' h' X' e' E' F'.lt ⟨q0, k0, F'⟩ A')
theorem Fld.fn {Z : State} {h : Heap} {a : Addr} {C n d : String} {v w : Value} (F : Fld Z h a C n d v) (G : Fld Z h a C n d w) : v = w := Classical.byContradiction fun q => Fld.ne F G q rfl
theorem SlN.exaB {a : Addr} {u : Array UInt16} (F : SlN N W a u) (hZ : Z.Warmed39 W.vm) (hlat : u.all (· < 256) = true) :
    ∃ v, Fld Z W.heap a "java/lang/String" "value" "[B" (.ref v) ∧ Exa Z W.heap v "[B" := by
  obtain ⟨q, cS, rfl, h2, h3, h4, h5, h6, h7⟩ := F
  obtain ⟨-, f2, -, -⟩ := own_sl_core h2 h3 h5 hZ hlat
  obtain ⟨⟨s1, s2, s3, s4, s5, s6, s7, s8, s9, s10, s11, s12, s13, s14, s15, s16⟩, -, -⟩ := h2
  have hal : W.vm.Alike Z.vm := hZ.alike.symm
  obtain ⟨t1, k, t2, comp, t3⟩ := State.isArrayOf_alike hal s11
  exact ⟨q.sd, f2, q.SA, k, s10, by rw [hal.findClass]; exact h4, t2, by cases hv : q.SA.vm <;> first | rfl | exact absurd hv (t1 _), fun z => by rw [t3] at z; cases z⟩
theorem own_litE {own text : String} {index : Nat} {a v : Addr} {m : MethodId} (hZ : Z.Warmed39 s.vm) (hown : s.vm.findClass own = some m.cls) (w : (Jvm.Cond.stringLink own index text).before a0 Z = true) (htx : ∀ c ∈ text.toList, c.toNat < 256) (hC : CHb cs N s h) (hm : (own, index) ∈ cs)
    (hres : ∃ k₂, s.vm.classes[m.cls]? = some k₂ ∧ k₂.resolved[index]? = some (some (.string a))) (F : Fld Z h a "java/lang/String" "value" "[B" (.ref v)) : Exa Z h v "[B" := by
  have hlink : (Jvm.Cond.stringLink own index text).before #[] s = true := mvS (s := s) hZ w
  obtain ⟨k0, cf, i, units, hk, hcf, hcp, hu, hnm, hdec, -⟩ := Cond.stringLink_spec hown hlink
  obtain ⟨k2, g1, g2⟩ := hres
  cases hk.symm.trans g1
  have S := hC _ hm _ _ cf i units a hown hk hcf hcp hu (Or.inl g2)
  obtain ⟨v', F', E'⟩ := SlN.exaB (W := ({ s with heap := h } : State)) S hZ (lat_of_text hdec htx)
  cases Fld.fn F F'
  exact E'
end B64Kit
section GStep
variable {p : Program} {l : Launch} {e : Env} {R : Room} {s : State} {m : MethodId} {args : Array Value} {below : List Frame} {meth : Method} {c : Code} {T : State} {locs : List Loc} {cells slots : Nat} {Z : State} {a0 : Array Value} {h : Heap} {G : Outcome → State → Prop} {pc q : Nat} {L L' : Array Slot} {S : List Value} {o : Int}
theorem g_iloadN (X : Stand p l e R s m args below meth c T locs cells slots) (hx : p.tables.exec = Jvm.exec) {k : Fin 4} {x : Int32} (q : Nat) (hd : decode c.code pc = .ok (.iload_n k, 1)) (hp : pc + 1 = q) (hl : L[k.val]? = some (.val (.int x))) (K : Go p e below G T (mkF m q L (.int x :: S))) : Go p e below G T (mkF m pc L S) := by
  subst hp; exact Go.st (fun _ r => XS.iloadN X.here hx rfl hd hl r) K
theorem g_iload (X : Stand p l e R s m args below meth c T locs cells slots) (hx : p.tables.exec = Jvm.exec) {k : Nat} {x : Int32} (q : Nat) (hd : decode c.code pc = .ok (.iload k, 2)) (hp : pc + 2 = q) (hl : L[k]? = some (.val (.int x))) (K : Go p e below G T (mkF m q L (.int x :: S))) : Go p e below G T (mkF m pc L S) := by
  subst hp; exact Go.st (fun _ r => XS.iload X.here hx rfl hd hl r) K
theorem g_aloadN (X : Stand p l e R s m args below meth c T locs cells slots) (hx : p.tables.exec = Jvm.exec) {k : Fin 4} {x : Addr} (q : Nat) (hd : decode c.code pc = .ok (.aload_n k, 1)) (hp : pc + 1 = q) (hl : L[k.val]? = some (.val (.ref x))) (K : Go p e below G T (mkF m q L (.ref x :: S))) : Go p e below G T (mkF m pc L S) := by
  subst hp; exact Go.st (fun _ r => XS.aloadN X.here hx rfl hd hl rfl r) K
theorem g_aload (X : Stand p l e R s m args below meth c T locs cells slots) (hx : p.tables.exec = Jvm.exec) {k : Nat} {x : Addr} (q : Nat) (hd : decode c.code pc = .ok (.aload k, 2)) (hp : pc + 2 = q) (hl : L[k]? = some (.val (.ref x))) (K : Go p e below G T (mkF m q L (.ref x :: S))) : Go p e below G T (mkF m pc L S) := by
  subst hp; exact Go.st (fun _ r => XS.aload X.here hx rfl hd hl rfl r) K
theorem g_istoreN (X : Stand p l e R s m args below meth c T locs cells slots) (hx : p.tables.exec = Jvm.exec) {k : Fin 4} {x : Int32} (L' : Array Slot) (q : Nat) (hd : decode c.code pc = .ok (.istore_n k, 1)) (hp : pc + 1 = q) (hl : storeLocals L k.val (.int x) = some L') (K : Go p e below G T (mkF m q L' S)) : Go p e below G T (mkF m pc L (.int x :: S)) := by
  subst hp; exact Go.st (fun _ r => XS.istoreN X.here hx rfl hd rfl hl r) K
theorem g_istore (X : Stand p l e R s m args below meth c T locs cells slots) (hx : p.tables.exec = Jvm.exec) {k : Nat} {x : Int32} (L' : Array Slot) (q : Nat) (hd : decode c.code pc = .ok (.istore k, 2)) (hp : pc + 2 = q) (hl : storeLocals L k (.int x) = some L') (K : Go p e below G T (mkF m q L' S)) : Go p e below G T (mkF m pc L (.int x :: S)) := by
  subst hp; exact Go.st (fun _ r => XS.istore X.here hx rfl hd rfl hl r) K
theorem g_astoreN (X : Stand p l e R s m args below meth c T locs cells slots) (hx : p.tables.exec = Jvm.exec) {k : Fin 4} {x : Addr} (L' : Array Slot) (q : Nat) (hd : decode c.code pc = .ok (.astore_n k, 1)) (hp : pc + 1 = q) (hl : storeLocals L k.val (.ref x) = some L') (K : Go p e below G T (mkF m q L' S)) : Go p e below G T (mkF m pc L (.ref x :: S)) := by
  subst hp; exact Go.st (fun _ r => XS.astoreN X.here hx rfl hd rfl rfl hl r) K
theorem g_astore (X : Stand p l e R s m args below meth c T locs cells slots) (hx : p.tables.exec = Jvm.exec) {k : Nat} {x : Addr} (L' : Array Slot) (q : Nat) (hd : decode c.code pc = .ok (.astore k, 2)) (hp : pc + 2 = q) (hl : storeLocals L k (.ref x) = some L') (K : Go p e below G T (mkF m q L' S)) : Go p e below G T (mkF m pc L (.ref x :: S)) := by
  subst hp; exact Go.st (fun _ r => XS.astore X.here hx rfl hd rfl rfl hl r) K
theorem g_iconst (X : Stand p l e R s m args below meth c T locs cells slots) (hx : p.tables.exec = Jvm.exec) {i : Int} {z : Int32} (q : Nat) (hd : decode c.code pc = .ok (.iconst i, 1)) (hp : pc + 1 = q) (hz : Int32.ofInt i = z) (K : Go p e below G T (mkF m q L (.int z :: S))) : Go p e below G T (mkF m pc L S) := by
  subst hp; exact Go.st (fun _ r => XS.iconst X.here hx rfl hd (by rw [hz]; exact r)) K
theorem g_bipush (X : Stand p l e R s m args below meth c T locs cells slots) (hx : p.tables.exec = Jvm.exec) {i : Int} {z : Int32} (q : Nat) (hd : decode c.code pc = .ok (.bipush i, 2)) (hp : pc + 2 = q) (hz : (Int8.ofInt i).toInt32 = z) (K : Go p e below G T (mkF m q L (.int z :: S))) : Go p e below G T (mkF m pc L S) := by
  subst hp; exact Go.st (fun _ r => XS.bipush X.here hx rfl hd (by rw [hz]; exact r)) K
theorem g_sipush (X : Stand p l e R s m args below meth c T locs cells slots) (hx : p.tables.exec = Jvm.exec) {i : Int} {z : Int32} (q : Nat) (hd : decode c.code pc = .ok (.sipush i, 3)) (hp : pc + 3 = q) (hz : (Int16.ofInt i).toInt32 = z) (K : Go p e below G T (mkF m q L (.int z :: S))) : Go p e below G T (mkF m pc L S) := by
  subst hp; exact Go.st (fun _ r => XS.sipush X.here hx rfl hd (by rw [hz]; exact r)) K
theorem g_dup (X : Stand p l e R s m args below meth c T locs cells slots) (hx : p.tables.exec = Jvm.exec) {x : Value} (q : Nat) (hd : decode c.code pc = .ok (.dup, 1)) (hp : pc + 1 = q) (hc : x.category = 1) (K : Go p e below G T (mkF m q L (x :: x :: S))) : Go p e below G T (mkF m pc L (x :: S)) := by
  subst hp; exact Go.st (fun _ r => XS.dup X.here hx rfl hd rfl hc r) K
theorem g_iadd (X : Stand p l e R s m args below meth c T locs cells slots) (hx : p.tables.exec = Jvm.exec) {x y z : Int32} (q : Nat) (hd : decode c.code pc = .ok (.iadd, 1)) (hp : pc + 1 = q) (hz : x + y = z) (K : Go p e below G T (mkF m q L (.int z :: S))) : Go p e below G T (mkF m pc L (.int y :: .int x :: S)) := by
  subst hp; exact Go.st (fun _ r => XS.iadd X.here hx rfl hd rfl (by rw [hz]; exact r)) K
theorem g_isub (X : Stand p l e R s m args below meth c T locs cells slots) (hx : p.tables.exec = Jvm.exec) {x y z : Int32} (q : Nat) (hd : decode c.code pc = .ok (.isub, 1)) (hp : pc + 1 = q) (hz : x - y = z) (K : Go p e below G T (mkF m q L (.int z :: S))) : Go p e below G T (mkF m pc L (.int y :: .int x :: S)) := by
  subst hp; exact Go.st (fun _ r => XS.isub X.here hx rfl hd rfl (by rw [hz]; exact r)) K
theorem g_imul (X : Stand p l e R s m args below meth c T locs cells slots) (hx : p.tables.exec = Jvm.exec) {x y z : Int32} (q : Nat) (hd : decode c.code pc = .ok (.imul, 1)) (hp : pc + 1 = q) (hz : x * y = z) (K : Go p e below G T (mkF m q L (.int z :: S))) : Go p e below G T (mkF m pc L (.int y :: .int x :: S)) := by
  subst hp; exact Go.st (fun _ r => XS.imul X.here hx rfl hd rfl (by rw [hz]; exact r)) K
theorem g_iand (X : Stand p l e R s m args below meth c T locs cells slots) (hx : p.tables.exec = Jvm.exec) {x y z : Int32} (q : Nat) (hd : decode c.code pc = .ok (.iand, 1)) (hp : pc + 1 = q) (hz : x &&& y = z) (K : Go p e below G T (mkF m q L (.int z :: S))) : Go p e below G T (mkF m pc L (.int y :: .int x :: S)) := by
  subst hp; exact Go.st (fun _ r => XS.iand X.here hx rfl hd rfl (by rw [hz]; exact r)) K
theorem g_ior (X : Stand p l e R s m args below meth c T locs cells slots) (hx : p.tables.exec = Jvm.exec) {x y z : Int32} (q : Nat) (hd : decode c.code pc = .ok (.ior, 1)) (hp : pc + 1 = q) (hz : x ||| y = z) (K : Go p e below G T (mkF m q L (.int z :: S))) : Go p e below G T (mkF m pc L (.int y :: .int x :: S)) := by
  subst hp; exact Go.st (fun _ r => XT.ior X.here hx rfl hd rfl (by rw [hz]; exact r)) K
theorem g_ishl (X : Stand p l e R s m args below meth c T locs cells slots) (hx : p.tables.exec = Jvm.exec) {x y z : Int32} (q : Nat) (hd : decode c.code pc = .ok (.ishl, 1)) (hp : pc + 1 = q) (hz : x <<< (y &&& 31) = z) (K : Go p e below G T (mkF m q L (.int z :: S))) : Go p e below G T (mkF m pc L (.int y :: .int x :: S)) := by
  subst hp; exact Go.st (fun _ r => XT.ishl X.here hx rfl hd rfl (by rw [hz]; exact r)) K
theorem g_ishr (X : Stand p l e R s m args below meth c T locs cells slots) (hx : p.tables.exec = Jvm.exec) {x y z : Int32} (q : Nat) (hd : decode c.code pc = .ok (.ishr, 1)) (hp : pc + 1 = q) (hz : x >>> (y &&& 31) = z) (K : Go p e below G T (mkF m q L (.int z :: S))) : Go p e below G T (mkF m pc L (.int y :: .int x :: S)) := by
  subst hp; exact Go.st (fun _ r => XT.ishr X.here hx rfl hd rfl (by rw [hz]; exact r)) K
theorem g_iushr (X : Stand p l e R s m args below meth c T locs cells slots) (hx : p.tables.exec = Jvm.exec) {x y z : Int32} (q : Nat) (hd : decode c.code pc = .ok (.iushr, 1)) (hp : pc + 1 = q) (hz : XT.ushr x y = z) (K : Go p e below G T (mkF m q L (.int z :: S))) : Go p e below G T (mkF m pc L (.int y :: .int x :: S)) := by
  subst hp; exact Go.st (fun _ r => XT.iushr X.here hx rfl hd rfl (by rw [hz]; exact r)) K
theorem g_idiv (X : Stand p l e R s m args below meth c T locs cells slots) (hx : p.tables.exec = Jvm.exec) {x y z : Int32} (q : Nat) (hd : decode c.code pc = .ok (.idiv, 1)) (hp : pc + 1 = q) (hy : y ≠ 0) (hz : x / y = z) (K : Go p e below G T (mkF m q L (.int z :: S))) : Go p e below G T (mkF m pc L (.int y :: .int x :: S)) := by
  subst hp; exact Go.st (fun _ r => XS.idiv X.here hx rfl hd rfl hy (by rw [hz]; exact r)) K
theorem g_i2c (X : Stand p l e R s m args below meth c T locs cells slots) (hx : p.tables.exec = Jvm.exec) {x : Int32} (q : Nat) (hd : decode c.code pc = .ok (.i2c, 1)) (hp : pc + 1 = q) (K : Go p e below G T (mkF m q L (.int x.toUInt32.toUInt16.toUInt32.toInt32 :: S))) : Go p e below G T (mkF m pc L (.int x :: S)) := by
  subst hp; exact Go.st (fun _ r => XT.i2c X.here hx rfl hd rfl r) K
theorem g_i2b (X : Stand p l e R s m args below meth c T locs cells slots) (hx : p.tables.exec = Jvm.exec) {x : Int32} (q : Nat) (hd : decode c.code pc = .ok (.i2b, 1)) (hp : pc + 1 = q) (K : Go p e below G T (mkF m q L (.int x.toInt8.toInt32 :: S))) : Go p e below G T (mkF m pc L (.int x :: S)) := by
  subst hp; exact Go.st (fun _ r => XT.i2b X.here hx rfl hd rfl r) K
theorem g_iinc (X : Stand p l e R s m args below meth c T locs cells slots) (hx : p.tables.exec = Jvm.exec) {k : Nat} {i : Int} {x z : Int32} (L' : Array Slot) (q : Nat) (hd : decode c.code pc = .ok (.iinc k i, 3)) (hp : pc + 3 = q) (hl : L[k]? = some (.val (.int x))) (hz : x + Int32.ofInt i = z) (hl' : storeLocals L k (.int z) = some L') (K : Go p e below G T (mkF m q L' S)) : Go p e below G T (mkF m pc L S) := by
  subst hp; exact Go.st (fun _ r => XS.iinc X.here hx rfl hd hl (by rw [hz]; exact hl') r) K
theorem g_goto (X : Stand p l e R s m args below meth c T locs cells slots) (hx : p.tables.exec = Jvm.exec) (q : Nat) (hd : decode c.code pc = .ok (.goto o, 3)) (hp : (pc : Int) + o = (q : Int)) (K : Go p e below G T (mkF m q L S)) : Go p e below G T (mkF m pc L S) := by
  exact Go.st (fun _ r => XS.goto X.here hx rfl (pc0 := pc) (pc' := q) rfl hd (by rw [hp]; exact Int.natCast_nonneg q) (by rw [hp]; exact Int.toNat_natCast q) r) K
theorem g_ifY (X : Stand p l e R s m args below meth c T locs cells slots) (hx : p.tables.exec = Jvm.exec) {cd : ClassFile.Cond} {x : Int32} (q : Nat) (hd : decode c.code pc = .ok (.ifCond cd o, 3)) (hp : (pc : Int) + o = (q : Int)) (hc : ifCond.holds cd x = true) (K : Go p e below G T (mkF m q L S)) : Go p e below G T (mkF m pc L (.int x :: S)) := by
  exact Go.st (fun _ r => XS.ifYes X.here hx rfl (pc0 := pc) (pc' := q) rfl hd rfl hc (by rw [hp]; exact Int.natCast_nonneg q) (by rw [hp]; exact Int.toNat_natCast q) r) K
theorem g_icY (X : Stand p l e R s m args below meth c T locs cells slots) (hx : p.tables.exec = Jvm.exec) {cd : ClassFile.Cond} {x y : Int32} (q : Nat) (hd : decode c.code pc = .ok (.if_icmp cd o, 3)) (hp : (pc : Int) + o = (q : Int)) (hc : if_icmp.holds cd x y = true) (K : Go p e below G T (mkF m q L S)) : Go p e below G T (mkF m pc L (.int y :: .int x :: S)) := by
  exact Go.st (fun _ r => XS.icmpYes X.here hx rfl (pc0 := pc) (pc' := q) rfl hd rfl hc (by rw [hp]; exact Int.natCast_nonneg q) (by rw [hp]; exact Int.toNat_natCast q) r) K
theorem g_ifN (X : Stand p l e R s m args below meth c T locs cells slots) (hx : p.tables.exec = Jvm.exec) {cd : ClassFile.Cond} {x : Int32} (q : Nat) (hd : decode c.code pc = .ok (.ifCond cd o, 3)) (hp : pc + 3 = q) (hc : ifCond.holds cd x = false) (K : Go p e below G T (mkF m q L S)) : Go p e below G T (mkF m pc L (.int x :: S)) := by
  subst hp; exact Go.st (fun _ r => XS.ifNo X.here hx rfl hd rfl hc r) K
theorem g_icN (X : Stand p l e R s m args below meth c T locs cells slots) (hx : p.tables.exec = Jvm.exec) {cd : ClassFile.Cond} {x y : Int32} (q : Nat) (hd : decode c.code pc = .ok (.if_icmp cd o, 3)) (hp : pc + 3 = q) (hc : if_icmp.holds cd x y = false) (K : Go p e below G T (mkF m q L S)) : Go p e below G T (mkF m pc L (.int y :: .int x :: S)) := by
  subst hp; exact Go.st (fun _ r => XS.icmpNo X.here hx rfl hd rfl hc r) K
theorem g_iaload (X : Stand p l e R s m args below meth c T locs cells slots) (hx : p.tables.exec = Jvm.exec) (hZ : Z.Warmed39 s.vm) (eT : T.heap = h) {a : Addr} {xs : List Int32} (A : AI Z h a .int xs) (i : Nat) {j x : Int32} (hj : j = Int32.ofNat i) (hv : xs[i]? = some x) (q : Nat) (hd : decode c.code pc = .ok (.iaload, 1)) (hp : pc + 1 = q) (K : Go p e below G T (mkF m q L (.int x :: S))) : Go p e below G T (mkF m pc L (.int j :: .ref a :: S)) := by
  subst hp; exact Go.iaload X hx hZ eT A hj hv rfl rfl hd K
theorem g_baload (X : Stand p l e R s m args below meth c T locs cells slots) (hx : p.tables.exec = Jvm.exec) (hZ : Z.Warmed39 s.vm) (eT : T.heap = h) {a : Addr} {xs : List Int32} (A : AI Z h a .byte xs) (i : Nat) {j x : Int32} (hj : j = Int32.ofNat i) (hv : xs[i]? = some x) (q : Nat) (hd : decode c.code pc = .ok (.baload, 1)) (hp : pc + 1 = q) (K : Go p e below G T (mkF m q L (.int x :: S))) : Go p e below G T (mkF m pc L (.int j :: .ref a :: S)) := by
  subst hp; exact Go.baload X hx hZ eT A hj hv rfl rfl hd K
theorem g_caload (X : Stand p l e R s m args below meth c T locs cells slots) (hx : p.tables.exec = Jvm.exec) (hZ : Z.Warmed39 s.vm) (eT : T.heap = h) {a : Addr} {xs : List Int32} (A : AI Z h a .char xs) (i : Nat) {j x : Int32} (hj : j = Int32.ofNat i) (hv : xs[i]? = some x) (q : Nat) (hd : decode c.code pc = .ok (.caload, 1)) (hp : pc + 1 = q) (K : Go p e below G T (mkF m q L (.int x :: S))) : Go p e below G T (mkF m pc L (.int j :: .ref a :: S)) := by
  subst hp; exact Go.caload X hx hZ eT A hj hv rfl rfl hd K
theorem g_iastore (X : Stand p l e R s m args below meth c T locs cells slots) (hx : p.tables.exec = Jvm.exec) (hZ : Z.Warmed39 s.vm) (eT : T.heap = h) {a : Addr} {xs : List Int32} (A : AI Z h a .int xs) (i : Nat) {j x : Int32} (hj : j = Int32.ofNat i) (hi : i < xs.length) (q : Nat) (hd : decode c.code pc = .ok (.iastore, 1)) (hp : pc + 1 = q) (K : ∀ T' h', Stand p l e R s m args below meth c T' (locs ++ [⟨a, i⟩]) cells slots → T'.heap = h' → Wr h h' a i (.int x) → AI Z h' a .int (xs.set i x) → Go p e below G T' (mkF m q L S)) : Go p e below G T (mkF m pc L (.int x :: .int j :: .ref a :: S)) := by
  subst hp; exact Go.iastore X hx hZ eT A hj hi rfl rfl hd K
theorem g_bastore (X : Stand p l e R s m args below meth c T locs cells slots) (hx : p.tables.exec = Jvm.exec) (hZ : Z.Warmed39 s.vm) (eT : T.heap = h) {a : Addr} {xs : List Int32} (A : AI Z h a .byte xs) (i : Nat) {j x : Int32} (hj : j = Int32.ofNat i) (hi : i < xs.length) (q : Nat) (hd : decode c.code pc = .ok (.bastore, 1)) (hp : pc + 1 = q) (K : ∀ T' h', Stand p l e R s m args below meth c T' (locs ++ [⟨a, i⟩]) cells slots → T'.heap = h' → Wr h h' a i (.int (nar .byte x)) → AI Z h' a .byte (xs.set i (nar .byte x)) → Go p e below G T' (mkF m q L S)) : Go p e below G T (mkF m pc L (.int x :: .int j :: .ref a :: S)) := by
  subst hp; exact Go.bastore X hx hZ eT A hj hi rfl rfl hd K
theorem g_castore (X : Stand p l e R s m args below meth c T locs cells slots) (hx : p.tables.exec = Jvm.exec) (hZ : Z.Warmed39 s.vm) (eT : T.heap = h) {a : Addr} {xs : List Int32} (A : AI Z h a .char xs) (i : Nat) {j x : Int32} (hj : j = Int32.ofNat i) (hi : i < xs.length) (q : Nat) (hd : decode c.code pc = .ok (.castore, 1)) (hp : pc + 1 = q) (K : ∀ T' h', Stand p l e R s m args below meth c T' (locs ++ [⟨a, i⟩]) cells slots → T'.heap = h' → Wr h h' a i (.int (nar .char x)) → AI Z h' a .char (xs.set i (nar .char x)) → Go p e below G T' (mkF m q L S)) : Go p e below G T (mkF m pc L (.int x :: .int j :: .ref a :: S)) := by
  subst hp; exact Go.castore X hx hZ eT A hj hi rfl rfl hd K
theorem g_alen (X : Stand p l e R s m args below meth c T locs cells slots) (hx : p.tables.exec = Jvm.exec) (hZ : Z.Warmed39 s.vm) (eT : T.heap = h) {a : Addr} {ty : FieldType} {xs : List Int32} (A : AI Z h a ty xs) {z : Int32} (hz : Int32.ofNat xs.length = z) (q : Nat) (hd : decode c.code pc = .ok (.arraylength, 1)) (hp : pc + 1 = q) (K : Go p e below G T (mkF m q L (.int z :: S))) : Go p e below G T (mkF m pc L (.ref a :: S)) := by
  subst hp hz; exact Go.alen X hx hZ eT A rfl rfl hd K
theorem g_getF (X : Stand p l e R s m args below meth c T locs cells slots) (hx : p.tables.exec = Jvm.exec) (hZ : Z.Warmed39 s.vm) {own R0 n d : String} {index : Nat} (hown : s.vm.findClass own = some m.cls) (w : (Jvm.Cond.fieldLink own index R0 n d).before a0 Z = true) (eT : T.heap = h) {a : Addr} {v : Value} (F : Fld Z h a R0 n d v) (q : Nat) (hd : decode c.code pc = .ok (.getfield index, 3)) (hp : pc + 3 = q) (K : ∀ T', Stand p l e R s m args below meth c T' locs cells slots → T'.heap = h → Go p e below G T' (mkF m q L (v :: S))) : Go p e below G T (mkF m pc L (.ref a :: S)) := by
  subst hp; obtain ⟨T1, X1, e1, st1⟩ := getF X hx hZ hown (host := "") (Or.inl w) Via.refl eT F (g := mkF m pc L (.ref a :: S)) rfl rfl hd; exact Go.st st1 (K T1 X1 e1)
theorem g_getS (X : Stand p l e R s m args below meth c T locs cells slots) (hx : p.tables.exec = Jvm.exec) (hZ : Z.Warmed39 s.vm) {own R0 n d : String} {index : Nat} (hown : s.vm.findClass own = some m.cls) (w : (Jvm.Cond.fieldLink own index R0 n d).before a0 Z = true) (eT : T.heap = h) {v : Value} (F : Sta Z h R0 n d v) (q : Nat) (hd : decode c.code pc = .ok (.getstatic index, 3)) (hp : pc + 3 = q) (K : ∀ T', Stand p l e R s m args below meth c T' locs cells slots → T'.heap = h → Go p e below G T' (mkF m q L (v :: S))) : Go p e below G T (mkF m pc L S) := by
  subst hp; obtain ⟨T1, X1, e1, st1⟩ := getS2 X hx hZ hown (host := "") (Or.inl w) Via.refl eT F (g := mkF m pc L S) rfl hd; exact Go.st st1 (K T1 X1 e1)
end GStep
theorem kb_m4 : (Int8.ofInt (-4)).toInt32 = (-4 : Int32) := by decide
theorem kb_m2 : (Int8.ofInt (-2)).toInt32 = (-2 : Int32) := by decide
theorem kb_6 : (Int8.ofInt 6).toInt32 = (6 : Int32) := by decide
theorem kb_7 : (Int8.ofInt 7).toInt32 = (7 : Int32) := by decide
theorem kb_8 : (Int8.ofInt 8).toInt32 = (8 : Int32) := by decide
theorem kb_12 : (Int8.ofInt 12).toInt32 = (12 : Int32) := by decide
theorem kb_16 : (Int8.ofInt 16).toInt32 = (16 : Int32) := by decide
theorem kb_18 : (Int8.ofInt 18).toInt32 = (18 : Int32) := by decide
theorem kb_26 : (Int8.ofInt 26).toInt32 = (26 : Int32) := by decide
theorem kb_43 : (Int8.ofInt 43).toInt32 = (43 : Int32) := by decide
theorem kb_47 : (Int8.ofInt 47).toInt32 = (47 : Int32) := by decide
theorem kb_48 : (Int8.ofInt 48).toInt32 = (48 : Int32) := by decide
theorem kb_52 : (Int8.ofInt 52).toInt32 = (52 : Int32) := by decide
theorem kb_61 : (Int8.ofInt 61).toInt32 = (61 : Int32) := by decide
theorem kb_62 : (Int8.ofInt 62).toInt32 = (62 : Int32) := by decide
theorem kb_63 : (Int8.ofInt 63).toInt32 = (63 : Int32) := by decide
theorem kb_65 : (Int8.ofInt 65).toInt32 = (65 : Int32) := by decide
theorem kb_97 : (Int8.ofInt 97).toInt32 = (97 : Int32) := by decide
theorem ki_0 : Int32.ofInt 0 = (0 : Int32) := by decide
theorem ki_1 : Int32.ofInt 1 = (1 : Int32) := by decide
theorem ki_2 : Int32.ofInt 2 = (2 : Int32) := by decide
theorem ki_3 : Int32.ofInt 3 = (3 : Int32) := by decide
theorem ki_4 : Int32.ofInt 4 = (4 : Int32) := by decide
theorem ki_5 : Int32.ofInt 5 = (5 : Int32) := by decide
theorem ks_255 : (Int16.ofInt 255).toInt32 = (255 : Int32) := by decide
theorem ef_0 (m : MethodId) (x0 : Addr) (x1 : Int32) (x2 : Addr) (x3 : Int32) (x4 : Int32) : entryFrame m #[(.ref x0), (.int x1), (.ref x2), (.int x3), (.int x4)] 7 = mkF m 0 #[.val (.ref x0), .val (.int x1), .val (.ref x2), .val (.int x3), .val (.int x4), .unset, .unset] [] := by first | (simp [entryFrame, mkF, argsToLocals, Value.category]; done) | rfl
theorem pn_1 : plainName "java/lang/StringUTF16" = true := by first | (simp [plainName, overriddenIn]; done) | decide +kernel
theorem ef_2 (m : MethodId) (x0 : Addr) (x1 : Int32) (x2 : Int32) : entryFrame m #[(.ref x0), (.int x1), (.int x2)] 6 = mkF m 0 #[.val (.ref x0), .val (.int x1), .val (.int x2), .unset, .unset, .unset] [] := by first | (simp [entryFrame, mkF, argsToLocals, Value.category]; done) | rfl
theorem pd_3 : parseMethodDescriptor "([CI[BII)I" = some ⟨[(.array .char), .int, (.array .byte), .int, .int], some .int⟩ := by decide +kernel
theorem ef_4 (m : MethodId) (x0 : Addr) (x1 : Int32) : entryFrame m #[(.ref x0), (.int x1)] 2 = mkF m 0 #[.val (.ref x0), .val (.int x1)] [] := by first | (simp [entryFrame, mkF, argsToLocals, Value.category]; done) | rfl
theorem ef_5 (m : MethodId) (x0 : Addr) (x1 : Addr) (x2 : Int32) (x3 : Int32) : entryFrame m #[(.ref x0), (.ref x1), (.int x2), (.int x3), .null] 6 = mkF m 0 #[.val (.ref x0), .val (.ref x1), .val (.int x2), .val (.int x3), .val .null, .unset] [] := by first | (simp [entryFrame, mkF, argsToLocals, Value.category]; done) | rfl
theorem pd_6 : parseMethodDescriptor "([CII)[B" = some ⟨[(.array .char), .int, .int], some (.array .byte)⟩ := by decide +kernel
theorem pd_7 : parseMethodDescriptor "([BI)B" = some ⟨[(.array .byte), .int], some .byte⟩ := by decide +kernel
theorem pn_8 : plainName "java/lang/String" = true := by first | (simp [plainName, overriddenIn]; done) | decide +kernel
theorem ef_9 (m : MethodId) (x0 : Addr) (x1 : Addr) : entryFrame m #[(.ref x0), (.ref x1)] 2 = mkF m 0 #[.val (.ref x0), .val (.ref x1)] [] := by first | (simp [entryFrame, mkF, argsToLocals, Value.category]; done) | rfl
theorem pd_10 : parseMethodDescriptor "([CIILjava/lang/Void;)V" = some ⟨[(.array .char), .int, .int, (.object "java/lang/Void")], none⟩ := by decide +kernel
theorem ef_11 (m : MethodId) (x0 : Int32) : entryFrame m #[(.int x0)] 1 = mkF m 0 #[.val (.int x0)] [] := by first | (simp [entryFrame, mkF, argsToLocals, Value.category]; done) | rfl
theorem pn_12 : plainName "com/example/poste_restante/posterestante/BlockBytesPinLaw" = true := by first | (simp [plainName, overriddenIn]; done) | decide +kernel
theorem ef_13 (m : MethodId) (x0 : Addr) (x1 : Int32) (x2 : Int32) (x3 : Int32) (x4 : Int32) (x5 : Int32) : entryFrame m #[(.ref x0), (.int x1), (.int x2), (.int x3), (.int x4), (.int x5)] 7 = mkF m 0 #[.val (.ref x0), .val (.int x1), .val (.int x2), .val (.int x3), .val (.int x4), .val (.int x5), .unset] [] := by first | (simp [entryFrame, mkF, argsToLocals, Value.category]; done) | rfl
theorem pd_14 : parseMethodDescriptor "(I)C" = some ⟨[.int], some .char⟩ := by decide +kernel
theorem ef_15 (m : MethodId) (x0 : Addr) (x1 : Addr) (x2 : Int32) (x3 : Int32) : entryFrame m #[(.ref x0), (.ref x1), (.int x2), (.int x3)] 4 = mkF m 0 #[.val (.ref x0), .val (.ref x1), .val (.int x2), .val (.int x3)] [] := by first | (simp [entryFrame, mkF, argsToLocals, Value.category]; done) | rfl
theorem ef_16 (m : MethodId) (x0 : Addr) : entryFrame m #[(.ref x0)] 1 = mkF m 0 #[.val (.ref x0)] [] := by first | (simp [entryFrame, mkF, argsToLocals, Value.category]; done) | rfl
theorem pn_17 : plainName "java/lang/Record" = true := by first | (simp [plainName, overriddenIn]; done) | decide +kernel
theorem ef_18 (m : MethodId) (x0 : Addr) (x1 : Addr) (x2 : Addr) : entryFrame m #[(.ref x0), (.ref x1), (.ref x2)] 3 = mkF m 0 #[.val (.ref x0), .val (.ref x1), .val (.ref x2)] [] := by first | (simp [entryFrame, mkF, argsToLocals, Value.category]; done) | rfl
theorem pd_19 : parseMethodDescriptor "()V" = some ⟨[], none⟩ := by decide +kernel
theorem pn_20 : plainName "com/example/poste_restante/posterestante/Pem$Block" = true := by first | (simp [plainName, overriddenIn]; done) | decide +kernel
theorem ef_21 (m : MethodId)  : entryFrame m #[] 0 = mkF m 0 #[] [] := by first | (simp [entryFrame, mkF, argsToLocals, Value.category]; done) | rfl
theorem pn_22 : plainName "java/util/Base64" = true := by first | (simp [plainName, overriddenIn]; done) | decide +kernel
theorem ef_23 (m : MethodId) (x0 : Int32) (x1 : Addr) (x2 : Int32) : entryFrame m #[(.int x0), (.ref x1), (.int x2)] 10 = mkF m 0 #[.val (.int x0), .val (.ref x1), .val (.int x2), .unset, .unset, .unset, .unset, .unset, .unset, .unset] [] := by first | (simp [entryFrame, mkF, argsToLocals, Value.category]; done) | rfl
theorem ef_24 (m : MethodId) (x0 : Int32) (x1 : Addr) : entryFrame m #[(.int x0), (.ref x1)] 2 = mkF m 0 #[.val (.int x0), .val (.ref x1)] [] := by first | (simp [entryFrame, mkF, argsToLocals, Value.category]; done) | rfl
theorem pd_25 : parseMethodDescriptor "(B[BZ)[B" = some ⟨[.byte, (.array .byte), .boolean], some (.array .byte)⟩ := by decide +kernel
theorem ef_26 (m : MethodId) (x0 : Addr) (x1 : Int32) (x2 : Addr) : entryFrame m #[(.ref x0), (.int x1), (.ref x2)] 3 = mkF m 0 #[.val (.ref x0), .val (.int x1), .val (.ref x2)] [] := by first | (simp [entryFrame, mkF, argsToLocals, Value.category]; done) | rfl
theorem pd_27 : parseMethodDescriptor "(B[B)[B" = some ⟨[.byte, (.array .byte)], some (.array .byte)⟩ := by decide +kernel
theorem pd_28 : parseMethodDescriptor "()B" = some ⟨[], some .byte⟩ := by decide +kernel
theorem pd_29 : parseMethodDescriptor "(Ljava/nio/charset/Charset;B[B)[B" = some ⟨[(.object "java/nio/charset/Charset"), .byte, (.array .byte)], some (.array .byte)⟩ := by decide +kernel
theorem ef_30 (m : MethodId) (x0 : Addr) (x1 : Addr) (x2 : Int32) (x3 : Int32) : entryFrame m #[(.ref x0), (.ref x1), (.int x2), (.int x3)] 9 = mkF m 0 #[.val (.ref x0), .val (.ref x1), .val (.int x2), .val (.int x3), .unset, .unset, .unset, .unset, .unset] [] := by first | (simp [entryFrame, mkF, argsToLocals, Value.category]; done) | rfl
theorem pn_31 : plainName "java/util/Base64$Decoder" = true := by first | (simp [plainName, overriddenIn]; done) | decide +kernel
theorem ef_32 (m : MethodId) (x0 : Addr) (x1 : Addr) (x2 : Int32) (x3 : Int32) (x4 : Addr) : entryFrame m #[(.ref x0), (.ref x1), (.int x2), (.int x3), (.ref x4)] 11 = mkF m 0 #[.val (.ref x0), .val (.ref x1), .val (.int x2), .val (.int x3), .val (.ref x4), .unset, .unset, .unset, .unset, .unset, .unset] [] := by first | (simp [entryFrame, mkF, argsToLocals, Value.category]; done) | rfl
theorem ef_33 (m : MethodId) (x0 : Addr) (x1 : Addr) : entryFrame m #[(.ref x0), (.ref x1)] 4 = mkF m 0 #[.val (.ref x0), .val (.ref x1), .unset, .unset] [] := by first | (simp [entryFrame, mkF, argsToLocals, Value.category]; done) | rfl
theorem pd_34 : parseMethodDescriptor "([BII)I" = some ⟨[(.array .byte), .int, .int], some .int⟩ := by decide +kernel
theorem pd_35 : parseMethodDescriptor "([BII[B)I" = some ⟨[(.array .byte), .int, .int, (.array .byte)], some .int⟩ := by decide +kernel
theorem ef_36 (m : MethodId) (x0 : Addr) (x1 : Addr) (x2 : Int32) (x3 : Int32) (x4 : Addr) (x5 : Int32) (x6 : Int32) (x7 : Int32) : entryFrame m #[(.ref x0), (.ref x1), (.int x2), (.int x3), (.ref x4), (.int x5), (.int x6), (.int x7)] 16 = mkF m 0 #[.val (.ref x0), .val (.ref x1), .val (.int x2), .val (.int x3), .val (.ref x4), .val (.int x5), .val (.int x6), .val (.int x7), .unset, .unset, .unset, .unset, .unset, .unset, .unset, .unset] [] := by first | (simp [entryFrame, mkF, argsToLocals, Value.category]; done) | rfl
theorem pd_37 : parseMethodDescriptor "([BII[BIZZ)I" = some ⟨[(.array .byte), .int, .int, (.array .byte), .int, .boolean, .boolean], some .int⟩ := by decide +kernel
theorem pd_38 : parseMethodDescriptor "(Ljava/nio/charset/Charset;)[B" = some ⟨[(.object "java/nio/charset/Charset")], some (.array .byte)⟩ := by decide +kernel
theorem pd_39 : parseMethodDescriptor "([B)[B" = some ⟨[(.array .byte)], some (.array .byte)⟩ := by decide +kernel
theorem ef_40 (m : MethodId) (x0 : Addr) : entryFrame m #[(.ref x0)] 2 = mkF m 0 #[.val (.ref x0), .unset] [] := by first | (simp [entryFrame, mkF, argsToLocals, Value.category]; done) | rfl
theorem pd_41 : parseMethodDescriptor "()Ljava/util/Base64$Decoder;" = some ⟨[], some (.object "java/util/Base64$Decoder")⟩ := by decide +kernel
theorem pd_42 : parseMethodDescriptor "(Ljava/lang/String;)[B" = some ⟨[(.object "java/lang/String")], some (.array .byte)⟩ := by decide +kernel
theorem ef_43 (m : MethodId) (x0 : Int32) (x1 : Int32) (x2 : Int32) : entryFrame m #[(.int x0), (.int x1), (.int x2)] maxLocals = mkF m 0 #[.val (.int x0), .val (.int x1), .val (.int x2), .unset, .unset, .unset, .unset, .unset, .unset] [] := by first | (simp [entryFrame, mkF, argsToLocals, Value.category, maxLocals]; done) | rfl
theorem pd_44 : parseMethodDescriptor "(Ljava/lang/String;Ljava/lang/String;)V" = some ⟨[(.object "java/lang/String"), (.object "java/lang/String")], none⟩ := by decide +kernel
theorem pd_45 : parseMethodDescriptor "()[B" = some ⟨[], some (.array .byte)⟩ := by decide +kernel
theorem pd_46 : parseMethodDescriptor "([B[III)Z" = some ⟨[(.array .byte), (.array .int), .int, .int], some .boolean⟩ := by decide +kernel
theorem pd_47 : parseMethodDescriptor "([CIIIII)V" = some ⟨[(.array .char), .int, .int, .int, .int, .int], none⟩ := by decide +kernel
theorem pd_48 : parseMethodDescriptor "([C)V" = some ⟨[(.array .char)], none⟩ := by decide +kernel
theorem hr {a b : Nat} (h : Nat.ble a b = true) : a ≤ b := Nat.le_of_ble_eq_true h
abbrev sI (x : Int32) : Slot := .val (.int x)
abbrev sR (a : Addr) : Slot := .val (.ref a)
abbrev vI (x : Int32) : Value := .int x
abbrev vR (a : Addr) : Value := .ref a
theorem hW {Z : State} {a0 : Array Value} (hw : ∀ d ∈ tables_1, d.before a0 Z = true) (i : Nat) {d : Jvm.Cond} (h : tables_1[i]? = some d) : d.before a0 Z = true := hw d (List.mem_of_getElem? h)
/-- how many signs lead, none above 255 -/
def own_fb : List Int32 → Nat
  | [] => 0
  | c :: cs => if (255 : Int32) < c then 0 else own_fb cs + 1
def own_lo (c : Int32) : Int32 := c.toInt8.toInt32
def own_hi (c : Int32) : Int32 := (c >>> (8 : Int32)).toInt8.toInt32
def own_u16 : List Int32 → List Int32
  | [] => []
  | c :: cs => own_lo c :: own_hi c :: own_u16 cs
theorem own_u16_len : ∀ cs : List Int32, (own_u16 cs).length = 2 * cs.length
  | [] => rfl
  | c :: cs => by simp only [own_u16, List.length_cons, own_u16_len cs]; omega
theorem own_u16_app : ∀ cs ds : List Int32, own_u16 (cs ++ ds) = own_u16 cs ++ own_u16 ds
  | [], _ => rfl
  | c :: cs, ds => by simp only [List.cons_append, own_u16, own_u16_app cs ds]
theorem own_u16_get : ∀ (cs : List Int32) (i : Nat) (x : Int32), cs[i]? = some x → (own_u16 cs)[2 * i]? = some (own_lo x) ∧ (own_u16 cs)[2 * i + 1]? = some (own_hi x)
  | [], i, x, h => by simp at h
  | c :: cs, 0, x, h => by simp at h; subst h; exact ⟨rfl, rfl⟩
  | c :: cs, i + 1, x, h => by
    have q := own_u16_get cs i x (by simpa using h)
    have e1 : 2 * (i + 1) = 2 * i + 1 + 1 := by omega
    rw [e1]
    simpa [own_u16] using q
theorem own_fb_le : ∀ cs : List Int32, own_fb cs ≤ cs.length
  | [] => Nat.le_refl _
  | c :: cs => by
    unfold own_fb; split
    · exact Nat.zero_le _
    · have := own_fb_le cs; simp only [List.length_cons]; omega
theorem own_fb_cons (c : Int32) (cs : List Int32) : own_fb (c :: cs) = if (255 : Int32) < c then 0 else own_fb cs + 1 := rfl
theorem own_fb_all : ∀ cs : List Int32, own_fb cs = cs.length → ∀ c ∈ cs, ¬ (255 : Int32) < c
  | [], _, c, h => by simp at h
  | d :: cs, e, c, h => by
    rw [own_fb_cons] at e
    by_cases q : (255 : Int32) < d
    · rw [if_pos q] at e; simp at e
    · rw [if_neg q] at e
      rcases List.mem_cons.mp h with rfl | h
      · exact q
      · exact own_fb_all cs (by simpa using e) c h
theorem own_fb_at : ∀ cs : List Int32, own_fb cs < cs.length → ∃ x, cs[own_fb cs]? = some x ∧ (255 : Int32) < x
  | [], h => by simp [own_fb] at h
  | d :: cs, h => by
    rw [own_fb_cons] at h ⊢
    by_cases q : (255 : Int32) < d
    · rw [if_pos q]; exact ⟨d, rfl, q⟩
    · rw [if_neg q] at h ⊢
      obtain ⟨x, h1, h2⟩ := own_fb_at cs (by simpa using h)
      exact ⟨x, by simpa using h1, h2⟩
theorem own_fb_big {cs : List Int32} {i : Nat} {x : Int32} (h : own_fb cs = i + own_fb (cs.drop i)) (hx : cs[i]? = some x) (q : (255 : Int32) < x) : own_fb cs = i := by
  obtain ⟨hi, rfl⟩ := List.getElem?_eq_some_iff.mp hx
  rw [List.drop_eq_getElem_cons hi, own_fb_cons, if_pos q] at h
  exact h
theorem own_fb_small {cs : List Int32} {i : Nat} {x : Int32} (h : own_fb cs = i + own_fb (cs.drop i)) (hx : cs[i]? = some x) (q : ¬ (255 : Int32) < x) : own_fb cs = (i + 1) + own_fb (cs.drop (i + 1)) := by
  obtain ⟨hi, rfl⟩ := List.getElem?_eq_some_iff.mp hx
  rw [List.drop_eq_getElem_cons hi, own_fb_cons, if_neg q] at h
  omega
theorem own_set_step {α : Type} (pre : List α) (d x : α) (k : Nat) (i : Nat) (hi : pre.length = i) : (pre ++ List.replicate (k + 1) d).set i x = (pre ++ [x]) ++ List.replicate k d := by
  subst hi
  rw [List.set_append_right _ _ (Nat.le_refl _), Nat.sub_self, List.replicate_succ, List.set_cons_zero, List.append_assoc]; rfl
theorem own_take_succ {cs : List Int32} {i : Nat} {x : Int32} (hx : cs[i]? = some x) : cs.take (i + 1) = cs.take i ++ [x] := by
  rw [List.take_add_one, hx]; rfl
theorem own_succ (i : Nat) : Int32.ofNat i + (1 : Int32) = Int32.ofNat (i + 1) := by rw [Int32.ofNat_add]; rfl
theorem own_toInt {n : Nat} (hn : n < 2147483648) : (Int32.ofNat n).toInt = n := Int32.toInt_ofNat_small hn
theorem own_shl1 {i : Nat} (hi : i < 1000000000) : Int32.ofNat i <<< ((1 : Int32) &&& 31) = Int32.ofNat (2 * i) := by
  have e : ((1 : Int32) &&& 31) = 1 := by decide
  rw [e]
  apply Int32.toBitVec_inj.mp
  apply BitVec.eq_of_toNat_eq
  simp [Int32.toBitVec_shiftLeft, Nat.shiftLeft_eq]
  omega
theorem own_b0 (c : Int32) : nar .byte ((c >>> ((0 : Int32) &&& 31)).toInt8.toInt32) = own_lo c := by
  have e : ((0 : Int32) &&& 31) = 0 := by decide
  have e2 : c >>> (0 : Int32) = c := by simp
  rw [e, e2]; simp [nar, own_lo]
theorem own_b1 (c : Int32) : nar .byte ((c >>> ((8 : Int32) &&& 31)).toInt8.toInt32) = own_hi c := by
  have e : ((8 : Int32) &&& 31) = 8 := by decide
  rw [e]; simp [nar, own_hi]
def Su16 (Z : State) (z : Int32) : Prop := Sta Z Z.heap "java/lang/StringUTF16" "$assertionsDisabled" "Z" (.int 1) ∧ Sta Z Z.heap "java/lang/StringUTF16" "HI_BYTE_SHIFT" "I" (.int 0) ∧ Sta Z Z.heap "java/lang/StringUTF16" "LO_BYTE_SHIFT" "I" (.int 8) ∧ Sta Z Z.heap "java/lang/String" "COMPACT_STRINGS" "Z" (.int z) ∧ ¬ z = 0
def QP (val : Int32) (h0 : Heap) (n0 : Nat) (v : Option Value) (h : Heap) (L : List Loc) : Prop := v = some (.int val) ∧ Fr n0 L ∧ h = h0
def QC5 (Z : State) (d : Addr) (cs : List Int32) (h0 : Heap) (n0 : Nat) (v : Option Value) (h : Heap) (L : List Loc) : Prop := v = some (.int (Int32.ofNat (own_fb cs))) ∧ Fr n0 L ∧ Keep h0 h [d] ∧ AI Z h d .byte ((cs.take (own_fb cs)).map own_lo ++ List.replicate (cs.length - own_fb cs) 0)
theorem own_c5_step {cs : List Int32} {i k : Nat} {x : Int32} (hx : cs[i]? = some x) (hik : i + (k + 1) = cs.length) : ((cs.take i).map own_lo ++ List.replicate (k + 1) 0).set i (own_lo x) = (cs.take (i + 1)).map own_lo ++ List.replicate k 0 := by
  have hi := (List.getElem?_eq_some_iff.mp hx).1
  rw [own_set_step _ _ _ _ _ (by rw [List.length_map, List.length_take, Nat.min_eq_left (by omega)]), own_take_succ hx, List.map_append]; rfl
theorem own_nar_lo (x : Int32) : nar .byte (x.toInt8.toInt32) = own_lo x := by simp [nar, own_lo]
theorem dc5_0 : decode jdk_52_method_21_code 0 = .ok (.iconst 0, 1) := by decide +kernel
theorem dc5_1 : decode jdk_52_method_21_code 1 = .ok (.istore 5, 2) := by decide +kernel
theorem dc5_3 : decode jdk_52_method_21_code 3 = .ok (.iload 5, 2) := by decide +kernel
theorem dc5_5 : decode jdk_52_method_21_code 5 = .ok (.iload 4, 2) := by decide +kernel
theorem dc5_7 : decode jdk_52_method_21_code 7 = .ok (.if_icmp .ge 37, 3) := by decide +kernel
theorem dc5_10 : decode jdk_52_method_21_code 10 = .ok (.aload_n 0, 1) := by decide +kernel
theorem dc5_11 : decode jdk_52_method_21_code 11 = .ok (.iload_n 1, 1) := by decide +kernel
theorem dc5_12 : decode jdk_52_method_21_code 12 = .ok (.caload, 1) := by decide +kernel
theorem dc5_13 : decode jdk_52_method_21_code 13 = .ok (.istore 6, 2) := by decide +kernel
theorem dc5_15 : decode jdk_52_method_21_code 15 = .ok (.iload 6, 2) := by decide +kernel
theorem dc5_17 : decode jdk_52_method_21_code 17 = .ok (.sipush 255, 3) := by decide +kernel
theorem dc5_20 : decode jdk_52_method_21_code 20 = .ok (.if_icmp .le 6, 3) := by decide +kernel
theorem dc5_23 : decode jdk_52_method_21_code 23 = .ok (.iload 5, 2) := by decide +kernel
theorem dc5_25 : decode jdk_52_method_21_code 25 = .ok (.ireturn, 1) := by decide +kernel
theorem dc5_26 : decode jdk_52_method_21_code 26 = .ok (.aload_n 2, 1) := by decide +kernel
theorem dc5_27 : decode jdk_52_method_21_code 27 = .ok (.iload_n 3, 1) := by decide +kernel
theorem dc5_28 : decode jdk_52_method_21_code 28 = .ok (.iload 6, 2) := by decide +kernel
theorem dc5_30 : decode jdk_52_method_21_code 30 = .ok (.i2b, 1) := by decide +kernel
theorem dc5_31 : decode jdk_52_method_21_code 31 = .ok (.bastore, 1) := by decide +kernel
theorem dc5_32 : decode jdk_52_method_21_code 32 = .ok (.iinc 1 1, 3) := by decide +kernel
theorem dc5_35 : decode jdk_52_method_21_code 35 = .ok (.iinc 3 1, 3) := by decide +kernel
theorem dc5_38 : decode jdk_52_method_21_code 38 = .ok (.iinc 5 1, 3) := by decide +kernel
theorem dc5_41 : decode jdk_52_method_21_code 41 = .ok (.goto (-38), 3) := by decide +kernel
theorem dc5_44 : decode jdk_52_method_21_code 44 = .ok (.iload 4, 2) := by decide +kernel
theorem dc5_46 : decode jdk_52_method_21_code 46 = .ok (.ireturn, 1) := by decide +kernel
set_option maxRecDepth 65536 in
set_option maxHeartbeats 40000000 in
theorem lpC5 (l : Launch) (Z : State) (a0 : Array Value) (hw : ∀ d ∈ tables_1, d.before a0 Z = true) (cs : List Int32) (a d : Addr) (h0 : Heap) (n0 : Nat) (hn : cs.length ≤ 4000) {p : Program} {e : Env} {s : State} {m : MethodId} {args : Array Value} {below : List Frame} {meth : Method} {c : Code} (hx : p.tables.exec = Jvm.exec) (hby : c.code = jdk_52_method_21_code) (hml : c.maxLocals = 7) (hown : s.vm.findClass "java/lang/StringUTF16" = some m.cls) (hret : meth.sig.returnType = some .int) (hlk : meth.locks = false) (hZ : Z.Warmed39 s.vm) (hnd : n0 ≤ d) (hab : a ≠ d) :
    ∀ (k i : Nat) (T : State) (h : Heap) (locs : List Loc) (s6 : Slot), i + k = cs.length → One s6 → Stand p l e ({ frames := 0, cells := 0, slots := 0, locals := 0 } : Room) s m args below meth c T locs 0 0 → T.heap = h → AI Z h a .char cs → AI Z h d .byte ((cs.take i).map own_lo ++ List.replicate k 0) → own_fb cs = i + own_fb (cs.drop i) → Fr n0 locs → Keep h0 h [d] →
      Go p e below (EndQ s (QC5 Z d cs h0 n0) 0 0) T (mkF m 3 #[sR a, (sI (Int32.ofNat i)), sR d, (sI (Int32.ofNat i)), (sI (Int32.ofNat cs.length)), (sI (Int32.ofNat i)), s6] []) := by
  intro k
  induction k with
  | zero =>
    intro i T h locs s6 hik o6 X1 e1 A D F N K
    show Go p e below _ T (mkF m 3 #[sR a, (sI (Int32.ofNat i)), sR d, (sI (Int32.ofNat i)), (sI (Int32.ofNat cs.length)), (sI (Int32.ofNat i)), s6] [])
    refine Go.st (fun _ k => XS.iload X1.here hx rfl (hb hby dc5_3) rfl k) ?_
    show Go p e below _ T (mkF m 5 #[sR a, (sI (Int32.ofNat i)), sR d, (sI (Int32.ofNat i)), (sI (Int32.ofNat cs.length)), (sI (Int32.ofNat i)), s6] [(vI (Int32.ofNat i))])
    refine Go.st (fun _ k => XS.iload X1.here hx rfl (hb hby dc5_5) rfl k) ?_
    show Go p e below _ T (mkF m 7 #[sR a, (sI (Int32.ofNat i)), sR d, (sI (Int32.ofNat i)), (sI (Int32.ofNat cs.length)), (sI (Int32.ofNat i)), s6] [(vI (Int32.ofNat cs.length)), (vI (Int32.ofNat i))])
    have q : ¬ Int32.ofNat i < Int32.ofNat cs.length := by rw [show i = cs.length by omega]; exact fun q => Int32.lt_irrefl q
    refine Go.st (fun _ k => XS.icmpYes X1.here hx rfl (pc0 := 7) (pc' := 44) rfl (hb hby dc5_7) rfl (XT.ii_ge_t q) (by decide) (by decide) k) ?_
    show Go p e below _ T (mkF m 44 #[sR a, (sI (Int32.ofNat i)), sR d, (sI (Int32.ofNat i)), (sI (Int32.ofNat cs.length)), (sI (Int32.ofNat i)), s6] [])
    refine Go.st (fun _ k => XS.iload X1.here hx rfl (hb hby dc5_44) rfl k) ?_
    show Go p e below _ T (mkF m 46 #[sR a, (sI (Int32.ofNat i)), sR d, (sI (Int32.ofNat i)), (sI (Int32.ofNat cs.length)), (sI (Int32.ofNat i)), s6] [(vI (Int32.ofNat cs.length))])
    have f : own_fb cs = cs.length := by have := own_fb_le cs; omega
    exact Go.retI X1 hx hret hlk (hb hby dc5_46) ⟨by rw [f], N, e1 ▸ K, by rw [f, e1]; have q := D; rw [show i = cs.length by omega] at q; simpa using q⟩ (Nat.le_refl _) (Nat.le_refl _)
  | succ k ih =>
    intro i T h locs s6 hik o6 X1 e1 A D F N K
    show Go p e below _ T (mkF m 3 #[sR a, (sI (Int32.ofNat i)), sR d, (sI (Int32.ofNat i)), (sI (Int32.ofNat cs.length)), (sI (Int32.ofNat i)), s6] [])
    refine Go.st (fun _ k => XS.iload X1.here hx rfl (hb hby dc5_3) rfl k) ?_
    show Go p e below _ T (mkF m 5 #[sR a, (sI (Int32.ofNat i)), sR d, (sI (Int32.ofNat i)), (sI (Int32.ofNat cs.length)), (sI (Int32.ofNat i)), s6] [(vI (Int32.ofNat i))])
    refine Go.st (fun _ k => XS.iload X1.here hx rfl (hb hby dc5_5) rfl k) ?_
    show Go p e below _ T (mkF m 7 #[sR a, (sI (Int32.ofNat i)), sR d, (sI (Int32.ofNat i)), (sI (Int32.ofNat cs.length)), (sI (Int32.ofNat i)), s6] [(vI (Int32.ofNat cs.length)), (vI (Int32.ofNat i))])
    refine Go.st (fun _ k => XS.icmpNo X1.here hx rfl (hb hby dc5_7) rfl (XT.ii_ge_f (own_ofNat_lt (by omega) (by omega))) k) ?_
    show Go p e below _ T (mkF m 10 #[sR a, (sI (Int32.ofNat i)), sR d, (sI (Int32.ofNat i)), (sI (Int32.ofNat cs.length)), (sI (Int32.ofNat i)), s6] [])
    refine Go.st (fun _ k => XS.aloadN X1.here hx rfl (hb hby dc5_10) rfl rfl k) ?_
    show Go p e below _ T (mkF m 11 #[sR a, (sI (Int32.ofNat i)), sR d, (sI (Int32.ofNat i)), (sI (Int32.ofNat cs.length)), (sI (Int32.ofNat i)), s6] [vR a])
    refine Go.st (fun _ k => XS.iloadN X1.here hx rfl (hb hby dc5_11) rfl k) ?_
    show Go p e below _ T (mkF m 12 #[sR a, (sI (Int32.ofNat i)), sR d, (sI (Int32.ofNat i)), (sI (Int32.ofNat cs.length)), (sI (Int32.ofNat i)), s6] [(vI (Int32.ofNat i)), vR a])
    obtain ⟨x, hxi⟩ : ∃ x, cs[i]? = some x := ⟨_, List.getElem?_eq_getElem (by omega)⟩
    refine Go.caload X1 hx hZ e1 A (i := i) (x := x) rfl hxi (g := (mkF m 12 #[sR a, (sI (Int32.ofNat i)), sR d, (sI (Int32.ofNat i)), (sI (Int32.ofNat cs.length)), (sI (Int32.ofNat i)), s6] [(vI (Int32.ofNat i)), vR a])) rfl rfl (hb hby dc5_12) ?_
    show Go p e below _ T (mkF m 13 #[sR a, (sI (Int32.ofNat i)), sR d, (sI (Int32.ofNat i)), (sI (Int32.ofNat cs.length)), (sI (Int32.ofNat i)), s6] [vI x])
    refine Go.st (fun _ k => XS.istoreS X1.here hx rfl (hb hby dc5_13) rfl (k := 6) (o := s6) rfl o6 k) ?_
    show Go p e below _ T (mkF m 15 #[sR a, (sI (Int32.ofNat i)), sR d, (sI (Int32.ofNat i)), (sI (Int32.ofNat cs.length)), (sI (Int32.ofNat i)), sI x] [])
    refine Go.st (fun _ k => XS.iload X1.here hx rfl (hb hby dc5_15) rfl k) ?_
    show Go p e below _ T (mkF m 17 #[sR a, (sI (Int32.ofNat i)), sR d, (sI (Int32.ofNat i)), (sI (Int32.ofNat cs.length)), (sI (Int32.ofNat i)), sI x] [vI x])
    refine Go.st (fun _ k => XS.sipush X1.here hx rfl (hb hby dc5_17) k) ?_
    show Go p e below _ T (mkF m 20 #[sR a, (sI (Int32.ofNat i)), sR d, (sI (Int32.ofNat i)), (sI (Int32.ofNat cs.length)), (sI (Int32.ofNat i)), sI x] [vI 255, vI x])
    by_cases q : (255 : Int32) < x
    · skip
      refine Go.st (fun _ k => XS.icmpNo X1.here hx rfl (hb hby dc5_20) rfl (XT.ii_le_f q) k) ?_
      show Go p e below _ T (mkF m 23 #[sR a, (sI (Int32.ofNat i)), sR d, (sI (Int32.ofNat i)), (sI (Int32.ofNat cs.length)), (sI (Int32.ofNat i)), sI x] [])
      refine Go.st (fun _ k => XS.iload X1.here hx rfl (hb hby dc5_23) rfl k) ?_
      show Go p e below _ T (mkF m 25 #[sR a, (sI (Int32.ofNat i)), sR d, (sI (Int32.ofNat i)), (sI (Int32.ofNat cs.length)), (sI (Int32.ofNat i)), sI x] [(vI (Int32.ofNat i))])
      have f := own_fb_big F hxi q
      exact Go.retI X1 hx hret hlk (hb hby dc5_25) ⟨by rw [f], N, e1 ▸ K, by rw [f, e1, show cs.length - i = k + 1 by omega]; exact D⟩ (Nat.le_refl _) (Nat.le_refl _)
    · skip
      refine Go.st (fun _ k => XS.icmpYes X1.here hx rfl (pc0 := 20) (pc' := 26) rfl (hb hby dc5_20) rfl (XT.ii_le_t q) (by decide) (by decide) k) ?_
      show Go p e below _ T (mkF m 26 #[sR a, (sI (Int32.ofNat i)), sR d, (sI (Int32.ofNat i)), (sI (Int32.ofNat cs.length)), (sI (Int32.ofNat i)), sI x] [])
      refine Go.st (fun _ k => XS.aloadN X1.here hx rfl (hb hby dc5_26) rfl rfl k) ?_
      show Go p e below _ T (mkF m 27 #[sR a, (sI (Int32.ofNat i)), sR d, (sI (Int32.ofNat i)), (sI (Int32.ofNat cs.length)), (sI (Int32.ofNat i)), sI x] [vR d])
      refine Go.st (fun _ k => XS.iloadN X1.here hx rfl (hb hby dc5_27) rfl k) ?_
      show Go p e below _ T (mkF m 28 #[sR a, (sI (Int32.ofNat i)), sR d, (sI (Int32.ofNat i)), (sI (Int32.ofNat cs.length)), (sI (Int32.ofNat i)), sI x] [(vI (Int32.ofNat i)), vR d])
      refine Go.st (fun _ k => XS.iload X1.here hx rfl (hb hby dc5_28) rfl k) ?_
      show Go p e below _ T (mkF m 30 #[sR a, (sI (Int32.ofNat i)), sR d, (sI (Int32.ofNat i)), (sI (Int32.ofNat cs.length)), (sI (Int32.ofNat i)), sI x] [vI x, (vI (Int32.ofNat i)), vR d])
      refine Go.st (fun _ k => XT.i2b X1.here hx rfl (hb hby dc5_30) rfl k) ?_
      show Go p e below _ T (mkF m 31 #[sR a, (sI (Int32.ofNat i)), sR d, (sI (Int32.ofNat i)), (sI (Int32.ofNat cs.length)), (sI (Int32.ofNat i)), sI x] [(vI x.toInt8.toInt32), (vI (Int32.ofNat i)), vR d])
      refine Go.bastore X1 hx hZ e1 D (i := i) rfl (by rw [List.length_append, List.length_map, List.length_take, List.length_replicate]; omega) (g := (mkF m 31 #[sR a, (sI (Int32.ofNat i)), sR d, (sI (Int32.ofNat i)), (sI (Int32.ofNat cs.length)), (sI (Int32.ofNat i)), sI x] [(vI x.toInt8.toInt32), (vI (Int32.ofNat i)), vR d])) rfl rfl (hb hby dc5_31) ?_
      rintro T2 h2 X2 e2 W2 A2
      have sW2 := W2.size
      show Go p e below _ T2 (mkF m 32 #[sR a, (sI (Int32.ofNat i)), sR d, (sI (Int32.ofNat i)), (sI (Int32.ofNat cs.length)), (sI (Int32.ofNat i)), sI x] [])
      rw [own_nar_lo, own_c5_step hxi hik] at A2
      refine Go.st (fun _ k => XS.iinc X2.here hx rfl (hb hby dc5_32) rfl rfl k) ?_
      show Go p e below _ T2 (mkF m 35 #[sR a, (sI ((Int32.ofNat i) + (1 : Int32))), sR d, (sI (Int32.ofNat i)), (sI (Int32.ofNat cs.length)), (sI (Int32.ofNat i)), sI x] [])
      rw [own_succ]
      show Go p e below _ T2 (mkF m 35 #[sR a, (sI (Int32.ofNat (i + 1))), sR d, (sI (Int32.ofNat i)), (sI (Int32.ofNat cs.length)), (sI (Int32.ofNat i)), sI x] [])
      refine Go.st (fun _ k => XS.iinc X2.here hx rfl (hb hby dc5_35) rfl rfl k) ?_
      show Go p e below _ T2 (mkF m 38 #[sR a, (sI (Int32.ofNat (i + 1))), sR d, (sI ((Int32.ofNat i) + (1 : Int32))), (sI (Int32.ofNat cs.length)), (sI (Int32.ofNat i)), sI x] [])
      rw [own_succ]
      show Go p e below _ T2 (mkF m 38 #[sR a, (sI (Int32.ofNat (i + 1))), sR d, (sI (Int32.ofNat (i + 1))), (sI (Int32.ofNat cs.length)), (sI (Int32.ofNat i)), sI x] [])
      refine Go.st (fun _ k => XS.iinc X2.here hx rfl (hb hby dc5_38) rfl rfl k) ?_
      show Go p e below _ T2 (mkF m 41 #[sR a, (sI (Int32.ofNat (i + 1))), sR d, (sI (Int32.ofNat (i + 1))), (sI (Int32.ofNat cs.length)), (sI ((Int32.ofNat i) + (1 : Int32))), sI x] [])
      rw [own_succ]
      show Go p e below _ T2 (mkF m 41 #[sR a, (sI (Int32.ofNat (i + 1))), sR d, (sI (Int32.ofNat (i + 1))), (sI (Int32.ofNat cs.length)), (sI (Int32.ofNat (i + 1))), sI x] [])
      refine Go.st (fun _ k => XS.goto X2.here hx rfl (pc0 := 41) (pc' := 3) rfl (hb hby dc5_41) (by decide) (by decide) k) ?_
      show Go p e below _ T2 (mkF m 3 #[sR a, (sI (Int32.ofNat (i + 1))), sR d, (sI (Int32.ofNat (i + 1))), (sI (Int32.ofNat cs.length)), (sI (Int32.ofNat (i + 1))), sI x] [])
      exact ih (i + 1) T2 h2 _ (.val (.int x)) (by omega) (One.val rfl) X2 e2 (A.other W2 hab) A2 (own_fb_small F hxi q) (Fr.snoc X2 N hnd) (K.wr W2 (Or.inl (List.mem_cons_self ..)))
set_option maxRecDepth 65536 in
set_option maxHeartbeats 40000000 in
theorem rmC5 (l : Launch) (Z : State) (a0 : Array Value) (hw : ∀ d ∈ tables_1, d.before a0 Z = true) (cs : List Int32) (a d : Addr) (h0 : Heap) (n0 : Nat) (hn : cs.length ≤ 4000) (hnd : n0 ≤ d) (hab : a ≠ d) (A : AI Z h0 a .char cs) (D : AI Z h0 d .byte (List.replicate cs.length 0)) :
    Ctr l Z (⟨"java/lang/StringUTF16", "compress", "([CI[BII)I"⟩ : MethodName) jdk_52_method_21_code 7 (some .int) [] ({ frames := 0, cells := 0, slots := 0, locals := 0 } : Room) #[(.ref a), (.int (Int32.ofNat 0)), (.ref d), (.int (Int32.ofNat 0)), (.int (Int32.ofNat cs.length))] h0 (QC5 Z d cs h0 n0) := by
  refine Ctr.of (plainFor_of_name pn_1) ?_
  intro p e s m below meth c s₁ hx hby hml hown hnm hret hlk hZ X0 e0
  refine Go.cast (ef_0 m a (Int32.ofNat 0) d (Int32.ofNat 0) (Int32.ofNat cs.length)) ?_
  show Go p e below _ s₁ (mkF m 0 #[sR a, (sI (Int32.ofNat 0)), sR d, (sI (Int32.ofNat 0)), (sI (Int32.ofNat cs.length)), .unset, .unset] [])
  refine Go.st (fun _ k => XS.iconst X0.here hx rfl (hb hby dc5_0) k) ?_
  show Go p e below _ s₁ (mkF m 1 #[sR a, (sI (Int32.ofNat 0)), sR d, (sI (Int32.ofNat 0)), (sI (Int32.ofNat cs.length)), .unset, .unset] [vI 0])
  refine Go.st (fun _ k => XS.istore X0.here hx rfl (hb hby dc5_1) rfl rfl k) ?_
  show Go p e below _ s₁ (mkF m 3 #[sR a, (sI (Int32.ofNat 0)), sR d, (sI (Int32.ofNat 0)), (sI (Int32.ofNat cs.length)), sI 0, .unset] [])
  exact lpC5 l Z a0 hw cs a d h0 n0 hn hx hby hml hown hret hlk hZ hnd hab cs.length 0 s₁ h0 _ .unset (by omega) One.u X0 e0 A (by simpa using D) (by simp) (Fr.nil n0) (Keep.refl _ _)
theorem own_fb_full : ∀ cs : List Int32, (∀ c ∈ cs, ¬ (255 : Int32) < c) → own_fb cs = cs.length
  | [], _ => rfl
  | c :: cs, h => by rw [own_fb_cons, if_neg (h c (List.mem_cons_self ..)), own_fb_full cs (fun d hd => h d (List.mem_cons_of_mem _ hd))]; rfl
def QC3 (Z : State) (cs : List Int32) (h0 : Heap) (n0 : Nat) (v : Option Value) (h : Heap) (L : List Loc) : Prop := ∃ t, v = some (.ref t) ∧ Fr n0 L ∧ Keep h0 h [] ∧ AI Z h t .byte (cs.map own_lo) ∧ Exa Z h t "[B" ∧ h0.size ≤ t
theorem dc3_0 : decode jdk_52_method_16_code 0 = .ok (.iload_n 2, 1) := by decide +kernel
theorem dc3_1 : decode jdk_52_method_16_code 1 = .ok (.newarray .byte, 2) := by decide +kernel
theorem dc3_3 : decode jdk_52_method_16_code 3 = .ok (.astore_n 3, 1) := by decide +kernel
theorem dc3_4 : decode jdk_52_method_16_code 4 = .ok (.aload_n 0, 1) := by decide +kernel
theorem dc3_5 : decode jdk_52_method_16_code 5 = .ok (.iload_n 1, 1) := by decide +kernel
theorem dc3_6 : decode jdk_52_method_16_code 6 = .ok (.aload_n 3, 1) := by decide +kernel
theorem dc3_7 : decode jdk_52_method_16_code 7 = .ok (.iconst 0, 1) := by decide +kernel
theorem dc3_8 : decode jdk_52_method_16_code 8 = .ok (.iload_n 2, 1) := by decide +kernel
theorem dc3_9 : decode jdk_52_method_16_code 9 = .ok (.invokestatic 115, 3) := by decide +kernel
theorem dc3_12 : decode jdk_52_method_16_code 12 = .ok (.istore 4, 2) := by decide +kernel
theorem dc3_14 : decode jdk_52_method_16_code 14 = .ok (.iload 4, 2) := by decide +kernel
theorem dc3_16 : decode jdk_52_method_16_code 16 = .ok (.iload_n 2, 1) := by decide +kernel
theorem dc3_17 : decode jdk_52_method_16_code 17 = .ok (.if_icmp .eq 40, 3) := by decide +kernel
theorem dc3_57 : decode jdk_52_method_16_code 57 = .ok (.aload_n 3, 1) := by decide +kernel
theorem dc3_58 : decode jdk_52_method_16_code 58 = .ok (.areturn, 1) := by decide +kernel
set_option maxRecDepth 65536 in
set_option maxHeartbeats 40000000 in
theorem rmC3 (l : Launch) (Z : State) (a0 : Array Value) (hw : ∀ d ∈ tables_1, d.before a0 Z = true) (cs : List Int32) (a : Addr) (h0 : Heap) (n0 : Nat) (hn : cs.length ≤ 4000) (hbd : ∀ c ∈ cs, ¬ (255 : Int32) < c) (hZ0 : n0 ≤ h0.size) (A : AI Z h0 a .char cs) :
    Ctr l Z (⟨"java/lang/StringUTF16", "compress", "([CII)[B"⟩ : MethodName) jdk_52_method_16_code 6 (some (.array .byte)) [] ({ frames := 1, cells := 1, slots := cs.length, locals := 18 } : Room) #[(.ref a), (.int (Int32.ofNat 0)), (.int (Int32.ofNat cs.length))] h0 (QC3 Z cs h0 n0) := by
  refine Ctr.of (plainFor_of_name pn_1) ?_
  intro p e s m below meth c s₁ hx hby hml hown hnm hret hlk hZ X0 e0
  refine Go.cast (ef_2 m a (Int32.ofNat 0) (Int32.ofNat cs.length)) ?_
  show Go p e below _ s₁ (mkF m 0 #[sR a, (sI (Int32.ofNat 0)), (sI (Int32.ofNat cs.length)), .unset, .unset, .unset] [])
  refine Go.st (fun _ k => XS.iloadN X0.here hx rfl (hb hby dc3_0) rfl k) ?_
  show Go p e below _ s₁ (mkF m 1 #[sR a, (sI (Int32.ofNat 0)), (sI (Int32.ofNat cs.length)), .unset, .unset, .unset] [(vI (Int32.ofNat cs.length))])
  refine Go.newarrE X0 hx hZ (ad := "[B") (ty := .byte) (by decide) rfl rfl (hW hw 28 rfl) e0 (g := (mkF m 1 #[sR a, (sI (Int32.ofNat 0)), (sI (Int32.ofNat cs.length)), .unset, .unset, .unset] [(vI (Int32.ofNat cs.length))])) rfl (hb hby dc3_1) rfl (n := cs.length) rfl (by omega) (by (try dsimp only [room_1]); (try simp only [List.length_cons, List.length_nil]); omega) (by (try dsimp only [room_1]); (try simp only [List.length_cons, List.length_nil]); omega) ?_
  rintro T1 h1 X1 e1 E1 l1 A1 B1
  obtain ⟨d, gd⟩ : ∃ z, z = h0.size := ⟨_, rfl⟩
  rw [← gd] at A1 B1 l1 ⊢
  show Go p e below _ T1 (mkF m 3 #[sR a, (sI (Int32.ofNat 0)), (sI (Int32.ofNat cs.length)), .unset, .unset, .unset] [vR d])
  refine Go.st (fun _ k => XS.astoreN X1.here hx rfl (hb hby dc3_3) rfl rfl rfl k) ?_
  show Go p e below _ T1 (mkF m 4 #[sR a, (sI (Int32.ofNat 0)), (sI (Int32.ofNat cs.length)), sR d, .unset, .unset] [])
  refine Go.st (fun _ k => XS.aloadN X1.here hx rfl (hb hby dc3_4) rfl rfl k) ?_
  show Go p e below _ T1 (mkF m 5 #[sR a, (sI (Int32.ofNat 0)), (sI (Int32.ofNat cs.length)), sR d, .unset, .unset] [vR a])
  refine Go.st (fun _ k => XS.iloadN X1.here hx rfl (hb hby dc3_5) rfl k) ?_
  show Go p e below _ T1 (mkF m 6 #[sR a, (sI (Int32.ofNat 0)), (sI (Int32.ofNat cs.length)), sR d, .unset, .unset] [(vI (Int32.ofNat 0)), vR a])
  refine Go.st (fun _ k => XS.aloadN X1.here hx rfl (hb hby dc3_6) rfl rfl k) ?_
  show Go p e below _ T1 (mkF m 7 #[sR a, (sI (Int32.ofNat 0)), (sI (Int32.ofNat cs.length)), sR d, .unset, .unset] [vR d, (vI (Int32.ofNat 0)), vR a])
  refine Go.st (fun _ k => XS.iconst X1.here hx rfl (hb hby dc3_7) k) ?_
  show Go p e below _ T1 (mkF m 8 #[sR a, (sI (Int32.ofNat 0)), (sI (Int32.ofNat cs.length)), sR d, .unset, .unset] [vI 0, vR d, (vI (Int32.ofNat 0)), vR a])
  refine Go.st (fun _ k => XS.iloadN X1.here hx rfl (hb hby dc3_8) rfl k) ?_
  show Go p e below _ T1 (mkF m 9 #[sR a, (sI (Int32.ofNat 0)), (sI (Int32.ofNat cs.length)), sR d, .unset, .unset] [(vI (Int32.ofNat cs.length)), vI 0, vR d, (vI (Int32.ofNat 0)), vR a])
  have la : a ≠ d := Nat.ne_of_lt (Nat.lt_of_lt_of_eq A.lt gd.symm)
  have hfb := own_fb_full cs hbd
  refine Go.callS X1 hx (y := (⟨"java/lang/StringUTF16", "compress", "([CI[BII)I"⟩ : MethodName)) hown (mvT hZ (hW hw 29 rfl)) (mvT hZ (hW hw 30 rfl)) (mvT hZ (hW hw 26 rfl)) (mvT hZ (hW hw 31 rfl)) (by decide) (Ctr.back (W := 0) (rmC5 l Z a0 hw cs a d h1 n0 hn (by omega) la (A.ext E1) A1) hZ (hW hw 31 rfl) (hW hw 26 rfl) (by (try dsimp only [room_1]); (try simp only [List.length_cons, List.length_nil]); omega) (by (try dsimp only [room_1]); (try simp only [List.length_cons, List.length_nil]); omega)) e1 (g := (mkF m 9 #[sR a, (sI (Int32.ofNat 0)), (sI (Int32.ofNat cs.length)), sR d, .unset, .unset] [(vI (Int32.ofNat cs.length)), vI 0, vR d, (vI (Int32.ofNat 0)), vR a])) rfl (by rw [hml]; rfl) (argsL := [vR a, (vI (Int32.ofNat 0)), vR d, vI 0, (vI (Int32.ofNat cs.length))]) (rest := []) (lenOf pd_3 rfl) rfl (by show 2 * 0 + _ ≤ _; exact Nat.le_of_eq rfl) (hb hby dc3_9) rfl (by (try dsimp only [room_1]); (try simp only [List.length_cons, List.length_nil]); omega) (by (try dsimp only [room_1]); (try simp only [List.length_cons, List.length_nil]); omega) ?_
  rintro _ T2 L2 X2 ⟨rfl, N2, K2, A2⟩
  show Go p e below _ T2 (mkF m 12 #[sR a, (sI (Int32.ofNat 0)), (sI (Int32.ofNat cs.length)), sR d, .unset, .unset] [(vI (Int32.ofNat (own_fb cs)))])
  refine Go.st (fun _ k => XS.istore X2.here hx rfl (hb hby dc3_12) rfl rfl k) ?_
  show Go p e below _ T2 (mkF m 14 #[sR a, (sI (Int32.ofNat 0)), (sI (Int32.ofNat cs.length)), sR d, (sI (Int32.ofNat (own_fb cs))), .unset] [])
  refine Go.st (fun _ k => XS.iload X2.here hx rfl (hb hby dc3_14) rfl k) ?_
  show Go p e below _ T2 (mkF m 16 #[sR a, (sI (Int32.ofNat 0)), (sI (Int32.ofNat cs.length)), sR d, (sI (Int32.ofNat (own_fb cs))), .unset] [(vI (Int32.ofNat (own_fb cs)))])
  refine Go.st (fun _ k => XS.iloadN X2.here hx rfl (hb hby dc3_16) rfl k) ?_
  show Go p e below _ T2 (mkF m 17 #[sR a, (sI (Int32.ofNat 0)), (sI (Int32.ofNat cs.length)), sR d, (sI (Int32.ofNat (own_fb cs))), .unset] [(vI (Int32.ofNat cs.length)), (vI (Int32.ofNat (own_fb cs)))])
  have K02 : Keep h0 T2.heap [] := ((Keep.refl h0 []).ext E1).trans K2 (fun x q => Or.inr (by cases List.mem_singleton.mp q; omega))
  refine Go.st (fun _ k => XS.icmpYes X2.here hx rfl (pc0 := 17) (pc' := 57) rfl (hb hby dc3_17) rfl (XT.ii_eq_t (by rw [hfb])) (by decide) (by decide) k) ?_
  show Go p e below _ T2 (mkF m 57 #[sR a, (sI (Int32.ofNat 0)), (sI (Int32.ofNat cs.length)), sR d, (sI (Int32.ofNat (own_fb cs))), .unset] [])
  refine Go.st (fun _ k => XS.aloadN X2.here hx rfl (hb hby dc3_57) rfl rfl k) ?_
  show Go p e below _ T2 (mkF m 58 #[sR a, (sI (Int32.ofNat 0)), (sI (Int32.ofNat cs.length)), sR d, (sI (Int32.ofNat (own_fb cs))), .unset] [vR d])
  exact Go.retV X2 hx hret hlk rfl rfl (hb hby dc3_58) ⟨d, rfl, Fr.app (Fr.nil n0) N2, K02, by rw [hfb] at A2; simpa using A2, B1.keep K2, by omega⟩ (by (try dsimp only [room_1]); (try simp only [List.length_cons, List.length_nil]); omega) (by (try dsimp only [room_1]); (try simp only [List.length_cons, List.length_nil]); omega)
theorem dcl_0 : decode jdk_52_method_15_code 0 = .ok (.iload_n 1, 1) := by decide +kernel
theorem dcl_1 : decode jdk_52_method_15_code 1 = .ok (.aload_n 0, 1) := by decide +kernel
theorem dcl_2 : decode jdk_52_method_15_code 2 = .ok (.arraylength, 1) := by decide +kernel
theorem dcl_3 : decode jdk_52_method_15_code 3 = .ok (.isub, 1) := by decide +kernel
theorem dcl_4 : decode jdk_52_method_15_code 4 = .ok (.bipush 31, 2) := by decide +kernel
theorem dcl_6 : decode jdk_52_method_15_code 6 = .ok (.iushr, 1) := by decide +kernel
theorem dcl_7 : decode jdk_52_method_15_code 7 = .ok (.i2b, 1) := by decide +kernel
theorem dcl_8 : decode jdk_52_method_15_code 8 = .ok (.ireturn, 1) := by decide +kernel
set_option maxRecDepth 65536 in
set_option maxHeartbeats 40000000 in
theorem rmCL (l : Launch) (Z : State) (a0 : Array Value) (hw : ∀ d ∈ tables_1, d.before a0 Z = true) (bs : List Int32) (t : Addr) (h0 : Heap) (n0 : Nat) (B : AI Z h0 t .byte bs) :
    Ctr l Z (⟨"java/lang/StringUTF16", "coderFromArrayLen", "([BI)B"⟩ : MethodName) jdk_52_method_15_code 2 (some .byte) [] ({ frames := 0, cells := 0, slots := 0, locals := 0 } : Room) #[(.ref t), (.int (Int32.ofNat bs.length))] h0 (QP 0 h0 n0) := by
  refine Ctr.of (plainFor_of_name pn_1) ?_
  intro p e s m below meth c s₁ hx hby hml hown hnm hret hlk hZ X0 e0
  refine Go.cast (ef_4 m t (Int32.ofNat bs.length)) ?_
  show Go p e below _ s₁ (mkF m 0 #[sR t, (sI (Int32.ofNat bs.length))] [])
  refine Go.st (fun _ k => XS.iloadN X0.here hx rfl (hb hby dcl_0) rfl k) ?_
  show Go p e below _ s₁ (mkF m 1 #[sR t, (sI (Int32.ofNat bs.length))] [(vI (Int32.ofNat bs.length))])
  refine Go.st (fun _ k => XS.aloadN X0.here hx rfl (hb hby dcl_1) rfl rfl k) ?_
  show Go p e below _ s₁ (mkF m 2 #[sR t, (sI (Int32.ofNat bs.length))] [vR t, (vI (Int32.ofNat bs.length))])
  refine Go.alen X0 hx hZ e0 B (g := (mkF m 2 #[sR t, (sI (Int32.ofNat bs.length))] [vR t, (vI (Int32.ofNat bs.length))])) rfl rfl (hb hby dcl_2) ?_
  show Go p e below _ s₁ (mkF m 3 #[sR t, (sI (Int32.ofNat bs.length))] [(vI (Int32.ofNat bs.length)), (vI (Int32.ofNat bs.length))])
  refine Go.st (fun _ k => XS.isub X0.here hx rfl (hb hby dcl_3) rfl k) ?_
  show Go p e below _ s₁ (mkF m 4 #[sR t, (sI (Int32.ofNat bs.length))] [(vI ((Int32.ofNat bs.length) - (Int32.ofNat bs.length)))])
  refine Go.st (fun _ k => XS.bipush X0.here hx rfl (hb hby dcl_4) k) ?_
  show Go p e below _ s₁ (mkF m 6 #[sR t, (sI (Int32.ofNat bs.length))] [vI 31, (vI ((Int32.ofNat bs.length) - (Int32.ofNat bs.length)))])
  refine Go.st (fun _ k => XT.iushr X0.here hx rfl (hb hby dcl_6) rfl k) ?_
  show Go p e below _ s₁ (mkF m 7 #[sR t, (sI (Int32.ofNat bs.length))] [(vI (XT.ushr ((Int32.ofNat bs.length) - (Int32.ofNat bs.length)) (31 : Int32)))])
  refine Go.st (fun _ k => XT.i2b X0.here hx rfl (hb hby dcl_7) rfl k) ?_
  show Go p e below _ s₁ (mkF m 8 #[sR t, (sI (Int32.ofNat bs.length))] [(vI ((XT.ushr ((Int32.ofNat bs.length) - (Int32.ofNat bs.length)) (31 : Int32)).toInt8.toInt32))])
  exact Go.retB X0 hx hret hlk (Or.inr (Or.inl rfl)) (hb hby dcl_8) ⟨by rw [Int32.sub_self]; decide, Fr.nil n0, e0⟩ (Nat.le_refl _) (Nat.le_refl _)
def QI (Z : State) (x : Addr) (cs : List Int32) (h0 : Heap) (n0 : Nat) (v : Option Value) (h : Heap) (L : List Loc) : Prop := v = none ∧ Fr n0 L ∧ Keep h0 h [x] ∧ Exa Z h x "java/lang/String" ∧ Fld Z h x "java/lang/String" "coder" "B" (.int 0) ∧ ∃ t, Fld Z h x "java/lang/String" "value" "[B" (.ref t) ∧ AI Z h t .byte (cs.map own_lo) ∧ Exa Z h t "[B"
theorem di4_0 : decode jdk_42_method_149_code 0 = .ok (.aload_n 0, 1) := by decide +kernel
theorem di4_1 : decode jdk_42_method_149_code 1 = .ok (.invokespecial 1, 3) := by decide +kernel
theorem di4_4 : decode jdk_42_method_149_code 4 = .ok (.iload_n 3, 1) := by decide +kernel
theorem di4_5 : decode jdk_42_method_149_code 5 = .ok (.ifCond .ne 22, 3) := by decide +kernel
theorem di4_27 : decode jdk_42_method_149_code 27 = .ok (.getstatic 38, 3) := by decide +kernel
theorem di4_30 : decode jdk_42_method_149_code 30 = .ok (.ifCond .eq 28, 3) := by decide +kernel
theorem di4_33 : decode jdk_42_method_149_code 33 = .ok (.aload_n 1, 1) := by decide +kernel
theorem di4_34 : decode jdk_42_method_149_code 34 = .ok (.iload_n 2, 1) := by decide +kernel
theorem di4_35 : decode jdk_42_method_149_code 35 = .ok (.iload_n 3, 1) := by decide +kernel
theorem di4_36 : decode jdk_42_method_149_code 36 = .ok (.invokestatic 177, 3) := by decide +kernel
theorem di4_39 : decode jdk_42_method_149_code 39 = .ok (.astore 5, 2) := by decide +kernel
theorem di4_41 : decode jdk_42_method_149_code 41 = .ok (.aload_n 0, 1) := by decide +kernel
theorem di4_42 : decode jdk_42_method_149_code 42 = .ok (.aload 5, 2) := by decide +kernel
theorem di4_44 : decode jdk_42_method_149_code 44 = .ok (.iload_n 3, 1) := by decide +kernel
theorem di4_45 : decode jdk_42_method_149_code 45 = .ok (.invokestatic 47, 3) := by decide +kernel
theorem di4_48 : decode jdk_42_method_149_code 48 = .ok (.putfield 15, 3) := by decide +kernel
theorem di4_51 : decode jdk_42_method_149_code 51 = .ok (.aload_n 0, 1) := by decide +kernel
theorem di4_52 : decode jdk_42_method_149_code 52 = .ok (.aload 5, 2) := by decide +kernel
theorem di4_54 : decode jdk_42_method_149_code 54 = .ok (.putfield 9, 3) := by decide +kernel
theorem di4_57 : decode jdk_42_method_149_code 57 = .ok (.return_, 1) := by decide +kernel
set_option maxRecDepth 65536 in
set_option maxHeartbeats 40000000 in
theorem rmI4 (l : Launch) (Z : State) (a0 : Array Value) (hw : ∀ d ∈ tables_1, d.before a0 Z = true) (cs : List Int32) (hn : cs.length ≤ 4000) (h1 : 0 < cs.length) (hbd : ∀ c ∈ cs, ¬ (255 : Int32) < c) (z : Int32) (SC : Sta Z Z.heap "java/lang/String" "COMPACT_STRINGS" "Z" (.int z)) (nC : ¬ z = 0) (x a : Addr) (v0 c0 : Value) (h0 : Heap) (n0 : Nat) (hna : n0 ≤ x) (hZ0 : n0 ≤ h0.size) (O : Ext Z.heap h0) (E : Exa Z h0 x "java/lang/String") (V : Fld Z h0 x "java/lang/String" "value" "[B" v0) (Cc : Fld Z h0 x "java/lang/String" "coder" "B" c0) (A : AI Z h0 a .char cs) :
    Ctr l Z (⟨"java/lang/String", "<init>", "([CIILjava/lang/Void;)V"⟩ : MethodName) jdk_42_method_149_code 6 none [] ({ frames := 2, cells := 1, slots := cs.length, locals := 35 } : Room) #[(.ref x), (.ref a), (.int (Int32.ofNat 0)), (.int (Int32.ofNat cs.length)), .null] h0 (QI Z x cs h0 n0) := by
  refine Ctr.of (plainFor_of_name pn_8) ?_
  intro p e s m below meth c s₁ hx hby hml hown hnm hret hlk hZ X0 e0
  refine Go.cast (ef_5 m x a (Int32.ofNat 0) (Int32.ofNat cs.length)) ?_
  show Go p e below _ s₁ (mkF m 0 #[sR x, sR a, (sI (Int32.ofNat 0)), (sI (Int32.ofNat cs.length)), .val .null, .unset] [])
  refine Go.st (fun _ k => XS.aloadN X0.here hx rfl (hb hby di4_0) rfl rfl k) ?_
  show Go p e below _ s₁ (mkF m 1 #[sR x, sR a, (sI (Int32.ofNat 0)), (sI (Int32.ofNat cs.length)), .val .null, .unset] [vR x])
  obtain ⟨T1, X1, e1, st1⟩ := initO X0 hx hZ hown (hW hw 20 rfl) (hW hw 21 rfl) (hW hw 22 rfl) e0 (g := (mkF m 1 #[sR x, sR a, (sI (Int32.ofNat 0)), (sI (Int32.ofNat cs.length)), .val .null, .unset] [vR x])) rfl (by rw [hml]; rfl) rfl (hb hby di4_1) (by (try dsimp only [room_1]); (try simp only [List.length_cons, List.length_nil]); omega) (W := 0) (by show 2 * 0 + _ ≤ _; exact Nat.le_of_eq rfl) (by (try dsimp only [room_1]); (try simp only [List.length_cons, List.length_nil]); omega)
  refine Go.st st1 ?_
  show Go p e below _ T1 (mkF m 4 #[sR x, sR a, (sI (Int32.ofNat 0)), (sI (Int32.ofNat cs.length)), .val .null, .unset] [])
  refine Go.st (fun _ k => XS.iloadN X1.here hx rfl (hb hby di4_4) rfl k) ?_
  show Go p e below _ T1 (mkF m 5 #[sR x, sR a, (sI (Int32.ofNat 0)), (sI (Int32.ofNat cs.length)), .val .null, .unset] [(vI (Int32.ofNat cs.length))])
  have qn : ¬ Int32.ofNat cs.length = 0 := fun z' => by have q := congrArg Int32.toInt z'; rw [own_toInt (by omega)] at q; have q2 : ((0 : Int32)).toInt = 0 := rfl; omega
  refine Go.st (fun _ k => XS.ifYes X1.here hx rfl (pc0 := 5) (pc' := 27) rfl (hb hby di4_5) rfl (XT.i0_ne_t qn) (by decide) (by decide) k) ?_
  show Go p e below _ T1 (mkF m 27 #[sR x, sR a, (sI (Int32.ofNat 0)), (sI (Int32.ofNat cs.length)), .val .null, .unset] [])
  obtain ⟨T2, X2, e2, st2⟩ := getS2 X1 hx hZ hown (host := "") (Or.inl (hW hw 23 rfl)) Via.refl e1 (SC.ext O) (g := (mkF m 27 #[sR x, sR a, (sI (Int32.ofNat 0)), (sI (Int32.ofNat cs.length)), .val .null, .unset] [])) rfl (hb hby di4_27)
  refine Go.st st2 ?_
  show Go p e below _ T2 (mkF m 30 #[sR x, sR a, (sI (Int32.ofNat 0)), (sI (Int32.ofNat cs.length)), .val .null, .unset] [vI z])
  refine Go.st (fun _ k => XS.ifNo X2.here hx rfl (hb hby di4_30) rfl (XT.i0_eq_f nC) k) ?_
  show Go p e below _ T2 (mkF m 33 #[sR x, sR a, (sI (Int32.ofNat 0)), (sI (Int32.ofNat cs.length)), .val .null, .unset] [])
  refine Go.st (fun _ k => XS.aloadN X2.here hx rfl (hb hby di4_33) rfl rfl k) ?_
  show Go p e below _ T2 (mkF m 34 #[sR x, sR a, (sI (Int32.ofNat 0)), (sI (Int32.ofNat cs.length)), .val .null, .unset] [vR a])
  refine Go.st (fun _ k => XS.iloadN X2.here hx rfl (hb hby di4_34) rfl k) ?_
  show Go p e below _ T2 (mkF m 35 #[sR x, sR a, (sI (Int32.ofNat 0)), (sI (Int32.ofNat cs.length)), .val .null, .unset] [(vI (Int32.ofNat 0)), vR a])
  refine Go.st (fun _ k => XS.iloadN X2.here hx rfl (hb hby di4_35) rfl k) ?_
  show Go p e below _ T2 (mkF m 36 #[sR x, sR a, (sI (Int32.ofNat 0)), (sI (Int32.ofNat cs.length)), .val .null, .unset] [(vI (Int32.ofNat cs.length)), (vI (Int32.ofNat 0)), vR a])
  refine Go.callS X2 hx (y := (⟨"java/lang/StringUTF16", "compress", "([CII)[B"⟩ : MethodName)) hown (mvT hZ (hW hw 24 rfl)) (mvT hZ (hW hw 25 rfl)) (mvT hZ (hW hw 26 rfl)) (mvT hZ (hW hw 27 rfl)) (by decide) (Ctr.back (W := 0) (rmC3 l Z a0 hw cs a h0 n0 hn hbd hZ0 A) hZ (hW hw 27 rfl) (hW hw 26 rfl) (by (try dsimp only [room_1]); (try simp only [List.length_cons, List.length_nil]); omega) (by (try dsimp only [room_1]); (try simp only [List.length_cons, List.length_nil]); omega)) e2 (g := (mkF m 36 #[sR x, sR a, (sI (Int32.ofNat 0)), (sI (Int32.ofNat cs.length)), .val .null, .unset] [(vI (Int32.ofNat cs.length)), (vI (Int32.ofNat 0)), vR a])) rfl (by rw [hml]; rfl) (argsL := [vR a, (vI (Int32.ofNat 0)), (vI (Int32.ofNat cs.length))]) (rest := []) (lenOf pd_6 rfl) rfl (by show 2 * 0 + _ ≤ _; exact Nat.le_of_eq rfl) (hb hby di4_36) rfl (by (try dsimp only [room_1]); (try simp only [List.length_cons, List.length_nil]); omega) (by (try dsimp only [room_1]); (try simp only [List.length_cons, List.length_nil]); omega) ?_
  rintro _ T3 L3 X3 ⟨t, rfl, N3, K3, B3, Y3, ht⟩
  show Go p e below _ T3 (mkF m 39 #[sR x, sR a, (sI (Int32.ofNat 0)), (sI (Int32.ofNat cs.length)), .val .null, .unset] [vR t])
  refine Go.st (fun _ k => XS.astore X3.here hx rfl (hb hby di4_39) rfl rfl rfl k) ?_
  show Go p e below _ T3 (mkF m 41 #[sR x, sR a, (sI (Int32.ofNat 0)), (sI (Int32.ofNat cs.length)), .val .null, sR t] [])
  refine Go.st (fun _ k => XS.aloadN X3.here hx rfl (hb hby di4_41) rfl rfl k) ?_
  show Go p e below _ T3 (mkF m 42 #[sR x, sR a, (sI (Int32.ofNat 0)), (sI (Int32.ofNat cs.length)), .val .null, sR t] [vR x])
  refine Go.st (fun _ k => XS.aload X3.here hx rfl (hb hby di4_42) rfl rfl k) ?_
  show Go p e below _ T3 (mkF m 44 #[sR x, sR a, (sI (Int32.ofNat 0)), (sI (Int32.ofNat cs.length)), .val .null, sR t] [vR t, vR x])
  refine Go.st (fun _ k => XS.iloadN X3.here hx rfl (hb hby di4_44) rfl k) ?_
  show Go p e below _ T3 (mkF m 45 #[sR x, sR a, (sI (Int32.ofNat 0)), (sI (Int32.ofNat cs.length)), .val .null, sR t] [(vI (Int32.ofNat cs.length)), vR t, vR x])
  have hlm : (cs.map own_lo).length = cs.length := List.length_map ..
  rw [← hlm]
  show Go p e below _ T3 (mkF m 45 #[sR x, sR a, (sI (Int32.ofNat 0)), (sI (Int32.ofNat (cs.map own_lo).length)), .val .null, sR t] [(vI (Int32.ofNat (cs.map own_lo).length)), vR t, vR x])
  refine Go.callS X3 hx (y := (⟨"java/lang/StringUTF16", "coderFromArrayLen", "([BI)B"⟩ : MethodName)) hown (mvT hZ (hW hw 32 rfl)) (mvT hZ (hW hw 33 rfl)) (mvT hZ (hW hw 26 rfl)) (mvT hZ (hW hw 34 rfl)) (by decide) (Ctr.back (W := 1) (rmCL l Z a0 hw (cs.map own_lo) t T3.heap n0 B3) hZ (hW hw 34 rfl) (hW hw 26 rfl) (by (try dsimp only [room_1]); (try simp only [List.length_cons, List.length_nil]); omega) (by (try dsimp only [room_1]); (try simp only [List.length_cons, List.length_nil]); omega)) rfl (g := (mkF m 45 #[sR x, sR a, (sI (Int32.ofNat 0)), (sI (Int32.ofNat (cs.map own_lo).length)), .val .null, sR t] [(vI (Int32.ofNat (cs.map own_lo).length)), vR t, vR x])) rfl (by rw [hml]; rfl) (argsL := [vR t, (vI (Int32.ofNat (cs.map own_lo).length))]) (rest := [vR x]) (lenOf pd_7 rfl) rfl (by show 2 * 0 + _ ≤ _; exact Nat.le_of_eq rfl) (hb hby di4_45) rfl (by (try dsimp only [room_1]); (try simp only [List.length_cons, List.length_nil]); omega) (by (try dsimp only [room_1]); (try simp only [List.length_cons, List.length_nil]); omega) ?_
  rintro _ T4 L4 X4 ⟨rfl, N4, e4⟩
  show Go p e below _ T4 (mkF m 48 #[sR x, sR a, (sI (Int32.ofNat 0)), (sI (Int32.ofNat (cs.map own_lo).length)), .val .null, sR t] [vI 0, vR x])
  have sn := slot_ne (Or.inr (hW hw 38 rfl)) (Or.inr (hW hw 36 rfl)) (by decide) (t := (.array .byte)) (t' := .byte) (by decide) (by decide)
  have sn' := slot_ne (Or.inr (hW hw 36 rfl)) (Or.inr (hW hw 38 rfl)) (by decide) (t := .byte) (t' := (.array .byte)) (by decide) (by decide)
  obtain ⟨T5, h5, X5, e5, W5, st5⟩ := putF X4 hx hZ hown (host := "") (Or.inl (hW hw 35 rfl)) Via.refl e4 (Cc.keep K3 nin0) (E.keep K3) (Or.inr ⟨(hW hw 36 rfl), rfl, hnm⟩) (hW hw 11 rfl) (ty := .byte) (by decide) rfl rfl (g := (mkF m 48 #[sR x, sR a, (sI (Int32.ofNat 0)), (sI (Int32.ofNat (cs.map own_lo).length)), .val .null, sR t] [vI 0, vR x])) rfl rfl (hb hby di4_48)
  refine Go.st st5 ?_
  show Go p e below _ T5 (mkF m 51 #[sR x, sR a, (sI (Int32.ofNat 0)), (sI (Int32.ofNat (cs.map own_lo).length)), .val .null, sR t] [])
  refine Go.st (fun _ k => XS.aloadN X5.here hx rfl (hb hby di4_51) rfl rfl k) ?_
  show Go p e below _ T5 (mkF m 52 #[sR x, sR a, (sI (Int32.ofNat 0)), (sI (Int32.ofNat (cs.map own_lo).length)), .val .null, sR t] [vR x])
  refine Go.st (fun _ k => XS.aload X5.here hx rfl (hb hby di4_52) rfl rfl k) ?_
  show Go p e below _ T5 (mkF m 54 #[sR x, sR a, (sI (Int32.ofNat 0)), (sI (Int32.ofNat (cs.map own_lo).length)), .val .null, sR t] [vR t, vR x])
  obtain ⟨T6, h6, X6, e6, W6, st6⟩ := putF X5 hx hZ hown (host := "") (Or.inl (hW hw 37 rfl)) Via.refl e5 ((V.keep K3 nin0).other W5 (Or.inr sn)) ((E.keep K3).wr W5) (Or.inr ⟨(hW hw 38 rfl), rfl, hnm⟩) (hW hw 11 rfl) (ty := (.array .byte)) (by decide) rfl rfl (g := (mkF m 54 #[sR x, sR a, (sI (Int32.ofNat 0)), (sI (Int32.ofNat (cs.map own_lo).length)), .val .null, sR t] [vR t, vR x])) rfl rfl (hb hby di4_54)
  refine Go.st st6 ?_
  show Go p e below _ T6 (mkF m 57 #[sR x, sR a, (sI (Int32.ofNat 0)), (sI (Int32.ofNat (cs.map own_lo).length)), .val .null, sR t] [])
  have K6 : Keep h0 h6 [x] := ((((Keep.refl h0 [x]).trans K3 (fun _ q => nomatch q))).wr W5 (Or.inl (List.mem_cons_self ..))).wr W6 (Or.inl (List.mem_cons_self ..))
  have hx' : t ≠ x := Nat.ne_of_gt (Nat.lt_of_lt_of_le E.lt ht)
  exact Go.ret0 X6 hx hret hlk (hb hby di4_57) ⟨rfl, Fr.snoc X6 (Fr.snoc X5 (Fr.app (Fr.app (Fr.nil n0) N3) N4) hna) hna, e6 ▸ K6, e6 ▸ ((E.keep K3).wr W5).wr W6, e6 ▸ ((Cc.keep K3 nin0).same W5).other W6 (Or.inr sn'), t, e6 ▸ ((V.keep K3 nin0).other W5 (Or.inr sn)).same W6, e6 ▸ (B3.other W5 hx').other W6 hx', e6 ▸ (Y3.wr W5).wr W6⟩ (by (try dsimp only [room_1]); (try simp only [List.length_cons, List.length_nil]); omega) (by (try dsimp only [room_1]); (try simp only [List.length_cons, List.length_nil]); omega)
theorem di1_0 : decode jdk_42_method_3_code 0 = .ok (.aload_n 0, 1) := by decide +kernel
theorem di1_1 : decode jdk_42_method_3_code 1 = .ok (.aload_n 1, 1) := by decide +kernel
theorem di1_2 : decode jdk_42_method_3_code 2 = .ok (.iconst 0, 1) := by decide +kernel
theorem di1_3 : decode jdk_42_method_3_code 3 = .ok (.aload_n 1, 1) := by decide +kernel
theorem di1_4 : decode jdk_42_method_3_code 4 = .ok (.arraylength, 1) := by decide +kernel
theorem di1_5 : decode jdk_42_method_3_code 5 = .ok (.aconst_null, 1) := by decide +kernel
theorem di1_6 : decode jdk_42_method_3_code 6 = .ok (.invokespecial 27, 3) := by decide +kernel
theorem di1_9 : decode jdk_42_method_3_code 9 = .ok (.return_, 1) := by decide +kernel
set_option maxRecDepth 65536 in
set_option maxHeartbeats 40000000 in
theorem rmI1 (l : Launch) (Z : State) (a0 : Array Value) (hw : ∀ d ∈ tables_1, d.before a0 Z = true) (cs : List Int32) (hn : cs.length ≤ 4000) (h1 : 0 < cs.length) (hbd : ∀ c ∈ cs, ¬ (255 : Int32) < c) (z : Int32) (SC : Sta Z Z.heap "java/lang/String" "COMPACT_STRINGS" "Z" (.int z)) (nC : ¬ z = 0) (x a : Addr) (v0 c0 : Value) (h0 : Heap) (n0 : Nat) (hna : n0 ≤ x) (hZ0 : n0 ≤ h0.size) (O : Ext Z.heap h0) (E : Exa Z h0 x "java/lang/String") (V : Fld Z h0 x "java/lang/String" "value" "[B" v0) (Cc : Fld Z h0 x "java/lang/String" "coder" "B" c0) (A : AI Z h0 a .char cs) :
    Ctr l Z (⟨"java/lang/String", "<init>", "([C)V"⟩ : MethodName) jdk_42_method_3_code 2 none [] ({ frames := 3, cells := 1, slots := cs.length, locals := 52 } : Room) #[(.ref x), (.ref a)] h0 (QI Z x cs h0 n0) := by
  refine Ctr.of (plainFor_of_name pn_8) ?_
  intro p e s m below meth c s₁ hx hby hml hown hnm hret hlk hZ X0 e0
  refine Go.cast (ef_9 m x a) ?_
  show Go p e below _ s₁ (mkF m 0 #[sR x, sR a] [])
  refine Go.st (fun _ k => XS.aloadN X0.here hx rfl (hb hby di1_0) rfl rfl k) ?_
  show Go p e below _ s₁ (mkF m 1 #[sR x, sR a] [vR x])
  refine Go.st (fun _ k => XS.aloadN X0.here hx rfl (hb hby di1_1) rfl rfl k) ?_
  show Go p e below _ s₁ (mkF m 2 #[sR x, sR a] [vR a, vR x])
  refine Go.st (fun _ k => XS.iconst X0.here hx rfl (hb hby di1_2) k) ?_
  show Go p e below _ s₁ (mkF m 3 #[sR x, sR a] [vI 0, vR a, vR x])
  refine Go.st (fun _ k => XS.aloadN X0.here hx rfl (hb hby di1_3) rfl rfl k) ?_
  show Go p e below _ s₁ (mkF m 4 #[sR x, sR a] [vR a, vI 0, vR a, vR x])
  refine Go.alen X0 hx hZ e0 A (g := (mkF m 4 #[sR x, sR a] [vR a, vI 0, vR a, vR x])) rfl rfl (hb hby di1_4) ?_
  show Go p e below _ s₁ (mkF m 5 #[sR x, sR a] [(vI (Int32.ofNat cs.length)), vI 0, vR a, vR x])
  refine Go.st (fun _ k => XS.aconstNull X0.here hx rfl (hb hby di1_5) k) ?_
  show Go p e below _ s₁ (mkF m 6 #[sR x, sR a] [.null, (vI (Int32.ofNat cs.length)), vI 0, vR a, vR x])
  refine Go.callI X0 hx (y := (⟨"java/lang/String", "<init>", "([CIILjava/lang/Void;)V"⟩ : MethodName)) rfl hown (mvT hZ (hW hw 16 rfl)) (mvT hZ (hW hw 17 rfl)) (mvT hZ (hW hw 19 rfl)) (by decide) (Ctr.back (W := 0) (rmI4 l Z a0 hw cs hn h1 hbd z SC nC x a v0 c0 h0 n0 hna hZ0 O E V Cc A) hZ (hW hw 19 rfl) (hW hw 12 rfl) (by (try dsimp only [room_1]); (try simp only [List.length_cons, List.length_nil]); omega) (by (try dsimp only [room_1]); (try simp only [List.length_cons, List.length_nil]); omega)) e0 (g := (mkF m 6 #[sR x, sR a] [.null, (vI (Int32.ofNat cs.length)), vI 0, vR a, vR x])) rfl (by rw [hml]; rfl) (a := x) (argsL := [vR a, vI 0, (vI (Int32.ofNat cs.length)), .null]) (rest := []) (lenOf pd_10 rfl) rfl (by show 2 * 0 + _ ≤ _; exact Nat.le_of_eq rfl) (hb hby di1_6) rfl (by (try dsimp only [room_1]); (try simp only [List.length_cons, List.length_nil]); omega) (by (try dsimp only [room_1]); (try simp only [List.length_cons, List.length_nil]); omega) ?_
  rintro _ T1 L1 X1 ⟨rfl, N1, R1⟩
  show Go p e below _ T1 (mkF m 9 #[sR x, sR a] [])
  exact Go.ret0 X1 hx hret hlk (hb hby di1_9) ⟨rfl, Fr.app (Fr.nil n0) N1, R1⟩ (by (try dsimp only [room_1]); (try simp only [List.length_cons, List.length_nil]); omega) (by (try dsimp only [room_1]); (try simp only [List.length_cons, List.length_nil]); omega)
theorem own_low8 {x y : Int32} (h : ∀ i, i < 8 → x.toBitVec.getLsbD i = y.toBitVec.getLsbD i) : x.toInt8 = y.toInt8 := by
  apply Int8.toBitVec_inj.mp
  show x.toBitVec.signExtend 8 = y.toBitVec.signExtend 8
  apply BitVec.eq_of_getLsbD_eq
  intro i hi
  rw [BitVec.getLsbD_signExtend, BitVec.getLsbD_signExtend]
  have h32 : i < 32 := by omega
  simp only [hi, h32, decide_true, Bool.true_and, if_true]
  exact h i hi
theorem own_ushrB (x : Int32) (k : Nat) (hk : k < 32) : (XT.ushr x (Int32.ofNat k)).toBitVec = x.toBitVec >>> k := by
  unfold XT.ushr
  have e : (Int32.ofNat k &&& 31) = Int32.ofNat k := by
    have : ∀ j : Fin 32, (Int32.ofNat j.val &&& 31) = Int32.ofNat j.val := by decide
    exact this ⟨k, hk⟩
  rw [e]
  apply BitVec.eq_of_toNat_eq
  show (x.toUInt32 >>> (Int32.ofNat k).toUInt32).toNat = _
  have e2 : (Int32.ofNat k).toUInt32.toNat = k := by
    have : ∀ j : Fin 32, (Int32.ofNat j.val).toUInt32.toNat = j.val := by decide
    exact this ⟨k, hk⟩
  rw [UInt32.toNat_shiftRight, e2, Nat.mod_eq_of_lt hk, BitVec.toNat_ushiftRight]
  rfl
theorem own_shlB (x : Int32) (k : Nat) (hk : k < 32) : (x <<< (Int32.ofNat k &&& 31)).toBitVec = x.toBitVec <<< k := by
  have e : (Int32.ofNat k &&& 31) = Int32.ofNat k := by
    have : ∀ j : Fin 32, (Int32.ofNat j.val &&& 31) = Int32.ofNat j.val := by decide
    exact this ⟨k, hk⟩
  rw [e]
  apply BitVec.eq_of_toNat_eq
  rw [Int32.toBitVec_shiftLeft]
  have e2 : ((Int32.ofNat k).toBitVec.smod 32) = BitVec.ofNat 32 k := by
    have : ∀ j : Fin 32, (Int32.ofNat j.val).toBitVec.smod 32 = BitVec.ofNat 32 j.val := by decide
    exact this ⟨k, hk⟩
  rw [e2]
  simp [Nat.mod_eq_of_lt (show k < 4294967296 by omega)]
theorem own_shrB (x : Int32) (k : Nat) (hk : k < 32) : (x >>> (Int32.ofNat k &&& 31)).toBitVec = x.toBitVec.sshiftRight k := by
  have e : (Int32.ofNat k &&& 31) = Int32.ofNat k := by
    have : ∀ j : Fin 32, (Int32.ofNat j.val &&& 31) = Int32.ofNat j.val := by decide
    exact this ⟨k, hk⟩
  rw [e]
  have e2 : ((Int32.ofNat k).toBitVec.smod 32) = BitVec.ofNat 32 k := by
    have : ∀ j : Fin 32, (Int32.ofNat j.val).toBitVec.smod 32 = BitVec.ofNat 32 j.val := by decide
    exact this ⟨k, hk⟩
  rw [Int32.toBitVec_shiftRight, e2]
  simp [BitVec.sshiftRight', Nat.mod_eq_of_lt (show k < 4294967296 by omega)]
theorem own_sl18 (z : Int32) : (z <<< ((18 : Int32) &&& 31)).toBitVec = z.toBitVec <<< 18 := own_shlB z 18 (by decide)
theorem own_sl12 (z : Int32) : (z <<< ((12 : Int32) &&& 31)).toBitVec = z.toBitVec <<< 12 := own_shlB z 12 (by decide)
theorem own_sl6 (z : Int32) : (z <<< ((6 : Int32) &&& 31)).toBitVec = z.toBitVec <<< 6 := own_shlB z 6 (by decide)
theorem own_sl16 (z : Int32) : (z <<< ((16 : Int32) &&& 31)).toBitVec = z.toBitVec <<< 16 := own_shlB z 16 (by decide)
theorem own_sl8 (z : Int32) : (z <<< ((8 : Int32) &&& 31)).toBitVec = z.toBitVec <<< 8 := own_shlB z 8 (by decide)
theorem own_sl0 (z : Int32) : (z <<< ((0 : Int32) &&& 31)).toBitVec = z.toBitVec <<< 0 := own_shlB z 0 (by decide)
theorem own_us18 (z : Int32) : (XT.ushr z (18 : Int32)).toBitVec = z.toBitVec >>> 18 := own_ushrB z 18 (by decide)
theorem own_us12 (z : Int32) : (XT.ushr z (12 : Int32)).toBitVec = z.toBitVec >>> 12 := own_ushrB z 12 (by decide)
theorem own_us6 (z : Int32) : (XT.ushr z (6 : Int32)).toBitVec = z.toBitVec >>> 6 := own_ushrB z 6 (by decide)
theorem own_sr16 (z : Int32) : (z >>> ((16 : Int32) &&& 31)).toBitVec = z.toBitVec.sshiftRight 16 := own_shrB z 16 (by decide)
theorem own_sr8 (z : Int32) : (z >>> ((8 : Int32) &&& 31)).toBitVec = z.toBitVec.sshiftRight 8 := own_shrB z 8 (by decide)
theorem own_cb (n : Nat) : ((OfNat.ofNat n : Int32)).toBitVec = BitVec.ofNat 32 n := rfl
set_option maxRecDepth 65536 in
theorem own_o3B0 (y0 y1 y2 : Int32) : (((((((XT.ushr ((((y0 &&& (255 : Int32)) <<< ((16 : Int32) &&& 31)) ||| ((y1 &&& (255 : Int32)) <<< ((8 : Int32) &&& 31))) ||| (y2 &&& (255 : Int32))) (18 : Int32)) &&& (63 : Int32)) <<< ((18 : Int32) &&& 31)) ||| (((XT.ushr ((((y0 &&& (255 : Int32)) <<< ((16 : Int32) &&& 31)) ||| ((y1 &&& (255 : Int32)) <<< ((8 : Int32) &&& 31))) ||| (y2 &&& (255 : Int32))) (12 : Int32)) &&& (63 : Int32)) <<< ((12 : Int32) &&& 31))) ||| (((XT.ushr ((((y0 &&& (255 : Int32)) <<< ((16 : Int32) &&& 31)) ||| ((y1 &&& (255 : Int32)) <<< ((8 : Int32) &&& 31))) ||| (y2 &&& (255 : Int32))) (6 : Int32)) &&& (63 : Int32)) <<< ((6 : Int32) &&& 31))) ||| (((((y0 &&& (255 : Int32)) <<< ((16 : Int32) &&& 31)) ||| ((y1 &&& (255 : Int32)) <<< ((8 : Int32) &&& 31))) ||| (y2 &&& (255 : Int32))) &&& (63 : Int32))) >>> ((16 : Int32) &&& 31)).toInt8.toInt32 = (y0 &&& (255 : Int32)).toInt8.toInt32 := by
  congr 1; apply own_low8; intro i hi
  simp only [own_sl18, own_sl12, own_sl6, own_sl16, own_sl8, own_sl0, own_us18, own_us12, own_us6, own_sr16, own_sr8, Int32.toBitVec_or, Int32.toBitVec_and]
  rcases (by omega : i = 0 ∨ i = 1 ∨ i = 2 ∨ i = 3 ∨ i = 4 ∨ i = 5 ∨ i = 6 ∨ i = 7) with rfl | rfl | rfl | rfl | rfl | rfl | rfl | rfl <;> simp only [BitVec.getLsbD_sshiftRight, BitVec.getLsbD_or, BitVec.getLsbD_and, BitVec.getLsbD_shiftLeft, BitVec.getLsbD_ushiftRight, own_cb] <;> simp
set_option maxRecDepth 65536 in
theorem own_o3B1 (y0 y1 y2 : Int32) : (((((((XT.ushr ((((y0 &&& (255 : Int32)) <<< ((16 : Int32) &&& 31)) ||| ((y1 &&& (255 : Int32)) <<< ((8 : Int32) &&& 31))) ||| (y2 &&& (255 : Int32))) (18 : Int32)) &&& (63 : Int32)) <<< ((18 : Int32) &&& 31)) ||| (((XT.ushr ((((y0 &&& (255 : Int32)) <<< ((16 : Int32) &&& 31)) ||| ((y1 &&& (255 : Int32)) <<< ((8 : Int32) &&& 31))) ||| (y2 &&& (255 : Int32))) (12 : Int32)) &&& (63 : Int32)) <<< ((12 : Int32) &&& 31))) ||| (((XT.ushr ((((y0 &&& (255 : Int32)) <<< ((16 : Int32) &&& 31)) ||| ((y1 &&& (255 : Int32)) <<< ((8 : Int32) &&& 31))) ||| (y2 &&& (255 : Int32))) (6 : Int32)) &&& (63 : Int32)) <<< ((6 : Int32) &&& 31))) ||| (((((y0 &&& (255 : Int32)) <<< ((16 : Int32) &&& 31)) ||| ((y1 &&& (255 : Int32)) <<< ((8 : Int32) &&& 31))) ||| (y2 &&& (255 : Int32))) &&& (63 : Int32))) >>> ((8 : Int32) &&& 31)).toInt8.toInt32 = (y1 &&& (255 : Int32)).toInt8.toInt32 := by
  congr 1; apply own_low8; intro i hi
  simp only [own_sl18, own_sl12, own_sl6, own_sl16, own_sl8, own_sl0, own_us18, own_us12, own_us6, own_sr16, own_sr8, Int32.toBitVec_or, Int32.toBitVec_and]
  rcases (by omega : i = 0 ∨ i = 1 ∨ i = 2 ∨ i = 3 ∨ i = 4 ∨ i = 5 ∨ i = 6 ∨ i = 7) with rfl | rfl | rfl | rfl | rfl | rfl | rfl | rfl <;> simp only [BitVec.getLsbD_sshiftRight, BitVec.getLsbD_or, BitVec.getLsbD_and, BitVec.getLsbD_shiftLeft, BitVec.getLsbD_ushiftRight, own_cb] <;> simp
set_option maxRecDepth 65536 in
theorem own_o3B2 (y0 y1 y2 : Int32) : ((((((XT.ushr ((((y0 &&& (255 : Int32)) <<< ((16 : Int32) &&& 31)) ||| ((y1 &&& (255 : Int32)) <<< ((8 : Int32) &&& 31))) ||| (y2 &&& (255 : Int32))) (18 : Int32)) &&& (63 : Int32)) <<< ((18 : Int32) &&& 31)) ||| (((XT.ushr ((((y0 &&& (255 : Int32)) <<< ((16 : Int32) &&& 31)) ||| ((y1 &&& (255 : Int32)) <<< ((8 : Int32) &&& 31))) ||| (y2 &&& (255 : Int32))) (12 : Int32)) &&& (63 : Int32)) <<< ((12 : Int32) &&& 31))) ||| (((XT.ushr ((((y0 &&& (255 : Int32)) <<< ((16 : Int32) &&& 31)) ||| ((y1 &&& (255 : Int32)) <<< ((8 : Int32) &&& 31))) ||| (y2 &&& (255 : Int32))) (6 : Int32)) &&& (63 : Int32)) <<< ((6 : Int32) &&& 31))) ||| (((((y0 &&& (255 : Int32)) <<< ((16 : Int32) &&& 31)) ||| ((y1 &&& (255 : Int32)) <<< ((8 : Int32) &&& 31))) ||| (y2 &&& (255 : Int32))) &&& (63 : Int32))).toInt8.toInt32 = (y2 &&& (255 : Int32)).toInt8.toInt32 := by
  congr 1; apply own_low8; intro i hi
  simp only [own_sl18, own_sl12, own_sl6, own_sl16, own_sl8, own_sl0, own_us18, own_us12, own_us6, own_sr16, own_sr8, Int32.toBitVec_or, Int32.toBitVec_and]
  rcases (by omega : i = 0 ∨ i = 1 ∨ i = 2 ∨ i = 3 ∨ i = 4 ∨ i = 5 ∨ i = 6 ∨ i = 7) with rfl | rfl | rfl | rfl | rfl | rfl | rfl | rfl <;> simp only [BitVec.getLsbD_sshiftRight, BitVec.getLsbD_or, BitVec.getLsbD_and, BitVec.getLsbD_shiftLeft, BitVec.getLsbD_ushiftRight, own_cb] <;> simp
set_option maxRecDepth 65536 in
theorem own_o1_0 (y0 y1 y2 : Int32) : ((((0 : Int32) ||| (((XT.ushr ((((y0 &&& (255 : Int32)) <<< ((16 : Int32) &&& 31)) ||| (0 : Int32)) ||| (0 : Int32)) (18 : Int32)) &&& (63 : Int32)) <<< ((18 : Int32) &&& 31))) ||| (((XT.ushr ((((y0 &&& (255 : Int32)) <<< ((16 : Int32) &&& 31)) ||| (0 : Int32)) ||| (0 : Int32)) (12 : Int32)) &&& (63 : Int32)) <<< ((12 : Int32) &&& 31))) >>> ((16 : Int32) &&& 31)).toInt8.toInt32 = (y0 &&& (255 : Int32)).toInt8.toInt32 := by
  congr 1; apply own_low8; intro i hi
  simp only [own_sl18, own_sl12, own_sl6, own_sl16, own_sl8, own_sl0, own_us18, own_us12, own_us6, own_sr16, own_sr8, Int32.toBitVec_or, Int32.toBitVec_and]
  rcases (by omega : i = 0 ∨ i = 1 ∨ i = 2 ∨ i = 3 ∨ i = 4 ∨ i = 5 ∨ i = 6 ∨ i = 7) with rfl | rfl | rfl | rfl | rfl | rfl | rfl | rfl <;> simp only [BitVec.getLsbD_sshiftRight, BitVec.getLsbD_or, BitVec.getLsbD_and, BitVec.getLsbD_shiftLeft, BitVec.getLsbD_ushiftRight, own_cb] <;> simp
set_option maxRecDepth 65536 in
theorem own_o2_0 (y0 y1 y2 : Int32) : (((((0 : Int32) ||| (((XT.ushr ((((y0 &&& (255 : Int32)) <<< ((16 : Int32) &&& 31)) ||| ((y1 &&& (255 : Int32)) <<< ((8 : Int32) &&& 31))) ||| (0 : Int32)) (18 : Int32)) &&& (63 : Int32)) <<< ((18 : Int32) &&& 31))) ||| (((XT.ushr ((((y0 &&& (255 : Int32)) <<< ((16 : Int32) &&& 31)) ||| ((y1 &&& (255 : Int32)) <<< ((8 : Int32) &&& 31))) ||| (0 : Int32)) (12 : Int32)) &&& (63 : Int32)) <<< ((12 : Int32) &&& 31))) ||| (((XT.ushr ((((y0 &&& (255 : Int32)) <<< ((16 : Int32) &&& 31)) ||| ((y1 &&& (255 : Int32)) <<< ((8 : Int32) &&& 31))) ||| (0 : Int32)) (6 : Int32)) &&& (63 : Int32)) <<< ((6 : Int32) &&& 31))) >>> ((16 : Int32) &&& 31)).toInt8.toInt32 = (y0 &&& (255 : Int32)).toInt8.toInt32 := by
  congr 1; apply own_low8; intro i hi
  simp only [own_sl18, own_sl12, own_sl6, own_sl16, own_sl8, own_sl0, own_us18, own_us12, own_us6, own_sr16, own_sr8, Int32.toBitVec_or, Int32.toBitVec_and]
  rcases (by omega : i = 0 ∨ i = 1 ∨ i = 2 ∨ i = 3 ∨ i = 4 ∨ i = 5 ∨ i = 6 ∨ i = 7) with rfl | rfl | rfl | rfl | rfl | rfl | rfl | rfl <;> simp only [BitVec.getLsbD_sshiftRight, BitVec.getLsbD_or, BitVec.getLsbD_and, BitVec.getLsbD_shiftLeft, BitVec.getLsbD_ushiftRight, own_cb] <;> simp
set_option maxRecDepth 65536 in
theorem own_o2_1 (y0 y1 y2 : Int32) : (((((0 : Int32) ||| (((XT.ushr ((((y0 &&& (255 : Int32)) <<< ((16 : Int32) &&& 31)) ||| ((y1 &&& (255 : Int32)) <<< ((8 : Int32) &&& 31))) ||| (0 : Int32)) (18 : Int32)) &&& (63 : Int32)) <<< ((18 : Int32) &&& 31))) ||| (((XT.ushr ((((y0 &&& (255 : Int32)) <<< ((16 : Int32) &&& 31)) ||| ((y1 &&& (255 : Int32)) <<< ((8 : Int32) &&& 31))) ||| (0 : Int32)) (12 : Int32)) &&& (63 : Int32)) <<< ((12 : Int32) &&& 31))) ||| (((XT.ushr ((((y0 &&& (255 : Int32)) <<< ((16 : Int32) &&& 31)) ||| ((y1 &&& (255 : Int32)) <<< ((8 : Int32) &&& 31))) ||| (0 : Int32)) (6 : Int32)) &&& (63 : Int32)) <<< ((6 : Int32) &&& 31))) >>> ((8 : Int32) &&& 31)).toInt8.toInt32 = (y1 &&& (255 : Int32)).toInt8.toInt32 := by
  congr 1; apply own_low8; intro i hi
  simp only [own_sl18, own_sl12, own_sl6, own_sl16, own_sl8, own_sl0, own_us18, own_us12, own_us6, own_sr16, own_sr8, Int32.toBitVec_or, Int32.toBitVec_and]
  rcases (by omega : i = 0 ∨ i = 1 ∨ i = 2 ∨ i = 3 ∨ i = 4 ∨ i = 5 ∨ i = 6 ∨ i = 7) with rfl | rfl | rfl | rfl | rfl | rfl | rfl | rfl <;> simp only [BitVec.getLsbD_sshiftRight, BitVec.getLsbD_or, BitVec.getLsbD_and, BitVec.getLsbD_shiftLeft, BitVec.getLsbD_ushiftRight, own_cb] <;> simp
set_option maxRecDepth 65536 in
theorem own_o3_0 (y0 y1 y2 : Int32) : ((((((0 : Int32) ||| (((XT.ushr ((((y0 &&& (255 : Int32)) <<< ((16 : Int32) &&& 31)) ||| ((y1 &&& (255 : Int32)) <<< ((8 : Int32) &&& 31))) ||| (y2 &&& (255 : Int32))) (18 : Int32)) &&& (63 : Int32)) <<< ((18 : Int32) &&& 31))) ||| (((XT.ushr ((((y0 &&& (255 : Int32)) <<< ((16 : Int32) &&& 31)) ||| ((y1 &&& (255 : Int32)) <<< ((8 : Int32) &&& 31))) ||| (y2 &&& (255 : Int32))) (12 : Int32)) &&& (63 : Int32)) <<< ((12 : Int32) &&& 31))) ||| (((XT.ushr ((((y0 &&& (255 : Int32)) <<< ((16 : Int32) &&& 31)) ||| ((y1 &&& (255 : Int32)) <<< ((8 : Int32) &&& 31))) ||| (y2 &&& (255 : Int32))) (6 : Int32)) &&& (63 : Int32)) <<< ((6 : Int32) &&& 31))) ||| ((((((y0 &&& (255 : Int32)) <<< ((16 : Int32) &&& 31)) ||| ((y1 &&& (255 : Int32)) <<< ((8 : Int32) &&& 31))) ||| (y2 &&& (255 : Int32))) &&& (63 : Int32)) <<< ((0 : Int32) &&& 31))) >>> ((16 : Int32) &&& 31)).toInt8.toInt32 = (y0 &&& (255 : Int32)).toInt8.toInt32 := by
  congr 1; apply own_low8; intro i hi
  simp only [own_sl18, own_sl12, own_sl6, own_sl16, own_sl8, own_sl0, own_us18, own_us12, own_us6, own_sr16, own_sr8, Int32.toBitVec_or, Int32.toBitVec_and]
  rcases (by omega : i = 0 ∨ i = 1 ∨ i = 2 ∨ i = 3 ∨ i = 4 ∨ i = 5 ∨ i = 6 ∨ i = 7) with rfl | rfl | rfl | rfl | rfl | rfl | rfl | rfl <;> simp only [BitVec.getLsbD_sshiftRight, BitVec.getLsbD_or, BitVec.getLsbD_and, BitVec.getLsbD_shiftLeft, BitVec.getLsbD_ushiftRight, own_cb] <;> simp
set_option maxRecDepth 65536 in
theorem own_o3_1 (y0 y1 y2 : Int32) : ((((((0 : Int32) ||| (((XT.ushr ((((y0 &&& (255 : Int32)) <<< ((16 : Int32) &&& 31)) ||| ((y1 &&& (255 : Int32)) <<< ((8 : Int32) &&& 31))) ||| (y2 &&& (255 : Int32))) (18 : Int32)) &&& (63 : Int32)) <<< ((18 : Int32) &&& 31))) ||| (((XT.ushr ((((y0 &&& (255 : Int32)) <<< ((16 : Int32) &&& 31)) ||| ((y1 &&& (255 : Int32)) <<< ((8 : Int32) &&& 31))) ||| (y2 &&& (255 : Int32))) (12 : Int32)) &&& (63 : Int32)) <<< ((12 : Int32) &&& 31))) ||| (((XT.ushr ((((y0 &&& (255 : Int32)) <<< ((16 : Int32) &&& 31)) ||| ((y1 &&& (255 : Int32)) <<< ((8 : Int32) &&& 31))) ||| (y2 &&& (255 : Int32))) (6 : Int32)) &&& (63 : Int32)) <<< ((6 : Int32) &&& 31))) ||| ((((((y0 &&& (255 : Int32)) <<< ((16 : Int32) &&& 31)) ||| ((y1 &&& (255 : Int32)) <<< ((8 : Int32) &&& 31))) ||| (y2 &&& (255 : Int32))) &&& (63 : Int32)) <<< ((0 : Int32) &&& 31))) >>> ((8 : Int32) &&& 31)).toInt8.toInt32 = (y1 &&& (255 : Int32)).toInt8.toInt32 := by
  congr 1; apply own_low8; intro i hi
  simp only [own_sl18, own_sl12, own_sl6, own_sl16, own_sl8, own_sl0, own_us18, own_us12, own_us6, own_sr16, own_sr8, Int32.toBitVec_or, Int32.toBitVec_and]
  rcases (by omega : i = 0 ∨ i = 1 ∨ i = 2 ∨ i = 3 ∨ i = 4 ∨ i = 5 ∨ i = 6 ∨ i = 7) with rfl | rfl | rfl | rfl | rfl | rfl | rfl | rfl <;> simp only [BitVec.getLsbD_sshiftRight, BitVec.getLsbD_or, BitVec.getLsbD_and, BitVec.getLsbD_shiftLeft, BitVec.getLsbD_ushiftRight, own_cb] <;> simp
set_option maxRecDepth 65536 in
theorem own_o3_2 (y0 y1 y2 : Int32) : (((((0 : Int32) ||| (((XT.ushr ((((y0 &&& (255 : Int32)) <<< ((16 : Int32) &&& 31)) ||| ((y1 &&& (255 : Int32)) <<< ((8 : Int32) &&& 31))) ||| (y2 &&& (255 : Int32))) (18 : Int32)) &&& (63 : Int32)) <<< ((18 : Int32) &&& 31))) ||| (((XT.ushr ((((y0 &&& (255 : Int32)) <<< ((16 : Int32) &&& 31)) ||| ((y1 &&& (255 : Int32)) <<< ((8 : Int32) &&& 31))) ||| (y2 &&& (255 : Int32))) (12 : Int32)) &&& (63 : Int32)) <<< ((12 : Int32) &&& 31))) ||| (((XT.ushr ((((y0 &&& (255 : Int32)) <<< ((16 : Int32) &&& 31)) ||| ((y1 &&& (255 : Int32)) <<< ((8 : Int32) &&& 31))) ||| (y2 &&& (255 : Int32))) (6 : Int32)) &&& (63 : Int32)) <<< ((6 : Int32) &&& 31))) ||| ((((((y0 &&& (255 : Int32)) <<< ((16 : Int32) &&& 31)) ||| ((y1 &&& (255 : Int32)) <<< ((8 : Int32) &&& 31))) ||| (y2 &&& (255 : Int32))) &&& (63 : Int32)) <<< ((0 : Int32) &&& 31))).toInt8.toInt32 = (y2 &&& (255 : Int32)).toInt8.toInt32 := by
  congr 1; apply own_low8; intro i hi
  simp only [own_sl18, own_sl12, own_sl6, own_sl16, own_sl8, own_sl0, own_us18, own_us12, own_us6, own_sr16, own_sr8, Int32.toBitVec_or, Int32.toBitVec_and]
  rcases (by omega : i = 0 ∨ i = 1 ∨ i = 2 ∨ i = 3 ∨ i = 4 ∨ i = 5 ∨ i = 6 ∨ i = 7) with rfl | rfl | rfl | rfl | rfl | rfl | rfl | rfl <;> simp only [BitVec.getLsbD_sshiftRight, BitVec.getLsbD_or, BitVec.getLsbD_and, BitVec.getLsbD_shiftLeft, BitVec.getLsbD_ushiftRight, own_cb] <;> simp
def own_tab : List Int32 := [-1, -1, -1, -1, -1, -1, -1, -1, -1, -1, -1, -1, -1, -1, -1, -1, -1, -1, -1, -1, -1, -1, -1, -1, -1, -1, -1, -1, -1, -1, -1, -1, -1, -1, -1, -1, -1, -1, -1, -1, -1, -1, -1, 62, -1, -1, -1, 63, 52, 53, 54, 55, 56, 57, 58, 59, 60, 61, -1, -1, -1, -2, -1, -1, -1, 0, 1, 2, 3, 4, 5, 6, 7, 8, 9, 10, 11, 12, 13, 14, 15, 16, 17, 18, 19, 20, 21, 22, 23, 24, 25, -1, -1, -1, -1, -1, -1, 26, 27, 28, 29, 30, 31, 32, 33, 34, 35, 36, 37, 38, 39, 40, 41, 42, 43, 44, 45, 46, 47, 48, 49, 50, 51, -1, -1, -1, -1, -1, -1, -1, -1, -1, -1, -1, -1, -1, -1, -1, -1, -1, -1, -1, -1, -1, -1, -1, -1, -1, -1, -1, -1, -1, -1, -1, -1, -1, -1, -1, -1, -1, -1, -1, -1, -1, -1, -1, -1, -1, -1, -1, -1, -1, -1, -1, -1, -1, -1, -1, -1, -1, -1, -1, -1, -1, -1, -1, -1, -1, -1, -1, -1, -1, -1, -1, -1, -1, -1, -1, -1, -1, -1, -1, -1, -1, -1, -1, -1, -1, -1, -1, -1, -1, -1, -1, -1, -1, -1, -1, -1, -1, -1, -1, -1, -1, -1, -1, -1, -1, -1, -1, -1, -1, -1, -1, -1, -1, -1, -1, -1, -1, -1, -1, -1, -1, -1, -1, -1, -1, -1, -1, -1, -1, -1, -1, -1, -1]
def own_sym (v : Int32) : Int32 := if v < 26 then nar .char ((65 + v).toUInt32.toUInt16.toUInt32.toInt32) else if v < 52 then nar .char ((97 + (v - 26)).toUInt32.toUInt16.toUInt32.toInt32) else if v < 62 then nar .char ((48 + (v - 52)).toUInt32.toUInt16.toUInt32.toInt32) else if v = 62 then 43 else 47

/-- the byte that the sign of v comes to in the String -/
def own_chr64 (v : Int32) : Int32 := own_lo (nar .char (own_sym v))
def Dig (d v : Int32) : Prop := ∃ i, d &&& (255 : Int32) = Int32.ofNat i ∧ own_tab[i]? = some v
theorem own_and63 (x : Int32) : ∃ k : Fin 64, (x &&& (63 : Int32)) = Int32.ofNat k.val := by
  have h : (x &&& 63).toBitVec.toNat < 64 := by
    simp only [Int32.toBitVec_and, BitVec.toNat_and]
    exact Nat.lt_succ_of_le Nat.and_le_right
  refine ⟨⟨_, h⟩, ?_⟩
  apply Int32.toBitVec_inj.mp
  show _ = BitVec.ofNat 32 _
  rw [BitVec.ofNat_toNat]; simp
theorem own_dig (x : Int32) : Dig (own_chr64 (x &&& (63 : Int32))) (x &&& (63 : Int32)) := by
  obtain ⟨k, e⟩ := own_and63 x
  rw [e]
  have t : ∀ k : Fin 64, own_chr64 (Int32.ofNat k.val) &&& (255 : Int32) = Int32.ofNat (own_chr64 (Int32.ofNat k.val) &&& (255 : Int32)).toNatClampNeg ∧ own_tab[(own_chr64 (Int32.ofNat k.val) &&& (255 : Int32)).toNatClampNeg]? = some (Int32.ofNat k.val) := by decide +kernel
  exact ⟨_, t k⟩
theorem own_dnn (x : Int32) : ¬ (x &&& (63 : Int32)) < 0 := by
  obtain ⟨k, e⟩ := own_and63 x
  rw [e]
  have t : ∀ k : Fin 64, ¬ Int32.ofNat k.val < 0 := by decide +kernel
  exact t k
theorem own_d61 (x : Int32) : ¬ own_chr64 (x &&& (63 : Int32)) = 61 := by
  obtain ⟨k, e⟩ := own_and63 x
  rw [e]
  have t : ∀ k : Fin 64, ¬ own_chr64 (Int32.ofNat k.val) = 61 := by decide +kernel
  exact t k
theorem own_crng (x : Int32) : ¬ nar .char (own_sym (x &&& (63 : Int32))) < 0 ∧ ¬ (255 : Int32) < nar .char (own_sym (x &&& (63 : Int32))) := by
  obtain ⟨k, e⟩ := own_and63 x
  rw [e]
  have t : ∀ k : Fin 64, ¬ nar .char (own_sym (Int32.ofNat k.val)) < 0 ∧ ¬ (255 : Int32) < nar .char (own_sym (Int32.ofNat k.val)) := by decide +kernel
  exact t k
theorem own_or_neg (x y : Int32) : (x ||| y) < 0 ↔ x < 0 ∨ y < 0 := by
  have h : ∀ z : Int32, z < 0 ↔ z.toBitVec.msb = true := fun z => by
    rw [XT.negI32]
    have q : z.toInt = z.toBitVec.toInt := rfl
    rw [q, BitVec.msb_eq_toInt]; simp
  rw [h, h, h, Int32.toBitVec_or, BitVec.msb_or]; simp
theorem dsy_0 : decode method_2_code 0 = .ok (.iload_n 0, 1) := by decide +kernel
theorem dsy_1 : decode method_2_code 1 = .ok (.bipush 26, 2) := by decide +kernel
theorem dsy_3 : decode method_2_code 3 = .ok (.if_icmp .ge 9, 3) := by decide +kernel
theorem dsy_6 : decode method_2_code 6 = .ok (.bipush 65, 2) := by decide +kernel
theorem dsy_8 : decode method_2_code 8 = .ok (.iload_n 0, 1) := by decide +kernel
theorem dsy_9 : decode method_2_code 9 = .ok (.iadd, 1) := by decide +kernel
theorem dsy_10 : decode method_2_code 10 = .ok (.i2c, 1) := by decide +kernel
theorem dsy_11 : decode method_2_code 11 = .ok (.ireturn, 1) := by decide +kernel
theorem dsy_12 : decode method_2_code 12 = .ok (.iload_n 0, 1) := by decide +kernel
theorem dsy_13 : decode method_2_code 13 = .ok (.bipush 52, 2) := by decide +kernel
theorem dsy_15 : decode method_2_code 15 = .ok (.if_icmp .ge 12, 3) := by decide +kernel
theorem dsy_18 : decode method_2_code 18 = .ok (.bipush 97, 2) := by decide +kernel
theorem dsy_20 : decode method_2_code 20 = .ok (.iload_n 0, 1) := by decide +kernel
theorem dsy_21 : decode method_2_code 21 = .ok (.bipush 26, 2) := by decide +kernel
theorem dsy_23 : decode method_2_code 23 = .ok (.isub, 1) := by decide +kernel
theorem dsy_24 : decode method_2_code 24 = .ok (.iadd, 1) := by decide +kernel
theorem dsy_25 : decode method_2_code 25 = .ok (.i2c, 1) := by decide +kernel
theorem dsy_26 : decode method_2_code 26 = .ok (.ireturn, 1) := by decide +kernel
theorem dsy_27 : decode method_2_code 27 = .ok (.iload_n 0, 1) := by decide +kernel
theorem dsy_28 : decode method_2_code 28 = .ok (.bipush 62, 2) := by decide +kernel
theorem dsy_30 : decode method_2_code 30 = .ok (.if_icmp .ge 12, 3) := by decide +kernel
theorem dsy_33 : decode method_2_code 33 = .ok (.bipush 48, 2) := by decide +kernel
theorem dsy_35 : decode method_2_code 35 = .ok (.iload_n 0, 1) := by decide +kernel
theorem dsy_36 : decode method_2_code 36 = .ok (.bipush 52, 2) := by decide +kernel
theorem dsy_38 : decode method_2_code 38 = .ok (.isub, 1) := by decide +kernel
theorem dsy_39 : decode method_2_code 39 = .ok (.iadd, 1) := by decide +kernel
theorem dsy_40 : decode method_2_code 40 = .ok (.i2c, 1) := by decide +kernel
theorem dsy_41 : decode method_2_code 41 = .ok (.ireturn, 1) := by decide +kernel
theorem dsy_42 : decode method_2_code 42 = .ok (.iload_n 0, 1) := by decide +kernel
theorem dsy_43 : decode method_2_code 43 = .ok (.bipush 62, 2) := by decide +kernel
theorem dsy_45 : decode method_2_code 45 = .ok (.if_icmp .ne 6, 3) := by decide +kernel
theorem dsy_48 : decode method_2_code 48 = .ok (.bipush 43, 2) := by decide +kernel
theorem dsy_50 : decode method_2_code 50 = .ok (.ireturn, 1) := by decide +kernel
theorem dsy_51 : decode method_2_code 51 = .ok (.bipush 47, 2) := by decide +kernel
theorem dsy_53 : decode method_2_code 53 = .ok (.ireturn, 1) := by decide +kernel
set_option maxRecDepth 65536 in
set_option maxHeartbeats 40000000 in
theorem rmSY (l : Launch) (Z : State) (a0 : Array Value) (hw : ∀ d ∈ tables_1, d.before a0 Z = true) (v : Int32) (h0 : Heap) (n0 : Nat) :
    Ctr l Z (⟨"com/example/poste_restante/posterestante/BlockBytesPinLaw", "sym", "(I)C"⟩ : MethodName) method_2_code 1 (some .char) [] ({ frames := 0, cells := 0, slots := 0, locals := 0 } : Room) #[(.int v)] h0 (QP (own_sym v) h0 n0) := by
  refine Ctr.of (plainFor_of_name pn_12) ?_
  intro p e s m below meth c s₁ hx hby hml hown hnm hret hlk hZ X0 e0
  refine Go.cast (ef_11 m v) ?_
  show Go p e below _ s₁ (mkF m 0 #[sI v] [])
  refine g_iloadN X0 hx 1 (hb hby dsy_0) rfl rfl ?_
  refine g_bipush X0 hx 3 (hb hby dsy_1) rfl kb_26 ?_
  rcases Classical.em (v < 26) with q0 | q0
  · skip
    refine g_icN X0 hx 6 (hb hby dsy_3) rfl (XT.ii_ge_f q0) ?_
    refine g_bipush X0 hx 8 (hb hby dsy_6) rfl kb_65 ?_
    refine g_iloadN X0 hx 9 (hb hby dsy_8) rfl rfl ?_
    refine g_iadd X0 hx 10 (hb hby dsy_9) rfl rfl ?_
    refine g_i2c X0 hx 11 (hb hby dsy_10) rfl ?_
    exact Go.retB X0 hx hret hlk (Or.inr (Or.inr (Or.inl rfl))) (hb hby dsy_11) ⟨by unfold own_sym; rw [if_pos q0], Fr.nil n0, e0⟩ (Nat.le_refl _) (Nat.le_refl _)
  · skip
    refine g_icY X0 hx 12 (hb hby dsy_3) (by decide) (XT.ii_ge_t q0) ?_
    refine g_iloadN X0 hx 13 (hb hby dsy_12) rfl rfl ?_
    refine g_bipush X0 hx 15 (hb hby dsy_13) rfl kb_52 ?_
    rcases Classical.em (v < 52) with q1 | q1
    · skip
      refine g_icN X0 hx 18 (hb hby dsy_15) rfl (XT.ii_ge_f q1) ?_
      refine g_bipush X0 hx 20 (hb hby dsy_18) rfl kb_97 ?_
      refine g_iloadN X0 hx 21 (hb hby dsy_20) rfl rfl ?_
      refine g_bipush X0 hx 23 (hb hby dsy_21) rfl kb_26 ?_
      refine g_isub X0 hx 24 (hb hby dsy_23) rfl rfl ?_
      refine g_iadd X0 hx 25 (hb hby dsy_24) rfl rfl ?_
      refine g_i2c X0 hx 26 (hb hby dsy_25) rfl ?_
      exact Go.retB X0 hx hret hlk (Or.inr (Or.inr (Or.inl rfl))) (hb hby dsy_26) ⟨by unfold own_sym; rw [if_neg q0, if_pos q1], Fr.nil n0, e0⟩ (Nat.le_refl _) (Nat.le_refl _)
    · skip
      refine g_icY X0 hx 27 (hb hby dsy_15) (by decide) (XT.ii_ge_t q1) ?_
      refine g_iloadN X0 hx 28 (hb hby dsy_27) rfl rfl ?_
      refine g_bipush X0 hx 30 (hb hby dsy_28) rfl kb_62 ?_
      rcases Classical.em (v < 62) with q2 | q2
      · skip
        refine g_icN X0 hx 33 (hb hby dsy_30) rfl (XT.ii_ge_f q2) ?_
        refine g_bipush X0 hx 35 (hb hby dsy_33) rfl kb_48 ?_
        refine g_iloadN X0 hx 36 (hb hby dsy_35) rfl rfl ?_
        refine g_bipush X0 hx 38 (hb hby dsy_36) rfl kb_52 ?_
        refine g_isub X0 hx 39 (hb hby dsy_38) rfl rfl ?_
        refine g_iadd X0 hx 40 (hb hby dsy_39) rfl rfl ?_
        refine g_i2c X0 hx 41 (hb hby dsy_40) rfl ?_
        exact Go.retB X0 hx hret hlk (Or.inr (Or.inr (Or.inl rfl))) (hb hby dsy_41) ⟨by unfold own_sym; rw [if_neg q0, if_neg q1, if_pos q2], Fr.nil n0, e0⟩ (Nat.le_refl _) (Nat.le_refl _)
      · skip
        refine g_icY X0 hx 42 (hb hby dsy_30) (by decide) (XT.ii_ge_t q2) ?_
        refine g_iloadN X0 hx 43 (hb hby dsy_42) rfl rfl ?_
        refine g_bipush X0 hx 45 (hb hby dsy_43) rfl kb_62 ?_
        rcases Classical.em (v = 62) with q3 | q3
        · skip
          refine g_icN X0 hx 48 (hb hby dsy_45) rfl (XT.ii_ne_f q3) ?_
          refine g_bipush X0 hx 50 (hb hby dsy_48) rfl kb_43 ?_
          exact Go.retB X0 hx hret hlk (Or.inr (Or.inr (Or.inl rfl))) (hb hby dsy_50) ⟨by unfold own_sym; rw [if_neg q0, if_neg q1, if_neg q2, if_pos q3]; rfl, Fr.nil n0, e0⟩ (Nat.le_refl _) (Nat.le_refl _)
        · skip
          refine g_icY X0 hx 51 (hb hby dsy_45) (by decide) (XT.ii_ne_t q3) ?_
          refine g_bipush X0 hx 53 (hb hby dsy_51) rfl kb_47 ?_
          exact Go.retB X0 hx hret hlk (Or.inr (Or.inr (Or.inl rfl))) (hb hby dsy_53) ⟨by unfold own_sym; rw [if_neg q0, if_neg q1, if_neg q2, if_neg q3]; rfl, Fr.nil n0, e0⟩ (Nat.le_refl _) (Nat.le_refl _)
def QG (Z : State) (a : Addr) (xs : List Int32) (h0 : Heap) (n0 : Nat) (v : Option Value) (h : Heap) (L : List Loc) : Prop := v = none ∧ Fr n0 L ∧ Keep h0 h [a] ∧ AI Z h a .char xs
theorem dgr_0 : decode method_3_code 0 = .ok (.iload_n 2, 1) := by decide +kernel
theorem dgr_1 : decode method_3_code 1 = .ok (.bipush 16, 2) := by decide +kernel
theorem dgr_3 : decode method_3_code 3 = .ok (.ishl, 1) := by decide +kernel
theorem dgr_4 : decode method_3_code 4 = .ok (.iload 5, 2) := by decide +kernel
theorem dgr_6 : decode method_3_code 6 = .ok (.iconst 2, 1) := by decide +kernel
theorem dgr_7 : decode method_3_code 7 = .ok (.if_icmp .lt 10, 3) := by decide +kernel
theorem dgr_17 : decode method_3_code 17 = .ok (.iconst 0, 1) := by decide +kernel
theorem dgr_18 : decode method_3_code 18 = .ok (.ior, 1) := by decide +kernel
theorem dgr_19 : decode method_3_code 19 = .ok (.iload 5, 2) := by decide +kernel
theorem dgr_21 : decode method_3_code 21 = .ok (.iconst 3, 1) := by decide +kernel
theorem dgr_22 : decode method_3_code 22 = .ok (.if_icmp .lt 8, 3) := by decide +kernel
theorem dgr_30 : decode method_3_code 30 = .ok (.iconst 0, 1) := by decide +kernel
theorem dgr_31 : decode method_3_code 31 = .ok (.ior, 1) := by decide +kernel
theorem dgr_32 : decode method_3_code 32 = .ok (.istore 6, 2) := by decide +kernel
theorem dgr_34 : decode method_3_code 34 = .ok (.aload_n 0, 1) := by decide +kernel
theorem dgr_35 : decode method_3_code 35 = .ok (.iload_n 1, 1) := by decide +kernel
theorem dgr_36 : decode method_3_code 36 = .ok (.iload 6, 2) := by decide +kernel
theorem dgr_38 : decode method_3_code 38 = .ok (.bipush 18, 2) := by decide +kernel
theorem dgr_40 : decode method_3_code 40 = .ok (.iushr, 1) := by decide +kernel
theorem dgr_41 : decode method_3_code 41 = .ok (.bipush 63, 2) := by decide +kernel
theorem dgr_43 : decode method_3_code 43 = .ok (.iand, 1) := by decide +kernel
theorem dgr_44 : decode method_3_code 44 = .ok (.invokestatic 7, 3) := by decide +kernel
theorem dgr_47 : decode method_3_code 47 = .ok (.castore, 1) := by decide +kernel
theorem dgr_48 : decode method_3_code 48 = .ok (.aload_n 0, 1) := by decide +kernel
theorem dgr_49 : decode method_3_code 49 = .ok (.iload_n 1, 1) := by decide +kernel
theorem dgr_50 : decode method_3_code 50 = .ok (.iconst 1, 1) := by decide +kernel
theorem dgr_51 : decode method_3_code 51 = .ok (.iadd, 1) := by decide +kernel
theorem dgr_52 : decode method_3_code 52 = .ok (.iload 6, 2) := by decide +kernel
theorem dgr_54 : decode method_3_code 54 = .ok (.bipush 12, 2) := by decide +kernel
theorem dgr_56 : decode method_3_code 56 = .ok (.iushr, 1) := by decide +kernel
theorem dgr_57 : decode method_3_code 57 = .ok (.bipush 63, 2) := by decide +kernel
theorem dgr_59 : decode method_3_code 59 = .ok (.iand, 1) := by decide +kernel
theorem dgr_60 : decode method_3_code 60 = .ok (.invokestatic 7, 3) := by decide +kernel
theorem dgr_63 : decode method_3_code 63 = .ok (.castore, 1) := by decide +kernel
theorem dgr_64 : decode method_3_code 64 = .ok (.aload_n 0, 1) := by decide +kernel
theorem dgr_65 : decode method_3_code 65 = .ok (.iload_n 1, 1) := by decide +kernel
theorem dgr_66 : decode method_3_code 66 = .ok (.iconst 2, 1) := by decide +kernel
theorem dgr_67 : decode method_3_code 67 = .ok (.iadd, 1) := by decide +kernel
theorem dgr_68 : decode method_3_code 68 = .ok (.iload 5, 2) := by decide +kernel
theorem dgr_70 : decode method_3_code 70 = .ok (.iconst 2, 1) := by decide +kernel
theorem dgr_71 : decode method_3_code 71 = .ok (.if_icmp .lt 17, 3) := by decide +kernel
theorem dgr_88 : decode method_3_code 88 = .ok (.bipush 61, 2) := by decide +kernel
theorem dgr_90 : decode method_3_code 90 = .ok (.castore, 1) := by decide +kernel
theorem dgr_91 : decode method_3_code 91 = .ok (.aload_n 0, 1) := by decide +kernel
theorem dgr_92 : decode method_3_code 92 = .ok (.iload_n 1, 1) := by decide +kernel
theorem dgr_93 : decode method_3_code 93 = .ok (.iconst 3, 1) := by decide +kernel
theorem dgr_94 : decode method_3_code 94 = .ok (.iadd, 1) := by decide +kernel
theorem dgr_95 : decode method_3_code 95 = .ok (.iload 5, 2) := by decide +kernel
theorem dgr_97 : decode method_3_code 97 = .ok (.iconst 3, 1) := by decide +kernel
theorem dgr_98 : decode method_3_code 98 = .ok (.if_icmp .lt 14, 3) := by decide +kernel
theorem dgr_112 : decode method_3_code 112 = .ok (.bipush 61, 2) := by decide +kernel
theorem dgr_114 : decode method_3_code 114 = .ok (.castore, 1) := by decide +kernel
theorem dgr_115 : decode method_3_code 115 = .ok (.return_, 1) := by decide +kernel
set_option maxRecDepth 65536 in
set_option maxHeartbeats 40000000 in
theorem rmG_0_1 (l : Launch) (Z : State) (a0 : Array Value) (hw : ∀ d ∈ tables_1, d.before a0 Z = true) (a : Addr) (b0 b1 b2 : Int32) (cs : List Int32) (hl : 4 ≤ cs.length) (h0 : Heap) (n0 : Nat) (hna : n0 ≤ a) (A : AI Z h0 a .char cs) :
    Ctr l Z (⟨"com/example/poste_restante/posterestante/BlockBytesPinLaw", "group", "([CIIIII)V"⟩ : MethodName) method_3_code 7 none [] ({ frames := 1, cells := 0, slots := 0, locals := 14 } : Room) #[(.ref a), (.int (0 : Int32)), (.int b0), (.int b1), (.int b2), (.int (1 : Int32))] h0 (QG Z a ((((cs.set 0 (nar .char (own_sym ((XT.ushr (((b0 <<< ((16 : Int32) &&& 31)) ||| (0 : Int32)) ||| (0 : Int32)) (18 : Int32)) &&& (63 : Int32))))).set 1 (nar .char (own_sym ((XT.ushr (((b0 <<< ((16 : Int32) &&& 31)) ||| (0 : Int32)) ||| (0 : Int32)) (12 : Int32)) &&& (63 : Int32))))).set 2 (nar .char (61 : Int32))).set 3 (nar .char (61 : Int32))) h0 n0) := by
  refine Ctr.of (plainFor_of_name pn_12) ?_
  intro p e s m below meth c s₁ hx hby hml hown hnm hret hlk hZ X0 e0
  refine Go.cast (ef_13 m a (0 : Int32) b0 b1 b2 (1 : Int32)) ?_
  show Go p e below _ s₁ (mkF m 0 #[sR a, sI 0, sI b0, sI b1, sI b2, sI 1, .unset] [])
  refine g_iloadN X0 hx 1 (hb hby dgr_0) rfl rfl ?_
  refine g_bipush X0 hx 3 (hb hby dgr_1) rfl kb_16 ?_
  refine g_ishl X0 hx 4 (hb hby dgr_3) rfl rfl ?_
  refine g_iload X0 hx 6 (hb hby dgr_4) rfl rfl ?_
  refine g_iconst X0 hx 7 (hb hby dgr_6) rfl ki_2 ?_
  refine g_icY X0 hx 17 (hb hby dgr_7) (by decide) (XT.ii_lt_t (by decide)) ?_
  refine g_iconst X0 hx 18 (hb hby dgr_17) rfl ki_0 ?_
  refine g_ior X0 hx 19 (hb hby dgr_18) rfl rfl ?_
  refine g_iload X0 hx 21 (hb hby dgr_19) rfl rfl ?_
  refine g_iconst X0 hx 22 (hb hby dgr_21) rfl ki_3 ?_
  refine g_icY X0 hx 30 (hb hby dgr_22) (by decide) (XT.ii_lt_t (by decide)) ?_
  refine g_iconst X0 hx 31 (hb hby dgr_30) rfl ki_0 ?_
  refine g_ior X0 hx 32 (hb hby dgr_31) rfl rfl ?_
  refine g_istore X0 hx #[sR a, sI 0, sI b0, sI b1, sI b2, sI 1, (sI (((b0 <<< ((16 : Int32) &&& 31)) ||| (0 : Int32)) ||| (0 : Int32)))] 34 (hb hby dgr_32) rfl rfl ?_
  refine g_aloadN X0 hx 35 (hb hby dgr_34) rfl rfl ?_
  refine g_iloadN X0 hx 36 (hb hby dgr_35) rfl rfl ?_
  refine g_iload X0 hx 38 (hb hby dgr_36) rfl rfl ?_
  refine g_bipush X0 hx 40 (hb hby dgr_38) rfl kb_18 ?_
  refine g_iushr X0 hx 41 (hb hby dgr_40) rfl rfl ?_
  refine g_bipush X0 hx 43 (hb hby dgr_41) rfl kb_63 ?_
  refine g_iand X0 hx 44 (hb hby dgr_43) rfl rfl ?_
  refine Go.callS X0 hx (y := (⟨"com/example/poste_restante/posterestante/BlockBytesPinLaw", "sym", "(I)C"⟩ : MethodName)) hown (mvT hZ (hW hw 7 rfl)) (mvT hZ (hW hw 8 rfl)) (mvT hZ (hW hw 5 rfl)) (mvT hZ (hW hw 9 rfl)) (by decide) (Ctr.back (W := 2) (rmSY l Z a0 hw ((XT.ushr (((b0 <<< ((16 : Int32) &&& 31)) ||| (0 : Int32)) ||| (0 : Int32)) (18 : Int32)) &&& (63 : Int32)) h0 n0) hZ (hW hw 9 rfl) (hW hw 5 rfl) (by decide) (by decide)) e0 (g := (mkF m 44 #[sR a, sI 0, sI b0, sI b1, sI b2, sI 1, (sI (((b0 <<< ((16 : Int32) &&& 31)) ||| (0 : Int32)) ||| (0 : Int32)))] [(vI ((XT.ushr (((b0 <<< ((16 : Int32) &&& 31)) ||| (0 : Int32)) ||| (0 : Int32)) (18 : Int32)) &&& (63 : Int32))), vI 0, vR a])) rfl (by rw [hml]; rfl) (argsL := [(vI ((XT.ushr (((b0 <<< ((16 : Int32) &&& 31)) ||| (0 : Int32)) ||| (0 : Int32)) (18 : Int32)) &&& (63 : Int32)))]) (rest := [vI 0, vR a]) (lenOf pd_14 rfl) rfl (by show 2 * 0 + _ ≤ _; exact Nat.le_of_eq rfl) (hb hby dgr_44) rfl (by decide) (by decide) ?_
  rintro _ T1 L1 X1 ⟨rfl, N1, e1⟩
  show Go p e below _ T1 (mkF m 47 #[sR a, sI 0, sI b0, sI b1, sI b2, sI 1, (sI (((b0 <<< ((16 : Int32) &&& 31)) ||| (0 : Int32)) ||| (0 : Int32)))] [(vI (own_sym ((XT.ushr (((b0 <<< ((16 : Int32) &&& 31)) ||| (0 : Int32)) ||| (0 : Int32)) (18 : Int32)) &&& (63 : Int32)))), vI 0, vR a])
  refine g_castore X1 hx hZ e1 A 0 rfl (by first | omega | (simp only [List.length_set]; omega)) 48 (hb hby dgr_47) rfl ?_
  rintro T2 h2 X2 e2 W2 A2
  have sW2 := W2.size
  refine g_aloadN X2 hx 49 (hb hby dgr_48) rfl rfl ?_
  refine g_iloadN X2 hx 50 (hb hby dgr_49) rfl rfl ?_
  refine g_iconst X2 hx 51 (hb hby dgr_50) rfl ki_1 ?_
  refine g_iadd X2 hx 52 (hb hby dgr_51) rfl (by decide : (0 : Int32) + (1 : Int32) = (1 : Int32)) ?_
  refine g_iload X2 hx 54 (hb hby dgr_52) rfl rfl ?_
  refine g_bipush X2 hx 56 (hb hby dgr_54) rfl kb_12 ?_
  refine g_iushr X2 hx 57 (hb hby dgr_56) rfl rfl ?_
  refine g_bipush X2 hx 59 (hb hby dgr_57) rfl kb_63 ?_
  refine g_iand X2 hx 60 (hb hby dgr_59) rfl rfl ?_
  refine Go.callS X2 hx (y := (⟨"com/example/poste_restante/posterestante/BlockBytesPinLaw", "sym", "(I)C"⟩ : MethodName)) hown (mvT hZ (hW hw 7 rfl)) (mvT hZ (hW hw 8 rfl)) (mvT hZ (hW hw 5 rfl)) (mvT hZ (hW hw 9 rfl)) (by decide) (Ctr.back (W := 2) (rmSY l Z a0 hw ((XT.ushr (((b0 <<< ((16 : Int32) &&& 31)) ||| (0 : Int32)) ||| (0 : Int32)) (12 : Int32)) &&& (63 : Int32)) h2 n0) hZ (hW hw 9 rfl) (hW hw 5 rfl) (by decide) (by decide)) e2 (g := (mkF m 60 #[sR a, sI 0, sI b0, sI b1, sI b2, sI 1, (sI (((b0 <<< ((16 : Int32) &&& 31)) ||| (0 : Int32)) ||| (0 : Int32)))] [(vI ((XT.ushr (((b0 <<< ((16 : Int32) &&& 31)) ||| (0 : Int32)) ||| (0 : Int32)) (12 : Int32)) &&& (63 : Int32))), vI 1, vR a])) rfl (by rw [hml]; rfl) (argsL := [(vI ((XT.ushr (((b0 <<< ((16 : Int32) &&& 31)) ||| (0 : Int32)) ||| (0 : Int32)) (12 : Int32)) &&& (63 : Int32)))]) (rest := [vI 1, vR a]) (lenOf pd_14 rfl) rfl (by show 2 * 0 + _ ≤ _; exact Nat.le_of_eq rfl) (hb hby dgr_60) rfl (by decide) (by decide) ?_
  rintro _ T3 L3 X3 ⟨rfl, N3, e3⟩
  show Go p e below _ T3 (mkF m 63 #[sR a, sI 0, sI b0, sI b1, sI b2, sI 1, (sI (((b0 <<< ((16 : Int32) &&& 31)) ||| (0 : Int32)) ||| (0 : Int32)))] [(vI (own_sym ((XT.ushr (((b0 <<< ((16 : Int32) &&& 31)) ||| (0 : Int32)) ||| (0 : Int32)) (12 : Int32)) &&& (63 : Int32)))), vI 1, vR a])
  refine g_castore X3 hx hZ e3 A2 1 rfl (by first | omega | (simp only [List.length_set]; omega)) 64 (hb hby dgr_63) rfl ?_
  rintro T4 h4 X4 e4 W4 A4
  have sW4 := W4.size
  refine g_aloadN X4 hx 65 (hb hby dgr_64) rfl rfl ?_
  refine g_iloadN X4 hx 66 (hb hby dgr_65) rfl rfl ?_
  refine g_iconst X4 hx 67 (hb hby dgr_66) rfl ki_2 ?_
  refine g_iadd X4 hx 68 (hb hby dgr_67) rfl (by decide : (0 : Int32) + (2 : Int32) = (2 : Int32)) ?_
  refine g_iload X4 hx 70 (hb hby dgr_68) rfl rfl ?_
  refine g_iconst X4 hx 71 (hb hby dgr_70) rfl ki_2 ?_
  refine g_icY X4 hx 88 (hb hby dgr_71) (by decide) (XT.ii_lt_t (by decide)) ?_
  refine g_bipush X4 hx 90 (hb hby dgr_88) rfl kb_61 ?_
  refine g_castore X4 hx hZ e4 A4 2 rfl (by first | omega | (simp only [List.length_set]; omega)) 91 (hb hby dgr_90) rfl ?_
  rintro T5 h5 X5 e5 W5 A5
  have sW5 := W5.size
  refine g_aloadN X5 hx 92 (hb hby dgr_91) rfl rfl ?_
  refine g_iloadN X5 hx 93 (hb hby dgr_92) rfl rfl ?_
  refine g_iconst X5 hx 94 (hb hby dgr_93) rfl ki_3 ?_
  refine g_iadd X5 hx 95 (hb hby dgr_94) rfl (by decide : (0 : Int32) + (3 : Int32) = (3 : Int32)) ?_
  refine g_iload X5 hx 97 (hb hby dgr_95) rfl rfl ?_
  refine g_iconst X5 hx 98 (hb hby dgr_97) rfl ki_3 ?_
  refine g_icY X5 hx 112 (hb hby dgr_98) (by decide) (XT.ii_lt_t (by decide)) ?_
  refine g_bipush X5 hx 114 (hb hby dgr_112) rfl kb_61 ?_
  refine g_castore X5 hx hZ e5 A5 3 rfl (by first | omega | (simp only [List.length_set]; omega)) 115 (hb hby dgr_114) rfl ?_
  rintro T6 h6 X6 e6 W6 A6
  have sW6 := W6.size
  have K9 : Keep h0 h6 [a] := (((((Keep.refl h0 [a]).wr W2 (Or.inl (List.mem_cons_self ..))).wr W4 (Or.inl (List.mem_cons_self ..))).wr W5 (Or.inl (List.mem_cons_self ..))).wr W6 (Or.inl (List.mem_cons_self ..)))
  exact Go.ret0 X6 hx hret hlk (hb hby dgr_115) ⟨rfl, (Fr.snoc X6 (Fr.snoc X5 (Fr.snoc X4 (Fr.app (Fr.snoc X2 (Fr.app (Fr.nil n0) N1) hna) N3) hna) hna) hna), e6 ▸ K9, e6 ▸ A6⟩ (by decide) (by decide)
theorem dgr_10 : decode method_3_code 10 = .ok (.iload_n 3, 1) := by decide +kernel
theorem dgr_11 : decode method_3_code 11 = .ok (.bipush 8, 2) := by decide +kernel
theorem dgr_13 : decode method_3_code 13 = .ok (.ishl, 1) := by decide +kernel
theorem dgr_14 : decode method_3_code 14 = .ok (.goto 4, 3) := by decide +kernel
theorem dgr_74 : decode method_3_code 74 = .ok (.iload 6, 2) := by decide +kernel
theorem dgr_76 : decode method_3_code 76 = .ok (.bipush 6, 2) := by decide +kernel
theorem dgr_78 : decode method_3_code 78 = .ok (.iushr, 1) := by decide +kernel
theorem dgr_79 : decode method_3_code 79 = .ok (.bipush 63, 2) := by decide +kernel
theorem dgr_81 : decode method_3_code 81 = .ok (.iand, 1) := by decide +kernel
theorem dgr_82 : decode method_3_code 82 = .ok (.invokestatic 7, 3) := by decide +kernel
theorem dgr_85 : decode method_3_code 85 = .ok (.goto 5, 3) := by decide +kernel
set_option maxRecDepth 65536 in
set_option maxHeartbeats 40000000 in
theorem rmG_0_2 (l : Launch) (Z : State) (a0 : Array Value) (hw : ∀ d ∈ tables_1, d.before a0 Z = true) (a : Addr) (b0 b1 b2 : Int32) (cs : List Int32) (hl : 4 ≤ cs.length) (h0 : Heap) (n0 : Nat) (hna : n0 ≤ a) (A : AI Z h0 a .char cs) :
    Ctr l Z (⟨"com/example/poste_restante/posterestante/BlockBytesPinLaw", "group", "([CIIIII)V"⟩ : MethodName) method_3_code 7 none [] ({ frames := 1, cells := 0, slots := 0, locals := 14 } : Room) #[(.ref a), (.int (0 : Int32)), (.int b0), (.int b1), (.int b2), (.int (2 : Int32))] h0 (QG Z a ((((cs.set 0 (nar .char (own_sym ((XT.ushr (((b0 <<< ((16 : Int32) &&& 31)) ||| (b1 <<< ((8 : Int32) &&& 31))) ||| (0 : Int32)) (18 : Int32)) &&& (63 : Int32))))).set 1 (nar .char (own_sym ((XT.ushr (((b0 <<< ((16 : Int32) &&& 31)) ||| (b1 <<< ((8 : Int32) &&& 31))) ||| (0 : Int32)) (12 : Int32)) &&& (63 : Int32))))).set 2 (nar .char (own_sym ((XT.ushr (((b0 <<< ((16 : Int32) &&& 31)) ||| (b1 <<< ((8 : Int32) &&& 31))) ||| (0 : Int32)) (6 : Int32)) &&& (63 : Int32))))).set 3 (nar .char (61 : Int32))) h0 n0) := by
  refine Ctr.of (plainFor_of_name pn_12) ?_
  intro p e s m below meth c s₁ hx hby hml hown hnm hret hlk hZ X0 e0
  refine Go.cast (ef_13 m a (0 : Int32) b0 b1 b2 (2 : Int32)) ?_
  show Go p e below _ s₁ (mkF m 0 #[sR a, sI 0, sI b0, sI b1, sI b2, sI 2, .unset] [])
  refine g_iloadN X0 hx 1 (hb hby dgr_0) rfl rfl ?_
  refine g_bipush X0 hx 3 (hb hby dgr_1) rfl kb_16 ?_
  refine g_ishl X0 hx 4 (hb hby dgr_3) rfl rfl ?_
  refine g_iload X0 hx 6 (hb hby dgr_4) rfl rfl ?_
  refine g_iconst X0 hx 7 (hb hby dgr_6) rfl ki_2 ?_
  refine g_icN X0 hx 10 (hb hby dgr_7) rfl (XT.ii_lt_f (by decide)) ?_
  refine g_iloadN X0 hx 11 (hb hby dgr_10) rfl rfl ?_
  refine g_bipush X0 hx 13 (hb hby dgr_11) rfl kb_8 ?_
  refine g_ishl X0 hx 14 (hb hby dgr_13) rfl rfl ?_
  refine g_goto X0 hx 18 (hb hby dgr_14) (by decide) ?_
  refine g_ior X0 hx 19 (hb hby dgr_18) rfl rfl ?_
  refine g_iload X0 hx 21 (hb hby dgr_19) rfl rfl ?_
  refine g_iconst X0 hx 22 (hb hby dgr_21) rfl ki_3 ?_
  refine g_icY X0 hx 30 (hb hby dgr_22) (by decide) (XT.ii_lt_t (by decide)) ?_
  refine g_iconst X0 hx 31 (hb hby dgr_30) rfl ki_0 ?_
  refine g_ior X0 hx 32 (hb hby dgr_31) rfl rfl ?_
  refine g_istore X0 hx #[sR a, sI 0, sI b0, sI b1, sI b2, sI 2, (sI (((b0 <<< ((16 : Int32) &&& 31)) ||| (b1 <<< ((8 : Int32) &&& 31))) ||| (0 : Int32)))] 34 (hb hby dgr_32) rfl rfl ?_
  refine g_aloadN X0 hx 35 (hb hby dgr_34) rfl rfl ?_
  refine g_iloadN X0 hx 36 (hb hby dgr_35) rfl rfl ?_
  refine g_iload X0 hx 38 (hb hby dgr_36) rfl rfl ?_
  refine g_bipush X0 hx 40 (hb hby dgr_38) rfl kb_18 ?_
  refine g_iushr X0 hx 41 (hb hby dgr_40) rfl rfl ?_
  refine g_bipush X0 hx 43 (hb hby dgr_41) rfl kb_63 ?_
  refine g_iand X0 hx 44 (hb hby dgr_43) rfl rfl ?_
  refine Go.callS X0 hx (y := (⟨"com/example/poste_restante/posterestante/BlockBytesPinLaw", "sym", "(I)C"⟩ : MethodName)) hown (mvT hZ (hW hw 7 rfl)) (mvT hZ (hW hw 8 rfl)) (mvT hZ (hW hw 5 rfl)) (mvT hZ (hW hw 9 rfl)) (by decide) (Ctr.back (W := 2) (rmSY l Z a0 hw ((XT.ushr (((b0 <<< ((16 : Int32) &&& 31)) ||| (b1 <<< ((8 : Int32) &&& 31))) ||| (0 : Int32)) (18 : Int32)) &&& (63 : Int32)) h0 n0) hZ (hW hw 9 rfl) (hW hw 5 rfl) (by decide) (by decide)) e0 (g := (mkF m 44 #[sR a, sI 0, sI b0, sI b1, sI b2, sI 2, (sI (((b0 <<< ((16 : Int32) &&& 31)) ||| (b1 <<< ((8 : Int32) &&& 31))) ||| (0 : Int32)))] [(vI ((XT.ushr (((b0 <<< ((16 : Int32) &&& 31)) ||| (b1 <<< ((8 : Int32) &&& 31))) ||| (0 : Int32)) (18 : Int32)) &&& (63 : Int32))), vI 0, vR a])) rfl (by rw [hml]; rfl) (argsL := [(vI ((XT.ushr (((b0 <<< ((16 : Int32) &&& 31)) ||| (b1 <<< ((8 : Int32) &&& 31))) ||| (0 : Int32)) (18 : Int32)) &&& (63 : Int32)))]) (rest := [vI 0, vR a]) (lenOf pd_14 rfl) rfl (by show 2 * 0 + _ ≤ _; exact Nat.le_of_eq rfl) (hb hby dgr_44) rfl (by decide) (by decide) ?_
  rintro _ T1 L1 X1 ⟨rfl, N1, e1⟩
  show Go p e below _ T1 (mkF m 47 #[sR a, sI 0, sI b0, sI b1, sI b2, sI 2, (sI (((b0 <<< ((16 : Int32) &&& 31)) ||| (b1 <<< ((8 : Int32) &&& 31))) ||| (0 : Int32)))] [(vI (own_sym ((XT.ushr (((b0 <<< ((16 : Int32) &&& 31)) ||| (b1 <<< ((8 : Int32) &&& 31))) ||| (0 : Int32)) (18 : Int32)) &&& (63 : Int32)))), vI 0, vR a])
  refine g_castore X1 hx hZ e1 A 0 rfl (by first | omega | (simp only [List.length_set]; omega)) 48 (hb hby dgr_47) rfl ?_
  rintro T2 h2 X2 e2 W2 A2
  have sW2 := W2.size
  refine g_aloadN X2 hx 49 (hb hby dgr_48) rfl rfl ?_
  refine g_iloadN X2 hx 50 (hb hby dgr_49) rfl rfl ?_
  refine g_iconst X2 hx 51 (hb hby dgr_50) rfl ki_1 ?_
  refine g_iadd X2 hx 52 (hb hby dgr_51) rfl (by decide : (0 : Int32) + (1 : Int32) = (1 : Int32)) ?_
  refine g_iload X2 hx 54 (hb hby dgr_52) rfl rfl ?_
  refine g_bipush X2 hx 56 (hb hby dgr_54) rfl kb_12 ?_
  refine g_iushr X2 hx 57 (hb hby dgr_56) rfl rfl ?_
  refine g_bipush X2 hx 59 (hb hby dgr_57) rfl kb_63 ?_
  refine g_iand X2 hx 60 (hb hby dgr_59) rfl rfl ?_
  refine Go.callS X2 hx (y := (⟨"com/example/poste_restante/posterestante/BlockBytesPinLaw", "sym", "(I)C"⟩ : MethodName)) hown (mvT hZ (hW hw 7 rfl)) (mvT hZ (hW hw 8 rfl)) (mvT hZ (hW hw 5 rfl)) (mvT hZ (hW hw 9 rfl)) (by decide) (Ctr.back (W := 2) (rmSY l Z a0 hw ((XT.ushr (((b0 <<< ((16 : Int32) &&& 31)) ||| (b1 <<< ((8 : Int32) &&& 31))) ||| (0 : Int32)) (12 : Int32)) &&& (63 : Int32)) h2 n0) hZ (hW hw 9 rfl) (hW hw 5 rfl) (by decide) (by decide)) e2 (g := (mkF m 60 #[sR a, sI 0, sI b0, sI b1, sI b2, sI 2, (sI (((b0 <<< ((16 : Int32) &&& 31)) ||| (b1 <<< ((8 : Int32) &&& 31))) ||| (0 : Int32)))] [(vI ((XT.ushr (((b0 <<< ((16 : Int32) &&& 31)) ||| (b1 <<< ((8 : Int32) &&& 31))) ||| (0 : Int32)) (12 : Int32)) &&& (63 : Int32))), vI 1, vR a])) rfl (by rw [hml]; rfl) (argsL := [(vI ((XT.ushr (((b0 <<< ((16 : Int32) &&& 31)) ||| (b1 <<< ((8 : Int32) &&& 31))) ||| (0 : Int32)) (12 : Int32)) &&& (63 : Int32)))]) (rest := [vI 1, vR a]) (lenOf pd_14 rfl) rfl (by show 2 * 0 + _ ≤ _; exact Nat.le_of_eq rfl) (hb hby dgr_60) rfl (by decide) (by decide) ?_
  rintro _ T3 L3 X3 ⟨rfl, N3, e3⟩
  show Go p e below _ T3 (mkF m 63 #[sR a, sI 0, sI b0, sI b1, sI b2, sI 2, (sI (((b0 <<< ((16 : Int32) &&& 31)) ||| (b1 <<< ((8 : Int32) &&& 31))) ||| (0 : Int32)))] [(vI (own_sym ((XT.ushr (((b0 <<< ((16 : Int32) &&& 31)) ||| (b1 <<< ((8 : Int32) &&& 31))) ||| (0 : Int32)) (12 : Int32)) &&& (63 : Int32)))), vI 1, vR a])
  refine g_castore X3 hx hZ e3 A2 1 rfl (by first | omega | (simp only [List.length_set]; omega)) 64 (hb hby dgr_63) rfl ?_
  rintro T4 h4 X4 e4 W4 A4
  have sW4 := W4.size
  refine g_aloadN X4 hx 65 (hb hby dgr_64) rfl rfl ?_
  refine g_iloadN X4 hx 66 (hb hby dgr_65) rfl rfl ?_
  refine g_iconst X4 hx 67 (hb hby dgr_66) rfl ki_2 ?_
  refine g_iadd X4 hx 68 (hb hby dgr_67) rfl (by decide : (0 : Int32) + (2 : Int32) = (2 : Int32)) ?_
  refine g_iload X4 hx 70 (hb hby dgr_68) rfl rfl ?_
  refine g_iconst X4 hx 71 (hb hby dgr_70) rfl ki_2 ?_
  refine g_icN X4 hx 74 (hb hby dgr_71) rfl (XT.ii_lt_f (by decide)) ?_
  refine g_iload X4 hx 76 (hb hby dgr_74) rfl rfl ?_
  refine g_bipush X4 hx 78 (hb hby dgr_76) rfl kb_6 ?_
  refine g_iushr X4 hx 79 (hb hby dgr_78) rfl rfl ?_
  refine g_bipush X4 hx 81 (hb hby dgr_79) rfl kb_63 ?_
  refine g_iand X4 hx 82 (hb hby dgr_81) rfl rfl ?_
  refine Go.callS X4 hx (y := (⟨"com/example/poste_restante/posterestante/BlockBytesPinLaw", "sym", "(I)C"⟩ : MethodName)) hown (mvT hZ (hW hw 7 rfl)) (mvT hZ (hW hw 8 rfl)) (mvT hZ (hW hw 5 rfl)) (mvT hZ (hW hw 9 rfl)) (by decide) (Ctr.back (W := 2) (rmSY l Z a0 hw ((XT.ushr (((b0 <<< ((16 : Int32) &&& 31)) ||| (b1 <<< ((8 : Int32) &&& 31))) ||| (0 : Int32)) (6 : Int32)) &&& (63 : Int32)) h4 n0) hZ (hW hw 9 rfl) (hW hw 5 rfl) (by decide) (by decide)) e4 (g := (mkF m 82 #[sR a, sI 0, sI b0, sI b1, sI b2, sI 2, (sI (((b0 <<< ((16 : Int32) &&& 31)) ||| (b1 <<< ((8 : Int32) &&& 31))) ||| (0 : Int32)))] [(vI ((XT.ushr (((b0 <<< ((16 : Int32) &&& 31)) ||| (b1 <<< ((8 : Int32) &&& 31))) ||| (0 : Int32)) (6 : Int32)) &&& (63 : Int32))), vI 2, vR a])) rfl (by rw [hml]; rfl) (argsL := [(vI ((XT.ushr (((b0 <<< ((16 : Int32) &&& 31)) ||| (b1 <<< ((8 : Int32) &&& 31))) ||| (0 : Int32)) (6 : Int32)) &&& (63 : Int32)))]) (rest := [vI 2, vR a]) (lenOf pd_14 rfl) rfl (by show 2 * 0 + _ ≤ _; exact Nat.le_of_eq rfl) (hb hby dgr_82) rfl (by decide) (by decide) ?_
  rintro _ T5 L5 X5 ⟨rfl, N5, e5⟩
  show Go p e below _ T5 (mkF m 85 #[sR a, sI 0, sI b0, sI b1, sI b2, sI 2, (sI (((b0 <<< ((16 : Int32) &&& 31)) ||| (b1 <<< ((8 : Int32) &&& 31))) ||| (0 : Int32)))] [(vI (own_sym ((XT.ushr (((b0 <<< ((16 : Int32) &&& 31)) ||| (b1 <<< ((8 : Int32) &&& 31))) ||| (0 : Int32)) (6 : Int32)) &&& (63 : Int32)))), vI 2, vR a])
  refine g_goto X5 hx 90 (hb hby dgr_85) (by decide) ?_
  refine g_castore X5 hx hZ e5 A4 2 rfl (by first | omega | (simp only [List.length_set]; omega)) 91 (hb hby dgr_90) rfl ?_
  rintro T6 h6 X6 e6 W6 A6
  have sW6 := W6.size
  refine g_aloadN X6 hx 92 (hb hby dgr_91) rfl rfl ?_
  refine g_iloadN X6 hx 93 (hb hby dgr_92) rfl rfl ?_
  refine g_iconst X6 hx 94 (hb hby dgr_93) rfl ki_3 ?_
  refine g_iadd X6 hx 95 (hb hby dgr_94) rfl (by decide : (0 : Int32) + (3 : Int32) = (3 : Int32)) ?_
  refine g_iload X6 hx 97 (hb hby dgr_95) rfl rfl ?_
  refine g_iconst X6 hx 98 (hb hby dgr_97) rfl ki_3 ?_
  refine g_icY X6 hx 112 (hb hby dgr_98) (by decide) (XT.ii_lt_t (by decide)) ?_
  refine g_bipush X6 hx 114 (hb hby dgr_112) rfl kb_61 ?_
  refine g_castore X6 hx hZ e6 A6 3 rfl (by first | omega | (simp only [List.length_set]; omega)) 115 (hb hby dgr_114) rfl ?_
  rintro T7 h7 X7 e7 W7 A7
  have sW7 := W7.size
  have K9 : Keep h0 h7 [a] := (((((Keep.refl h0 [a]).wr W2 (Or.inl (List.mem_cons_self ..))).wr W4 (Or.inl (List.mem_cons_self ..))).wr W6 (Or.inl (List.mem_cons_self ..))).wr W7 (Or.inl (List.mem_cons_self ..)))
  exact Go.ret0 X7 hx hret hlk (hb hby dgr_115) ⟨rfl, (Fr.snoc X7 (Fr.snoc X6 (Fr.app (Fr.snoc X4 (Fr.app (Fr.snoc X2 (Fr.app (Fr.nil n0) N1) hna) N3) hna) N5) hna) hna), e7 ▸ K9, e7 ▸ A7⟩ (by decide) (by decide)
theorem dgr_25 : decode method_3_code 25 = .ok (.iload 4, 2) := by decide +kernel
theorem dgr_27 : decode method_3_code 27 = .ok (.goto 4, 3) := by decide +kernel
theorem dgr_101 : decode method_3_code 101 = .ok (.iload 6, 2) := by decide +kernel
theorem dgr_103 : decode method_3_code 103 = .ok (.bipush 63, 2) := by decide +kernel
theorem dgr_105 : decode method_3_code 105 = .ok (.iand, 1) := by decide +kernel
theorem dgr_106 : decode method_3_code 106 = .ok (.invokestatic 7, 3) := by decide +kernel
theorem dgr_109 : decode method_3_code 109 = .ok (.goto 5, 3) := by decide +kernel
set_option maxRecDepth 65536 in
set_option maxHeartbeats 40000000 in
theorem rmG_0_3 (l : Launch) (Z : State) (a0 : Array Value) (hw : ∀ d ∈ tables_1, d.before a0 Z = true) (a : Addr) (b0 b1 b2 : Int32) (cs : List Int32) (hl : 4 ≤ cs.length) (h0 : Heap) (n0 : Nat) (hna : n0 ≤ a) (A : AI Z h0 a .char cs) :
    Ctr l Z (⟨"com/example/poste_restante/posterestante/BlockBytesPinLaw", "group", "([CIIIII)V"⟩ : MethodName) method_3_code 7 none [] ({ frames := 1, cells := 0, slots := 0, locals := 14 } : Room) #[(.ref a), (.int (0 : Int32)), (.int b0), (.int b1), (.int b2), (.int (3 : Int32))] h0 (QG Z a ((((cs.set 0 (nar .char (own_sym ((XT.ushr (((b0 <<< ((16 : Int32) &&& 31)) ||| (b1 <<< ((8 : Int32) &&& 31))) ||| b2) (18 : Int32)) &&& (63 : Int32))))).set 1 (nar .char (own_sym ((XT.ushr (((b0 <<< ((16 : Int32) &&& 31)) ||| (b1 <<< ((8 : Int32) &&& 31))) ||| b2) (12 : Int32)) &&& (63 : Int32))))).set 2 (nar .char (own_sym ((XT.ushr (((b0 <<< ((16 : Int32) &&& 31)) ||| (b1 <<< ((8 : Int32) &&& 31))) ||| b2) (6 : Int32)) &&& (63 : Int32))))).set 3 (nar .char (own_sym ((((b0 <<< ((16 : Int32) &&& 31)) ||| (b1 <<< ((8 : Int32) &&& 31))) ||| b2) &&& (63 : Int32))))) h0 n0) := by
  refine Ctr.of (plainFor_of_name pn_12) ?_
  intro p e s m below meth c s₁ hx hby hml hown hnm hret hlk hZ X0 e0
  refine Go.cast (ef_13 m a (0 : Int32) b0 b1 b2 (3 : Int32)) ?_
  show Go p e below _ s₁ (mkF m 0 #[sR a, sI 0, sI b0, sI b1, sI b2, sI 3, .unset] [])
  refine g_iloadN X0 hx 1 (hb hby dgr_0) rfl rfl ?_
  refine g_bipush X0 hx 3 (hb hby dgr_1) rfl kb_16 ?_
  refine g_ishl X0 hx 4 (hb hby dgr_3) rfl rfl ?_
  refine g_iload X0 hx 6 (hb hby dgr_4) rfl rfl ?_
  refine g_iconst X0 hx 7 (hb hby dgr_6) rfl ki_2 ?_
  refine g_icN X0 hx 10 (hb hby dgr_7) rfl (XT.ii_lt_f (by decide)) ?_
  refine g_iloadN X0 hx 11 (hb hby dgr_10) rfl rfl ?_
  refine g_bipush X0 hx 13 (hb hby dgr_11) rfl kb_8 ?_
  refine g_ishl X0 hx 14 (hb hby dgr_13) rfl rfl ?_
  refine g_goto X0 hx 18 (hb hby dgr_14) (by decide) ?_
  refine g_ior X0 hx 19 (hb hby dgr_18) rfl rfl ?_
  refine g_iload X0 hx 21 (hb hby dgr_19) rfl rfl ?_
  refine g_iconst X0 hx 22 (hb hby dgr_21) rfl ki_3 ?_
  refine g_icN X0 hx 25 (hb hby dgr_22) rfl (XT.ii_lt_f (by decide)) ?_
  refine g_iload X0 hx 27 (hb hby dgr_25) rfl rfl ?_
  refine g_goto X0 hx 31 (hb hby dgr_27) (by decide) ?_
  refine g_ior X0 hx 32 (hb hby dgr_31) rfl rfl ?_
  refine g_istore X0 hx #[sR a, sI 0, sI b0, sI b1, sI b2, sI 3, (sI (((b0 <<< ((16 : Int32) &&& 31)) ||| (b1 <<< ((8 : Int32) &&& 31))) ||| b2))] 34 (hb hby dgr_32) rfl rfl ?_
  refine g_aloadN X0 hx 35 (hb hby dgr_34) rfl rfl ?_
  refine g_iloadN X0 hx 36 (hb hby dgr_35) rfl rfl ?_
  refine g_iload X0 hx 38 (hb hby dgr_36) rfl rfl ?_
  refine g_bipush X0 hx 40 (hb hby dgr_38) rfl kb_18 ?_
  refine g_iushr X0 hx 41 (hb hby dgr_40) rfl rfl ?_
  refine g_bipush X0 hx 43 (hb hby dgr_41) rfl kb_63 ?_
  refine g_iand X0 hx 44 (hb hby dgr_43) rfl rfl ?_
  refine Go.callS X0 hx (y := (⟨"com/example/poste_restante/posterestante/BlockBytesPinLaw", "sym", "(I)C"⟩ : MethodName)) hown (mvT hZ (hW hw 7 rfl)) (mvT hZ (hW hw 8 rfl)) (mvT hZ (hW hw 5 rfl)) (mvT hZ (hW hw 9 rfl)) (by decide) (Ctr.back (W := 2) (rmSY l Z a0 hw ((XT.ushr (((b0 <<< ((16 : Int32) &&& 31)) ||| (b1 <<< ((8 : Int32) &&& 31))) ||| b2) (18 : Int32)) &&& (63 : Int32)) h0 n0) hZ (hW hw 9 rfl) (hW hw 5 rfl) (by decide) (by decide)) e0 (g := (mkF m 44 #[sR a, sI 0, sI b0, sI b1, sI b2, sI 3, (sI (((b0 <<< ((16 : Int32) &&& 31)) ||| (b1 <<< ((8 : Int32) &&& 31))) ||| b2))] [(vI ((XT.ushr (((b0 <<< ((16 : Int32) &&& 31)) ||| (b1 <<< ((8 : Int32) &&& 31))) ||| b2) (18 : Int32)) &&& (63 : Int32))), vI 0, vR a])) rfl (by rw [hml]; rfl) (argsL := [(vI ((XT.ushr (((b0 <<< ((16 : Int32) &&& 31)) ||| (b1 <<< ((8 : Int32) &&& 31))) ||| b2) (18 : Int32)) &&& (63 : Int32)))]) (rest := [vI 0, vR a]) (lenOf pd_14 rfl) rfl (by show 2 * 0 + _ ≤ _; exact Nat.le_of_eq rfl) (hb hby dgr_44) rfl (by decide) (by decide) ?_
  rintro _ T1 L1 X1 ⟨rfl, N1, e1⟩
  show Go p e below _ T1 (mkF m 47 #[sR a, sI 0, sI b0, sI b1, sI b2, sI 3, (sI (((b0 <<< ((16 : Int32) &&& 31)) ||| (b1 <<< ((8 : Int32) &&& 31))) ||| b2))] [(vI (own_sym ((XT.ushr (((b0 <<< ((16 : Int32) &&& 31)) ||| (b1 <<< ((8 : Int32) &&& 31))) ||| b2) (18 : Int32)) &&& (63 : Int32)))), vI 0, vR a])
  refine g_castore X1 hx hZ e1 A 0 rfl (by first | omega | (simp only [List.length_set]; omega)) 48 (hb hby dgr_47) rfl ?_
  rintro T2 h2 X2 e2 W2 A2
  have sW2 := W2.size
  refine g_aloadN X2 hx 49 (hb hby dgr_48) rfl rfl ?_
  refine g_iloadN X2 hx 50 (hb hby dgr_49) rfl rfl ?_
  refine g_iconst X2 hx 51 (hb hby dgr_50) rfl ki_1 ?_
  refine g_iadd X2 hx 52 (hb hby dgr_51) rfl (by decide : (0 : Int32) + (1 : Int32) = (1 : Int32)) ?_
  refine g_iload X2 hx 54 (hb hby dgr_52) rfl rfl ?_
  refine g_bipush X2 hx 56 (hb hby dgr_54) rfl kb_12 ?_
  refine g_iushr X2 hx 57 (hb hby dgr_56) rfl rfl ?_
  refine g_bipush X2 hx 59 (hb hby dgr_57) rfl kb_63 ?_
  refine g_iand X2 hx 60 (hb hby dgr_59) rfl rfl ?_
  refine Go.callS X2 hx (y := (⟨"com/example/poste_restante/posterestante/BlockBytesPinLaw", "sym", "(I)C"⟩ : MethodName)) hown (mvT hZ (hW hw 7 rfl)) (mvT hZ (hW hw 8 rfl)) (mvT hZ (hW hw 5 rfl)) (mvT hZ (hW hw 9 rfl)) (by decide) (Ctr.back (W := 2) (rmSY l Z a0 hw ((XT.ushr (((b0 <<< ((16 : Int32) &&& 31)) ||| (b1 <<< ((8 : Int32) &&& 31))) ||| b2) (12 : Int32)) &&& (63 : Int32)) h2 n0) hZ (hW hw 9 rfl) (hW hw 5 rfl) (by decide) (by decide)) e2 (g := (mkF m 60 #[sR a, sI 0, sI b0, sI b1, sI b2, sI 3, (sI (((b0 <<< ((16 : Int32) &&& 31)) ||| (b1 <<< ((8 : Int32) &&& 31))) ||| b2))] [(vI ((XT.ushr (((b0 <<< ((16 : Int32) &&& 31)) ||| (b1 <<< ((8 : Int32) &&& 31))) ||| b2) (12 : Int32)) &&& (63 : Int32))), vI 1, vR a])) rfl (by rw [hml]; rfl) (argsL := [(vI ((XT.ushr (((b0 <<< ((16 : Int32) &&& 31)) ||| (b1 <<< ((8 : Int32) &&& 31))) ||| b2) (12 : Int32)) &&& (63 : Int32)))]) (rest := [vI 1, vR a]) (lenOf pd_14 rfl) rfl (by show 2 * 0 + _ ≤ _; exact Nat.le_of_eq rfl) (hb hby dgr_60) rfl (by decide) (by decide) ?_
  rintro _ T3 L3 X3 ⟨rfl, N3, e3⟩
  show Go p e below _ T3 (mkF m 63 #[sR a, sI 0, sI b0, sI b1, sI b2, sI 3, (sI (((b0 <<< ((16 : Int32) &&& 31)) ||| (b1 <<< ((8 : Int32) &&& 31))) ||| b2))] [(vI (own_sym ((XT.ushr (((b0 <<< ((16 : Int32) &&& 31)) ||| (b1 <<< ((8 : Int32) &&& 31))) ||| b2) (12 : Int32)) &&& (63 : Int32)))), vI 1, vR a])
  refine g_castore X3 hx hZ e3 A2 1 rfl (by first | omega | (simp only [List.length_set]; omega)) 64 (hb hby dgr_63) rfl ?_
  rintro T4 h4 X4 e4 W4 A4
  have sW4 := W4.size
  refine g_aloadN X4 hx 65 (hb hby dgr_64) rfl rfl ?_
  refine g_iloadN X4 hx 66 (hb hby dgr_65) rfl rfl ?_
  refine g_iconst X4 hx 67 (hb hby dgr_66) rfl ki_2 ?_
  refine g_iadd X4 hx 68 (hb hby dgr_67) rfl (by decide : (0 : Int32) + (2 : Int32) = (2 : Int32)) ?_
  refine g_iload X4 hx 70 (hb hby dgr_68) rfl rfl ?_
  refine g_iconst X4 hx 71 (hb hby dgr_70) rfl ki_2 ?_
  refine g_icN X4 hx 74 (hb hby dgr_71) rfl (XT.ii_lt_f (by decide)) ?_
  refine g_iload X4 hx 76 (hb hby dgr_74) rfl rfl ?_
  refine g_bipush X4 hx 78 (hb hby dgr_76) rfl kb_6 ?_
  refine g_iushr X4 hx 79 (hb hby dgr_78) rfl rfl ?_
  refine g_bipush X4 hx 81 (hb hby dgr_79) rfl kb_63 ?_
  refine g_iand X4 hx 82 (hb hby dgr_81) rfl rfl ?_
  refine Go.callS X4 hx (y := (⟨"com/example/poste_restante/posterestante/BlockBytesPinLaw", "sym", "(I)C"⟩ : MethodName)) hown (mvT hZ (hW hw 7 rfl)) (mvT hZ (hW hw 8 rfl)) (mvT hZ (hW hw 5 rfl)) (mvT hZ (hW hw 9 rfl)) (by decide) (Ctr.back (W := 2) (rmSY l Z a0 hw ((XT.ushr (((b0 <<< ((16 : Int32) &&& 31)) ||| (b1 <<< ((8 : Int32) &&& 31))) ||| b2) (6 : Int32)) &&& (63 : Int32)) h4 n0) hZ (hW hw 9 rfl) (hW hw 5 rfl) (by decide) (by decide)) e4 (g := (mkF m 82 #[sR a, sI 0, sI b0, sI b1, sI b2, sI 3, (sI (((b0 <<< ((16 : Int32) &&& 31)) ||| (b1 <<< ((8 : Int32) &&& 31))) ||| b2))] [(vI ((XT.ushr (((b0 <<< ((16 : Int32) &&& 31)) ||| (b1 <<< ((8 : Int32) &&& 31))) ||| b2) (6 : Int32)) &&& (63 : Int32))), vI 2, vR a])) rfl (by rw [hml]; rfl) (argsL := [(vI ((XT.ushr (((b0 <<< ((16 : Int32) &&& 31)) ||| (b1 <<< ((8 : Int32) &&& 31))) ||| b2) (6 : Int32)) &&& (63 : Int32)))]) (rest := [vI 2, vR a]) (lenOf pd_14 rfl) rfl (by show 2 * 0 + _ ≤ _; exact Nat.le_of_eq rfl) (hb hby dgr_82) rfl (by decide) (by decide) ?_
  rintro _ T5 L5 X5 ⟨rfl, N5, e5⟩
  show Go p e below _ T5 (mkF m 85 #[sR a, sI 0, sI b0, sI b1, sI b2, sI 3, (sI (((b0 <<< ((16 : Int32) &&& 31)) ||| (b1 <<< ((8 : Int32) &&& 31))) ||| b2))] [(vI (own_sym ((XT.ushr (((b0 <<< ((16 : Int32) &&& 31)) ||| (b1 <<< ((8 : Int32) &&& 31))) ||| b2) (6 : Int32)) &&& (63 : Int32)))), vI 2, vR a])
  refine g_goto X5 hx 90 (hb hby dgr_85) (by decide) ?_
  refine g_castore X5 hx hZ e5 A4 2 rfl (by first | omega | (simp only [List.length_set]; omega)) 91 (hb hby dgr_90) rfl ?_
  rintro T6 h6 X6 e6 W6 A6
  have sW6 := W6.size
  refine g_aloadN X6 hx 92 (hb hby dgr_91) rfl rfl ?_
  refine g_iloadN X6 hx 93 (hb hby dgr_92) rfl rfl ?_
  refine g_iconst X6 hx 94 (hb hby dgr_93) rfl ki_3 ?_
  refine g_iadd X6 hx 95 (hb hby dgr_94) rfl (by decide : (0 : Int32) + (3 : Int32) = (3 : Int32)) ?_
  refine g_iload X6 hx 97 (hb hby dgr_95) rfl rfl ?_
  refine g_iconst X6 hx 98 (hb hby dgr_97) rfl ki_3 ?_
  refine g_icN X6 hx 101 (hb hby dgr_98) rfl (XT.ii_lt_f (by decide)) ?_
  refine g_iload X6 hx 103 (hb hby dgr_101) rfl rfl ?_
  refine g_bipush X6 hx 105 (hb hby dgr_103) rfl kb_63 ?_
  refine g_iand X6 hx 106 (hb hby dgr_105) rfl rfl ?_
  refine Go.callS X6 hx (y := (⟨"com/example/poste_restante/posterestante/BlockBytesPinLaw", "sym", "(I)C"⟩ : MethodName)) hown (mvT hZ (hW hw 7 rfl)) (mvT hZ (hW hw 8 rfl)) (mvT hZ (hW hw 5 rfl)) (mvT hZ (hW hw 9 rfl)) (by decide) (Ctr.back (W := 2) (rmSY l Z a0 hw ((((b0 <<< ((16 : Int32) &&& 31)) ||| (b1 <<< ((8 : Int32) &&& 31))) ||| b2) &&& (63 : Int32)) h6 n0) hZ (hW hw 9 rfl) (hW hw 5 rfl) (by decide) (by decide)) e6 (g := (mkF m 106 #[sR a, sI 0, sI b0, sI b1, sI b2, sI 3, (sI (((b0 <<< ((16 : Int32) &&& 31)) ||| (b1 <<< ((8 : Int32) &&& 31))) ||| b2))] [(vI ((((b0 <<< ((16 : Int32) &&& 31)) ||| (b1 <<< ((8 : Int32) &&& 31))) ||| b2) &&& (63 : Int32))), vI 3, vR a])) rfl (by rw [hml]; rfl) (argsL := [(vI ((((b0 <<< ((16 : Int32) &&& 31)) ||| (b1 <<< ((8 : Int32) &&& 31))) ||| b2) &&& (63 : Int32)))]) (rest := [vI 3, vR a]) (lenOf pd_14 rfl) rfl (by show 2 * 0 + _ ≤ _; exact Nat.le_of_eq rfl) (hb hby dgr_106) rfl (by decide) (by decide) ?_
  rintro _ T7 L7 X7 ⟨rfl, N7, e7⟩
  show Go p e below _ T7 (mkF m 109 #[sR a, sI 0, sI b0, sI b1, sI b2, sI 3, (sI (((b0 <<< ((16 : Int32) &&& 31)) ||| (b1 <<< ((8 : Int32) &&& 31))) ||| b2))] [(vI (own_sym ((((b0 <<< ((16 : Int32) &&& 31)) ||| (b1 <<< ((8 : Int32) &&& 31))) ||| b2) &&& (63 : Int32)))), vI 3, vR a])
  refine g_goto X7 hx 114 (hb hby dgr_109) (by decide) ?_
  refine g_castore X7 hx hZ e7 A6 3 rfl (by first | omega | (simp only [List.length_set]; omega)) 115 (hb hby dgr_114) rfl ?_
  rintro T8 h8 X8 e8 W8 A8
  have sW8 := W8.size
  have K9 : Keep h0 h8 [a] := (((((Keep.refl h0 [a]).wr W2 (Or.inl (List.mem_cons_self ..))).wr W4 (Or.inl (List.mem_cons_self ..))).wr W6 (Or.inl (List.mem_cons_self ..))).wr W8 (Or.inl (List.mem_cons_self ..)))
  exact Go.ret0 X8 hx hret hlk (hb hby dgr_115) ⟨rfl, (Fr.snoc X8 (Fr.app (Fr.snoc X6 (Fr.app (Fr.snoc X4 (Fr.app (Fr.snoc X2 (Fr.app (Fr.nil n0) N1) hna) N3) hna) N5) hna) N7) hna), e8 ▸ K9, e8 ▸ A8⟩ (by decide) (by decide)
set_option maxRecDepth 65536 in
set_option maxHeartbeats 40000000 in
theorem rmG_4_1 (l : Launch) (Z : State) (a0 : Array Value) (hw : ∀ d ∈ tables_1, d.before a0 Z = true) (a : Addr) (b0 b1 b2 : Int32) (cs : List Int32) (hl : 8 ≤ cs.length) (h0 : Heap) (n0 : Nat) (hna : n0 ≤ a) (A : AI Z h0 a .char cs) :
    Ctr l Z (⟨"com/example/poste_restante/posterestante/BlockBytesPinLaw", "group", "([CIIIII)V"⟩ : MethodName) method_3_code 7 none [] ({ frames := 1, cells := 0, slots := 0, locals := 14 } : Room) #[(.ref a), (.int (4 : Int32)), (.int b0), (.int b1), (.int b2), (.int (1 : Int32))] h0 (QG Z a ((((cs.set 4 (nar .char (own_sym ((XT.ushr (((b0 <<< ((16 : Int32) &&& 31)) ||| (0 : Int32)) ||| (0 : Int32)) (18 : Int32)) &&& (63 : Int32))))).set 5 (nar .char (own_sym ((XT.ushr (((b0 <<< ((16 : Int32) &&& 31)) ||| (0 : Int32)) ||| (0 : Int32)) (12 : Int32)) &&& (63 : Int32))))).set 6 (nar .char (61 : Int32))).set 7 (nar .char (61 : Int32))) h0 n0) := by
  refine Ctr.of (plainFor_of_name pn_12) ?_
  intro p e s m below meth c s₁ hx hby hml hown hnm hret hlk hZ X0 e0
  refine Go.cast (ef_13 m a (4 : Int32) b0 b1 b2 (1 : Int32)) ?_
  show Go p e below _ s₁ (mkF m 0 #[sR a, sI 4, sI b0, sI b1, sI b2, sI 1, .unset] [])
  refine g_iloadN X0 hx 1 (hb hby dgr_0) rfl rfl ?_
  refine g_bipush X0 hx 3 (hb hby dgr_1) rfl kb_16 ?_
  refine g_ishl X0 hx 4 (hb hby dgr_3) rfl rfl ?_
  refine g_iload X0 hx 6 (hb hby dgr_4) rfl rfl ?_
  refine g_iconst X0 hx 7 (hb hby dgr_6) rfl ki_2 ?_
  refine g_icY X0 hx 17 (hb hby dgr_7) (by decide) (XT.ii_lt_t (by decide)) ?_
  refine g_iconst X0 hx 18 (hb hby dgr_17) rfl ki_0 ?_
  refine g_ior X0 hx 19 (hb hby dgr_18) rfl rfl ?_
  refine g_iload X0 hx 21 (hb hby dgr_19) rfl rfl ?_
  refine g_iconst X0 hx 22 (hb hby dgr_21) rfl ki_3 ?_
  refine g_icY X0 hx 30 (hb hby dgr_22) (by decide) (XT.ii_lt_t (by decide)) ?_
  refine g_iconst X0 hx 31 (hb hby dgr_30) rfl ki_0 ?_
  refine g_ior X0 hx 32 (hb hby dgr_31) rfl rfl ?_
  refine g_istore X0 hx #[sR a, sI 4, sI b0, sI b1, sI b2, sI 1, (sI (((b0 <<< ((16 : Int32) &&& 31)) ||| (0 : Int32)) ||| (0 : Int32)))] 34 (hb hby dgr_32) rfl rfl ?_
  refine g_aloadN X0 hx 35 (hb hby dgr_34) rfl rfl ?_
  refine g_iloadN X0 hx 36 (hb hby dgr_35) rfl rfl ?_
  refine g_iload X0 hx 38 (hb hby dgr_36) rfl rfl ?_
  refine g_bipush X0 hx 40 (hb hby dgr_38) rfl kb_18 ?_
  refine g_iushr X0 hx 41 (hb hby dgr_40) rfl rfl ?_
  refine g_bipush X0 hx 43 (hb hby dgr_41) rfl kb_63 ?_
  refine g_iand X0 hx 44 (hb hby dgr_43) rfl rfl ?_
  refine Go.callS X0 hx (y := (⟨"com/example/poste_restante/posterestante/BlockBytesPinLaw", "sym", "(I)C"⟩ : MethodName)) hown (mvT hZ (hW hw 7 rfl)) (mvT hZ (hW hw 8 rfl)) (mvT hZ (hW hw 5 rfl)) (mvT hZ (hW hw 9 rfl)) (by decide) (Ctr.back (W := 2) (rmSY l Z a0 hw ((XT.ushr (((b0 <<< ((16 : Int32) &&& 31)) ||| (0 : Int32)) ||| (0 : Int32)) (18 : Int32)) &&& (63 : Int32)) h0 n0) hZ (hW hw 9 rfl) (hW hw 5 rfl) (by decide) (by decide)) e0 (g := (mkF m 44 #[sR a, sI 4, sI b0, sI b1, sI b2, sI 1, (sI (((b0 <<< ((16 : Int32) &&& 31)) ||| (0 : Int32)) ||| (0 : Int32)))] [(vI ((XT.ushr (((b0 <<< ((16 : Int32) &&& 31)) ||| (0 : Int32)) ||| (0 : Int32)) (18 : Int32)) &&& (63 : Int32))), vI 4, vR a])) rfl (by rw [hml]; rfl) (argsL := [(vI ((XT.ushr (((b0 <<< ((16 : Int32) &&& 31)) ||| (0 : Int32)) ||| (0 : Int32)) (18 : Int32)) &&& (63 : Int32)))]) (rest := [vI 4, vR a]) (lenOf pd_14 rfl) rfl (by show 2 * 0 + _ ≤ _; exact Nat.le_of_eq rfl) (hb hby dgr_44) rfl (by decide) (by decide) ?_
  rintro _ T1 L1 X1 ⟨rfl, N1, e1⟩
  show Go p e below _ T1 (mkF m 47 #[sR a, sI 4, sI b0, sI b1, sI b2, sI 1, (sI (((b0 <<< ((16 : Int32) &&& 31)) ||| (0 : Int32)) ||| (0 : Int32)))] [(vI (own_sym ((XT.ushr (((b0 <<< ((16 : Int32) &&& 31)) ||| (0 : Int32)) ||| (0 : Int32)) (18 : Int32)) &&& (63 : Int32)))), vI 4, vR a])
  refine g_castore X1 hx hZ e1 A 4 rfl (by first | omega | (simp only [List.length_set]; omega)) 48 (hb hby dgr_47) rfl ?_
  rintro T2 h2 X2 e2 W2 A2
  have sW2 := W2.size
  refine g_aloadN X2 hx 49 (hb hby dgr_48) rfl rfl ?_
  refine g_iloadN X2 hx 50 (hb hby dgr_49) rfl rfl ?_
  refine g_iconst X2 hx 51 (hb hby dgr_50) rfl ki_1 ?_
  refine g_iadd X2 hx 52 (hb hby dgr_51) rfl (by decide : (4 : Int32) + (1 : Int32) = (5 : Int32)) ?_
  refine g_iload X2 hx 54 (hb hby dgr_52) rfl rfl ?_
  refine g_bipush X2 hx 56 (hb hby dgr_54) rfl kb_12 ?_
  refine g_iushr X2 hx 57 (hb hby dgr_56) rfl rfl ?_
  refine g_bipush X2 hx 59 (hb hby dgr_57) rfl kb_63 ?_
  refine g_iand X2 hx 60 (hb hby dgr_59) rfl rfl ?_
  refine Go.callS X2 hx (y := (⟨"com/example/poste_restante/posterestante/BlockBytesPinLaw", "sym", "(I)C"⟩ : MethodName)) hown (mvT hZ (hW hw 7 rfl)) (mvT hZ (hW hw 8 rfl)) (mvT hZ (hW hw 5 rfl)) (mvT hZ (hW hw 9 rfl)) (by decide) (Ctr.back (W := 2) (rmSY l Z a0 hw ((XT.ushr (((b0 <<< ((16 : Int32) &&& 31)) ||| (0 : Int32)) ||| (0 : Int32)) (12 : Int32)) &&& (63 : Int32)) h2 n0) hZ (hW hw 9 rfl) (hW hw 5 rfl) (by decide) (by decide)) e2 (g := (mkF m 60 #[sR a, sI 4, sI b0, sI b1, sI b2, sI 1, (sI (((b0 <<< ((16 : Int32) &&& 31)) ||| (0 : Int32)) ||| (0 : Int32)))] [(vI ((XT.ushr (((b0 <<< ((16 : Int32) &&& 31)) ||| (0 : Int32)) ||| (0 : Int32)) (12 : Int32)) &&& (63 : Int32))), vI 5, vR a])) rfl (by rw [hml]; rfl) (argsL := [(vI ((XT.ushr (((b0 <<< ((16 : Int32) &&& 31)) ||| (0 : Int32)) ||| (0 : Int32)) (12 : Int32)) &&& (63 : Int32)))]) (rest := [vI 5, vR a]) (lenOf pd_14 rfl) rfl (by show 2 * 0 + _ ≤ _; exact Nat.le_of_eq rfl) (hb hby dgr_60) rfl (by decide) (by decide) ?_
  rintro _ T3 L3 X3 ⟨rfl, N3, e3⟩
  show Go p e below _ T3 (mkF m 63 #[sR a, sI 4, sI b0, sI b1, sI b2, sI 1, (sI (((b0 <<< ((16 : Int32) &&& 31)) ||| (0 : Int32)) ||| (0 : Int32)))] [(vI (own_sym ((XT.ushr (((b0 <<< ((16 : Int32) &&& 31)) ||| (0 : Int32)) ||| (0 : Int32)) (12 : Int32)) &&& (63 : Int32)))), vI 5, vR a])
  refine g_castore X3 hx hZ e3 A2 5 rfl (by first | omega | (simp only [List.length_set]; omega)) 64 (hb hby dgr_63) rfl ?_
  rintro T4 h4 X4 e4 W4 A4
  have sW4 := W4.size
  refine g_aloadN X4 hx 65 (hb hby dgr_64) rfl rfl ?_
  refine g_iloadN X4 hx 66 (hb hby dgr_65) rfl rfl ?_
  refine g_iconst X4 hx 67 (hb hby dgr_66) rfl ki_2 ?_
  refine g_iadd X4 hx 68 (hb hby dgr_67) rfl (by decide : (4 : Int32) + (2 : Int32) = (6 : Int32)) ?_
  refine g_iload X4 hx 70 (hb hby dgr_68) rfl rfl ?_
  refine g_iconst X4 hx 71 (hb hby dgr_70) rfl ki_2 ?_
  refine g_icY X4 hx 88 (hb hby dgr_71) (by decide) (XT.ii_lt_t (by decide)) ?_
  refine g_bipush X4 hx 90 (hb hby dgr_88) rfl kb_61 ?_
  refine g_castore X4 hx hZ e4 A4 6 rfl (by first | omega | (simp only [List.length_set]; omega)) 91 (hb hby dgr_90) rfl ?_
  rintro T5 h5 X5 e5 W5 A5
  have sW5 := W5.size
  refine g_aloadN X5 hx 92 (hb hby dgr_91) rfl rfl ?_
  refine g_iloadN X5 hx 93 (hb hby dgr_92) rfl rfl ?_
  refine g_iconst X5 hx 94 (hb hby dgr_93) rfl ki_3 ?_
  refine g_iadd X5 hx 95 (hb hby dgr_94) rfl (by decide : (4 : Int32) + (3 : Int32) = (7 : Int32)) ?_
  refine g_iload X5 hx 97 (hb hby dgr_95) rfl rfl ?_
  refine g_iconst X5 hx 98 (hb hby dgr_97) rfl ki_3 ?_
  refine g_icY X5 hx 112 (hb hby dgr_98) (by decide) (XT.ii_lt_t (by decide)) ?_
  refine g_bipush X5 hx 114 (hb hby dgr_112) rfl kb_61 ?_
  refine g_castore X5 hx hZ e5 A5 7 rfl (by first | omega | (simp only [List.length_set]; omega)) 115 (hb hby dgr_114) rfl ?_
  rintro T6 h6 X6 e6 W6 A6
  have sW6 := W6.size
  have K9 : Keep h0 h6 [a] := (((((Keep.refl h0 [a]).wr W2 (Or.inl (List.mem_cons_self ..))).wr W4 (Or.inl (List.mem_cons_self ..))).wr W5 (Or.inl (List.mem_cons_self ..))).wr W6 (Or.inl (List.mem_cons_self ..)))
  exact Go.ret0 X6 hx hret hlk (hb hby dgr_115) ⟨rfl, (Fr.snoc X6 (Fr.snoc X5 (Fr.snoc X4 (Fr.app (Fr.snoc X2 (Fr.app (Fr.nil n0) N1) hna) N3) hna) hna) hna), e6 ▸ K9, e6 ▸ A6⟩ (by decide) (by decide)
set_option maxRecDepth 65536 in
set_option maxHeartbeats 40000000 in
theorem rmG_4_2 (l : Launch) (Z : State) (a0 : Array Value) (hw : ∀ d ∈ tables_1, d.before a0 Z = true) (a : Addr) (b0 b1 b2 : Int32) (cs : List Int32) (hl : 8 ≤ cs.length) (h0 : Heap) (n0 : Nat) (hna : n0 ≤ a) (A : AI Z h0 a .char cs) :
    Ctr l Z (⟨"com/example/poste_restante/posterestante/BlockBytesPinLaw", "group", "([CIIIII)V"⟩ : MethodName) method_3_code 7 none [] ({ frames := 1, cells := 0, slots := 0, locals := 14 } : Room) #[(.ref a), (.int (4 : Int32)), (.int b0), (.int b1), (.int b2), (.int (2 : Int32))] h0 (QG Z a ((((cs.set 4 (nar .char (own_sym ((XT.ushr (((b0 <<< ((16 : Int32) &&& 31)) ||| (b1 <<< ((8 : Int32) &&& 31))) ||| (0 : Int32)) (18 : Int32)) &&& (63 : Int32))))).set 5 (nar .char (own_sym ((XT.ushr (((b0 <<< ((16 : Int32) &&& 31)) ||| (b1 <<< ((8 : Int32) &&& 31))) ||| (0 : Int32)) (12 : Int32)) &&& (63 : Int32))))).set 6 (nar .char (own_sym ((XT.ushr (((b0 <<< ((16 : Int32) &&& 31)) ||| (b1 <<< ((8 : Int32) &&& 31))) ||| (0 : Int32)) (6 : Int32)) &&& (63 : Int32))))).set 7 (nar .char (61 : Int32))) h0 n0) := by
  refine Ctr.of (plainFor_of_name pn_12) ?_
  intro p e s m below meth c s₁ hx hby hml hown hnm hret hlk hZ X0 e0
  refine Go.cast (ef_13 m a (4 : Int32) b0 b1 b2 (2 : Int32)) ?_
  show Go p e below _ s₁ (mkF m 0 #[sR a, sI 4, sI b0, sI b1, sI b2, sI 2, .unset] [])
  refine g_iloadN X0 hx 1 (hb hby dgr_0) rfl rfl ?_
  refine g_bipush X0 hx 3 (hb hby dgr_1) rfl kb_16 ?_
  refine g_ishl X0 hx 4 (hb hby dgr_3) rfl rfl ?_
  refine g_iload X0 hx 6 (hb hby dgr_4) rfl rfl ?_
  refine g_iconst X0 hx 7 (hb hby dgr_6) rfl ki_2 ?_
  refine g_icN X0 hx 10 (hb hby dgr_7) rfl (XT.ii_lt_f (by decide)) ?_
  refine g_iloadN X0 hx 11 (hb hby dgr_10) rfl rfl ?_
  refine g_bipush X0 hx 13 (hb hby dgr_11) rfl kb_8 ?_
  refine g_ishl X0 hx 14 (hb hby dgr_13) rfl rfl ?_
  refine g_goto X0 hx 18 (hb hby dgr_14) (by decide) ?_
  refine g_ior X0 hx 19 (hb hby dgr_18) rfl rfl ?_
  refine g_iload X0 hx 21 (hb hby dgr_19) rfl rfl ?_
  refine g_iconst X0 hx 22 (hb hby dgr_21) rfl ki_3 ?_
  refine g_icY X0 hx 30 (hb hby dgr_22) (by decide) (XT.ii_lt_t (by decide)) ?_
  refine g_iconst X0 hx 31 (hb hby dgr_30) rfl ki_0 ?_
  refine g_ior X0 hx 32 (hb hby dgr_31) rfl rfl ?_
  refine g_istore X0 hx #[sR a, sI 4, sI b0, sI b1, sI b2, sI 2, (sI (((b0 <<< ((16 : Int32) &&& 31)) ||| (b1 <<< ((8 : Int32) &&& 31))) ||| (0 : Int32)))] 34 (hb hby dgr_32) rfl rfl ?_
  refine g_aloadN X0 hx 35 (hb hby dgr_34) rfl rfl ?_
  refine g_iloadN X0 hx 36 (hb hby dgr_35) rfl rfl ?_
  refine g_iload X0 hx 38 (hb hby dgr_36) rfl rfl ?_
  refine g_bipush X0 hx 40 (hb hby dgr_38) rfl kb_18 ?_
  refine g_iushr X0 hx 41 (hb hby dgr_40) rfl rfl ?_
  refine g_bipush X0 hx 43 (hb hby dgr_41) rfl kb_63 ?_
  refine g_iand X0 hx 44 (hb hby dgr_43) rfl rfl ?_
  refine Go.callS X0 hx (y := (⟨"com/example/poste_restante/posterestante/BlockBytesPinLaw", "sym", "(I)C"⟩ : MethodName)) hown (mvT hZ (hW hw 7 rfl)) (mvT hZ (hW hw 8 rfl)) (mvT hZ (hW hw 5 rfl)) (mvT hZ (hW hw 9 rfl)) (by decide) (Ctr.back (W := 2) (rmSY l Z a0 hw ((XT.ushr (((b0 <<< ((16 : Int32) &&& 31)) ||| (b1 <<< ((8 : Int32) &&& 31))) ||| (0 : Int32)) (18 : Int32)) &&& (63 : Int32)) h0 n0) hZ (hW hw 9 rfl) (hW hw 5 rfl) (by decide) (by decide)) e0 (g := (mkF m 44 #[sR a, sI 4, sI b0, sI b1, sI b2, sI 2, (sI (((b0 <<< ((16 : Int32) &&& 31)) ||| (b1 <<< ((8 : Int32) &&& 31))) ||| (0 : Int32)))] [(vI ((XT.ushr (((b0 <<< ((16 : Int32) &&& 31)) ||| (b1 <<< ((8 : Int32) &&& 31))) ||| (0 : Int32)) (18 : Int32)) &&& (63 : Int32))), vI 4, vR a])) rfl (by rw [hml]; rfl) (argsL := [(vI ((XT.ushr (((b0 <<< ((16 : Int32) &&& 31)) ||| (b1 <<< ((8 : Int32) &&& 31))) ||| (0 : Int32)) (18 : Int32)) &&& (63 : Int32)))]) (rest := [vI 4, vR a]) (lenOf pd_14 rfl) rfl (by show 2 * 0 + _ ≤ _; exact Nat.le_of_eq rfl) (hb hby dgr_44) rfl (by decide) (by decide) ?_
  rintro _ T1 L1 X1 ⟨rfl, N1, e1⟩
  show Go p e below _ T1 (mkF m 47 #[sR a, sI 4, sI b0, sI b1, sI b2, sI 2, (sI (((b0 <<< ((16 : Int32) &&& 31)) ||| (b1 <<< ((8 : Int32) &&& 31))) ||| (0 : Int32)))] [(vI (own_sym ((XT.ushr (((b0 <<< ((16 : Int32) &&& 31)) ||| (b1 <<< ((8 : Int32) &&& 31))) ||| (0 : Int32)) (18 : Int32)) &&& (63 : Int32)))), vI 4, vR a])
  refine g_castore X1 hx hZ e1 A 4 rfl (by first | omega | (simp only [List.length_set]; omega)) 48 (hb hby dgr_47) rfl ?_
  rintro T2 h2 X2 e2 W2 A2
  have sW2 := W2.size
  refine g_aloadN X2 hx 49 (hb hby dgr_48) rfl rfl ?_
  refine g_iloadN X2 hx 50 (hb hby dgr_49) rfl rfl ?_
  refine g_iconst X2 hx 51 (hb hby dgr_50) rfl ki_1 ?_
  refine g_iadd X2 hx 52 (hb hby dgr_51) rfl (by decide : (4 : Int32) + (1 : Int32) = (5 : Int32)) ?_
  refine g_iload X2 hx 54 (hb hby dgr_52) rfl rfl ?_
  refine g_bipush X2 hx 56 (hb hby dgr_54) rfl kb_12 ?_
  refine g_iushr X2 hx 57 (hb hby dgr_56) rfl rfl ?_
  refine g_bipush X2 hx 59 (hb hby dgr_57) rfl kb_63 ?_
  refine g_iand X2 hx 60 (hb hby dgr_59) rfl rfl ?_
  refine Go.callS X2 hx (y := (⟨"com/example/poste_restante/posterestante/BlockBytesPinLaw", "sym", "(I)C"⟩ : MethodName)) hown (mvT hZ (hW hw 7 rfl)) (mvT hZ (hW hw 8 rfl)) (mvT hZ (hW hw 5 rfl)) (mvT hZ (hW hw 9 rfl)) (by decide) (Ctr.back (W := 2) (rmSY l Z a0 hw ((XT.ushr (((b0 <<< ((16 : Int32) &&& 31)) ||| (b1 <<< ((8 : Int32) &&& 31))) ||| (0 : Int32)) (12 : Int32)) &&& (63 : Int32)) h2 n0) hZ (hW hw 9 rfl) (hW hw 5 rfl) (by decide) (by decide)) e2 (g := (mkF m 60 #[sR a, sI 4, sI b0, sI b1, sI b2, sI 2, (sI (((b0 <<< ((16 : Int32) &&& 31)) ||| (b1 <<< ((8 : Int32) &&& 31))) ||| (0 : Int32)))] [(vI ((XT.ushr (((b0 <<< ((16 : Int32) &&& 31)) ||| (b1 <<< ((8 : Int32) &&& 31))) ||| (0 : Int32)) (12 : Int32)) &&& (63 : Int32))), vI 5, vR a])) rfl (by rw [hml]; rfl) (argsL := [(vI ((XT.ushr (((b0 <<< ((16 : Int32) &&& 31)) ||| (b1 <<< ((8 : Int32) &&& 31))) ||| (0 : Int32)) (12 : Int32)) &&& (63 : Int32)))]) (rest := [vI 5, vR a]) (lenOf pd_14 rfl) rfl (by show 2 * 0 + _ ≤ _; exact Nat.le_of_eq rfl) (hb hby dgr_60) rfl (by decide) (by decide) ?_
  rintro _ T3 L3 X3 ⟨rfl, N3, e3⟩
  show Go p e below _ T3 (mkF m 63 #[sR a, sI 4, sI b0, sI b1, sI b2, sI 2, (sI (((b0 <<< ((16 : Int32) &&& 31)) ||| (b1 <<< ((8 : Int32) &&& 31))) ||| (0 : Int32)))] [(vI (own_sym ((XT.ushr (((b0 <<< ((16 : Int32) &&& 31)) ||| (b1 <<< ((8 : Int32) &&& 31))) ||| (0 : Int32)) (12 : Int32)) &&& (63 : Int32)))), vI 5, vR a])
  refine g_castore X3 hx hZ e3 A2 5 rfl (by first | omega | (simp only [List.length_set]; omega)) 64 (hb hby dgr_63) rfl ?_
  rintro T4 h4 X4 e4 W4 A4
  have sW4 := W4.size
  refine g_aloadN X4 hx 65 (hb hby dgr_64) rfl rfl ?_
  refine g_iloadN X4 hx 66 (hb hby dgr_65) rfl rfl ?_
  refine g_iconst X4 hx 67 (hb hby dgr_66) rfl ki_2 ?_
  refine g_iadd X4 hx 68 (hb hby dgr_67) rfl (by decide : (4 : Int32) + (2 : Int32) = (6 : Int32)) ?_
  refine g_iload X4 hx 70 (hb hby dgr_68) rfl rfl ?_
  refine g_iconst X4 hx 71 (hb hby dgr_70) rfl ki_2 ?_
  refine g_icN X4 hx 74 (hb hby dgr_71) rfl (XT.ii_lt_f (by decide)) ?_
  refine g_iload X4 hx 76 (hb hby dgr_74) rfl rfl ?_
  refine g_bipush X4 hx 78 (hb hby dgr_76) rfl kb_6 ?_
  refine g_iushr X4 hx 79 (hb hby dgr_78) rfl rfl ?_
  refine g_bipush X4 hx 81 (hb hby dgr_79) rfl kb_63 ?_
  refine g_iand X4 hx 82 (hb hby dgr_81) rfl rfl ?_
  refine Go.callS X4 hx (y := (⟨"com/example/poste_restante/posterestante/BlockBytesPinLaw", "sym", "(I)C"⟩ : MethodName)) hown (mvT hZ (hW hw 7 rfl)) (mvT hZ (hW hw 8 rfl)) (mvT hZ (hW hw 5 rfl)) (mvT hZ (hW hw 9 rfl)) (by decide) (Ctr.back (W := 2) (rmSY l Z a0 hw ((XT.ushr (((b0 <<< ((16 : Int32) &&& 31)) ||| (b1 <<< ((8 : Int32) &&& 31))) ||| (0 : Int32)) (6 : Int32)) &&& (63 : Int32)) h4 n0) hZ (hW hw 9 rfl) (hW hw 5 rfl) (by decide) (by decide)) e4 (g := (mkF m 82 #[sR a, sI 4, sI b0, sI b1, sI b2, sI 2, (sI (((b0 <<< ((16 : Int32) &&& 31)) ||| (b1 <<< ((8 : Int32) &&& 31))) ||| (0 : Int32)))] [(vI ((XT.ushr (((b0 <<< ((16 : Int32) &&& 31)) ||| (b1 <<< ((8 : Int32) &&& 31))) ||| (0 : Int32)) (6 : Int32)) &&& (63 : Int32))), vI 6, vR a])) rfl (by rw [hml]; rfl) (argsL := [(vI ((XT.ushr (((b0 <<< ((16 : Int32) &&& 31)) ||| (b1 <<< ((8 : Int32) &&& 31))) ||| (0 : Int32)) (6 : Int32)) &&& (63 : Int32)))]) (rest := [vI 6, vR a]) (lenOf pd_14 rfl) rfl (by show 2 * 0 + _ ≤ _; exact Nat.le_of_eq rfl) (hb hby dgr_82) rfl (by decide) (by decide) ?_
  rintro _ T5 L5 X5 ⟨rfl, N5, e5⟩
  show Go p e below _ T5 (mkF m 85 #[sR a, sI 4, sI b0, sI b1, sI b2, sI 2, (sI (((b0 <<< ((16 : Int32) &&& 31)) ||| (b1 <<< ((8 : Int32) &&& 31))) ||| (0 : Int32)))] [(vI (own_sym ((XT.ushr (((b0 <<< ((16 : Int32) &&& 31)) ||| (b1 <<< ((8 : Int32) &&& 31))) ||| (0 : Int32)) (6 : Int32)) &&& (63 : Int32)))), vI 6, vR a])
  refine g_goto X5 hx 90 (hb hby dgr_85) (by decide) ?_
  refine g_castore X5 hx hZ e5 A4 6 rfl (by first | omega | (simp only [List.length_set]; omega)) 91 (hb hby dgr_90) rfl ?_
  rintro T6 h6 X6 e6 W6 A6
  have sW6 := W6.size
  refine g_aloadN X6 hx 92 (hb hby dgr_91) rfl rfl ?_
  refine g_iloadN X6 hx 93 (hb hby dgr_92) rfl rfl ?_
  refine g_iconst X6 hx 94 (hb hby dgr_93) rfl ki_3 ?_
  refine g_iadd X6 hx 95 (hb hby dgr_94) rfl (by decide : (4 : Int32) + (3 : Int32) = (7 : Int32)) ?_
  refine g_iload X6 hx 97 (hb hby dgr_95) rfl rfl ?_
  refine g_iconst X6 hx 98 (hb hby dgr_97) rfl ki_3 ?_
  refine g_icY X6 hx 112 (hb hby dgr_98) (by decide) (XT.ii_lt_t (by decide)) ?_
  refine g_bipush X6 hx 114 (hb hby dgr_112) rfl kb_61 ?_
  refine g_castore X6 hx hZ e6 A6 7 rfl (by first | omega | (simp only [List.length_set]; omega)) 115 (hb hby dgr_114) rfl ?_
  rintro T7 h7 X7 e7 W7 A7
  have sW7 := W7.size
  have K9 : Keep h0 h7 [a] := (((((Keep.refl h0 [a]).wr W2 (Or.inl (List.mem_cons_self ..))).wr W4 (Or.inl (List.mem_cons_self ..))).wr W6 (Or.inl (List.mem_cons_self ..))).wr W7 (Or.inl (List.mem_cons_self ..)))
  exact Go.ret0 X7 hx hret hlk (hb hby dgr_115) ⟨rfl, (Fr.snoc X7 (Fr.snoc X6 (Fr.app (Fr.snoc X4 (Fr.app (Fr.snoc X2 (Fr.app (Fr.nil n0) N1) hna) N3) hna) N5) hna) hna), e7 ▸ K9, e7 ▸ A7⟩ (by decide) (by decide)
set_option maxRecDepth 65536 in
set_option maxHeartbeats 40000000 in
theorem rmG_4_3 (l : Launch) (Z : State) (a0 : Array Value) (hw : ∀ d ∈ tables_1, d.before a0 Z = true) (a : Addr) (b0 b1 b2 : Int32) (cs : List Int32) (hl : 8 ≤ cs.length) (h0 : Heap) (n0 : Nat) (hna : n0 ≤ a) (A : AI Z h0 a .char cs) :
    Ctr l Z (⟨"com/example/poste_restante/posterestante/BlockBytesPinLaw", "group", "([CIIIII)V"⟩ : MethodName) method_3_code 7 none [] ({ frames := 1, cells := 0, slots := 0, locals := 14 } : Room) #[(.ref a), (.int (4 : Int32)), (.int b0), (.int b1), (.int b2), (.int (3 : Int32))] h0 (QG Z a ((((cs.set 4 (nar .char (own_sym ((XT.ushr (((b0 <<< ((16 : Int32) &&& 31)) ||| (b1 <<< ((8 : Int32) &&& 31))) ||| b2) (18 : Int32)) &&& (63 : Int32))))).set 5 (nar .char (own_sym ((XT.ushr (((b0 <<< ((16 : Int32) &&& 31)) ||| (b1 <<< ((8 : Int32) &&& 31))) ||| b2) (12 : Int32)) &&& (63 : Int32))))).set 6 (nar .char (own_sym ((XT.ushr (((b0 <<< ((16 : Int32) &&& 31)) ||| (b1 <<< ((8 : Int32) &&& 31))) ||| b2) (6 : Int32)) &&& (63 : Int32))))).set 7 (nar .char (own_sym ((((b0 <<< ((16 : Int32) &&& 31)) ||| (b1 <<< ((8 : Int32) &&& 31))) ||| b2) &&& (63 : Int32))))) h0 n0) := by
  refine Ctr.of (plainFor_of_name pn_12) ?_
  intro p e s m below meth c s₁ hx hby hml hown hnm hret hlk hZ X0 e0
  refine Go.cast (ef_13 m a (4 : Int32) b0 b1 b2 (3 : Int32)) ?_
  show Go p e below _ s₁ (mkF m 0 #[sR a, sI 4, sI b0, sI b1, sI b2, sI 3, .unset] [])
  refine g_iloadN X0 hx 1 (hb hby dgr_0) rfl rfl ?_
  refine g_bipush X0 hx 3 (hb hby dgr_1) rfl kb_16 ?_
  refine g_ishl X0 hx 4 (hb hby dgr_3) rfl rfl ?_
  refine g_iload X0 hx 6 (hb hby dgr_4) rfl rfl ?_
  refine g_iconst X0 hx 7 (hb hby dgr_6) rfl ki_2 ?_
  refine g_icN X0 hx 10 (hb hby dgr_7) rfl (XT.ii_lt_f (by decide)) ?_
  refine g_iloadN X0 hx 11 (hb hby dgr_10) rfl rfl ?_
  refine g_bipush X0 hx 13 (hb hby dgr_11) rfl kb_8 ?_
  refine g_ishl X0 hx 14 (hb hby dgr_13) rfl rfl ?_
  refine g_goto X0 hx 18 (hb hby dgr_14) (by decide) ?_
  refine g_ior X0 hx 19 (hb hby dgr_18) rfl rfl ?_
  refine g_iload X0 hx 21 (hb hby dgr_19) rfl rfl ?_
  refine g_iconst X0 hx 22 (hb hby dgr_21) rfl ki_3 ?_
  refine g_icN X0 hx 25 (hb hby dgr_22) rfl (XT.ii_lt_f (by decide)) ?_
  refine g_iload X0 hx 27 (hb hby dgr_25) rfl rfl ?_
  refine g_goto X0 hx 31 (hb hby dgr_27) (by decide) ?_
  refine g_ior X0 hx 32 (hb hby dgr_31) rfl rfl ?_
  refine g_istore X0 hx #[sR a, sI 4, sI b0, sI b1, sI b2, sI 3, (sI (((b0 <<< ((16 : Int32) &&& 31)) ||| (b1 <<< ((8 : Int32) &&& 31))) ||| b2))] 34 (hb hby dgr_32) rfl rfl ?_
  refine g_aloadN X0 hx 35 (hb hby dgr_34) rfl rfl ?_
  refine g_iloadN X0 hx 36 (hb hby dgr_35) rfl rfl ?_
  refine g_iload X0 hx 38 (hb hby dgr_36) rfl rfl ?_
  refine g_bipush X0 hx 40 (hb hby dgr_38) rfl kb_18 ?_
  refine g_iushr X0 hx 41 (hb hby dgr_40) rfl rfl ?_
  refine g_bipush X0 hx 43 (hb hby dgr_41) rfl kb_63 ?_
  refine g_iand X0 hx 44 (hb hby dgr_43) rfl rfl ?_
  refine Go.callS X0 hx (y := (⟨"com/example/poste_restante/posterestante/BlockBytesPinLaw", "sym", "(I)C"⟩ : MethodName)) hown (mvT hZ (hW hw 7 rfl)) (mvT hZ (hW hw 8 rfl)) (mvT hZ (hW hw 5 rfl)) (mvT hZ (hW hw 9 rfl)) (by decide) (Ctr.back (W := 2) (rmSY l Z a0 hw ((XT.ushr (((b0 <<< ((16 : Int32) &&& 31)) ||| (b1 <<< ((8 : Int32) &&& 31))) ||| b2) (18 : Int32)) &&& (63 : Int32)) h0 n0) hZ (hW hw 9 rfl) (hW hw 5 rfl) (by decide) (by decide)) e0 (g := (mkF m 44 #[sR a, sI 4, sI b0, sI b1, sI b2, sI 3, (sI (((b0 <<< ((16 : Int32) &&& 31)) ||| (b1 <<< ((8 : Int32) &&& 31))) ||| b2))] [(vI ((XT.ushr (((b0 <<< ((16 : Int32) &&& 31)) ||| (b1 <<< ((8 : Int32) &&& 31))) ||| b2) (18 : Int32)) &&& (63 : Int32))), vI 4, vR a])) rfl (by rw [hml]; rfl) (argsL := [(vI ((XT.ushr (((b0 <<< ((16 : Int32) &&& 31)) ||| (b1 <<< ((8 : Int32) &&& 31))) ||| b2) (18 : Int32)) &&& (63 : Int32)))]) (rest := [vI 4, vR a]) (lenOf pd_14 rfl) rfl (by show 2 * 0 + _ ≤ _; exact Nat.le_of_eq rfl) (hb hby dgr_44) rfl (by decide) (by decide) ?_
  rintro _ T1 L1 X1 ⟨rfl, N1, e1⟩
  show Go p e below _ T1 (mkF m 47 #[sR a, sI 4, sI b0, sI b1, sI b2, sI 3, (sI (((b0 <<< ((16 : Int32) &&& 31)) ||| (b1 <<< ((8 : Int32) &&& 31))) ||| b2))] [(vI (own_sym ((XT.ushr (((b0 <<< ((16 : Int32) &&& 31)) ||| (b1 <<< ((8 : Int32) &&& 31))) ||| b2) (18 : Int32)) &&& (63 : Int32)))), vI 4, vR a])
  refine g_castore X1 hx hZ e1 A 4 rfl (by first | omega | (simp only [List.length_set]; omega)) 48 (hb hby dgr_47) rfl ?_
  rintro T2 h2 X2 e2 W2 A2
  have sW2 := W2.size
  refine g_aloadN X2 hx 49 (hb hby dgr_48) rfl rfl ?_
  refine g_iloadN X2 hx 50 (hb hby dgr_49) rfl rfl ?_
  refine g_iconst X2 hx 51 (hb hby dgr_50) rfl ki_1 ?_
  refine g_iadd X2 hx 52 (hb hby dgr_51) rfl (by decide : (4 : Int32) + (1 : Int32) = (5 : Int32)) ?_
  refine g_iload X2 hx 54 (hb hby dgr_52) rfl rfl ?_
  refine g_bipush X2 hx 56 (hb hby dgr_54) rfl kb_12 ?_
  refine g_iushr X2 hx 57 (hb hby dgr_56) rfl rfl ?_
  refine g_bipush X2 hx 59 (hb hby dgr_57) rfl kb_63 ?_
  refine g_iand X2 hx 60 (hb hby dgr_59) rfl rfl ?_
  refine Go.callS X2 hx (y := (⟨"com/example/poste_restante/posterestante/BlockBytesPinLaw", "sym", "(I)C"⟩ : MethodName)) hown (mvT hZ (hW hw 7 rfl)) (mvT hZ (hW hw 8 rfl)) (mvT hZ (hW hw 5 rfl)) (mvT hZ (hW hw 9 rfl)) (by decide) (Ctr.back (W := 2) (rmSY l Z a0 hw ((XT.ushr (((b0 <<< ((16 : Int32) &&& 31)) ||| (b1 <<< ((8 : Int32) &&& 31))) ||| b2) (12 : Int32)) &&& (63 : Int32)) h2 n0) hZ (hW hw 9 rfl) (hW hw 5 rfl) (by decide) (by decide)) e2 (g := (mkF m 60 #[sR a, sI 4, sI b0, sI b1, sI b2, sI 3, (sI (((b0 <<< ((16 : Int32) &&& 31)) ||| (b1 <<< ((8 : Int32) &&& 31))) ||| b2))] [(vI ((XT.ushr (((b0 <<< ((16 : Int32) &&& 31)) ||| (b1 <<< ((8 : Int32) &&& 31))) ||| b2) (12 : Int32)) &&& (63 : Int32))), vI 5, vR a])) rfl (by rw [hml]; rfl) (argsL := [(vI ((XT.ushr (((b0 <<< ((16 : Int32) &&& 31)) ||| (b1 <<< ((8 : Int32) &&& 31))) ||| b2) (12 : Int32)) &&& (63 : Int32)))]) (rest := [vI 5, vR a]) (lenOf pd_14 rfl) rfl (by show 2 * 0 + _ ≤ _; exact Nat.le_of_eq rfl) (hb hby dgr_60) rfl (by decide) (by decide) ?_
  rintro _ T3 L3 X3 ⟨rfl, N3, e3⟩
  show Go p e below _ T3 (mkF m 63 #[sR a, sI 4, sI b0, sI b1, sI b2, sI 3, (sI (((b0 <<< ((16 : Int32) &&& 31)) ||| (b1 <<< ((8 : Int32) &&& 31))) ||| b2))] [(vI (own_sym ((XT.ushr (((b0 <<< ((16 : Int32) &&& 31)) ||| (b1 <<< ((8 : Int32) &&& 31))) ||| b2) (12 : Int32)) &&& (63 : Int32)))), vI 5, vR a])
  refine g_castore X3 hx hZ e3 A2 5 rfl (by first | omega | (simp only [List.length_set]; omega)) 64 (hb hby dgr_63) rfl ?_
  rintro T4 h4 X4 e4 W4 A4
  have sW4 := W4.size
  refine g_aloadN X4 hx 65 (hb hby dgr_64) rfl rfl ?_
  refine g_iloadN X4 hx 66 (hb hby dgr_65) rfl rfl ?_
  refine g_iconst X4 hx 67 (hb hby dgr_66) rfl ki_2 ?_
  refine g_iadd X4 hx 68 (hb hby dgr_67) rfl (by decide : (4 : Int32) + (2 : Int32) = (6 : Int32)) ?_
  refine g_iload X4 hx 70 (hb hby dgr_68) rfl rfl ?_
  refine g_iconst X4 hx 71 (hb hby dgr_70) rfl ki_2 ?_
  refine g_icN X4 hx 74 (hb hby dgr_71) rfl (XT.ii_lt_f (by decide)) ?_
  refine g_iload X4 hx 76 (hb hby dgr_74) rfl rfl ?_
  refine g_bipush X4 hx 78 (hb hby dgr_76) rfl kb_6 ?_
  refine g_iushr X4 hx 79 (hb hby dgr_78) rfl rfl ?_
  refine g_bipush X4 hx 81 (hb hby dgr_79) rfl kb_63 ?_
  refine g_iand X4 hx 82 (hb hby dgr_81) rfl rfl ?_
  refine Go.callS X4 hx (y := (⟨"com/example/poste_restante/posterestante/BlockBytesPinLaw", "sym", "(I)C"⟩ : MethodName)) hown (mvT hZ (hW hw 7 rfl)) (mvT hZ (hW hw 8 rfl)) (mvT hZ (hW hw 5 rfl)) (mvT hZ (hW hw 9 rfl)) (by decide) (Ctr.back (W := 2) (rmSY l Z a0 hw ((XT.ushr (((b0 <<< ((16 : Int32) &&& 31)) ||| (b1 <<< ((8 : Int32) &&& 31))) ||| b2) (6 : Int32)) &&& (63 : Int32)) h4 n0) hZ (hW hw 9 rfl) (hW hw 5 rfl) (by decide) (by decide)) e4 (g := (mkF m 82 #[sR a, sI 4, sI b0, sI b1, sI b2, sI 3, (sI (((b0 <<< ((16 : Int32) &&& 31)) ||| (b1 <<< ((8 : Int32) &&& 31))) ||| b2))] [(vI ((XT.ushr (((b0 <<< ((16 : Int32) &&& 31)) ||| (b1 <<< ((8 : Int32) &&& 31))) ||| b2) (6 : Int32)) &&& (63 : Int32))), vI 6, vR a])) rfl (by rw [hml]; rfl) (argsL := [(vI ((XT.ushr (((b0 <<< ((16 : Int32) &&& 31)) ||| (b1 <<< ((8 : Int32) &&& 31))) ||| b2) (6 : Int32)) &&& (63 : Int32)))]) (rest := [vI 6, vR a]) (lenOf pd_14 rfl) rfl (by show 2 * 0 + _ ≤ _; exact Nat.le_of_eq rfl) (hb hby dgr_82) rfl (by decide) (by decide) ?_
  rintro _ T5 L5 X5 ⟨rfl, N5, e5⟩
  show Go p e below _ T5 (mkF m 85 #[sR a, sI 4, sI b0, sI b1, sI b2, sI 3, (sI (((b0 <<< ((16 : Int32) &&& 31)) ||| (b1 <<< ((8 : Int32) &&& 31))) ||| b2))] [(vI (own_sym ((XT.ushr (((b0 <<< ((16 : Int32) &&& 31)) ||| (b1 <<< ((8 : Int32) &&& 31))) ||| b2) (6 : Int32)) &&& (63 : Int32)))), vI 6, vR a])
  refine g_goto X5 hx 90 (hb hby dgr_85) (by decide) ?_
  refine g_castore X5 hx hZ e5 A4 6 rfl (by first | omega | (simp only [List.length_set]; omega)) 91 (hb hby dgr_90) rfl ?_
  rintro T6 h6 X6 e6 W6 A6
  have sW6 := W6.size
  refine g_aloadN X6 hx 92 (hb hby dgr_91) rfl rfl ?_
  refine g_iloadN X6 hx 93 (hb hby dgr_92) rfl rfl ?_
  refine g_iconst X6 hx 94 (hb hby dgr_93) rfl ki_3 ?_
  refine g_iadd X6 hx 95 (hb hby dgr_94) rfl (by decide : (4 : Int32) + (3 : Int32) = (7 : Int32)) ?_
  refine g_iload X6 hx 97 (hb hby dgr_95) rfl rfl ?_
  refine g_iconst X6 hx 98 (hb hby dgr_97) rfl ki_3 ?_
  refine g_icN X6 hx 101 (hb hby dgr_98) rfl (XT.ii_lt_f (by decide)) ?_
  refine g_iload X6 hx 103 (hb hby dgr_101) rfl rfl ?_
  refine g_bipush X6 hx 105 (hb hby dgr_103) rfl kb_63 ?_
  refine g_iand X6 hx 106 (hb hby dgr_105) rfl rfl ?_
  refine Go.callS X6 hx (y := (⟨"com/example/poste_restante/posterestante/BlockBytesPinLaw", "sym", "(I)C"⟩ : MethodName)) hown (mvT hZ (hW hw 7 rfl)) (mvT hZ (hW hw 8 rfl)) (mvT hZ (hW hw 5 rfl)) (mvT hZ (hW hw 9 rfl)) (by decide) (Ctr.back (W := 2) (rmSY l Z a0 hw ((((b0 <<< ((16 : Int32) &&& 31)) ||| (b1 <<< ((8 : Int32) &&& 31))) ||| b2) &&& (63 : Int32)) h6 n0) hZ (hW hw 9 rfl) (hW hw 5 rfl) (by decide) (by decide)) e6 (g := (mkF m 106 #[sR a, sI 4, sI b0, sI b1, sI b2, sI 3, (sI (((b0 <<< ((16 : Int32) &&& 31)) ||| (b1 <<< ((8 : Int32) &&& 31))) ||| b2))] [(vI ((((b0 <<< ((16 : Int32) &&& 31)) ||| (b1 <<< ((8 : Int32) &&& 31))) ||| b2) &&& (63 : Int32))), vI 7, vR a])) rfl (by rw [hml]; rfl) (argsL := [(vI ((((b0 <<< ((16 : Int32) &&& 31)) ||| (b1 <<< ((8 : Int32) &&& 31))) ||| b2) &&& (63 : Int32)))]) (rest := [vI 7, vR a]) (lenOf pd_14 rfl) rfl (by show 2 * 0 + _ ≤ _; exact Nat.le_of_eq rfl) (hb hby dgr_106) rfl (by decide) (by decide) ?_
  rintro _ T7 L7 X7 ⟨rfl, N7, e7⟩
  show Go p e below _ T7 (mkF m 109 #[sR a, sI 4, sI b0, sI b1, sI b2, sI 3, (sI (((b0 <<< ((16 : Int32) &&& 31)) ||| (b1 <<< ((8 : Int32) &&& 31))) ||| b2))] [(vI (own_sym ((((b0 <<< ((16 : Int32) &&& 31)) ||| (b1 <<< ((8 : Int32) &&& 31))) ||| b2) &&& (63 : Int32)))), vI 7, vR a])
  refine g_goto X7 hx 114 (hb hby dgr_109) (by decide) ?_
  refine g_castore X7 hx hZ e7 A6 7 rfl (by first | omega | (simp only [List.length_set]; omega)) 115 (hb hby dgr_114) rfl ?_
  rintro T8 h8 X8 e8 W8 A8
  have sW8 := W8.size
  have K9 : Keep h0 h8 [a] := (((((Keep.refl h0 [a]).wr W2 (Or.inl (List.mem_cons_self ..))).wr W4 (Or.inl (List.mem_cons_self ..))).wr W6 (Or.inl (List.mem_cons_self ..))).wr W8 (Or.inl (List.mem_cons_self ..)))
  exact Go.ret0 X8 hx hret hlk (hb hby dgr_115) ⟨rfl, (Fr.snoc X8 (Fr.app (Fr.snoc X6 (Fr.app (Fr.snoc X4 (Fr.app (Fr.snoc X2 (Fr.app (Fr.nil n0) N1) hna) N3) hna) N5) hna) N7) hna), e8 ▸ K9, e8 ▸ A8⟩ (by decide) (by decide)
theorem dat_0 : decode method_4_code 0 = .ok (.iload_n 2, 1) := by decide +kernel
theorem dat_1 : decode method_4_code 1 = .ok (.iload_n 3, 1) := by decide +kernel
theorem dat_2 : decode method_4_code 2 = .ok (.if_icmp .ge 13, 3) := by decide +kernel
theorem dat_5 : decode method_4_code 5 = .ok (.aload_n 0, 1) := by decide +kernel
theorem dat_6 : decode method_4_code 6 = .ok (.iload_n 2, 1) := by decide +kernel
theorem dat_7 : decode method_4_code 7 = .ok (.baload, 1) := by decide +kernel
theorem dat_8 : decode method_4_code 8 = .ok (.aload_n 1, 1) := by decide +kernel
theorem dat_9 : decode method_4_code 9 = .ok (.iload_n 2, 1) := by decide +kernel
theorem dat_10 : decode method_4_code 10 = .ok (.iaload, 1) := by decide +kernel
theorem dat_11 : decode method_4_code 11 = .ok (.i2b, 1) := by decide +kernel
theorem dat_12 : decode method_4_code 12 = .ok (.if_icmp .ne 7, 3) := by decide +kernel
theorem dat_15 : decode method_4_code 15 = .ok (.iconst 1, 1) := by decide +kernel
theorem dat_16 : decode method_4_code 16 = .ok (.goto 4, 3) := by decide +kernel
theorem dat_20 : decode method_4_code 20 = .ok (.ireturn, 1) := by decide +kernel
set_option maxRecDepth 65536 in
set_option maxHeartbeats 40000000 in
theorem rmAT (l : Launch) (Z : State) (a0 : Array Value) (hw : ∀ d ∈ tables_1, d.before a0 Z = true) (r va : Addr) (bs vs : List Int32) (i n : Nat) (hi : i ≤ 4000) (hn : n ≤ 4000) (hq : i < n → ∃ x y, bs[i]? = some x ∧ vs[i]? = some y ∧ x = y.toInt8.toInt32) (h0 : Heap) (n0 : Nat) (B : AI Z h0 r .byte bs) (V : AI Z h0 va .int vs) :
    Ctr l Z (⟨"com/example/poste_restante/posterestante/BlockBytesPinLaw", "at", "([B[III)Z"⟩ : MethodName) method_4_code 4 (some .boolean) [] ({ frames := 0, cells := 0, slots := 0, locals := 0 } : Room) #[(.ref r), (.ref va), (.int (Int32.ofNat i)), (.int (Int32.ofNat n))] h0 (QP 1 h0 n0) := by
  refine Ctr.of (plainFor_of_name pn_12) ?_
  intro p e s m below meth c s₁ hx hby hml hown hnm hret hlk hZ X0 e0
  refine Go.cast (ef_15 m r va (Int32.ofNat i) (Int32.ofNat n)) ?_
  show Go p e below _ s₁ (mkF m 0 #[sR r, sR va, (sI (Int32.ofNat i)), (sI (Int32.ofNat n))] [])
  refine g_iloadN X0 hx 1 (hb hby dat_0) rfl rfl ?_
  refine g_iloadN X0 hx 2 (hb hby dat_1) rfl rfl ?_
  rcases Classical.em (i < n) with q | q
  · skip
    refine g_icN X0 hx 5 (hb hby dat_2) rfl (XT.ii_ge_f (own_ofNat_lt q (by omega))) ?_
    refine g_aloadN X0 hx 6 (hb hby dat_5) rfl rfl ?_
    refine g_iloadN X0 hx 7 (hb hby dat_6) rfl rfl ?_
    obtain ⟨x, y, h1, h2, h3⟩ := hq q
    refine g_baload X0 hx hZ e0 B i (x := x) rfl h1 8 (hb hby dat_7) rfl ?_
    refine g_aloadN X0 hx 9 (hb hby dat_8) rfl rfl ?_
    refine g_iloadN X0 hx 10 (hb hby dat_9) rfl rfl ?_
    refine g_iaload X0 hx hZ e0 V i (x := y) rfl h2 11 (hb hby dat_10) rfl ?_
    refine g_i2b X0 hx 12 (hb hby dat_11) rfl ?_
    refine g_icN X0 hx 15 (hb hby dat_12) rfl (XT.ii_ne_f h3) ?_
    refine g_iconst X0 hx 16 (hb hby dat_15) rfl ki_1 ?_
    refine g_goto X0 hx 20 (hb hby dat_16) (by decide) ?_
    exact Go.retB X0 hx hret hlk (Or.inl rfl) (hb hby dat_20) ⟨rfl, Fr.nil n0, e0⟩ (Nat.le_refl _) (Nat.le_refl _)
  · skip
    have qn : ¬ Int32.ofNat i < Int32.ofNat n := fun z => q (by rw [Int32.lt_iff_toInt_lt, own_toInt (by omega), own_toInt (by omega)] at z; omega)
    refine g_icY X0 hx 15 (hb hby dat_2) (by decide) (XT.ii_ge_t qn) ?_
    refine g_iconst X0 hx 16 (hb hby dat_15) rfl ki_1 ?_
    refine g_goto X0 hx 20 (hb hby dat_16) (by decide) ?_
    exact Go.retB X0 hx hret hlk (Or.inl rfl) (hb hby dat_20) ⟨rfl, Fr.nil n0, e0⟩ (Nat.le_refl _) (Nat.le_refl _)
def QN (h0 : Heap) (n0 : Nat) (v : Option Value) (h : Heap) (L : List Loc) : Prop := v = none ∧ Fr n0 L ∧ h = h0
theorem dri_0 : decode jdk_30_method_1_code 0 = .ok (.aload_n 0, 1) := by decide +kernel
theorem dri_1 : decode jdk_30_method_1_code 1 = .ok (.invokespecial 1, 3) := by decide +kernel
theorem dri_4 : decode jdk_30_method_1_code 4 = .ok (.return_, 1) := by decide +kernel
set_option maxRecDepth 65536 in
set_option maxHeartbeats 40000000 in
theorem rmRI (l : Launch) (Z : State) (a0 : Array Value) (hw : ∀ d ∈ tables_1, d.before a0 Z = true) (o : Addr) (h0 : Heap) (n0 : Nat) :
    Ctr l Z (⟨"java/lang/Record", "<init>", "()V"⟩ : MethodName) jdk_30_method_1_code 1 none [] ({ frames := 1, cells := 0, slots := 0, locals := 12 } : Room) #[(.ref o)] h0 (QN h0 n0) := by
  refine Ctr.of (plainFor_of_name pn_17) ?_
  intro p e s m below meth c s₁ hx hby hml hown hnm hret hlk hZ X0 e0
  refine Go.cast (ef_16 m o) ?_
  show Go p e below _ s₁ (mkF m 0 #[sR o] [])
  refine g_aloadN X0 hx 1 (hb hby dri_0) rfl rfl ?_
  obtain ⟨T2, X2, e2, st2⟩ := initO X0 hx hZ hown (hW hw 53 rfl) (hW hw 21 rfl) (hW hw 22 rfl) e0 (g := (mkF m 1 #[sR o] [vR o])) rfl (by rw [hml]; rfl) rfl (hb hby dri_1) (by decide) (W := 0) (by show 2 * 0 + _ ≤ _; exact Nat.le_of_eq rfl) (by decide)
  refine Go.st st2 ?_
  show Go p e below _ T2 (mkF m 4 #[sR o] [])
  exact Go.ret0 X2 hx hret hlk (hb hby dri_4) ⟨rfl, Fr.nil n0, e2⟩ (Nat.le_refl _) (Nat.le_refl _)
def QBI (Z : State) (o b : Addr) (h0 : Heap) (n0 : Nat) (v : Option Value) (h : Heap) (L : List Loc) : Prop := v = none ∧ Fr n0 L ∧ Keep h0 h [o] ∧ Exa Z h o "com/example/poste_restante/posterestante/Pem$Block" ∧ Fld Z h o "com/example/poste_restante/posterestante/Pem$Block" "base64" "Ljava/lang/String;" (.ref b)
theorem dbi_0 : decode prog_13_method_1_code 0 = .ok (.aload_n 0, 1) := by decide +kernel
theorem dbi_1 : decode prog_13_method_1_code 1 = .ok (.invokespecial 1, 3) := by decide +kernel
theorem dbi_4 : decode prog_13_method_1_code 4 = .ok (.aload_n 0, 1) := by decide +kernel
theorem dbi_5 : decode prog_13_method_1_code 5 = .ok (.aload_n 1, 1) := by decide +kernel
theorem dbi_6 : decode prog_13_method_1_code 6 = .ok (.putfield 7, 3) := by decide +kernel
theorem dbi_9 : decode prog_13_method_1_code 9 = .ok (.aload_n 0, 1) := by decide +kernel
theorem dbi_10 : decode prog_13_method_1_code 10 = .ok (.aload_n 2, 1) := by decide +kernel
theorem dbi_11 : decode prog_13_method_1_code 11 = .ok (.putfield 13, 3) := by decide +kernel
theorem dbi_14 : decode prog_13_method_1_code 14 = .ok (.return_, 1) := by decide +kernel
set_option maxRecDepth 65536 in
set_option maxHeartbeats 40000000 in
theorem rmBI (l : Launch) (Z : State) (a0 : Array Value) (hw : ∀ d ∈ tables_1, d.before a0 Z = true) (o a b : Addr) (u1 u2 : Value) (h0 : Heap) (n0 : Nat) (hno : n0 ≤ o) (E1 : Exa Z h0 o "com/example/poste_restante/posterestante/Pem$Block") (F1 : Fld Z h0 o "com/example/poste_restante/posterestante/Pem$Block" "label" "Ljava/lang/String;" u1) (F2 : Fld Z h0 o "com/example/poste_restante/posterestante/Pem$Block" "base64" "Ljava/lang/String;" u2) :
    Ctr l Z (⟨"com/example/poste_restante/posterestante/Pem$Block", "<init>", "(Ljava/lang/String;Ljava/lang/String;)V"⟩ : MethodName) prog_13_method_1_code 3 none [] ({ frames := 2, cells := 0, slots := 0, locals := 24 } : Room) #[(.ref o), (.ref a), (.ref b)] h0 (QBI Z o b h0 n0) := by
  refine Ctr.of (plainFor_of_name pn_20) ?_
  intro p e s m below meth c s₁ hx hby hml hown hnm hret hlk hZ X0 e0
  refine Go.cast (ef_18 m o a b) ?_
  show Go p e below _ s₁ (mkF m 0 #[sR o, sR a, sR b] [])
  refine g_aloadN X0 hx 1 (hb hby dbi_0) rfl rfl ?_
  refine Go.callI X0 hx (y := (⟨"java/lang/Record", "<init>", "()V"⟩ : MethodName)) rfl hown (mvT hZ (hW hw 48 rfl)) (mvT hZ (hW hw 49 rfl)) (mvT hZ (hW hw 52 rfl)) (by decide) (Ctr.back (W := 0) (rmRI l Z a0 hw o h0 n0) hZ (hW hw 52 rfl) (hW hw 51 rfl) (by (try dsimp only [room_1]); (try simp only [List.length_cons, List.length_nil]); omega) (by (try dsimp only [room_1]); (try simp only [List.length_cons, List.length_nil]); omega)) e0 (g := (mkF m 1 #[sR o, sR a, sR b] [vR o])) rfl (by rw [hml]; rfl) (a := o) (argsL := []) (rest := []) (lenOf pd_19 rfl) rfl (by show 2 * 0 + _ ≤ _; exact Nat.le_of_eq rfl) (hb hby dbi_1) rfl (by (try dsimp only [room_1]); (try simp only [List.length_cons, List.length_nil]); omega) (by (try dsimp only [room_1]); (try simp only [List.length_cons, List.length_nil]); omega) ?_
  rintro v T4 L4 X4 ⟨rfl, N4, e4⟩
  show Go p e below _ T4 (mkF m 4 #[sR o, sR a, sR b] [])
  refine g_aloadN X4 hx 5 (hb hby dbi_4) rfl rfl ?_
  refine g_aloadN X4 hx 6 (hb hby dbi_5) rfl rfl ?_
  obtain ⟨T5, h5, X5, e5, W5, st5⟩ := putF X4 hx hZ hown (host := "") (Or.inl (hW hw 54 rfl)) Via.refl e4 F1 E1 (Or.inr ⟨(hW hw 55 rfl), rfl, hnm⟩) (hW hw 40 rfl) (ty := (.object "java/lang/String")) (by decide) rfl rfl (g := (mkF m 6 #[sR o, sR a, sR b] [vR a, vR o])) rfl rfl (hb hby dbi_6)
  refine Go.st st5 ?_
  show Go p e below _ T5 (mkF m 9 #[sR o, sR a, sR b] [])
  refine g_aloadN X5 hx 10 (hb hby dbi_9) rfl rfl ?_
  refine g_aloadN X5 hx 11 (hb hby dbi_10) rfl rfl ?_
  have sn := slot_ne (Or.inr (hW hw 57 rfl)) (Or.inr (hW hw 55 rfl)) (by decide) (t := (.object "java/lang/String")) (t' := (.object "java/lang/String")) (by decide) (by decide)
  obtain ⟨T6, h6, X6, e6, W6, st6⟩ := putF X5 hx hZ hown (host := "") (Or.inl (hW hw 56 rfl)) Via.refl e5 (F2.other W5 (Or.inr sn)) (E1.wr W5) (Or.inr ⟨(hW hw 57 rfl), rfl, hnm⟩) (hW hw 40 rfl) (ty := (.object "java/lang/String")) (by decide) rfl rfl (g := (mkF m 11 #[sR o, sR a, sR b] [vR b, vR o])) rfl rfl (hb hby dbi_11)
  refine Go.st st6 ?_
  show Go p e below _ T6 (mkF m 14 #[sR o, sR a, sR b] [])
  have K6 : Keep h0 h6 [o] := ((Keep.refl h0 [o]).wr W5 (Or.inl (List.mem_cons_self ..))).wr W6 (Or.inl (List.mem_cons_self ..))
  exact Go.ret0 X6 hx hret hlk (hb hby dbi_14) ⟨rfl, Fr.snoc X6 (Fr.snoc X5 (Fr.app (Fr.nil n0) N4) hno) hno, e6 ▸ K6, e6 ▸ (E1.wr W5).wr W6, e6 ▸ (F2.other W5 (Or.inr sn)).same W6⟩ (by decide) (by decide)
def QR (r : Addr) (h0 : Heap) (n0 : Nat) (v : Option Value) (h : Heap) (L : List Loc) : Prop := v = some (.ref r) ∧ Fr n0 L ∧ h = h0
theorem dgd_0 : decode jdk_2448_method_6_code 0 = .ok (.getstatic 57, 3) := by decide +kernel
theorem dgd_3 : decode jdk_2448_method_6_code 3 = .ok (.areturn, 1) := by decide +kernel
set_option maxRecDepth 65536 in
set_option maxHeartbeats 40000000 in
theorem rmGD (l : Launch) (Z : State) (a0 : Array Value) (hw : ∀ d ∈ tables_1, d.before a0 Z = true) (dec : Addr) (SD : Sta Z Z.heap "java/util/Base64$Decoder" "RFC4648" "Ljava/util/Base64$Decoder;" (.ref dec)) (h0 : Heap) (n0 : Nat) (O : Ext Z.heap h0) :
    Ctr l Z (⟨"java/util/Base64", "getDecoder", "()Ljava/util/Base64$Decoder;"⟩ : MethodName) jdk_2448_method_6_code 0 (some (.object "java/util/Base64$Decoder")) [] ({ frames := 0, cells := 0, slots := 0, locals := 0 } : Room) #[] h0 (QR dec h0 n0) := by
  refine Ctr.of (plainFor_of_name pn_22) ?_
  intro p e s m below meth c s₁ hx hby hml hown hnm hret hlk hZ X0 e0
  refine Go.cast (ef_21 m ) ?_
  show Go p e below _ s₁ (mkF m 0 #[] [])
  refine g_getS X0 hx hZ hown (hW hw 67 rfl) e0 (SD.ext O) 3 (hb hby dgd_0) rfl ?_
  rintro T1 X1 e1
  exact Go.retV X1 hx hret hlk rfl rfl (hb hby dgd_3) ⟨rfl, Fr.nil n0, e1⟩ (by (try dsimp only [room_1]); (try simp only [List.length_cons, List.length_nil]); omega) (by (try dsimp only [room_1]); (try simp only [List.length_cons, List.length_nil]); omega)
theorem dco_0 : decode jdk_42_method_152_code 0 = .ok (.getstatic 38, 3) := by decide +kernel
theorem dco_3 : decode jdk_42_method_152_code 3 = .ok (.ifCond .eq 10, 3) := by decide +kernel
theorem dco_6 : decode jdk_42_method_152_code 6 = .ok (.aload_n 0, 1) := by decide +kernel
theorem dco_7 : decode jdk_42_method_152_code 7 = .ok (.getfield 15, 3) := by decide +kernel
theorem dco_10 : decode jdk_42_method_152_code 10 = .ok (.goto 4, 3) := by decide +kernel
theorem dco_14 : decode jdk_42_method_152_code 14 = .ok (.ireturn, 1) := by decide +kernel
set_option maxRecDepth 65536 in
set_option maxHeartbeats 40000000 in
theorem rmCO (l : Launch) (Z : State) (a0 : Array Value) (hw : ∀ d ∈ tables_1, d.before a0 Z = true) (z : Int32) (SC : Sta Z Z.heap "java/lang/String" "COMPACT_STRINGS" "Z" (.int z)) (nC : ¬ z = 0) (a : Addr) (h0 : Heap) (n0 : Nat) (O : Ext Z.heap h0) (Cd : Fld Z h0 a "java/lang/String" "coder" "B" (.int 0)) :
    Ctr l Z (⟨"java/lang/String", "coder", "()B"⟩ : MethodName) jdk_42_method_152_code 1 (some .byte) [] ({ frames := 0, cells := 0, slots := 0, locals := 0 } : Room) #[(.ref a)] h0 (QP 0 h0 n0) := by
  refine Ctr.of (plainFor_of_name pn_8) ?_
  intro p e s m below meth c s₁ hx hby hml hown hnm hret hlk hZ X0 e0
  refine Go.cast (ef_16 m a) ?_
  show Go p e below _ s₁ (mkF m 0 #[sR a] [])
  refine g_getS X0 hx hZ hown (hW hw 23 rfl) e0 (SC.ext O) 3 (hb hby dco_0) rfl ?_
  rintro T1 X1 e1
  refine g_ifN X1 hx 6 (hb hby dco_3) rfl (XT.i0_eq_f nC) ?_
  refine g_aloadN X1 hx 7 (hb hby dco_6) rfl rfl ?_
  refine g_getF X1 hx hZ hown (hW hw 35 rfl) e1 Cd 10 (hb hby dco_7) rfl ?_
  rintro T2 X2 e2
  refine g_goto X2 hx 14 (hb hby dco_10) (by decide) ?_
  exact Go.retB X2 hx hret hlk (Or.inr (Or.inl rfl)) (hb hby dco_14) ⟨rfl, Fr.nil n0, e2⟩ (by (try dsimp only [room_1]); (try simp only [List.length_cons, List.length_nil]); omega) (by (try dsimp only [room_1]); (try simp only [List.length_cons, List.length_nil]); omega)
def QCL (Z : State) (xs : List Int32) (h0 : Heap) (n0 : Nat) (v : Option Value) (h : Heap) (L : List Loc) : Prop := v = some (.ref h0.size) ∧ Fr n0 L ∧ Ext h0 h ∧ AI Z h h0.size .byte xs
theorem de3_0 : decode jdk_42_method_27_code 0 = .ok (.iload_n 0, 1) := by decide +kernel
theorem de3_1 : decode jdk_42_method_27_code 1 = .ok (.ifCond .ne 11, 3) := by decide +kernel
theorem de3_4 : decode jdk_42_method_27_code 4 = .ok (.aload_n 1, 1) := by decide +kernel
theorem de3_5 : decode jdk_42_method_27_code 5 = .ok (.invokevirtual 279, 3) := by decide +kernel
theorem de3_8 : decode jdk_42_method_27_code 8 = .ok (.checkcast 280, 3) := by decide +kernel
theorem de3_11 : decode jdk_42_method_27_code 11 = .ok (.areturn, 1) := by decide +kernel
set_option maxRecDepth 65536 in
set_option maxHeartbeats 40000000 in
theorem rmE3 (l : Launch) (Z : State) (a0 : Array Value) (hw : ∀ d ∈ tables_1, d.before a0 Z = true) (t : Addr) (xs : List Int32) (h0 : Heap) (n0 : Nat) (B : AI Z h0 t .byte xs) (Y : Exa Z h0 t "[B") :
    Ctr l Z (⟨"java/lang/String", "encode8859_1", "(B[BZ)[B"⟩ : MethodName) jdk_42_method_27_code 10 (some (.array .byte)) [] ({ frames := 1, cells := 1, slots := xs.length, locals := 14 } : Room) #[(.int (0 : Int32)), (.ref t), (.int (1 : Int32))] h0 (QCL Z xs h0 n0) := by
  refine Ctr.of (plainFor_of_name pn_8) ?_
  intro p e s m below meth c s₁ hx hby hml hown hnm hret hlk hZ X0 e0
  refine Go.cast (ef_23 m (0 : Int32) t (1 : Int32)) ?_
  show Go p e below _ s₁ (mkF m 0 #[sI 0, sR t, sI 1, .unset, .unset, .unset, .unset, .unset, .unset, .unset] [])
  refine g_iloadN X0 hx 1 (hb hby de3_0) rfl rfl ?_
  refine g_ifN X0 hx 4 (hb hby de3_1) rfl (XT.i0_ne_f (by decide)) ?_
  refine g_aloadN X0 hx 5 (hb hby de3_4) rfl rfl ?_
  refine Go.clone X0 hx hZ hown (hW hw 98 rfl) (hW hw 99 rfl) (hW hw 103 rfl) (hW hw 101 rfl) (hW hw 102 rfl) (hW hw 104 rfl) e0 B Y (g := (mkF m 5 #[sI 0, sR t, sI 1, .unset, .unset, .unset, .unset, .unset, .unset, .unset] [vR t])) rfl (by rw [hml]; rfl) rfl (hb hby de3_5) (by (try dsimp only [room_1]); (try simp only [List.length_cons, List.length_nil]); omega) (W := 0) (by show 2 * 0 + _ ≤ _; exact Nat.le_of_eq rfl) (by (try dsimp only [room_1]); (try simp only [List.length_cons, List.length_nil]); omega) (by (try dsimp only [room_1]); (try simp only [List.length_cons, List.length_nil]); omega) (by (try dsimp only [room_1]); (try simp only [List.length_cons, List.length_nil]); omega) ?_
  rintro T1 h1 X1 e1 E1 l1 B1 Y1
  show Go p e below _ T1 (mkF m 8 #[sI 0, sR t, sI 1, .unset, .unset, .unset, .unset, .unset, .unset, .unset] [(vR h0.size)])
  obtain ⟨T2, X2, e2, st2⟩ := castY X1 hx hZ hown (hW hw 105 rfl) e1 (Ins.self Y1) (g := (mkF m 8 #[sI 0, sR t, sI 1, .unset, .unset, .unset, .unset, .unset, .unset, .unset] [(vR h0.size)])) rfl rfl (hb hby de3_8)
  refine Go.st st2 ?_
  show Go p e below _ T2 (mkF m 11 #[sI 0, sR t, sI 1, .unset, .unset, .unset, .unset, .unset, .unset, .unset] [(vR h0.size)])
  exact Go.retV X2 hx hret hlk rfl rfl (hb hby de3_11) ⟨rfl, Fr.nil n0, e2 ▸ E1, e2 ▸ B1⟩ (by (try dsimp only [room_1]); (try simp only [List.length_cons, List.length_nil]); omega) (by (try dsimp only [room_1]); (try simp only [List.length_cons, List.length_nil]); omega)
theorem de2_0 : decode jdk_42_method_26_code 0 = .ok (.iload_n 0, 1) := by decide +kernel
theorem de2_1 : decode jdk_42_method_26_code 1 = .ok (.aload_n 1, 1) := by decide +kernel
theorem de2_2 : decode jdk_42_method_26_code 2 = .ok (.iconst 1, 1) := by decide +kernel
theorem de2_3 : decode jdk_42_method_26_code 3 = .ok (.invokestatic 351, 3) := by decide +kernel
theorem de2_6 : decode jdk_42_method_26_code 6 = .ok (.areturn, 1) := by decide +kernel
set_option maxRecDepth 65536 in
set_option maxHeartbeats 40000000 in
theorem rmE2 (l : Launch) (Z : State) (a0 : Array Value) (hw : ∀ d ∈ tables_1, d.before a0 Z = true) (t : Addr) (xs : List Int32) (h0 : Heap) (n0 : Nat) (B : AI Z h0 t .byte xs) (Y : Exa Z h0 t "[B") :
    Ctr l Z (⟨"java/lang/String", "encode8859_1", "(B[B)[B"⟩ : MethodName) jdk_42_method_26_code 2 (some (.array .byte)) [] ({ frames := 2, cells := 1, slots := xs.length, locals := 35 } : Room) #[(.int (0 : Int32)), (.ref t)] h0 (QCL Z xs h0 n0) := by
  refine Ctr.of (plainFor_of_name pn_8) ?_
  intro p e s m below meth c s₁ hx hby hml hown hnm hret hlk hZ X0 e0
  refine Go.cast (ef_24 m (0 : Int32) t) ?_
  show Go p e below _ s₁ (mkF m 0 #[sI 0, sR t] [])
  refine g_iloadN X0 hx 1 (hb hby de2_0) rfl rfl ?_
  refine g_aloadN X0 hx 2 (hb hby de2_1) rfl rfl ?_
  refine g_iconst X0 hx 3 (hb hby de2_2) rfl ki_1 ?_
  refine Go.callS X0 hx (y := (⟨"java/lang/String", "encode8859_1", "(B[BZ)[B"⟩ : MethodName)) hown (mvT hZ (hW hw 95 rfl)) (mvT hZ (hW hw 96 rfl)) (mvT hZ (hW hw 12 rfl)) (mvT hZ (hW hw 97 rfl)) (by decide) (Ctr.back (W := 0) (rmE3 l Z a0 hw t xs h0 n0 B Y) hZ (hW hw 97 rfl) (hW hw 12 rfl) (by (try dsimp only [room_1]); (try simp only [List.length_cons, List.length_nil]); omega) (by (try dsimp only [room_1]); (try simp only [List.length_cons, List.length_nil]); omega)) e0 (g := (mkF m 3 #[sI 0, sR t] [vI 1, vR t, vI 0])) rfl (by rw [hml]; rfl) (argsL := [vI 0, vR t, vI 1]) (rest := []) (lenOf pd_25 rfl) rfl (by show 2 * 0 + _ ≤ _; exact Nat.le_of_eq rfl) (hb hby de2_3) rfl (by (try dsimp only [room_1]); (try simp only [List.length_cons, List.length_nil]); omega) (by (try dsimp only [room_1]); (try simp only [List.length_cons, List.length_nil]); omega) ?_
  rintro _ T1 L1 X1 ⟨rfl, N1, R1⟩
  show Go p e below _ T1 (mkF m 6 #[sI 0, sR t] [(vR h0.size)])
  exact Go.retV X1 hx hret hlk rfl rfl (hb hby de2_6) ⟨rfl, Fr.app (Fr.nil n0) N1, R1⟩ (by (try dsimp only [room_1]); (try simp only [List.length_cons, List.length_nil]); omega) (by (try dsimp only [room_1]); (try simp only [List.length_cons, List.length_nil]); omega)
theorem den_0 : decode jdk_42_method_18_code 0 = .ok (.aload_n 0, 1) := by decide +kernel
theorem den_1 : decode jdk_42_method_18_code 1 = .ok (.getstatic 86, 3) := by decide +kernel
theorem den_4 : decode jdk_42_method_18_code 4 = .ok (.if_acmp .ne 10, 3) := by decide +kernel
theorem den_14 : decode jdk_42_method_18_code 14 = .ok (.aload_n 0, 1) := by decide +kernel
theorem den_15 : decode jdk_42_method_18_code 15 = .ok (.getstatic 116, 3) := by decide +kernel
theorem den_18 : decode jdk_42_method_18_code 18 = .ok (.if_acmp .ne 9, 3) := by decide +kernel
theorem den_21 : decode jdk_42_method_18_code 21 = .ok (.iload_n 1, 1) := by decide +kernel
theorem den_22 : decode jdk_42_method_18_code 22 = .ok (.aload_n 2, 1) := by decide +kernel
theorem den_23 : decode jdk_42_method_18_code 23 = .ok (.invokestatic 256, 3) := by decide +kernel
theorem den_26 : decode jdk_42_method_18_code 26 = .ok (.areturn, 1) := by decide +kernel
set_option maxRecDepth 65536 in
set_option maxHeartbeats 40000000 in
theorem rmEN (l : Launch) (Z : State) (a0 : Array Value) (hw : ∀ d ∈ tables_1, d.before a0 Z = true) (iso u8 : Addr) (SI : Sta Z Z.heap "sun/nio/cs/ISO_8859_1" "INSTANCE" "Lsun/nio/cs/ISO_8859_1;" (.ref iso)) (SU : Sta Z Z.heap "sun/nio/cs/UTF_8" "INSTANCE" "Lsun/nio/cs/UTF_8;" (.ref u8)) (hne : iso ≠ u8) (t : Addr) (xs : List Int32) (h0 : Heap) (n0 : Nat) (B : AI Z h0 t .byte xs) (Y : Exa Z h0 t "[B") (O : Ext Z.heap h0) :
    Ctr l Z (⟨"java/lang/String", "encode", "(Ljava/nio/charset/Charset;B[B)[B"⟩ : MethodName) jdk_42_method_18_code 3 (some (.array .byte)) [] ({ frames := 3, cells := 1, slots := xs.length, locals := 48 } : Room) #[(.ref iso), (.int (0 : Int32)), (.ref t)] h0 (QCL Z xs h0 n0) := by
  refine Ctr.of (plainFor_of_name pn_8) ?_
  intro p e s m below meth c s₁ hx hby hml hown hnm hret hlk hZ X0 e0
  refine Go.cast (ef_26 m iso (0 : Int32) t) ?_
  show Go p e below _ s₁ (mkF m 0 #[sR iso, sI 0, sR t] [])
  refine g_aloadN X0 hx 1 (hb hby den_0) rfl rfl ?_
  refine g_getS X0 hx hZ hown (hW hw 89 rfl) e0 (SU.ext O) 4 (hb hby den_1) rfl ?_
  rintro T1 X1 e1
  refine Go.st (fun _ k => XT.acmpYes X1.here hx rfl (pc0 := 4) (pc' := 14) rfl (hb hby den_4) rfl rfl rfl (XT.aa_ne_t (fun z => hne (Value.ref.inj z))) (by decide) (by decide) k) ?_
  show Go p e below _ T1 (mkF m 14 #[sR iso, sI 0, sR t] [])
  refine g_aloadN X1 hx 15 (hb hby den_14) rfl rfl ?_
  refine g_getS X1 hx hZ hown (hW hw 91 rfl) e1 (SI.ext O) 18 (hb hby den_15) rfl ?_
  rintro T2 X2 e2
  refine Go.st (fun _ k => XT.acmpNo X2.here hx rfl (hb hby den_18) rfl rfl rfl (XT.aa_ne_f rfl) k) ?_
  show Go p e below _ T2 (mkF m 21 #[sR iso, sI 0, sR t] [])
  refine g_iloadN X2 hx 22 (hb hby den_21) rfl rfl ?_
  refine g_aloadN X2 hx 23 (hb hby den_22) rfl rfl ?_
  refine Go.callS X2 hx (y := (⟨"java/lang/String", "encode8859_1", "(B[B)[B"⟩ : MethodName)) hown (mvT hZ (hW hw 92 rfl)) (mvT hZ (hW hw 93 rfl)) (mvT hZ (hW hw 12 rfl)) (mvT hZ (hW hw 94 rfl)) (by decide) (Ctr.back (W := 0) (rmE2 l Z a0 hw t xs h0 n0 B Y) hZ (hW hw 94 rfl) (hW hw 12 rfl) (by (try dsimp only [room_1]); (try simp only [List.length_cons, List.length_nil]); omega) (by (try dsimp only [room_1]); (try simp only [List.length_cons, List.length_nil]); omega)) e2 (g := (mkF m 23 #[sR iso, sI 0, sR t] [vR t, vI 0])) rfl (by rw [hml]; rfl) (argsL := [vI 0, vR t]) (rest := []) (lenOf pd_27 rfl) rfl (by show 2 * 0 + _ ≤ _; exact Nat.le_of_eq rfl) (hb hby den_23) rfl (by (try dsimp only [room_1]); (try simp only [List.length_cons, List.length_nil]); omega) (by (try dsimp only [room_1]); (try simp only [List.length_cons, List.length_nil]); omega) ?_
  rintro _ T3 L3 X3 ⟨rfl, N3, R3⟩
  show Go p e below _ T3 (mkF m 26 #[sR iso, sI 0, sR t] [(vR h0.size)])
  exact Go.retV X3 hx hret hlk rfl rfl (hb hby den_26) ⟨rfl, Fr.app (Fr.nil n0) N3, R3⟩ (by (try dsimp only [room_1]); (try simp only [List.length_cons, List.length_nil]); omega) (by (try dsimp only [room_1]); (try simp only [List.length_cons, List.length_nil]); omega)
theorem dgb_0 : decode jdk_42_method_64_code 0 = .ok (.aload_n 1, 1) := by decide +kernel
theorem dgb_1 : decode jdk_42_method_64_code 1 = .ok (.ifnonnull 11, 3) := by decide +kernel
theorem dgb_12 : decode jdk_42_method_64_code 12 = .ok (.aload_n 1, 1) := by decide +kernel
theorem dgb_13 : decode jdk_42_method_64_code 13 = .ok (.aload_n 0, 1) := by decide +kernel
theorem dgb_14 : decode jdk_42_method_64_code 14 = .ok (.invokevirtual 335, 3) := by decide +kernel
theorem dgb_17 : decode jdk_42_method_64_code 17 = .ok (.aload_n 0, 1) := by decide +kernel
theorem dgb_18 : decode jdk_42_method_64_code 18 = .ok (.getfield 9, 3) := by decide +kernel
theorem dgb_21 : decode jdk_42_method_64_code 21 = .ok (.invokestatic 535, 3) := by decide +kernel
theorem dgb_24 : decode jdk_42_method_64_code 24 = .ok (.areturn, 1) := by decide +kernel
set_option maxRecDepth 65536 in
set_option maxHeartbeats 40000000 in
theorem rmGB (l : Launch) (Z : State) (a0 : Array Value) (hw : ∀ d ∈ tables_1, d.before a0 Z = true) (z : Int32) (SC : Sta Z Z.heap "java/lang/String" "COMPACT_STRINGS" "Z" (.int z)) (nC : ¬ z = 0) (iso u8 : Addr) (SI : Sta Z Z.heap "sun/nio/cs/ISO_8859_1" "INSTANCE" "Lsun/nio/cs/ISO_8859_1;" (.ref iso)) (SU : Sta Z Z.heap "sun/nio/cs/UTF_8" "INSTANCE" "Lsun/nio/cs/UTF_8;" (.ref u8)) (hne : iso ≠ u8) (t : Addr) (xs : List Int32) (h0 : Heap) (n0 : Nat) (B : AI Z h0 t .byte xs) (Y : Exa Z h0 t "[B") (O : Ext Z.heap h0) (a : Addr) (E : Exa Z h0 a "java/lang/String") (Cd : Fld Z h0 a "java/lang/String" "coder" "B" (.int 0)) (V : Fld Z h0 a "java/lang/String" "value" "[B" (.ref t)) :
    Ctr l Z (⟨"java/lang/String", "getBytes", "(Ljava/nio/charset/Charset;)[B"⟩ : MethodName) jdk_42_method_64_code 2 (some (.array .byte)) [] ({ frames := 4, cells := 1, slots := xs.length, locals := 62 } : Room) #[(.ref a), (.ref iso)] h0 (QCL Z xs h0 n0) := by
  refine Ctr.of (plainFor_of_name pn_8) ?_
  intro p e s m below meth c s₁ hx hby hml hown hnm hret hlk hZ X0 e0
  refine Go.cast (ef_9 m a iso) ?_
  show Go p e below _ s₁ (mkF m 0 #[sR a, sR iso] [])
  refine g_aloadN X0 hx 1 (hb hby dgb_0) rfl rfl ?_
  refine Go.st (fun _ k => XT.ifnonnullYes X0.here hx rfl (pc0 := 1) (pc' := 12) rfl (hb hby dgb_1) rfl (by decide) (by decide) k) ?_
  show Go p e below _ s₁ (mkF m 12 #[sR a, sR iso] [])
  refine g_aloadN X0 hx 13 (hb hby dgb_12) rfl rfl ?_
  refine g_aloadN X0 hx 14 (hb hby dgb_13) rfl rfl ?_
  refine Go.callV X0 hx hZ (C := "java/lang/String") (y := (⟨"java/lang/String", "coder", "()B"⟩ : MethodName)) (z := (⟨"java/lang/String", "coder", "()B"⟩ : MethodName)) hown (mvT hZ (hW hw 81 rfl)) (mvT hZ (hW hw 82 rfl)) (mvT hZ (hW hw 84 rfl)) (mvT hZ (hW hw 83 rfl)) (by decide) (notFace_of_selects (args := #[]) (mvT hZ (hW hw 84 rfl))) (Ctr.back (W := 1) (rmCO l Z a0 hw z SC nC a h0 n0 O Cd) hZ (hW hw 85 rfl) (hW hw 12 rfl) (by (try dsimp only [room_1]); (try simp only [List.length_cons, List.length_nil]); omega) (by (try dsimp only [room_1]); (try simp only [List.length_cons, List.length_nil]); omega)) e0 E (g := (mkF m 14 #[sR a, sR iso] [vR a, vR iso])) rfl (by rw [hml]; rfl) (argsL := []) (rest := [vR iso]) (lenOf pd_28 rfl) rfl (by show 2 * 0 + _ ≤ _; exact Nat.le_of_eq rfl) (hb hby dgb_14) rfl (by (try dsimp only [room_1]); (try simp only [List.length_cons, List.length_nil]); omega) (by (try dsimp only [room_1]); (try simp only [List.length_cons, List.length_nil]); omega) ?_
  rintro _ T1 L1 X1 ⟨rfl, N1, e1⟩
  show Go p e below _ T1 (mkF m 17 #[sR a, sR iso] [vI 0, vR iso])
  refine g_aloadN X1 hx 18 (hb hby dgb_17) rfl rfl ?_
  refine g_getF X1 hx hZ hown (hW hw 37 rfl) e1 V 21 (hb hby dgb_18) rfl ?_
  rintro T2 X2 e2
  refine Go.callS X2 hx (y := (⟨"java/lang/String", "encode", "(Ljava/nio/charset/Charset;B[B)[B"⟩ : MethodName)) hown (mvT hZ (hW hw 86 rfl)) (mvT hZ (hW hw 87 rfl)) (mvT hZ (hW hw 12 rfl)) (mvT hZ (hW hw 88 rfl)) (by decide) (Ctr.back (W := 0) (rmEN l Z a0 hw iso u8 SI SU hne t xs h0 n0 B Y O) hZ (hW hw 88 rfl) (hW hw 12 rfl) (by (try dsimp only [room_1]); (try simp only [List.length_cons, List.length_nil]); omega) (by (try dsimp only [room_1]); (try simp only [List.length_cons, List.length_nil]); omega)) e2 (g := (mkF m 21 #[sR a, sR iso] [vR t, vI 0, vR iso])) rfl (by rw [hml]; rfl) (argsL := [vR iso, vI 0, vR t]) (rest := []) (lenOf pd_29 rfl) rfl (by show 2 * 0 + _ ≤ _; exact Nat.le_of_eq rfl) (hb hby dgb_21) rfl (by (try dsimp only [room_1]); (try simp only [List.length_cons, List.length_nil]); omega) (by (try dsimp only [room_1]); (try simp only [List.length_cons, List.length_nil]); omega) ?_
  rintro _ T3 L3 X3 ⟨rfl, N3, R3⟩
  show Go p e below _ T3 (mkF m 24 #[sR a, sR iso] [(vR h0.size)])
  exact Go.retV X3 hx hret hlk rfl rfl (hb hby dgb_24) ⟨rfl, Fr.app (Fr.app (Fr.nil n0) N1) N3, R3⟩ (by (try dsimp only [room_1]); (try simp only [List.length_cons, List.length_nil]); omega) (by (try dsimp only [room_1]); (try simp only [List.length_cons, List.length_nil]); omega)
theorem own_ext {h1 h2 h3 : Heap} (A : Ext h1 h2) (B : Ext h2 h3) : Ext h1 h3 := ⟨Nat.le_trans A.1 B.1, fun a c q => B.2 a c (A.2 a c q)⟩
def QD (Z : State) (val : Int32) (d : Addr) (xs : List Int32) (h0 : Heap) (n0 : Nat) (v : Option Value) (h : Heap) (L : List Loc) : Prop := v = some (.int val) ∧ Fr n0 L ∧ Keep h0 h [d] ∧ AI Z h d .byte xs
def QDE (Z : State) (xs : List Int32) (h0 : Heap) (n0 : Nat) (v : Option Value) (h : Heap) (L : List Loc) : Prop := ∃ r, v = some (.ref r) ∧ Fr n0 L ∧ Keep h0 h [] ∧ AI Z h r .byte xs
theorem ddl_0 : decode jdk_2450_method_7_code 0 = .ok (.aload_n 0, 1) := by decide +kernel
theorem ddl_1 : decode jdk_2450_method_7_code 1 = .ok (.getfield 7, 3) := by decide +kernel
theorem ddl_4 : decode jdk_2450_method_7_code 4 = .ok (.ifCond .eq 9, 3) := by decide +kernel
theorem ddl_13 : decode jdk_2450_method_7_code 13 = .ok (.getstatic 99, 3) := by decide +kernel
theorem ddl_16 : decode jdk_2450_method_7_code 16 = .ok (.astore 4, 2) := by decide +kernel
theorem ddl_18 : decode jdk_2450_method_7_code 18 = .ok (.iconst 0, 1) := by decide +kernel
theorem ddl_19 : decode jdk_2450_method_7_code 19 = .ok (.istore 5, 2) := by decide +kernel
theorem ddl_21 : decode jdk_2450_method_7_code 21 = .ok (.iload_n 3, 1) := by decide +kernel
theorem ddl_22 : decode jdk_2450_method_7_code 22 = .ok (.iload_n 2, 1) := by decide +kernel
theorem ddl_23 : decode jdk_2450_method_7_code 23 = .ok (.isub, 1) := by decide +kernel
theorem ddl_24 : decode jdk_2450_method_7_code 24 = .ok (.istore 6, 2) := by decide +kernel
theorem ddl_26 : decode jdk_2450_method_7_code 26 = .ok (.iload 6, 2) := by decide +kernel
theorem ddl_28 : decode jdk_2450_method_7_code 28 = .ok (.ifCond .ne 5, 3) := by decide +kernel
theorem ddl_31 : decode jdk_2450_method_7_code 31 = .ok (.iconst 0, 1) := by decide +kernel
theorem ddl_32 : decode jdk_2450_method_7_code 32 = .ok (.ireturn, 1) := by decide +kernel
set_option maxRecDepth 65536 in
set_option maxHeartbeats 40000000 in
theorem rmDL_0 (l : Launch) (Z : State) (a0 : Array Value) (hw : ∀ d ∈ tables_1, d.before a0 Z = true)  (dec tb : Addr) (SB : Sta Z Z.heap "java/util/Base64$Decoder" "fromBase64" "[I" (.ref tb)) (b : Addr) (h0 : Heap) (n0 : Nat) (O : Ext Z.heap h0) (E : Exa Z h0 dec "java/util/Base64$Decoder") (FU : Fld Z h0 dec "java/util/Base64$Decoder" "isURL" "Z" (.int 0)) (FM : Fld Z h0 dec "java/util/Base64$Decoder" "isMIME" "Z" (.int 0)) (Tb : AI Z h0 tb .int own_tab) (S : AI Z h0 b .byte ([] : List Int32)) :
    Ctr l Z (⟨"java/util/Base64$Decoder", "decodedOutLength", "([BII)I"⟩ : MethodName) jdk_2450_method_7_code 9 (some .int) [] ({ frames := 0, cells := 0, slots := 0, locals := 0 } : Room) #[(.ref dec), (.ref b), (.int (0 : Int32)), (.int (0 : Int32))] h0 (QP (0 : Int32) h0 n0) := by
  refine Ctr.of (plainFor_of_name pn_31) ?_
  intro p e s m below meth c s₁ hx hby hml hown hnm hret hlk hZ X0 e0
  refine Go.cast (ef_30 m dec b (0 : Int32) (0 : Int32)) ?_
  show Go p e below _ s₁ (mkF m 0 #[sR dec, sR b, sI 0, sI 0, .unset, .unset, .unset, .unset, .unset] [])
  refine g_aloadN X0 hx 1 (hb hby ddl_0) rfl rfl ?_
  refine g_getF X0 hx hZ hown (hW hw 117 rfl) e0 FU 4 (hb hby ddl_1) rfl ?_
  rintro T1 X1 e1
  refine g_ifY X1 hx 13 (hb hby ddl_4) (by decide) (XT.i0_eq_t (by decide)) ?_
  refine g_getS X1 hx hZ hown (hW hw 119 rfl) e1 (SB.ext O) 16 (hb hby ddl_13) rfl ?_
  rintro T2 X2 e2
  refine g_astore X2 hx #[sR dec, sR b, sI 0, sI 0, sR tb, .unset, .unset, .unset, .unset] 18 (hb hby ddl_16) rfl rfl ?_
  refine g_iconst X2 hx 19 (hb hby ddl_18) rfl ki_0 ?_
  refine g_istore X2 hx #[sR dec, sR b, sI 0, sI 0, sR tb, sI 0, .unset, .unset, .unset] 21 (hb hby ddl_19) rfl rfl ?_
  refine g_iloadN X2 hx 22 (hb hby ddl_21) rfl rfl ?_
  refine g_iloadN X2 hx 23 (hb hby ddl_22) rfl rfl ?_
  refine g_isub X2 hx 24 (hb hby ddl_23) rfl (by decide : (0 : Int32) - (0 : Int32) = (0 : Int32)) ?_
  refine g_istore X2 hx #[sR dec, sR b, sI 0, sI 0, sR tb, sI 0, sI 0, .unset, .unset] 26 (hb hby ddl_24) rfl rfl ?_
  refine g_iload X2 hx 28 (hb hby ddl_26) rfl rfl ?_
  refine g_ifN X2 hx 31 (hb hby ddl_28) rfl (XT.i0_ne_f (by decide)) ?_
  refine g_iconst X2 hx 32 (hb hby ddl_31) rfl ki_0 ?_
  exact Go.retI X2 hx hret hlk (hb hby ddl_32) ⟨rfl, Fr.nil n0, e2⟩ (by decide) (by decide)
theorem dd0_0 : decode jdk_2450_method_9_code 0 = .ok (.aload_n 0, 1) := by decide +kernel
theorem dd0_1 : decode jdk_2450_method_9_code 1 = .ok (.getfield 7, 3) := by decide +kernel
theorem dd0_4 : decode jdk_2450_method_9_code 4 = .ok (.ifCond .eq 9, 3) := by decide +kernel
theorem dd0_13 : decode jdk_2450_method_9_code 13 = .ok (.getstatic 99, 3) := by decide +kernel
theorem dd0_16 : decode jdk_2450_method_9_code 16 = .ok (.astore 5, 2) := by decide +kernel
theorem dd0_18 : decode jdk_2450_method_9_code 18 = .ok (.iconst 0, 1) := by decide +kernel
theorem dd0_19 : decode jdk_2450_method_9_code 19 = .ok (.istore 6, 2) := by decide +kernel
theorem dd0_21 : decode jdk_2450_method_9_code 21 = .ok (.iconst 0, 1) := by decide +kernel
theorem dd0_22 : decode jdk_2450_method_9_code 22 = .ok (.istore 7, 2) := by decide +kernel
theorem dd0_24 : decode jdk_2450_method_9_code 24 = .ok (.bipush 18, 2) := by decide +kernel
theorem dd0_26 : decode jdk_2450_method_9_code 26 = .ok (.istore 8, 2) := by decide +kernel
theorem dd0_28 : decode jdk_2450_method_9_code 28 = .ok (.iload_n 2, 1) := by decide +kernel
theorem dd0_29 : decode jdk_2450_method_9_code 29 = .ok (.iload_n 3, 1) := by decide +kernel
theorem dd0_30 : decode jdk_2450_method_9_code 30 = .ok (.if_icmp .ge 251, 3) := by decide +kernel
theorem dd0_281 : decode jdk_2450_method_9_code 281 = .ok (.iload 8, 2) := by decide +kernel
theorem dd0_283 : decode jdk_2450_method_9_code 283 = .ok (.bipush 6, 2) := by decide +kernel
theorem dd0_285 : decode jdk_2450_method_9_code 285 = .ok (.if_icmp .ne 20, 3) := by decide +kernel
theorem dd0_305 : decode jdk_2450_method_9_code 305 = .ok (.iload 8, 2) := by decide +kernel
theorem dd0_307 : decode jdk_2450_method_9_code 307 = .ok (.ifCond .ne 34, 3) := by decide +kernel
theorem dd0_341 : decode jdk_2450_method_9_code 341 = .ok (.iload 8, 2) := by decide +kernel
theorem dd0_343 : decode jdk_2450_method_9_code 343 = .ok (.bipush 12, 2) := by decide +kernel
theorem dd0_345 : decode jdk_2450_method_9_code 345 = .ok (.if_icmp .ne 13, 3) := by decide +kernel
theorem dd0_358 : decode jdk_2450_method_9_code 358 = .ok (.iload_n 2, 1) := by decide +kernel
theorem dd0_359 : decode jdk_2450_method_9_code 359 = .ok (.iload_n 3, 1) := by decide +kernel
theorem dd0_360 : decode jdk_2450_method_9_code 360 = .ok (.if_icmp .ge 56, 3) := by decide +kernel
theorem dd0_416 : decode jdk_2450_method_9_code 416 = .ok (.iload 6, 2) := by decide +kernel
theorem dd0_418 : decode jdk_2450_method_9_code 418 = .ok (.ireturn, 1) := by decide +kernel
set_option maxRecDepth 65536 in
set_option maxHeartbeats 40000000 in
theorem rmD0_0 (l : Launch) (Z : State) (a0 : Array Value) (hw : ∀ d ∈ tables_1, d.before a0 Z = true)  (dec tb : Addr) (SB : Sta Z Z.heap "java/util/Base64$Decoder" "fromBase64" "[I" (.ref tb)) (b : Addr) (h0 : Heap) (n0 : Nat) (O : Ext Z.heap h0) (E : Exa Z h0 dec "java/util/Base64$Decoder") (FU : Fld Z h0 dec "java/util/Base64$Decoder" "isURL" "Z" (.int 0)) (FM : Fld Z h0 dec "java/util/Base64$Decoder" "isMIME" "Z" (.int 0)) (Tb : AI Z h0 tb .int own_tab) (dst : Addr) (hnd : n0 ≤ dst) (nd1 : dec ≠ dst) (nd2 : tb ≠ dst) (nd3 : b ≠ dst) (S : AI Z h0 b .byte ([] : List Int32)) (D : AI Z h0 dst .byte (List.replicate 0 0)) :
    Ctr l Z (⟨"java/util/Base64$Decoder", "decode0", "([BII[B)I"⟩ : MethodName) jdk_2450_method_9_code 11 (some .int) [] ({ frames := 1, cells := 0, slots := 0, locals := 27 } : Room) #[(.ref dec), (.ref b), (.int (0 : Int32)), (.int (0 : Int32)), (.ref dst)] h0 (QD Z (0 : Int32) dst ([] : List Int32) h0 n0) := by
  refine Ctr.of (plainFor_of_name pn_31) ?_
  intro p e s m below meth c s₁ hx hby hml hown hnm hret hlk hZ X0 e0
  refine Go.cast (ef_32 m dec b (0 : Int32) (0 : Int32) dst) ?_
  show Go p e below _ s₁ (mkF m 0 #[sR dec, sR b, sI 0, sI 0, sR dst, .unset, .unset, .unset, .unset, .unset, .unset] [])
  refine g_aloadN X0 hx 1 (hb hby dd0_0) rfl rfl ?_
  refine g_getF X0 hx hZ hown (hW hw 117 rfl) e0 FU 4 (hb hby dd0_1) rfl ?_
  rintro T1 X1 e1
  refine g_ifY X1 hx 13 (hb hby dd0_4) (by decide) (XT.i0_eq_t (by decide)) ?_
  refine g_getS X1 hx hZ hown (hW hw 119 rfl) e1 (SB.ext O) 16 (hb hby dd0_13) rfl ?_
  rintro T2 X2 e2
  refine g_astore X2 hx #[sR dec, sR b, sI 0, sI 0, sR dst, sR tb, .unset, .unset, .unset, .unset, .unset] 18 (hb hby dd0_16) rfl rfl ?_
  refine g_iconst X2 hx 19 (hb hby dd0_18) rfl ki_0 ?_
  refine g_istore X2 hx #[sR dec, sR b, sI 0, sI 0, sR dst, sR tb, sI 0, .unset, .unset, .unset, .unset] 21 (hb hby dd0_19) rfl rfl ?_
  refine g_iconst X2 hx 22 (hb hby dd0_21) rfl ki_0 ?_
  refine g_istore X2 hx #[sR dec, sR b, sI 0, sI 0, sR dst, sR tb, sI 0, sI 0, .unset, .unset, .unset] 24 (hb hby dd0_22) rfl rfl ?_
  refine g_bipush X2 hx 26 (hb hby dd0_24) rfl kb_18 ?_
  refine g_istore X2 hx #[sR dec, sR b, sI 0, sI 0, sR dst, sR tb, sI 0, sI 0, sI 18, .unset, .unset] 28 (hb hby dd0_26) rfl rfl ?_
  refine g_iloadN X2 hx 29 (hb hby dd0_28) rfl rfl ?_
  refine g_iloadN X2 hx 30 (hb hby dd0_29) rfl rfl ?_
  refine g_icY X2 hx 281 (hb hby dd0_30) (by decide) (XT.ii_ge_t (by decide)) ?_
  refine g_iload X2 hx 283 (hb hby dd0_281) rfl rfl ?_
  refine g_bipush X2 hx 285 (hb hby dd0_283) rfl kb_6 ?_
  refine g_icY X2 hx 305 (hb hby dd0_285) (by decide) (XT.ii_ne_t (by decide)) ?_
  refine g_iload X2 hx 307 (hb hby dd0_305) rfl rfl ?_
  refine g_ifY X2 hx 341 (hb hby dd0_307) (by decide) (XT.i0_ne_t (by decide)) ?_
  refine g_iload X2 hx 343 (hb hby dd0_341) rfl rfl ?_
  refine g_bipush X2 hx 345 (hb hby dd0_343) rfl kb_12 ?_
  refine g_icY X2 hx 358 (hb hby dd0_345) (by decide) (XT.ii_ne_t (by decide)) ?_
  refine g_iloadN X2 hx 359 (hb hby dd0_358) rfl rfl ?_
  refine g_iloadN X2 hx 360 (hb hby dd0_359) rfl rfl ?_
  refine g_icY X2 hx 416 (hb hby dd0_360) (by decide) (XT.ii_ge_t (by decide)) ?_
  refine g_iload X2 hx 418 (hb hby dd0_416) rfl rfl ?_
  have Ad : AI Z h0 dst .byte ([] : List Int32) := D
  have Kd : Keep h0 h0 [dst] := (Keep.refl h0 [dst])
  exact Go.retI X2 hx hret hlk (hb hby dd0_418) ⟨rfl, (Fr.nil n0), e2 ▸ Kd, e2 ▸ Ad⟩ (by decide) (by decide)
theorem dde_0 : decode jdk_2450_method_2_code 0 = .ok (.aload_n 0, 1) := by decide +kernel
theorem dde_1 : decode jdk_2450_method_2_code 1 = .ok (.aload_n 1, 1) := by decide +kernel
theorem dde_2 : decode jdk_2450_method_2_code 2 = .ok (.iconst 0, 1) := by decide +kernel
theorem dde_3 : decode jdk_2450_method_2_code 3 = .ok (.aload_n 1, 1) := by decide +kernel
theorem dde_4 : decode jdk_2450_method_2_code 4 = .ok (.arraylength, 1) := by decide +kernel
theorem dde_5 : decode jdk_2450_method_2_code 5 = .ok (.invokevirtual 16, 3) := by decide +kernel
theorem dde_8 : decode jdk_2450_method_2_code 8 = .ok (.newarray .byte, 2) := by decide +kernel
theorem dde_10 : decode jdk_2450_method_2_code 10 = .ok (.astore_n 2, 1) := by decide +kernel
theorem dde_11 : decode jdk_2450_method_2_code 11 = .ok (.aload_n 0, 1) := by decide +kernel
theorem dde_12 : decode jdk_2450_method_2_code 12 = .ok (.aload_n 1, 1) := by decide +kernel
theorem dde_13 : decode jdk_2450_method_2_code 13 = .ok (.iconst 0, 1) := by decide +kernel
theorem dde_14 : decode jdk_2450_method_2_code 14 = .ok (.aload_n 1, 1) := by decide +kernel
theorem dde_15 : decode jdk_2450_method_2_code 15 = .ok (.arraylength, 1) := by decide +kernel
theorem dde_16 : decode jdk_2450_method_2_code 16 = .ok (.aload_n 2, 1) := by decide +kernel
theorem dde_17 : decode jdk_2450_method_2_code 17 = .ok (.invokevirtual 20, 3) := by decide +kernel
theorem dde_20 : decode jdk_2450_method_2_code 20 = .ok (.istore_n 3, 1) := by decide +kernel
theorem dde_21 : decode jdk_2450_method_2_code 21 = .ok (.iload_n 3, 1) := by decide +kernel
theorem dde_22 : decode jdk_2450_method_2_code 22 = .ok (.aload_n 2, 1) := by decide +kernel
theorem dde_23 : decode jdk_2450_method_2_code 23 = .ok (.arraylength, 1) := by decide +kernel
theorem dde_24 : decode jdk_2450_method_2_code 24 = .ok (.if_icmp .eq 9, 3) := by decide +kernel
theorem dde_33 : decode jdk_2450_method_2_code 33 = .ok (.aload_n 2, 1) := by decide +kernel
theorem dde_34 : decode jdk_2450_method_2_code 34 = .ok (.areturn, 1) := by decide +kernel
set_option maxRecDepth 65536 in
set_option maxHeartbeats 40000000 in
theorem rmDE_0 (l : Launch) (Z : State) (a0 : Array Value) (hw : ∀ d ∈ tables_1, d.before a0 Z = true)  (dec tb : Addr) (SB : Sta Z Z.heap "java/util/Base64$Decoder" "fromBase64" "[I" (.ref tb)) (b : Addr) (h0 : Heap) (n0 : Nat) (O : Ext Z.heap h0) (E : Exa Z h0 dec "java/util/Base64$Decoder") (FU : Fld Z h0 dec "java/util/Base64$Decoder" "isURL" "Z" (.int 0)) (FM : Fld Z h0 dec "java/util/Base64$Decoder" "isMIME" "Z" (.int 0)) (Tb : AI Z h0 tb .int own_tab) (Z0 : n0 ≤ h0.size) (S : AI Z h0 b .byte ([] : List Int32)) :
    Ctr l Z (⟨"java/util/Base64$Decoder", "decode", "([B)[B"⟩ : MethodName) jdk_2450_method_2_code 4 (some (.array .byte)) [] ({ frames := 2, cells := 1, slots := 6, locals := 49 } : Room) #[(.ref dec), (.ref b)] h0 (QDE Z ([] : List Int32) h0 n0) := by
  refine Ctr.of (plainFor_of_name pn_31) ?_
  intro p e s m below meth c s₁ hx hby hml hown hnm hret hlk hZ X0 e0
  refine Go.cast (ef_33 m dec b) ?_
  show Go p e below _ s₁ (mkF m 0 #[sR dec, sR b, .unset, .unset] [])
  refine g_aloadN X0 hx 1 (hb hby dde_0) rfl rfl ?_
  refine g_aloadN X0 hx 2 (hb hby dde_1) rfl rfl ?_
  refine g_iconst X0 hx 3 (hb hby dde_2) rfl ki_0 ?_
  refine g_aloadN X0 hx 4 (hb hby dde_3) rfl rfl ?_
  refine g_alen X0 hx hZ e0 S (z := 0) rfl 5 (hb hby dde_4) rfl ?_
  refine Go.callPV X0 hx (y := (⟨"java/util/Base64$Decoder", "decodedOutLength", "([BII)I"⟩ : MethodName)) hown (mvT hZ (hW hw 112 rfl)) (mvT hZ (hW hw 113 rfl)) (mvT hZ (hW hw 115 rfl)) (mvP hZ (hW hw 114 rfl)) (mvT hZ (hW hw 116 rfl)) (by decide) (Ctr.back (W := 0) (rmDL_0 l Z a0 hw   dec tb SB b h0 n0 O E FU FM Tb S) hZ (hW hw 116 rfl) (hW hw 68 rfl) (by decide) (by decide)) e0 E (g := (mkF m 5 #[sR dec, sR b, .unset, .unset] [vI 0, vI 0, vR b, vR dec])) rfl (by rw [hml]; rfl) (argsL := [vR b, vI 0, vI 0]) (rest := []) (lenOf pd_34 rfl) rfl (by show 2 * 0 + _ ≤ _; exact Nat.le_of_eq rfl) (hb hby dde_5) rfl (by decide) (by decide) ?_
  rintro _ T1 L1 X1 ⟨rfl, N1, e1⟩
  show Go p e below _ T1 (mkF m 8 #[sR dec, sR b, .unset, .unset] [vI 0])
  refine Go.newarr X1 hx hZ (ty := .byte) rfl rfl (hW hw 28 rfl) e1 (g := (mkF m 8 #[sR dec, sR b, .unset, .unset] [vI 0])) rfl (hb hby dde_8) rfl (n := 0) rfl (by decide) (by decide) (by decide) ?_
  rintro T2 h2 X2 e2 E2 l2 A2
  obtain ⟨a2, g2⟩ : ∃ z, z = h0.size := ⟨_, rfl⟩
  rw [← g2] at A2 l2 ⊢
  have sE2 := E2.1
  show Go p e below _ T2 (mkF m 10 #[sR dec, sR b, .unset, .unset] [vR a2])
  refine g_astoreN X2 hx #[sR dec, sR b, sR a2, .unset] 11 (hb hby dde_10) rfl rfl ?_
  refine g_aloadN X2 hx 12 (hb hby dde_11) rfl rfl ?_
  refine g_aloadN X2 hx 13 (hb hby dde_12) rfl rfl ?_
  refine g_iconst X2 hx 14 (hb hby dde_13) rfl ki_0 ?_
  refine g_aloadN X2 hx 15 (hb hby dde_14) rfl rfl ?_
  have q0 := E.lt
  have q1 := Tb.lt
  have q2 := S.lt
  have nd1 : dec ≠ a2 := Nat.ne_of_lt (Nat.lt_of_lt_of_eq q0 g2.symm)
  have nd2 : tb ≠ a2 := Nat.ne_of_lt (Nat.lt_of_lt_of_eq q1 g2.symm)
  have nd3 : b ≠ a2 := Nat.ne_of_lt (Nat.lt_of_lt_of_eq q2 g2.symm)
  refine g_alen X2 hx hZ e2 (S.ext E2) (z := 0) rfl 16 (hb hby dde_15) rfl ?_
  refine g_aloadN X2 hx 17 (hb hby dde_16) rfl rfl ?_
  refine Go.callPV X2 hx (y := (⟨"java/util/Base64$Decoder", "decode0", "([BII[B)I"⟩ : MethodName)) hown (mvT hZ (hW hw 124 rfl)) (mvT hZ (hW hw 125 rfl)) (mvT hZ (hW hw 127 rfl)) (mvP hZ (hW hw 126 rfl)) (mvT hZ (hW hw 128 rfl)) (by decide) (Ctr.back (W := 0) (rmD0_0 l Z a0 hw   dec tb SB b h2 n0 (own_ext O E2) (E.ext E2) (FU.ext E2) (FM.ext E2) (Tb.ext E2) a2 (by omega) nd1 nd2 nd3 (S.ext E2) A2) hZ (hW hw 128 rfl) (hW hw 68 rfl) (by decide) (by decide)) e2 (E.ext E2) (g := (mkF m 17 #[sR dec, sR b, sR a2, .unset] [vR a2, vI 0, vI 0, vR b, vR dec])) rfl (by rw [hml]; rfl) (argsL := [vR b, vI 0, vI 0, vR a2]) (rest := []) (lenOf pd_35 rfl) rfl (by show 2 * 0 + _ ≤ _; exact Nat.le_of_eq rfl) (hb hby dde_17) rfl (by decide) (by decide) ?_
  rintro _ T3 L3 X3 ⟨rfl, N3, K3, A3⟩
  show Go p e below _ T3 (mkF m 20 #[sR dec, sR b, sR a2, .unset] [vI 0])
  refine g_istoreN X3 hx #[sR dec, sR b, sR a2, sI 0] 21 (hb hby dde_20) rfl rfl ?_
  refine g_iloadN X3 hx 22 (hb hby dde_21) rfl rfl ?_
  refine g_aloadN X3 hx 23 (hb hby dde_22) rfl rfl ?_
  refine g_alen X3 hx hZ rfl A3 (z := 0) rfl 24 (hb hby dde_23) rfl ?_
  refine g_icY X3 hx 33 (hb hby dde_24) (by decide) (XT.ii_eq_t (by decide)) ?_
  refine g_aloadN X3 hx 34 (hb hby dde_33) rfl rfl ?_
  exact Go.retV X3 hx hret hlk rfl rfl (hb hby dde_34) ⟨a2, rfl, Fr.app (Fr.app (Fr.nil n0) N1) N3, ((Keep.refl h0 []).ext E2).trans K3 (fun x q => Or.inr (by cases List.mem_singleton.mp q; omega)), A3⟩ (by decide) (by decide)
theorem ddl_33 : decode jdk_2450_method_7_code 33 = .ok (.iload 6, 2) := by decide +kernel
theorem ddl_35 : decode jdk_2450_method_7_code 35 = .ok (.iconst 2, 1) := by decide +kernel
theorem ddl_36 : decode jdk_2450_method_7_code 36 = .ok (.if_icmp .ge 30, 3) := by decide +kernel
theorem ddl_66 : decode jdk_2450_method_7_code 66 = .ok (.aload_n 0, 1) := by decide +kernel
theorem ddl_67 : decode jdk_2450_method_7_code 67 = .ok (.getfield 13, 3) := by decide +kernel
theorem ddl_70 : decode jdk_2450_method_7_code 70 = .ok (.ifCond .eq 71, 3) := by decide +kernel
theorem ddl_141 : decode jdk_2450_method_7_code 141 = .ok (.aload_n 1, 1) := by decide +kernel
theorem ddl_142 : decode jdk_2450_method_7_code 142 = .ok (.iload_n 3, 1) := by decide +kernel
theorem ddl_143 : decode jdk_2450_method_7_code 143 = .ok (.iconst 1, 1) := by decide +kernel
theorem ddl_144 : decode jdk_2450_method_7_code 144 = .ok (.isub, 1) := by decide +kernel
theorem ddl_145 : decode jdk_2450_method_7_code 145 = .ok (.baload, 1) := by decide +kernel
theorem ddl_146 : decode jdk_2450_method_7_code 146 = .ok (.bipush 61, 2) := by decide +kernel
theorem ddl_148 : decode jdk_2450_method_7_code 148 = .ok (.if_icmp .ne 19, 3) := by decide +kernel
theorem ddl_151 : decode jdk_2450_method_7_code 151 = .ok (.iinc 5 1, 3) := by decide +kernel
theorem ddl_154 : decode jdk_2450_method_7_code 154 = .ok (.aload_n 1, 1) := by decide +kernel
theorem ddl_155 : decode jdk_2450_method_7_code 155 = .ok (.iload_n 3, 1) := by decide +kernel
theorem ddl_156 : decode jdk_2450_method_7_code 156 = .ok (.iconst 2, 1) := by decide +kernel
theorem ddl_157 : decode jdk_2450_method_7_code 157 = .ok (.isub, 1) := by decide +kernel
theorem ddl_158 : decode jdk_2450_method_7_code 158 = .ok (.baload, 1) := by decide +kernel
theorem ddl_159 : decode jdk_2450_method_7_code 159 = .ok (.bipush 61, 2) := by decide +kernel
theorem ddl_161 : decode jdk_2450_method_7_code 161 = .ok (.if_icmp .ne 6, 3) := by decide +kernel
theorem ddl_164 : decode jdk_2450_method_7_code 164 = .ok (.iinc 5 1, 3) := by decide +kernel
theorem ddl_167 : decode jdk_2450_method_7_code 167 = .ok (.iload 5, 2) := by decide +kernel
theorem ddl_169 : decode jdk_2450_method_7_code 169 = .ok (.ifCond .ne 18, 3) := by decide +kernel
theorem ddl_187 : decode jdk_2450_method_7_code 187 = .ok (.iconst 3, 1) := by decide +kernel
theorem ddl_188 : decode jdk_2450_method_7_code 188 = .ok (.iload 6, 2) := by decide +kernel
theorem ddl_190 : decode jdk_2450_method_7_code 190 = .ok (.i2l, 1) := by decide +kernel
theorem ddl_191 : decode jdk_2450_method_7_code 191 = .ok (.ldc2_w 107, 3) := by decide +kernel
theorem ddl_194 : decode jdk_2450_method_7_code 194 = .ok (.ladd, 1) := by decide +kernel
theorem ddl_195 : decode jdk_2450_method_7_code 195 = .ok (.ldc2_w 109, 3) := by decide +kernel
theorem ddl_198 : decode jdk_2450_method_7_code 198 = .ok (.ldiv, 1) := by decide +kernel
theorem ddl_199 : decode jdk_2450_method_7_code 199 = .ok (.l2i, 1) := by decide +kernel
theorem ddl_200 : decode jdk_2450_method_7_code 200 = .ok (.imul, 1) := by decide +kernel
theorem ddl_201 : decode jdk_2450_method_7_code 201 = .ok (.iload 5, 2) := by decide +kernel
theorem ddl_203 : decode jdk_2450_method_7_code 203 = .ok (.isub, 1) := by decide +kernel
theorem ddl_204 : decode jdk_2450_method_7_code 204 = .ok (.ireturn, 1) := by decide +kernel
set_option maxRecDepth 65536 in
set_option maxHeartbeats 40000000 in
theorem rmDL_1 (l : Launch) (Z : State) (a0 : Array Value) (hw : ∀ d ∈ tables_1, d.before a0 Z = true) (d0 v0 d1 v1 : Int32) (G0 : Dig d0 v0) (nn0 : ¬ v0 < 0) (G1 : Dig d1 v1) (nn1 : ¬ v1 < 0) (dec tb : Addr) (SB : Sta Z Z.heap "java/util/Base64$Decoder" "fromBase64" "[I" (.ref tb)) (b : Addr) (h0 : Heap) (n0 : Nat) (O : Ext Z.heap h0) (E : Exa Z h0 dec "java/util/Base64$Decoder") (FU : Fld Z h0 dec "java/util/Base64$Decoder" "isURL" "Z" (.int 0)) (FM : Fld Z h0 dec "java/util/Base64$Decoder" "isMIME" "Z" (.int 0)) (Tb : AI Z h0 tb .int own_tab) (S : AI Z h0 b .byte ([d0, d1, 61, 61] : List Int32)) :
    Ctr l Z (⟨"java/util/Base64$Decoder", "decodedOutLength", "([BII)I"⟩ : MethodName) jdk_2450_method_7_code 9 (some .int) [] ({ frames := 0, cells := 0, slots := 0, locals := 0 } : Room) #[(.ref dec), (.ref b), (.int (0 : Int32)), (.int (4 : Int32))] h0 (QP (1 : Int32) h0 n0) := by
  refine Ctr.of (plainFor_of_name pn_31) ?_
  intro p e s m below meth c s₁ hx hby hml hown hnm hret hlk hZ X0 e0
  refine Go.cast (ef_30 m dec b (0 : Int32) (4 : Int32)) ?_
  show Go p e below _ s₁ (mkF m 0 #[sR dec, sR b, sI 0, sI 4, .unset, .unset, .unset, .unset, .unset] [])
  obtain ⟨i0, hi0, ht0⟩ := id G0
  obtain ⟨i1, hi1, ht1⟩ := id G1
  refine g_aloadN X0 hx 1 (hb hby ddl_0) rfl rfl ?_
  refine g_getF X0 hx hZ hown (hW hw 117 rfl) e0 FU 4 (hb hby ddl_1) rfl ?_
  rintro T1 X1 e1
  refine g_ifY X1 hx 13 (hb hby ddl_4) (by decide) (XT.i0_eq_t (by decide)) ?_
  refine g_getS X1 hx hZ hown (hW hw 119 rfl) e1 (SB.ext O) 16 (hb hby ddl_13) rfl ?_
  rintro T2 X2 e2
  refine g_astore X2 hx #[sR dec, sR b, sI 0, sI 4, sR tb, .unset, .unset, .unset, .unset] 18 (hb hby ddl_16) rfl rfl ?_
  refine g_iconst X2 hx 19 (hb hby ddl_18) rfl ki_0 ?_
  refine g_istore X2 hx #[sR dec, sR b, sI 0, sI 4, sR tb, sI 0, .unset, .unset, .unset] 21 (hb hby ddl_19) rfl rfl ?_
  refine g_iloadN X2 hx 22 (hb hby ddl_21) rfl rfl ?_
  refine g_iloadN X2 hx 23 (hb hby ddl_22) rfl rfl ?_
  refine g_isub X2 hx 24 (hb hby ddl_23) rfl (by decide : (4 : Int32) - (0 : Int32) = (4 : Int32)) ?_
  refine g_istore X2 hx #[sR dec, sR b, sI 0, sI 4, sR tb, sI 0, sI 4, .unset, .unset] 26 (hb hby ddl_24) rfl rfl ?_
  refine g_iload X2 hx 28 (hb hby ddl_26) rfl rfl ?_
  refine g_ifY X2 hx 33 (hb hby ddl_28) (by decide) (XT.i0_ne_t (by decide)) ?_
  refine g_iload X2 hx 35 (hb hby ddl_33) rfl rfl ?_
  refine g_iconst X2 hx 36 (hb hby ddl_35) rfl ki_2 ?_
  refine g_icY X2 hx 66 (hb hby ddl_36) (by decide) (XT.ii_ge_t (by decide)) ?_
  refine g_aloadN X2 hx 67 (hb hby ddl_66) rfl rfl ?_
  refine g_getF X2 hx hZ hown (hW hw 120 rfl) e2 FM 70 (hb hby ddl_67) rfl ?_
  rintro T3 X3 e3
  refine g_ifY X3 hx 141 (hb hby ddl_70) (by decide) (XT.i0_eq_t (by decide)) ?_
  refine g_aloadN X3 hx 142 (hb hby ddl_141) rfl rfl ?_
  refine g_iloadN X3 hx 143 (hb hby ddl_142) rfl rfl ?_
  refine g_iconst X3 hx 144 (hb hby ddl_143) rfl ki_1 ?_
  refine g_isub X3 hx 145 (hb hby ddl_144) rfl (by decide : (4 : Int32) - (1 : Int32) = (3 : Int32)) ?_
  refine g_baload X3 hx hZ e3 S 3 (x := (61 : Int32)) rfl rfl 146 (hb hby ddl_145) rfl ?_
  refine g_bipush X3 hx 148 (hb hby ddl_146) rfl kb_61 ?_
  refine g_icN X3 hx 151 (hb hby ddl_148) rfl (XT.ii_ne_f (by decide)) ?_
  refine g_iinc X3 hx #[sR dec, sR b, sI 0, sI 4, sR tb, sI 1, sI 4, .unset, .unset] 154 (hb hby ddl_151) rfl rfl (by decide : (0 : Int32) + Int32.ofInt 1 = (1 : Int32)) rfl ?_
  refine g_aloadN X3 hx 155 (hb hby ddl_154) rfl rfl ?_
  refine g_iloadN X3 hx 156 (hb hby ddl_155) rfl rfl ?_
  refine g_iconst X3 hx 157 (hb hby ddl_156) rfl ki_2 ?_
  refine g_isub X3 hx 158 (hb hby ddl_157) rfl (by decide : (4 : Int32) - (2 : Int32) = (2 : Int32)) ?_
  refine g_baload X3 hx hZ e3 S 2 (x := (61 : Int32)) rfl rfl 159 (hb hby ddl_158) rfl ?_
  refine g_bipush X3 hx 161 (hb hby ddl_159) rfl kb_61 ?_
  refine g_icN X3 hx 164 (hb hby ddl_161) rfl (XT.ii_ne_f (by decide)) ?_
  refine g_iinc X3 hx #[sR dec, sR b, sI 0, sI 4, sR tb, sI 2, sI 4, .unset, .unset] 167 (hb hby ddl_164) rfl rfl (by decide : (1 : Int32) + Int32.ofInt 1 = (2 : Int32)) rfl ?_
  refine g_iload X3 hx 169 (hb hby ddl_167) rfl rfl ?_
  refine g_ifY X3 hx 187 (hb hby ddl_169) (by decide) (XT.i0_ne_t (by decide)) ?_
  refine g_iconst X3 hx 188 (hb hby ddl_187) rfl ki_3 ?_
  refine g_iload X3 hx 190 (hb hby ddl_188) rfl rfl ?_
  refine Go.st (fun _ k => XT.i2l X3.here hx rfl (hb hby ddl_190) rfl k) ?_
  show Go p e below _ T3 (mkF m 191 #[sR dec, sR b, sI 0, sI 4, sR tb, sI 2, sI 4, .unset, .unset] [(.long ((4 : Int32).toInt64)), vI 3])
  refine Go.st (fun _ k => X3.ldc2J hx hown (mvT hZ (hW hw 122 rfl)) rfl (hb hby ddl_191) k) ?_
  show Go p e below _ T3 (mkF m 194 #[sR dec, sR b, sI 0, sI 4, sR tb, sI 2, sI 4, .unset, .unset] [(.long (3 : Int64)), (.long ((4 : Int32).toInt64)), vI 3])
  refine Go.st (fun _ k => XT.ladd X3.here hx rfl (hb hby ddl_194) rfl k) ?_
  show Go p e below _ T3 (mkF m 195 #[sR dec, sR b, sI 0, sI 4, sR tb, sI 2, sI 4, .unset, .unset] [(.long (((4 : Int32).toInt64) + (3 : Int64))), vI 3])
  refine Go.st (fun _ k => X3.ldc2J hx hown (mvT hZ (hW hw 123 rfl)) rfl (hb hby ddl_195) k) ?_
  show Go p e below _ T3 (mkF m 198 #[sR dec, sR b, sI 0, sI 4, sR tb, sI 2, sI 4, .unset, .unset] [(.long (4 : Int64)), (.long (((4 : Int32).toInt64) + (3 : Int64))), vI 3])
  refine Go.st (fun _ k => XT.ldiv X3.here hx rfl (hb hby ddl_198) rfl (by decide) k) ?_
  show Go p e below _ T3 (mkF m 199 #[sR dec, sR b, sI 0, sI 4, sR tb, sI 2, sI 4, .unset, .unset] [(.long ((((4 : Int32).toInt64) + (3 : Int64)) / (4 : Int64))), vI 3])
  refine Go.st (fun _ k => XT.l2i X3.here hx rfl (hb hby ddl_199) rfl k) ?_
  show Go p e below _ T3 (mkF m 200 #[sR dec, sR b, sI 0, sI 4, sR tb, sI 2, sI 4, .unset, .unset] [(vI (((((4 : Int32).toInt64) + (3 : Int64)) / (4 : Int64)).toInt32)), vI 3])
  rw [show ((((4 : Int32).toInt64) + (3 : Int64)) / (4 : Int64)).toInt32 = (1 : Int32) from by decide]
  show Go p e below _ T3 (mkF m 200 #[sR dec, sR b, sI 0, sI 4, sR tb, sI 2, sI 4, .unset, .unset] [vI 1, vI 3])
  refine g_imul X3 hx 201 (hb hby ddl_200) rfl (by decide : (3 : Int32) * (1 : Int32) = (3 : Int32)) ?_
  refine g_iload X3 hx 203 (hb hby ddl_201) rfl rfl ?_
  refine g_isub X3 hx 204 (hb hby ddl_203) rfl (by decide : (3 : Int32) - (2 : Int32) = (1 : Int32)) ?_
  exact Go.retI X3 hx hret hlk (hb hby ddl_204) ⟨rfl, Fr.nil n0, e3⟩ (by decide) (by decide)
theorem dd0_33 : decode jdk_2450_method_9_code 33 = .ok (.iload 8, 2) := by decide +kernel
theorem dd0_35 : decode jdk_2450_method_9_code 35 = .ok (.bipush 18, 2) := by decide +kernel
theorem dd0_37 : decode jdk_2450_method_9_code 37 = .ok (.if_icmp .ne 53, 3) := by decide +kernel
theorem dd0_40 : decode jdk_2450_method_9_code 40 = .ok (.iload_n 2, 1) := by decide +kernel
theorem dd0_41 : decode jdk_2450_method_9_code 41 = .ok (.iload_n 3, 1) := by decide +kernel
theorem dd0_42 : decode jdk_2450_method_9_code 42 = .ok (.iconst 4, 1) := by decide +kernel
theorem dd0_43 : decode jdk_2450_method_9_code 43 = .ok (.isub, 1) := by decide +kernel
theorem dd0_44 : decode jdk_2450_method_9_code 44 = .ok (.if_icmp .ge 46, 3) := by decide +kernel
theorem dd0_90 : decode jdk_2450_method_9_code 90 = .ok (.iload_n 2, 1) := by decide +kernel
theorem dd0_91 : decode jdk_2450_method_9_code 91 = .ok (.iload_n 3, 1) := by decide +kernel
theorem dd0_92 : decode jdk_2450_method_9_code 92 = .ok (.if_icmp .lt 6, 3) := by decide +kernel
theorem dd0_98 : decode jdk_2450_method_9_code 98 = .ok (.aload_n 1, 1) := by decide +kernel
theorem dd0_99 : decode jdk_2450_method_9_code 99 = .ok (.iload_n 2, 1) := by decide +kernel
theorem dd0_100 : decode jdk_2450_method_9_code 100 = .ok (.iinc 2 1, 3) := by decide +kernel
theorem dd0_103 : decode jdk_2450_method_9_code 103 = .ok (.baload, 1) := by decide +kernel
theorem dd0_104 : decode jdk_2450_method_9_code 104 = .ok (.sipush 255, 3) := by decide +kernel
theorem dd0_107 : decode jdk_2450_method_9_code 107 = .ok (.iand, 1) := by decide +kernel
theorem dd0_108 : decode jdk_2450_method_9_code 108 = .ok (.istore 9, 2) := by decide +kernel
theorem dd0_110 : decode jdk_2450_method_9_code 110 = .ok (.aload 5, 2) := by decide +kernel
theorem dd0_112 : decode jdk_2450_method_9_code 112 = .ok (.iload 9, 2) := by decide +kernel
theorem dd0_114 : decode jdk_2450_method_9_code 114 = .ok (.iaload, 1) := by decide +kernel
theorem dd0_115 : decode jdk_2450_method_9_code 115 = .ok (.dup, 1) := by decide +kernel
theorem dd0_116 : decode jdk_2450_method_9_code 116 = .ok (.istore 9, 2) := by decide +kernel
theorem dd0_118 : decode jdk_2450_method_9_code 118 = .ok (.ifCond .ge 96, 3) := by decide +kernel
theorem dd0_121 : decode jdk_2450_method_9_code 121 = .ok (.iload 9, 2) := by decide +kernel
theorem dd0_123 : decode jdk_2450_method_9_code 123 = .ok (.bipush (-2), 2) := by decide +kernel
theorem dd0_125 : decode jdk_2450_method_9_code 125 = .ok (.if_icmp .ne 43, 3) := by decide +kernel
theorem dd0_128 : decode jdk_2450_method_9_code 128 = .ok (.iload 8, 2) := by decide +kernel
theorem dd0_130 : decode jdk_2450_method_9_code 130 = .ok (.bipush 6, 2) := by decide +kernel
theorem dd0_132 : decode jdk_2450_method_9_code 132 = .ok (.if_icmp .ne 19, 3) := by decide +kernel
theorem dd0_135 : decode jdk_2450_method_9_code 135 = .ok (.iload_n 2, 1) := by decide +kernel
theorem dd0_136 : decode jdk_2450_method_9_code 136 = .ok (.iload_n 3, 1) := by decide +kernel
theorem dd0_137 : decode jdk_2450_method_9_code 137 = .ok (.if_icmp .eq 21, 3) := by decide +kernel
theorem dd0_140 : decode jdk_2450_method_9_code 140 = .ok (.aload_n 1, 1) := by decide +kernel
theorem dd0_141 : decode jdk_2450_method_9_code 141 = .ok (.iload_n 2, 1) := by decide +kernel
theorem dd0_142 : decode jdk_2450_method_9_code 142 = .ok (.iinc 2 1, 3) := by decide +kernel
theorem dd0_145 : decode jdk_2450_method_9_code 145 = .ok (.baload, 1) := by decide +kernel
theorem dd0_146 : decode jdk_2450_method_9_code 146 = .ok (.bipush 61, 2) := by decide +kernel
theorem dd0_148 : decode jdk_2450_method_9_code 148 = .ok (.if_icmp .ne 10, 3) := by decide +kernel
theorem dd0_151 : decode jdk_2450_method_9_code 151 = .ok (.iload 8, 2) := by decide +kernel
theorem dd0_153 : decode jdk_2450_method_9_code 153 = .ok (.bipush 18, 2) := by decide +kernel
theorem dd0_155 : decode jdk_2450_method_9_code 155 = .ok (.if_icmp .ne 126, 3) := by decide +kernel
theorem dd0_214 : decode jdk_2450_method_9_code 214 = .ok (.iload 7, 2) := by decide +kernel
theorem dd0_216 : decode jdk_2450_method_9_code 216 = .ok (.iload 9, 2) := by decide +kernel
theorem dd0_218 : decode jdk_2450_method_9_code 218 = .ok (.iload 8, 2) := by decide +kernel
theorem dd0_220 : decode jdk_2450_method_9_code 220 = .ok (.ishl, 1) := by decide +kernel
theorem dd0_221 : decode jdk_2450_method_9_code 221 = .ok (.ior, 1) := by decide +kernel
theorem dd0_222 : decode jdk_2450_method_9_code 222 = .ok (.istore 7, 2) := by decide +kernel
theorem dd0_224 : decode jdk_2450_method_9_code 224 = .ok (.iinc 8 (-6), 3) := by decide +kernel
theorem dd0_227 : decode jdk_2450_method_9_code 227 = .ok (.iload 8, 2) := by decide +kernel
theorem dd0_229 : decode jdk_2450_method_9_code 229 = .ok (.ifCond .ge 49, 3) := by decide +kernel
theorem dd0_278 : decode jdk_2450_method_9_code 278 = .ok (.goto (-250), 3) := by decide +kernel
theorem dd0_288 : decode jdk_2450_method_9_code 288 = .ok (.aload 4, 2) := by decide +kernel
theorem dd0_290 : decode jdk_2450_method_9_code 290 = .ok (.iload 6, 2) := by decide +kernel
theorem dd0_292 : decode jdk_2450_method_9_code 292 = .ok (.iinc 6 1, 3) := by decide +kernel
theorem dd0_295 : decode jdk_2450_method_9_code 295 = .ok (.iload 7, 2) := by decide +kernel
theorem dd0_297 : decode jdk_2450_method_9_code 297 = .ok (.bipush 16, 2) := by decide +kernel
theorem dd0_299 : decode jdk_2450_method_9_code 299 = .ok (.ishr, 1) := by decide +kernel
theorem dd0_300 : decode jdk_2450_method_9_code 300 = .ok (.i2b, 1) := by decide +kernel
theorem dd0_301 : decode jdk_2450_method_9_code 301 = .ok (.bastore, 1) := by decide +kernel
theorem dd0_302 : decode jdk_2450_method_9_code 302 = .ok (.goto 56, 3) := by decide +kernel
set_option maxRecDepth 65536 in
set_option maxHeartbeats 40000000 in
theorem rmD0_1 (l : Launch) (Z : State) (a0 : Array Value) (hw : ∀ d ∈ tables_1, d.before a0 Z = true) (d0 v0 d1 v1 : Int32) (G0 : Dig d0 v0) (nn0 : ¬ v0 < 0) (G1 : Dig d1 v1) (nn1 : ¬ v1 < 0) (dec tb : Addr) (SB : Sta Z Z.heap "java/util/Base64$Decoder" "fromBase64" "[I" (.ref tb)) (b : Addr) (h0 : Heap) (n0 : Nat) (O : Ext Z.heap h0) (E : Exa Z h0 dec "java/util/Base64$Decoder") (FU : Fld Z h0 dec "java/util/Base64$Decoder" "isURL" "Z" (.int 0)) (FM : Fld Z h0 dec "java/util/Base64$Decoder" "isMIME" "Z" (.int 0)) (Tb : AI Z h0 tb .int own_tab) (dst : Addr) (hnd : n0 ≤ dst) (nd1 : dec ≠ dst) (nd2 : tb ≠ dst) (nd3 : b ≠ dst) (S : AI Z h0 b .byte ([d0, d1, 61, 61] : List Int32)) (D : AI Z h0 dst .byte (List.replicate 1 0)) :
    Ctr l Z (⟨"java/util/Base64$Decoder", "decode0", "([BII[B)I"⟩ : MethodName) jdk_2450_method_9_code 11 (some .int) [] ({ frames := 1, cells := 0, slots := 0, locals := 27 } : Room) #[(.ref dec), (.ref b), (.int (0 : Int32)), (.int (4 : Int32)), (.ref dst)] h0 (QD Z (1 : Int32) dst ([nar .byte (((((0 : Int32) ||| (v0 <<< ((18 : Int32) &&& 31))) ||| (v1 <<< ((12 : Int32) &&& 31))) >>> ((16 : Int32) &&& 31)).toInt8.toInt32)] : List Int32) h0 n0) := by
  refine Ctr.of (plainFor_of_name pn_31) ?_
  intro p e s m below meth c s₁ hx hby hml hown hnm hret hlk hZ X0 e0
  refine Go.cast (ef_32 m dec b (0 : Int32) (4 : Int32) dst) ?_
  show Go p e below _ s₁ (mkF m 0 #[sR dec, sR b, sI 0, sI 4, sR dst, .unset, .unset, .unset, .unset, .unset, .unset] [])
  obtain ⟨i0, hi0, ht0⟩ := id G0
  obtain ⟨i1, hi1, ht1⟩ := id G1
  refine g_aloadN X0 hx 1 (hb hby dd0_0) rfl rfl ?_
  refine g_getF X0 hx hZ hown (hW hw 117 rfl) e0 FU 4 (hb hby dd0_1) rfl ?_
  rintro T1 X1 e1
  refine g_ifY X1 hx 13 (hb hby dd0_4) (by decide) (XT.i0_eq_t (by decide)) ?_
  refine g_getS X1 hx hZ hown (hW hw 119 rfl) e1 (SB.ext O) 16 (hb hby dd0_13) rfl ?_
  rintro T2 X2 e2
  refine g_astore X2 hx #[sR dec, sR b, sI 0, sI 4, sR dst, sR tb, .unset, .unset, .unset, .unset, .unset] 18 (hb hby dd0_16) rfl rfl ?_
  refine g_iconst X2 hx 19 (hb hby dd0_18) rfl ki_0 ?_
  refine g_istore X2 hx #[sR dec, sR b, sI 0, sI 4, sR dst, sR tb, sI 0, .unset, .unset, .unset, .unset] 21 (hb hby dd0_19) rfl rfl ?_
  refine g_iconst X2 hx 22 (hb hby dd0_21) rfl ki_0 ?_
  refine g_istore X2 hx #[sR dec, sR b, sI 0, sI 4, sR dst, sR tb, sI 0, sI 0, .unset, .unset, .unset] 24 (hb hby dd0_22) rfl rfl ?_
  refine g_bipush X2 hx 26 (hb hby dd0_24) rfl kb_18 ?_
  refine g_istore X2 hx #[sR dec, sR b, sI 0, sI 4, sR dst, sR tb, sI 0, sI 0, sI 18, .unset, .unset] 28 (hb hby dd0_26) rfl rfl ?_
  refine g_iloadN X2 hx 29 (hb hby dd0_28) rfl rfl ?_
  refine g_iloadN X2 hx 30 (hb hby dd0_29) rfl rfl ?_
  refine g_icN X2 hx 33 (hb hby dd0_30) rfl (XT.ii_ge_f (by decide)) ?_
  refine g_iload X2 hx 35 (hb hby dd0_33) rfl rfl ?_
  refine g_bipush X2 hx 37 (hb hby dd0_35) rfl kb_18 ?_
  refine g_icN X2 hx 40 (hb hby dd0_37) rfl (XT.ii_ne_f (by decide)) ?_
  refine g_iloadN X2 hx 41 (hb hby dd0_40) rfl rfl ?_
  refine g_iloadN X2 hx 42 (hb hby dd0_41) rfl rfl ?_
  refine g_iconst X2 hx 43 (hb hby dd0_42) rfl ki_4 ?_
  refine g_isub X2 hx 44 (hb hby dd0_43) rfl (by decide : (4 : Int32) - (4 : Int32) = (0 : Int32)) ?_
  refine g_icY X2 hx 90 (hb hby dd0_44) (by decide) (XT.ii_ge_t (by decide)) ?_
  refine g_iloadN X2 hx 91 (hb hby dd0_90) rfl rfl ?_
  refine g_iloadN X2 hx 92 (hb hby dd0_91) rfl rfl ?_
  refine g_icY X2 hx 98 (hb hby dd0_92) (by decide) (XT.ii_lt_t (by decide)) ?_
  refine g_aloadN X2 hx 99 (hb hby dd0_98) rfl rfl ?_
  refine g_iloadN X2 hx 100 (hb hby dd0_99) rfl rfl ?_
  refine g_iinc X2 hx #[sR dec, sR b, sI 1, sI 4, sR dst, sR tb, sI 0, sI 0, sI 18, .unset, .unset] 103 (hb hby dd0_100) rfl rfl (by decide : (0 : Int32) + Int32.ofInt 1 = (1 : Int32)) rfl ?_
  refine g_baload X2 hx hZ e2 S 0 (x := d0) rfl rfl 104 (hb hby dd0_103) rfl ?_
  refine g_sipush X2 hx 107 (hb hby dd0_104) rfl ks_255 ?_
  refine g_iand X2 hx 108 (hb hby dd0_107) rfl rfl ?_
  refine g_istore X2 hx #[sR dec, sR b, sI 1, sI 4, sR dst, sR tb, sI 0, sI 0, sI 18, (sI (d0 &&& (255 : Int32))), .unset] 110 (hb hby dd0_108) rfl rfl ?_
  refine g_aload X2 hx 112 (hb hby dd0_110) rfl rfl ?_
  refine g_iload X2 hx 114 (hb hby dd0_112) rfl rfl ?_
  refine g_iaload X2 hx hZ e2 Tb i0 (x := v0) hi0 ht0 115 (hb hby dd0_114) rfl ?_
  refine g_dup X2 hx 116 (hb hby dd0_115) rfl rfl ?_
  refine g_istore X2 hx #[sR dec, sR b, sI 1, sI 4, sR dst, sR tb, sI 0, sI 0, sI 18, sI v0, .unset] 118 (hb hby dd0_116) rfl rfl ?_
  refine g_ifY X2 hx 214 (hb hby dd0_118) (by decide) (XT.i0_ge_t nn0) ?_
  refine g_iload X2 hx 216 (hb hby dd0_214) rfl rfl ?_
  refine g_iload X2 hx 218 (hb hby dd0_216) rfl rfl ?_
  refine g_iload X2 hx 220 (hb hby dd0_218) rfl rfl ?_
  refine g_ishl X2 hx 221 (hb hby dd0_220) rfl rfl ?_
  refine g_ior X2 hx 222 (hb hby dd0_221) rfl rfl ?_
  refine g_istore X2 hx #[sR dec, sR b, sI 1, sI 4, sR dst, sR tb, sI 0, (sI ((0 : Int32) ||| (v0 <<< ((18 : Int32) &&& 31)))), sI 18, sI v0, .unset] 224 (hb hby dd0_222) rfl rfl ?_
  refine g_iinc X2 hx #[sR dec, sR b, sI 1, sI 4, sR dst, sR tb, sI 0, (sI ((0 : Int32) ||| (v0 <<< ((18 : Int32) &&& 31)))), sI 12, sI v0, .unset] 227 (hb hby dd0_224) rfl rfl (by decide : (18 : Int32) + Int32.ofInt (-6) = (12 : Int32)) rfl ?_
  refine g_iload X2 hx 229 (hb hby dd0_227) rfl rfl ?_
  refine g_ifY X2 hx 278 (hb hby dd0_229) (by decide) (XT.i0_ge_t (by decide)) ?_
  refine g_goto X2 hx 28 (hb hby dd0_278) (by decide) ?_
  refine g_iloadN X2 hx 29 (hb hby dd0_28) rfl rfl ?_
  refine g_iloadN X2 hx 30 (hb hby dd0_29) rfl rfl ?_
  refine g_icN X2 hx 33 (hb hby dd0_30) rfl (XT.ii_ge_f (by decide)) ?_
  refine g_iload X2 hx 35 (hb hby dd0_33) rfl rfl ?_
  refine g_bipush X2 hx 37 (hb hby dd0_35) rfl kb_18 ?_
  refine g_icY X2 hx 90 (hb hby dd0_37) (by decide) (XT.ii_ne_t (by decide)) ?_
  refine g_iloadN X2 hx 91 (hb hby dd0_90) rfl rfl ?_
  refine g_iloadN X2 hx 92 (hb hby dd0_91) rfl rfl ?_
  refine g_icY X2 hx 98 (hb hby dd0_92) (by decide) (XT.ii_lt_t (by decide)) ?_
  refine g_aloadN X2 hx 99 (hb hby dd0_98) rfl rfl ?_
  refine g_iloadN X2 hx 100 (hb hby dd0_99) rfl rfl ?_
  refine g_iinc X2 hx #[sR dec, sR b, sI 2, sI 4, sR dst, sR tb, sI 0, (sI ((0 : Int32) ||| (v0 <<< ((18 : Int32) &&& 31)))), sI 12, sI v0, .unset] 103 (hb hby dd0_100) rfl rfl (by decide : (1 : Int32) + Int32.ofInt 1 = (2 : Int32)) rfl ?_
  refine g_baload X2 hx hZ e2 S 1 (x := d1) rfl rfl 104 (hb hby dd0_103) rfl ?_
  refine g_sipush X2 hx 107 (hb hby dd0_104) rfl ks_255 ?_
  refine g_iand X2 hx 108 (hb hby dd0_107) rfl rfl ?_
  refine g_istore X2 hx #[sR dec, sR b, sI 2, sI 4, sR dst, sR tb, sI 0, (sI ((0 : Int32) ||| (v0 <<< ((18 : Int32) &&& 31)))), sI 12, (sI (d1 &&& (255 : Int32))), .unset] 110 (hb hby dd0_108) rfl rfl ?_
  refine g_aload X2 hx 112 (hb hby dd0_110) rfl rfl ?_
  refine g_iload X2 hx 114 (hb hby dd0_112) rfl rfl ?_
  refine g_iaload X2 hx hZ e2 Tb i1 (x := v1) hi1 ht1 115 (hb hby dd0_114) rfl ?_
  refine g_dup X2 hx 116 (hb hby dd0_115) rfl rfl ?_
  refine g_istore X2 hx #[sR dec, sR b, sI 2, sI 4, sR dst, sR tb, sI 0, (sI ((0 : Int32) ||| (v0 <<< ((18 : Int32) &&& 31)))), sI 12, sI v1, .unset] 118 (hb hby dd0_116) rfl rfl ?_
  refine g_ifY X2 hx 214 (hb hby dd0_118) (by decide) (XT.i0_ge_t nn1) ?_
  refine g_iload X2 hx 216 (hb hby dd0_214) rfl rfl ?_
  refine g_iload X2 hx 218 (hb hby dd0_216) rfl rfl ?_
  refine g_iload X2 hx 220 (hb hby dd0_218) rfl rfl ?_
  refine g_ishl X2 hx 221 (hb hby dd0_220) rfl rfl ?_
  refine g_ior X2 hx 222 (hb hby dd0_221) rfl rfl ?_
  refine g_istore X2 hx #[sR dec, sR b, sI 2, sI 4, sR dst, sR tb, sI 0, (sI (((0 : Int32) ||| (v0 <<< ((18 : Int32) &&& 31))) ||| (v1 <<< ((12 : Int32) &&& 31)))), sI 12, sI v1, .unset] 224 (hb hby dd0_222) rfl rfl ?_
  refine g_iinc X2 hx #[sR dec, sR b, sI 2, sI 4, sR dst, sR tb, sI 0, (sI (((0 : Int32) ||| (v0 <<< ((18 : Int32) &&& 31))) ||| (v1 <<< ((12 : Int32) &&& 31)))), sI 6, sI v1, .unset] 227 (hb hby dd0_224) rfl rfl (by decide : (12 : Int32) + Int32.ofInt (-6) = (6 : Int32)) rfl ?_
  refine g_iload X2 hx 229 (hb hby dd0_227) rfl rfl ?_
  refine g_ifY X2 hx 278 (hb hby dd0_229) (by decide) (XT.i0_ge_t (by decide)) ?_
  refine g_goto X2 hx 28 (hb hby dd0_278) (by decide) ?_
  refine g_iloadN X2 hx 29 (hb hby dd0_28) rfl rfl ?_
  refine g_iloadN X2 hx 30 (hb hby dd0_29) rfl rfl ?_
  refine g_icN X2 hx 33 (hb hby dd0_30) rfl (XT.ii_ge_f (by decide)) ?_
  refine g_iload X2 hx 35 (hb hby dd0_33) rfl rfl ?_
  refine g_bipush X2 hx 37 (hb hby dd0_35) rfl kb_18 ?_
  refine g_icY X2 hx 90 (hb hby dd0_37) (by decide) (XT.ii_ne_t (by decide)) ?_
  refine g_iloadN X2 hx 91 (hb hby dd0_90) rfl rfl ?_
  refine g_iloadN X2 hx 92 (hb hby dd0_91) rfl rfl ?_
  refine g_icY X2 hx 98 (hb hby dd0_92) (by decide) (XT.ii_lt_t (by decide)) ?_
  refine g_aloadN X2 hx 99 (hb hby dd0_98) rfl rfl ?_
  refine g_iloadN X2 hx 100 (hb hby dd0_99) rfl rfl ?_
  refine g_iinc X2 hx #[sR dec, sR b, sI 3, sI 4, sR dst, sR tb, sI 0, (sI (((0 : Int32) ||| (v0 <<< ((18 : Int32) &&& 31))) ||| (v1 <<< ((12 : Int32) &&& 31)))), sI 6, sI v1, .unset] 103 (hb hby dd0_100) rfl rfl (by decide : (2 : Int32) + Int32.ofInt 1 = (3 : Int32)) rfl ?_
  refine g_baload X2 hx hZ e2 S 2 (x := (61 : Int32)) rfl rfl 104 (hb hby dd0_103) rfl ?_
  refine g_sipush X2 hx 107 (hb hby dd0_104) rfl ks_255 ?_
  refine g_iand X2 hx 108 (hb hby dd0_107) rfl (by decide : (61 : Int32) &&& (255 : Int32) = (61 : Int32)) ?_
  refine g_istore X2 hx #[sR dec, sR b, sI 3, sI 4, sR dst, sR tb, sI 0, (sI (((0 : Int32) ||| (v0 <<< ((18 : Int32) &&& 31))) ||| (v1 <<< ((12 : Int32) &&& 31)))), sI 6, sI 61, .unset] 110 (hb hby dd0_108) rfl rfl ?_
  refine g_aload X2 hx 112 (hb hby dd0_110) rfl rfl ?_
  refine g_iload X2 hx 114 (hb hby dd0_112) rfl rfl ?_
  refine g_iaload X2 hx hZ e2 Tb 61 (x := (-2 : Int32)) rfl (by decide) 115 (hb hby dd0_114) rfl ?_
  refine g_dup X2 hx 116 (hb hby dd0_115) rfl rfl ?_
  refine g_istore X2 hx #[sR dec, sR b, sI 3, sI 4, sR dst, sR tb, sI 0, (sI (((0 : Int32) ||| (v0 <<< ((18 : Int32) &&& 31))) ||| (v1 <<< ((12 : Int32) &&& 31)))), sI 6, (sI (-2)), .unset] 118 (hb hby dd0_116) rfl rfl ?_
  refine g_ifN X2 hx 121 (hb hby dd0_118) rfl (XT.i0_ge_f (by decide)) ?_
  refine g_iload X2 hx 123 (hb hby dd0_121) rfl rfl ?_
  refine g_bipush X2 hx 125 (hb hby dd0_123) rfl kb_m2 ?_
  refine g_icN X2 hx 128 (hb hby dd0_125) rfl (XT.ii_ne_f (by decide)) ?_
  refine g_iload X2 hx 130 (hb hby dd0_128) rfl rfl ?_
  refine g_bipush X2 hx 132 (hb hby dd0_130) rfl kb_6 ?_
  refine g_icN X2 hx 135 (hb hby dd0_132) rfl (XT.ii_ne_f (by decide)) ?_
  refine g_iloadN X2 hx 136 (hb hby dd0_135) rfl rfl ?_
  refine g_iloadN X2 hx 137 (hb hby dd0_136) rfl rfl ?_
  refine g_icN X2 hx 140 (hb hby dd0_137) rfl (XT.ii_eq_f (by decide)) ?_
  refine g_aloadN X2 hx 141 (hb hby dd0_140) rfl rfl ?_
  refine g_iloadN X2 hx 142 (hb hby dd0_141) rfl rfl ?_
  refine g_iinc X2 hx #[sR dec, sR b, sI 4, sI 4, sR dst, sR tb, sI 0, (sI (((0 : Int32) ||| (v0 <<< ((18 : Int32) &&& 31))) ||| (v1 <<< ((12 : Int32) &&& 31)))), sI 6, (sI (-2)), .unset] 145 (hb hby dd0_142) rfl rfl (by decide : (3 : Int32) + Int32.ofInt 1 = (4 : Int32)) rfl ?_
  refine g_baload X2 hx hZ e2 S 3 (x := (61 : Int32)) rfl rfl 146 (hb hby dd0_145) rfl ?_
  refine g_bipush X2 hx 148 (hb hby dd0_146) rfl kb_61 ?_
  refine g_icN X2 hx 151 (hb hby dd0_148) rfl (XT.ii_ne_f (by decide)) ?_
  refine g_iload X2 hx 153 (hb hby dd0_151) rfl rfl ?_
  refine g_bipush X2 hx 155 (hb hby dd0_153) rfl kb_18 ?_
  refine g_icY X2 hx 281 (hb hby dd0_155) (by decide) (XT.ii_ne_t (by decide)) ?_
  refine g_iload X2 hx 283 (hb hby dd0_281) rfl rfl ?_
  refine g_bipush X2 hx 285 (hb hby dd0_283) rfl kb_6 ?_
  refine g_icN X2 hx 288 (hb hby dd0_285) rfl (XT.ii_ne_f (by decide)) ?_
  refine g_aload X2 hx 290 (hb hby dd0_288) rfl rfl ?_
  refine g_iload X2 hx 292 (hb hby dd0_290) rfl rfl ?_
  refine g_iinc X2 hx #[sR dec, sR b, sI 4, sI 4, sR dst, sR tb, sI 1, (sI (((0 : Int32) ||| (v0 <<< ((18 : Int32) &&& 31))) ||| (v1 <<< ((12 : Int32) &&& 31)))), sI 6, (sI (-2)), .unset] 295 (hb hby dd0_292) rfl rfl (by decide : (0 : Int32) + Int32.ofInt 1 = (1 : Int32)) rfl ?_
  refine g_iload X2 hx 297 (hb hby dd0_295) rfl rfl ?_
  refine g_bipush X2 hx 299 (hb hby dd0_297) rfl kb_16 ?_
  refine g_ishr X2 hx 300 (hb hby dd0_299) rfl rfl ?_
  refine g_i2b X2 hx 301 (hb hby dd0_300) rfl ?_
  refine g_bastore X2 hx hZ e2 D 0 rfl (by simp) 302 (hb hby dd0_301) rfl ?_
  rintro T3 h3 X3 e3 W3 A3
  have sW3 := W3.size
  have S3 := S.other W3 nd3
  have Tb3 := Tb.other W3 nd2
  have K3 := (Keep.refl h0 [dst]).wr W3 (Or.inl (List.mem_cons_self ..))
  have N3 := Fr.snoc X3 (Fr.nil n0) hnd
  refine g_goto X3 hx 358 (hb hby dd0_302) (by decide) ?_
  refine g_iloadN X3 hx 359 (hb hby dd0_358) rfl rfl ?_
  refine g_iloadN X3 hx 360 (hb hby dd0_359) rfl rfl ?_
  refine g_icY X3 hx 416 (hb hby dd0_360) (by decide) (XT.ii_ge_t (by decide)) ?_
  refine g_iload X3 hx 418 (hb hby dd0_416) rfl rfl ?_
  have Ad : AI Z h3 dst .byte ([nar .byte (((((0 : Int32) ||| (v0 <<< ((18 : Int32) &&& 31))) ||| (v1 <<< ((12 : Int32) &&& 31))) >>> ((16 : Int32) &&& 31)).toInt8.toInt32)] : List Int32) := A3
  have Kd : Keep h0 h3 [dst] := K3
  exact Go.retI X3 hx hret hlk (hb hby dd0_418) ⟨rfl, N3, e3 ▸ Kd, e3 ▸ Ad⟩ (by decide) (by decide)
set_option maxRecDepth 65536 in
set_option maxHeartbeats 40000000 in
theorem rmDE_1 (l : Launch) (Z : State) (a0 : Array Value) (hw : ∀ d ∈ tables_1, d.before a0 Z = true) (d0 v0 d1 v1 : Int32) (G0 : Dig d0 v0) (nn0 : ¬ v0 < 0) (G1 : Dig d1 v1) (nn1 : ¬ v1 < 0) (dec tb : Addr) (SB : Sta Z Z.heap "java/util/Base64$Decoder" "fromBase64" "[I" (.ref tb)) (b : Addr) (h0 : Heap) (n0 : Nat) (O : Ext Z.heap h0) (E : Exa Z h0 dec "java/util/Base64$Decoder") (FU : Fld Z h0 dec "java/util/Base64$Decoder" "isURL" "Z" (.int 0)) (FM : Fld Z h0 dec "java/util/Base64$Decoder" "isMIME" "Z" (.int 0)) (Tb : AI Z h0 tb .int own_tab) (Z0 : n0 ≤ h0.size) (S : AI Z h0 b .byte ([d0, d1, 61, 61] : List Int32)) :
    Ctr l Z (⟨"java/util/Base64$Decoder", "decode", "([B)[B"⟩ : MethodName) jdk_2450_method_2_code 4 (some (.array .byte)) [] ({ frames := 2, cells := 1, slots := 6, locals := 49 } : Room) #[(.ref dec), (.ref b)] h0 (QDE Z ([nar .byte (((((0 : Int32) ||| (v0 <<< ((18 : Int32) &&& 31))) ||| (v1 <<< ((12 : Int32) &&& 31))) >>> ((16 : Int32) &&& 31)).toInt8.toInt32)] : List Int32) h0 n0) := by
  refine Ctr.of (plainFor_of_name pn_31) ?_
  intro p e s m below meth c s₁ hx hby hml hown hnm hret hlk hZ X0 e0
  refine Go.cast (ef_33 m dec b) ?_
  show Go p e below _ s₁ (mkF m 0 #[sR dec, sR b, .unset, .unset] [])
  refine g_aloadN X0 hx 1 (hb hby dde_0) rfl rfl ?_
  refine g_aloadN X0 hx 2 (hb hby dde_1) rfl rfl ?_
  refine g_iconst X0 hx 3 (hb hby dde_2) rfl ki_0 ?_
  refine g_aloadN X0 hx 4 (hb hby dde_3) rfl rfl ?_
  refine g_alen X0 hx hZ e0 S (z := 4) rfl 5 (hb hby dde_4) rfl ?_
  refine Go.callPV X0 hx (y := (⟨"java/util/Base64$Decoder", "decodedOutLength", "([BII)I"⟩ : MethodName)) hown (mvT hZ (hW hw 112 rfl)) (mvT hZ (hW hw 113 rfl)) (mvT hZ (hW hw 115 rfl)) (mvP hZ (hW hw 114 rfl)) (mvT hZ (hW hw 116 rfl)) (by decide) (Ctr.back (W := 0) (rmDL_1 l Z a0 hw d0 v0 d1 v1 G0 nn0 G1 nn1 dec tb SB b h0 n0 O E FU FM Tb S) hZ (hW hw 116 rfl) (hW hw 68 rfl) (by decide) (by decide)) e0 E (g := (mkF m 5 #[sR dec, sR b, .unset, .unset] [vI 4, vI 0, vR b, vR dec])) rfl (by rw [hml]; rfl) (argsL := [vR b, vI 0, vI 4]) (rest := []) (lenOf pd_34 rfl) rfl (by show 2 * 0 + _ ≤ _; exact Nat.le_of_eq rfl) (hb hby dde_5) rfl (by decide) (by decide) ?_
  rintro _ T1 L1 X1 ⟨rfl, N1, e1⟩
  show Go p e below _ T1 (mkF m 8 #[sR dec, sR b, .unset, .unset] [vI 1])
  refine Go.newarr X1 hx hZ (ty := .byte) rfl rfl (hW hw 28 rfl) e1 (g := (mkF m 8 #[sR dec, sR b, .unset, .unset] [vI 1])) rfl (hb hby dde_8) rfl (n := 1) rfl (by decide) (by decide) (by decide) ?_
  rintro T2 h2 X2 e2 E2 l2 A2
  obtain ⟨a2, g2⟩ : ∃ z, z = h0.size := ⟨_, rfl⟩
  rw [← g2] at A2 l2 ⊢
  have sE2 := E2.1
  show Go p e below _ T2 (mkF m 10 #[sR dec, sR b, .unset, .unset] [vR a2])
  refine g_astoreN X2 hx #[sR dec, sR b, sR a2, .unset] 11 (hb hby dde_10) rfl rfl ?_
  refine g_aloadN X2 hx 12 (hb hby dde_11) rfl rfl ?_
  refine g_aloadN X2 hx 13 (hb hby dde_12) rfl rfl ?_
  refine g_iconst X2 hx 14 (hb hby dde_13) rfl ki_0 ?_
  refine g_aloadN X2 hx 15 (hb hby dde_14) rfl rfl ?_
  have q0 := E.lt
  have q1 := Tb.lt
  have q2 := S.lt
  have nd1 : dec ≠ a2 := Nat.ne_of_lt (Nat.lt_of_lt_of_eq q0 g2.symm)
  have nd2 : tb ≠ a2 := Nat.ne_of_lt (Nat.lt_of_lt_of_eq q1 g2.symm)
  have nd3 : b ≠ a2 := Nat.ne_of_lt (Nat.lt_of_lt_of_eq q2 g2.symm)
  refine g_alen X2 hx hZ e2 (S.ext E2) (z := 4) rfl 16 (hb hby dde_15) rfl ?_
  refine g_aloadN X2 hx 17 (hb hby dde_16) rfl rfl ?_
  refine Go.callPV X2 hx (y := (⟨"java/util/Base64$Decoder", "decode0", "([BII[B)I"⟩ : MethodName)) hown (mvT hZ (hW hw 124 rfl)) (mvT hZ (hW hw 125 rfl)) (mvT hZ (hW hw 127 rfl)) (mvP hZ (hW hw 126 rfl)) (mvT hZ (hW hw 128 rfl)) (by decide) (Ctr.back (W := 0) (rmD0_1 l Z a0 hw d0 v0 d1 v1 G0 nn0 G1 nn1 dec tb SB b h2 n0 (own_ext O E2) (E.ext E2) (FU.ext E2) (FM.ext E2) (Tb.ext E2) a2 (by omega) nd1 nd2 nd3 (S.ext E2) A2) hZ (hW hw 128 rfl) (hW hw 68 rfl) (by decide) (by decide)) e2 (E.ext E2) (g := (mkF m 17 #[sR dec, sR b, sR a2, .unset] [vR a2, vI 4, vI 0, vR b, vR dec])) rfl (by rw [hml]; rfl) (argsL := [vR b, vI 0, vI 4, vR a2]) (rest := []) (lenOf pd_35 rfl) rfl (by show 2 * 0 + _ ≤ _; exact Nat.le_of_eq rfl) (hb hby dde_17) rfl (by decide) (by decide) ?_
  rintro _ T3 L3 X3 ⟨rfl, N3, K3, A3⟩
  show Go p e below _ T3 (mkF m 20 #[sR dec, sR b, sR a2, .unset] [vI 1])
  refine g_istoreN X3 hx #[sR dec, sR b, sR a2, sI 1] 21 (hb hby dde_20) rfl rfl ?_
  refine g_iloadN X3 hx 22 (hb hby dde_21) rfl rfl ?_
  refine g_aloadN X3 hx 23 (hb hby dde_22) rfl rfl ?_
  refine g_alen X3 hx hZ rfl A3 (z := 1) rfl 24 (hb hby dde_23) rfl ?_
  refine g_icY X3 hx 33 (hb hby dde_24) (by decide) (XT.ii_eq_t (by decide)) ?_
  refine g_aloadN X3 hx 34 (hb hby dde_33) rfl rfl ?_
  exact Go.retV X3 hx hret hlk rfl rfl (hb hby dde_34) ⟨a2, rfl, Fr.app (Fr.app (Fr.nil n0) N1) N3, ((Keep.refl h0 []).ext E2).trans K3 (fun x q => Or.inr (by cases List.mem_singleton.mp q; omega)), A3⟩ (by decide) (by decide)
set_option maxRecDepth 65536 in
set_option maxHeartbeats 40000000 in
theorem rmDL_2 (l : Launch) (Z : State) (a0 : Array Value) (hw : ∀ d ∈ tables_1, d.before a0 Z = true) (d0 v0 d1 v1 d2 v2 : Int32) (G0 : Dig d0 v0) (nn0 : ¬ v0 < 0) (G1 : Dig d1 v1) (nn1 : ¬ v1 < 0) (G2 : Dig d2 v2) (nn2 : ¬ v2 < 0) (h61 : ¬ d2 = 61) (dec tb : Addr) (SB : Sta Z Z.heap "java/util/Base64$Decoder" "fromBase64" "[I" (.ref tb)) (b : Addr) (h0 : Heap) (n0 : Nat) (O : Ext Z.heap h0) (E : Exa Z h0 dec "java/util/Base64$Decoder") (FU : Fld Z h0 dec "java/util/Base64$Decoder" "isURL" "Z" (.int 0)) (FM : Fld Z h0 dec "java/util/Base64$Decoder" "isMIME" "Z" (.int 0)) (Tb : AI Z h0 tb .int own_tab) (S : AI Z h0 b .byte ([d0, d1, d2, 61] : List Int32)) :
    Ctr l Z (⟨"java/util/Base64$Decoder", "decodedOutLength", "([BII)I"⟩ : MethodName) jdk_2450_method_7_code 9 (some .int) [] ({ frames := 0, cells := 0, slots := 0, locals := 0 } : Room) #[(.ref dec), (.ref b), (.int (0 : Int32)), (.int (4 : Int32))] h0 (QP (2 : Int32) h0 n0) := by
  refine Ctr.of (plainFor_of_name pn_31) ?_
  intro p e s m below meth c s₁ hx hby hml hown hnm hret hlk hZ X0 e0
  refine Go.cast (ef_30 m dec b (0 : Int32) (4 : Int32)) ?_
  show Go p e below _ s₁ (mkF m 0 #[sR dec, sR b, sI 0, sI 4, .unset, .unset, .unset, .unset, .unset] [])
  obtain ⟨i0, hi0, ht0⟩ := id G0
  obtain ⟨i1, hi1, ht1⟩ := id G1
  obtain ⟨i2, hi2, ht2⟩ := id G2
  refine g_aloadN X0 hx 1 (hb hby ddl_0) rfl rfl ?_
  refine g_getF X0 hx hZ hown (hW hw 117 rfl) e0 FU 4 (hb hby ddl_1) rfl ?_
  rintro T1 X1 e1
  refine g_ifY X1 hx 13 (hb hby ddl_4) (by decide) (XT.i0_eq_t (by decide)) ?_
  refine g_getS X1 hx hZ hown (hW hw 119 rfl) e1 (SB.ext O) 16 (hb hby ddl_13) rfl ?_
  rintro T2 X2 e2
  refine g_astore X2 hx #[sR dec, sR b, sI 0, sI 4, sR tb, .unset, .unset, .unset, .unset] 18 (hb hby ddl_16) rfl rfl ?_
  refine g_iconst X2 hx 19 (hb hby ddl_18) rfl ki_0 ?_
  refine g_istore X2 hx #[sR dec, sR b, sI 0, sI 4, sR tb, sI 0, .unset, .unset, .unset] 21 (hb hby ddl_19) rfl rfl ?_
  refine g_iloadN X2 hx 22 (hb hby ddl_21) rfl rfl ?_
  refine g_iloadN X2 hx 23 (hb hby ddl_22) rfl rfl ?_
  refine g_isub X2 hx 24 (hb hby ddl_23) rfl (by decide : (4 : Int32) - (0 : Int32) = (4 : Int32)) ?_
  refine g_istore X2 hx #[sR dec, sR b, sI 0, sI 4, sR tb, sI 0, sI 4, .unset, .unset] 26 (hb hby ddl_24) rfl rfl ?_
  refine g_iload X2 hx 28 (hb hby ddl_26) rfl rfl ?_
  refine g_ifY X2 hx 33 (hb hby ddl_28) (by decide) (XT.i0_ne_t (by decide)) ?_
  refine g_iload X2 hx 35 (hb hby ddl_33) rfl rfl ?_
  refine g_iconst X2 hx 36 (hb hby ddl_35) rfl ki_2 ?_
  refine g_icY X2 hx 66 (hb hby ddl_36) (by decide) (XT.ii_ge_t (by decide)) ?_
  refine g_aloadN X2 hx 67 (hb hby ddl_66) rfl rfl ?_
  refine g_getF X2 hx hZ hown (hW hw 120 rfl) e2 FM 70 (hb hby ddl_67) rfl ?_
  rintro T3 X3 e3
  refine g_ifY X3 hx 141 (hb hby ddl_70) (by decide) (XT.i0_eq_t (by decide)) ?_
  refine g_aloadN X3 hx 142 (hb hby ddl_141) rfl rfl ?_
  refine g_iloadN X3 hx 143 (hb hby ddl_142) rfl rfl ?_
  refine g_iconst X3 hx 144 (hb hby ddl_143) rfl ki_1 ?_
  refine g_isub X3 hx 145 (hb hby ddl_144) rfl (by decide : (4 : Int32) - (1 : Int32) = (3 : Int32)) ?_
  refine g_baload X3 hx hZ e3 S 3 (x := (61 : Int32)) rfl rfl 146 (hb hby ddl_145) rfl ?_
  refine g_bipush X3 hx 148 (hb hby ddl_146) rfl kb_61 ?_
  refine g_icN X3 hx 151 (hb hby ddl_148) rfl (XT.ii_ne_f (by decide)) ?_
  refine g_iinc X3 hx #[sR dec, sR b, sI 0, sI 4, sR tb, sI 1, sI 4, .unset, .unset] 154 (hb hby ddl_151) rfl rfl (by decide : (0 : Int32) + Int32.ofInt 1 = (1 : Int32)) rfl ?_
  refine g_aloadN X3 hx 155 (hb hby ddl_154) rfl rfl ?_
  refine g_iloadN X3 hx 156 (hb hby ddl_155) rfl rfl ?_
  refine g_iconst X3 hx 157 (hb hby ddl_156) rfl ki_2 ?_
  refine g_isub X3 hx 158 (hb hby ddl_157) rfl (by decide : (4 : Int32) - (2 : Int32) = (2 : Int32)) ?_
  refine g_baload X3 hx hZ e3 S 2 (x := d2) rfl rfl 159 (hb hby ddl_158) rfl ?_
  refine g_bipush X3 hx 161 (hb hby ddl_159) rfl kb_61 ?_
  refine g_icY X3 hx 167 (hb hby ddl_161) (by decide) (XT.ii_ne_t h61) ?_
  refine g_iload X3 hx 169 (hb hby ddl_167) rfl rfl ?_
  refine g_ifY X3 hx 187 (hb hby ddl_169) (by decide) (XT.i0_ne_t (by decide)) ?_
  refine g_iconst X3 hx 188 (hb hby ddl_187) rfl ki_3 ?_
  refine g_iload X3 hx 190 (hb hby ddl_188) rfl rfl ?_
  refine Go.st (fun _ k => XT.i2l X3.here hx rfl (hb hby ddl_190) rfl k) ?_
  show Go p e below _ T3 (mkF m 191 #[sR dec, sR b, sI 0, sI 4, sR tb, sI 1, sI 4, .unset, .unset] [(.long ((4 : Int32).toInt64)), vI 3])
  refine Go.st (fun _ k => X3.ldc2J hx hown (mvT hZ (hW hw 122 rfl)) rfl (hb hby ddl_191) k) ?_
  show Go p e below _ T3 (mkF m 194 #[sR dec, sR b, sI 0, sI 4, sR tb, sI 1, sI 4, .unset, .unset] [(.long (3 : Int64)), (.long ((4 : Int32).toInt64)), vI 3])
  refine Go.st (fun _ k => XT.ladd X3.here hx rfl (hb hby ddl_194) rfl k) ?_
  show Go p e below _ T3 (mkF m 195 #[sR dec, sR b, sI 0, sI 4, sR tb, sI 1, sI 4, .unset, .unset] [(.long (((4 : Int32).toInt64) + (3 : Int64))), vI 3])
  refine Go.st (fun _ k => X3.ldc2J hx hown (mvT hZ (hW hw 123 rfl)) rfl (hb hby ddl_195) k) ?_
  show Go p e below _ T3 (mkF m 198 #[sR dec, sR b, sI 0, sI 4, sR tb, sI 1, sI 4, .unset, .unset] [(.long (4 : Int64)), (.long (((4 : Int32).toInt64) + (3 : Int64))), vI 3])
  refine Go.st (fun _ k => XT.ldiv X3.here hx rfl (hb hby ddl_198) rfl (by decide) k) ?_
  show Go p e below _ T3 (mkF m 199 #[sR dec, sR b, sI 0, sI 4, sR tb, sI 1, sI 4, .unset, .unset] [(.long ((((4 : Int32).toInt64) + (3 : Int64)) / (4 : Int64))), vI 3])
  refine Go.st (fun _ k => XT.l2i X3.here hx rfl (hb hby ddl_199) rfl k) ?_
  show Go p e below _ T3 (mkF m 200 #[sR dec, sR b, sI 0, sI 4, sR tb, sI 1, sI 4, .unset, .unset] [(vI (((((4 : Int32).toInt64) + (3 : Int64)) / (4 : Int64)).toInt32)), vI 3])
  rw [show ((((4 : Int32).toInt64) + (3 : Int64)) / (4 : Int64)).toInt32 = (1 : Int32) from by decide]
  show Go p e below _ T3 (mkF m 200 #[sR dec, sR b, sI 0, sI 4, sR tb, sI 1, sI 4, .unset, .unset] [vI 1, vI 3])
  refine g_imul X3 hx 201 (hb hby ddl_200) rfl (by decide : (3 : Int32) * (1 : Int32) = (3 : Int32)) ?_
  refine g_iload X3 hx 203 (hb hby ddl_201) rfl rfl ?_
  refine g_isub X3 hx 204 (hb hby ddl_203) rfl (by decide : (3 : Int32) - (1 : Int32) = (2 : Int32)) ?_
  exact Go.retI X3 hx hret hlk (hb hby ddl_204) ⟨rfl, Fr.nil n0, e3⟩ (by decide) (by decide)
theorem dd0_310 : decode jdk_2450_method_9_code 310 = .ok (.aload 4, 2) := by decide +kernel
theorem dd0_312 : decode jdk_2450_method_9_code 312 = .ok (.iload 6, 2) := by decide +kernel
theorem dd0_314 : decode jdk_2450_method_9_code 314 = .ok (.iinc 6 1, 3) := by decide +kernel
theorem dd0_317 : decode jdk_2450_method_9_code 317 = .ok (.iload 7, 2) := by decide +kernel
theorem dd0_319 : decode jdk_2450_method_9_code 319 = .ok (.bipush 16, 2) := by decide +kernel
theorem dd0_321 : decode jdk_2450_method_9_code 321 = .ok (.ishr, 1) := by decide +kernel
theorem dd0_322 : decode jdk_2450_method_9_code 322 = .ok (.i2b, 1) := by decide +kernel
theorem dd0_323 : decode jdk_2450_method_9_code 323 = .ok (.bastore, 1) := by decide +kernel
theorem dd0_324 : decode jdk_2450_method_9_code 324 = .ok (.aload 4, 2) := by decide +kernel
theorem dd0_326 : decode jdk_2450_method_9_code 326 = .ok (.iload 6, 2) := by decide +kernel
theorem dd0_328 : decode jdk_2450_method_9_code 328 = .ok (.iinc 6 1, 3) := by decide +kernel
theorem dd0_331 : decode jdk_2450_method_9_code 331 = .ok (.iload 7, 2) := by decide +kernel
theorem dd0_333 : decode jdk_2450_method_9_code 333 = .ok (.bipush 8, 2) := by decide +kernel
theorem dd0_335 : decode jdk_2450_method_9_code 335 = .ok (.ishr, 1) := by decide +kernel
theorem dd0_336 : decode jdk_2450_method_9_code 336 = .ok (.i2b, 1) := by decide +kernel
theorem dd0_337 : decode jdk_2450_method_9_code 337 = .ok (.bastore, 1) := by decide +kernel
theorem dd0_338 : decode jdk_2450_method_9_code 338 = .ok (.goto 20, 3) := by decide +kernel
set_option maxRecDepth 65536 in
set_option maxHeartbeats 40000000 in
theorem rmD0_2 (l : Launch) (Z : State) (a0 : Array Value) (hw : ∀ d ∈ tables_1, d.before a0 Z = true) (d0 v0 d1 v1 d2 v2 : Int32) (G0 : Dig d0 v0) (nn0 : ¬ v0 < 0) (G1 : Dig d1 v1) (nn1 : ¬ v1 < 0) (G2 : Dig d2 v2) (nn2 : ¬ v2 < 0) (h61 : ¬ d2 = 61) (dec tb : Addr) (SB : Sta Z Z.heap "java/util/Base64$Decoder" "fromBase64" "[I" (.ref tb)) (b : Addr) (h0 : Heap) (n0 : Nat) (O : Ext Z.heap h0) (E : Exa Z h0 dec "java/util/Base64$Decoder") (FU : Fld Z h0 dec "java/util/Base64$Decoder" "isURL" "Z" (.int 0)) (FM : Fld Z h0 dec "java/util/Base64$Decoder" "isMIME" "Z" (.int 0)) (Tb : AI Z h0 tb .int own_tab) (dst : Addr) (hnd : n0 ≤ dst) (nd1 : dec ≠ dst) (nd2 : tb ≠ dst) (nd3 : b ≠ dst) (S : AI Z h0 b .byte ([d0, d1, d2, 61] : List Int32)) (D : AI Z h0 dst .byte (List.replicate 2 0)) :
    Ctr l Z (⟨"java/util/Base64$Decoder", "decode0", "([BII[B)I"⟩ : MethodName) jdk_2450_method_9_code 11 (some .int) [] ({ frames := 1, cells := 0, slots := 0, locals := 27 } : Room) #[(.ref dec), (.ref b), (.int (0 : Int32)), (.int (4 : Int32)), (.ref dst)] h0 (QD Z (2 : Int32) dst ([nar .byte ((((((0 : Int32) ||| (v0 <<< ((18 : Int32) &&& 31))) ||| (v1 <<< ((12 : Int32) &&& 31))) ||| (v2 <<< ((6 : Int32) &&& 31))) >>> ((16 : Int32) &&& 31)).toInt8.toInt32), nar .byte ((((((0 : Int32) ||| (v0 <<< ((18 : Int32) &&& 31))) ||| (v1 <<< ((12 : Int32) &&& 31))) ||| (v2 <<< ((6 : Int32) &&& 31))) >>> ((8 : Int32) &&& 31)).toInt8.toInt32)] : List Int32) h0 n0) := by
  refine Ctr.of (plainFor_of_name pn_31) ?_
  intro p e s m below meth c s₁ hx hby hml hown hnm hret hlk hZ X0 e0
  refine Go.cast (ef_32 m dec b (0 : Int32) (4 : Int32) dst) ?_
  show Go p e below _ s₁ (mkF m 0 #[sR dec, sR b, sI 0, sI 4, sR dst, .unset, .unset, .unset, .unset, .unset, .unset] [])
  obtain ⟨i0, hi0, ht0⟩ := id G0
  obtain ⟨i1, hi1, ht1⟩ := id G1
  obtain ⟨i2, hi2, ht2⟩ := id G2
  refine g_aloadN X0 hx 1 (hb hby dd0_0) rfl rfl ?_
  refine g_getF X0 hx hZ hown (hW hw 117 rfl) e0 FU 4 (hb hby dd0_1) rfl ?_
  rintro T1 X1 e1
  refine g_ifY X1 hx 13 (hb hby dd0_4) (by decide) (XT.i0_eq_t (by decide)) ?_
  refine g_getS X1 hx hZ hown (hW hw 119 rfl) e1 (SB.ext O) 16 (hb hby dd0_13) rfl ?_
  rintro T2 X2 e2
  refine g_astore X2 hx #[sR dec, sR b, sI 0, sI 4, sR dst, sR tb, .unset, .unset, .unset, .unset, .unset] 18 (hb hby dd0_16) rfl rfl ?_
  refine g_iconst X2 hx 19 (hb hby dd0_18) rfl ki_0 ?_
  refine g_istore X2 hx #[sR dec, sR b, sI 0, sI 4, sR dst, sR tb, sI 0, .unset, .unset, .unset, .unset] 21 (hb hby dd0_19) rfl rfl ?_
  refine g_iconst X2 hx 22 (hb hby dd0_21) rfl ki_0 ?_
  refine g_istore X2 hx #[sR dec, sR b, sI 0, sI 4, sR dst, sR tb, sI 0, sI 0, .unset, .unset, .unset] 24 (hb hby dd0_22) rfl rfl ?_
  refine g_bipush X2 hx 26 (hb hby dd0_24) rfl kb_18 ?_
  refine g_istore X2 hx #[sR dec, sR b, sI 0, sI 4, sR dst, sR tb, sI 0, sI 0, sI 18, .unset, .unset] 28 (hb hby dd0_26) rfl rfl ?_
  refine g_iloadN X2 hx 29 (hb hby dd0_28) rfl rfl ?_
  refine g_iloadN X2 hx 30 (hb hby dd0_29) rfl rfl ?_
  refine g_icN X2 hx 33 (hb hby dd0_30) rfl (XT.ii_ge_f (by decide)) ?_
  refine g_iload X2 hx 35 (hb hby dd0_33) rfl rfl ?_
  refine g_bipush X2 hx 37 (hb hby dd0_35) rfl kb_18 ?_
  refine g_icN X2 hx 40 (hb hby dd0_37) rfl (XT.ii_ne_f (by decide)) ?_
  refine g_iloadN X2 hx 41 (hb hby dd0_40) rfl rfl ?_
  refine g_iloadN X2 hx 42 (hb hby dd0_41) rfl rfl ?_
  refine g_iconst X2 hx 43 (hb hby dd0_42) rfl ki_4 ?_
  refine g_isub X2 hx 44 (hb hby dd0_43) rfl (by decide : (4 : Int32) - (4 : Int32) = (0 : Int32)) ?_
  refine g_icY X2 hx 90 (hb hby dd0_44) (by decide) (XT.ii_ge_t (by decide)) ?_
  refine g_iloadN X2 hx 91 (hb hby dd0_90) rfl rfl ?_
  refine g_iloadN X2 hx 92 (hb hby dd0_91) rfl rfl ?_
  refine g_icY X2 hx 98 (hb hby dd0_92) (by decide) (XT.ii_lt_t (by decide)) ?_
  refine g_aloadN X2 hx 99 (hb hby dd0_98) rfl rfl ?_
  refine g_iloadN X2 hx 100 (hb hby dd0_99) rfl rfl ?_
  refine g_iinc X2 hx #[sR dec, sR b, sI 1, sI 4, sR dst, sR tb, sI 0, sI 0, sI 18, .unset, .unset] 103 (hb hby dd0_100) rfl rfl (by decide : (0 : Int32) + Int32.ofInt 1 = (1 : Int32)) rfl ?_
  refine g_baload X2 hx hZ e2 S 0 (x := d0) rfl rfl 104 (hb hby dd0_103) rfl ?_
  refine g_sipush X2 hx 107 (hb hby dd0_104) rfl ks_255 ?_
  refine g_iand X2 hx 108 (hb hby dd0_107) rfl rfl ?_
  refine g_istore X2 hx #[sR dec, sR b, sI 1, sI 4, sR dst, sR tb, sI 0, sI 0, sI 18, (sI (d0 &&& (255 : Int32))), .unset] 110 (hb hby dd0_108) rfl rfl ?_
  refine g_aload X2 hx 112 (hb hby dd0_110) rfl rfl ?_
  refine g_iload X2 hx 114 (hb hby dd0_112) rfl rfl ?_
  refine g_iaload X2 hx hZ e2 Tb i0 (x := v0) hi0 ht0 115 (hb hby dd0_114) rfl ?_
  refine g_dup X2 hx 116 (hb hby dd0_115) rfl rfl ?_
  refine g_istore X2 hx #[sR dec, sR b, sI 1, sI 4, sR dst, sR tb, sI 0, sI 0, sI 18, sI v0, .unset] 118 (hb hby dd0_116) rfl rfl ?_
  refine g_ifY X2 hx 214 (hb hby dd0_118) (by decide) (XT.i0_ge_t nn0) ?_
  refine g_iload X2 hx 216 (hb hby dd0_214) rfl rfl ?_
  refine g_iload X2 hx 218 (hb hby dd0_216) rfl rfl ?_
  refine g_iload X2 hx 220 (hb hby dd0_218) rfl rfl ?_
  refine g_ishl X2 hx 221 (hb hby dd0_220) rfl rfl ?_
  refine g_ior X2 hx 222 (hb hby dd0_221) rfl rfl ?_
  refine g_istore X2 hx #[sR dec, sR b, sI 1, sI 4, sR dst, sR tb, sI 0, (sI ((0 : Int32) ||| (v0 <<< ((18 : Int32) &&& 31)))), sI 18, sI v0, .unset] 224 (hb hby dd0_222) rfl rfl ?_
  refine g_iinc X2 hx #[sR dec, sR b, sI 1, sI 4, sR dst, sR tb, sI 0, (sI ((0 : Int32) ||| (v0 <<< ((18 : Int32) &&& 31)))), sI 12, sI v0, .unset] 227 (hb hby dd0_224) rfl rfl (by decide : (18 : Int32) + Int32.ofInt (-6) = (12 : Int32)) rfl ?_
  refine g_iload X2 hx 229 (hb hby dd0_227) rfl rfl ?_
  refine g_ifY X2 hx 278 (hb hby dd0_229) (by decide) (XT.i0_ge_t (by decide)) ?_
  refine g_goto X2 hx 28 (hb hby dd0_278) (by decide) ?_
  refine g_iloadN X2 hx 29 (hb hby dd0_28) rfl rfl ?_
  refine g_iloadN X2 hx 30 (hb hby dd0_29) rfl rfl ?_
  refine g_icN X2 hx 33 (hb hby dd0_30) rfl (XT.ii_ge_f (by decide)) ?_
  refine g_iload X2 hx 35 (hb hby dd0_33) rfl rfl ?_
  refine g_bipush X2 hx 37 (hb hby dd0_35) rfl kb_18 ?_
  refine g_icY X2 hx 90 (hb hby dd0_37) (by decide) (XT.ii_ne_t (by decide)) ?_
  refine g_iloadN X2 hx 91 (hb hby dd0_90) rfl rfl ?_
  refine g_iloadN X2 hx 92 (hb hby dd0_91) rfl rfl ?_
  refine g_icY X2 hx 98 (hb hby dd0_92) (by decide) (XT.ii_lt_t (by decide)) ?_
  refine g_aloadN X2 hx 99 (hb hby dd0_98) rfl rfl ?_
  refine g_iloadN X2 hx 100 (hb hby dd0_99) rfl rfl ?_
  refine g_iinc X2 hx #[sR dec, sR b, sI 2, sI 4, sR dst, sR tb, sI 0, (sI ((0 : Int32) ||| (v0 <<< ((18 : Int32) &&& 31)))), sI 12, sI v0, .unset] 103 (hb hby dd0_100) rfl rfl (by decide : (1 : Int32) + Int32.ofInt 1 = (2 : Int32)) rfl ?_
  refine g_baload X2 hx hZ e2 S 1 (x := d1) rfl rfl 104 (hb hby dd0_103) rfl ?_
  refine g_sipush X2 hx 107 (hb hby dd0_104) rfl ks_255 ?_
  refine g_iand X2 hx 108 (hb hby dd0_107) rfl rfl ?_
  refine g_istore X2 hx #[sR dec, sR b, sI 2, sI 4, sR dst, sR tb, sI 0, (sI ((0 : Int32) ||| (v0 <<< ((18 : Int32) &&& 31)))), sI 12, (sI (d1 &&& (255 : Int32))), .unset] 110 (hb hby dd0_108) rfl rfl ?_
  refine g_aload X2 hx 112 (hb hby dd0_110) rfl rfl ?_
  refine g_iload X2 hx 114 (hb hby dd0_112) rfl rfl ?_
  refine g_iaload X2 hx hZ e2 Tb i1 (x := v1) hi1 ht1 115 (hb hby dd0_114) rfl ?_
  refine g_dup X2 hx 116 (hb hby dd0_115) rfl rfl ?_
  refine g_istore X2 hx #[sR dec, sR b, sI 2, sI 4, sR dst, sR tb, sI 0, (sI ((0 : Int32) ||| (v0 <<< ((18 : Int32) &&& 31)))), sI 12, sI v1, .unset] 118 (hb hby dd0_116) rfl rfl ?_
  refine g_ifY X2 hx 214 (hb hby dd0_118) (by decide) (XT.i0_ge_t nn1) ?_
  refine g_iload X2 hx 216 (hb hby dd0_214) rfl rfl ?_
  refine g_iload X2 hx 218 (hb hby dd0_216) rfl rfl ?_
  refine g_iload X2 hx 220 (hb hby dd0_218) rfl rfl ?_
  refine g_ishl X2 hx 221 (hb hby dd0_220) rfl rfl ?_
  refine g_ior X2 hx 222 (hb hby dd0_221) rfl rfl ?_
  refine g_istore X2 hx #[sR dec, sR b, sI 2, sI 4, sR dst, sR tb, sI 0, (sI (((0 : Int32) ||| (v0 <<< ((18 : Int32) &&& 31))) ||| (v1 <<< ((12 : Int32) &&& 31)))), sI 12, sI v1, .unset] 224 (hb hby dd0_222) rfl rfl ?_
  refine g_iinc X2 hx #[sR dec, sR b, sI 2, sI 4, sR dst, sR tb, sI 0, (sI (((0 : Int32) ||| (v0 <<< ((18 : Int32) &&& 31))) ||| (v1 <<< ((12 : Int32) &&& 31)))), sI 6, sI v1, .unset] 227 (hb hby dd0_224) rfl rfl (by decide : (12 : Int32) + Int32.ofInt (-6) = (6 : Int32)) rfl ?_
  refine g_iload X2 hx 229 (hb hby dd0_227) rfl rfl ?_
  refine g_ifY X2 hx 278 (hb hby dd0_229) (by decide) (XT.i0_ge_t (by decide)) ?_
  refine g_goto X2 hx 28 (hb hby dd0_278) (by decide) ?_
  refine g_iloadN X2 hx 29 (hb hby dd0_28) rfl rfl ?_
  refine g_iloadN X2 hx 30 (hb hby dd0_29) rfl rfl ?_
  refine g_icN X2 hx 33 (hb hby dd0_30) rfl (XT.ii_ge_f (by decide)) ?_
  refine g_iload X2 hx 35 (hb hby dd0_33) rfl rfl ?_
  refine g_bipush X2 hx 37 (hb hby dd0_35) rfl kb_18 ?_
  refine g_icY X2 hx 90 (hb hby dd0_37) (by decide) (XT.ii_ne_t (by decide)) ?_
  refine g_iloadN X2 hx 91 (hb hby dd0_90) rfl rfl ?_
  refine g_iloadN X2 hx 92 (hb hby dd0_91) rfl rfl ?_
  refine g_icY X2 hx 98 (hb hby dd0_92) (by decide) (XT.ii_lt_t (by decide)) ?_
  refine g_aloadN X2 hx 99 (hb hby dd0_98) rfl rfl ?_
  refine g_iloadN X2 hx 100 (hb hby dd0_99) rfl rfl ?_
  refine g_iinc X2 hx #[sR dec, sR b, sI 3, sI 4, sR dst, sR tb, sI 0, (sI (((0 : Int32) ||| (v0 <<< ((18 : Int32) &&& 31))) ||| (v1 <<< ((12 : Int32) &&& 31)))), sI 6, sI v1, .unset] 103 (hb hby dd0_100) rfl rfl (by decide : (2 : Int32) + Int32.ofInt 1 = (3 : Int32)) rfl ?_
  refine g_baload X2 hx hZ e2 S 2 (x := d2) rfl rfl 104 (hb hby dd0_103) rfl ?_
  refine g_sipush X2 hx 107 (hb hby dd0_104) rfl ks_255 ?_
  refine g_iand X2 hx 108 (hb hby dd0_107) rfl rfl ?_
  refine g_istore X2 hx #[sR dec, sR b, sI 3, sI 4, sR dst, sR tb, sI 0, (sI (((0 : Int32) ||| (v0 <<< ((18 : Int32) &&& 31))) ||| (v1 <<< ((12 : Int32) &&& 31)))), sI 6, (sI (d2 &&& (255 : Int32))), .unset] 110 (hb hby dd0_108) rfl rfl ?_
  refine g_aload X2 hx 112 (hb hby dd0_110) rfl rfl ?_
  refine g_iload X2 hx 114 (hb hby dd0_112) rfl rfl ?_
  refine g_iaload X2 hx hZ e2 Tb i2 (x := v2) hi2 ht2 115 (hb hby dd0_114) rfl ?_
  refine g_dup X2 hx 116 (hb hby dd0_115) rfl rfl ?_
  refine g_istore X2 hx #[sR dec, sR b, sI 3, sI 4, sR dst, sR tb, sI 0, (sI (((0 : Int32) ||| (v0 <<< ((18 : Int32) &&& 31))) ||| (v1 <<< ((12 : Int32) &&& 31)))), sI 6, sI v2, .unset] 118 (hb hby dd0_116) rfl rfl ?_
  refine g_ifY X2 hx 214 (hb hby dd0_118) (by decide) (XT.i0_ge_t nn2) ?_
  refine g_iload X2 hx 216 (hb hby dd0_214) rfl rfl ?_
  refine g_iload X2 hx 218 (hb hby dd0_216) rfl rfl ?_
  refine g_iload X2 hx 220 (hb hby dd0_218) rfl rfl ?_
  refine g_ishl X2 hx 221 (hb hby dd0_220) rfl rfl ?_
  refine g_ior X2 hx 222 (hb hby dd0_221) rfl rfl ?_
  refine g_istore X2 hx #[sR dec, sR b, sI 3, sI 4, sR dst, sR tb, sI 0, (sI ((((0 : Int32) ||| (v0 <<< ((18 : Int32) &&& 31))) ||| (v1 <<< ((12 : Int32) &&& 31))) ||| (v2 <<< ((6 : Int32) &&& 31)))), sI 6, sI v2, .unset] 224 (hb hby dd0_222) rfl rfl ?_
  refine g_iinc X2 hx #[sR dec, sR b, sI 3, sI 4, sR dst, sR tb, sI 0, (sI ((((0 : Int32) ||| (v0 <<< ((18 : Int32) &&& 31))) ||| (v1 <<< ((12 : Int32) &&& 31))) ||| (v2 <<< ((6 : Int32) &&& 31)))), sI 0, sI v2, .unset] 227 (hb hby dd0_224) rfl rfl (by decide : (6 : Int32) + Int32.ofInt (-6) = (0 : Int32)) rfl ?_
  refine g_iload X2 hx 229 (hb hby dd0_227) rfl rfl ?_
  refine g_ifY X2 hx 278 (hb hby dd0_229) (by decide) (XT.i0_ge_t (by decide)) ?_
  refine g_goto X2 hx 28 (hb hby dd0_278) (by decide) ?_
  refine g_iloadN X2 hx 29 (hb hby dd0_28) rfl rfl ?_
  refine g_iloadN X2 hx 30 (hb hby dd0_29) rfl rfl ?_
  refine g_icN X2 hx 33 (hb hby dd0_30) rfl (XT.ii_ge_f (by decide)) ?_
  refine g_iload X2 hx 35 (hb hby dd0_33) rfl rfl ?_
  refine g_bipush X2 hx 37 (hb hby dd0_35) rfl kb_18 ?_
  refine g_icY X2 hx 90 (hb hby dd0_37) (by decide) (XT.ii_ne_t (by decide)) ?_
  refine g_iloadN X2 hx 91 (hb hby dd0_90) rfl rfl ?_
  refine g_iloadN X2 hx 92 (hb hby dd0_91) rfl rfl ?_
  refine g_icY X2 hx 98 (hb hby dd0_92) (by decide) (XT.ii_lt_t (by decide)) ?_
  refine g_aloadN X2 hx 99 (hb hby dd0_98) rfl rfl ?_
  refine g_iloadN X2 hx 100 (hb hby dd0_99) rfl rfl ?_
  refine g_iinc X2 hx #[sR dec, sR b, sI 4, sI 4, sR dst, sR tb, sI 0, (sI ((((0 : Int32) ||| (v0 <<< ((18 : Int32) &&& 31))) ||| (v1 <<< ((12 : Int32) &&& 31))) ||| (v2 <<< ((6 : Int32) &&& 31)))), sI 0, sI v2, .unset] 103 (hb hby dd0_100) rfl rfl (by decide : (3 : Int32) + Int32.ofInt 1 = (4 : Int32)) rfl ?_
  refine g_baload X2 hx hZ e2 S 3 (x := (61 : Int32)) rfl rfl 104 (hb hby dd0_103) rfl ?_
  refine g_sipush X2 hx 107 (hb hby dd0_104) rfl ks_255 ?_
  refine g_iand X2 hx 108 (hb hby dd0_107) rfl (by decide : (61 : Int32) &&& (255 : Int32) = (61 : Int32)) ?_
  refine g_istore X2 hx #[sR dec, sR b, sI 4, sI 4, sR dst, sR tb, sI 0, (sI ((((0 : Int32) ||| (v0 <<< ((18 : Int32) &&& 31))) ||| (v1 <<< ((12 : Int32) &&& 31))) ||| (v2 <<< ((6 : Int32) &&& 31)))), sI 0, sI 61, .unset] 110 (hb hby dd0_108) rfl rfl ?_
  refine g_aload X2 hx 112 (hb hby dd0_110) rfl rfl ?_
  refine g_iload X2 hx 114 (hb hby dd0_112) rfl rfl ?_
  refine g_iaload X2 hx hZ e2 Tb 61 (x := (-2 : Int32)) rfl (by decide) 115 (hb hby dd0_114) rfl ?_
  refine g_dup X2 hx 116 (hb hby dd0_115) rfl rfl ?_
  refine g_istore X2 hx #[sR dec, sR b, sI 4, sI 4, sR dst, sR tb, sI 0, (sI ((((0 : Int32) ||| (v0 <<< ((18 : Int32) &&& 31))) ||| (v1 <<< ((12 : Int32) &&& 31))) ||| (v2 <<< ((6 : Int32) &&& 31)))), sI 0, (sI (-2)), .unset] 118 (hb hby dd0_116) rfl rfl ?_
  refine g_ifN X2 hx 121 (hb hby dd0_118) rfl (XT.i0_ge_f (by decide)) ?_
  refine g_iload X2 hx 123 (hb hby dd0_121) rfl rfl ?_
  refine g_bipush X2 hx 125 (hb hby dd0_123) rfl kb_m2 ?_
  refine g_icN X2 hx 128 (hb hby dd0_125) rfl (XT.ii_ne_f (by decide)) ?_
  refine g_iload X2 hx 130 (hb hby dd0_128) rfl rfl ?_
  refine g_bipush X2 hx 132 (hb hby dd0_130) rfl kb_6 ?_
  refine g_icY X2 hx 151 (hb hby dd0_132) (by decide) (XT.ii_ne_t (by decide)) ?_
  refine g_iload X2 hx 153 (hb hby dd0_151) rfl rfl ?_
  refine g_bipush X2 hx 155 (hb hby dd0_153) rfl kb_18 ?_
  refine g_icY X2 hx 281 (hb hby dd0_155) (by decide) (XT.ii_ne_t (by decide)) ?_
  refine g_iload X2 hx 283 (hb hby dd0_281) rfl rfl ?_
  refine g_bipush X2 hx 285 (hb hby dd0_283) rfl kb_6 ?_
  refine g_icY X2 hx 305 (hb hby dd0_285) (by decide) (XT.ii_ne_t (by decide)) ?_
  refine g_iload X2 hx 307 (hb hby dd0_305) rfl rfl ?_
  refine g_ifN X2 hx 310 (hb hby dd0_307) rfl (XT.i0_ne_f (by decide)) ?_
  refine g_aload X2 hx 312 (hb hby dd0_310) rfl rfl ?_
  refine g_iload X2 hx 314 (hb hby dd0_312) rfl rfl ?_
  refine g_iinc X2 hx #[sR dec, sR b, sI 4, sI 4, sR dst, sR tb, sI 1, (sI ((((0 : Int32) ||| (v0 <<< ((18 : Int32) &&& 31))) ||| (v1 <<< ((12 : Int32) &&& 31))) ||| (v2 <<< ((6 : Int32) &&& 31)))), sI 0, (sI (-2)), .unset] 317 (hb hby dd0_314) rfl rfl (by decide : (0 : Int32) + Int32.ofInt 1 = (1 : Int32)) rfl ?_
  refine g_iload X2 hx 319 (hb hby dd0_317) rfl rfl ?_
  refine g_bipush X2 hx 321 (hb hby dd0_319) rfl kb_16 ?_
  refine g_ishr X2 hx 322 (hb hby dd0_321) rfl rfl ?_
  refine g_i2b X2 hx 323 (hb hby dd0_322) rfl ?_
  refine g_bastore X2 hx hZ e2 D 0 rfl (by simp) 324 (hb hby dd0_323) rfl ?_
  rintro T3 h3 X3 e3 W3 A3
  have sW3 := W3.size
  have S3 := S.other W3 nd3
  have Tb3 := Tb.other W3 nd2
  have K3 := (Keep.refl h0 [dst]).wr W3 (Or.inl (List.mem_cons_self ..))
  have N3 := Fr.snoc X3 (Fr.nil n0) hnd
  refine g_aload X3 hx 326 (hb hby dd0_324) rfl rfl ?_
  refine g_iload X3 hx 328 (hb hby dd0_326) rfl rfl ?_
  refine g_iinc X3 hx #[sR dec, sR b, sI 4, sI 4, sR dst, sR tb, sI 2, (sI ((((0 : Int32) ||| (v0 <<< ((18 : Int32) &&& 31))) ||| (v1 <<< ((12 : Int32) &&& 31))) ||| (v2 <<< ((6 : Int32) &&& 31)))), sI 0, (sI (-2)), .unset] 331 (hb hby dd0_328) rfl rfl (by decide : (1 : Int32) + Int32.ofInt 1 = (2 : Int32)) rfl ?_
  refine g_iload X3 hx 333 (hb hby dd0_331) rfl rfl ?_
  refine g_bipush X3 hx 335 (hb hby dd0_333) rfl kb_8 ?_
  refine g_ishr X3 hx 336 (hb hby dd0_335) rfl rfl ?_
  refine g_i2b X3 hx 337 (hb hby dd0_336) rfl ?_
  refine g_bastore X3 hx hZ e3 A3 1 rfl (by simp) 338 (hb hby dd0_337) rfl ?_
  rintro T4 h4 X4 e4 W4 A4
  have sW4 := W4.size
  have S4 := S3.other W4 nd3
  have Tb4 := Tb3.other W4 nd2
  have K4 := K3.wr W4 (Or.inl (List.mem_cons_self ..))
  have N4 := Fr.snoc X4 N3 hnd
  refine g_goto X4 hx 358 (hb hby dd0_338) (by decide) ?_
  refine g_iloadN X4 hx 359 (hb hby dd0_358) rfl rfl ?_
  refine g_iloadN X4 hx 360 (hb hby dd0_359) rfl rfl ?_
  refine g_icY X4 hx 416 (hb hby dd0_360) (by decide) (XT.ii_ge_t (by decide)) ?_
  refine g_iload X4 hx 418 (hb hby dd0_416) rfl rfl ?_
  have Ad : AI Z h4 dst .byte ([nar .byte ((((((0 : Int32) ||| (v0 <<< ((18 : Int32) &&& 31))) ||| (v1 <<< ((12 : Int32) &&& 31))) ||| (v2 <<< ((6 : Int32) &&& 31))) >>> ((16 : Int32) &&& 31)).toInt8.toInt32), nar .byte ((((((0 : Int32) ||| (v0 <<< ((18 : Int32) &&& 31))) ||| (v1 <<< ((12 : Int32) &&& 31))) ||| (v2 <<< ((6 : Int32) &&& 31))) >>> ((8 : Int32) &&& 31)).toInt8.toInt32)] : List Int32) := A4
  have Kd : Keep h0 h4 [dst] := K4
  exact Go.retI X4 hx hret hlk (hb hby dd0_418) ⟨rfl, N4, e4 ▸ Kd, e4 ▸ Ad⟩ (by decide) (by decide)
set_option maxRecDepth 65536 in
set_option maxHeartbeats 40000000 in
theorem rmDE_2 (l : Launch) (Z : State) (a0 : Array Value) (hw : ∀ d ∈ tables_1, d.before a0 Z = true) (d0 v0 d1 v1 d2 v2 : Int32) (G0 : Dig d0 v0) (nn0 : ¬ v0 < 0) (G1 : Dig d1 v1) (nn1 : ¬ v1 < 0) (G2 : Dig d2 v2) (nn2 : ¬ v2 < 0) (h61 : ¬ d2 = 61) (dec tb : Addr) (SB : Sta Z Z.heap "java/util/Base64$Decoder" "fromBase64" "[I" (.ref tb)) (b : Addr) (h0 : Heap) (n0 : Nat) (O : Ext Z.heap h0) (E : Exa Z h0 dec "java/util/Base64$Decoder") (FU : Fld Z h0 dec "java/util/Base64$Decoder" "isURL" "Z" (.int 0)) (FM : Fld Z h0 dec "java/util/Base64$Decoder" "isMIME" "Z" (.int 0)) (Tb : AI Z h0 tb .int own_tab) (Z0 : n0 ≤ h0.size) (S : AI Z h0 b .byte ([d0, d1, d2, 61] : List Int32)) :
    Ctr l Z (⟨"java/util/Base64$Decoder", "decode", "([B)[B"⟩ : MethodName) jdk_2450_method_2_code 4 (some (.array .byte)) [] ({ frames := 2, cells := 1, slots := 6, locals := 49 } : Room) #[(.ref dec), (.ref b)] h0 (QDE Z ([nar .byte ((((((0 : Int32) ||| (v0 <<< ((18 : Int32) &&& 31))) ||| (v1 <<< ((12 : Int32) &&& 31))) ||| (v2 <<< ((6 : Int32) &&& 31))) >>> ((16 : Int32) &&& 31)).toInt8.toInt32), nar .byte ((((((0 : Int32) ||| (v0 <<< ((18 : Int32) &&& 31))) ||| (v1 <<< ((12 : Int32) &&& 31))) ||| (v2 <<< ((6 : Int32) &&& 31))) >>> ((8 : Int32) &&& 31)).toInt8.toInt32)] : List Int32) h0 n0) := by
  refine Ctr.of (plainFor_of_name pn_31) ?_
  intro p e s m below meth c s₁ hx hby hml hown hnm hret hlk hZ X0 e0
  refine Go.cast (ef_33 m dec b) ?_
  show Go p e below _ s₁ (mkF m 0 #[sR dec, sR b, .unset, .unset] [])
  refine g_aloadN X0 hx 1 (hb hby dde_0) rfl rfl ?_
  refine g_aloadN X0 hx 2 (hb hby dde_1) rfl rfl ?_
  refine g_iconst X0 hx 3 (hb hby dde_2) rfl ki_0 ?_
  refine g_aloadN X0 hx 4 (hb hby dde_3) rfl rfl ?_
  refine g_alen X0 hx hZ e0 S (z := 4) rfl 5 (hb hby dde_4) rfl ?_
  refine Go.callPV X0 hx (y := (⟨"java/util/Base64$Decoder", "decodedOutLength", "([BII)I"⟩ : MethodName)) hown (mvT hZ (hW hw 112 rfl)) (mvT hZ (hW hw 113 rfl)) (mvT hZ (hW hw 115 rfl)) (mvP hZ (hW hw 114 rfl)) (mvT hZ (hW hw 116 rfl)) (by decide) (Ctr.back (W := 0) (rmDL_2 l Z a0 hw d0 v0 d1 v1 d2 v2 G0 nn0 G1 nn1 G2 nn2 h61 dec tb SB b h0 n0 O E FU FM Tb S) hZ (hW hw 116 rfl) (hW hw 68 rfl) (by decide) (by decide)) e0 E (g := (mkF m 5 #[sR dec, sR b, .unset, .unset] [vI 4, vI 0, vR b, vR dec])) rfl (by rw [hml]; rfl) (argsL := [vR b, vI 0, vI 4]) (rest := []) (lenOf pd_34 rfl) rfl (by show 2 * 0 + _ ≤ _; exact Nat.le_of_eq rfl) (hb hby dde_5) rfl (by decide) (by decide) ?_
  rintro _ T1 L1 X1 ⟨rfl, N1, e1⟩
  show Go p e below _ T1 (mkF m 8 #[sR dec, sR b, .unset, .unset] [vI 2])
  refine Go.newarr X1 hx hZ (ty := .byte) rfl rfl (hW hw 28 rfl) e1 (g := (mkF m 8 #[sR dec, sR b, .unset, .unset] [vI 2])) rfl (hb hby dde_8) rfl (n := 2) rfl (by decide) (by decide) (by decide) ?_
  rintro T2 h2 X2 e2 E2 l2 A2
  obtain ⟨a2, g2⟩ : ∃ z, z = h0.size := ⟨_, rfl⟩
  rw [← g2] at A2 l2 ⊢
  have sE2 := E2.1
  show Go p e below _ T2 (mkF m 10 #[sR dec, sR b, .unset, .unset] [vR a2])
  refine g_astoreN X2 hx #[sR dec, sR b, sR a2, .unset] 11 (hb hby dde_10) rfl rfl ?_
  refine g_aloadN X2 hx 12 (hb hby dde_11) rfl rfl ?_
  refine g_aloadN X2 hx 13 (hb hby dde_12) rfl rfl ?_
  refine g_iconst X2 hx 14 (hb hby dde_13) rfl ki_0 ?_
  refine g_aloadN X2 hx 15 (hb hby dde_14) rfl rfl ?_
  have q0 := E.lt
  have q1 := Tb.lt
  have q2 := S.lt
  have nd1 : dec ≠ a2 := Nat.ne_of_lt (Nat.lt_of_lt_of_eq q0 g2.symm)
  have nd2 : tb ≠ a2 := Nat.ne_of_lt (Nat.lt_of_lt_of_eq q1 g2.symm)
  have nd3 : b ≠ a2 := Nat.ne_of_lt (Nat.lt_of_lt_of_eq q2 g2.symm)
  refine g_alen X2 hx hZ e2 (S.ext E2) (z := 4) rfl 16 (hb hby dde_15) rfl ?_
  refine g_aloadN X2 hx 17 (hb hby dde_16) rfl rfl ?_
  refine Go.callPV X2 hx (y := (⟨"java/util/Base64$Decoder", "decode0", "([BII[B)I"⟩ : MethodName)) hown (mvT hZ (hW hw 124 rfl)) (mvT hZ (hW hw 125 rfl)) (mvT hZ (hW hw 127 rfl)) (mvP hZ (hW hw 126 rfl)) (mvT hZ (hW hw 128 rfl)) (by decide) (Ctr.back (W := 0) (rmD0_2 l Z a0 hw d0 v0 d1 v1 d2 v2 G0 nn0 G1 nn1 G2 nn2 h61 dec tb SB b h2 n0 (own_ext O E2) (E.ext E2) (FU.ext E2) (FM.ext E2) (Tb.ext E2) a2 (by omega) nd1 nd2 nd3 (S.ext E2) A2) hZ (hW hw 128 rfl) (hW hw 68 rfl) (by decide) (by decide)) e2 (E.ext E2) (g := (mkF m 17 #[sR dec, sR b, sR a2, .unset] [vR a2, vI 4, vI 0, vR b, vR dec])) rfl (by rw [hml]; rfl) (argsL := [vR b, vI 0, vI 4, vR a2]) (rest := []) (lenOf pd_35 rfl) rfl (by show 2 * 0 + _ ≤ _; exact Nat.le_of_eq rfl) (hb hby dde_17) rfl (by decide) (by decide) ?_
  rintro _ T3 L3 X3 ⟨rfl, N3, K3, A3⟩
  show Go p e below _ T3 (mkF m 20 #[sR dec, sR b, sR a2, .unset] [vI 2])
  refine g_istoreN X3 hx #[sR dec, sR b, sR a2, sI 2] 21 (hb hby dde_20) rfl rfl ?_
  refine g_iloadN X3 hx 22 (hb hby dde_21) rfl rfl ?_
  refine g_aloadN X3 hx 23 (hb hby dde_22) rfl rfl ?_
  refine g_alen X3 hx hZ rfl A3 (z := 2) rfl 24 (hb hby dde_23) rfl ?_
  refine g_icY X3 hx 33 (hb hby dde_24) (by decide) (XT.ii_eq_t (by decide)) ?_
  refine g_aloadN X3 hx 34 (hb hby dde_33) rfl rfl ?_
  exact Go.retV X3 hx hret hlk rfl rfl (hb hby dde_34) ⟨a2, rfl, Fr.app (Fr.app (Fr.nil n0) N1) N3, ((Keep.refl h0 []).ext E2).trans K3 (fun x q => Or.inr (by cases List.mem_singleton.mp q; omega)), A3⟩ (by decide) (by decide)
theorem ddl_172 : decode jdk_2450_method_7_code 172 = .ok (.iload 6, 2) := by decide +kernel
theorem ddl_174 : decode jdk_2450_method_7_code 174 = .ok (.iconst 3, 1) := by decide +kernel
theorem ddl_175 : decode jdk_2450_method_7_code 175 = .ok (.iand, 1) := by decide +kernel
theorem ddl_176 : decode jdk_2450_method_7_code 176 = .ok (.ifCond .eq 11, 3) := by decide +kernel
set_option maxRecDepth 65536 in
set_option maxHeartbeats 40000000 in
theorem rmDL_3 (l : Launch) (Z : State) (a0 : Array Value) (hw : ∀ d ∈ tables_1, d.before a0 Z = true) (d0 v0 d1 v1 d2 v2 d3 v3 : Int32) (G0 : Dig d0 v0) (nn0 : ¬ v0 < 0) (G1 : Dig d1 v1) (nn1 : ¬ v1 < 0) (G2 : Dig d2 v2) (nn2 : ¬ v2 < 0) (G3 : Dig d3 v3) (nn3 : ¬ v3 < 0) (h61 : ¬ d3 = 61) (dec tb : Addr) (SB : Sta Z Z.heap "java/util/Base64$Decoder" "fromBase64" "[I" (.ref tb)) (b : Addr) (h0 : Heap) (n0 : Nat) (O : Ext Z.heap h0) (E : Exa Z h0 dec "java/util/Base64$Decoder") (FU : Fld Z h0 dec "java/util/Base64$Decoder" "isURL" "Z" (.int 0)) (FM : Fld Z h0 dec "java/util/Base64$Decoder" "isMIME" "Z" (.int 0)) (Tb : AI Z h0 tb .int own_tab) (S : AI Z h0 b .byte ([d0, d1, d2, d3] : List Int32)) :
    Ctr l Z (⟨"java/util/Base64$Decoder", "decodedOutLength", "([BII)I"⟩ : MethodName) jdk_2450_method_7_code 9 (some .int) [] ({ frames := 0, cells := 0, slots := 0, locals := 0 } : Room) #[(.ref dec), (.ref b), (.int (0 : Int32)), (.int (4 : Int32))] h0 (QP (3 : Int32) h0 n0) := by
  refine Ctr.of (plainFor_of_name pn_31) ?_
  intro p e s m below meth c s₁ hx hby hml hown hnm hret hlk hZ X0 e0
  refine Go.cast (ef_30 m dec b (0 : Int32) (4 : Int32)) ?_
  show Go p e below _ s₁ (mkF m 0 #[sR dec, sR b, sI 0, sI 4, .unset, .unset, .unset, .unset, .unset] [])
  obtain ⟨i0, hi0, ht0⟩ := id G0
  obtain ⟨i1, hi1, ht1⟩ := id G1
  obtain ⟨i2, hi2, ht2⟩ := id G2
  obtain ⟨i3, hi3, ht3⟩ := id G3
  refine g_aloadN X0 hx 1 (hb hby ddl_0) rfl rfl ?_
  refine g_getF X0 hx hZ hown (hW hw 117 rfl) e0 FU 4 (hb hby ddl_1) rfl ?_
  rintro T1 X1 e1
  refine g_ifY X1 hx 13 (hb hby ddl_4) (by decide) (XT.i0_eq_t (by decide)) ?_
  refine g_getS X1 hx hZ hown (hW hw 119 rfl) e1 (SB.ext O) 16 (hb hby ddl_13) rfl ?_
  rintro T2 X2 e2
  refine g_astore X2 hx #[sR dec, sR b, sI 0, sI 4, sR tb, .unset, .unset, .unset, .unset] 18 (hb hby ddl_16) rfl rfl ?_
  refine g_iconst X2 hx 19 (hb hby ddl_18) rfl ki_0 ?_
  refine g_istore X2 hx #[sR dec, sR b, sI 0, sI 4, sR tb, sI 0, .unset, .unset, .unset] 21 (hb hby ddl_19) rfl rfl ?_
  refine g_iloadN X2 hx 22 (hb hby ddl_21) rfl rfl ?_
  refine g_iloadN X2 hx 23 (hb hby ddl_22) rfl rfl ?_
  refine g_isub X2 hx 24 (hb hby ddl_23) rfl (by decide : (4 : Int32) - (0 : Int32) = (4 : Int32)) ?_
  refine g_istore X2 hx #[sR dec, sR b, sI 0, sI 4, sR tb, sI 0, sI 4, .unset, .unset] 26 (hb hby ddl_24) rfl rfl ?_
  refine g_iload X2 hx 28 (hb hby ddl_26) rfl rfl ?_
  refine g_ifY X2 hx 33 (hb hby ddl_28) (by decide) (XT.i0_ne_t (by decide)) ?_
  refine g_iload X2 hx 35 (hb hby ddl_33) rfl rfl ?_
  refine g_iconst X2 hx 36 (hb hby ddl_35) rfl ki_2 ?_
  refine g_icY X2 hx 66 (hb hby ddl_36) (by decide) (XT.ii_ge_t (by decide)) ?_
  refine g_aloadN X2 hx 67 (hb hby ddl_66) rfl rfl ?_
  refine g_getF X2 hx hZ hown (hW hw 120 rfl) e2 FM 70 (hb hby ddl_67) rfl ?_
  rintro T3 X3 e3
  refine g_ifY X3 hx 141 (hb hby ddl_70) (by decide) (XT.i0_eq_t (by decide)) ?_
  refine g_aloadN X3 hx 142 (hb hby ddl_141) rfl rfl ?_
  refine g_iloadN X3 hx 143 (hb hby ddl_142) rfl rfl ?_
  refine g_iconst X3 hx 144 (hb hby ddl_143) rfl ki_1 ?_
  refine g_isub X3 hx 145 (hb hby ddl_144) rfl (by decide : (4 : Int32) - (1 : Int32) = (3 : Int32)) ?_
  refine g_baload X3 hx hZ e3 S 3 (x := d3) rfl rfl 146 (hb hby ddl_145) rfl ?_
  refine g_bipush X3 hx 148 (hb hby ddl_146) rfl kb_61 ?_
  refine g_icY X3 hx 167 (hb hby ddl_148) (by decide) (XT.ii_ne_t h61) ?_
  refine g_iload X3 hx 169 (hb hby ddl_167) rfl rfl ?_
  refine g_ifN X3 hx 172 (hb hby ddl_169) rfl (XT.i0_ne_f (by decide)) ?_
  refine g_iload X3 hx 174 (hb hby ddl_172) rfl rfl ?_
  refine g_iconst X3 hx 175 (hb hby ddl_174) rfl ki_3 ?_
  refine g_iand X3 hx 176 (hb hby ddl_175) rfl (by decide : (4 : Int32) &&& (3 : Int32) = (0 : Int32)) ?_
  refine g_ifY X3 hx 187 (hb hby ddl_176) (by decide) (XT.i0_eq_t (by decide)) ?_
  refine g_iconst X3 hx 188 (hb hby ddl_187) rfl ki_3 ?_
  refine g_iload X3 hx 190 (hb hby ddl_188) rfl rfl ?_
  refine Go.st (fun _ k => XT.i2l X3.here hx rfl (hb hby ddl_190) rfl k) ?_
  show Go p e below _ T3 (mkF m 191 #[sR dec, sR b, sI 0, sI 4, sR tb, sI 0, sI 4, .unset, .unset] [(.long ((4 : Int32).toInt64)), vI 3])
  refine Go.st (fun _ k => X3.ldc2J hx hown (mvT hZ (hW hw 122 rfl)) rfl (hb hby ddl_191) k) ?_
  show Go p e below _ T3 (mkF m 194 #[sR dec, sR b, sI 0, sI 4, sR tb, sI 0, sI 4, .unset, .unset] [(.long (3 : Int64)), (.long ((4 : Int32).toInt64)), vI 3])
  refine Go.st (fun _ k => XT.ladd X3.here hx rfl (hb hby ddl_194) rfl k) ?_
  show Go p e below _ T3 (mkF m 195 #[sR dec, sR b, sI 0, sI 4, sR tb, sI 0, sI 4, .unset, .unset] [(.long (((4 : Int32).toInt64) + (3 : Int64))), vI 3])
  refine Go.st (fun _ k => X3.ldc2J hx hown (mvT hZ (hW hw 123 rfl)) rfl (hb hby ddl_195) k) ?_
  show Go p e below _ T3 (mkF m 198 #[sR dec, sR b, sI 0, sI 4, sR tb, sI 0, sI 4, .unset, .unset] [(.long (4 : Int64)), (.long (((4 : Int32).toInt64) + (3 : Int64))), vI 3])
  refine Go.st (fun _ k => XT.ldiv X3.here hx rfl (hb hby ddl_198) rfl (by decide) k) ?_
  show Go p e below _ T3 (mkF m 199 #[sR dec, sR b, sI 0, sI 4, sR tb, sI 0, sI 4, .unset, .unset] [(.long ((((4 : Int32).toInt64) + (3 : Int64)) / (4 : Int64))), vI 3])
  refine Go.st (fun _ k => XT.l2i X3.here hx rfl (hb hby ddl_199) rfl k) ?_
  show Go p e below _ T3 (mkF m 200 #[sR dec, sR b, sI 0, sI 4, sR tb, sI 0, sI 4, .unset, .unset] [(vI (((((4 : Int32).toInt64) + (3 : Int64)) / (4 : Int64)).toInt32)), vI 3])
  rw [show ((((4 : Int32).toInt64) + (3 : Int64)) / (4 : Int64)).toInt32 = (1 : Int32) from by decide]
  show Go p e below _ T3 (mkF m 200 #[sR dec, sR b, sI 0, sI 4, sR tb, sI 0, sI 4, .unset, .unset] [vI 1, vI 3])
  refine g_imul X3 hx 201 (hb hby ddl_200) rfl (by decide : (3 : Int32) * (1 : Int32) = (3 : Int32)) ?_
  refine g_iload X3 hx 203 (hb hby ddl_201) rfl rfl ?_
  refine g_isub X3 hx 204 (hb hby ddl_203) rfl (by decide : (3 : Int32) - (0 : Int32) = (3 : Int32)) ?_
  exact Go.retI X3 hx hret hlk (hb hby ddl_204) ⟨rfl, Fr.nil n0, e3⟩ (by decide) (by decide)
theorem dd0_232 : decode jdk_2450_method_9_code 232 = .ok (.aload 4, 2) := by decide +kernel
theorem dd0_234 : decode jdk_2450_method_9_code 234 = .ok (.iload 6, 2) := by decide +kernel
theorem dd0_236 : decode jdk_2450_method_9_code 236 = .ok (.iinc 6 1, 3) := by decide +kernel
theorem dd0_239 : decode jdk_2450_method_9_code 239 = .ok (.iload 7, 2) := by decide +kernel
theorem dd0_241 : decode jdk_2450_method_9_code 241 = .ok (.bipush 16, 2) := by decide +kernel
theorem dd0_243 : decode jdk_2450_method_9_code 243 = .ok (.ishr, 1) := by decide +kernel
theorem dd0_244 : decode jdk_2450_method_9_code 244 = .ok (.i2b, 1) := by decide +kernel
theorem dd0_245 : decode jdk_2450_method_9_code 245 = .ok (.bastore, 1) := by decide +kernel
theorem dd0_246 : decode jdk_2450_method_9_code 246 = .ok (.aload 4, 2) := by decide +kernel
theorem dd0_248 : decode jdk_2450_method_9_code 248 = .ok (.iload 6, 2) := by decide +kernel
theorem dd0_250 : decode jdk_2450_method_9_code 250 = .ok (.iinc 6 1, 3) := by decide +kernel
theorem dd0_253 : decode jdk_2450_method_9_code 253 = .ok (.iload 7, 2) := by decide +kernel
theorem dd0_255 : decode jdk_2450_method_9_code 255 = .ok (.bipush 8, 2) := by decide +kernel
theorem dd0_257 : decode jdk_2450_method_9_code 257 = .ok (.ishr, 1) := by decide +kernel
theorem dd0_258 : decode jdk_2450_method_9_code 258 = .ok (.i2b, 1) := by decide +kernel
theorem dd0_259 : decode jdk_2450_method_9_code 259 = .ok (.bastore, 1) := by decide +kernel
theorem dd0_260 : decode jdk_2450_method_9_code 260 = .ok (.aload 4, 2) := by decide +kernel
theorem dd0_262 : decode jdk_2450_method_9_code 262 = .ok (.iload 6, 2) := by decide +kernel
theorem dd0_264 : decode jdk_2450_method_9_code 264 = .ok (.iinc 6 1, 3) := by decide +kernel
theorem dd0_267 : decode jdk_2450_method_9_code 267 = .ok (.iload 7, 2) := by decide +kernel
theorem dd0_269 : decode jdk_2450_method_9_code 269 = .ok (.i2b, 1) := by decide +kernel
theorem dd0_270 : decode jdk_2450_method_9_code 270 = .ok (.bastore, 1) := by decide +kernel
theorem dd0_271 : decode jdk_2450_method_9_code 271 = .ok (.bipush 18, 2) := by decide +kernel
theorem dd0_273 : decode jdk_2450_method_9_code 273 = .ok (.istore 8, 2) := by decide +kernel
theorem dd0_275 : decode jdk_2450_method_9_code 275 = .ok (.iconst 0, 1) := by decide +kernel
theorem dd0_276 : decode jdk_2450_method_9_code 276 = .ok (.istore 7, 2) := by decide +kernel
set_option maxRecDepth 65536 in
set_option maxHeartbeats 40000000 in
theorem rmD0_3 (l : Launch) (Z : State) (a0 : Array Value) (hw : ∀ d ∈ tables_1, d.before a0 Z = true) (d0 v0 d1 v1 d2 v2 d3 v3 : Int32) (G0 : Dig d0 v0) (nn0 : ¬ v0 < 0) (G1 : Dig d1 v1) (nn1 : ¬ v1 < 0) (G2 : Dig d2 v2) (nn2 : ¬ v2 < 0) (G3 : Dig d3 v3) (nn3 : ¬ v3 < 0) (h61 : ¬ d3 = 61) (dec tb : Addr) (SB : Sta Z Z.heap "java/util/Base64$Decoder" "fromBase64" "[I" (.ref tb)) (b : Addr) (h0 : Heap) (n0 : Nat) (O : Ext Z.heap h0) (E : Exa Z h0 dec "java/util/Base64$Decoder") (FU : Fld Z h0 dec "java/util/Base64$Decoder" "isURL" "Z" (.int 0)) (FM : Fld Z h0 dec "java/util/Base64$Decoder" "isMIME" "Z" (.int 0)) (Tb : AI Z h0 tb .int own_tab) (dst : Addr) (hnd : n0 ≤ dst) (nd1 : dec ≠ dst) (nd2 : tb ≠ dst) (nd3 : b ≠ dst) (S : AI Z h0 b .byte ([d0, d1, d2, d3] : List Int32)) (D : AI Z h0 dst .byte (List.replicate 3 0)) :
    Ctr l Z (⟨"java/util/Base64$Decoder", "decode0", "([BII[B)I"⟩ : MethodName) jdk_2450_method_9_code 11 (some .int) [] ({ frames := 1, cells := 0, slots := 0, locals := 27 } : Room) #[(.ref dec), (.ref b), (.int (0 : Int32)), (.int (4 : Int32)), (.ref dst)] h0 (QD Z (3 : Int32) dst ([nar .byte (((((((0 : Int32) ||| (v0 <<< ((18 : Int32) &&& 31))) ||| (v1 <<< ((12 : Int32) &&& 31))) ||| (v2 <<< ((6 : Int32) &&& 31))) ||| (v3 <<< ((0 : Int32) &&& 31))) >>> ((16 : Int32) &&& 31)).toInt8.toInt32), nar .byte (((((((0 : Int32) ||| (v0 <<< ((18 : Int32) &&& 31))) ||| (v1 <<< ((12 : Int32) &&& 31))) ||| (v2 <<< ((6 : Int32) &&& 31))) ||| (v3 <<< ((0 : Int32) &&& 31))) >>> ((8 : Int32) &&& 31)).toInt8.toInt32), nar .byte ((((((0 : Int32) ||| (v0 <<< ((18 : Int32) &&& 31))) ||| (v1 <<< ((12 : Int32) &&& 31))) ||| (v2 <<< ((6 : Int32) &&& 31))) ||| (v3 <<< ((0 : Int32) &&& 31))).toInt8.toInt32)] : List Int32) h0 n0) := by
  refine Ctr.of (plainFor_of_name pn_31) ?_
  intro p e s m below meth c s₁ hx hby hml hown hnm hret hlk hZ X0 e0
  refine Go.cast (ef_32 m dec b (0 : Int32) (4 : Int32) dst) ?_
  show Go p e below _ s₁ (mkF m 0 #[sR dec, sR b, sI 0, sI 4, sR dst, .unset, .unset, .unset, .unset, .unset, .unset] [])
  obtain ⟨i0, hi0, ht0⟩ := id G0
  obtain ⟨i1, hi1, ht1⟩ := id G1
  obtain ⟨i2, hi2, ht2⟩ := id G2
  obtain ⟨i3, hi3, ht3⟩ := id G3
  refine g_aloadN X0 hx 1 (hb hby dd0_0) rfl rfl ?_
  refine g_getF X0 hx hZ hown (hW hw 117 rfl) e0 FU 4 (hb hby dd0_1) rfl ?_
  rintro T1 X1 e1
  refine g_ifY X1 hx 13 (hb hby dd0_4) (by decide) (XT.i0_eq_t (by decide)) ?_
  refine g_getS X1 hx hZ hown (hW hw 119 rfl) e1 (SB.ext O) 16 (hb hby dd0_13) rfl ?_
  rintro T2 X2 e2
  refine g_astore X2 hx #[sR dec, sR b, sI 0, sI 4, sR dst, sR tb, .unset, .unset, .unset, .unset, .unset] 18 (hb hby dd0_16) rfl rfl ?_
  refine g_iconst X2 hx 19 (hb hby dd0_18) rfl ki_0 ?_
  refine g_istore X2 hx #[sR dec, sR b, sI 0, sI 4, sR dst, sR tb, sI 0, .unset, .unset, .unset, .unset] 21 (hb hby dd0_19) rfl rfl ?_
  refine g_iconst X2 hx 22 (hb hby dd0_21) rfl ki_0 ?_
  refine g_istore X2 hx #[sR dec, sR b, sI 0, sI 4, sR dst, sR tb, sI 0, sI 0, .unset, .unset, .unset] 24 (hb hby dd0_22) rfl rfl ?_
  refine g_bipush X2 hx 26 (hb hby dd0_24) rfl kb_18 ?_
  refine g_istore X2 hx #[sR dec, sR b, sI 0, sI 4, sR dst, sR tb, sI 0, sI 0, sI 18, .unset, .unset] 28 (hb hby dd0_26) rfl rfl ?_
  refine g_iloadN X2 hx 29 (hb hby dd0_28) rfl rfl ?_
  refine g_iloadN X2 hx 30 (hb hby dd0_29) rfl rfl ?_
  refine g_icN X2 hx 33 (hb hby dd0_30) rfl (XT.ii_ge_f (by decide)) ?_
  refine g_iload X2 hx 35 (hb hby dd0_33) rfl rfl ?_
  refine g_bipush X2 hx 37 (hb hby dd0_35) rfl kb_18 ?_
  refine g_icN X2 hx 40 (hb hby dd0_37) rfl (XT.ii_ne_f (by decide)) ?_
  refine g_iloadN X2 hx 41 (hb hby dd0_40) rfl rfl ?_
  refine g_iloadN X2 hx 42 (hb hby dd0_41) rfl rfl ?_
  refine g_iconst X2 hx 43 (hb hby dd0_42) rfl ki_4 ?_
  refine g_isub X2 hx 44 (hb hby dd0_43) rfl (by decide : (4 : Int32) - (4 : Int32) = (0 : Int32)) ?_
  refine g_icY X2 hx 90 (hb hby dd0_44) (by decide) (XT.ii_ge_t (by decide)) ?_
  refine g_iloadN X2 hx 91 (hb hby dd0_90) rfl rfl ?_
  refine g_iloadN X2 hx 92 (hb hby dd0_91) rfl rfl ?_
  refine g_icY X2 hx 98 (hb hby dd0_92) (by decide) (XT.ii_lt_t (by decide)) ?_
  refine g_aloadN X2 hx 99 (hb hby dd0_98) rfl rfl ?_
  refine g_iloadN X2 hx 100 (hb hby dd0_99) rfl rfl ?_
  refine g_iinc X2 hx #[sR dec, sR b, sI 1, sI 4, sR dst, sR tb, sI 0, sI 0, sI 18, .unset, .unset] 103 (hb hby dd0_100) rfl rfl (by decide : (0 : Int32) + Int32.ofInt 1 = (1 : Int32)) rfl ?_
  refine g_baload X2 hx hZ e2 S 0 (x := d0) rfl rfl 104 (hb hby dd0_103) rfl ?_
  refine g_sipush X2 hx 107 (hb hby dd0_104) rfl ks_255 ?_
  refine g_iand X2 hx 108 (hb hby dd0_107) rfl rfl ?_
  refine g_istore X2 hx #[sR dec, sR b, sI 1, sI 4, sR dst, sR tb, sI 0, sI 0, sI 18, (sI (d0 &&& (255 : Int32))), .unset] 110 (hb hby dd0_108) rfl rfl ?_
  refine g_aload X2 hx 112 (hb hby dd0_110) rfl rfl ?_
  refine g_iload X2 hx 114 (hb hby dd0_112) rfl rfl ?_
  refine g_iaload X2 hx hZ e2 Tb i0 (x := v0) hi0 ht0 115 (hb hby dd0_114) rfl ?_
  refine g_dup X2 hx 116 (hb hby dd0_115) rfl rfl ?_
  refine g_istore X2 hx #[sR dec, sR b, sI 1, sI 4, sR dst, sR tb, sI 0, sI 0, sI 18, sI v0, .unset] 118 (hb hby dd0_116) rfl rfl ?_
  refine g_ifY X2 hx 214 (hb hby dd0_118) (by decide) (XT.i0_ge_t nn0) ?_
  refine g_iload X2 hx 216 (hb hby dd0_214) rfl rfl ?_
  refine g_iload X2 hx 218 (hb hby dd0_216) rfl rfl ?_
  refine g_iload X2 hx 220 (hb hby dd0_218) rfl rfl ?_
  refine g_ishl X2 hx 221 (hb hby dd0_220) rfl rfl ?_
  refine g_ior X2 hx 222 (hb hby dd0_221) rfl rfl ?_
  refine g_istore X2 hx #[sR dec, sR b, sI 1, sI 4, sR dst, sR tb, sI 0, (sI ((0 : Int32) ||| (v0 <<< ((18 : Int32) &&& 31)))), sI 18, sI v0, .unset] 224 (hb hby dd0_222) rfl rfl ?_
  refine g_iinc X2 hx #[sR dec, sR b, sI 1, sI 4, sR dst, sR tb, sI 0, (sI ((0 : Int32) ||| (v0 <<< ((18 : Int32) &&& 31)))), sI 12, sI v0, .unset] 227 (hb hby dd0_224) rfl rfl (by decide : (18 : Int32) + Int32.ofInt (-6) = (12 : Int32)) rfl ?_
  refine g_iload X2 hx 229 (hb hby dd0_227) rfl rfl ?_
  refine g_ifY X2 hx 278 (hb hby dd0_229) (by decide) (XT.i0_ge_t (by decide)) ?_
  refine g_goto X2 hx 28 (hb hby dd0_278) (by decide) ?_
  refine g_iloadN X2 hx 29 (hb hby dd0_28) rfl rfl ?_
  refine g_iloadN X2 hx 30 (hb hby dd0_29) rfl rfl ?_
  refine g_icN X2 hx 33 (hb hby dd0_30) rfl (XT.ii_ge_f (by decide)) ?_
  refine g_iload X2 hx 35 (hb hby dd0_33) rfl rfl ?_
  refine g_bipush X2 hx 37 (hb hby dd0_35) rfl kb_18 ?_
  refine g_icY X2 hx 90 (hb hby dd0_37) (by decide) (XT.ii_ne_t (by decide)) ?_
  refine g_iloadN X2 hx 91 (hb hby dd0_90) rfl rfl ?_
  refine g_iloadN X2 hx 92 (hb hby dd0_91) rfl rfl ?_
  refine g_icY X2 hx 98 (hb hby dd0_92) (by decide) (XT.ii_lt_t (by decide)) ?_
  refine g_aloadN X2 hx 99 (hb hby dd0_98) rfl rfl ?_
  refine g_iloadN X2 hx 100 (hb hby dd0_99) rfl rfl ?_
  refine g_iinc X2 hx #[sR dec, sR b, sI 2, sI 4, sR dst, sR tb, sI 0, (sI ((0 : Int32) ||| (v0 <<< ((18 : Int32) &&& 31)))), sI 12, sI v0, .unset] 103 (hb hby dd0_100) rfl rfl (by decide : (1 : Int32) + Int32.ofInt 1 = (2 : Int32)) rfl ?_
  refine g_baload X2 hx hZ e2 S 1 (x := d1) rfl rfl 104 (hb hby dd0_103) rfl ?_
  refine g_sipush X2 hx 107 (hb hby dd0_104) rfl ks_255 ?_
  refine g_iand X2 hx 108 (hb hby dd0_107) rfl rfl ?_
  refine g_istore X2 hx #[sR dec, sR b, sI 2, sI 4, sR dst, sR tb, sI 0, (sI ((0 : Int32) ||| (v0 <<< ((18 : Int32) &&& 31)))), sI 12, (sI (d1 &&& (255 : Int32))), .unset] 110 (hb hby dd0_108) rfl rfl ?_
  refine g_aload X2 hx 112 (hb hby dd0_110) rfl rfl ?_
  refine g_iload X2 hx 114 (hb hby dd0_112) rfl rfl ?_
  refine g_iaload X2 hx hZ e2 Tb i1 (x := v1) hi1 ht1 115 (hb hby dd0_114) rfl ?_
  refine g_dup X2 hx 116 (hb hby dd0_115) rfl rfl ?_
  refine g_istore X2 hx #[sR dec, sR b, sI 2, sI 4, sR dst, sR tb, sI 0, (sI ((0 : Int32) ||| (v0 <<< ((18 : Int32) &&& 31)))), sI 12, sI v1, .unset] 118 (hb hby dd0_116) rfl rfl ?_
  refine g_ifY X2 hx 214 (hb hby dd0_118) (by decide) (XT.i0_ge_t nn1) ?_
  refine g_iload X2 hx 216 (hb hby dd0_214) rfl rfl ?_
  refine g_iload X2 hx 218 (hb hby dd0_216) rfl rfl ?_
  refine g_iload X2 hx 220 (hb hby dd0_218) rfl rfl ?_
  refine g_ishl X2 hx 221 (hb hby dd0_220) rfl rfl ?_
  refine g_ior X2 hx 222 (hb hby dd0_221) rfl rfl ?_
  refine g_istore X2 hx #[sR dec, sR b, sI 2, sI 4, sR dst, sR tb, sI 0, (sI (((0 : Int32) ||| (v0 <<< ((18 : Int32) &&& 31))) ||| (v1 <<< ((12 : Int32) &&& 31)))), sI 12, sI v1, .unset] 224 (hb hby dd0_222) rfl rfl ?_
  refine g_iinc X2 hx #[sR dec, sR b, sI 2, sI 4, sR dst, sR tb, sI 0, (sI (((0 : Int32) ||| (v0 <<< ((18 : Int32) &&& 31))) ||| (v1 <<< ((12 : Int32) &&& 31)))), sI 6, sI v1, .unset] 227 (hb hby dd0_224) rfl rfl (by decide : (12 : Int32) + Int32.ofInt (-6) = (6 : Int32)) rfl ?_
  refine g_iload X2 hx 229 (hb hby dd0_227) rfl rfl ?_
  refine g_ifY X2 hx 278 (hb hby dd0_229) (by decide) (XT.i0_ge_t (by decide)) ?_
  refine g_goto X2 hx 28 (hb hby dd0_278) (by decide) ?_
  refine g_iloadN X2 hx 29 (hb hby dd0_28) rfl rfl ?_
  refine g_iloadN X2 hx 30 (hb hby dd0_29) rfl rfl ?_
  refine g_icN X2 hx 33 (hb hby dd0_30) rfl (XT.ii_ge_f (by decide)) ?_
  refine g_iload X2 hx 35 (hb hby dd0_33) rfl rfl ?_
  refine g_bipush X2 hx 37 (hb hby dd0_35) rfl kb_18 ?_
  refine g_icY X2 hx 90 (hb hby dd0_37) (by decide) (XT.ii_ne_t (by decide)) ?_
  refine g_iloadN X2 hx 91 (hb hby dd0_90) rfl rfl ?_
  refine g_iloadN X2 hx 92 (hb hby dd0_91) rfl rfl ?_
  refine g_icY X2 hx 98 (hb hby dd0_92) (by decide) (XT.ii_lt_t (by decide)) ?_
  refine g_aloadN X2 hx 99 (hb hby dd0_98) rfl rfl ?_
  refine g_iloadN X2 hx 100 (hb hby dd0_99) rfl rfl ?_
  refine g_iinc X2 hx #[sR dec, sR b, sI 3, sI 4, sR dst, sR tb, sI 0, (sI (((0 : Int32) ||| (v0 <<< ((18 : Int32) &&& 31))) ||| (v1 <<< ((12 : Int32) &&& 31)))), sI 6, sI v1, .unset] 103 (hb hby dd0_100) rfl rfl (by decide : (2 : Int32) + Int32.ofInt 1 = (3 : Int32)) rfl ?_
  refine g_baload X2 hx hZ e2 S 2 (x := d2) rfl rfl 104 (hb hby dd0_103) rfl ?_
  refine g_sipush X2 hx 107 (hb hby dd0_104) rfl ks_255 ?_
  refine g_iand X2 hx 108 (hb hby dd0_107) rfl rfl ?_
  refine g_istore X2 hx #[sR dec, sR b, sI 3, sI 4, sR dst, sR tb, sI 0, (sI (((0 : Int32) ||| (v0 <<< ((18 : Int32) &&& 31))) ||| (v1 <<< ((12 : Int32) &&& 31)))), sI 6, (sI (d2 &&& (255 : Int32))), .unset] 110 (hb hby dd0_108) rfl rfl ?_
  refine g_aload X2 hx 112 (hb hby dd0_110) rfl rfl ?_
  refine g_iload X2 hx 114 (hb hby dd0_112) rfl rfl ?_
  refine g_iaload X2 hx hZ e2 Tb i2 (x := v2) hi2 ht2 115 (hb hby dd0_114) rfl ?_
  refine g_dup X2 hx 116 (hb hby dd0_115) rfl rfl ?_
  refine g_istore X2 hx #[sR dec, sR b, sI 3, sI 4, sR dst, sR tb, sI 0, (sI (((0 : Int32) ||| (v0 <<< ((18 : Int32) &&& 31))) ||| (v1 <<< ((12 : Int32) &&& 31)))), sI 6, sI v2, .unset] 118 (hb hby dd0_116) rfl rfl ?_
  refine g_ifY X2 hx 214 (hb hby dd0_118) (by decide) (XT.i0_ge_t nn2) ?_
  refine g_iload X2 hx 216 (hb hby dd0_214) rfl rfl ?_
  refine g_iload X2 hx 218 (hb hby dd0_216) rfl rfl ?_
  refine g_iload X2 hx 220 (hb hby dd0_218) rfl rfl ?_
  refine g_ishl X2 hx 221 (hb hby dd0_220) rfl rfl ?_
  refine g_ior X2 hx 222 (hb hby dd0_221) rfl rfl ?_
  refine g_istore X2 hx #[sR dec, sR b, sI 3, sI 4, sR dst, sR tb, sI 0, (sI ((((0 : Int32) ||| (v0 <<< ((18 : Int32) &&& 31))) ||| (v1 <<< ((12 : Int32) &&& 31))) ||| (v2 <<< ((6 : Int32) &&& 31)))), sI 6, sI v2, .unset] 224 (hb hby dd0_222) rfl rfl ?_
  refine g_iinc X2 hx #[sR dec, sR b, sI 3, sI 4, sR dst, sR tb, sI 0, (sI ((((0 : Int32) ||| (v0 <<< ((18 : Int32) &&& 31))) ||| (v1 <<< ((12 : Int32) &&& 31))) ||| (v2 <<< ((6 : Int32) &&& 31)))), sI 0, sI v2, .unset] 227 (hb hby dd0_224) rfl rfl (by decide : (6 : Int32) + Int32.ofInt (-6) = (0 : Int32)) rfl ?_
  refine g_iload X2 hx 229 (hb hby dd0_227) rfl rfl ?_
  refine g_ifY X2 hx 278 (hb hby dd0_229) (by decide) (XT.i0_ge_t (by decide)) ?_
  refine g_goto X2 hx 28 (hb hby dd0_278) (by decide) ?_
  refine g_iloadN X2 hx 29 (hb hby dd0_28) rfl rfl ?_
  refine g_iloadN X2 hx 30 (hb hby dd0_29) rfl rfl ?_
  refine g_icN X2 hx 33 (hb hby dd0_30) rfl (XT.ii_ge_f (by decide)) ?_
  refine g_iload X2 hx 35 (hb hby dd0_33) rfl rfl ?_
  refine g_bipush X2 hx 37 (hb hby dd0_35) rfl kb_18 ?_
  refine g_icY X2 hx 90 (hb hby dd0_37) (by decide) (XT.ii_ne_t (by decide)) ?_
  refine g_iloadN X2 hx 91 (hb hby dd0_90) rfl rfl ?_
  refine g_iloadN X2 hx 92 (hb hby dd0_91) rfl rfl ?_
  refine g_icY X2 hx 98 (hb hby dd0_92) (by decide) (XT.ii_lt_t (by decide)) ?_
  refine g_aloadN X2 hx 99 (hb hby dd0_98) rfl rfl ?_
  refine g_iloadN X2 hx 100 (hb hby dd0_99) rfl rfl ?_
  refine g_iinc X2 hx #[sR dec, sR b, sI 4, sI 4, sR dst, sR tb, sI 0, (sI ((((0 : Int32) ||| (v0 <<< ((18 : Int32) &&& 31))) ||| (v1 <<< ((12 : Int32) &&& 31))) ||| (v2 <<< ((6 : Int32) &&& 31)))), sI 0, sI v2, .unset] 103 (hb hby dd0_100) rfl rfl (by decide : (3 : Int32) + Int32.ofInt 1 = (4 : Int32)) rfl ?_
  refine g_baload X2 hx hZ e2 S 3 (x := d3) rfl rfl 104 (hb hby dd0_103) rfl ?_
  refine g_sipush X2 hx 107 (hb hby dd0_104) rfl ks_255 ?_
  refine g_iand X2 hx 108 (hb hby dd0_107) rfl rfl ?_
  refine g_istore X2 hx #[sR dec, sR b, sI 4, sI 4, sR dst, sR tb, sI 0, (sI ((((0 : Int32) ||| (v0 <<< ((18 : Int32) &&& 31))) ||| (v1 <<< ((12 : Int32) &&& 31))) ||| (v2 <<< ((6 : Int32) &&& 31)))), sI 0, (sI (d3 &&& (255 : Int32))), .unset] 110 (hb hby dd0_108) rfl rfl ?_
  refine g_aload X2 hx 112 (hb hby dd0_110) rfl rfl ?_
  refine g_iload X2 hx 114 (hb hby dd0_112) rfl rfl ?_
  refine g_iaload X2 hx hZ e2 Tb i3 (x := v3) hi3 ht3 115 (hb hby dd0_114) rfl ?_
  refine g_dup X2 hx 116 (hb hby dd0_115) rfl rfl ?_
  refine g_istore X2 hx #[sR dec, sR b, sI 4, sI 4, sR dst, sR tb, sI 0, (sI ((((0 : Int32) ||| (v0 <<< ((18 : Int32) &&& 31))) ||| (v1 <<< ((12 : Int32) &&& 31))) ||| (v2 <<< ((6 : Int32) &&& 31)))), sI 0, sI v3, .unset] 118 (hb hby dd0_116) rfl rfl ?_
  refine g_ifY X2 hx 214 (hb hby dd0_118) (by decide) (XT.i0_ge_t nn3) ?_
  refine g_iload X2 hx 216 (hb hby dd0_214) rfl rfl ?_
  refine g_iload X2 hx 218 (hb hby dd0_216) rfl rfl ?_
  refine g_iload X2 hx 220 (hb hby dd0_218) rfl rfl ?_
  refine g_ishl X2 hx 221 (hb hby dd0_220) rfl rfl ?_
  refine g_ior X2 hx 222 (hb hby dd0_221) rfl rfl ?_
  refine g_istore X2 hx #[sR dec, sR b, sI 4, sI 4, sR dst, sR tb, sI 0, (sI (((((0 : Int32) ||| (v0 <<< ((18 : Int32) &&& 31))) ||| (v1 <<< ((12 : Int32) &&& 31))) ||| (v2 <<< ((6 : Int32) &&& 31))) ||| (v3 <<< ((0 : Int32) &&& 31)))), sI 0, sI v3, .unset] 224 (hb hby dd0_222) rfl rfl ?_
  refine g_iinc X2 hx #[sR dec, sR b, sI 4, sI 4, sR dst, sR tb, sI 0, (sI (((((0 : Int32) ||| (v0 <<< ((18 : Int32) &&& 31))) ||| (v1 <<< ((12 : Int32) &&& 31))) ||| (v2 <<< ((6 : Int32) &&& 31))) ||| (v3 <<< ((0 : Int32) &&& 31)))), (sI (-6)), sI v3, .unset] 227 (hb hby dd0_224) rfl rfl (by decide : (0 : Int32) + Int32.ofInt (-6) = (-6 : Int32)) rfl ?_
  refine g_iload X2 hx 229 (hb hby dd0_227) rfl rfl ?_
  refine g_ifN X2 hx 232 (hb hby dd0_229) rfl (XT.i0_ge_f (by decide)) ?_
  refine g_aload X2 hx 234 (hb hby dd0_232) rfl rfl ?_
  refine g_iload X2 hx 236 (hb hby dd0_234) rfl rfl ?_
  refine g_iinc X2 hx #[sR dec, sR b, sI 4, sI 4, sR dst, sR tb, sI 1, (sI (((((0 : Int32) ||| (v0 <<< ((18 : Int32) &&& 31))) ||| (v1 <<< ((12 : Int32) &&& 31))) ||| (v2 <<< ((6 : Int32) &&& 31))) ||| (v3 <<< ((0 : Int32) &&& 31)))), (sI (-6)), sI v3, .unset] 239 (hb hby dd0_236) rfl rfl (by decide : (0 : Int32) + Int32.ofInt 1 = (1 : Int32)) rfl ?_
  refine g_iload X2 hx 241 (hb hby dd0_239) rfl rfl ?_
  refine g_bipush X2 hx 243 (hb hby dd0_241) rfl kb_16 ?_
  refine g_ishr X2 hx 244 (hb hby dd0_243) rfl rfl ?_
  refine g_i2b X2 hx 245 (hb hby dd0_244) rfl ?_
  refine g_bastore X2 hx hZ e2 D 0 rfl (by simp) 246 (hb hby dd0_245) rfl ?_
  rintro T3 h3 X3 e3 W3 A3
  have sW3 := W3.size
  have S3 := S.other W3 nd3
  have Tb3 := Tb.other W3 nd2
  have K3 := (Keep.refl h0 [dst]).wr W3 (Or.inl (List.mem_cons_self ..))
  have N3 := Fr.snoc X3 (Fr.nil n0) hnd
  refine g_aload X3 hx 248 (hb hby dd0_246) rfl rfl ?_
  refine g_iload X3 hx 250 (hb hby dd0_248) rfl rfl ?_
  refine g_iinc X3 hx #[sR dec, sR b, sI 4, sI 4, sR dst, sR tb, sI 2, (sI (((((0 : Int32) ||| (v0 <<< ((18 : Int32) &&& 31))) ||| (v1 <<< ((12 : Int32) &&& 31))) ||| (v2 <<< ((6 : Int32) &&& 31))) ||| (v3 <<< ((0 : Int32) &&& 31)))), (sI (-6)), sI v3, .unset] 253 (hb hby dd0_250) rfl rfl (by decide : (1 : Int32) + Int32.ofInt 1 = (2 : Int32)) rfl ?_
  refine g_iload X3 hx 255 (hb hby dd0_253) rfl rfl ?_
  refine g_bipush X3 hx 257 (hb hby dd0_255) rfl kb_8 ?_
  refine g_ishr X3 hx 258 (hb hby dd0_257) rfl rfl ?_
  refine g_i2b X3 hx 259 (hb hby dd0_258) rfl ?_
  refine g_bastore X3 hx hZ e3 A3 1 rfl (by simp) 260 (hb hby dd0_259) rfl ?_
  rintro T4 h4 X4 e4 W4 A4
  have sW4 := W4.size
  have S4 := S3.other W4 nd3
  have Tb4 := Tb3.other W4 nd2
  have K4 := K3.wr W4 (Or.inl (List.mem_cons_self ..))
  have N4 := Fr.snoc X4 N3 hnd
  refine g_aload X4 hx 262 (hb hby dd0_260) rfl rfl ?_
  refine g_iload X4 hx 264 (hb hby dd0_262) rfl rfl ?_
  refine g_iinc X4 hx #[sR dec, sR b, sI 4, sI 4, sR dst, sR tb, sI 3, (sI (((((0 : Int32) ||| (v0 <<< ((18 : Int32) &&& 31))) ||| (v1 <<< ((12 : Int32) &&& 31))) ||| (v2 <<< ((6 : Int32) &&& 31))) ||| (v3 <<< ((0 : Int32) &&& 31)))), (sI (-6)), sI v3, .unset] 267 (hb hby dd0_264) rfl rfl (by decide : (2 : Int32) + Int32.ofInt 1 = (3 : Int32)) rfl ?_
  refine g_iload X4 hx 269 (hb hby dd0_267) rfl rfl ?_
  refine g_i2b X4 hx 270 (hb hby dd0_269) rfl ?_
  refine g_bastore X4 hx hZ e4 A4 2 rfl (by simp) 271 (hb hby dd0_270) rfl ?_
  rintro T5 h5 X5 e5 W5 A5
  have sW5 := W5.size
  have S5 := S4.other W5 nd3
  have Tb5 := Tb4.other W5 nd2
  have K5 := K4.wr W5 (Or.inl (List.mem_cons_self ..))
  have N5 := Fr.snoc X5 N4 hnd
  refine g_bipush X5 hx 273 (hb hby dd0_271) rfl kb_18 ?_
  refine g_istore X5 hx #[sR dec, sR b, sI 4, sI 4, sR dst, sR tb, sI 3, (sI (((((0 : Int32) ||| (v0 <<< ((18 : Int32) &&& 31))) ||| (v1 <<< ((12 : Int32) &&& 31))) ||| (v2 <<< ((6 : Int32) &&& 31))) ||| (v3 <<< ((0 : Int32) &&& 31)))), sI 18, sI v3, .unset] 275 (hb hby dd0_273) rfl rfl ?_
  refine g_iconst X5 hx 276 (hb hby dd0_275) rfl ki_0 ?_
  refine g_istore X5 hx #[sR dec, sR b, sI 4, sI 4, sR dst, sR tb, sI 3, sI 0, sI 18, sI v3, .unset] 278 (hb hby dd0_276) rfl rfl ?_
  refine g_goto X5 hx 28 (hb hby dd0_278) (by decide) ?_
  refine g_iloadN X5 hx 29 (hb hby dd0_28) rfl rfl ?_
  refine g_iloadN X5 hx 30 (hb hby dd0_29) rfl rfl ?_
  refine g_icY X5 hx 281 (hb hby dd0_30) (by decide) (XT.ii_ge_t (by decide)) ?_
  refine g_iload X5 hx 283 (hb hby dd0_281) rfl rfl ?_
  refine g_bipush X5 hx 285 (hb hby dd0_283) rfl kb_6 ?_
  refine g_icY X5 hx 305 (hb hby dd0_285) (by decide) (XT.ii_ne_t (by decide)) ?_
  refine g_iload X5 hx 307 (hb hby dd0_305) rfl rfl ?_
  refine g_ifY X5 hx 341 (hb hby dd0_307) (by decide) (XT.i0_ne_t (by decide)) ?_
  refine g_iload X5 hx 343 (hb hby dd0_341) rfl rfl ?_
  refine g_bipush X5 hx 345 (hb hby dd0_343) rfl kb_12 ?_
  refine g_icY X5 hx 358 (hb hby dd0_345) (by decide) (XT.ii_ne_t (by decide)) ?_
  refine g_iloadN X5 hx 359 (hb hby dd0_358) rfl rfl ?_
  refine g_iloadN X5 hx 360 (hb hby dd0_359) rfl rfl ?_
  refine g_icY X5 hx 416 (hb hby dd0_360) (by decide) (XT.ii_ge_t (by decide)) ?_
  refine g_iload X5 hx 418 (hb hby dd0_416) rfl rfl ?_
  have Ad : AI Z h5 dst .byte ([nar .byte (((((((0 : Int32) ||| (v0 <<< ((18 : Int32) &&& 31))) ||| (v1 <<< ((12 : Int32) &&& 31))) ||| (v2 <<< ((6 : Int32) &&& 31))) ||| (v3 <<< ((0 : Int32) &&& 31))) >>> ((16 : Int32) &&& 31)).toInt8.toInt32), nar .byte (((((((0 : Int32) ||| (v0 <<< ((18 : Int32) &&& 31))) ||| (v1 <<< ((12 : Int32) &&& 31))) ||| (v2 <<< ((6 : Int32) &&& 31))) ||| (v3 <<< ((0 : Int32) &&& 31))) >>> ((8 : Int32) &&& 31)).toInt8.toInt32), nar .byte ((((((0 : Int32) ||| (v0 <<< ((18 : Int32) &&& 31))) ||| (v1 <<< ((12 : Int32) &&& 31))) ||| (v2 <<< ((6 : Int32) &&& 31))) ||| (v3 <<< ((0 : Int32) &&& 31))).toInt8.toInt32)] : List Int32) := A5
  have Kd : Keep h0 h5 [dst] := K5
  exact Go.retI X5 hx hret hlk (hb hby dd0_418) ⟨rfl, N5, e5 ▸ Kd, e5 ▸ Ad⟩ (by decide) (by decide)
set_option maxRecDepth 65536 in
set_option maxHeartbeats 40000000 in
theorem rmDE_3 (l : Launch) (Z : State) (a0 : Array Value) (hw : ∀ d ∈ tables_1, d.before a0 Z = true) (d0 v0 d1 v1 d2 v2 d3 v3 : Int32) (G0 : Dig d0 v0) (nn0 : ¬ v0 < 0) (G1 : Dig d1 v1) (nn1 : ¬ v1 < 0) (G2 : Dig d2 v2) (nn2 : ¬ v2 < 0) (G3 : Dig d3 v3) (nn3 : ¬ v3 < 0) (h61 : ¬ d3 = 61) (dec tb : Addr) (SB : Sta Z Z.heap "java/util/Base64$Decoder" "fromBase64" "[I" (.ref tb)) (b : Addr) (h0 : Heap) (n0 : Nat) (O : Ext Z.heap h0) (E : Exa Z h0 dec "java/util/Base64$Decoder") (FU : Fld Z h0 dec "java/util/Base64$Decoder" "isURL" "Z" (.int 0)) (FM : Fld Z h0 dec "java/util/Base64$Decoder" "isMIME" "Z" (.int 0)) (Tb : AI Z h0 tb .int own_tab) (Z0 : n0 ≤ h0.size) (S : AI Z h0 b .byte ([d0, d1, d2, d3] : List Int32)) :
    Ctr l Z (⟨"java/util/Base64$Decoder", "decode", "([B)[B"⟩ : MethodName) jdk_2450_method_2_code 4 (some (.array .byte)) [] ({ frames := 2, cells := 1, slots := 6, locals := 49 } : Room) #[(.ref dec), (.ref b)] h0 (QDE Z ([nar .byte (((((((0 : Int32) ||| (v0 <<< ((18 : Int32) &&& 31))) ||| (v1 <<< ((12 : Int32) &&& 31))) ||| (v2 <<< ((6 : Int32) &&& 31))) ||| (v3 <<< ((0 : Int32) &&& 31))) >>> ((16 : Int32) &&& 31)).toInt8.toInt32), nar .byte (((((((0 : Int32) ||| (v0 <<< ((18 : Int32) &&& 31))) ||| (v1 <<< ((12 : Int32) &&& 31))) ||| (v2 <<< ((6 : Int32) &&& 31))) ||| (v3 <<< ((0 : Int32) &&& 31))) >>> ((8 : Int32) &&& 31)).toInt8.toInt32), nar .byte ((((((0 : Int32) ||| (v0 <<< ((18 : Int32) &&& 31))) ||| (v1 <<< ((12 : Int32) &&& 31))) ||| (v2 <<< ((6 : Int32) &&& 31))) ||| (v3 <<< ((0 : Int32) &&& 31))).toInt8.toInt32)] : List Int32) h0 n0) := by
  refine Ctr.of (plainFor_of_name pn_31) ?_
  intro p e s m below meth c s₁ hx hby hml hown hnm hret hlk hZ X0 e0
  refine Go.cast (ef_33 m dec b) ?_
  show Go p e below _ s₁ (mkF m 0 #[sR dec, sR b, .unset, .unset] [])
  refine g_aloadN X0 hx 1 (hb hby dde_0) rfl rfl ?_
  refine g_aloadN X0 hx 2 (hb hby dde_1) rfl rfl ?_
  refine g_iconst X0 hx 3 (hb hby dde_2) rfl ki_0 ?_
  refine g_aloadN X0 hx 4 (hb hby dde_3) rfl rfl ?_
  refine g_alen X0 hx hZ e0 S (z := 4) rfl 5 (hb hby dde_4) rfl ?_
  refine Go.callPV X0 hx (y := (⟨"java/util/Base64$Decoder", "decodedOutLength", "([BII)I"⟩ : MethodName)) hown (mvT hZ (hW hw 112 rfl)) (mvT hZ (hW hw 113 rfl)) (mvT hZ (hW hw 115 rfl)) (mvP hZ (hW hw 114 rfl)) (mvT hZ (hW hw 116 rfl)) (by decide) (Ctr.back (W := 0) (rmDL_3 l Z a0 hw d0 v0 d1 v1 d2 v2 d3 v3 G0 nn0 G1 nn1 G2 nn2 G3 nn3 h61 dec tb SB b h0 n0 O E FU FM Tb S) hZ (hW hw 116 rfl) (hW hw 68 rfl) (by decide) (by decide)) e0 E (g := (mkF m 5 #[sR dec, sR b, .unset, .unset] [vI 4, vI 0, vR b, vR dec])) rfl (by rw [hml]; rfl) (argsL := [vR b, vI 0, vI 4]) (rest := []) (lenOf pd_34 rfl) rfl (by show 2 * 0 + _ ≤ _; exact Nat.le_of_eq rfl) (hb hby dde_5) rfl (by decide) (by decide) ?_
  rintro _ T1 L1 X1 ⟨rfl, N1, e1⟩
  show Go p e below _ T1 (mkF m 8 #[sR dec, sR b, .unset, .unset] [vI 3])
  refine Go.newarr X1 hx hZ (ty := .byte) rfl rfl (hW hw 28 rfl) e1 (g := (mkF m 8 #[sR dec, sR b, .unset, .unset] [vI 3])) rfl (hb hby dde_8) rfl (n := 3) rfl (by decide) (by decide) (by decide) ?_
  rintro T2 h2 X2 e2 E2 l2 A2
  obtain ⟨a2, g2⟩ : ∃ z, z = h0.size := ⟨_, rfl⟩
  rw [← g2] at A2 l2 ⊢
  have sE2 := E2.1
  show Go p e below _ T2 (mkF m 10 #[sR dec, sR b, .unset, .unset] [vR a2])
  refine g_astoreN X2 hx #[sR dec, sR b, sR a2, .unset] 11 (hb hby dde_10) rfl rfl ?_
  refine g_aloadN X2 hx 12 (hb hby dde_11) rfl rfl ?_
  refine g_aloadN X2 hx 13 (hb hby dde_12) rfl rfl ?_
  refine g_iconst X2 hx 14 (hb hby dde_13) rfl ki_0 ?_
  refine g_aloadN X2 hx 15 (hb hby dde_14) rfl rfl ?_
  have q0 := E.lt
  have q1 := Tb.lt
  have q2 := S.lt
  have nd1 : dec ≠ a2 := Nat.ne_of_lt (Nat.lt_of_lt_of_eq q0 g2.symm)
  have nd2 : tb ≠ a2 := Nat.ne_of_lt (Nat.lt_of_lt_of_eq q1 g2.symm)
  have nd3 : b ≠ a2 := Nat.ne_of_lt (Nat.lt_of_lt_of_eq q2 g2.symm)
  refine g_alen X2 hx hZ e2 (S.ext E2) (z := 4) rfl 16 (hb hby dde_15) rfl ?_
  refine g_aloadN X2 hx 17 (hb hby dde_16) rfl rfl ?_
  refine Go.callPV X2 hx (y := (⟨"java/util/Base64$Decoder", "decode0", "([BII[B)I"⟩ : MethodName)) hown (mvT hZ (hW hw 124 rfl)) (mvT hZ (hW hw 125 rfl)) (mvT hZ (hW hw 127 rfl)) (mvP hZ (hW hw 126 rfl)) (mvT hZ (hW hw 128 rfl)) (by decide) (Ctr.back (W := 0) (rmD0_3 l Z a0 hw d0 v0 d1 v1 d2 v2 d3 v3 G0 nn0 G1 nn1 G2 nn2 G3 nn3 h61 dec tb SB b h2 n0 (own_ext O E2) (E.ext E2) (FU.ext E2) (FM.ext E2) (Tb.ext E2) a2 (by omega) nd1 nd2 nd3 (S.ext E2) A2) hZ (hW hw 128 rfl) (hW hw 68 rfl) (by decide) (by decide)) e2 (E.ext E2) (g := (mkF m 17 #[sR dec, sR b, sR a2, .unset] [vR a2, vI 4, vI 0, vR b, vR dec])) rfl (by rw [hml]; rfl) (argsL := [vR b, vI 0, vI 4, vR a2]) (rest := []) (lenOf pd_35 rfl) rfl (by show 2 * 0 + _ ≤ _; exact Nat.le_of_eq rfl) (hb hby dde_17) rfl (by decide) (by decide) ?_
  rintro _ T3 L3 X3 ⟨rfl, N3, K3, A3⟩
  show Go p e below _ T3 (mkF m 20 #[sR dec, sR b, sR a2, .unset] [vI 3])
  refine g_istoreN X3 hx #[sR dec, sR b, sR a2, sI 3] 21 (hb hby dde_20) rfl rfl ?_
  refine g_iloadN X3 hx 22 (hb hby dde_21) rfl rfl ?_
  refine g_aloadN X3 hx 23 (hb hby dde_22) rfl rfl ?_
  refine g_alen X3 hx hZ rfl A3 (z := 3) rfl 24 (hb hby dde_23) rfl ?_
  refine g_icY X3 hx 33 (hb hby dde_24) (by decide) (XT.ii_eq_t (by decide)) ?_
  refine g_aloadN X3 hx 34 (hb hby dde_33) rfl rfl ?_
  exact Go.retV X3 hx hret hlk rfl rfl (hb hby dde_34) ⟨a2, rfl, Fr.app (Fr.app (Fr.nil n0) N1) N3, ((Keep.refl h0 []).ext E2).trans K3 (fun x q => Or.inr (by cases List.mem_singleton.mp q; omega)), A3⟩ (by decide) (by decide)
set_option maxRecDepth 65536 in
set_option maxHeartbeats 40000000 in
theorem rmDL_4 (l : Launch) (Z : State) (a0 : Array Value) (hw : ∀ d ∈ tables_1, d.before a0 Z = true) (d0 v0 d1 v1 d2 v2 d3 v3 d4 v4 d5 v5 : Int32) (G0 : Dig d0 v0) (nn0 : ¬ v0 < 0) (G1 : Dig d1 v1) (nn1 : ¬ v1 < 0) (G2 : Dig d2 v2) (nn2 : ¬ v2 < 0) (G3 : Dig d3 v3) (nn3 : ¬ v3 < 0) (G4 : Dig d4 v4) (nn4 : ¬ v4 < 0) (G5 : Dig d5 v5) (nn5 : ¬ v5 < 0) (dec tb : Addr) (SB : Sta Z Z.heap "java/util/Base64$Decoder" "fromBase64" "[I" (.ref tb)) (b : Addr) (h0 : Heap) (n0 : Nat) (O : Ext Z.heap h0) (E : Exa Z h0 dec "java/util/Base64$Decoder") (FU : Fld Z h0 dec "java/util/Base64$Decoder" "isURL" "Z" (.int 0)) (FM : Fld Z h0 dec "java/util/Base64$Decoder" "isMIME" "Z" (.int 0)) (Tb : AI Z h0 tb .int own_tab) (S : AI Z h0 b .byte ([d0, d1, d2, d3, d4, d5, 61, 61] : List Int32)) :
    Ctr l Z (⟨"java/util/Base64$Decoder", "decodedOutLength", "([BII)I"⟩ : MethodName) jdk_2450_method_7_code 9 (some .int) [] ({ frames := 0, cells := 0, slots := 0, locals := 0 } : Room) #[(.ref dec), (.ref b), (.int (0 : Int32)), (.int (8 : Int32))] h0 (QP (4 : Int32) h0 n0) := by
  refine Ctr.of (plainFor_of_name pn_31) ?_
  intro p e s m below meth c s₁ hx hby hml hown hnm hret hlk hZ X0 e0
  refine Go.cast (ef_30 m dec b (0 : Int32) (8 : Int32)) ?_
  show Go p e below _ s₁ (mkF m 0 #[sR dec, sR b, sI 0, sI 8, .unset, .unset, .unset, .unset, .unset] [])
  obtain ⟨i0, hi0, ht0⟩ := id G0
  obtain ⟨i1, hi1, ht1⟩ := id G1
  obtain ⟨i2, hi2, ht2⟩ := id G2
  obtain ⟨i3, hi3, ht3⟩ := id G3
  obtain ⟨i4, hi4, ht4⟩ := id G4
  obtain ⟨i5, hi5, ht5⟩ := id G5
  refine g_aloadN X0 hx 1 (hb hby ddl_0) rfl rfl ?_
  refine g_getF X0 hx hZ hown (hW hw 117 rfl) e0 FU 4 (hb hby ddl_1) rfl ?_
  rintro T1 X1 e1
  refine g_ifY X1 hx 13 (hb hby ddl_4) (by decide) (XT.i0_eq_t (by decide)) ?_
  refine g_getS X1 hx hZ hown (hW hw 119 rfl) e1 (SB.ext O) 16 (hb hby ddl_13) rfl ?_
  rintro T2 X2 e2
  refine g_astore X2 hx #[sR dec, sR b, sI 0, sI 8, sR tb, .unset, .unset, .unset, .unset] 18 (hb hby ddl_16) rfl rfl ?_
  refine g_iconst X2 hx 19 (hb hby ddl_18) rfl ki_0 ?_
  refine g_istore X2 hx #[sR dec, sR b, sI 0, sI 8, sR tb, sI 0, .unset, .unset, .unset] 21 (hb hby ddl_19) rfl rfl ?_
  refine g_iloadN X2 hx 22 (hb hby ddl_21) rfl rfl ?_
  refine g_iloadN X2 hx 23 (hb hby ddl_22) rfl rfl ?_
  refine g_isub X2 hx 24 (hb hby ddl_23) rfl (by decide : (8 : Int32) - (0 : Int32) = (8 : Int32)) ?_
  refine g_istore X2 hx #[sR dec, sR b, sI 0, sI 8, sR tb, sI 0, sI 8, .unset, .unset] 26 (hb hby ddl_24) rfl rfl ?_
  refine g_iload X2 hx 28 (hb hby ddl_26) rfl rfl ?_
  refine g_ifY X2 hx 33 (hb hby ddl_28) (by decide) (XT.i0_ne_t (by decide)) ?_
  refine g_iload X2 hx 35 (hb hby ddl_33) rfl rfl ?_
  refine g_iconst X2 hx 36 (hb hby ddl_35) rfl ki_2 ?_
  refine g_icY X2 hx 66 (hb hby ddl_36) (by decide) (XT.ii_ge_t (by decide)) ?_
  refine g_aloadN X2 hx 67 (hb hby ddl_66) rfl rfl ?_
  refine g_getF X2 hx hZ hown (hW hw 120 rfl) e2 FM 70 (hb hby ddl_67) rfl ?_
  rintro T3 X3 e3
  refine g_ifY X3 hx 141 (hb hby ddl_70) (by decide) (XT.i0_eq_t (by decide)) ?_
  refine g_aloadN X3 hx 142 (hb hby ddl_141) rfl rfl ?_
  refine g_iloadN X3 hx 143 (hb hby ddl_142) rfl rfl ?_
  refine g_iconst X3 hx 144 (hb hby ddl_143) rfl ki_1 ?_
  refine g_isub X3 hx 145 (hb hby ddl_144) rfl (by decide : (8 : Int32) - (1 : Int32) = (7 : Int32)) ?_
  refine g_baload X3 hx hZ e3 S 7 (x := (61 : Int32)) rfl rfl 146 (hb hby ddl_145) rfl ?_
  refine g_bipush X3 hx 148 (hb hby ddl_146) rfl kb_61 ?_
  refine g_icN X3 hx 151 (hb hby ddl_148) rfl (XT.ii_ne_f (by decide)) ?_
  refine g_iinc X3 hx #[sR dec, sR b, sI 0, sI 8, sR tb, sI 1, sI 8, .unset, .unset] 154 (hb hby ddl_151) rfl rfl (by decide : (0 : Int32) + Int32.ofInt 1 = (1 : Int32)) rfl ?_
  refine g_aloadN X3 hx 155 (hb hby ddl_154) rfl rfl ?_
  refine g_iloadN X3 hx 156 (hb hby ddl_155) rfl rfl ?_
  refine g_iconst X3 hx 157 (hb hby ddl_156) rfl ki_2 ?_
  refine g_isub X3 hx 158 (hb hby ddl_157) rfl (by decide : (8 : Int32) - (2 : Int32) = (6 : Int32)) ?_
  refine g_baload X3 hx hZ e3 S 6 (x := (61 : Int32)) rfl rfl 159 (hb hby ddl_158) rfl ?_
  refine g_bipush X3 hx 161 (hb hby ddl_159) rfl kb_61 ?_
  refine g_icN X3 hx 164 (hb hby ddl_161) rfl (XT.ii_ne_f (by decide)) ?_
  refine g_iinc X3 hx #[sR dec, sR b, sI 0, sI 8, sR tb, sI 2, sI 8, .unset, .unset] 167 (hb hby ddl_164) rfl rfl (by decide : (1 : Int32) + Int32.ofInt 1 = (2 : Int32)) rfl ?_
  refine g_iload X3 hx 169 (hb hby ddl_167) rfl rfl ?_
  refine g_ifY X3 hx 187 (hb hby ddl_169) (by decide) (XT.i0_ne_t (by decide)) ?_
  refine g_iconst X3 hx 188 (hb hby ddl_187) rfl ki_3 ?_
  refine g_iload X3 hx 190 (hb hby ddl_188) rfl rfl ?_
  refine Go.st (fun _ k => XT.i2l X3.here hx rfl (hb hby ddl_190) rfl k) ?_
  show Go p e below _ T3 (mkF m 191 #[sR dec, sR b, sI 0, sI 8, sR tb, sI 2, sI 8, .unset, .unset] [(.long ((8 : Int32).toInt64)), vI 3])
  refine Go.st (fun _ k => X3.ldc2J hx hown (mvT hZ (hW hw 122 rfl)) rfl (hb hby ddl_191) k) ?_
  show Go p e below _ T3 (mkF m 194 #[sR dec, sR b, sI 0, sI 8, sR tb, sI 2, sI 8, .unset, .unset] [(.long (3 : Int64)), (.long ((8 : Int32).toInt64)), vI 3])
  refine Go.st (fun _ k => XT.ladd X3.here hx rfl (hb hby ddl_194) rfl k) ?_
  show Go p e below _ T3 (mkF m 195 #[sR dec, sR b, sI 0, sI 8, sR tb, sI 2, sI 8, .unset, .unset] [(.long (((8 : Int32).toInt64) + (3 : Int64))), vI 3])
  refine Go.st (fun _ k => X3.ldc2J hx hown (mvT hZ (hW hw 123 rfl)) rfl (hb hby ddl_195) k) ?_
  show Go p e below _ T3 (mkF m 198 #[sR dec, sR b, sI 0, sI 8, sR tb, sI 2, sI 8, .unset, .unset] [(.long (4 : Int64)), (.long (((8 : Int32).toInt64) + (3 : Int64))), vI 3])
  refine Go.st (fun _ k => XT.ldiv X3.here hx rfl (hb hby ddl_198) rfl (by decide) k) ?_
  show Go p e below _ T3 (mkF m 199 #[sR dec, sR b, sI 0, sI 8, sR tb, sI 2, sI 8, .unset, .unset] [(.long ((((8 : Int32).toInt64) + (3 : Int64)) / (4 : Int64))), vI 3])
  refine Go.st (fun _ k => XT.l2i X3.here hx rfl (hb hby ddl_199) rfl k) ?_
  show Go p e below _ T3 (mkF m 200 #[sR dec, sR b, sI 0, sI 8, sR tb, sI 2, sI 8, .unset, .unset] [(vI (((((8 : Int32).toInt64) + (3 : Int64)) / (4 : Int64)).toInt32)), vI 3])
  rw [show ((((8 : Int32).toInt64) + (3 : Int64)) / (4 : Int64)).toInt32 = (2 : Int32) from by decide]
  show Go p e below _ T3 (mkF m 200 #[sR dec, sR b, sI 0, sI 8, sR tb, sI 2, sI 8, .unset, .unset] [vI 2, vI 3])
  refine g_imul X3 hx 201 (hb hby ddl_200) rfl (by decide : (3 : Int32) * (2 : Int32) = (6 : Int32)) ?_
  refine g_iload X3 hx 203 (hb hby ddl_201) rfl rfl ?_
  refine g_isub X3 hx 204 (hb hby ddl_203) rfl (by decide : (6 : Int32) - (2 : Int32) = (4 : Int32)) ?_
  exact Go.retI X3 hx hret hlk (hb hby ddl_204) ⟨rfl, Fr.nil n0, e3⟩ (by decide) (by decide)
theorem ddb_0 : decode jdk_2450_method_8_code 0 = .ok (.iload 6, 2) := by decide +kernel
theorem ddb_2 : decode jdk_2450_method_8_code 2 = .ok (.ifCond .eq 9, 3) := by decide +kernel
theorem ddb_11 : decode jdk_2450_method_8_code 11 = .ok (.getstatic 99, 3) := by decide +kernel
theorem ddb_14 : decode jdk_2450_method_8_code 14 = .ok (.astore 8, 2) := by decide +kernel
theorem ddb_16 : decode jdk_2450_method_8_code 16 = .ok (.iload_n 2, 1) := by decide +kernel
theorem ddb_17 : decode jdk_2450_method_8_code 17 = .ok (.iload_n 3, 1) := by decide +kernel
theorem ddb_18 : decode jdk_2450_method_8_code 18 = .ok (.iload_n 2, 1) := by decide +kernel
theorem ddb_19 : decode jdk_2450_method_8_code 19 = .ok (.isub, 1) := by decide +kernel
theorem ddb_20 : decode jdk_2450_method_8_code 20 = .ok (.bipush (-4), 2) := by decide +kernel
theorem ddb_22 : decode jdk_2450_method_8_code 22 = .ok (.iand, 1) := by decide +kernel
theorem ddb_23 : decode jdk_2450_method_8_code 23 = .ok (.iadd, 1) := by decide +kernel
theorem ddb_24 : decode jdk_2450_method_8_code 24 = .ok (.istore 9, 2) := by decide +kernel
theorem ddb_26 : decode jdk_2450_method_8_code 26 = .ok (.iload 5, 2) := by decide +kernel
theorem ddb_28 : decode jdk_2450_method_8_code 28 = .ok (.istore 10, 2) := by decide +kernel
theorem ddb_30 : decode jdk_2450_method_8_code 30 = .ok (.iload_n 2, 1) := by decide +kernel
theorem ddb_31 : decode jdk_2450_method_8_code 31 = .ok (.iload 9, 2) := by decide +kernel
theorem ddb_33 : decode jdk_2450_method_8_code 33 = .ok (.if_icmp .ge 147, 3) := by decide +kernel
theorem ddb_36 : decode jdk_2450_method_8_code 36 = .ok (.aload 8, 2) := by decide +kernel
theorem ddb_38 : decode jdk_2450_method_8_code 38 = .ok (.aload_n 1, 1) := by decide +kernel
theorem ddb_39 : decode jdk_2450_method_8_code 39 = .ok (.iload_n 2, 1) := by decide +kernel
theorem ddb_40 : decode jdk_2450_method_8_code 40 = .ok (.iinc 2 1, 3) := by decide +kernel
theorem ddb_43 : decode jdk_2450_method_8_code 43 = .ok (.baload, 1) := by decide +kernel
theorem ddb_44 : decode jdk_2450_method_8_code 44 = .ok (.sipush 255, 3) := by decide +kernel
theorem ddb_47 : decode jdk_2450_method_8_code 47 = .ok (.iand, 1) := by decide +kernel
theorem ddb_48 : decode jdk_2450_method_8_code 48 = .ok (.iaload, 1) := by decide +kernel
theorem ddb_49 : decode jdk_2450_method_8_code 49 = .ok (.istore 11, 2) := by decide +kernel
theorem ddb_51 : decode jdk_2450_method_8_code 51 = .ok (.aload 8, 2) := by decide +kernel
theorem ddb_53 : decode jdk_2450_method_8_code 53 = .ok (.aload_n 1, 1) := by decide +kernel
theorem ddb_54 : decode jdk_2450_method_8_code 54 = .ok (.iload_n 2, 1) := by decide +kernel
theorem ddb_55 : decode jdk_2450_method_8_code 55 = .ok (.iinc 2 1, 3) := by decide +kernel
theorem ddb_58 : decode jdk_2450_method_8_code 58 = .ok (.baload, 1) := by decide +kernel
theorem ddb_59 : decode jdk_2450_method_8_code 59 = .ok (.sipush 255, 3) := by decide +kernel
theorem ddb_62 : decode jdk_2450_method_8_code 62 = .ok (.iand, 1) := by decide +kernel
theorem ddb_63 : decode jdk_2450_method_8_code 63 = .ok (.iaload, 1) := by decide +kernel
theorem ddb_64 : decode jdk_2450_method_8_code 64 = .ok (.istore 12, 2) := by decide +kernel
theorem ddb_66 : decode jdk_2450_method_8_code 66 = .ok (.aload 8, 2) := by decide +kernel
theorem ddb_68 : decode jdk_2450_method_8_code 68 = .ok (.aload_n 1, 1) := by decide +kernel
theorem ddb_69 : decode jdk_2450_method_8_code 69 = .ok (.iload_n 2, 1) := by decide +kernel
theorem ddb_70 : decode jdk_2450_method_8_code 70 = .ok (.iinc 2 1, 3) := by decide +kernel
theorem ddb_73 : decode jdk_2450_method_8_code 73 = .ok (.baload, 1) := by decide +kernel
theorem ddb_74 : decode jdk_2450_method_8_code 74 = .ok (.sipush 255, 3) := by decide +kernel
theorem ddb_77 : decode jdk_2450_method_8_code 77 = .ok (.iand, 1) := by decide +kernel
theorem ddb_78 : decode jdk_2450_method_8_code 78 = .ok (.iaload, 1) := by decide +kernel
theorem ddb_79 : decode jdk_2450_method_8_code 79 = .ok (.istore 13, 2) := by decide +kernel
theorem ddb_81 : decode jdk_2450_method_8_code 81 = .ok (.aload 8, 2) := by decide +kernel
theorem ddb_83 : decode jdk_2450_method_8_code 83 = .ok (.aload_n 1, 1) := by decide +kernel
theorem ddb_84 : decode jdk_2450_method_8_code 84 = .ok (.iload_n 2, 1) := by decide +kernel
theorem ddb_85 : decode jdk_2450_method_8_code 85 = .ok (.iinc 2 1, 3) := by decide +kernel
theorem ddb_88 : decode jdk_2450_method_8_code 88 = .ok (.baload, 1) := by decide +kernel
theorem ddb_89 : decode jdk_2450_method_8_code 89 = .ok (.sipush 255, 3) := by decide +kernel
theorem ddb_92 : decode jdk_2450_method_8_code 92 = .ok (.iand, 1) := by decide +kernel
theorem ddb_93 : decode jdk_2450_method_8_code 93 = .ok (.iaload, 1) := by decide +kernel
theorem ddb_94 : decode jdk_2450_method_8_code 94 = .ok (.istore 14, 2) := by decide +kernel
theorem ddb_96 : decode jdk_2450_method_8_code 96 = .ok (.iload 11, 2) := by decide +kernel
theorem ddb_98 : decode jdk_2450_method_8_code 98 = .ok (.iload 12, 2) := by decide +kernel
theorem ddb_100 : decode jdk_2450_method_8_code 100 = .ok (.ior, 1) := by decide +kernel
theorem ddb_101 : decode jdk_2450_method_8_code 101 = .ok (.iload 13, 2) := by decide +kernel
theorem ddb_103 : decode jdk_2450_method_8_code 103 = .ok (.ior, 1) := by decide +kernel
theorem ddb_104 : decode jdk_2450_method_8_code 104 = .ok (.iload 14, 2) := by decide +kernel
theorem ddb_106 : decode jdk_2450_method_8_code 106 = .ok (.ior, 1) := by decide +kernel
theorem ddb_107 : decode jdk_2450_method_8_code 107 = .ok (.ifCond .ge 9, 3) := by decide +kernel
theorem ddb_110 : decode jdk_2450_method_8_code 110 = .ok (.iload 10, 2) := by decide +kernel
theorem ddb_112 : decode jdk_2450_method_8_code 112 = .ok (.iload 5, 2) := by decide +kernel
theorem ddb_114 : decode jdk_2450_method_8_code 114 = .ok (.isub, 1) := by decide +kernel
theorem ddb_115 : decode jdk_2450_method_8_code 115 = .ok (.ireturn, 1) := by decide +kernel
theorem ddb_116 : decode jdk_2450_method_8_code 116 = .ok (.iload 11, 2) := by decide +kernel
theorem ddb_118 : decode jdk_2450_method_8_code 118 = .ok (.bipush 18, 2) := by decide +kernel
theorem ddb_120 : decode jdk_2450_method_8_code 120 = .ok (.ishl, 1) := by decide +kernel
theorem ddb_121 : decode jdk_2450_method_8_code 121 = .ok (.iload 12, 2) := by decide +kernel
theorem ddb_123 : decode jdk_2450_method_8_code 123 = .ok (.bipush 12, 2) := by decide +kernel
theorem ddb_125 : decode jdk_2450_method_8_code 125 = .ok (.ishl, 1) := by decide +kernel
theorem ddb_126 : decode jdk_2450_method_8_code 126 = .ok (.ior, 1) := by decide +kernel
theorem ddb_127 : decode jdk_2450_method_8_code 127 = .ok (.iload 13, 2) := by decide +kernel
theorem ddb_129 : decode jdk_2450_method_8_code 129 = .ok (.bipush 6, 2) := by decide +kernel
theorem ddb_131 : decode jdk_2450_method_8_code 131 = .ok (.ishl, 1) := by decide +kernel
theorem ddb_132 : decode jdk_2450_method_8_code 132 = .ok (.ior, 1) := by decide +kernel
theorem ddb_133 : decode jdk_2450_method_8_code 133 = .ok (.iload 14, 2) := by decide +kernel
theorem ddb_135 : decode jdk_2450_method_8_code 135 = .ok (.ior, 1) := by decide +kernel
theorem ddb_136 : decode jdk_2450_method_8_code 136 = .ok (.istore 15, 2) := by decide +kernel
theorem ddb_138 : decode jdk_2450_method_8_code 138 = .ok (.aload 4, 2) := by decide +kernel
theorem ddb_140 : decode jdk_2450_method_8_code 140 = .ok (.iload 10, 2) := by decide +kernel
theorem ddb_142 : decode jdk_2450_method_8_code 142 = .ok (.iinc 10 1, 3) := by decide +kernel
theorem ddb_145 : decode jdk_2450_method_8_code 145 = .ok (.iload 15, 2) := by decide +kernel
theorem ddb_147 : decode jdk_2450_method_8_code 147 = .ok (.bipush 16, 2) := by decide +kernel
theorem ddb_149 : decode jdk_2450_method_8_code 149 = .ok (.ishr, 1) := by decide +kernel
theorem ddb_150 : decode jdk_2450_method_8_code 150 = .ok (.i2b, 1) := by decide +kernel
theorem ddb_151 : decode jdk_2450_method_8_code 151 = .ok (.bastore, 1) := by decide +kernel
theorem ddb_152 : decode jdk_2450_method_8_code 152 = .ok (.aload 4, 2) := by decide +kernel
theorem ddb_154 : decode jdk_2450_method_8_code 154 = .ok (.iload 10, 2) := by decide +kernel
theorem ddb_156 : decode jdk_2450_method_8_code 156 = .ok (.iinc 10 1, 3) := by decide +kernel
theorem ddb_159 : decode jdk_2450_method_8_code 159 = .ok (.iload 15, 2) := by decide +kernel
theorem ddb_161 : decode jdk_2450_method_8_code 161 = .ok (.bipush 8, 2) := by decide +kernel
theorem ddb_163 : decode jdk_2450_method_8_code 163 = .ok (.ishr, 1) := by decide +kernel
theorem ddb_164 : decode jdk_2450_method_8_code 164 = .ok (.i2b, 1) := by decide +kernel
theorem ddb_165 : decode jdk_2450_method_8_code 165 = .ok (.bastore, 1) := by decide +kernel
theorem ddb_166 : decode jdk_2450_method_8_code 166 = .ok (.aload 4, 2) := by decide +kernel
theorem ddb_168 : decode jdk_2450_method_8_code 168 = .ok (.iload 10, 2) := by decide +kernel
theorem ddb_170 : decode jdk_2450_method_8_code 170 = .ok (.iinc 10 1, 3) := by decide +kernel
theorem ddb_173 : decode jdk_2450_method_8_code 173 = .ok (.iload 15, 2) := by decide +kernel
theorem ddb_175 : decode jdk_2450_method_8_code 175 = .ok (.i2b, 1) := by decide +kernel
theorem ddb_176 : decode jdk_2450_method_8_code 176 = .ok (.bastore, 1) := by decide +kernel
theorem ddb_177 : decode jdk_2450_method_8_code 177 = .ok (.goto (-147), 3) := by decide +kernel
set_option maxRecDepth 65536 in
set_option maxHeartbeats 40000000 in
theorem rmDB_4 (l : Launch) (Z : State) (a0 : Array Value) (hw : ∀ d ∈ tables_1, d.before a0 Z = true) (d0 v0 d1 v1 d2 v2 d3 v3 d4 v4 d5 v5 : Int32) (G0 : Dig d0 v0) (nn0 : ¬ v0 < 0) (G1 : Dig d1 v1) (nn1 : ¬ v1 < 0) (G2 : Dig d2 v2) (nn2 : ¬ v2 < 0) (G3 : Dig d3 v3) (nn3 : ¬ v3 < 0) (G4 : Dig d4 v4) (nn4 : ¬ v4 < 0) (G5 : Dig d5 v5) (nn5 : ¬ v5 < 0) (dec tb : Addr) (SB : Sta Z Z.heap "java/util/Base64$Decoder" "fromBase64" "[I" (.ref tb)) (b : Addr) (h0 : Heap) (n0 : Nat) (O : Ext Z.heap h0) (E : Exa Z h0 dec "java/util/Base64$Decoder") (FU : Fld Z h0 dec "java/util/Base64$Decoder" "isURL" "Z" (.int 0)) (FM : Fld Z h0 dec "java/util/Base64$Decoder" "isMIME" "Z" (.int 0)) (Tb : AI Z h0 tb .int own_tab) (dst : Addr) (hnd : n0 ≤ dst) (nd1 : dec ≠ dst) (nd2 : tb ≠ dst) (nd3 : b ≠ dst) (S : AI Z h0 b .byte ([d0, d1, d2, d3, d4, d5, 61, 61] : List Int32)) (D : AI Z h0 dst .byte (List.replicate 4 0)) :
    Ctr l Z (⟨"java/util/Base64$Decoder", "decodeBlock", "([BII[BIZZ)I"⟩ : MethodName) jdk_2450_method_8_code 16 (some .int) [] ({ frames := 0, cells := 0, slots := 0, locals := 0 } : Room) #[(.ref dec), (.ref b), (.int (0 : Int32)), (.int (8 : Int32)), (.ref dst), (.int (0 : Int32)), (.int (0 : Int32)), (.int (0 : Int32))] h0 (QD Z (3 : Int32) dst ([nar .byte ((((((v0 <<< ((18 : Int32) &&& 31)) ||| (v1 <<< ((12 : Int32) &&& 31))) ||| (v2 <<< ((6 : Int32) &&& 31))) ||| v3) >>> ((16 : Int32) &&& 31)).toInt8.toInt32), nar .byte ((((((v0 <<< ((18 : Int32) &&& 31)) ||| (v1 <<< ((12 : Int32) &&& 31))) ||| (v2 <<< ((6 : Int32) &&& 31))) ||| v3) >>> ((8 : Int32) &&& 31)).toInt8.toInt32), nar .byte (((((v0 <<< ((18 : Int32) &&& 31)) ||| (v1 <<< ((12 : Int32) &&& 31))) ||| (v2 <<< ((6 : Int32) &&& 31))) ||| v3).toInt8.toInt32), (0 : Int32)] : List Int32) h0 n0) := by
  refine Ctr.of (plainFor_of_name pn_31) ?_
  intro p e s m below meth c s₁ hx hby hml hown hnm hret hlk hZ X0 e0
  refine Go.cast (ef_36 m dec b (0 : Int32) (8 : Int32) dst (0 : Int32) (0 : Int32) (0 : Int32)) ?_
  show Go p e below _ s₁ (mkF m 0 #[sR dec, sR b, sI 0, sI 8, sR dst, sI 0, sI 0, sI 0, .unset, .unset, .unset, .unset, .unset, .unset, .unset, .unset] [])
  obtain ⟨i0, hi0, ht0⟩ := id G0
  obtain ⟨i1, hi1, ht1⟩ := id G1
  obtain ⟨i2, hi2, ht2⟩ := id G2
  obtain ⟨i3, hi3, ht3⟩ := id G3
  obtain ⟨i4, hi4, ht4⟩ := id G4
  obtain ⟨i5, hi5, ht5⟩ := id G5
  refine g_iload X0 hx 2 (hb hby ddb_0) rfl rfl ?_
  refine g_ifY X0 hx 11 (hb hby ddb_2) (by decide) (XT.i0_eq_t (by decide)) ?_
  refine g_getS X0 hx hZ hown (hW hw 119 rfl) e0 (SB.ext O) 14 (hb hby ddb_11) rfl ?_
  rintro T1 X1 e1
  refine g_astore X1 hx #[sR dec, sR b, sI 0, sI 8, sR dst, sI 0, sI 0, sI 0, sR tb, .unset, .unset, .unset, .unset, .unset, .unset, .unset] 16 (hb hby ddb_14) rfl rfl ?_
  refine g_iloadN X1 hx 17 (hb hby ddb_16) rfl rfl ?_
  refine g_iloadN X1 hx 18 (hb hby ddb_17) rfl rfl ?_
  refine g_iloadN X1 hx 19 (hb hby ddb_18) rfl rfl ?_
  refine g_isub X1 hx 20 (hb hby ddb_19) rfl (by decide : (8 : Int32) - (0 : Int32) = (8 : Int32)) ?_
  refine g_bipush X1 hx 22 (hb hby ddb_20) rfl kb_m4 ?_
  refine g_iand X1 hx 23 (hb hby ddb_22) rfl (by decide : (8 : Int32) &&& (-4 : Int32) = (8 : Int32)) ?_
  refine g_iadd X1 hx 24 (hb hby ddb_23) rfl (by decide : (0 : Int32) + (8 : Int32) = (8 : Int32)) ?_
  refine g_istore X1 hx #[sR dec, sR b, sI 0, sI 8, sR dst, sI 0, sI 0, sI 0, sR tb, sI 8, .unset, .unset, .unset, .unset, .unset, .unset] 26 (hb hby ddb_24) rfl rfl ?_
  refine g_iload X1 hx 28 (hb hby ddb_26) rfl rfl ?_
  refine g_istore X1 hx #[sR dec, sR b, sI 0, sI 8, sR dst, sI 0, sI 0, sI 0, sR tb, sI 8, sI 0, .unset, .unset, .unset, .unset, .unset] 30 (hb hby ddb_28) rfl rfl ?_
  refine g_iloadN X1 hx 31 (hb hby ddb_30) rfl rfl ?_
  refine g_iload X1 hx 33 (hb hby ddb_31) rfl rfl ?_
  refine g_icN X1 hx 36 (hb hby ddb_33) rfl (XT.ii_ge_f (by decide)) ?_
  refine g_aload X1 hx 38 (hb hby ddb_36) rfl rfl ?_
  refine g_aloadN X1 hx 39 (hb hby ddb_38) rfl rfl ?_
  refine g_iloadN X1 hx 40 (hb hby ddb_39) rfl rfl ?_
  refine g_iinc X1 hx #[sR dec, sR b, sI 1, sI 8, sR dst, sI 0, sI 0, sI 0, sR tb, sI 8, sI 0, .unset, .unset, .unset, .unset, .unset] 43 (hb hby ddb_40) rfl rfl (by decide : (0 : Int32) + Int32.ofInt 1 = (1 : Int32)) rfl ?_
  refine g_baload X1 hx hZ e1 S 0 (x := d0) rfl rfl 44 (hb hby ddb_43) rfl ?_
  refine g_sipush X1 hx 47 (hb hby ddb_44) rfl ks_255 ?_
  refine g_iand X1 hx 48 (hb hby ddb_47) rfl rfl ?_
  refine g_iaload X1 hx hZ e1 Tb i0 (x := v0) hi0 ht0 49 (hb hby ddb_48) rfl ?_
  refine g_istore X1 hx #[sR dec, sR b, sI 1, sI 8, sR dst, sI 0, sI 0, sI 0, sR tb, sI 8, sI 0, sI v0, .unset, .unset, .unset, .unset] 51 (hb hby ddb_49) rfl rfl ?_
  refine g_aload X1 hx 53 (hb hby ddb_51) rfl rfl ?_
  refine g_aloadN X1 hx 54 (hb hby ddb_53) rfl rfl ?_
  refine g_iloadN X1 hx 55 (hb hby ddb_54) rfl rfl ?_
  refine g_iinc X1 hx #[sR dec, sR b, sI 2, sI 8, sR dst, sI 0, sI 0, sI 0, sR tb, sI 8, sI 0, sI v0, .unset, .unset, .unset, .unset] 58 (hb hby ddb_55) rfl rfl (by decide : (1 : Int32) + Int32.ofInt 1 = (2 : Int32)) rfl ?_
  refine g_baload X1 hx hZ e1 S 1 (x := d1) rfl rfl 59 (hb hby ddb_58) rfl ?_
  refine g_sipush X1 hx 62 (hb hby ddb_59) rfl ks_255 ?_
  refine g_iand X1 hx 63 (hb hby ddb_62) rfl rfl ?_
  refine g_iaload X1 hx hZ e1 Tb i1 (x := v1) hi1 ht1 64 (hb hby ddb_63) rfl ?_
  refine g_istore X1 hx #[sR dec, sR b, sI 2, sI 8, sR dst, sI 0, sI 0, sI 0, sR tb, sI 8, sI 0, sI v0, sI v1, .unset, .unset, .unset] 66 (hb hby ddb_64) rfl rfl ?_
  refine g_aload X1 hx 68 (hb hby ddb_66) rfl rfl ?_
  refine g_aloadN X1 hx 69 (hb hby ddb_68) rfl rfl ?_
  refine g_iloadN X1 hx 70 (hb hby ddb_69) rfl rfl ?_
  refine g_iinc X1 hx #[sR dec, sR b, sI 3, sI 8, sR dst, sI 0, sI 0, sI 0, sR tb, sI 8, sI 0, sI v0, sI v1, .unset, .unset, .unset] 73 (hb hby ddb_70) rfl rfl (by decide : (2 : Int32) + Int32.ofInt 1 = (3 : Int32)) rfl ?_
  refine g_baload X1 hx hZ e1 S 2 (x := d2) rfl rfl 74 (hb hby ddb_73) rfl ?_
  refine g_sipush X1 hx 77 (hb hby ddb_74) rfl ks_255 ?_
  refine g_iand X1 hx 78 (hb hby ddb_77) rfl rfl ?_
  refine g_iaload X1 hx hZ e1 Tb i2 (x := v2) hi2 ht2 79 (hb hby ddb_78) rfl ?_
  refine g_istore X1 hx #[sR dec, sR b, sI 3, sI 8, sR dst, sI 0, sI 0, sI 0, sR tb, sI 8, sI 0, sI v0, sI v1, sI v2, .unset, .unset] 81 (hb hby ddb_79) rfl rfl ?_
  refine g_aload X1 hx 83 (hb hby ddb_81) rfl rfl ?_
  refine g_aloadN X1 hx 84 (hb hby ddb_83) rfl rfl ?_
  refine g_iloadN X1 hx 85 (hb hby ddb_84) rfl rfl ?_
  refine g_iinc X1 hx #[sR dec, sR b, sI 4, sI 8, sR dst, sI 0, sI 0, sI 0, sR tb, sI 8, sI 0, sI v0, sI v1, sI v2, .unset, .unset] 88 (hb hby ddb_85) rfl rfl (by decide : (3 : Int32) + Int32.ofInt 1 = (4 : Int32)) rfl ?_
  refine g_baload X1 hx hZ e1 S 3 (x := d3) rfl rfl 89 (hb hby ddb_88) rfl ?_
  refine g_sipush X1 hx 92 (hb hby ddb_89) rfl ks_255 ?_
  refine g_iand X1 hx 93 (hb hby ddb_92) rfl rfl ?_
  refine g_iaload X1 hx hZ e1 Tb i3 (x := v3) hi3 ht3 94 (hb hby ddb_93) rfl ?_
  refine g_istore X1 hx #[sR dec, sR b, sI 4, sI 8, sR dst, sI 0, sI 0, sI 0, sR tb, sI 8, sI 0, sI v0, sI v1, sI v2, sI v3, .unset] 96 (hb hby ddb_94) rfl rfl ?_
  refine g_iload X1 hx 98 (hb hby ddb_96) rfl rfl ?_
  refine g_iload X1 hx 100 (hb hby ddb_98) rfl rfl ?_
  refine g_ior X1 hx 101 (hb hby ddb_100) rfl rfl ?_
  refine g_iload X1 hx 103 (hb hby ddb_101) rfl rfl ?_
  refine g_ior X1 hx 104 (hb hby ddb_103) rfl rfl ?_
  refine g_iload X1 hx 106 (hb hby ddb_104) rfl rfl ?_
  refine g_ior X1 hx 107 (hb hby ddb_106) rfl rfl ?_
  refine g_ifY X1 hx 116 (hb hby ddb_107) (by decide) (XT.i0_ge_t (by simp only [own_or_neg, nn0, nn1, nn2, nn3, or_self, not_false_eq_true])) ?_
  refine g_iload X1 hx 118 (hb hby ddb_116) rfl rfl ?_
  refine g_bipush X1 hx 120 (hb hby ddb_118) rfl kb_18 ?_
  refine g_ishl X1 hx 121 (hb hby ddb_120) rfl rfl ?_
  refine g_iload X1 hx 123 (hb hby ddb_121) rfl rfl ?_
  refine g_bipush X1 hx 125 (hb hby ddb_123) rfl kb_12 ?_
  refine g_ishl X1 hx 126 (hb hby ddb_125) rfl rfl ?_
  refine g_ior X1 hx 127 (hb hby ddb_126) rfl rfl ?_
  refine g_iload X1 hx 129 (hb hby ddb_127) rfl rfl ?_
  refine g_bipush X1 hx 131 (hb hby ddb_129) rfl kb_6 ?_
  refine g_ishl X1 hx 132 (hb hby ddb_131) rfl rfl ?_
  refine g_ior X1 hx 133 (hb hby ddb_132) rfl rfl ?_
  refine g_iload X1 hx 135 (hb hby ddb_133) rfl rfl ?_
  refine g_ior X1 hx 136 (hb hby ddb_135) rfl rfl ?_
  refine g_istore X1 hx #[sR dec, sR b, sI 4, sI 8, sR dst, sI 0, sI 0, sI 0, sR tb, sI 8, sI 0, sI v0, sI v1, sI v2, sI v3, (sI ((((v0 <<< ((18 : Int32) &&& 31)) ||| (v1 <<< ((12 : Int32) &&& 31))) ||| (v2 <<< ((6 : Int32) &&& 31))) ||| v3))] 138 (hb hby ddb_136) rfl rfl ?_
  refine g_aload X1 hx 140 (hb hby ddb_138) rfl rfl ?_
  refine g_iload X1 hx 142 (hb hby ddb_140) rfl rfl ?_
  refine g_iinc X1 hx #[sR dec, sR b, sI 4, sI 8, sR dst, sI 0, sI 0, sI 0, sR tb, sI 8, sI 1, sI v0, sI v1, sI v2, sI v3, (sI ((((v0 <<< ((18 : Int32) &&& 31)) ||| (v1 <<< ((12 : Int32) &&& 31))) ||| (v2 <<< ((6 : Int32) &&& 31))) ||| v3))] 145 (hb hby ddb_142) rfl rfl (by decide : (0 : Int32) + Int32.ofInt 1 = (1 : Int32)) rfl ?_
  refine g_iload X1 hx 147 (hb hby ddb_145) rfl rfl ?_
  refine g_bipush X1 hx 149 (hb hby ddb_147) rfl kb_16 ?_
  refine g_ishr X1 hx 150 (hb hby ddb_149) rfl rfl ?_
  refine g_i2b X1 hx 151 (hb hby ddb_150) rfl ?_
  refine g_bastore X1 hx hZ e1 D 0 rfl (by simp) 152 (hb hby ddb_151) rfl ?_
  rintro T2 h2 X2 e2 W2 A2
  have sW2 := W2.size
  have S2 := S.other W2 nd3
  have Tb2 := Tb.other W2 nd2
  have K2 := (Keep.refl h0 [dst]).wr W2 (Or.inl (List.mem_cons_self ..))
  have N2 := Fr.snoc X2 (Fr.nil n0) hnd
  refine g_aload X2 hx 154 (hb hby ddb_152) rfl rfl ?_
  refine g_iload X2 hx 156 (hb hby ddb_154) rfl rfl ?_
  refine g_iinc X2 hx #[sR dec, sR b, sI 4, sI 8, sR dst, sI 0, sI 0, sI 0, sR tb, sI 8, sI 2, sI v0, sI v1, sI v2, sI v3, (sI ((((v0 <<< ((18 : Int32) &&& 31)) ||| (v1 <<< ((12 : Int32) &&& 31))) ||| (v2 <<< ((6 : Int32) &&& 31))) ||| v3))] 159 (hb hby ddb_156) rfl rfl (by decide : (1 : Int32) + Int32.ofInt 1 = (2 : Int32)) rfl ?_
  refine g_iload X2 hx 161 (hb hby ddb_159) rfl rfl ?_
  refine g_bipush X2 hx 163 (hb hby ddb_161) rfl kb_8 ?_
  refine g_ishr X2 hx 164 (hb hby ddb_163) rfl rfl ?_
  refine g_i2b X2 hx 165 (hb hby ddb_164) rfl ?_
  refine g_bastore X2 hx hZ e2 A2 1 rfl (by simp) 166 (hb hby ddb_165) rfl ?_
  rintro T3 h3 X3 e3 W3 A3
  have sW3 := W3.size
  have S3 := S2.other W3 nd3
  have Tb3 := Tb2.other W3 nd2
  have K3 := K2.wr W3 (Or.inl (List.mem_cons_self ..))
  have N3 := Fr.snoc X3 N2 hnd
  refine g_aload X3 hx 168 (hb hby ddb_166) rfl rfl ?_
  refine g_iload X3 hx 170 (hb hby ddb_168) rfl rfl ?_
  refine g_iinc X3 hx #[sR dec, sR b, sI 4, sI 8, sR dst, sI 0, sI 0, sI 0, sR tb, sI 8, sI 3, sI v0, sI v1, sI v2, sI v3, (sI ((((v0 <<< ((18 : Int32) &&& 31)) ||| (v1 <<< ((12 : Int32) &&& 31))) ||| (v2 <<< ((6 : Int32) &&& 31))) ||| v3))] 173 (hb hby ddb_170) rfl rfl (by decide : (2 : Int32) + Int32.ofInt 1 = (3 : Int32)) rfl ?_
  refine g_iload X3 hx 175 (hb hby ddb_173) rfl rfl ?_
  refine g_i2b X3 hx 176 (hb hby ddb_175) rfl ?_
  refine g_bastore X3 hx hZ e3 A3 2 rfl (by simp) 177 (hb hby ddb_176) rfl ?_
  rintro T4 h4 X4 e4 W4 A4
  have sW4 := W4.size
  have S4 := S3.other W4 nd3
  have Tb4 := Tb3.other W4 nd2
  have K4 := K3.wr W4 (Or.inl (List.mem_cons_self ..))
  have N4 := Fr.snoc X4 N3 hnd
  refine g_goto X4 hx 30 (hb hby ddb_177) (by decide) ?_
  refine g_iloadN X4 hx 31 (hb hby ddb_30) rfl rfl ?_
  refine g_iload X4 hx 33 (hb hby ddb_31) rfl rfl ?_
  refine g_icN X4 hx 36 (hb hby ddb_33) rfl (XT.ii_ge_f (by decide)) ?_
  refine g_aload X4 hx 38 (hb hby ddb_36) rfl rfl ?_
  refine g_aloadN X4 hx 39 (hb hby ddb_38) rfl rfl ?_
  refine g_iloadN X4 hx 40 (hb hby ddb_39) rfl rfl ?_
  refine g_iinc X4 hx #[sR dec, sR b, sI 5, sI 8, sR dst, sI 0, sI 0, sI 0, sR tb, sI 8, sI 3, sI v0, sI v1, sI v2, sI v3, (sI ((((v0 <<< ((18 : Int32) &&& 31)) ||| (v1 <<< ((12 : Int32) &&& 31))) ||| (v2 <<< ((6 : Int32) &&& 31))) ||| v3))] 43 (hb hby ddb_40) rfl rfl (by decide : (4 : Int32) + Int32.ofInt 1 = (5 : Int32)) rfl ?_
  refine g_baload X4 hx hZ e4 S4 4 (x := d4) rfl rfl 44 (hb hby ddb_43) rfl ?_
  refine g_sipush X4 hx 47 (hb hby ddb_44) rfl ks_255 ?_
  refine g_iand X4 hx 48 (hb hby ddb_47) rfl rfl ?_
  refine g_iaload X4 hx hZ e4 Tb4 i4 (x := v4) hi4 ht4 49 (hb hby ddb_48) rfl ?_
  refine g_istore X4 hx #[sR dec, sR b, sI 5, sI 8, sR dst, sI 0, sI 0, sI 0, sR tb, sI 8, sI 3, sI v4, sI v1, sI v2, sI v3, (sI ((((v0 <<< ((18 : Int32) &&& 31)) ||| (v1 <<< ((12 : Int32) &&& 31))) ||| (v2 <<< ((6 : Int32) &&& 31))) ||| v3))] 51 (hb hby ddb_49) rfl rfl ?_
  refine g_aload X4 hx 53 (hb hby ddb_51) rfl rfl ?_
  refine g_aloadN X4 hx 54 (hb hby ddb_53) rfl rfl ?_
  refine g_iloadN X4 hx 55 (hb hby ddb_54) rfl rfl ?_
  refine g_iinc X4 hx #[sR dec, sR b, sI 6, sI 8, sR dst, sI 0, sI 0, sI 0, sR tb, sI 8, sI 3, sI v4, sI v1, sI v2, sI v3, (sI ((((v0 <<< ((18 : Int32) &&& 31)) ||| (v1 <<< ((12 : Int32) &&& 31))) ||| (v2 <<< ((6 : Int32) &&& 31))) ||| v3))] 58 (hb hby ddb_55) rfl rfl (by decide : (5 : Int32) + Int32.ofInt 1 = (6 : Int32)) rfl ?_
  refine g_baload X4 hx hZ e4 S4 5 (x := d5) rfl rfl 59 (hb hby ddb_58) rfl ?_
  refine g_sipush X4 hx 62 (hb hby ddb_59) rfl ks_255 ?_
  refine g_iand X4 hx 63 (hb hby ddb_62) rfl rfl ?_
  refine g_iaload X4 hx hZ e4 Tb4 i5 (x := v5) hi5 ht5 64 (hb hby ddb_63) rfl ?_
  refine g_istore X4 hx #[sR dec, sR b, sI 6, sI 8, sR dst, sI 0, sI 0, sI 0, sR tb, sI 8, sI 3, sI v4, sI v5, sI v2, sI v3, (sI ((((v0 <<< ((18 : Int32) &&& 31)) ||| (v1 <<< ((12 : Int32) &&& 31))) ||| (v2 <<< ((6 : Int32) &&& 31))) ||| v3))] 66 (hb hby ddb_64) rfl rfl ?_
  refine g_aload X4 hx 68 (hb hby ddb_66) rfl rfl ?_
  refine g_aloadN X4 hx 69 (hb hby ddb_68) rfl rfl ?_
  refine g_iloadN X4 hx 70 (hb hby ddb_69) rfl rfl ?_
  refine g_iinc X4 hx #[sR dec, sR b, sI 7, sI 8, sR dst, sI 0, sI 0, sI 0, sR tb, sI 8, sI 3, sI v4, sI v5, sI v2, sI v3, (sI ((((v0 <<< ((18 : Int32) &&& 31)) ||| (v1 <<< ((12 : Int32) &&& 31))) ||| (v2 <<< ((6 : Int32) &&& 31))) ||| v3))] 73 (hb hby ddb_70) rfl rfl (by decide : (6 : Int32) + Int32.ofInt 1 = (7 : Int32)) rfl ?_
  refine g_baload X4 hx hZ e4 S4 6 (x := (61 : Int32)) rfl rfl 74 (hb hby ddb_73) rfl ?_
  refine g_sipush X4 hx 77 (hb hby ddb_74) rfl ks_255 ?_
  refine g_iand X4 hx 78 (hb hby ddb_77) rfl (by decide : (61 : Int32) &&& (255 : Int32) = (61 : Int32)) ?_
  refine g_iaload X4 hx hZ e4 Tb4 61 (x := (-2 : Int32)) rfl (by decide) 79 (hb hby ddb_78) rfl ?_
  refine g_istore X4 hx #[sR dec, sR b, sI 7, sI 8, sR dst, sI 0, sI 0, sI 0, sR tb, sI 8, sI 3, sI v4, sI v5, (sI (-2)), sI v3, (sI ((((v0 <<< ((18 : Int32) &&& 31)) ||| (v1 <<< ((12 : Int32) &&& 31))) ||| (v2 <<< ((6 : Int32) &&& 31))) ||| v3))] 81 (hb hby ddb_79) rfl rfl ?_
  refine g_aload X4 hx 83 (hb hby ddb_81) rfl rfl ?_
  refine g_aloadN X4 hx 84 (hb hby ddb_83) rfl rfl ?_
  refine g_iloadN X4 hx 85 (hb hby ddb_84) rfl rfl ?_
  refine g_iinc X4 hx #[sR dec, sR b, sI 8, sI 8, sR dst, sI 0, sI 0, sI 0, sR tb, sI 8, sI 3, sI v4, sI v5, (sI (-2)), sI v3, (sI ((((v0 <<< ((18 : Int32) &&& 31)) ||| (v1 <<< ((12 : Int32) &&& 31))) ||| (v2 <<< ((6 : Int32) &&& 31))) ||| v3))] 88 (hb hby ddb_85) rfl rfl (by decide : (7 : Int32) + Int32.ofInt 1 = (8 : Int32)) rfl ?_
  refine g_baload X4 hx hZ e4 S4 7 (x := (61 : Int32)) rfl rfl 89 (hb hby ddb_88) rfl ?_
  refine g_sipush X4 hx 92 (hb hby ddb_89) rfl ks_255 ?_
  refine g_iand X4 hx 93 (hb hby ddb_92) rfl (by decide : (61 : Int32) &&& (255 : Int32) = (61 : Int32)) ?_
  refine g_iaload X4 hx hZ e4 Tb4 61 (x := (-2 : Int32)) rfl (by decide) 94 (hb hby ddb_93) rfl ?_
  refine g_istore X4 hx #[sR dec, sR b, sI 8, sI 8, sR dst, sI 0, sI 0, sI 0, sR tb, sI 8, sI 3, sI v4, sI v5, (sI (-2)), (sI (-2)), (sI ((((v0 <<< ((18 : Int32) &&& 31)) ||| (v1 <<< ((12 : Int32) &&& 31))) ||| (v2 <<< ((6 : Int32) &&& 31))) ||| v3))] 96 (hb hby ddb_94) rfl rfl ?_
  refine g_iload X4 hx 98 (hb hby ddb_96) rfl rfl ?_
  refine g_iload X4 hx 100 (hb hby ddb_98) rfl rfl ?_
  refine g_ior X4 hx 101 (hb hby ddb_100) rfl rfl ?_
  refine g_iload X4 hx 103 (hb hby ddb_101) rfl rfl ?_
  refine g_ior X4 hx 104 (hb hby ddb_103) rfl rfl ?_
  refine g_iload X4 hx 106 (hb hby ddb_104) rfl rfl ?_
  refine g_ior X4 hx 107 (hb hby ddb_106) rfl rfl ?_
  refine g_ifN X4 hx 110 (hb hby ddb_107) rfl (XT.i0_ge_f (by simp only [own_or_neg]; exact Or.inr (by decide))) ?_
  refine g_iload X4 hx 112 (hb hby ddb_110) rfl rfl ?_
  refine g_iload X4 hx 114 (hb hby ddb_112) rfl rfl ?_
  refine g_isub X4 hx 115 (hb hby ddb_114) rfl (by decide : (3 : Int32) - (0 : Int32) = (3 : Int32)) ?_
  have Ad : AI Z h4 dst .byte ([nar .byte ((((((v0 <<< ((18 : Int32) &&& 31)) ||| (v1 <<< ((12 : Int32) &&& 31))) ||| (v2 <<< ((6 : Int32) &&& 31))) ||| v3) >>> ((16 : Int32) &&& 31)).toInt8.toInt32), nar .byte ((((((v0 <<< ((18 : Int32) &&& 31)) ||| (v1 <<< ((12 : Int32) &&& 31))) ||| (v2 <<< ((6 : Int32) &&& 31))) ||| v3) >>> ((8 : Int32) &&& 31)).toInt8.toInt32), nar .byte (((((v0 <<< ((18 : Int32) &&& 31)) ||| (v1 <<< ((12 : Int32) &&& 31))) ||| (v2 <<< ((6 : Int32) &&& 31))) ||| v3).toInt8.toInt32), (0 : Int32)] : List Int32) := A4
  exact Go.retI X4 hx hret hlk (hb hby ddb_115) ⟨rfl, N4, e4 ▸ K4, e4 ▸ Ad⟩ (by decide) (by decide)
theorem dd0_47 : decode jdk_2450_method_9_code 47 = .ok (.aload_n 0, 1) := by decide +kernel
theorem dd0_48 : decode jdk_2450_method_9_code 48 = .ok (.aload_n 1, 1) := by decide +kernel
theorem dd0_49 : decode jdk_2450_method_9_code 49 = .ok (.iload_n 2, 1) := by decide +kernel
theorem dd0_50 : decode jdk_2450_method_9_code 50 = .ok (.iload_n 3, 1) := by decide +kernel
theorem dd0_51 : decode jdk_2450_method_9_code 51 = .ok (.aload 4, 2) := by decide +kernel
theorem dd0_53 : decode jdk_2450_method_9_code 53 = .ok (.iload 6, 2) := by decide +kernel
theorem dd0_55 : decode jdk_2450_method_9_code 55 = .ok (.aload_n 0, 1) := by decide +kernel
theorem dd0_56 : decode jdk_2450_method_9_code 56 = .ok (.getfield 7, 3) := by decide +kernel
theorem dd0_59 : decode jdk_2450_method_9_code 59 = .ok (.aload_n 0, 1) := by decide +kernel
theorem dd0_60 : decode jdk_2450_method_9_code 60 = .ok (.getfield 13, 3) := by decide +kernel
theorem dd0_63 : decode jdk_2450_method_9_code 63 = .ok (.invokevirtual 111, 3) := by decide +kernel
theorem dd0_66 : decode jdk_2450_method_9_code 66 = .ok (.istore 9, 2) := by decide +kernel
theorem dd0_68 : decode jdk_2450_method_9_code 68 = .ok (.iload 9, 2) := by decide +kernel
theorem dd0_70 : decode jdk_2450_method_9_code 70 = .ok (.iconst 2, 1) := by decide +kernel
theorem dd0_71 : decode jdk_2450_method_9_code 71 = .ok (.iadd, 1) := by decide +kernel
theorem dd0_72 : decode jdk_2450_method_9_code 72 = .ok (.iconst 3, 1) := by decide +kernel
theorem dd0_73 : decode jdk_2450_method_9_code 73 = .ok (.idiv, 1) := by decide +kernel
theorem dd0_74 : decode jdk_2450_method_9_code 74 = .ok (.iconst 4, 1) := by decide +kernel
theorem dd0_75 : decode jdk_2450_method_9_code 75 = .ok (.imul, 1) := by decide +kernel
theorem dd0_76 : decode jdk_2450_method_9_code 76 = .ok (.istore 10, 2) := by decide +kernel
theorem dd0_78 : decode jdk_2450_method_9_code 78 = .ok (.iload_n 2, 1) := by decide +kernel
theorem dd0_79 : decode jdk_2450_method_9_code 79 = .ok (.iload 10, 2) := by decide +kernel
theorem dd0_81 : decode jdk_2450_method_9_code 81 = .ok (.iadd, 1) := by decide +kernel
theorem dd0_82 : decode jdk_2450_method_9_code 82 = .ok (.istore_n 2, 1) := by decide +kernel
theorem dd0_83 : decode jdk_2450_method_9_code 83 = .ok (.iload 6, 2) := by decide +kernel
theorem dd0_85 : decode jdk_2450_method_9_code 85 = .ok (.iload 9, 2) := by decide +kernel
theorem dd0_87 : decode jdk_2450_method_9_code 87 = .ok (.iadd, 1) := by decide +kernel
theorem dd0_88 : decode jdk_2450_method_9_code 88 = .ok (.istore 6, 2) := by decide +kernel
set_option maxRecDepth 65536 in
set_option maxHeartbeats 40000000 in
theorem rmD0_4 (l : Launch) (Z : State) (a0 : Array Value) (hw : ∀ d ∈ tables_1, d.before a0 Z = true) (d0 v0 d1 v1 d2 v2 d3 v3 d4 v4 d5 v5 : Int32) (G0 : Dig d0 v0) (nn0 : ¬ v0 < 0) (G1 : Dig d1 v1) (nn1 : ¬ v1 < 0) (G2 : Dig d2 v2) (nn2 : ¬ v2 < 0) (G3 : Dig d3 v3) (nn3 : ¬ v3 < 0) (G4 : Dig d4 v4) (nn4 : ¬ v4 < 0) (G5 : Dig d5 v5) (nn5 : ¬ v5 < 0) (dec tb : Addr) (SB : Sta Z Z.heap "java/util/Base64$Decoder" "fromBase64" "[I" (.ref tb)) (b : Addr) (h0 : Heap) (n0 : Nat) (O : Ext Z.heap h0) (E : Exa Z h0 dec "java/util/Base64$Decoder") (FU : Fld Z h0 dec "java/util/Base64$Decoder" "isURL" "Z" (.int 0)) (FM : Fld Z h0 dec "java/util/Base64$Decoder" "isMIME" "Z" (.int 0)) (Tb : AI Z h0 tb .int own_tab) (dst : Addr) (hnd : n0 ≤ dst) (nd1 : dec ≠ dst) (nd2 : tb ≠ dst) (nd3 : b ≠ dst) (S : AI Z h0 b .byte ([d0, d1, d2, d3, d4, d5, 61, 61] : List Int32)) (D : AI Z h0 dst .byte (List.replicate 4 0)) :
    Ctr l Z (⟨"java/util/Base64$Decoder", "decode0", "([BII[B)I"⟩ : MethodName) jdk_2450_method_9_code 11 (some .int) [] ({ frames := 1, cells := 0, slots := 0, locals := 27 } : Room) #[(.ref dec), (.ref b), (.int (0 : Int32)), (.int (8 : Int32)), (.ref dst)] h0 (QD Z (4 : Int32) dst ([nar .byte ((((((v0 <<< ((18 : Int32) &&& 31)) ||| (v1 <<< ((12 : Int32) &&& 31))) ||| (v2 <<< ((6 : Int32) &&& 31))) ||| v3) >>> ((16 : Int32) &&& 31)).toInt8.toInt32), nar .byte ((((((v0 <<< ((18 : Int32) &&& 31)) ||| (v1 <<< ((12 : Int32) &&& 31))) ||| (v2 <<< ((6 : Int32) &&& 31))) ||| v3) >>> ((8 : Int32) &&& 31)).toInt8.toInt32), nar .byte (((((v0 <<< ((18 : Int32) &&& 31)) ||| (v1 <<< ((12 : Int32) &&& 31))) ||| (v2 <<< ((6 : Int32) &&& 31))) ||| v3).toInt8.toInt32), nar .byte (((((0 : Int32) ||| (v4 <<< ((18 : Int32) &&& 31))) ||| (v5 <<< ((12 : Int32) &&& 31))) >>> ((16 : Int32) &&& 31)).toInt8.toInt32)] : List Int32) h0 n0) := by
  refine Ctr.of (plainFor_of_name pn_31) ?_
  intro p e s m below meth c s₁ hx hby hml hown hnm hret hlk hZ X0 e0
  refine Go.cast (ef_32 m dec b (0 : Int32) (8 : Int32) dst) ?_
  show Go p e below _ s₁ (mkF m 0 #[sR dec, sR b, sI 0, sI 8, sR dst, .unset, .unset, .unset, .unset, .unset, .unset] [])
  obtain ⟨i0, hi0, ht0⟩ := id G0
  obtain ⟨i1, hi1, ht1⟩ := id G1
  obtain ⟨i2, hi2, ht2⟩ := id G2
  obtain ⟨i3, hi3, ht3⟩ := id G3
  obtain ⟨i4, hi4, ht4⟩ := id G4
  obtain ⟨i5, hi5, ht5⟩ := id G5
  refine g_aloadN X0 hx 1 (hb hby dd0_0) rfl rfl ?_
  refine g_getF X0 hx hZ hown (hW hw 117 rfl) e0 FU 4 (hb hby dd0_1) rfl ?_
  rintro T1 X1 e1
  refine g_ifY X1 hx 13 (hb hby dd0_4) (by decide) (XT.i0_eq_t (by decide)) ?_
  refine g_getS X1 hx hZ hown (hW hw 119 rfl) e1 (SB.ext O) 16 (hb hby dd0_13) rfl ?_
  rintro T2 X2 e2
  refine g_astore X2 hx #[sR dec, sR b, sI 0, sI 8, sR dst, sR tb, .unset, .unset, .unset, .unset, .unset] 18 (hb hby dd0_16) rfl rfl ?_
  refine g_iconst X2 hx 19 (hb hby dd0_18) rfl ki_0 ?_
  refine g_istore X2 hx #[sR dec, sR b, sI 0, sI 8, sR dst, sR tb, sI 0, .unset, .unset, .unset, .unset] 21 (hb hby dd0_19) rfl rfl ?_
  refine g_iconst X2 hx 22 (hb hby dd0_21) rfl ki_0 ?_
  refine g_istore X2 hx #[sR dec, sR b, sI 0, sI 8, sR dst, sR tb, sI 0, sI 0, .unset, .unset, .unset] 24 (hb hby dd0_22) rfl rfl ?_
  refine g_bipush X2 hx 26 (hb hby dd0_24) rfl kb_18 ?_
  refine g_istore X2 hx #[sR dec, sR b, sI 0, sI 8, sR dst, sR tb, sI 0, sI 0, sI 18, .unset, .unset] 28 (hb hby dd0_26) rfl rfl ?_
  refine g_iloadN X2 hx 29 (hb hby dd0_28) rfl rfl ?_
  refine g_iloadN X2 hx 30 (hb hby dd0_29) rfl rfl ?_
  refine g_icN X2 hx 33 (hb hby dd0_30) rfl (XT.ii_ge_f (by decide)) ?_
  refine g_iload X2 hx 35 (hb hby dd0_33) rfl rfl ?_
  refine g_bipush X2 hx 37 (hb hby dd0_35) rfl kb_18 ?_
  refine g_icN X2 hx 40 (hb hby dd0_37) rfl (XT.ii_ne_f (by decide)) ?_
  refine g_iloadN X2 hx 41 (hb hby dd0_40) rfl rfl ?_
  refine g_iloadN X2 hx 42 (hb hby dd0_41) rfl rfl ?_
  refine g_iconst X2 hx 43 (hb hby dd0_42) rfl ki_4 ?_
  refine g_isub X2 hx 44 (hb hby dd0_43) rfl (by decide : (8 : Int32) - (4 : Int32) = (4 : Int32)) ?_
  refine g_icN X2 hx 47 (hb hby dd0_44) rfl (XT.ii_ge_f (by decide)) ?_
  refine g_aloadN X2 hx 48 (hb hby dd0_47) rfl rfl ?_
  refine g_aloadN X2 hx 49 (hb hby dd0_48) rfl rfl ?_
  refine g_iloadN X2 hx 50 (hb hby dd0_49) rfl rfl ?_
  refine g_iloadN X2 hx 51 (hb hby dd0_50) rfl rfl ?_
  refine g_aload X2 hx 53 (hb hby dd0_51) rfl rfl ?_
  refine g_iload X2 hx 55 (hb hby dd0_53) rfl rfl ?_
  refine g_aloadN X2 hx 56 (hb hby dd0_55) rfl rfl ?_
  refine g_getF X2 hx hZ hown (hW hw 117 rfl) e2 FU 59 (hb hby dd0_56) rfl ?_
  rintro T3 X3 e3
  refine g_aloadN X3 hx 60 (hb hby dd0_59) rfl rfl ?_
  refine g_getF X3 hx hZ hown (hW hw 120 rfl) e3 FM 63 (hb hby dd0_60) rfl ?_
  rintro T4 X4 e4
  refine Go.callPV X4 hx (y := (⟨"java/util/Base64$Decoder", "decodeBlock", "([BII[BIZZ)I"⟩ : MethodName)) hown (mvT hZ (hW hw 132 rfl)) (mvT hZ (hW hw 133 rfl)) (mvT hZ (hW hw 135 rfl)) (mvP hZ (hW hw 134 rfl)) (mvT hZ (hW hw 136 rfl)) (by decide) (Ctr.back (W := 0) (rmDB_4 l Z a0 hw d0 v0 d1 v1 d2 v2 d3 v3 d4 v4 d5 v5 G0 nn0 G1 nn1 G2 nn2 G3 nn3 G4 nn4 G5 nn5 dec tb SB b h0 n0 O E FU FM Tb dst hnd nd1 nd2 nd3 S D) hZ (hW hw 136 rfl) (hW hw 68 rfl) (by decide) (by decide)) e4 E (g := (mkF m 63 #[sR dec, sR b, sI 0, sI 8, sR dst, sR tb, sI 0, sI 0, sI 18, .unset, .unset] [vI 0, vI 0, vI 0, vR dst, vI 8, vI 0, vR b, vR dec])) rfl (by rw [hml]; rfl) (argsL := [vR b, vI 0, vI 8, vR dst, vI 0, vI 0, vI 0]) (rest := []) (lenOf pd_37 rfl) rfl (by show 2 * 0 + _ ≤ _; exact Nat.le_of_eq rfl) (hb hby dd0_63) rfl (by decide) (by decide) ?_
  rintro _ T5 L5 X5 ⟨rfl, N5q, K5, A5⟩
  show Go p e below _ T5 (mkF m 66 #[sR dec, sR b, sI 0, sI 8, sR dst, sR tb, sI 0, sI 0, sI 18, .unset, .unset] [vI 3])
  have S5 := S.keep K5 (ninS nd3 nin0)
  have Tb5 := Tb.keep K5 (ninS nd2 nin0)
  have N5 := Fr.app (Fr.nil n0) N5q
  refine g_istore X5 hx #[sR dec, sR b, sI 0, sI 8, sR dst, sR tb, sI 0, sI 0, sI 18, sI 3, .unset] 68 (hb hby dd0_66) rfl rfl ?_
  refine g_iload X5 hx 70 (hb hby dd0_68) rfl rfl ?_
  refine g_iconst X5 hx 71 (hb hby dd0_70) rfl ki_2 ?_
  refine g_iadd X5 hx 72 (hb hby dd0_71) rfl (by decide : (3 : Int32) + (2 : Int32) = (5 : Int32)) ?_
  refine g_iconst X5 hx 73 (hb hby dd0_72) rfl ki_3 ?_
  refine g_idiv X5 hx 74 (hb hby dd0_73) rfl (by decide) (by decide : (5 : Int32) / (3 : Int32) = (1 : Int32)) ?_
  refine g_iconst X5 hx 75 (hb hby dd0_74) rfl ki_4 ?_
  refine g_imul X5 hx 76 (hb hby dd0_75) rfl (by decide : (1 : Int32) * (4 : Int32) = (4 : Int32)) ?_
  refine g_istore X5 hx #[sR dec, sR b, sI 0, sI 8, sR dst, sR tb, sI 0, sI 0, sI 18, sI 3, sI 4] 78 (hb hby dd0_76) rfl rfl ?_
  refine g_iloadN X5 hx 79 (hb hby dd0_78) rfl rfl ?_
  refine g_iload X5 hx 81 (hb hby dd0_79) rfl rfl ?_
  refine g_iadd X5 hx 82 (hb hby dd0_81) rfl (by decide : (0 : Int32) + (4 : Int32) = (4 : Int32)) ?_
  refine g_istoreN X5 hx #[sR dec, sR b, sI 4, sI 8, sR dst, sR tb, sI 0, sI 0, sI 18, sI 3, sI 4] 83 (hb hby dd0_82) rfl rfl ?_
  refine g_iload X5 hx 85 (hb hby dd0_83) rfl rfl ?_
  refine g_iload X5 hx 87 (hb hby dd0_85) rfl rfl ?_
  refine g_iadd X5 hx 88 (hb hby dd0_87) rfl (by decide : (0 : Int32) + (3 : Int32) = (3 : Int32)) ?_
  refine g_istore X5 hx #[sR dec, sR b, sI 4, sI 8, sR dst, sR tb, sI 3, sI 0, sI 18, sI 3, sI 4] 90 (hb hby dd0_88) rfl rfl ?_
  refine g_iloadN X5 hx 91 (hb hby dd0_90) rfl rfl ?_
  refine g_iloadN X5 hx 92 (hb hby dd0_91) rfl rfl ?_
  refine g_icY X5 hx 98 (hb hby dd0_92) (by decide) (XT.ii_lt_t (by decide)) ?_
  refine g_aloadN X5 hx 99 (hb hby dd0_98) rfl rfl ?_
  refine g_iloadN X5 hx 100 (hb hby dd0_99) rfl rfl ?_
  refine g_iinc X5 hx #[sR dec, sR b, sI 5, sI 8, sR dst, sR tb, sI 3, sI 0, sI 18, sI 3, sI 4] 103 (hb hby dd0_100) rfl rfl (by decide : (4 : Int32) + Int32.ofInt 1 = (5 : Int32)) rfl ?_
  refine g_baload X5 hx hZ rfl S5 4 (x := d4) rfl rfl 104 (hb hby dd0_103) rfl ?_
  refine g_sipush X5 hx 107 (hb hby dd0_104) rfl ks_255 ?_
  refine g_iand X5 hx 108 (hb hby dd0_107) rfl rfl ?_
  refine g_istore X5 hx #[sR dec, sR b, sI 5, sI 8, sR dst, sR tb, sI 3, sI 0, sI 18, (sI (d4 &&& (255 : Int32))), sI 4] 110 (hb hby dd0_108) rfl rfl ?_
  refine g_aload X5 hx 112 (hb hby dd0_110) rfl rfl ?_
  refine g_iload X5 hx 114 (hb hby dd0_112) rfl rfl ?_
  refine g_iaload X5 hx hZ rfl Tb5 i4 (x := v4) hi4 ht4 115 (hb hby dd0_114) rfl ?_
  refine g_dup X5 hx 116 (hb hby dd0_115) rfl rfl ?_
  refine g_istore X5 hx #[sR dec, sR b, sI 5, sI 8, sR dst, sR tb, sI 3, sI 0, sI 18, sI v4, sI 4] 118 (hb hby dd0_116) rfl rfl ?_
  refine g_ifY X5 hx 214 (hb hby dd0_118) (by decide) (XT.i0_ge_t nn4) ?_
  refine g_iload X5 hx 216 (hb hby dd0_214) rfl rfl ?_
  refine g_iload X5 hx 218 (hb hby dd0_216) rfl rfl ?_
  refine g_iload X5 hx 220 (hb hby dd0_218) rfl rfl ?_
  refine g_ishl X5 hx 221 (hb hby dd0_220) rfl rfl ?_
  refine g_ior X5 hx 222 (hb hby dd0_221) rfl rfl ?_
  refine g_istore X5 hx #[sR dec, sR b, sI 5, sI 8, sR dst, sR tb, sI 3, (sI ((0 : Int32) ||| (v4 <<< ((18 : Int32) &&& 31)))), sI 18, sI v4, sI 4] 224 (hb hby dd0_222) rfl rfl ?_
  refine g_iinc X5 hx #[sR dec, sR b, sI 5, sI 8, sR dst, sR tb, sI 3, (sI ((0 : Int32) ||| (v4 <<< ((18 : Int32) &&& 31)))), sI 12, sI v4, sI 4] 227 (hb hby dd0_224) rfl rfl (by decide : (18 : Int32) + Int32.ofInt (-6) = (12 : Int32)) rfl ?_
  refine g_iload X5 hx 229 (hb hby dd0_227) rfl rfl ?_
  refine g_ifY X5 hx 278 (hb hby dd0_229) (by decide) (XT.i0_ge_t (by decide)) ?_
  refine g_goto X5 hx 28 (hb hby dd0_278) (by decide) ?_
  refine g_iloadN X5 hx 29 (hb hby dd0_28) rfl rfl ?_
  refine g_iloadN X5 hx 30 (hb hby dd0_29) rfl rfl ?_
  refine g_icN X5 hx 33 (hb hby dd0_30) rfl (XT.ii_ge_f (by decide)) ?_
  refine g_iload X5 hx 35 (hb hby dd0_33) rfl rfl ?_
  refine g_bipush X5 hx 37 (hb hby dd0_35) rfl kb_18 ?_
  refine g_icY X5 hx 90 (hb hby dd0_37) (by decide) (XT.ii_ne_t (by decide)) ?_
  refine g_iloadN X5 hx 91 (hb hby dd0_90) rfl rfl ?_
  refine g_iloadN X5 hx 92 (hb hby dd0_91) rfl rfl ?_
  refine g_icY X5 hx 98 (hb hby dd0_92) (by decide) (XT.ii_lt_t (by decide)) ?_
  refine g_aloadN X5 hx 99 (hb hby dd0_98) rfl rfl ?_
  refine g_iloadN X5 hx 100 (hb hby dd0_99) rfl rfl ?_
  refine g_iinc X5 hx #[sR dec, sR b, sI 6, sI 8, sR dst, sR tb, sI 3, (sI ((0 : Int32) ||| (v4 <<< ((18 : Int32) &&& 31)))), sI 12, sI v4, sI 4] 103 (hb hby dd0_100) rfl rfl (by decide : (5 : Int32) + Int32.ofInt 1 = (6 : Int32)) rfl ?_
  refine g_baload X5 hx hZ rfl S5 5 (x := d5) rfl rfl 104 (hb hby dd0_103) rfl ?_
  refine g_sipush X5 hx 107 (hb hby dd0_104) rfl ks_255 ?_
  refine g_iand X5 hx 108 (hb hby dd0_107) rfl rfl ?_
  refine g_istore X5 hx #[sR dec, sR b, sI 6, sI 8, sR dst, sR tb, sI 3, (sI ((0 : Int32) ||| (v4 <<< ((18 : Int32) &&& 31)))), sI 12, (sI (d5 &&& (255 : Int32))), sI 4] 110 (hb hby dd0_108) rfl rfl ?_
  refine g_aload X5 hx 112 (hb hby dd0_110) rfl rfl ?_
  refine g_iload X5 hx 114 (hb hby dd0_112) rfl rfl ?_
  refine g_iaload X5 hx hZ rfl Tb5 i5 (x := v5) hi5 ht5 115 (hb hby dd0_114) rfl ?_
  refine g_dup X5 hx 116 (hb hby dd0_115) rfl rfl ?_
  refine g_istore X5 hx #[sR dec, sR b, sI 6, sI 8, sR dst, sR tb, sI 3, (sI ((0 : Int32) ||| (v4 <<< ((18 : Int32) &&& 31)))), sI 12, sI v5, sI 4] 118 (hb hby dd0_116) rfl rfl ?_
  refine g_ifY X5 hx 214 (hb hby dd0_118) (by decide) (XT.i0_ge_t nn5) ?_
  refine g_iload X5 hx 216 (hb hby dd0_214) rfl rfl ?_
  refine g_iload X5 hx 218 (hb hby dd0_216) rfl rfl ?_
  refine g_iload X5 hx 220 (hb hby dd0_218) rfl rfl ?_
  refine g_ishl X5 hx 221 (hb hby dd0_220) rfl rfl ?_
  refine g_ior X5 hx 222 (hb hby dd0_221) rfl rfl ?_
  refine g_istore X5 hx #[sR dec, sR b, sI 6, sI 8, sR dst, sR tb, sI 3, (sI (((0 : Int32) ||| (v4 <<< ((18 : Int32) &&& 31))) ||| (v5 <<< ((12 : Int32) &&& 31)))), sI 12, sI v5, sI 4] 224 (hb hby dd0_222) rfl rfl ?_
  refine g_iinc X5 hx #[sR dec, sR b, sI 6, sI 8, sR dst, sR tb, sI 3, (sI (((0 : Int32) ||| (v4 <<< ((18 : Int32) &&& 31))) ||| (v5 <<< ((12 : Int32) &&& 31)))), sI 6, sI v5, sI 4] 227 (hb hby dd0_224) rfl rfl (by decide : (12 : Int32) + Int32.ofInt (-6) = (6 : Int32)) rfl ?_
  refine g_iload X5 hx 229 (hb hby dd0_227) rfl rfl ?_
  refine g_ifY X5 hx 278 (hb hby dd0_229) (by decide) (XT.i0_ge_t (by decide)) ?_
  refine g_goto X5 hx 28 (hb hby dd0_278) (by decide) ?_
  refine g_iloadN X5 hx 29 (hb hby dd0_28) rfl rfl ?_
  refine g_iloadN X5 hx 30 (hb hby dd0_29) rfl rfl ?_
  refine g_icN X5 hx 33 (hb hby dd0_30) rfl (XT.ii_ge_f (by decide)) ?_
  refine g_iload X5 hx 35 (hb hby dd0_33) rfl rfl ?_
  refine g_bipush X5 hx 37 (hb hby dd0_35) rfl kb_18 ?_
  refine g_icY X5 hx 90 (hb hby dd0_37) (by decide) (XT.ii_ne_t (by decide)) ?_
  refine g_iloadN X5 hx 91 (hb hby dd0_90) rfl rfl ?_
  refine g_iloadN X5 hx 92 (hb hby dd0_91) rfl rfl ?_
  refine g_icY X5 hx 98 (hb hby dd0_92) (by decide) (XT.ii_lt_t (by decide)) ?_
  refine g_aloadN X5 hx 99 (hb hby dd0_98) rfl rfl ?_
  refine g_iloadN X5 hx 100 (hb hby dd0_99) rfl rfl ?_
  refine g_iinc X5 hx #[sR dec, sR b, sI 7, sI 8, sR dst, sR tb, sI 3, (sI (((0 : Int32) ||| (v4 <<< ((18 : Int32) &&& 31))) ||| (v5 <<< ((12 : Int32) &&& 31)))), sI 6, sI v5, sI 4] 103 (hb hby dd0_100) rfl rfl (by decide : (6 : Int32) + Int32.ofInt 1 = (7 : Int32)) rfl ?_
  refine g_baload X5 hx hZ rfl S5 6 (x := (61 : Int32)) rfl rfl 104 (hb hby dd0_103) rfl ?_
  refine g_sipush X5 hx 107 (hb hby dd0_104) rfl ks_255 ?_
  refine g_iand X5 hx 108 (hb hby dd0_107) rfl (by decide : (61 : Int32) &&& (255 : Int32) = (61 : Int32)) ?_
  refine g_istore X5 hx #[sR dec, sR b, sI 7, sI 8, sR dst, sR tb, sI 3, (sI (((0 : Int32) ||| (v4 <<< ((18 : Int32) &&& 31))) ||| (v5 <<< ((12 : Int32) &&& 31)))), sI 6, sI 61, sI 4] 110 (hb hby dd0_108) rfl rfl ?_
  refine g_aload X5 hx 112 (hb hby dd0_110) rfl rfl ?_
  refine g_iload X5 hx 114 (hb hby dd0_112) rfl rfl ?_
  refine g_iaload X5 hx hZ rfl Tb5 61 (x := (-2 : Int32)) rfl (by decide) 115 (hb hby dd0_114) rfl ?_
  refine g_dup X5 hx 116 (hb hby dd0_115) rfl rfl ?_
  refine g_istore X5 hx #[sR dec, sR b, sI 7, sI 8, sR dst, sR tb, sI 3, (sI (((0 : Int32) ||| (v4 <<< ((18 : Int32) &&& 31))) ||| (v5 <<< ((12 : Int32) &&& 31)))), sI 6, (sI (-2)), sI 4] 118 (hb hby dd0_116) rfl rfl ?_
  refine g_ifN X5 hx 121 (hb hby dd0_118) rfl (XT.i0_ge_f (by decide)) ?_
  refine g_iload X5 hx 123 (hb hby dd0_121) rfl rfl ?_
  refine g_bipush X5 hx 125 (hb hby dd0_123) rfl kb_m2 ?_
  refine g_icN X5 hx 128 (hb hby dd0_125) rfl (XT.ii_ne_f (by decide)) ?_
  refine g_iload X5 hx 130 (hb hby dd0_128) rfl rfl ?_
  refine g_bipush X5 hx 132 (hb hby dd0_130) rfl kb_6 ?_
  refine g_icN X5 hx 135 (hb hby dd0_132) rfl (XT.ii_ne_f (by decide)) ?_
  refine g_iloadN X5 hx 136 (hb hby dd0_135) rfl rfl ?_
  refine g_iloadN X5 hx 137 (hb hby dd0_136) rfl rfl ?_
  refine g_icN X5 hx 140 (hb hby dd0_137) rfl (XT.ii_eq_f (by decide)) ?_
  refine g_aloadN X5 hx 141 (hb hby dd0_140) rfl rfl ?_
  refine g_iloadN X5 hx 142 (hb hby dd0_141) rfl rfl ?_
  refine g_iinc X5 hx #[sR dec, sR b, sI 8, sI 8, sR dst, sR tb, sI 3, (sI (((0 : Int32) ||| (v4 <<< ((18 : Int32) &&& 31))) ||| (v5 <<< ((12 : Int32) &&& 31)))), sI 6, (sI (-2)), sI 4] 145 (hb hby dd0_142) rfl rfl (by decide : (7 : Int32) + Int32.ofInt 1 = (8 : Int32)) rfl ?_
  refine g_baload X5 hx hZ rfl S5 7 (x := (61 : Int32)) rfl rfl 146 (hb hby dd0_145) rfl ?_
  refine g_bipush X5 hx 148 (hb hby dd0_146) rfl kb_61 ?_
  refine g_icN X5 hx 151 (hb hby dd0_148) rfl (XT.ii_ne_f (by decide)) ?_
  refine g_iload X5 hx 153 (hb hby dd0_151) rfl rfl ?_
  refine g_bipush X5 hx 155 (hb hby dd0_153) rfl kb_18 ?_
  refine g_icY X5 hx 281 (hb hby dd0_155) (by decide) (XT.ii_ne_t (by decide)) ?_
  refine g_iload X5 hx 283 (hb hby dd0_281) rfl rfl ?_
  refine g_bipush X5 hx 285 (hb hby dd0_283) rfl kb_6 ?_
  refine g_icN X5 hx 288 (hb hby dd0_285) rfl (XT.ii_ne_f (by decide)) ?_
  refine g_aload X5 hx 290 (hb hby dd0_288) rfl rfl ?_
  refine g_iload X5 hx 292 (hb hby dd0_290) rfl rfl ?_
  refine g_iinc X5 hx #[sR dec, sR b, sI 8, sI 8, sR dst, sR tb, sI 4, (sI (((0 : Int32) ||| (v4 <<< ((18 : Int32) &&& 31))) ||| (v5 <<< ((12 : Int32) &&& 31)))), sI 6, (sI (-2)), sI 4] 295 (hb hby dd0_292) rfl rfl (by decide : (3 : Int32) + Int32.ofInt 1 = (4 : Int32)) rfl ?_
  refine g_iload X5 hx 297 (hb hby dd0_295) rfl rfl ?_
  refine g_bipush X5 hx 299 (hb hby dd0_297) rfl kb_16 ?_
  refine g_ishr X5 hx 300 (hb hby dd0_299) rfl rfl ?_
  refine g_i2b X5 hx 301 (hb hby dd0_300) rfl ?_
  refine g_bastore X5 hx hZ rfl A5 3 rfl (by simp) 302 (hb hby dd0_301) rfl ?_
  rintro T6 h6 X6 e6 W6 A6
  have sW6 := W6.size
  have S6 := S5.other W6 nd3
  have Tb6 := Tb5.other W6 nd2
  have K6 := K5.wr W6 (Or.inl (List.mem_cons_self ..))
  have N6 := Fr.snoc X6 N5 hnd
  refine g_goto X6 hx 358 (hb hby dd0_302) (by decide) ?_
  refine g_iloadN X6 hx 359 (hb hby dd0_358) rfl rfl ?_
  refine g_iloadN X6 hx 360 (hb hby dd0_359) rfl rfl ?_
  refine g_icY X6 hx 416 (hb hby dd0_360) (by decide) (XT.ii_ge_t (by decide)) ?_
  refine g_iload X6 hx 418 (hb hby dd0_416) rfl rfl ?_
  have Ad : AI Z h6 dst .byte ([nar .byte ((((((v0 <<< ((18 : Int32) &&& 31)) ||| (v1 <<< ((12 : Int32) &&& 31))) ||| (v2 <<< ((6 : Int32) &&& 31))) ||| v3) >>> ((16 : Int32) &&& 31)).toInt8.toInt32), nar .byte ((((((v0 <<< ((18 : Int32) &&& 31)) ||| (v1 <<< ((12 : Int32) &&& 31))) ||| (v2 <<< ((6 : Int32) &&& 31))) ||| v3) >>> ((8 : Int32) &&& 31)).toInt8.toInt32), nar .byte (((((v0 <<< ((18 : Int32) &&& 31)) ||| (v1 <<< ((12 : Int32) &&& 31))) ||| (v2 <<< ((6 : Int32) &&& 31))) ||| v3).toInt8.toInt32), nar .byte (((((0 : Int32) ||| (v4 <<< ((18 : Int32) &&& 31))) ||| (v5 <<< ((12 : Int32) &&& 31))) >>> ((16 : Int32) &&& 31)).toInt8.toInt32)] : List Int32) := A6
  have Kd : Keep h0 h6 [dst] := K6
  exact Go.retI X6 hx hret hlk (hb hby dd0_418) ⟨rfl, N6, e6 ▸ Kd, e6 ▸ Ad⟩ (by decide) (by decide)
set_option maxRecDepth 65536 in
set_option maxHeartbeats 40000000 in
theorem rmDE_4 (l : Launch) (Z : State) (a0 : Array Value) (hw : ∀ d ∈ tables_1, d.before a0 Z = true) (d0 v0 d1 v1 d2 v2 d3 v3 d4 v4 d5 v5 : Int32) (G0 : Dig d0 v0) (nn0 : ¬ v0 < 0) (G1 : Dig d1 v1) (nn1 : ¬ v1 < 0) (G2 : Dig d2 v2) (nn2 : ¬ v2 < 0) (G3 : Dig d3 v3) (nn3 : ¬ v3 < 0) (G4 : Dig d4 v4) (nn4 : ¬ v4 < 0) (G5 : Dig d5 v5) (nn5 : ¬ v5 < 0) (dec tb : Addr) (SB : Sta Z Z.heap "java/util/Base64$Decoder" "fromBase64" "[I" (.ref tb)) (b : Addr) (h0 : Heap) (n0 : Nat) (O : Ext Z.heap h0) (E : Exa Z h0 dec "java/util/Base64$Decoder") (FU : Fld Z h0 dec "java/util/Base64$Decoder" "isURL" "Z" (.int 0)) (FM : Fld Z h0 dec "java/util/Base64$Decoder" "isMIME" "Z" (.int 0)) (Tb : AI Z h0 tb .int own_tab) (Z0 : n0 ≤ h0.size) (S : AI Z h0 b .byte ([d0, d1, d2, d3, d4, d5, 61, 61] : List Int32)) :
    Ctr l Z (⟨"java/util/Base64$Decoder", "decode", "([B)[B"⟩ : MethodName) jdk_2450_method_2_code 4 (some (.array .byte)) [] ({ frames := 2, cells := 1, slots := 6, locals := 49 } : Room) #[(.ref dec), (.ref b)] h0 (QDE Z ([nar .byte ((((((v0 <<< ((18 : Int32) &&& 31)) ||| (v1 <<< ((12 : Int32) &&& 31))) ||| (v2 <<< ((6 : Int32) &&& 31))) ||| v3) >>> ((16 : Int32) &&& 31)).toInt8.toInt32), nar .byte ((((((v0 <<< ((18 : Int32) &&& 31)) ||| (v1 <<< ((12 : Int32) &&& 31))) ||| (v2 <<< ((6 : Int32) &&& 31))) ||| v3) >>> ((8 : Int32) &&& 31)).toInt8.toInt32), nar .byte (((((v0 <<< ((18 : Int32) &&& 31)) ||| (v1 <<< ((12 : Int32) &&& 31))) ||| (v2 <<< ((6 : Int32) &&& 31))) ||| v3).toInt8.toInt32), nar .byte (((((0 : Int32) ||| (v4 <<< ((18 : Int32) &&& 31))) ||| (v5 <<< ((12 : Int32) &&& 31))) >>> ((16 : Int32) &&& 31)).toInt8.toInt32)] : List Int32) h0 n0) := by
  refine Ctr.of (plainFor_of_name pn_31) ?_
  intro p e s m below meth c s₁ hx hby hml hown hnm hret hlk hZ X0 e0
  refine Go.cast (ef_33 m dec b) ?_
  show Go p e below _ s₁ (mkF m 0 #[sR dec, sR b, .unset, .unset] [])
  refine g_aloadN X0 hx 1 (hb hby dde_0) rfl rfl ?_
  refine g_aloadN X0 hx 2 (hb hby dde_1) rfl rfl ?_
  refine g_iconst X0 hx 3 (hb hby dde_2) rfl ki_0 ?_
  refine g_aloadN X0 hx 4 (hb hby dde_3) rfl rfl ?_
  refine g_alen X0 hx hZ e0 S (z := 8) rfl 5 (hb hby dde_4) rfl ?_
  refine Go.callPV X0 hx (y := (⟨"java/util/Base64$Decoder", "decodedOutLength", "([BII)I"⟩ : MethodName)) hown (mvT hZ (hW hw 112 rfl)) (mvT hZ (hW hw 113 rfl)) (mvT hZ (hW hw 115 rfl)) (mvP hZ (hW hw 114 rfl)) (mvT hZ (hW hw 116 rfl)) (by decide) (Ctr.back (W := 0) (rmDL_4 l Z a0 hw d0 v0 d1 v1 d2 v2 d3 v3 d4 v4 d5 v5 G0 nn0 G1 nn1 G2 nn2 G3 nn3 G4 nn4 G5 nn5 dec tb SB b h0 n0 O E FU FM Tb S) hZ (hW hw 116 rfl) (hW hw 68 rfl) (by decide) (by decide)) e0 E (g := (mkF m 5 #[sR dec, sR b, .unset, .unset] [vI 8, vI 0, vR b, vR dec])) rfl (by rw [hml]; rfl) (argsL := [vR b, vI 0, vI 8]) (rest := []) (lenOf pd_34 rfl) rfl (by show 2 * 0 + _ ≤ _; exact Nat.le_of_eq rfl) (hb hby dde_5) rfl (by decide) (by decide) ?_
  rintro _ T1 L1 X1 ⟨rfl, N1, e1⟩
  show Go p e below _ T1 (mkF m 8 #[sR dec, sR b, .unset, .unset] [vI 4])
  refine Go.newarr X1 hx hZ (ty := .byte) rfl rfl (hW hw 28 rfl) e1 (g := (mkF m 8 #[sR dec, sR b, .unset, .unset] [vI 4])) rfl (hb hby dde_8) rfl (n := 4) rfl (by decide) (by decide) (by decide) ?_
  rintro T2 h2 X2 e2 E2 l2 A2
  obtain ⟨a2, g2⟩ : ∃ z, z = h0.size := ⟨_, rfl⟩
  rw [← g2] at A2 l2 ⊢
  have sE2 := E2.1
  show Go p e below _ T2 (mkF m 10 #[sR dec, sR b, .unset, .unset] [vR a2])
  refine g_astoreN X2 hx #[sR dec, sR b, sR a2, .unset] 11 (hb hby dde_10) rfl rfl ?_
  refine g_aloadN X2 hx 12 (hb hby dde_11) rfl rfl ?_
  refine g_aloadN X2 hx 13 (hb hby dde_12) rfl rfl ?_
  refine g_iconst X2 hx 14 (hb hby dde_13) rfl ki_0 ?_
  refine g_aloadN X2 hx 15 (hb hby dde_14) rfl rfl ?_
  have q0 := E.lt
  have q1 := Tb.lt
  have q2 := S.lt
  have nd1 : dec ≠ a2 := Nat.ne_of_lt (Nat.lt_of_lt_of_eq q0 g2.symm)
  have nd2 : tb ≠ a2 := Nat.ne_of_lt (Nat.lt_of_lt_of_eq q1 g2.symm)
  have nd3 : b ≠ a2 := Nat.ne_of_lt (Nat.lt_of_lt_of_eq q2 g2.symm)
  refine g_alen X2 hx hZ e2 (S.ext E2) (z := 8) rfl 16 (hb hby dde_15) rfl ?_
  refine g_aloadN X2 hx 17 (hb hby dde_16) rfl rfl ?_
  refine Go.callPV X2 hx (y := (⟨"java/util/Base64$Decoder", "decode0", "([BII[B)I"⟩ : MethodName)) hown (mvT hZ (hW hw 124 rfl)) (mvT hZ (hW hw 125 rfl)) (mvT hZ (hW hw 127 rfl)) (mvP hZ (hW hw 126 rfl)) (mvT hZ (hW hw 128 rfl)) (by decide) (Ctr.back (W := 0) (rmD0_4 l Z a0 hw d0 v0 d1 v1 d2 v2 d3 v3 d4 v4 d5 v5 G0 nn0 G1 nn1 G2 nn2 G3 nn3 G4 nn4 G5 nn5 dec tb SB b h2 n0 (own_ext O E2) (E.ext E2) (FU.ext E2) (FM.ext E2) (Tb.ext E2) a2 (by omega) nd1 nd2 nd3 (S.ext E2) A2) hZ (hW hw 128 rfl) (hW hw 68 rfl) (by decide) (by decide)) e2 (E.ext E2) (g := (mkF m 17 #[sR dec, sR b, sR a2, .unset] [vR a2, vI 8, vI 0, vR b, vR dec])) rfl (by rw [hml]; rfl) (argsL := [vR b, vI 0, vI 8, vR a2]) (rest := []) (lenOf pd_35 rfl) rfl (by show 2 * 0 + _ ≤ _; exact Nat.le_of_eq rfl) (hb hby dde_17) rfl (by decide) (by decide) ?_
  rintro _ T3 L3 X3 ⟨rfl, N3, K3, A3⟩
  show Go p e below _ T3 (mkF m 20 #[sR dec, sR b, sR a2, .unset] [vI 4])
  refine g_istoreN X3 hx #[sR dec, sR b, sR a2, sI 4] 21 (hb hby dde_20) rfl rfl ?_
  refine g_iloadN X3 hx 22 (hb hby dde_21) rfl rfl ?_
  refine g_aloadN X3 hx 23 (hb hby dde_22) rfl rfl ?_
  refine g_alen X3 hx hZ rfl A3 (z := 4) rfl 24 (hb hby dde_23) rfl ?_
  refine g_icY X3 hx 33 (hb hby dde_24) (by decide) (XT.ii_eq_t (by decide)) ?_
  refine g_aloadN X3 hx 34 (hb hby dde_33) rfl rfl ?_
  exact Go.retV X3 hx hret hlk rfl rfl (hb hby dde_34) ⟨a2, rfl, Fr.app (Fr.app (Fr.nil n0) N1) N3, ((Keep.refl h0 []).ext E2).trans K3 (fun x q => Or.inr (by cases List.mem_singleton.mp q; omega)), A3⟩ (by decide) (by decide)
set_option maxRecDepth 65536 in
set_option maxHeartbeats 40000000 in
theorem rmDL_5 (l : Launch) (Z : State) (a0 : Array Value) (hw : ∀ d ∈ tables_1, d.before a0 Z = true) (d0 v0 d1 v1 d2 v2 d3 v3 d4 v4 d5 v5 d6 v6 : Int32) (G0 : Dig d0 v0) (nn0 : ¬ v0 < 0) (G1 : Dig d1 v1) (nn1 : ¬ v1 < 0) (G2 : Dig d2 v2) (nn2 : ¬ v2 < 0) (G3 : Dig d3 v3) (nn3 : ¬ v3 < 0) (G4 : Dig d4 v4) (nn4 : ¬ v4 < 0) (G5 : Dig d5 v5) (nn5 : ¬ v5 < 0) (G6 : Dig d6 v6) (nn6 : ¬ v6 < 0) (h61 : ¬ d6 = 61) (dec tb : Addr) (SB : Sta Z Z.heap "java/util/Base64$Decoder" "fromBase64" "[I" (.ref tb)) (b : Addr) (h0 : Heap) (n0 : Nat) (O : Ext Z.heap h0) (E : Exa Z h0 dec "java/util/Base64$Decoder") (FU : Fld Z h0 dec "java/util/Base64$Decoder" "isURL" "Z" (.int 0)) (FM : Fld Z h0 dec "java/util/Base64$Decoder" "isMIME" "Z" (.int 0)) (Tb : AI Z h0 tb .int own_tab) (S : AI Z h0 b .byte ([d0, d1, d2, d3, d4, d5, d6, 61] : List Int32)) :
    Ctr l Z (⟨"java/util/Base64$Decoder", "decodedOutLength", "([BII)I"⟩ : MethodName) jdk_2450_method_7_code 9 (some .int) [] ({ frames := 0, cells := 0, slots := 0, locals := 0 } : Room) #[(.ref dec), (.ref b), (.int (0 : Int32)), (.int (8 : Int32))] h0 (QP (5 : Int32) h0 n0) := by
  refine Ctr.of (plainFor_of_name pn_31) ?_
  intro p e s m below meth c s₁ hx hby hml hown hnm hret hlk hZ X0 e0
  refine Go.cast (ef_30 m dec b (0 : Int32) (8 : Int32)) ?_
  show Go p e below _ s₁ (mkF m 0 #[sR dec, sR b, sI 0, sI 8, .unset, .unset, .unset, .unset, .unset] [])
  obtain ⟨i0, hi0, ht0⟩ := id G0
  obtain ⟨i1, hi1, ht1⟩ := id G1
  obtain ⟨i2, hi2, ht2⟩ := id G2
  obtain ⟨i3, hi3, ht3⟩ := id G3
  obtain ⟨i4, hi4, ht4⟩ := id G4
  obtain ⟨i5, hi5, ht5⟩ := id G5
  obtain ⟨i6, hi6, ht6⟩ := id G6
  refine g_aloadN X0 hx 1 (hb hby ddl_0) rfl rfl ?_
  refine g_getF X0 hx hZ hown (hW hw 117 rfl) e0 FU 4 (hb hby ddl_1) rfl ?_
  rintro T1 X1 e1
  refine g_ifY X1 hx 13 (hb hby ddl_4) (by decide) (XT.i0_eq_t (by decide)) ?_
  refine g_getS X1 hx hZ hown (hW hw 119 rfl) e1 (SB.ext O) 16 (hb hby ddl_13) rfl ?_
  rintro T2 X2 e2
  refine g_astore X2 hx #[sR dec, sR b, sI 0, sI 8, sR tb, .unset, .unset, .unset, .unset] 18 (hb hby ddl_16) rfl rfl ?_
  refine g_iconst X2 hx 19 (hb hby ddl_18) rfl ki_0 ?_
  refine g_istore X2 hx #[sR dec, sR b, sI 0, sI 8, sR tb, sI 0, .unset, .unset, .unset] 21 (hb hby ddl_19) rfl rfl ?_
  refine g_iloadN X2 hx 22 (hb hby ddl_21) rfl rfl ?_
  refine g_iloadN X2 hx 23 (hb hby ddl_22) rfl rfl ?_
  refine g_isub X2 hx 24 (hb hby ddl_23) rfl (by decide : (8 : Int32) - (0 : Int32) = (8 : Int32)) ?_
  refine g_istore X2 hx #[sR dec, sR b, sI 0, sI 8, sR tb, sI 0, sI 8, .unset, .unset] 26 (hb hby ddl_24) rfl rfl ?_
  refine g_iload X2 hx 28 (hb hby ddl_26) rfl rfl ?_
  refine g_ifY X2 hx 33 (hb hby ddl_28) (by decide) (XT.i0_ne_t (by decide)) ?_
  refine g_iload X2 hx 35 (hb hby ddl_33) rfl rfl ?_
  refine g_iconst X2 hx 36 (hb hby ddl_35) rfl ki_2 ?_
  refine g_icY X2 hx 66 (hb hby ddl_36) (by decide) (XT.ii_ge_t (by decide)) ?_
  refine g_aloadN X2 hx 67 (hb hby ddl_66) rfl rfl ?_
  refine g_getF X2 hx hZ hown (hW hw 120 rfl) e2 FM 70 (hb hby ddl_67) rfl ?_
  rintro T3 X3 e3
  refine g_ifY X3 hx 141 (hb hby ddl_70) (by decide) (XT.i0_eq_t (by decide)) ?_
  refine g_aloadN X3 hx 142 (hb hby ddl_141) rfl rfl ?_
  refine g_iloadN X3 hx 143 (hb hby ddl_142) rfl rfl ?_
  refine g_iconst X3 hx 144 (hb hby ddl_143) rfl ki_1 ?_
  refine g_isub X3 hx 145 (hb hby ddl_144) rfl (by decide : (8 : Int32) - (1 : Int32) = (7 : Int32)) ?_
  refine g_baload X3 hx hZ e3 S 7 (x := (61 : Int32)) rfl rfl 146 (hb hby ddl_145) rfl ?_
  refine g_bipush X3 hx 148 (hb hby ddl_146) rfl kb_61 ?_
  refine g_icN X3 hx 151 (hb hby ddl_148) rfl (XT.ii_ne_f (by decide)) ?_
  refine g_iinc X3 hx #[sR dec, sR b, sI 0, sI 8, sR tb, sI 1, sI 8, .unset, .unset] 154 (hb hby ddl_151) rfl rfl (by decide : (0 : Int32) + Int32.ofInt 1 = (1 : Int32)) rfl ?_
  refine g_aloadN X3 hx 155 (hb hby ddl_154) rfl rfl ?_
  refine g_iloadN X3 hx 156 (hb hby ddl_155) rfl rfl ?_
  refine g_iconst X3 hx 157 (hb hby ddl_156) rfl ki_2 ?_
  refine g_isub X3 hx 158 (hb hby ddl_157) rfl (by decide : (8 : Int32) - (2 : Int32) = (6 : Int32)) ?_
  refine g_baload X3 hx hZ e3 S 6 (x := d6) rfl rfl 159 (hb hby ddl_158) rfl ?_
  refine g_bipush X3 hx 161 (hb hby ddl_159) rfl kb_61 ?_
  refine g_icY X3 hx 167 (hb hby ddl_161) (by decide) (XT.ii_ne_t h61) ?_
  refine g_iload X3 hx 169 (hb hby ddl_167) rfl rfl ?_
  refine g_ifY X3 hx 187 (hb hby ddl_169) (by decide) (XT.i0_ne_t (by decide)) ?_
  refine g_iconst X3 hx 188 (hb hby ddl_187) rfl ki_3 ?_
  refine g_iload X3 hx 190 (hb hby ddl_188) rfl rfl ?_
  refine Go.st (fun _ k => XT.i2l X3.here hx rfl (hb hby ddl_190) rfl k) ?_
  show Go p e below _ T3 (mkF m 191 #[sR dec, sR b, sI 0, sI 8, sR tb, sI 1, sI 8, .unset, .unset] [(.long ((8 : Int32).toInt64)), vI 3])
  refine Go.st (fun _ k => X3.ldc2J hx hown (mvT hZ (hW hw 122 rfl)) rfl (hb hby ddl_191) k) ?_
  show Go p e below _ T3 (mkF m 194 #[sR dec, sR b, sI 0, sI 8, sR tb, sI 1, sI 8, .unset, .unset] [(.long (3 : Int64)), (.long ((8 : Int32).toInt64)), vI 3])
  refine Go.st (fun _ k => XT.ladd X3.here hx rfl (hb hby ddl_194) rfl k) ?_
  show Go p e below _ T3 (mkF m 195 #[sR dec, sR b, sI 0, sI 8, sR tb, sI 1, sI 8, .unset, .unset] [(.long (((8 : Int32).toInt64) + (3 : Int64))), vI 3])
  refine Go.st (fun _ k => X3.ldc2J hx hown (mvT hZ (hW hw 123 rfl)) rfl (hb hby ddl_195) k) ?_
  show Go p e below _ T3 (mkF m 198 #[sR dec, sR b, sI 0, sI 8, sR tb, sI 1, sI 8, .unset, .unset] [(.long (4 : Int64)), (.long (((8 : Int32).toInt64) + (3 : Int64))), vI 3])
  refine Go.st (fun _ k => XT.ldiv X3.here hx rfl (hb hby ddl_198) rfl (by decide) k) ?_
  show Go p e below _ T3 (mkF m 199 #[sR dec, sR b, sI 0, sI 8, sR tb, sI 1, sI 8, .unset, .unset] [(.long ((((8 : Int32).toInt64) + (3 : Int64)) / (4 : Int64))), vI 3])
  refine Go.st (fun _ k => XT.l2i X3.here hx rfl (hb hby ddl_199) rfl k) ?_
  show Go p e below _ T3 (mkF m 200 #[sR dec, sR b, sI 0, sI 8, sR tb, sI 1, sI 8, .unset, .unset] [(vI (((((8 : Int32).toInt64) + (3 : Int64)) / (4 : Int64)).toInt32)), vI 3])
  rw [show ((((8 : Int32).toInt64) + (3 : Int64)) / (4 : Int64)).toInt32 = (2 : Int32) from by decide]
  show Go p e below _ T3 (mkF m 200 #[sR dec, sR b, sI 0, sI 8, sR tb, sI 1, sI 8, .unset, .unset] [vI 2, vI 3])
  refine g_imul X3 hx 201 (hb hby ddl_200) rfl (by decide : (3 : Int32) * (2 : Int32) = (6 : Int32)) ?_
  refine g_iload X3 hx 203 (hb hby ddl_201) rfl rfl ?_
  refine g_isub X3 hx 204 (hb hby ddl_203) rfl (by decide : (6 : Int32) - (1 : Int32) = (5 : Int32)) ?_
  exact Go.retI X3 hx hret hlk (hb hby ddl_204) ⟨rfl, Fr.nil n0, e3⟩ (by decide) (by decide)
set_option maxRecDepth 65536 in
set_option maxHeartbeats 40000000 in
theorem rmDB_5 (l : Launch) (Z : State) (a0 : Array Value) (hw : ∀ d ∈ tables_1, d.before a0 Z = true) (d0 v0 d1 v1 d2 v2 d3 v3 d4 v4 d5 v5 d6 v6 : Int32) (G0 : Dig d0 v0) (nn0 : ¬ v0 < 0) (G1 : Dig d1 v1) (nn1 : ¬ v1 < 0) (G2 : Dig d2 v2) (nn2 : ¬ v2 < 0) (G3 : Dig d3 v3) (nn3 : ¬ v3 < 0) (G4 : Dig d4 v4) (nn4 : ¬ v4 < 0) (G5 : Dig d5 v5) (nn5 : ¬ v5 < 0) (G6 : Dig d6 v6) (nn6 : ¬ v6 < 0) (h61 : ¬ d6 = 61) (dec tb : Addr) (SB : Sta Z Z.heap "java/util/Base64$Decoder" "fromBase64" "[I" (.ref tb)) (b : Addr) (h0 : Heap) (n0 : Nat) (O : Ext Z.heap h0) (E : Exa Z h0 dec "java/util/Base64$Decoder") (FU : Fld Z h0 dec "java/util/Base64$Decoder" "isURL" "Z" (.int 0)) (FM : Fld Z h0 dec "java/util/Base64$Decoder" "isMIME" "Z" (.int 0)) (Tb : AI Z h0 tb .int own_tab) (dst : Addr) (hnd : n0 ≤ dst) (nd1 : dec ≠ dst) (nd2 : tb ≠ dst) (nd3 : b ≠ dst) (S : AI Z h0 b .byte ([d0, d1, d2, d3, d4, d5, d6, 61] : List Int32)) (D : AI Z h0 dst .byte (List.replicate 5 0)) :
    Ctr l Z (⟨"java/util/Base64$Decoder", "decodeBlock", "([BII[BIZZ)I"⟩ : MethodName) jdk_2450_method_8_code 16 (some .int) [] ({ frames := 0, cells := 0, slots := 0, locals := 0 } : Room) #[(.ref dec), (.ref b), (.int (0 : Int32)), (.int (8 : Int32)), (.ref dst), (.int (0 : Int32)), (.int (0 : Int32)), (.int (0 : Int32))] h0 (QD Z (3 : Int32) dst ([nar .byte ((((((v0 <<< ((18 : Int32) &&& 31)) ||| (v1 <<< ((12 : Int32) &&& 31))) ||| (v2 <<< ((6 : Int32) &&& 31))) ||| v3) >>> ((16 : Int32) &&& 31)).toInt8.toInt32), nar .byte ((((((v0 <<< ((18 : Int32) &&& 31)) ||| (v1 <<< ((12 : Int32) &&& 31))) ||| (v2 <<< ((6 : Int32) &&& 31))) ||| v3) >>> ((8 : Int32) &&& 31)).toInt8.toInt32), nar .byte (((((v0 <<< ((18 : Int32) &&& 31)) ||| (v1 <<< ((12 : Int32) &&& 31))) ||| (v2 <<< ((6 : Int32) &&& 31))) ||| v3).toInt8.toInt32), (0 : Int32), (0 : Int32)] : List Int32) h0 n0) := by
  refine Ctr.of (plainFor_of_name pn_31) ?_
  intro p e s m below meth c s₁ hx hby hml hown hnm hret hlk hZ X0 e0
  refine Go.cast (ef_36 m dec b (0 : Int32) (8 : Int32) dst (0 : Int32) (0 : Int32) (0 : Int32)) ?_
  show Go p e below _ s₁ (mkF m 0 #[sR dec, sR b, sI 0, sI 8, sR dst, sI 0, sI 0, sI 0, .unset, .unset, .unset, .unset, .unset, .unset, .unset, .unset] [])
  obtain ⟨i0, hi0, ht0⟩ := id G0
  obtain ⟨i1, hi1, ht1⟩ := id G1
  obtain ⟨i2, hi2, ht2⟩ := id G2
  obtain ⟨i3, hi3, ht3⟩ := id G3
  obtain ⟨i4, hi4, ht4⟩ := id G4
  obtain ⟨i5, hi5, ht5⟩ := id G5
  obtain ⟨i6, hi6, ht6⟩ := id G6
  refine g_iload X0 hx 2 (hb hby ddb_0) rfl rfl ?_
  refine g_ifY X0 hx 11 (hb hby ddb_2) (by decide) (XT.i0_eq_t (by decide)) ?_
  refine g_getS X0 hx hZ hown (hW hw 119 rfl) e0 (SB.ext O) 14 (hb hby ddb_11) rfl ?_
  rintro T1 X1 e1
  refine g_astore X1 hx #[sR dec, sR b, sI 0, sI 8, sR dst, sI 0, sI 0, sI 0, sR tb, .unset, .unset, .unset, .unset, .unset, .unset, .unset] 16 (hb hby ddb_14) rfl rfl ?_
  refine g_iloadN X1 hx 17 (hb hby ddb_16) rfl rfl ?_
  refine g_iloadN X1 hx 18 (hb hby ddb_17) rfl rfl ?_
  refine g_iloadN X1 hx 19 (hb hby ddb_18) rfl rfl ?_
  refine g_isub X1 hx 20 (hb hby ddb_19) rfl (by decide : (8 : Int32) - (0 : Int32) = (8 : Int32)) ?_
  refine g_bipush X1 hx 22 (hb hby ddb_20) rfl kb_m4 ?_
  refine g_iand X1 hx 23 (hb hby ddb_22) rfl (by decide : (8 : Int32) &&& (-4 : Int32) = (8 : Int32)) ?_
  refine g_iadd X1 hx 24 (hb hby ddb_23) rfl (by decide : (0 : Int32) + (8 : Int32) = (8 : Int32)) ?_
  refine g_istore X1 hx #[sR dec, sR b, sI 0, sI 8, sR dst, sI 0, sI 0, sI 0, sR tb, sI 8, .unset, .unset, .unset, .unset, .unset, .unset] 26 (hb hby ddb_24) rfl rfl ?_
  refine g_iload X1 hx 28 (hb hby ddb_26) rfl rfl ?_
  refine g_istore X1 hx #[sR dec, sR b, sI 0, sI 8, sR dst, sI 0, sI 0, sI 0, sR tb, sI 8, sI 0, .unset, .unset, .unset, .unset, .unset] 30 (hb hby ddb_28) rfl rfl ?_
  refine g_iloadN X1 hx 31 (hb hby ddb_30) rfl rfl ?_
  refine g_iload X1 hx 33 (hb hby ddb_31) rfl rfl ?_
  refine g_icN X1 hx 36 (hb hby ddb_33) rfl (XT.ii_ge_f (by decide)) ?_
  refine g_aload X1 hx 38 (hb hby ddb_36) rfl rfl ?_
  refine g_aloadN X1 hx 39 (hb hby ddb_38) rfl rfl ?_
  refine g_iloadN X1 hx 40 (hb hby ddb_39) rfl rfl ?_
  refine g_iinc X1 hx #[sR dec, sR b, sI 1, sI 8, sR dst, sI 0, sI 0, sI 0, sR tb, sI 8, sI 0, .unset, .unset, .unset, .unset, .unset] 43 (hb hby ddb_40) rfl rfl (by decide : (0 : Int32) + Int32.ofInt 1 = (1 : Int32)) rfl ?_
  refine g_baload X1 hx hZ e1 S 0 (x := d0) rfl rfl 44 (hb hby ddb_43) rfl ?_
  refine g_sipush X1 hx 47 (hb hby ddb_44) rfl ks_255 ?_
  refine g_iand X1 hx 48 (hb hby ddb_47) rfl rfl ?_
  refine g_iaload X1 hx hZ e1 Tb i0 (x := v0) hi0 ht0 49 (hb hby ddb_48) rfl ?_
  refine g_istore X1 hx #[sR dec, sR b, sI 1, sI 8, sR dst, sI 0, sI 0, sI 0, sR tb, sI 8, sI 0, sI v0, .unset, .unset, .unset, .unset] 51 (hb hby ddb_49) rfl rfl ?_
  refine g_aload X1 hx 53 (hb hby ddb_51) rfl rfl ?_
  refine g_aloadN X1 hx 54 (hb hby ddb_53) rfl rfl ?_
  refine g_iloadN X1 hx 55 (hb hby ddb_54) rfl rfl ?_
  refine g_iinc X1 hx #[sR dec, sR b, sI 2, sI 8, sR dst, sI 0, sI 0, sI 0, sR tb, sI 8, sI 0, sI v0, .unset, .unset, .unset, .unset] 58 (hb hby ddb_55) rfl rfl (by decide : (1 : Int32) + Int32.ofInt 1 = (2 : Int32)) rfl ?_
  refine g_baload X1 hx hZ e1 S 1 (x := d1) rfl rfl 59 (hb hby ddb_58) rfl ?_
  refine g_sipush X1 hx 62 (hb hby ddb_59) rfl ks_255 ?_
  refine g_iand X1 hx 63 (hb hby ddb_62) rfl rfl ?_
  refine g_iaload X1 hx hZ e1 Tb i1 (x := v1) hi1 ht1 64 (hb hby ddb_63) rfl ?_
  refine g_istore X1 hx #[sR dec, sR b, sI 2, sI 8, sR dst, sI 0, sI 0, sI 0, sR tb, sI 8, sI 0, sI v0, sI v1, .unset, .unset, .unset] 66 (hb hby ddb_64) rfl rfl ?_
  refine g_aload X1 hx 68 (hb hby ddb_66) rfl rfl ?_
  refine g_aloadN X1 hx 69 (hb hby ddb_68) rfl rfl ?_
  refine g_iloadN X1 hx 70 (hb hby ddb_69) rfl rfl ?_
  refine g_iinc X1 hx #[sR dec, sR b, sI 3, sI 8, sR dst, sI 0, sI 0, sI 0, sR tb, sI 8, sI 0, sI v0, sI v1, .unset, .unset, .unset] 73 (hb hby ddb_70) rfl rfl (by decide : (2 : Int32) + Int32.ofInt 1 = (3 : Int32)) rfl ?_
  refine g_baload X1 hx hZ e1 S 2 (x := d2) rfl rfl 74 (hb hby ddb_73) rfl ?_
  refine g_sipush X1 hx 77 (hb hby ddb_74) rfl ks_255 ?_
  refine g_iand X1 hx 78 (hb hby ddb_77) rfl rfl ?_
  refine g_iaload X1 hx hZ e1 Tb i2 (x := v2) hi2 ht2 79 (hb hby ddb_78) rfl ?_
  refine g_istore X1 hx #[sR dec, sR b, sI 3, sI 8, sR dst, sI 0, sI 0, sI 0, sR tb, sI 8, sI 0, sI v0, sI v1, sI v2, .unset, .unset] 81 (hb hby ddb_79) rfl rfl ?_
  refine g_aload X1 hx 83 (hb hby ddb_81) rfl rfl ?_
  refine g_aloadN X1 hx 84 (hb hby ddb_83) rfl rfl ?_
  refine g_iloadN X1 hx 85 (hb hby ddb_84) rfl rfl ?_
  refine g_iinc X1 hx #[sR dec, sR b, sI 4, sI 8, sR dst, sI 0, sI 0, sI 0, sR tb, sI 8, sI 0, sI v0, sI v1, sI v2, .unset, .unset] 88 (hb hby ddb_85) rfl rfl (by decide : (3 : Int32) + Int32.ofInt 1 = (4 : Int32)) rfl ?_
  refine g_baload X1 hx hZ e1 S 3 (x := d3) rfl rfl 89 (hb hby ddb_88) rfl ?_
  refine g_sipush X1 hx 92 (hb hby ddb_89) rfl ks_255 ?_
  refine g_iand X1 hx 93 (hb hby ddb_92) rfl rfl ?_
  refine g_iaload X1 hx hZ e1 Tb i3 (x := v3) hi3 ht3 94 (hb hby ddb_93) rfl ?_
  refine g_istore X1 hx #[sR dec, sR b, sI 4, sI 8, sR dst, sI 0, sI 0, sI 0, sR tb, sI 8, sI 0, sI v0, sI v1, sI v2, sI v3, .unset] 96 (hb hby ddb_94) rfl rfl ?_
  refine g_iload X1 hx 98 (hb hby ddb_96) rfl rfl ?_
  refine g_iload X1 hx 100 (hb hby ddb_98) rfl rfl ?_
  refine g_ior X1 hx 101 (hb hby ddb_100) rfl rfl ?_
  refine g_iload X1 hx 103 (hb hby ddb_101) rfl rfl ?_
  refine g_ior X1 hx 104 (hb hby ddb_103) rfl rfl ?_
  refine g_iload X1 hx 106 (hb hby ddb_104) rfl rfl ?_
  refine g_ior X1 hx 107 (hb hby ddb_106) rfl rfl ?_
  refine g_ifY X1 hx 116 (hb hby ddb_107) (by decide) (XT.i0_ge_t (by simp only [own_or_neg, nn0, nn1, nn2, nn3, or_self, not_false_eq_true])) ?_
  refine g_iload X1 hx 118 (hb hby ddb_116) rfl rfl ?_
  refine g_bipush X1 hx 120 (hb hby ddb_118) rfl kb_18 ?_
  refine g_ishl X1 hx 121 (hb hby ddb_120) rfl rfl ?_
  refine g_iload X1 hx 123 (hb hby ddb_121) rfl rfl ?_
  refine g_bipush X1 hx 125 (hb hby ddb_123) rfl kb_12 ?_
  refine g_ishl X1 hx 126 (hb hby ddb_125) rfl rfl ?_
  refine g_ior X1 hx 127 (hb hby ddb_126) rfl rfl ?_
  refine g_iload X1 hx 129 (hb hby ddb_127) rfl rfl ?_
  refine g_bipush X1 hx 131 (hb hby ddb_129) rfl kb_6 ?_
  refine g_ishl X1 hx 132 (hb hby ddb_131) rfl rfl ?_
  refine g_ior X1 hx 133 (hb hby ddb_132) rfl rfl ?_
  refine g_iload X1 hx 135 (hb hby ddb_133) rfl rfl ?_
  refine g_ior X1 hx 136 (hb hby ddb_135) rfl rfl ?_
  refine g_istore X1 hx #[sR dec, sR b, sI 4, sI 8, sR dst, sI 0, sI 0, sI 0, sR tb, sI 8, sI 0, sI v0, sI v1, sI v2, sI v3, (sI ((((v0 <<< ((18 : Int32) &&& 31)) ||| (v1 <<< ((12 : Int32) &&& 31))) ||| (v2 <<< ((6 : Int32) &&& 31))) ||| v3))] 138 (hb hby ddb_136) rfl rfl ?_
  refine g_aload X1 hx 140 (hb hby ddb_138) rfl rfl ?_
  refine g_iload X1 hx 142 (hb hby ddb_140) rfl rfl ?_
  refine g_iinc X1 hx #[sR dec, sR b, sI 4, sI 8, sR dst, sI 0, sI 0, sI 0, sR tb, sI 8, sI 1, sI v0, sI v1, sI v2, sI v3, (sI ((((v0 <<< ((18 : Int32) &&& 31)) ||| (v1 <<< ((12 : Int32) &&& 31))) ||| (v2 <<< ((6 : Int32) &&& 31))) ||| v3))] 145 (hb hby ddb_142) rfl rfl (by decide : (0 : Int32) + Int32.ofInt 1 = (1 : Int32)) rfl ?_
  refine g_iload X1 hx 147 (hb hby ddb_145) rfl rfl ?_
  refine g_bipush X1 hx 149 (hb hby ddb_147) rfl kb_16 ?_
  refine g_ishr X1 hx 150 (hb hby ddb_149) rfl rfl ?_
  refine g_i2b X1 hx 151 (hb hby ddb_150) rfl ?_
  refine g_bastore X1 hx hZ e1 D 0 rfl (by simp) 152 (hb hby ddb_151) rfl ?_
  rintro T2 h2 X2 e2 W2 A2
  have sW2 := W2.size
  have S2 := S.other W2 nd3
  have Tb2 := Tb.other W2 nd2
  have K2 := (Keep.refl h0 [dst]).wr W2 (Or.inl (List.mem_cons_self ..))
  have N2 := Fr.snoc X2 (Fr.nil n0) hnd
  refine g_aload X2 hx 154 (hb hby ddb_152) rfl rfl ?_
  refine g_iload X2 hx 156 (hb hby ddb_154) rfl rfl ?_
  refine g_iinc X2 hx #[sR dec, sR b, sI 4, sI 8, sR dst, sI 0, sI 0, sI 0, sR tb, sI 8, sI 2, sI v0, sI v1, sI v2, sI v3, (sI ((((v0 <<< ((18 : Int32) &&& 31)) ||| (v1 <<< ((12 : Int32) &&& 31))) ||| (v2 <<< ((6 : Int32) &&& 31))) ||| v3))] 159 (hb hby ddb_156) rfl rfl (by decide : (1 : Int32) + Int32.ofInt 1 = (2 : Int32)) rfl ?_
  refine g_iload X2 hx 161 (hb hby ddb_159) rfl rfl ?_
  refine g_bipush X2 hx 163 (hb hby ddb_161) rfl kb_8 ?_
  refine g_ishr X2 hx 164 (hb hby ddb_163) rfl rfl ?_
  refine g_i2b X2 hx 165 (hb hby ddb_164) rfl ?_
  refine g_bastore X2 hx hZ e2 A2 1 rfl (by simp) 166 (hb hby ddb_165) rfl ?_
  rintro T3 h3 X3 e3 W3 A3
  have sW3 := W3.size
  have S3 := S2.other W3 nd3
  have Tb3 := Tb2.other W3 nd2
  have K3 := K2.wr W3 (Or.inl (List.mem_cons_self ..))
  have N3 := Fr.snoc X3 N2 hnd
  refine g_aload X3 hx 168 (hb hby ddb_166) rfl rfl ?_
  refine g_iload X3 hx 170 (hb hby ddb_168) rfl rfl ?_
  refine g_iinc X3 hx #[sR dec, sR b, sI 4, sI 8, sR dst, sI 0, sI 0, sI 0, sR tb, sI 8, sI 3, sI v0, sI v1, sI v2, sI v3, (sI ((((v0 <<< ((18 : Int32) &&& 31)) ||| (v1 <<< ((12 : Int32) &&& 31))) ||| (v2 <<< ((6 : Int32) &&& 31))) ||| v3))] 173 (hb hby ddb_170) rfl rfl (by decide : (2 : Int32) + Int32.ofInt 1 = (3 : Int32)) rfl ?_
  refine g_iload X3 hx 175 (hb hby ddb_173) rfl rfl ?_
  refine g_i2b X3 hx 176 (hb hby ddb_175) rfl ?_
  refine g_bastore X3 hx hZ e3 A3 2 rfl (by simp) 177 (hb hby ddb_176) rfl ?_
  rintro T4 h4 X4 e4 W4 A4
  have sW4 := W4.size
  have S4 := S3.other W4 nd3
  have Tb4 := Tb3.other W4 nd2
  have K4 := K3.wr W4 (Or.inl (List.mem_cons_self ..))
  have N4 := Fr.snoc X4 N3 hnd
  refine g_goto X4 hx 30 (hb hby ddb_177) (by decide) ?_
  refine g_iloadN X4 hx 31 (hb hby ddb_30) rfl rfl ?_
  refine g_iload X4 hx 33 (hb hby ddb_31) rfl rfl ?_
  refine g_icN X4 hx 36 (hb hby ddb_33) rfl (XT.ii_ge_f (by decide)) ?_
  refine g_aload X4 hx 38 (hb hby ddb_36) rfl rfl ?_
  refine g_aloadN X4 hx 39 (hb hby ddb_38) rfl rfl ?_
  refine g_iloadN X4 hx 40 (hb hby ddb_39) rfl rfl ?_
  refine g_iinc X4 hx #[sR dec, sR b, sI 5, sI 8, sR dst, sI 0, sI 0, sI 0, sR tb, sI 8, sI 3, sI v0, sI v1, sI v2, sI v3, (sI ((((v0 <<< ((18 : Int32) &&& 31)) ||| (v1 <<< ((12 : Int32) &&& 31))) ||| (v2 <<< ((6 : Int32) &&& 31))) ||| v3))] 43 (hb hby ddb_40) rfl rfl (by decide : (4 : Int32) + Int32.ofInt 1 = (5 : Int32)) rfl ?_
  refine g_baload X4 hx hZ e4 S4 4 (x := d4) rfl rfl 44 (hb hby ddb_43) rfl ?_
  refine g_sipush X4 hx 47 (hb hby ddb_44) rfl ks_255 ?_
  refine g_iand X4 hx 48 (hb hby ddb_47) rfl rfl ?_
  refine g_iaload X4 hx hZ e4 Tb4 i4 (x := v4) hi4 ht4 49 (hb hby ddb_48) rfl ?_
  refine g_istore X4 hx #[sR dec, sR b, sI 5, sI 8, sR dst, sI 0, sI 0, sI 0, sR tb, sI 8, sI 3, sI v4, sI v1, sI v2, sI v3, (sI ((((v0 <<< ((18 : Int32) &&& 31)) ||| (v1 <<< ((12 : Int32) &&& 31))) ||| (v2 <<< ((6 : Int32) &&& 31))) ||| v3))] 51 (hb hby ddb_49) rfl rfl ?_
  refine g_aload X4 hx 53 (hb hby ddb_51) rfl rfl ?_
  refine g_aloadN X4 hx 54 (hb hby ddb_53) rfl rfl ?_
  refine g_iloadN X4 hx 55 (hb hby ddb_54) rfl rfl ?_
  refine g_iinc X4 hx #[sR dec, sR b, sI 6, sI 8, sR dst, sI 0, sI 0, sI 0, sR tb, sI 8, sI 3, sI v4, sI v1, sI v2, sI v3, (sI ((((v0 <<< ((18 : Int32) &&& 31)) ||| (v1 <<< ((12 : Int32) &&& 31))) ||| (v2 <<< ((6 : Int32) &&& 31))) ||| v3))] 58 (hb hby ddb_55) rfl rfl (by decide : (5 : Int32) + Int32.ofInt 1 = (6 : Int32)) rfl ?_
  refine g_baload X4 hx hZ e4 S4 5 (x := d5) rfl rfl 59 (hb hby ddb_58) rfl ?_
  refine g_sipush X4 hx 62 (hb hby ddb_59) rfl ks_255 ?_
  refine g_iand X4 hx 63 (hb hby ddb_62) rfl rfl ?_
  refine g_iaload X4 hx hZ e4 Tb4 i5 (x := v5) hi5 ht5 64 (hb hby ddb_63) rfl ?_
  refine g_istore X4 hx #[sR dec, sR b, sI 6, sI 8, sR dst, sI 0, sI 0, sI 0, sR tb, sI 8, sI 3, sI v4, sI v5, sI v2, sI v3, (sI ((((v0 <<< ((18 : Int32) &&& 31)) ||| (v1 <<< ((12 : Int32) &&& 31))) ||| (v2 <<< ((6 : Int32) &&& 31))) ||| v3))] 66 (hb hby ddb_64) rfl rfl ?_
  refine g_aload X4 hx 68 (hb hby ddb_66) rfl rfl ?_
  refine g_aloadN X4 hx 69 (hb hby ddb_68) rfl rfl ?_
  refine g_iloadN X4 hx 70 (hb hby ddb_69) rfl rfl ?_
  refine g_iinc X4 hx #[sR dec, sR b, sI 7, sI 8, sR dst, sI 0, sI 0, sI 0, sR tb, sI 8, sI 3, sI v4, sI v5, sI v2, sI v3, (sI ((((v0 <<< ((18 : Int32) &&& 31)) ||| (v1 <<< ((12 : Int32) &&& 31))) ||| (v2 <<< ((6 : Int32) &&& 31))) ||| v3))] 73 (hb hby ddb_70) rfl rfl (by decide : (6 : Int32) + Int32.ofInt 1 = (7 : Int32)) rfl ?_
  refine g_baload X4 hx hZ e4 S4 6 (x := d6) rfl rfl 74 (hb hby ddb_73) rfl ?_
  refine g_sipush X4 hx 77 (hb hby ddb_74) rfl ks_255 ?_
  refine g_iand X4 hx 78 (hb hby ddb_77) rfl rfl ?_
  refine g_iaload X4 hx hZ e4 Tb4 i6 (x := v6) hi6 ht6 79 (hb hby ddb_78) rfl ?_
  refine g_istore X4 hx #[sR dec, sR b, sI 7, sI 8, sR dst, sI 0, sI 0, sI 0, sR tb, sI 8, sI 3, sI v4, sI v5, sI v6, sI v3, (sI ((((v0 <<< ((18 : Int32) &&& 31)) ||| (v1 <<< ((12 : Int32) &&& 31))) ||| (v2 <<< ((6 : Int32) &&& 31))) ||| v3))] 81 (hb hby ddb_79) rfl rfl ?_
  refine g_aload X4 hx 83 (hb hby ddb_81) rfl rfl ?_
  refine g_aloadN X4 hx 84 (hb hby ddb_83) rfl rfl ?_
  refine g_iloadN X4 hx 85 (hb hby ddb_84) rfl rfl ?_
  refine g_iinc X4 hx #[sR dec, sR b, sI 8, sI 8, sR dst, sI 0, sI 0, sI 0, sR tb, sI 8, sI 3, sI v4, sI v5, sI v6, sI v3, (sI ((((v0 <<< ((18 : Int32) &&& 31)) ||| (v1 <<< ((12 : Int32) &&& 31))) ||| (v2 <<< ((6 : Int32) &&& 31))) ||| v3))] 88 (hb hby ddb_85) rfl rfl (by decide : (7 : Int32) + Int32.ofInt 1 = (8 : Int32)) rfl ?_
  refine g_baload X4 hx hZ e4 S4 7 (x := (61 : Int32)) rfl rfl 89 (hb hby ddb_88) rfl ?_
  refine g_sipush X4 hx 92 (hb hby ddb_89) rfl ks_255 ?_
  refine g_iand X4 hx 93 (hb hby ddb_92) rfl (by decide : (61 : Int32) &&& (255 : Int32) = (61 : Int32)) ?_
  refine g_iaload X4 hx hZ e4 Tb4 61 (x := (-2 : Int32)) rfl (by decide) 94 (hb hby ddb_93) rfl ?_
  refine g_istore X4 hx #[sR dec, sR b, sI 8, sI 8, sR dst, sI 0, sI 0, sI 0, sR tb, sI 8, sI 3, sI v4, sI v5, sI v6, (sI (-2)), (sI ((((v0 <<< ((18 : Int32) &&& 31)) ||| (v1 <<< ((12 : Int32) &&& 31))) ||| (v2 <<< ((6 : Int32) &&& 31))) ||| v3))] 96 (hb hby ddb_94) rfl rfl ?_
  refine g_iload X4 hx 98 (hb hby ddb_96) rfl rfl ?_
  refine g_iload X4 hx 100 (hb hby ddb_98) rfl rfl ?_
  refine g_ior X4 hx 101 (hb hby ddb_100) rfl rfl ?_
  refine g_iload X4 hx 103 (hb hby ddb_101) rfl rfl ?_
  refine g_ior X4 hx 104 (hb hby ddb_103) rfl rfl ?_
  refine g_iload X4 hx 106 (hb hby ddb_104) rfl rfl ?_
  refine g_ior X4 hx 107 (hb hby ddb_106) rfl rfl ?_
  refine g_ifN X4 hx 110 (hb hby ddb_107) rfl (XT.i0_ge_f (by simp only [own_or_neg]; exact Or.inr (by decide))) ?_
  refine g_iload X4 hx 112 (hb hby ddb_110) rfl rfl ?_
  refine g_iload X4 hx 114 (hb hby ddb_112) rfl rfl ?_
  refine g_isub X4 hx 115 (hb hby ddb_114) rfl (by decide : (3 : Int32) - (0 : Int32) = (3 : Int32)) ?_
  have Ad : AI Z h4 dst .byte ([nar .byte ((((((v0 <<< ((18 : Int32) &&& 31)) ||| (v1 <<< ((12 : Int32) &&& 31))) ||| (v2 <<< ((6 : Int32) &&& 31))) ||| v3) >>> ((16 : Int32) &&& 31)).toInt8.toInt32), nar .byte ((((((v0 <<< ((18 : Int32) &&& 31)) ||| (v1 <<< ((12 : Int32) &&& 31))) ||| (v2 <<< ((6 : Int32) &&& 31))) ||| v3) >>> ((8 : Int32) &&& 31)).toInt8.toInt32), nar .byte (((((v0 <<< ((18 : Int32) &&& 31)) ||| (v1 <<< ((12 : Int32) &&& 31))) ||| (v2 <<< ((6 : Int32) &&& 31))) ||| v3).toInt8.toInt32), (0 : Int32), (0 : Int32)] : List Int32) := A4
  exact Go.retI X4 hx hret hlk (hb hby ddb_115) ⟨rfl, N4, e4 ▸ K4, e4 ▸ Ad⟩ (by decide) (by decide)
set_option maxRecDepth 65536 in
set_option maxHeartbeats 40000000 in
theorem rmD0_5 (l : Launch) (Z : State) (a0 : Array Value) (hw : ∀ d ∈ tables_1, d.before a0 Z = true) (d0 v0 d1 v1 d2 v2 d3 v3 d4 v4 d5 v5 d6 v6 : Int32) (G0 : Dig d0 v0) (nn0 : ¬ v0 < 0) (G1 : Dig d1 v1) (nn1 : ¬ v1 < 0) (G2 : Dig d2 v2) (nn2 : ¬ v2 < 0) (G3 : Dig d3 v3) (nn3 : ¬ v3 < 0) (G4 : Dig d4 v4) (nn4 : ¬ v4 < 0) (G5 : Dig d5 v5) (nn5 : ¬ v5 < 0) (G6 : Dig d6 v6) (nn6 : ¬ v6 < 0) (h61 : ¬ d6 = 61) (dec tb : Addr) (SB : Sta Z Z.heap "java/util/Base64$Decoder" "fromBase64" "[I" (.ref tb)) (b : Addr) (h0 : Heap) (n0 : Nat) (O : Ext Z.heap h0) (E : Exa Z h0 dec "java/util/Base64$Decoder") (FU : Fld Z h0 dec "java/util/Base64$Decoder" "isURL" "Z" (.int 0)) (FM : Fld Z h0 dec "java/util/Base64$Decoder" "isMIME" "Z" (.int 0)) (Tb : AI Z h0 tb .int own_tab) (dst : Addr) (hnd : n0 ≤ dst) (nd1 : dec ≠ dst) (nd2 : tb ≠ dst) (nd3 : b ≠ dst) (S : AI Z h0 b .byte ([d0, d1, d2, d3, d4, d5, d6, 61] : List Int32)) (D : AI Z h0 dst .byte (List.replicate 5 0)) :
    Ctr l Z (⟨"java/util/Base64$Decoder", "decode0", "([BII[B)I"⟩ : MethodName) jdk_2450_method_9_code 11 (some .int) [] ({ frames := 1, cells := 0, slots := 0, locals := 27 } : Room) #[(.ref dec), (.ref b), (.int (0 : Int32)), (.int (8 : Int32)), (.ref dst)] h0 (QD Z (5 : Int32) dst ([nar .byte ((((((v0 <<< ((18 : Int32) &&& 31)) ||| (v1 <<< ((12 : Int32) &&& 31))) ||| (v2 <<< ((6 : Int32) &&& 31))) ||| v3) >>> ((16 : Int32) &&& 31)).toInt8.toInt32), nar .byte ((((((v0 <<< ((18 : Int32) &&& 31)) ||| (v1 <<< ((12 : Int32) &&& 31))) ||| (v2 <<< ((6 : Int32) &&& 31))) ||| v3) >>> ((8 : Int32) &&& 31)).toInt8.toInt32), nar .byte (((((v0 <<< ((18 : Int32) &&& 31)) ||| (v1 <<< ((12 : Int32) &&& 31))) ||| (v2 <<< ((6 : Int32) &&& 31))) ||| v3).toInt8.toInt32), nar .byte ((((((0 : Int32) ||| (v4 <<< ((18 : Int32) &&& 31))) ||| (v5 <<< ((12 : Int32) &&& 31))) ||| (v6 <<< ((6 : Int32) &&& 31))) >>> ((16 : Int32) &&& 31)).toInt8.toInt32), nar .byte ((((((0 : Int32) ||| (v4 <<< ((18 : Int32) &&& 31))) ||| (v5 <<< ((12 : Int32) &&& 31))) ||| (v6 <<< ((6 : Int32) &&& 31))) >>> ((8 : Int32) &&& 31)).toInt8.toInt32)] : List Int32) h0 n0) := by
  refine Ctr.of (plainFor_of_name pn_31) ?_
  intro p e s m below meth c s₁ hx hby hml hown hnm hret hlk hZ X0 e0
  refine Go.cast (ef_32 m dec b (0 : Int32) (8 : Int32) dst) ?_
  show Go p e below _ s₁ (mkF m 0 #[sR dec, sR b, sI 0, sI 8, sR dst, .unset, .unset, .unset, .unset, .unset, .unset] [])
  obtain ⟨i0, hi0, ht0⟩ := id G0
  obtain ⟨i1, hi1, ht1⟩ := id G1
  obtain ⟨i2, hi2, ht2⟩ := id G2
  obtain ⟨i3, hi3, ht3⟩ := id G3
  obtain ⟨i4, hi4, ht4⟩ := id G4
  obtain ⟨i5, hi5, ht5⟩ := id G5
  obtain ⟨i6, hi6, ht6⟩ := id G6
  refine g_aloadN X0 hx 1 (hb hby dd0_0) rfl rfl ?_
  refine g_getF X0 hx hZ hown (hW hw 117 rfl) e0 FU 4 (hb hby dd0_1) rfl ?_
  rintro T1 X1 e1
  refine g_ifY X1 hx 13 (hb hby dd0_4) (by decide) (XT.i0_eq_t (by decide)) ?_
  refine g_getS X1 hx hZ hown (hW hw 119 rfl) e1 (SB.ext O) 16 (hb hby dd0_13) rfl ?_
  rintro T2 X2 e2
  refine g_astore X2 hx #[sR dec, sR b, sI 0, sI 8, sR dst, sR tb, .unset, .unset, .unset, .unset, .unset] 18 (hb hby dd0_16) rfl rfl ?_
  refine g_iconst X2 hx 19 (hb hby dd0_18) rfl ki_0 ?_
  refine g_istore X2 hx #[sR dec, sR b, sI 0, sI 8, sR dst, sR tb, sI 0, .unset, .unset, .unset, .unset] 21 (hb hby dd0_19) rfl rfl ?_
  refine g_iconst X2 hx 22 (hb hby dd0_21) rfl ki_0 ?_
  refine g_istore X2 hx #[sR dec, sR b, sI 0, sI 8, sR dst, sR tb, sI 0, sI 0, .unset, .unset, .unset] 24 (hb hby dd0_22) rfl rfl ?_
  refine g_bipush X2 hx 26 (hb hby dd0_24) rfl kb_18 ?_
  refine g_istore X2 hx #[sR dec, sR b, sI 0, sI 8, sR dst, sR tb, sI 0, sI 0, sI 18, .unset, .unset] 28 (hb hby dd0_26) rfl rfl ?_
  refine g_iloadN X2 hx 29 (hb hby dd0_28) rfl rfl ?_
  refine g_iloadN X2 hx 30 (hb hby dd0_29) rfl rfl ?_
  refine g_icN X2 hx 33 (hb hby dd0_30) rfl (XT.ii_ge_f (by decide)) ?_
  refine g_iload X2 hx 35 (hb hby dd0_33) rfl rfl ?_
  refine g_bipush X2 hx 37 (hb hby dd0_35) rfl kb_18 ?_
  refine g_icN X2 hx 40 (hb hby dd0_37) rfl (XT.ii_ne_f (by decide)) ?_
  refine g_iloadN X2 hx 41 (hb hby dd0_40) rfl rfl ?_
  refine g_iloadN X2 hx 42 (hb hby dd0_41) rfl rfl ?_
  refine g_iconst X2 hx 43 (hb hby dd0_42) rfl ki_4 ?_
  refine g_isub X2 hx 44 (hb hby dd0_43) rfl (by decide : (8 : Int32) - (4 : Int32) = (4 : Int32)) ?_
  refine g_icN X2 hx 47 (hb hby dd0_44) rfl (XT.ii_ge_f (by decide)) ?_
  refine g_aloadN X2 hx 48 (hb hby dd0_47) rfl rfl ?_
  refine g_aloadN X2 hx 49 (hb hby dd0_48) rfl rfl ?_
  refine g_iloadN X2 hx 50 (hb hby dd0_49) rfl rfl ?_
  refine g_iloadN X2 hx 51 (hb hby dd0_50) rfl rfl ?_
  refine g_aload X2 hx 53 (hb hby dd0_51) rfl rfl ?_
  refine g_iload X2 hx 55 (hb hby dd0_53) rfl rfl ?_
  refine g_aloadN X2 hx 56 (hb hby dd0_55) rfl rfl ?_
  refine g_getF X2 hx hZ hown (hW hw 117 rfl) e2 FU 59 (hb hby dd0_56) rfl ?_
  rintro T3 X3 e3
  refine g_aloadN X3 hx 60 (hb hby dd0_59) rfl rfl ?_
  refine g_getF X3 hx hZ hown (hW hw 120 rfl) e3 FM 63 (hb hby dd0_60) rfl ?_
  rintro T4 X4 e4
  refine Go.callPV X4 hx (y := (⟨"java/util/Base64$Decoder", "decodeBlock", "([BII[BIZZ)I"⟩ : MethodName)) hown (mvT hZ (hW hw 132 rfl)) (mvT hZ (hW hw 133 rfl)) (mvT hZ (hW hw 135 rfl)) (mvP hZ (hW hw 134 rfl)) (mvT hZ (hW hw 136 rfl)) (by decide) (Ctr.back (W := 0) (rmDB_5 l Z a0 hw d0 v0 d1 v1 d2 v2 d3 v3 d4 v4 d5 v5 d6 v6 G0 nn0 G1 nn1 G2 nn2 G3 nn3 G4 nn4 G5 nn5 G6 nn6 h61 dec tb SB b h0 n0 O E FU FM Tb dst hnd nd1 nd2 nd3 S D) hZ (hW hw 136 rfl) (hW hw 68 rfl) (by decide) (by decide)) e4 E (g := (mkF m 63 #[sR dec, sR b, sI 0, sI 8, sR dst, sR tb, sI 0, sI 0, sI 18, .unset, .unset] [vI 0, vI 0, vI 0, vR dst, vI 8, vI 0, vR b, vR dec])) rfl (by rw [hml]; rfl) (argsL := [vR b, vI 0, vI 8, vR dst, vI 0, vI 0, vI 0]) (rest := []) (lenOf pd_37 rfl) rfl (by show 2 * 0 + _ ≤ _; exact Nat.le_of_eq rfl) (hb hby dd0_63) rfl (by decide) (by decide) ?_
  rintro _ T5 L5 X5 ⟨rfl, N5q, K5, A5⟩
  show Go p e below _ T5 (mkF m 66 #[sR dec, sR b, sI 0, sI 8, sR dst, sR tb, sI 0, sI 0, sI 18, .unset, .unset] [vI 3])
  have S5 := S.keep K5 (ninS nd3 nin0)
  have Tb5 := Tb.keep K5 (ninS nd2 nin0)
  have N5 := Fr.app (Fr.nil n0) N5q
  refine g_istore X5 hx #[sR dec, sR b, sI 0, sI 8, sR dst, sR tb, sI 0, sI 0, sI 18, sI 3, .unset] 68 (hb hby dd0_66) rfl rfl ?_
  refine g_iload X5 hx 70 (hb hby dd0_68) rfl rfl ?_
  refine g_iconst X5 hx 71 (hb hby dd0_70) rfl ki_2 ?_
  refine g_iadd X5 hx 72 (hb hby dd0_71) rfl (by decide : (3 : Int32) + (2 : Int32) = (5 : Int32)) ?_
  refine g_iconst X5 hx 73 (hb hby dd0_72) rfl ki_3 ?_
  refine g_idiv X5 hx 74 (hb hby dd0_73) rfl (by decide) (by decide : (5 : Int32) / (3 : Int32) = (1 : Int32)) ?_
  refine g_iconst X5 hx 75 (hb hby dd0_74) rfl ki_4 ?_
  refine g_imul X5 hx 76 (hb hby dd0_75) rfl (by decide : (1 : Int32) * (4 : Int32) = (4 : Int32)) ?_
  refine g_istore X5 hx #[sR dec, sR b, sI 0, sI 8, sR dst, sR tb, sI 0, sI 0, sI 18, sI 3, sI 4] 78 (hb hby dd0_76) rfl rfl ?_
  refine g_iloadN X5 hx 79 (hb hby dd0_78) rfl rfl ?_
  refine g_iload X5 hx 81 (hb hby dd0_79) rfl rfl ?_
  refine g_iadd X5 hx 82 (hb hby dd0_81) rfl (by decide : (0 : Int32) + (4 : Int32) = (4 : Int32)) ?_
  refine g_istoreN X5 hx #[sR dec, sR b, sI 4, sI 8, sR dst, sR tb, sI 0, sI 0, sI 18, sI 3, sI 4] 83 (hb hby dd0_82) rfl rfl ?_
  refine g_iload X5 hx 85 (hb hby dd0_83) rfl rfl ?_
  refine g_iload X5 hx 87 (hb hby dd0_85) rfl rfl ?_
  refine g_iadd X5 hx 88 (hb hby dd0_87) rfl (by decide : (0 : Int32) + (3 : Int32) = (3 : Int32)) ?_
  refine g_istore X5 hx #[sR dec, sR b, sI 4, sI 8, sR dst, sR tb, sI 3, sI 0, sI 18, sI 3, sI 4] 90 (hb hby dd0_88) rfl rfl ?_
  refine g_iloadN X5 hx 91 (hb hby dd0_90) rfl rfl ?_
  refine g_iloadN X5 hx 92 (hb hby dd0_91) rfl rfl ?_
  refine g_icY X5 hx 98 (hb hby dd0_92) (by decide) (XT.ii_lt_t (by decide)) ?_
  refine g_aloadN X5 hx 99 (hb hby dd0_98) rfl rfl ?_
  refine g_iloadN X5 hx 100 (hb hby dd0_99) rfl rfl ?_
  refine g_iinc X5 hx #[sR dec, sR b, sI 5, sI 8, sR dst, sR tb, sI 3, sI 0, sI 18, sI 3, sI 4] 103 (hb hby dd0_100) rfl rfl (by decide : (4 : Int32) + Int32.ofInt 1 = (5 : Int32)) rfl ?_
  refine g_baload X5 hx hZ rfl S5 4 (x := d4) rfl rfl 104 (hb hby dd0_103) rfl ?_
  refine g_sipush X5 hx 107 (hb hby dd0_104) rfl ks_255 ?_
  refine g_iand X5 hx 108 (hb hby dd0_107) rfl rfl ?_
  refine g_istore X5 hx #[sR dec, sR b, sI 5, sI 8, sR dst, sR tb, sI 3, sI 0, sI 18, (sI (d4 &&& (255 : Int32))), sI 4] 110 (hb hby dd0_108) rfl rfl ?_
  refine g_aload X5 hx 112 (hb hby dd0_110) rfl rfl ?_
  refine g_iload X5 hx 114 (hb hby dd0_112) rfl rfl ?_
  refine g_iaload X5 hx hZ rfl Tb5 i4 (x := v4) hi4 ht4 115 (hb hby dd0_114) rfl ?_
  refine g_dup X5 hx 116 (hb hby dd0_115) rfl rfl ?_
  refine g_istore X5 hx #[sR dec, sR b, sI 5, sI 8, sR dst, sR tb, sI 3, sI 0, sI 18, sI v4, sI 4] 118 (hb hby dd0_116) rfl rfl ?_
  refine g_ifY X5 hx 214 (hb hby dd0_118) (by decide) (XT.i0_ge_t nn4) ?_
  refine g_iload X5 hx 216 (hb hby dd0_214) rfl rfl ?_
  refine g_iload X5 hx 218 (hb hby dd0_216) rfl rfl ?_
  refine g_iload X5 hx 220 (hb hby dd0_218) rfl rfl ?_
  refine g_ishl X5 hx 221 (hb hby dd0_220) rfl rfl ?_
  refine g_ior X5 hx 222 (hb hby dd0_221) rfl rfl ?_
  refine g_istore X5 hx #[sR dec, sR b, sI 5, sI 8, sR dst, sR tb, sI 3, (sI ((0 : Int32) ||| (v4 <<< ((18 : Int32) &&& 31)))), sI 18, sI v4, sI 4] 224 (hb hby dd0_222) rfl rfl ?_
  refine g_iinc X5 hx #[sR dec, sR b, sI 5, sI 8, sR dst, sR tb, sI 3, (sI ((0 : Int32) ||| (v4 <<< ((18 : Int32) &&& 31)))), sI 12, sI v4, sI 4] 227 (hb hby dd0_224) rfl rfl (by decide : (18 : Int32) + Int32.ofInt (-6) = (12 : Int32)) rfl ?_
  refine g_iload X5 hx 229 (hb hby dd0_227) rfl rfl ?_
  refine g_ifY X5 hx 278 (hb hby dd0_229) (by decide) (XT.i0_ge_t (by decide)) ?_
  refine g_goto X5 hx 28 (hb hby dd0_278) (by decide) ?_
  refine g_iloadN X5 hx 29 (hb hby dd0_28) rfl rfl ?_
  refine g_iloadN X5 hx 30 (hb hby dd0_29) rfl rfl ?_
  refine g_icN X5 hx 33 (hb hby dd0_30) rfl (XT.ii_ge_f (by decide)) ?_
  refine g_iload X5 hx 35 (hb hby dd0_33) rfl rfl ?_
  refine g_bipush X5 hx 37 (hb hby dd0_35) rfl kb_18 ?_
  refine g_icY X5 hx 90 (hb hby dd0_37) (by decide) (XT.ii_ne_t (by decide)) ?_
  refine g_iloadN X5 hx 91 (hb hby dd0_90) rfl rfl ?_
  refine g_iloadN X5 hx 92 (hb hby dd0_91) rfl rfl ?_
  refine g_icY X5 hx 98 (hb hby dd0_92) (by decide) (XT.ii_lt_t (by decide)) ?_
  refine g_aloadN X5 hx 99 (hb hby dd0_98) rfl rfl ?_
  refine g_iloadN X5 hx 100 (hb hby dd0_99) rfl rfl ?_
  refine g_iinc X5 hx #[sR dec, sR b, sI 6, sI 8, sR dst, sR tb, sI 3, (sI ((0 : Int32) ||| (v4 <<< ((18 : Int32) &&& 31)))), sI 12, sI v4, sI 4] 103 (hb hby dd0_100) rfl rfl (by decide : (5 : Int32) + Int32.ofInt 1 = (6 : Int32)) rfl ?_
  refine g_baload X5 hx hZ rfl S5 5 (x := d5) rfl rfl 104 (hb hby dd0_103) rfl ?_
  refine g_sipush X5 hx 107 (hb hby dd0_104) rfl ks_255 ?_
  refine g_iand X5 hx 108 (hb hby dd0_107) rfl rfl ?_
  refine g_istore X5 hx #[sR dec, sR b, sI 6, sI 8, sR dst, sR tb, sI 3, (sI ((0 : Int32) ||| (v4 <<< ((18 : Int32) &&& 31)))), sI 12, (sI (d5 &&& (255 : Int32))), sI 4] 110 (hb hby dd0_108) rfl rfl ?_
  refine g_aload X5 hx 112 (hb hby dd0_110) rfl rfl ?_
  refine g_iload X5 hx 114 (hb hby dd0_112) rfl rfl ?_
  refine g_iaload X5 hx hZ rfl Tb5 i5 (x := v5) hi5 ht5 115 (hb hby dd0_114) rfl ?_
  refine g_dup X5 hx 116 (hb hby dd0_115) rfl rfl ?_
  refine g_istore X5 hx #[sR dec, sR b, sI 6, sI 8, sR dst, sR tb, sI 3, (sI ((0 : Int32) ||| (v4 <<< ((18 : Int32) &&& 31)))), sI 12, sI v5, sI 4] 118 (hb hby dd0_116) rfl rfl ?_
  refine g_ifY X5 hx 214 (hb hby dd0_118) (by decide) (XT.i0_ge_t nn5) ?_
  refine g_iload X5 hx 216 (hb hby dd0_214) rfl rfl ?_
  refine g_iload X5 hx 218 (hb hby dd0_216) rfl rfl ?_
  refine g_iload X5 hx 220 (hb hby dd0_218) rfl rfl ?_
  refine g_ishl X5 hx 221 (hb hby dd0_220) rfl rfl ?_
  refine g_ior X5 hx 222 (hb hby dd0_221) rfl rfl ?_
  refine g_istore X5 hx #[sR dec, sR b, sI 6, sI 8, sR dst, sR tb, sI 3, (sI (((0 : Int32) ||| (v4 <<< ((18 : Int32) &&& 31))) ||| (v5 <<< ((12 : Int32) &&& 31)))), sI 12, sI v5, sI 4] 224 (hb hby dd0_222) rfl rfl ?_
  refine g_iinc X5 hx #[sR dec, sR b, sI 6, sI 8, sR dst, sR tb, sI 3, (sI (((0 : Int32) ||| (v4 <<< ((18 : Int32) &&& 31))) ||| (v5 <<< ((12 : Int32) &&& 31)))), sI 6, sI v5, sI 4] 227 (hb hby dd0_224) rfl rfl (by decide : (12 : Int32) + Int32.ofInt (-6) = (6 : Int32)) rfl ?_
  refine g_iload X5 hx 229 (hb hby dd0_227) rfl rfl ?_
  refine g_ifY X5 hx 278 (hb hby dd0_229) (by decide) (XT.i0_ge_t (by decide)) ?_
  refine g_goto X5 hx 28 (hb hby dd0_278) (by decide) ?_
  refine g_iloadN X5 hx 29 (hb hby dd0_28) rfl rfl ?_
  refine g_iloadN X5 hx 30 (hb hby dd0_29) rfl rfl ?_
  refine g_icN X5 hx 33 (hb hby dd0_30) rfl (XT.ii_ge_f (by decide)) ?_
  refine g_iload X5 hx 35 (hb hby dd0_33) rfl rfl ?_
  refine g_bipush X5 hx 37 (hb hby dd0_35) rfl kb_18 ?_
  refine g_icY X5 hx 90 (hb hby dd0_37) (by decide) (XT.ii_ne_t (by decide)) ?_
  refine g_iloadN X5 hx 91 (hb hby dd0_90) rfl rfl ?_
  refine g_iloadN X5 hx 92 (hb hby dd0_91) rfl rfl ?_
  refine g_icY X5 hx 98 (hb hby dd0_92) (by decide) (XT.ii_lt_t (by decide)) ?_
  refine g_aloadN X5 hx 99 (hb hby dd0_98) rfl rfl ?_
  refine g_iloadN X5 hx 100 (hb hby dd0_99) rfl rfl ?_
  refine g_iinc X5 hx #[sR dec, sR b, sI 7, sI 8, sR dst, sR tb, sI 3, (sI (((0 : Int32) ||| (v4 <<< ((18 : Int32) &&& 31))) ||| (v5 <<< ((12 : Int32) &&& 31)))), sI 6, sI v5, sI 4] 103 (hb hby dd0_100) rfl rfl (by decide : (6 : Int32) + Int32.ofInt 1 = (7 : Int32)) rfl ?_
  refine g_baload X5 hx hZ rfl S5 6 (x := d6) rfl rfl 104 (hb hby dd0_103) rfl ?_
  refine g_sipush X5 hx 107 (hb hby dd0_104) rfl ks_255 ?_
  refine g_iand X5 hx 108 (hb hby dd0_107) rfl rfl ?_
  refine g_istore X5 hx #[sR dec, sR b, sI 7, sI 8, sR dst, sR tb, sI 3, (sI (((0 : Int32) ||| (v4 <<< ((18 : Int32) &&& 31))) ||| (v5 <<< ((12 : Int32) &&& 31)))), sI 6, (sI (d6 &&& (255 : Int32))), sI 4] 110 (hb hby dd0_108) rfl rfl ?_
  refine g_aload X5 hx 112 (hb hby dd0_110) rfl rfl ?_
  refine g_iload X5 hx 114 (hb hby dd0_112) rfl rfl ?_
  refine g_iaload X5 hx hZ rfl Tb5 i6 (x := v6) hi6 ht6 115 (hb hby dd0_114) rfl ?_
  refine g_dup X5 hx 116 (hb hby dd0_115) rfl rfl ?_
  refine g_istore X5 hx #[sR dec, sR b, sI 7, sI 8, sR dst, sR tb, sI 3, (sI (((0 : Int32) ||| (v4 <<< ((18 : Int32) &&& 31))) ||| (v5 <<< ((12 : Int32) &&& 31)))), sI 6, sI v6, sI 4] 118 (hb hby dd0_116) rfl rfl ?_
  refine g_ifY X5 hx 214 (hb hby dd0_118) (by decide) (XT.i0_ge_t nn6) ?_
  refine g_iload X5 hx 216 (hb hby dd0_214) rfl rfl ?_
  refine g_iload X5 hx 218 (hb hby dd0_216) rfl rfl ?_
  refine g_iload X5 hx 220 (hb hby dd0_218) rfl rfl ?_
  refine g_ishl X5 hx 221 (hb hby dd0_220) rfl rfl ?_
  refine g_ior X5 hx 222 (hb hby dd0_221) rfl rfl ?_
  refine g_istore X5 hx #[sR dec, sR b, sI 7, sI 8, sR dst, sR tb, sI 3, (sI ((((0 : Int32) ||| (v4 <<< ((18 : Int32) &&& 31))) ||| (v5 <<< ((12 : Int32) &&& 31))) ||| (v6 <<< ((6 : Int32) &&& 31)))), sI 6, sI v6, sI 4] 224 (hb hby dd0_222) rfl rfl ?_
  refine g_iinc X5 hx #[sR dec, sR b, sI 7, sI 8, sR dst, sR tb, sI 3, (sI ((((0 : Int32) ||| (v4 <<< ((18 : Int32) &&& 31))) ||| (v5 <<< ((12 : Int32) &&& 31))) ||| (v6 <<< ((6 : Int32) &&& 31)))), sI 0, sI v6, sI 4] 227 (hb hby dd0_224) rfl rfl (by decide : (6 : Int32) + Int32.ofInt (-6) = (0 : Int32)) rfl ?_
  refine g_iload X5 hx 229 (hb hby dd0_227) rfl rfl ?_
  refine g_ifY X5 hx 278 (hb hby dd0_229) (by decide) (XT.i0_ge_t (by decide)) ?_
  refine g_goto X5 hx 28 (hb hby dd0_278) (by decide) ?_
  refine g_iloadN X5 hx 29 (hb hby dd0_28) rfl rfl ?_
  refine g_iloadN X5 hx 30 (hb hby dd0_29) rfl rfl ?_
  refine g_icN X5 hx 33 (hb hby dd0_30) rfl (XT.ii_ge_f (by decide)) ?_
  refine g_iload X5 hx 35 (hb hby dd0_33) rfl rfl ?_
  refine g_bipush X5 hx 37 (hb hby dd0_35) rfl kb_18 ?_
  refine g_icY X5 hx 90 (hb hby dd0_37) (by decide) (XT.ii_ne_t (by decide)) ?_
  refine g_iloadN X5 hx 91 (hb hby dd0_90) rfl rfl ?_
  refine g_iloadN X5 hx 92 (hb hby dd0_91) rfl rfl ?_
  refine g_icY X5 hx 98 (hb hby dd0_92) (by decide) (XT.ii_lt_t (by decide)) ?_
  refine g_aloadN X5 hx 99 (hb hby dd0_98) rfl rfl ?_
  refine g_iloadN X5 hx 100 (hb hby dd0_99) rfl rfl ?_
  refine g_iinc X5 hx #[sR dec, sR b, sI 8, sI 8, sR dst, sR tb, sI 3, (sI ((((0 : Int32) ||| (v4 <<< ((18 : Int32) &&& 31))) ||| (v5 <<< ((12 : Int32) &&& 31))) ||| (v6 <<< ((6 : Int32) &&& 31)))), sI 0, sI v6, sI 4] 103 (hb hby dd0_100) rfl rfl (by decide : (7 : Int32) + Int32.ofInt 1 = (8 : Int32)) rfl ?_
  refine g_baload X5 hx hZ rfl S5 7 (x := (61 : Int32)) rfl rfl 104 (hb hby dd0_103) rfl ?_
  refine g_sipush X5 hx 107 (hb hby dd0_104) rfl ks_255 ?_
  refine g_iand X5 hx 108 (hb hby dd0_107) rfl (by decide : (61 : Int32) &&& (255 : Int32) = (61 : Int32)) ?_
  refine g_istore X5 hx #[sR dec, sR b, sI 8, sI 8, sR dst, sR tb, sI 3, (sI ((((0 : Int32) ||| (v4 <<< ((18 : Int32) &&& 31))) ||| (v5 <<< ((12 : Int32) &&& 31))) ||| (v6 <<< ((6 : Int32) &&& 31)))), sI 0, sI 61, sI 4] 110 (hb hby dd0_108) rfl rfl ?_
  refine g_aload X5 hx 112 (hb hby dd0_110) rfl rfl ?_
  refine g_iload X5 hx 114 (hb hby dd0_112) rfl rfl ?_
  refine g_iaload X5 hx hZ rfl Tb5 61 (x := (-2 : Int32)) rfl (by decide) 115 (hb hby dd0_114) rfl ?_
  refine g_dup X5 hx 116 (hb hby dd0_115) rfl rfl ?_
  refine g_istore X5 hx #[sR dec, sR b, sI 8, sI 8, sR dst, sR tb, sI 3, (sI ((((0 : Int32) ||| (v4 <<< ((18 : Int32) &&& 31))) ||| (v5 <<< ((12 : Int32) &&& 31))) ||| (v6 <<< ((6 : Int32) &&& 31)))), sI 0, (sI (-2)), sI 4] 118 (hb hby dd0_116) rfl rfl ?_
  refine g_ifN X5 hx 121 (hb hby dd0_118) rfl (XT.i0_ge_f (by decide)) ?_
  refine g_iload X5 hx 123 (hb hby dd0_121) rfl rfl ?_
  refine g_bipush X5 hx 125 (hb hby dd0_123) rfl kb_m2 ?_
  refine g_icN X5 hx 128 (hb hby dd0_125) rfl (XT.ii_ne_f (by decide)) ?_
  refine g_iload X5 hx 130 (hb hby dd0_128) rfl rfl ?_
  refine g_bipush X5 hx 132 (hb hby dd0_130) rfl kb_6 ?_
  refine g_icY X5 hx 151 (hb hby dd0_132) (by decide) (XT.ii_ne_t (by decide)) ?_
  refine g_iload X5 hx 153 (hb hby dd0_151) rfl rfl ?_
  refine g_bipush X5 hx 155 (hb hby dd0_153) rfl kb_18 ?_
  refine g_icY X5 hx 281 (hb hby dd0_155) (by decide) (XT.ii_ne_t (by decide)) ?_
  refine g_iload X5 hx 283 (hb hby dd0_281) rfl rfl ?_
  refine g_bipush X5 hx 285 (hb hby dd0_283) rfl kb_6 ?_
  refine g_icY X5 hx 305 (hb hby dd0_285) (by decide) (XT.ii_ne_t (by decide)) ?_
  refine g_iload X5 hx 307 (hb hby dd0_305) rfl rfl ?_
  refine g_ifN X5 hx 310 (hb hby dd0_307) rfl (XT.i0_ne_f (by decide)) ?_
  refine g_aload X5 hx 312 (hb hby dd0_310) rfl rfl ?_
  refine g_iload X5 hx 314 (hb hby dd0_312) rfl rfl ?_
  refine g_iinc X5 hx #[sR dec, sR b, sI 8, sI 8, sR dst, sR tb, sI 4, (sI ((((0 : Int32) ||| (v4 <<< ((18 : Int32) &&& 31))) ||| (v5 <<< ((12 : Int32) &&& 31))) ||| (v6 <<< ((6 : Int32) &&& 31)))), sI 0, (sI (-2)), sI 4] 317 (hb hby dd0_314) rfl rfl (by decide : (3 : Int32) + Int32.ofInt 1 = (4 : Int32)) rfl ?_
  refine g_iload X5 hx 319 (hb hby dd0_317) rfl rfl ?_
  refine g_bipush X5 hx 321 (hb hby dd0_319) rfl kb_16 ?_
  refine g_ishr X5 hx 322 (hb hby dd0_321) rfl rfl ?_
  refine g_i2b X5 hx 323 (hb hby dd0_322) rfl ?_
  refine g_bastore X5 hx hZ rfl A5 3 rfl (by simp) 324 (hb hby dd0_323) rfl ?_
  rintro T6 h6 X6 e6 W6 A6
  have sW6 := W6.size
  have S6 := S5.other W6 nd3
  have Tb6 := Tb5.other W6 nd2
  have K6 := K5.wr W6 (Or.inl (List.mem_cons_self ..))
  have N6 := Fr.snoc X6 N5 hnd
  refine g_aload X6 hx 326 (hb hby dd0_324) rfl rfl ?_
  refine g_iload X6 hx 328 (hb hby dd0_326) rfl rfl ?_
  refine g_iinc X6 hx #[sR dec, sR b, sI 8, sI 8, sR dst, sR tb, sI 5, (sI ((((0 : Int32) ||| (v4 <<< ((18 : Int32) &&& 31))) ||| (v5 <<< ((12 : Int32) &&& 31))) ||| (v6 <<< ((6 : Int32) &&& 31)))), sI 0, (sI (-2)), sI 4] 331 (hb hby dd0_328) rfl rfl (by decide : (4 : Int32) + Int32.ofInt 1 = (5 : Int32)) rfl ?_
  refine g_iload X6 hx 333 (hb hby dd0_331) rfl rfl ?_
  refine g_bipush X6 hx 335 (hb hby dd0_333) rfl kb_8 ?_
  refine g_ishr X6 hx 336 (hb hby dd0_335) rfl rfl ?_
  refine g_i2b X6 hx 337 (hb hby dd0_336) rfl ?_
  refine g_bastore X6 hx hZ e6 A6 4 rfl (by simp) 338 (hb hby dd0_337) rfl ?_
  rintro T7 h7 X7 e7 W7 A7
  have sW7 := W7.size
  have S7 := S6.other W7 nd3
  have Tb7 := Tb6.other W7 nd2
  have K7 := K6.wr W7 (Or.inl (List.mem_cons_self ..))
  have N7 := Fr.snoc X7 N6 hnd
  refine g_goto X7 hx 358 (hb hby dd0_338) (by decide) ?_
  refine g_iloadN X7 hx 359 (hb hby dd0_358) rfl rfl ?_
  refine g_iloadN X7 hx 360 (hb hby dd0_359) rfl rfl ?_
  refine g_icY X7 hx 416 (hb hby dd0_360) (by decide) (XT.ii_ge_t (by decide)) ?_
  refine g_iload X7 hx 418 (hb hby dd0_416) rfl rfl ?_
  have Ad : AI Z h7 dst .byte ([nar .byte ((((((v0 <<< ((18 : Int32) &&& 31)) ||| (v1 <<< ((12 : Int32) &&& 31))) ||| (v2 <<< ((6 : Int32) &&& 31))) ||| v3) >>> ((16 : Int32) &&& 31)).toInt8.toInt32), nar .byte ((((((v0 <<< ((18 : Int32) &&& 31)) ||| (v1 <<< ((12 : Int32) &&& 31))) ||| (v2 <<< ((6 : Int32) &&& 31))) ||| v3) >>> ((8 : Int32) &&& 31)).toInt8.toInt32), nar .byte (((((v0 <<< ((18 : Int32) &&& 31)) ||| (v1 <<< ((12 : Int32) &&& 31))) ||| (v2 <<< ((6 : Int32) &&& 31))) ||| v3).toInt8.toInt32), nar .byte ((((((0 : Int32) ||| (v4 <<< ((18 : Int32) &&& 31))) ||| (v5 <<< ((12 : Int32) &&& 31))) ||| (v6 <<< ((6 : Int32) &&& 31))) >>> ((16 : Int32) &&& 31)).toInt8.toInt32), nar .byte ((((((0 : Int32) ||| (v4 <<< ((18 : Int32) &&& 31))) ||| (v5 <<< ((12 : Int32) &&& 31))) ||| (v6 <<< ((6 : Int32) &&& 31))) >>> ((8 : Int32) &&& 31)).toInt8.toInt32)] : List Int32) := A7
  have Kd : Keep h0 h7 [dst] := K7
  exact Go.retI X7 hx hret hlk (hb hby dd0_418) ⟨rfl, N7, e7 ▸ Kd, e7 ▸ Ad⟩ (by decide) (by decide)
set_option maxRecDepth 65536 in
set_option maxHeartbeats 40000000 in
theorem rmDE_5 (l : Launch) (Z : State) (a0 : Array Value) (hw : ∀ d ∈ tables_1, d.before a0 Z = true) (d0 v0 d1 v1 d2 v2 d3 v3 d4 v4 d5 v5 d6 v6 : Int32) (G0 : Dig d0 v0) (nn0 : ¬ v0 < 0) (G1 : Dig d1 v1) (nn1 : ¬ v1 < 0) (G2 : Dig d2 v2) (nn2 : ¬ v2 < 0) (G3 : Dig d3 v3) (nn3 : ¬ v3 < 0) (G4 : Dig d4 v4) (nn4 : ¬ v4 < 0) (G5 : Dig d5 v5) (nn5 : ¬ v5 < 0) (G6 : Dig d6 v6) (nn6 : ¬ v6 < 0) (h61 : ¬ d6 = 61) (dec tb : Addr) (SB : Sta Z Z.heap "java/util/Base64$Decoder" "fromBase64" "[I" (.ref tb)) (b : Addr) (h0 : Heap) (n0 : Nat) (O : Ext Z.heap h0) (E : Exa Z h0 dec "java/util/Base64$Decoder") (FU : Fld Z h0 dec "java/util/Base64$Decoder" "isURL" "Z" (.int 0)) (FM : Fld Z h0 dec "java/util/Base64$Decoder" "isMIME" "Z" (.int 0)) (Tb : AI Z h0 tb .int own_tab) (Z0 : n0 ≤ h0.size) (S : AI Z h0 b .byte ([d0, d1, d2, d3, d4, d5, d6, 61] : List Int32)) :
    Ctr l Z (⟨"java/util/Base64$Decoder", "decode", "([B)[B"⟩ : MethodName) jdk_2450_method_2_code 4 (some (.array .byte)) [] ({ frames := 2, cells := 1, slots := 6, locals := 49 } : Room) #[(.ref dec), (.ref b)] h0 (QDE Z ([nar .byte ((((((v0 <<< ((18 : Int32) &&& 31)) ||| (v1 <<< ((12 : Int32) &&& 31))) ||| (v2 <<< ((6 : Int32) &&& 31))) ||| v3) >>> ((16 : Int32) &&& 31)).toInt8.toInt32), nar .byte ((((((v0 <<< ((18 : Int32) &&& 31)) ||| (v1 <<< ((12 : Int32) &&& 31))) ||| (v2 <<< ((6 : Int32) &&& 31))) ||| v3) >>> ((8 : Int32) &&& 31)).toInt8.toInt32), nar .byte (((((v0 <<< ((18 : Int32) &&& 31)) ||| (v1 <<< ((12 : Int32) &&& 31))) ||| (v2 <<< ((6 : Int32) &&& 31))) ||| v3).toInt8.toInt32), nar .byte ((((((0 : Int32) ||| (v4 <<< ((18 : Int32) &&& 31))) ||| (v5 <<< ((12 : Int32) &&& 31))) ||| (v6 <<< ((6 : Int32) &&& 31))) >>> ((16 : Int32) &&& 31)).toInt8.toInt32), nar .byte ((((((0 : Int32) ||| (v4 <<< ((18 : Int32) &&& 31))) ||| (v5 <<< ((12 : Int32) &&& 31))) ||| (v6 <<< ((6 : Int32) &&& 31))) >>> ((8 : Int32) &&& 31)).toInt8.toInt32)] : List Int32) h0 n0) := by
  refine Ctr.of (plainFor_of_name pn_31) ?_
  intro p e s m below meth c s₁ hx hby hml hown hnm hret hlk hZ X0 e0
  refine Go.cast (ef_33 m dec b) ?_
  show Go p e below _ s₁ (mkF m 0 #[sR dec, sR b, .unset, .unset] [])
  refine g_aloadN X0 hx 1 (hb hby dde_0) rfl rfl ?_
  refine g_aloadN X0 hx 2 (hb hby dde_1) rfl rfl ?_
  refine g_iconst X0 hx 3 (hb hby dde_2) rfl ki_0 ?_
  refine g_aloadN X0 hx 4 (hb hby dde_3) rfl rfl ?_
  refine g_alen X0 hx hZ e0 S (z := 8) rfl 5 (hb hby dde_4) rfl ?_
  refine Go.callPV X0 hx (y := (⟨"java/util/Base64$Decoder", "decodedOutLength", "([BII)I"⟩ : MethodName)) hown (mvT hZ (hW hw 112 rfl)) (mvT hZ (hW hw 113 rfl)) (mvT hZ (hW hw 115 rfl)) (mvP hZ (hW hw 114 rfl)) (mvT hZ (hW hw 116 rfl)) (by decide) (Ctr.back (W := 0) (rmDL_5 l Z a0 hw d0 v0 d1 v1 d2 v2 d3 v3 d4 v4 d5 v5 d6 v6 G0 nn0 G1 nn1 G2 nn2 G3 nn3 G4 nn4 G5 nn5 G6 nn6 h61 dec tb SB b h0 n0 O E FU FM Tb S) hZ (hW hw 116 rfl) (hW hw 68 rfl) (by decide) (by decide)) e0 E (g := (mkF m 5 #[sR dec, sR b, .unset, .unset] [vI 8, vI 0, vR b, vR dec])) rfl (by rw [hml]; rfl) (argsL := [vR b, vI 0, vI 8]) (rest := []) (lenOf pd_34 rfl) rfl (by show 2 * 0 + _ ≤ _; exact Nat.le_of_eq rfl) (hb hby dde_5) rfl (by decide) (by decide) ?_
  rintro _ T1 L1 X1 ⟨rfl, N1, e1⟩
  show Go p e below _ T1 (mkF m 8 #[sR dec, sR b, .unset, .unset] [vI 5])
  refine Go.newarr X1 hx hZ (ty := .byte) rfl rfl (hW hw 28 rfl) e1 (g := (mkF m 8 #[sR dec, sR b, .unset, .unset] [vI 5])) rfl (hb hby dde_8) rfl (n := 5) rfl (by decide) (by decide) (by decide) ?_
  rintro T2 h2 X2 e2 E2 l2 A2
  obtain ⟨a2, g2⟩ : ∃ z, z = h0.size := ⟨_, rfl⟩
  rw [← g2] at A2 l2 ⊢
  have sE2 := E2.1
  show Go p e below _ T2 (mkF m 10 #[sR dec, sR b, .unset, .unset] [vR a2])
  refine g_astoreN X2 hx #[sR dec, sR b, sR a2, .unset] 11 (hb hby dde_10) rfl rfl ?_
  refine g_aloadN X2 hx 12 (hb hby dde_11) rfl rfl ?_
  refine g_aloadN X2 hx 13 (hb hby dde_12) rfl rfl ?_
  refine g_iconst X2 hx 14 (hb hby dde_13) rfl ki_0 ?_
  refine g_aloadN X2 hx 15 (hb hby dde_14) rfl rfl ?_
  have q0 := E.lt
  have q1 := Tb.lt
  have q2 := S.lt
  have nd1 : dec ≠ a2 := Nat.ne_of_lt (Nat.lt_of_lt_of_eq q0 g2.symm)
  have nd2 : tb ≠ a2 := Nat.ne_of_lt (Nat.lt_of_lt_of_eq q1 g2.symm)
  have nd3 : b ≠ a2 := Nat.ne_of_lt (Nat.lt_of_lt_of_eq q2 g2.symm)
  refine g_alen X2 hx hZ e2 (S.ext E2) (z := 8) rfl 16 (hb hby dde_15) rfl ?_
  refine g_aloadN X2 hx 17 (hb hby dde_16) rfl rfl ?_
  refine Go.callPV X2 hx (y := (⟨"java/util/Base64$Decoder", "decode0", "([BII[B)I"⟩ : MethodName)) hown (mvT hZ (hW hw 124 rfl)) (mvT hZ (hW hw 125 rfl)) (mvT hZ (hW hw 127 rfl)) (mvP hZ (hW hw 126 rfl)) (mvT hZ (hW hw 128 rfl)) (by decide) (Ctr.back (W := 0) (rmD0_5 l Z a0 hw d0 v0 d1 v1 d2 v2 d3 v3 d4 v4 d5 v5 d6 v6 G0 nn0 G1 nn1 G2 nn2 G3 nn3 G4 nn4 G5 nn5 G6 nn6 h61 dec tb SB b h2 n0 (own_ext O E2) (E.ext E2) (FU.ext E2) (FM.ext E2) (Tb.ext E2) a2 (by omega) nd1 nd2 nd3 (S.ext E2) A2) hZ (hW hw 128 rfl) (hW hw 68 rfl) (by decide) (by decide)) e2 (E.ext E2) (g := (mkF m 17 #[sR dec, sR b, sR a2, .unset] [vR a2, vI 8, vI 0, vR b, vR dec])) rfl (by rw [hml]; rfl) (argsL := [vR b, vI 0, vI 8, vR a2]) (rest := []) (lenOf pd_35 rfl) rfl (by show 2 * 0 + _ ≤ _; exact Nat.le_of_eq rfl) (hb hby dde_17) rfl (by decide) (by decide) ?_
  rintro _ T3 L3 X3 ⟨rfl, N3, K3, A3⟩
  show Go p e below _ T3 (mkF m 20 #[sR dec, sR b, sR a2, .unset] [vI 5])
  refine g_istoreN X3 hx #[sR dec, sR b, sR a2, sI 5] 21 (hb hby dde_20) rfl rfl ?_
  refine g_iloadN X3 hx 22 (hb hby dde_21) rfl rfl ?_
  refine g_aloadN X3 hx 23 (hb hby dde_22) rfl rfl ?_
  refine g_alen X3 hx hZ rfl A3 (z := 5) rfl 24 (hb hby dde_23) rfl ?_
  refine g_icY X3 hx 33 (hb hby dde_24) (by decide) (XT.ii_eq_t (by decide)) ?_
  refine g_aloadN X3 hx 34 (hb hby dde_33) rfl rfl ?_
  exact Go.retV X3 hx hret hlk rfl rfl (hb hby dde_34) ⟨a2, rfl, Fr.app (Fr.app (Fr.nil n0) N1) N3, ((Keep.refl h0 []).ext E2).trans K3 (fun x q => Or.inr (by cases List.mem_singleton.mp q; omega)), A3⟩ (by decide) (by decide)
set_option maxRecDepth 65536 in
set_option maxHeartbeats 40000000 in
theorem rmDL_6 (l : Launch) (Z : State) (a0 : Array Value) (hw : ∀ d ∈ tables_1, d.before a0 Z = true) (d0 v0 d1 v1 d2 v2 d3 v3 d4 v4 d5 v5 d6 v6 d7 v7 : Int32) (G0 : Dig d0 v0) (nn0 : ¬ v0 < 0) (G1 : Dig d1 v1) (nn1 : ¬ v1 < 0) (G2 : Dig d2 v2) (nn2 : ¬ v2 < 0) (G3 : Dig d3 v3) (nn3 : ¬ v3 < 0) (G4 : Dig d4 v4) (nn4 : ¬ v4 < 0) (G5 : Dig d5 v5) (nn5 : ¬ v5 < 0) (G6 : Dig d6 v6) (nn6 : ¬ v6 < 0) (G7 : Dig d7 v7) (nn7 : ¬ v7 < 0) (h61 : ¬ d7 = 61) (dec tb : Addr) (SB : Sta Z Z.heap "java/util/Base64$Decoder" "fromBase64" "[I" (.ref tb)) (b : Addr) (h0 : Heap) (n0 : Nat) (O : Ext Z.heap h0) (E : Exa Z h0 dec "java/util/Base64$Decoder") (FU : Fld Z h0 dec "java/util/Base64$Decoder" "isURL" "Z" (.int 0)) (FM : Fld Z h0 dec "java/util/Base64$Decoder" "isMIME" "Z" (.int 0)) (Tb : AI Z h0 tb .int own_tab) (S : AI Z h0 b .byte ([d0, d1, d2, d3, d4, d5, d6, d7] : List Int32)) :
    Ctr l Z (⟨"java/util/Base64$Decoder", "decodedOutLength", "([BII)I"⟩ : MethodName) jdk_2450_method_7_code 9 (some .int) [] ({ frames := 0, cells := 0, slots := 0, locals := 0 } : Room) #[(.ref dec), (.ref b), (.int (0 : Int32)), (.int (8 : Int32))] h0 (QP (6 : Int32) h0 n0) := by
  refine Ctr.of (plainFor_of_name pn_31) ?_
  intro p e s m below meth c s₁ hx hby hml hown hnm hret hlk hZ X0 e0
  refine Go.cast (ef_30 m dec b (0 : Int32) (8 : Int32)) ?_
  show Go p e below _ s₁ (mkF m 0 #[sR dec, sR b, sI 0, sI 8, .unset, .unset, .unset, .unset, .unset] [])
  obtain ⟨i0, hi0, ht0⟩ := id G0
  obtain ⟨i1, hi1, ht1⟩ := id G1
  obtain ⟨i2, hi2, ht2⟩ := id G2
  obtain ⟨i3, hi3, ht3⟩ := id G3
  obtain ⟨i4, hi4, ht4⟩ := id G4
  obtain ⟨i5, hi5, ht5⟩ := id G5
  obtain ⟨i6, hi6, ht6⟩ := id G6
  obtain ⟨i7, hi7, ht7⟩ := id G7
  refine g_aloadN X0 hx 1 (hb hby ddl_0) rfl rfl ?_
  refine g_getF X0 hx hZ hown (hW hw 117 rfl) e0 FU 4 (hb hby ddl_1) rfl ?_
  rintro T1 X1 e1
  refine g_ifY X1 hx 13 (hb hby ddl_4) (by decide) (XT.i0_eq_t (by decide)) ?_
  refine g_getS X1 hx hZ hown (hW hw 119 rfl) e1 (SB.ext O) 16 (hb hby ddl_13) rfl ?_
  rintro T2 X2 e2
  refine g_astore X2 hx #[sR dec, sR b, sI 0, sI 8, sR tb, .unset, .unset, .unset, .unset] 18 (hb hby ddl_16) rfl rfl ?_
  refine g_iconst X2 hx 19 (hb hby ddl_18) rfl ki_0 ?_
  refine g_istore X2 hx #[sR dec, sR b, sI 0, sI 8, sR tb, sI 0, .unset, .unset, .unset] 21 (hb hby ddl_19) rfl rfl ?_
  refine g_iloadN X2 hx 22 (hb hby ddl_21) rfl rfl ?_
  refine g_iloadN X2 hx 23 (hb hby ddl_22) rfl rfl ?_
  refine g_isub X2 hx 24 (hb hby ddl_23) rfl (by decide : (8 : Int32) - (0 : Int32) = (8 : Int32)) ?_
  refine g_istore X2 hx #[sR dec, sR b, sI 0, sI 8, sR tb, sI 0, sI 8, .unset, .unset] 26 (hb hby ddl_24) rfl rfl ?_
  refine g_iload X2 hx 28 (hb hby ddl_26) rfl rfl ?_
  refine g_ifY X2 hx 33 (hb hby ddl_28) (by decide) (XT.i0_ne_t (by decide)) ?_
  refine g_iload X2 hx 35 (hb hby ddl_33) rfl rfl ?_
  refine g_iconst X2 hx 36 (hb hby ddl_35) rfl ki_2 ?_
  refine g_icY X2 hx 66 (hb hby ddl_36) (by decide) (XT.ii_ge_t (by decide)) ?_
  refine g_aloadN X2 hx 67 (hb hby ddl_66) rfl rfl ?_
  refine g_getF X2 hx hZ hown (hW hw 120 rfl) e2 FM 70 (hb hby ddl_67) rfl ?_
  rintro T3 X3 e3
  refine g_ifY X3 hx 141 (hb hby ddl_70) (by decide) (XT.i0_eq_t (by decide)) ?_
  refine g_aloadN X3 hx 142 (hb hby ddl_141) rfl rfl ?_
  refine g_iloadN X3 hx 143 (hb hby ddl_142) rfl rfl ?_
  refine g_iconst X3 hx 144 (hb hby ddl_143) rfl ki_1 ?_
  refine g_isub X3 hx 145 (hb hby ddl_144) rfl (by decide : (8 : Int32) - (1 : Int32) = (7 : Int32)) ?_
  refine g_baload X3 hx hZ e3 S 7 (x := d7) rfl rfl 146 (hb hby ddl_145) rfl ?_
  refine g_bipush X3 hx 148 (hb hby ddl_146) rfl kb_61 ?_
  refine g_icY X3 hx 167 (hb hby ddl_148) (by decide) (XT.ii_ne_t h61) ?_
  refine g_iload X3 hx 169 (hb hby ddl_167) rfl rfl ?_
  refine g_ifN X3 hx 172 (hb hby ddl_169) rfl (XT.i0_ne_f (by decide)) ?_
  refine g_iload X3 hx 174 (hb hby ddl_172) rfl rfl ?_
  refine g_iconst X3 hx 175 (hb hby ddl_174) rfl ki_3 ?_
  refine g_iand X3 hx 176 (hb hby ddl_175) rfl (by decide : (8 : Int32) &&& (3 : Int32) = (0 : Int32)) ?_
  refine g_ifY X3 hx 187 (hb hby ddl_176) (by decide) (XT.i0_eq_t (by decide)) ?_
  refine g_iconst X3 hx 188 (hb hby ddl_187) rfl ki_3 ?_
  refine g_iload X3 hx 190 (hb hby ddl_188) rfl rfl ?_
  refine Go.st (fun _ k => XT.i2l X3.here hx rfl (hb hby ddl_190) rfl k) ?_
  show Go p e below _ T3 (mkF m 191 #[sR dec, sR b, sI 0, sI 8, sR tb, sI 0, sI 8, .unset, .unset] [(.long ((8 : Int32).toInt64)), vI 3])
  refine Go.st (fun _ k => X3.ldc2J hx hown (mvT hZ (hW hw 122 rfl)) rfl (hb hby ddl_191) k) ?_
  show Go p e below _ T3 (mkF m 194 #[sR dec, sR b, sI 0, sI 8, sR tb, sI 0, sI 8, .unset, .unset] [(.long (3 : Int64)), (.long ((8 : Int32).toInt64)), vI 3])
  refine Go.st (fun _ k => XT.ladd X3.here hx rfl (hb hby ddl_194) rfl k) ?_
  show Go p e below _ T3 (mkF m 195 #[sR dec, sR b, sI 0, sI 8, sR tb, sI 0, sI 8, .unset, .unset] [(.long (((8 : Int32).toInt64) + (3 : Int64))), vI 3])
  refine Go.st (fun _ k => X3.ldc2J hx hown (mvT hZ (hW hw 123 rfl)) rfl (hb hby ddl_195) k) ?_
  show Go p e below _ T3 (mkF m 198 #[sR dec, sR b, sI 0, sI 8, sR tb, sI 0, sI 8, .unset, .unset] [(.long (4 : Int64)), (.long (((8 : Int32).toInt64) + (3 : Int64))), vI 3])
  refine Go.st (fun _ k => XT.ldiv X3.here hx rfl (hb hby ddl_198) rfl (by decide) k) ?_
  show Go p e below _ T3 (mkF m 199 #[sR dec, sR b, sI 0, sI 8, sR tb, sI 0, sI 8, .unset, .unset] [(.long ((((8 : Int32).toInt64) + (3 : Int64)) / (4 : Int64))), vI 3])
  refine Go.st (fun _ k => XT.l2i X3.here hx rfl (hb hby ddl_199) rfl k) ?_
  show Go p e below _ T3 (mkF m 200 #[sR dec, sR b, sI 0, sI 8, sR tb, sI 0, sI 8, .unset, .unset] [(vI (((((8 : Int32).toInt64) + (3 : Int64)) / (4 : Int64)).toInt32)), vI 3])
  rw [show ((((8 : Int32).toInt64) + (3 : Int64)) / (4 : Int64)).toInt32 = (2 : Int32) from by decide]
  show Go p e below _ T3 (mkF m 200 #[sR dec, sR b, sI 0, sI 8, sR tb, sI 0, sI 8, .unset, .unset] [vI 2, vI 3])
  refine g_imul X3 hx 201 (hb hby ddl_200) rfl (by decide : (3 : Int32) * (2 : Int32) = (6 : Int32)) ?_
  refine g_iload X3 hx 203 (hb hby ddl_201) rfl rfl ?_
  refine g_isub X3 hx 204 (hb hby ddl_203) rfl (by decide : (6 : Int32) - (0 : Int32) = (6 : Int32)) ?_
  exact Go.retI X3 hx hret hlk (hb hby ddl_204) ⟨rfl, Fr.nil n0, e3⟩ (by decide) (by decide)
theorem ddb_180 : decode jdk_2450_method_8_code 180 = .ok (.iload 10, 2) := by decide +kernel
theorem ddb_182 : decode jdk_2450_method_8_code 182 = .ok (.iload 5, 2) := by decide +kernel
theorem ddb_184 : decode jdk_2450_method_8_code 184 = .ok (.isub, 1) := by decide +kernel
theorem ddb_185 : decode jdk_2450_method_8_code 185 = .ok (.ireturn, 1) := by decide +kernel
set_option maxRecDepth 65536 in
set_option maxHeartbeats 40000000 in
theorem rmDB_6 (l : Launch) (Z : State) (a0 : Array Value) (hw : ∀ d ∈ tables_1, d.before a0 Z = true) (d0 v0 d1 v1 d2 v2 d3 v3 d4 v4 d5 v5 d6 v6 d7 v7 : Int32) (G0 : Dig d0 v0) (nn0 : ¬ v0 < 0) (G1 : Dig d1 v1) (nn1 : ¬ v1 < 0) (G2 : Dig d2 v2) (nn2 : ¬ v2 < 0) (G3 : Dig d3 v3) (nn3 : ¬ v3 < 0) (G4 : Dig d4 v4) (nn4 : ¬ v4 < 0) (G5 : Dig d5 v5) (nn5 : ¬ v5 < 0) (G6 : Dig d6 v6) (nn6 : ¬ v6 < 0) (G7 : Dig d7 v7) (nn7 : ¬ v7 < 0) (h61 : ¬ d7 = 61) (dec tb : Addr) (SB : Sta Z Z.heap "java/util/Base64$Decoder" "fromBase64" "[I" (.ref tb)) (b : Addr) (h0 : Heap) (n0 : Nat) (O : Ext Z.heap h0) (E : Exa Z h0 dec "java/util/Base64$Decoder") (FU : Fld Z h0 dec "java/util/Base64$Decoder" "isURL" "Z" (.int 0)) (FM : Fld Z h0 dec "java/util/Base64$Decoder" "isMIME" "Z" (.int 0)) (Tb : AI Z h0 tb .int own_tab) (dst : Addr) (hnd : n0 ≤ dst) (nd1 : dec ≠ dst) (nd2 : tb ≠ dst) (nd3 : b ≠ dst) (S : AI Z h0 b .byte ([d0, d1, d2, d3, d4, d5, d6, d7] : List Int32)) (D : AI Z h0 dst .byte (List.replicate 6 0)) :
    Ctr l Z (⟨"java/util/Base64$Decoder", "decodeBlock", "([BII[BIZZ)I"⟩ : MethodName) jdk_2450_method_8_code 16 (some .int) [] ({ frames := 0, cells := 0, slots := 0, locals := 0 } : Room) #[(.ref dec), (.ref b), (.int (0 : Int32)), (.int (8 : Int32)), (.ref dst), (.int (0 : Int32)), (.int (0 : Int32)), (.int (0 : Int32))] h0 (QD Z (6 : Int32) dst ([nar .byte ((((((v0 <<< ((18 : Int32) &&& 31)) ||| (v1 <<< ((12 : Int32) &&& 31))) ||| (v2 <<< ((6 : Int32) &&& 31))) ||| v3) >>> ((16 : Int32) &&& 31)).toInt8.toInt32), nar .byte ((((((v0 <<< ((18 : Int32) &&& 31)) ||| (v1 <<< ((12 : Int32) &&& 31))) ||| (v2 <<< ((6 : Int32) &&& 31))) ||| v3) >>> ((8 : Int32) &&& 31)).toInt8.toInt32), nar .byte (((((v0 <<< ((18 : Int32) &&& 31)) ||| (v1 <<< ((12 : Int32) &&& 31))) ||| (v2 <<< ((6 : Int32) &&& 31))) ||| v3).toInt8.toInt32), nar .byte ((((((v4 <<< ((18 : Int32) &&& 31)) ||| (v5 <<< ((12 : Int32) &&& 31))) ||| (v6 <<< ((6 : Int32) &&& 31))) ||| v7) >>> ((16 : Int32) &&& 31)).toInt8.toInt32), nar .byte ((((((v4 <<< ((18 : Int32) &&& 31)) ||| (v5 <<< ((12 : Int32) &&& 31))) ||| (v6 <<< ((6 : Int32) &&& 31))) ||| v7) >>> ((8 : Int32) &&& 31)).toInt8.toInt32), nar .byte (((((v4 <<< ((18 : Int32) &&& 31)) ||| (v5 <<< ((12 : Int32) &&& 31))) ||| (v6 <<< ((6 : Int32) &&& 31))) ||| v7).toInt8.toInt32)] : List Int32) h0 n0) := by
  refine Ctr.of (plainFor_of_name pn_31) ?_
  intro p e s m below meth c s₁ hx hby hml hown hnm hret hlk hZ X0 e0
  refine Go.cast (ef_36 m dec b (0 : Int32) (8 : Int32) dst (0 : Int32) (0 : Int32) (0 : Int32)) ?_
  show Go p e below _ s₁ (mkF m 0 #[sR dec, sR b, sI 0, sI 8, sR dst, sI 0, sI 0, sI 0, .unset, .unset, .unset, .unset, .unset, .unset, .unset, .unset] [])
  obtain ⟨i0, hi0, ht0⟩ := id G0
  obtain ⟨i1, hi1, ht1⟩ := id G1
  obtain ⟨i2, hi2, ht2⟩ := id G2
  obtain ⟨i3, hi3, ht3⟩ := id G3
  obtain ⟨i4, hi4, ht4⟩ := id G4
  obtain ⟨i5, hi5, ht5⟩ := id G5
  obtain ⟨i6, hi6, ht6⟩ := id G6
  obtain ⟨i7, hi7, ht7⟩ := id G7
  refine g_iload X0 hx 2 (hb hby ddb_0) rfl rfl ?_
  refine g_ifY X0 hx 11 (hb hby ddb_2) (by decide) (XT.i0_eq_t (by decide)) ?_
  refine g_getS X0 hx hZ hown (hW hw 119 rfl) e0 (SB.ext O) 14 (hb hby ddb_11) rfl ?_
  rintro T1 X1 e1
  refine g_astore X1 hx #[sR dec, sR b, sI 0, sI 8, sR dst, sI 0, sI 0, sI 0, sR tb, .unset, .unset, .unset, .unset, .unset, .unset, .unset] 16 (hb hby ddb_14) rfl rfl ?_
  refine g_iloadN X1 hx 17 (hb hby ddb_16) rfl rfl ?_
  refine g_iloadN X1 hx 18 (hb hby ddb_17) rfl rfl ?_
  refine g_iloadN X1 hx 19 (hb hby ddb_18) rfl rfl ?_
  refine g_isub X1 hx 20 (hb hby ddb_19) rfl (by decide : (8 : Int32) - (0 : Int32) = (8 : Int32)) ?_
  refine g_bipush X1 hx 22 (hb hby ddb_20) rfl kb_m4 ?_
  refine g_iand X1 hx 23 (hb hby ddb_22) rfl (by decide : (8 : Int32) &&& (-4 : Int32) = (8 : Int32)) ?_
  refine g_iadd X1 hx 24 (hb hby ddb_23) rfl (by decide : (0 : Int32) + (8 : Int32) = (8 : Int32)) ?_
  refine g_istore X1 hx #[sR dec, sR b, sI 0, sI 8, sR dst, sI 0, sI 0, sI 0, sR tb, sI 8, .unset, .unset, .unset, .unset, .unset, .unset] 26 (hb hby ddb_24) rfl rfl ?_
  refine g_iload X1 hx 28 (hb hby ddb_26) rfl rfl ?_
  refine g_istore X1 hx #[sR dec, sR b, sI 0, sI 8, sR dst, sI 0, sI 0, sI 0, sR tb, sI 8, sI 0, .unset, .unset, .unset, .unset, .unset] 30 (hb hby ddb_28) rfl rfl ?_
  refine g_iloadN X1 hx 31 (hb hby ddb_30) rfl rfl ?_
  refine g_iload X1 hx 33 (hb hby ddb_31) rfl rfl ?_
  refine g_icN X1 hx 36 (hb hby ddb_33) rfl (XT.ii_ge_f (by decide)) ?_
  refine g_aload X1 hx 38 (hb hby ddb_36) rfl rfl ?_
  refine g_aloadN X1 hx 39 (hb hby ddb_38) rfl rfl ?_
  refine g_iloadN X1 hx 40 (hb hby ddb_39) rfl rfl ?_
  refine g_iinc X1 hx #[sR dec, sR b, sI 1, sI 8, sR dst, sI 0, sI 0, sI 0, sR tb, sI 8, sI 0, .unset, .unset, .unset, .unset, .unset] 43 (hb hby ddb_40) rfl rfl (by decide : (0 : Int32) + Int32.ofInt 1 = (1 : Int32)) rfl ?_
  refine g_baload X1 hx hZ e1 S 0 (x := d0) rfl rfl 44 (hb hby ddb_43) rfl ?_
  refine g_sipush X1 hx 47 (hb hby ddb_44) rfl ks_255 ?_
  refine g_iand X1 hx 48 (hb hby ddb_47) rfl rfl ?_
  refine g_iaload X1 hx hZ e1 Tb i0 (x := v0) hi0 ht0 49 (hb hby ddb_48) rfl ?_
  refine g_istore X1 hx #[sR dec, sR b, sI 1, sI 8, sR dst, sI 0, sI 0, sI 0, sR tb, sI 8, sI 0, sI v0, .unset, .unset, .unset, .unset] 51 (hb hby ddb_49) rfl rfl ?_
  refine g_aload X1 hx 53 (hb hby ddb_51) rfl rfl ?_
  refine g_aloadN X1 hx 54 (hb hby ddb_53) rfl rfl ?_
  refine g_iloadN X1 hx 55 (hb hby ddb_54) rfl rfl ?_
  refine g_iinc X1 hx #[sR dec, sR b, sI 2, sI 8, sR dst, sI 0, sI 0, sI 0, sR tb, sI 8, sI 0, sI v0, .unset, .unset, .unset, .unset] 58 (hb hby ddb_55) rfl rfl (by decide : (1 : Int32) + Int32.ofInt 1 = (2 : Int32)) rfl ?_
  refine g_baload X1 hx hZ e1 S 1 (x := d1) rfl rfl 59 (hb hby ddb_58) rfl ?_
  refine g_sipush X1 hx 62 (hb hby ddb_59) rfl ks_255 ?_
  refine g_iand X1 hx 63 (hb hby ddb_62) rfl rfl ?_
  refine g_iaload X1 hx hZ e1 Tb i1 (x := v1) hi1 ht1 64 (hb hby ddb_63) rfl ?_
  refine g_istore X1 hx #[sR dec, sR b, sI 2, sI 8, sR dst, sI 0, sI 0, sI 0, sR tb, sI 8, sI 0, sI v0, sI v1, .unset, .unset, .unset] 66 (hb hby ddb_64) rfl rfl ?_
  refine g_aload X1 hx 68 (hb hby ddb_66) rfl rfl ?_
  refine g_aloadN X1 hx 69 (hb hby ddb_68) rfl rfl ?_
  refine g_iloadN X1 hx 70 (hb hby ddb_69) rfl rfl ?_
  refine g_iinc X1 hx #[sR dec, sR b, sI 3, sI 8, sR dst, sI 0, sI 0, sI 0, sR tb, sI 8, sI 0, sI v0, sI v1, .unset, .unset, .unset] 73 (hb hby ddb_70) rfl rfl (by decide : (2 : Int32) + Int32.ofInt 1 = (3 : Int32)) rfl ?_
  refine g_baload X1 hx hZ e1 S 2 (x := d2) rfl rfl 74 (hb hby ddb_73) rfl ?_
  refine g_sipush X1 hx 77 (hb hby ddb_74) rfl ks_255 ?_
  refine g_iand X1 hx 78 (hb hby ddb_77) rfl rfl ?_
  refine g_iaload X1 hx hZ e1 Tb i2 (x := v2) hi2 ht2 79 (hb hby ddb_78) rfl ?_
  refine g_istore X1 hx #[sR dec, sR b, sI 3, sI 8, sR dst, sI 0, sI 0, sI 0, sR tb, sI 8, sI 0, sI v0, sI v1, sI v2, .unset, .unset] 81 (hb hby ddb_79) rfl rfl ?_
  refine g_aload X1 hx 83 (hb hby ddb_81) rfl rfl ?_
  refine g_aloadN X1 hx 84 (hb hby ddb_83) rfl rfl ?_
  refine g_iloadN X1 hx 85 (hb hby ddb_84) rfl rfl ?_
  refine g_iinc X1 hx #[sR dec, sR b, sI 4, sI 8, sR dst, sI 0, sI 0, sI 0, sR tb, sI 8, sI 0, sI v0, sI v1, sI v2, .unset, .unset] 88 (hb hby ddb_85) rfl rfl (by decide : (3 : Int32) + Int32.ofInt 1 = (4 : Int32)) rfl ?_
  refine g_baload X1 hx hZ e1 S 3 (x := d3) rfl rfl 89 (hb hby ddb_88) rfl ?_
  refine g_sipush X1 hx 92 (hb hby ddb_89) rfl ks_255 ?_
  refine g_iand X1 hx 93 (hb hby ddb_92) rfl rfl ?_
  refine g_iaload X1 hx hZ e1 Tb i3 (x := v3) hi3 ht3 94 (hb hby ddb_93) rfl ?_
  refine g_istore X1 hx #[sR dec, sR b, sI 4, sI 8, sR dst, sI 0, sI 0, sI 0, sR tb, sI 8, sI 0, sI v0, sI v1, sI v2, sI v3, .unset] 96 (hb hby ddb_94) rfl rfl ?_
  refine g_iload X1 hx 98 (hb hby ddb_96) rfl rfl ?_
  refine g_iload X1 hx 100 (hb hby ddb_98) rfl rfl ?_
  refine g_ior X1 hx 101 (hb hby ddb_100) rfl rfl ?_
  refine g_iload X1 hx 103 (hb hby ddb_101) rfl rfl ?_
  refine g_ior X1 hx 104 (hb hby ddb_103) rfl rfl ?_
  refine g_iload X1 hx 106 (hb hby ddb_104) rfl rfl ?_
  refine g_ior X1 hx 107 (hb hby ddb_106) rfl rfl ?_
  refine g_ifY X1 hx 116 (hb hby ddb_107) (by decide) (XT.i0_ge_t (by simp only [own_or_neg, nn0, nn1, nn2, nn3, or_self, not_false_eq_true])) ?_
  refine g_iload X1 hx 118 (hb hby ddb_116) rfl rfl ?_
  refine g_bipush X1 hx 120 (hb hby ddb_118) rfl kb_18 ?_
  refine g_ishl X1 hx 121 (hb hby ddb_120) rfl rfl ?_
  refine g_iload X1 hx 123 (hb hby ddb_121) rfl rfl ?_
  refine g_bipush X1 hx 125 (hb hby ddb_123) rfl kb_12 ?_
  refine g_ishl X1 hx 126 (hb hby ddb_125) rfl rfl ?_
  refine g_ior X1 hx 127 (hb hby ddb_126) rfl rfl ?_
  refine g_iload X1 hx 129 (hb hby ddb_127) rfl rfl ?_
  refine g_bipush X1 hx 131 (hb hby ddb_129) rfl kb_6 ?_
  refine g_ishl X1 hx 132 (hb hby ddb_131) rfl rfl ?_
  refine g_ior X1 hx 133 (hb hby ddb_132) rfl rfl ?_
  refine g_iload X1 hx 135 (hb hby ddb_133) rfl rfl ?_
  refine g_ior X1 hx 136 (hb hby ddb_135) rfl rfl ?_
  refine g_istore X1 hx #[sR dec, sR b, sI 4, sI 8, sR dst, sI 0, sI 0, sI 0, sR tb, sI 8, sI 0, sI v0, sI v1, sI v2, sI v3, (sI ((((v0 <<< ((18 : Int32) &&& 31)) ||| (v1 <<< ((12 : Int32) &&& 31))) ||| (v2 <<< ((6 : Int32) &&& 31))) ||| v3))] 138 (hb hby ddb_136) rfl rfl ?_
  refine g_aload X1 hx 140 (hb hby ddb_138) rfl rfl ?_
  refine g_iload X1 hx 142 (hb hby ddb_140) rfl rfl ?_
  refine g_iinc X1 hx #[sR dec, sR b, sI 4, sI 8, sR dst, sI 0, sI 0, sI 0, sR tb, sI 8, sI 1, sI v0, sI v1, sI v2, sI v3, (sI ((((v0 <<< ((18 : Int32) &&& 31)) ||| (v1 <<< ((12 : Int32) &&& 31))) ||| (v2 <<< ((6 : Int32) &&& 31))) ||| v3))] 145 (hb hby ddb_142) rfl rfl (by decide : (0 : Int32) + Int32.ofInt 1 = (1 : Int32)) rfl ?_
  refine g_iload X1 hx 147 (hb hby ddb_145) rfl rfl ?_
  refine g_bipush X1 hx 149 (hb hby ddb_147) rfl kb_16 ?_
  refine g_ishr X1 hx 150 (hb hby ddb_149) rfl rfl ?_
  refine g_i2b X1 hx 151 (hb hby ddb_150) rfl ?_
  refine g_bastore X1 hx hZ e1 D 0 rfl (by simp) 152 (hb hby ddb_151) rfl ?_
  rintro T2 h2 X2 e2 W2 A2
  have sW2 := W2.size
  have S2 := S.other W2 nd3
  have Tb2 := Tb.other W2 nd2
  have K2 := (Keep.refl h0 [dst]).wr W2 (Or.inl (List.mem_cons_self ..))
  have N2 := Fr.snoc X2 (Fr.nil n0) hnd
  refine g_aload X2 hx 154 (hb hby ddb_152) rfl rfl ?_
  refine g_iload X2 hx 156 (hb hby ddb_154) rfl rfl ?_
  refine g_iinc X2 hx #[sR dec, sR b, sI 4, sI 8, sR dst, sI 0, sI 0, sI 0, sR tb, sI 8, sI 2, sI v0, sI v1, sI v2, sI v3, (sI ((((v0 <<< ((18 : Int32) &&& 31)) ||| (v1 <<< ((12 : Int32) &&& 31))) ||| (v2 <<< ((6 : Int32) &&& 31))) ||| v3))] 159 (hb hby ddb_156) rfl rfl (by decide : (1 : Int32) + Int32.ofInt 1 = (2 : Int32)) rfl ?_
  refine g_iload X2 hx 161 (hb hby ddb_159) rfl rfl ?_
  refine g_bipush X2 hx 163 (hb hby ddb_161) rfl kb_8 ?_
  refine g_ishr X2 hx 164 (hb hby ddb_163) rfl rfl ?_
  refine g_i2b X2 hx 165 (hb hby ddb_164) rfl ?_
  refine g_bastore X2 hx hZ e2 A2 1 rfl (by simp) 166 (hb hby ddb_165) rfl ?_
  rintro T3 h3 X3 e3 W3 A3
  have sW3 := W3.size
  have S3 := S2.other W3 nd3
  have Tb3 := Tb2.other W3 nd2
  have K3 := K2.wr W3 (Or.inl (List.mem_cons_self ..))
  have N3 := Fr.snoc X3 N2 hnd
  refine g_aload X3 hx 168 (hb hby ddb_166) rfl rfl ?_
  refine g_iload X3 hx 170 (hb hby ddb_168) rfl rfl ?_
  refine g_iinc X3 hx #[sR dec, sR b, sI 4, sI 8, sR dst, sI 0, sI 0, sI 0, sR tb, sI 8, sI 3, sI v0, sI v1, sI v2, sI v3, (sI ((((v0 <<< ((18 : Int32) &&& 31)) ||| (v1 <<< ((12 : Int32) &&& 31))) ||| (v2 <<< ((6 : Int32) &&& 31))) ||| v3))] 173 (hb hby ddb_170) rfl rfl (by decide : (2 : Int32) + Int32.ofInt 1 = (3 : Int32)) rfl ?_
  refine g_iload X3 hx 175 (hb hby ddb_173) rfl rfl ?_
  refine g_i2b X3 hx 176 (hb hby ddb_175) rfl ?_
  refine g_bastore X3 hx hZ e3 A3 2 rfl (by simp) 177 (hb hby ddb_176) rfl ?_
  rintro T4 h4 X4 e4 W4 A4
  have sW4 := W4.size
  have S4 := S3.other W4 nd3
  have Tb4 := Tb3.other W4 nd2
  have K4 := K3.wr W4 (Or.inl (List.mem_cons_self ..))
  have N4 := Fr.snoc X4 N3 hnd
  refine g_goto X4 hx 30 (hb hby ddb_177) (by decide) ?_
  refine g_iloadN X4 hx 31 (hb hby ddb_30) rfl rfl ?_
  refine g_iload X4 hx 33 (hb hby ddb_31) rfl rfl ?_
  refine g_icN X4 hx 36 (hb hby ddb_33) rfl (XT.ii_ge_f (by decide)) ?_
  refine g_aload X4 hx 38 (hb hby ddb_36) rfl rfl ?_
  refine g_aloadN X4 hx 39 (hb hby ddb_38) rfl rfl ?_
  refine g_iloadN X4 hx 40 (hb hby ddb_39) rfl rfl ?_
  refine g_iinc X4 hx #[sR dec, sR b, sI 5, sI 8, sR dst, sI 0, sI 0, sI 0, sR tb, sI 8, sI 3, sI v0, sI v1, sI v2, sI v3, (sI ((((v0 <<< ((18 : Int32) &&& 31)) ||| (v1 <<< ((12 : Int32) &&& 31))) ||| (v2 <<< ((6 : Int32) &&& 31))) ||| v3))] 43 (hb hby ddb_40) rfl rfl (by decide : (4 : Int32) + Int32.ofInt 1 = (5 : Int32)) rfl ?_
  refine g_baload X4 hx hZ e4 S4 4 (x := d4) rfl rfl 44 (hb hby ddb_43) rfl ?_
  refine g_sipush X4 hx 47 (hb hby ddb_44) rfl ks_255 ?_
  refine g_iand X4 hx 48 (hb hby ddb_47) rfl rfl ?_
  refine g_iaload X4 hx hZ e4 Tb4 i4 (x := v4) hi4 ht4 49 (hb hby ddb_48) rfl ?_
  refine g_istore X4 hx #[sR dec, sR b, sI 5, sI 8, sR dst, sI 0, sI 0, sI 0, sR tb, sI 8, sI 3, sI v4, sI v1, sI v2, sI v3, (sI ((((v0 <<< ((18 : Int32) &&& 31)) ||| (v1 <<< ((12 : Int32) &&& 31))) ||| (v2 <<< ((6 : Int32) &&& 31))) ||| v3))] 51 (hb hby ddb_49) rfl rfl ?_
  refine g_aload X4 hx 53 (hb hby ddb_51) rfl rfl ?_
  refine g_aloadN X4 hx 54 (hb hby ddb_53) rfl rfl ?_
  refine g_iloadN X4 hx 55 (hb hby ddb_54) rfl rfl ?_
  refine g_iinc X4 hx #[sR dec, sR b, sI 6, sI 8, sR dst, sI 0, sI 0, sI 0, sR tb, sI 8, sI 3, sI v4, sI v1, sI v2, sI v3, (sI ((((v0 <<< ((18 : Int32) &&& 31)) ||| (v1 <<< ((12 : Int32) &&& 31))) ||| (v2 <<< ((6 : Int32) &&& 31))) ||| v3))] 58 (hb hby ddb_55) rfl rfl (by decide : (5 : Int32) + Int32.ofInt 1 = (6 : Int32)) rfl ?_
  refine g_baload X4 hx hZ e4 S4 5 (x := d5) rfl rfl 59 (hb hby ddb_58) rfl ?_
  refine g_sipush X4 hx 62 (hb hby ddb_59) rfl ks_255 ?_
  refine g_iand X4 hx 63 (hb hby ddb_62) rfl rfl ?_
  refine g_iaload X4 hx hZ e4 Tb4 i5 (x := v5) hi5 ht5 64 (hb hby ddb_63) rfl ?_
  refine g_istore X4 hx #[sR dec, sR b, sI 6, sI 8, sR dst, sI 0, sI 0, sI 0, sR tb, sI 8, sI 3, sI v4, sI v5, sI v2, sI v3, (sI ((((v0 <<< ((18 : Int32) &&& 31)) ||| (v1 <<< ((12 : Int32) &&& 31))) ||| (v2 <<< ((6 : Int32) &&& 31))) ||| v3))] 66 (hb hby ddb_64) rfl rfl ?_
  refine g_aload X4 hx 68 (hb hby ddb_66) rfl rfl ?_
  refine g_aloadN X4 hx 69 (hb hby ddb_68) rfl rfl ?_
  refine g_iloadN X4 hx 70 (hb hby ddb_69) rfl rfl ?_
  refine g_iinc X4 hx #[sR dec, sR b, sI 7, sI 8, sR dst, sI 0, sI 0, sI 0, sR tb, sI 8, sI 3, sI v4, sI v5, sI v2, sI v3, (sI ((((v0 <<< ((18 : Int32) &&& 31)) ||| (v1 <<< ((12 : Int32) &&& 31))) ||| (v2 <<< ((6 : Int32) &&& 31))) ||| v3))] 73 (hb hby ddb_70) rfl rfl (by decide : (6 : Int32) + Int32.ofInt 1 = (7 : Int32)) rfl ?_
  refine g_baload X4 hx hZ e4 S4 6 (x := d6) rfl rfl 74 (hb hby ddb_73) rfl ?_
  refine g_sipush X4 hx 77 (hb hby ddb_74) rfl ks_255 ?_
  refine g_iand X4 hx 78 (hb hby ddb_77) rfl rfl ?_
  refine g_iaload X4 hx hZ e4 Tb4 i6 (x := v6) hi6 ht6 79 (hb hby ddb_78) rfl ?_
  refine g_istore X4 hx #[sR dec, sR b, sI 7, sI 8, sR dst, sI 0, sI 0, sI 0, sR tb, sI 8, sI 3, sI v4, sI v5, sI v6, sI v3, (sI ((((v0 <<< ((18 : Int32) &&& 31)) ||| (v1 <<< ((12 : Int32) &&& 31))) ||| (v2 <<< ((6 : Int32) &&& 31))) ||| v3))] 81 (hb hby ddb_79) rfl rfl ?_
  refine g_aload X4 hx 83 (hb hby ddb_81) rfl rfl ?_
  refine g_aloadN X4 hx 84 (hb hby ddb_83) rfl rfl ?_
  refine g_iloadN X4 hx 85 (hb hby ddb_84) rfl rfl ?_
  refine g_iinc X4 hx #[sR dec, sR b, sI 8, sI 8, sR dst, sI 0, sI 0, sI 0, sR tb, sI 8, sI 3, sI v4, sI v5, sI v6, sI v3, (sI ((((v0 <<< ((18 : Int32) &&& 31)) ||| (v1 <<< ((12 : Int32) &&& 31))) ||| (v2 <<< ((6 : Int32) &&& 31))) ||| v3))] 88 (hb hby ddb_85) rfl rfl (by decide : (7 : Int32) + Int32.ofInt 1 = (8 : Int32)) rfl ?_
  refine g_baload X4 hx hZ e4 S4 7 (x := d7) rfl rfl 89 (hb hby ddb_88) rfl ?_
  refine g_sipush X4 hx 92 (hb hby ddb_89) rfl ks_255 ?_
  refine g_iand X4 hx 93 (hb hby ddb_92) rfl rfl ?_
  refine g_iaload X4 hx hZ e4 Tb4 i7 (x := v7) hi7 ht7 94 (hb hby ddb_93) rfl ?_
  refine g_istore X4 hx #[sR dec, sR b, sI 8, sI 8, sR dst, sI 0, sI 0, sI 0, sR tb, sI 8, sI 3, sI v4, sI v5, sI v6, sI v7, (sI ((((v0 <<< ((18 : Int32) &&& 31)) ||| (v1 <<< ((12 : Int32) &&& 31))) ||| (v2 <<< ((6 : Int32) &&& 31))) ||| v3))] 96 (hb hby ddb_94) rfl rfl ?_
  refine g_iload X4 hx 98 (hb hby ddb_96) rfl rfl ?_
  refine g_iload X4 hx 100 (hb hby ddb_98) rfl rfl ?_
  refine g_ior X4 hx 101 (hb hby ddb_100) rfl rfl ?_
  refine g_iload X4 hx 103 (hb hby ddb_101) rfl rfl ?_
  refine g_ior X4 hx 104 (hb hby ddb_103) rfl rfl ?_
  refine g_iload X4 hx 106 (hb hby ddb_104) rfl rfl ?_
  refine g_ior X4 hx 107 (hb hby ddb_106) rfl rfl ?_
  refine g_ifY X4 hx 116 (hb hby ddb_107) (by decide) (XT.i0_ge_t (by simp only [own_or_neg, nn4, nn5, nn6, nn7, or_self, not_false_eq_true])) ?_
  refine g_iload X4 hx 118 (hb hby ddb_116) rfl rfl ?_
  refine g_bipush X4 hx 120 (hb hby ddb_118) rfl kb_18 ?_
  refine g_ishl X4 hx 121 (hb hby ddb_120) rfl rfl ?_
  refine g_iload X4 hx 123 (hb hby ddb_121) rfl rfl ?_
  refine g_bipush X4 hx 125 (hb hby ddb_123) rfl kb_12 ?_
  refine g_ishl X4 hx 126 (hb hby ddb_125) rfl rfl ?_
  refine g_ior X4 hx 127 (hb hby ddb_126) rfl rfl ?_
  refine g_iload X4 hx 129 (hb hby ddb_127) rfl rfl ?_
  refine g_bipush X4 hx 131 (hb hby ddb_129) rfl kb_6 ?_
  refine g_ishl X4 hx 132 (hb hby ddb_131) rfl rfl ?_
  refine g_ior X4 hx 133 (hb hby ddb_132) rfl rfl ?_
  refine g_iload X4 hx 135 (hb hby ddb_133) rfl rfl ?_
  refine g_ior X4 hx 136 (hb hby ddb_135) rfl rfl ?_
  refine g_istore X4 hx #[sR dec, sR b, sI 8, sI 8, sR dst, sI 0, sI 0, sI 0, sR tb, sI 8, sI 3, sI v4, sI v5, sI v6, sI v7, (sI ((((v4 <<< ((18 : Int32) &&& 31)) ||| (v5 <<< ((12 : Int32) &&& 31))) ||| (v6 <<< ((6 : Int32) &&& 31))) ||| v7))] 138 (hb hby ddb_136) rfl rfl ?_
  refine g_aload X4 hx 140 (hb hby ddb_138) rfl rfl ?_
  refine g_iload X4 hx 142 (hb hby ddb_140) rfl rfl ?_
  refine g_iinc X4 hx #[sR dec, sR b, sI 8, sI 8, sR dst, sI 0, sI 0, sI 0, sR tb, sI 8, sI 4, sI v4, sI v5, sI v6, sI v7, (sI ((((v4 <<< ((18 : Int32) &&& 31)) ||| (v5 <<< ((12 : Int32) &&& 31))) ||| (v6 <<< ((6 : Int32) &&& 31))) ||| v7))] 145 (hb hby ddb_142) rfl rfl (by decide : (3 : Int32) + Int32.ofInt 1 = (4 : Int32)) rfl ?_
  refine g_iload X4 hx 147 (hb hby ddb_145) rfl rfl ?_
  refine g_bipush X4 hx 149 (hb hby ddb_147) rfl kb_16 ?_
  refine g_ishr X4 hx 150 (hb hby ddb_149) rfl rfl ?_
  refine g_i2b X4 hx 151 (hb hby ddb_150) rfl ?_
  refine g_bastore X4 hx hZ e4 A4 3 rfl (by simp) 152 (hb hby ddb_151) rfl ?_
  rintro T5 h5 X5 e5 W5 A5
  have sW5 := W5.size
  have S5 := S4.other W5 nd3
  have Tb5 := Tb4.other W5 nd2
  have K5 := K4.wr W5 (Or.inl (List.mem_cons_self ..))
  have N5 := Fr.snoc X5 N4 hnd
  refine g_aload X5 hx 154 (hb hby ddb_152) rfl rfl ?_
  refine g_iload X5 hx 156 (hb hby ddb_154) rfl rfl ?_
  refine g_iinc X5 hx #[sR dec, sR b, sI 8, sI 8, sR dst, sI 0, sI 0, sI 0, sR tb, sI 8, sI 5, sI v4, sI v5, sI v6, sI v7, (sI ((((v4 <<< ((18 : Int32) &&& 31)) ||| (v5 <<< ((12 : Int32) &&& 31))) ||| (v6 <<< ((6 : Int32) &&& 31))) ||| v7))] 159 (hb hby ddb_156) rfl rfl (by decide : (4 : Int32) + Int32.ofInt 1 = (5 : Int32)) rfl ?_
  refine g_iload X5 hx 161 (hb hby ddb_159) rfl rfl ?_
  refine g_bipush X5 hx 163 (hb hby ddb_161) rfl kb_8 ?_
  refine g_ishr X5 hx 164 (hb hby ddb_163) rfl rfl ?_
  refine g_i2b X5 hx 165 (hb hby ddb_164) rfl ?_
  refine g_bastore X5 hx hZ e5 A5 4 rfl (by simp) 166 (hb hby ddb_165) rfl ?_
  rintro T6 h6 X6 e6 W6 A6
  have sW6 := W6.size
  have S6 := S5.other W6 nd3
  have Tb6 := Tb5.other W6 nd2
  have K6 := K5.wr W6 (Or.inl (List.mem_cons_self ..))
  have N6 := Fr.snoc X6 N5 hnd
  refine g_aload X6 hx 168 (hb hby ddb_166) rfl rfl ?_
  refine g_iload X6 hx 170 (hb hby ddb_168) rfl rfl ?_
  refine g_iinc X6 hx #[sR dec, sR b, sI 8, sI 8, sR dst, sI 0, sI 0, sI 0, sR tb, sI 8, sI 6, sI v4, sI v5, sI v6, sI v7, (sI ((((v4 <<< ((18 : Int32) &&& 31)) ||| (v5 <<< ((12 : Int32) &&& 31))) ||| (v6 <<< ((6 : Int32) &&& 31))) ||| v7))] 173 (hb hby ddb_170) rfl rfl (by decide : (5 : Int32) + Int32.ofInt 1 = (6 : Int32)) rfl ?_
  refine g_iload X6 hx 175 (hb hby ddb_173) rfl rfl ?_
  refine g_i2b X6 hx 176 (hb hby ddb_175) rfl ?_
  refine g_bastore X6 hx hZ e6 A6 5 rfl (by simp) 177 (hb hby ddb_176) rfl ?_
  rintro T7 h7 X7 e7 W7 A7
  have sW7 := W7.size
  have S7 := S6.other W7 nd3
  have Tb7 := Tb6.other W7 nd2
  have K7 := K6.wr W7 (Or.inl (List.mem_cons_self ..))
  have N7 := Fr.snoc X7 N6 hnd
  refine g_goto X7 hx 30 (hb hby ddb_177) (by decide) ?_
  refine g_iloadN X7 hx 31 (hb hby ddb_30) rfl rfl ?_
  refine g_iload X7 hx 33 (hb hby ddb_31) rfl rfl ?_
  refine g_icY X7 hx 180 (hb hby ddb_33) (by decide) (XT.ii_ge_t (by decide)) ?_
  refine g_iload X7 hx 182 (hb hby ddb_180) rfl rfl ?_
  refine g_iload X7 hx 184 (hb hby ddb_182) rfl rfl ?_
  refine g_isub X7 hx 185 (hb hby ddb_184) rfl (by decide : (6 : Int32) - (0 : Int32) = (6 : Int32)) ?_
  have Ad : AI Z h7 dst .byte ([nar .byte ((((((v0 <<< ((18 : Int32) &&& 31)) ||| (v1 <<< ((12 : Int32) &&& 31))) ||| (v2 <<< ((6 : Int32) &&& 31))) ||| v3) >>> ((16 : Int32) &&& 31)).toInt8.toInt32), nar .byte ((((((v0 <<< ((18 : Int32) &&& 31)) ||| (v1 <<< ((12 : Int32) &&& 31))) ||| (v2 <<< ((6 : Int32) &&& 31))) ||| v3) >>> ((8 : Int32) &&& 31)).toInt8.toInt32), nar .byte (((((v0 <<< ((18 : Int32) &&& 31)) ||| (v1 <<< ((12 : Int32) &&& 31))) ||| (v2 <<< ((6 : Int32) &&& 31))) ||| v3).toInt8.toInt32), nar .byte ((((((v4 <<< ((18 : Int32) &&& 31)) ||| (v5 <<< ((12 : Int32) &&& 31))) ||| (v6 <<< ((6 : Int32) &&& 31))) ||| v7) >>> ((16 : Int32) &&& 31)).toInt8.toInt32), nar .byte ((((((v4 <<< ((18 : Int32) &&& 31)) ||| (v5 <<< ((12 : Int32) &&& 31))) ||| (v6 <<< ((6 : Int32) &&& 31))) ||| v7) >>> ((8 : Int32) &&& 31)).toInt8.toInt32), nar .byte (((((v4 <<< ((18 : Int32) &&& 31)) ||| (v5 <<< ((12 : Int32) &&& 31))) ||| (v6 <<< ((6 : Int32) &&& 31))) ||| v7).toInt8.toInt32)] : List Int32) := A7
  exact Go.retI X7 hx hret hlk (hb hby ddb_185) ⟨rfl, N7, e7 ▸ K7, e7 ▸ Ad⟩ (by decide) (by decide)
theorem dd0_95 : decode jdk_2450_method_9_code 95 = .ok (.goto 186, 3) := by decide +kernel
set_option maxRecDepth 65536 in
set_option maxHeartbeats 40000000 in
theorem rmD0_6 (l : Launch) (Z : State) (a0 : Array Value) (hw : ∀ d ∈ tables_1, d.before a0 Z = true) (d0 v0 d1 v1 d2 v2 d3 v3 d4 v4 d5 v5 d6 v6 d7 v7 : Int32) (G0 : Dig d0 v0) (nn0 : ¬ v0 < 0) (G1 : Dig d1 v1) (nn1 : ¬ v1 < 0) (G2 : Dig d2 v2) (nn2 : ¬ v2 < 0) (G3 : Dig d3 v3) (nn3 : ¬ v3 < 0) (G4 : Dig d4 v4) (nn4 : ¬ v4 < 0) (G5 : Dig d5 v5) (nn5 : ¬ v5 < 0) (G6 : Dig d6 v6) (nn6 : ¬ v6 < 0) (G7 : Dig d7 v7) (nn7 : ¬ v7 < 0) (h61 : ¬ d7 = 61) (dec tb : Addr) (SB : Sta Z Z.heap "java/util/Base64$Decoder" "fromBase64" "[I" (.ref tb)) (b : Addr) (h0 : Heap) (n0 : Nat) (O : Ext Z.heap h0) (E : Exa Z h0 dec "java/util/Base64$Decoder") (FU : Fld Z h0 dec "java/util/Base64$Decoder" "isURL" "Z" (.int 0)) (FM : Fld Z h0 dec "java/util/Base64$Decoder" "isMIME" "Z" (.int 0)) (Tb : AI Z h0 tb .int own_tab) (dst : Addr) (hnd : n0 ≤ dst) (nd1 : dec ≠ dst) (nd2 : tb ≠ dst) (nd3 : b ≠ dst) (S : AI Z h0 b .byte ([d0, d1, d2, d3, d4, d5, d6, d7] : List Int32)) (D : AI Z h0 dst .byte (List.replicate 6 0)) :
    Ctr l Z (⟨"java/util/Base64$Decoder", "decode0", "([BII[B)I"⟩ : MethodName) jdk_2450_method_9_code 11 (some .int) [] ({ frames := 1, cells := 0, slots := 0, locals := 27 } : Room) #[(.ref dec), (.ref b), (.int (0 : Int32)), (.int (8 : Int32)), (.ref dst)] h0 (QD Z (6 : Int32) dst ([nar .byte ((((((v0 <<< ((18 : Int32) &&& 31)) ||| (v1 <<< ((12 : Int32) &&& 31))) ||| (v2 <<< ((6 : Int32) &&& 31))) ||| v3) >>> ((16 : Int32) &&& 31)).toInt8.toInt32), nar .byte ((((((v0 <<< ((18 : Int32) &&& 31)) ||| (v1 <<< ((12 : Int32) &&& 31))) ||| (v2 <<< ((6 : Int32) &&& 31))) ||| v3) >>> ((8 : Int32) &&& 31)).toInt8.toInt32), nar .byte (((((v0 <<< ((18 : Int32) &&& 31)) ||| (v1 <<< ((12 : Int32) &&& 31))) ||| (v2 <<< ((6 : Int32) &&& 31))) ||| v3).toInt8.toInt32), nar .byte ((((((v4 <<< ((18 : Int32) &&& 31)) ||| (v5 <<< ((12 : Int32) &&& 31))) ||| (v6 <<< ((6 : Int32) &&& 31))) ||| v7) >>> ((16 : Int32) &&& 31)).toInt8.toInt32), nar .byte ((((((v4 <<< ((18 : Int32) &&& 31)) ||| (v5 <<< ((12 : Int32) &&& 31))) ||| (v6 <<< ((6 : Int32) &&& 31))) ||| v7) >>> ((8 : Int32) &&& 31)).toInt8.toInt32), nar .byte (((((v4 <<< ((18 : Int32) &&& 31)) ||| (v5 <<< ((12 : Int32) &&& 31))) ||| (v6 <<< ((6 : Int32) &&& 31))) ||| v7).toInt8.toInt32)] : List Int32) h0 n0) := by
  refine Ctr.of (plainFor_of_name pn_31) ?_
  intro p e s m below meth c s₁ hx hby hml hown hnm hret hlk hZ X0 e0
  refine Go.cast (ef_32 m dec b (0 : Int32) (8 : Int32) dst) ?_
  show Go p e below _ s₁ (mkF m 0 #[sR dec, sR b, sI 0, sI 8, sR dst, .unset, .unset, .unset, .unset, .unset, .unset] [])
  obtain ⟨i0, hi0, ht0⟩ := id G0
  obtain ⟨i1, hi1, ht1⟩ := id G1
  obtain ⟨i2, hi2, ht2⟩ := id G2
  obtain ⟨i3, hi3, ht3⟩ := id G3
  obtain ⟨i4, hi4, ht4⟩ := id G4
  obtain ⟨i5, hi5, ht5⟩ := id G5
  obtain ⟨i6, hi6, ht6⟩ := id G6
  obtain ⟨i7, hi7, ht7⟩ := id G7
  refine g_aloadN X0 hx 1 (hb hby dd0_0) rfl rfl ?_
  refine g_getF X0 hx hZ hown (hW hw 117 rfl) e0 FU 4 (hb hby dd0_1) rfl ?_
  rintro T1 X1 e1
  refine g_ifY X1 hx 13 (hb hby dd0_4) (by decide) (XT.i0_eq_t (by decide)) ?_
  refine g_getS X1 hx hZ hown (hW hw 119 rfl) e1 (SB.ext O) 16 (hb hby dd0_13) rfl ?_
  rintro T2 X2 e2
  refine g_astore X2 hx #[sR dec, sR b, sI 0, sI 8, sR dst, sR tb, .unset, .unset, .unset, .unset, .unset] 18 (hb hby dd0_16) rfl rfl ?_
  refine g_iconst X2 hx 19 (hb hby dd0_18) rfl ki_0 ?_
  refine g_istore X2 hx #[sR dec, sR b, sI 0, sI 8, sR dst, sR tb, sI 0, .unset, .unset, .unset, .unset] 21 (hb hby dd0_19) rfl rfl ?_
  refine g_iconst X2 hx 22 (hb hby dd0_21) rfl ki_0 ?_
  refine g_istore X2 hx #[sR dec, sR b, sI 0, sI 8, sR dst, sR tb, sI 0, sI 0, .unset, .unset, .unset] 24 (hb hby dd0_22) rfl rfl ?_
  refine g_bipush X2 hx 26 (hb hby dd0_24) rfl kb_18 ?_
  refine g_istore X2 hx #[sR dec, sR b, sI 0, sI 8, sR dst, sR tb, sI 0, sI 0, sI 18, .unset, .unset] 28 (hb hby dd0_26) rfl rfl ?_
  refine g_iloadN X2 hx 29 (hb hby dd0_28) rfl rfl ?_
  refine g_iloadN X2 hx 30 (hb hby dd0_29) rfl rfl ?_
  refine g_icN X2 hx 33 (hb hby dd0_30) rfl (XT.ii_ge_f (by decide)) ?_
  refine g_iload X2 hx 35 (hb hby dd0_33) rfl rfl ?_
  refine g_bipush X2 hx 37 (hb hby dd0_35) rfl kb_18 ?_
  refine g_icN X2 hx 40 (hb hby dd0_37) rfl (XT.ii_ne_f (by decide)) ?_
  refine g_iloadN X2 hx 41 (hb hby dd0_40) rfl rfl ?_
  refine g_iloadN X2 hx 42 (hb hby dd0_41) rfl rfl ?_
  refine g_iconst X2 hx 43 (hb hby dd0_42) rfl ki_4 ?_
  refine g_isub X2 hx 44 (hb hby dd0_43) rfl (by decide : (8 : Int32) - (4 : Int32) = (4 : Int32)) ?_
  refine g_icN X2 hx 47 (hb hby dd0_44) rfl (XT.ii_ge_f (by decide)) ?_
  refine g_aloadN X2 hx 48 (hb hby dd0_47) rfl rfl ?_
  refine g_aloadN X2 hx 49 (hb hby dd0_48) rfl rfl ?_
  refine g_iloadN X2 hx 50 (hb hby dd0_49) rfl rfl ?_
  refine g_iloadN X2 hx 51 (hb hby dd0_50) rfl rfl ?_
  refine g_aload X2 hx 53 (hb hby dd0_51) rfl rfl ?_
  refine g_iload X2 hx 55 (hb hby dd0_53) rfl rfl ?_
  refine g_aloadN X2 hx 56 (hb hby dd0_55) rfl rfl ?_
  refine g_getF X2 hx hZ hown (hW hw 117 rfl) e2 FU 59 (hb hby dd0_56) rfl ?_
  rintro T3 X3 e3
  refine g_aloadN X3 hx 60 (hb hby dd0_59) rfl rfl ?_
  refine g_getF X3 hx hZ hown (hW hw 120 rfl) e3 FM 63 (hb hby dd0_60) rfl ?_
  rintro T4 X4 e4
  refine Go.callPV X4 hx (y := (⟨"java/util/Base64$Decoder", "decodeBlock", "([BII[BIZZ)I"⟩ : MethodName)) hown (mvT hZ (hW hw 132 rfl)) (mvT hZ (hW hw 133 rfl)) (mvT hZ (hW hw 135 rfl)) (mvP hZ (hW hw 134 rfl)) (mvT hZ (hW hw 136 rfl)) (by decide) (Ctr.back (W := 0) (rmDB_6 l Z a0 hw d0 v0 d1 v1 d2 v2 d3 v3 d4 v4 d5 v5 d6 v6 d7 v7 G0 nn0 G1 nn1 G2 nn2 G3 nn3 G4 nn4 G5 nn5 G6 nn6 G7 nn7 h61 dec tb SB b h0 n0 O E FU FM Tb dst hnd nd1 nd2 nd3 S D) hZ (hW hw 136 rfl) (hW hw 68 rfl) (by decide) (by decide)) e4 E (g := (mkF m 63 #[sR dec, sR b, sI 0, sI 8, sR dst, sR tb, sI 0, sI 0, sI 18, .unset, .unset] [vI 0, vI 0, vI 0, vR dst, vI 8, vI 0, vR b, vR dec])) rfl (by rw [hml]; rfl) (argsL := [vR b, vI 0, vI 8, vR dst, vI 0, vI 0, vI 0]) (rest := []) (lenOf pd_37 rfl) rfl (by show 2 * 0 + _ ≤ _; exact Nat.le_of_eq rfl) (hb hby dd0_63) rfl (by decide) (by decide) ?_
  rintro _ T5 L5 X5 ⟨rfl, N5q, K5, A5⟩
  show Go p e below _ T5 (mkF m 66 #[sR dec, sR b, sI 0, sI 8, sR dst, sR tb, sI 0, sI 0, sI 18, .unset, .unset] [vI 6])
  have S5 := S.keep K5 (ninS nd3 nin0)
  have Tb5 := Tb.keep K5 (ninS nd2 nin0)
  have N5 := Fr.app (Fr.nil n0) N5q
  refine g_istore X5 hx #[sR dec, sR b, sI 0, sI 8, sR dst, sR tb, sI 0, sI 0, sI 18, sI 6, .unset] 68 (hb hby dd0_66) rfl rfl ?_
  refine g_iload X5 hx 70 (hb hby dd0_68) rfl rfl ?_
  refine g_iconst X5 hx 71 (hb hby dd0_70) rfl ki_2 ?_
  refine g_iadd X5 hx 72 (hb hby dd0_71) rfl (by decide : (6 : Int32) + (2 : Int32) = (8 : Int32)) ?_
  refine g_iconst X5 hx 73 (hb hby dd0_72) rfl ki_3 ?_
  refine g_idiv X5 hx 74 (hb hby dd0_73) rfl (by decide) (by decide : (8 : Int32) / (3 : Int32) = (2 : Int32)) ?_
  refine g_iconst X5 hx 75 (hb hby dd0_74) rfl ki_4 ?_
  refine g_imul X5 hx 76 (hb hby dd0_75) rfl (by decide : (2 : Int32) * (4 : Int32) = (8 : Int32)) ?_
  refine g_istore X5 hx #[sR dec, sR b, sI 0, sI 8, sR dst, sR tb, sI 0, sI 0, sI 18, sI 6, sI 8] 78 (hb hby dd0_76) rfl rfl ?_
  refine g_iloadN X5 hx 79 (hb hby dd0_78) rfl rfl ?_
  refine g_iload X5 hx 81 (hb hby dd0_79) rfl rfl ?_
  refine g_iadd X5 hx 82 (hb hby dd0_81) rfl (by decide : (0 : Int32) + (8 : Int32) = (8 : Int32)) ?_
  refine g_istoreN X5 hx #[sR dec, sR b, sI 8, sI 8, sR dst, sR tb, sI 0, sI 0, sI 18, sI 6, sI 8] 83 (hb hby dd0_82) rfl rfl ?_
  refine g_iload X5 hx 85 (hb hby dd0_83) rfl rfl ?_
  refine g_iload X5 hx 87 (hb hby dd0_85) rfl rfl ?_
  refine g_iadd X5 hx 88 (hb hby dd0_87) rfl (by decide : (0 : Int32) + (6 : Int32) = (6 : Int32)) ?_
  refine g_istore X5 hx #[sR dec, sR b, sI 8, sI 8, sR dst, sR tb, sI 6, sI 0, sI 18, sI 6, sI 8] 90 (hb hby dd0_88) rfl rfl ?_
  refine g_iloadN X5 hx 91 (hb hby dd0_90) rfl rfl ?_
  refine g_iloadN X5 hx 92 (hb hby dd0_91) rfl rfl ?_
  refine g_icN X5 hx 95 (hb hby dd0_92) rfl (XT.ii_lt_f (by decide)) ?_
  refine g_goto X5 hx 281 (hb hby dd0_95) (by decide) ?_
  refine g_iload X5 hx 283 (hb hby dd0_281) rfl rfl ?_
  refine g_bipush X5 hx 285 (hb hby dd0_283) rfl kb_6 ?_
  refine g_icY X5 hx 305 (hb hby dd0_285) (by decide) (XT.ii_ne_t (by decide)) ?_
  refine g_iload X5 hx 307 (hb hby dd0_305) rfl rfl ?_
  refine g_ifY X5 hx 341 (hb hby dd0_307) (by decide) (XT.i0_ne_t (by decide)) ?_
  refine g_iload X5 hx 343 (hb hby dd0_341) rfl rfl ?_
  refine g_bipush X5 hx 345 (hb hby dd0_343) rfl kb_12 ?_
  refine g_icY X5 hx 358 (hb hby dd0_345) (by decide) (XT.ii_ne_t (by decide)) ?_
  refine g_iloadN X5 hx 359 (hb hby dd0_358) rfl rfl ?_
  refine g_iloadN X5 hx 360 (hb hby dd0_359) rfl rfl ?_
  refine g_icY X5 hx 416 (hb hby dd0_360) (by decide) (XT.ii_ge_t (by decide)) ?_
  refine g_iload X5 hx 418 (hb hby dd0_416) rfl rfl ?_
  have Ad : AI Z T5.heap dst .byte ([nar .byte ((((((v0 <<< ((18 : Int32) &&& 31)) ||| (v1 <<< ((12 : Int32) &&& 31))) ||| (v2 <<< ((6 : Int32) &&& 31))) ||| v3) >>> ((16 : Int32) &&& 31)).toInt8.toInt32), nar .byte ((((((v0 <<< ((18 : Int32) &&& 31)) ||| (v1 <<< ((12 : Int32) &&& 31))) ||| (v2 <<< ((6 : Int32) &&& 31))) ||| v3) >>> ((8 : Int32) &&& 31)).toInt8.toInt32), nar .byte (((((v0 <<< ((18 : Int32) &&& 31)) ||| (v1 <<< ((12 : Int32) &&& 31))) ||| (v2 <<< ((6 : Int32) &&& 31))) ||| v3).toInt8.toInt32), nar .byte ((((((v4 <<< ((18 : Int32) &&& 31)) ||| (v5 <<< ((12 : Int32) &&& 31))) ||| (v6 <<< ((6 : Int32) &&& 31))) ||| v7) >>> ((16 : Int32) &&& 31)).toInt8.toInt32), nar .byte ((((((v4 <<< ((18 : Int32) &&& 31)) ||| (v5 <<< ((12 : Int32) &&& 31))) ||| (v6 <<< ((6 : Int32) &&& 31))) ||| v7) >>> ((8 : Int32) &&& 31)).toInt8.toInt32), nar .byte (((((v4 <<< ((18 : Int32) &&& 31)) ||| (v5 <<< ((12 : Int32) &&& 31))) ||| (v6 <<< ((6 : Int32) &&& 31))) ||| v7).toInt8.toInt32)] : List Int32) := A5
  have Kd : Keep h0 T5.heap [dst] := K5
  exact Go.retI X5 hx hret hlk (hb hby dd0_418) ⟨rfl, N5, Kd, Ad⟩ (by decide) (by decide)
set_option maxRecDepth 65536 in
set_option maxHeartbeats 40000000 in
theorem rmDE_6 (l : Launch) (Z : State) (a0 : Array Value) (hw : ∀ d ∈ tables_1, d.before a0 Z = true) (d0 v0 d1 v1 d2 v2 d3 v3 d4 v4 d5 v5 d6 v6 d7 v7 : Int32) (G0 : Dig d0 v0) (nn0 : ¬ v0 < 0) (G1 : Dig d1 v1) (nn1 : ¬ v1 < 0) (G2 : Dig d2 v2) (nn2 : ¬ v2 < 0) (G3 : Dig d3 v3) (nn3 : ¬ v3 < 0) (G4 : Dig d4 v4) (nn4 : ¬ v4 < 0) (G5 : Dig d5 v5) (nn5 : ¬ v5 < 0) (G6 : Dig d6 v6) (nn6 : ¬ v6 < 0) (G7 : Dig d7 v7) (nn7 : ¬ v7 < 0) (h61 : ¬ d7 = 61) (dec tb : Addr) (SB : Sta Z Z.heap "java/util/Base64$Decoder" "fromBase64" "[I" (.ref tb)) (b : Addr) (h0 : Heap) (n0 : Nat) (O : Ext Z.heap h0) (E : Exa Z h0 dec "java/util/Base64$Decoder") (FU : Fld Z h0 dec "java/util/Base64$Decoder" "isURL" "Z" (.int 0)) (FM : Fld Z h0 dec "java/util/Base64$Decoder" "isMIME" "Z" (.int 0)) (Tb : AI Z h0 tb .int own_tab) (Z0 : n0 ≤ h0.size) (S : AI Z h0 b .byte ([d0, d1, d2, d3, d4, d5, d6, d7] : List Int32)) :
    Ctr l Z (⟨"java/util/Base64$Decoder", "decode", "([B)[B"⟩ : MethodName) jdk_2450_method_2_code 4 (some (.array .byte)) [] ({ frames := 2, cells := 1, slots := 6, locals := 49 } : Room) #[(.ref dec), (.ref b)] h0 (QDE Z ([nar .byte ((((((v0 <<< ((18 : Int32) &&& 31)) ||| (v1 <<< ((12 : Int32) &&& 31))) ||| (v2 <<< ((6 : Int32) &&& 31))) ||| v3) >>> ((16 : Int32) &&& 31)).toInt8.toInt32), nar .byte ((((((v0 <<< ((18 : Int32) &&& 31)) ||| (v1 <<< ((12 : Int32) &&& 31))) ||| (v2 <<< ((6 : Int32) &&& 31))) ||| v3) >>> ((8 : Int32) &&& 31)).toInt8.toInt32), nar .byte (((((v0 <<< ((18 : Int32) &&& 31)) ||| (v1 <<< ((12 : Int32) &&& 31))) ||| (v2 <<< ((6 : Int32) &&& 31))) ||| v3).toInt8.toInt32), nar .byte ((((((v4 <<< ((18 : Int32) &&& 31)) ||| (v5 <<< ((12 : Int32) &&& 31))) ||| (v6 <<< ((6 : Int32) &&& 31))) ||| v7) >>> ((16 : Int32) &&& 31)).toInt8.toInt32), nar .byte ((((((v4 <<< ((18 : Int32) &&& 31)) ||| (v5 <<< ((12 : Int32) &&& 31))) ||| (v6 <<< ((6 : Int32) &&& 31))) ||| v7) >>> ((8 : Int32) &&& 31)).toInt8.toInt32), nar .byte (((((v4 <<< ((18 : Int32) &&& 31)) ||| (v5 <<< ((12 : Int32) &&& 31))) ||| (v6 <<< ((6 : Int32) &&& 31))) ||| v7).toInt8.toInt32)] : List Int32) h0 n0) := by
  refine Ctr.of (plainFor_of_name pn_31) ?_
  intro p e s m below meth c s₁ hx hby hml hown hnm hret hlk hZ X0 e0
  refine Go.cast (ef_33 m dec b) ?_
  show Go p e below _ s₁ (mkF m 0 #[sR dec, sR b, .unset, .unset] [])
  refine g_aloadN X0 hx 1 (hb hby dde_0) rfl rfl ?_
  refine g_aloadN X0 hx 2 (hb hby dde_1) rfl rfl ?_
  refine g_iconst X0 hx 3 (hb hby dde_2) rfl ki_0 ?_
  refine g_aloadN X0 hx 4 (hb hby dde_3) rfl rfl ?_
  refine g_alen X0 hx hZ e0 S (z := 8) rfl 5 (hb hby dde_4) rfl ?_
  refine Go.callPV X0 hx (y := (⟨"java/util/Base64$Decoder", "decodedOutLength", "([BII)I"⟩ : MethodName)) hown (mvT hZ (hW hw 112 rfl)) (mvT hZ (hW hw 113 rfl)) (mvT hZ (hW hw 115 rfl)) (mvP hZ (hW hw 114 rfl)) (mvT hZ (hW hw 116 rfl)) (by decide) (Ctr.back (W := 0) (rmDL_6 l Z a0 hw d0 v0 d1 v1 d2 v2 d3 v3 d4 v4 d5 v5 d6 v6 d7 v7 G0 nn0 G1 nn1 G2 nn2 G3 nn3 G4 nn4 G5 nn5 G6 nn6 G7 nn7 h61 dec tb SB b h0 n0 O E FU FM Tb S) hZ (hW hw 116 rfl) (hW hw 68 rfl) (by decide) (by decide)) e0 E (g := (mkF m 5 #[sR dec, sR b, .unset, .unset] [vI 8, vI 0, vR b, vR dec])) rfl (by rw [hml]; rfl) (argsL := [vR b, vI 0, vI 8]) (rest := []) (lenOf pd_34 rfl) rfl (by show 2 * 0 + _ ≤ _; exact Nat.le_of_eq rfl) (hb hby dde_5) rfl (by decide) (by decide) ?_
  rintro _ T1 L1 X1 ⟨rfl, N1, e1⟩
  show Go p e below _ T1 (mkF m 8 #[sR dec, sR b, .unset, .unset] [vI 6])
  refine Go.newarr X1 hx hZ (ty := .byte) rfl rfl (hW hw 28 rfl) e1 (g := (mkF m 8 #[sR dec, sR b, .unset, .unset] [vI 6])) rfl (hb hby dde_8) rfl (n := 6) rfl (by decide) (by decide) (by decide) ?_
  rintro T2 h2 X2 e2 E2 l2 A2
  obtain ⟨a2, g2⟩ : ∃ z, z = h0.size := ⟨_, rfl⟩
  rw [← g2] at A2 l2 ⊢
  have sE2 := E2.1
  show Go p e below _ T2 (mkF m 10 #[sR dec, sR b, .unset, .unset] [vR a2])
  refine g_astoreN X2 hx #[sR dec, sR b, sR a2, .unset] 11 (hb hby dde_10) rfl rfl ?_
  refine g_aloadN X2 hx 12 (hb hby dde_11) rfl rfl ?_
  refine g_aloadN X2 hx 13 (hb hby dde_12) rfl rfl ?_
  refine g_iconst X2 hx 14 (hb hby dde_13) rfl ki_0 ?_
  refine g_aloadN X2 hx 15 (hb hby dde_14) rfl rfl ?_
  have q0 := E.lt
  have q1 := Tb.lt
  have q2 := S.lt
  have nd1 : dec ≠ a2 := Nat.ne_of_lt (Nat.lt_of_lt_of_eq q0 g2.symm)
  have nd2 : tb ≠ a2 := Nat.ne_of_lt (Nat.lt_of_lt_of_eq q1 g2.symm)
  have nd3 : b ≠ a2 := Nat.ne_of_lt (Nat.lt_of_lt_of_eq q2 g2.symm)
  refine g_alen X2 hx hZ e2 (S.ext E2) (z := 8) rfl 16 (hb hby dde_15) rfl ?_
  refine g_aloadN X2 hx 17 (hb hby dde_16) rfl rfl ?_
  refine Go.callPV X2 hx (y := (⟨"java/util/Base64$Decoder", "decode0", "([BII[B)I"⟩ : MethodName)) hown (mvT hZ (hW hw 124 rfl)) (mvT hZ (hW hw 125 rfl)) (mvT hZ (hW hw 127 rfl)) (mvP hZ (hW hw 126 rfl)) (mvT hZ (hW hw 128 rfl)) (by decide) (Ctr.back (W := 0) (rmD0_6 l Z a0 hw d0 v0 d1 v1 d2 v2 d3 v3 d4 v4 d5 v5 d6 v6 d7 v7 G0 nn0 G1 nn1 G2 nn2 G3 nn3 G4 nn4 G5 nn5 G6 nn6 G7 nn7 h61 dec tb SB b h2 n0 (own_ext O E2) (E.ext E2) (FU.ext E2) (FM.ext E2) (Tb.ext E2) a2 (by omega) nd1 nd2 nd3 (S.ext E2) A2) hZ (hW hw 128 rfl) (hW hw 68 rfl) (by decide) (by decide)) e2 (E.ext E2) (g := (mkF m 17 #[sR dec, sR b, sR a2, .unset] [vR a2, vI 8, vI 0, vR b, vR dec])) rfl (by rw [hml]; rfl) (argsL := [vR b, vI 0, vI 8, vR a2]) (rest := []) (lenOf pd_35 rfl) rfl (by show 2 * 0 + _ ≤ _; exact Nat.le_of_eq rfl) (hb hby dde_17) rfl (by decide) (by decide) ?_
  rintro _ T3 L3 X3 ⟨rfl, N3, K3, A3⟩
  show Go p e below _ T3 (mkF m 20 #[sR dec, sR b, sR a2, .unset] [vI 6])
  refine g_istoreN X3 hx #[sR dec, sR b, sR a2, sI 6] 21 (hb hby dde_20) rfl rfl ?_
  refine g_iloadN X3 hx 22 (hb hby dde_21) rfl rfl ?_
  refine g_aloadN X3 hx 23 (hb hby dde_22) rfl rfl ?_
  refine g_alen X3 hx hZ rfl A3 (z := 6) rfl 24 (hb hby dde_23) rfl ?_
  refine g_icY X3 hx 33 (hb hby dde_24) (by decide) (XT.ii_eq_t (by decide)) ?_
  refine g_aloadN X3 hx 34 (hb hby dde_33) rfl rfl ?_
  exact Go.retV X3 hx hret hlk rfl rfl (hb hby dde_34) ⟨a2, rfl, Fr.app (Fr.app (Fr.nil n0) N1) N3, ((Keep.refl h0 []).ext E2).trans K3 (fun x q => Or.inr (by cases List.mem_singleton.mp q; omega)), A3⟩ (by decide) (by decide)
def Dec0 (ds bs : List Int32) : Prop := ds = ([] : List Int32) ∧ bs = ([] : List Int32)
def Dec1 (ds bs : List Int32) : Prop := ∃ d0 v0 d1 v1 : Int32, Dig d0 v0 ∧ ¬ v0 < 0 ∧ Dig d1 v1 ∧ ¬ v1 < 0 ∧ ds = ([d0, d1, 61, 61] : List Int32) ∧ bs = ([nar .byte (((((0 : Int32) ||| (v0 <<< ((18 : Int32) &&& 31))) ||| (v1 <<< ((12 : Int32) &&& 31))) >>> ((16 : Int32) &&& 31)).toInt8.toInt32)] : List Int32)
def Dec2 (ds bs : List Int32) : Prop := ∃ d0 v0 d1 v1 d2 v2 : Int32, Dig d0 v0 ∧ ¬ v0 < 0 ∧ Dig d1 v1 ∧ ¬ v1 < 0 ∧ Dig d2 v2 ∧ ¬ v2 < 0 ∧ ¬ d2 = 61 ∧ ds = ([d0, d1, d2, 61] : List Int32) ∧ bs = ([nar .byte ((((((0 : Int32) ||| (v0 <<< ((18 : Int32) &&& 31))) ||| (v1 <<< ((12 : Int32) &&& 31))) ||| (v2 <<< ((6 : Int32) &&& 31))) >>> ((16 : Int32) &&& 31)).toInt8.toInt32), nar .byte ((((((0 : Int32) ||| (v0 <<< ((18 : Int32) &&& 31))) ||| (v1 <<< ((12 : Int32) &&& 31))) ||| (v2 <<< ((6 : Int32) &&& 31))) >>> ((8 : Int32) &&& 31)).toInt8.toInt32)] : List Int32)
def Dec3 (ds bs : List Int32) : Prop := ∃ d0 v0 d1 v1 d2 v2 d3 v3 : Int32, Dig d0 v0 ∧ ¬ v0 < 0 ∧ Dig d1 v1 ∧ ¬ v1 < 0 ∧ Dig d2 v2 ∧ ¬ v2 < 0 ∧ Dig d3 v3 ∧ ¬ v3 < 0 ∧ ¬ d3 = 61 ∧ ds = ([d0, d1, d2, d3] : List Int32) ∧ bs = ([nar .byte (((((((0 : Int32) ||| (v0 <<< ((18 : Int32) &&& 31))) ||| (v1 <<< ((12 : Int32) &&& 31))) ||| (v2 <<< ((6 : Int32) &&& 31))) ||| (v3 <<< ((0 : Int32) &&& 31))) >>> ((16 : Int32) &&& 31)).toInt8.toInt32), nar .byte (((((((0 : Int32) ||| (v0 <<< ((18 : Int32) &&& 31))) ||| (v1 <<< ((12 : Int32) &&& 31))) ||| (v2 <<< ((6 : Int32) &&& 31))) ||| (v3 <<< ((0 : Int32) &&& 31))) >>> ((8 : Int32) &&& 31)).toInt8.toInt32), nar .byte ((((((0 : Int32) ||| (v0 <<< ((18 : Int32) &&& 31))) ||| (v1 <<< ((12 : Int32) &&& 31))) ||| (v2 <<< ((6 : Int32) &&& 31))) ||| (v3 <<< ((0 : Int32) &&& 31))).toInt8.toInt32)] : List Int32)
def Dec4 (ds bs : List Int32) : Prop := ∃ d0 v0 d1 v1 d2 v2 d3 v3 d4 v4 d5 v5 : Int32, Dig d0 v0 ∧ ¬ v0 < 0 ∧ Dig d1 v1 ∧ ¬ v1 < 0 ∧ Dig d2 v2 ∧ ¬ v2 < 0 ∧ Dig d3 v3 ∧ ¬ v3 < 0 ∧ Dig d4 v4 ∧ ¬ v4 < 0 ∧ Dig d5 v5 ∧ ¬ v5 < 0 ∧ ds = ([d0, d1, d2, d3, d4, d5, 61, 61] : List Int32) ∧ bs = ([nar .byte ((((((v0 <<< ((18 : Int32) &&& 31)) ||| (v1 <<< ((12 : Int32) &&& 31))) ||| (v2 <<< ((6 : Int32) &&& 31))) ||| v3) >>> ((16 : Int32) &&& 31)).toInt8.toInt32), nar .byte ((((((v0 <<< ((18 : Int32) &&& 31)) ||| (v1 <<< ((12 : Int32) &&& 31))) ||| (v2 <<< ((6 : Int32) &&& 31))) ||| v3) >>> ((8 : Int32) &&& 31)).toInt8.toInt32), nar .byte (((((v0 <<< ((18 : Int32) &&& 31)) ||| (v1 <<< ((12 : Int32) &&& 31))) ||| (v2 <<< ((6 : Int32) &&& 31))) ||| v3).toInt8.toInt32), nar .byte (((((0 : Int32) ||| (v4 <<< ((18 : Int32) &&& 31))) ||| (v5 <<< ((12 : Int32) &&& 31))) >>> ((16 : Int32) &&& 31)).toInt8.toInt32)] : List Int32)
def Dec5 (ds bs : List Int32) : Prop := ∃ d0 v0 d1 v1 d2 v2 d3 v3 d4 v4 d5 v5 d6 v6 : Int32, Dig d0 v0 ∧ ¬ v0 < 0 ∧ Dig d1 v1 ∧ ¬ v1 < 0 ∧ Dig d2 v2 ∧ ¬ v2 < 0 ∧ Dig d3 v3 ∧ ¬ v3 < 0 ∧ Dig d4 v4 ∧ ¬ v4 < 0 ∧ Dig d5 v5 ∧ ¬ v5 < 0 ∧ Dig d6 v6 ∧ ¬ v6 < 0 ∧ ¬ d6 = 61 ∧ ds = ([d0, d1, d2, d3, d4, d5, d6, 61] : List Int32) ∧ bs = ([nar .byte ((((((v0 <<< ((18 : Int32) &&& 31)) ||| (v1 <<< ((12 : Int32) &&& 31))) ||| (v2 <<< ((6 : Int32) &&& 31))) ||| v3) >>> ((16 : Int32) &&& 31)).toInt8.toInt32), nar .byte ((((((v0 <<< ((18 : Int32) &&& 31)) ||| (v1 <<< ((12 : Int32) &&& 31))) ||| (v2 <<< ((6 : Int32) &&& 31))) ||| v3) >>> ((8 : Int32) &&& 31)).toInt8.toInt32), nar .byte (((((v0 <<< ((18 : Int32) &&& 31)) ||| (v1 <<< ((12 : Int32) &&& 31))) ||| (v2 <<< ((6 : Int32) &&& 31))) ||| v3).toInt8.toInt32), nar .byte ((((((0 : Int32) ||| (v4 <<< ((18 : Int32) &&& 31))) ||| (v5 <<< ((12 : Int32) &&& 31))) ||| (v6 <<< ((6 : Int32) &&& 31))) >>> ((16 : Int32) &&& 31)).toInt8.toInt32), nar .byte ((((((0 : Int32) ||| (v4 <<< ((18 : Int32) &&& 31))) ||| (v5 <<< ((12 : Int32) &&& 31))) ||| (v6 <<< ((6 : Int32) &&& 31))) >>> ((8 : Int32) &&& 31)).toInt8.toInt32)] : List Int32)
def Dec6 (ds bs : List Int32) : Prop := ∃ d0 v0 d1 v1 d2 v2 d3 v3 d4 v4 d5 v5 d6 v6 d7 v7 : Int32, Dig d0 v0 ∧ ¬ v0 < 0 ∧ Dig d1 v1 ∧ ¬ v1 < 0 ∧ Dig d2 v2 ∧ ¬ v2 < 0 ∧ Dig d3 v3 ∧ ¬ v3 < 0 ∧ Dig d4 v4 ∧ ¬ v4 < 0 ∧ Dig d5 v5 ∧ ¬ v5 < 0 ∧ Dig d6 v6 ∧ ¬ v6 < 0 ∧ Dig d7 v7 ∧ ¬ v7 < 0 ∧ ¬ d7 = 61 ∧ ds = ([d0, d1, d2, d3, d4, d5, d6, d7] : List Int32) ∧ bs = ([nar .byte ((((((v0 <<< ((18 : Int32) &&& 31)) ||| (v1 <<< ((12 : Int32) &&& 31))) ||| (v2 <<< ((6 : Int32) &&& 31))) ||| v3) >>> ((16 : Int32) &&& 31)).toInt8.toInt32), nar .byte ((((((v0 <<< ((18 : Int32) &&& 31)) ||| (v1 <<< ((12 : Int32) &&& 31))) ||| (v2 <<< ((6 : Int32) &&& 31))) ||| v3) >>> ((8 : Int32) &&& 31)).toInt8.toInt32), nar .byte (((((v0 <<< ((18 : Int32) &&& 31)) ||| (v1 <<< ((12 : Int32) &&& 31))) ||| (v2 <<< ((6 : Int32) &&& 31))) ||| v3).toInt8.toInt32), nar .byte ((((((v4 <<< ((18 : Int32) &&& 31)) ||| (v5 <<< ((12 : Int32) &&& 31))) ||| (v6 <<< ((6 : Int32) &&& 31))) ||| v7) >>> ((16 : Int32) &&& 31)).toInt8.toInt32), nar .byte ((((((v4 <<< ((18 : Int32) &&& 31)) ||| (v5 <<< ((12 : Int32) &&& 31))) ||| (v6 <<< ((6 : Int32) &&& 31))) ||| v7) >>> ((8 : Int32) &&& 31)).toInt8.toInt32), nar .byte (((((v4 <<< ((18 : Int32) &&& 31)) ||| (v5 <<< ((12 : Int32) &&& 31))) ||| (v6 <<< ((6 : Int32) &&& 31))) ||| v7).toInt8.toInt32)] : List Int32)
def Dec (ds bs : List Int32) : Prop := Dec0 ds bs ∨ Dec1 ds bs ∨ Dec2 ds bs ∨ Dec3 ds bs ∨ Dec4 ds bs ∨ Dec5 ds bs ∨ Dec6 ds bs
set_option maxRecDepth 65536 in
set_option maxHeartbeats 40000000 in
theorem rmDE (l : Launch) (Z : State) (a0 : Array Value) (hw : ∀ d ∈ tables_1, d.before a0 Z = true) (ds bs : List Int32) (H : Dec ds bs) (dec tb : Addr) (SB : Sta Z Z.heap "java/util/Base64$Decoder" "fromBase64" "[I" (.ref tb)) (b : Addr) (h0 : Heap) (n0 : Nat) (O : Ext Z.heap h0) (E : Exa Z h0 dec "java/util/Base64$Decoder") (FU : Fld Z h0 dec "java/util/Base64$Decoder" "isURL" "Z" (.int 0)) (FM : Fld Z h0 dec "java/util/Base64$Decoder" "isMIME" "Z" (.int 0)) (Tb : AI Z h0 tb .int own_tab) (Z0 : n0 ≤ h0.size) (S : AI Z h0 b .byte ds) :
    Ctr l Z (⟨"java/util/Base64$Decoder", "decode", "([B)[B"⟩ : MethodName) jdk_2450_method_2_code 4 (some (.array .byte)) [] ({ frames := 2, cells := 1, slots := 6, locals := 49 } : Room) #[(.ref dec), (.ref b)] h0 (QDE Z bs h0 n0) := by
  rcases H with ⟨rfl, rfl⟩ | ⟨d0, v0, d1, v1, G0, nn0, G1, nn1, rfl, rfl⟩ | ⟨d0, v0, d1, v1, d2, v2, G0, nn0, G1, nn1, G2, nn2, h61, rfl, rfl⟩ | ⟨d0, v0, d1, v1, d2, v2, d3, v3, G0, nn0, G1, nn1, G2, nn2, G3, nn3, h61, rfl, rfl⟩ | ⟨d0, v0, d1, v1, d2, v2, d3, v3, d4, v4, d5, v5, G0, nn0, G1, nn1, G2, nn2, G3, nn3, G4, nn4, G5, nn5, rfl, rfl⟩ | ⟨d0, v0, d1, v1, d2, v2, d3, v3, d4, v4, d5, v5, d6, v6, G0, nn0, G1, nn1, G2, nn2, G3, nn3, G4, nn4, G5, nn5, G6, nn6, h61, rfl, rfl⟩ | ⟨d0, v0, d1, v1, d2, v2, d3, v3, d4, v4, d5, v5, d6, v6, d7, v7, G0, nn0, G1, nn1, G2, nn2, G3, nn3, G4, nn4, G5, nn5, G6, nn6, G7, nn7, h61, rfl, rfl⟩
  · exact rmDE_0 l Z a0 hw   dec tb SB b h0 n0 O E FU FM Tb Z0 S
  · exact rmDE_1 l Z a0 hw d0 v0 d1 v1 G0 nn0 G1 nn1 dec tb SB b h0 n0 O E FU FM Tb Z0 S
  · exact rmDE_2 l Z a0 hw d0 v0 d1 v1 d2 v2 G0 nn0 G1 nn1 G2 nn2 h61 dec tb SB b h0 n0 O E FU FM Tb Z0 S
  · exact rmDE_3 l Z a0 hw d0 v0 d1 v1 d2 v2 d3 v3 G0 nn0 G1 nn1 G2 nn2 G3 nn3 h61 dec tb SB b h0 n0 O E FU FM Tb Z0 S
  · exact rmDE_4 l Z a0 hw d0 v0 d1 v1 d2 v2 d3 v3 d4 v4 d5 v5 G0 nn0 G1 nn1 G2 nn2 G3 nn3 G4 nn4 G5 nn5 dec tb SB b h0 n0 O E FU FM Tb Z0 S
  · exact rmDE_5 l Z a0 hw d0 v0 d1 v1 d2 v2 d3 v3 d4 v4 d5 v5 d6 v6 G0 nn0 G1 nn1 G2 nn2 G3 nn3 G4 nn4 G5 nn5 G6 nn6 h61 dec tb SB b h0 n0 O E FU FM Tb Z0 S
  · exact rmDE_6 l Z a0 hw d0 v0 d1 v1 d2 v2 d3 v3 d4 v4 d5 v5 d6 v6 d7 v7 G0 nn0 G1 nn1 G2 nn2 G3 nn3 G4 nn4 G5 nn5 G6 nn6 G7 nn7 h61 dec tb SB b h0 n0 O E FU FM Tb Z0 S
theorem dds_0 : decode jdk_2450_method_3_code 0 = .ok (.aload_n 0, 1) := by decide +kernel
theorem dds_1 : decode jdk_2450_method_3_code 1 = .ok (.aload_n 1, 1) := by decide +kernel
theorem dds_2 : decode jdk_2450_method_3_code 2 = .ok (.getstatic 30, 3) := by decide +kernel
theorem dds_5 : decode jdk_2450_method_3_code 5 = .ok (.invokevirtual 36, 3) := by decide +kernel
theorem dds_8 : decode jdk_2450_method_3_code 8 = .ok (.invokevirtual 42, 3) := by decide +kernel
theorem dds_11 : decode jdk_2450_method_3_code 11 = .ok (.areturn, 1) := by decide +kernel
set_option maxRecDepth 65536 in
set_option maxHeartbeats 40000000 in
theorem rmDS (l : Launch) (Z : State) (a0 : Array Value) (hw : ∀ d ∈ tables_1, d.before a0 Z = true) (z : Int32) (SC : Sta Z Z.heap "java/lang/String" "COMPACT_STRINGS" "Z" (.int z)) (nC : ¬ z = 0) (iso u8 : Addr) (SI : Sta Z Z.heap "sun/nio/cs/ISO_8859_1" "INSTANCE" "Lsun/nio/cs/ISO_8859_1;" (.ref iso)) (SU : Sta Z Z.heap "sun/nio/cs/UTF_8" "INSTANCE" "Lsun/nio/cs/UTF_8;" (.ref u8)) (hne : iso ≠ u8) (xs bs : List Int32) (H : Dec xs bs) (dec tb : Addr) (SB : Sta Z Z.heap "java/util/Base64$Decoder" "fromBase64" "[I" (.ref tb)) (h0 : Heap) (n0 : Nat) (O : Ext Z.heap h0) (E : Exa Z h0 dec "java/util/Base64$Decoder") (FU : Fld Z h0 dec "java/util/Base64$Decoder" "isURL" "Z" (.int 0)) (FM : Fld Z h0 dec "java/util/Base64$Decoder" "isMIME" "Z" (.int 0)) (Tb : AI Z h0 tb .int own_tab) (Z0 : n0 ≤ h0.size) (a t : Addr) (Es : Exa Z h0 a "java/lang/String") (Cd : Fld Z h0 a "java/lang/String" "coder" "B" (.int 0)) (V : Fld Z h0 a "java/lang/String" "value" "[B" (.ref t)) (B : AI Z h0 t .byte xs) (Y : Exa Z h0 t "[B") :
    Ctr l Z (⟨"java/util/Base64$Decoder", "decode", "(Ljava/lang/String;)[B"⟩ : MethodName) jdk_2450_method_3_code 2 (some (.array .byte)) [] ({ frames := 5, cells := 2, slots := xs.length + 6, locals := 76 } : Room) #[(.ref dec), (.ref a)] h0 (QDE Z bs h0 n0) := by
  refine Ctr.of (plainFor_of_name pn_31) ?_
  intro p e s m below meth c s₁ hx hby hml hown hnm hret hlk hZ X0 e0
  refine Go.cast (ef_9 m dec a) ?_
  show Go p e below _ s₁ (mkF m 0 #[sR dec, sR a] [])
  refine g_aloadN X0 hx 1 (hb hby dds_0) rfl rfl ?_
  refine g_aloadN X0 hx 2 (hb hby dds_1) rfl rfl ?_
  refine g_getS X0 hx hZ hown (hW hw 74 rfl) e0 (SI.ext O) 5 (hb hby dds_2) rfl ?_
  rintro T1 X1 e1
  refine Go.callV X1 hx hZ (C := "java/lang/String") (y := (⟨"java/lang/String", "getBytes", "(Ljava/nio/charset/Charset;)[B"⟩ : MethodName)) (z := (⟨"java/lang/String", "getBytes", "(Ljava/nio/charset/Charset;)[B"⟩ : MethodName)) hown (mvT hZ (hW hw 76 rfl)) (mvT hZ (hW hw 77 rfl)) (mvT hZ (hW hw 79 rfl)) (mvT hZ (hW hw 78 rfl)) (by decide) (notFace_of_selects (args := #[]) (mvT hZ (hW hw 79 rfl))) (Ctr.back (W := 1) (rmGB l Z a0 hw z SC nC iso u8 SI SU hne t xs h0 n0 B Y O a Es Cd V) hZ (hW hw 80 rfl) (hW hw 12 rfl) (by (try dsimp only [room_1]); (try simp only [List.length_cons, List.length_nil]); omega) (by (try dsimp only [room_1]); (try simp only [List.length_cons, List.length_nil]); omega)) e1 Es (g := (mkF m 5 #[sR dec, sR a] [vR iso, vR a, vR dec])) rfl (by rw [hml]; rfl) (argsL := [vR iso]) (rest := [vR dec]) (lenOf pd_38 rfl) rfl (by show 2 * 0 + _ ≤ _; exact Nat.le_of_eq rfl) (hb hby dds_5) rfl (by (try dsimp only [room_1]); (try simp only [List.length_cons, List.length_nil]); omega) (by (try dsimp only [room_1]); (try simp only [List.length_cons, List.length_nil]); omega) ?_
  rintro _ T2 L2 X2 ⟨rfl, N2, Q2, B2⟩
  show Go p e below _ T2 (mkF m 8 #[sR dec, sR a] [(vR h0.size), vR dec])
  have q2 := Q2.1
  refine Go.callV X2 hx hZ (C := "java/util/Base64$Decoder") (y := (⟨"java/util/Base64$Decoder", "decode", "([B)[B"⟩ : MethodName)) (z := (⟨"java/util/Base64$Decoder", "decode", "([B)[B"⟩ : MethodName)) hown (mvT hZ (hW hw 107 rfl)) (mvT hZ (hW hw 108 rfl)) (mvT hZ (hW hw 110 rfl)) (mvT hZ (hW hw 109 rfl)) (by decide) (notFace_of_selects (args := #[]) (mvT hZ (hW hw 110 rfl))) (Ctr.back (W := 0) (rmDE l Z a0 hw xs bs H dec tb SB h0.size T2.heap n0 (own_ext O Q2) (E.ext Q2) (FU.ext Q2) (FM.ext Q2) (Tb.ext Q2) (Nat.le_trans Z0 q2) B2) hZ (hW hw 111 rfl) (hW hw 68 rfl) (by (try dsimp only [room_1]); (try simp only [List.length_cons, List.length_nil]); omega) (by (try dsimp only [room_1]); (try simp only [List.length_cons, List.length_nil]); omega)) rfl (E.ext Q2) (g := (mkF m 8 #[sR dec, sR a] [(vR h0.size), vR dec])) rfl (by rw [hml]; rfl) (argsL := [(vR h0.size)]) (rest := []) (lenOf pd_39 rfl) rfl (by show 2 * 0 + _ ≤ _; exact Nat.le_of_eq rfl) (hb hby dds_8) rfl (by (try dsimp only [room_1]); (try simp only [List.length_cons, List.length_nil]); omega) (by (try dsimp only [room_1]); (try simp only [List.length_cons, List.length_nil]); omega) ?_
  rintro _ T3 L3 X3 ⟨r, rfl, N3, K3, B3⟩
  show Go p e below _ T3 (mkF m 11 #[sR dec, sR a] [vR r])
  exact Go.retV X3 hx hret hlk rfl rfl (hb hby dds_11) ⟨r, rfl, Fr.app (Fr.app (Fr.nil n0) N2) N3, ((Keep.refl h0 []).ext Q2).trans K3 (fun _ z => nomatch z), B3⟩ (by (try dsimp only [room_1]); (try simp only [List.length_cons, List.length_nil]); omega) (by (try dsimp only [room_1]); (try simp only [List.length_cons, List.length_nil]); omega)
theorem dby_0 : decode prog_13_method_2_code 0 = .ok (.invokestatic 16, 3) := by decide +kernel
theorem dby_3 : decode prog_13_method_2_code 3 = .ok (.aload_n 0, 1) := by decide +kernel
theorem dby_4 : decode prog_13_method_2_code 4 = .ok (.getfield 13, 3) := by decide +kernel
theorem dby_7 : decode prog_13_method_2_code 7 = .ok (.invokevirtual 22, 3) := by decide +kernel
theorem dby_10 : decode prog_13_method_2_code 10 = .ok (.areturn, 1) := by decide +kernel
set_option maxRecDepth 65536 in
set_option maxHeartbeats 40000000 in
theorem rmBY (l : Launch) (Z : State) (a0 : Array Value) (hw : ∀ d ∈ tables_1, d.before a0 Z = true) (z : Int32) (SC : Sta Z Z.heap "java/lang/String" "COMPACT_STRINGS" "Z" (.int z)) (nC : ¬ z = 0) (iso u8 : Addr) (SI : Sta Z Z.heap "sun/nio/cs/ISO_8859_1" "INSTANCE" "Lsun/nio/cs/ISO_8859_1;" (.ref iso)) (SU : Sta Z Z.heap "sun/nio/cs/UTF_8" "INSTANCE" "Lsun/nio/cs/UTF_8;" (.ref u8)) (hne : iso ≠ u8) (xs bs : List Int32) (H : Dec xs bs) (dec tb : Addr) (SB : Sta Z Z.heap "java/util/Base64$Decoder" "fromBase64" "[I" (.ref tb)) (h0 : Heap) (n0 : Nat) (O : Ext Z.heap h0) (E : Exa Z h0 dec "java/util/Base64$Decoder") (FU : Fld Z h0 dec "java/util/Base64$Decoder" "isURL" "Z" (.int 0)) (FM : Fld Z h0 dec "java/util/Base64$Decoder" "isMIME" "Z" (.int 0)) (Tb : AI Z h0 tb .int own_tab) (Z0 : n0 ≤ h0.size) (a t : Addr) (Es : Exa Z h0 a "java/lang/String") (Cd : Fld Z h0 a "java/lang/String" "coder" "B" (.int 0)) (V : Fld Z h0 a "java/lang/String" "value" "[B" (.ref t)) (B : AI Z h0 t .byte xs) (Y : Exa Z h0 t "[B") (SD : Sta Z Z.heap "java/util/Base64$Decoder" "RFC4648" "Ljava/util/Base64$Decoder;" (.ref dec)) (o : Addr) (Fb : Fld Z h0 o "com/example/poste_restante/posterestante/Pem$Block" "base64" "Ljava/lang/String;" (.ref a)) :
    CtrH l Z (⟨"com/example/poste_restante/posterestante/Pem$Block", "bytes", "()[B"⟩ : MethodName) prog_13_method_2_code 2 (some (.array .byte)) [(0, 10, 11, 28)] ({ frames := 6, cells := 2, slots := xs.length + 6, locals := 89 } : Room) #[(.ref o)] h0 (QDE Z bs h0 n0) := by
  refine CtrH.of (plainFor_of_name pn_20) ?_
  intro p e s m below meth c s₁ hx hby hml hown hnm hret hlk hZ X0 e0
  refine Go.cast (ef_40 m o) ?_
  show Go p e below _ s₁ (mkF m 0 #[sR o, .unset] [])
  refine Go.callS X0 hx (y := (⟨"java/util/Base64", "getDecoder", "()Ljava/util/Base64$Decoder;"⟩ : MethodName)) hown (mvT hZ (hW hw 63 rfl)) (mvT hZ (hW hw 64 rfl)) (mvT hZ (hW hw 65 rfl)) (mvT hZ (hW hw 66 rfl)) (by decide) (Ctr.back (W := 0) (rmGD l Z a0 hw dec SD h0 n0 O) hZ (hW hw 66 rfl) (hW hw 65 rfl) (by (try dsimp only [room_1]); (try simp only [List.length_cons, List.length_nil]); omega) (by (try dsimp only [room_1]); (try simp only [List.length_cons, List.length_nil]); omega)) e0 (g := (mkF m 0 #[sR o, .unset] [])) rfl (by rw [hml]; rfl) (argsL := []) (rest := []) (lenOf pd_41 rfl) rfl (by show 2 * 0 + _ ≤ _; exact Nat.le_of_eq rfl) (hb hby dby_0) rfl (by (try dsimp only [room_1]); (try simp only [List.length_cons, List.length_nil]); omega) (by (try dsimp only [room_1]); (try simp only [List.length_cons, List.length_nil]); omega) ?_
  rintro _ T1 L1 X1 ⟨rfl, N1, e1⟩
  show Go p e below _ T1 (mkF m 3 #[sR o, .unset] [vR dec])
  refine g_aloadN X1 hx 4 (hb hby dby_3) rfl rfl ?_
  refine g_getF X1 hx hZ hown (hW hw 56 rfl) e1 Fb 7 (hb hby dby_4) rfl ?_
  rintro T2 X2 e2
  refine Go.callV X2 hx hZ (C := "java/util/Base64$Decoder") (y := (⟨"java/util/Base64$Decoder", "decode", "(Ljava/lang/String;)[B"⟩ : MethodName)) (z := (⟨"java/util/Base64$Decoder", "decode", "(Ljava/lang/String;)[B"⟩ : MethodName)) hown (mvT hZ (hW hw 69 rfl)) (mvT hZ (hW hw 70 rfl)) (mvT hZ (hW hw 72 rfl)) (mvT hZ (hW hw 71 rfl)) (by decide) (notFace_of_selects (args := #[]) (mvT hZ (hW hw 72 rfl))) (Ctr.back (W := 0) (rmDS l Z a0 hw z SC nC iso u8 SI SU hne xs bs H dec tb SB h0 n0 O E FU FM Tb Z0 a t Es Cd V B Y) hZ (hW hw 73 rfl) (hW hw 68 rfl) (by (try dsimp only [room_1]); (try simp only [List.length_cons, List.length_nil]); omega) (by (try dsimp only [room_1]); (try simp only [List.length_cons, List.length_nil]); omega)) e2 E (g := (mkF m 7 #[sR o, .unset] [vR a, vR dec])) rfl (by rw [hml]; rfl) (argsL := [vR a]) (rest := []) (lenOf pd_42 rfl) rfl (by show 2 * 0 + _ ≤ _; exact Nat.le_of_eq rfl) (hb hby dby_7) rfl (by (try dsimp only [room_1]); (try simp only [List.length_cons, List.length_nil]); omega) (by (try dsimp only [room_1]); (try simp only [List.length_cons, List.length_nil]); omega) ?_
  rintro _ T3 L3 X3 ⟨r, rfl, N3, K3, B3⟩
  show Go p e below _ T3 (mkF m 10 #[sR o, .unset] [vR r])
  exact Go.retV X3 hx hret hlk rfl rfl (hb hby dby_10) ⟨r, rfl, Fr.app (Fr.app (Fr.nil n0) N1) N3, K3, B3⟩ (by (try dsimp only [room_1]); (try simp only [List.length_cons, List.length_nil]); omega) (by (try dsimp only [room_1]); (try simp only [List.length_cons, List.length_nil]); omega)
theorem own_modM (x mk d : Int32) (hm : ¬ mk < 0) (hd : 0 < d.toInt) : ∃ k : Nat, (k : Int) < d.toInt ∧ (x &&& mk) % d = Int32.ofNat k := by
  have h1 : ¬ (x &&& mk) < 0 := fun q => absurd ((XT.and_neg32 _ _).mp q).2 hm
  have h2 : ((x &&& mk) % d).toInt = (x &&& mk).toInt.tmod d.toInt := Int32.toInt_mod ..
  generalize (x &&& mk) = y at h1 h2 ⊢
  rw [XT.negI32] at h1
  rw [Int.tmod_eq_emod_of_nonneg (by omega)] at h2
  have a1 := Int.emod_nonneg y.toInt (b := d.toInt) (by omega)
  have a2 := Int.emod_lt_of_pos y.toInt hd
  have a3 := d.toInt_lt
  refine ⟨(y.toInt % d.toInt).toNat, by omega, ?_⟩
  apply Int32.toInt_inj.mp
  rw [own_toInt (by omega), h2]; omega
theorem own_empty {us : Array UInt16} (h : utf16ToString? us = some "") : own_bytes us = [] := by
  have q := own_units h (by intro c hc; simp at hc)
  have q2 : us.toList = [] := by simpa using q.symm
  unfold own_bytes; rw [q2]; rfl
theorem own_e61 : own_lo (nar .char (61 : Int32)) = 61 := by decide
theorem own_c61 : ¬ (255 : Int32) < nar .char (61 : Int32) := by decide
def Q0 (n0 : Nat) (v : Option Value) (h : Heap) (L : List Loc) : Prop := v = some (.int 1) ∧ Fr n0 L
set_option maxRecDepth 65536 in
set_option maxHeartbeats 40000000 in
theorem rm0 (l : Launch) (Z : State) (a0 : Array Value) (hw : ∀ d ∈ tables_1, d.before a0 Z = true) (ws : List Jvm.Cond) (p0 p1 p2 : Int32) (z : Int32) (SC : Sta Z Z.heap "java/lang/String" "COMPACT_STRINGS" "Z" (.int z)) (nC : ¬ z = 0) (iso u8 : Addr) (SI : Sta Z Z.heap "sun/nio/cs/ISO_8859_1" "INSTANCE" "Lsun/nio/cs/ISO_8859_1;" (.ref iso)) (SU : Sta Z Z.heap "sun/nio/cs/UTF_8" "INSTANCE" "Lsun/nio/cs/UTF_8;" (.ref u8)) (hne : iso ≠ u8) (h0 : Heap) (n0 : Nat) (Z0 : n0 = h0.size) (X00 : Old Z n0 h0) (dec tb : Addr) (SB : Sta Z Z.heap "java/util/Base64$Decoder" "fromBase64" "[I" (.ref tb)) (SD : Sta Z Z.heap "java/util/Base64$Decoder" "RFC4648" "Ljava/util/Base64$Decoder;" (.ref dec)) (E : Exa Z h0 dec "java/util/Base64$Decoder") (FU : Fld Z h0 dec "java/util/Base64$Decoder" "isURL" "Z" (.int 0)) (FM : Fld Z h0 dec "java/util/Base64$Decoder" "isMIME" "Z" (.int 0)) (Tb : AI Z h0 tb .int own_tab) :
    WCtr consts_1 (fun b => b < h0.size) l Z x code maxLocals ret ws room_1 #[(.int p0), (.int p1), (.int p2)] h0 (Q0 n0) := by
  refine WCtr.of (plainFor_of_name pn_12) ?_
  intro p e s m below meth c s₁ hx hby hml hown hnm hret hlk hZ X0 e0 hC0
  have hml : c.maxLocals = 9 := hml
  refine Go.cast (ef_43 m p0 p1 p2) ?_
  show Go p e below _ s₁ (mkF m 0 #[sI p0, sI p1, sI p2, .unset, .unset, .unset, .unset, .unset, .unset] [])
  refine g_iloadN X0 hx 1 (hb hby at_0) rfl rfl ?_
  refine Go.st (fun _ k => X0.ldcI hx hown (mvT hZ (hW hw 0 rfl)) rfl (hb hby at_1) k) ?_
  show Go p e below _ s₁ (mkF m 3 #[sI p0, sI p1, sI p2, .unset, .unset, .unset, .unset, .unset, .unset] [vI 2147483647, vI p2])
  refine g_iand X0 hx 4 (hb hby at_3) rfl rfl ?_
  refine g_bipush X0 hx 6 (hb hby at_4) rfl kb_7 ?_
  refine Go.st (fun _ k => iremM X0 hx rfl (hb hby at_6) rfl (by decide) k) ?_
  show Go p e below _ s₁ (mkF m 7 #[sI p0, sI p1, sI p2, .unset, .unset, .unset, .unset, .unset, .unset] [(vI ((p2 &&& (2147483647 : Int32)) % (7 : Int32)))])
  have hsz : s.heap.size ≤ n0 := by have q := X0.same.2.1; rw [show (s₁.setVm s.vm).heap = h0 from e0] at q; omega
  have UX : ∀ {h : Heap}, Keep h0 h [] → Und (fun b => b < h0.size) h0 h := fun K => (Und.refl _ h0).keep K all0
  have wS : ∀ d ∈ Bundle.stringAtoms, d.before a0 Z = true := fun d hd => hw d ((by decide +kernel : ∀ d ∈ Bundle.stringAtoms, d ∈ tables_1) d hd)
  obtain ⟨n, hn', en⟩ := own_modM p2 (2147483647 : Int32) (7 : Int32) (by decide) (by decide)
  have hn : n ≤ 6 := by have q : ((7 : Int32)).toInt = 7 := rfl; omega
  rw [en]
  clear en hn'
  show Go p e below _ s₁ (mkF m 7 #[sI p0, sI p1, sI p2, .unset, .unset, .unset, .unset, .unset, .unset] [(vI (Int32.ofNat n))])
  refine g_istoreN X0 hx #[sI p0, sI p1, sI p2, (sI (Int32.ofNat n)), .unset, .unset, .unset, .unset, .unset] 8 (hb hby at_7) rfl rfl ?_
  refine g_bipush X0 hx 10 (hb hby at_8) rfl kb_6 ?_
  refine Go.newarr X0 hx hZ (ty := .int) rfl rfl (hW hw 1 rfl) e0 (g := (mkF m 10 #[sI p0, sI p1, sI p2, (sI (Int32.ofNat n)), .unset, .unset, .unset, .unset, .unset] [vI 6])) rfl (hb hby at_10) rfl (n := 6) rfl (by decide) (by (try dsimp only [room_1]); (try simp only [List.length_cons, List.length_nil]); omega) (by (try dsimp only [room_1]); (try simp only [List.length_cons, List.length_nil]); omega) ?_
  rintro T1 h1 X1 e1 E1 l1 A1
  obtain ⟨a1, g1⟩ : ∃ z, z = h0.size := ⟨_, rfl⟩
  rw [← g1] at A1 l1 ⊢
  have sE1 := E1.1
  show Go p e below _ T1 (mkF m 12 #[sI p0, sI p1, sI p2, (sI (Int32.ofNat n)), .unset, .unset, .unset, .unset, .unset] [vR a1])
  refine g_astore X1 hx #[sI p0, sI p1, sI p2, (sI (Int32.ofNat n)), sR a1, .unset, .unset, .unset, .unset] 14 (hb hby at_12) rfl rfl ?_
  refine g_aload X1 hx 16 (hb hby at_14) rfl rfl ?_
  refine g_iconst X1 hx 17 (hb hby at_16) rfl ki_0 ?_
  refine g_iloadN X1 hx 18 (hb hby at_17) rfl rfl ?_
  refine g_sipush X1 hx 21 (hb hby at_18) rfl ks_255 ?_
  refine g_iand X1 hx 22 (hb hby at_21) rfl rfl ?_
  have ha1 : h0.size ≤ a1 := by omega
  have K1 : Keep h0 h1 [] := (Keep.refl h0 []).ext E1
  have N1 : Fr n0 [] := Fr.nil n0
  show Go p e below _ T1 (mkF m 22 #[sI p0, sI p1, sI p2, (sI (Int32.ofNat n)), sR a1, .unset, .unset, .unset, .unset] [(vI (p0 &&& (255 : Int32))), vI 0, vR a1])
  refine g_iastore X1 hx hZ e1 A1 0 rfl (by simp) 23 (hb hby at_22) rfl ?_
  rintro T2 h2 X2 e2 W2 A2
  have sW2 := W2.size
  have K2 := K1.wr W2 (Or.inr ha1)
  have N2 := Fr.snoc X2 N1 (by omega)
  refine g_aload X2 hx 25 (hb hby at_23) rfl rfl ?_
  refine g_iconst X2 hx 26 (hb hby at_25) rfl ki_1 ?_
  refine g_iloadN X2 hx 27 (hb hby at_26) rfl rfl ?_
  refine g_bipush X2 hx 29 (hb hby at_27) rfl kb_8 ?_
  refine g_iushr X2 hx 30 (hb hby at_29) rfl rfl ?_
  refine g_sipush X2 hx 33 (hb hby at_30) rfl ks_255 ?_
  refine g_iand X2 hx 34 (hb hby at_33) rfl rfl ?_
  refine g_iastore X2 hx hZ e2 A2 1 rfl (by simp) 35 (hb hby at_34) rfl ?_
  rintro T3 h3 X3 e3 W3 A3
  have sW3 := W3.size
  have K3 := K2.wr W3 (Or.inr ha1)
  have N3 := Fr.snoc X3 N2 (by omega)
  refine g_aload X3 hx 37 (hb hby at_35) rfl rfl ?_
  refine g_iconst X3 hx 38 (hb hby at_37) rfl ki_2 ?_
  refine g_iloadN X3 hx 39 (hb hby at_38) rfl rfl ?_
  refine g_bipush X3 hx 41 (hb hby at_39) rfl kb_16 ?_
  refine g_iushr X3 hx 42 (hb hby at_41) rfl rfl ?_
  refine g_sipush X3 hx 45 (hb hby at_42) rfl ks_255 ?_
  refine g_iand X3 hx 46 (hb hby at_45) rfl rfl ?_
  refine g_iastore X3 hx hZ e3 A3 2 rfl (by simp) 47 (hb hby at_46) rfl ?_
  rintro T4 h4 X4 e4 W4 A4
  have sW4 := W4.size
  have K4 := K3.wr W4 (Or.inr ha1)
  have N4 := Fr.snoc X4 N3 (by omega)
  refine g_aload X4 hx 49 (hb hby at_47) rfl rfl ?_
  refine g_iconst X4 hx 50 (hb hby at_49) rfl ki_3 ?_
  refine g_iloadN X4 hx 51 (hb hby at_50) rfl rfl ?_
  refine g_sipush X4 hx 54 (hb hby at_51) rfl ks_255 ?_
  refine g_iand X4 hx 55 (hb hby at_54) rfl rfl ?_
  refine g_iastore X4 hx hZ e4 A4 3 rfl (by simp) 56 (hb hby at_55) rfl ?_
  rintro T5 h5 X5 e5 W5 A5
  have sW5 := W5.size
  have K5 := K4.wr W5 (Or.inr ha1)
  have N5 := Fr.snoc X5 N4 (by omega)
  refine g_aload X5 hx 58 (hb hby at_56) rfl rfl ?_
  refine g_iconst X5 hx 59 (hb hby at_58) rfl ki_4 ?_
  refine g_iloadN X5 hx 60 (hb hby at_59) rfl rfl ?_
  refine g_bipush X5 hx 62 (hb hby at_60) rfl kb_8 ?_
  refine g_iushr X5 hx 63 (hb hby at_62) rfl rfl ?_
  refine g_sipush X5 hx 66 (hb hby at_63) rfl ks_255 ?_
  refine g_iand X5 hx 67 (hb hby at_66) rfl rfl ?_
  refine g_iastore X5 hx hZ e5 A5 4 rfl (by simp) 68 (hb hby at_67) rfl ?_
  rintro T6 h6 X6 e6 W6 A6
  have sW6 := W6.size
  have K6 := K5.wr W6 (Or.inr ha1)
  have N6 := Fr.snoc X6 N5 (by omega)
  refine g_aload X6 hx 70 (hb hby at_68) rfl rfl ?_
  refine g_iconst X6 hx 71 (hb hby at_70) rfl ki_5 ?_
  refine g_iloadN X6 hx 72 (hb hby at_71) rfl rfl ?_
  refine g_bipush X6 hx 74 (hb hby at_72) rfl kb_16 ?_
  refine g_iushr X6 hx 75 (hb hby at_74) rfl rfl ?_
  refine g_sipush X6 hx 78 (hb hby at_75) rfl ks_255 ?_
  refine g_iand X6 hx 79 (hb hby at_78) rfl rfl ?_
  refine g_iastore X6 hx hZ e6 A6 5 rfl (by simp) 80 (hb hby at_79) rfl ?_
  rintro T7 h7 X7 e7 W7 A7
  have sW7 := W7.size
  have K7 := K6.wr W7 (Or.inr ha1)
  have N7 := Fr.snoc X7 N6 (by omega)
  obtain ⟨w0, hw0⟩ : ∃ y, y = p0 &&& (255 : Int32) := ⟨_, rfl⟩
  obtain ⟨w1, hw1⟩ : ∃ y, y = (XT.ushr p0 (8 : Int32)) &&& (255 : Int32) := ⟨_, rfl⟩
  obtain ⟨w2, hw2⟩ : ∃ y, y = (XT.ushr p0 (16 : Int32)) &&& (255 : Int32) := ⟨_, rfl⟩
  obtain ⟨w3, hw3⟩ : ∃ y, y = p1 &&& (255 : Int32) := ⟨_, rfl⟩
  obtain ⟨w4, hw4⟩ : ∃ y, y = (XT.ushr p1 (8 : Int32)) &&& (255 : Int32) := ⟨_, rfl⟩
  obtain ⟨w5, hw5⟩ : ∃ y, y = (XT.ushr p1 (16 : Int32)) &&& (255 : Int32) := ⟨_, rfl⟩
  have Av : AI Z h7 a1 .int [w0, w1, w2, w3, w4, w5] := by rw [hw0, hw1, hw2, hw3, hw4, hw5]; exact A7
  refine g_iconst X7 hx 81 (hb hby at_80) rfl ki_4 ?_
  refine Go.newarr X7 hx hZ (ty := .char) rfl rfl (hW hw 2 rfl) e7 (g := (mkF m 81 #[sI p0, sI p1, sI p2, (sI (Int32.ofNat n)), sR a1, .unset, .unset, .unset, .unset] [vI 4])) rfl (hb hby at_81) rfl (n := 4) rfl (by decide) (by (try dsimp only [room_1]); (try simp only [List.length_cons, List.length_nil]); omega) (by (try dsimp only [room_1]); (try simp only [List.length_cons, List.length_nil]); omega) ?_
  rintro T10 h10 X10 e10 E10 l10 A10
  obtain ⟨a10, g10⟩ : ∃ z, z = h7.size := ⟨_, rfl⟩
  rw [← g10] at A10 l10 ⊢
  have sE10 := E10.1
  show Go p e below _ T10 (mkF m 83 #[sI p0, sI p1, sI p2, (sI (Int32.ofNat n)), sR a1, .unset, .unset, .unset, .unset] [vR a10])
  have k7 := K7.1
  refine g_astore X10 hx #[sI p0, sI p1, sI p2, (sI (Int32.ofNat n)), sR a1, sR a10, .unset, .unset, .unset] 85 (hb hby at_83) rfl rfl ?_
  refine g_bipush X10 hx 87 (hb hby at_85) rfl kb_8 ?_
  refine Go.newarr X10 hx hZ (ty := .char) rfl rfl (hW hw 2 rfl) e10 (g := (mkF m 87 #[sI p0, sI p1, sI p2, (sI (Int32.ofNat n)), sR a1, sR a10, .unset, .unset, .unset] [vI 8])) rfl (hb hby at_87) rfl (n := 8) rfl (by decide) (by (try dsimp only [room_1]); (try simp only [List.length_cons, List.length_nil]); omega) (by (try dsimp only [room_1]); (try simp only [List.length_cons, List.length_nil]); omega) ?_
  rintro T11 h11 X11 e11 E11 l11 A11
  obtain ⟨a11, g11⟩ : ∃ z, z = h10.size := ⟨_, rfl⟩
  rw [← g11] at A11 l11 ⊢
  have sE11 := E11.1
  show Go p e below _ T11 (mkF m 89 #[sI p0, sI p1, sI p2, (sI (Int32.ofNat n)), sR a1, sR a10, .unset, .unset, .unset] [vR a11])
  refine g_astore X11 hx #[sI p0, sI p1, sI p2, (sI (Int32.ofNat n)), sR a1, sR a10, sR a11, .unset, .unset] 91 (hb hby at_89) rfl rfl ?_
  refine g_iloadN X11 hx 92 (hb hby at_91) rfl rfl ?_
  have Av11 := (Av.ext E10).ext E11
  have A10' := A10.ext E11
  have K11 := (K7.ext E10).ext E11
  have k11 := K11.1
  have la1 := Av.lt
  have n1_10 : a1 ≠ a10 := Nat.ne_of_lt (Nat.lt_of_lt_of_eq Av.lt g10.symm)
  have n1_11 : a1 ≠ a11 := Nat.ne_of_lt (Nat.lt_of_lt_of_eq (Av.ext E10).lt g11.symm)
  have ha10 : n0 ≤ a10 := by omega
  have ha11 : n0 ≤ a11 := by omega
  show Go p e below _ T11 (mkF m 92 #[sI p0, sI p1, sI p2, (sI (Int32.ofNat n)), sR a1, sR a10, sR a11, .unset, .unset] [(vI (Int32.ofNat n))])
  have tl : ∀ (n : Nat) (ds bs : List Int32) (sb : State) (nb : Nat) (T : State) (locs : List Loc) (cells slots : Nat) (sr t : Addr), n ≤ 6 → bs.length = n → ds.length ≤ 8 → (∀ k, k < n → ∃ x y, bs[k]? = some x ∧ ([w0, w1, w2, w3, w4, w5] : List Int32)[k]? = some y ∧ x = y.toInt8.toInt32) → Dec ds bs →
      Stand p l e room_1 sb m #[(.int p0), (.int p1), (.int p2)] below meth c T locs cells slots → cells ≤ 20 → slots ≤ 2000 → Bas s sb nb → nb ≤ T.heap.size → Z.Warmed39 sb.vm → sb.vm.findClass "com/example/poste_restante/posterestante/BlockBytesPinLaw" = some m.cls → CHb consts_1 (fun b => b < Array.size T.heap) sb T.heap → sb.heap.size ≤ n0 → Keep h0 T.heap [] → Fr n0 locs →
      Exa Z T.heap sr "java/lang/String" → Fld Z T.heap sr "java/lang/String" "coder" "B" (.int 0) → Fld Z T.heap sr "java/lang/String" "value" "[B" (.ref t) → AI Z T.heap t .byte ds → Exa Z T.heap t "[B" → AI Z T.heap a1 .int ([w0, w1, w2, w3, w4, w5] : List Int32) →
      Go p e below (EndW consts_1 s (Q0 n0) room_1.cells room_1.slots) T (mkF m 191 #[sI p0, sI p1, sI p2, (sI (Int32.ofNat n)), sR a1, sR a10, sR a11, sR sr, .unset] []) := by
    intro n ds bs sb nb T locs cells slots sr t hn hl hds hk H X hcl hsl hBb hnb hZb hownb hCh hsb Kh hN Es Cd Vs Bs Yt Av
    have kh := Kh.1
    obtain ⟨T30, h30, X30, e30, E30, A30, D30, -, st30⟩ := newO X hx hZb hownb (hW hw 39 rfl) (hW hw 40 rfl) (hW hw 41 rfl) rfl (g := (mkF m 191 #[sI p0, sI p1, sI p2, (sI (Int32.ofNat n)), sR a1, sR a10, sR a11, sR sr, .unset] [])) rfl (hb hby at_191) (by (try dsimp only [room_1]); (try simp only [List.length_cons, List.length_nil]); omega) (by (try dsimp only [room_1]); (try simp only [List.length_cons, List.length_nil]); omega)
    obtain ⟨a30, g30⟩ : ∃ z, z = T.heap.size := ⟨_, rfl⟩
    rw [← g30] at A30 D30 st30
    have l30 : a30 < h30.size := A30.lt
    have sE30 := E30.1
    refine Go.st st30 ?_
    show Go p e below _ T30 (mkF m 194 #[sI p0, sI p1, sI p2, (sI (Int32.ofNat n)), sR a1, sR a10, sR a11, sR sr, .unset] [vR a30])
    refine g_dup X30 hx 195 (hb hby at_194) rfl rfl ?_
    have Fl := (D30 (Or.inr (hW hw 55 rfl)) (ty := (.object "java/lang/String")) (by decide))
    have Fb := (D30 (Or.inr (hW hw 57 rfl)) (ty := (.object "java/lang/String")) (by decide))
    refine Go.ldcW X30 hx hBb (Nat.le_trans hnb (by rw [e30]; exact sE30)) hZb hownb (hW hw 42 rfl) wS (by decide) hCh (by rw [e30]; exact (Und.refl _ _).ext E30) (by simp [consts_1, x]) (fun y hy => Nat.le_trans hsb (hN y hy)) (g := (mkF m 195 #[sI p0, sI p1, sI p2, (sI (Int32.ofNat n)), sR a1, sR a10, sR a11, sR sr, .unset] [vR a30, vR a30])) rfl (hb hby at_195) (nn := 4) (by decide) (by decide) (by (try dsimp only [room_1]); (try simp only [List.length_cons, List.length_nil]); omega) (by (try dsimp only [room_1]); (try simp only [List.length_cons, List.length_nil]); omega) ?_
    rintro a31 v31 s31 T31 us31 locs31 hun31 hB31 hZ31 hown31 hC31 E31 hsh31 hloc31 X31 hres31 F31 V31 G31 B31 hpl31
    show Go p e below _ T31 (mkF m 197 #[sI p0, sI p1, sI p2, (sI (Int32.ofNat n)), sR a1, sR a10, sR a11, sR sr, .unset] [vR a31, vR a30, vR a30])
    have Q31 : Ext h30 T31.heap := e30 ▸ E31
    have Qh : Ext T.heap T31.heap := own_ext E30 Q31
    have k31 := Qh.1
    have kq := Q31.1
    have N31 : Fr n0 locs31 := fun y hy => hN y (hloc31 y hy)
    refine g_aload X31 hx 199 (hb hby at_197) rfl rfl ?_
    refine Go.callI X31 hx (y := (⟨"com/example/poste_restante/posterestante/Pem$Block", "<init>", "(Ljava/lang/String;Ljava/lang/String;)V"⟩ : MethodName)) rfl hown31 (mvT hZ31 (hW hw 45 rfl)) (mvT hZ31 (hW hw 46 rfl)) (mvT hZ31 (hW hw 47 rfl)) (by decide) (Ctr.back (W := 1) (rmBI l Z a0 hw a30 a31 sr _ _ T31.heap n0 (by omega) (A30.ext Q31) (Fl.ext Q31) (Fb.ext Q31)) hZ31 (hW hw 47 rfl) (hW hw 41 rfl) (by (try dsimp only [room_1]); (try simp only [List.length_cons, List.length_nil]); omega) (by (try dsimp only [room_1]); (try simp only [List.length_cons, List.length_nil]); omega)) rfl (g := (mkF m 199 #[sI p0, sI p1, sI p2, (sI (Int32.ofNat n)), sR a1, sR a10, sR a11, sR sr, .unset] [vR sr, vR a31, vR a30, vR a30])) rfl (by rw [hml]; rfl) (a := a30) (argsL := [vR a31, vR sr]) (rest := [vR a30]) (lenOf pd_44 rfl) rfl (by show 2 * 0 + _ ≤ _; exact Nat.le_of_eq rfl) (hb hby at_199) rfl (by (try dsimp only [room_1]); (try simp only [List.length_cons, List.length_nil]); omega) (by (try dsimp only [room_1]); (try simp only [List.length_cons, List.length_nil]); omega) ?_
    rintro _ T32 L32 X32 ⟨rfl, N32q, K32, E32, F32⟩
    show Go p e below _ T32 (mkF m 202 #[sI p0, sI p1, sI p2, (sI (Int32.ofNat n)), sR a1, sR a10, sR a11, sR sr, .unset] [vR a30])
    have k32 := K32.1
    have N32 := Fr.app N31 N32q
    have K032 : Keep h0 T32.heap [] := (Kh.ext Qh).trans K32 (fun x q => Or.inr (by cases List.mem_singleton.mp q; omega))
    have k032 := K032.1
    have ns : sr ≠ a30 := Nat.ne_of_lt (Nat.lt_of_lt_of_eq (Es).lt g30.symm)
    have nt : t ≠ a30 := Nat.ne_of_lt (Nat.lt_of_lt_of_eq (Bs).lt g30.symm)
    have nv : a1 ≠ a30 := Nat.ne_of_lt (Nat.lt_of_lt_of_eq (Av).lt g30.symm)
    have O32 : Ext Z.heap T32.heap := (X00.keep K032 all0).2
    refine Go.callV X32 hx hZ31 (C := "com/example/poste_restante/posterestante/Pem$Block") (y := (⟨"com/example/poste_restante/posterestante/Pem$Block", "bytes", "()[B"⟩ : MethodName)) (z := (⟨"com/example/poste_restante/posterestante/Pem$Block", "bytes", "()[B"⟩ : MethodName)) hown31 (mvT hZ31 (hW hw 58 rfl)) (mvT hZ31 (hW hw 59 rfl)) (mvT hZ31 (hW hw 61 rfl)) (mvT hZ31 (hW hw 60 rfl)) (by decide) (notFace_of_selects (args := #[]) (mvT hZ31 (hW hw 61 rfl))) (CtrH.back (W := 0) (rmBY l Z a0 hw z SC nC iso u8 SI SU hne ds bs H dec tb SB T32.heap n0 O32 (E.keep K032) (FU.keep K032 nin0) (FM.keep K032 nin0) (Tb.keep K032 nin0) (by omega) sr t (((Es).ext Qh).keep K32) (((Cd).ext Qh).keep K32 (ninS ns nin0)) (((Vs).ext Qh).keep K32 (ninS ns nin0)) (((Bs).ext Qh).keep K32 (ninS nt nin0)) (((Yt).ext Qh).keep K32) SD a30 F32) hZ31 (hW hw 62 rfl) (hW hw 41 rfl) (by (try dsimp only [room_1]); (try simp only [List.length_cons, List.length_nil]); omega) (by (try dsimp only [room_1]); (try simp only [List.length_cons, List.length_nil]); omega)) rfl E32 (g := (mkF m 202 #[sI p0, sI p1, sI p2, (sI (Int32.ofNat n)), sR a1, sR a10, sR a11, sR sr, .unset] [vR a30])) rfl (by rw [hml]; rfl) (argsL := []) (rest := []) (lenOf pd_45 rfl) rfl (by show 2 * 0 + _ ≤ _; exact Nat.le_of_eq rfl) (hb hby at_202) rfl (by (try dsimp only [room_1]); (try simp only [List.length_cons, List.length_nil]); omega) (by (try dsimp only [room_1]); (try simp only [List.length_cons, List.length_nil]); omega) ?_
    rintro _ T33 L33 X33 ⟨r, rfl, N33q, K33, B33⟩
    show Go p e below _ T33 (mkF m 205 #[sI p0, sI p1, sI p2, (sI (Int32.ofNat n)), sR a1, sR a10, sR a11, sR sr, .unset] [vR r])
    have N33 := Fr.app N32 N33q
    have Av33 := AI.keep (((Av).ext Qh).keep K32 (ninS nv nin0)) K33 nin0
    have hq : ¬ ((fun b => b < Array.size T.heap) a30 ∨ T30.heap.size ≤ a30) := fun z => z.elim (fun q => by have q : a30 < Array.size T.heap := q; omega) (fun q => by rw [e30] at q; omega)
    have U33 : Und (fun b => (fun b => b < Array.size T.heap) b ∨ T30.heap.size ≤ b) T31.heap T33.heap := ((Und.refl _ _).keep K32 (allS hq all0)).keep K33 all0
    refine g_astore X33 hx #[sI p0, sI p1, sI p2, (sI (Int32.ofNat n)), sR a1, sR a10, sR a11, sR sr, sR r] 207 (hb hby at_205) rfl rfl ?_
    refine g_aload X33 hx 209 (hb hby at_207) rfl rfl ?_
    refine g_alen X33 hx hZ31 rfl B33 (z := Int32.ofNat n) (by rw [hl]) 210 (hb hby at_209) rfl ?_
    refine g_iloadN X33 hx 211 (hb hby at_210) rfl rfl ?_
    refine g_icY X33 hx 216 (hb hby at_211) (by decide) (XT.ii_eq_t rfl) ?_
    refine g_aload X33 hx 218 (hb hby at_216) rfl rfl ?_
    refine g_aload X33 hx 220 (hb hby at_218) rfl rfl ?_
    refine g_iconst X33 hx 221 (hb hby at_220) rfl ki_0 ?_
    refine g_iloadN X33 hx 222 (hb hby at_221) rfl rfl ?_
    show Go p e below _ T33 (mkF m 222 #[sI p0, sI p1, sI p2, (sI (Int32.ofNat n)), sR a1, sR a10, sR a11, sR sr, sR r] [(vI (Int32.ofNat n)), (vI (Int32.ofNat 0)), vR a1, vR r])
    refine Go.callS X33 hx (y := (⟨"com/example/poste_restante/posterestante/BlockBytesPinLaw", "at", "([B[III)Z"⟩ : MethodName)) hown31 (mvT hZ31 (hW hw 129 rfl)) (mvT hZ31 (hW hw 130 rfl)) (mvT hZ31 (hW hw 5 rfl)) (mvT hZ31 (hW hw 131 rfl)) (by decide) (Ctr.back (W := 0) (rmAT l Z a0 hw r a1 bs ([w0, w1, w2, w3, w4, w5] : List Int32) 0 n (by decide) (by omega) (hk 0) T33.heap n0 B33 Av33) hZ31 (hW hw 131 rfl) (hW hw 5 rfl) (by (try dsimp only [room_1]); (try simp only [List.length_cons, List.length_nil]); omega) (by (try dsimp only [room_1]); (try simp only [List.length_cons, List.length_nil]); omega)) rfl (g := (mkF m 222 #[sI p0, sI p1, sI p2, (sI (Int32.ofNat n)), sR a1, sR a10, sR a11, sR sr, sR r] [(vI (Int32.ofNat n)), (vI (Int32.ofNat 0)), vR a1, vR r])) rfl (by rw [hml]; rfl) (argsL := [vR r, vR a1, (vI (Int32.ofNat 0)), (vI (Int32.ofNat n))]) (rest := []) (lenOf pd_46 rfl) rfl (by show 2 * 0 + _ ≤ _; exact Nat.le_of_eq rfl) (hb hby at_222) rfl (by (try dsimp only [room_1]); (try simp only [List.length_cons, List.length_nil]); omega) (by (try dsimp only [room_1]); (try simp only [List.length_cons, List.length_nil]); omega) ?_
    rintro _ T34 L34 X34 ⟨rfl, N34q, e34⟩
    show Go p e below _ T34 (mkF m 225 #[sI p0, sI p1, sI p2, (sI (Int32.ofNat n)), sR a1, sR a10, sR a11, sR sr, sR r] [vI 1])
    have N34 := Fr.app N33 N34q
    refine g_ifN X34 hx 228 (hb hby at_225) rfl (XT.i0_eq_f (by decide)) ?_
    refine g_aload X34 hx 230 (hb hby at_228) rfl rfl ?_
    refine g_aload X34 hx 232 (hb hby at_230) rfl rfl ?_
    refine g_iconst X34 hx 233 (hb hby at_232) rfl ki_1 ?_
    refine g_iloadN X34 hx 234 (hb hby at_233) rfl rfl ?_
    show Go p e below _ T34 (mkF m 234 #[sI p0, sI p1, sI p2, (sI (Int32.ofNat n)), sR a1, sR a10, sR a11, sR sr, sR r] [(vI (Int32.ofNat n)), (vI (Int32.ofNat 1)), vR a1, vR r])
    refine Go.callS X34 hx (y := (⟨"com/example/poste_restante/posterestante/BlockBytesPinLaw", "at", "([B[III)Z"⟩ : MethodName)) hown31 (mvT hZ31 (hW hw 129 rfl)) (mvT hZ31 (hW hw 130 rfl)) (mvT hZ31 (hW hw 5 rfl)) (mvT hZ31 (hW hw 131 rfl)) (by decide) (Ctr.back (W := 0) (rmAT l Z a0 hw r a1 bs ([w0, w1, w2, w3, w4, w5] : List Int32) 1 n (by decide) (by omega) (hk 1) T33.heap n0 B33 Av33) hZ31 (hW hw 131 rfl) (hW hw 5 rfl) (by (try dsimp only [room_1]); (try simp only [List.length_cons, List.length_nil]); omega) (by (try dsimp only [room_1]); (try simp only [List.length_cons, List.length_nil]); omega)) e34 (g := (mkF m 234 #[sI p0, sI p1, sI p2, (sI (Int32.ofNat n)), sR a1, sR a10, sR a11, sR sr, sR r] [(vI (Int32.ofNat n)), (vI (Int32.ofNat 1)), vR a1, vR r])) rfl (by rw [hml]; rfl) (argsL := [vR r, vR a1, (vI (Int32.ofNat 1)), (vI (Int32.ofNat n))]) (rest := []) (lenOf pd_46 rfl) rfl (by show 2 * 0 + _ ≤ _; exact Nat.le_of_eq rfl) (hb hby at_234) rfl (by (try dsimp only [room_1]); (try simp only [List.length_cons, List.length_nil]); omega) (by (try dsimp only [room_1]); (try simp only [List.length_cons, List.length_nil]); omega) ?_
    rintro _ T35 L35 X35 ⟨rfl, N35q, e35⟩
    show Go p e below _ T35 (mkF m 237 #[sI p0, sI p1, sI p2, (sI (Int32.ofNat n)), sR a1, sR a10, sR a11, sR sr, sR r] [vI 1])
    have N35 := Fr.app N34 N35q
    refine g_ifN X35 hx 240 (hb hby at_237) rfl (XT.i0_eq_f (by decide)) ?_
    refine g_aload X35 hx 242 (hb hby at_240) rfl rfl ?_
    refine g_aload X35 hx 244 (hb hby at_242) rfl rfl ?_
    refine g_iconst X35 hx 245 (hb hby at_244) rfl ki_2 ?_
    refine g_iloadN X35 hx 246 (hb hby at_245) rfl rfl ?_
    show Go p e below _ T35 (mkF m 246 #[sI p0, sI p1, sI p2, (sI (Int32.ofNat n)), sR a1, sR a10, sR a11, sR sr, sR r] [(vI (Int32.ofNat n)), (vI (Int32.ofNat 2)), vR a1, vR r])
    refine Go.callS X35 hx (y := (⟨"com/example/poste_restante/posterestante/BlockBytesPinLaw", "at", "([B[III)Z"⟩ : MethodName)) hown31 (mvT hZ31 (hW hw 129 rfl)) (mvT hZ31 (hW hw 130 rfl)) (mvT hZ31 (hW hw 5 rfl)) (mvT hZ31 (hW hw 131 rfl)) (by decide) (Ctr.back (W := 0) (rmAT l Z a0 hw r a1 bs ([w0, w1, w2, w3, w4, w5] : List Int32) 2 n (by decide) (by omega) (hk 2) T33.heap n0 B33 Av33) hZ31 (hW hw 131 rfl) (hW hw 5 rfl) (by (try dsimp only [room_1]); (try simp only [List.length_cons, List.length_nil]); omega) (by (try dsimp only [room_1]); (try simp only [List.length_cons, List.length_nil]); omega)) e35 (g := (mkF m 246 #[sI p0, sI p1, sI p2, (sI (Int32.ofNat n)), sR a1, sR a10, sR a11, sR sr, sR r] [(vI (Int32.ofNat n)), (vI (Int32.ofNat 2)), vR a1, vR r])) rfl (by rw [hml]; rfl) (argsL := [vR r, vR a1, (vI (Int32.ofNat 2)), (vI (Int32.ofNat n))]) (rest := []) (lenOf pd_46 rfl) rfl (by show 2 * 0 + _ ≤ _; exact Nat.le_of_eq rfl) (hb hby at_246) rfl (by (try dsimp only [room_1]); (try simp only [List.length_cons, List.length_nil]); omega) (by (try dsimp only [room_1]); (try simp only [List.length_cons, List.length_nil]); omega) ?_
    rintro _ T36 L36 X36 ⟨rfl, N36q, e36⟩
    show Go p e below _ T36 (mkF m 249 #[sI p0, sI p1, sI p2, (sI (Int32.ofNat n)), sR a1, sR a10, sR a11, sR sr, sR r] [vI 1])
    have N36 := Fr.app N35 N36q
    refine g_ifN X36 hx 252 (hb hby at_249) rfl (XT.i0_eq_f (by decide)) ?_
    refine g_aload X36 hx 254 (hb hby at_252) rfl rfl ?_
    refine g_aload X36 hx 256 (hb hby at_254) rfl rfl ?_
    refine g_iconst X36 hx 257 (hb hby at_256) rfl ki_3 ?_
    refine g_iloadN X36 hx 258 (hb hby at_257) rfl rfl ?_
    show Go p e below _ T36 (mkF m 258 #[sI p0, sI p1, sI p2, (sI (Int32.ofNat n)), sR a1, sR a10, sR a11, sR sr, sR r] [(vI (Int32.ofNat n)), (vI (Int32.ofNat 3)), vR a1, vR r])
    refine Go.callS X36 hx (y := (⟨"com/example/poste_restante/posterestante/BlockBytesPinLaw", "at", "([B[III)Z"⟩ : MethodName)) hown31 (mvT hZ31 (hW hw 129 rfl)) (mvT hZ31 (hW hw 130 rfl)) (mvT hZ31 (hW hw 5 rfl)) (mvT hZ31 (hW hw 131 rfl)) (by decide) (Ctr.back (W := 0) (rmAT l Z a0 hw r a1 bs ([w0, w1, w2, w3, w4, w5] : List Int32) 3 n (by decide) (by omega) (hk 3) T33.heap n0 B33 Av33) hZ31 (hW hw 131 rfl) (hW hw 5 rfl) (by (try dsimp only [room_1]); (try simp only [List.length_cons, List.length_nil]); omega) (by (try dsimp only [room_1]); (try simp only [List.length_cons, List.length_nil]); omega)) e36 (g := (mkF m 258 #[sI p0, sI p1, sI p2, (sI (Int32.ofNat n)), sR a1, sR a10, sR a11, sR sr, sR r] [(vI (Int32.ofNat n)), (vI (Int32.ofNat 3)), vR a1, vR r])) rfl (by rw [hml]; rfl) (argsL := [vR r, vR a1, (vI (Int32.ofNat 3)), (vI (Int32.ofNat n))]) (rest := []) (lenOf pd_46 rfl) rfl (by show 2 * 0 + _ ≤ _; exact Nat.le_of_eq rfl) (hb hby at_258) rfl (by (try dsimp only [room_1]); (try simp only [List.length_cons, List.length_nil]); omega) (by (try dsimp only [room_1]); (try simp only [List.length_cons, List.length_nil]); omega) ?_
    rintro _ T37 L37 X37 ⟨rfl, N37q, e37⟩
    show Go p e below _ T37 (mkF m 261 #[sI p0, sI p1, sI p2, (sI (Int32.ofNat n)), sR a1, sR a10, sR a11, sR sr, sR r] [vI 1])
    have N37 := Fr.app N36 N37q
    refine g_ifN X37 hx 264 (hb hby at_261) rfl (XT.i0_eq_f (by decide)) ?_
    refine g_aload X37 hx 266 (hb hby at_264) rfl rfl ?_
    refine g_aload X37 hx 268 (hb hby at_266) rfl rfl ?_
    refine g_iconst X37 hx 269 (hb hby at_268) rfl ki_4 ?_
    refine g_iloadN X37 hx 270 (hb hby at_269) rfl rfl ?_
    show Go p e below _ T37 (mkF m 270 #[sI p0, sI p1, sI p2, (sI (Int32.ofNat n)), sR a1, sR a10, sR a11, sR sr, sR r] [(vI (Int32.ofNat n)), (vI (Int32.ofNat 4)), vR a1, vR r])
    refine Go.callS X37 hx (y := (⟨"com/example/poste_restante/posterestante/BlockBytesPinLaw", "at", "([B[III)Z"⟩ : MethodName)) hown31 (mvT hZ31 (hW hw 129 rfl)) (mvT hZ31 (hW hw 130 rfl)) (mvT hZ31 (hW hw 5 rfl)) (mvT hZ31 (hW hw 131 rfl)) (by decide) (Ctr.back (W := 0) (rmAT l Z a0 hw r a1 bs ([w0, w1, w2, w3, w4, w5] : List Int32) 4 n (by decide) (by omega) (hk 4) T33.heap n0 B33 Av33) hZ31 (hW hw 131 rfl) (hW hw 5 rfl) (by (try dsimp only [room_1]); (try simp only [List.length_cons, List.length_nil]); omega) (by (try dsimp only [room_1]); (try simp only [List.length_cons, List.length_nil]); omega)) e37 (g := (mkF m 270 #[sI p0, sI p1, sI p2, (sI (Int32.ofNat n)), sR a1, sR a10, sR a11, sR sr, sR r] [(vI (Int32.ofNat n)), (vI (Int32.ofNat 4)), vR a1, vR r])) rfl (by rw [hml]; rfl) (argsL := [vR r, vR a1, (vI (Int32.ofNat 4)), (vI (Int32.ofNat n))]) (rest := []) (lenOf pd_46 rfl) rfl (by show 2 * 0 + _ ≤ _; exact Nat.le_of_eq rfl) (hb hby at_270) rfl (by (try dsimp only [room_1]); (try simp only [List.length_cons, List.length_nil]); omega) (by (try dsimp only [room_1]); (try simp only [List.length_cons, List.length_nil]); omega) ?_
    rintro _ T38 L38 X38 ⟨rfl, N38q, e38⟩
    show Go p e below _ T38 (mkF m 273 #[sI p0, sI p1, sI p2, (sI (Int32.ofNat n)), sR a1, sR a10, sR a11, sR sr, sR r] [vI 1])
    have N38 := Fr.app N37 N38q
    refine g_ifN X38 hx 276 (hb hby at_273) rfl (XT.i0_eq_f (by decide)) ?_
    refine g_aload X38 hx 278 (hb hby at_276) rfl rfl ?_
    refine g_aload X38 hx 280 (hb hby at_278) rfl rfl ?_
    refine g_iconst X38 hx 281 (hb hby at_280) rfl ki_5 ?_
    refine g_iloadN X38 hx 282 (hb hby at_281) rfl rfl ?_
    show Go p e below _ T38 (mkF m 282 #[sI p0, sI p1, sI p2, (sI (Int32.ofNat n)), sR a1, sR a10, sR a11, sR sr, sR r] [(vI (Int32.ofNat n)), (vI (Int32.ofNat 5)), vR a1, vR r])
    refine Go.callS X38 hx (y := (⟨"com/example/poste_restante/posterestante/BlockBytesPinLaw", "at", "([B[III)Z"⟩ : MethodName)) hown31 (mvT hZ31 (hW hw 129 rfl)) (mvT hZ31 (hW hw 130 rfl)) (mvT hZ31 (hW hw 5 rfl)) (mvT hZ31 (hW hw 131 rfl)) (by decide) (Ctr.back (W := 0) (rmAT l Z a0 hw r a1 bs ([w0, w1, w2, w3, w4, w5] : List Int32) 5 n (by decide) (by omega) (hk 5) T33.heap n0 B33 Av33) hZ31 (hW hw 131 rfl) (hW hw 5 rfl) (by (try dsimp only [room_1]); (try simp only [List.length_cons, List.length_nil]); omega) (by (try dsimp only [room_1]); (try simp only [List.length_cons, List.length_nil]); omega)) e38 (g := (mkF m 282 #[sI p0, sI p1, sI p2, (sI (Int32.ofNat n)), sR a1, sR a10, sR a11, sR sr, sR r] [(vI (Int32.ofNat n)), (vI (Int32.ofNat 5)), vR a1, vR r])) rfl (by rw [hml]; rfl) (argsL := [vR r, vR a1, (vI (Int32.ofNat 5)), (vI (Int32.ofNat n))]) (rest := []) (lenOf pd_46 rfl) rfl (by show 2 * 0 + _ ≤ _; exact Nat.le_of_eq rfl) (hb hby at_282) rfl (by (try dsimp only [room_1]); (try simp only [List.length_cons, List.length_nil]); omega) (by (try dsimp only [room_1]); (try simp only [List.length_cons, List.length_nil]); omega) ?_
    rintro _ T39 L39 X39 ⟨rfl, N39q, e39⟩
    show Go p e below _ T39 (mkF m 285 #[sI p0, sI p1, sI p2, (sI (Int32.ofNat n)), sR a1, sR a10, sR a11, sR sr, sR r] [vI 1])
    have N39 := Fr.app N38 N39q
    refine g_ifN X39 hx 288 (hb hby at_285) rfl (XT.i0_eq_f (by decide)) ?_
    refine g_iconst X39 hx 289 (hb hby at_288) rfl ki_1 ?_
    refine g_goto X39 hx 293 (hb hby at_289) (by decide) ?_
    exact Go.retBW X39 hx hB31 (by rw [e39]; exact U33.1) hC31 (by rw [e39]; exact U33) hret hlk (Or.inl rfl) (hb hby at_293) ⟨rfl, N39⟩ (by (try dsimp only [room_1]); (try simp only [List.length_cons, List.length_nil]); omega) (by (try dsimp only [room_1]); (try simp only [List.length_cons, List.length_nil]); omega)
  rcases (by omega : n = 0 ∨ n = 1 ∨ n = 2 ∨ n = 3 ∨ n = 4 ∨ n = 5 ∨ n = 6) with rfl | rfl | rfl | rfl | rfl | rfl | rfl
  · skip
    show Go p e below _ T11 (mkF m 92 #[sI p0, sI p1, sI p2, sI 0, sR a1, sR a10, sR a11, .unset, .unset] [vI 0])
    refine g_ifN X11 hx 95 (hb hby at_92) rfl (XT.i0_ne_f (by decide)) ?_
    refine Go.ldcW X11 hx (Bas.refl s 0) (Nat.zero_le _) hZ hown (hW hw 137 rfl) wS (by intro c hc; simp at hc) hC0 (by rw [e11]; exact UX K11) (by simp [consts_1, x]) (fun y hy => Nat.le_trans hsz (N7 y hy)) (g := (mkF m 95 #[sI p0, sI p1, sI p2, sI 0, sR a1, sR a10, sR a11, .unset, .unset] [])) rfl (hb hby at_95) (nn := 0) (by decide) (by decide) (by (try dsimp only [room_1]); (try simp only [List.length_cons, List.length_nil]); omega) (by (try dsimp only [room_1]); (try simp only [List.length_cons, List.length_nil]); omega) ?_
    rintro a20 v20 s20 T20 us20 locs20 hun20 hB20 hZ20 hown20 hC20 E20 hsh20 hloc20 X20 hres20 F20 V20 G20 B20 hpl20
    show Go p e below _ T20 (mkF m 97 #[sI p0, sI p1, sI p2, sI 0, sR a1, sR a10, sR a11, .unset, .unset] [vR a20])
    rw [own_empty hun20] at B20
    have Q20 : Ext h11 T20.heap := e11 ▸ E20
    have q20 := Q20.1
    have Y20 := own_litE hZ20 hown20 (hW hw 137 rfl) (by intro c hc; simp at hc) hC20 (by simp [consts_1, x]) hres20 V20
    have N20 : Fr n0 locs20 := fun y hy => N7 y (hloc20 y hy)
    refine g_astore X20 hx #[sI p0, sI p1, sI p2, sI 0, sR a1, sR a10, sR a11, sR a20, .unset] 99 (hb hby at_97) rfl rfl ?_
    refine g_goto X20 hx 191 (hb hby at_99) (by decide) ?_
    exact tl 0 _ [] _ _ _ _ _ _ _ _ (hr rfl) rfl (hr rfl) (fun k q => absurd q (Nat.not_lt_zero k)) (Or.inl ⟨rfl, rfl⟩) X20 (hr rfl) (hr rfl) hB20 (Nat.le_refl _) hZ20 hown20 (CHn.lt hC20) (by rw [hsh20]; exact hsz) (K11.ext Q20) N20 F20 G20 V20 B20 Y20 (Av11.ext Q20)
  · skip
    show Go p e below _ T11 (mkF m 92 #[sI p0, sI p1, sI p2, sI 1, sR a1, sR a10, sR a11, .unset, .unset] [vI 1])
    refine g_ifY X11 hx 102 (hb hby at_92) (by decide) (XT.i0_ne_t (by decide)) ?_
    refine g_iloadN X11 hx 103 (hb hby at_102) rfl rfl ?_
    refine g_iconst X11 hx 104 (hb hby at_103) rfl ki_3 ?_
    refine g_icN X11 hx 107 (hb hby at_104) rfl (XT.ii_gt_f (by decide)) ?_
    refine g_aload X11 hx 109 (hb hby at_107) rfl rfl ?_
    refine g_iconst X11 hx 110 (hb hby at_109) rfl ki_0 ?_
    refine g_aload X11 hx 112 (hb hby at_110) rfl rfl ?_
    refine g_iconst X11 hx 113 (hb hby at_112) rfl ki_0 ?_
    refine g_iaload X11 hx hZ e11 Av11 0 (x := w0) rfl rfl 114 (hb hby at_113) rfl ?_
    refine g_aload X11 hx 116 (hb hby at_114) rfl rfl ?_
    refine g_iconst X11 hx 117 (hb hby at_116) rfl ki_1 ?_
    refine g_iaload X11 hx hZ e11 Av11 1 (x := w1) rfl rfl 118 (hb hby at_117) rfl ?_
    refine g_aload X11 hx 120 (hb hby at_118) rfl rfl ?_
    refine g_iconst X11 hx 121 (hb hby at_120) rfl ki_2 ?_
    refine g_iaload X11 hx hZ e11 Av11 2 (x := w2) rfl rfl 122 (hb hby at_121) rfl ?_
    refine g_iloadN X11 hx 123 (hb hby at_122) rfl rfl ?_
    refine Go.callS X11 hx (y := (⟨"com/example/poste_restante/posterestante/BlockBytesPinLaw", "group", "([CIIIII)V"⟩ : MethodName)) hown (mvT hZ (hW hw 3 rfl)) (mvT hZ (hW hw 4 rfl)) (mvT hZ (hW hw 5 rfl)) (mvT hZ (hW hw 6 rfl)) (by decide) (Ctr.back (W := 0) (rmG_0_1 l Z a0 hw a10 w0 w1 w2 (List.replicate 4 0) (by first | decide | simp) h11 n0 ha10 A10') hZ (hW hw 6 rfl) (hW hw 5 rfl) (by (try dsimp only [room_1]); (try simp only [List.length_cons, List.length_nil]); omega) (by (try dsimp only [room_1]); (try simp only [List.length_cons, List.length_nil]); omega)) e11 (g := (mkF m 123 #[sI p0, sI p1, sI p2, sI 1, sR a1, sR a10, sR a11, .unset, .unset] [vI 1, vI w2, vI w1, vI w0, vI 0, vR a10])) rfl (by rw [hml]; rfl) (argsL := [vR a10, vI 0, vI w0, vI w1, vI w2, vI 1]) (rest := []) (lenOf pd_47 rfl) rfl (by show 2 * 0 + _ ≤ _; exact Nat.le_of_eq rfl) (hb hby at_123) rfl (by (try dsimp only [room_1]); (try simp only [List.length_cons, List.length_nil]); omega) (by (try dsimp only [room_1]); (try simp only [List.length_cons, List.length_nil]); omega) ?_
    rintro _ T12 L12 X12 ⟨rfl, N12q, K12q, A12⟩
    show Go p e below _ T12 (mkF m 126 #[sI p0, sI p1, sI p2, sI 1, sR a1, sR a10, sR a11, .unset, .unset] [])
    obtain ⟨v0, hv0, vD0, vn0, ve0, vc0⟩ : ∃ v, v = (XT.ushr (((w0 <<< ((16 : Int32) &&& 31)) ||| (0 : Int32)) ||| (0 : Int32)) (18 : Int32)) &&& (63 : Int32) ∧ Dig (own_chr64 v) v ∧ ¬ v < 0 ∧ ¬ own_chr64 v = 61 ∧ ¬ (255 : Int32) < nar .char (own_sym v) := ⟨_, rfl, own_dig _, own_dnn _, own_d61 _, (own_crng _).2⟩
    obtain ⟨v1, hv1, vD1, vn1, ve1, vc1⟩ : ∃ v, v = (XT.ushr (((w0 <<< ((16 : Int32) &&& 31)) ||| (0 : Int32)) ||| (0 : Int32)) (12 : Int32)) &&& (63 : Int32) ∧ Dig (own_chr64 v) v ∧ ¬ v < 0 ∧ ¬ own_chr64 v = 61 ∧ ¬ (255 : Int32) < nar .char (own_sym v) := ⟨_, rfl, own_dig _, own_dnn _, own_d61 _, (own_crng _).2⟩
    have Ac12 : AI Z T12.heap a10 .char ([nar .char (own_sym v0), nar .char (own_sym v1), nar .char ((61 : Int32)), nar .char ((61 : Int32))] : List Int32) := by rw [hv0, hv1]; exact A12
    have Av12 := Av11.keep K12q (ninS n1_10 nin0)
    have K12 := K11.trans K12q (fun x q => Or.inr (by cases List.mem_singleton.mp q; omega))
    have k12 := K12.1
    have N12 := Fr.app N7 N12q
    obtain ⟨T20, h20, X20, e20, E20, A20, D20, -, st20⟩ := newO X12 hx hZ hown (hW hw 10 rfl) (hW hw 11 rfl) (hW hw 12 rfl) rfl (g := (mkF m 126 #[sI p0, sI p1, sI p2, sI 1, sR a1, sR a10, sR a11, .unset, .unset] [])) rfl (hb hby at_126) (by (try dsimp only [room_1]); (try simp only [List.length_cons, List.length_nil]); omega) (by (try dsimp only [room_1]); (try simp only [List.length_cons, List.length_nil]); omega)
    obtain ⟨a20, g20⟩ : ∃ z, z = T12.heap.size := ⟨_, rfl⟩
    rw [← g20] at A20 D20 st20
    have l20 : a20 < h20.size := A20.lt
    have sE20 := E20.1
    refine Go.st st20 ?_
    show Go p e below _ T20 (mkF m 129 #[sI p0, sI p1, sI p2, sI 1, sR a1, sR a10, sR a11, .unset, .unset] [vR a20])
    refine g_dup X20 hx 130 (hb hby at_129) rfl rfl ?_
    refine g_aload X20 hx 132 (hb hby at_130) rfl rfl ?_
    have hbd : ∀ c ∈ ([nar .char (own_sym v0), nar .char (own_sym v1), nar .char ((61 : Int32)), nar .char ((61 : Int32))] : List Int32), ¬ (255 : Int32) < c := by
      intro c hc
      simp only [List.mem_cons, List.not_mem_nil, or_false] at hc
      rcases hc with rfl | rfl | rfl | rfl
      · exact vc0
      · exact vc1
      · exact own_c61
      · exact own_c61
    have O20 : Ext Z.heap h20 := (X00.keep (K12.ext E20) all0).2
    refine Go.callI X20 hx (y := (⟨"java/lang/String", "<init>", "([C)V"⟩ : MethodName)) rfl hown (mvT hZ (hW hw 13 rfl)) (mvT hZ (hW hw 14 rfl)) (mvT hZ (hW hw 15 rfl)) (by decide) (Ctr.back (W := 1) (rmI1 l Z a0 hw ([nar .char (own_sym v0), nar .char (own_sym v1), nar .char ((61 : Int32)), nar .char ((61 : Int32))] : List Int32) (by simp) (by simp) hbd z SC nC a20 a10 _ _ h20 n0 (by omega) (by omega) O20 A20 (D20 (Or.inr (hW hw 38 rfl)) (ty := (.array .byte)) (by decide)) (D20 (Or.inr (hW hw 36 rfl)) (ty := .byte) (by decide)) (Ac12.ext E20)) hZ (hW hw 15 rfl) (hW hw 12 rfl) (by (try dsimp only [room_1]); (try simp only [List.length_cons, List.length_nil]); omega) (by (try dsimp only [room_1]); (try simp only [List.length_cons, List.length_nil]); omega)) e20 (g := (mkF m 132 #[sI p0, sI p1, sI p2, sI 1, sR a1, sR a10, sR a11, .unset, .unset] [vR a10, vR a20, vR a20])) rfl (by rw [hml]; rfl) (a := a20) (argsL := [vR a10]) (rest := [vR a20]) (lenOf pd_48 rfl) rfl (by show 2 * 0 + _ ≤ _; exact Nat.le_of_eq rfl) (hb hby at_132) rfl (by (try dsimp only [room_1]); (try simp only [List.length_cons, List.length_nil]); omega) (by (try dsimp only [room_1]); (try simp only [List.length_cons, List.length_nil]); omega) ?_
    rintro _ T21 L21 X21 ⟨rfl, N21q, K21q, F21, G21, t21, V21, B21q, Y21⟩
    show Go p e below _ T21 (mkF m 135 #[sI p0, sI p1, sI p2, sI 1, sR a1, sR a10, sR a11, .unset, .unset] [vR a20])
    have N21 := Fr.app N12 N21q
    have K21 := (K12.ext E20).trans K21q (fun x q => Or.inr (by cases List.mem_singleton.mp q; omega))
    have Av21 := (Av12.ext E20).keep K21q (ninS (Nat.ne_of_lt (Nat.lt_of_lt_of_eq Av12.lt g20.symm)) nin0)
    have B21 : AI Z T21.heap t21 .byte ([own_chr64 (v0), own_chr64 (v1), own_lo (nar .char (61 : Int32)), own_lo (nar .char (61 : Int32))] : List Int32) := B21q
    rw [own_e61] at B21
    refine g_astore X21 hx #[sI p0, sI p1, sI p2, sI 1, sR a1, sR a10, sR a11, sR a20, .unset] 137 (hb hby at_135) rfl rfl ?_
    refine g_goto X21 hx 191 (hb hby at_137) (by decide) ?_
    have q_0 : nar .byte (((((0 : Int32) ||| (v0 <<< ((18 : Int32) &&& 31))) ||| (v1 <<< ((12 : Int32) &&& 31))) >>> ((16 : Int32) &&& 31)).toInt8.toInt32) = w0.toInt8.toInt32 := by rw [hv0, hv1]; rw [hw0]; exact (own_nar_lo _).trans (own_o1_0 p0 (XT.ushr p0 (8 : Int32)) (XT.ushr p0 (16 : Int32)))
    have hk : ∀ k, k < 1 → ∃ x y, ([nar .byte (((((0 : Int32) ||| (v0 <<< ((18 : Int32) &&& 31))) ||| (v1 <<< ((12 : Int32) &&& 31))) >>> ((16 : Int32) &&& 31)).toInt8.toInt32)] : List Int32)[k]? = some x ∧ ([w0, w1, w2, w3, w4, w5] : List Int32)[k]? = some y ∧ x = y.toInt8.toInt32 := by
      intro k q
      rcases (by omega : k = 0) with rfl
      · exact ⟨_, _, rfl, rfl, q_0⟩
    exact tl 1 _ ([nar .byte (((((0 : Int32) ||| (v0 <<< ((18 : Int32) &&& 31))) ||| (v1 <<< ((12 : Int32) &&& 31))) >>> ((16 : Int32) &&& 31)).toInt8.toInt32)] : List Int32) _ _ _ _ _ _ _ _ (hr rfl) rfl (hr rfl) hk (Or.inr (Or.inl ⟨_, _, _, _, vD0, vn0, vD1, vn1, rfl, rfl⟩)) X21 (hr rfl) (hr rfl) (Bas.refl s 0) (Nat.zero_le _) hZ hown (CHb.to' hC0 (UX K21) (fun b q => Nat.lt_of_lt_of_le q K21.1)) hsz K21 N21 F21 G21 V21 B21 Y21 Av21
  · skip
    show Go p e below _ T11 (mkF m 92 #[sI p0, sI p1, sI p2, sI 2, sR a1, sR a10, sR a11, .unset, .unset] [vI 2])
    refine g_ifY X11 hx 102 (hb hby at_92) (by decide) (XT.i0_ne_t (by decide)) ?_
    refine g_iloadN X11 hx 103 (hb hby at_102) rfl rfl ?_
    refine g_iconst X11 hx 104 (hb hby at_103) rfl ki_3 ?_
    refine g_icN X11 hx 107 (hb hby at_104) rfl (XT.ii_gt_f (by decide)) ?_
    refine g_aload X11 hx 109 (hb hby at_107) rfl rfl ?_
    refine g_iconst X11 hx 110 (hb hby at_109) rfl ki_0 ?_
    refine g_aload X11 hx 112 (hb hby at_110) rfl rfl ?_
    refine g_iconst X11 hx 113 (hb hby at_112) rfl ki_0 ?_
    refine g_iaload X11 hx hZ e11 Av11 0 (x := w0) rfl rfl 114 (hb hby at_113) rfl ?_
    refine g_aload X11 hx 116 (hb hby at_114) rfl rfl ?_
    refine g_iconst X11 hx 117 (hb hby at_116) rfl ki_1 ?_
    refine g_iaload X11 hx hZ e11 Av11 1 (x := w1) rfl rfl 118 (hb hby at_117) rfl ?_
    refine g_aload X11 hx 120 (hb hby at_118) rfl rfl ?_
    refine g_iconst X11 hx 121 (hb hby at_120) rfl ki_2 ?_
    refine g_iaload X11 hx hZ e11 Av11 2 (x := w2) rfl rfl 122 (hb hby at_121) rfl ?_
    refine g_iloadN X11 hx 123 (hb hby at_122) rfl rfl ?_
    refine Go.callS X11 hx (y := (⟨"com/example/poste_restante/posterestante/BlockBytesPinLaw", "group", "([CIIIII)V"⟩ : MethodName)) hown (mvT hZ (hW hw 3 rfl)) (mvT hZ (hW hw 4 rfl)) (mvT hZ (hW hw 5 rfl)) (mvT hZ (hW hw 6 rfl)) (by decide) (Ctr.back (W := 0) (rmG_0_2 l Z a0 hw a10 w0 w1 w2 (List.replicate 4 0) (by first | decide | simp) h11 n0 ha10 A10') hZ (hW hw 6 rfl) (hW hw 5 rfl) (by (try dsimp only [room_1]); (try simp only [List.length_cons, List.length_nil]); omega) (by (try dsimp only [room_1]); (try simp only [List.length_cons, List.length_nil]); omega)) e11 (g := (mkF m 123 #[sI p0, sI p1, sI p2, sI 2, sR a1, sR a10, sR a11, .unset, .unset] [vI 2, vI w2, vI w1, vI w0, vI 0, vR a10])) rfl (by rw [hml]; rfl) (argsL := [vR a10, vI 0, vI w0, vI w1, vI w2, vI 2]) (rest := []) (lenOf pd_47 rfl) rfl (by show 2 * 0 + _ ≤ _; exact Nat.le_of_eq rfl) (hb hby at_123) rfl (by (try dsimp only [room_1]); (try simp only [List.length_cons, List.length_nil]); omega) (by (try dsimp only [room_1]); (try simp only [List.length_cons, List.length_nil]); omega) ?_
    rintro _ T12 L12 X12 ⟨rfl, N12q, K12q, A12⟩
    show Go p e below _ T12 (mkF m 126 #[sI p0, sI p1, sI p2, sI 2, sR a1, sR a10, sR a11, .unset, .unset] [])
    obtain ⟨v0, hv0, vD0, vn0, ve0, vc0⟩ : ∃ v, v = (XT.ushr (((w0 <<< ((16 : Int32) &&& 31)) ||| (w1 <<< ((8 : Int32) &&& 31))) ||| (0 : Int32)) (18 : Int32)) &&& (63 : Int32) ∧ Dig (own_chr64 v) v ∧ ¬ v < 0 ∧ ¬ own_chr64 v = 61 ∧ ¬ (255 : Int32) < nar .char (own_sym v) := ⟨_, rfl, own_dig _, own_dnn _, own_d61 _, (own_crng _).2⟩
    obtain ⟨v1, hv1, vD1, vn1, ve1, vc1⟩ : ∃ v, v = (XT.ushr (((w0 <<< ((16 : Int32) &&& 31)) ||| (w1 <<< ((8 : Int32) &&& 31))) ||| (0 : Int32)) (12 : Int32)) &&& (63 : Int32) ∧ Dig (own_chr64 v) v ∧ ¬ v < 0 ∧ ¬ own_chr64 v = 61 ∧ ¬ (255 : Int32) < nar .char (own_sym v) := ⟨_, rfl, own_dig _, own_dnn _, own_d61 _, (own_crng _).2⟩
    obtain ⟨v2, hv2, vD2, vn2, ve2, vc2⟩ : ∃ v, v = (XT.ushr (((w0 <<< ((16 : Int32) &&& 31)) ||| (w1 <<< ((8 : Int32) &&& 31))) ||| (0 : Int32)) (6 : Int32)) &&& (63 : Int32) ∧ Dig (own_chr64 v) v ∧ ¬ v < 0 ∧ ¬ own_chr64 v = 61 ∧ ¬ (255 : Int32) < nar .char (own_sym v) := ⟨_, rfl, own_dig _, own_dnn _, own_d61 _, (own_crng _).2⟩
    have Ac12 : AI Z T12.heap a10 .char ([nar .char (own_sym v0), nar .char (own_sym v1), nar .char (own_sym v2), nar .char ((61 : Int32))] : List Int32) := by rw [hv0, hv1, hv2]; exact A12
    have Av12 := Av11.keep K12q (ninS n1_10 nin0)
    have K12 := K11.trans K12q (fun x q => Or.inr (by cases List.mem_singleton.mp q; omega))
    have k12 := K12.1
    have N12 := Fr.app N7 N12q
    obtain ⟨T20, h20, X20, e20, E20, A20, D20, -, st20⟩ := newO X12 hx hZ hown (hW hw 10 rfl) (hW hw 11 rfl) (hW hw 12 rfl) rfl (g := (mkF m 126 #[sI p0, sI p1, sI p2, sI 2, sR a1, sR a10, sR a11, .unset, .unset] [])) rfl (hb hby at_126) (by (try dsimp only [room_1]); (try simp only [List.length_cons, List.length_nil]); omega) (by (try dsimp only [room_1]); (try simp only [List.length_cons, List.length_nil]); omega)
    obtain ⟨a20, g20⟩ : ∃ z, z = T12.heap.size := ⟨_, rfl⟩
    rw [← g20] at A20 D20 st20
    have l20 : a20 < h20.size := A20.lt
    have sE20 := E20.1
    refine Go.st st20 ?_
    show Go p e below _ T20 (mkF m 129 #[sI p0, sI p1, sI p2, sI 2, sR a1, sR a10, sR a11, .unset, .unset] [vR a20])
    refine g_dup X20 hx 130 (hb hby at_129) rfl rfl ?_
    refine g_aload X20 hx 132 (hb hby at_130) rfl rfl ?_
    have hbd : ∀ c ∈ ([nar .char (own_sym v0), nar .char (own_sym v1), nar .char (own_sym v2), nar .char ((61 : Int32))] : List Int32), ¬ (255 : Int32) < c := by
      intro c hc
      simp only [List.mem_cons, List.not_mem_nil, or_false] at hc
      rcases hc with rfl | rfl | rfl | rfl
      · exact vc0
      · exact vc1
      · exact vc2
      · exact own_c61
    have O20 : Ext Z.heap h20 := (X00.keep (K12.ext E20) all0).2
    refine Go.callI X20 hx (y := (⟨"java/lang/String", "<init>", "([C)V"⟩ : MethodName)) rfl hown (mvT hZ (hW hw 13 rfl)) (mvT hZ (hW hw 14 rfl)) (mvT hZ (hW hw 15 rfl)) (by decide) (Ctr.back (W := 1) (rmI1 l Z a0 hw ([nar .char (own_sym v0), nar .char (own_sym v1), nar .char (own_sym v2), nar .char ((61 : Int32))] : List Int32) (by simp) (by simp) hbd z SC nC a20 a10 _ _ h20 n0 (by omega) (by omega) O20 A20 (D20 (Or.inr (hW hw 38 rfl)) (ty := (.array .byte)) (by decide)) (D20 (Or.inr (hW hw 36 rfl)) (ty := .byte) (by decide)) (Ac12.ext E20)) hZ (hW hw 15 rfl) (hW hw 12 rfl) (by (try dsimp only [room_1]); (try simp only [List.length_cons, List.length_nil]); omega) (by (try dsimp only [room_1]); (try simp only [List.length_cons, List.length_nil]); omega)) e20 (g := (mkF m 132 #[sI p0, sI p1, sI p2, sI 2, sR a1, sR a10, sR a11, .unset, .unset] [vR a10, vR a20, vR a20])) rfl (by rw [hml]; rfl) (a := a20) (argsL := [vR a10]) (rest := [vR a20]) (lenOf pd_48 rfl) rfl (by show 2 * 0 + _ ≤ _; exact Nat.le_of_eq rfl) (hb hby at_132) rfl (by (try dsimp only [room_1]); (try simp only [List.length_cons, List.length_nil]); omega) (by (try dsimp only [room_1]); (try simp only [List.length_cons, List.length_nil]); omega) ?_
    rintro _ T21 L21 X21 ⟨rfl, N21q, K21q, F21, G21, t21, V21, B21q, Y21⟩
    show Go p e below _ T21 (mkF m 135 #[sI p0, sI p1, sI p2, sI 2, sR a1, sR a10, sR a11, .unset, .unset] [vR a20])
    have N21 := Fr.app N12 N21q
    have K21 := (K12.ext E20).trans K21q (fun x q => Or.inr (by cases List.mem_singleton.mp q; omega))
    have Av21 := (Av12.ext E20).keep K21q (ninS (Nat.ne_of_lt (Nat.lt_of_lt_of_eq Av12.lt g20.symm)) nin0)
    have B21 : AI Z T21.heap t21 .byte ([own_chr64 (v0), own_chr64 (v1), own_chr64 (v2), own_lo (nar .char (61 : Int32))] : List Int32) := B21q
    rw [own_e61] at B21
    refine g_astore X21 hx #[sI p0, sI p1, sI p2, sI 2, sR a1, sR a10, sR a11, sR a20, .unset] 137 (hb hby at_135) rfl rfl ?_
    refine g_goto X21 hx 191 (hb hby at_137) (by decide) ?_
    have q_0 : nar .byte ((((((0 : Int32) ||| (v0 <<< ((18 : Int32) &&& 31))) ||| (v1 <<< ((12 : Int32) &&& 31))) ||| (v2 <<< ((6 : Int32) &&& 31))) >>> ((16 : Int32) &&& 31)).toInt8.toInt32) = w0.toInt8.toInt32 := by rw [hv0, hv1, hv2]; rw [hw0, hw1]; exact (own_nar_lo _).trans (own_o2_0 p0 (XT.ushr p0 (8 : Int32)) (XT.ushr p0 (16 : Int32)))
    have q_1 : nar .byte ((((((0 : Int32) ||| (v0 <<< ((18 : Int32) &&& 31))) ||| (v1 <<< ((12 : Int32) &&& 31))) ||| (v2 <<< ((6 : Int32) &&& 31))) >>> ((8 : Int32) &&& 31)).toInt8.toInt32) = w1.toInt8.toInt32 := by rw [hv0, hv1, hv2]; rw [hw0, hw1]; exact (own_nar_lo _).trans (own_o2_1 p0 (XT.ushr p0 (8 : Int32)) (XT.ushr p0 (16 : Int32)))
    have hk : ∀ k, k < 2 → ∃ x y, ([nar .byte ((((((0 : Int32) ||| (v0 <<< ((18 : Int32) &&& 31))) ||| (v1 <<< ((12 : Int32) &&& 31))) ||| (v2 <<< ((6 : Int32) &&& 31))) >>> ((16 : Int32) &&& 31)).toInt8.toInt32), nar .byte ((((((0 : Int32) ||| (v0 <<< ((18 : Int32) &&& 31))) ||| (v1 <<< ((12 : Int32) &&& 31))) ||| (v2 <<< ((6 : Int32) &&& 31))) >>> ((8 : Int32) &&& 31)).toInt8.toInt32)] : List Int32)[k]? = some x ∧ ([w0, w1, w2, w3, w4, w5] : List Int32)[k]? = some y ∧ x = y.toInt8.toInt32 := by
      intro k q
      rcases (by omega : k = 0 ∨ k = 1) with rfl | rfl
      · exact ⟨_, _, rfl, rfl, q_0⟩
      · exact ⟨_, _, rfl, rfl, q_1⟩
    exact tl 2 _ ([nar .byte ((((((0 : Int32) ||| (v0 <<< ((18 : Int32) &&& 31))) ||| (v1 <<< ((12 : Int32) &&& 31))) ||| (v2 <<< ((6 : Int32) &&& 31))) >>> ((16 : Int32) &&& 31)).toInt8.toInt32), nar .byte ((((((0 : Int32) ||| (v0 <<< ((18 : Int32) &&& 31))) ||| (v1 <<< ((12 : Int32) &&& 31))) ||| (v2 <<< ((6 : Int32) &&& 31))) >>> ((8 : Int32) &&& 31)).toInt8.toInt32)] : List Int32) _ _ _ _ _ _ _ _ (hr rfl) rfl (hr rfl) hk (Or.inr (Or.inr (Or.inl ⟨_, _, _, _, _, _, vD0, vn0, vD1, vn1, vD2, vn2, ve2, rfl, rfl⟩))) X21 (hr rfl) (hr rfl) (Bas.refl s 0) (Nat.zero_le _) hZ hown (CHb.to' hC0 (UX K21) (fun b q => Nat.lt_of_lt_of_le q K21.1)) hsz K21 N21 F21 G21 V21 B21 Y21 Av21
  · skip
    show Go p e below _ T11 (mkF m 92 #[sI p0, sI p1, sI p2, sI 3, sR a1, sR a10, sR a11, .unset, .unset] [vI 3])
    refine g_ifY X11 hx 102 (hb hby at_92) (by decide) (XT.i0_ne_t (by decide)) ?_
    refine g_iloadN X11 hx 103 (hb hby at_102) rfl rfl ?_
    refine g_iconst X11 hx 104 (hb hby at_103) rfl ki_3 ?_
    refine g_icN X11 hx 107 (hb hby at_104) rfl (XT.ii_gt_f (by decide)) ?_
    refine g_aload X11 hx 109 (hb hby at_107) rfl rfl ?_
    refine g_iconst X11 hx 110 (hb hby at_109) rfl ki_0 ?_
    refine g_aload X11 hx 112 (hb hby at_110) rfl rfl ?_
    refine g_iconst X11 hx 113 (hb hby at_112) rfl ki_0 ?_
    refine g_iaload X11 hx hZ e11 Av11 0 (x := w0) rfl rfl 114 (hb hby at_113) rfl ?_
    refine g_aload X11 hx 116 (hb hby at_114) rfl rfl ?_
    refine g_iconst X11 hx 117 (hb hby at_116) rfl ki_1 ?_
    refine g_iaload X11 hx hZ e11 Av11 1 (x := w1) rfl rfl 118 (hb hby at_117) rfl ?_
    refine g_aload X11 hx 120 (hb hby at_118) rfl rfl ?_
    refine g_iconst X11 hx 121 (hb hby at_120) rfl ki_2 ?_
    refine g_iaload X11 hx hZ e11 Av11 2 (x := w2) rfl rfl 122 (hb hby at_121) rfl ?_
    refine g_iloadN X11 hx 123 (hb hby at_122) rfl rfl ?_
    refine Go.callS X11 hx (y := (⟨"com/example/poste_restante/posterestante/BlockBytesPinLaw", "group", "([CIIIII)V"⟩ : MethodName)) hown (mvT hZ (hW hw 3 rfl)) (mvT hZ (hW hw 4 rfl)) (mvT hZ (hW hw 5 rfl)) (mvT hZ (hW hw 6 rfl)) (by decide) (Ctr.back (W := 0) (rmG_0_3 l Z a0 hw a10 w0 w1 w2 (List.replicate 4 0) (by first | decide | simp) h11 n0 ha10 A10') hZ (hW hw 6 rfl) (hW hw 5 rfl) (by (try dsimp only [room_1]); (try simp only [List.length_cons, List.length_nil]); omega) (by (try dsimp only [room_1]); (try simp only [List.length_cons, List.length_nil]); omega)) e11 (g := (mkF m 123 #[sI p0, sI p1, sI p2, sI 3, sR a1, sR a10, sR a11, .unset, .unset] [vI 3, vI w2, vI w1, vI w0, vI 0, vR a10])) rfl (by rw [hml]; rfl) (argsL := [vR a10, vI 0, vI w0, vI w1, vI w2, vI 3]) (rest := []) (lenOf pd_47 rfl) rfl (by show 2 * 0 + _ ≤ _; exact Nat.le_of_eq rfl) (hb hby at_123) rfl (by (try dsimp only [room_1]); (try simp only [List.length_cons, List.length_nil]); omega) (by (try dsimp only [room_1]); (try simp only [List.length_cons, List.length_nil]); omega) ?_
    rintro _ T12 L12 X12 ⟨rfl, N12q, K12q, A12⟩
    show Go p e below _ T12 (mkF m 126 #[sI p0, sI p1, sI p2, sI 3, sR a1, sR a10, sR a11, .unset, .unset] [])
    obtain ⟨v0, hv0, vD0, vn0, ve0, vc0⟩ : ∃ v, v = (XT.ushr (((w0 <<< ((16 : Int32) &&& 31)) ||| (w1 <<< ((8 : Int32) &&& 31))) ||| w2) (18 : Int32)) &&& (63 : Int32) ∧ Dig (own_chr64 v) v ∧ ¬ v < 0 ∧ ¬ own_chr64 v = 61 ∧ ¬ (255 : Int32) < nar .char (own_sym v) := ⟨_, rfl, own_dig _, own_dnn _, own_d61 _, (own_crng _).2⟩
    obtain ⟨v1, hv1, vD1, vn1, ve1, vc1⟩ : ∃ v, v = (XT.ushr (((w0 <<< ((16 : Int32) &&& 31)) ||| (w1 <<< ((8 : Int32) &&& 31))) ||| w2) (12 : Int32)) &&& (63 : Int32) ∧ Dig (own_chr64 v) v ∧ ¬ v < 0 ∧ ¬ own_chr64 v = 61 ∧ ¬ (255 : Int32) < nar .char (own_sym v) := ⟨_, rfl, own_dig _, own_dnn _, own_d61 _, (own_crng _).2⟩
    obtain ⟨v2, hv2, vD2, vn2, ve2, vc2⟩ : ∃ v, v = (XT.ushr (((w0 <<< ((16 : Int32) &&& 31)) ||| (w1 <<< ((8 : Int32) &&& 31))) ||| w2) (6 : Int32)) &&& (63 : Int32) ∧ Dig (own_chr64 v) v ∧ ¬ v < 0 ∧ ¬ own_chr64 v = 61 ∧ ¬ (255 : Int32) < nar .char (own_sym v) := ⟨_, rfl, own_dig _, own_dnn _, own_d61 _, (own_crng _).2⟩
    obtain ⟨v3, hv3, vD3, vn3, ve3, vc3⟩ : ∃ v, v = (((w0 <<< ((16 : Int32) &&& 31)) ||| (w1 <<< ((8 : Int32) &&& 31))) ||| w2) &&& (63 : Int32) ∧ Dig (own_chr64 v) v ∧ ¬ v < 0 ∧ ¬ own_chr64 v = 61 ∧ ¬ (255 : Int32) < nar .char (own_sym v) := ⟨_, rfl, own_dig _, own_dnn _, own_d61 _, (own_crng _).2⟩
    have Ac12 : AI Z T12.heap a10 .char ([nar .char (own_sym v0), nar .char (own_sym v1), nar .char (own_sym v2), nar .char (own_sym v3)] : List Int32) := by rw [hv0, hv1, hv2, hv3]; exact A12
    have Av12 := Av11.keep K12q (ninS n1_10 nin0)
    have K12 := K11.trans K12q (fun x q => Or.inr (by cases List.mem_singleton.mp q; omega))
    have k12 := K12.1
    have N12 := Fr.app N7 N12q
    obtain ⟨T20, h20, X20, e20, E20, A20, D20, -, st20⟩ := newO X12 hx hZ hown (hW hw 10 rfl) (hW hw 11 rfl) (hW hw 12 rfl) rfl (g := (mkF m 126 #[sI p0, sI p1, sI p2, sI 3, sR a1, sR a10, sR a11, .unset, .unset] [])) rfl (hb hby at_126) (by (try dsimp only [room_1]); (try simp only [List.length_cons, List.length_nil]); omega) (by (try dsimp only [room_1]); (try simp only [List.length_cons, List.length_nil]); omega)
    obtain ⟨a20, g20⟩ : ∃ z, z = T12.heap.size := ⟨_, rfl⟩
    rw [← g20] at A20 D20 st20
    have l20 : a20 < h20.size := A20.lt
    have sE20 := E20.1
    refine Go.st st20 ?_
    show Go p e below _ T20 (mkF m 129 #[sI p0, sI p1, sI p2, sI 3, sR a1, sR a10, sR a11, .unset, .unset] [vR a20])
    refine g_dup X20 hx 130 (hb hby at_129) rfl rfl ?_
    refine g_aload X20 hx 132 (hb hby at_130) rfl rfl ?_
    have hbd : ∀ c ∈ ([nar .char (own_sym v0), nar .char (own_sym v1), nar .char (own_sym v2), nar .char (own_sym v3)] : List Int32), ¬ (255 : Int32) < c := by
      intro c hc
      simp only [List.mem_cons, List.not_mem_nil, or_false] at hc
      rcases hc with rfl | rfl | rfl | rfl
      · exact vc0
      · exact vc1
      · exact vc2
      · exact vc3
    have O20 : Ext Z.heap h20 := (X00.keep (K12.ext E20) all0).2
    refine Go.callI X20 hx (y := (⟨"java/lang/String", "<init>", "([C)V"⟩ : MethodName)) rfl hown (mvT hZ (hW hw 13 rfl)) (mvT hZ (hW hw 14 rfl)) (mvT hZ (hW hw 15 rfl)) (by decide) (Ctr.back (W := 1) (rmI1 l Z a0 hw ([nar .char (own_sym v0), nar .char (own_sym v1), nar .char (own_sym v2), nar .char (own_sym v3)] : List Int32) (by simp) (by simp) hbd z SC nC a20 a10 _ _ h20 n0 (by omega) (by omega) O20 A20 (D20 (Or.inr (hW hw 38 rfl)) (ty := (.array .byte)) (by decide)) (D20 (Or.inr (hW hw 36 rfl)) (ty := .byte) (by decide)) (Ac12.ext E20)) hZ (hW hw 15 rfl) (hW hw 12 rfl) (by (try dsimp only [room_1]); (try simp only [List.length_cons, List.length_nil]); omega) (by (try dsimp only [room_1]); (try simp only [List.length_cons, List.length_nil]); omega)) e20 (g := (mkF m 132 #[sI p0, sI p1, sI p2, sI 3, sR a1, sR a10, sR a11, .unset, .unset] [vR a10, vR a20, vR a20])) rfl (by rw [hml]; rfl) (a := a20) (argsL := [vR a10]) (rest := [vR a20]) (lenOf pd_48 rfl) rfl (by show 2 * 0 + _ ≤ _; exact Nat.le_of_eq rfl) (hb hby at_132) rfl (by (try dsimp only [room_1]); (try simp only [List.length_cons, List.length_nil]); omega) (by (try dsimp only [room_1]); (try simp only [List.length_cons, List.length_nil]); omega) ?_
    rintro _ T21 L21 X21 ⟨rfl, N21q, K21q, F21, G21, t21, V21, B21q, Y21⟩
    show Go p e below _ T21 (mkF m 135 #[sI p0, sI p1, sI p2, sI 3, sR a1, sR a10, sR a11, .unset, .unset] [vR a20])
    have N21 := Fr.app N12 N21q
    have K21 := (K12.ext E20).trans K21q (fun x q => Or.inr (by cases List.mem_singleton.mp q; omega))
    have Av21 := (Av12.ext E20).keep K21q (ninS (Nat.ne_of_lt (Nat.lt_of_lt_of_eq Av12.lt g20.symm)) nin0)
    have B21 : AI Z T21.heap t21 .byte ([own_chr64 (v0), own_chr64 (v1), own_chr64 (v2), own_chr64 (v3)] : List Int32) := B21q
    refine g_astore X21 hx #[sI p0, sI p1, sI p2, sI 3, sR a1, sR a10, sR a11, sR a20, .unset] 137 (hb hby at_135) rfl rfl ?_
    refine g_goto X21 hx 191 (hb hby at_137) (by decide) ?_
    have q_0 : nar .byte (((((((0 : Int32) ||| (v0 <<< ((18 : Int32) &&& 31))) ||| (v1 <<< ((12 : Int32) &&& 31))) ||| (v2 <<< ((6 : Int32) &&& 31))) ||| (v3 <<< ((0 : Int32) &&& 31))) >>> ((16 : Int32) &&& 31)).toInt8.toInt32) = w0.toInt8.toInt32 := by rw [hv0, hv1, hv2, hv3]; rw [hw0, hw1, hw2]; exact (own_nar_lo _).trans (own_o3_0 p0 (XT.ushr p0 (8 : Int32)) (XT.ushr p0 (16 : Int32)))
    have q_1 : nar .byte (((((((0 : Int32) ||| (v0 <<< ((18 : Int32) &&& 31))) ||| (v1 <<< ((12 : Int32) &&& 31))) ||| (v2 <<< ((6 : Int32) &&& 31))) ||| (v3 <<< ((0 : Int32) &&& 31))) >>> ((8 : Int32) &&& 31)).toInt8.toInt32) = w1.toInt8.toInt32 := by rw [hv0, hv1, hv2, hv3]; rw [hw0, hw1, hw2]; exact (own_nar_lo _).trans (own_o3_1 p0 (XT.ushr p0 (8 : Int32)) (XT.ushr p0 (16 : Int32)))
    have q_2 : nar .byte ((((((0 : Int32) ||| (v0 <<< ((18 : Int32) &&& 31))) ||| (v1 <<< ((12 : Int32) &&& 31))) ||| (v2 <<< ((6 : Int32) &&& 31))) ||| (v3 <<< ((0 : Int32) &&& 31))).toInt8.toInt32) = w2.toInt8.toInt32 := by rw [hv0, hv1, hv2, hv3]; rw [hw0, hw1, hw2]; exact (own_nar_lo _).trans (own_o3_2 p0 (XT.ushr p0 (8 : Int32)) (XT.ushr p0 (16 : Int32)))
    have hk : ∀ k, k < 3 → ∃ x y, ([nar .byte (((((((0 : Int32) ||| (v0 <<< ((18 : Int32) &&& 31))) ||| (v1 <<< ((12 : Int32) &&& 31))) ||| (v2 <<< ((6 : Int32) &&& 31))) ||| (v3 <<< ((0 : Int32) &&& 31))) >>> ((16 : Int32) &&& 31)).toInt8.toInt32), nar .byte (((((((0 : Int32) ||| (v0 <<< ((18 : Int32) &&& 31))) ||| (v1 <<< ((12 : Int32) &&& 31))) ||| (v2 <<< ((6 : Int32) &&& 31))) ||| (v3 <<< ((0 : Int32) &&& 31))) >>> ((8 : Int32) &&& 31)).toInt8.toInt32), nar .byte ((((((0 : Int32) ||| (v0 <<< ((18 : Int32) &&& 31))) ||| (v1 <<< ((12 : Int32) &&& 31))) ||| (v2 <<< ((6 : Int32) &&& 31))) ||| (v3 <<< ((0 : Int32) &&& 31))).toInt8.toInt32)] : List Int32)[k]? = some x ∧ ([w0, w1, w2, w3, w4, w5] : List Int32)[k]? = some y ∧ x = y.toInt8.toInt32 := by
      intro k q
      rcases (by omega : k = 0 ∨ k = 1 ∨ k = 2) with rfl | rfl | rfl
      · exact ⟨_, _, rfl, rfl, q_0⟩
      · exact ⟨_, _, rfl, rfl, q_1⟩
      · exact ⟨_, _, rfl, rfl, q_2⟩
    exact tl 3 _ ([nar .byte (((((((0 : Int32) ||| (v0 <<< ((18 : Int32) &&& 31))) ||| (v1 <<< ((12 : Int32) &&& 31))) ||| (v2 <<< ((6 : Int32) &&& 31))) ||| (v3 <<< ((0 : Int32) &&& 31))) >>> ((16 : Int32) &&& 31)).toInt8.toInt32), nar .byte (((((((0 : Int32) ||| (v0 <<< ((18 : Int32) &&& 31))) ||| (v1 <<< ((12 : Int32) &&& 31))) ||| (v2 <<< ((6 : Int32) &&& 31))) ||| (v3 <<< ((0 : Int32) &&& 31))) >>> ((8 : Int32) &&& 31)).toInt8.toInt32), nar .byte ((((((0 : Int32) ||| (v0 <<< ((18 : Int32) &&& 31))) ||| (v1 <<< ((12 : Int32) &&& 31))) ||| (v2 <<< ((6 : Int32) &&& 31))) ||| (v3 <<< ((0 : Int32) &&& 31))).toInt8.toInt32)] : List Int32) _ _ _ _ _ _ _ _ (hr rfl) rfl (hr rfl) hk (Or.inr (Or.inr (Or.inr (Or.inl ⟨_, _, _, _, _, _, _, _, vD0, vn0, vD1, vn1, vD2, vn2, vD3, vn3, ve3, rfl, rfl⟩)))) X21 (hr rfl) (hr rfl) (Bas.refl s 0) (Nat.zero_le _) hZ hown (CHb.to' hC0 (UX K21) (fun b q => Nat.lt_of_lt_of_le q K21.1)) hsz K21 N21 F21 G21 V21 B21 Y21 Av21
  · skip
    show Go p e below _ T11 (mkF m 92 #[sI p0, sI p1, sI p2, sI 4, sR a1, sR a10, sR a11, .unset, .unset] [vI 4])
    refine g_ifY X11 hx 102 (hb hby at_92) (by decide) (XT.i0_ne_t (by decide)) ?_
    refine g_iloadN X11 hx 103 (hb hby at_102) rfl rfl ?_
    refine g_iconst X11 hx 104 (hb hby at_103) rfl ki_3 ?_
    refine g_icY X11 hx 140 (hb hby at_104) (by decide) (XT.ii_gt_t (by decide)) ?_
    refine g_aload X11 hx 142 (hb hby at_140) rfl rfl ?_
    refine g_iconst X11 hx 143 (hb hby at_142) rfl ki_0 ?_
    refine g_aload X11 hx 145 (hb hby at_143) rfl rfl ?_
    refine g_iconst X11 hx 146 (hb hby at_145) rfl ki_0 ?_
    refine g_iaload X11 hx hZ e11 Av11 0 (x := w0) rfl rfl 147 (hb hby at_146) rfl ?_
    refine g_aload X11 hx 149 (hb hby at_147) rfl rfl ?_
    refine g_iconst X11 hx 150 (hb hby at_149) rfl ki_1 ?_
    refine g_iaload X11 hx hZ e11 Av11 1 (x := w1) rfl rfl 151 (hb hby at_150) rfl ?_
    refine g_aload X11 hx 153 (hb hby at_151) rfl rfl ?_
    refine g_iconst X11 hx 154 (hb hby at_153) rfl ki_2 ?_
    refine g_iaload X11 hx hZ e11 Av11 2 (x := w2) rfl rfl 155 (hb hby at_154) rfl ?_
    refine g_iconst X11 hx 156 (hb hby at_155) rfl ki_3 ?_
    refine Go.callS X11 hx (y := (⟨"com/example/poste_restante/posterestante/BlockBytesPinLaw", "group", "([CIIIII)V"⟩ : MethodName)) hown (mvT hZ (hW hw 3 rfl)) (mvT hZ (hW hw 4 rfl)) (mvT hZ (hW hw 5 rfl)) (mvT hZ (hW hw 6 rfl)) (by decide) (Ctr.back (W := 0) (rmG_0_3 l Z a0 hw a11 w0 w1 w2 (List.replicate 8 0) (by first | decide | simp) h11 n0 ha11 A11) hZ (hW hw 6 rfl) (hW hw 5 rfl) (by (try dsimp only [room_1]); (try simp only [List.length_cons, List.length_nil]); omega) (by (try dsimp only [room_1]); (try simp only [List.length_cons, List.length_nil]); omega)) e11 (g := (mkF m 156 #[sI p0, sI p1, sI p2, sI 4, sR a1, sR a10, sR a11, .unset, .unset] [vI 3, vI w2, vI w1, vI w0, vI 0, vR a11])) rfl (by rw [hml]; rfl) (argsL := [vR a11, vI 0, vI w0, vI w1, vI w2, vI 3]) (rest := []) (lenOf pd_47 rfl) rfl (by show 2 * 0 + _ ≤ _; exact Nat.le_of_eq rfl) (hb hby at_156) rfl (by (try dsimp only [room_1]); (try simp only [List.length_cons, List.length_nil]); omega) (by (try dsimp only [room_1]); (try simp only [List.length_cons, List.length_nil]); omega) ?_
    rintro _ T12 L12 X12 ⟨rfl, N12q, K12q, A12⟩
    show Go p e below _ T12 (mkF m 159 #[sI p0, sI p1, sI p2, sI 4, sR a1, sR a10, sR a11, .unset, .unset] [])
    obtain ⟨v0, hv0, vD0, vn0, ve0, vc0⟩ : ∃ v, v = (XT.ushr (((w0 <<< ((16 : Int32) &&& 31)) ||| (w1 <<< ((8 : Int32) &&& 31))) ||| w2) (18 : Int32)) &&& (63 : Int32) ∧ Dig (own_chr64 v) v ∧ ¬ v < 0 ∧ ¬ own_chr64 v = 61 ∧ ¬ (255 : Int32) < nar .char (own_sym v) := ⟨_, rfl, own_dig _, own_dnn _, own_d61 _, (own_crng _).2⟩
    obtain ⟨v1, hv1, vD1, vn1, ve1, vc1⟩ : ∃ v, v = (XT.ushr (((w0 <<< ((16 : Int32) &&& 31)) ||| (w1 <<< ((8 : Int32) &&& 31))) ||| w2) (12 : Int32)) &&& (63 : Int32) ∧ Dig (own_chr64 v) v ∧ ¬ v < 0 ∧ ¬ own_chr64 v = 61 ∧ ¬ (255 : Int32) < nar .char (own_sym v) := ⟨_, rfl, own_dig _, own_dnn _, own_d61 _, (own_crng _).2⟩
    obtain ⟨v2, hv2, vD2, vn2, ve2, vc2⟩ : ∃ v, v = (XT.ushr (((w0 <<< ((16 : Int32) &&& 31)) ||| (w1 <<< ((8 : Int32) &&& 31))) ||| w2) (6 : Int32)) &&& (63 : Int32) ∧ Dig (own_chr64 v) v ∧ ¬ v < 0 ∧ ¬ own_chr64 v = 61 ∧ ¬ (255 : Int32) < nar .char (own_sym v) := ⟨_, rfl, own_dig _, own_dnn _, own_d61 _, (own_crng _).2⟩
    obtain ⟨v3, hv3, vD3, vn3, ve3, vc3⟩ : ∃ v, v = (((w0 <<< ((16 : Int32) &&& 31)) ||| (w1 <<< ((8 : Int32) &&& 31))) ||| w2) &&& (63 : Int32) ∧ Dig (own_chr64 v) v ∧ ¬ v < 0 ∧ ¬ own_chr64 v = 61 ∧ ¬ (255 : Int32) < nar .char (own_sym v) := ⟨_, rfl, own_dig _, own_dnn _, own_d61 _, (own_crng _).2⟩
    have Ac12 : AI Z T12.heap a11 .char ([nar .char (own_sym v0), nar .char (own_sym v1), nar .char (own_sym v2), nar .char (own_sym v3), 0, 0, 0, 0] : List Int32) := by rw [hv0, hv1, hv2, hv3]; exact A12
    have Av12 := Av11.keep K12q (ninS n1_11 nin0)
    have K12 := K11.trans K12q (fun x q => Or.inr (by cases List.mem_singleton.mp q; omega))
    have k12 := K12.1
    have N12 := Fr.app N7 N12q
    refine g_aload X12 hx 161 (hb hby at_159) rfl rfl ?_
    refine g_iconst X12 hx 162 (hb hby at_161) rfl ki_4 ?_
    refine g_aload X12 hx 164 (hb hby at_162) rfl rfl ?_
    refine g_iconst X12 hx 165 (hb hby at_164) rfl ki_3 ?_
    refine g_iaload X12 hx hZ rfl Av12 3 (x := w3) rfl rfl 166 (hb hby at_165) rfl ?_
    refine g_aload X12 hx 168 (hb hby at_166) rfl rfl ?_
    refine g_iconst X12 hx 169 (hb hby at_168) rfl ki_4 ?_
    refine g_iaload X12 hx hZ rfl Av12 4 (x := w4) rfl rfl 170 (hb hby at_169) rfl ?_
    refine g_aload X12 hx 172 (hb hby at_170) rfl rfl ?_
    refine g_iconst X12 hx 173 (hb hby at_172) rfl ki_5 ?_
    refine g_iaload X12 hx hZ rfl Av12 5 (x := w5) rfl rfl 174 (hb hby at_173) rfl ?_
    refine g_iloadN X12 hx 175 (hb hby at_174) rfl rfl ?_
    refine g_iconst X12 hx 176 (hb hby at_175) rfl ki_3 ?_
    refine g_isub X12 hx 177 (hb hby at_176) rfl (by decide : (4 : Int32) - (3 : Int32) = (1 : Int32)) ?_
    refine Go.callS X12 hx (y := (⟨"com/example/poste_restante/posterestante/BlockBytesPinLaw", "group", "([CIIIII)V"⟩ : MethodName)) hown (mvT hZ (hW hw 3 rfl)) (mvT hZ (hW hw 4 rfl)) (mvT hZ (hW hw 5 rfl)) (mvT hZ (hW hw 6 rfl)) (by decide) (Ctr.back (W := 0) (rmG_4_1 l Z a0 hw a11 w3 w4 w5 ([nar .char (own_sym v0), nar .char (own_sym v1), nar .char (own_sym v2), nar .char (own_sym v3), 0, 0, 0, 0] : List Int32) (by first | decide | simp) T12.heap n0 ha11 Ac12) hZ (hW hw 6 rfl) (hW hw 5 rfl) (by (try dsimp only [room_1]); (try simp only [List.length_cons, List.length_nil]); omega) (by (try dsimp only [room_1]); (try simp only [List.length_cons, List.length_nil]); omega)) rfl (g := (mkF m 177 #[sI p0, sI p1, sI p2, sI 4, sR a1, sR a10, sR a11, .unset, .unset] [vI 1, vI w5, vI w4, vI w3, vI 4, vR a11])) rfl (by rw [hml]; rfl) (argsL := [vR a11, vI 4, vI w3, vI w4, vI w5, vI 1]) (rest := []) (lenOf pd_47 rfl) rfl (by show 2 * 0 + _ ≤ _; exact Nat.le_of_eq rfl) (hb hby at_177) rfl (by (try dsimp only [room_1]); (try simp only [List.length_cons, List.length_nil]); omega) (by (try dsimp only [room_1]); (try simp only [List.length_cons, List.length_nil]); omega) ?_
    rintro _ T13 L13 X13 ⟨rfl, N13q, K13q, A13⟩
    show Go p e below _ T13 (mkF m 180 #[sI p0, sI p1, sI p2, sI 4, sR a1, sR a10, sR a11, .unset, .unset] [])
    obtain ⟨v4, hv4, vD4, vn4, ve4, vc4⟩ : ∃ v, v = (XT.ushr (((w3 <<< ((16 : Int32) &&& 31)) ||| (0 : Int32)) ||| (0 : Int32)) (18 : Int32)) &&& (63 : Int32) ∧ Dig (own_chr64 v) v ∧ ¬ v < 0 ∧ ¬ own_chr64 v = 61 ∧ ¬ (255 : Int32) < nar .char (own_sym v) := ⟨_, rfl, own_dig _, own_dnn _, own_d61 _, (own_crng _).2⟩
    obtain ⟨v5, hv5, vD5, vn5, ve5, vc5⟩ : ∃ v, v = (XT.ushr (((w3 <<< ((16 : Int32) &&& 31)) ||| (0 : Int32)) ||| (0 : Int32)) (12 : Int32)) &&& (63 : Int32) ∧ Dig (own_chr64 v) v ∧ ¬ v < 0 ∧ ¬ own_chr64 v = 61 ∧ ¬ (255 : Int32) < nar .char (own_sym v) := ⟨_, rfl, own_dig _, own_dnn _, own_d61 _, (own_crng _).2⟩
    have Ac13 : AI Z T13.heap a11 .char ([nar .char (own_sym v0), nar .char (own_sym v1), nar .char (own_sym v2), nar .char (own_sym v3), nar .char (own_sym v4), nar .char (own_sym v5), nar .char ((61 : Int32)), nar .char ((61 : Int32))] : List Int32) := by rw [hv4, hv5]; exact A13
    have Av13 := Av12.keep K13q (ninS n1_11 nin0)
    have K13 := K12.trans K13q (fun x q => Or.inr (by cases List.mem_singleton.mp q; omega))
    have k13 := K13.1
    have N13 := Fr.app N12 N13q
    obtain ⟨T20, h20, X20, e20, E20, A20, D20, -, st20⟩ := newO X13 hx hZ hown (hW hw 10 rfl) (hW hw 11 rfl) (hW hw 12 rfl) rfl (g := (mkF m 180 #[sI p0, sI p1, sI p2, sI 4, sR a1, sR a10, sR a11, .unset, .unset] [])) rfl (hb hby at_180) (by (try dsimp only [room_1]); (try simp only [List.length_cons, List.length_nil]); omega) (by (try dsimp only [room_1]); (try simp only [List.length_cons, List.length_nil]); omega)
    obtain ⟨a20, g20⟩ : ∃ z, z = T13.heap.size := ⟨_, rfl⟩
    rw [← g20] at A20 D20 st20
    have l20 : a20 < h20.size := A20.lt
    have sE20 := E20.1
    refine Go.st st20 ?_
    show Go p e below _ T20 (mkF m 183 #[sI p0, sI p1, sI p2, sI 4, sR a1, sR a10, sR a11, .unset, .unset] [vR a20])
    refine g_dup X20 hx 184 (hb hby at_183) rfl rfl ?_
    refine g_aload X20 hx 186 (hb hby at_184) rfl rfl ?_
    have hbd : ∀ c ∈ ([nar .char (own_sym v0), nar .char (own_sym v1), nar .char (own_sym v2), nar .char (own_sym v3), nar .char (own_sym v4), nar .char (own_sym v5), nar .char ((61 : Int32)), nar .char ((61 : Int32))] : List Int32), ¬ (255 : Int32) < c := by
      intro c hc
      simp only [List.mem_cons, List.not_mem_nil, or_false] at hc
      rcases hc with rfl | rfl | rfl | rfl | rfl | rfl | rfl | rfl
      · exact vc0
      · exact vc1
      · exact vc2
      · exact vc3
      · exact vc4
      · exact vc5
      · exact own_c61
      · exact own_c61
    have O20 : Ext Z.heap h20 := (X00.keep (K13.ext E20) all0).2
    refine Go.callI X20 hx (y := (⟨"java/lang/String", "<init>", "([C)V"⟩ : MethodName)) rfl hown (mvT hZ (hW hw 13 rfl)) (mvT hZ (hW hw 14 rfl)) (mvT hZ (hW hw 15 rfl)) (by decide) (Ctr.back (W := 1) (rmI1 l Z a0 hw ([nar .char (own_sym v0), nar .char (own_sym v1), nar .char (own_sym v2), nar .char (own_sym v3), nar .char (own_sym v4), nar .char (own_sym v5), nar .char ((61 : Int32)), nar .char ((61 : Int32))] : List Int32) (by simp) (by simp) hbd z SC nC a20 a11 _ _ h20 n0 (by omega) (by omega) O20 A20 (D20 (Or.inr (hW hw 38 rfl)) (ty := (.array .byte)) (by decide)) (D20 (Or.inr (hW hw 36 rfl)) (ty := .byte) (by decide)) (Ac13.ext E20)) hZ (hW hw 15 rfl) (hW hw 12 rfl) (by (try dsimp only [room_1]); (try simp only [List.length_cons, List.length_nil]); omega) (by (try dsimp only [room_1]); (try simp only [List.length_cons, List.length_nil]); omega)) e20 (g := (mkF m 186 #[sI p0, sI p1, sI p2, sI 4, sR a1, sR a10, sR a11, .unset, .unset] [vR a11, vR a20, vR a20])) rfl (by rw [hml]; rfl) (a := a20) (argsL := [vR a11]) (rest := [vR a20]) (lenOf pd_48 rfl) rfl (by show 2 * 0 + _ ≤ _; exact Nat.le_of_eq rfl) (hb hby at_186) rfl (by (try dsimp only [room_1]); (try simp only [List.length_cons, List.length_nil]); omega) (by (try dsimp only [room_1]); (try simp only [List.length_cons, List.length_nil]); omega) ?_
    rintro _ T21 L21 X21 ⟨rfl, N21q, K21q, F21, G21, t21, V21, B21q, Y21⟩
    show Go p e below _ T21 (mkF m 189 #[sI p0, sI p1, sI p2, sI 4, sR a1, sR a10, sR a11, .unset, .unset] [vR a20])
    have N21 := Fr.app N13 N21q
    have K21 := (K13.ext E20).trans K21q (fun x q => Or.inr (by cases List.mem_singleton.mp q; omega))
    have Av21 := (Av13.ext E20).keep K21q (ninS (Nat.ne_of_lt (Nat.lt_of_lt_of_eq Av13.lt g20.symm)) nin0)
    have B21 : AI Z T21.heap t21 .byte ([own_chr64 (v0), own_chr64 (v1), own_chr64 (v2), own_chr64 (v3), own_chr64 (v4), own_chr64 (v5), own_lo (nar .char (61 : Int32)), own_lo (nar .char (61 : Int32))] : List Int32) := B21q
    rw [own_e61] at B21
    refine g_astore X21 hx #[sI p0, sI p1, sI p2, sI 4, sR a1, sR a10, sR a11, sR a20, .unset] 191 (hb hby at_189) rfl rfl ?_
    have q_0 : nar .byte ((((((v0 <<< ((18 : Int32) &&& 31)) ||| (v1 <<< ((12 : Int32) &&& 31))) ||| (v2 <<< ((6 : Int32) &&& 31))) ||| v3) >>> ((16 : Int32) &&& 31)).toInt8.toInt32) = w0.toInt8.toInt32 := by rw [hv0, hv1, hv2, hv3]; rw [hw0, hw1, hw2]; exact (own_nar_lo _).trans (own_o3B0 p0 (XT.ushr p0 (8 : Int32)) (XT.ushr p0 (16 : Int32)))
    have q_1 : nar .byte ((((((v0 <<< ((18 : Int32) &&& 31)) ||| (v1 <<< ((12 : Int32) &&& 31))) ||| (v2 <<< ((6 : Int32) &&& 31))) ||| v3) >>> ((8 : Int32) &&& 31)).toInt8.toInt32) = w1.toInt8.toInt32 := by rw [hv0, hv1, hv2, hv3]; rw [hw0, hw1, hw2]; exact (own_nar_lo _).trans (own_o3B1 p0 (XT.ushr p0 (8 : Int32)) (XT.ushr p0 (16 : Int32)))
    have q_2 : nar .byte (((((v0 <<< ((18 : Int32) &&& 31)) ||| (v1 <<< ((12 : Int32) &&& 31))) ||| (v2 <<< ((6 : Int32) &&& 31))) ||| v3).toInt8.toInt32) = w2.toInt8.toInt32 := by rw [hv0, hv1, hv2, hv3]; rw [hw0, hw1, hw2]; exact (own_nar_lo _).trans (own_o3B2 p0 (XT.ushr p0 (8 : Int32)) (XT.ushr p0 (16 : Int32)))
    have q_3 : nar .byte (((((0 : Int32) ||| (v4 <<< ((18 : Int32) &&& 31))) ||| (v5 <<< ((12 : Int32) &&& 31))) >>> ((16 : Int32) &&& 31)).toInt8.toInt32) = w3.toInt8.toInt32 := by rw [hv4, hv5]; rw [hw3]; exact (own_nar_lo _).trans (own_o1_0 p1 (XT.ushr p1 (8 : Int32)) (XT.ushr p1 (16 : Int32)))
    have hk : ∀ k, k < 4 → ∃ x y, ([nar .byte ((((((v0 <<< ((18 : Int32) &&& 31)) ||| (v1 <<< ((12 : Int32) &&& 31))) ||| (v2 <<< ((6 : Int32) &&& 31))) ||| v3) >>> ((16 : Int32) &&& 31)).toInt8.toInt32), nar .byte ((((((v0 <<< ((18 : Int32) &&& 31)) ||| (v1 <<< ((12 : Int32) &&& 31))) ||| (v2 <<< ((6 : Int32) &&& 31))) ||| v3) >>> ((8 : Int32) &&& 31)).toInt8.toInt32), nar .byte (((((v0 <<< ((18 : Int32) &&& 31)) ||| (v1 <<< ((12 : Int32) &&& 31))) ||| (v2 <<< ((6 : Int32) &&& 31))) ||| v3).toInt8.toInt32), nar .byte (((((0 : Int32) ||| (v4 <<< ((18 : Int32) &&& 31))) ||| (v5 <<< ((12 : Int32) &&& 31))) >>> ((16 : Int32) &&& 31)).toInt8.toInt32)] : List Int32)[k]? = some x ∧ ([w0, w1, w2, w3, w4, w5] : List Int32)[k]? = some y ∧ x = y.toInt8.toInt32 := by
      intro k q
      rcases (by omega : k = 0 ∨ k = 1 ∨ k = 2 ∨ k = 3) with rfl | rfl | rfl | rfl
      · exact ⟨_, _, rfl, rfl, q_0⟩
      · exact ⟨_, _, rfl, rfl, q_1⟩
      · exact ⟨_, _, rfl, rfl, q_2⟩
      · exact ⟨_, _, rfl, rfl, q_3⟩
    exact tl 4 _ ([nar .byte ((((((v0 <<< ((18 : Int32) &&& 31)) ||| (v1 <<< ((12 : Int32) &&& 31))) ||| (v2 <<< ((6 : Int32) &&& 31))) ||| v3) >>> ((16 : Int32) &&& 31)).toInt8.toInt32), nar .byte ((((((v0 <<< ((18 : Int32) &&& 31)) ||| (v1 <<< ((12 : Int32) &&& 31))) ||| (v2 <<< ((6 : Int32) &&& 31))) ||| v3) >>> ((8 : Int32) &&& 31)).toInt8.toInt32), nar .byte (((((v0 <<< ((18 : Int32) &&& 31)) ||| (v1 <<< ((12 : Int32) &&& 31))) ||| (v2 <<< ((6 : Int32) &&& 31))) ||| v3).toInt8.toInt32), nar .byte (((((0 : Int32) ||| (v4 <<< ((18 : Int32) &&& 31))) ||| (v5 <<< ((12 : Int32) &&& 31))) >>> ((16 : Int32) &&& 31)).toInt8.toInt32)] : List Int32) _ _ _ _ _ _ _ _ (hr rfl) rfl (hr rfl) hk (Or.inr (Or.inr (Or.inr (Or.inr (Or.inl ⟨_, _, _, _, _, _, _, _, _, _, _, _, vD0, vn0, vD1, vn1, vD2, vn2, vD3, vn3, vD4, vn4, vD5, vn5, rfl, rfl⟩))))) X21 (hr rfl) (hr rfl) (Bas.refl s 0) (Nat.zero_le _) hZ hown (CHb.to' hC0 (UX K21) (fun b q => Nat.lt_of_lt_of_le q K21.1)) hsz K21 N21 F21 G21 V21 B21 Y21 Av21
  · skip
    show Go p e below _ T11 (mkF m 92 #[sI p0, sI p1, sI p2, sI 5, sR a1, sR a10, sR a11, .unset, .unset] [vI 5])
    refine g_ifY X11 hx 102 (hb hby at_92) (by decide) (XT.i0_ne_t (by decide)) ?_
    refine g_iloadN X11 hx 103 (hb hby at_102) rfl rfl ?_
    refine g_iconst X11 hx 104 (hb hby at_103) rfl ki_3 ?_
    refine g_icY X11 hx 140 (hb hby at_104) (by decide) (XT.ii_gt_t (by decide)) ?_
    refine g_aload X11 hx 142 (hb hby at_140) rfl rfl ?_
    refine g_iconst X11 hx 143 (hb hby at_142) rfl ki_0 ?_
    refine g_aload X11 hx 145 (hb hby at_143) rfl rfl ?_
    refine g_iconst X11 hx 146 (hb hby at_145) rfl ki_0 ?_
    refine g_iaload X11 hx hZ e11 Av11 0 (x := w0) rfl rfl 147 (hb hby at_146) rfl ?_
    refine g_aload X11 hx 149 (hb hby at_147) rfl rfl ?_
    refine g_iconst X11 hx 150 (hb hby at_149) rfl ki_1 ?_
    refine g_iaload X11 hx hZ e11 Av11 1 (x := w1) rfl rfl 151 (hb hby at_150) rfl ?_
    refine g_aload X11 hx 153 (hb hby at_151) rfl rfl ?_
    refine g_iconst X11 hx 154 (hb hby at_153) rfl ki_2 ?_
    refine g_iaload X11 hx hZ e11 Av11 2 (x := w2) rfl rfl 155 (hb hby at_154) rfl ?_
    refine g_iconst X11 hx 156 (hb hby at_155) rfl ki_3 ?_
    refine Go.callS X11 hx (y := (⟨"com/example/poste_restante/posterestante/BlockBytesPinLaw", "group", "([CIIIII)V"⟩ : MethodName)) hown (mvT hZ (hW hw 3 rfl)) (mvT hZ (hW hw 4 rfl)) (mvT hZ (hW hw 5 rfl)) (mvT hZ (hW hw 6 rfl)) (by decide) (Ctr.back (W := 0) (rmG_0_3 l Z a0 hw a11 w0 w1 w2 (List.replicate 8 0) (by first | decide | simp) h11 n0 ha11 A11) hZ (hW hw 6 rfl) (hW hw 5 rfl) (by (try dsimp only [room_1]); (try simp only [List.length_cons, List.length_nil]); omega) (by (try dsimp only [room_1]); (try simp only [List.length_cons, List.length_nil]); omega)) e11 (g := (mkF m 156 #[sI p0, sI p1, sI p2, sI 5, sR a1, sR a10, sR a11, .unset, .unset] [vI 3, vI w2, vI w1, vI w0, vI 0, vR a11])) rfl (by rw [hml]; rfl) (argsL := [vR a11, vI 0, vI w0, vI w1, vI w2, vI 3]) (rest := []) (lenOf pd_47 rfl) rfl (by show 2 * 0 + _ ≤ _; exact Nat.le_of_eq rfl) (hb hby at_156) rfl (by (try dsimp only [room_1]); (try simp only [List.length_cons, List.length_nil]); omega) (by (try dsimp only [room_1]); (try simp only [List.length_cons, List.length_nil]); omega) ?_
    rintro _ T12 L12 X12 ⟨rfl, N12q, K12q, A12⟩
    show Go p e below _ T12 (mkF m 159 #[sI p0, sI p1, sI p2, sI 5, sR a1, sR a10, sR a11, .unset, .unset] [])
    obtain ⟨v0, hv0, vD0, vn0, ve0, vc0⟩ : ∃ v, v = (XT.ushr (((w0 <<< ((16 : Int32) &&& 31)) ||| (w1 <<< ((8 : Int32) &&& 31))) ||| w2) (18 : Int32)) &&& (63 : Int32) ∧ Dig (own_chr64 v) v ∧ ¬ v < 0 ∧ ¬ own_chr64 v = 61 ∧ ¬ (255 : Int32) < nar .char (own_sym v) := ⟨_, rfl, own_dig _, own_dnn _, own_d61 _, (own_crng _).2⟩
    obtain ⟨v1, hv1, vD1, vn1, ve1, vc1⟩ : ∃ v, v = (XT.ushr (((w0 <<< ((16 : Int32) &&& 31)) ||| (w1 <<< ((8 : Int32) &&& 31))) ||| w2) (12 : Int32)) &&& (63 : Int32) ∧ Dig (own_chr64 v) v ∧ ¬ v < 0 ∧ ¬ own_chr64 v = 61 ∧ ¬ (255 : Int32) < nar .char (own_sym v) := ⟨_, rfl, own_dig _, own_dnn _, own_d61 _, (own_crng _).2⟩
    obtain ⟨v2, hv2, vD2, vn2, ve2, vc2⟩ : ∃ v, v = (XT.ushr (((w0 <<< ((16 : Int32) &&& 31)) ||| (w1 <<< ((8 : Int32) &&& 31))) ||| w2) (6 : Int32)) &&& (63 : Int32) ∧ Dig (own_chr64 v) v ∧ ¬ v < 0 ∧ ¬ own_chr64 v = 61 ∧ ¬ (255 : Int32) < nar .char (own_sym v) := ⟨_, rfl, own_dig _, own_dnn _, own_d61 _, (own_crng _).2⟩
    obtain ⟨v3, hv3, vD3, vn3, ve3, vc3⟩ : ∃ v, v = (((w0 <<< ((16 : Int32) &&& 31)) ||| (w1 <<< ((8 : Int32) &&& 31))) ||| w2) &&& (63 : Int32) ∧ Dig (own_chr64 v) v ∧ ¬ v < 0 ∧ ¬ own_chr64 v = 61 ∧ ¬ (255 : Int32) < nar .char (own_sym v) := ⟨_, rfl, own_dig _, own_dnn _, own_d61 _, (own_crng _).2⟩
    have Ac12 : AI Z T12.heap a11 .char ([nar .char (own_sym v0), nar .char (own_sym v1), nar .char (own_sym v2), nar .char (own_sym v3), 0, 0, 0, 0] : List Int32) := by rw [hv0, hv1, hv2, hv3]; exact A12
    have Av12 := Av11.keep K12q (ninS n1_11 nin0)
    have K12 := K11.trans K12q (fun x q => Or.inr (by cases List.mem_singleton.mp q; omega))
    have k12 := K12.1
    have N12 := Fr.app N7 N12q
    refine g_aload X12 hx 161 (hb hby at_159) rfl rfl ?_
    refine g_iconst X12 hx 162 (hb hby at_161) rfl ki_4 ?_
    refine g_aload X12 hx 164 (hb hby at_162) rfl rfl ?_
    refine g_iconst X12 hx 165 (hb hby at_164) rfl ki_3 ?_
    refine g_iaload X12 hx hZ rfl Av12 3 (x := w3) rfl rfl 166 (hb hby at_165) rfl ?_
    refine g_aload X12 hx 168 (hb hby at_166) rfl rfl ?_
    refine g_iconst X12 hx 169 (hb hby at_168) rfl ki_4 ?_
    refine g_iaload X12 hx hZ rfl Av12 4 (x := w4) rfl rfl 170 (hb hby at_169) rfl ?_
    refine g_aload X12 hx 172 (hb hby at_170) rfl rfl ?_
    refine g_iconst X12 hx 173 (hb hby at_172) rfl ki_5 ?_
    refine g_iaload X12 hx hZ rfl Av12 5 (x := w5) rfl rfl 174 (hb hby at_173) rfl ?_
    refine g_iloadN X12 hx 175 (hb hby at_174) rfl rfl ?_
    refine g_iconst X12 hx 176 (hb hby at_175) rfl ki_3 ?_
    refine g_isub X12 hx 177 (hb hby at_176) rfl (by decide : (5 : Int32) - (3 : Int32) = (2 : Int32)) ?_
    refine Go.callS X12 hx (y := (⟨"com/example/poste_restante/posterestante/BlockBytesPinLaw", "group", "([CIIIII)V"⟩ : MethodName)) hown (mvT hZ (hW hw 3 rfl)) (mvT hZ (hW hw 4 rfl)) (mvT hZ (hW hw 5 rfl)) (mvT hZ (hW hw 6 rfl)) (by decide) (Ctr.back (W := 0) (rmG_4_2 l Z a0 hw a11 w3 w4 w5 ([nar .char (own_sym v0), nar .char (own_sym v1), nar .char (own_sym v2), nar .char (own_sym v3), 0, 0, 0, 0] : List Int32) (by first | decide | simp) T12.heap n0 ha11 Ac12) hZ (hW hw 6 rfl) (hW hw 5 rfl) (by (try dsimp only [room_1]); (try simp only [List.length_cons, List.length_nil]); omega) (by (try dsimp only [room_1]); (try simp only [List.length_cons, List.length_nil]); omega)) rfl (g := (mkF m 177 #[sI p0, sI p1, sI p2, sI 5, sR a1, sR a10, sR a11, .unset, .unset] [vI 2, vI w5, vI w4, vI w3, vI 4, vR a11])) rfl (by rw [hml]; rfl) (argsL := [vR a11, vI 4, vI w3, vI w4, vI w5, vI 2]) (rest := []) (lenOf pd_47 rfl) rfl (by show 2 * 0 + _ ≤ _; exact Nat.le_of_eq rfl) (hb hby at_177) rfl (by (try dsimp only [room_1]); (try simp only [List.length_cons, List.length_nil]); omega) (by (try dsimp only [room_1]); (try simp only [List.length_cons, List.length_nil]); omega) ?_
    rintro _ T13 L13 X13 ⟨rfl, N13q, K13q, A13⟩
    show Go p e below _ T13 (mkF m 180 #[sI p0, sI p1, sI p2, sI 5, sR a1, sR a10, sR a11, .unset, .unset] [])
    obtain ⟨v4, hv4, vD4, vn4, ve4, vc4⟩ : ∃ v, v = (XT.ushr (((w3 <<< ((16 : Int32) &&& 31)) ||| (w4 <<< ((8 : Int32) &&& 31))) ||| (0 : Int32)) (18 : Int32)) &&& (63 : Int32) ∧ Dig (own_chr64 v) v ∧ ¬ v < 0 ∧ ¬ own_chr64 v = 61 ∧ ¬ (255 : Int32) < nar .char (own_sym v) := ⟨_, rfl, own_dig _, own_dnn _, own_d61 _, (own_crng _).2⟩
    obtain ⟨v5, hv5, vD5, vn5, ve5, vc5⟩ : ∃ v, v = (XT.ushr (((w3 <<< ((16 : Int32) &&& 31)) ||| (w4 <<< ((8 : Int32) &&& 31))) ||| (0 : Int32)) (12 : Int32)) &&& (63 : Int32) ∧ Dig (own_chr64 v) v ∧ ¬ v < 0 ∧ ¬ own_chr64 v = 61 ∧ ¬ (255 : Int32) < nar .char (own_sym v) := ⟨_, rfl, own_dig _, own_dnn _, own_d61 _, (own_crng _).2⟩
    obtain ⟨v6, hv6, vD6, vn6, ve6, vc6⟩ : ∃ v, v = (XT.ushr (((w3 <<< ((16 : Int32) &&& 31)) ||| (w4 <<< ((8 : Int32) &&& 31))) ||| (0 : Int32)) (6 : Int32)) &&& (63 : Int32) ∧ Dig (own_chr64 v) v ∧ ¬ v < 0 ∧ ¬ own_chr64 v = 61 ∧ ¬ (255 : Int32) < nar .char (own_sym v) := ⟨_, rfl, own_dig _, own_dnn _, own_d61 _, (own_crng _).2⟩
    have Ac13 : AI Z T13.heap a11 .char ([nar .char (own_sym v0), nar .char (own_sym v1), nar .char (own_sym v2), nar .char (own_sym v3), nar .char (own_sym v4), nar .char (own_sym v5), nar .char (own_sym v6), nar .char ((61 : Int32))] : List Int32) := by rw [hv4, hv5, hv6]; exact A13
    have Av13 := Av12.keep K13q (ninS n1_11 nin0)
    have K13 := K12.trans K13q (fun x q => Or.inr (by cases List.mem_singleton.mp q; omega))
    have k13 := K13.1
    have N13 := Fr.app N12 N13q
    obtain ⟨T20, h20, X20, e20, E20, A20, D20, -, st20⟩ := newO X13 hx hZ hown (hW hw 10 rfl) (hW hw 11 rfl) (hW hw 12 rfl) rfl (g := (mkF m 180 #[sI p0, sI p1, sI p2, sI 5, sR a1, sR a10, sR a11, .unset, .unset] [])) rfl (hb hby at_180) (by (try dsimp only [room_1]); (try simp only [List.length_cons, List.length_nil]); omega) (by (try dsimp only [room_1]); (try simp only [List.length_cons, List.length_nil]); omega)
    obtain ⟨a20, g20⟩ : ∃ z, z = T13.heap.size := ⟨_, rfl⟩
    rw [← g20] at A20 D20 st20
    have l20 : a20 < h20.size := A20.lt
    have sE20 := E20.1
    refine Go.st st20 ?_
    show Go p e below _ T20 (mkF m 183 #[sI p0, sI p1, sI p2, sI 5, sR a1, sR a10, sR a11, .unset, .unset] [vR a20])
    refine g_dup X20 hx 184 (hb hby at_183) rfl rfl ?_
    refine g_aload X20 hx 186 (hb hby at_184) rfl rfl ?_
    have hbd : ∀ c ∈ ([nar .char (own_sym v0), nar .char (own_sym v1), nar .char (own_sym v2), nar .char (own_sym v3), nar .char (own_sym v4), nar .char (own_sym v5), nar .char (own_sym v6), nar .char ((61 : Int32))] : List Int32), ¬ (255 : Int32) < c := by
      intro c hc
      simp only [List.mem_cons, List.not_mem_nil, or_false] at hc
      rcases hc with rfl | rfl | rfl | rfl | rfl | rfl | rfl | rfl
      · exact vc0
      · exact vc1
      · exact vc2
      · exact vc3
      · exact vc4
      · exact vc5
      · exact vc6
      · exact own_c61
    have O20 : Ext Z.heap h20 := (X00.keep (K13.ext E20) all0).2
    refine Go.callI X20 hx (y := (⟨"java/lang/String", "<init>", "([C)V"⟩ : MethodName)) rfl hown (mvT hZ (hW hw 13 rfl)) (mvT hZ (hW hw 14 rfl)) (mvT hZ (hW hw 15 rfl)) (by decide) (Ctr.back (W := 1) (rmI1 l Z a0 hw ([nar .char (own_sym v0), nar .char (own_sym v1), nar .char (own_sym v2), nar .char (own_sym v3), nar .char (own_sym v4), nar .char (own_sym v5), nar .char (own_sym v6), nar .char ((61 : Int32))] : List Int32) (by simp) (by simp) hbd z SC nC a20 a11 _ _ h20 n0 (by omega) (by omega) O20 A20 (D20 (Or.inr (hW hw 38 rfl)) (ty := (.array .byte)) (by decide)) (D20 (Or.inr (hW hw 36 rfl)) (ty := .byte) (by decide)) (Ac13.ext E20)) hZ (hW hw 15 rfl) (hW hw 12 rfl) (by (try dsimp only [room_1]); (try simp only [List.length_cons, List.length_nil]); omega) (by (try dsimp only [room_1]); (try simp only [List.length_cons, List.length_nil]); omega)) e20 (g := (mkF m 186 #[sI p0, sI p1, sI p2, sI 5, sR a1, sR a10, sR a11, .unset, .unset] [vR a11, vR a20, vR a20])) rfl (by rw [hml]; rfl) (a := a20) (argsL := [vR a11]) (rest := [vR a20]) (lenOf pd_48 rfl) rfl (by show 2 * 0 + _ ≤ _; exact Nat.le_of_eq rfl) (hb hby at_186) rfl (by (try dsimp only [room_1]); (try simp only [List.length_cons, List.length_nil]); omega) (by (try dsimp only [room_1]); (try simp only [List.length_cons, List.length_nil]); omega) ?_
    rintro _ T21 L21 X21 ⟨rfl, N21q, K21q, F21, G21, t21, V21, B21q, Y21⟩
    show Go p e below _ T21 (mkF m 189 #[sI p0, sI p1, sI p2, sI 5, sR a1, sR a10, sR a11, .unset, .unset] [vR a20])
    have N21 := Fr.app N13 N21q
    have K21 := (K13.ext E20).trans K21q (fun x q => Or.inr (by cases List.mem_singleton.mp q; omega))
    have Av21 := (Av13.ext E20).keep K21q (ninS (Nat.ne_of_lt (Nat.lt_of_lt_of_eq Av13.lt g20.symm)) nin0)
    have B21 : AI Z T21.heap t21 .byte ([own_chr64 (v0), own_chr64 (v1), own_chr64 (v2), own_chr64 (v3), own_chr64 (v4), own_chr64 (v5), own_chr64 (v6), own_lo (nar .char (61 : Int32))] : List Int32) := B21q
    rw [own_e61] at B21
    refine g_astore X21 hx #[sI p0, sI p1, sI p2, sI 5, sR a1, sR a10, sR a11, sR a20, .unset] 191 (hb hby at_189) rfl rfl ?_
    have q_0 : nar .byte ((((((v0 <<< ((18 : Int32) &&& 31)) ||| (v1 <<< ((12 : Int32) &&& 31))) ||| (v2 <<< ((6 : Int32) &&& 31))) ||| v3) >>> ((16 : Int32) &&& 31)).toInt8.toInt32) = w0.toInt8.toInt32 := by rw [hv0, hv1, hv2, hv3]; rw [hw0, hw1, hw2]; exact (own_nar_lo _).trans (own_o3B0 p0 (XT.ushr p0 (8 : Int32)) (XT.ushr p0 (16 : Int32)))
    have q_1 : nar .byte ((((((v0 <<< ((18 : Int32) &&& 31)) ||| (v1 <<< ((12 : Int32) &&& 31))) ||| (v2 <<< ((6 : Int32) &&& 31))) ||| v3) >>> ((8 : Int32) &&& 31)).toInt8.toInt32) = w1.toInt8.toInt32 := by rw [hv0, hv1, hv2, hv3]; rw [hw0, hw1, hw2]; exact (own_nar_lo _).trans (own_o3B1 p0 (XT.ushr p0 (8 : Int32)) (XT.ushr p0 (16 : Int32)))
    have q_2 : nar .byte (((((v0 <<< ((18 : Int32) &&& 31)) ||| (v1 <<< ((12 : Int32) &&& 31))) ||| (v2 <<< ((6 : Int32) &&& 31))) ||| v3).toInt8.toInt32) = w2.toInt8.toInt32 := by rw [hv0, hv1, hv2, hv3]; rw [hw0, hw1, hw2]; exact (own_nar_lo _).trans (own_o3B2 p0 (XT.ushr p0 (8 : Int32)) (XT.ushr p0 (16 : Int32)))
    have q_3 : nar .byte ((((((0 : Int32) ||| (v4 <<< ((18 : Int32) &&& 31))) ||| (v5 <<< ((12 : Int32) &&& 31))) ||| (v6 <<< ((6 : Int32) &&& 31))) >>> ((16 : Int32) &&& 31)).toInt8.toInt32) = w3.toInt8.toInt32 := by rw [hv4, hv5, hv6]; rw [hw3, hw4]; exact (own_nar_lo _).trans (own_o2_0 p1 (XT.ushr p1 (8 : Int32)) (XT.ushr p1 (16 : Int32)))
    have q_4 : nar .byte ((((((0 : Int32) ||| (v4 <<< ((18 : Int32) &&& 31))) ||| (v5 <<< ((12 : Int32) &&& 31))) ||| (v6 <<< ((6 : Int32) &&& 31))) >>> ((8 : Int32) &&& 31)).toInt8.toInt32) = w4.toInt8.toInt32 := by rw [hv4, hv5, hv6]; rw [hw3, hw4]; exact (own_nar_lo _).trans (own_o2_1 p1 (XT.ushr p1 (8 : Int32)) (XT.ushr p1 (16 : Int32)))
    have hk : ∀ k, k < 5 → ∃ x y, ([nar .byte ((((((v0 <<< ((18 : Int32) &&& 31)) ||| (v1 <<< ((12 : Int32) &&& 31))) ||| (v2 <<< ((6 : Int32) &&& 31))) ||| v3) >>> ((16 : Int32) &&& 31)).toInt8.toInt32), nar .byte ((((((v0 <<< ((18 : Int32) &&& 31)) ||| (v1 <<< ((12 : Int32) &&& 31))) ||| (v2 <<< ((6 : Int32) &&& 31))) ||| v3) >>> ((8 : Int32) &&& 31)).toInt8.toInt32), nar .byte (((((v0 <<< ((18 : Int32) &&& 31)) ||| (v1 <<< ((12 : Int32) &&& 31))) ||| (v2 <<< ((6 : Int32) &&& 31))) ||| v3).toInt8.toInt32), nar .byte ((((((0 : Int32) ||| (v4 <<< ((18 : Int32) &&& 31))) ||| (v5 <<< ((12 : Int32) &&& 31))) ||| (v6 <<< ((6 : Int32) &&& 31))) >>> ((16 : Int32) &&& 31)).toInt8.toInt32), nar .byte ((((((0 : Int32) ||| (v4 <<< ((18 : Int32) &&& 31))) ||| (v5 <<< ((12 : Int32) &&& 31))) ||| (v6 <<< ((6 : Int32) &&& 31))) >>> ((8 : Int32) &&& 31)).toInt8.toInt32)] : List Int32)[k]? = some x ∧ ([w0, w1, w2, w3, w4, w5] : List Int32)[k]? = some y ∧ x = y.toInt8.toInt32 := by
      intro k q
      rcases (by omega : k = 0 ∨ k = 1 ∨ k = 2 ∨ k = 3 ∨ k = 4) with rfl | rfl | rfl | rfl | rfl
      · exact ⟨_, _, rfl, rfl, q_0⟩
      · exact ⟨_, _, rfl, rfl, q_1⟩
      · exact ⟨_, _, rfl, rfl, q_2⟩
      · exact ⟨_, _, rfl, rfl, q_3⟩
      · exact ⟨_, _, rfl, rfl, q_4⟩
    exact tl 5 _ ([nar .byte ((((((v0 <<< ((18 : Int32) &&& 31)) ||| (v1 <<< ((12 : Int32) &&& 31))) ||| (v2 <<< ((6 : Int32) &&& 31))) ||| v3) >>> ((16 : Int32) &&& 31)).toInt8.toInt32), nar .byte ((((((v0 <<< ((18 : Int32) &&& 31)) ||| (v1 <<< ((12 : Int32) &&& 31))) ||| (v2 <<< ((6 : Int32) &&& 31))) ||| v3) >>> ((8 : Int32) &&& 31)).toInt8.toInt32), nar .byte (((((v0 <<< ((18 : Int32) &&& 31)) ||| (v1 <<< ((12 : Int32) &&& 31))) ||| (v2 <<< ((6 : Int32) &&& 31))) ||| v3).toInt8.toInt32), nar .byte ((((((0 : Int32) ||| (v4 <<< ((18 : Int32) &&& 31))) ||| (v5 <<< ((12 : Int32) &&& 31))) ||| (v6 <<< ((6 : Int32) &&& 31))) >>> ((16 : Int32) &&& 31)).toInt8.toInt32), nar .byte ((((((0 : Int32) ||| (v4 <<< ((18 : Int32) &&& 31))) ||| (v5 <<< ((12 : Int32) &&& 31))) ||| (v6 <<< ((6 : Int32) &&& 31))) >>> ((8 : Int32) &&& 31)).toInt8.toInt32)] : List Int32) _ _ _ _ _ _ _ _ (hr rfl) rfl (hr rfl) hk (Or.inr (Or.inr (Or.inr (Or.inr (Or.inr (Or.inl ⟨_, _, _, _, _, _, _, _, _, _, _, _, _, _, vD0, vn0, vD1, vn1, vD2, vn2, vD3, vn3, vD4, vn4, vD5, vn5, vD6, vn6, ve6, rfl, rfl⟩)))))) X21 (hr rfl) (hr rfl) (Bas.refl s 0) (Nat.zero_le _) hZ hown (CHb.to' hC0 (UX K21) (fun b q => Nat.lt_of_lt_of_le q K21.1)) hsz K21 N21 F21 G21 V21 B21 Y21 Av21
  · skip
    show Go p e below _ T11 (mkF m 92 #[sI p0, sI p1, sI p2, sI 6, sR a1, sR a10, sR a11, .unset, .unset] [vI 6])
    refine g_ifY X11 hx 102 (hb hby at_92) (by decide) (XT.i0_ne_t (by decide)) ?_
    refine g_iloadN X11 hx 103 (hb hby at_102) rfl rfl ?_
    refine g_iconst X11 hx 104 (hb hby at_103) rfl ki_3 ?_
    refine g_icY X11 hx 140 (hb hby at_104) (by decide) (XT.ii_gt_t (by decide)) ?_
    refine g_aload X11 hx 142 (hb hby at_140) rfl rfl ?_
    refine g_iconst X11 hx 143 (hb hby at_142) rfl ki_0 ?_
    refine g_aload X11 hx 145 (hb hby at_143) rfl rfl ?_
    refine g_iconst X11 hx 146 (hb hby at_145) rfl ki_0 ?_
    refine g_iaload X11 hx hZ e11 Av11 0 (x := w0) rfl rfl 147 (hb hby at_146) rfl ?_
    refine g_aload X11 hx 149 (hb hby at_147) rfl rfl ?_
    refine g_iconst X11 hx 150 (hb hby at_149) rfl ki_1 ?_
    refine g_iaload X11 hx hZ e11 Av11 1 (x := w1) rfl rfl 151 (hb hby at_150) rfl ?_
    refine g_aload X11 hx 153 (hb hby at_151) rfl rfl ?_
    refine g_iconst X11 hx 154 (hb hby at_153) rfl ki_2 ?_
    refine g_iaload X11 hx hZ e11 Av11 2 (x := w2) rfl rfl 155 (hb hby at_154) rfl ?_
    refine g_iconst X11 hx 156 (hb hby at_155) rfl ki_3 ?_
    refine Go.callS X11 hx (y := (⟨"com/example/poste_restante/posterestante/BlockBytesPinLaw", "group", "([CIIIII)V"⟩ : MethodName)) hown (mvT hZ (hW hw 3 rfl)) (mvT hZ (hW hw 4 rfl)) (mvT hZ (hW hw 5 rfl)) (mvT hZ (hW hw 6 rfl)) (by decide) (Ctr.back (W := 0) (rmG_0_3 l Z a0 hw a11 w0 w1 w2 (List.replicate 8 0) (by first | decide | simp) h11 n0 ha11 A11) hZ (hW hw 6 rfl) (hW hw 5 rfl) (by (try dsimp only [room_1]); (try simp only [List.length_cons, List.length_nil]); omega) (by (try dsimp only [room_1]); (try simp only [List.length_cons, List.length_nil]); omega)) e11 (g := (mkF m 156 #[sI p0, sI p1, sI p2, sI 6, sR a1, sR a10, sR a11, .unset, .unset] [vI 3, vI w2, vI w1, vI w0, vI 0, vR a11])) rfl (by rw [hml]; rfl) (argsL := [vR a11, vI 0, vI w0, vI w1, vI w2, vI 3]) (rest := []) (lenOf pd_47 rfl) rfl (by show 2 * 0 + _ ≤ _; exact Nat.le_of_eq rfl) (hb hby at_156) rfl (by (try dsimp only [room_1]); (try simp only [List.length_cons, List.length_nil]); omega) (by (try dsimp only [room_1]); (try simp only [List.length_cons, List.length_nil]); omega) ?_
    rintro _ T12 L12 X12 ⟨rfl, N12q, K12q, A12⟩
    show Go p e below _ T12 (mkF m 159 #[sI p0, sI p1, sI p2, sI 6, sR a1, sR a10, sR a11, .unset, .unset] [])
    obtain ⟨v0, hv0, vD0, vn0, ve0, vc0⟩ : ∃ v, v = (XT.ushr (((w0 <<< ((16 : Int32) &&& 31)) ||| (w1 <<< ((8 : Int32) &&& 31))) ||| w2) (18 : Int32)) &&& (63 : Int32) ∧ Dig (own_chr64 v) v ∧ ¬ v < 0 ∧ ¬ own_chr64 v = 61 ∧ ¬ (255 : Int32) < nar .char (own_sym v) := ⟨_, rfl, own_dig _, own_dnn _, own_d61 _, (own_crng _).2⟩
    obtain ⟨v1, hv1, vD1, vn1, ve1, vc1⟩ : ∃ v, v = (XT.ushr (((w0 <<< ((16 : Int32) &&& 31)) ||| (w1 <<< ((8 : Int32) &&& 31))) ||| w2) (12 : Int32)) &&& (63 : Int32) ∧ Dig (own_chr64 v) v ∧ ¬ v < 0 ∧ ¬ own_chr64 v = 61 ∧ ¬ (255 : Int32) < nar .char (own_sym v) := ⟨_, rfl, own_dig _, own_dnn _, own_d61 _, (own_crng _).2⟩
    obtain ⟨v2, hv2, vD2, vn2, ve2, vc2⟩ : ∃ v, v = (XT.ushr (((w0 <<< ((16 : Int32) &&& 31)) ||| (w1 <<< ((8 : Int32) &&& 31))) ||| w2) (6 : Int32)) &&& (63 : Int32) ∧ Dig (own_chr64 v) v ∧ ¬ v < 0 ∧ ¬ own_chr64 v = 61 ∧ ¬ (255 : Int32) < nar .char (own_sym v) := ⟨_, rfl, own_dig _, own_dnn _, own_d61 _, (own_crng _).2⟩
    obtain ⟨v3, hv3, vD3, vn3, ve3, vc3⟩ : ∃ v, v = (((w0 <<< ((16 : Int32) &&& 31)) ||| (w1 <<< ((8 : Int32) &&& 31))) ||| w2) &&& (63 : Int32) ∧ Dig (own_chr64 v) v ∧ ¬ v < 0 ∧ ¬ own_chr64 v = 61 ∧ ¬ (255 : Int32) < nar .char (own_sym v) := ⟨_, rfl, own_dig _, own_dnn _, own_d61 _, (own_crng _).2⟩
    have Ac12 : AI Z T12.heap a11 .char ([nar .char (own_sym v0), nar .char (own_sym v1), nar .char (own_sym v2), nar .char (own_sym v3), 0, 0, 0, 0] : List Int32) := by rw [hv0, hv1, hv2, hv3]; exact A12
    have Av12 := Av11.keep K12q (ninS n1_11 nin0)
    have K12 := K11.trans K12q (fun x q => Or.inr (by cases List.mem_singleton.mp q; omega))
    have k12 := K12.1
    have N12 := Fr.app N7 N12q
    refine g_aload X12 hx 161 (hb hby at_159) rfl rfl ?_
    refine g_iconst X12 hx 162 (hb hby at_161) rfl ki_4 ?_
    refine g_aload X12 hx 164 (hb hby at_162) rfl rfl ?_
    refine g_iconst X12 hx 165 (hb hby at_164) rfl ki_3 ?_
    refine g_iaload X12 hx hZ rfl Av12 3 (x := w3) rfl rfl 166 (hb hby at_165) rfl ?_
    refine g_aload X12 hx 168 (hb hby at_166) rfl rfl ?_
    refine g_iconst X12 hx 169 (hb hby at_168) rfl ki_4 ?_
    refine g_iaload X12 hx hZ rfl Av12 4 (x := w4) rfl rfl 170 (hb hby at_169) rfl ?_
    refine g_aload X12 hx 172 (hb hby at_170) rfl rfl ?_
    refine g_iconst X12 hx 173 (hb hby at_172) rfl ki_5 ?_
    refine g_iaload X12 hx hZ rfl Av12 5 (x := w5) rfl rfl 174 (hb hby at_173) rfl ?_
    refine g_iloadN X12 hx 175 (hb hby at_174) rfl rfl ?_
    refine g_iconst X12 hx 176 (hb hby at_175) rfl ki_3 ?_
    refine g_isub X12 hx 177 (hb hby at_176) rfl (by decide : (6 : Int32) - (3 : Int32) = (3 : Int32)) ?_
    refine Go.callS X12 hx (y := (⟨"com/example/poste_restante/posterestante/BlockBytesPinLaw", "group", "([CIIIII)V"⟩ : MethodName)) hown (mvT hZ (hW hw 3 rfl)) (mvT hZ (hW hw 4 rfl)) (mvT hZ (hW hw 5 rfl)) (mvT hZ (hW hw 6 rfl)) (by decide) (Ctr.back (W := 0) (rmG_4_3 l Z a0 hw a11 w3 w4 w5 ([nar .char (own_sym v0), nar .char (own_sym v1), nar .char (own_sym v2), nar .char (own_sym v3), 0, 0, 0, 0] : List Int32) (by first | decide | simp) T12.heap n0 ha11 Ac12) hZ (hW hw 6 rfl) (hW hw 5 rfl) (by (try dsimp only [room_1]); (try simp only [List.length_cons, List.length_nil]); omega) (by (try dsimp only [room_1]); (try simp only [List.length_cons, List.length_nil]); omega)) rfl (g := (mkF m 177 #[sI p0, sI p1, sI p2, sI 6, sR a1, sR a10, sR a11, .unset, .unset] [vI 3, vI w5, vI w4, vI w3, vI 4, vR a11])) rfl (by rw [hml]; rfl) (argsL := [vR a11, vI 4, vI w3, vI w4, vI w5, vI 3]) (rest := []) (lenOf pd_47 rfl) rfl (by show 2 * 0 + _ ≤ _; exact Nat.le_of_eq rfl) (hb hby at_177) rfl (by (try dsimp only [room_1]); (try simp only [List.length_cons, List.length_nil]); omega) (by (try dsimp only [room_1]); (try simp only [List.length_cons, List.length_nil]); omega) ?_
    rintro _ T13 L13 X13 ⟨rfl, N13q, K13q, A13⟩
    show Go p e below _ T13 (mkF m 180 #[sI p0, sI p1, sI p2, sI 6, sR a1, sR a10, sR a11, .unset, .unset] [])
    obtain ⟨v4, hv4, vD4, vn4, ve4, vc4⟩ : ∃ v, v = (XT.ushr (((w3 <<< ((16 : Int32) &&& 31)) ||| (w4 <<< ((8 : Int32) &&& 31))) ||| w5) (18 : Int32)) &&& (63 : Int32) ∧ Dig (own_chr64 v) v ∧ ¬ v < 0 ∧ ¬ own_chr64 v = 61 ∧ ¬ (255 : Int32) < nar .char (own_sym v) := ⟨_, rfl, own_dig _, own_dnn _, own_d61 _, (own_crng _).2⟩
    obtain ⟨v5, hv5, vD5, vn5, ve5, vc5⟩ : ∃ v, v = (XT.ushr (((w3 <<< ((16 : Int32) &&& 31)) ||| (w4 <<< ((8 : Int32) &&& 31))) ||| w5) (12 : Int32)) &&& (63 : Int32) ∧ Dig (own_chr64 v) v ∧ ¬ v < 0 ∧ ¬ own_chr64 v = 61 ∧ ¬ (255 : Int32) < nar .char (own_sym v) := ⟨_, rfl, own_dig _, own_dnn _, own_d61 _, (own_crng _).2⟩
    obtain ⟨v6, hv6, vD6, vn6, ve6, vc6⟩ : ∃ v, v = (XT.ushr (((w3 <<< ((16 : Int32) &&& 31)) ||| (w4 <<< ((8 : Int32) &&& 31))) ||| w5) (6 : Int32)) &&& (63 : Int32) ∧ Dig (own_chr64 v) v ∧ ¬ v < 0 ∧ ¬ own_chr64 v = 61 ∧ ¬ (255 : Int32) < nar .char (own_sym v) := ⟨_, rfl, own_dig _, own_dnn _, own_d61 _, (own_crng _).2⟩
    obtain ⟨v7, hv7, vD7, vn7, ve7, vc7⟩ : ∃ v, v = (((w3 <<< ((16 : Int32) &&& 31)) ||| (w4 <<< ((8 : Int32) &&& 31))) ||| w5) &&& (63 : Int32) ∧ Dig (own_chr64 v) v ∧ ¬ v < 0 ∧ ¬ own_chr64 v = 61 ∧ ¬ (255 : Int32) < nar .char (own_sym v) := ⟨_, rfl, own_dig _, own_dnn _, own_d61 _, (own_crng _).2⟩
    have Ac13 : AI Z T13.heap a11 .char ([nar .char (own_sym v0), nar .char (own_sym v1), nar .char (own_sym v2), nar .char (own_sym v3), nar .char (own_sym v4), nar .char (own_sym v5), nar .char (own_sym v6), nar .char (own_sym v7)] : List Int32) := by rw [hv4, hv5, hv6, hv7]; exact A13
    have Av13 := Av12.keep K13q (ninS n1_11 nin0)
    have K13 := K12.trans K13q (fun x q => Or.inr (by cases List.mem_singleton.mp q; omega))
    have k13 := K13.1
    have N13 := Fr.app N12 N13q
    obtain ⟨T20, h20, X20, e20, E20, A20, D20, -, st20⟩ := newO X13 hx hZ hown (hW hw 10 rfl) (hW hw 11 rfl) (hW hw 12 rfl) rfl (g := (mkF m 180 #[sI p0, sI p1, sI p2, sI 6, sR a1, sR a10, sR a11, .unset, .unset] [])) rfl (hb hby at_180) (by (try dsimp only [room_1]); (try simp only [List.length_cons, List.length_nil]); omega) (by (try dsimp only [room_1]); (try simp only [List.length_cons, List.length_nil]); omega)
    obtain ⟨a20, g20⟩ : ∃ z, z = T13.heap.size := ⟨_, rfl⟩
    rw [← g20] at A20 D20 st20
    have l20 : a20 < h20.size := A20.lt
    have sE20 := E20.1
    refine Go.st st20 ?_
    show Go p e below _ T20 (mkF m 183 #[sI p0, sI p1, sI p2, sI 6, sR a1, sR a10, sR a11, .unset, .unset] [vR a20])
    refine g_dup X20 hx 184 (hb hby at_183) rfl rfl ?_
    refine g_aload X20 hx 186 (hb hby at_184) rfl rfl ?_
    have hbd : ∀ c ∈ ([nar .char (own_sym v0), nar .char (own_sym v1), nar .char (own_sym v2), nar .char (own_sym v3), nar .char (own_sym v4), nar .char (own_sym v5), nar .char (own_sym v6), nar .char (own_sym v7)] : List Int32), ¬ (255 : Int32) < c := by
      intro c hc
      simp only [List.mem_cons, List.not_mem_nil, or_false] at hc
      rcases hc with rfl | rfl | rfl | rfl | rfl | rfl | rfl | rfl
      · exact vc0
      · exact vc1
      · exact vc2
      · exact vc3
      · exact vc4
      · exact vc5
      · exact vc6
      · exact vc7
    have O20 : Ext Z.heap h20 := (X00.keep (K13.ext E20) all0).2
    refine Go.callI X20 hx (y := (⟨"java/lang/String", "<init>", "([C)V"⟩ : MethodName)) rfl hown (mvT hZ (hW hw 13 rfl)) (mvT hZ (hW hw 14 rfl)) (mvT hZ (hW hw 15 rfl)) (by decide) (Ctr.back (W := 1) (rmI1 l Z a0 hw ([nar .char (own_sym v0), nar .char (own_sym v1), nar .char (own_sym v2), nar .char (own_sym v3), nar .char (own_sym v4), nar .char (own_sym v5), nar .char (own_sym v6), nar .char (own_sym v7)] : List Int32) (by simp) (by simp) hbd z SC nC a20 a11 _ _ h20 n0 (by omega) (by omega) O20 A20 (D20 (Or.inr (hW hw 38 rfl)) (ty := (.array .byte)) (by decide)) (D20 (Or.inr (hW hw 36 rfl)) (ty := .byte) (by decide)) (Ac13.ext E20)) hZ (hW hw 15 rfl) (hW hw 12 rfl) (by (try dsimp only [room_1]); (try simp only [List.length_cons, List.length_nil]); omega) (by (try dsimp only [room_1]); (try simp only [List.length_cons, List.length_nil]); omega)) e20 (g := (mkF m 186 #[sI p0, sI p1, sI p2, sI 6, sR a1, sR a10, sR a11, .unset, .unset] [vR a11, vR a20, vR a20])) rfl (by rw [hml]; rfl) (a := a20) (argsL := [vR a11]) (rest := [vR a20]) (lenOf pd_48 rfl) rfl (by show 2 * 0 + _ ≤ _; exact Nat.le_of_eq rfl) (hb hby at_186) rfl (by (try dsimp only [room_1]); (try simp only [List.length_cons, List.length_nil]); omega) (by (try dsimp only [room_1]); (try simp only [List.length_cons, List.length_nil]); omega) ?_
    rintro _ T21 L21 X21 ⟨rfl, N21q, K21q, F21, G21, t21, V21, B21q, Y21⟩
    show Go p e below _ T21 (mkF m 189 #[sI p0, sI p1, sI p2, sI 6, sR a1, sR a10, sR a11, .unset, .unset] [vR a20])
    have N21 := Fr.app N13 N21q
    have K21 := (K13.ext E20).trans K21q (fun x q => Or.inr (by cases List.mem_singleton.mp q; omega))
    have Av21 := (Av13.ext E20).keep K21q (ninS (Nat.ne_of_lt (Nat.lt_of_lt_of_eq Av13.lt g20.symm)) nin0)
    have B21 : AI Z T21.heap t21 .byte ([own_chr64 (v0), own_chr64 (v1), own_chr64 (v2), own_chr64 (v3), own_chr64 (v4), own_chr64 (v5), own_chr64 (v6), own_chr64 (v7)] : List Int32) := B21q
    refine g_astore X21 hx #[sI p0, sI p1, sI p2, sI 6, sR a1, sR a10, sR a11, sR a20, .unset] 191 (hb hby at_189) rfl rfl ?_
    have q_0 : nar .byte ((((((v0 <<< ((18 : Int32) &&& 31)) ||| (v1 <<< ((12 : Int32) &&& 31))) ||| (v2 <<< ((6 : Int32) &&& 31))) ||| v3) >>> ((16 : Int32) &&& 31)).toInt8.toInt32) = w0.toInt8.toInt32 := by rw [hv0, hv1, hv2, hv3]; rw [hw0, hw1, hw2]; exact (own_nar_lo _).trans (own_o3B0 p0 (XT.ushr p0 (8 : Int32)) (XT.ushr p0 (16 : Int32)))
    have q_1 : nar .byte ((((((v0 <<< ((18 : Int32) &&& 31)) ||| (v1 <<< ((12 : Int32) &&& 31))) ||| (v2 <<< ((6 : Int32) &&& 31))) ||| v3) >>> ((8 : Int32) &&& 31)).toInt8.toInt32) = w1.toInt8.toInt32 := by rw [hv0, hv1, hv2, hv3]; rw [hw0, hw1, hw2]; exact (own_nar_lo _).trans (own_o3B1 p0 (XT.ushr p0 (8 : Int32)) (XT.ushr p0 (16 : Int32)))
    have q_2 : nar .byte (((((v0 <<< ((18 : Int32) &&& 31)) ||| (v1 <<< ((12 : Int32) &&& 31))) ||| (v2 <<< ((6 : Int32) &&& 31))) ||| v3).toInt8.toInt32) = w2.toInt8.toInt32 := by rw [hv0, hv1, hv2, hv3]; rw [hw0, hw1, hw2]; exact (own_nar_lo _).trans (own_o3B2 p0 (XT.ushr p0 (8 : Int32)) (XT.ushr p0 (16 : Int32)))
    have q_3 : nar .byte ((((((v4 <<< ((18 : Int32) &&& 31)) ||| (v5 <<< ((12 : Int32) &&& 31))) ||| (v6 <<< ((6 : Int32) &&& 31))) ||| v7) >>> ((16 : Int32) &&& 31)).toInt8.toInt32) = w3.toInt8.toInt32 := by rw [hv4, hv5, hv6, hv7]; rw [hw3, hw4, hw5]; exact (own_nar_lo _).trans (own_o3B0 p1 (XT.ushr p1 (8 : Int32)) (XT.ushr p1 (16 : Int32)))
    have q_4 : nar .byte ((((((v4 <<< ((18 : Int32) &&& 31)) ||| (v5 <<< ((12 : Int32) &&& 31))) ||| (v6 <<< ((6 : Int32) &&& 31))) ||| v7) >>> ((8 : Int32) &&& 31)).toInt8.toInt32) = w4.toInt8.toInt32 := by rw [hv4, hv5, hv6, hv7]; rw [hw3, hw4, hw5]; exact (own_nar_lo _).trans (own_o3B1 p1 (XT.ushr p1 (8 : Int32)) (XT.ushr p1 (16 : Int32)))
    have q_5 : nar .byte (((((v4 <<< ((18 : Int32) &&& 31)) ||| (v5 <<< ((12 : Int32) &&& 31))) ||| (v6 <<< ((6 : Int32) &&& 31))) ||| v7).toInt8.toInt32) = w5.toInt8.toInt32 := by rw [hv4, hv5, hv6, hv7]; rw [hw3, hw4, hw5]; exact (own_nar_lo _).trans (own_o3B2 p1 (XT.ushr p1 (8 : Int32)) (XT.ushr p1 (16 : Int32)))
    have hk : ∀ k, k < 6 → ∃ x y, ([nar .byte ((((((v0 <<< ((18 : Int32) &&& 31)) ||| (v1 <<< ((12 : Int32) &&& 31))) ||| (v2 <<< ((6 : Int32) &&& 31))) ||| v3) >>> ((16 : Int32) &&& 31)).toInt8.toInt32), nar .byte ((((((v0 <<< ((18 : Int32) &&& 31)) ||| (v1 <<< ((12 : Int32) &&& 31))) ||| (v2 <<< ((6 : Int32) &&& 31))) ||| v3) >>> ((8 : Int32) &&& 31)).toInt8.toInt32), nar .byte (((((v0 <<< ((18 : Int32) &&& 31)) ||| (v1 <<< ((12 : Int32) &&& 31))) ||| (v2 <<< ((6 : Int32) &&& 31))) ||| v3).toInt8.toInt32), nar .byte ((((((v4 <<< ((18 : Int32) &&& 31)) ||| (v5 <<< ((12 : Int32) &&& 31))) ||| (v6 <<< ((6 : Int32) &&& 31))) ||| v7) >>> ((16 : Int32) &&& 31)).toInt8.toInt32), nar .byte ((((((v4 <<< ((18 : Int32) &&& 31)) ||| (v5 <<< ((12 : Int32) &&& 31))) ||| (v6 <<< ((6 : Int32) &&& 31))) ||| v7) >>> ((8 : Int32) &&& 31)).toInt8.toInt32), nar .byte (((((v4 <<< ((18 : Int32) &&& 31)) ||| (v5 <<< ((12 : Int32) &&& 31))) ||| (v6 <<< ((6 : Int32) &&& 31))) ||| v7).toInt8.toInt32)] : List Int32)[k]? = some x ∧ ([w0, w1, w2, w3, w4, w5] : List Int32)[k]? = some y ∧ x = y.toInt8.toInt32 := by
      intro k q
      rcases (by omega : k = 0 ∨ k = 1 ∨ k = 2 ∨ k = 3 ∨ k = 4 ∨ k = 5) with rfl | rfl | rfl | rfl | rfl | rfl
      · exact ⟨_, _, rfl, rfl, q_0⟩
      · exact ⟨_, _, rfl, rfl, q_1⟩
      · exact ⟨_, _, rfl, rfl, q_2⟩
      · exact ⟨_, _, rfl, rfl, q_3⟩
      · exact ⟨_, _, rfl, rfl, q_4⟩
      · exact ⟨_, _, rfl, rfl, q_5⟩
    exact tl 6 _ ([nar .byte ((((((v0 <<< ((18 : Int32) &&& 31)) ||| (v1 <<< ((12 : Int32) &&& 31))) ||| (v2 <<< ((6 : Int32) &&& 31))) ||| v3) >>> ((16 : Int32) &&& 31)).toInt8.toInt32), nar .byte ((((((v0 <<< ((18 : Int32) &&& 31)) ||| (v1 <<< ((12 : Int32) &&& 31))) ||| (v2 <<< ((6 : Int32) &&& 31))) ||| v3) >>> ((8 : Int32) &&& 31)).toInt8.toInt32), nar .byte (((((v0 <<< ((18 : Int32) &&& 31)) ||| (v1 <<< ((12 : Int32) &&& 31))) ||| (v2 <<< ((6 : Int32) &&& 31))) ||| v3).toInt8.toInt32), nar .byte ((((((v4 <<< ((18 : Int32) &&& 31)) ||| (v5 <<< ((12 : Int32) &&& 31))) ||| (v6 <<< ((6 : Int32) &&& 31))) ||| v7) >>> ((16 : Int32) &&& 31)).toInt8.toInt32), nar .byte ((((((v4 <<< ((18 : Int32) &&& 31)) ||| (v5 <<< ((12 : Int32) &&& 31))) ||| (v6 <<< ((6 : Int32) &&& 31))) ||| v7) >>> ((8 : Int32) &&& 31)).toInt8.toInt32), nar .byte (((((v4 <<< ((18 : Int32) &&& 31)) ||| (v5 <<< ((12 : Int32) &&& 31))) ||| (v6 <<< ((6 : Int32) &&& 31))) ||| v7).toInt8.toInt32)] : List Int32) _ _ _ _ _ _ _ _ (hr rfl) rfl (hr rfl) hk (Or.inr (Or.inr (Or.inr (Or.inr (Or.inr (Or.inr (⟨_, _, _, _, _, _, _, _, _, _, _, _, _, _, _, _, vD0, vn0, vD1, vn1, vD2, vn2, vD3, vn3, vD4, vn4, vD5, vn5, vD6, vn6, vD7, vn7, ve7, rfl, rfl⟩))))))) X21 (hr rfl) (hr rfl) (Bas.refl s 0) (Nat.zero_le _) hZ hown (CHb.to' hC0 (UX K21) (fun b q => Nat.lt_of_lt_of_le q K21.1)) hsz K21 N21 F21 G21 V21 B21 Y21 Av21
theorem own_eqv {s : State} {args : Array Value} {t : Term} {v : Int32} (h : (Cond.eq t (Term.int v)).value args s none s [] = some true) : t.eval args s none [] s = some (.int v) := by
  obtain ⟨x, y, h1, h2, k1, k2⟩ := cmp_v (Or.inl h)
  cases Option.some.inj ((Term.int_eval v).symm.trans h2)
  obtain ⟨z, rfl⟩ := k2
  have q := gotT (Cond.eq_ints h1 (Term.int_eval v)) h
  rw [h1, q]
def own_ft : Term := Term.static "java/util/Base64$Decoder" "fromBase64" "[I"
theorem own_tabAI {s : State} {args : Array Value} {t : Term} {x : Addr} (ev : t.eval args s none [] s = some (.ref x)) (hA : (Cond.arrayOf t .int).value args s none s [] = some true) (hL : (Cond.eq (Term.length t) (Term.int 256)).value args s none s [] = some true)
    (hE : ∀ i : Nat, i < 256 → (Cond.eq (Term.elem t (Term.int (Int32.ofNat i))) (Term.int (own_tab.getD i 0))).value args s none s [] = some true) : AI s s.heap x .int own_tab := by
  obtain ⟨c, A⟩ := Arr.start ev hA
  have ha : s.arrayAt? x = some c := Arr.fin (Vm.Alike.refl _) A
  have hlen : own_tab.length = 256 := by decide +kernel
  have hsz : c.slots.size = 256 := by
    have h := own_eqv hL
    simp only [Term.eval, ev, ha, Option.bind_eq_bind, Option.bind_some, Option.pure_def] at h
    split at h
    · rename_i hl
      have q := congrArg Int32.toInt (Value.int.inj (Option.some.inj h))
      rw [len_toInt hl] at q
      have q2 : ((256 : Int32)).toInt = 256 := rfl
      omega
    · cases h
  refine AI.ofCell A ?_ (fun _ _ => rfl) (by rw [hlen]; decide)
  apply List.ext_getElem?
  intro i
  by_cases hi : i < 256
  · have q := (elem_in (own_eqv (hE i hi)) ev (Term.int_eval _) A.1).2
    rw [own_ofNat_clamp (by omega)] at q
    rw [Array.getElem?_toList, q, List.getElem?_map, List.getD_eq_getElem?_getD, List.getElem?_eq_getElem (by omega)]
    rfl
  · rw [List.getElem?_eq_none (by rw [Array.length_toList]; omega), List.getElem?_eq_none (by rw [List.length_map]; omega)]
theorem own_tabset : ∀ i : Nat, i < 256 → jdkStatics_1[25 + i]? = some (Cond.eq (Term.elem own_ft (Term.int (Int32.ofNat i))) (Term.int (own_tab.getD i 0))) := by decide +kernel
set_option maxRecDepth 65536 in
set_option maxHeartbeats 40000000 in
theorem comes_1 {Post : Tables → Env → Array Value → State → Outcome → State → Prop} (hpost : ∀ tb e args s v u, (limb_1_1.after args s (.returned v) u = true ∧ limb_1_2.after args s (.returned v) u = true ∧ True) → FramedW s (.returned v) u (Jvm.fieldLocs frame_1_writes args s ++ Jvm.arrayLocs frame_1_arrays args s ++ Jvm.staticLocs frame_1_statics s) 32 2240 → Post tb e args s (.returned v) u) :
    ArmFor flags0 classFile x code maxLocals ret World_1 tables_1 room_1 Calls_1 rest_1 Pre_1 Post := by
  intro l hfl _ _ p e ha hc hk s m args below hf hA hF happ hP
  obtain ⟨hcalls, hrest, hpre⟩ := hP
  obtain ⟨-, -, -, hnamed, -, -, -, hat⟩ := (Spec.applies_iff hf).mp happ
  obtain ⟨hg, hn⟩ := and_e (Cond.before_iff.mp (show (Jvm.Cond.and given_1 narrow_1).before args s = true from hpre))
  obtain ⟨hcount, g0⟩ := and_e hg
  obtain ⟨ga0, g1⟩ := and_e g0
  obtain ⟨ga1, g2⟩ := and_e g1
  have ga2 := g2
  obtain ⟨w0, w1, w2, rfl⟩ : ∃ w0 w1 w2 : Value, args = #[w0, w1, w2] := by
    have hs : args.size = 3 := by simpa [Cond.value, given_1] using hcount
    obtain ⟨L⟩ := args
    match L, hs with
    | [w0, w1, w2], _ => exact ⟨w0, w1, w2, rfl⟩
  have hw := fun d (hd : d ∈ tables_1) => atoms_spec (ws := Jvm.Cond.code x code maxLocals ret :: tables_1) hat d (List.mem_cons_of_mem _ hd)
  obtain ⟨hsets, hown0⟩ := atoms_of _ (rest_1_c_eq ▸ (show rest_1_c.before _ s = true from hrest))
  have hfit : Fit s := fun {y c} hc i hi => by
    obtain ⟨ha, rfl⟩ := Array.getElem?_eq_some_iff.mp hc
    have q := List.all_eq_true.mp ((Array.all_eq_true_iff_forall_mem.mp hF) _ (Array.getElem_mem ha)) i (List.mem_range.mpr hi)
    simpa [Array.getElem?_eq_getElem hi] using q
  obtain ⟨i0, ea0⟩ := is_v ga0
  obtain rfl : w0 = (.int i0) := Option.some.inj ea0
  obtain ⟨i1, ea1⟩ := is_v ga1
  obtain rfl : w1 = (.int i1) := Option.some.inj ea1
  obtain ⟨i2, ea2⟩ := is_v ga2
  obtain rfl : w2 = (.int i2) := Option.some.inj ea2
  obtain ⟨iC, eC⟩ := is_v (Cond.before_iff.mp (hsets _ (List.mem_of_getElem? (i := 1) rfl)))
  have SC : Sta s s.heap "java/lang/String" "COMPACT_STRINGS" "Z" (.int iC) := Sta.start eC (Or.inl (hsets _ (List.mem_of_getElem? (i := 0) rfl)))
  have nC : ¬ (iC = (0 : Int32)) := gotF (Cond.eq_ints eC (Term.int_eval (0))) (not_v (Cond.before_iff.mp (hsets _ (List.mem_of_getElem? (i := 2) rfl))))
  have hcons := hcalls.1
  have hheld : CHn consts_1 (fun b => b < s.heap.size) s := CHn.start (fun y hy => by
    have hy0 := hy
    simp only [consts_1, List.mem_cons, List.not_mem_nil, or_false] at hy
    rcases hy with rfl | rfl
    · exact own_heldL (text := "") (hcons _ hy0) (hw _ (List.mem_of_getElem? (i := 137) rfl)) (by decide) (hsets _ (List.mem_of_getElem? (i := 2) rfl)) (hw _ (List.mem_of_getElem? (i := 28) rfl)) (hw _ (List.mem_of_getElem? (i := 11) rfl))
    · exact own_heldL (text := "L") (hcons _ hy0) (hw _ (List.mem_of_getElem? (i := 42) rfl)) (by decide) (hsets _ (List.mem_of_getElem? (i := 2) rfl)) (hw _ (List.mem_of_getElem? (i := 28) rfl)) (hw _ (List.mem_of_getElem? (i := 11) rfl)))
  obtain ⟨dec, eD⟩ := exa_v (Cond.before_iff.mp (hsets _ (List.mem_of_getElem? (i := 11) rfl)))
  have E_dec := Exa.start eD (Cond.before_iff.mp (hsets _ (List.mem_of_getElem? (i := 11) rfl)))
  have SD : Sta s s.heap "java/util/Base64$Decoder" "RFC4648" "Ljava/util/Base64$Decoder;" (.ref dec) := Sta.start eD (Or.inl (hsets _ (List.mem_of_getElem? (i := 10) rfl)))
  obtain ⟨iso, eI⟩ := exa_v (Cond.before_iff.mp (hsets _ (List.mem_of_getElem? (i := 16) rfl)))
  have E_iso := Exa.start eI (Cond.before_iff.mp (hsets _ (List.mem_of_getElem? (i := 16) rfl)))
  have SI : Sta s s.heap "sun/nio/cs/ISO_8859_1" "INSTANCE" "Lsun/nio/cs/ISO_8859_1;" (.ref iso) := Sta.start eI (Or.inl (hsets _ (List.mem_of_getElem? (i := 15) rfl)))
  obtain ⟨u8, eU⟩ := exa_v (Cond.before_iff.mp (hsets _ (List.mem_of_getElem? (i := 19) rfl)))
  have E_u8 := Exa.start eU (Cond.before_iff.mp (hsets _ (List.mem_of_getElem? (i := 19) rfl)))
  have SU : Sta s s.heap "sun/nio/cs/UTF_8" "INSTANCE" "Lsun/nio/cs/UTF_8;" (.ref u8) := Sta.start eU (Or.inl (hsets _ (List.mem_of_getElem? (i := 18) rfl)))
  have hne : iso ≠ u8 := E_iso.ne E_u8 (by decide)
  have FU : Fld s s.heap dec "java/util/Base64$Decoder" "isURL" "Z" (.int 0) := Fld.start ((fld_at eD).symm.trans (own_eqv (Cond.before_iff.mp (hsets _ (List.mem_of_getElem? (i := 12) rfl)))))
  have FM : Fld s s.heap dec "java/util/Base64$Decoder" "isMIME" "Z" (.int 0) := Fld.start ((fld_at eD).symm.trans (own_eqv (Cond.before_iff.mp (hsets _ (List.mem_of_getElem? (i := 13) rfl)))))
  obtain ⟨tb, eT⟩ := arr_v (Cond.before_iff.mp (hsets _ (List.mem_of_getElem? (i := 22) rfl)))
  have SB : Sta s s.heap "java/util/Base64$Decoder" "fromBase64" "[I" (.ref tb) := Sta.start eT (Or.inl (hsets _ (List.mem_of_getElem? (i := 21) rfl)))
  have Tb : AI s s.heap tb .int own_tab := own_tabAI (t := own_ft) eT (Cond.before_iff.mp (hsets _ (List.mem_of_getElem? (i := 22) rfl))) (Cond.before_iff.mp (hsets _ (List.mem_of_getElem? (i := 24) rfl))) (fun i hi => Cond.before_iff.mp (hsets _ (List.mem_of_getElem? (own_tabset i hi))))
  obtain ⟨n, o, h1, h2, h3, _, L, rfl, ⟨rfl, N⟩, -, hq⟩ := rm0 l s _ hw tables_1 i0 i1 i2 iC SC nC iso u8 SI SU hne s.heap s.heap.size rfl (Old.start s) dec tb SB SD E_dec FU FM Tb p e ha hc hk s m _ below hf ((Spec.applies_iff_loose hf).mp happ).1 ⟨rfl, State.Warmed39.refl s, rfl, hheld⟩ trivial
  refine ⟨n, _, h1, h2, h3, hpost _ _ _ _ _ _ ⟨Cond.after_iff.mpr rfl, Cond.after_iff.mpr (eq_i res_at (Term.int_eval (1)) rfl), trivial⟩ ⟨hq.1, hq.2.1, hq.2.2.1, (hq.2.2.2.sift fun y hy => Or.inr (N y hy)).mono (by decide) (by decide)⟩⟩
theorem main_1_1 : Claimed_1_1 := comes_1 fun _ _ _ _ _ _ h hF => ⟨h.1, hF⟩
theorem main_1_2 : Claimed_1_2 := comes_1 fun _ _ _ _ _ _ h hF => ⟨h.2.1, hF⟩
end Jvm.Pilot.@@N@@
namespace Jvm.Pilot.@@N@@
open Jvm Jvm.ClassFile Sem Op Lib Jvm.Free Jvm.Stand Jvm.Pilot.@@N@@.Jvm.D
/-! MADE BY PROGRAM (witnessworld.py) out of the Statement's table words and the real class files: 28 classes; the members and pool entries that the words name. The judged class is class 1, her method 4. -/
namespace start1
open Jvm.ClassFile
def u (s : String) : CpInfo := .utf8 (stringToUtf16 s)
/-- a pool by its gaps: so many unusable entries, then the entry; so many at the end -/
def gap : Nat → List CpInfo → List CpInfo
  | 0, r => r
  | n + 1, r => .unusable :: gap n r
def poolList (es : List (Nat × CpInfo)) (last : Nat) : List CpInfo := es.foldr (fun e r => gap e.1 (e.2 :: r)) (gap last [])
def pool (es : List (Nat × CpInfo)) (last : Nat) : Array CpInfo := ⟨poolList es last⟩
def fileOf (pool : Array CpInfo) (this : Nat) (attrs : Array Attribute := #[]) (ms : Array MethodInfo := #[]) (fl : Nat := 33) (sup : Nat := 0) (ifs : Array Nat := #[]) (fds : Array FieldInfo := #[]) : ClassFile where
  minorVersion := 0
  majorVersion := 65
  constantPool := pool
  accessFlags := fl
  thisClass := this
  superClass := sup
  interfaces := ifs
  fields := fds
  methods := ms
  attributes := attrs
def plain (name : String) (sup : Option ClassId) : Class where
  name := name
  kind := .ordinary
  loader := none
  accessFlags := 33
  super := sup
  interfaces := #[]
  cf := none
  fields := #[]
  methods := #[]
  instanceTypes := #[]
  staticTypes := #[]
  resolved := #[]
  callSites := []
  init := .initialized
  statics := none
  mirror := none

def pool0 : Array CpInfo := pool [(5, u "<init>"), (0, u "()V"), (1, .class_ 10), (1, u "java/lang/Object"), (85, u "clone"), (0, u "()Ljava/lang/Object;")] 26

def k0c0 : Code := { maxStack := 0, maxLocals := 1, code := object_method_1_code, exceptionTable := #[], attributes := #[] }
def k0m0 : Method := { name := "<init>", desc := "()V", sig := { parameters := [], returnType := none }, accessFlags := 1, code := some k0c0 }
def k0m1 : Method := { name := "clone", desc := "()Ljava/lang/Object;", sig := { parameters := [], returnType := some (.object "java/lang/Object") }, accessFlags := 260, code := none }
/-- java/lang/Object -/
def k0 : Class := { plain "java/lang/Object" none with
  accessFlags := 33
  interfaces := #[]
  cf := some (fileOf pool0 8 #[] #[{ accessFlags := 1, nameIndex := 5, descriptorIndex := 6, attributes := #[] }, { accessFlags := 260, nameIndex := 96, descriptorIndex := 97, attributes := #[] }] 33 0 #[] #[])
  fields := #[]
  methods := #[k0m0, k0m1]
  instanceTypes := #[]
  staticTypes := #[]
  resolved := Array.replicate 124 none
  statics := none }

def pool1 : Array CpInfo := pool [(2, .class_ 4), (1, u "java/lang/Object"), (0, u "<init>"), (0, u "()V"), (0, .methodref 8 9), (0, .class_ 10), (0, .nameAndType 11 12), (0, u "com/example/poste_restante/posterestante/BlockBytesPinLaw"), (0, u "sym"), (0, u "(I)C"), (0, .integer 2147483647), (0, .string 15), (0, u ""), (0, .methodref 8 17), (0, .nameAndType 18 19), (0, u "group"), (0, u "([CIIIII)V"), (0, .class_ 21), (0, u "java/lang/String"), (0, .methodref 20 23), (0, .nameAndType 5 24), (0, u "([C)V"), (0, .class_ 26), (0, u "com/example/poste_restante/posterestante/Pem$Block"), (0, .string 28), (0, u "L"), (0, .methodref 25 30), (0, .nameAndType 5 31), (0, u "(Ljava/lang/String;Ljava/lang/String;)V"), (0, .methodref 25 33), (0, .nameAndType 34 35), (0, u "bytes"), (0, u "()[B"), (0, .methodref 8 37), (0, .nameAndType 38 39), (0, u "at"), (0, u "([B[III)Z"), (5, u "law"), (0, u "(III)Z")] 10

def k1m0 : Method := { name := "<init>", desc := "()V", sig := { parameters := [], returnType := none }, accessFlags := 1, code := none }
def k1c1 : Code := { maxStack := 3, maxLocals := 1, code := method_2_code, exceptionTable := #[], attributes := #[] }
def k1m1 : Method := { name := "sym", desc := "(I)C", sig := { parameters := [.int], returnType := some .char }, accessFlags := 10, code := some k1c1 }
def k1c2 : Code := { maxStack := 4, maxLocals := 7, code := method_3_code, exceptionTable := #[], attributes := #[] }
def k1m2 : Method := { name := "group", desc := "([CIIIII)V", sig := { parameters := [(.array .char), .int, .int, .int, .int, .int], returnType := none }, accessFlags := 10, code := some k1c2 }
def k1c3 : Code := { maxStack := 3, maxLocals := 4, code := method_4_code, exceptionTable := #[], attributes := #[] }
def k1m3 : Method := { name := "at", desc := "([B[III)Z", sig := { parameters := [(.array .byte), (.array .int), .int, .int], returnType := some .boolean }, accessFlags := 10, code := some k1c3 }
def k1c4 : Code := { maxStack := 7, maxLocals := 9, code := code, exceptionTable := #[], attributes := #[] }
def k1m4 : Method := { name := "law", desc := "(III)Z", sig := { parameters := [.int, .int, .int], returnType := some .boolean }, accessFlags := 9, code := some k1c4 }
/-- com/example/poste_restante/posterestante/BlockBytesPinLaw -/
def k1 : Class := { plain "com/example/poste_restante/posterestante/BlockBytesPinLaw" (some 0) with
  accessFlags := 49
  interfaces := #[]
  cf := some (fileOf pool1 8 #[] #[{ accessFlags := 1, nameIndex := 5, descriptorIndex := 6, attributes := #[] }, { accessFlags := 10, nameIndex := 11, descriptorIndex := 12, attributes := #[] }, { accessFlags := 10, nameIndex := 18, descriptorIndex := 19, attributes := #[] }, { accessFlags := 10, nameIndex := 38, descriptorIndex := 39, attributes := #[] }, { accessFlags := 9, nameIndex := 45, descriptorIndex := 46, attributes := #[] }] 49 2 #[] #[])
  fields := #[]
  methods := #[k1m0, k1m1, k1m2, k1m3, k1m4]
  instanceTypes := #[]
  staticTypes := #[]
  resolved := Array.replicate 57 none
  statics := none }

def pool2 : Array CpInfo := pool [(1, .class_ 2), (0, u "java/io/Serializable"), (0, .class_ 4), (0, u "java/lang/Object")] 2

/-- java/io/Serializable -/
def k2 : Class := { plain "java/io/Serializable" (some 0) with
  accessFlags := 1537
  interfaces := #[]
  cf := some (fileOf pool2 1 #[] #[] 1537 3 #[] #[])
  fields := #[]
  methods := #[]
  instanceTypes := #[]
  staticTypes := #[]
  resolved := Array.replicate 7 none
  statics := none }

def pool3 : Array CpInfo := pool [(1, .class_ 2), (0, u "java/lang/Comparable"), (0, .class_ 4), (0, u "java/lang/Object")] 7

/-- java/lang/Comparable -/
def k3 : Class := { plain "java/lang/Comparable" (some 0) with
  accessFlags := 1537
  interfaces := #[]
  cf := some (fileOf pool3 1 #[] #[] 1537 3 #[] #[])
  fields := #[]
  methods := #[]
  instanceTypes := #[]
  staticTypes := #[]
  resolved := Array.replicate 12 none
  statics := none }

def pool4 : Array CpInfo := pool [(2, .class_ 4), (1, u "java/lang/CharSequence"), (42, .class_ 48), (0, u "java/lang/CharSequence$1CodePointIterator"), (10, .class_ 60), (0, u "java/lang/CharSequence$1CharIterator"), (5, .class_ 67), (0, u "java/lang/Object")] 63

/-- java/lang/CharSequence -/
def k4 : Class := { plain "java/lang/CharSequence" (some 0) with
  accessFlags := 1537
  interfaces := #[]
  cf := some (fileOf pool4 2 #[.nestMembers #[47, 59]] #[] 1537 66 #[] #[])
  fields := #[]
  methods := #[]
  instanceTypes := #[]
  staticTypes := #[]
  resolved := Array.replicate 131 none
  statics := none }

def pool5 : Array CpInfo := pool [(1, .class_ 2), (0, u "java/lang/constant/Constable"), (0, .class_ 4), (0, u "java/lang/Object")] 6

/-- java/lang/constant/Constable -/
def k5 : Class := { plain "java/lang/constant/Constable" (some 0) with
  accessFlags := 1537
  interfaces := #[]
  cf := some (fileOf pool5 1 #[] #[] 1537 3 #[] #[])
  fields := #[]
  methods := #[]
  instanceTypes := #[]
  staticTypes := #[]
  resolved := Array.replicate 11 none
  statics := none }

def pool6 : Array CpInfo := pool [(1, .class_ 2), (0, u "java/lang/constant/ConstantDesc"), (0, .class_ 4), (0, u "java/lang/Object")] 32

/-- java/lang/constant/ConstantDesc -/
def k6 : Class := { plain "java/lang/constant/ConstantDesc" (some 0) with
  accessFlags := 1537
  interfaces := #[]
  cf := some (fileOf pool6 1 #[] #[] 1537 3 #[] #[])
  fields := #[]
  methods := #[]
  instanceTypes := #[]
  staticTypes := #[]
  resolved := Array.replicate 37 none
  statics := none }

def pool7 : Array CpInfo := pool [(1, .methodref 2 3), (0, .class_ 4), (0, .nameAndType 5 6), (0, u "java/lang/Object"), (0, u "<init>"), (0, u "()V"), (2, .fieldref 10 11), (0, .class_ 12), (0, .nameAndType 13 14), (0, u "java/lang/String"), (0, u "value"), (0, u "[B"), (0, .fieldref 10 16), (0, .nameAndType 17 18), (0, u "coder"), (0, u "B"), (2, u "hash"), (0, u "I"), (2, u "hashIsZero"), (0, u "Z"), (0, .methodref 10 28), (0, .nameAndType 5 29), (0, u "([CIILjava/lang/Void;)V"), (8, .fieldref 10 39), (0, .nameAndType 40 26), (0, u "COMPACT_STRINGS"), (1, .class_ 44), (1, u "java/lang/StringUTF16"), (0, u "compress"), (1, .methodref 42 48), (0, .nameAndType 49 50), (0, u "coderFromArrayLen"), (0, u "([BI)B"), (35, .fieldref 87 88), (0, .class_ 89), (0, .nameAndType 90 91), (0, u "sun/nio/cs/UTF_8"), (0, u "INSTANCE"), (0, u "Lsun/nio/cs/UTF_8;"), (24, .fieldref 117 118), (0, .class_ 119), (0, .nameAndType 90 120), (0, u "sun/nio/cs/ISO_8859_1"), (0, u "Lsun/nio/cs/ISO_8859_1;"), (56, .methodref 42 178), (0, .nameAndType 45 179), (0, u "([CII)[B"), (75, u "(B[BZ)[B"), (0, .methodref 10 257), (0, .nameAndType 258 259), (0, u "encode8859_1"), (0, u "(B[B)[B"), (19, .methodref 280 281), (0, .class_ 14), (0, .nameAndType 282 283), (0, u "clone"), (0, u "()Ljava/lang/Object;"), (33, u "encode"), (17, .methodref 10 336), (0, .nameAndType 17 337), (0, u "()B"), (13, .methodref 10 352), (0, .nameAndType 258 255), (179, u "getBytes"), (2, .methodref 10 536), (0, .nameAndType 317 537), (0, u "(Ljava/nio/charset/Charset;B[B)[B"), (37, .class_ 576), (0, u "java/lang/CharSequence"), (22, u "CASE_INSENSITIVE_ORDER"), (0, u "Ljava/util/Comparator;"), (409, u "([C)V"), (90, u "serialPersistentFields"), (0, u "[Ljava/io/ObjectStreamField;"), (0, .class_ 1104), (0, u "java/lang/String$CaseInsensitiveComparator"), (1, .class_ 1107), (0, u "java/io/Serializable"), (0, .class_ 1109), (0, u "java/lang/Comparable"), (0, .class_ 1111), (0, u "java/lang/constant/Constable"), (0, .class_ 1113), (0, u "java/lang/constant/ConstantDesc"), (2, u "serialVersionUID"), (0, u "J"), (3, u "REPL"), (0, u "C"), (2, u "LATIN1"), (1, u "UTF16"), (117, u "(Ljava/nio/charset/Charset;)[B")] 205

def k7m0 : Method := { name := "<init>", desc := "()V", sig := { parameters := [], returnType := none }, accessFlags := 1, code := none }
def k7c1 : Code := { maxStack := 5, maxLocals := 2, code := jdk_42_method_3_code, exceptionTable := #[], attributes := #[] }
def k7m1 : Method := { name := "<init>", desc := "([C)V", sig := { parameters := [(.array .char)], returnType := none }, accessFlags := 1, code := some k7c1 }
def k7c2 : Code := { maxStack := 4, maxLocals := 3, code := jdk_42_method_18_code, exceptionTable := #[], attributes := #[] }
def k7m2 : Method := { name := "encode", desc := "(Ljava/nio/charset/Charset;B[B)[B", sig := { parameters := [(.object "java/nio/charset/Charset"), .byte, (.array .byte)], returnType := some (.array .byte) }, accessFlags := 10, code := some k7c2 }
def k7c3 : Code := { maxStack := 3, maxLocals := 2, code := jdk_42_method_26_code, exceptionTable := #[], attributes := #[] }
def k7m3 : Method := { name := "encode8859_1", desc := "(B[B)[B", sig := { parameters := [.byte, (.array .byte)], returnType := some (.array .byte) }, accessFlags := 10, code := some k7c3 }
def k7c4 : Code := { maxStack := 5, maxLocals := 10, code := jdk_42_method_27_code, exceptionTable := #[], attributes := #[] }
def k7m4 : Method := { name := "encode8859_1", desc := "(B[BZ)[B", sig := { parameters := [.byte, (.array .byte), .boolean], returnType := some (.array .byte) }, accessFlags := 10, code := some k7c4 }
def k7c5 : Code := { maxStack := 3, maxLocals := 2, code := jdk_42_method_64_code, exceptionTable := #[], attributes := #[] }
def k7m5 : Method := { name := "getBytes", desc := "(Ljava/nio/charset/Charset;)[B", sig := { parameters := [(.object "java/nio/charset/Charset")], returnType := some (.array .byte) }, accessFlags := 1, code := some k7c5 }
def k7c6 : Code := { maxStack := 4, maxLocals := 6, code := jdk_42_method_149_code, exceptionTable := #[], attributes := #[] }
def k7m6 : Method := { name := "<init>", desc := "([CIILjava/lang/Void;)V", sig := { parameters := [(.array .char), .int, .int, (.object "java/lang/Void")], returnType := none }, accessFlags := 2, code := some k7c6 }
def k7c7 : Code := { maxStack := 1, maxLocals := 1, code := jdk_42_method_152_code, exceptionTable := #[], attributes := #[] }
def k7m7 : Method := { name := "coder", desc := "()B", sig := { parameters := [], returnType := some .byte }, accessFlags := 0, code := some k7c7 }
/-- java/lang/String -/
def k7 : Class := { plain "java/lang/String" (some 0) with
  accessFlags := 49
  interfaces := #[2, 3, 4, 5, 6]
  cf := some (fileOf pool7 10 #[.nestMembers #[1103]] #[{ accessFlags := 1, nameIndex := 5, descriptorIndex := 6, attributes := #[] }, { accessFlags := 1, nameIndex := 5, descriptorIndex := 1010, attributes := #[] }, { accessFlags := 10, nameIndex := 317, descriptorIndex := 537, attributes := #[] }, { accessFlags := 10, nameIndex := 258, descriptorIndex := 259, attributes := #[] }, { accessFlags := 10, nameIndex := 258, descriptorIndex := 255, attributes := #[] }, { accessFlags := 1, nameIndex := 532, descriptorIndex := 1245, attributes := #[] }, { accessFlags := 2, nameIndex := 5, descriptorIndex := 29, attributes := #[] }, { accessFlags := 0, nameIndex := 17, descriptorIndex := 337, attributes := #[] }] 49 2 #[1106, 1108, 575, 1110, 1112] #[{ accessFlags := 18, nameIndex := 13, descriptorIndex := 14, attributes := #[] }, { accessFlags := 18, nameIndex := 17, descriptorIndex := 18, attributes := #[] }, { accessFlags := 2, nameIndex := 21, descriptorIndex := 22, attributes := #[] }, { accessFlags := 2, nameIndex := 25, descriptorIndex := 26, attributes := #[] }, { accessFlags := 26, nameIndex := 1116, descriptorIndex := 1117, attributes := #[] }, { accessFlags := 24, nameIndex := 40, descriptorIndex := 26, attributes := #[] }, { accessFlags := 26, nameIndex := 1101, descriptorIndex := 1102, attributes := #[] }, { accessFlags := 26, nameIndex := 1121, descriptorIndex := 1122, attributes := #[] }, { accessFlags := 25, nameIndex := 599, descriptorIndex := 600, attributes := #[] }, { accessFlags := 24, nameIndex := 1125, descriptorIndex := 18, attributes := #[] }, { accessFlags := 24, nameIndex := 1127, descriptorIndex := 18, attributes := #[] }])
  fields := #[{ name := "value", type := (.array .byte), accessFlags := 18, slot := 0, constantValue := 0 }, { name := "coder", type := .byte, accessFlags := 18, slot := 1, constantValue := 0 }, { name := "hash", type := .int, accessFlags := 2, slot := 2, constantValue := 0 }, { name := "hashIsZero", type := .boolean, accessFlags := 2, slot := 3, constantValue := 0 }, { name := "serialVersionUID", type := .long, accessFlags := 26, slot := 0, constantValue := 0 }, { name := "COMPACT_STRINGS", type := .boolean, accessFlags := 24, slot := 1, constantValue := 0 }, { name := "serialPersistentFields", type := (.array (.object "java/io/ObjectStreamField")), accessFlags := 26, slot := 2, constantValue := 0 }, { name := "REPL", type := .char, accessFlags := 26, slot := 3, constantValue := 0 }, { name := "CASE_INSENSITIVE_ORDER", type := (.object "java/util/Comparator"), accessFlags := 25, slot := 4, constantValue := 0 }, { name := "LATIN1", type := .byte, accessFlags := 24, slot := 5, constantValue := 0 }, { name := "UTF16", type := .byte, accessFlags := 24, slot := 6, constantValue := 0 }]
  methods := #[k7m0, k7m1, k7m2, k7m3, k7m4, k7m5, k7m6, k7m7]
  instanceTypes := #[(.array .byte), .byte, .int, .boolean]
  staticTypes := #[.long, .boolean, (.array (.object "java/io/ObjectStreamField")), .char, (.object "java/util/Comparator"), .byte, .byte]
  resolved := Array.replicate 1451 none
  statics := some 0 }

def pool8 : Array CpInfo := pool [(6, .class_ 8), (1, u "java/lang/Object"), (0, u "<init>"), (0, u "()V"), (1, .class_ 14), (1, u "java/lang/StringUTF16"), (31, u "$assertionsDisabled"), (0, u "Z"), (13, u "HI_BYTE_SHIFT"), (0, u "I"), (2, u "LO_BYTE_SHIFT"), (49, .methodref 12 116), (0, .nameAndType 117 118), (0, u "compress"), (0, u "([CI[BII)I"), (3, u "([CII)[B"), (138, u "coderFromArrayLen"), (0, u "([BI)B"), (106, .class_ 371), (1, u "java/lang/StringUTF16$LinesSpliterator"), (58, u "MAX_LENGTH"), (196, .class_ 628), (0, u "java/lang/StringUTF16$CodePointsSpliterator"), (0, .class_ 630), (0, u "java/lang/StringUTF16$CharsSpliterator")] 4

def k8m0 : Method := { name := "<init>", desc := "()V", sig := { parameters := [], returnType := none }, accessFlags := 0, code := none }
def k8c1 : Code := { maxStack := 2, maxLocals := 2, code := jdk_52_method_15_code, exceptionTable := #[], attributes := #[] }
def k8m1 : Method := { name := "coderFromArrayLen", desc := "([BI)B", sig := { parameters := [(.array .byte), .int], returnType := some .byte }, accessFlags := 8, code := some k8c1 }
def k8c2 : Code := { maxStack := 5, maxLocals := 6, code := jdk_52_method_16_code, exceptionTable := #[], attributes := #[] }
def k8m2 : Method := { name := "compress", desc := "([CII)[B", sig := { parameters := [(.array .char), .int, .int], returnType := some (.array .byte) }, accessFlags := 9, code := some k8c2 }
def k8c3 : Code := { maxStack := 3, maxLocals := 7, code := jdk_52_method_21_code, exceptionTable := #[], attributes := #[] }
def k8m3 : Method := { name := "compress", desc := "([CI[BII)I", sig := { parameters := [(.array .char), .int, (.array .byte), .int, .int], returnType := some .int }, accessFlags := 9, code := some k8c3 }
/-- java/lang/StringUTF16 -/
def k8 : Class := { plain "java/lang/StringUTF16" (some 0) with
  accessFlags := 48
  interfaces := #[]
  cf := some (fileOf pool8 12 #[.nestMembers #[627, 629, 369]] #[{ accessFlags := 0, nameIndex := 9, descriptorIndex := 10, attributes := #[] }, { accessFlags := 8, nameIndex := 261, descriptorIndex := 262, attributes := #[] }, { accessFlags := 9, nameIndex := 117, descriptorIndex := 122, attributes := #[] }, { accessFlags := 9, nameIndex := 117, descriptorIndex := 118, attributes := #[] }] 48 6 #[] #[{ accessFlags := 26, nameIndex := 61, descriptorIndex := 62, attributes := #[] }, { accessFlags := 26, nameIndex := 65, descriptorIndex := 62, attributes := #[] }, { accessFlags := 24, nameIndex := 430, descriptorIndex := 62, attributes := #[] }, { accessFlags := 4120, nameIndex := 46, descriptorIndex := 47, attributes := #[] }])
  fields := #[{ name := "HI_BYTE_SHIFT", type := .int, accessFlags := 26, slot := 0, constantValue := 0 }, { name := "LO_BYTE_SHIFT", type := .int, accessFlags := 26, slot := 1, constantValue := 0 }, { name := "MAX_LENGTH", type := .int, accessFlags := 24, slot := 2, constantValue := 0 }, { name := "$assertionsDisabled", type := .boolean, accessFlags := 4120, slot := 3, constantValue := 0 }]
  methods := #[k8m0, k8m1, k8m2, k8m3]
  instanceTypes := #[]
  staticTypes := #[.int, .int, .int, .boolean]
  resolved := Array.replicate 635 none
  statics := none }

def pool9 : Array CpInfo := pool [(1, .methodref 2 3), (0, .class_ 4), (0, .nameAndType 5 6), (0, u "java/lang/Object"), (0, u "<init>"), (0, u "()V"), (0, .class_ 8), (0, u "java/lang/Record")] 13

def k9c0 : Code := { maxStack := 1, maxLocals := 1, code := jdk_30_method_1_code, exceptionTable := #[], attributes := #[] }
def k9m0 : Method := { name := "<init>", desc := "()V", sig := { parameters := [], returnType := none }, accessFlags := 4, code := some k9c0 }
/-- java/lang/Record -/
def k9 : Class := { plain "java/lang/Record" (some 0) with
  accessFlags := 1057
  interfaces := #[]
  cf := some (fileOf pool9 7 #[] #[{ accessFlags := 4, nameIndex := 5, descriptorIndex := 6, attributes := #[] }] 1057 2 #[] #[])
  fields := #[]
  methods := #[k9m0]
  instanceTypes := #[]
  staticTypes := #[]
  resolved := Array.replicate 22 none
  statics := none }

def pool10 : Array CpInfo := pool [(1, .methodref 2 3), (0, .class_ 4), (0, .nameAndType 5 6), (0, u "java/lang/Record"), (0, u "<init>"), (0, u "()V"), (0, .fieldref 8 9), (0, .class_ 10), (0, .nameAndType 11 12), (0, u "com/example/poste_restante/posterestante/Pem$Block"), (0, u "label"), (0, u "Ljava/lang/String;"), (0, .fieldref 8 14), (0, .nameAndType 15 12), (0, u "base64"), (0, .methodref 17 18), (0, .class_ 19), (0, .nameAndType 20 21), (0, u "java/util/Base64"), (0, u "getDecoder"), (0, u "()Ljava/util/Base64$Decoder;"), (0, .methodref 23 24), (0, .class_ 25), (0, .nameAndType 26 27), (0, u "java/util/Base64$Decoder"), (0, u "decode"), (0, u "(Ljava/lang/String;)[B"), (25, u "(Ljava/lang/String;Ljava/lang/String;)V"), (3, u "bytes"), (0, u "()[B"), (6, .class_ 66), (0, u "com/example/poste_restante/posterestante/Pem")] 29

def k10c0 : Code := { maxStack := 2, maxLocals := 3, code := prog_13_method_1_code, exceptionTable := #[], attributes := #[] }
def k10m0 : Method := { name := "<init>", desc := "(Ljava/lang/String;Ljava/lang/String;)V", sig := { parameters := [(.object "java/lang/String"), (.object "java/lang/String")], returnType := none }, accessFlags := 0, code := some k10c0 }
def k10c1 : Code := { maxStack := 4, maxLocals := 2, code := prog_13_method_2_code, exceptionTable := #[{ startPc := 0, endPc := 10, handlerPc := 11, catchType := 28 }], attributes := #[] }
def k10m1 : Method := { name := "bytes", desc := "()[B", sig := { parameters := [], returnType := some (.array .byte) }, accessFlags := 0, code := some k10c1 }
/-- com/example/poste_restante/posterestante/Pem$Block -/
def k10 : Class := { plain "com/example/poste_restante/posterestante/Pem$Block" (some 9) with
  accessFlags := 48
  interfaces := #[]
  cf := some (fileOf pool10 8 #[.nestHost 65] #[{ accessFlags := 0, nameIndex := 5, descriptorIndex := 53, attributes := #[] }, { accessFlags := 0, nameIndex := 57, descriptorIndex := 58, attributes := #[] }] 48 2 #[] #[{ accessFlags := 18, nameIndex := 11, descriptorIndex := 12, attributes := #[] }, { accessFlags := 18, nameIndex := 15, descriptorIndex := 12, attributes := #[] }])
  fields := #[{ name := "label", type := (.object "java/lang/String"), accessFlags := 18, slot := 0, constantValue := 0 }, { name := "base64", type := (.object "java/lang/String"), accessFlags := 18, slot := 1, constantValue := 0 }]
  methods := #[k10m0, k10m1]
  instanceTypes := #[(.object "java/lang/String"), (.object "java/lang/String")]
  staticTypes := #[]
  resolved := Array.replicate 96 none
  statics := none }

def pool11 : Array CpInfo := pool [(2, .class_ 4), (1, u "java/lang/Object"), (0, u "<init>"), (0, u "()V"), (1, .class_ 10), (1, u "java/util/Base64$Encoder"), (0, u "RFC4648"), (14, .class_ 28), (1, u "java/util/Base64$Decoder"), (28, .fieldref 26 58), (0, .nameAndType 11 59), (0, u "Ljava/util/Base64$Decoder;"), (4, .class_ 65), (0, u "java/util/Base64"), (20, u "getDecoder"), (0, u "()Ljava/util/Base64$Decoder;"), (5, .class_ 94), (0, u "java/util/Base64$DecInputStream"), (0, .class_ 96), (0, u "java/util/Base64$EncOutputStream")] 5

def k11m0 : Method := { name := "<init>", desc := "()V", sig := { parameters := [], returnType := none }, accessFlags := 2, code := none }
def k11c1 : Code := { maxStack := 1, maxLocals := 0, code := jdk_2448_method_6_code, exceptionTable := #[], attributes := #[] }
def k11m1 : Method := { name := "getDecoder", desc := "()Ljava/util/Base64$Decoder;", sig := { parameters := [], returnType := some (.object "java/util/Base64$Decoder") }, accessFlags := 9, code := some k11c1 }
/-- java/util/Base64 -/
def k11 : Class := { plain "java/util/Base64" (some 0) with
  accessFlags := 33
  interfaces := #[]
  cf := some (fileOf pool11 64 #[.nestMembers #[93, 95, 26, 8]] #[{ accessFlags := 2, nameIndex := 5, descriptorIndex := 6, attributes := #[] }, { accessFlags := 9, nameIndex := 86, descriptorIndex := 87, attributes := #[] }] 33 2 #[] #[])
  fields := #[]
  methods := #[k11m0, k11m1]
  instanceTypes := #[]
  staticTypes := #[]
  resolved := Array.replicate 102 none
  statics := none }

def pool12 : Array CpInfo := pool [(2, .class_ 4), (1, u "java/lang/Object"), (2, .fieldref 8 9), (0, .class_ 10), (0, .nameAndType 11 12), (0, u "java/util/Base64$Decoder"), (0, u "isURL"), (0, u "Z"), (0, .fieldref 8 14), (0, .nameAndType 15 12), (0, u "isMIME"), (0, .methodref 8 17), (0, .nameAndType 18 19), (0, u "decodedOutLength"), (0, u "([BII)I"), (0, .methodref 8 21), (0, .nameAndType 22 23), (0, u "decode0"), (0, u "([BII[B)I"), (6, .fieldref 31 32), (0, .class_ 33), (0, .nameAndType 34 35), (0, u "sun/nio/cs/ISO_8859_1"), (0, u "INSTANCE"), (0, u "Lsun/nio/cs/ISO_8859_1;"), (0, .methodref 37 38), (0, .class_ 39), (0, .nameAndType 40 41), (0, u "java/lang/String"), (0, u "getBytes"), (0, u "(Ljava/nio/charset/Charset;)[B"), (0, .methodref 8 43), (0, .nameAndType 44 45), (0, u "decode"), (0, u "([B)[B"), (51, u "fromBase64URL"), (0, u "[I"), (0, .fieldref 8 100), (0, .nameAndType 101 98), (0, u "fromBase64"), (5, .long 3), (1, .long 4), (1, .methodref 8 112), (0, .nameAndType 113 114), (0, u "decodeBlock"), (0, u "([BII[BIZZ)I"), (45, u "RFC4648"), (0, u "Ljava/util/Base64$Decoder;"), (2, u "RFC4648_URLSAFE"), (2, u "RFC2045"), (11, u "(Ljava/lang/String;)[B"), (40, .class_ 221), (0, u "java/util/Base64")] 4

def k12c0 : Code := { maxStack := 5, maxLocals := 4, code := jdk_2450_method_2_code, exceptionTable := #[], attributes := #[] }
def k12m0 : Method := { name := "decode", desc := "([B)[B", sig := { parameters := [(.array .byte)], returnType := some (.array .byte) }, accessFlags := 1, code := some k12c0 }
def k12c1 : Code := { maxStack := 3, maxLocals := 2, code := jdk_2450_method_3_code, exceptionTable := #[], attributes := #[] }
def k12m1 : Method := { name := "decode", desc := "(Ljava/lang/String;)[B", sig := { parameters := [(.object "java/lang/String")], returnType := some (.array .byte) }, accessFlags := 1, code := some k12c1 }
def k12c2 : Code := { maxStack := 5, maxLocals := 9, code := jdk_2450_method_7_code, exceptionTable := #[], attributes := #[] }
def k12m2 : Method := { name := "decodedOutLength", desc := "([BII)I", sig := { parameters := [(.array .byte), .int, .int], returnType := some .int }, accessFlags := 2, code := some k12c2 }
def k12c3 : Code := { maxStack := 4, maxLocals := 16, code := jdk_2450_method_8_code, exceptionTable := #[], attributes := #[] }
def k12m3 : Method := { name := "decodeBlock", desc := "([BII[BIZZ)I", sig := { parameters := [(.array .byte), .int, .int, (.array .byte), .int, .boolean, .boolean], returnType := some .int }, accessFlags := 2, code := some k12c3 }
def k12c4 : Code := { maxStack := 8, maxLocals := 11, code := jdk_2450_method_9_code, exceptionTable := #[], attributes := #[] }
def k12m4 : Method := { name := "decode0", desc := "([BII[B)I", sig := { parameters := [(.array .byte), .int, .int, (.array .byte)], returnType := some .int }, accessFlags := 2, code := some k12c4 }
/-- java/util/Base64$Decoder -/
def k12 : Class := { plain "java/util/Base64$Decoder" (some 0) with
  accessFlags := 33
  interfaces := #[]
  cf := some (fileOf pool12 8 #[.nestHost 220] #[{ accessFlags := 1, nameIndex := 44, descriptorIndex := 45, attributes := #[] }, { accessFlags := 1, nameIndex := 44, descriptorIndex := 179, attributes := #[] }, { accessFlags := 2, nameIndex := 18, descriptorIndex := 19, attributes := #[] }, { accessFlags := 2, nameIndex := 113, descriptorIndex := 114, attributes := #[] }, { accessFlags := 2, nameIndex := 22, descriptorIndex := 23, attributes := #[] }] 33 2 #[] #[{ accessFlags := 18, nameIndex := 11, descriptorIndex := 12, attributes := #[] }, { accessFlags := 18, nameIndex := 15, descriptorIndex := 12, attributes := #[] }, { accessFlags := 26, nameIndex := 101, descriptorIndex := 98, attributes := #[] }, { accessFlags := 26, nameIndex := 97, descriptorIndex := 98, attributes := #[] }, { accessFlags := 24, nameIndex := 160, descriptorIndex := 161, attributes := #[] }, { accessFlags := 24, nameIndex := 164, descriptorIndex := 161, attributes := #[] }, { accessFlags := 24, nameIndex := 167, descriptorIndex := 161, attributes := #[] }])
  fields := #[{ name := "isURL", type := .boolean, accessFlags := 18, slot := 0, constantValue := 0 }, { name := "isMIME", type := .boolean, accessFlags := 18, slot := 1, constantValue := 0 }, { name := "fromBase64", type := (.array .int), accessFlags := 26, slot := 0, constantValue := 0 }, { name := "fromBase64URL", type := (.array .int), accessFlags := 26, slot := 1, constantValue := 0 }, { name := "RFC4648", type := (.object "java/util/Base64$Decoder"), accessFlags := 24, slot := 2, constantValue := 0 }, { name := "RFC4648_URLSAFE", type := (.object "java/util/Base64$Decoder"), accessFlags := 24, slot := 3, constantValue := 0 }, { name := "RFC2045", type := (.object "java/util/Base64$Decoder"), accessFlags := 24, slot := 4, constantValue := 0 }]
  methods := #[k12m0, k12m1, k12m2, k12m3, k12m4]
  instanceTypes := #[.boolean, .boolean]
  staticTypes := #[(.array .int), (.array .int), (.object "java/util/Base64$Decoder"), (.object "java/util/Base64$Decoder"), (.object "java/util/Base64$Decoder")]
  resolved := Array.replicate 226 none
  statics := some 1 }

def pool13 : Array CpInfo := pool [(18, .class_ 20), (1, u "java/nio/charset/Charset"), (0, u "cache1"), (0, u "[Ljava/lang/Object;"), (2, u "cache2"), (0, .class_ 27), (0, u "java/lang/Object"), (0, .class_ 29), (0, u "java/nio/charset/Charset$1"), (4, .class_ 36), (1, u "java/nio/charset/Charset$ThreadTrackHolder"), (21, .class_ 59), (0, u "java/nio/charset/Charset$2"), (11, .class_ 73), (1, u "java/nio/charset/Charset$ExtendedProviderHolder"), (22, u "standardProvider"), (0, u "Ljava/nio/charset/spi/CharsetProvider;"), (29, u "name"), (7, .class_ 136), (0, u "java/nio/charset/Charset$3"), (5, u "defaultCharset"), (0, u "Ljava/nio/charset/Charset;"), (14, u "zeroAliases"), (0, u "[Ljava/lang/String;"), (29, u "Ljava/lang/String;"), (2, u "aliases"), (2, u "aliasSet"), (0, u "Ljava/util/Set;"), (82, .class_ 280), (0, u "java/lang/Comparable"), (84, .class_ 366), (0, u "java/nio/charset/Charset$ExtendedProviderHolder$1")] 3

/-- java/nio/charset/Charset -/
def k13 : Class := { plain "java/nio/charset/Charset" (some 0) with
  accessFlags := 1057
  interfaces := #[3]
  cf := some (fileOf pool13 18 #[.nestMembers #[71, 365, 34, 135, 58, 28]] #[] 1057 26 #[279] #[{ accessFlags := 26, nameIndex := 96, descriptorIndex := 97, attributes := #[] }, { accessFlags := 26, nameIndex := 158, descriptorIndex := 159, attributes := #[] }, { accessFlags := 74, nameIndex := 21, descriptorIndex := 22, attributes := #[] }, { accessFlags := 74, nameIndex := 25, descriptorIndex := 22, attributes := #[] }, { accessFlags := 10, nameIndex := 142, descriptorIndex := 143, attributes := #[] }, { accessFlags := 18, nameIndex := 127, descriptorIndex := 189, attributes := #[] }, { accessFlags := 18, nameIndex := 192, descriptorIndex := 159, attributes := #[] }, { accessFlags := 2, nameIndex := 195, descriptorIndex := 196, attributes := #[] }])
  fields := #[{ name := "standardProvider", type := (.object "java/nio/charset/spi/CharsetProvider"), accessFlags := 26, slot := 0, constantValue := 0 }, { name := "zeroAliases", type := (.array (.object "java/lang/String")), accessFlags := 26, slot := 1, constantValue := 0 }, { name := "cache1", type := (.array (.object "java/lang/Object")), accessFlags := 74, slot := 2, constantValue := 0 }, { name := "cache2", type := (.array (.object "java/lang/Object")), accessFlags := 74, slot := 3, constantValue := 0 }, { name := "defaultCharset", type := (.object "java/nio/charset/Charset"), accessFlags := 10, slot := 4, constantValue := 0 }, { name := "name", type := (.object "java/lang/String"), accessFlags := 18, slot := 0, constantValue := 0 }, { name := "aliases", type := (.array (.object "java/lang/String")), accessFlags := 18, slot := 1, constantValue := 0 }, { name := "aliasSet", type := (.object "java/util/Set"), accessFlags := 2, slot := 2, constantValue := 0 }]
  methods := #[]
  instanceTypes := #[(.object "java/lang/String"), (.array (.object "java/lang/String")), (.object "java/util/Set")]
  staticTypes := #[(.object "java/nio/charset/spi/CharsetProvider"), (.array (.object "java/lang/String")), (.array (.object "java/lang/Object")), (.array (.object "java/lang/Object")), (.object "java/nio/charset/Charset")]
  resolved := Array.replicate 370 none
  statics := none }

def pool14 : Array CpInfo := pool [(1, .class_ 2), (0, u "sun/nio/cs/HistoricallyNamedCharset"), (0, .class_ 4), (0, u "java/lang/Object")] 4

/-- sun/nio/cs/HistoricallyNamedCharset -/
def k14 : Class := { plain "sun/nio/cs/HistoricallyNamedCharset" (some 0) with
  accessFlags := 1537
  interfaces := #[]
  cf := some (fileOf pool14 1 #[] #[] 1537 3 #[] #[])
  fields := #[]
  methods := #[]
  instanceTypes := #[]
  staticTypes := #[]
  resolved := Array.replicate 9 none
  statics := none }

def pool15 : Array CpInfo := pool [(10, .class_ 12), (1, u "java/nio/charset/Charset"), (0, u "<init>"), (5, .class_ 20), (0, u "sun/nio/cs/ISO_8859_1"), (0, .class_ 22), (0, u "sun/nio/cs/ISO_8859_1$Decoder"), (3, .class_ 27), (0, u "sun/nio/cs/ISO_8859_1$Encoder"), (3, u "()V"), (2, u "INSTANCE"), (0, u "Lsun/nio/cs/ISO_8859_1;"), (0, .class_ 37), (0, u "sun/nio/cs/HistoricallyNamedCharset")] 22

def k15m0 : Method := { name := "<init>", desc := "()V", sig := { parameters := [], returnType := none }, accessFlags := 1, code := none }
/-- sun/nio/cs/ISO_8859_1 -/
def k15 : Class := { plain "sun/nio/cs/ISO_8859_1" (some 13) with
  accessFlags := 33
  interfaces := #[14]
  cf := some (fileOf pool15 19 #[.nestMembers #[26, 21]] #[{ accessFlags := 1, nameIndex := 13, descriptorIndex := 31, attributes := #[] }] 33 10 #[36] #[{ accessFlags := 25, nameIndex := 34, descriptorIndex := 35, attributes := #[] }])
  fields := #[{ name := "INSTANCE", type := (.object "sun/nio/cs/ISO_8859_1"), accessFlags := 25, slot := 0, constantValue := 0 }]
  methods := #[k15m0]
  instanceTypes := #[(.object "java/lang/String"), (.array (.object "java/lang/String")), (.object "java/util/Set")]
  staticTypes := #[(.object "sun/nio/cs/ISO_8859_1")]
  resolved := Array.replicate 60 none
  statics := some 2 }

def pool16 : Array CpInfo := pool [(2, .class_ 4), (1, u "java/nio/charset/Charset"), (130, .class_ 136), (0, u "sun/nio/cs/Unicode"), (0, .class_ 138), (0, u "sun/nio/cs/HistoricallyNamedCharset")] 15

/-- sun/nio/cs/Unicode -/
def k16 : Class := { plain "sun/nio/cs/Unicode" (some 13) with
  accessFlags := 1056
  interfaces := #[14]
  cf := some (fileOf pool16 135 #[] #[] 1056 2 #[137] #[])
  fields := #[]
  methods := #[]
  instanceTypes := #[(.object "java/lang/String"), (.array (.object "java/lang/String")), (.object "java/util/Set")]
  staticTypes := #[]
  resolved := Array.replicate 154 none
  statics := none }

def pool17 : Array CpInfo := pool [(10, .class_ 12), (1, u "sun/nio/cs/Unicode"), (0, u "<init>"), (3, .class_ 18), (0, u "sun/nio/cs/UTF_8$Decoder"), (3, .class_ 23), (0, u "sun/nio/cs/UTF_8$Encoder"), (15, .class_ 40), (0, u "sun/nio/cs/UTF_8"), (2, u "()V"), (2, u "INSTANCE"), (0, u "Lsun/nio/cs/UTF_8;"), (8, u "JLA"), (0, u "Ljdk/internal/access/JavaLangAccess;")] 26

def k17m0 : Method := { name := "<init>", desc := "()V", sig := { parameters := [], returnType := none }, accessFlags := 1, code := none }
/-- sun/nio/cs/UTF_8 -/
def k17 : Class := { plain "sun/nio/cs/UTF_8" (some 16) with
  accessFlags := 49
  interfaces := #[]
  cf := some (fileOf pool17 39 #[.nestMembers #[22, 17]] #[{ accessFlags := 1, nameIndex := 13, descriptorIndex := 43, attributes := #[] }] 49 10 #[] #[{ accessFlags := 25, nameIndex := 46, descriptorIndex := 47, attributes := #[] }, { accessFlags := 26, nameIndex := 56, descriptorIndex := 57, attributes := #[] }])
  fields := #[{ name := "INSTANCE", type := (.object "sun/nio/cs/UTF_8"), accessFlags := 25, slot := 0, constantValue := 0 }, { name := "JLA", type := (.object "jdk/internal/access/JavaLangAccess"), accessFlags := 26, slot := 1, constantValue := 0 }]
  methods := #[k17m0]
  instanceTypes := #[(.object "java/lang/String"), (.array (.object "java/lang/String")), (.object "java/util/Set")]
  staticTypes := #[(.object "sun/nio/cs/UTF_8"), (.object "jdk/internal/access/JavaLangAccess")]
  resolved := Array.replicate 84 none
  statics := some 3 }

def pool18 : Array CpInfo := pool [(1, .class_ 2), (0, u "java/lang/Cloneable"), (0, .class_ 4), (0, u "java/lang/Object")] 2

/-- java/lang/Cloneable -/
def k18 : Class := { plain "java/lang/Cloneable" (some 0) with
  accessFlags := 1537
  interfaces := #[]
  cf := some (fileOf pool18 1 #[] #[] 1537 3 #[] #[])
  fields := #[]
  methods := #[]
  instanceTypes := #[]
  staticTypes := #[]
  resolved := Array.replicate 7 none
  statics := none }

def pool19 : Array CpInfo := pool [(4, .class_ 6), (1, u "java/lang/Object"), (0, u "<init>"), (0, u "()V"), (5, .class_ 16), (1, u "java/lang/StringLatin1"), (104, u "$assertionsDisabled"), (0, u "Z"), (98, .class_ 223), (1, u "java/lang/StringLatin1$LinesSpliterator"), (166, .class_ 391), (0, u "java/lang/StringLatin1$CharsSpliterator")] 3

def k19m0 : Method := { name := "<init>", desc := "()V", sig := { parameters := [], returnType := none }, accessFlags := 0, code := none }
/-- java/lang/StringLatin1 -/
def k19 : Class := { plain "java/lang/StringLatin1" (some 0) with
  accessFlags := 48
  interfaces := #[]
  cf := some (fileOf pool19 14 #[.nestMembers #[390, 221]] #[{ accessFlags := 0, nameIndex := 7, descriptorIndex := 8, attributes := #[] }] 48 4 #[] #[{ accessFlags := 4120, nameIndex := 121, descriptorIndex := 122, attributes := #[] }])
  fields := #[{ name := "$assertionsDisabled", type := .boolean, accessFlags := 4120, slot := 0, constantValue := 0 }]
  methods := #[k19m0]
  instanceTypes := #[]
  staticTypes := #[.boolean]
  resolved := Array.replicate 395 none
  statics := some 4 }

def pool20 : Array CpInfo := pool [(9, u "<init>"), (6, .class_ 18), (1, u "java/lang/Object"), (0, u "()V"), (1, .class_ 23), (1, u "jdk/internal/util/ArraysSupport"), (0, u "LOG2_ARRAY_LONG_INDEX_SCALE"), (0, u "I"), (2, u "U"), (0, u "Ljdk/internal/misc/Unsafe;"), (8, u "BIG_ENDIAN"), (0, u "Z"), (8, u "LOG2_BYTE_BIT_SIZE"), (4, u "LOG2_ARRAY_INT_INDEX_SCALE"), (54, u "JLA"), (0, u "Ljdk/internal/access/JavaLangAccess;"), (11, u "LOG2_ARRAY_BOOLEAN_INDEX_SCALE"), (9, u "LOG2_ARRAY_BYTE_INDEX_SCALE"), (5, u "LOG2_ARRAY_CHAR_INDEX_SCALE"), (5, u "LOG2_ARRAY_SHORT_INDEX_SCALE"), (18, u "LOG2_ARRAY_FLOAT_INDEX_SCALE"), (24, u "LOG2_ARRAY_DOUBLE_INDEX_SCALE"), (89, u "T_BOOLEAN"), (2, u "T_CHAR"), (1, u "T_FLOAT"), (1, u "T_DOUBLE"), (1, u "T_BYTE"), (1, u "T_SHORT"), (1, u "T_INT"), (1, u "T_LONG"), (1, u "SOFT_MAX_ARRAY_LENGTH")] 83

def k20m0 : Method := { name := "<init>", desc := "()V", sig := { parameters := [], returnType := none }, accessFlags := 2, code := none }
/-- jdk/internal/util/ArraysSupport -/
def k20 : Class := { plain "jdk/internal/util/ArraysSupport" (some 0) with
  accessFlags := 33
  interfaces := #[]
  cf := some (fileOf pool20 21 #[] #[{ accessFlags := 2, nameIndex := 9, descriptorIndex := 19, attributes := #[] }] 33 16 #[] #[{ accessFlags := 24, nameIndex := 28, descriptorIndex := 29, attributes := #[] }, { accessFlags := 26, nameIndex := 38, descriptorIndex := 39, attributes := #[] }, { accessFlags := 25, nameIndex := 121, descriptorIndex := 25, attributes := #[] }, { accessFlags := 25, nameIndex := 131, descriptorIndex := 25, attributes := #[] }, { accessFlags := 25, nameIndex := 137, descriptorIndex := 25, attributes := #[] }, { accessFlags := 25, nameIndex := 143, descriptorIndex := 25, attributes := #[] }, { accessFlags := 25, nameIndex := 53, descriptorIndex := 25, attributes := #[] }, { accessFlags := 25, nameIndex := 24, descriptorIndex := 25, attributes := #[] }, { accessFlags := 25, nameIndex := 162, descriptorIndex := 25, attributes := #[] }, { accessFlags := 25, nameIndex := 187, descriptorIndex := 25, attributes := #[] }, { accessFlags := 26, nameIndex := 48, descriptorIndex := 25, attributes := #[] }, { accessFlags := 25, nameIndex := 277, descriptorIndex := 25, attributes := #[] }, { accessFlags := 25, nameIndex := 280, descriptorIndex := 25, attributes := #[] }, { accessFlags := 25, nameIndex := 282, descriptorIndex := 25, attributes := #[] }, { accessFlags := 25, nameIndex := 284, descriptorIndex := 25, attributes := #[] }, { accessFlags := 25, nameIndex := 286, descriptorIndex := 25, attributes := #[] }, { accessFlags := 25, nameIndex := 288, descriptorIndex := 25, attributes := #[] }, { accessFlags := 25, nameIndex := 290, descriptorIndex := 25, attributes := #[] }, { accessFlags := 25, nameIndex := 292, descriptorIndex := 25, attributes := #[] }, { accessFlags := 26, nameIndex := 108, descriptorIndex := 109, attributes := #[] }, { accessFlags := 25, nameIndex := 294, descriptorIndex := 25, attributes := #[] }])
  fields := #[{ name := "U", type := (.object "jdk/internal/misc/Unsafe"), accessFlags := 24, slot := 0, constantValue := 0 }, { name := "BIG_ENDIAN", type := .boolean, accessFlags := 26, slot := 1, constantValue := 0 }, { name := "LOG2_ARRAY_BOOLEAN_INDEX_SCALE", type := .int, accessFlags := 25, slot := 2, constantValue := 0 }, { name := "LOG2_ARRAY_BYTE_INDEX_SCALE", type := .int, accessFlags := 25, slot := 3, constantValue := 0 }, { name := "LOG2_ARRAY_CHAR_INDEX_SCALE", type := .int, accessFlags := 25, slot := 4, constantValue := 0 }, { name := "LOG2_ARRAY_SHORT_INDEX_SCALE", type := .int, accessFlags := 25, slot := 5, constantValue := 0 }, { name := "LOG2_ARRAY_INT_INDEX_SCALE", type := .int, accessFlags := 25, slot := 6, constantValue := 0 }, { name := "LOG2_ARRAY_LONG_INDEX_SCALE", type := .int, accessFlags := 25, slot := 7, constantValue := 0 }, { name := "LOG2_ARRAY_FLOAT_INDEX_SCALE", type := .int, accessFlags := 25, slot := 8, constantValue := 0 }, { name := "LOG2_ARRAY_DOUBLE_INDEX_SCALE", type := .int, accessFlags := 25, slot := 9, constantValue := 0 }, { name := "LOG2_BYTE_BIT_SIZE", type := .int, accessFlags := 26, slot := 10, constantValue := 0 }, { name := "T_BOOLEAN", type := .int, accessFlags := 25, slot := 11, constantValue := 0 }, { name := "T_CHAR", type := .int, accessFlags := 25, slot := 12, constantValue := 0 }, { name := "T_FLOAT", type := .int, accessFlags := 25, slot := 13, constantValue := 0 }, { name := "T_DOUBLE", type := .int, accessFlags := 25, slot := 14, constantValue := 0 }, { name := "T_BYTE", type := .int, accessFlags := 25, slot := 15, constantValue := 0 }, { name := "T_SHORT", type := .int, accessFlags := 25, slot := 16, constantValue := 0 }, { name := "T_INT", type := .int, accessFlags := 25, slot := 17, constantValue := 0 }, { name := "T_LONG", type := .int, accessFlags := 25, slot := 18, constantValue := 0 }, { name := "JLA", type := (.object "jdk/internal/access/JavaLangAccess"), accessFlags := 26, slot := 19, constantValue := 0 }, { name := "SOFT_MAX_ARRAY_LENGTH", type := .int, accessFlags := 25, slot := 20, constantValue := 0 }]
  methods := #[k20m0]
  instanceTypes := #[]
  staticTypes := #[(.object "jdk/internal/misc/Unsafe"), .boolean, .int, .int, .int, .int, .int, .int, .int, .int, .int, .int, .int, .int, .int, .int, .int, .int, .int, (.object "jdk/internal/access/JavaLangAccess"), .int]
  resolved := Array.replicate 378 none
  statics := some 5 }

def pool21 : Array CpInfo := pool [(2, .class_ 4), (1, u "java/lang/Object"), (0, u "<init>"), (0, u "()V"), (17, .class_ 26), (1, u "jdk/internal/util/Preconditions"), (28, .class_ 56), (0, u "jdk/internal/util/Preconditions$4"), (57, .class_ 115), (0, u "jdk/internal/util/Preconditions$1"), (7, u "SIOOBE_FORMATTER"), (0, u "Ljava/util/function/BiFunction;"), (0, .class_ 126), (0, u "jdk/internal/util/Preconditions$2"), (3, u "AIOOBE_FORMATTER"), (0, .class_ 132), (0, u "jdk/internal/util/Preconditions$3"), (3, u "IOOBE_FORMATTER")] 57

def k21m0 : Method := { name := "<init>", desc := "()V", sig := { parameters := [], returnType := none }, accessFlags := 1, code := none }
/-- jdk/internal/util/Preconditions -/
def k21 : Class := { plain "jdk/internal/util/Preconditions" (some 0) with
  accessFlags := 33
  interfaces := #[]
  cf := some (fileOf pool21 24 #[.nestMembers #[55, 131, 125, 114]] #[{ accessFlags := 1, nameIndex := 5, descriptorIndex := 6, attributes := #[] }] 33 2 #[] #[{ accessFlags := 25, nameIndex := 123, descriptorIndex := 124, attributes := #[] }, { accessFlags := 25, nameIndex := 130, descriptorIndex := 124, attributes := #[] }, { accessFlags := 25, nameIndex := 136, descriptorIndex := 124, attributes := #[] }])
  fields := #[{ name := "SIOOBE_FORMATTER", type := (.object "java/util/function/BiFunction"), accessFlags := 25, slot := 0, constantValue := 0 }, { name := "AIOOBE_FORMATTER", type := (.object "java/util/function/BiFunction"), accessFlags := 25, slot := 1, constantValue := 0 }, { name := "IOOBE_FORMATTER", type := (.object "java/util/function/BiFunction"), accessFlags := 25, slot := 2, constantValue := 0 }]
  methods := #[k21m0]
  instanceTypes := #[]
  staticTypes := #[(.object "java/util/function/BiFunction"), (.object "java/util/function/BiFunction"), (.object "java/util/function/BiFunction")]
  resolved := Array.replicate 194 none
  statics := some 6 }

/-- the primitive byte -/
def k22 : Class := { plain "byte" none with kind := .primitive 'B', accessFlags := 0x411 }
/-- [B -/
def k23 : Class := { plain "[B" (some 0) with kind := .array 22 .byte, interfaces := #[18, 2], accessFlags := 1041 }

/-- the primitive char -/
def k24 : Class := { plain "char" none with kind := .primitive 'C', accessFlags := 0x411 }
/-- [C -/
def k25 : Class := { plain "[C" (some 0) with kind := .array 24 .char, interfaces := #[18, 2], accessFlags := 1041 }

/-- the primitive int -/
def k26 : Class := { plain "int" none with kind := .primitive 'I', accessFlags := 0x411 }
/-- [I -/
def k27 : Class := { plain "[I" (some 0) with kind := .array 26 .int, interfaces := #[18, 2], accessFlags := 1041 }

def heap : Heap := #[{ cls := 7, slots := #[.long 0, .int 1, .null, .int 0, .null, .int 0, .int 0], vm := .statics 7 },
  { cls := 12, slots := #[.ref 10, .null, .ref 7, .null, .null], vm := .statics 12 },
  { cls := 15, slots := #[.ref 8], vm := .statics 15 },
  { cls := 17, slots := #[.ref 9, .null], vm := .statics 17 },
  { cls := 19, slots := #[.int 0], vm := .statics 19 },
  { cls := 20, slots := #[.null, .int 0, .int 0, .int 0, .int 0, .int 0, .int 0, .int 0, .int 0, .int 0, .int 0, .int 0, .int 0, .int 0, .int 0, .int 0, .int 0, .int 0, .int 0, .null, .int 0], vm := .statics 20 },
  { cls := 21, slots := #[.null, .null, .null], vm := .statics 21 },
  { cls := 12, slots := #[.int 0, .int 0], vm := .none },
  { cls := 15, slots := #[.null, .null, .null], vm := .none },
  { cls := 17, slots := #[.null, .null, .null], vm := .none },
  { cls := 27, slots := #[.int (-1), .int (-1), .int (-1), .int (-1), .int (-1), .int (-1), .int (-1), .int (-1), .int (-1), .int (-1), .int (-1), .int (-1), .int (-1), .int (-1), .int (-1), .int (-1), .int (-1), .int (-1), .int (-1), .int (-1), .int (-1), .int (-1), .int (-1), .int (-1), .int (-1), .int (-1), .int (-1), .int (-1), .int (-1), .int (-1), .int (-1), .int (-1), .int (-1), .int (-1), .int (-1), .int (-1), .int (-1), .int (-1), .int (-1), .int (-1), .int (-1), .int (-1), .int (-1), .int 62, .int (-1), .int (-1), .int (-1), .int 63, .int 52, .int 53, .int 54, .int 55, .int 56, .int 57, .int 58, .int 59, .int 60, .int 61, .int (-1), .int (-1), .int (-1), .int (-2), .int (-1), .int (-1), .int (-1), .int 0, .int 1, .int 2, .int 3, .int 4, .int 5, .int 6, .int 7, .int 8, .int 9, .int 10, .int 11, .int 12, .int 13, .int 14, .int 15, .int 16, .int 17, .int 18, .int 19, .int 20, .int 21, .int 22, .int 23, .int 24, .int 25, .int (-1), .int (-1), .int (-1), .int (-1), .int (-1), .int (-1), .int 26, .int 27, .int 28, .int 29, .int 30, .int 31, .int 32, .int 33, .int 34, .int 35, .int 36, .int 37, .int 38, .int 39, .int 40, .int 41, .int 42, .int 43, .int 44, .int 45, .int 46, .int 47, .int 48, .int 49, .int 50, .int 51, .int (-1), .int (-1), .int (-1), .int (-1), .int (-1), .int (-1), .int (-1), .int (-1), .int (-1), .int (-1), .int (-1), .int (-1), .int (-1), .int (-1), .int (-1), .int (-1), .int (-1), .int (-1), .int (-1), .int (-1), .int (-1), .int (-1), .int (-1), .int (-1), .int (-1), .int (-1), .int (-1), .int (-1), .int (-1), .int (-1), .int (-1), .int (-1), .int (-1), .int (-1), .int (-1), .int (-1), .int (-1), .int (-1), .int (-1), .int (-1), .int (-1), .int (-1), .int (-1), .int (-1), .int (-1), .int (-1), .int (-1), .int (-1), .int (-1), .int (-1), .int (-1), .int (-1), .int (-1), .int (-1), .int (-1), .int (-1), .int (-1), .int (-1), .int (-1), .int (-1), .int (-1), .int (-1), .int (-1), .int (-1), .int (-1), .int (-1), .int (-1), .int (-1), .int (-1), .int (-1), .int (-1), .int (-1), .int (-1), .int (-1), .int (-1), .int (-1), .int (-1), .int (-1), .int (-1), .int (-1), .int (-1), .int (-1), .int (-1), .int (-1), .int (-1), .int (-1), .int (-1), .int (-1), .int (-1), .int (-1), .int (-1), .int (-1), .int (-1), .int (-1), .int (-1), .int (-1), .int (-1), .int (-1), .int (-1), .int (-1), .int (-1), .int (-1), .int (-1), .int (-1), .int (-1), .int (-1), .int (-1), .int (-1), .int (-1), .int (-1), .int (-1), .int (-1), .int (-1), .int (-1), .int (-1), .int (-1), .int (-1), .int (-1), .int (-1), .int (-1), .int (-1), .int (-1), .int (-1), .int (-1), .int (-1), .int (-1), .int (-1), .int (-1), .int (-1), .int (-1), .int (-1), .int (-1), .int (-1)], vm := .none }]
def classes : Array Class := #[k0, k1, k2, k3, k4, k5, k6, k7, k8, k9, k10, k11, k12, k13, k14, k15, k16, k17, k18, k19, k20, k21, k22, k23, k24, k25, k26, k27]
def interned : List (Array UInt16 × Addr) := []
def slotsUsed : Nat := 304
def theMethod : MethodId := ⟨1, 4⟩
def args0 : Array Value := #[.int 1, .int 2, .int 3]
def aboutOver (below : List Frame) : State where
  vm := { classes := classes, interned := interned.toArray }
  heap := heap
  slotsUsed := slotsUsed
  threads := #[{ frames := .invoking theMethod args0 :: below }]
def below0 : List Frame := [.native { method := ⟨0, 0⟩, args := #[] }]
def about1 : State := aboutOver below0
def p0 : Program := .bare "" "" ""
def e0 : Env := launch0.env 0 0 0
theorem w_frames : about1.frames = Frame.invoking theMethod args0 :: below0 := rfl
set_option maxRecDepth 65536 in
theorem w_args : argsFit about1.vm theMethod args0 = true := by decide +kernel
set_option maxRecDepth 65536 in
theorem w_heap : heapFits about1 = true := by decide +kernel
set_option maxRecDepth 65536 in
theorem w_runnable : about1.curStatus? = some .runnable := by decide +kernel
set_option maxRecDepth 65536 in
theorem w_alone : about1.alone = true := by decide +kernel
set_option maxRecDepth 65536 in
theorem w_named : about1.methodNamed? x = some theMethod := by decide +kernel
set_option maxRecDepth 65536 in
theorem w_hears : about1.hears theMethod below0 = true := by decide +kernel
set_option maxRecDepth 65536 in
theorem w_ripe : about1.ripe theMethod args0 below0 = true := by decide +kernel
theorem w_running : about1.status = .running := rfl
set_option maxRecDepth 65536 in
theorem w_room : about1.hasRoom e0.platform room_1 = true :=
  launch0.hasRoom_least _ room_1 (by decide +kernel) (by decide +kernel) (by decide +kernel) (by decide +kernel) (by decide +kernel) (by decide +kernel)
theorem allAtoms_all (ts : List Jvm.Cond) (a : Array Jvm.Value) (st : Jvm.State) : (allAtoms ts).before a st = ts.all (fun c => c.before a st) := by
  induction ts with
  | nil => rfl
  | cons c t ih =>
    show (Jvm.Cond.and c (allAtoms t)).before a st = _
    rw [Jvm.Cond.before_and, ih, List.all_cons]
def words1 : List Jvm.Cond := Jvm.Cond.code x code maxLocals ret :: tables_1
/-- a 'code' word, met by the world's own term for the bytes: nothing is compared byte by byte -/
theorem code_word {y : MethodName} {bytes : ByteArray} {mx : Nat} {rt : Option FieldType} {a : Array Value} {s : State} {m : MethodId} {meth : Method} {c : Code} (h1 : s.methodNamed? y = some m) (h2 : s.vm.method? m = some meth) (h3 : meth.code = some c) (h4 : c.code = bytes)
    (h5 : (c.maxLocals == mx && c.exceptionTable.isEmpty && decide (c.maxStack ≤ mostOperands) && decide (meth.sig.returnType = rt) && !meth.locks && decide (parseMethodDescriptor y.desc = some meth.sig)) = true) : (Jvm.Cond.code y bytes mx rt).before a s = true := by
  simp only [Bool.and_eq_true, beq_iff_eq, Bool.not_eq_true', decide_eq_true_eq] at h5
  obtain ⟨⟨⟨⟨⟨g1, g2⟩, g3⟩, g4⟩, g5⟩, g6⟩ := h5
  simp [Cond.before, Cond.holds, Cond.value, h1, h2, h3, h4, g1, g2, g3, g4, g5, g6]
def isCode : Jvm.Cond → Bool
  | .code _ _ _ _ => true
  | _ => false
theorem all_split {L : List Jvm.Cond} {P : Jvm.Cond → Bool} (h1 : L.all (fun c => isCode c || P c) = true) (h2 : ∀ c ∈ L.filter isCode, P c = true) : L.all P = true := by
  refine List.all_eq_true.mpr fun c hc => ?_
  have h := List.all_eq_true.mp h1 c hc
  rcases Bool.eq_false_or_eq_true (isCode c) with hi | hi
  · exact h2 c (List.mem_filter.mpr ⟨hc, hi⟩)
  · simpa [hi] using h
set_option maxRecDepth 65536 in
theorem w_c0 : (Jvm.Cond.code x code maxLocals ret).before args0 about1 = true := code_word (m := ⟨1, 4⟩) (meth := k1m4) (c := k1c4) (by decide +kernel) rfl rfl rfl (by decide +kernel)
set_option maxRecDepth 65536 in
theorem w_c1 : (Jvm.Cond.code ({ cls := "com/example/poste_restante/posterestante/BlockBytesPinLaw", name := "group", desc := "([CIIIII)V" } : Jvm.MethodName) method_3_code (7 : Nat) (Option.none : Option Jvm.ClassFile.FieldType)).before args0 about1 = true := code_word (m := ⟨1, 2⟩) (meth := k1m2) (c := k1c2) (by decide +kernel) rfl rfl rfl (by decide +kernel)
set_option maxRecDepth 65536 in
theorem w_c2 : (Jvm.Cond.code ({ cls := "com/example/poste_restante/posterestante/BlockBytesPinLaw", name := "sym", desc := "(I)C" } : Jvm.MethodName) method_2_code (1 : Nat) (Option.some Jvm.ClassFile.FieldType.char)).before args0 about1 = true := code_word (m := ⟨1, 1⟩) (meth := k1m1) (c := k1c1) (by decide +kernel) rfl rfl rfl (by decide +kernel)
set_option maxRecDepth 65536 in
theorem w_c3 : (Jvm.Cond.code ({ cls := "java/lang/String", name := "<init>", desc := "([C)V" } : Jvm.MethodName) jdk_42_method_3_code (2 : Nat) (Option.none : Option Jvm.ClassFile.FieldType)).before args0 about1 = true := code_word (m := ⟨7, 1⟩) (meth := k7m1) (c := k7c1) (by decide +kernel) rfl rfl rfl (by decide +kernel)
set_option maxRecDepth 65536 in
theorem w_c4 : (Jvm.Cond.code ({ cls := "java/lang/String", name := "<init>", desc := "([CIILjava/lang/Void;)V" } : Jvm.MethodName) jdk_42_method_149_code (6 : Nat) (Option.none : Option Jvm.ClassFile.FieldType)).before args0 about1 = true := code_word (m := ⟨7, 6⟩) (meth := k7m6) (c := k7c6) (by decide +kernel) rfl rfl rfl (by decide +kernel)
set_option maxRecDepth 65536 in
theorem w_c5 : (Jvm.Cond.code ({ cls := "java/lang/Object", name := "<init>", desc := "()V" } : Jvm.MethodName) object_method_1_code (1 : Nat) (Option.none : Option Jvm.ClassFile.FieldType)).before args0 about1 = true := code_word (m := ⟨0, 0⟩) (meth := k0m0) (c := k0c0) (by decide +kernel) rfl rfl rfl (by decide +kernel)
set_option maxRecDepth 65536 in
theorem w_c6 : (Jvm.Cond.code ({ cls := "java/lang/StringUTF16", name := "compress", desc := "([CII)[B" } : Jvm.MethodName) jdk_52_method_16_code (6 : Nat) (Option.some (Jvm.ClassFile.FieldType.array Jvm.ClassFile.FieldType.byte))).before args0 about1 = true := code_word (m := ⟨8, 2⟩) (meth := k8m2) (c := k8c2) (by decide +kernel) rfl rfl rfl (by decide +kernel)
set_option maxRecDepth 65536 in
theorem w_c7 : (Jvm.Cond.code ({ cls := "java/lang/StringUTF16", name := "compress", desc := "([CI[BII)I" } : Jvm.MethodName) jdk_52_method_21_code (7 : Nat) (Option.some Jvm.ClassFile.FieldType.int)).before args0 about1 = true := code_word (m := ⟨8, 3⟩) (meth := k8m3) (c := k8c3) (by decide +kernel) rfl rfl rfl (by decide +kernel)
set_option maxRecDepth 65536 in
theorem w_c8 : (Jvm.Cond.code ({ cls := "java/lang/StringUTF16", name := "coderFromArrayLen", desc := "([BI)B" } : Jvm.MethodName) jdk_52_method_15_code (2 : Nat) (Option.some Jvm.ClassFile.FieldType.byte)).before args0 about1 = true := code_word (m := ⟨8, 1⟩) (meth := k8m1) (c := k8c1) (by decide +kernel) rfl rfl rfl (by decide +kernel)
set_option maxRecDepth 65536 in
theorem w_c9 : (Jvm.Cond.code ({ cls := "com/example/poste_restante/posterestante/Pem$Block", name := "<init>", desc := "(Ljava/lang/String;Ljava/lang/String;)V" } : Jvm.MethodName) prog_13_method_1_code (3 : Nat) (Option.none : Option Jvm.ClassFile.FieldType)).before args0 about1 = true := code_word (m := ⟨10, 0⟩) (meth := k10m0) (c := k10c0) (by decide +kernel) rfl rfl rfl (by decide +kernel)
set_option maxRecDepth 65536 in
theorem w_c10 : (Jvm.Cond.code ({ cls := "java/lang/Record", name := "<init>", desc := "()V" } : Jvm.MethodName) jdk_30_method_1_code (1 : Nat) (Option.none : Option Jvm.ClassFile.FieldType)).before args0 about1 = true := code_word (m := ⟨9, 0⟩) (meth := k9m0) (c := k9c0) (by decide +kernel) rfl rfl rfl (by decide +kernel)
set_option maxRecDepth 65536 in
theorem w_c11 : (Jvm.Cond.code ({ cls := "java/util/Base64", name := "getDecoder", desc := "()Ljava/util/Base64$Decoder;" } : Jvm.MethodName) jdk_2448_method_6_code (0 : Nat) (Option.some (Jvm.ClassFile.FieldType.object "java/util/Base64$Decoder"))).before args0 about1 = true := code_word (m := ⟨11, 1⟩) (meth := k11m1) (c := k11c1) (by decide +kernel) rfl rfl rfl (by decide +kernel)
set_option maxRecDepth 65536 in
theorem w_c12 : (Jvm.Cond.code ({ cls := "java/util/Base64$Decoder", name := "decode", desc := "(Ljava/lang/String;)[B" } : Jvm.MethodName) jdk_2450_method_3_code (2 : Nat) (Option.some (Jvm.ClassFile.FieldType.array Jvm.ClassFile.FieldType.byte))).before args0 about1 = true := code_word (m := ⟨12, 1⟩) (meth := k12m1) (c := k12c1) (by decide +kernel) rfl rfl rfl (by decide +kernel)
set_option maxRecDepth 65536 in
theorem w_c13 : (Jvm.Cond.code ({ cls := "java/lang/String", name := "getBytes", desc := "(Ljava/nio/charset/Charset;)[B" } : Jvm.MethodName) jdk_42_method_64_code (2 : Nat) (Option.some (Jvm.ClassFile.FieldType.array Jvm.ClassFile.FieldType.byte))).before args0 about1 = true := code_word (m := ⟨7, 5⟩) (meth := k7m5) (c := k7c5) (by decide +kernel) rfl rfl rfl (by decide +kernel)
set_option maxRecDepth 65536 in
theorem w_c14 : (Jvm.Cond.code ({ cls := "java/lang/String", name := "coder", desc := "()B" } : Jvm.MethodName) jdk_42_method_152_code (1 : Nat) (Option.some Jvm.ClassFile.FieldType.byte)).before args0 about1 = true := code_word (m := ⟨7, 7⟩) (meth := k7m7) (c := k7c7) (by decide +kernel) rfl rfl rfl (by decide +kernel)
set_option maxRecDepth 65536 in
theorem w_c15 : (Jvm.Cond.code ({ cls := "java/lang/String", name := "encode", desc := "(Ljava/nio/charset/Charset;B[B)[B" } : Jvm.MethodName) jdk_42_method_18_code (3 : Nat) (Option.some (Jvm.ClassFile.FieldType.array Jvm.ClassFile.FieldType.byte))).before args0 about1 = true := code_word (m := ⟨7, 2⟩) (meth := k7m2) (c := k7c2) (by decide +kernel) rfl rfl rfl (by decide +kernel)
set_option maxRecDepth 65536 in
theorem w_c16 : (Jvm.Cond.code ({ cls := "java/lang/String", name := "encode8859_1", desc := "(B[B)[B" } : Jvm.MethodName) jdk_42_method_26_code (2 : Nat) (Option.some (Jvm.ClassFile.FieldType.array Jvm.ClassFile.FieldType.byte))).before args0 about1 = true := code_word (m := ⟨7, 3⟩) (meth := k7m3) (c := k7c3) (by decide +kernel) rfl rfl rfl (by decide +kernel)
set_option maxRecDepth 65536 in
theorem w_c17 : (Jvm.Cond.code ({ cls := "java/lang/String", name := "encode8859_1", desc := "(B[BZ)[B" } : Jvm.MethodName) jdk_42_method_27_code (10 : Nat) (Option.some (Jvm.ClassFile.FieldType.array Jvm.ClassFile.FieldType.byte))).before args0 about1 = true := code_word (m := ⟨7, 4⟩) (meth := k7m4) (c := k7c4) (by decide +kernel) rfl rfl rfl (by decide +kernel)
set_option maxRecDepth 65536 in
theorem w_c18 : (Jvm.Cond.code ({ cls := "java/util/Base64$Decoder", name := "decode", desc := "([B)[B" } : Jvm.MethodName) jdk_2450_method_2_code (4 : Nat) (Option.some (Jvm.ClassFile.FieldType.array Jvm.ClassFile.FieldType.byte))).before args0 about1 = true := code_word (m := ⟨12, 0⟩) (meth := k12m0) (c := k12c0) (by decide +kernel) rfl rfl rfl (by decide +kernel)
set_option maxRecDepth 65536 in
theorem w_c19 : (Jvm.Cond.code ({ cls := "java/util/Base64$Decoder", name := "decodedOutLength", desc := "([BII)I" } : Jvm.MethodName) jdk_2450_method_7_code (9 : Nat) (Option.some Jvm.ClassFile.FieldType.int)).before args0 about1 = true := code_word (m := ⟨12, 2⟩) (meth := k12m2) (c := k12c2) (by decide +kernel) rfl rfl rfl (by decide +kernel)
set_option maxRecDepth 65536 in
theorem w_c20 : (Jvm.Cond.code ({ cls := "java/util/Base64$Decoder", name := "decode0", desc := "([BII[B)I" } : Jvm.MethodName) jdk_2450_method_9_code (11 : Nat) (Option.some Jvm.ClassFile.FieldType.int)).before args0 about1 = true := code_word (m := ⟨12, 4⟩) (meth := k12m4) (c := k12c4) (by decide +kernel) rfl rfl rfl (by decide +kernel)
set_option maxRecDepth 65536 in
theorem w_c21 : (Jvm.Cond.code ({ cls := "com/example/poste_restante/posterestante/BlockBytesPinLaw", name := "at", desc := "([B[III)Z" } : Jvm.MethodName) method_4_code (4 : Nat) (Option.some Jvm.ClassFile.FieldType.boolean)).before args0 about1 = true := code_word (m := ⟨1, 3⟩) (meth := k1m3) (c := k1c3) (by decide +kernel) rfl rfl rfl (by decide +kernel)
set_option maxRecDepth 65536 in
theorem w_c22 : (Jvm.Cond.code ({ cls := "java/util/Base64$Decoder", name := "decodeBlock", desc := "([BII[BIZZ)I" } : Jvm.MethodName) jdk_2450_method_8_code (16 : Nat) (Option.some Jvm.ClassFile.FieldType.int)).before args0 about1 = true := code_word (m := ⟨12, 3⟩) (meth := k12m3) (c := k12c3) (by decide +kernel) rfl rfl rfl (by decide +kernel)
def codes1 : List Jvm.Cond := [Jvm.Cond.code x code maxLocals ret, Jvm.Cond.code ({ cls := "com/example/poste_restante/posterestante/BlockBytesPinLaw", name := "group", desc := "([CIIIII)V" } : Jvm.MethodName) method_3_code (7 : Nat) (Option.none : Option Jvm.ClassFile.FieldType), Jvm.Cond.code ({ cls := "com/example/poste_restante/posterestante/BlockBytesPinLaw", name := "sym", desc := "(I)C" } : Jvm.MethodName) method_2_code (1 : Nat) (Option.some Jvm.ClassFile.FieldType.char), Jvm.Cond.code ({ cls := "java/lang/String", name := "<init>", desc := "([C)V" } : Jvm.MethodName) jdk_42_method_3_code (2 : Nat) (Option.none : Option Jvm.ClassFile.FieldType), Jvm.Cond.code ({ cls := "java/lang/String", name := "<init>", desc := "([CIILjava/lang/Void;)V" } : Jvm.MethodName) jdk_42_method_149_code (6 : Nat) (Option.none : Option Jvm.ClassFile.FieldType), Jvm.Cond.code ({ cls := "java/lang/Object", name := "<init>", desc := "()V" } : Jvm.MethodName) object_method_1_code (1 : Nat) (Option.none : Option Jvm.ClassFile.FieldType), Jvm.Cond.code ({ cls := "java/lang/StringUTF16", name := "compress", desc := "([CII)[B" } : Jvm.MethodName) jdk_52_method_16_code (6 : Nat) (Option.some (Jvm.ClassFile.FieldType.array Jvm.ClassFile.FieldType.byte)), Jvm.Cond.code ({ cls := "java/lang/StringUTF16", name := "compress", desc := "([CI[BII)I" } : Jvm.MethodName) jdk_52_method_21_code (7 : Nat) (Option.some Jvm.ClassFile.FieldType.int), Jvm.Cond.code ({ cls := "java/lang/StringUTF16", name := "coderFromArrayLen", desc := "([BI)B" } : Jvm.MethodName) jdk_52_method_15_code (2 : Nat) (Option.some Jvm.ClassFile.FieldType.byte), Jvm.Cond.code ({ cls := "com/example/poste_restante/posterestante/Pem$Block", name := "<init>", desc := "(Ljava/lang/String;Ljava/lang/String;)V" } : Jvm.MethodName) prog_13_method_1_code (3 : Nat) (Option.none : Option Jvm.ClassFile.FieldType), Jvm.Cond.code ({ cls := "java/lang/Record", name := "<init>", desc := "()V" } : Jvm.MethodName) jdk_30_method_1_code (1 : Nat) (Option.none : Option Jvm.ClassFile.FieldType), Jvm.Cond.code ({ cls := "java/util/Base64", name := "getDecoder", desc := "()Ljava/util/Base64$Decoder;" } : Jvm.MethodName) jdk_2448_method_6_code (0 : Nat) (Option.some (Jvm.ClassFile.FieldType.object "java/util/Base64$Decoder")), Jvm.Cond.code ({ cls := "java/util/Base64$Decoder", name := "decode", desc := "(Ljava/lang/String;)[B" } : Jvm.MethodName) jdk_2450_method_3_code (2 : Nat) (Option.some (Jvm.ClassFile.FieldType.array Jvm.ClassFile.FieldType.byte)), Jvm.Cond.code ({ cls := "java/lang/String", name := "getBytes", desc := "(Ljava/nio/charset/Charset;)[B" } : Jvm.MethodName) jdk_42_method_64_code (2 : Nat) (Option.some (Jvm.ClassFile.FieldType.array Jvm.ClassFile.FieldType.byte)), Jvm.Cond.code ({ cls := "java/lang/String", name := "coder", desc := "()B" } : Jvm.MethodName) jdk_42_method_152_code (1 : Nat) (Option.some Jvm.ClassFile.FieldType.byte), Jvm.Cond.code ({ cls := "java/lang/String", name := "encode", desc := "(Ljava/nio/charset/Charset;B[B)[B" } : Jvm.MethodName) jdk_42_method_18_code (3 : Nat) (Option.some (Jvm.ClassFile.FieldType.array Jvm.ClassFile.FieldType.byte)), Jvm.Cond.code ({ cls := "java/lang/String", name := "encode8859_1", desc := "(B[B)[B" } : Jvm.MethodName) jdk_42_method_26_code (2 : Nat) (Option.some (Jvm.ClassFile.FieldType.array Jvm.ClassFile.FieldType.byte)), Jvm.Cond.code ({ cls := "java/lang/String", name := "encode8859_1", desc := "(B[BZ)[B" } : Jvm.MethodName) jdk_42_method_27_code (10 : Nat) (Option.some (Jvm.ClassFile.FieldType.array Jvm.ClassFile.FieldType.byte)), Jvm.Cond.code ({ cls := "java/util/Base64$Decoder", name := "decode", desc := "([B)[B" } : Jvm.MethodName) jdk_2450_method_2_code (4 : Nat) (Option.some (Jvm.ClassFile.FieldType.array Jvm.ClassFile.FieldType.byte)), Jvm.Cond.code ({ cls := "java/util/Base64$Decoder", name := "decodedOutLength", desc := "([BII)I" } : Jvm.MethodName) jdk_2450_method_7_code (9 : Nat) (Option.some Jvm.ClassFile.FieldType.int), Jvm.Cond.code ({ cls := "java/util/Base64$Decoder", name := "decode0", desc := "([BII[B)I" } : Jvm.MethodName) jdk_2450_method_9_code (11 : Nat) (Option.some Jvm.ClassFile.FieldType.int), Jvm.Cond.code ({ cls := "com/example/poste_restante/posterestante/BlockBytesPinLaw", name := "at", desc := "([B[III)Z" } : Jvm.MethodName) method_4_code (4 : Nat) (Option.some Jvm.ClassFile.FieldType.boolean), Jvm.Cond.code ({ cls := "java/util/Base64$Decoder", name := "decodeBlock", desc := "([BII[BIZZ)I" } : Jvm.MethodName) jdk_2450_method_8_code (16 : Nat) (Option.some Jvm.ClassFile.FieldType.int)]
set_option maxRecDepth 65536 in
theorem codes_eq : words1.filter isCode = codes1 := rfl
theorem w_codes : ∀ c ∈ words1.filter isCode, c.before args0 about1 = true := by
  rw [codes_eq]
  intro c hc
  simp only [codes1, List.mem_cons, List.not_mem_nil, or_false] at hc
  rcases hc with rfl | rfl | rfl | rfl | rfl | rfl | rfl | rfl | rfl | rfl | rfl | rfl | rfl | rfl | rfl | rfl | rfl | rfl | rfl | rfl | rfl | rfl | rfl
  · exact w_c0
  · exact w_c1
  · exact w_c2
  · exact w_c3
  · exact w_c4
  · exact w_c5
  · exact w_c6
  · exact w_c7
  · exact w_c8
  · exact w_c9
  · exact w_c10
  · exact w_c11
  · exact w_c12
  · exact w_c13
  · exact w_c14
  · exact w_c15
  · exact w_c16
  · exact w_c17
  · exact w_c18
  · exact w_c19
  · exact w_c20
  · exact w_c21
  · exact w_c22
set_option maxRecDepth 65536 in
theorem w_t1 : (words1.take 24).all (fun c => isCode c || c.before args0 about1) = true := by decide +kernel
set_option maxRecDepth 65536 in
theorem w_t2 : ((words1.drop 24).take 24).all (fun c => isCode c || c.before args0 about1) = true := by decide +kernel
set_option maxRecDepth 65536 in
theorem w_t3 : (((words1.drop 24).drop 24).take 24).all (fun c => isCode c || c.before args0 about1) = true := by decide +kernel
set_option maxRecDepth 65536 in
theorem w_t4 : ((((words1.drop 24).drop 24).drop 24).take 24).all (fun c => isCode c || c.before args0 about1) = true := by decide +kernel
set_option maxRecDepth 65536 in
theorem w_t5 : (((((words1.drop 24).drop 24).drop 24).drop 24).take 24).all (fun c => isCode c || c.before args0 about1) = true := by decide +kernel
set_option maxRecDepth 65536 in
theorem w_t6 : (((((words1.drop 24).drop 24).drop 24).drop 24).drop 24).all (fun c => isCode c || c.before args0 about1) = true := by decide +kernel
theorem w_tables : (allAtoms (Jvm.Cond.code x code maxLocals ret :: tables_1)).before args0 about1 = true := by
  rw [allAtoms_all]
  show words1.all (fun c => c.before args0 about1) = true
  refine all_split ?_ w_codes
  rw [← List.take_append_drop 24 words1, List.all_append, w_t1, ← List.take_append_drop 24 (words1.drop 24), List.all_append, w_t2, ← List.take_append_drop 24 ((words1.drop 24).drop 24), List.all_append, w_t3, ← List.take_append_drop 24 (((words1.drop 24).drop 24).drop 24), List.all_append, w_t4, ← List.take_append_drop 24 ((((words1.drop 24).drop 24).drop 24).drop 24), List.all_append, w_t5, w_t6]
  rfl
set_option maxRecDepth 65536 in
theorem w_rest : rest_1_c.before args0 about1 = true := by decide +kernel
set_option maxRecDepth 65536 in
theorem w_case : (Jvm.Cond.and given_1 narrow_1).before args0 about1 = true := by decide +kernel
set_option maxRecDepth 65536 in
theorem w_consts : constsHeld consts_1 about1 := Jvm.Lit.constsHeldB_iff.mp (by decide +kernel)
theorem w_applies : (headSpec (Jvm.Cond.code x code maxLocals ret :: tables_1) room_1).applies x e0.platform about1 = true :=
  (Spec.applies_iff w_frames).mpr ⟨w_running, w_runnable, w_alone, w_named, w_hears, w_ripe, w_room, w_tables⟩
theorem atStart : AtStart classFile x code maxLocals ret World_1 tables_1 room_1 Calls_1 rest_1 Pre_1 launch0 p0 e0 about1 theMethod args0 below0 :=
  ⟨lists_1, trivial, launch0.admits_env _ _ _, launch0.least_env, fairChoices_fair.cas, fairChoices_fair.clock, w_frames, w_args, w_heap, w_applies, ⟨w_consts, trivial⟩, w_rest, w_case⟩
end start1
theorem witness_1 : WitnessClaimed_1 := ⟨start1.p0, start1.e0, start1.about1, start1.theMethod, start1.args0, start1.below0, start1.atStart⟩
end Jvm.Pilot.@@N@@
